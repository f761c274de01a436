import PyProof.Rows.All
import Wide.All
import OpenK.AllK
import Wide.FinOn
import PySem.Challenge.RW_md0019_04
open PySem PySem.W PyProof.Rows PySem.Calls
set_option Elab.async false
set_option maxRecDepth 100000
set_option linter.unusedVariables false
namespace Mine
/-- everything of the one heap stands in the other -/
abbrev Ext (h h' : Heap) : Prop := ∀ b o, h.get? b = some o → h'.get? b = some o
theorem Ext.rfl' {h : Heap} : Ext h h := fun _ _ e => e
theorem Ext.trans {h₁ h₂ h₃ : Heap} (x : Ext h₁ h₂) (y : Ext h₂ h₃) : Ext h₁ h₃ := fun b o e => y b o (x b o e)
theorem Ext.none {h h' : Heap} {a : Addr} (x : Ext h h') (e : h'.get? a = .none) : h.get? a = .none := by
  cases q : h.get? a with
  | none => rfl
  | some o => rw [x _ _ q] at e; cases e
theorem Ext.push {h h' : Heap} (x : Ext h h') (o : Obj) : Ext h (h'.push o) := fun b o' e => Heap.get?_push_of_some o (x b o' e)
theorem Ext.of_push {h : Heap} (o : Obj) : Ext h (h.push o) := fun _ _ e => Heap.get?_push_of_some o e

/-- the frame at L: its names m, all of b as it was, and the call's own objects -/
structure Fx (b : Heap) (L : Addr) (h : Heap) (m : Str → Option Value) (own : List (Addr × Obj)) : Prop where
  ns : h.Ns L m
  keep : Ext b h
  lout : b.get? L = none
  has : ∀ p ∈ own, h.get? p.1 = some p.2
  out : ∀ p ∈ own, b.get? p.1 = none
  nodup : (L :: own.map (·.1)).Nodup

section
variable {b h h' : Heap} {L a : Addr} {m m' : Str → Option Value} {own own' : List (Addr × Obj)} {o o' : Obj}
theorem Fx.notL (F : Fx b L h m own) {p : Addr × Obj} (hp : p ∈ own) : p.1 ≠ L := fun e =>
  (List.nodup_cons.mp F.nodup).1 (List.mem_map.mpr ⟨p, hp, e⟩)
theorem Fx.store (F : Fx b L h m own) (hn : h'.Ns L m') (hs : Heap.SameBut L h h') : Fx b L h' m' own :=
  ⟨hn, fun c oc e => (hs.2 c (fun q => by rw [q, F.lout] at e; cases e)).trans (F.keep c oc e), F.lout, fun p hp => (hs.2 p.1 (F.notL hp)).trans (F.has p hp), F.out, F.nodup⟩
theorem Fx.ext (F : Fx b L h m own) (e : Ext h h') : Fx b L h' m own :=
  ⟨F.ns.keeps e, F.keep.trans e, F.lout, fun p hp => e _ _ (F.has p hp), F.out, F.nodup⟩
theorem Fx.head (F : Fx b L h m ((a, o) :: own)) : h.get? a = some o := F.has _ (.head _)
theorem Fx.head2 {a₂ : Addr} {o₂ : Obj} (F : Fx b L h m ((a, o) :: (a₂, o₂) :: own)) : h.get? a₂ = some o₂ := F.has _ (.tail _ (.head _))
theorem Fx.head3 {a₂ a₃ : Addr} {o₂ o₃ : Obj} (F : Fx b L h m ((a, o) :: (a₂, o₂) :: (a₃, o₃) :: own)) : h.get? a₃ = some o₃ := F.has _ (.tail _ (.tail _ (.head _)))
theorem Fx.drop (F : Fx b L h m ((a, o) :: own)) : Fx b L h m own :=
  ⟨F.ns, F.keep, F.lout, fun p hp => F.has p (.tail _ hp), fun p hp => F.out p (.tail _ hp), by
    have := F.nodup; simp only [List.map_cons, List.nodup_cons, List.mem_cons, not_or] at this ⊢; exact ⟨this.1.2, this.2.2⟩⟩
theorem Fx.perm (F : Fx b L h m own) (hp : own.Perm own') : Fx b L h m own' :=
  ⟨F.ns, F.keep, F.lout, fun p q => F.has p (hp.mem_iff.mpr q), fun p q => F.out p (hp.mem_iff.mpr q), ((hp.map _).cons L).nodup_iff.mp F.nodup⟩
theorem Fx.swap {p q : Addr × Obj} (F : Fx b L h m (p :: q :: own)) : Fx b L h m (q :: p :: own) := F.perm (.swap _ _ _)
theorem Fx.fresh (F : Fx b L h m own) : b.get? h.objs.size = none ∧ L ≠ h.objs.size ∧ ∀ p ∈ own, p.1 ≠ h.objs.size := by
  refine ⟨?_, Nat.ne_of_lt F.ns.lt, fun p hp => Nat.ne_of_lt (Heap.lt_size (F.has p hp))⟩
  cases q : b.get? h.objs.size with
  | none => rfl
  | some o => exact absurd (Heap.lt_size (F.keep _ _ q)) (Nat.lt_irrefl _)
theorem Fx.gain (F : Fx b L h m own) (e : Ext h h') (ha : h.get? a = none) (hal : h'.get? a = some o) : Fx b L h' m ((a, o) :: own) := by
  have F' := F.ext e
  refine ⟨F'.ns, F'.keep, F.lout, fun p hp => ?_, fun p hp => ?_, ?_⟩
  · rcases List.mem_cons.mp hp with rfl | hp
    · exact hal
    · exact F'.has p hp
  · rcases List.mem_cons.mp hp with rfl | hp
    · cases q : b.get? a with
      | none => rfl
      | some o => rw [F.keep _ _ q] at ha; cases ha
    · exact F.out p hp
  · have nd := F.nodup
    have hl : L ≠ a := fun q => by obtain ⟨oL, _, _, hL, _⟩ := F.ns; rw [q, ha] at hL; cases hL
    have ho : a ∉ own.map (·.1) := fun q => by
      obtain ⟨p, hp, e⟩ := List.mem_map.mp q
      have := F.has p hp
      rw [e, ha] at this; cases this
    simp only [List.map_cons, List.nodup_cons, List.mem_cons, not_or] at nd ⊢
    exact ⟨⟨hl, nd.1⟩, ho, nd.2⟩
theorem none_at_size (h : Heap) : h.get? h.objs.size = none := by
  cases q : h.get? h.objs.size with
  | none => rfl
  | some o => exact absurd (Heap.lt_size q) (Nat.lt_irrefl _)
theorem Fx.push (F : Fx b L h m own) (o : Obj) (ho : o.isFreed = false := by with_unfolding_all rfl) : Fx b L (h.push o) m ((h.objs.size, o) :: own) :=
  F.gain (.of_push o) (none_at_size h) (Heap.get?_push_size _ ho)
/-- one own object turned, all else kept -/
theorem Fx.turn (F : Fx b L h m ((a, o) :: own)) (e : ∀ c oc, c ≠ a → h.get? c = some oc → h'.get? c = some oc) (ha : h'.get? a = some o') : Fx b L h' m ((a, o') :: own) := by
  have hL : L ≠ a := fun q => F.notL (p := (a, o)) (.head _) q.symm
  obtain ⟨oL, es, ep, gL, r⟩ := F.ns
  refine ⟨⟨oL, es, ep, e _ _ hL gL, r⟩, fun c oc q => e c oc (fun z => ?_) (F.keep c oc q), F.lout, fun p hp => ?_, fun p hp => ?_, F.nodup⟩
  · have := F.out (a, o) (.head _); rw [z] at q; rw [q] at this; cases this
  · rcases List.mem_cons.mp hp with rfl | hp
    · exact ha
    · refine e _ _ (fun z => ?_) (F.has p (.tail _ hp))
      have nd := F.nodup
      simp only [List.map_cons, List.nodup_cons] at nd
      exact nd.2.1 (List.mem_map.mpr ⟨p, hp, z⟩)
  · rcases List.mem_cons.mp hp with rfl | hp
    · exact F.out (a, o) (.head _)
    · exact F.out p (.tail _ hp)
theorem Fx.turnS (F : Fx b L h m ((a, o) :: own)) (e : Heap.SameBut a h h') (ha : h'.get? a = some o') : Fx b L h' m ((a, o') :: own) :=
  F.turn (fun c oc n q => (e.2 c n).trans q) ha
theorem Fx.upd (F : Fx b L h m ((a, o) :: own)) (f : Obj → Obj) (hf : (f o).isFreed = false := by with_unfolding_all rfl) : Fx b L (h.update a f) m ((a, f o) :: own) :=
  F.turnS (.update ..) (Heap.get?_update_self _ F.head hf)
/-- a new base: all that stands but the frame's names and what is still the call's own -/
theorem Fx.freeze (F : Fx b L h m own) (own' : List (Addr × Obj)) (sub : own'.Sublist own) :
    ∃ b', Ext b b' ∧ Fx b' L h m own' ∧ (∀ c oc, c ≠ L → c ∉ own'.map (·.1) → h.get? c = some oc → b'.get? c = some oc) ∧ (∀ c oc, b'.get? c = some oc → h.get? c = some oc) := by
  refine ⟨hideAll h (L :: own'.map (·.1)), fun c oc e => hideAll_get _ (F.keep c oc e) ?_, ⟨F.ns, fun c oc e => of_hideAll _ e, hideAll_none _ (.head _), fun p hp => F.has p (sub.subset hp), fun p hp => hideAll_none _ (.tail _ (List.mem_map_of_mem hp)), ?_⟩, fun c oc n1 n2 e => hideAll_get _ e ?_, fun c oc e => of_hideAll _ e⟩
  · intro q
    rcases List.mem_cons.mp q with rfl | q
    · rw [F.lout] at e; cases e
    · obtain ⟨p, hp, rfl⟩ := List.mem_map.mp q
      rw [F.out p (sub.subset hp)] at e; cases e
  · exact F.nodup.sublist ((sub.map _).cons_cons L)
  · intro q
    rcases List.mem_cons.mp q with rfl | q
    · exact n1 rfl
    · exact n2 q
theorem Fx.freeze0 (F : Fx b L h m own) :
    ∃ b', Ext b b' ∧ Fx b' L h m [] ∧ (∀ c oc, c ≠ L → h.get? c = some oc → b'.get? c = some oc) ∧ (∀ c oc, b'.get? c = some oc → h.get? c = some oc) := by
  obtain ⟨b', e, F', k, k2⟩ := F.freeze [] (List.nil_sublist _)
  exact ⟨b', e, F', fun c oc n q => k c oc n (by simp) q, k2⟩
/-- behind a call that turned its head -/
theorem Fx.back1 (F : Fx b L h m ((a, o) :: own)) (e : Ext (h.hide a) h') (ha : h'.get? a = some o') : Fx b L h' m ((a, o') :: own) :=
  F.turn (fun c oc n q => e c oc ((Heap.hide_ne h n).trans q)) ha
end

/-- a list's object -/
abbrev LO (items : List Value) (n : Nat) : Obj := { cls := .type "list", data := .seq items.toArray n }
abbrev TO (items : List Value) (n : Nat) : Obj := { cls := .type "tuple", data := .seq items.toArray n }
theorem isList_of {h : Heap} {a : Addr} {items : List Value} {n : Nat} (e : h.get? a = some (LO items n)) : h.IsList a items.toArray := ⟨_, e, rfl, n, rfl⟩

/-- what the top left: the written part, the two namespaces -/
structure Tp (K : Frag) (mg mb : Str → Option Value) (h : Heap) : Prop where
  X : K.In h
  g : h.Ns mainGlobals mg
  b : h.Ns builtinsNs mb
  nolimit : h.NoLimit
  builtins : ∀ x : Str, x ≠ "__name__" → mb x = bootBuiltins x
theorem Tp.up {K : Frag} {mg mb : Str → Option Value} {h h' : Heap} (T : Tp K mg mb h) (e : Ext h h') : Tp K mg mb h' :=
  ⟨T.X.keeps e, T.g.keeps e, T.b.keeps e, T.nolimit.keeps e, T.builtins⟩

/-- behind a statement: on to the next, or out -/
def Nx (Q : Flow → Shared → Prop) (k : Shared → Prop) : Flow → Shared → Prop
  | .next, s => k s
  | f, s => Q f s
section
variable {M : Model} {A : Around} {E : Value → Shared → Prop} {s : Shared} {env : Env} {Q : Flow → Shared → Prop} {k : Shared → Prop}
theorem nx_next (h : k s) : Nx Q k .next s := h
theorem nx_ret {v : Value} (h : Q (.ret v) s) : Nx Q k (.ret v) s := h
theorem nx_cont (h : Q .cont s) : Nx Q k .cont s := h
theorem s_cons {st : Stmt} {rest : List Stmt} (h : wpAny M A (exec st env) (Nx Q fun s' => wpAny M A (execs rest env) Q E s') E s) : wpAny M A (execs (st :: rest) env) Q E s :=
  wpAny_execs_cons (wpAny_mono h (fun f s' z => by cases f <;> exact z) fun _ _ z => z)
end

section
variable {M : Model} {A : Around} {E : Value → Shared → Prop} {hp : Heap} {gs : Array GenState} {dr : Drawn} {tk : Nat} {os : OsState} {K : Frag} {b : Heap} {L a : Addr} {m mg mb : Str → Option Value} {own : List (Addr × Obj)} {cn : Str} {cs : Scope} {ccd : Value} {cl : List (Str × Addr)}
  {x : Str} {pos : Pos} {v : Value} {Q : Value → Shared → Prop} {c : Addr} {o : Obj}
theorem n_loc (F : Fx b L hp m own) (hv : m x = some v) (h : Q v ⟨hp, gs, dr, tk, os⟩)
    (hk : cs.kind = .function := by with_unfolding_all rfl) (hx : (envX cn cs L a ccd cl).kindOf x = some .local := by with_unfolding_all rfl) (hd : (x == ("__debug__" : Str)) = false := by decide) :
    wpAny M A (eval (.Name x pos) (envX cn cs L a ccd cl)) Q E ⟨hp, gs, dr, tk, os⟩ := wpAny_Name (wpAny_loadName_local hk hx F.ns hv h) hd
theorem l_loc (F : Fx b L hp m own) (hv : m x = some v) (h : Q v ⟨hp, gs, dr, tk, os⟩)
    (hk : cs.kind = .function := by with_unfolding_all rfl) (hx : (envX cn cs L a ccd cl).kindOf x = some .local := by with_unfolding_all rfl) :
    wpAny M A (loadName (envX cn cs L a ccd cl) x) Q E ⟨hp, gs, dr, tk, os⟩ := wpAny_loadName_local hk hx F.ns hv h
theorem n_glob (F : Fx b L hp m own) (T : Tp K mg mb b) (e : nsIn K mainGlobals x = some (some v)) (h : Q v ⟨hp, gs, dr, tk, os⟩)
    (hk : cs.kind = .function := by with_unfolding_all rfl) (hx : (envX cn cs L a ccd cl).kindOf x = some .globalImplicit := by with_unfolding_all rfl) (hd : (x == ("__debug__" : Str)) = false := by decide) :
    wpAny M A (eval (.Name x pos) (envX cn cs L a ccd cl)) Q E ⟨hp, gs, dr, tk, os⟩ := Name_function_global hk hx (loadGlobal_global (env := envX cn cs L a ccd cl) (T.g.keeps F.keep) (mg_of T.X T.g e) h) hd
theorem n_blt (F : Fx b L hp m own) (T : Tp K mg mb b) (e : nsIn K mainGlobals x = some none) (hv : bootBuiltins x = some v) (h : Q v ⟨hp, gs, dr, tk, os⟩) (hn : x ≠ "__name__" := by decide)
    (hk : cs.kind = .function := by with_unfolding_all rfl) (hx : (envX cn cs L a ccd cl).kindOf x = some .globalImplicit := by with_unfolding_all rfl) (hd : (x == ("__debug__" : Str)) = false := by decide) :
    wpAny M A (eval (.Name x pos) (envX cn cs L a ccd cl)) Q E ⟨hp, gs, dr, tk, os⟩ :=
  Name_function_global hk hx (loadGlobal_builtin (env := envX cn cs L a ccd cl) (T.g.keeps F.keep) (mg_none_of T.X T.g e) (T.b.keeps F.keep) ((T.builtins x hn).trans hv) h) hd
theorem n_cell (hc : cl.lookup x = some c) (hm : hp.get? c = some o) (hd : o.data = .cell (some v)) (h : Q v ⟨hp, gs, dr, tk, os⟩)
    (hk : cs.kind = .function := by with_unfolding_all rfl) (hx : (envX cn cs L a ccd cl).kindOf x = some .cell := by with_unfolding_all rfl) (hb : (x == ("__debug__" : Str)) = false := by decide) :
    wpAny M A (eval (.Name x pos) (envX cn cs L a ccd cl)) Q E ⟨hp, gs, dr, tk, os⟩ := wpAny_Name (wpAny_loadName_cell hk hx hc ⟨o, hm, hd⟩ h) hb
theorem st_loc {Q : Unit → Shared → Prop} (F : Fx b L hp m own)
    (h : ∀ h', Fx b L h' (fun y => if y = x then some v else m y) own → Q () ⟨h', gs, dr, tk + 1, os⟩)
    (hk : cs.kind = .function := by with_unfolding_all rfl) (hx : (envX cn cs L a ccd cl).kindOf x = some .local := by with_unfolding_all rfl) : wpAny M A (storeName (envX cn cs L a ccd cl) x v) Q E ⟨hp, gs, dr, tk, os⟩ :=
  wpAny_storeName_local hx F.ns (fun h' hn hs => h h' (F.store hn hs)) (by show (cs.kind == .class || (cs.kind == .module && L != mainGlobals)) = false; rw [hk]; rfl)
abbrev CO (v : Option Value) : Obj := { cls := .type "cell", data := .cell v }
end

/-! the bridge to the library's rules over a ledger -/
def noHeap : Heap := { objs := #[] }
theorem noHeap_get (a : Addr) : noHeap.get? a = none := by simp [noHeap, Heap.get?]
def others (h : Heap) (as : List Addr) : List (Addr × Obj) := (List.range h.objs.size).filterMap fun a => if a ∈ as then none else (h.get? a).map fun o => (a, o)
theorem mem_others {h : Heap} {as : List Addr} {p : Addr × Obj} : p ∈ others h as ↔ p.1 ∉ as ∧ h.get? p.1 = some p.2 := by
  obtain ⟨a, o⟩ := p
  simp only [others, List.mem_filterMap, List.mem_range]
  constructor
  · rintro ⟨c, hc, e⟩
    split at e
    · cases e
    · rename_i n
      obtain ⟨oc, h1, h2⟩ := Option.map_eq_some_iff.mp e
      cases h2
      exact ⟨n, h1⟩
  · rintro ⟨n, e⟩
    exact ⟨a, Heap.lt_size e, by rw [if_neg n, e]; rfl⟩
section
variable {b h h' : Heap} {L a : Addr} {m m' : Str → Option Value} {own own' : List (Addr × Obj)} {o o' : Obj}
theorem Fx.fr (F : Fx b L h m own) : Fr noHeap L h m := ⟨F.ns, (fun c oc e => by rw [noHeap_get] at e; cases e), Nat.zero_le _⟩
theorem Fx.news (F : Fx b L h m own) : News noHeap L h (own ++ others h (L :: own.map (·.1))) := fun p hp => by
  rcases List.mem_append.mp hp with hp | hp
  · exact ⟨F.has p hp, F.notL hp, noHeap_get _⟩
  · obtain ⟨n, e⟩ := mem_others.mp hp
    exact ⟨e, fun q => n (q ▸ .head _), noHeap_get _⟩
/-- a rule has turned the head of the ledger -/
theorem Fx.ofNews (F : Fx b L h m ((a, o) :: own)) (F' : Fr noHeap L h' m') (N' : News noHeap L h' ((a, o') :: (own ++ others h (L :: a :: own.map (·.1))))) : Fx b L h' m' ((a, o') :: own) := by
  have nd := F.nodup
  have all : ∀ p ∈ (a, o') :: own, h'.get? p.1 = some p.2 := fun p hp => by
    rcases List.mem_cons.mp hp with rfl | hp
    · exact (N' _ (.head _)).1
    · exact (N' _ (.tail _ (List.mem_append_left _ hp))).1
  refine ⟨F'.ns, fun c oc e => ?_, F.lout, all, fun p hp => ?_, nd⟩
  · refine (N' (c, oc) (.tail _ (List.mem_append_right _ (mem_others.mpr ⟨fun q => ?_, F.keep c oc e⟩)))).1
    rcases List.mem_cons.mp q with q | q
    · dsimp only at q; rw [q, F.lout] at e; cases e
    · rcases List.mem_cons.mp q with q | q
      · have := F.out (a, o) (.head _); dsimp only at q this; rw [q, this] at e; cases e
      · obtain ⟨p, hp, z⟩ := List.mem_map.mp q
        have := F.out p (.tail _ hp); dsimp only at z; rw [z, e] at this; cases this
  · rcases List.mem_cons.mp hp with rfl | hp
    · exact F.out (a, o) (.head _)
    · exact F.out p (.tail _ hp)
end

section
variable {prog : Program} {w : World} {A : Around} {E : Value → Shared → Prop} {hp : Heap} {gs : Array GenState} {dr : Drawn} {tk : Nat} {os : OsState} {K : Frag} {b : Heap} {x C L p dx : Addr} {m : Str → Option Value} {own : List (Addr × Obj)} {ox ox' od : Obj} {name : Str} {v : Value} {i : Nat}
theorem ga_slot {expr : Bool} {Q : Value → Shared → Prop} (X : K.In hp) (I : InstAt hp x ox C (some od)) (hg : plainGet K C name = true) (hc : isClsIn K C = true)
    (ha : findIn K (.ref C) name = some (some (.ref p))) (hn : specialIn K (.ref p) "__get__" = some (some (.builtin "member_descriptor.__get__"))) (ht : takesIn K (.ref p) = some true) (hps : slotIn K p C = some i)
    (hv : (ox.slots[i]?).join = some v) (hh : handedIn v = true) (h : Q v ⟨hp, gs, dr, tk + 1, os⟩) : wpAny (model prog w) A (getAttr (.ref x) name expr) Q E ⟨hp, gs, dr, tk, os⟩ :=
  get_bind X I (plainGet_of hg).1 (findObj_data hc ha hn ht) (plainGet_of hg).2 (wpAny_call (slot_get (s := ⟨hp, gs, dr, tk + 1, os⟩) X I hps hv (handed_on hh h)))
theorem sa_slot {Q : Unit → Shared → Prop} (F : Fx b L hp m ((x, ox) :: own)) (X : K.In hp) (I : InstAt hp x ox C (some od))
    (hs : findIn K (.ref C) "__setattr__" = some (some (.builtin "object.__setattr__"))) (hpo : plainOver K C = true) (ht : takerIn K C name = some (some (.ref p))) (hT : typeIn K (.ref p) = some (.type "member_descriptor")) (hi : slotIn K p C = some i) (hz : i < 1000)
    (e : { ox with slots := (ox.slots ++ Array.replicate (i + 1 - ox.slots.size) none).setIfInBounds i (some v) } = ox') (hf : ox'.isFreed = false)
    (h : ∀ h', Fx b L h' m ((x, ox') :: own) → Q () ⟨h', gs, dr, tk + 1, os⟩) : wpAny (model prog w) A (setAttr (.ref x) name v) Q E ⟨hp, gs, dr, tk, os⟩ := by
  refine set_plain X I hs (osa_descr (s := ⟨hp, gs, dr, tk + 1, os⟩) KF.slot_mset X I hpo ht hT (slot_set (s := ⟨hp, gs, dr, tk + 1, os⟩) (pre := []) (post := own ++ others hp (L :: x :: own.map (·.1))) F.fr F.news X I hi hz (fun _ q => nomatch q) (fun q hq z => ?_) e hf fun h' F' N' => h h' (F.ofNews F' N')))
  rcases List.mem_append.mp hq with hq | hq
  · have nd := F.nodup
    simp only [List.map_cons, List.nodup_cons] at nd
    exact nd.2.1 (List.mem_map.mpr ⟨q, hq, z⟩)
  · exact (mem_others.mp hq).1 (.tail _ (by rw [z]; exact .head _))
end

section
variable {prog : Program} {w : World} {A : Around} {hp : Heap} {gs : Array GenState} {dr : Drawn} {tk : Nat} {os : OsState} {R : Result → Shared → Prop} {name qual : Str} {params : Arguments} {body : List Stmt} {scope : Scope} {cl : List (Str × Addr)} {dV kV doc pm cdv ct : Value} {an : Option Addr} {fo : Obj} {f : Addr} {args : Args} {binds : List (Str × Value)}
def retOf : Flow → Value
  | .ret v => v
  | _ => .none
/-- a def's call: a new frame over all that stands, but what the call may turn -/
theorem call_fx (own : List (Addr × Obj)) (hroom : A.depth < recursionLimit) (ho : hp.get? f = some fo) (hd : fo.data = .func (fnX name qual params body scope cl dV kV doc pm an cdv ct))
    (hlim : hp.NoLimit) (hcd : hp.CodeRec cdv qual) (hbind : BindsTo ⟨hp, gs, dr, tk, os⟩ (fnX name qual params body scope cl dV kV doc pm an cdv ct) args binds) (hloc : ∀ y ∈ binds, scope.names.lookup y.1 = some .local)
    (hown : ∀ p ∈ own, hp.get? p.1 = some p.2) (hnd : (own.map (·.1)).Nodup)
    (h : ∀ L' h₁ tk', Fx (hideAll hp (own.map (·.1))) L' h₁ (fun y => binds.reverse.lookup y) own →
      wpAny (model prog w) (A.deeper (envX qual scope L' f cdv cl)) (execs body (envX qual scope L' f cdv cl)) (fun fl s' => R (.ok (.ret (retOf fl))) s')
        (fun e s' => wpAny (model prog w) (A.deeper (envX qual scope L' f cdv cl)) (leaving (envX qual scope L' f cdv cl) e) (fun _ s'' => R (.error e) s'') (fun e' s'' => R (.error e') s'') s')
        ⟨h₁, gs, dr, tk', os⟩)
    (hcell : ∀ x ∈ scope.names, x.2 ≠ .cell) (hco : scope.isCoroutine = false := by with_unfolding_all rfl) (hgen : scope.isGenerator = false := by with_unfolding_all rfl) (hk : scope.kind = .function := by with_unfolding_all rfl) : codeAny (model prog w) A (.call (.ref f) args) R ⟨hp, gs, dr, tk, os⟩ := by
  refine codeAny_call_def (fd := fnX name qual params body scope cl dV kV doc pm an cdv ct) (body := body) (binds := binds) hroom ho hd hlim hcd rfl hbind hcell hloc (fun h₁ hns hk₁ => ?_) hco hgen hk
  refine wpAny_mono (h hp.objs.size h₁ (tk + binds.length) ⟨hns, fun c oc e => hk₁ c oc (of_hideAll _ e), ?_, fun p hp => hk₁ _ _ (hown p hp), fun p hp => hideAll_none _ (List.mem_map_of_mem hp), ?_⟩) (fun fl s' z => ?_) fun _ _ y => y
  · cases q : (hideAll hp (own.map (·.1))).get? hp.objs.size with
    | none => rfl
    | some o => have := of_hideAll _ q; rw [none_at_size] at this; cases this
  · refine List.nodup_cons.mpr ⟨fun q => ?_, hnd⟩
    obtain ⟨p, hp, e⟩ := List.mem_map.mp q
    have := hown p hp
    rw [e, none_at_size] at this; cases this
  · cases fl <;> exact z
end

section
variable {M : Model} {A : Around} {E : Value → Shared → Prop} {s : Shared} {K : Frag} {b : Heap} {L : Addr} {m mg mb : Str → Option Value} {env : Env} {pos : Pos} {f : Value} {first : List Value} {Q : Value → Shared → Prop}
/-- a call of a thing of the text -/
theorem cw_fn {e : Expr} {rest : List Expr} (T : Tp K mg mb b) (hk : keepIn K f = true) (h : wpAny M A (spliced (backTo pos (starEach (e :: rest) env))) (fun vs s₁ => Ext b s₁.heap ∧ wpAny M A (call f (first ++ vs)) Q E s₁) E s)
    (he : starEach (e :: rest) env = (false, eval e env) :: starEach rest env := by with_unfolding_all rfl) (hplain : (backTo pos (starEach rest env)).any (·.1) = false := by with_unfolding_all rfl) :
    wpAny M A (callWith pos f first (backTo pos (starEach (e :: rest) env)) []) Q E s :=
  callWith_K T.X hk (wpAny_mono h (fun _ _ z => ⟨T.X.keeps z.1, z.2⟩) fun _ _ z => z) he hplain
theorem cw_fn0 (T : Tp K mg mb b) (e : Ext b s.heap) (hk : keepIn K f = true) (h : wpAny M A (call f (first ++ [])) Q E s) : wpAny M A (callWith pos f first (backTo pos (starEach [] env)) []) Q E s :=
  callWith_K0 (T.X.keeps e) hk h
end

section
variable {prog : Program} {w : World} {A : Around} {E : Value → Shared → Prop} {hp : Heap} {gs : Array GenState} {dr : Drawn} {tk : Nat} {os : OsState} {env : Env} {Q : Value → Shared → Prop} {a c : Int} {t u : Tok}
theorem x_int {i : Int} {k : Nat} {pos : Pos} (h : Q (.int i tk) ⟨hp, gs, dr, tk + 1, os⟩) : wpAny (model prog w) A (eval (.Constant (.int i) k pos) env) Q E ⟨hp, gs, dr, tk, os⟩ := wpAny_Constant_int h
theorem x_add (h : Q (.int (a + c) tk) ⟨hp, gs, dr, tk + 1, os⟩) : wpAny (model prog w) A (binaryOp .Add (.int a t) (.int c u)) Q E ⟨hp, gs, dr, tk, os⟩ := add_int h
theorem x_sub (h : Q (.int (a - c) tk) ⟨hp, gs, dr, tk + 1, os⟩) : wpAny (model prog w) A (binaryOp .Sub (.int a t) (.int c u)) Q E ⟨hp, gs, dr, tk, os⟩ := sub_int h
theorem x_isub (h : Q (.int (a - c) tk) ⟨hp, gs, dr, tk + 1, os⟩) : wpAny (model prog w) A (inplaceOp .Sub (.int a t) (.int c u)) Q E ⟨hp, gs, dr, tk, os⟩ := isub_int h
theorem x_iadd (h : Q (.int (a + c) tk) ⟨hp, gs, dr, tk + 1, os⟩) : wpAny (model prog w) A (inplaceOp .Add (.int a t) (.int c u)) Q E ⟨hp, gs, dr, tk, os⟩ := iadd_int h
theorem x_and (h : Q (.int (Builtin.bitAnd a c) tk) ⟨hp, gs, dr, tk + 1, os⟩) : wpAny (model prog w) A (binaryOp .BitAnd (.int a t) (.int c u)) Q E ⟨hp, gs, dr, tk, os⟩ := and_int h
theorem x_rshift (hn : 0 ≤ c) (h : Q (.int (a.fdiv (2 ^ c.toNat)) tk) ⟨hp, gs, dr, tk + 1, os⟩) : wpAny (model prog w) A (binaryOp .RShift (.int a t) (.int c u)) Q E ⟨hp, gs, dr, tk, os⟩ := rshift_int hn h
theorem x_lshift (hn : 0 ≤ c) (hn2 : c ≤ 1000000) (ha : a.natAbs < 2 ^ 64) (h : Q (.int (a * 2 ^ c.toNat) tk) ⟨hp, gs, dr, tk + 1, os⟩) : wpAny (model prog w) A (binaryOp .LShift (.int a t) (.int c u)) Q E ⟨hp, gs, dr, tk, os⟩ := lshift_int_small hn hn2 ha h
theorem x_mod (hc : c ≠ 0) (h : Q (.int (a.fmod c) tk) ⟨hp, gs, dr, tk + 1, os⟩) : wpAny (model prog w) A (binaryOp .Mod (.int a t) (.int c u)) Q E ⟨hp, gs, dr, tk, os⟩ := mod_int' hc h
theorem x_mul (hm : IntMulOk a c) (h : Q (.int (a * c) tk) ⟨hp, gs, dr, tk + 1, os⟩) : wpAny (model prog w) A (binaryOp .Mult (.int a t) (.int c u)) Q E ⟨hp, gs, dr, tk, os⟩ := mul_int h hm
end

theorem Fx.hid {b h : Heap} {L a : Addr} {m : Str → Option Value} {own : List (Addr × Obj)} {o : Obj} (F : Fx b L h m ((a, o) :: own)) : Ext b (h.hide a) :=
  fun c oc e => (Heap.hide_ne h (fun z => by have := F.out (a, o) (.head _); rw [z] at e; rw [e] at this; cases this)).trans (F.keep c oc e)
theorem hide_ext (h : Heap) (a : Addr) : Ext (h.hide a) h := fun _ _ e => Heap.of_hide e
theorem Fx.freeze1 {b h : Heap} {L : Addr} {m : Str → Option Value} {p : Addr × Obj} {own : List (Addr × Obj)} (F : Fx b L h m (p :: own)) :
    ∃ b', Ext b b' ∧ Fx b' L h m [p] ∧ (∀ q ∈ own, b'.get? q.1 = some q.2) ∧ (∀ c oc, c ≠ L → c ≠ p.1 → h.get? c = some oc → b'.get? c = some oc) ∧ Ext b' h := by
  obtain ⟨b', e, F', k, k2⟩ := F.freeze [p] (by simp)
  refine ⟨b', e, F', fun q hq => k _ _ (F.notL (.tail _ hq)) (fun z => ?_) (F.has q (.tail _ hq)), fun c oc n1 n2 z => k c oc n1 (by simpa using n2) z, k2⟩
  have nd := F.nodup
  simp only [List.map_cons, List.nodup_cons] at nd
  exact nd.2.1 (List.mem_map.mpr ⟨q, hq, by simpa using z⟩)
theorem Fx.freezeA {b h : Heap} {L : Addr} {m : Str → Option Value} {own : List (Addr × Obj)} (F : Fx b L h m own) :
    ∃ b', Ext b b' ∧ Fx b' L h m [] ∧ (∀ q ∈ own, b'.get? q.1 = some q.2) ∧ (∀ c oc, c ≠ L → h.get? c = some oc → b'.get? c = some oc) ∧ Ext b' h := by
  obtain ⟨b', e, F', k, k2⟩ := F.freeze0
  exact ⟨b', e, F', fun q hq => k _ _ (F.notL hq) (F.has q hq), k, k2⟩
theorem Fx.notL' {b h : Heap} {L a : Addr} {m : Str → Option Value} {own : List (Addr × Obj)} {o : Obj} (F : Fx b L h m own) (e : h.get? a = some o) (hd : ∀ es n, o.data ≠ .dict es n) : a ≠ L := by
  rintro rfl
  obtain ⟨oL, es, ep, g, d, _⟩ := F.ns
  rw [g] at e
  exact hd es ep (Option.some.inj e ▸ d)
section
variable {b h h' hp : Heap} {L a : Addr} {m : Str → Option Value} {own own0 : List (Addr × Obj)} {o : Obj} {p q r : Addr × Obj}
theorem Fx.rot3 (F : Fx b L h m (p :: q :: r :: own)) : Fx b L h m (r :: p :: q :: own) := F.perm ((List.Perm.cons _ (.swap _ _ _)).trans (.swap _ _ _))
theorem Fx.rot3' (F : Fx b L h m (p :: q :: r :: own)) : Fx b L h m (q :: r :: p :: own) := F.perm ((List.Perm.swap _ _ _).trans (.cons _ (.swap _ _ _)))
theorem Fx.addNew (F0 : Fx b L hp m own0) (F : Fx b L h m own) (he : own.map (·.1) = own0.map (·.1)) (ha : hp.get? a = none) (hn : h.get? a = some o) : Fx b L h m ((a, o) :: own) := by
  refine ⟨F.ns, F.keep, F.lout, fun p hp => ?_, fun p hp => ?_, ?_⟩
  · rcases List.mem_cons.mp hp with rfl | hp
    · exact hn
    · exact F.has p hp
  · rcases List.mem_cons.mp hp with rfl | hp
    · exact F0.keep.none ha
    · exact F.out p hp
  · have nd := F.nodup
    have hl : L ≠ a := fun q => by obtain ⟨oL, _, _, hL, _⟩ := F0.ns; rw [q, ha] at hL; cases hL
    have ho : a ∉ own.map (·.1) := fun q => by
      rw [he] at q
      obtain ⟨p, hp, e⟩ := List.mem_map.mp q
      have := F0.has p hp
      rw [e, ha] at this; cases this
    simp only [List.map_cons, List.nodup_cons, List.mem_cons, not_or] at nd ⊢
    exact ⟨⟨hl, nd.1⟩, ho, nd.2⟩
/-- behind a call that turned its two first -/
theorem Fx.back2 {a₂ : Addr} {o₂ o' o₂' : Obj} (F : Fx b L h m ((a, o) :: (a₂, o₂) :: own)) (e : Ext (hideAll h [a, a₂]) h') (ha : h'.get? a = some o') (ha₂ : h'.get? a₂ = some o₂') : Fx b L h' m ((a, o') :: (a₂, o₂') :: own) := by
  have nd := F.nodup
  simp only [List.map_cons, List.nodup_cons, List.mem_cons, not_or] at nd
  have keep : ∀ c oc, c ≠ a → c ≠ a₂ → h.get? c = some oc → h'.get? c = some oc := fun c oc n1 n2 q => e c oc (hideAll_get _ q (by simp [n1, n2]))
  obtain ⟨oL, es, ep, gL, r⟩ := F.ns
  refine ⟨⟨oL, es, ep, keep _ _ nd.1.1 nd.1.2.1 gL, r⟩, fun c oc q => keep c oc (fun z => ?_) (fun z => ?_) (F.keep c oc q), F.lout, fun p hp => ?_, fun p hp => ?_, F.nodup⟩
  · have := F.out (a, o) (.head _); rw [z] at q; rw [q] at this; cases this
  · have := F.out (a₂, o₂) (.tail _ (.head _)); rw [z] at q; rw [q] at this; cases this
  · rcases List.mem_cons.mp hp with rfl | hp
    · exact ha
    · rcases List.mem_cons.mp hp with rfl | hp
      · exact ha₂
      · exact keep _ _ (fun z => nd.2.1.2 (List.mem_map.mpr ⟨p, hp, z⟩)) (fun z => nd.2.2.1 (List.mem_map.mpr ⟨p, hp, z⟩)) (F.has p (.tail _ (.tail _ hp)))
  · rcases List.mem_cons.mp hp with rfl | hp
    · exact F.out (a, o) (.head _)
    · rcases List.mem_cons.mp hp with rfl | hp
      · exact F.out (a₂, o₂) (.tail _ (.head _))
      · exact F.out p (.tail _ (.tail _ hp))
theorem Fx.hid2 {a₂ : Addr} {o₂ : Obj} (F : Fx b L h m ((a, o) :: (a₂, o₂) :: own)) : Ext b (hideAll h [a, a₂]) := fun c oc e => hideAll_get _ (F.keep c oc e) (fun q => by
  rcases List.mem_cons.mp q with z | z
  · have := F.out (a, o) (.head _); rw [z] at e; rw [e] at this; cases this
  · have := F.out (a₂, o₂) (.tail _ (.head _)); rw [List.mem_singleton.mp z] at e; rw [e] at this; cases this)
end
theorem ext_hide2 {g hp : Heap} {a a₂ : Addr} (he : Ext g hp) (h1 : g.get? a = none) (h2 : g.get? a₂ = none) : Ext g (hideAll hp [a, a₂]) := fun c oc e => hideAll_get _ (he c oc e) (fun q => by
  rcases List.mem_cons.mp q with z | z
  · rw [z, h1] at e; cases e
  · rw [List.mem_singleton.mp z, h2] at e; cases e)
/-- a loop's turn has come to its end -/
def TurnEnd (gs : Array GenState) (dr : Drawn) (os : OsState) (L : Addr) (it : List (Addr × Obj)) (b : Heap) (Inv : Heap → (Str → Option Value) → List (Addr × Obj) → Prop) (s' : Shared) : Prop :=
  ∃ h tk b' m own, s' = ⟨h, gs, dr, tk, os⟩ ∧ Ext b b' ∧ Fx b' L h m (own ++ it) ∧ Inv b' m own
def Turned (gs : Array GenState) (dr : Drawn) (os : OsState) (L : Addr) (it : List (Addr × Obj)) (b : Heap) (Inv : Heap → (Str → Option Value) → List (Addr × Obj) → Prop) (Q : Flow → Shared → Prop) : Flow → Shared → Prop
  | .next, s' | .cont, s' => TurnEnd gs dr os L it b Inv s'
  | .brk, s' => Q .next s'
  | .ret v, s' => Q (.ret v) s'

section
variable {prog : Program} {w : World} {A : Around} {R : Result → Shared → Prop} {hp : Heap} {gs : Array GenState} {dr : Drawn} {tk₀ : Nat} {os : OsState}
theorem loop_walk {x : Str} {px : Pos} {body : List Stmt} {b : Heap} {L a : Addr} {m : Str → Option Value} {own : List (Addr × Obj)} {cn : Str} {cs : Scope} {ccd : Value} {cl : List (Str × Addr)}
    {I : Addr} {fp wr : List Addr} {n : Nat} {P : Nat → Value → Prop} {St : Nat → Heap → Prop} (W : Walks prog w A I fp wr n P St) (hst : St 0 hp) (F : Fx b L hp m own)
    (hfp : ∀ a ∈ fp, a ∉ wr → ∃ o, b.get? a = some o) (hwr : ∀ a ∈ wr, b.get? a = none ∧ a ≠ L ∧ ∀ p ∈ own, p.1 ≠ a) (hnd : wr.Nodup) (hex : ∀ i h, St i h → ∀ a ∈ wr, ∃ o, h.get? a = some o)
    (Inv : Nat → Heap → (Str → Option Value) → List (Addr × Obj) → Prop) (h0 : Inv 0 b m own)
    (step : ∀ i v b₁ m₁ own₁ h₁ tk₁ it E', i < n → P i v → Inv i b₁ m₁ own₁ → Ext b b₁ → Fx b₁ L h₁ (fun y => if y = x then some v else m₁ y) (own₁ ++ it) →
      wpAny (model prog w) A (execs body (envX cn cs L a ccd cl)) (Turned gs dr os L it b₁ (Inv (i + 1)) fun f s' => R (.ok f) s') E' ⟨h₁, gs, dr, tk₁, os⟩)
    (fin : ∀ h' tk b' m' own', Inv n b' m' own' → Ext b b' → Fx b' L h' m' own' → R (.ok .next) ⟨h', gs, dr, tk, os⟩)
    (hk : cs.kind = .function := by with_unfolding_all rfl) (hx : (envX cn cs L a ccd cl).kindOf x = some .local := by with_unfolding_all rfl) :
    codeAny (model prog w) A (.forLoop (.Name x px) (.ref I) body [] (envX cn cs L a ccd cl)) R ⟨hp, gs, dr, tk₀, os⟩ := by
  have hpp : ((envX cn cs L a ccd cl).scope.kind == .class || ((envX cn cs L a ccd cl).scope.kind == .module && (envX cn cs L a ccd cl).locals != (envX cn cs L a ccd cl).globals)) = false := by
    show (cs.kind == .class || (cs.kind == .module && L != mainGlobals)) = false; rw [hk]; rfl
  refine codeAny_forLoop (fun k s' => ∃ h' tk b' m' own' i, s' = ⟨h', gs, dr, tk, os⟩ ∧ k = n + 1 - i ∧ i ≤ n ∧ St i h' ∧ Ext b b' ∧ Fx b' L h' m' own' ∧ Inv i b' m' own' ∧ (∀ a ∈ wr, b'.get? a = none ∧ a ≠ L ∧ ∀ p ∈ own', p.1 ≠ a)) ?_ (n + 1)
    ⟨hp, tk₀, b, m, own, 0, rfl, rfl, Nat.zero_le _, hst, .rfl', F, h0, hwr⟩
  rintro k s' ⟨h, tk, b', m', own', i, rfl, rfl, hi, st, eb, F', inv, hw⟩
  -- what a step of the iterator leaves
  have keepF : ∀ {h₁ : Heap}, (∀ c o, c ∉ wr → h.get? c = some o → h₁.get? c = some o) → Fx b' L h₁ m' own' := fun {h₁} hk₁ => by
    obtain ⟨oL, es, ep, gL, r⟩ := F'.ns
    refine ⟨⟨oL, es, ep, hk₁ _ _ (fun q => (hw _ q).2.1 rfl) gL, r⟩, fun c o e => hk₁ c o (fun q => by rw [(hw _ q).1] at e; cases e) (F'.keep c o e), F'.lout, fun p hp => hk₁ _ _ (fun q => (hw _ q).2.2 p hp rfl) (F'.has p hp), F'.out, F'.nodup⟩
  by_cases hlt : i < n
  · refine W.item i _ _ _ hlt st fun v h₁ tk₁ hv st₁ hk₁ => ?_
    have F₁ := keepF hk₁
    dsimp only
    refine wpAny_assign_Name (wpAny_storeName_local hx F₁.ns (fun h₂ hn₂ hs₂ => ?_) hpp)
    have F₂ := F₁.store hn₂ hs₂
    -- the iterator's own objects
    have hobj : ∀ c ∈ wr, ∃ o, h₂.get? c = some o := fun c hc => by
      obtain ⟨o, ho⟩ := hex _ _ st₁ c hc
      exact ⟨o, (hs₂.2 c (hw c hc).2.1).trans ho⟩
    let it : List (Addr × Obj) := wr.map fun c => (c, (h₂.get? c).getD default)
    have hit : ∀ p ∈ it, p.1 ∈ wr ∧ h₂.get? p.1 = some p.2 := fun p hp => by
      obtain ⟨c, hc, rfl⟩ := List.mem_map.mp hp
      obtain ⟨o, ho⟩ := hobj c hc
      refine ⟨hc, ?_⟩
      show h₂.get? c = some ((h₂.get? c).getD default)
      rw [ho]; rfl
    have hitm : it.map (·.1) = wr := by simp [it, List.map_map, Function.comp_def]
    have F₃ : Fx b' L h₂ (fun y => if y = x then some v else m' y) (own' ++ it) := by
      refine ⟨F₂.ns, F₂.keep, F₂.lout, fun p hp => ?_, fun p hp => ?_, ?_⟩
      · rcases List.mem_append.mp hp with hp | hp
        · exact F₂.has p hp
        · exact (hit p hp).2
      · rcases List.mem_append.mp hp with hp | hp
        · exact F₂.out p hp
        · exact (hw _ (hit p hp).1).1
      · rw [List.map_append, hitm, ← List.cons_append]
        refine List.nodup_append.mpr ⟨F₂.nodup, hnd, fun c hc d hd => ?_⟩
        rintro rfl
        rcases List.mem_cons.mp hc with rfl | hc
        · exact (hw _ hd).2.1 rfl
        · obtain ⟨p, hp, q⟩ := List.mem_map.mp hc
          exact (hw _ hd).2.2 p hp q
    refine wpAny_mono (step i v b' m' own' h₂ (tk₁ + 1) it _ hlt hv inv eb F₃) (fun f s₃ z => ?_) fun _ _ z => z
    have go : TurnEnd gs dr os L it b' (Inv (i + 1)) s₃ → ∃ k, k < n + 1 - i ∧ ∃ h' tk b' m' own' j, s₃ = ⟨h', gs, dr, tk, os⟩ ∧ k = n + 1 - j ∧ j ≤ n ∧ St j h' ∧ Ext b b' ∧ Fx b' L h' m' own' ∧ Inv j b' m' own' ∧ (∀ a ∈ wr, b'.get? a = none ∧ a ≠ L ∧ ∀ p ∈ own', p.1 ≠ a) := by
      rintro ⟨h₃, tk₃, b₃, m₃, own₃, rfl, e₃, F₄, inv₃⟩
      have hasit : ∀ p ∈ it, h₃.get? p.1 = some p.2 := fun p hp => F₄.has p (List.mem_append_right _ hp)
      have hi0 : ∀ c ∈ wr, ∃ o, (c, o) ∈ it := fun c hc => ⟨_, List.mem_map_of_mem hc⟩
      refine ⟨n + 1 - (i + 1), by omega, h₃, tk₃, b₃, m₃, own₃, i + 1, rfl, rfl, hlt, ?_, eb.trans e₃, ?_, inv₃, fun c hc => ?_⟩
      · refine W.frame _ _ _ st₁ fun c hc o e => ?_
        by_cases hcw : c ∈ wr
        · obtain ⟨oc, hoc⟩ := hi0 c hcw
          have q : h₂.get? c = some o := (hs₂.2 c (hw c hcw).2.1).trans e
          have := (hit _ hoc).2
          dsimp only at this
          rw [q] at this
          have := Option.some.inj this
          rw [this]
          exact hasit _ hoc
        · obtain ⟨ob, hob⟩ := hfp c hc hcw
          have e1 := F₁.keep c ob (eb c ob hob)
          rw [e] at e1
          rw [Option.some.inj e1]
          exact F₄.keep c ob (e₃ c ob (eb c ob hob))
      · refine ⟨F₄.ns, F₄.keep, F₄.lout, fun p hp => F₄.has p (List.mem_append_left _ hp), fun p hp => F₄.out p (List.mem_append_left _ hp), ?_⟩
        have nd := F₄.nodup
        rw [List.map_append, ← List.cons_append] at nd
        exact (List.nodup_append.mp nd).1
      · obtain ⟨oc, hoc⟩ := hi0 c hc
        refine ⟨F₄.out _ (List.mem_append_right _ hoc), (hw c hc).2.1, fun p hp q => ?_⟩
        have nd := F₄.nodup
        rw [List.map_append, hitm, ← List.cons_append] at nd
        exact (List.nodup_append.mp nd).2.2 _ (.tail _ (List.mem_map_of_mem hp)) _ hc q
    cases f with
    | next => exact go z
    | cont => exact go z
    | brk => exact z
    | ret v => exact z
  · have : i = n := by omega
    subst this
    refine W.done _ _ _ st fun h₁ tk₁ hk₁ => ?_
    dsimp only
    exact wpAny_execs_nil (fin h₁ tk₁ b' m' own' inv eb (keepF hk₁))

theorem loop_while {test : Expr} {body : List Stmt} {b : Heap} {L a : Addr} {m : Str → Option Value} {own : List (Addr × Obj)} {cn : Str} {cs : Scope} {ccd : Value} {cl : List (Str × Addr)}
    (F : Fx b L hp m own) (Inv : Nat → Heap → (Str → Option Value) → List (Addr × Obj) → Prop) (n : Nat) (h0 : Inv n b m own)
    (step : ∀ k b₁ m₁ own₁ h₁ tk₁ E', Inv k b₁ m₁ own₁ → Ext b b₁ → Fx b₁ L h₁ m₁ own₁ →
      wpAny (model prog w) A (isTrue test (envX cn cs L a ccd cl) (eval test (envX cn cs L a ccd cl))) (fun t s₂ =>
        if t then wpAny (model prog w) A (execs body (envX cn cs L a ccd cl)) (Turned gs dr os L [] b₁ (fun b m own => ∃ j, j < k ∧ Inv j b m own) fun f s' => R (.ok f) s') E' s₂ else R (.ok .next) s₂) E' ⟨h₁, gs, dr, tk₁, os⟩) :
    codeAny (model prog w) A (.whileLoop test body [] (envX cn cs L a ccd cl)) R ⟨hp, gs, dr, tk₀, os⟩ := by
  refine codeAny_whileLoop (fun k s' => ∃ h' tk b' m' own', s' = ⟨h', gs, dr, tk, os⟩ ∧ Ext b b' ∧ Fx b' L h' m' own' ∧ Inv k b' m' own') ?_ n ⟨hp, tk₀, b, m, own, rfl, .rfl', F, h0⟩
  rintro k s' ⟨h, tk, b', m', own', rfl, eb, F', inv⟩
  refine wpAny_mono (step k b' m' own' h tk _ inv eb F') (fun t s₂ z => ?_) fun _ _ z => z
  cases t with
  | false => simp only [Bool.false_eq_true, if_false] at z ⊢; exact wpAny_execs_nil z
  | true =>
    simp only [if_true] at z ⊢
    refine wpAny_mono z (fun f s₃ y => ?_) fun _ _ z => z
    have go : TurnEnd gs dr os L [] b' (fun b m own => ∃ j, j < k ∧ Inv j b m own) s₃ → ∃ j, j < k ∧ ∃ h' tk b' m' own', s₃ = ⟨h', gs, dr, tk, os⟩ ∧ Ext b b' ∧ Fx b' L h' m' own' ∧ Inv j b' m' own' := by
      rintro ⟨h₃, tk₃, b₃, m₃, own₃, rfl, e₃, F₄, j, hj, inv₃⟩
      rw [List.append_nil] at F₄
      exact ⟨j, hj, h₃, tk₃, b₃, m₃, own₃, rfl, eb.trans e₃, F₄, inv₃⟩
    cases f with
    | next => exact go y
    | cont => exact go y
    | brk => exact y
    | ret v => exact y
end
theorem TurnEnd.mk0 {gs : Array GenState} {dr : Drawn} {os : OsState} {L : Addr} {b b' h : Heap} {tk : Nat} {m : Str → Option Value} {own : List (Addr × Obj)} {Inv : Heap → (Str → Option Value) → List (Addr × Obj) → Prop} (F : Fx b' L h m own) (e : Ext b b') (i : Inv b' m own) :
    TurnEnd gs dr os L [] b Inv ⟨h, gs, dr, tk, os⟩ := ⟨h, tk, b', m, own, rfl, e, by rw [List.append_nil]; exact F, i⟩
section
variable {prog : Program} {w : World} {A : Around} {E : Value → Shared → Prop} {hp : Heap} {gs : Array GenState} {dr : Drawn} {tk : Nat} {os : OsState} {b : Heap} {L l l2 : Addr} {m : Str → Option Value} {own : List (Addr × Obj)} {items items2 : List Value} {n n2 : Nat} {v : Value}

theorem lc_copy {Q : Value → Shared → Prop} (F : Fx b L hp m own) (hl : hp.get? l = some (LO items n)) (hz : items.length ≤ 1000000)
    (h : ∀ D c h', Fx b L h' m ((D, LO items c) :: own) → Ext hp h' → Q (.ref D) ⟨h', gs, dr, tk, os⟩) : wpAny (model prog w) A (call (.type "list") [.ref l]) Q E ⟨hp, gs, dr, tk, os⟩ :=
  call_list_seq l (.inl rfl) hl rfl rfl (fun h' c' hk hD => h _ c' h' (F.gain hk (none_at_size _) hD) hk) (by rw [List.size_toArray, sizeLine_eq]; omega)
theorem gm_list {name : Str} {id : String} {pl : Sem Bool} {Q : Value × List Value → Shared → Prop} (hl : hp.get? l = some (LO items n)) (slot : Slot "list" name id)
    (hty : typeOf (.builtin id) = pure (.type "method_descriptor")) (h : Q (.builtin id, [.ref l]) ⟨hp, gs, dr, tk, os⟩) : wpAny (model prog w) A (getMethod (.ref l) name pl) Q E ⟨hp, gs, dr, tk, os⟩ :=
  getMethod_list_of slot hty (isList_of hl) ⟨_, hl, rfl⟩ h
theorem lc_append {Q : Value → Shared → Prop} (F : Fx b L hp m ((l, LO items n) :: own)) (hz : items.length ≤ 1000000)
    (h : ∀ h' n', Fx b L h' m ((l, LO (items ++ [v]) n') :: own) → Q .none ⟨h', gs, dr, tk, os⟩) : wpAny (model prog w) A (call (.builtin "list.append") [.ref l, v]) Q E ⟨hp, gs, dr, tk, os⟩ :=
  wpAny_list_append_plain ⟨n, F.head⟩ (fun h' ⟨n', hn'⟩ hs => h h' n' (F.turnS hs (by rw [hn']; simp))) (by rw [List.size_toArray, sizeLine_eq]; omega)
theorem lc_extend {Q : Value → Shared → Prop} (F : Fx b L hp m ((l, LO items n) :: own)) (hl2 : hp.get? l2 = some (LO items2 n2)) (hz : items.length + items2.length ≤ 1000000)
    (h : ∀ h' n', Fx b L h' m ((l, LO (items ++ items2) n') :: own) → Q .none ⟨h', gs, dr, tk, os⟩) : wpAny (model prog w) A (call (.builtin "list.extend") [.ref l, .ref l2]) Q E ⟨hp, gs, dr, tk, os⟩ := by
  have hz' : items.toArray.size + items2.toArray.size ≤ sizeLine := by rw [List.size_toArray, List.size_toArray, sizeLine_eq]; omega
  refine call_meets PySem.F.slot_list_extend ⟨_, F.head, rfl⟩ PySem.F.entry_list_extend (PySem.F.args_list_extend_2 _ _) (AutoSeq1.list_extend_list_list_0 l items.toArray n l2 items2.toArray n2 (extend_door hz') (Nat.le_trans (Nat.le_add_right _ _) hz') (Nat.le_succ_of_le hz')) ⟨F.head, hl2, ?_⟩
  have F' := F.upd (Obj.mapSeq fun x => x ++ items2.toArray) (by rw [mapSeq_app]; rfl)
  rw [mapSeq_app] at F'
  exact h _ _ (by simpa using F')
theorem lc_len {Q : Value → Shared → Prop} (hl : hp.get? l = some (LO items n)) (hz : items.length ≤ 1000000)
    (h : ∀ t tk', Q (.int items.length t) ⟨hp, gs, dr, tk', os⟩) : wpAny (model prog w) A (call (.builtin "len") [.ref l]) Q E ⟨hp, gs, dr, tk, os⟩ := by
  refine Calls.call_function_entry kind_len plain_len entry_len (args_len1 _) (wpAny_len_body_list (isList_of hl) (by rw [List.size_toArray]; omega) ?_)
  rw [List.size_toArray]
  exact h _ _
theorem tr_list {Q : Bool → Shared → Prop} (hl : hp.get? l = some (LO items n)) (hz : items.length ≤ 1000000)
    (h : ∀ tk', Q (!items.isEmpty) ⟨hp, gs, dr, tk', os⟩) : wpAny (model prog w) A (truthy (.ref l)) Q E ⟨hp, gs, dr, tk, os⟩ := by
  refine wpAny_truthy_list (isList_of hl) (by rw [List.size_toArray]; omega) ?_
  have e : items.toArray.isEmpty = items.isEmpty := by simp
  rw [e]
  exact h _
/-- an item of a list at a place in bounds -/
theorem sub_list {value slice : Expr} {k : Int} {t : Tok} {Q : Value → Shared → Prop} (hl : hp.get? l = some (LO items n)) (h0 : 0 ≤ k) (hk : k < 1000000) (hx : items[k.toNat]? = some v) (h : Q v ⟨hp, gs, dr, tk, os⟩)
    (hs : subscripted slice false (.ref l) (.int k t) = operate [.ref l, .int k t] (getItem (.ref l) (.int k t)) := by with_unfolding_all rfl) :
    wpAny (model prog w) A (subscriptTail value slice (.ref l) (.int k t)) Q E ⟨hp, gs, dr, tk, os⟩ :=
  tail_any (isList_of hl).typeIs slot_list_getitem.lookup (wpAny_getItem_list (isList_of hl) h0 (by omega) (by simpa using hx) h) hs
/-- a new list by its display -/
theorem nl {its : List Value} {Q : Value → Shared → Prop} (F : Fx b L hp m own) (h : ∀ D h', Fx b L h' m ((D, LO its 0) :: own) → Ext hp h' → Q (.ref D) ⟨h', gs, dr, tk, os⟩) (hz : its.length ≤ 1000000 := by decide) :
    wpAny (model prog w) A (newList its) Q E ⟨hp, gs, dr, tk, os⟩ :=
  wpAny_newList (h _ _ (F.push _) (.of_push _)) (by rw [sizeLine_eq]; omega)
end

section
variable {prog : Program} {w : World} {A : Around} {E : Value → Shared → Prop} {hp : Heap} {gs : Array GenState} {dr : Drawn} {tk₀ : Nat} {os : OsState} {R : Result → Shared → Prop}
/-- a for over a list that the base holds -/
theorem for_list {x : Str} {px : Pos} {body : List Stmt} {b : Heap} {L a l : Addr} {m : Str → Option Value} {own : List (Addr × Obj)} {cn : Str} {cs : Scope} {ccd : Value} {cl : List (Str × Addr)} {items : List Value} {n : Nat}
    (F : Fx b L hp m own) (hl : b.get? l = some (LO items n)) (hh : A.handled = none)
    (Inv : Nat → Heap → (Str → Option Value) → List (Addr × Obj) → Prop) (h0 : Inv 0 b m own)
    (step : ∀ i v b₁ m₁ own₁ h₁ tk₁ it E', i < items.length → items[i]? = some v → Inv i b₁ m₁ own₁ → Ext b b₁ → Fx b₁ L h₁ (fun y => if y = x then some v else m₁ y) (own₁ ++ it) →
      wpAny (model prog w) A (execs body (envX cn cs L a ccd cl)) (Turned gs dr os L it b₁ (Inv (i + 1)) fun f s' => R (.ok f) s') E' ⟨h₁, gs, dr, tk₁, os⟩)
    (fin : ∀ h' tk b' m' own', Inv items.length b' m' own' → Ext b b' → Fx b' L h' m' own' → R (.ok .next) ⟨h', gs, dr, tk, os⟩)
    (hk : cs.kind = .function := by with_unfolding_all rfl) (hx : (envX cn cs L a ccd cl).kindOf x = some .local := by with_unfolding_all rfl) :
    wpAny (model prog w) A (pyIter (.ref l)) (fun it s₂ => codeAny (model prog w) A (.forLoop (.Name x px) it body [] (envX cn cs L a ccd cl)) R s₂) E ⟨hp, gs, dr, tk₀, os⟩ := by
  have hl' := F.keep _ _ hl
  have hne : l ≠ hp.objs.size := Nat.ne_of_lt (Heap.lt_size hl')
  refine wpAny_pyIter_list (isList_of hl') ?_
  dsimp only
  have fr := F.fresh
  have W : Walks prog w A hp.objs.size [hp.objs.size, l] [hp.objs.size] items.length (fun i v => items[i]? = some v) (fun i h => h.IsListIter hp.objs.size l i ∧ h.IsList l items.toArray) := by simpa using Walks.list (prog := prog) (w := w) hh hp.objs.size l hne items.toArray
  refine loop_walk W ⟨⟨_, Heap.get?_push_size _ rfl, rfl, rfl⟩, (isList_of hl').push _⟩ (F.ext (.of_push _)) (fun c hc hw => ?_) (fun c hc => ?_) (by simp) (fun i h st c hc => ?_) Inv h0 step fin hk hx
  · rcases List.mem_cons.mp hc with rfl | hc
    · exact absurd (List.mem_singleton.mpr rfl) hw
    · rw [List.mem_singleton.mp hc]; exact ⟨_, hl⟩
  · rw [List.mem_singleton.mp hc]; exact ⟨fr.1, fr.2.1.symm, fr.2.2⟩
  · rw [List.mem_singleton.mp hc]; obtain ⟨o, ho, _⟩ := st.1; exact ⟨o, ho⟩
end

section
variable {prog : Program} {w : World} {A : Around} {E : Value → Shared → Prop} {hp : Heap} {gs : Array GenState} {dr : Drawn} {tk : Nat} {os : OsState} {b : Heap} {L : Addr} {m : Str → Option Value} {own : List (Addr × Obj)} {env : Env}
theorem assign_tup2 {e1 e2 : Expr} {k : Nat} {pos : Pos} {t : Addr} {v1 v2 : Value} {n : Nat} {Q : Unit → Shared → Prop} (F : Fx b L hp m own) (hh : A.handled = none) (ht : hp.get? t = some (TO [v1, v2] n))
    (h : ∀ h', Fx b L h' m own → Ext hp h' → wpAny (model prog w) A (assign e1 env v1) (fun _ s₁ => wpAny (model prog w) A (assign e2 env v2) Q E s₁) E ⟨h', gs, dr, tk, os⟩)
    (he : assignEach [e1, e2] env = [(false, assign e1 env), (false, assign e2 env)] := by with_unfolding_all rfl) :
    wpAny (model prog w) A (assign (.Tuple [e1, e2] k pos) env (.ref t)) Q E ⟨hp, gs, dr, tk, os⟩ := by
  refine wpAny_assign_Tuple (items := [v1, v2].toArray) hh ⟨_, ht, rfl, n, rfl⟩ (by rw [he]; rfl) (by rw [he]; rfl) fun h' e => ?_
  have ex : Ext hp h' := fun c oc q => e c oc (Nat.ne_of_lt (Heap.lt_size q)) q
  rw [he]
  show wpAny _ _ (holding [v2] (assign e1 env v1) >>= fun _ => holding [] (assign e2 env v2) >>= fun _ => pure ()) _ _ _
  refine wpAny_bind (wpAny_holding (wpAny_mono (h h' (F.ext ex) ex) (fun _ s₁ z => wpAny_bind (wpAny_holding (wpAny_mono z (fun _ _ y => wpAny_pure y) fun _ _ y => y))) fun _ _ y => y))
theorem assign_attr {o : Expr} {attr : Str} {pos : Pos} {v : Value} {Q : Unit → Shared → Prop} (h : wpAny (model prog w) A (eval o env) (fun ov s₁ => wpAny (model prog w) A (setAttr ov attr v) Q E s₁) E ⟨hp, gs, dr, tk, os⟩) :
    wpAny (model prog w) A (assign (.Attribute o attr pos) env v) Q E ⟨hp, gs, dr, tk, os⟩ := fun Γ p hΓ => by
  simp only [assign_Attribute, Sem.wp_bind', Sem.wp_holding, Sem.wp_cmd_standAt, Sem.wp_release, Sem.wp_pure']
  exact Sem.wp_mono _ Γ _ (fun ov p₁ s₁ h₁ => h₁ Γ _ hΓ) (fun _ _ _ h' => h') _ _ (h Γ _ hΓ)
/-- a new tuple by its display -/
theorem nt {its : List Value} {Q : Value → Shared → Prop} (F : Fx b L hp m own) (h : ∀ D h', Fx b L h' m ((D, TO its 0) :: own) → Ext hp h' → Q (.ref D) ⟨h', gs, dr, tk, os⟩) (hz : its.length ≤ 1000000 := by decide) :
    wpAny (model prog w) A (newTuple its) Q E ⟨hp, gs, dr, tk, os⟩ :=
  wpAny_newTuple (h _ _ (F.push _) (.of_push _)) (by rw [sizeLine_eq]; omega)
end

/-- a cut of a list -/
def cutL (items : List Value) (lo hi : Option Int) : List Value := (slicePick items.toArray lo hi none).toList
theorem cutL_length (items : List Value) (lo hi : Option Int) : (cutL items lo hi).length ≤ items.length := by
  have := slicePick_size_le items.toArray lo hi none
  simpa [cutL] using this
section
variable {prog : Program} {w : World} {A : Around} {E : Value → Shared → Prop} {hp : Heap} {gs : Array GenState} {dr : Drawn} {tk : Nat} {os : OsState} {b : Heap} {L : Addr} {m : Str → Option Value} {own : List (Addr × Obj)} {env : Env}
def Cut (Q : Value → Shared → Prop) (o vl vu : Value) (s : Shared) : Prop := ∃ l items lo hi, o = .ref l ∧ s.heap.IsList l items ∧ items.size ≤ sizeLine ∧ IsPart vl lo ∧ IsPart vu hi ∧
  Q (.ref (s.heap.objs.size + 1)) { s with heap := (s.heap.push { cls := .type "slice", data := .fields #[vl, vu, .none] }).push { cls := .type "list", data := .seq (slicePick items lo hi none) } }
theorem sub_slice {s : Shared} {value : Expr} {lower upper : Option Expr} {p pos : Pos} {Q : Value → Shared → Prop}
    (h : wpAny (model prog w) A (eval value env) (fun o s₁ => wpAny (model prog w) A (evalPart lower env) (fun vl s₂ => wpAny (model prog w) A (evalPart upper env) (fun vu s₃ => Cut Q o vl vu s₃) E s₂) E s₁) E s)
    (ht : ∀ o r, letTemporaryGo value o r = pure () := by intro _ _; rfl) :
    wpAny (model prog w) A (eval (.Subscript value (.Slice lower upper none p) pos) env) Q E s := wpAny_Subscript_list_slice h ht
theorem ep_none {s : Shared} {Q : Value → Shared → Prop} (h : Q .none s) : wpAny (model prog w) A (evalPart none env) Q E s := by rw [evalPart_none]; exact wpAny_pure h
theorem ep_some {s : Shared} {e : Expr} {Q : Value → Shared → Prop} (h : wpAny (model prog w) A (eval e env) Q E s) : wpAny (model prog w) A (evalPart (some e) env) Q E s := by rw [evalPart_some]; exact h
theorem cut_list {l : Addr} {items : List Value} {n : Nat} {vl vu : Value} {lo hi : Option Int} {Q : Value → Shared → Prop} (F : Fx b L hp m own) (hl : hp.get? l = some (LO items n)) (hz : items.length ≤ 1000000) (pl : IsPart vl lo) (pu : IsPart vu hi)
    (h : ∀ D h', Fx b L h' m ((D, LO (cutL items lo hi) 0) :: own) → Ext hp h' → Q (.ref D) ⟨h', gs, dr, tk, os⟩) : Cut Q (.ref l) vl vu ⟨hp, gs, dr, tk, os⟩ := by
  refine ⟨l, items.toArray, lo, hi, rfl, isList_of hl, by rw [List.size_toArray, sizeLine_eq]; omega, pl, pu, ?_⟩
  have F' := (F.ext (.of_push { cls := .type "slice", data := .fields #[vl, vu, .none] })).push (LO (cutL items lo hi) 0)
  rw [Heap.size_push] at F'
  have e : (LO (cutL items lo hi) 0) = { cls := .type "list", data := .seq (slicePick items.toArray lo hi none) } := by simp [cutL]
  have ex : Ext hp ((hp.push { cls := .type "slice", data := .fields #[vl, vu, .none] }).push (LO (cutL items lo hi) 0)) := (Ext.of_push _).push _
  have z := h _ _ F' ex
  rw [e] at z
  exact z
end
section
variable {b h hp : Heap} {L a x : Addr} {m : Str → Option Value} {own : List (Addr × Obj)} {p q r : Addr × Obj}
theorem none_of_hide1 (e : (hideAll hp [x]).get? a = none) (n : a ≠ x) : hp.get? a = none := by
  cases q : hp.get? a with
  | none => rfl
  | some o => rw [hideAll_get [x] q (by simpa using n)] at e; cases e
theorem Fx.ne12 (F : Fx b L h m (p :: q :: own)) : p.1 ≠ q.1 := by
  have nd := F.nodup
  simp only [List.map_cons, List.nodup_cons, List.mem_cons, not_or] at nd
  exact nd.2.1.1
theorem Fx.ne13 (F : Fx b L h m (p :: q :: r :: own)) : p.1 ≠ r.1 := by
  have nd := F.nodup
  simp only [List.map_cons, List.nodup_cons, List.mem_cons, not_or] at nd
  exact nd.2.1.2.1
end
theorem Fx.take2 {b h h' : Heap} {L a a₂ : Addr} {m : Str → Option Value} {o o₂ : Obj} (F : Fx b L h m []) (eg : Ext h (hideAll h' [a, a₂])) (hne : a ≠ a₂) (ha : h'.get? a = some o) (ha₂ : h'.get? a₂ = some o₂) (n1 : h.get? a = none) (n2 : h.get? a₂ = none) :
    ∃ b', Ext b b' ∧ Fx b' L h' m [(a, o), (a₂, o₂)] ∧ ∀ c oc, c ≠ L → (hideAll h' [a, a₂]).get? c = some oc → b'.get? c = some oc := by
  have up : Ext h h' := fun c oc e => of_hideAll _ (eg c oc e)
  have L1 : L ≠ a := fun q => by obtain ⟨oL, _, _, hL, _⟩ := F.ns; rw [q, n1] at hL; cases hL
  have L2 : L ≠ a₂ := fun q => by obtain ⟨oL, _, _, hL, _⟩ := F.ns; rw [q, n2] at hL; cases hL
  have mem : ∀ {c oc}, (hideAll h' [a, a₂]).get? c = some oc → c ∉ [a, a₂] := fun {c oc} e q => by rw [hideAll_none _ q] at e; cases e
  refine ⟨hideAll h' [L, a, a₂], fun c oc e => hideAll_get _ (up c oc (F.keep c oc e)) (fun q => ?_), ⟨F.ns.keeps up, fun c oc e => of_hideAll _ e, hideAll_none _ (.head _), fun p hp => ?_, fun p hp => hideAll_none _ (.tail _ ?_), ?_⟩, fun c oc nL e => hideAll_get _ (of_hideAll _ e) (fun q => ?_)⟩
  · rcases List.mem_cons.mp q with rfl | q
    · rw [F.lout] at e; cases e
    · exact mem (eg c oc (F.keep c oc e)) q
  · rcases List.mem_cons.mp hp with rfl | hp
    · exact ha
    · rw [List.mem_singleton.mp hp]; exact ha₂
  · rcases List.mem_cons.mp hp with rfl | hp
    · exact .head _
    · rw [List.mem_singleton.mp hp]; exact .tail _ (.head _)
  · simp [L1, L2, hne]
  · rcases List.mem_cons.mp q with rfl | q
    · exact nL rfl
    · exact mem e q
theorem Fx.only {b h h' : Heap} {L : Addr} {m : Str → Option Value} {own : List (Addr × Obj)} (F : Fx b L h m own) {as : List Addr} (e : Ext (hideAll h as) h') (hs : ∀ a ∈ as, a ∈ own.map (·.1)) : Fx b L h' m [] := by
  have nd := List.nodup_cons.mp F.nodup
  obtain ⟨oL, es, ep, gL, r⟩ := F.ns
  refine ⟨⟨oL, es, ep, e _ _ (hideAll_get _ gL fun q => nd.1 (hs _ q)), r⟩, fun c oc q => e c oc (hideAll_get _ (F.keep c oc q) fun z => ?_), F.lout, (fun _ q => nomatch q), (fun _ q => nomatch q), by simp⟩
  obtain ⟨p, hp, rfl⟩ := List.mem_map.mp (hs _ z)
  rw [F.out p hp] at q; cases q
abbrev RgO (a b c : Int) (t u v : Tok) : Obj := { cls := .type "range", data := .fields #[.int a t, .int b u, .int c v] }
section
variable {prog : Program} {w : World} {A : Around} {E : Value → Shared → Prop} {hp : Heap} {gs : Array GenState} {dr : Drawn} {tk : Nat} {os : OsState} {b : Heap} {L : Addr} {m : Str → Option Value} {own : List (Addr × Obj)} {Q : Value → Shared → Prop} {x y z : Int} {t u v : Tok}
theorem rg3 (F : Fx b L hp m own) (hc : z ≠ 0) (hx : -1000000 ≤ x ∧ x ≤ 1000000) (hy : -1000000 ≤ y ∧ y ≤ 1000000) (hz : -1000000 ≤ z ∧ z ≤ 1000000) (h : ∀ D h', Fx b L h' m ((D, RgO x y z t u v) :: own) → Ext hp h' → Q (.ref D) ⟨h', gs, dr, tk, os⟩) :
    wpAny (model prog w) A (call (.type "range") [.int x t, .int y u, .int z v]) Q E ⟨hp, gs, dr, tk, os⟩ :=
  call_range_3 hc (h _ _ (F.push _) (.of_push _)) (.inl (PyProof.noPylong_small (by omega)))
theorem rg1 (F : Fx b L hp m own) (h : ∀ D h' t v tk', Fx b L h' m ((D, RgO 0 y 1 t u v) :: own) → Ext hp h' → Q (.ref D) ⟨h', gs, dr, tk', os⟩) :
    wpAny (model prog w) A (call (.type "range") [.int y u]) Q E ⟨hp, gs, dr, tk, os⟩ := call_range_1 (h _ _ _ _ _ (F.push _) (.of_push _))
end

theorem rsize_bound {x y z : Int} (hx : -1000000 ≤ x ∧ x ≤ 1000000) (hy : -1000000 ≤ y ∧ y ≤ 1000000) (hz : z ≠ 0) : 0 ≤ Builtin.Range.rangeSize x y z ∧ Builtin.Range.rangeSize x y z ≤ 3000000 := by
  unfold Builtin.Range.rangeSize
  have key : ∀ d k : Int, 0 ≤ d → 1 ≤ k → 0 ≤ d / k ∧ d / k ≤ d := fun d k hd hk => ⟨Int.ediv_nonneg hd (by omega), Int.ediv_le_self _ hd⟩
  split
  · split
    · have := key (y - x - 1) z (by omega) (by omega); omega
    · omega
  · split
    · have := key (x - y - 1) (-z) (by omega) (by omega); omega
    · omega
theorem rsmall {x y z : Int} (hx : -1000000 ≤ x ∧ x ≤ 1000000) (hy : -1000000 ≤ y ∧ y ≤ 1000000) (hz : -1000000 ≤ z ∧ z ≤ 1000000) (h0 : z ≠ 0) : Builtin.Range.small x y z = true := by
  have hb := rsize_bound hx hy h0
  unfold Builtin.Range.small Builtin.Range.rangeFitsLong
  simp only [Bool.and_eq_true, decide_eq_true_eq, Bool.or_eq_true]
  refine ⟨⟨⟨⟨⟨by omega, by omega⟩, by omega, by omega⟩, by omega, by omega⟩, by omega, by omega⟩, .inr ?_⟩
  split <;> simp <;> omega
section
variable {prog : Program} {w : World} {A : Around} {E : Value → Shared → Prop} {hp : Heap} {gs : Array GenState} {dr : Drawn} {tk₀ : Nat} {os : OsState} {R : Result → Shared → Prop}
/-- a for over a range -/
theorem for_range {x : Str} {px : Pos} {body : List Stmt} {b : Heap} {L a r : Addr} {m : Str → Option Value} {own : List (Addr × Obj)} {cn : Str} {cs : Scope} {ccd : Value} {cl : List (Str × Addr)} {i0 i1 st : Int} {t u v : Tok} {n : Nat}
    (F : Fx b L hp m own) (hr : hp.get? r = some (RgO i0 i1 st t u v)) (hsm : Builtin.Range.small i0 i1 st = true) (hn : Builtin.Range.rangeSize i0 i1 st = n) (hh : A.handled = none)
    (Inv : Nat → Heap → (Str → Option Value) → List (Addr × Obj) → Prop) (h0 : Inv 0 b m own)
    (step : ∀ (i : Nat) tv b₁ m₁ own₁ h₁ tk₁ it E', i < n → Inv i b₁ m₁ own₁ → Ext b b₁ → Fx b₁ L h₁ (fun y => if y = x then some (.int (i0 + i * st) tv) else m₁ y) (own₁ ++ it) →
      wpAny (model prog w) A (execs body (envX cn cs L a ccd cl)) (Turned gs dr os L it b₁ (Inv (i + 1)) fun f s' => R (.ok f) s') E' ⟨h₁, gs, dr, tk₁, os⟩)
    (fin : ∀ h' tk b' m' own', Inv n b' m' own' → Ext b b' → Fx b' L h' m' own' → R (.ok .next) ⟨h', gs, dr, tk, os⟩)
    (hk : cs.kind = .function := by with_unfolding_all rfl) (hx : (envX cn cs L a ccd cl).kindOf x = some .local := by with_unfolding_all rfl) :
    wpAny (model prog w) A (pyIter (.ref r)) (fun it s₂ => codeAny (model prog w) A (.forLoop (.Name x px) it body [] (envX cn cs L a ccd cl)) R s₂) E ⟨hp, gs, dr, tk₀, os⟩ := by
  refine wpAny_pyIter_range hr hsm ?_
  dsimp only
  have fr := F.fresh
  have W := Walks.range (prog := prog) (w := w) hh hp.objs.size i0 st n
  refine loop_walk W ?_ (F.ext (.of_push _)) (fun c hc hw => absurd hc hw) (fun c hc => ?_) (by simp) (fun i h st c hc => ?_) Inv h0 (fun i v b₁ m₁ own₁ h₁ tk₁ it E' hi hv => ?_) fin hk hx
  · rw [hn]
    have := Heap.get?_push_size hp (o := { cls := .type "range_iterator", data := .fields #[rawInt i0, rawInt (n : Int), rawInt st] }) rfl
    simpa [IsRangeIter] using this
  · rw [List.mem_singleton.mp hc]; exact ⟨fr.1, fr.2.1.symm, fr.2.2⟩
  · rw [List.mem_singleton.mp hc]; exact ⟨_, st⟩
  · obtain ⟨tv, rfl⟩ := hv
    exact step i tv b₁ m₁ own₁ h₁ tk₁ it E' hi
end
theorem x_neg {prog : Program} {w : World} {A : Around} {E : Value → Shared → Prop} {hp : Heap} {gs : Array GenState} {dr : Drawn} {tk : Nat} {os : OsState} {Q : Value → Shared → Prop} {a : Int} {t : Tok} (h : Q (.int (-a) tk) ⟨hp, gs, dr, tk + 1, os⟩) : wpAny (model prog w) A (unaryOp .USub (.int a t)) Q E ⟨hp, gs, dr, tk, os⟩ := PySem.P.neg_int h
/-! slice objects -/
abbrev SlO (a b c : Value) : Obj := { cls := .type "slice", data := .fields #[a, b, c] }
namespace Sl
section
variable {prog : Program} {w : World} {A : Around} {E : Value → Shared → Prop} {h : Heap} {g : Array GenState} {d : Drawn} {t : Nat} {os : OsState} {l : Addr} {a b c : Value}
end
end Sl
namespace Sl
end Sl
section
variable {prog : Program} {w : World} {A : Around} {E : Value → Shared → Prop} {hp : Heap} {gs : Array GenState} {dr : Drawn} {tk : Nat} {os : OsState} {b : Heap} {L l sl : Addr} {m : Str → Option Value} {own : List (Addr × Obj)} {items : List Value} {n : Nat} {v vl vu vs : Value} {lo hi st : Option Int}
/-- a list cut by a slice object -/
def pickL (items : List Value) (lo hi st : Option Int) : List Value := (slicePick items.toArray lo hi st).toList
theorem gi_slice {Q : Value → Shared → Prop} (F : Fx b L hp m own) (hl : hp.get? l = some (LO items n)) (hs : hp.get? sl = some (SlO vl vu vs)) (pl : IsPart vl lo) (pu : IsPart vu hi) (ps : IsPart vs st) (h0 : st ≠ some 0) (hz : items.length ≤ 1000000)
    (h : ∀ D h', Fx b L h' m ((D, LO (pickL items lo hi st) 0) :: own) → Ext hp h' → Q (.ref D) ⟨h', gs, dr, tk, os⟩) : wpAny (model prog w) A (getItem (.ref l) (.ref sl)) Q E ⟨hp, gs, dr, tk, os⟩ :=
  wpAny_getItem_list_slice (isList_of hl) ⟨_, hs, rfl, rfl⟩ pl pu ps h0 (by
    have z := h _ _ (F.push (LO (pickL items lo hi st) 0)) (.of_push _)
    simpa [pickL] using z) (by rw [List.size_toArray, sizeLine_eq]; omega)
/-- the places that a del of a slice takes -/
def selD (start stop : Int) (i : Nat) : Bool := decide (start ≤ i) && decide (i < stop)
def sel3 (start stop step : Int) (i : Nat) : Bool :=
  if step > 0 then start ≤ i && i < stop && (i - start) % step == 0
  else stop < i && i ≤ start && (start - i) % (-step) == 0
def delL (items : List Value) (lo hi : Option Int) : List Value :=
  items.zipIdx.filterMap fun (x, k) => if selD (sliceBounds lo hi none items.length).1 (sliceBounds lo hi none items.length).2.1 k then none else some x
end
/-- an exception of a builtin class is under way -/
def Thrown (base hp : Heap) (outer : List Env) (cls : String) (e : Addr) (h' : Heap) : Prop := ∃ a0, Heap.FlyingW base outer e (.type cls) a0 h' ∧ hp.UpToSlots h'
section
variable {prog : Program} {w : World} {A : Around} {E : Value → Shared → Prop} {hp h₁ h₂ base : Heap} {gs : Array GenState} {dr : Drawn} {tk : Nat} {os : OsState} {b : Heap} {L f e : Addr} {m : Str → Option Value} {own : List (Addr × Obj)} {outer : List Env} {cls : String} {cn : Str} {cs : Scope} {ccd : Value} {cl : List (Str × Addr)}
theorem frames_of (F : Fx b L h₁ m own) (hk : cs.kind ≠ .module) (hn : base.get? L = none) (hff : h₁.FunFrames base outer) : h₁.FunFrames base (envX cn cs L f ccd cl :: outer) :=
  Heap.FunFrames.cons (env := envX cn cs L f ccd cl) hk rfl F.ns hn hff
/-- a new exception leaves the frame in which it arose -/
theorem leave_new {Q : Unit → Shared → Prop} (F : Fx b L h₁ m own) (eb : Ext hp b) (hfr : A.frames = some outer) (hb : Ext base hp) (hff : hp.FunFrames base outer) (x : Heap.NewExc h₁ h₂ e cls)
    (h : ∀ h', Thrown base hp outer cls e h' → Q () ⟨h', gs, dr, tk, os⟩) (hk : cs.kind ≠ .module := by with_unfolding_all decide) :
    wpAny (model prog w) (A.deeper (envX cn cs L f ccd cl)) (leaving (envX cn cs L f ccd cl) (.ref e)) Q E ⟨h₂, gs, dr, tk, os⟩ := by
  obtain ⟨ob, tp, he, hcls, hd⟩ := x.there
  have e1 : Ext hp h₁ := eb.trans F.keep
  have e2 : Ext hp h₂ := e1.trans x.keeps
  have hen : base.get? e = none := (hb.trans e1).none x.new
  have hff2 : h₂.FunFrames base outer := hff.of_keeps fun c o hc _ => ⟨o, e2 c o hc, rfl⟩
  have F2 := F.ext x.keeps
  refine wpAny_leaving_firstW (base := base) (Around.frames_deeper hfr) (frames_of F2 hk ((hb.trans eb).none F.lout) hff2) rfl he (fun c o hc => e2 c o (hb c o hc)) hen hd rfl rfl fun h' hL => ?_
  obtain ⟨k1, ⟨_, _, k2⟩, k3, k4⟩ := hL
  rw [hcls] at k3
  exact h h' ⟨_, ⟨k1, hen, k2, k3⟩, (Heap.UpToSlots.of_keeps e2).trans k4⟩
theorem Fx.slots (F : Fx b L h₁ m own) (hb : Ext b base) (ho : ∀ p ∈ own, base.get? p.1 = some p.2) (k : Ext base h₂) (u : h₁.UpToSlots h₂) : Fx b L h₂ m own :=
  ⟨u.ns F.ns, hb.trans k, F.lout, fun p hp => k _ _ (ho p hp), F.out, F.nodup⟩
/-- the clause that catches it -/
theorem caught {K : Frag} {mg mb : Str → Option Value} {x : Str} {px pos : Pos} {b₀ : Stmt} {suite : List Stmt} {rest : List ExceptHandler} {Q : Flow → Shared → Prop} (F : Fx b L h₁ m own) (T : Tp K mg mb b) (hb : Ext b base) (ho : ∀ p ∈ own, base.get? p.1 = some p.2)
    (hfr : A.frames = some (envX cn cs L f ccd cl :: outer)) (x1 : Thrown base h₁ (envX cn cs L f ccd cl :: outer) cls e h₂)
    (hg : nsIn K mainGlobals x = some none) (hv : bootBuiltins x = some (.type cls)) (hn : x ≠ "__name__")
    (hexc : isSubtype (.type cls) (.type "BaseException") = pure true) (hnt : isSubtype (.type ((Manifest.find? cls).elim "type" fun x => x.metatype)) (.type "tuple") = pure false) (hsub : isSubtype (.type cls) (.type cls) = pure true)
    (h : ∀ h' tk E', Fx b L h' m own → Ext base h' → h₁.UpToSlots h' → h'.FunFrames base (envX cn cs L f ccd cl :: outer) → wpAny (model prog w) (A.mark (some (.ref e))) (execs (b₀ :: suite) (envX cn cs L f ccd cl)) Q E' ⟨h', gs, dr, tk, os⟩)
    (hk : cs.kind = .function := by with_unfolding_all rfl) (hx : (envX cn cs L f ccd cl).kindOf x = some .globalImplicit := by with_unfolding_all rfl) (hd : (x == ("__debug__" : Str)) = false := by decide) :
    wpAny (model prog w) A (noteFrame (.ref e) (envX cn cs L f ccd cl)) (fun _ s₂ => wpAny (model prog w) A (setFlight (.ref e) none) (fun _ s₃ => wpAny (model prog w) A (handleBy (.ref e) (envX cn cs L f ccd cl) (.ExceptHandler (some (.Name x px)) none (b₀ :: suite) pos :: rest)) Q E s₃) E s₂) E ⟨h₂, gs, dr, tk, os⟩ := by
  obtain ⟨a0, fl, up⟩ := x1
  refine wpAny_looks_onW (base := base) hfr rfl fl fun h3 held u3 => ?_
  refine wpAny_landsW held fun h4 fl4 u4 => ?_
  have F4 : Fx b L h4 m own := F.slots hb ho fl4.1 ((up.trans u3).trans u4)
  refine wpAny_handleBy_builtin (X := cls) (T := cls) (b := true) hexc hnt hsub ?_
  refine n_blt F4 T hg hv ⟨rfl, fl4.there, ?_⟩ hn hk hx hd
  simp only [if_true]
  refine wpAny_setFlight_noneW fl4.1 fl4.2.2.1 fl4.2.2.2.at fun h5 k1 k2 k3 k4 => ?_
  have u5 : h4.UpToSlots h5 := fun c o hc hn => ⟨o.slots, k4 c o hc hn⟩
  have u := ((up.trans u3).trans u4).trans u5
  exact h h5 _ _ (F.slots hb ho k1 u) k1 u k2
end
namespace Rz
theorem ve1 : isSubtype (.type "ValueError") (.type "BaseException") = pure true := by rw [isSubtype_type]; kernel_rfl
theorem ve2 : isSubtype (.type ((Manifest.find? "ValueError").elim "type" fun x => x.metatype)) (.type "tuple") = pure false := by rw [find?_eq_fast, isSubtype_type]; kernel_rfl
theorem ve3 : isSubtype (.type "ValueError") (.type "ValueError") = pure true := by rw [isSubtype_type]; kernel_rfl
end Rz
/-! calls of defs with cells -/
abbrev CX (o : Obj) (v : Option Value) : Obj := { o with data := .cell v }
theorem cx_of {o : Obj} {v : Option Value} (h : o.data = .cell v) : o = CX o v := by cases o; simp only at h; subst h; rfl
section
variable {M : Model} {A : Around} {E : Value → Shared → Prop} {hp : Heap} {gs : Array GenState} {dr : Drawn} {tk : Nat} {os : OsState} {b : Heap} {L a : Addr} {m : Str → Option Value} {own : List (Addr × Obj)} {cn : Str} {cs : Scope} {ccd : Value} {cl : List (Str × Addr)}
  {x : Str} {v : Value} {c : Addr} {o : Obj}
theorem st_cx {Q : Unit → Shared → Prop} {v₀ : Option Value} (F : Fx b L hp m ((c, CX o v₀) :: own)) (hc : cl.lookup x = some c)
    (h : ∀ h', Fx b L h' m ((c, CX o (some v)) :: own) → Q () ⟨h', gs, dr, tk, os⟩)
    (hk : cs.kind = .function := by with_unfolding_all rfl) (hx : (envX cn cs L a ccd cl).kindOf x = some .cell := by with_unfolding_all rfl) : wpAny M A (storeName (envX cn cs L a ccd cl) x v) Q E ⟨hp, gs, dr, tk, os⟩ := by
  unfold storeName
  simp only [hx, hk]
  refine wpAny_bind (wpAny_cellOf hc ?_)
  unfold cellSet
  refine wpAny_bind (wpAny_load F.head ?_)
  exact wpAny_update F.head (h _ (F.upd (fun o => { o with data := .cell (some v) })))
end
section
variable {prog : Program} {w : World} {A : Around} {hp : Heap} {gs : Array GenState} {dr : Drawn} {tk : Nat} {os : OsState} {R : Result → Shared → Prop} {name qual : Str} {params : Arguments} {body : List Stmt} {scope : Scope} {dV kV doc pm cdv ct : Value} {an : Option Addr} {fo : Obj} {f : Addr} {args : Args} {binds : List (Str × Value)}
/-- the cells of a frame at L -/
def cellsOwn (L : Addr) (scope : Scope) (cm : Str → Option Value) (ob : Addr → Obj) : List (Addr × Obj) := (cellsFrom (L + 1) scope.names []).map fun p => (p.2, CX (ob p.2) (cm p.1))
theorem call_fxc (hroom : A.depth < recursionLimit) (ho : hp.get? f = some fo) (hd : fo.data = .func (fnX name qual params body scope [] dV kV doc pm an cdv ct))
    (hlim : hp.NoLimit) (hcd : hp.CodeRec cdv qual) (hbind : BindsTo ⟨hp, gs, dr, tk, os⟩ (fnX name qual params body scope [] dV kV doc pm an cdv ct) args binds)
    (hkind : ∀ n, ∀ x ∈ binds, scope.names.lookup x.1 = some .local ∨ (scope.names.lookup x.1 = some .cell ∧ ((cellsFrom n scope.names []).lookup x.1).isSome = true))
    (hnd : ((cellsFrom 0 scope.names []).map (·.1)).Nodup)
    (h : ∀ L' h₁ tk' ob, Fx hp L' h₁ (bindL (envOfC qual scope L' f cdv).kindOf binds fun _ => none) (cellsOwn L' scope (bindC (envOfC qual scope L' f cdv).kindOf binds fun _ => none) ob) →
      wpAny (model prog w) (A.deeper (envX qual scope L' f cdv (cellsFrom (L' + 1) scope.names []))) (execs body (envX qual scope L' f cdv (cellsFrom (L' + 1) scope.names []))) (fun fl s' => R (.ok (.ret (retOf fl))) s')
        (fun e s' => wpAny (model prog w) (A.deeper (envX qual scope L' f cdv (cellsFrom (L' + 1) scope.names []))) (leaving (envX qual scope L' f cdv (cellsFrom (L' + 1) scope.names [])) e) (fun _ s'' => R (.error e) s'') (fun e' s'' => R (.error e') s'') s')
        ⟨h₁, gs, dr, tk', os⟩)
    (hco : scope.isCoroutine = false := by with_unfolding_all rfl) (hgen : scope.isGenerator = false := by with_unfolding_all rfl) (hk : scope.kind = .function := by with_unfolding_all rfl) : codeAny (model prog w) A (.call (.ref f) args) R ⟨hp, gs, dr, tk, os⟩ := by
  refine codeAny_call_function hroom ho hd hco hgen rfl hcd (hbind _ _ _ _ ?_)
  refine wpAny_newFunctionEnv_cells hk (hkind _) fun env' he s' x => ?_
  subst he
  refine ⟨hlim.keeps x.toInCall.keep, codeAny_func ?_⟩
  obtain ⟨h₁, tk', rfl, _⟩ := x.done
  have hk₁ := x.toInCall.keep
  have hlk : ∀ n c, (n, c) ∈ cellsFrom (hp.objs.size + 1) scope.names [] → (cellsFrom (hp.objs.size + 1) scope.names []).lookup n = some c := fun n c hm => lookup_of_mem_nodup (cellsFrom_names scope.names 0 (hp.objs.size + 1) [] [] rfl ▸ hnd) hm
  refine wpAny_mono (h hp.objs.size h₁ tk' (fun c => (h₁.get? c).getD default) ⟨x.toInCall.ns, hk₁, none_at_size _, fun p hpm => ?_, fun p hpm => ?_, ?_⟩) (fun fl s' z => ?_) fun _ _ y => y
  · obtain ⟨q, hq, rfl⟩ := List.mem_map.mp hpm
    obtain ⟨o, ho, hd⟩ := x.cell q.1 q.2 (hlk _ _ hq)
    show h₁.get? q.2 = some (CX ((h₁.get? q.2).getD default) _)
    rw [show h₁.get? q.2 = some o from ho]
    exact congrArg some (cx_of hd)
  · obtain ⟨q, hq, rfl⟩ := List.mem_map.mp hpm
    exact Heap.get?_none_of_le (Nat.le_of_lt (x.above q.1 q.2 hq))
  · refine List.nodup_cons.mpr ⟨fun q => ?_, ?_⟩
    · obtain ⟨p, hpm, e⟩ := List.mem_map.mp q
      obtain ⟨q, hq, rfl⟩ := List.mem_map.mp hpm
      exact absurd e (Nat.ne_of_gt (x.above q.1 q.2 hq))
    · unfold cellsOwn
      rw [List.map_map]
      exact List.pairwise_map.mpr x.apart
  · cases fl <;> exact z
end

/-! list comprehensions over whole numbers -/
def pv (pp : Int → Bool) : Value → Bool
  | .int k _ => pp k
  | _ => false
def fv (g : Int → Int) (v y : Value) : Prop := ∃ k t t', v = .int k t ∧ y = .int (g k) t'
theorem ints_paired {g : Int → Int} {pp : Int → Bool} : ∀ {vs : List Value} {ns : List Int} {ys : List Value}, IntsAre vs ns → Paired (fv g) (vs.filter (pv pp)) ys → IntsAre ys ((ns.filter pp).map g)
  | _, _, _, .nil, h => by cases h; exact .nil
  | _, _, ys, .cons n t h, hp => by
    by_cases e : pp n = true
    · rw [List.filter_cons, if_pos (show pv pp (.int n t) = true from e)] at hp
      rw [List.filter_cons, if_pos e]
      cases hp with
      | cons hf hr =>
        obtain ⟨k, t1, t2, e1, rfl⟩ := hf
        cases e1
        exact .cons _ _ (ints_paired h hr)
    · rw [List.filter_cons, if_neg (show ¬ pv pp (.int n t) = true from e)] at hp
      rw [List.filter_cons, if_neg e]
      exact ints_paired h hp
theorem ints_of : ∀ {vs : List Value} {ns : List Int}, vs.length = ns.length → (∀ (j : Nat) (v : Value), vs[j]? = some v → ∃ (k : Int) (t : Tok), ns[j]? = some k ∧ v = .int k t) → IntsAre vs ns
  | [], [], _, _ => .nil
  | v :: vs, n :: ns, hl, h => by
    obtain ⟨k, t, e1, rfl⟩ := h 0 v rfl
    cases e1
    exact .cons _ _ (ints_of (by simpa using hl) fun j v e => h (j + 1) v e)
section
variable {prog : Program} {w : World} {A : Around} {E : Value → Shared → Prop} {hp : Heap} {gs : Array GenState} {dr : Drawn} {tk : Nat} {os : OsState} {b : Heap} {L : Addr} {m : Str → Option Value} {own : List (Addr × Obj)} {env : Env} {Q : Value → Shared → Prop}
/-- what one turn of the comprehension does -/
structure Turns (prog : Program) (w : World) (A : Around) (env : Env) (scope : Scope) (cl : List (Str × Addr)) (x : Str) (ifs : List Expr) (elt : Expr) (ns : List Int) (pp : Int → Bool) (g : Int → Int) (hp : Heap) : Prop where
  tests : ∀ C k t h₃ gs dr tk os m₃ E', k ∈ ns → h₃.Ns C m₃ → m₃ x = some (.int k t) → Ext hp h₃ →
    wpAny (model prog w) A (forIn ifs true fun c r => if r = true then do let ok ← isTrue c (compEnvC scope cl C env) (eval c (compEnvC scope cl C env)); pure (ForInStep.yield ok) else pure (ForInStep.yield r))
      (fun ok s₄ => ok = pp k ∧ ∃ h' tk', s₄ = ⟨h', gs, dr, tk', os⟩ ∧ Ext h₃ h') E' ⟨h₃, gs, dr, tk, os⟩
  elt : ∀ C k t h₃ gs dr tk os m₃ E', k ∈ ns → pp k = true → h₃.Ns C m₃ → m₃ x = some (.int k t) → Ext hp h₃ →
    wpAny (model prog w) A (eval elt (compEnvC scope cl C env)) (fun y s₄ => (∃ t', y = .int (g k) t') ∧ ∃ h' tk', s₄ = ⟨h', gs, dr, tk', os⟩ ∧ Ext h₃ h') E' ⟨h₃, gs, dr, tk, os⟩
theorem comp_walk {elt iter : Expr} {x : Str} {px : Pos} {ifs : List Expr} {scope : Scope} {cl : List (Str × Addr)} {pos : Pos} {s : Shared} (pp : Int → Bool) (g : Int → Int)
    (hclos : closureFor scope env = pure cl) (hcell : ∀ y ∈ scope.names, y.2 ≠ .cell) (hkind : scope.kind = .function)
    (hnames : ∀ y ∈ scope.names, y.2 = .local → scope.names.lookup y.1 = some .local) (hx : scope.names.lookup x = some .local)
    (hs : ∀ x, foldedSetIterable iter env x = pure x)
    (h : wpAny (model prog w) A (eval iter env) (fun xv s₁ => wpAny (model prog w) A (pyIter xv) (fun it s₂ => ∃ I fp wr ns P St hp b L m own gs dr tk os, it = .ref I ∧ s₂ = ⟨hp, gs, dr, tk, os⟩ ∧ Walks prog w A I fp wr ns.length P St ∧ ns.length ≤ 1000000 ∧ St 0 hp ∧ (∀ b ∈ fp, b < hp.objs.size) ∧
      (∀ j v, P j v → ∃ k t, ns[j]? = some k ∧ v = .int k t) ∧ Fx b L hp m own ∧ (∀ a ∈ wr, b.get? a = none ∧ a ≠ L ∧ ∀ p ∈ own, p.1 ≠ a) ∧
      Turns prog w A env scope cl x ifs elt ns pp g (hideAll hp wr) ∧
      (∀ D c ys h' tk', Fx b L h' m ((D, LO ys c) :: own) → Ext (hideAll hp wr) h' → hp.get? D = none → IntsAre ys ((ns.filter pp).map g) → Q (.ref D) ⟨h', gs, dr, tk', os⟩)) E s₁) E s) :
    wpAny (model prog w) A (eval (.ListComp elt [⟨.Name x px, iter, ifs, 0⟩] scope pos) env) Q E s := by
  refine wpAny_ListComp_free (pv pp) (fv g) hclos hcell hkind hnames hx (wpAny_mono h (fun xv s₁ z => wpAny_mono z (fun it s₂ y => ?_) fun _ _ e => e) fun _ _ e => e) hs
  obtain ⟨I, fp, wr, ns, P, St, hp, b, L, m, own, gs, dr, tk, os, rfl, rfl, W, hz, hst, hfp, hP, F, hw, hT, hQ⟩ := y
  have ex : ∀ {s₃ : Shared}, (∀ b o, b ∉ wr → hp.get? b = some o → s₃.heap.get? b = some o) → Ext (hideAll hp wr) s₃.heap := fun {s₃} k c o e =>
    k c o (fun q => by rw [hideAll_none _ q] at e; cases e) (of_hideAll _ e)
  refine ⟨I, fp, wr, ns.length, P, St, rfl, W, by rw [sizeLine_eq]; omega, hst, hfp, ⟨fun C i v s₃ m₃ E' _ hv hn hm hk _ => ?_, fun C i v s₃ m₃ E' _ hv hpv hn hm hk _ => ?_⟩, fun D h' tk' ys vs hD hl hpl hlen hPs hF hk => ?_⟩
  · obtain ⟨k, t, e1, rfl⟩ := hP i v hv
    obtain ⟨h₃, g₃, d₃, t₃, o₃⟩ := s₃
    refine wpAny_mono (hT.tests C k t h₃ g₃ d₃ t₃ o₃ m₃ E' (List.mem_of_getElem? e1) hn hm (ex hk)) (fun ok s₄ z => ?_) fun _ _ e => e
    obtain ⟨e, h', tk', rfl, e'⟩ := z
    exact ⟨e, h', tk', rfl, e'⟩
  · obtain ⟨k, t, e1, rfl⟩ := hP i v hv
    obtain ⟨h₃, g₃, d₃, t₃, o₃⟩ := s₃
    refine wpAny_mono (hT.elt C k t h₃ g₃ d₃ t₃ o₃ m₃ E' (List.mem_of_getElem? e1) hpv hn hm (ex hk)) (fun y s₄ z => ?_) fun _ _ e => e
    obtain ⟨⟨t', rfl⟩, h', tk', rfl, e'⟩ := z
    exact ⟨⟨k, t, t', rfl, rfl⟩, h', tk', rfl, e'⟩
  · obtain ⟨c, hc⟩ := hpl
    have hi : IntsAre vs ns := ints_of hlen fun j v e => hP j v (hPs j v e)
    have e := ex (s₃ := ⟨h', gs, dr, tk', os⟩) hk
    have F' : Fx b L h' m own := by
      obtain ⟨oL, es, ep, gL, r⟩ := F.ns
      exact ⟨⟨oL, es, ep, hk _ _ (fun q => (hw _ q).2.1 rfl) gL, r⟩, fun a o q => hk a o (fun z => by rw [(hw _ z).1] at q; cases q) (F.keep a o q), F.lout, fun p hp => hk _ _ (fun q => (hw _ q).2.2 p hp rfl) (F.has p hp), F.out, F.nodup⟩
    refine hQ D c ys.toList h' tk' (F.addNew F' rfl hD ?_) e hD (ints_paired hi hF)
    rw [hc]

theorem comp_list {elt iter : Expr} {x : Str} {px : Pos} {ifs : List Expr} {scope : Scope} {cl : List (Str × Addr)} {pos : Pos} {s : Shared} (pp : Int → Bool) (g : Int → Int) (hh : A.handled = none)
    (hclos : closureFor scope env = pure cl) (hcell : ∀ y ∈ scope.names, y.2 ≠ .cell) (hkind : scope.kind = .function)
    (hnames : ∀ y ∈ scope.names, y.2 = .local → scope.names.lookup y.1 = some .local) (hx : scope.names.lookup x = some .local)
    (hs : ∀ x, foldedSetIterable iter env x = pure x)
    (h : wpAny (model prog w) A (eval iter env) (fun xv s₁ => ∃ l items n ns hp b L m own gs dr tk os, xv = .ref l ∧ s₁ = ⟨hp, gs, dr, tk, os⟩ ∧ hp.get? l = some (LO items n) ∧ IntsAre items ns ∧ ns.length ≤ 1000000 ∧ Fx b L hp m own ∧
      Turns prog w A env scope cl x ifs elt ns pp g hp ∧
      (∀ D c ys h' tk', Fx b L h' m ((D, LO ys c) :: own) → Ext hp h' → hp.get? D = none → IntsAre ys ((ns.filter pp).map g) → Q (.ref D) ⟨h', gs, dr, tk', os⟩)) E s) :
    wpAny (model prog w) A (eval (.ListComp elt [⟨.Name x px, iter, ifs, 0⟩] scope pos) env) Q E s := by
  refine comp_walk pp g hclos hcell hkind hnames hx hs (wpAny_mono h (fun xv s₁ z => ?_) fun _ _ e => e)
  obtain ⟨l, items, n, ns, hp, b, L, m, own, gs, dr, tk, os, rfl, rfl, hl, hi, hz, F, hT, hQ⟩ := z
  have hlen := hi.length
  have hne : l ≠ hp.objs.size := Nat.ne_of_lt (Heap.lt_size hl)
  refine wpAny_pyIter_list (isList_of hl) ?_
  dsimp only
  have fr := F.fresh
  have W : Walks prog w A hp.objs.size [hp.objs.size, l] [hp.objs.size] items.length (fun i v => items[i]? = some v) (fun i h => h.IsListIter hp.objs.size l i ∧ h.IsList l items.toArray) := by simpa using Walks.list (prog := prog) (w := w) hh hp.objs.size l hne items.toArray
  rw [hlen] at W
  have ex : ∀ {o : Obj}, Ext hp (hideAll (hp.push o) [hp.objs.size]) := fun {o} c oc e => hideAll_get _ (Heap.get?_push_of_some _ e) (by simpa using Nat.ne_of_lt (Heap.lt_size e))
  refine ⟨_, _, _, ns, _, _, _, b, L, m, own, gs, dr, tk, os, rfl, rfl, W, hz, ⟨⟨_, Heap.get?_push_size _ rfl, rfl, rfl⟩, (isList_of hl).push _⟩, fun c hc => ?_, fun j v e => ?_, F.ext (.of_push _), fun c hc => ?_, ⟨fun C k t h₃ gs dr tk os m₃ E' hm hn hv e => hT.tests C k t h₃ gs dr tk os m₃ E' hm hn hv (ex.trans e), fun C k t h₃ gs dr tk os m₃ E' hm hp hn hv e => hT.elt C k t h₃ gs dr tk os m₃ E' hm hp hn hv (ex.trans e)⟩, fun D c ys h' tk' F' e hD hy => hQ D c ys h' tk' F' (ex.trans e) ((Ext.of_push _).none hD) hy⟩
  · rw [Heap.size_push]
    rcases List.mem_cons.mp hc with rfl | hc
    · exact Nat.lt_succ_self _
    · rw [List.mem_singleton.mp hc]; exact Nat.lt_succ_of_lt (Heap.lt_size hl)
  · have hj : j < ns.length := by
      have := (List.getElem?_eq_some_iff.mp e).1
      omega
    obtain ⟨t, ht⟩ := hi.get j ns[j] (List.getElem?_eq_getElem hj)
    rw [ht] at e
    cases e
    exact ⟨_, t, List.getElem?_eq_getElem hj, rfl⟩
  · rw [List.mem_singleton.mp hc]; exact ⟨fr.1, fr.2.1.symm, fr.2.2⟩
/-- the numbers of a range -/
def rangeL (a st : Int) (n : Nat) : List Int := (List.range n).map fun (i : Nat) => a + (i : Int) * st
end
section
variable {prog : Program} {w : World} {A : Around} {E : Value → Shared → Prop} {hp : Heap} {gs : Array GenState} {dr : Drawn} {tk : Nat} {os : OsState} {b : Heap} {L l l2 : Addr} {m : Str → Option Value} {own : List (Addr × Obj)} {items items2 : List Value} {n n2 : Nat} {Q : Value → Shared → Prop}
theorem lc_add (F : Fx b L hp m own) (hl : hp.get? l = some (LO items n)) (hl2 : hp.get? l2 = some (LO items2 n2)) (hz : items.length + items2.length ≤ 1000000)
    (h : ∀ D h', Fx b L h' m ((D, LO (items ++ items2) 0) :: own) → Ext hp h' → Q (.ref D) ⟨h', gs, dr, tk, os⟩) : wpAny (model prog w) A (binaryOp .Add (.ref l) (.ref l2)) Q E ⟨hp, gs, dr, tk, os⟩ := by
  refine concat_meets ⟨_, hl, rfl⟩ ⟨_, hl2, rfl⟩ noFill_list_add seq_list_add PySem.F.slot_list_add PySem.F.entry_list_add (PySem.F.args_list_add_2 _ _) (list_addW l l2 items.toArray items2.toArray n n2 none none #[] #[] (by rw [List.size_toArray, List.size_toArray, sizeLine_eq]; omega)) ⟨hl, hl2, ?_⟩
  have z := h _ _ (F.push (LO (items ++ items2) 0)) (.of_push _)
  simpa using z
theorem lc_range {r : Addr} {i0 i1 st : Int} {t u v : Tok} (F : Fx b L hp m own) (hr : hp.get? r = some (RgO i0 i1 st t u v)) (hsm : Builtin.Range.small i0 i1 st = true) (hn : Builtin.Range.rangeSize i0 i1 st = n) (hz : n ≤ 1000000) (hh : A.handled = none)
    (h : ∀ D c ys h' tk', Fx b L h' m ((D, LO ys c) :: own) → Ext hp h' → IntsAre ys (rangeL i0 st n) → Q (.ref D) ⟨h', gs, dr, tk', os⟩) : wpAny (model prog w) A (call (.type "list") [.ref r]) Q E ⟨hp, gs, dr, tk, os⟩ := by
  refine call_list_range hh hr hsm hn (by omega) fun h' tk' acc c hk hD hi => ?_
  refine h _ c acc.toList h' tk' (F.gain hk (none_at_size _) (by rw [hD])) hk (ints_of (by simp [rangeL, hi.1]) fun j v e => ?_)
  have e' : acc[j]? = some v := by simpa using e
  obtain ⟨t, rfl⟩ := hi.2 j v e'
  have hj : j < n := by
    have := (Array.getElem?_eq_some_iff.mp e').1
    rw [hi.1] at this; exact this
  exact ⟨_, t, by simp [rangeL, hj], rfl⟩
theorem x_fdiv {a c : Int} {t u : Tok} (hc : c ≠ 0) (hs : c.natAbs < 1073741824) (h : Q (.int (a.fdiv c) tk) ⟨hp, gs, dr, tk + 1, os⟩) : wpAny (model prog w) A (binaryOp .FloorDiv (.int a t) (.int c u)) Q E ⟨hp, gs, dr, tk, os⟩ :=
  floordiv_int (s := ⟨hp, gs, dr, tk, os⟩) hc h (.inl (PyProof.noPylong_small hs))
end
set_option maxHeartbeats 8000000
/-- the heap as a tree, object by object -/
def treeFrom : List Obj → Nat → BT → BT
  | [], _, t => t
  | o :: l, n, t => treeFrom l (n + 1) (t.ins n o)
def toT (s : Shared) : SharedT := ⟨treeFrom s.heap.objs.toList 0 .nil, s.heap.objs.size, s.heap.life, s.gens, s.drawn, s.toks, s.os⟩
/-- the tree holds just what the heap holds -/
def holdsAll (h : Heap) (t : BT) : List Obj → Nat → Bool
  | [], _ => true
  | _ :: l, n => (t.get n).isSome && holdsAll h t l (n + 1)
theorem ins_self (o : Obj) : ∀ (n : Nat) (t : BT), (∀ i, i < n → (t.get i).isSome = true) → ((t.ins n o).get n) = some o
  | n, .nil, h => by
    cases n with
    | zero => show (BT.node o .nil .nil).get 0 = _; rw [BT.get_node, if_pos rfl]
    | succ n => have := h 0 (by omega); simp [BT.get] at this
  | n, .node v l r, h => by
    rw [BT.ins_node]
    by_cases h0 : n = 0
    · rw [if_pos h0, BT.get_node, if_pos h0]
    · rw [if_neg h0]
      by_cases h1 : n % 2 = 1
      · rw [if_pos h1, BT.get_node, if_neg h0, if_pos h1]
        refine ins_self o (n / 2) l fun i hi => ?_
        have := h (2 * i + 1) (by omega)
        rw [BT.get_node, if_neg (by omega), if_pos (by omega), show (2 * i + 1) / 2 = i by omega] at this
        exact this
      · rw [if_neg h1, BT.get_node, if_neg h0, if_neg h1]
        refine ins_self o (n / 2 - 1) r fun i hi => ?_
        have := h (2 * i + 2) (by omega)
        rw [BT.get_node, if_neg (by omega), if_neg (by omega), show (2 * i + 2) / 2 - 1 = i by omega] at this
        exact this
termination_by n => n
decreasing_by all_goals omega
theorem treeFrom_get : ∀ (l pre : List Obj) (t : BT), (∀ i, i < pre.length → t.get i = pre[i]?) → ∀ i, i < (pre ++ l).length → (treeFrom l pre.length t).get i = (pre ++ l)[i]?
  | [], pre, t, h, i, hi => by
    rw [List.append_nil] at hi ⊢
    exact h i hi
  | o :: l, pre, t, h, i, hi => by
    have hs : ∀ i, i < pre.length → (t.get i).isSome = true := fun i hi => by
      rw [h i hi, List.getElem?_eq_getElem hi]; rfl
    have e := ins_self o pre.length t hs
    have q := treeFrom_get l (pre ++ [o]) (t.ins pre.length o) (fun j hj => by
      rw [List.length_append, List.length_singleton] at hj
      rw [BT.get_ins o t pre.length (by rw [e]; rfl)]
      by_cases x : j = pre.length
      · subst x; rw [if_pos rfl, List.getElem?_append_right (Nat.le_refl _), Nat.sub_self]; rfl
      · rw [if_neg x, List.getElem?_append_left (by omega)]; exact h j (by omega)) i (by simpa using hi)
    rw [List.length_append, List.length_singleton, List.append_assoc] at q
    exact q
theorem toT_abs (s : Shared) : (toT s).abs = s := by
  obtain ⟨⟨⟨l⟩, life⟩, gens, drawn, toks, os⟩ := s
  have e : BT.list (treeFrom l 0 .nil) l.length = l := by
    apply List.ext_getElem?
    intro i
    unfold BT.list
    rw [List.getElem?_map]
    by_cases h : i < l.length
    · rw [List.getElem?_range h]
      have := treeFrom_get l [] .nil (fun i hi => by cases hi) i (by simpa using h)
      show some (((treeFrom l 0 .nil).get i).getD default) = _
      have q : (treeFrom l 0 .nil).get i = l[i]? := this
      rw [q, List.getElem?_eq_getElem h]; rfl
    · rw [List.getElem?_eq_none (by rw [List.length_range]; omega), List.getElem?_eq_none (by omega)]; rfl
  show Shared.mk (absHeap (treeFrom l 0 .nil) l.length life) gens drawn toks os = _
  unfold absHeap
  rw [e]
abbrev Stp := SharedT → Thread → Option (SharedT × Thread)
def topRunT (stp : Stp) (n₀ : Nat) (ann : Option Value) : Nat → SharedT → Thread → Option SharedT
  | 0, _, _ => none
  | n + 1, s, t => match through t with
    | true => some s
    | false => match stepOk n₀ ann t with
      | false => none
      | true => match stp s t with
        | some (s', t') => topRunT stp n₀ ann n s' t'
        | none => none
theorem topRun_of {tb : String → Option Builtin} {p : Program} {w : World} {n₀ : Nat} {ann : Option Value} : ∀ {n : Nat} {s s' : SharedT} {t : Thread}, topRunT (stepT (denote tb) p w) n₀ ann n s t = some s' → topRun tb p w n₀ ann n s.abs t = some s'.abs
  | 0, _, _, _, h => by cases h
  | n + 1, s, s', t, h => by
    unfold topRunT at h
    unfold topRun
    cases ht : through t with
    | true => rw [ht] at h; cases h; rfl
    | false =>
      rw [ht] at h
      cases hk : stepOk n₀ ann t with
      | false => rw [hk] at h; cases h
      | true =>
        rw [hk] at h
        cases hs : stepT (denote tb) p w s t with
        | none => rw [hs] at h; cases h
        | some r => obtain ⟨s₂, t₂⟩ := r; rw [hs] at h; dsimp only; rw [stepT_spec hs]; exact topRun_of h
def impEndsT (stp : Stp) : Nat → SharedT → Thread → Option SharedT
  | 0, _, _ => none
  | n + 1, s, t => match t.atExitBegin with
    | some [] => some s
    | some (_ :: _) => none
    | none => match stp s t with
      | some (s', t') => impEndsT stp n s' t'
      | none => none
theorem impEnds_of {tb : String → Option Builtin} {p : Program} {w : World} : ∀ {n : Nat} {s s' : SharedT} {t : Thread}, impEndsT (stepT (denote tb) p w) n s t = some s' → importEnds tb p w n s.abs t = some s'.abs
  | 0, _, _, _, h => by cases h
  | n + 1, s, s', t, h => by
    unfold impEndsT at h
    unfold importEnds
    cases ht : t.atExitBegin with
    | some l => rw [ht] at h; cases l with
      | nil => cases h; rfl
      | cons => cases h
    | none =>
      rw [ht] at h
      cases hs : stepT (denote tb) p w s t with
      | none => rw [hs] at h; cases h
      | some r => obtain ⟨s₂, t₂⟩ := r; rw [hs] at h; dsimp only; rw [stepT_spec hs]; exact impEnds_of h
def endsT (stp : Program → Stp) (st : Program → Shared × Thread) (fen : Program → Shared → Option Shared) (p : Program) (N : Nat) : Option Shared :=
  match impEndsT (stp (opening p)) N (toT (st (opening p)).1) (st (opening p)).2 with
  | none => none
  | some a => match fen p a.abs with
    | none => none
    | some s₀ => match s₀.heap.isNs mainGlobals && s₀.gens.size == 0 with
      | false => none
      | true => match topRunT (stp p) s₀.heap.objs.size (s₀.heap.nsMap mainGlobals "__annotations__") N (toT s₀) (topStub p) with
        | none => none
        | some b => match staticsOk (importedModules p.main.body) s₀.heap b.abs.heap && namesBound p b.abs.heap && gensDone b.abs && laidKept s₀.heap b.abs.heap with
          | false => none
          | true => some b.abs
theorem ends_of {tb : String → Option Builtin} {p : Program} {w : World} {N : Nat} {s : Shared} (h : endsT (fun q => stepT (denote tb) q w) start fenceModules? p N = some s) : openEnds tb p w N = some s := by
  unfold endsT at h
  dsimp only at h
  cases e1 : impEndsT (stepT (denote tb) (opening p) w) N (toT (start (opening p)).1) (start (opening p)).2 with
  | none => rw [e1] at h; cases h
  | some a =>
    rw [e1] at h
    dsimp only at h
    have i := impEnds_of e1
    rw [toT_abs] at i
    cases e2 : fenceModules? p a.abs with
    | none => rw [e2] at h; cases h
    | some s₀ =>
      rw [e2] at h
      dsimp only at h
      unfold openEnds fencedOpening topFrom
      rw [i]
      dsimp only [Option.bind]
      rw [e2]
      dsimp only [Option.bind]
      cases e3 : s₀.heap.isNs mainGlobals && s₀.gens.size == 0 with
      | false => rw [e3] at h; cases h
      | true =>
        rw [e3] at h
        dsimp only at h ⊢
        cases e4 : topRunT (stepT (denote tb) p w) s₀.heap.objs.size (s₀.heap.nsMap mainGlobals "__annotations__") N (toT s₀) (topStub p) with
        | none => rw [e4] at h; cases h
        | some b =>
          rw [e4] at h
          dsimp only at h
          have j := topRun_of e4
          rw [toT_abs] at j
          rw [j]
          dsimp only
          cases e5 : staticsOk (importedModules p.main.body) s₀.heap b.abs.heap && namesBound p b.abs.heap && gensDone b.abs && laidKept s₀.heap b.abs.heap with
          | false => rw [e5] at h; cases h
          | true => rw [e5] at h; exact h
theorem left_of {p q : Program} {loose : List Str} {Xt : Shared → Bool} {α : Type} {Yf : Shared → α} {Ya : World → α} {N : Nat}
    (h : ∀ w, (endsT (fun q => stepT (denote treeTable) q w) start fenceModules? p N).map (fun s => (openSeen q loose (importedModules p.main.body) Xt true s, Yf s)) = some (openGood q loose, Ya w)) : LeftO p q loose Xt Yf Ya N := fun w => by
  obtain ⟨s, e, k⟩ := Option.map_eq_some_iff.mp (h w)
  rw [ends_of e]
  exact congrArg some k
abbrev FnT := Arguments × List Stmt × Scope
def fnAt : Stmt → List FnT
  | .FunctionDef _ a b _ _ _ s _ _ _ => [(a, b, s)]
  | _ => []
def fnIn : Stmt → List FnT
  | .ClassDef _ _ _ b _ _ _ _ _ _ _ => b.flatMap fnAt
  | s => fnAt s
def fnsOf (b : List Stmt) : List FnT := b.flatMap fnIn
noncomputable def Kmk (a0 : Arguments) (b0 : List Stmt) (s0 : Scope) (a1 : Arguments) (b1 : List Stmt) (s1 : Scope) (a2 : Arguments) (b2 : List Stmt) (s2 : Scope) (a3 : Arguments) (b3 : List Stmt) (s3 : Scope) (a4 : Arguments) (b4 : List Stmt) (s4 : Scope) (a5 : Arguments) (b5 : List Stmt) (s5 : Scope) (a6 : Arguments) (b6 : List Stmt) (s6 : Scope) (a7 : Arguments) (b7 : List Stmt) (s7 : Scope) (a8 : Arguments) (b8 : List Stmt) (s8 : Scope) (a9 : Arguments) (b9 : List Stmt) (s9 : Scope) (a10 : Arguments) (b10 : List Stmt) (s10 : Scope) (a11 : Arguments) (b11 : List Stmt) (s11 : Scope) (a12 : Arguments) (b12 : List Stmt) (s12 : Scope) (a13 : Arguments) (b13 : List Stmt) (s13 : Scope) (a14 : Arguments) (b14 : List Stmt) (s14 : Scope) (a15 : Arguments) (b15 : List Stmt) (s15 : Scope) (a16 : Arguments) (b16 : List Stmt) (s16 : Scope) (a17 : Arguments) (b17 : List Stmt) (s17 : Scope) (a18 : Arguments) (b18 : List Stmt) (s18 : Scope) (a19 : Arguments) (b19 : List Stmt) (s19 : Scope) (a20 : Arguments) (b20 : List Stmt) (s20 : Scope) (a21 : Arguments) (b21 : List Stmt) (s21 : Scope) (a22 : Arguments) (b22 : List Stmt) (s22 : Scope) (a23 : Arguments) (b23 : List Stmt) (s23 : Scope) (a24 : Arguments) (b24 : List Stmt) (s24 : Scope) (a25 : Arguments) (b25 : List Stmt) (s25 : Scope) (a26 : Arguments) (b26 : List Stmt) (s26 : Scope) (a27 : Arguments) (b27 : List Stmt) (s27 : Scope) (a28 : Arguments) (b28 : List Stmt) (s28 : Scope) (a29 : Arguments) (b29 : List Stmt) (s29 : Scope) (a30 : Arguments) (b30 : List Stmt) (s30 : Scope) (a31 : Arguments) (b31 : List Stmt) (s31 : Scope) (a32 : Arguments) (b32 : List Stmt) (s32 : Scope) (a33 : Arguments) (b33 : List Stmt) (s33 : Scope) (a34 : Arguments) (b34 : List Stmt) (s34 : Scope) (a35 : Arguments) (b35 : List Stmt) (s35 : Scope) (a36 : Arguments) (b36 : List Stmt) (s36 : Scope) (a37 : Arguments) (b37 : List Stmt) (s37 : Scope) (a38 : Arguments) (b38 : List Stmt) (s38 : Scope) (a39 : Arguments) (b39 : List Stmt) (s39 : Scope) (P : Params) : Frag := [
  (nat_lit 2, ⟨.none, none, (.dict (List.toArray [⟨PyData.keyHash P (Str.ofString "\x69mport.loaded._operator"), (.str (Str.ofString "\x69mport.loaded._operator") 189), (.bool true)⟩, ⟨PyData.keyHash P (Str.ofString "class._frozen_importlib.BuiltinImporter"), (.str (Str.ofString "class._frozen_importlib.BuiltinImporter") 191), (.ref 15)⟩, ⟨PyData.keyHash P (Str.ofString "watched.\x69mport"), (.str (Str.ofString "watched.\x69mport") 212), (.ref 19)⟩, ⟨PyData.keyHash P (Str.ofString "class._frozen_importlib.ModuleSpec"), (.str (Str.ofString "class._frozen_importlib.ModuleSpec") 222), (.ref 23)⟩, ⟨PyData.keyHash P (Str.ofString "sys.modules.booked-epoch"), (.str (Str.ofString "sys.modules.booked-epoch") 251), (.int 3 0)⟩, ⟨PyData.keyHash P (Str.ofString "sys.modules.landed._operator"), (.str (Str.ofString "sys.modules.landed._operator") 252), (.bool true)⟩, ⟨PyData.keyHash P (Str.ofString "\x69mport.later-laid._operator"), (.str (Str.ofString "\x69mport.later-laid._operator") 316), (.bool true)⟩, ⟨PyData.keyHash P (Str.ofString "watched.library"), (.str (Str.ofString "watched.library") 318), (.ref 28)⟩, ⟨PyData.keyHash P (Str.ofString "watched.library-objects"), (.str (Str.ofString "watched.library-objects") 0), (.str (Str.ofString "\x0d") 0)⟩, ⟨PyData.keyHash P (Str.ofString "watched.library-deep._operator"), (.str (Str.ofString "watched.library-deep._operator") 319), (.str (Str.ofString "\x04\x00\x00\x0c\x04\x00\x00\x0c\x04\x00\x00\x03\x04\x00\x00\x0c\x08\x04dict\x02") 0)⟩]) 10), (List.toArray [])⟩),
  (nat_lit 3, ⟨(.type "dict"), none, (.dict (List.toArray [⟨PyData.keyHash P (Str.ofString "__name__"), (.str (Str.ofString "__name__") 165), (.str (Str.ofString "law_md0019_04") 747)⟩, ⟨PyData.keyHash P (Str.ofString "__doc__"), (.str (Str.ofString "__doc__") 166), .none⟩, ⟨PyData.keyHash P (Str.ofString "__package__"), (.str (Str.ofString "__package__") 167), .none⟩, ⟨PyData.keyHash P (Str.ofString "__loader__"), (.str (Str.ofString "__loader__") 168), (.builtin "__main__.__loader__#opaque")⟩, ⟨PyData.keyHash P (Str.ofString "__spec__"), (.str (Str.ofString "__spec__") 169), .none⟩, ⟨PyData.keyHash P (Str.ofString "__annotations__"), (.str (Str.ofString "__annotations__") 170), (.ref 6)⟩, ⟨PyData.keyHash P (Str.ofString "__builtins__"), (.str (Str.ofString "__builtins__") 171), (.ref 4)⟩, ⟨PyData.keyHash P (Str.ofString "__file__"), (.str (Str.ofString "__file__") 173), (.str (Str.ofString "/claim/cut.py") 172)⟩, ⟨PyData.keyHash P (Str.ofString "__cached__"), (.str (Str.ofString "__cached__") 174), .none⟩, ⟨PyData.keyHash P (Str.ofString "eq"), (.str (Str.ofString "eq") 325), (.builtin "_operator.eq")⟩, ⟨PyData.keyHash P (Str.ofString "ge"), (.str (Str.ofString "ge") 328), (.builtin "_operator.ge")⟩, ⟨PyData.keyHash P (Str.ofString "gt"), (.str (Str.ofString "gt") 331), (.builtin "_operator.gt")⟩, ⟨PyData.keyHash P (Str.ofString "le"), (.str (Str.ofString "le") 334), (.builtin "_operator.le")⟩, ⟨PyData.keyHash P (Str.ofString "lt"), (.str (Str.ofString "lt") 337), (.builtin "_operator.lt")⟩, ⟨PyData.keyHash P (Str.ofString "_wall"), (.str (Str.ofString "_wall") 350), (.ref 39)⟩, ⟨PyData.keyHash P (Str.ofString "_bitcount"), (.str (Str.ofString "_bitcount") 359), (.ref 46)⟩, ⟨PyData.keyHash P (Str.ofString "BRANCH_FACTOR"), (.str (Str.ofString "BRANCH_FACTOR") 361), (.int 32 360)⟩, ⟨PyData.keyHash P (Str.ofString "BIT_MASK"), (.str (Str.ofString "BIT_MASK") 364), (.int 31 363)⟩, ⟨PyData.keyHash P (Str.ofString "SHIFT"), (.str (Str.ofString "SHIFT") 369), (.int 5 368)⟩, ⟨PyData.keyHash P (Str.ofString "compare_pvector"), (.str (Str.ofString "compare_pvector") 378), (.ref 54)⟩, ⟨PyData.keyHash P (Str.ofString "PythonPVector"), (.str (Str.ofString "PythonPVector") 719), (.ref 296)⟩, ⟨PyData.keyHash P (Str.ofString "_EMPTY_PVECTOR"), (.str (Str.ofString "_EMPTY_PVECTOR") 739), (.ref 311)⟩, ⟨PyData.keyHash P (Str.ofString "python_pvector"), (.str (Str.ofString "python_pvector") 746), (.ref 320)⟩, ⟨PyData.keyHash P (Str.ofString "_law_digits"), (.str (Str.ofString "_law_digits") 758), (.ref 327)⟩, ⟨PyData.keyHash P (Str.ofString "_law_first"), (.str (Str.ofString "_law_first") 770), (.ref 334)⟩, ⟨PyData.keyHash P (Str.ofString "_law_index"), (.str (Str.ofString "_law_index") 779), (.ref 341)⟩, ⟨PyData.keyHash P (Str.ofString "law"), (.str (Str.ofString "law") 785), (.ref 346)⟩]) 27), (List.toArray [])⟩),
  (nat_lit 33, ⟨(.type "tuple"), none, (.seq (List.toArray []) 0), (List.toArray [])⟩),
  (nat_lit 35, ⟨(.type "tuple"), none, (.seq (List.toArray [(.str (Str.ofString "k") 347)]) 0), (List.toArray [])⟩),
  (nat_lit 36, ⟨(.type "tuple"), none, (.seq (List.toArray []) 0), (List.toArray [])⟩),
  (nat_lit 38, ⟨(.type "code"), none, (.fields (List.toArray [(.str (Str.ofString "_wall") 344), (.str (Str.ofString "_wall") 345), (.str (Str.ofString "/claim/cut.py") 346), (.int 2 0), (.int 1 0), (.int 0 0), (.int 0 0), (.int 3 0), (.ref 33), (.bool true), (.int 338 0), (.ref 34), .none, (.ref 35), (.ref 36), (.ref 37), (.int 348 0), (.int 2 0), (.str (Str.ofString "/claim/cut.py") 349)])), (List.toArray [])⟩),
  (nat_lit 39, ⟨(.type "function"), none, (.func ⟨(Str.ofString "_wall"), (Str.ofString "_wall"), a0, .stmts b0, s0, 3, [], .none, .none, .none, (.str (Str.ofString "__main__") 164), none, (.ref 38), .none, 0⟩), (List.toArray [])⟩),
  (nat_lit 48, ⟨(.type "tuple"), none, (.seq (List.toArray []) 0), (List.toArray [])⟩),
  (nat_lit 50, ⟨(.type "tuple"), none, (.seq (List.toArray [(.str (Str.ofString "v") 373), (.str (Str.ofString "other") 374), (.str (Str.ofString "operator") 375)]) 0), (List.toArray [])⟩),
  (nat_lit 51, ⟨(.type "tuple"), none, (.seq (List.toArray []) 0), (List.toArray [])⟩),
  (nat_lit 53, ⟨(.type "code"), none, (.fields (List.toArray [(.str (Str.ofString "compare_pvector") 370), (.str (Str.ofString "compare_pvector") 371), (.str (Str.ofString "/claim/cut.py") 372), (.int 11 0), (.int 3 0), (.int 0 0), (.int 0 0), (.int 3 0), (.ref 48), (.bool true), (.int 338 0), (.ref 49), .none, (.ref 50), (.ref 51), (.ref 52), (.int 376 0), (.int 11 0), (.str (Str.ofString "/claim/cut.py") 377)])), (List.toArray [])⟩),
  (nat_lit 54, ⟨(.type "function"), none, (.func ⟨(Str.ofString "compare_pvector"), (Str.ofString "compare_pvector"), a2, .stmts b2, s2, 3, [], .none, .none, .none, (.str (Str.ofString "pyrsistent._pvector") 351), none, (.ref 53), .none, 0⟩), (List.toArray [])⟩),
  (nat_lit 55, ⟨(.type "tuple"), none, (.seq (List.toArray [(.type "object")]) 0), (List.toArray [])⟩),
  (nat_lit 58, ⟨(.type "cell"), none, (.cell (some (.ref 296))), (List.toArray [])⟩),
  (nat_lit 63, ⟨(.type "tuple"), none, (.seq (List.toArray [(.str (Str.ofString "_count") 391), (.str (Str.ofString "_shift") 392), (.str (Str.ofString "_root") 393), (.str (Str.ofString "_tail") 394), (.str (Str.ofString "_tail_offset") 395), (.str (Str.ofString "__weakref__") 396)]) 0), (List.toArray [])⟩),
  (nat_lit 64, ⟨(.type "tuple"), none, (.seq (List.toArray [(.ref 58)]) 0), (List.toArray [])⟩),
  (nat_lit 65, ⟨(.type "tuple"), none, (.seq (List.toArray [(.str (Str.ofString "__class__") 401)]) 0), (List.toArray [])⟩),
  (nat_lit 67, ⟨(.type "tuple"), none, (.seq (List.toArray [(.str (Str.ofString "cls") 402), (.str (Str.ofString "count") 403), (.str (Str.ofString "shift") 404), (.str (Str.ofString "root") 405), (.str (Str.ofString "tail") 406), (.str (Str.ofString "self") 407)]) 0), (List.toArray [])⟩),
  (nat_lit 68, ⟨(.type "tuple"), none, (.seq (List.toArray []) 0), (List.toArray [])⟩),
  (nat_lit 70, ⟨(.type "code"), none, (.fields (List.toArray [(.str (Str.ofString "__new__") 398), (.str (Str.ofString "PythonPVector.__new__") 399), (.str (Str.ofString "/claim/cut.py") 400), (.int 16 0), (.int 5 0), (.int 0 0), (.int 0 0), (.int 3 0), (.ref 65), (.bool true), (.int 338 0), (.ref 66), .none, (.ref 67), (.ref 68), (.ref 69), (.int 408 0), (.int 16 0), (.str (Str.ofString "/claim/cut.py") 409)])), (List.toArray [])⟩),
  (nat_lit 71, ⟨(.type "function"), none, (.func ⟨(Str.ofString "__new__"), (Str.ofString "PythonPVector.__new__"), a3, .stmts b3, s3, 3, [((Str.ofString "__class__"), 58)], .none, .none, .none, (.str (Str.ofString "pyrsistent._pvector") 351), none, (.ref 70), (.ref 64), 0⟩), (List.toArray [])⟩),
  (nat_lit 72, ⟨(.type "tuple"), none, (.seq (List.toArray []) 0), (List.toArray [])⟩),
  (nat_lit 74, ⟨(.type "tuple"), none, (.seq (List.toArray [(.str (Str.ofString "self") 414)]) 0), (List.toArray [])⟩),
  (nat_lit 75, ⟨(.type "tuple"), none, (.seq (List.toArray []) 0), (List.toArray [])⟩),
  (nat_lit 77, ⟨(.type "code"), none, (.fields (List.toArray [(.str (Str.ofString "__len__") 411), (.str (Str.ofString "PythonPVector.__len__") 412), (.str (Str.ofString "/claim/cut.py") 413), (.int 25 0), (.int 1 0), (.int 0 0), (.int 0 0), (.int 3 0), (.ref 72), (.bool true), (.int 338 0), (.ref 73), .none, (.ref 74), (.ref 75), (.ref 76), (.int 415 0), (.int 25 0), (.str (Str.ofString "/claim/cut.py") 416)])), (List.toArray [])⟩),
  (nat_lit 78, ⟨(.type "function"), none, (.func ⟨(Str.ofString "__len__"), (Str.ofString "PythonPVector.__len__"), a4, .stmts b4, s4, 3, [], .none, .none, .none, (.str (Str.ofString "pyrsistent._pvector") 351), none, (.ref 77), .none, 0⟩), (List.toArray [])⟩),
  (nat_lit 79, ⟨(.type "tuple"), none, (.seq (List.toArray []) 0), (List.toArray [])⟩),
  (nat_lit 81, ⟨(.type "tuple"), none, (.seq (List.toArray [(.str (Str.ofString "self") 421), (.str (Str.ofString "index") 422)]) 0), (List.toArray [])⟩),
  (nat_lit 82, ⟨(.type "tuple"), none, (.seq (List.toArray []) 0), (List.toArray [])⟩),
  (nat_lit 84, ⟨(.type "code"), none, (.fields (List.toArray [(.str (Str.ofString "__getitem__") 418), (.str (Str.ofString "PythonPVector.__getitem__") 419), (.str (Str.ofString "/claim/cut.py") 420), (.int 28 0), (.int 2 0), (.int 0 0), (.int 0 0), (.int 3 0), (.ref 79), (.bool true), (.int 338 0), (.ref 80), .none, (.ref 81), (.ref 82), (.ref 83), (.int 423 0), (.int 28 0), (.str (Str.ofString "/claim/cut.py") 424)])), (List.toArray [])⟩),
  (nat_lit 85, ⟨(.type "function"), none, (.func ⟨(Str.ofString "__getitem__"), (Str.ofString "PythonPVector.__getitem__"), a5, .stmts b5, s5, 3, [], .none, .none, .none, (.str (Str.ofString "pyrsistent._pvector") 351), none, (.ref 84), .none, 0⟩), (List.toArray [])⟩),
  (nat_lit 86, ⟨(.type "tuple"), none, (.seq (List.toArray []) 0), (List.toArray [])⟩),
  (nat_lit 88, ⟨(.type "tuple"), none, (.seq (List.toArray [(.str (Str.ofString "self") 429), (.str (Str.ofString "other") 430)]) 0), (List.toArray [])⟩),
  (nat_lit 89, ⟨(.type "tuple"), none, (.seq (List.toArray []) 0), (List.toArray [])⟩),
  (nat_lit 91, ⟨(.type "code"), none, (.fields (List.toArray [(.str (Str.ofString "__add__") 426), (.str (Str.ofString "PythonPVector.__add__") 427), (.str (Str.ofString "/claim/cut.py") 428), (.int 37 0), (.int 2 0), (.int 0 0), (.int 0 0), (.int 3 0), (.ref 86), (.bool true), (.int 338 0), (.ref 87), .none, (.ref 88), (.ref 89), (.ref 90), (.int 431 0), (.int 37 0), (.str (Str.ofString "/claim/cut.py") 432)])), (List.toArray [])⟩),
  (nat_lit 92, ⟨(.type "function"), none, (.func ⟨(Str.ofString "__add__"), (Str.ofString "PythonPVector.__add__"), a6, .stmts b6, s6, 3, [], .none, .none, .none, (.str (Str.ofString "pyrsistent._pvector") 351), none, (.ref 91), .none, 0⟩), (List.toArray [])⟩),
  (nat_lit 93, ⟨(.type "tuple"), none, (.seq (List.toArray []) 0), (List.toArray [])⟩),
  (nat_lit 95, ⟨(.type "tuple"), none, (.seq (List.toArray [(.str (Str.ofString "self") 437)]) 0), (List.toArray [])⟩),
  (nat_lit 96, ⟨(.type "tuple"), none, (.seq (List.toArray []) 0), (List.toArray [])⟩),
  (nat_lit 98, ⟨(.type "code"), none, (.fields (List.toArray [(.str (Str.ofString "__repr__") 434), (.str (Str.ofString "PythonPVector.__repr__") 435), (.str (Str.ofString "/claim/cut.py") 436), (.int 40 0), (.int 1 0), (.int 0 0), (.int 0 0), (.int 3 0), (.ref 93), (.bool true), (.int 338 0), (.ref 94), .none, (.ref 95), (.ref 96), (.ref 97), (.int 438 0), (.int 40 0), (.str (Str.ofString "/claim/cut.py") 439)])), (List.toArray [])⟩),
  (nat_lit 99, ⟨(.type "function"), none, (.func ⟨(Str.ofString "__repr__"), (Str.ofString "PythonPVector.__repr__"), a7, .stmts b7, s7, 3, [], .none, .none, .none, (.str (Str.ofString "pyrsistent._pvector") 351), none, (.ref 98), .none, 0⟩), (List.toArray [])⟩),
  (nat_lit 100, ⟨(.type "tuple"), none, (.seq (List.toArray []) 0), (List.toArray [])⟩),
  (nat_lit 102, ⟨(.type "tuple"), none, (.seq (List.toArray [(.str (Str.ofString "self") 444)]) 0), (List.toArray [])⟩),
  (nat_lit 103, ⟨(.type "tuple"), none, (.seq (List.toArray []) 0), (List.toArray [])⟩),
  (nat_lit 105, ⟨(.type "code"), none, (.fields (List.toArray [(.str (Str.ofString "__str__") 441), (.str (Str.ofString "PythonPVector.__str__") 442), (.str (Str.ofString "/claim/cut.py") 443), (.int 43 0), (.int 1 0), (.int 0 0), (.int 0 0), (.int 3 0), (.ref 100), (.bool true), (.int 338 0), (.ref 101), .none, (.ref 102), (.ref 103), (.ref 104), (.int 445 0), (.int 43 0), (.str (Str.ofString "/claim/cut.py") 446)])), (List.toArray [])⟩),
  (nat_lit 106, ⟨(.type "function"), none, (.func ⟨(Str.ofString "__str__"), (Str.ofString "PythonPVector.__str__"), a8, .stmts b8, s8, 3, [], .none, .none, .none, (.str (Str.ofString "pyrsistent._pvector") 351), none, (.ref 105), .none, 0⟩), (List.toArray [])⟩),
  (nat_lit 107, ⟨(.type "tuple"), none, (.seq (List.toArray []) 0), (List.toArray [])⟩),
  (nat_lit 109, ⟨(.type "tuple"), none, (.seq (List.toArray [(.str (Str.ofString "self") 451)]) 0), (List.toArray [])⟩),
  (nat_lit 110, ⟨(.type "tuple"), none, (.seq (List.toArray []) 0), (List.toArray [])⟩),
  (nat_lit 112, ⟨(.type "code"), none, (.fields (List.toArray [(.str (Str.ofString "__iter__") 448), (.str (Str.ofString "PythonPVector.__iter__") 449), (.str (Str.ofString "/claim/cut.py") 450), (.int 46 0), (.int 1 0), (.int 0 0), (.int 0 0), (.int 3 0), (.ref 107), (.bool true), (.int 338 0), (.ref 108), .none, (.ref 109), (.ref 110), (.ref 111), (.int 452 0), (.int 46 0), (.str (Str.ofString "/claim/cut.py") 453)])), (List.toArray [])⟩),
  (nat_lit 113, ⟨(.type "function"), none, (.func ⟨(Str.ofString "__iter__"), (Str.ofString "PythonPVector.__iter__"), a9, .stmts b9, s9, 3, [], .none, .none, .none, (.str (Str.ofString "pyrsistent._pvector") 351), none, (.ref 112), .none, 0⟩), (List.toArray [])⟩),
  (nat_lit 114, ⟨(.type "tuple"), none, (.seq (List.toArray []) 0), (List.toArray [])⟩),
  (nat_lit 116, ⟨(.type "tuple"), none, (.seq (List.toArray [(.str (Str.ofString "self") 458), (.str (Str.ofString "other") 459)]) 0), (List.toArray [])⟩),
  (nat_lit 117, ⟨(.type "tuple"), none, (.seq (List.toArray []) 0), (List.toArray [])⟩),
  (nat_lit 119, ⟨(.type "code"), none, (.fields (List.toArray [(.str (Str.ofString "__ne__") 455), (.str (Str.ofString "PythonPVector.__ne__") 456), (.str (Str.ofString "/claim/cut.py") 457), (.int 49 0), (.int 2 0), (.int 0 0), (.int 0 0), (.int 3 0), (.ref 114), (.bool true), (.int 338 0), (.ref 115), .none, (.ref 116), (.ref 117), (.ref 118), (.int 460 0), (.int 49 0), (.str (Str.ofString "/claim/cut.py") 461)])), (List.toArray [])⟩),
  (nat_lit 120, ⟨(.type "function"), none, (.func ⟨(Str.ofString "__ne__"), (Str.ofString "PythonPVector.__ne__"), a10, .stmts b10, s10, 3, [], .none, .none, .none, (.str (Str.ofString "pyrsistent._pvector") 351), none, (.ref 119), .none, 0⟩), (List.toArray [])⟩),
  (nat_lit 121, ⟨(.type "tuple"), none, (.seq (List.toArray []) 0), (List.toArray [])⟩),
  (nat_lit 123, ⟨(.type "tuple"), none, (.seq (List.toArray [(.str (Str.ofString "self") 466), (.str (Str.ofString "other") 467)]) 0), (List.toArray [])⟩),
  (nat_lit 124, ⟨(.type "tuple"), none, (.seq (List.toArray []) 0), (List.toArray [])⟩),
  (nat_lit 126, ⟨(.type "code"), none, (.fields (List.toArray [(.str (Str.ofString "__eq__") 463), (.str (Str.ofString "PythonPVector.__eq__") 464), (.str (Str.ofString "/claim/cut.py") 465), (.int 52 0), (.int 2 0), (.int 0 0), (.int 0 0), (.int 3 0), (.ref 121), (.bool true), (.int 338 0), (.ref 122), .none, (.ref 123), (.ref 124), (.ref 125), (.int 468 0), (.int 52 0), (.str (Str.ofString "/claim/cut.py") 469)])), (List.toArray [])⟩),
  (nat_lit 127, ⟨(.type "function"), none, (.func ⟨(Str.ofString "__eq__"), (Str.ofString "PythonPVector.__eq__"), a11, .stmts b11, s11, 3, [], .none, .none, .none, (.str (Str.ofString "pyrsistent._pvector") 351), none, (.ref 126), .none, 0⟩), (List.toArray [])⟩),
  (nat_lit 128, ⟨(.type "tuple"), none, (.seq (List.toArray []) 0), (List.toArray [])⟩),
  (nat_lit 130, ⟨(.type "tuple"), none, (.seq (List.toArray [(.str (Str.ofString "self") 474), (.str (Str.ofString "other") 475)]) 0), (List.toArray [])⟩),
  (nat_lit 131, ⟨(.type "tuple"), none, (.seq (List.toArray []) 0), (List.toArray [])⟩),
  (nat_lit 133, ⟨(.type "code"), none, (.fields (List.toArray [(.str (Str.ofString "__gt__") 471), (.str (Str.ofString "PythonPVector.__gt__") 472), (.str (Str.ofString "/claim/cut.py") 473), (.int 55 0), (.int 2 0), (.int 0 0), (.int 0 0), (.int 3 0), (.ref 128), (.bool true), (.int 338 0), (.ref 129), .none, (.ref 130), (.ref 131), (.ref 132), (.int 476 0), (.int 55 0), (.str (Str.ofString "/claim/cut.py") 477)])), (List.toArray [])⟩),
  (nat_lit 134, ⟨(.type "function"), none, (.func ⟨(Str.ofString "__gt__"), (Str.ofString "PythonPVector.__gt__"), a12, .stmts b12, s12, 3, [], .none, .none, .none, (.str (Str.ofString "pyrsistent._pvector") 351), none, (.ref 133), .none, 0⟩), (List.toArray [])⟩),
  (nat_lit 135, ⟨(.type "tuple"), none, (.seq (List.toArray []) 0), (List.toArray [])⟩),
  (nat_lit 137, ⟨(.type "tuple"), none, (.seq (List.toArray [(.str (Str.ofString "self") 482), (.str (Str.ofString "other") 483)]) 0), (List.toArray [])⟩),
  (nat_lit 138, ⟨(.type "tuple"), none, (.seq (List.toArray []) 0), (List.toArray [])⟩),
  (nat_lit 140, ⟨(.type "code"), none, (.fields (List.toArray [(.str (Str.ofString "__lt__") 479), (.str (Str.ofString "PythonPVector.__lt__") 480), (.str (Str.ofString "/claim/cut.py") 481), (.int 58 0), (.int 2 0), (.int 0 0), (.int 0 0), (.int 3 0), (.ref 135), (.bool true), (.int 338 0), (.ref 136), .none, (.ref 137), (.ref 138), (.ref 139), (.int 484 0), (.int 58 0), (.str (Str.ofString "/claim/cut.py") 485)])), (List.toArray [])⟩),
  (nat_lit 141, ⟨(.type "function"), none, (.func ⟨(Str.ofString "__lt__"), (Str.ofString "PythonPVector.__lt__"), a13, .stmts b13, s13, 3, [], .none, .none, .none, (.str (Str.ofString "pyrsistent._pvector") 351), none, (.ref 140), .none, 0⟩), (List.toArray [])⟩),
  (nat_lit 142, ⟨(.type "tuple"), none, (.seq (List.toArray []) 0), (List.toArray [])⟩),
  (nat_lit 144, ⟨(.type "tuple"), none, (.seq (List.toArray [(.str (Str.ofString "self") 490), (.str (Str.ofString "other") 491)]) 0), (List.toArray [])⟩),
  (nat_lit 145, ⟨(.type "tuple"), none, (.seq (List.toArray []) 0), (List.toArray [])⟩),
  (nat_lit 147, ⟨(.type "code"), none, (.fields (List.toArray [(.str (Str.ofString "__ge__") 487), (.str (Str.ofString "PythonPVector.__ge__") 488), (.str (Str.ofString "/claim/cut.py") 489), (.int 61 0), (.int 2 0), (.int 0 0), (.int 0 0), (.int 3 0), (.ref 142), (.bool true), (.int 338 0), (.ref 143), .none, (.ref 144), (.ref 145), (.ref 146), (.int 492 0), (.int 61 0), (.str (Str.ofString "/claim/cut.py") 493)])), (List.toArray [])⟩),
  (nat_lit 148, ⟨(.type "function"), none, (.func ⟨(Str.ofString "__ge__"), (Str.ofString "PythonPVector.__ge__"), a14, .stmts b14, s14, 3, [], .none, .none, .none, (.str (Str.ofString "pyrsistent._pvector") 351), none, (.ref 147), .none, 0⟩), (List.toArray [])⟩),
  (nat_lit 149, ⟨(.type "tuple"), none, (.seq (List.toArray []) 0), (List.toArray [])⟩),
  (nat_lit 151, ⟨(.type "tuple"), none, (.seq (List.toArray [(.str (Str.ofString "self") 498), (.str (Str.ofString "other") 499)]) 0), (List.toArray [])⟩),
  (nat_lit 152, ⟨(.type "tuple"), none, (.seq (List.toArray []) 0), (List.toArray [])⟩),
  (nat_lit 154, ⟨(.type "code"), none, (.fields (List.toArray [(.str (Str.ofString "__le__") 495), (.str (Str.ofString "PythonPVector.__le__") 496), (.str (Str.ofString "/claim/cut.py") 497), (.int 64 0), (.int 2 0), (.int 0 0), (.int 0 0), (.int 3 0), (.ref 149), (.bool true), (.int 338 0), (.ref 150), .none, (.ref 151), (.ref 152), (.ref 153), (.int 500 0), (.int 64 0), (.str (Str.ofString "/claim/cut.py") 501)])), (List.toArray [])⟩),
  (nat_lit 155, ⟨(.type "function"), none, (.func ⟨(Str.ofString "__le__"), (Str.ofString "PythonPVector.__le__"), a15, .stmts b15, s15, 3, [], .none, .none, .none, (.str (Str.ofString "pyrsistent._pvector") 351), none, (.ref 154), .none, 0⟩), (List.toArray [])⟩),
  (nat_lit 156, ⟨(.type "tuple"), none, (.seq (List.toArray []) 0), (List.toArray [])⟩),
  (nat_lit 158, ⟨(.type "tuple"), none, (.seq (List.toArray [(.str (Str.ofString "self") 506), (.str (Str.ofString "times") 507)]) 0), (List.toArray [])⟩),
  (nat_lit 159, ⟨(.type "tuple"), none, (.seq (List.toArray []) 0), (List.toArray [])⟩),
  (nat_lit 161, ⟨(.type "code"), none, (.fields (List.toArray [(.str (Str.ofString "__mul__") 503), (.str (Str.ofString "PythonPVector.__mul__") 504), (.str (Str.ofString "/claim/cut.py") 505), (.int 67 0), (.int 2 0), (.int 0 0), (.int 0 0), (.int 3 0), (.ref 156), (.bool true), (.int 338 0), (.ref 157), .none, (.ref 158), (.ref 159), (.ref 160), (.int 508 0), (.int 67 0), (.str (Str.ofString "/claim/cut.py") 509)])), (List.toArray [])⟩),
  (nat_lit 162, ⟨(.type "function"), none, (.func ⟨(Str.ofString "__mul__"), (Str.ofString "PythonPVector.__mul__"), a16, .stmts b16, s16, 3, [], .none, .none, .none, (.str (Str.ofString "pyrsistent._pvector") 351), none, (.ref 161), .none, 0⟩), (List.toArray [])⟩),
  (nat_lit 163, ⟨(.type "tuple"), none, (.seq (List.toArray []) 0), (List.toArray [])⟩),
  (nat_lit 165, ⟨(.type "tuple"), none, (.seq (List.toArray [(.str (Str.ofString "self") 515), (.str (Str.ofString "node") 516), (.str (Str.ofString "shift") 517), (.str (Str.ofString "the_list") 518), (.str (Str.ofString "n") 519)]) 0), (List.toArray [])⟩),
  (nat_lit 166, ⟨(.type "tuple"), none, (.seq (List.toArray []) 0), (List.toArray [])⟩),
  (nat_lit 168, ⟨(.type "code"), none, (.fields (List.toArray [(.str (Str.ofString "_fill_list") 512), (.str (Str.ofString "PythonPVector._fill_list") 513), (.str (Str.ofString "/claim/cut.py") 514), (.int 75 0), (.int 4 0), (.int 0 0), (.int 0 0), (.int 3 0), (.ref 163), (.bool true), (.int 338 0), (.ref 164), .none, (.ref 165), (.ref 166), (.ref 167), (.int 520 0), (.int 75 0), (.str (Str.ofString "/claim/cut.py") 521)])), (List.toArray [])⟩),
  (nat_lit 169, ⟨(.type "function"), none, (.func ⟨(Str.ofString "_fill_list"), (Str.ofString "PythonPVector._fill_list"), a17, .stmts b17, s17, 3, [], .none, .none, .none, (.str (Str.ofString "pyrsistent._pvector") 351), none, (.ref 168), .none, 0⟩), (List.toArray [])⟩),
  (nat_lit 170, ⟨(.type "tuple"), none, (.seq (List.toArray []) 0), (List.toArray [])⟩),
  (nat_lit 172, ⟨(.type "tuple"), none, (.seq (List.toArray [(.str (Str.ofString "self") 526), (.str (Str.ofString "the_list") 527)]) 0), (List.toArray [])⟩),
  (nat_lit 173, ⟨(.type "tuple"), none, (.seq (List.toArray []) 0), (List.toArray [])⟩),
  (nat_lit 175, ⟨(.type "code"), none, (.fields (List.toArray [(.str (Str.ofString "tolist") 523), (.str (Str.ofString "PythonPVector.tolist") 524), (.str (Str.ofString "/claim/cut.py") 525), (.int 83 0), (.int 1 0), (.int 0 0), (.int 0 0), (.int 3 0), (.ref 170), (.bool true), (.int 338 0), (.ref 171), .none, (.ref 172), (.ref 173), (.ref 174), (.int 528 0), (.int 83 0), (.str (Str.ofString "/claim/cut.py") 529)])), (List.toArray [])⟩),
  (nat_lit 176, ⟨(.type "function"), none, (.func ⟨(Str.ofString "tolist"), (Str.ofString "PythonPVector.tolist"), a18, .stmts b18, s18, 3, [], .none, .none, .none, (.str (Str.ofString "pyrsistent._pvector") 351), none, (.ref 175), .none, 0⟩), (List.toArray [])⟩),
  (nat_lit 177, ⟨(.type "tuple"), none, (.seq (List.toArray []) 0), (List.toArray [])⟩),
  (nat_lit 179, ⟨(.type "tuple"), none, (.seq (List.toArray [(.str (Str.ofString "self") 534)]) 0), (List.toArray [])⟩),
  (nat_lit 180, ⟨(.type "tuple"), none, (.seq (List.toArray []) 0), (List.toArray [])⟩),
  (nat_lit 182, ⟨(.type "code"), none, (.fields (List.toArray [(.str (Str.ofString "_totuple") 531), (.str (Str.ofString "PythonPVector._totuple") 532), (.str (Str.ofString "/claim/cut.py") 533), (.int 89 0), (.int 1 0), (.int 0 0), (.int 0 0), (.int 3 0), (.ref 177), (.bool true), (.int 338 0), (.ref 178), .none, (.ref 179), (.ref 180), (.ref 181), (.int 535 0), (.int 89 0), (.str (Str.ofString "/claim/cut.py") 536)])), (List.toArray [])⟩),
  (nat_lit 183, ⟨(.type "function"), none, (.func ⟨(Str.ofString "_totuple"), (Str.ofString "PythonPVector._totuple"), a19, .stmts b19, s19, 3, [], .none, .none, .none, (.str (Str.ofString "pyrsistent._pvector") 351), none, (.ref 182), .none, 0⟩), (List.toArray [])⟩),
  (nat_lit 184, ⟨(.type "tuple"), none, (.seq (List.toArray []) 0), (List.toArray [])⟩),
  (nat_lit 186, ⟨(.type "tuple"), none, (.seq (List.toArray [(.str (Str.ofString "self") 541), (.str (Str.ofString "i") 542), (.str (Str.ofString "val") 543)]) 0), (List.toArray [])⟩),
  (nat_lit 187, ⟨(.type "tuple"), none, (.seq (List.toArray []) 0), (List.toArray [])⟩),
  (nat_lit 189, ⟨(.type "code"), none, (.fields (List.toArray [(.str (Str.ofString "set") 538), (.str (Str.ofString "PythonPVector.set") 539), (.str (Str.ofString "/claim/cut.py") 540), (.int 92 0), (.int 3 0), (.int 0 0), (.int 0 0), (.int 3 0), (.ref 184), (.bool true), (.int 338 0), (.ref 185), .none, (.ref 186), (.ref 187), (.ref 188), (.int 544 0), (.int 92 0), (.str (Str.ofString "/claim/cut.py") 545)])), (List.toArray [])⟩),
  (nat_lit 190, ⟨(.type "function"), none, (.func ⟨(Str.ofString "set"), (Str.ofString "PythonPVector.set"), a20, .stmts b20, s20, 3, [], .none, .none, .none, (.str (Str.ofString "pyrsistent._pvector") 351), none, (.ref 189), .none, 0⟩), (List.toArray [])⟩),
  (nat_lit 191, ⟨(.type "tuple"), none, (.seq (List.toArray []) 0), (List.toArray [])⟩),
  (nat_lit 193, ⟨(.type "tuple"), none, (.seq (List.toArray [(.str (Str.ofString "self") 550), (.str (Str.ofString "level") 551), (.str (Str.ofString "node") 552), (.str (Str.ofString "i") 553), (.str (Str.ofString "val") 554)]) 0), (List.toArray [])⟩),
  (nat_lit 194, ⟨(.type "tuple"), none, (.seq (List.toArray []) 0), (List.toArray [])⟩),
  (nat_lit 196, ⟨(.type "code"), none, (.fields (List.toArray [(.str (Str.ofString "_do_set") 547), (.str (Str.ofString "PythonPVector._do_set") 548), (.str (Str.ofString "/claim/cut.py") 549), (.int 95 0), (.int 5 0), (.int 0 0), (.int 0 0), (.int 3 0), (.ref 191), (.bool true), (.int 338 0), (.ref 192), .none, (.ref 193), (.ref 194), (.ref 195), (.int 555 0), (.int 95 0), (.str (Str.ofString "/claim/cut.py") 556)])), (List.toArray [])⟩),
  (nat_lit 197, ⟨(.type "function"), none, (.func ⟨(Str.ofString "_do_set"), (Str.ofString "PythonPVector._do_set"), a21, .stmts b21, s21, 3, [], .none, .none, .none, (.str (Str.ofString "pyrsistent._pvector") 351), none, (.ref 196), .none, 0⟩), (List.toArray [])⟩),
  (nat_lit 198, ⟨(.type "tuple"), none, (.seq (List.toArray []) 0), (List.toArray [])⟩),
  (nat_lit 200, ⟨(.type "tuple"), none, (.seq (List.toArray [(.str (Str.ofString "pvector_like") 561), (.str (Str.ofString "i") 562), (.str (Str.ofString "node") 563), (.str (Str.ofString "level") 564)]) 0), (List.toArray [])⟩),
  (nat_lit 201, ⟨(.type "tuple"), none, (.seq (List.toArray []) 0), (List.toArray [])⟩),
  (nat_lit 203, ⟨(.type "code"), none, (.fields (List.toArray [(.str (Str.ofString "_node_for") 558), (.str (Str.ofString "PythonPVector._node_for") 559), (.str (Str.ofString "/claim/cut.py") 560), (.int 98 0), (.int 2 0), (.int 0 0), (.int 0 0), (.int 3 0), (.ref 198), (.bool true), (.int 338 0), (.ref 199), .none, (.ref 200), (.ref 201), (.ref 202), (.int 565 0), (.int 98 0), (.str (Str.ofString "/claim/cut.py") 566)])), (List.toArray [])⟩),
  (nat_lit 204, ⟨(.type "function"), none, (.func ⟨(Str.ofString "_node_for"), (Str.ofString "PythonPVector._node_for"), a22, .stmts b22, s22, 3, [], .none, .none, .none, (.str (Str.ofString "pyrsistent._pvector") 351), (some 207), (.ref 203), .none, 0⟩), (List.toArray [])⟩),
  (nat_lit 205, ⟨(.type "dict"), none, (.dict (List.toArray [⟨PyData.keyHash P (Str.ofString "__module__"), (.str (Str.ofString "__module__") 568), (.str (Str.ofString "pyrsistent._pvector") 351)⟩, ⟨PyData.keyHash P (Str.ofString "__name__"), (.str (Str.ofString "__name__") 571), (.str (Str.ofString "_node_for") 570)⟩, ⟨PyData.keyHash P (Str.ofString "__qualname__"), (.str (Str.ofString "__qualname__") 574), (.str (Str.ofString "PythonPVector._node_for") 573)⟩, ⟨PyData.keyHash P (Str.ofString "__doc__"), (.str (Str.ofString "__doc__") 576), .none⟩, ⟨PyData.keyHash P (Str.ofString "__annotations__"), (.str (Str.ofString "__annotations__") 578), (.ref 207)⟩]) 5), (List.toArray [])⟩),
  (nat_lit 206, ⟨(.type "staticmethod"), (some 205), (.fields (List.toArray [(.ref 204), (.bool false)])), (List.toArray [])⟩),
  (nat_lit 207, ⟨(.type "dict"), none, (.dict (List.toArray []) 0), (List.toArray [])⟩),
  (nat_lit 208, ⟨(.type "tuple"), none, (.seq (List.toArray []) 0), (List.toArray [])⟩),
  (nat_lit 210, ⟨(.type "tuple"), none, (.seq (List.toArray [(.str (Str.ofString "self") 583), (.str (Str.ofString "new_shift") 584), (.str (Str.ofString "new_root") 585)]) 0), (List.toArray [])⟩),
  (nat_lit 211, ⟨(.type "tuple"), none, (.seq (List.toArray []) 0), (List.toArray [])⟩),
  (nat_lit 213, ⟨(.type "code"), none, (.fields (List.toArray [(.str (Str.ofString "_create_new_root") 580), (.str (Str.ofString "PythonPVector._create_new_root") 581), (.str (Str.ofString "/claim/cut.py") 582), (.int 109 0), (.int 1 0), (.int 0 0), (.int 0 0), (.int 3 0), (.ref 208), (.bool true), (.int 338 0), (.ref 209), .none, (.ref 210), (.ref 211), (.ref 212), (.int 586 0), (.int 109 0), (.str (Str.ofString "/claim/cut.py") 587)])), (List.toArray [])⟩),
  (nat_lit 214, ⟨(.type "function"), none, (.func ⟨(Str.ofString "_create_new_root"), (Str.ofString "PythonPVector._create_new_root"), a23, .stmts b23, s23, 3, [], .none, .none, .none, (.str (Str.ofString "pyrsistent._pvector") 351), none, (.ref 213), .none, 0⟩), (List.toArray [])⟩),
  (nat_lit 215, ⟨(.type "tuple"), none, (.seq (List.toArray []) 0), (List.toArray [])⟩),
  (nat_lit 217, ⟨(.type "tuple"), none, (.seq (List.toArray [(.str (Str.ofString "self") 592), (.str (Str.ofString "val") 593), (.str (Str.ofString "new_tail") 594), (.str (Str.ofString "new_root") 595), (.str (Str.ofString "new_shift") 596)]) 0), (List.toArray [])⟩),
  (nat_lit 218, ⟨(.type "tuple"), none, (.seq (List.toArray []) 0), (List.toArray [])⟩),
  (nat_lit 220, ⟨(.type "code"), none, (.fields (List.toArray [(.str (Str.ofString "append") 589), (.str (Str.ofString "PythonPVector.append") 590), (.str (Str.ofString "/claim/cut.py") 591), (.int 118 0), (.int 2 0), (.int 0 0), (.int 0 0), (.int 3 0), (.ref 215), (.bool true), (.int 338 0), (.ref 216), .none, (.ref 217), (.ref 218), (.ref 219), (.int 597 0), (.int 118 0), (.str (Str.ofString "/claim/cut.py") 598)])), (List.toArray [])⟩),
  (nat_lit 221, ⟨(.type "function"), none, (.func ⟨(Str.ofString "append"), (Str.ofString "PythonPVector.append"), a24, .stmts b24, s24, 3, [], .none, .none, .none, (.str (Str.ofString "pyrsistent._pvector") 351), none, (.ref 220), .none, 0⟩), (List.toArray [])⟩),
  (nat_lit 222, ⟨(.type "tuple"), none, (.seq (List.toArray []) 0), (List.toArray [])⟩),
  (nat_lit 224, ⟨(.type "tuple"), none, (.seq (List.toArray [(.str (Str.ofString "self") 603), (.str (Str.ofString "level") 604), (.str (Str.ofString "node") 605)]) 0), (List.toArray [])⟩),
  (nat_lit 225, ⟨(.type "tuple"), none, (.seq (List.toArray []) 0), (List.toArray [])⟩),
  (nat_lit 227, ⟨(.type "code"), none, (.fields (List.toArray [(.str (Str.ofString "_new_path") 600), (.str (Str.ofString "PythonPVector._new_path") 601), (.str (Str.ofString "/claim/cut.py") 602), (.int 126 0), (.int 3 0), (.int 0 0), (.int 0 0), (.int 3 0), (.ref 222), (.bool true), (.int 338 0), (.ref 223), .none, (.ref 224), (.ref 225), (.ref 226), (.int 606 0), (.int 126 0), (.str (Str.ofString "/claim/cut.py") 607)])), (List.toArray [])⟩),
  (nat_lit 228, ⟨(.type "function"), none, (.func ⟨(Str.ofString "_new_path"), (Str.ofString "PythonPVector._new_path"), a25, .stmts b25, s25, 3, [], .none, .none, .none, (.str (Str.ofString "pyrsistent._pvector") 351), none, (.ref 227), .none, 0⟩), (List.toArray [])⟩),
  (nat_lit 229, ⟨(.type "tuple"), none, (.seq (List.toArray []) 0), (List.toArray [])⟩),
  (nat_lit 231, ⟨(.type "tuple"), none, (.seq (List.toArray [(.str (Str.ofString "self") 612)]) 0), (List.toArray [])⟩),
  (nat_lit 232, ⟨(.type "tuple"), none, (.seq (List.toArray []) 0), (List.toArray [])⟩),
  (nat_lit 234, ⟨(.type "code"), none, (.fields (List.toArray [(.str (Str.ofString "_mutating_insert_tail") 609), (.str (Str.ofString "PythonPVector._mutating_insert_tail") 610), (.str (Str.ofString "/claim/cut.py") 611), (.int 131 0), (.int 1 0), (.int 0 0), (.int 0 0), (.int 3 0), (.ref 229), (.bool true), (.int 338 0), (.ref 230), .none, (.ref 231), (.ref 232), (.ref 233), (.int 613 0), (.int 131 0), (.str (Str.ofString "/claim/cut.py") 614)])), (List.toArray [])⟩),
  (nat_lit 235, ⟨(.type "function"), none, (.func ⟨(Str.ofString "_mutating_insert_tail"), (Str.ofString "PythonPVector._mutating_insert_tail"), a26, .stmts b26, s26, 3, [], .none, .none, .none, (.str (Str.ofString "pyrsistent._pvector") 351), none, (.ref 234), .none, 0⟩), (List.toArray [])⟩),
  (nat_lit 236, ⟨(.type "tuple"), none, (.seq (List.toArray []) 0), (List.toArray [])⟩),
  (nat_lit 238, ⟨(.type "tuple"), none, (.seq (List.toArray [(.str (Str.ofString "self") 619), (.str (Str.ofString "offset") 620), (.str (Str.ofString "sequence") 621), (.str (Str.ofString "max_delta_len") 622), (.str (Str.ofString "delta") 623), (.str (Str.ofString "delta_len") 624)]) 0), (List.toArray [])⟩),
  (nat_lit 239, ⟨(.type "tuple"), none, (.seq (List.toArray []) 0), (List.toArray [])⟩),
  (nat_lit 241, ⟨(.type "code"), none, (.fields (List.toArray [(.str (Str.ofString "_mutating_fill_tail") 616), (.str (Str.ofString "PythonPVector._mutating_fill_tail") 617), (.str (Str.ofString "/claim/cut.py") 618), (.int 135 0), (.int 3 0), (.int 0 0), (.int 0 0), (.int 3 0), (.ref 236), (.bool true), (.int 338 0), (.ref 237), .none, (.ref 238), (.ref 239), (.ref 240), (.int 625 0), (.int 135 0), (.str (Str.ofString "/claim/cut.py") 626)])), (List.toArray [])⟩),
  (nat_lit 242, ⟨(.type "function"), none, (.func ⟨(Str.ofString "_mutating_fill_tail"), (Str.ofString "PythonPVector._mutating_fill_tail"), a27, .stmts b27, s27, 3, [], .none, .none, .none, (.str (Str.ofString "pyrsistent._pvector") 351), none, (.ref 241), .none, 0⟩), (List.toArray [])⟩),
  (nat_lit 243, ⟨(.type "tuple"), none, (.seq (List.toArray []) 0), (List.toArray [])⟩),
  (nat_lit 245, ⟨(.type "tuple"), none, (.seq (List.toArray [(.str (Str.ofString "self") 631), (.str (Str.ofString "sequence") 632), (.str (Str.ofString "offset") 633), (.str (Str.ofString "sequence_len") 634)]) 0), (List.toArray [])⟩),
  (nat_lit 246, ⟨(.type "tuple"), none, (.seq (List.toArray []) 0), (List.toArray [])⟩),
  (nat_lit 248, ⟨(.type "code"), none, (.fields (List.toArray [(.str (Str.ofString "_mutating_extend") 628), (.str (Str.ofString "PythonPVector._mutating_extend") 629), (.str (Str.ofString "/claim/cut.py") 630), (.int 143 0), (.int 2 0), (.int 0 0), (.int 0 0), (.int 3 0), (.ref 243), (.bool true), (.int 338 0), (.ref 244), .none, (.ref 245), (.ref 246), (.ref 247), (.int 635 0), (.int 143 0), (.str (Str.ofString "/claim/cut.py") 636)])), (List.toArray [])⟩),
  (nat_lit 249, ⟨(.type "function"), none, (.func ⟨(Str.ofString "_mutating_extend"), (Str.ofString "PythonPVector._mutating_extend"), a28, .stmts b28, s28, 3, [], .none, .none, .none, (.str (Str.ofString "pyrsistent._pvector") 351), none, (.ref 248), .none, 0⟩), (List.toArray [])⟩),
  (nat_lit 250, ⟨(.type "tuple"), none, (.seq (List.toArray []) 0), (List.toArray [])⟩),
  (nat_lit 252, ⟨(.type "tuple"), none, (.seq (List.toArray [(.str (Str.ofString "self") 641), (.str (Str.ofString "obj") 642), (.str (Str.ofString "l") 643), (.str (Str.ofString "new_vector") 644)]) 0), (List.toArray [])⟩),
  (nat_lit 253, ⟨(.type "tuple"), none, (.seq (List.toArray []) 0), (List.toArray [])⟩),
  (nat_lit 255, ⟨(.type "code"), none, (.fields (List.toArray [(.str (Str.ofString "extend") 638), (.str (Str.ofString "PythonPVector.extend") 639), (.str (Str.ofString "/claim/cut.py") 640), (.int 152 0), (.int 2 0), (.int 0 0), (.int 0 0), (.int 3 0), (.ref 250), (.bool true), (.int 338 0), (.ref 251), .none, (.ref 252), (.ref 253), (.ref 254), (.int 645 0), (.int 152 0), (.str (Str.ofString "/claim/cut.py") 646)])), (List.toArray [])⟩),
  (nat_lit 256, ⟨(.type "function"), none, (.func ⟨(Str.ofString "extend"), (Str.ofString "PythonPVector.extend"), a29, .stmts b29, s29, 3, [], .none, .none, .none, (.str (Str.ofString "pyrsistent._pvector") 351), none, (.ref 255), .none, 0⟩), (List.toArray [])⟩),
  (nat_lit 257, ⟨(.type "tuple"), none, (.seq (List.toArray []) 0), (List.toArray [])⟩),
  (nat_lit 259, ⟨(.type "tuple"), none, (.seq (List.toArray [(.str (Str.ofString "self") 651), (.str (Str.ofString "level") 652), (.str (Str.ofString "parent") 653), (.str (Str.ofString "tail_node") 654), (.str (Str.ofString "ret") 655), (.str (Str.ofString "sub_index") 656)]) 0), (List.toArray [])⟩),
  (nat_lit 260, ⟨(.type "tuple"), none, (.seq (List.toArray []) 0), (List.toArray [])⟩),
  (nat_lit 262, ⟨(.type "code"), none, (.fields (List.toArray [(.str (Str.ofString "_push_tail") 648), (.str (Str.ofString "PythonPVector._push_tail") 649), (.str (Str.ofString "/claim/cut.py") 650), (.int 160 0), (.int 4 0), (.int 0 0), (.int 0 0), (.int 3 0), (.ref 257), (.bool true), (.int 338 0), (.ref 258), .none, (.ref 259), (.ref 260), (.ref 261), (.int 657 0), (.int 160 0), (.str (Str.ofString "/claim/cut.py") 658)])), (List.toArray [])⟩),
  (nat_lit 263, ⟨(.type "function"), none, (.func ⟨(Str.ofString "_push_tail"), (Str.ofString "PythonPVector._push_tail"), a30, .stmts b30, s30, 3, [], .none, .none, .none, (.str (Str.ofString "pyrsistent._pvector") 351), none, (.ref 262), .none, 0⟩), (List.toArray [])⟩),
  (nat_lit 264, ⟨(.type "tuple"), none, (.seq (List.toArray []) 0), (List.toArray [])⟩),
  (nat_lit 266, ⟨(.type "tuple"), none, (.seq (List.toArray [(.str (Str.ofString "self") 663), (.str (Str.ofString "value") 664), (.str (Str.ofString "args") 665), (.str (Str.ofString "kwargs") 666)]) 0), (List.toArray [])⟩),
  (nat_lit 267, ⟨(.type "tuple"), none, (.seq (List.toArray []) 0), (List.toArray [])⟩),
  (nat_lit 269, ⟨(.type "code"), none, (.fields (List.toArray [(.str (Str.ofString "index") 660), (.str (Str.ofString "PythonPVector.index") 661), (.str (Str.ofString "/claim/cut.py") 662), (.int 172 0), (.int 2 0), (.int 0 0), (.int 0 0), (.int 15 0), (.ref 264), (.bool true), (.int 338 0), (.ref 265), .none, (.ref 266), (.ref 267), (.ref 268), (.int 667 0), (.int 172 0), (.str (Str.ofString "/claim/cut.py") 668)])), (List.toArray [])⟩),
  (nat_lit 270, ⟨(.type "function"), none, (.func ⟨(Str.ofString "index"), (Str.ofString "PythonPVector.index"), a31, .stmts b31, s31, 3, [], .none, .none, .none, (.str (Str.ofString "pyrsistent._pvector") 351), none, (.ref 269), .none, 0⟩), (List.toArray [])⟩),
  (nat_lit 271, ⟨(.type "tuple"), none, (.seq (List.toArray []) 0), (List.toArray [])⟩),
  (nat_lit 273, ⟨(.type "tuple"), none, (.seq (List.toArray [(.str (Str.ofString "self") 673), (.str (Str.ofString "value") 674)]) 0), (List.toArray [])⟩),
  (nat_lit 274, ⟨(.type "tuple"), none, (.seq (List.toArray []) 0), (List.toArray [])⟩),
  (nat_lit 276, ⟨(.type "code"), none, (.fields (List.toArray [(.str (Str.ofString "count") 670), (.str (Str.ofString "PythonPVector.count") 671), (.str (Str.ofString "/claim/cut.py") 672), (.int 175 0), (.int 2 0), (.int 0 0), (.int 0 0), (.int 3 0), (.ref 271), (.bool true), (.int 338 0), (.ref 272), .none, (.ref 273), (.ref 274), (.ref 275), (.int 675 0), (.int 175 0), (.str (Str.ofString "/claim/cut.py") 676)])), (List.toArray [])⟩),
  (nat_lit 277, ⟨(.type "function"), none, (.func ⟨(Str.ofString "count"), (Str.ofString "PythonPVector.count"), a32, .stmts b32, s32, 3, [], .none, .none, .none, (.str (Str.ofString "pyrsistent._pvector") 351), none, (.ref 276), .none, 0⟩), (List.toArray [])⟩),
  (nat_lit 278, ⟨(.type "tuple"), none, (.seq (List.toArray [.none]) 0), (List.toArray [])⟩),
  (nat_lit 279, ⟨(.type "tuple"), none, (.seq (List.toArray []) 0), (List.toArray [])⟩),
  (nat_lit 281, ⟨(.type "tuple"), none, (.seq (List.toArray [(.str (Str.ofString "self") 681), (.str (Str.ofString "index") 682), (.str (Str.ofString "stop") 683)]) 0), (List.toArray [])⟩),
  (nat_lit 282, ⟨(.type "tuple"), none, (.seq (List.toArray []) 0), (List.toArray [])⟩),
  (nat_lit 284, ⟨(.type "code"), none, (.fields (List.toArray [(.str (Str.ofString "delete") 678), (.str (Str.ofString "PythonPVector.delete") 679), (.str (Str.ofString "/claim/cut.py") 680), (.int 178 0), (.int 3 0), (.int 0 0), (.int 0 0), (.int 3 0), (.ref 279), (.bool true), (.int 338 0), (.ref 280), .none, (.ref 281), (.ref 282), (.ref 283), (.int 684 0), (.int 178 0), (.str (Str.ofString "/claim/cut.py") 685)])), (List.toArray [])⟩),
  (nat_lit 285, ⟨(.type "function"), none, (.func ⟨(Str.ofString "delete"), (Str.ofString "PythonPVector.delete"), a33, .stmts b33, s33, 3, [], (.ref 278), .none, .none, (.str (Str.ofString "pyrsistent._pvector") 351), none, (.ref 284), .none, 0⟩), (List.toArray [])⟩),
  (nat_lit 286, ⟨(.type "tuple"), none, (.seq (List.toArray []) 0), (List.toArray [])⟩),
  (nat_lit 288, ⟨(.type "tuple"), none, (.seq (List.toArray [(.str (Str.ofString "self") 690), (.str (Str.ofString "value") 691), (.str (Str.ofString "l") 692)]) 0), (List.toArray [])⟩),
  (nat_lit 289, ⟨(.type "tuple"), none, (.seq (List.toArray []) 0), (List.toArray [])⟩),
  (nat_lit 291, ⟨(.type "code"), none, (.fields (List.toArray [(.str (Str.ofString "remove") 687), (.str (Str.ofString "PythonPVector.remove") 688), (.str (Str.ofString "/claim/cut.py") 689), (.int 181 0), (.int 2 0), (.int 0 0), (.int 0 0), (.int 3 0), (.ref 286), (.bool true), (.int 338 0), (.ref 287), .none, (.ref 288), (.ref 289), (.ref 290), (.int 693 0), (.int 181 0), (.str (Str.ofString "/claim/cut.py") 694)])), (List.toArray [])⟩),
  (nat_lit 292, ⟨(.type "function"), none, (.func ⟨(Str.ofString "remove"), (Str.ofString "PythonPVector.remove"), a34, .stmts b34, s34, 3, [], .none, .none, .none, (.str (Str.ofString "pyrsistent._pvector") 351), none, (.ref 291), .none, 0⟩), (List.toArray [])⟩),
  (nat_lit 293, ⟨(.type "tuple"), none, (.seq (List.toArray [(.str (Str.ofString "_count") 696), (.str (Str.ofString "_root") 697), (.str (Str.ofString "_shift") 698), (.str (Str.ofString "_tail") 699), (.str (Str.ofString "_tail_offset") 700)]) 0), (List.toArray [])⟩),
  (nat_lit 295, ⟨(.type "dict"), none, (.dict (List.toArray [⟨PyData.keyHash P (Str.ofString "__module__"), (.str (Str.ofString "__module__") 386), (.str (Str.ofString "pyrsistent._pvector") 351)⟩, ⟨PyData.keyHash P (Str.ofString "__firstlineno__"), (.str (Str.ofString "__firstlineno__") 390), (.int 13 389)⟩, ⟨PyData.keyHash P (Str.ofString "__slots__"), (.str (Str.ofString "__slots__") 397), (.ref 63)⟩, ⟨PyData.keyHash P (Str.ofString "__new__"), (.str (Str.ofString "__new__") 410), (.ref 297)⟩, ⟨PyData.keyHash P (Str.ofString "__len__"), (.str (Str.ofString "__len__") 417), (.ref 78)⟩, ⟨PyData.keyHash P (Str.ofString "__getitem__"), (.str (Str.ofString "__getitem__") 425), (.ref 85)⟩, ⟨PyData.keyHash P (Str.ofString "__add__"), (.str (Str.ofString "__add__") 433), (.ref 92)⟩, ⟨PyData.keyHash P (Str.ofString "__repr__"), (.str (Str.ofString "__repr__") 440), (.ref 99)⟩, ⟨PyData.keyHash P (Str.ofString "__str__"), (.str (Str.ofString "__str__") 447), (.ref 106)⟩, ⟨PyData.keyHash P (Str.ofString "__iter__"), (.str (Str.ofString "__iter__") 454), (.ref 113)⟩, ⟨PyData.keyHash P (Str.ofString "__ne__"), (.str (Str.ofString "__ne__") 462), (.ref 120)⟩, ⟨PyData.keyHash P (Str.ofString "__eq__"), (.str (Str.ofString "__eq__") 470), (.ref 127)⟩, ⟨PyData.keyHash P (Str.ofString "__gt__"), (.str (Str.ofString "__gt__") 478), (.ref 134)⟩, ⟨PyData.keyHash P (Str.ofString "__lt__"), (.str (Str.ofString "__lt__") 486), (.ref 141)⟩, ⟨PyData.keyHash P (Str.ofString "__ge__"), (.str (Str.ofString "__ge__") 494), (.ref 148)⟩, ⟨PyData.keyHash P (Str.ofString "__le__"), (.str (Str.ofString "__le__") 502), (.ref 155)⟩, ⟨PyData.keyHash P (Str.ofString "__mul__"), (.str (Str.ofString "__mul__") 510), (.ref 162)⟩, ⟨PyData.keyHash P (Str.ofString "__rmul__"), (.str (Str.ofString "__rmul__") 511), (.ref 162)⟩, ⟨PyData.keyHash P (Str.ofString "_fill_list"), (.str (Str.ofString "_fill_list") 522), (.ref 169)⟩, ⟨PyData.keyHash P (Str.ofString "tolist"), (.str (Str.ofString "tolist") 530), (.ref 176)⟩, ⟨PyData.keyHash P (Str.ofString "_totuple"), (.str (Str.ofString "_totuple") 537), (.ref 183)⟩, ⟨PyData.keyHash P (Str.ofString "set"), (.str (Str.ofString "set") 546), (.ref 190)⟩, ⟨PyData.keyHash P (Str.ofString "_do_set"), (.str (Str.ofString "_do_set") 557), (.ref 197)⟩, ⟨PyData.keyHash P (Str.ofString "_node_for"), (.str (Str.ofString "_node_for") 579), (.ref 206)⟩, ⟨PyData.keyHash P (Str.ofString "_create_new_root"), (.str (Str.ofString "_create_new_root") 588), (.ref 214)⟩, ⟨PyData.keyHash P (Str.ofString "append"), (.str (Str.ofString "append") 599), (.ref 221)⟩, ⟨PyData.keyHash P (Str.ofString "_new_path"), (.str (Str.ofString "_new_path") 608), (.ref 228)⟩, ⟨PyData.keyHash P (Str.ofString "_mutating_insert_tail"), (.str (Str.ofString "_mutating_insert_tail") 615), (.ref 235)⟩, ⟨PyData.keyHash P (Str.ofString "_mutating_fill_tail"), (.str (Str.ofString "_mutating_fill_tail") 627), (.ref 242)⟩, ⟨PyData.keyHash P (Str.ofString "_mutating_extend"), (.str (Str.ofString "_mutating_extend") 637), (.ref 249)⟩, ⟨PyData.keyHash P (Str.ofString "extend"), (.str (Str.ofString "extend") 647), (.ref 256)⟩, ⟨PyData.keyHash P (Str.ofString "_push_tail"), (.str (Str.ofString "_push_tail") 659), (.ref 263)⟩, ⟨PyData.keyHash P (Str.ofString "index"), (.str (Str.ofString "index") 669), (.ref 270)⟩, ⟨PyData.keyHash P (Str.ofString "count"), (.str (Str.ofString "count") 677), (.ref 277)⟩, ⟨PyData.keyHash P (Str.ofString "delete"), (.str (Str.ofString "delete") 686), (.ref 285)⟩, ⟨PyData.keyHash P (Str.ofString "remove"), (.str (Str.ofString "remove") 695), (.ref 292)⟩, ⟨PyData.keyHash P (Str.ofString "__static_attributes__"), (.str (Str.ofString "__static_attributes__") 701), (.ref 293)⟩, ⟨PyData.keyHash P (Str.ofString "_count"), (.str (Str.ofString "_count") 705), (.ref 298)⟩, ⟨PyData.keyHash P (Str.ofString "_root"), (.str (Str.ofString "_root") 707), (.ref 299)⟩, ⟨PyData.keyHash P (Str.ofString "_shift"), (.str (Str.ofString "_shift") 709), (.ref 300)⟩, ⟨PyData.keyHash P (Str.ofString "_tail"), (.str (Str.ofString "_tail") 711), (.ref 301)⟩, ⟨PyData.keyHash P (Str.ofString "_tail_offset"), (.str (Str.ofString "_tail_offset") 713), (.ref 302)⟩, ⟨PyData.keyHash P (Str.ofString "__weakref__"), (.str (Str.ofString "__weakref__") 715), (.ref 303)⟩, ⟨PyData.keyHash P (Str.ofString "__doc__"), (.str (Str.ofString "__doc__") 716), .none⟩, ⟨PyData.keyHash P (Str.ofString "__hash__"), (.str (Str.ofString "__hash__") 717), .none⟩]) 10), (List.toArray [])⟩),
  (nat_lit 296, ⟨(.type "type"), none, (.cls ⟨(Str.ofString "PythonPVector"), [(.type "object")], [(.ref 296), (.type "object")], 295, (Str.ofString "PythonPVector"), false, [(Str.ofString "_count"), (Str.ofString "_root"), (Str.ofString "_shift"), (Str.ofString "_tail"), (Str.ofString "_tail_offset")], [], false, none, false⟩), (List.toArray [(some (.ref 55)), none, (some (.str (Str.ofString "PythonPVector") 379)), (some (.str (Str.ofString "PythonPVector") 387)), (some .none), (some (.bool true))])⟩),
  (nat_lit 297, ⟨(.type "staticmethod"), none, (.fields (List.toArray [(.ref 71)])), (List.toArray [])⟩),
  (nat_lit 298, ⟨(.type "member_descriptor"), none, (.fields (List.toArray [(.str (Str.ofString "_count") 704), (.ref 296), (.builtin "proto.slot"), (.builtin "proto.slot#set"), (.int 4 0)])), (List.toArray [])⟩),
  (nat_lit 299, ⟨(.type "member_descriptor"), none, (.fields (List.toArray [(.str (Str.ofString "_root") 706), (.ref 296), (.builtin "proto.slot"), (.builtin "proto.slot#set"), (.int 3 0)])), (List.toArray [])⟩),
  (nat_lit 300, ⟨(.type "member_descriptor"), none, (.fields (List.toArray [(.str (Str.ofString "_shift") 708), (.ref 296), (.builtin "proto.slot"), (.builtin "proto.slot#set"), (.int 2 0)])), (List.toArray [])⟩),
  (nat_lit 301, ⟨(.type "member_descriptor"), none, (.fields (List.toArray [(.str (Str.ofString "_tail") 710), (.ref 296), (.builtin "proto.slot"), (.builtin "proto.slot#set"), (.int 1 0)])), (List.toArray [])⟩),
  (nat_lit 302, ⟨(.type "member_descriptor"), none, (.fields (List.toArray [(.str (Str.ofString "_tail_offset") 712), (.ref 296), (.builtin "proto.slot"), (.builtin "proto.slot#set"), (.int 0 0)])), (List.toArray [])⟩),
  (nat_lit 303, ⟨(.type "getset_descriptor"), none, (.fields (List.toArray [(.str (Str.ofString "__weakref__") 714), (.ref 296), (.builtin "ExceptionGroup.__weakref__"), .none])), (List.toArray [])⟩),
  (nat_lit 306, ⟨(.type "list"), none, (.seq (List.toArray []) 0), (List.toArray [])⟩),
  (nat_lit 307, ⟨(.type "list"), none, (.seq (List.toArray []) 0), (List.toArray [])⟩),
  (nat_lit 310, ⟨(.type "dict"), none, (.dict (List.toArray []) 0), (List.toArray [])⟩),
  (nat_lit 311, ⟨(.ref 296), (some 310), .plain, (List.toArray [(some (.int 0 720)), (some (.ref 306)), (some (.int 5 368)), (some (.ref 307)), (some (.int 0 737))])⟩),
  (nat_lit 312, ⟨(.type "tuple"), none, (.seq (List.toArray []) 0), (List.toArray [])⟩),
  (nat_lit 313, ⟨(.type "tuple"), none, (.seq (List.toArray [(.ref 312)]) 0), (List.toArray [])⟩),
  (nat_lit 314, ⟨(.type "tuple"), none, (.seq (List.toArray []) 0), (List.toArray [])⟩),
  (nat_lit 316, ⟨(.type "tuple"), none, (.seq (List.toArray [(.str (Str.ofString "iterable") 743)]) 0), (List.toArray [])⟩),
  (nat_lit 317, ⟨(.type "tuple"), none, (.seq (List.toArray []) 0), (List.toArray [])⟩),
  (nat_lit 319, ⟨(.type "code"), none, (.fields (List.toArray [(.str (Str.ofString "python_pvector") 740), (.str (Str.ofString "python_pvector") 741), (.str (Str.ofString "/claim/cut.py") 742), (.int 186 0), (.int 1 0), (.int 0 0), (.int 0 0), (.int 3 0), (.ref 314), (.bool true), (.int 338 0), (.ref 315), .none, (.ref 316), (.ref 317), (.ref 318), (.int 744 0), (.int 186 0), (.str (Str.ofString "/claim/cut.py") 745)])), (List.toArray [])⟩),
  (nat_lit 320, ⟨(.type "function"), none, (.func ⟨(Str.ofString "python_pvector"), (Str.ofString "python_pvector"), a35, .stmts b35, s35, 3, [], (.ref 313), .none, .none, (.str (Str.ofString "pyrsistent._pvector") 351), none, (.ref 319), .none, 0⟩), (List.toArray [])⟩),
  (nat_lit 321, ⟨(.type "tuple"), none, (.seq (List.toArray []) 0), (List.toArray [])⟩),
  (nat_lit 323, ⟨(.type "tuple"), none, (.seq (List.toArray [(.str (Str.ofString "number") 752), (.str (Str.ofString "width") 753), (.str (Str.ofString "row") 754), (.str (Str.ofString "place") 755)]) 0), (List.toArray [])⟩),
  (nat_lit 324, ⟨(.type "tuple"), none, (.seq (List.toArray []) 0), (List.toArray [])⟩),
  (nat_lit 326, ⟨(.type "code"), none, (.fields (List.toArray [(.str (Str.ofString "_law_digits") 749), (.str (Str.ofString "_law_digits") 750), (.str (Str.ofString "/claim/cut.py") 751), (.int 189 0), (.int 2 0), (.int 0 0), (.int 0 0), (.int 3 0), (.ref 321), (.bool true), (.int 338 0), (.ref 322), .none, (.ref 323), (.ref 324), (.ref 325), (.int 756 0), (.int 189 0), (.str (Str.ofString "/claim/cut.py") 757)])), (List.toArray [])⟩),
  (nat_lit 327, ⟨(.type "function"), none, (.func ⟨(Str.ofString "_law_digits"), (Str.ofString "_law_digits"), a36, .stmts b36, s36, 3, [], .none, .none, .none, (.str (Str.ofString "law_md0019_04") 747), none, (.ref 326), .none, 0⟩), (List.toArray [])⟩),
  (nat_lit 328, ⟨(.type "tuple"), none, (.seq (List.toArray []) 0), (List.toArray [])⟩),
  (nat_lit 330, ⟨(.type "tuple"), none, (.seq (List.toArray [(.str (Str.ofString "stands") 762), (.str (Str.ofString "count") 763), (.str (Str.ofString "bounds") 764), (.str (Str.ofString "low") 765), (.str (Str.ofString "high") 766), (.str (Str.ofString "place") 767)]) 0), (List.toArray [])⟩),
  (nat_lit 331, ⟨(.type "tuple"), none, (.seq (List.toArray []) 0), (List.toArray [])⟩),
  (nat_lit 333, ⟨(.type "code"), none, (.fields (List.toArray [(.str (Str.ofString "_law_first") 759), (.str (Str.ofString "_law_first") 760), (.str (Str.ofString "/claim/cut.py") 761), (.int 195 0), (.int 3 0), (.int 0 0), (.int 0 0), (.int 3 0), (.ref 328), (.bool true), (.int 338 0), (.ref 329), .none, (.ref 330), (.ref 331), (.ref 332), (.int 768 0), (.int 195 0), (.str (Str.ofString "/claim/cut.py") 769)])), (List.toArray [])⟩),
  (nat_lit 334, ⟨(.type "function"), none, (.func ⟨(Str.ofString "_law_first"), (Str.ofString "_law_first"), a37, .stmts b37, s37, 3, [], .none, .none, .none, (.str (Str.ofString "law_md0019_04") 747), none, (.ref 333), .none, 0⟩), (List.toArray [])⟩),
  (nat_lit 335, ⟨(.type "tuple"), none, (.seq (List.toArray []) 0), (List.toArray [])⟩),
  (nat_lit 337, ⟨(.type "tuple"), none, (.seq (List.toArray [(.str (Str.ofString "vector") 774), (.str (Str.ofString "value") 775), (.str (Str.ofString "bounds") 776)]) 0), (List.toArray [])⟩),
  (nat_lit 338, ⟨(.type "tuple"), none, (.seq (List.toArray []) 0), (List.toArray [])⟩),
  (nat_lit 340, ⟨(.type "code"), none, (.fields (List.toArray [(.str (Str.ofString "_law_index") 771), (.str (Str.ofString "_law_index") 772), (.str (Str.ofString "/claim/cut.py") 773), (.int 206 0), (.int 3 0), (.int 0 0), (.int 0 0), (.int 3 0), (.ref 335), (.bool true), (.int 338 0), (.ref 336), .none, (.ref 337), (.ref 338), (.ref 339), (.int 777 0), (.int 206 0), (.str (Str.ofString "/claim/cut.py") 778)])), (List.toArray [])⟩),
  (nat_lit 341, ⟨(.type "function"), none, (.func ⟨(Str.ofString "_law_index"), (Str.ofString "_law_index"), a38, .stmts b38, s38, 3, [], .none, .none, .none, (.str (Str.ofString "law_md0019_04") 747), none, (.ref 340), .none, 0⟩), (List.toArray [])⟩),
  (nat_lit 342, ⟨(.type "tuple"), none, (.seq (List.toArray []) 0), (List.toArray [])⟩),
  (nat_lit 345, ⟨(.type "code"), none, (.fields (List.toArray [(.str (Str.ofString "law") 780), (.str (Str.ofString "law") 781), (.str (Str.ofString "/claim/cut.py") 782), (.int 215 0), (.int 1 0), (.int 0 0), (.int 0 0), (.int 3 0), (.ref 342), (.bool true), (.int 338 0), (.ref 343), .none, .none, .none, (.ref 344), (.int 783 0), (.int 215 0), (.str (Str.ofString "/claim/cut.py") 784)])), (List.toArray [])⟩),
  (nat_lit 346, ⟨(.type "function"), none, (.func ⟨(Str.ofString "law"), (Str.ofString "law"), a39, .stmts b39, s39, 3, [], .none, .none, .none, (.str (Str.ofString "law_md0019_04") 747), none, (.ref 345), .none, 0⟩), (List.toArray [])⟩)]
noncomputable def Kby {a0 : Arguments} {b0 : List Stmt} {s0 : Scope} {a1 : Arguments} {b1 : List Stmt} {s1 : Scope} {a2 : Arguments} {b2 : List Stmt} {s2 : Scope} {a3 : Arguments} {b3 : List Stmt} {s3 : Scope} {a4 : Arguments} {b4 : List Stmt} {s4 : Scope} {a5 : Arguments} {b5 : List Stmt} {s5 : Scope} {a6 : Arguments} {b6 : List Stmt} {s6 : Scope} {a7 : Arguments} {b7 : List Stmt} {s7 : Scope} {a8 : Arguments} {b8 : List Stmt} {s8 : Scope} {a9 : Arguments} {b9 : List Stmt} {s9 : Scope} {a10 : Arguments} {b10 : List Stmt} {s10 : Scope} {a11 : Arguments} {b11 : List Stmt} {s11 : Scope} {a12 : Arguments} {b12 : List Stmt} {s12 : Scope} {a13 : Arguments} {b13 : List Stmt} {s13 : Scope} {a14 : Arguments} {b14 : List Stmt} {s14 : Scope} {a15 : Arguments} {b15 : List Stmt} {s15 : Scope} {a16 : Arguments} {b16 : List Stmt} {s16 : Scope} {a17 : Arguments} {b17 : List Stmt} {s17 : Scope} {a18 : Arguments} {b18 : List Stmt} {s18 : Scope} {a19 : Arguments} {b19 : List Stmt} {s19 : Scope} {a20 : Arguments} {b20 : List Stmt} {s20 : Scope} {a21 : Arguments} {b21 : List Stmt} {s21 : Scope} {a22 : Arguments} {b22 : List Stmt} {s22 : Scope} {a23 : Arguments} {b23 : List Stmt} {s23 : Scope} {a24 : Arguments} {b24 : List Stmt} {s24 : Scope} {a25 : Arguments} {b25 : List Stmt} {s25 : Scope} {a26 : Arguments} {b26 : List Stmt} {s26 : Scope} {a27 : Arguments} {b27 : List Stmt} {s27 : Scope} {a28 : Arguments} {b28 : List Stmt} {s28 : Scope} {a29 : Arguments} {b29 : List Stmt} {s29 : Scope} {a30 : Arguments} {b30 : List Stmt} {s30 : Scope} {a31 : Arguments} {b31 : List Stmt} {s31 : Scope} {a32 : Arguments} {b32 : List Stmt} {s32 : Scope} {a33 : Arguments} {b33 : List Stmt} {s33 : Scope} {a34 : Arguments} {b34 : List Stmt} {s34 : Scope} {a35 : Arguments} {b35 : List Stmt} {s35 : Scope} {a36 : Arguments} {b36 : List Stmt} {s36 : Scope} {a37 : Arguments} {b37 : List Stmt} {s37 : Scope} {a38 : Arguments} {b38 : List Stmt} {s38 : Scope} {a39 : Arguments} {b39 : List Stmt} {s39 : Scope} (h : fnsOf PySem.Challenge.pw_md0019_04.main.body = [(a0, b0, s0), (a1, b1, s1), (a2, b2, s2), (a3, b3, s3), (a4, b4, s4), (a5, b5, s5), (a6, b6, s6), (a7, b7, s7), (a8, b8, s8), (a9, b9, s9), (a10, b10, s10), (a11, b11, s11), (a12, b12, s12), (a13, b13, s13), (a14, b14, s14), (a15, b15, s15), (a16, b16, s16), (a17, b17, s17), (a18, b18, s18), (a19, b19, s19), (a20, b20, s20), (a21, b21, s21), (a22, b22, s22), (a23, b23, s23), (a24, b24, s24), (a25, b25, s25), (a26, b26, s26), (a27, b27, s27), (a28, b28, s28), (a29, b29, s29), (a30, b30, s30), (a31, b31, s31), (a32, b32, s32), (a33, b33, s33), (a34, b34, s34), (a35, b35, s35), (a36, b36, s36), (a37, b37, s37), (a38, b38, s38), (a39, b39, s39)]) : Params → Frag := Kmk a0 b0 s0 a1 b1 s1 a2 b2 s2 a3 b3 s3 a4 b4 s4 a5 b5 s5 a6 b6 s6 a7 b7 s7 a8 b8 s8 a9 b9 s9 a10 b10 s10 a11 b11 s11 a12 b12 s12 a13 b13 s13 a14 b14 s14 a15 b15 s15 a16 b16 s16 a17 b17 s17 a18 b18 s18 a19 b19 s19 a20 b20 s20 a21 b21 s21 a22 b22 s22 a23 b23 s23 a24 b24 s24 a25 b25 s25 a26 b26 s26 a27 b27 s27 a28 b28 s28 a29 b29 s29 a30 b30 s30 a31 b31 s31 a32 b32 s32 a33 b33 s33 a34 b34 s34 a35 b35 s35 a36 b36 s36 a37 b37 s37 a38 b38 s38 a39 b39 s39
noncomputable def KF : Params → Frag := Kby (by with_unfolding_all rfl)
def KA : List Addr := [2, 3, 33, 35, 36, 38, 39, 48, 50, 51, 53, 54, 55, 58, 63, 64, 65, 67, 68, 70, 71, 72, 74, 75, 77, 78, 79, 81, 82, 84, 85, 86, 88, 89, 91, 92, 93, 95, 96, 98, 99, 100, 102, 103, 105, 106, 107, 109, 110, 112, 113, 114, 116, 117, 119, 120, 121, 123, 124, 126, 127, 128, 130, 131, 133, 134, 135, 137, 138, 140, 141, 142, 144, 145, 147, 148, 149, 151, 152, 154, 155, 156, 158, 159, 161, 162, 163, 165, 166, 168, 169, 170, 172, 173, 175, 176, 177, 179, 180, 182, 183, 184, 186, 187, 189, 190, 191, 193, 194, 196, 197, 198, 200, 201, 203, 204, 205, 206, 207, 208, 210, 211, 213, 214, 215, 217, 218, 220, 221, 222, 224, 225, 227, 228, 229, 231, 232, 234, 235, 236, 238, 239, 241, 242, 243, 245, 246, 248, 249, 250, 252, 253, 255, 256, 257, 259, 260, 262, 263, 264, 266, 267, 269, 270, 271, 273, 274, 276, 277, 278, 279, 281, 282, 284, 285, 286, 288, 289, 291, 292, 293, 295, 296, 297, 298, 299, 300, 301, 302, 303, 306, 307, 310, 311, 312, 313, 314, 316, 317, 319, 320, 321, 323, 324, 326, 327, 328, 330, 331, 333, 334, 335, 337, 338, 340, 341, 342, 345, 346]
abbrev vw : Program := PySem.W.view PySem.Challenge.pw_md0019_04 [0, 1, 3, 4, 5, 6, 7, 8, 9, 12, 13, 14, 15]
abbrev vl : List Str := [Str.ofString "BIT_MASK", Str.ofString "SHIFT", Str.ofString "PythonPVector", Str.ofString "_EMPTY_PVECTOR", Str.ofString "python_pvector"]
abbrev vv : List (Str × WData) := [(Str.ofString "BIT_MASK", WData.int 31), (Str.ofString "SHIFT", WData.int 5)]
theorem KA_is : ∀ P, KA = (KF P).map (·.1) := fun _ => by kernel_rfl
theorem left_is : LeftO PySem.Challenge.pw_md0019_04 vw vl (fun s => xlAt vw vv s && recOk (RowW.records PySem.Challenge.rw_md0019_04.row.toRowW) s) (Hook.obs (kHook KF KA KA_is)) (Hook.val (kHook KF KA KA_is)) 4742 := by
  refine left_of ?_
  rw [PySem.W.Fast.te10156331382660048174, PySem.W.Fast.te11892475500146522536, PySem.W.Fast.te14364793385576792824, PySem.W.Fast.te1435165496053646825, PySem.W.Fast.te14289696077712309145, PySem.W.Fast.te4187177175401517315]
  intro w
  kernel_rfl
set_option maxHeartbeats 200000
noncomputable abbrev KK (w : World) : Frag := KF w.params
abbrev aC : Addr := 296
abbrev aEmpty : Addr := 311
abbrev sm_new : Addr := 297
abbrev m_dunder_new : Addr := 71
abbrev m_dunder_len : Addr := 78
abbrev m_dunder_getitem : Addr := 85
abbrev m_dunder_add : Addr := 92
abbrev m_dunder_repr : Addr := 99
abbrev m_dunder_str : Addr := 106
abbrev m_dunder_iter : Addr := 113
abbrev m_dunder_ne : Addr := 120
abbrev m_dunder_eq : Addr := 127
abbrev m_dunder_gt : Addr := 134
abbrev m_dunder_lt : Addr := 141
abbrev m_dunder_ge : Addr := 148
abbrev m_dunder_le : Addr := 155
abbrev m_dunder_mul : Addr := 162
abbrev m_dunder_rmul : Addr := 162
abbrev m_fill_list : Addr := 169
abbrev m_tolist : Addr := 176
abbrev m_totuple : Addr := 183
abbrev m_set : Addr := 190
abbrev m_do_set : Addr := 197
abbrev sm_node_for : Addr := 206
abbrev m_node_for : Addr := 204
abbrev m_create_new_root : Addr := 214
abbrev m_append : Addr := 221
abbrev m_new_path : Addr := 228
abbrev m_mutating_insert_tail : Addr := 235
abbrev m_mutating_fill_tail : Addr := 242
abbrev m_mutating_extend : Addr := 249
abbrev m_extend : Addr := 256
abbrev m_push_tail : Addr := 263
abbrev m_index : Addr := 270
abbrev m_count : Addr := 277
abbrev m_delete : Addr := 285
abbrev m_remove : Addr := 292
abbrev g_wall : Addr := 39
abbrev g_bitcount : Addr := 46
abbrev g_compare_pvector : Addr := 54
abbrev g_python_pvector : Addr := 320
abbrev g_law_digits : Addr := 327
abbrev g_law_first : Addr := 334
abbrev g_law_index : Addr := 341
abbrev g_law : Addr := 346
noncomputable def ob (w : World) (a : Addr) : Obj := ((KK w).lookup a).getD default
theorem lk {w : World} (a : Addr) (e : ((KK w).lookup a).isSome = true) : (KK w).lookup a = some (ob w a) := by
  unfold ob; cases h : (KK w).lookup a with
  | none => rw [h] at e; cases e
  | some o => rfl
abbrev IO (dx : Addr) (sl : List (Option Value)) : Obj := { cls := .ref aC, dict := some dx, data := .plain, slots := sl.toArray }
theorem arr_set (l : List (Option Value)) (i : Nat) (v : Value) : (l.toArray ++ Array.replicate (i + 1 - l.toArray.size) none).setIfInBounds i (some v) = ((l ++ List.replicate (i + 1 - l.length) none).set i (some v)).toArray := by
  apply Array.toList_inj.mp; simp
theorem inst_of {h : Heap} {x dx : Addr} {sl : List (Option Value)} (hx : h.get? x = some (IO dx sl)) (hdx : h.get? dx = some emptyDict) : InstAt h x (IO dx sl) aC (some emptyDict) := ⟨hx, rfl, rfl, hdx⟩
section
variable {prog : Program} {w : World} {A : Around} {E : Value → Shared → Prop} {hp : Heap} {gs : Array GenState} {dr : Drawn} {tk : Nat} {os : OsState} {mg mb : Str → Option Value} {x dx : Addr} {ox : Obj} {sl : List (Option Value)} {v : Value} {b : Heap} {L a : Addr} {m : Str → Option Value} {own : List (Addr × Obj)} {cn : Str} {cs : Scope} {ccd : Value} {cl : List (Str × Addr)} {pos : Pos} {Q : Value → Shared → Prop}
theorem nm_BRANCH_FACTOR (F : Fx b L hp m own) (T : Tp (KK w) mg mb b) (h : Q (.int 32 360) ⟨hp, gs, dr, tk, os⟩) (hk : cs.kind = .function := by with_unfolding_all rfl) (hx : (envX cn cs L a ccd cl).kindOf (Str.ofString "BRANCH_FACTOR") = some .globalImplicit := by with_unfolding_all rfl) :
    wpAny (model prog w) A (eval (.Name (Str.ofString "BRANCH_FACTOR") pos) (envX cn cs L a ccd cl)) Q E ⟨hp, gs, dr, tk, os⟩ := n_glob F T (by kernel_rfl) h hk hx (by decide)
theorem nm_BIT_MASK (F : Fx b L hp m own) (T : Tp (KK w) mg mb b) (h : Q (.int 31 363) ⟨hp, gs, dr, tk, os⟩) (hk : cs.kind = .function := by with_unfolding_all rfl) (hx : (envX cn cs L a ccd cl).kindOf (Str.ofString "BIT_MASK") = some .globalImplicit := by with_unfolding_all rfl) :
    wpAny (model prog w) A (eval (.Name (Str.ofString "BIT_MASK") pos) (envX cn cs L a ccd cl)) Q E ⟨hp, gs, dr, tk, os⟩ := n_glob F T (by kernel_rfl) h hk hx (by decide)
theorem nm_SHIFT (F : Fx b L hp m own) (T : Tp (KK w) mg mb b) (h : Q (.int 5 368) ⟨hp, gs, dr, tk, os⟩) (hk : cs.kind = .function := by with_unfolding_all rfl) (hx : (envX cn cs L a ccd cl).kindOf (Str.ofString "SHIFT") = some .globalImplicit := by with_unfolding_all rfl) :
    wpAny (model prog w) A (eval (.Name (Str.ofString "SHIFT") pos) (envX cn cs L a ccd cl)) Q E ⟨hp, gs, dr, tk, os⟩ := n_glob F T (by kernel_rfl) h hk hx (by decide)
theorem nm_PythonPVector (F : Fx b L hp m own) (T : Tp (KK w) mg mb b) (h : Q (.ref 296) ⟨hp, gs, dr, tk, os⟩) (hk : cs.kind = .function := by with_unfolding_all rfl) (hx : (envX cn cs L a ccd cl).kindOf (Str.ofString "PythonPVector") = some .globalImplicit := by with_unfolding_all rfl) :
    wpAny (model prog w) A (eval (.Name (Str.ofString "PythonPVector") pos) (envX cn cs L a ccd cl)) Q E ⟨hp, gs, dr, tk, os⟩ := n_glob F T (by kernel_rfl) h hk hx (by decide)
theorem nm_EMPTY_PVECTOR (F : Fx b L hp m own) (T : Tp (KK w) mg mb b) (h : Q (.ref 311) ⟨hp, gs, dr, tk, os⟩) (hk : cs.kind = .function := by with_unfolding_all rfl) (hx : (envX cn cs L a ccd cl).kindOf (Str.ofString "_EMPTY_PVECTOR") = some .globalImplicit := by with_unfolding_all rfl) :
    wpAny (model prog w) A (eval (.Name (Str.ofString "_EMPTY_PVECTOR") pos) (envX cn cs L a ccd cl)) Q E ⟨hp, gs, dr, tk, os⟩ := n_glob F T (by kernel_rfl) h hk hx (by decide)
theorem nm_python_pvector (F : Fx b L hp m own) (T : Tp (KK w) mg mb b) (h : Q (.ref 320) ⟨hp, gs, dr, tk, os⟩) (hk : cs.kind = .function := by with_unfolding_all rfl) (hx : (envX cn cs L a ccd cl).kindOf (Str.ofString "python_pvector") = some .globalImplicit := by with_unfolding_all rfl) :
    wpAny (model prog w) A (eval (.Name (Str.ofString "python_pvector") pos) (envX cn cs L a ccd cl)) Q E ⟨hp, gs, dr, tk, os⟩ := n_glob F T (by kernel_rfl) h hk hx (by decide)
theorem nm_law_digits (F : Fx b L hp m own) (T : Tp (KK w) mg mb b) (h : Q (.ref 327) ⟨hp, gs, dr, tk, os⟩) (hk : cs.kind = .function := by with_unfolding_all rfl) (hx : (envX cn cs L a ccd cl).kindOf (Str.ofString "_law_digits") = some .globalImplicit := by with_unfolding_all rfl) :
    wpAny (model prog w) A (eval (.Name (Str.ofString "_law_digits") pos) (envX cn cs L a ccd cl)) Q E ⟨hp, gs, dr, tk, os⟩ := n_glob F T (by kernel_rfl) h hk hx (by decide)
theorem nm_law_first (F : Fx b L hp m own) (T : Tp (KK w) mg mb b) (h : Q (.ref 334) ⟨hp, gs, dr, tk, os⟩) (hk : cs.kind = .function := by with_unfolding_all rfl) (hx : (envX cn cs L a ccd cl).kindOf (Str.ofString "_law_first") = some .globalImplicit := by with_unfolding_all rfl) :
    wpAny (model prog w) A (eval (.Name (Str.ofString "_law_first") pos) (envX cn cs L a ccd cl)) Q E ⟨hp, gs, dr, tk, os⟩ := n_glob F T (by kernel_rfl) h hk hx (by decide)
theorem nm_law_index (F : Fx b L hp m own) (T : Tp (KK w) mg mb b) (h : Q (.ref 341) ⟨hp, gs, dr, tk, os⟩) (hk : cs.kind = .function := by with_unfolding_all rfl) (hx : (envX cn cs L a ccd cl).kindOf (Str.ofString "_law_index") = some .globalImplicit := by with_unfolding_all rfl) :
    wpAny (model prog w) A (eval (.Name (Str.ofString "_law_index") pos) (envX cn cs L a ccd cl)) Q E ⟨hp, gs, dr, tk, os⟩ := n_glob F T (by kernel_rfl) h hk hx (by decide)
theorem nm_len (F : Fx b L hp m own) (T : Tp (KK w) mg mb b) (h : Q (.builtin "len") ⟨hp, gs, dr, tk, os⟩) (hk : cs.kind = .function := by with_unfolding_all rfl) (hx : (envX cn cs L a ccd cl).kindOf (Str.ofString "len") = some .globalImplicit := by with_unfolding_all rfl) :
    wpAny (model prog w) A (eval (.Name (Str.ofString "len") pos) (envX cn cs L a ccd cl)) Q E ⟨hp, gs, dr, tk, os⟩ := n_blt F T (by kernel_rfl) (by kernel_rfl) h (by decide) hk hx (by decide)
theorem nm_list (F : Fx b L hp m own) (T : Tp (KK w) mg mb b) (h : Q (.type "list") ⟨hp, gs, dr, tk, os⟩) (hk : cs.kind = .function := by with_unfolding_all rfl) (hx : (envX cn cs L a ccd cl).kindOf (Str.ofString "list") = some .globalImplicit := by with_unfolding_all rfl) :
    wpAny (model prog w) A (eval (.Name (Str.ofString "list") pos) (envX cn cs L a ccd cl)) Q E ⟨hp, gs, dr, tk, os⟩ := n_blt F T (by kernel_rfl) (by kernel_rfl) h (by decide) hk hx (by decide)
theorem nm_range (F : Fx b L hp m own) (T : Tp (KK w) mg mb b) (h : Q (.type "range") ⟨hp, gs, dr, tk, os⟩) (hk : cs.kind = .function := by with_unfolding_all rfl) (hx : (envX cn cs L a ccd cl).kindOf (Str.ofString "range") = some .globalImplicit := by with_unfolding_all rfl) :
    wpAny (model prog w) A (eval (.Name (Str.ofString "range") pos) (envX cn cs L a ccd cl)) Q E ⟨hp, gs, dr, tk, os⟩ := n_blt F T (by kernel_rfl) (by kernel_rfl) h (by decide) hk hx (by decide)
theorem nm_isinstance (F : Fx b L hp m own) (T : Tp (KK w) mg mb b) (h : Q (.builtin "isinstance") ⟨hp, gs, dr, tk, os⟩) (hk : cs.kind = .function := by with_unfolding_all rfl) (hx : (envX cn cs L a ccd cl).kindOf (Str.ofString "isinstance") = some .globalImplicit := by with_unfolding_all rfl) :
    wpAny (model prog w) A (eval (.Name (Str.ofString "isinstance") pos) (envX cn cs L a ccd cl)) Q E ⟨hp, gs, dr, tk, os⟩ := n_blt F T (by kernel_rfl) (by kernel_rfl) h (by decide) hk hx (by decide)
theorem nm_slice (F : Fx b L hp m own) (T : Tp (KK w) mg mb b) (h : Q (.type "slice") ⟨hp, gs, dr, tk, os⟩) (hk : cs.kind = .function := by with_unfolding_all rfl) (hx : (envX cn cs L a ccd cl).kindOf (Str.ofString "slice") = some .globalImplicit := by with_unfolding_all rfl) :
    wpAny (model prog w) A (eval (.Name (Str.ofString "slice") pos) (envX cn cs L a ccd cl)) Q E ⟨hp, gs, dr, tk, os⟩ := n_blt F T (by kernel_rfl) (by kernel_rfl) h (by decide) hk hx (by decide)
theorem nm_enumerate (F : Fx b L hp m own) (T : Tp (KK w) mg mb b) (h : Q (.type "enumerate") ⟨hp, gs, dr, tk, os⟩) (hk : cs.kind = .function := by with_unfolding_all rfl) (hx : (envX cn cs L a ccd cl).kindOf (Str.ofString "enumerate") = some .globalImplicit := by with_unfolding_all rfl) :
    wpAny (model prog w) A (eval (.Name (Str.ofString "enumerate") pos) (envX cn cs L a ccd cl)) Q E ⟨hp, gs, dr, tk, os⟩ := n_blt F T (by kernel_rfl) (by kernel_rfl) h (by decide) hk hx (by decide)
theorem nm_zip (F : Fx b L hp m own) (T : Tp (KK w) mg mb b) (h : Q (.type "zip") ⟨hp, gs, dr, tk, os⟩) (hk : cs.kind = .function := by with_unfolding_all rfl) (hx : (envX cn cs L a ccd cl).kindOf (Str.ofString "zip") = some .globalImplicit := by with_unfolding_all rfl) :
    wpAny (model prog w) A (eval (.Name (Str.ofString "zip") pos) (envX cn cs L a ccd cl)) Q E ⟨hp, gs, dr, tk, os⟩ := n_blt F T (by kernel_rfl) (by kernel_rfl) h (by decide) hk hx (by decide)
theorem nm_iter (F : Fx b L hp m own) (T : Tp (KK w) mg mb b) (h : Q (.builtin "iter") ⟨hp, gs, dr, tk, os⟩) (hk : cs.kind = .function := by with_unfolding_all rfl) (hx : (envX cn cs L a ccd cl).kindOf (Str.ofString "iter") = some .globalImplicit := by with_unfolding_all rfl) :
    wpAny (model prog w) A (eval (.Name (Str.ofString "iter") pos) (envX cn cs L a ccd cl)) Q E ⟨hp, gs, dr, tk, os⟩ := n_blt F T (by kernel_rfl) (by kernel_rfl) h (by decide) hk hx (by decide)
theorem nm_super (F : Fx b L hp m own) (T : Tp (KK w) mg mb b) (h : Q (.type "super") ⟨hp, gs, dr, tk, os⟩) (hk : cs.kind = .function := by with_unfolding_all rfl) (hx : (envX cn cs L a ccd cl).kindOf (Str.ofString "super") = some .globalImplicit := by with_unfolding_all rfl) :
    wpAny (model prog w) A (eval (.Name (Str.ofString "super") pos) (envX cn cs L a ccd cl)) Q E ⟨hp, gs, dr, tk, os⟩ := n_blt F T (by kernel_rfl) (by kernel_rfl) h (by decide) hk hx (by decide)
theorem gm_fn {name : Str} {f : Addr} {pl : Sem Bool} {Q : Value × List Value → Shared → Prop} (X : (KK w).In hp) (I : InstAt hp x ox aC (some emptyDict))
    (hf : findIn (KK w) (.ref aC) name = some (some (.ref f))) (ht : typeIn (KK w) (.ref f) = some (.type "function")) (h : Q (.ref f, [.ref x]) ⟨hp, gs, dr, tk, os⟩) : wpAny (model prog w) A (getMethod (.ref x) name pl) Q E ⟨hp, gs, dr, tk, os⟩ :=
  method_fn X I (by kernel_rfl) (by kernel_rfl) hf ht rfl h
theorem gm_fill_list {pl : Sem Bool} {Q : Value × List Value → Shared → Prop} (X : (KK w).In hp) (hx : hp.get? x = some (IO dx sl)) (hdx : hp.get? dx = some emptyDict) (h : Q (.ref m_fill_list, [.ref x]) ⟨hp, gs, dr, tk, os⟩) :
    wpAny (model prog w) A (getMethod (.ref x) (Str.ofString "_fill_list") pl) Q E ⟨hp, gs, dr, tk, os⟩ := gm_fn X (inst_of hx hdx) (by kernel_rfl) (by kernel_rfl) h
theorem gm_tolist {pl : Sem Bool} {Q : Value × List Value → Shared → Prop} (X : (KK w).In hp) (hx : hp.get? x = some (IO dx sl)) (hdx : hp.get? dx = some emptyDict) (h : Q (.ref m_tolist, [.ref x]) ⟨hp, gs, dr, tk, os⟩) :
    wpAny (model prog w) A (getMethod (.ref x) (Str.ofString "tolist") pl) Q E ⟨hp, gs, dr, tk, os⟩ := gm_fn X (inst_of hx hdx) (by kernel_rfl) (by kernel_rfl) h
theorem gm_create_new_root {pl : Sem Bool} {Q : Value × List Value → Shared → Prop} (X : (KK w).In hp) (hx : hp.get? x = some (IO dx sl)) (hdx : hp.get? dx = some emptyDict) (h : Q (.ref m_create_new_root, [.ref x]) ⟨hp, gs, dr, tk, os⟩) :
    wpAny (model prog w) A (getMethod (.ref x) (Str.ofString "_create_new_root") pl) Q E ⟨hp, gs, dr, tk, os⟩ := gm_fn X (inst_of hx hdx) (by kernel_rfl) (by kernel_rfl) h
theorem gm_append {pl : Sem Bool} {Q : Value × List Value → Shared → Prop} (X : (KK w).In hp) (hx : hp.get? x = some (IO dx sl)) (hdx : hp.get? dx = some emptyDict) (h : Q (.ref m_append, [.ref x]) ⟨hp, gs, dr, tk, os⟩) :
    wpAny (model prog w) A (getMethod (.ref x) (Str.ofString "append") pl) Q E ⟨hp, gs, dr, tk, os⟩ := gm_fn X (inst_of hx hdx) (by kernel_rfl) (by kernel_rfl) h
theorem gm_mutating_insert_tail {pl : Sem Bool} {Q : Value × List Value → Shared → Prop} (X : (KK w).In hp) (hx : hp.get? x = some (IO dx sl)) (hdx : hp.get? dx = some emptyDict) (h : Q (.ref m_mutating_insert_tail, [.ref x]) ⟨hp, gs, dr, tk, os⟩) :
    wpAny (model prog w) A (getMethod (.ref x) (Str.ofString "_mutating_insert_tail") pl) Q E ⟨hp, gs, dr, tk, os⟩ := gm_fn X (inst_of hx hdx) (by kernel_rfl) (by kernel_rfl) h
theorem gm_mutating_fill_tail {pl : Sem Bool} {Q : Value × List Value → Shared → Prop} (X : (KK w).In hp) (hx : hp.get? x = some (IO dx sl)) (hdx : hp.get? dx = some emptyDict) (h : Q (.ref m_mutating_fill_tail, [.ref x]) ⟨hp, gs, dr, tk, os⟩) :
    wpAny (model prog w) A (getMethod (.ref x) (Str.ofString "_mutating_fill_tail") pl) Q E ⟨hp, gs, dr, tk, os⟩ := gm_fn X (inst_of hx hdx) (by kernel_rfl) (by kernel_rfl) h
theorem gm_mutating_extend {pl : Sem Bool} {Q : Value × List Value → Shared → Prop} (X : (KK w).In hp) (hx : hp.get? x = some (IO dx sl)) (hdx : hp.get? dx = some emptyDict) (h : Q (.ref m_mutating_extend, [.ref x]) ⟨hp, gs, dr, tk, os⟩) :
    wpAny (model prog w) A (getMethod (.ref x) (Str.ofString "_mutating_extend") pl) Q E ⟨hp, gs, dr, tk, os⟩ := gm_fn X (inst_of hx hdx) (by kernel_rfl) (by kernel_rfl) h
theorem gm_extend {pl : Sem Bool} {Q : Value × List Value → Shared → Prop} (X : (KK w).In hp) (hx : hp.get? x = some (IO dx sl)) (hdx : hp.get? dx = some emptyDict) (h : Q (.ref m_extend, [.ref x]) ⟨hp, gs, dr, tk, os⟩) :
    wpAny (model prog w) A (getMethod (.ref x) (Str.ofString "extend") pl) Q E ⟨hp, gs, dr, tk, os⟩ := gm_fn X (inst_of hx hdx) (by kernel_rfl) (by kernel_rfl) h
theorem gm_push_tail {pl : Sem Bool} {Q : Value × List Value → Shared → Prop} (X : (KK w).In hp) (hx : hp.get? x = some (IO dx sl)) (hdx : hp.get? dx = some emptyDict) (h : Q (.ref m_push_tail, [.ref x]) ⟨hp, gs, dr, tk, os⟩) :
    wpAny (model prog w) A (getMethod (.ref x) (Str.ofString "_push_tail") pl) Q E ⟨hp, gs, dr, tk, os⟩ := gm_fn X (inst_of hx hdx) (by kernel_rfl) (by kernel_rfl) h
theorem gm_index {pl : Sem Bool} {Q : Value × List Value → Shared → Prop} (X : (KK w).In hp) (hx : hp.get? x = some (IO dx sl)) (hdx : hp.get? dx = some emptyDict) (h : Q (.ref m_index, [.ref x]) ⟨hp, gs, dr, tk, os⟩) :
    wpAny (model prog w) A (getMethod (.ref x) (Str.ofString "index") pl) Q E ⟨hp, gs, dr, tk, os⟩ := gm_fn X (inst_of hx hdx) (by kernel_rfl) (by kernel_rfl) h
theorem gm_count {pl : Sem Bool} {Q : Value × List Value → Shared → Prop} (X : (KK w).In hp) (hx : hp.get? x = some (IO dx sl)) (hdx : hp.get? dx = some emptyDict) (h : Q (.ref m_count, [.ref x]) ⟨hp, gs, dr, tk, os⟩) :
    wpAny (model prog w) A (getMethod (.ref x) (Str.ofString "count") pl) Q E ⟨hp, gs, dr, tk, os⟩ := gm_fn X (inst_of hx hdx) (by kernel_rfl) (by kernel_rfl) h
theorem gm_remove {pl : Sem Bool} {Q : Value × List Value → Shared → Prop} (X : (KK w).In hp) (hx : hp.get? x = some (IO dx sl)) (hdx : hp.get? dx = some emptyDict) (h : Q (.ref m_remove, [.ref x]) ⟨hp, gs, dr, tk, os⟩) :
    wpAny (model prog w) A (getMethod (.ref x) (Str.ofString "remove") pl) Q E ⟨hp, gs, dr, tk, os⟩ := gm_fn X (inst_of hx hdx) (by kernel_rfl) (by kernel_rfl) h
theorem ga_count {expr : Bool} (X : (KK w).In hp) (hx : hp.get? x = some (IO dx sl)) (hdx : hp.get? dx = some emptyDict) (hv : (sl[0]?).join = some v) (hh : handedIn v = true) (h : Q v ⟨hp, gs, dr, tk + 1, os⟩) :
    wpAny (model prog w) A (getAttr (.ref x) (Str.ofString "_count") expr) Q E ⟨hp, gs, dr, tk, os⟩ :=
  ga_slot (p := 298) (i := 0) X (inst_of hx hdx) (by kernel_rfl) (by kernel_rfl) (by kernel_rfl) (by kernel_rfl) (by kernel_rfl) (by kernel_rfl) (by simpa using hv) hh h
theorem sa_count {Q : Unit → Shared → Prop} (F : Fx b L hp m ((x, IO dx sl) :: own)) (X : (KK w).In hp) (hdx : hp.get? dx = some emptyDict)
    (h : ∀ h', Fx b L h' m ((x, IO dx ((sl ++ List.replicate (0 + 1 - sl.length) none).set 0 (some v))) :: own) → Q () ⟨h', gs, dr, tk + 1, os⟩) : wpAny (model prog w) A (setAttr (.ref x) (Str.ofString "_count") v) Q E ⟨hp, gs, dr, tk, os⟩ :=
  sa_slot (p := 298) (i := 0) F X (inst_of F.head hdx) (by kernel_rfl) (by kernel_rfl) (by kernel_rfl) (by kernel_rfl) (by kernel_rfl) (by decide) (by rw [arr_set]) rfl h
theorem ga_root {expr : Bool} (X : (KK w).In hp) (hx : hp.get? x = some (IO dx sl)) (hdx : hp.get? dx = some emptyDict) (hv : (sl[1]?).join = some v) (hh : handedIn v = true) (h : Q v ⟨hp, gs, dr, tk + 1, os⟩) :
    wpAny (model prog w) A (getAttr (.ref x) (Str.ofString "_root") expr) Q E ⟨hp, gs, dr, tk, os⟩ :=
  ga_slot (p := 299) (i := 1) X (inst_of hx hdx) (by kernel_rfl) (by kernel_rfl) (by kernel_rfl) (by kernel_rfl) (by kernel_rfl) (by kernel_rfl) (by simpa using hv) hh h
theorem sa_root {Q : Unit → Shared → Prop} (F : Fx b L hp m ((x, IO dx sl) :: own)) (X : (KK w).In hp) (hdx : hp.get? dx = some emptyDict)
    (h : ∀ h', Fx b L h' m ((x, IO dx ((sl ++ List.replicate (1 + 1 - sl.length) none).set 1 (some v))) :: own) → Q () ⟨h', gs, dr, tk + 1, os⟩) : wpAny (model prog w) A (setAttr (.ref x) (Str.ofString "_root") v) Q E ⟨hp, gs, dr, tk, os⟩ :=
  sa_slot (p := 299) (i := 1) F X (inst_of F.head hdx) (by kernel_rfl) (by kernel_rfl) (by kernel_rfl) (by kernel_rfl) (by kernel_rfl) (by decide) (by rw [arr_set]) rfl h
theorem ga_shift {expr : Bool} (X : (KK w).In hp) (hx : hp.get? x = some (IO dx sl)) (hdx : hp.get? dx = some emptyDict) (hv : (sl[2]?).join = some v) (hh : handedIn v = true) (h : Q v ⟨hp, gs, dr, tk + 1, os⟩) :
    wpAny (model prog w) A (getAttr (.ref x) (Str.ofString "_shift") expr) Q E ⟨hp, gs, dr, tk, os⟩ :=
  ga_slot (p := 300) (i := 2) X (inst_of hx hdx) (by kernel_rfl) (by kernel_rfl) (by kernel_rfl) (by kernel_rfl) (by kernel_rfl) (by kernel_rfl) (by simpa using hv) hh h
theorem sa_shift {Q : Unit → Shared → Prop} (F : Fx b L hp m ((x, IO dx sl) :: own)) (X : (KK w).In hp) (hdx : hp.get? dx = some emptyDict)
    (h : ∀ h', Fx b L h' m ((x, IO dx ((sl ++ List.replicate (2 + 1 - sl.length) none).set 2 (some v))) :: own) → Q () ⟨h', gs, dr, tk + 1, os⟩) : wpAny (model prog w) A (setAttr (.ref x) (Str.ofString "_shift") v) Q E ⟨hp, gs, dr, tk, os⟩ :=
  sa_slot (p := 300) (i := 2) F X (inst_of F.head hdx) (by kernel_rfl) (by kernel_rfl) (by kernel_rfl) (by kernel_rfl) (by kernel_rfl) (by decide) (by rw [arr_set]) rfl h
theorem ga_tail {expr : Bool} (X : (KK w).In hp) (hx : hp.get? x = some (IO dx sl)) (hdx : hp.get? dx = some emptyDict) (hv : (sl[3]?).join = some v) (hh : handedIn v = true) (h : Q v ⟨hp, gs, dr, tk + 1, os⟩) :
    wpAny (model prog w) A (getAttr (.ref x) (Str.ofString "_tail") expr) Q E ⟨hp, gs, dr, tk, os⟩ :=
  ga_slot (p := 301) (i := 3) X (inst_of hx hdx) (by kernel_rfl) (by kernel_rfl) (by kernel_rfl) (by kernel_rfl) (by kernel_rfl) (by kernel_rfl) (by simpa using hv) hh h
theorem sa_tail {Q : Unit → Shared → Prop} (F : Fx b L hp m ((x, IO dx sl) :: own)) (X : (KK w).In hp) (hdx : hp.get? dx = some emptyDict)
    (h : ∀ h', Fx b L h' m ((x, IO dx ((sl ++ List.replicate (3 + 1 - sl.length) none).set 3 (some v))) :: own) → Q () ⟨h', gs, dr, tk + 1, os⟩) : wpAny (model prog w) A (setAttr (.ref x) (Str.ofString "_tail") v) Q E ⟨hp, gs, dr, tk, os⟩ :=
  sa_slot (p := 301) (i := 3) F X (inst_of F.head hdx) (by kernel_rfl) (by kernel_rfl) (by kernel_rfl) (by kernel_rfl) (by kernel_rfl) (by decide) (by rw [arr_set]) rfl h
theorem ga_tail_offset {expr : Bool} (X : (KK w).In hp) (hx : hp.get? x = some (IO dx sl)) (hdx : hp.get? dx = some emptyDict) (hv : (sl[4]?).join = some v) (hh : handedIn v = true) (h : Q v ⟨hp, gs, dr, tk + 1, os⟩) :
    wpAny (model prog w) A (getAttr (.ref x) (Str.ofString "_tail_offset") expr) Q E ⟨hp, gs, dr, tk, os⟩ :=
  ga_slot (p := 302) (i := 4) X (inst_of hx hdx) (by kernel_rfl) (by kernel_rfl) (by kernel_rfl) (by kernel_rfl) (by kernel_rfl) (by kernel_rfl) (by simpa using hv) hh h
theorem sa_tail_offset {Q : Unit → Shared → Prop} (F : Fx b L hp m ((x, IO dx sl) :: own)) (X : (KK w).In hp) (hdx : hp.get? dx = some emptyDict)
    (h : ∀ h', Fx b L h' m ((x, IO dx ((sl ++ List.replicate (4 + 1 - sl.length) none).set 4 (some v))) :: own) → Q () ⟨h', gs, dr, tk + 1, os⟩) : wpAny (model prog w) A (setAttr (.ref x) (Str.ofString "_tail_offset") v) Q E ⟨hp, gs, dr, tk, os⟩ :=
  sa_slot (p := 302) (i := 4) F X (inst_of F.head hdx) (by kernel_rfl) (by kernel_rfl) (by kernel_rfl) (by kernel_rfl) (by kernel_rfl) (by decide) (by rw [arr_set]) rfl h
end
local macro_rules | `(tactic| walk_at "glob") => do
  let F := Lean.mkIdent `F; let T := Lean.mkIdent `T
  `(tactic| first | (with_reducible refine nm_eq $F $T ?_ ?_ ?_; rotate_left; with_unfolding_all rfl; with_unfolding_all rfl) | (with_reducible refine nm_ge $F $T ?_ ?_ ?_; rotate_left; with_unfolding_all rfl; with_unfolding_all rfl) | (with_reducible refine nm_gt $F $T ?_ ?_ ?_; rotate_left; with_unfolding_all rfl; with_unfolding_all rfl) | (with_reducible refine nm_le $F $T ?_ ?_ ?_; rotate_left; with_unfolding_all rfl; with_unfolding_all rfl) | (with_reducible refine nm_lt $F $T ?_ ?_ ?_; rotate_left; with_unfolding_all rfl; with_unfolding_all rfl) | (with_reducible refine nm_wall $F $T ?_ ?_ ?_; rotate_left; with_unfolding_all rfl; with_unfolding_all rfl) | (with_reducible refine nm_bitcount $F $T ?_ ?_ ?_; rotate_left; with_unfolding_all rfl; with_unfolding_all rfl) | (with_reducible refine nm_BRANCH_FACTOR $F $T ?_ ?_ ?_; rotate_left; with_unfolding_all rfl; with_unfolding_all rfl) | (with_reducible refine nm_BIT_MASK $F $T ?_ ?_ ?_; rotate_left; with_unfolding_all rfl; with_unfolding_all rfl) | (with_reducible refine nm_SHIFT $F $T ?_ ?_ ?_; rotate_left; with_unfolding_all rfl; with_unfolding_all rfl) | (with_reducible refine nm_compare_pvector $F $T ?_ ?_ ?_; rotate_left; with_unfolding_all rfl; with_unfolding_all rfl) | (with_reducible refine nm_PythonPVector $F $T ?_ ?_ ?_; rotate_left; with_unfolding_all rfl; with_unfolding_all rfl) | (with_reducible refine nm_EMPTY_PVECTOR $F $T ?_ ?_ ?_; rotate_left; with_unfolding_all rfl; with_unfolding_all rfl) | (with_reducible refine nm_python_pvector $F $T ?_ ?_ ?_; rotate_left; with_unfolding_all rfl; with_unfolding_all rfl) | (with_reducible refine nm_law_digits $F $T ?_ ?_ ?_; rotate_left; with_unfolding_all rfl; with_unfolding_all rfl) | (with_reducible refine nm_law_first $F $T ?_ ?_ ?_; rotate_left; with_unfolding_all rfl; with_unfolding_all rfl) | (with_reducible refine nm_law_index $F $T ?_ ?_ ?_; rotate_left; with_unfolding_all rfl; with_unfolding_all rfl) | (with_reducible refine nm_len $F $T ?_ ?_ ?_; rotate_left; with_unfolding_all rfl; with_unfolding_all rfl) | (with_reducible refine nm_list $F $T ?_ ?_ ?_; rotate_left; with_unfolding_all rfl; with_unfolding_all rfl) | (with_reducible refine nm_range $F $T ?_ ?_ ?_; rotate_left; with_unfolding_all rfl; with_unfolding_all rfl) | (with_reducible refine nm_isinstance $F $T ?_ ?_ ?_; rotate_left; with_unfolding_all rfl; with_unfolding_all rfl) | (with_reducible refine nm_slice $F $T ?_ ?_ ?_; rotate_left; with_unfolding_all rfl; with_unfolding_all rfl) | (with_reducible refine nm_min $F $T ?_ ?_ ?_; rotate_left; with_unfolding_all rfl; with_unfolding_all rfl) | (with_reducible refine nm_max $F $T ?_ ?_ ?_; rotate_left; with_unfolding_all rfl; with_unfolding_all rfl) | (with_reducible refine nm_enumerate $F $T ?_ ?_ ?_; rotate_left; with_unfolding_all rfl; with_unfolding_all rfl) | (with_reducible refine nm_zip $F $T ?_ ?_ ?_; rotate_left; with_unfolding_all rfl; with_unfolding_all rfl) | (with_reducible refine nm_iter $F $T ?_ ?_ ?_; rotate_left; with_unfolding_all rfl; with_unfolding_all rfl) | (with_reducible refine nm_hasattr $F $T ?_ ?_ ?_; rotate_left; with_unfolding_all rfl; with_unfolding_all rfl) | (with_reducible refine nm_tuple $F $T ?_ ?_ ?_; rotate_left; with_unfolding_all rfl; with_unfolding_all rfl) | (with_reducible refine nm_super $F $T ?_ ?_ ?_; rotate_left; with_unfolding_all rfl; with_unfolding_all rfl) | (with_reducible refine nm_dict $F $T ?_ ?_ ?_; rotate_left; with_unfolding_all rfl; with_unfolding_all rfl) | (with_reducible refine nm_int $F $T ?_ ?_ ?_; rotate_left; with_unfolding_all rfl; with_unfolding_all rfl) | (with_reducible refine nm_ValueError $F $T ?_ ?_ ?_; rotate_left; with_unfolding_all rfl; with_unfolding_all rfl) | (with_reducible refine nm_IndexError $F $T ?_ ?_ ?_; rotate_left; with_unfolding_all rfl; with_unfolding_all rfl) | (with_reducible refine nm_TypeError $F $T ?_ ?_ ?_; rotate_left; with_unfolding_all rfl; with_unfolding_all rfl))
local macro_rules | `(tactic| walk_at "room") => `(tactic| (simp only [recursionLimit, Around.deeper, Around.in1, Around.mark] at *; omega))
local macro_rules | `(tactic| walk_at "rf") => `(tactic| (rotate_left; with_unfolding_all rfl))
local macro_rules | `(tactic| walk_at "rf2") => `(tactic| (rotate_left; with_unfolding_all rfl; with_unfolding_all rfl))
local macro_rules | `(tactic| walk_at "look") => `(tactic| first
  | with_unfolding_all rfl
  | ((try dsimp only); repeat' (first | assumption | exact look_hit rfl | refine look_miss (by decide) ?_)))
local macro_rules | `(tactic| walk_at "loc") => do
  let F := Lean.mkIdent `F
  `(tactic| first
    | ((with_reducible show wpAny _ _ (eval (Expr.Name _ _) _) _ _ _); refine n_loc $F (by walk_at "look") ?_)
    | ((with_reducible show wpAny _ _ (loadName _ _) _ _ _); refine l_loc $F (by walk_at "look") ?_))
local macro_rules | `(tactic| walk_at "st") => do
  let F := Lean.mkIdent `F
  let h := Lean.mkIdent `hq
  `(tactic| ((with_reducible show wpAny _ _ (storeName _ _ _) _ _ _); refine st_loc $F ?_; clear $F; intro $h $F))
local macro_rules | `(tactic| walk_at "ga") => do
  let F := Lean.mkIdent `F; let T := Lean.mkIdent `T; let hx := Lean.mkIdent `hx; let hdx := Lean.mkIdent `hdx
  `(tactic| ((with_reducible show wpAny _ _ (getAttr _ _ _) _ _ _); first
    | with_reducible refine ga_count (Tp.up $T (Fx.keep $F)).X (Fx.keep $F _ _ $hx) (Fx.keep $F _ _ $hdx) rfl rfl ?_
    | with_reducible refine ga_root (Tp.up $T (Fx.keep $F)).X (Fx.keep $F _ _ $hx) (Fx.keep $F _ _ $hdx) rfl rfl ?_
    | with_reducible refine ga_shift (Tp.up $T (Fx.keep $F)).X (Fx.keep $F _ _ $hx) (Fx.keep $F _ _ $hdx) rfl rfl ?_
    | with_reducible refine ga_tail (Tp.up $T (Fx.keep $F)).X (Fx.keep $F _ _ $hx) (Fx.keep $F _ _ $hdx) rfl rfl ?_
    | with_reducible refine ga_tail_offset (Tp.up $T (Fx.keep $F)).X (Fx.keep $F _ _ $hx) (Fx.keep $F _ _ $hdx) rfl rfl ?_
    | with_reducible refine ga_count (Tp.up $T (Fx.keep $F)).X (Fx.head $F) (Fx.keep $F _ _ $hdx) rfl rfl ?_
    | with_reducible refine ga_root (Tp.up $T (Fx.keep $F)).X (Fx.head $F) (Fx.keep $F _ _ $hdx) rfl rfl ?_
    | with_reducible refine ga_shift (Tp.up $T (Fx.keep $F)).X (Fx.head $F) (Fx.keep $F _ _ $hdx) rfl rfl ?_
    | with_reducible refine ga_tail (Tp.up $T (Fx.keep $F)).X (Fx.head $F) (Fx.keep $F _ _ $hdx) rfl rfl ?_
    | with_reducible refine ga_tail_offset (Tp.up $T (Fx.keep $F)).X (Fx.head $F) (Fx.keep $F _ _ $hdx) rfl rfl ?_))
local macro_rules | `(tactic| walk_at "e") => `(tactic| first
  | with_reducible refine s_cons ?_
  | with_reducible refine wpAny_execs_nil ?_
  | with_reducible refine nx_next ?_
  | with_reducible refine nx_ret ?_
  | with_reducible refine wpAny_If ?_
  | (with_reducible refine wpAny_Assign_Name ?_ ?_; walk_at "rf")
  | (with_reducible refine plainObj_wpAny_Assign_Attribute ?_ ?_; walk_at "rf")
  | (with_reducible refine Assign_Tuple ?_ ?_ ?_; walk_at "rf2")
  | with_reducible refine wpAny_assign_Name ?_
  | with_reducible refine assign_attr ?_
  | with_reducible refine wpAny_AugAssign_AttributeAny ?_
  | with_reducible refine wpAny_AugAssign_Name ?_
  | with_reducible refine wpAny_Return_some ?_
  | (with_reducible refine wpAny_Expr_any ?_ ?_ ?_; walk_at "rf2")
  | with_reducible refine wpAny_BinOp ?_
  | with_reducible refine x_int ?_
  | with_reducible refine List_ ?_
  | with_reducible refine Tuple_ ?_
  | with_reducible refine wpAny_Constant_none ?_
  | with_reducible refine wpAny_Constant_bool ?_
  | (with_reducible refine' MethodCall_ ?_ ?he; (case he => with_unfolding_all rfl))
  | (with_reducible refine Call_ ?_ ?_; walk_at "rf")
  | with_reducible refine args_nil ?_
  | (with_reducible refine args_cons ?_ ?_; walk_at "rf")
  | (with_reducible refine callWith_method1 ?_ ?_ ?_; walk_at "rf2")
  | (with_reducible refine callWith_method0 ?_)
  | (with_reducible refine PyProof.Rows.callWith_type1 ?_ ?_ ?_; walk_at "rf2")
  | (with_reducible refine PyProof.Rows.callWith_builtin1 ?_ ?_ ?_; walk_at "rf2")
  | (with_reducible refine Attribute_any_ ?_ ?_; walk_at "rf")
  | (with_reducible refine wpAny_isTrue_Compare1 ?_ ?_; walk_at "rf")
  | (with_reducible refine wpAny_Compare1 ?_ ?_; walk_at "rf")
  | (with_reducible refine isTrue_chain ?_ ?_; walk_at "rf")
  | (with_reducible refine Compare_chain ?_ ?_; walk_at "rf")
  | ((with_reducible show wpAny _ _ (testChain _ _ _ _) _ _ _); first | refine test_link ?_ | refine test_last ?_)
  | ((with_reducible show wpAny _ _ (compareChain _ _ _ _) _ _ _); first | refine chain_link ?_ | refine chain_last ?_)
  | with_reducible refine isTrue_and_nil ?_
  | with_reducible refine isTrue_or_nil ?_
  | with_reducible refine isTrue_and ?_
  | with_reducible refine isTrue_or ?_
  | with_reducible refine isTrue_not ?_
  | with_reducible refine is_none_none ?_
  | with_reducible refine is_int_none ?_
  | with_reducible refine is_ref_none ?_
  | with_reducible refine isnot_none_none ?_
  | with_reducible refine isnot_int_none ?_
  | with_reducible refine isnot_ref_none ?_
  | (with_reducible refine isTrue_plain ?_ ?_; walk_at "rf")
  | with_reducible refine wpAny_truthy_bool ?_
  | (with_reducible refine sub_slice ?_ ?_; (rotate_left; (intro _ _; with_unfolding_all rfl)))
  | with_reducible refine Subscript_ ?_
  | with_reducible refine ep_none ?_
  | with_reducible refine ep_some ?_
  | with_reducible refine x_add ?_
  | with_reducible refine x_sub ?_
  | with_reducible refine x_isub ?_
  | with_reducible refine x_iadd ?_
  | with_reducible refine x_and ?_
  | with_reducible refine wpAny_UnaryOp ?_
  | with_reducible refine x_neg ?_
  | with_reducible refine truthy_int ?_
  | with_reducible refine lt_int ?_
  | with_reducible refine gt_int ?_
  | with_reducible refine eq_int ?_
  | with_reducible refine ne_int ?_
  | with_reducible refine le_int ?_
  | with_reducible refine ge_int ?_
  | walk_at "loc"
  | walk_at "ga"
  | walk_at "glob"
  | walk_at "st"
  | fail "e: no step")
local macro_rules | `(tactic| walk_at "r") => `(tactic| repeat walk_at "e")
abbrev VO (dx : Addr) (n : Int) (root : Addr) (sh : Int) (tail : Addr) (toff : Int) (t1 t2 t3 : Tok) : Obj :=
  IO dx [some (.int n t1), some (.ref root), some (.int sh t2), some (.ref tail), some (.int toff t3)]
/-- a tree of lists over h, of a depth, and what its leaves hold -/
def TreeAt (h : Heap) : Nat → Addr → List Value → Prop
  | 0, a, xs => ∃ n, h.get? a = some (LO xs n)
  | k + 1, a, xs => ∃ n, ∃ cs : List Addr, ∃ yss : List (List Value), h.get? a = some (LO (cs.map Value.ref) n) ∧ cs.length = yss.length ∧ (∀ (i : Nat) c ys, cs[i]? = some c → yss[i]? = some ys → TreeAt h k c ys) ∧ xs = yss.flatten
theorem TreeAt.up {h h' : Heap} (e : Ext h h') : ∀ {k : Nat} {a : Addr} {xs : List Value}, TreeAt h k a xs → TreeAt h' k a xs
  | 0, _, _, ⟨n, g⟩ => ⟨n, e _ _ g⟩
  | _ + 1, _, _, ⟨n, cs, yss, g, hl, hc, hx⟩ => ⟨n, cs, yss, e _ _ g, hl, fun i c ys h1 h2 => (hc i c ys h1 h2).up e, hx⟩
theorem ext_hide1 {g hp : Heap} {tl : Addr} (he : Ext g hp) (hg : g.get? tl = none) : Ext g (hideAll hp [tl]) :=
  fun c oc e => hideAll_get _ (he c oc e) (fun q => by rw [List.mem_singleton.mp q, hg] at e; cases e)

section
variable {prog : Program} {w : World} {mg mb : Str → Option Value} {x dx : Addr} {sl : List (Option Value)}
set_option maxHeartbeats 4000000 in
theorem fill_spec : ∀ (k : Nat) {A : Around} {E : Value → Shared → Prop} {hp : Heap} {gs : Array GenState} {dr : Drawn} {tk : Nat} {os : OsState} {Q : Value → Shared → Prop} {g : Heap} {a tl : Addr} {xs items : List Value} {n : Nat} {t : Tok} {sh : Int} (T : Tp (KK w) mg mb g) (hx : g.get? x = some (IO dx sl)) (hdx : g.get? dx = some emptyDict)
    (Tr : TreeAt g k a xs) (he : Ext g hp) (hg : g.get? tl = none) (htl : hp.get? tl = some (LO items n)) (hsh : sh = 5 * k) (hroom : A.depth + k < 900) (hh : A.handled = none) (hz : items.length + xs.length ≤ 1000000)
    (h : ∀ h' tk n', Ext g h' → h'.get? tl = some (LO (items ++ xs) n') → Q .none ⟨h', gs, dr, tk, os⟩),
    wpAny (model prog w) A (call (.ref m_fill_list) [.ref x, .ref a, .int sh t, .ref tl]) Q E ⟨hp, gs, dr, tk, os⟩ := by
  intro k
  induction k with
  | zero =>
    intro A E hp gs dr tk os Q g a tl xs items n t sh T hx hdx Tr he hg htl hsh hroom hh hz h
    have T0 := T.up he
    refine wpAny_call ?_
    refine call_fx [(tl, LO items n)] (binds := [(Str.ofString "self", .ref x), (Str.ofString "node", .ref a), (Str.ofString "shift", .int sh t), (Str.ofString "the_list", .ref tl)]) (by walk_at "room") (T0.X _ _ (lk m_fill_list (by kernel_rfl))) (by with_unfolding_all rfl) T0.nolimit (codeRec_of T0.X (by kernel_rfl)) (BindsTo.of_eq (by with_unfolding_all rfl)) (locs (by with_unfolding_all rfl)) (fun p hp => by rw [List.mem_singleton.mp hp]; exact htl) (by simp) ?_ (by decide +kernel)
    intro L h₁ tk F
    have eb := ext_hide1 he hg
    have T := T.up eb
    obtain ⟨na, ga⟩ := Tr
    subst hsh
    walk_at "r"
    rw [if_neg (by decide)]
    walk_at "r"
    refine gm_list F.head PySem.F.slot_list_extend PySem.F.type_list_extend ?_
    walk_at "r"
    refine lc_extend F (F.keep _ _ (eb _ _ ga)) hz ?_
    clear F
    intro hq n' F
    walk_at "r"
    exact h _ _ _ (eb.trans F.keep) F.head
  | succ k ih =>
    intro A E hp gs dr tk os Q g a tl xs items n t sh T hx hdx Tr he hg htl hsh hroom hh hz h
    have T0 := T.up he
    refine wpAny_call ?_
    refine call_fx [(tl, LO items n)] (binds := [(Str.ofString "self", .ref x), (Str.ofString "node", .ref a), (Str.ofString "shift", .int sh t), (Str.ofString "the_list", .ref tl)]) (by walk_at "room") (T0.X _ _ (lk m_fill_list (by kernel_rfl))) (by with_unfolding_all rfl) T0.nolimit (codeRec_of T0.X (by kernel_rfl)) (BindsTo.of_eq (by with_unfolding_all rfl)) (locs (by with_unfolding_all rfl)) (fun p hp => by rw [List.mem_singleton.mp hp]; exact htl) (by simp) ?_ (by decide +kernel)
    intro L h₁ tk F
    have eb := ext_hide1 he hg
    have T := T.up eb
    obtain ⟨na, cs, yss, ga, hlen, hkids, rfl⟩ := Tr
    walk_at "r"
    rw [if_pos (by subst hsh; simp; omega)]
    walk_at "r"
    refine wpAny_For ?_
    walk_at "r"
    refine for_list (items := cs.map Value.ref) F (eb _ _ ga) hh (fun i b' m' own' => m' (Str.ofString "self") = some (.ref x) ∧ m' (Str.ofString "the_list") = some (.ref tl) ∧ (∃ t', m' (Str.ofString "shift") = some (.int (sh - 5) t')) ∧ ∃ n', own' = [(tl, LO (items ++ (yss.take i).flatten) n')]) ⟨rfl, rfl, ⟨_, rfl⟩, n, by simp⟩ ?_ ?_
    · rintro i v b₁ m₁ own₁ h₁ tk₁ it E' hi hv ⟨ms, mt, ⟨t', msh⟩, n', rfl⟩ e₁ F
      have T := T.up e₁
      have ex := eb.trans e₁
      obtain ⟨c, hc, rfl⟩ : ∃ c, cs[i]? = some c ∧ v = .ref c := by
        rw [List.getElem?_map] at hv
        obtain ⟨c, hc, e⟩ := Option.map_eq_some_iff.mp hv
        exact ⟨c, hc, e.symm⟩
      rw [List.length_map] at hi
      obtain ⟨ys, hys⟩ : ∃ ys, yss[i]? = some ys := ⟨_, List.getElem?_eq_getElem (by omega)⟩
      walk_at "r"
      refine gm_fill_list (T.up F.keep).X (F.keep _ _ (ex _ _ hx)) (F.keep _ _ (ex _ _ hdx)) ?_
      refine cw_fn T (by kernel_rfl) ?_
      walk_at "r"
      refine ⟨F.keep, ?_⟩
      have F : Fx b₁ L h₁ _ ((tl, LO (items ++ (yss.take i).flatten) n') :: it) := F
      have eh := ex.trans F.hid
      have hlen' : ((yss.take (i + 1)).flatten).length ≤ yss.flatten.length := by
        conv => rhs; rw [← List.take_append_drop (i + 1) yss]
        rw [List.flatten_append, List.length_append]; omega
      have hfl : (yss.take (i + 1)).flatten = (yss.take i).flatten ++ ys := by
        rw [List.take_add_one, hys, List.flatten_append]; simp
      rw [hfl, List.length_append] at hlen'
      refine ih (g := h₁.hide tl) (T.up F.hid) (eh _ _ hx) (eh _ _ hdx) ((hkids i c ys hc hys).up eh) (hide_ext _ _) (Heap.hide_self _ _) F.head (by omega) (by walk_at "room") hh (by rw [List.length_append]; omega) ?_
      intro h₂ tk₂ n₂ e₂ ht₂
      have F := F.back1 e₂ ht₂
      walk_at "r"
      refine ⟨h₂, tk₂, b₁, (fun y => if y = Str.ofString "n" then some (Value.ref c) else m₁ y), [(tl, LO (items ++ (yss.take (i + 1)).flatten) n₂)], rfl, .rfl', ?_, by walk_at "look", by walk_at "look", ⟨t', by walk_at "look"⟩, n₂, rfl⟩
      rw [hfl, ← List.append_assoc]
      exact F
    · rintro h' tk' b' m' own' ⟨ms, mt, msh, n', rfl⟩ e' F
      walk_at "r"
      rw [List.length_map, hlen, List.take_length] at F
      exact h _ _ _ ((eb.trans e').trans F.keep) F.head

set_option maxHeartbeats 4000000 in
theorem tolist_spec {A : Around} {E : Value → Shared → Prop} {hp : Heap} {gs : Array GenState} {dr : Drawn} {tk : Nat} {os : OsState} {Q : Value → Shared → Prop} {k : Nat} {root tail : Addr} {ys zs : List Value} {tn : Nat} {n toff sh : Int} {t1 t2 t3 : Tok} (T : Tp (KK w) mg mb hp)
    (hx : hp.get? x = some (VO dx n root sh tail toff t1 t2 t3)) (hdx : hp.get? dx = some emptyDict) (hsh : sh = 5 * k) (Tr : TreeAt hp k root ys) (ht : hp.get? tail = some (LO zs tn)) (hroom : A.depth + k < 800) (hh : A.handled = none) (hz : ys.length + zs.length ≤ 1000000)
    (h : ∀ D c h' tk, Ext hp h' → hp.get? D = none → h'.get? D = some (LO (ys ++ zs) c) → Q (.ref D) ⟨h', gs, dr, tk, os⟩) :
    wpAny (model prog w) A (call (.ref m_tolist) [.ref x]) Q E ⟨hp, gs, dr, tk, os⟩ := by
  refine wpAny_call ?_
  refine call_fx [] (binds := [(Str.ofString "self", .ref x)]) (by walk_at "room") (T.X _ _ (lk m_tolist (by kernel_rfl))) (by with_unfolding_all rfl) T.nolimit (codeRec_of T.X (by kernel_rfl)) (BindsTo.of_eq (by with_unfolding_all rfl)) (locs (by with_unfolding_all rfl)) (fun _ q => nomatch q) List.nodup_nil ?_ (by decide +kernel)
  intro L h₁ tk F
  have F : Fx hp L h₁ _ [] := F
  walk_at "r"
  refine nl F ?_
  clear F; intro D hq F _
  walk_at "r"
  refine gm_fill_list (T.up F.keep).X (F.keep _ _ hx) (F.keep _ _ hdx) ?_
  refine cw_fn T (by kernel_rfl) ?_
  walk_at "r"
  refine ⟨F.keep, ?_⟩
  refine fill_spec k (g := Heap.hide _ D) (T.up F.hid) (F.hid _ _ hx) (F.hid _ _ hdx) (Tr.up F.hid) (hide_ext _ _) (Heap.hide_self _ _) F.head hsh (by walk_at "room") hh (by simp; omega) ?_
  intro h₂ tk₂ n₂ e₂ ht₂
  have F := F.back1 e₂ ht₂
  walk_at "r"
  refine gm_list F.head PySem.F.slot_list_extend PySem.F.type_list_extend ?_
  walk_at "r"
  refine lc_extend F (F.keep _ _ ht) (by simp; omega) ?_
  clear F; intro hq n' F
  walk_at "r"
  exact h _ _ _ _ F.keep (F.out _ (.head _)) (by simpa using F.head)
end
theorem cls_at (w : World) : ∃ oc od cd sl, (KK w).lookup aC = some ⟨oc, od, .cls cd, sl⟩ ∧ cd.abstract = false ∧ cd.hasDel = false ∧ cd.mro.isEmpty = false := ⟨_, _, _, _, by with_unfolding_all rfl, by with_unfolding_all rfl, by with_unfolding_all rfl, by with_unfolding_all rfl⟩
section
variable {prog : Program} {w : World} {A : Around} {E : Value → Shared → Prop} {hp : Heap} {gs : Array GenState} {dr : Drawn} {tk : Nat} {os : OsState} {mg mb : Str → Option Value}
theorem obj_new {Q : Value → Shared → Prop} (X : (KK w).In hp) (hq : Q (.ref (hp.objs.size + 1)) ⟨(hp.push emptyDict).push (IO hp.objs.size []), gs, dr, tk, os⟩) :
    wpAny (model prog w) A (call (.builtin "object.__new__") [.ref aC]) Q E ⟨hp, gs, dr, tk, os⟩ := by
  have F := PySem.F.objNew
  refine wpAny_call ?_
  refine codeAny_call_builtin_code (Code.quiet_builtin _ F.quiet) ?_
  simp only [checkBuiltinCall, F.kind, F.split, F.row]
  obtain ⟨oc, od, cd, sl, hC, e1, e2, e4⟩ := cls_at w
  have hC := X _ _ hC
  have typ : Looks (model prog w) hp (isInstance (.ref aC) (.type "type")) true := looks_instIn X (by kernel_rfl)
  have top : Looks (model prog w) hp (isSubtype (.ref aC) (.type "object")) true := looks_subIn X (by kernel_rfl)
  have here : Looks (model prog w) hp (Bind.madeHere "object.__new__" (.ref aC)) () := Looks.of_peek X (by kernel_rfl)
  have base : Looks (model prog w) hp (Bind.staticBase (.ref aC)) (.type "object") := Looks.of_peek X (by kernel_rfl)
  have made : Looks (model prog w) hp (Bind.madeBy (.ref aC)) none := Looks.of_peek X (by kernel_rfl)
  have made2 : Looks (model prog w) hp (Bind.madeBy (.type "object")) (some "object.__new__") := Looks.of_peek X (by kernel_rfl)
  have args : Bind.checkArgs "object.__new__" ⟨.hand, "object.__new__", "__new__", .cls, []⟩ ⟨[.ref aC], []⟩ = pure () := by kernel_rfl
  rw [args]
  repeat (first | simp only [bne_self_eq_false, Bool.false_eq_true, if_false] | lk)
  refine codeAny_builtin F.entry ?_
  unfold Builtin.«object.__new__»
  have fin : ∀ A', wpAny (model prog w) A' (do
      let d ← if typeHasDict (.ref aC) then some <$> alloc { cls := .type "dict", data := .dict #[] } else pure none
      ret (← newObj (.ref aC) .plain d)) (fun fin s' => match fin with | .done f => (match (Except.ok f : Result) with | .ok (.ret v) => Q v s' | .ok _ => False | .error e => E e s') | .again c' => c'.quiet = true ∧ codeAny (model prog w) A c' (fun r s' => match r with | .ok (.ret v) => Q v s' | .ok _ => False | .error e => E e s') s') (fun e s' => E e s') ⟨hp, gs, dr, tk, os⟩ := by
    intro A'
    show wpAny _ _ ((alloc emptyDict >>= fun x => pure (some x)) >>= _) _ _ _
    refine wpAny_bind (wpAny_bind (wpAny_alloc (wpAny_pure (wpAny_bind ?_))))
    show wpAny _ _ (newObjAsIs _ _ _) _ _ _
    unfold newObjAsIs classHasDel
    refine wpAny_bind (wpAny_alloc (wpAny_bind (wpAny_bind (wpAny_load (Heap.get?_push_of_some _ (Heap.get?_push_of_some _ hC)) (wpAny_pure ?_)))))
    rw [e2]
    refine wpAny_pure (wpAny_pure ?_)
    dsimp only
    rw [Heap.size_push]
    exact hq
  repeat (first | simp only [e1, Bool.false_eq_true, if_false] | exact fin _ | lk)

abbrev SO : Obj := { cls := .type "super", dict := none, data := .fields #[.ref aC, .ref aC, .ref aC], slots := #[] }
theorem super_call {Q : Value → Shared → Prop} (X : (KK w).In hp) (hq : ∀ h', h'.get? hp.objs.size = some SO → Ext hp h' → Q (.ref hp.objs.size) ⟨h', gs, dr, tk, os⟩) :
    wpAny (model prog w) A (call (.type "super") [.ref aC, .ref aC]) Q E ⟨hp, gs, dr, tk, os⟩ := by
  obtain ⟨oc, od, cd, sl, hC, e1, e2, e4⟩ := cls_at w
  have hD := X _ _ hC
  have hsub : Looks (model prog w) hp (isSubtype (.ref aC) (.ref aC)) true := looks_subIn X (by kernel_rfl)
  refine ks_callType_codesW (Q₁ := fun obj s₁ => obj = .ref hp.objs.size ∧ s₁ = ⟨hp.push { cls := .type "super", data := .fields #[.none, .none, .none] }, gs, dr, tk, os⟩) F.ks_called_super (ks_wpAny_checkTypeCall_super hD rfl) F.ks_entry_super_init
    (ks_code_super_new _ _ ⟨rfl, rfl⟩) fun obj s₁ h₁ => ?_
  obtain ⟨rfl, rfl⟩ := h₁
  have up : Ext hp (hp.push { cls := .type "super", data := .fields #[.none, .none, .none] }) := .of_push _
  have hso : (hp.push { cls := .type "super", data := .fields #[.none, .none, .none] }).get? hp.objs.size = some { cls := .type "super", dict := none, data := .fields #[.none, .none, .none], slots := #[] } := Heap.get?_push_at rfl rfl
  have hD' := up _ _ hD
  have hsub' := hsub.keeps up
  refine ⟨⟨_, hso, rfl⟩, F.ks_initArgs_super _ _ _, ?_⟩
  unfold Builtin.«super.__init__» noKeywords
  repeat (first | (with_reducible refine ks_wpAny_isType_cls hD' rfl ?_) | (with_reducible refine Looks.at hsub' ?_) | (with_reducible refine ks_wpAny_super_set3 hso ?_) | wp_step)
  all_goals (intro h' e k; exact ⟨rfl, hq h' e fun y o ey => k y o (Nat.ne_of_lt (Heap.lt_size ey)) (up y o ey)⟩)


theorem super_ga {C so : Addr} {K : Frag} {name : Str} {t' : Tok} {vf : Value} {l₀ l : List Value} {Q : Fin → Shared → Prop} (X : K.In hp)
    (hso : hp.get? so = some { cls := .type "super", dict := none, data := .fields #[.ref C, .ref C, .ref C], slots := #[] }) (hno : Looks (model prog w) hp (opaqueClassAbove (.ref C)) none)
    (hC : Looks (model prog w) hp (mroOf (.ref C)) l₀) (hl : (l₀.dropWhile (· != .ref C)).drop 1 = l) (hf : alongIn K name l = some (some vf)) (hty : typeOf vf = pure (.type "builtin_function_or_method")) (hhd : handedOut vf = pure vf) (hn : (name == ("__class__" : Str)) = false)
    (hq : Q (.done (.ret vf)) ⟨hp, gs, dr, tk, os⟩) :
    wpAny (model prog w) A (Builtin.«super.__getattribute__» ⟨[.ref so, .str name t'], []⟩) Q E ⟨hp, gs, dr, tk, os⟩ := by
  have hget : typeLookup (.type "builtin_function_or_method") "__get__" = pure none := by rw [typeLookup_type, builtinLookup_eq_fast]; kernel_rfl
  have hdt : ({ cls := .type "super", dict := none, data := .fields #[.ref C, .ref C, .ref C], slots := #[] } : Obj).data = .fields #[.ref C, .ref C, .ref C] := rfl
  have f0 : (#[.ref C, .ref C, .ref C] : Array Value)[0]? = some (.ref C) := rfl
  have f1 : (#[.ref C, .ref C, .ref C] : Array Value)[1]? = some (.ref C) := rfl
  have f2 : (#[.ref C, .ref C, .ref C] : Array Value)[2]? = some (.ref C) := rfl
  unfold Builtin.«super.__getattribute__»
  repeat (first
    | (with_reducible refine wpAny_field hso hdt f0 ?_) | (with_reducible refine wpAny_field hso hdt f1 ?_) | (with_reducible refine wpAny_field hso hdt f2 ?_)
    | (with_reducible refine ks_wpAny_notOpaque hno ?_)
    | (with_reducible refine Looks.at hC ?_; rw [hl])
    | ((with_reducible show wpAny _ _ (forIn _ _ _) _ _ _); refine ks_forIn_along X (fun _ _ => rfl) rfl ?_ hf)
    | (with_reducible refine wpAny_of_eq hty ?_)
    | (with_reducible refine wpAny_of_eq hget ?_)
    | (with_reducible refine wpAny_of_eq hhd ?_)
    | (with_reducible refine ⟨_, rfl, ?_⟩)
    | (simp only [hn, Bool.or_false, Bool.false_eq_true, if_false])
    | wp_step
    | dsimp only)
  all_goals exact hq

theorem super_new {so : Addr} {pl : Sem Bool} {Q : Value × List Value → Shared → Prop} (X : (KK w).In hp) (hso : hp.get? so = some SO) (hq : Q (.builtin "object.__new__", []) ⟨hp, gs, dr, tk + 1, os⟩) :
    wpAny (model prog w) A (getMethod (.ref so) (Str.ofString "__new__") pl) Q E ⟨hp, gs, dr, tk, os⟩ := by
  have hlk := F.ks_slot_super_ga.lookup
  have hcan := F.ks_canon_super_ga
  have hT : ∀ t', (⟨hp, gs, dr, t', os⟩ : Shared).TypeIs (.ref so) "super" := fun _ => ⟨_, hso, rfl⟩
  unfold getMethod
  refine wpAny_bind (wpAny_specialOf (hT _) hlk ?_)
  show wpAny _ _ (if (Manifest.canonical "super.__getattribute__" != "object.__getattribute__") = true then _ else _) _ _ _
  rw [if_pos hcan]
  unfold getAttr getAttrBy
  refine wpAny_bind (wpAny_bind (wpAny_mkText (wpAny_holding (wpAny_bind (wpAny_typeOf (hT _) (wpAny_bind (wpAny_of_eq hlk ?_)))))))
  show wpAny _ _ (getAttrByItsOwn (.ref so) (.str (Str.ofString "__new__") tk) (.type "super") (.builtin "super.__getattribute__") true false) _ _ _
  unfold getAttrByItsOwn hookBefore callGetattribute boundAndCalled
  refine wpAny_bind (wpAny_of_eq (show (if onTheHeap (.type "super") then typeLookup (.type "super") "__getattr__" else pure none) = pure none from rfl) ?_)
  refine wpAny_bind (wpAny_attempt (wpAny_holding ?_))
  show wpAny _ _ (bindSpecial (.builtin "super.__getattribute__") (.ref so) >>= _) _ _ _
  refine wpAny_bind (wpAny_of_eq (F.ks_slot_super_ga.bind _) ?_)
  refine wpAny_mono (Q := fun v s' => v = .builtin "object.__new__" ∧ s' = ⟨hp, gs, dr, tk + 1, os⟩) (E := fun _ _ => False)
    (wpAny_call_entry F.ks_slot_super_ga (hT _) F.ks_entry_super_ga (super_ga (l := [.type "object"]) X hso (Looks.of_peek X (by kernel_rfl)) (Looks.of_peek X (r := [.ref aC, .type "object"]) (by kernel_rfl)) (by decide) (by kernel_rfl) (by show builtinType _ = _; rw [builtinType_eq_fast]; kernel_rfl) (handedOut_of (by decide +kernel)) (by decide) ⟨_, rfl, rfl, rfl⟩) (F.ks_gaArgs_super _ _)) (fun v s' hv => ?_) fun _ _ z => z.elim
  obtain ⟨rfl, rfl⟩ := hv
  exact wpAny_pure (wpAny_pure hq)
end
section
variable {prog : Program} {w : World} {A : Around} {E : Value → Shared → Prop} {hp : Heap} {gs : Array GenState} {dr : Drawn} {tk : Nat} {os : OsState} {mg mb : Str → Option Value}
set_option maxHeartbeats 4000000 in
theorem new_spec {Q : Value → Shared → Prop} {n sh : Int} {root tail : Addr} {t1 t2 : Tok} {zs : List Value} {tn : Nat} (T : Tp (KK w) mg mb hp) (ht : hp.get? tail = some (LO zs tn)) (hz : zs.length ≤ 1000000) (hroom : A.depth < 800)
    (h : ∀ x dx h' tk t3, Ext hp h' → hp.get? x = none → hp.get? dx = none → x ≠ dx → h'.get? dx = some emptyDict → h'.get? x = some (VO dx n root sh tail (n - zs.length) t1 t2 t3) → Q (.ref x) ⟨h', gs, dr, tk, os⟩) :
    wpAny (model prog w) A (call (.ref m_dunder_new) [.ref aC, .int n t1, .int sh t2, .ref root, .ref tail]) Q E ⟨hp, gs, dr, tk, os⟩ := by
  refine wpAny_call ?_
  refine call_fx [] (binds := [(Str.ofString "cls", .ref aC), (Str.ofString "count", .int n t1), (Str.ofString "shift", .int sh t2), (Str.ofString "root", .ref root), (Str.ofString "tail", .ref tail)]) (by walk_at "room") (T.X _ _ (lk m_dunder_new (by kernel_rfl))) (by with_unfolding_all rfl) T.nolimit (codeRec_of T.X (by kernel_rfl)) (BindsTo.of_eq (by with_unfolding_all rfl)) (locs (by with_unfolding_all rfl)) (fun _ q => nomatch q) List.nodup_nil ?_ (by decide +kernel)
  intro L h₁ tk F
  have F : Fx hp L h₁ _ [] := F
  walk_at "r"
  refine super_call (T.up F.keep).X ?_
  intro h₂ hso e₂
  have F := F.ext e₂
  refine super_new (T.up F.keep).X hso ?_
  walk_at "r"
  refine obj_new (T.up F.keep).X ?_
  have F := (F.push emptyDict).push (IO h₂.objs.size [])
  rw [Heap.size_push] at F
  obtain ⟨b', eb, F', kb, _⟩ := F.freeze1
  have hdx : b'.get? h₂.objs.size = some emptyDict := kb (h₂.objs.size, emptyDict) (by simp)
  have hxn : hp.get? (h₂.objs.size + 1) = none := F.out _ (.head _)
  have hdn : hp.get? h₂.objs.size = none := F.out (h₂.objs.size, emptyDict) (by simp)
  have hne : h₂.objs.size + 1 ≠ h₂.objs.size := Nat.succ_ne_self _
  clear F
  have F := F'; clear F'
  have T := T.up eb
  generalize h₂.objs.size + 1 = x at *
  generalize h₂.objs.size = dx at *
  walk_at "r"
  refine sa_count F (T.up F.keep).X (F.keep _ _ hdx) ?_
  clear F; intro hq F
  walk_at "r"
  refine sa_shift F (T.up F.keep).X (F.keep _ _ hdx) ?_
  clear F; intro hq F
  walk_at "r"
  refine sa_root F (T.up F.keep).X (F.keep _ _ hdx) ?_
  clear F; intro hq F
  walk_at "r"
  refine sa_tail F (T.up F.keep).X (F.keep _ _ hdx) ?_
  clear F; intro hq F
  walk_at "r"
  refine lc_len (F.keep _ _ (eb _ _ ht)) hz ?_
  intro t4 tk4
  walk_at "r"
  refine sa_tail_offset F (T.up F.keep).X (F.keep _ _ hdx) ?_
  clear F; intro hq F
  walk_at "r"
  have hfin := F.head
  exact h x dx _ _ _ (eb.trans F.keep) hxn hdn hne (F.keep _ _ hdx) hfin
end
section
variable {prog : Program} {w : World} {A : Around} {E : Value → Shared → Prop} {hp : Heap} {gs : Array GenState} {dr : Drawn} {tk : Nat} {os : OsState} {mg mb : Str → Option Value}
theorem init_call {x dx : Addr} {sl : List (Option Value)} {rest : List Value} {Q : Value → Shared → Prop} (X : (KK w).In hp) (hx : hp.get? x = some (IO dx sl)) (hdx : hp.get? dx = some emptyDict) (hargs : argsOk "object.__init__" ⟨.ref x :: rest, []⟩) (h : Q .none ⟨hp, gs, dr, tk, os⟩) :
    wpAny (model prog w) A (call (.builtin "object.__init__") (.ref x :: rest)) Q E ⟨hp, gs, dr, tk, os⟩ := by
  have I := inst_of hx hdx
  have L0 := I.type (M := model prog w)
  have t2 : Looks (model prog w) hp (isInstance (.ref x) (.type "object")) true := L0.andThen (looks_subIn X (by kernel_rfl))
  have made : Looks (model prog w) hp (Bind.madeBy (.ref aC)) none := Looks.of_peek X (by kernel_rfl)
  have li : Looks (model prog w) hp (typeLookup (.ref aC) "__init__") (some (.builtin "object.__init__")) := looks_findIn X (by kernel_rfl)
  refine wpAny_call ?_
  refine codeAny_call_builtin oi_plain entry_oi (@check_slot (model prog w) _ _ _ "object.__init__" "object" "__init__" (.ref x) rest [] _ oi_kind oi_split t2 hargs ?_)
  unfold Builtin.«object.__init__»
  cases rest with
  | nil => exact wpAny_pure h
  | cons a r =>
    repeat (first | simp only [bne_self_eq_false, Bool.false_eq_true, if_false] | lk)
    exact h

theorem ga_new {expr : Bool} {Q : Value → Shared → Prop} (X : (KK w).In hp) (h : Q (.ref m_dunder_new) ⟨hp, gs, dr, tk + 1, os⟩) : wpAny (model prog w) A (getAttr (.ref aC) (Str.ofString "__new__") expr) Q E ⟨hp, gs, dr, tk, os⟩ :=
  cls_bind (mc := .type "type") X (by kernel_rfl) (g := .builtin "staticmethod.__get__") (a := .ref sm_new) (obj := .none) (tp := .ref aC) (by kernel_rfl) (wpAny_call (sm_get (s := ⟨hp, gs, dr, tk + 1, os⟩) (f := .ref m_dunder_new) (rest := []) X (by kernel_rfl) (handed_on rfl h)))
theorem make_spec {Q : Value → Shared → Prop} {n sh : Int} {root tail : Addr} {t1 t2 : Tok} {zs : List Value} {tn : Nat} (T : Tp (KK w) mg mb hp) (ht : hp.get? tail = some (LO zs tn)) (hz : zs.length ≤ 1000000) (hroom : A.depth < 700)
    (h : ∀ x dx h' tk t3, Ext hp h' → hp.get? x = none → hp.get? dx = none → x ≠ dx → h'.get? dx = some emptyDict → h'.get? x = some (VO dx n root sh tail (n - zs.length) t1 t2 t3) → Q (.ref x) ⟨h', gs, dr, tk, os⟩) :
    wpAny (model prog w) A (call (.ref aC) [.int n t1, .int sh t2, .ref root, .ref tail]) Q E ⟨hp, gs, dr, tk, os⟩ := by
  obtain ⟨oc, od, cd, sl, hC, e1, e2, e4⟩ := cls_at w
  have hC := T.X _ _ hC
  have call : Looks (model prog w) hp (specialOf (.ref aC) "__call__") (some (.builtin "type.__call__")) := looks_specialIn T.X (by kernel_rfl)
  have typ : Looks (model prog w) hp (isInstance (.ref aC) (.type "type")) true := looks_instIn T.X (by kernel_rfl)
  have made : Looks (model prog w) hp (Bind.madeBy (.ref aC)) none := Looks.of_peek T.X (by kernel_rfl)
  refine wpAny_call ?_
  refine codeAny_of_tree ?_
  show wpAny _ _ (callAny (.ref aC) _) _ _ _
  refine nd_load hC ?_
  show wpAny _ _ (callAny.viaDunder (.ref aC) _) _ _ _
  unfold callAny.viaDunder
  refine wpAny_bind (call.at ?_)
  dsimp only
  rw [tc_bind]
  refine wpAny_bind (wpAny_pure (wpAny_bind (wpAny_pure ?_)))
  refine wpAny_pure (a := Fin.again (.call (.builtin "type.__call__") ⟨.ref aC :: [.int n t1, .int sh t2, .ref root, .ref tail], []⟩)) (And.intro rfl ?_)
  refine codeAny_call_builtin_at (Code.quiet_builtin _ (by decide +kernel)) entry_typeCall (check_slot tc_kind tc_split typ (tc_args _ _ _) ?_)
  unfold Builtin.«type.__call__»
  have hm : Looks (model prog w) hp (mroOf (.ref aC)) cd.mro := ((Looks.ld (part := none) hC).andThen .now).andThen .now
  repeat (first | (with_reducible refine ga_new T.X ?_) | (with_reducible refine new_spec T ht hz ?_ ?_) | simp only [e4, Bool.false_eq_true, if_false] | lk)
  · rw [depth_under_make]; omega
  intro x dx h' tk' t3 eh hxn hdn hne hdx hx
  have I := inst_of hx hdx
  have X' := T.X.keeps eh
  have L0 := I.type (M := model prog w)
  have s1 : Looks (model prog w) h' (isSubtype (.ref aC) (.ref aC)) true := looks_subIn X' (by kernel_rfl)
  have i1 : Looks (model prog w) h' (typeLookup (.ref aC) "__init__") (some (.builtin "object.__init__")) := looks_findIn X' (by kernel_rfl)
  have b1 : Looks (model prog w) h' (bindSpecial (.builtin "object.__init__") (.ref x)) (.builtin "object.__init__", [.ref x]) := Looks.of_pure (oi_bind _)
  unfold isInstance callSpecial? specialOf
  repeat (first | ((with_reducible show wpAny _ _ (PySem.call _ _ _) _ _ _); refine init_call X' hx hdx (rest := [.int n t1, .int sh t2, .ref root, .ref tail]) ?_ ?_) | simp only [bne_self_eq_false, Bool.not_true, Bool.false_eq_true, if_false] | lk)
  · unfold argsOk; kernel_rfl
  · refine wpAny_pure ?_
    exact wpAny_pure (h x dx h' _ t3 eh hxn hdn hne hdx hx)
end
theorem gt_shift {n : Int} (h0 : 0 ≤ n) (h : n < 1056) : decide ((1 : Int) * 2 ^ Int.toNat 5 < n.fdiv (2 ^ Int.toNat 5)) = false := by
  have e : (2 : Int) ^ Int.toNat 5 = 32 := rfl
  rw [e, Int.fdiv_eq_ediv_of_nonneg _ (by decide), decide_eq_false_iff_not]
  omega
section
variable {prog : Program} {w : World} {A : Around} {E : Value → Shared → Prop} {hp : Heap} {gs : Array GenState} {dr : Drawn} {tk : Nat} {os : OsState} {mg mb : Str → Option Value} {x dx : Addr}
set_option maxHeartbeats 4000000 in
theorem push_tail_spec {Q : Value → Shared → Prop} {root : Addr} {v vt : Value} {items : List Value} {n : Nat} {t : Tok} (T : Tp (KK w) mg mb hp) (hr : hp.get? root = some (LO items n)) (hz : items.length ≤ 100000) (hroom : A.depth < 800)
    (h : ∀ D c h' tk, Ext hp h' → hp.get? D = none → h'.get? D = some (LO (items ++ [vt]) c) → Q (.ref D) ⟨h', gs, dr, tk, os⟩) :
    wpAny (model prog w) A (call (.ref m_push_tail) [v, .int 5 t, .ref root, vt]) Q E ⟨hp, gs, dr, tk, os⟩ := by
  refine wpAny_call ?_
  refine call_fx [] (binds := [(Str.ofString "self", v), (Str.ofString "level", .int 5 t), (Str.ofString "parent", .ref root), (Str.ofString "tail_node", vt)]) (by walk_at "room") (T.X _ _ (lk m_push_tail (by kernel_rfl))) (by with_unfolding_all rfl) T.nolimit (codeRec_of T.X (by kernel_rfl)) (BindsTo.of_eq (by with_unfolding_all rfl)) (locs (by with_unfolding_all rfl)) (fun _ q => nomatch q) List.nodup_nil ?_ (by decide +kernel)
  intro L h₁ tk F
  have F : Fx hp L h₁ _ [] := F
  walk_at "r"
  refine lc_copy F (F.keep _ _ hr) (by omega) ?_
  clear F; intro D c hq F _
  walk_at "r"
  rw [if_pos (by decide)]
  walk_at "r"
  refine gm_list F.head PySem.F.slot_list_append PySem.F.type_list_append ?_
  walk_at "r"
  refine lc_append F (by omega) ?_
  clear F; intro hq n' F
  walk_at "r"
  exact h _ _ _ _ F.keep (F.out _ (.head _)) F.head

set_option maxHeartbeats 4000000 in
theorem new_root_spec {Q : Value → Shared → Prop} {root tail : Addr} {n toff : Int} {t1 t2 t3 : Tok} {items : List Value} {nr : Nat} (T : Tp (KK w) mg mb hp) (hx : hp.get? x = some (VO dx n root 5 tail toff t1 t2 t3)) (hdx : hp.get? dx = some emptyDict) (hr : hp.get? root = some (LO items nr)) (hz : items.length ≤ 100000) (hroom : A.depth < 700)
    (h0 : 0 ≤ n) (hn : n < 1056)
    (h : ∀ D c tp h' tk, Ext hp h' → hp.get? D = none → h'.get? D = some (LO (items ++ [.ref tail]) c) → h'.get? tp = some (TO [.ref D, .int 5 t2] 0) → hp.get? tp = none → Q (.ref tp) ⟨h', gs, dr, tk, os⟩) :
    wpAny (model prog w) A (call (.ref m_create_new_root) [.ref x]) Q E ⟨hp, gs, dr, tk, os⟩ := by
  refine wpAny_call ?_
  refine call_fx [] (binds := [(Str.ofString "self", .ref x)]) (by walk_at "room") (T.X _ _ (lk m_create_new_root (by kernel_rfl))) (by with_unfolding_all rfl) T.nolimit (codeRec_of T.X (by kernel_rfl)) (BindsTo.of_eq (by with_unfolding_all rfl)) (locs (by with_unfolding_all rfl)) (fun _ q => nomatch q) List.nodup_nil ?_ (by decide +kernel)
  intro L h₁ tk F
  have F : Fx hp L h₁ _ [] := F
  walk_at "r"
  refine x_rshift (by decide) ?_
  walk_at "r"
  refine x_lshift (by decide) (by decide) (by decide) ?_
  walk_at "r"
  rw [gt_shift h0 hn]
  walk_at "r"
  rw [if_neg (by decide)]
  walk_at "r"
  refine gm_push_tail (T.up F.keep).X (F.keep _ _ hx) (F.keep _ _ hdx) ?_
  refine cw_fn T (by kernel_rfl) ?_
  walk_at "r"
  refine ⟨F.keep, ?_⟩
  refine push_tail_spec (T.up F.keep) (F.keep _ _ hr) hz (by walk_at "room") ?_
  intro D c h₂ tk₂ e₂ hDn hD
  have F := F.gain e₂ hDn hD
  walk_at "r"
  refine nt F ?_ (by simp)
  clear F; intro tp hq F _
  walk_at "r"
  exact h D c tp _ _ F.keep (F.out _ (.tail _ (.head _))) F.head2 F.head (F.out _ (.head _))

/-- a flat root over h: its leaves -/
def RootAt (h : Heap) (root : Addr) (yss : List (List Value)) : Prop :=
  ∃ n, ∃ cs : List Addr, h.get? root = some (LO (cs.map Value.ref) n) ∧ cs.length = yss.length ∧ ∀ (i : Nat) c ys, cs[i]? = some c → yss[i]? = some ys → ∃ n', h.get? c = some (LO ys n')
theorem RootAt.up {h h' : Heap} {root : Addr} {yss : List (List Value)} (R : RootAt h root yss) (e : Ext h h') : RootAt h' root yss :=
  let ⟨n, cs, g, hl, hk⟩ := R
  ⟨n, cs, e _ _ g, hl, fun i c ys h1 h2 => let ⟨n', g'⟩ := hk i c ys h1 h2; ⟨n', e _ _ g'⟩⟩
theorem RootAt.tree {h : Heap} {root : Addr} {yss : List (List Value)} (R : RootAt h root yss) : TreeAt h 1 root yss.flatten :=
  let ⟨n, cs, g, hl, hk⟩ := R
  ⟨n, cs, yss, g, hl, hk, rfl⟩
theorem RootAt.snoc {h h' : Heap} {root D tail : Addr} {yss : List (List Value)} {zs : List Value} {c nt : Nat} {cs : List Addr} {n : Nat} (e : Ext h h') (g : h.get? root = some (LO (cs.map Value.ref) n)) (hl : cs.length = yss.length)
    (hk : ∀ (i : Nat) c ys, cs[i]? = some c → yss[i]? = some ys → ∃ n', h.get? c = some (LO ys n')) (hD : h'.get? D = some (LO (cs.map Value.ref ++ [.ref tail]) c)) (ht : h'.get? tail = some (LO zs nt)) : RootAt h' D (yss ++ [zs]) := by
  refine ⟨c, cs ++ [tail], by rw [hD]; simp, by simp [hl], fun i a ys h1 h2 => ?_⟩
  rcases Nat.lt_trichotomy i cs.length with hi | hi | hi
  · rw [List.getElem?_append_left hi] at h1
    rw [List.getElem?_append_left (by omega)] at h2
    obtain ⟨n', g'⟩ := hk i a ys h1 h2
    exact ⟨n', e _ _ g'⟩
  · subst hi
    rw [List.getElem?_append_right (by omega)] at h1
    rw [List.getElem?_append_right (by omega), hl] at h2
    simp at h1 h2
    subst h1 h2
    exact ⟨nt, ht⟩
  · rw [List.getElem?_eq_none (by simp; omega)] at h1; cases h1

set_option maxHeartbeats 4000000 in
theorem append_spec {Q : Value → Shared → Prop} {root tail : Addr} {n toff : Int} {t1 t2 t3 : Tok} {yss : List (List Value)} {zs : List Value} {nt : Nat} {v : Value} (T : Tp (KK w) mg mb hp) (hx : hp.get? x = some (VO dx n root 5 tail toff t1 t2 t3)) (hdx : hp.get? dx = some emptyDict) (R : RootAt hp root yss) (ht : hp.get? tail = some (LO zs nt))
    (hn : n = 32 * yss.length + zs.length) (hz : zs.length ≤ 32) (hn2 : n < 1056) (hroom : A.depth < 600) (hh : A.handled = none)
    (h : ∀ x' dx' root' tail' h' tk t1' t2' t3' nt' yss' zs', Ext hp (hideAll h' [x', tail']) → hp.get? x' = none → hp.get? tail' = none → hp.get? dx' = none → x' ≠ tail' → (hideAll h' [x', tail']).get? dx' = some emptyDict → RootAt (hideAll h' [x', tail']) root' yss' → h'.get? tail' = some (LO zs' nt') →
      h'.get? x' = some (VO dx' (n + 1) root' 5 tail' (n + 1 - zs'.length) t1' t2' t3') → (zs.length < 32 ∧ yss' = yss ∧ zs' = zs ++ [v] ∨ zs.length = 32 ∧ yss' = yss ++ [zs] ∧ zs' = [v]) → Q (.ref x') ⟨h', gs, dr, tk, os⟩) :
    wpAny (model prog w) A (call (.ref m_append) [.ref x, v]) Q E ⟨hp, gs, dr, tk, os⟩ := by
  obtain ⟨nr, cs, gr, hl, hk⟩ := id R
  refine wpAny_call ?_
  refine call_fx [] (binds := [(Str.ofString "self", .ref x), (Str.ofString "val", v)]) (by walk_at "room") (T.X _ _ (lk m_append (by kernel_rfl))) (by with_unfolding_all rfl) T.nolimit (codeRec_of T.X (by kernel_rfl)) (BindsTo.of_eq (by with_unfolding_all rfl)) (locs (by with_unfolding_all rfl)) (fun _ q => nomatch q) List.nodup_nil ?_ (by decide +kernel)
  intro L h₁ tk F
  have F : Fx hp L h₁ _ [] := F
  walk_at "r"
  refine lc_len (F.keep _ _ ht) (by omega) ?_
  intro t4 tk4
  walk_at "r"
  by_cases hlt : zs.length < 32
  · rw [decide_eq_true (by omega), if_pos rfl]
    walk_at "r"
    refine lc_copy F (F.keep _ _ ht) (by omega) ?_
    clear F; intro D c hq F _
    walk_at "r"
    refine gm_list F.head PySem.F.slot_list_append PySem.F.type_list_append ?_
    walk_at "r"
    refine lc_append F (by omega) ?_
    clear F; intro hq n' F
    walk_at "r"
    refine cw_fn T (by kernel_rfl) ?_
    walk_at "r"
    refine ⟨F.keep, ?_⟩
    refine make_spec (zs := zs ++ [v]) (T.up F.keep) F.head (by simp; omega) (by walk_at "room") ?_
    intro x' dx' h' tk' t3' eh hxn hdn hne hdx' hx'
    walk_at "r"
    have F2 := F.ext eh
    have n1 := F.keep.none hxn
    have n2 := F.out _ (.head _)
    have ne1 : x' ≠ D := fun q => by rw [q, F.head] at hxn; cases hxn
    have ne2 : dx' ≠ D := fun q => by rw [q, F.head] at hdn; cases hdn
    have eg := ext_hide2 F2.keep n1 n2
    exact h x' dx' root D h' _ _ _ _ _ yss (zs ++ [v]) eg n1 n2 (F.keep.none hdn) ne1 (hideAll_get _ hdx' (by simp [hne.symm, ne2])) (R.up eg) F2.head (by simpa using hx') (.inl ⟨hlt, rfl, rfl⟩)
  · rw [decide_eq_false (by omega), if_neg (by decide)]
    walk_at "r"
    refine gm_create_new_root (T.up F.keep).X (F.keep _ _ hx) (F.keep _ _ hdx) ?_
    refine cw_fn0 T F.keep (by kernel_rfl) ?_
    refine new_root_spec (T.up F.keep) (F.keep _ _ hx) (F.keep _ _ hdx) (F.keep _ _ gr) (by simp; omega) (by walk_at "room") (by omega) hn2 ?_
    intro D c tp h' tk' eh hDn hD htp _
    have F := F.gain eh hDn hD
    refine assign_tup2 F hh htp ?_
    clear F; intro hq F _
    walk_at "r"
    refine cw_fn T (by kernel_rfl) ?_
    walk_at "r"
    refine nl F ?_ (by simp)
    clear F; intro E1 hq F _
    walk_at "r"
    refine ⟨F.keep, ?_⟩
    refine make_spec (zs := [v]) (T.up F.keep) F.head (by simp) (by walk_at "room") ?_
    intro x' dx' h' tk' t3' eh hxn hdn hne hdx' hx'
    walk_at "r"
    have F2 := F.ext eh
    have n1 := F.keep.none hxn
    have n2 := F.out _ (.head _)
    have ne1 : x' ≠ E1 := fun q => by rw [q, F.head] at hxn; cases hxn
    have ne2 : dx' ≠ E1 := fun q => by rw [q, F.head] at hdn; cases hdn
    have ne3 : x' ≠ D := fun q => by rw [q, F.head2] at hxn; cases hxn
    have eg := ext_hide2 F2.keep n1 n2
    exact h x' dx' D E1 h' _ _ _ _ _ (yss ++ [zs]) [v] eg n1 n2 (F.keep.none hdn) ne1 (hideAll_get _ hdx' (by simp [hne.symm, ne2])) (RootAt.snoc eg gr hl hk (hideAll_get _ F2.head2 (by simp [ne3.symm, F.ne12.symm])) (eg _ _ ht)) F2.head (by simpa using hx') (.inr ⟨by omega, rfl, rfl⟩)
end
theorem cutL_nat (items : List Value) (a b : Nat) (h : a ≤ items.length) : cutL items (some a) (some b) = (items.drop a).take (b - a) := by
  unfold cutL
  rw [slicePick_plain]
  simp only [Option.elim, clipAt_nat, List.size_toArray]
  rw [Nat.min_eq_left h]
  rcases Nat.le_total b items.length with hb | hb
  · rw [Nat.min_eq_left hb]
  · rw [Nat.min_eq_right hb, List.take_of_length_le (by simp), List.take_of_length_le (by simp; omega)]
theorem RootAt.trim {h b : Heap} {D : Addr} {yss : List (List Value)} (R : RootAt h D yss) (hne : yss ≠ []) (hy : ∀ ys ∈ yss, ys ≠ []) (k : ∀ c items n, items ≠ [] → h.get? c = some (LO items n) → b.get? c = some (LO items n)) : RootAt b D yss := by
  obtain ⟨n, cs, g, hl, hk⟩ := R
  refine ⟨n, cs, k _ _ _ ?_ g, hl, fun i c ys h1 h2 => ?_⟩
  · cases cs with
    | nil => cases yss with
      | nil => exact absurd rfl hne
      | cons a r => cases hl
    | cons a r => simp
  · obtain ⟨n', g'⟩ := hk i c ys h1 h2
    exact ⟨n', k _ _ _ (hy _ (List.mem_of_getElem? h2)) g'⟩
section
variable {prog : Program} {w : World} {A : Around} {E : Value → Shared → Prop} {hp : Heap} {gs : Array GenState} {dr : Drawn} {tk : Nat} {os : OsState} {mg mb : Str → Option Value} {x dx : Addr}
set_option maxHeartbeats 4000000 in
theorem fill_tail_spec {Q : Value → Shared → Prop} {g : Heap} {root tail sq : Addr} {n toff : Int} {t1 t2 t3 to : Tok} {zs seq : List Value} {nt ns : Nat} {off : Nat} (T : Tp (KK w) mg mb g) (he : Ext g hp) (hgx : g.get? x = none) (hgt : g.get? tail = none) (hxt : x ≠ tail)
    (hx : hp.get? x = some (VO dx n root 5 tail toff t1 t2 t3)) (hdx : g.get? dx = some emptyDict) (ht : hp.get? tail = some (LO zs nt)) (hs : g.get? sq = some (LO seq ns)) (hz : zs.length ≤ 32) (hsz : seq.length ≤ 100000) (ho : off ≤ seq.length) (hroom : A.depth < 700)
    (h : ∀ h' tk t t1' nt', Ext g h' → h'.get? x = some (VO dx (n + ((seq.drop off).take (32 - zs.length)).length) root 5 tail toff t1' t2 t3) → h'.get? tail = some (LO (zs ++ (seq.drop off).take (32 - zs.length)) nt') →
      Q (.int (off + ((seq.drop off).take (32 - zs.length)).length) t) ⟨h', gs, dr, tk, os⟩) :
    wpAny (model prog w) A (call (.ref m_mutating_fill_tail) [.ref x, .int off to, .ref sq]) Q E ⟨hp, gs, dr, tk, os⟩ := by
  have T0 := T.up he
  refine wpAny_call ?_
  refine call_fx [(x, VO dx n root 5 tail toff t1 t2 t3), (tail, LO zs nt)] (binds := [(Str.ofString "self", .ref x), (Str.ofString "offset", .int off to), (Str.ofString "sequence", .ref sq)]) (by walk_at "room") (T0.X _ _ (lk m_mutating_fill_tail (by kernel_rfl))) (by with_unfolding_all rfl) T0.nolimit (codeRec_of T0.X (by kernel_rfl)) (BindsTo.of_eq (by with_unfolding_all rfl)) (locs (by with_unfolding_all rfl)) (fun p hp => by
    rcases List.mem_cons.mp hp with rfl | hp
    · exact hx
    · rw [List.mem_singleton.mp hp]; exact ht) (by simp [hxt]) ?_ (by decide +kernel)
  clear hx
  intro L h₁ tk F
  have eb := ext_hide2 he hgx hgt
  have T := T.up eb
  have hdx := eb _ _ hdx
  have hs := eb _ _ hs
  have F : Fx (hideAll hp [x, tail]) L h₁ _ [(x, VO dx n root 5 tail toff t1 t2 t3), (tail, LO zs nt)] := F
  walk_at "r"
  refine lc_len F.head2 (by omega) ?_
  intro t4 tk4
  walk_at "r"
  refine cut_list (lo := some (off : Int)) (hi := some ((off + (32 - zs.length) : Nat) : Int)) F (F.keep _ _ hs) (by omega) (.int _ _) ?_ ?_
  · rw [show ((off + (32 - zs.length) : Nat) : Int) = (off : Int) + (32 - (zs.length : Int)) by omega]; exact .int _ _
  clear F; intro D hq F _
  rw [cutL_nat _ _ _ ho, show off + (32 - zs.length) - off = 32 - zs.length by omega] at F
  generalize hdl : (seq.drop off).take (32 - zs.length) = delta at *
  have hdle : delta.length ≤ 32 := by rw [← hdl, List.length_take]; omega
  walk_at "r"
  have F := F.rot3'
  walk_at "r"
  refine gm_list F.head2 PySem.F.slot_list_extend PySem.F.type_list_extend ?_
  walk_at "r"
  have F := F.rot3'
  refine lc_extend F F.head2 (by omega) ?_
  clear F; intro hq n' F
  walk_at "r"
  refine lc_len F.head2 (by omega) ?_
  intro t5 tk5
  walk_at "r"
  have F := F.rot3
  walk_at "r"
  refine sa_count F (T.up F.keep).X (F.keep _ _ hdx) ?_
  clear F; intro hq F
  walk_at "r"
  exact h _ _ _ _ _ (eb.trans F.keep) F.head F.head2

set_option maxHeartbeats 4000000 in
theorem insert_tail_spec {Q : Value → Shared → Prop} {g : Heap} {root tail : Addr} {n toff : Int} {t1 t2 t3 : Tok} {yss : List (List Value)} {zs : List Value} {nt : Nat} (T : Tp (KK w) mg mb g) (he : Ext g hp) (hgx : g.get? x = none)
    (hx : hp.get? x = some (VO dx n root 5 tail toff t1 t2 t3)) (hdx : g.get? dx = some emptyDict) (R : RootAt g root yss) (ht : g.get? tail = some (LO zs nt)) (h0 : 0 ≤ n) (hn : n < 1056) (hy : yss.length ≤ 100000) (hroom : A.depth < 600) (hh : A.handled = none)
    (h : ∀ h' tk D E1 t2', Ext g h' → h'.get? x = some (VO dx n D 5 E1 toff t1 t2' t3) → RootAt h' D (yss ++ [zs]) → hp.get? D = none → h'.get? E1 = some (LO [] 0) → hp.get? E1 = none → Q .none ⟨h', gs, dr, tk, os⟩) :
    wpAny (model prog w) A (call (.ref m_mutating_insert_tail) [.ref x]) Q E ⟨hp, gs, dr, tk, os⟩ := by
  have T0 := T.up he
  obtain ⟨nr, cs, gr, hl, hk⟩ := id R
  refine wpAny_call ?_
  refine call_fx [(x, VO dx n root 5 tail toff t1 t2 t3)] (binds := [(Str.ofString "self", .ref x)]) (by walk_at "room") (T0.X _ _ (lk m_mutating_insert_tail (by kernel_rfl))) (by with_unfolding_all rfl) T0.nolimit (codeRec_of T0.X (by kernel_rfl)) (BindsTo.of_eq (by with_unfolding_all rfl)) (locs (by with_unfolding_all rfl)) (fun p hp => by rw [List.mem_singleton.mp hp]; exact hx) (by simp) ?_ (by decide +kernel)
  have hxo := hx
  clear hx
  intro L h₁ tk F
  have eb := ext_hide1 he hgx
  have T := T.up eb
  have hdx := eb _ _ hdx
  have F : Fx (hideAll hp [x]) L h₁ _ [(x, VO dx n root 5 tail toff t1 t2 t3)] := F
  walk_at "r"
  refine gm_create_new_root (T.up F.keep).X F.head (F.keep _ _ hdx) ?_
  refine cw_fn0 T F.keep (by kernel_rfl) ?_
  refine new_root_spec (T.up F.keep) F.head (F.keep _ _ hdx) (F.keep _ _ (eb _ _ gr)) (by simp; omega) (by walk_at "room") h0 hn ?_
  intro D c tp h' tk' eh hDn hD htp _
  have F := (F.gain eh hDn hD).swap
  refine assign_tup2 F hh htp ?_
  clear F; intro hq F _
  walk_at "r"
  refine sa_root F (T.up F.keep).X (F.keep _ _ hdx) ?_
  clear F; intro hq F
  walk_at "r"
  refine sa_shift F (T.up F.keep).X (F.keep _ _ hdx) ?_
  clear F; intro hq F
  walk_at "r"
  refine nl F ?_ (by simp)
  clear F; intro E1 hq F _
  have F := F.swap
  walk_at "r"
  refine sa_tail F (T.up F.keep).X (F.keep _ _ hdx) ?_
  clear F; intro hq F
  walk_at "r"
  have nE : hp.get? E1 = none := none_of_hide1 (F.out _ (.tail _ (.head _))) F.ne12.symm
  have nD : hp.get? D = none := none_of_hide1 (F.out _ (.tail _ (.tail _ (.head _)))) F.ne13.symm
  exact h _ _ D E1 _ (eb.trans F.keep) F.head (RootAt.snoc (eb.trans F.keep) gr hl hk F.head3 (F.keep _ _ (eb _ _ ht))) nD F.head2 nE

set_option maxHeartbeats 4000000 in
theorem mut_extend_spec {Q : Value → Shared → Prop} {g : Heap} {root tail sq : Addr} {n toff : Int} {t1 t2 t3 : Tok} {yss : List (List Value)} {zs seq : List Value} {nt ns : Nat} (T : Tp (KK w) mg mb g) (he : Ext g hp) (hgx : g.get? x = none) (hgt : g.get? tail = none) (hxt : x ≠ tail)
    (hx : hp.get? x = some (VO dx n root 5 tail toff t1 t2 t3)) (hdx : g.get? dx = some emptyDict) (R : RootAt g root yss) (ht : hp.get? tail = some (LO zs nt)) (hs : g.get? sq = some (LO seq ns)) (hn : n = 32 * yss.length + zs.length) (hz : zs.length ≤ 32) (hy : ∀ ys ∈ yss, ys.length = 32)
    (hn2 : n + seq.length < 1056) (hroom : A.depth < 500) (hh : A.handled = none)
    (h : ∀ h' tk root' tail' t1' t2' t3' nt' yss' zs', Ext g h' → (h'.get? x = some (VO dx (n + seq.length) root' 5 tail' (n + seq.length - zs'.length) t1' t2' t3')) → RootAt h' root' yss' → h'.get? tail' = some (LO zs' nt') → g.get? tail' = none → x ≠ tail' → (∀ ys ∈ yss', ys.length = 32) → zs'.length ≤ 32 →
      yss'.flatten ++ zs' = yss.flatten ++ zs ++ seq → Q .none ⟨h', gs, dr, tk, os⟩) :
    wpAny (model prog w) A (call (.ref m_mutating_extend) [.ref x, .ref sq]) Q E ⟨hp, gs, dr, tk, os⟩ := by
  have T0 := T.up he
  refine wpAny_call ?_
  refine call_fx [(x, VO dx n root 5 tail toff t1 t2 t3), (tail, LO zs nt)] (binds := [(Str.ofString "self", .ref x), (Str.ofString "sequence", .ref sq)]) (by walk_at "room") (T0.X _ _ (lk m_mutating_extend (by kernel_rfl))) (by with_unfolding_all rfl) T0.nolimit (codeRec_of T0.X (by kernel_rfl)) (BindsTo.of_eq (by with_unfolding_all rfl)) (locs (by with_unfolding_all rfl)) (fun p hp => by
    rcases List.mem_cons.mp hp with rfl | hp
    · exact hx
    · rw [List.mem_singleton.mp hp]; exact ht) (by simp [hxt]) ?_ (by decide +kernel)
  have hxo := hx
  clear hx
  intro L h₁ tk F
  have eb := ext_hide2 he hgx hgt
  have T := T.up eb
  have hdx := eb _ _ hdx
  have hs := eb _ _ hs
  have R := R.up eb
  have F : Fx (hideAll hp [x, tail]) L h₁ _ [(x, VO dx n root 5 tail toff t1 t2 t3), (tail, LO zs nt)] := F
  walk_at "r"
  refine lc_len (F.keep _ _ hs) (by omega) ?_
  intro t5 tk5
  walk_at "r"
  refine wpAny_While ?_
  refine loop_while F (fun k b' m' own' => ∃ (off : Nat) (root' tail' : Addr) (t1' t2' t3' to : Tok) (yss' : List (List Value)) (zs' : List Value) (nt' : Nat), m' (Str.ofString "self") = some (.ref x) ∧ m' (Str.ofString "sequence") = some (.ref sq) ∧ m' (Str.ofString "sequence_len") = some (.int seq.length t5) ∧ m' (Str.ofString "offset") = some (.int off to) ∧
      own' = [(x, VO dx (n + off) root' 5 tail' toff t1' t2' t3'), (tail', LO zs' nt')] ∧ RootAt b' root' yss' ∧ n + off = 32 * yss'.length + zs'.length ∧ zs'.length ≤ 32 ∧ (∀ ys ∈ yss', ys.length = 32) ∧ yss'.flatten ++ zs' = yss.flatten ++ zs ++ seq.take off ∧ off ≤ seq.length ∧ k = 2 * (seq.length - off) + (if zs'.length = 32 then 1 else 0))
    (2 * seq.length + (if zs.length = 32 then 1 else 0)) ⟨0, root, tail, t1, t2, t3, _, yss, zs, nt, rfl, rfl, rfl, rfl, by simp, R, by simpa using hn, hz, hy, by simp, Nat.zero_le _, by simp⟩ ?_
  rintro k b₁ m₁ own₁ h₂ tk₂ E' ⟨off, root', tail', t1', t2', t3', to, yss', zs', nt', ms, mq, ml, mo, rfl, R', hn', hz', hy', hcat, hoff, rfl⟩ e₁ F
  have T := T.up e₁
  have hdx := e₁ _ _ hdx
  have hs := e₁ _ _ hs
  walk_at "r"
  by_cases hlt : off < seq.length
  · rw [decide_eq_true (by omega), if_pos rfl]
    walk_at "r"
    refine gm_mutating_fill_tail (T.up F.keep).X F.head (F.keep _ _ hdx) ?_
    refine cw_fn T (by kernel_rfl) ?_
    walk_at "r"
    refine ⟨F.keep, ?_⟩
    refine fill_tail_spec (g := hideAll h₂ [x, tail']) (T.up F.hid2) (fun _ _ e => of_hideAll _ e) (hideAll_none _ (by simp)) (hideAll_none _ (by simp)) F.ne12 F.head (F.hid2 _ _ hdx) F.head2 (F.hid2 _ _ hs) hz' (by omega) hoff (by walk_at "room") ?_
    generalize hdl : (seq.drop off).take (32 - zs'.length) = delta at *
    have hdle : delta.length = min (32 - zs'.length) (seq.length - off) := by rw [← hdl, List.length_take, List.length_drop]
    have htake : seq.take (off + delta.length) = seq.take off ++ delta := by
      rw [List.take_add, ← hdl, List.length_take]
      congr 1
      rcases Nat.le_total (32 - zs'.length) (seq.drop off).length with h | h
      · rw [Nat.min_eq_left h]
      · rw [Nat.min_eq_right h, List.take_length, List.take_of_length_le h]
    intro h₃ tk₃ t₃ t1₃ nt₃ e₃ hx₃ ht₃
    have F := F.back2 e₃ hx₃ ht₃
    walk_at "r"
    refine lc_len F.head2 (by simp; omega) ?_
    intro t6 tk6
    walk_at "r"
    by_cases hfull : (zs' ++ delta).length = 32
    · rw [if_pos (by rw [hfull]; decide)]
      walk_at "r"
      refine gm_mutating_insert_tail (T.up F.keep).X F.head (F.keep _ _ hdx) ?_
      refine cw_fn0 T F.keep (by kernel_rfl) ?_
      have hfl : (zs' ++ delta).length = 32 := hfull
      obtain ⟨b₂, e₂, F₂, kq, kb, _⟩ := F.freeze1
      have htl := kq (tail', LO (zs' ++ delta) nt₃) (by simp)
      have T := T.up e₂
      have hdx := e₂ _ _ hdx
      refine insert_tail_spec (g := Heap.hide _ x) (T.up F₂.hid) (hide_ext _ _) (Heap.hide_self _ _) F₂.head (F₂.hid _ _ hdx) ((R'.up e₂).up F₂.hid) (F₂.hid _ _ htl) (by omega) (by simp at hfl; omega) (by omega) (by walk_at "room") hh ?_
      intro h₄ tk₄ D E1 t2₄ e₄ hx₄ R₄ hDn hE1 hE1n
      have F₄ := F₂.back1 e₄ hx₄
      have F₅ := (F₂.addNew F₄ rfl hE1n hE1).swap
      have hyn : ∀ ys ∈ yss' ++ [zs' ++ delta], ys.length = 32 := fun ys hm => by
        rcases List.mem_append.mp hm with hm | hm
        · exact hy' ys hm
        · rw [List.mem_singleton.mp hm]; exact hfl
      obtain ⟨b₃, e₅, F₆, kk, _⟩ := F₅.freeze _ (List.Sublist.refl _)
      have R₆ : RootAt b₃ D (yss' ++ [zs' ++ delta]) := R₄.trim (by simp) (fun ys hm q => by have := hyn ys hm; rw [q] at this; cases this) fun c items nn hne hg => kk c _ (F₅.notL' hg (fun _ _ => by simp)) (fun q => by
        rcases List.mem_cons.mp q with z | z
        · rw [z, F₅.head] at hg; cases hg
        · rw [List.mem_singleton.mp z, F₅.head2] at hg
          injection hg with hg; injection hg with _ _ hg; injection hg with hg
          exact hne (by simpa using hg.symm)) hg
      walk_at "r"
      rw [show n + (off : Int) + (delta.length : Int) = n + ((off + delta.length : Nat) : Int) by omega, show (off : Int) + (delta.length : Int) = ((off + delta.length : Nat) : Int) by omega] at F₆
      simp only [List.length_append] at hfl
      refine TurnEnd.mk0 F₆ (e₂.trans e₅) ⟨2 * (seq.length - (off + delta.length)) + 0, ?_, off + delta.length, D, E1, _, _, _, _, yss' ++ [zs' ++ delta], [], _, by walk_at "look", by walk_at "look", by walk_at "look", by walk_at "look", rfl, R₆, ?_, by simp, hyn, ?_, ?_, by simp⟩
      · split <;> omega
      · simp only [List.length_append, List.length_cons, List.length_nil]; omega
      · rw [List.flatten_append, List.append_nil, htake]; simp only [List.flatten_cons, List.flatten_nil, List.append_nil]; rw [← List.append_assoc, hcat, List.append_assoc]
      · omega
    · rw [if_neg (by simp at hfull ⊢; omega)]
      walk_at "r"
      rw [show n + (off : Int) + (delta.length : Int) = n + ((off + delta.length : Nat) : Int) by omega, show (off : Int) + (delta.length : Int) = ((off + delta.length : Nat) : Int) by omega] at F
      simp only [List.length_append] at hfull
      refine TurnEnd.mk0 F .rfl' ⟨2 * (seq.length - (off + delta.length)) + (if (zs' ++ delta).length = 32 then 1 else 0), ?_, off + delta.length, root', tail', _, _, _, _, yss', zs' ++ delta, _, by walk_at "look", by walk_at "look", by walk_at "look", by walk_at "look", rfl, R', ?_, ?_, hy', ?_, ?_, rfl⟩
      · simp only [List.length_append]; split <;> split <;> omega
      · simp only [List.length_append]; omega
      · simp only [List.length_append]; omega
      · rw [← List.append_assoc, hcat, htake, List.append_assoc]
      · omega
  · rw [decide_eq_false (by omega), if_neg (by decide)]
    have ho : off = seq.length := by omega
    subst ho
    walk_at "r"
    refine lc_len F.head2 (by omega) ?_
    intro t6 tk6
    walk_at "r"
    refine sa_tail_offset F (T.up F.keep).X (F.keep _ _ hdx) ?_
    clear F; intro hq F
    walk_at "r"
    rw [List.take_length] at hcat
    have gt : g.get? tail' = none := eb.none (e₁.none (F.out _ (.tail _ (.head _))))
    exact h _ _ root' tail' _ _ _ _ yss' zs' (eb.trans (e₁.trans F.keep)) F.head (R'.up F.keep) F.head2 gt F.ne12 hy' hz' hcat
end
theorem RootAt.trim2 {h b : Heap} {D : Addr} {yss : List (List Value)} (R : RootAt h D yss) (k : ∀ c items n, h.get? c = some (LO items n) → b.get? c = some (LO items n)) : RootAt b D yss := by
  obtain ⟨n, cs, g, hl, hk⟩ := R
  exact ⟨n, cs, k _ _ _ g, hl, fun i c ys h1 h2 => by obtain ⟨n', g'⟩ := hk i c ys h1 h2; exact ⟨n', k _ _ _ g'⟩⟩
/-- a vector over h, and what it holds -/
def VecAt (h : Heap) (x : Addr) (xs : List Value) : Prop :=
  ∃ (dx root tail : Addr) (n toff : Int) (t1 t2 t3 : Tok) (yss : List (List Value)) (zs : List Value) (nt : Nat), h.get? x = some (VO dx n root 5 tail toff t1 t2 t3) ∧ h.get? dx = some emptyDict ∧ RootAt h root yss ∧ h.get? tail = some (LO zs nt) ∧
    n = 32 * yss.length + zs.length ∧ toff = n - zs.length ∧ zs.length ≤ 32 ∧ (∀ ys ∈ yss, ys.length = 32) ∧ xs = yss.flatten ++ zs
theorem VecAt.up {h h' : Heap} {x : Addr} {xs : List Value} (V : VecAt h x xs) (e : Ext h h') : VecAt h' x xs :=
  let ⟨dx, root, tail, n, toff, t1, t2, t3, yss, zs, nt, a, b, c, d, r⟩ := V
  ⟨dx, root, tail, n, toff, t1, t2, t3, yss, zs, nt, e _ _ a, e _ _ b, c.up e, e _ _ d, r⟩
theorem flat_len : ∀ {yss : List (List Value)}, (∀ ys ∈ yss, ys.length = 32) → yss.flatten.length = 32 * yss.length
  | [], _ => rfl
  | y :: r, h => by
    rw [List.flatten_cons, List.length_append, flat_len (fun ys m => h ys (.tail _ m)), h y (.head _), List.length_cons]; omega
theorem VecAt.len {h : Heap} {x : Addr} {xs : List Value} (V : VecAt h x xs) : ∃ dx root tail n toff t1 t2 t3, h.get? x = some (VO dx n root 5 tail toff t1 t2 t3) ∧ h.get? dx = some emptyDict ∧ n = xs.length := by
  obtain ⟨dx, root, tail, n, toff, t1, t2, t3, yss, zs, nt, a, b, c, d, e1, e2, e3, e4, rfl⟩ := V
  exact ⟨dx, root, tail, n, toff, t1, t2, t3, a, b, by rw [List.length_append, flat_len e4]; omega⟩
section
variable {prog : Program} {w : World} {A : Around} {E : Value → Shared → Prop} {hp : Heap} {gs : Array GenState} {dr : Drawn} {tk : Nat} {os : OsState} {mg mb : Str → Option Value} {x dx : Addr} {sl : List (Option Value)} {Q : Value → Shared → Prop}
theorem isi_list {l : Addr} {items : List Value} {n : Nat} (X : (KK w).In hp) (hl : hp.get? l = some (LO items n)) (h : ∀ tk, Q (.bool false) ⟨hp, gs, dr, tk, os⟩) : wpAny (model prog w) A (call (.builtin "isinstance") [.ref l, .ref aC]) Q E ⟨hp, gs, dr, tk, os⟩ :=
  kia_one kitx_list X ⟨_, hl, rfl⟩ (by kernel_rfl) (by intro q; cases q) h
theorem isi_vec (X : (KK w).In hp) (hx : hp.get? x = some (IO dx sl)) (hdx : hp.get? dx = some emptyDict) (h : Q (.bool true) ⟨hp, gs, dr, tk, os⟩) : wpAny (model prog w) A (call (.builtin "isinstance") [.ref x, .ref aC]) Q E ⟨hp, gs, dr, tk, os⟩ :=
  isi_call X (fun M => (inst_of hx hdx).type) (by kernel_rfl) (by intro q; cases q) h
theorem empty_vec (X : (KK w).In hp) : VecAt hp aEmpty [] := by
  have h1 : ∃ dx root n tail toff t1 t2 t3 nr nt, (KK w).lookup aEmpty = some (VO dx n root 5 tail toff t1 t2 t3) ∧ (KK w).lookup dx = some emptyDict ∧ (KK w).lookup root = some (LO [] nr) ∧ (KK w).lookup tail = some (LO [] nt) ∧ n = 0 ∧ toff = 0 :=
    ⟨_, _, _, _, _, _, _, _, _, _, by with_unfolding_all rfl, by with_unfolding_all rfl, by with_unfolding_all rfl, by with_unfolding_all rfl, rfl, rfl⟩
  obtain ⟨dx, root, n, tail, toff, t1, t2, t3, nr, nt, a, b, c, d, rfl, rfl⟩ := h1
  exact ⟨dx, root, tail, 0, 0, t1, t2, t3, [], [], nt, X _ _ a, X _ _ b, ⟨nr, [], X _ _ c, rfl, fun i c ys q => by simp at q⟩, X _ _ d, rfl, rfl, by decide, (fun _ m => nomatch m), rfl⟩

/-- what extend may be handed -/
def Src (h : Heap) (v : Value) (ys : List Value) : Prop := (∃ l n, v = .ref l ∧ h.get? l = some (LO ys n)) ∨ ∃ y, v = .ref y ∧ VecAt h y ys
set_option maxHeartbeats 4000000 in
theorem extend_spec {xs ys : List Value} {v : Value} (T : Tp (KK w) mg mb hp) (V : VecAt hp x xs) (S : Src hp v ys) (hn : xs.length + ys.length < 1056) (hroom : A.depth < 400) (hh : A.handled = none)
    (h : ∀ x' h' tk, Ext hp h' → VecAt h' x' (xs ++ ys) → Q (.ref x') ⟨h', gs, dr, tk, os⟩) :
    wpAny (model prog w) A (call (.ref m_extend) [.ref x, v]) Q E ⟨hp, gs, dr, tk, os⟩ := by
  refine wpAny_call ?_
  refine call_fx [] (binds := [(Str.ofString "self", .ref x), (Str.ofString "obj", v)]) (by walk_at "room") (T.X _ _ (lk m_extend (by kernel_rfl))) (by with_unfolding_all rfl) T.nolimit (codeRec_of T.X (by kernel_rfl)) (BindsTo.of_eq (by with_unfolding_all rfl)) (locs (by with_unfolding_all rfl)) (fun _ q => nomatch q) List.nodup_nil ?_ (by decide +kernel)
  intro L h₁ tk F
  have F : Fx hp L h₁ (fun y => List.lookup y [(Str.ofString "self", Value.ref x), (Str.ofString "obj", v)].reverse) [] := F
  walk_at "r"
  refine wpAny_mono (Q := fun u s' => ∃ D c h' tk', u = .ref D ∧ s' = ⟨h', gs, dr, tk', os⟩ ∧ Fx hp L h' (fun y => List.lookup y [(Str.ofString "self", Value.ref x), (Str.ofString "obj", v)].reverse) [(D, LO ys c)]) ?_ ?_ fun _ _ z => z
  · refine wpAny_IfExp ?_
    rcases S with ⟨l, nl, rfl, hl⟩ | ⟨y, rfl, Vy⟩
    · walk_at "r"
      refine isi_list (T.up F.keep).X (F.keep _ _ hl) ?_
      intro tk'
      walk_at "r"
      rw [if_neg (by decide)]
      walk_at "r"
      refine lc_copy F (F.keep _ _ hl) (by omega) ?_
      clear F; intro D c hq F _
      exact ⟨D, c, _, _, rfl, rfl, F⟩
    · obtain ⟨dy, ry, ty, ny, oy, u1, u2, u3, yy, zy, nty, y1, y2, y3, y4, y5, y6, y7, y8, y9⟩ := id Vy
      walk_at "r"
      refine isi_vec (T.up F.keep).X (F.keep _ _ y1) (F.keep _ _ y2) ?_
      walk_at "r"
      rw [if_pos rfl]
      walk_at "r"
      refine gm_tolist (T.up F.keep).X (F.keep _ _ y1) (F.keep _ _ y2) ?_
      refine cw_fn0 T F.keep (by kernel_rfl) ?_
      refine tolist_spec (k := 1) (T.up F.keep) (F.keep _ _ y1) (F.keep _ _ y2) rfl (y3.tree.up F.keep) (F.keep _ _ y4) (by walk_at "room") hh (by rw [y9, List.length_append] at hn; omega) ?_
      intro D c h' tk' eh hDn hD
      rw [← y9] at hD
      exact ⟨D, c, _, _, rfl, rfl, F.gain eh hDn hD⟩
  rintro u s' ⟨D, c, h₂, tk₂, rfl, rfl, F⟩
  walk_at "r"
  refine tr_list F.head (by omega) ?_
  intro tk₃
  cases ys with
  | nil =>
    rw [if_neg (by simp)]
    walk_at "r"
    exact h x _ _ F.keep (by rw [List.append_nil]; exact V.up F.keep)
  | cons y0 rest =>
    rw [if_pos (by simp)]
    obtain ⟨b₁, e₁, F₁, kD, _, _⟩ := F.freezeA
    have hD := kD (D, LO (y0 :: rest) c) (by simp)
    clear F
    have F := F₁; clear F₁
    have T := T.up e₁
    have V := V.up e₁
    obtain ⟨dx, root, tail, n, toff, t1, t2, t3, yss, zs, nt, hx, hdx, R, ht, e5, e6, e7, e8, e9⟩ := id V
    have hlen : (n : Int) = xs.length := by rw [e9, List.length_append, flat_len e8]; omega
    rw [List.length_cons] at hn
    walk_at "r"
    refine gm_append (T.up F.keep).X (F.keep _ _ hx) (F.keep _ _ hdx) ?_
    refine cw_fn T (by kernel_rfl) ?_
    walk_at "r"
    refine sub_list (F.keep _ _ hD) (by decide) (by decide) rfl ?_
    walk_at "r"
    refine ⟨F.keep, ?_⟩
    refine append_spec (T.up F.keep) (F.keep _ _ hx) (F.keep _ _ hdx) (R.up F.keep) (F.keep _ _ ht) e5 e7 (by omega) (by walk_at "room") hh ?_
    intro x' dx' root' tail' h' tk' t1' t2' t3' nt' yss' zs' eg hxn htn hdn hxt hdx' R' ht' hx' hc
    obtain ⟨b₂, e₂, F₂, k₂⟩ := F.take2 eg hxt hx' ht' hxn htn
    have kl : ∀ c oc, (∀ es n, oc.data ≠ .dict es n) → (hideAll h' [x', tail']).get? c = some oc → b₂.get? c = some oc := fun c oc hd e => k₂ c oc (F₂.notL' (of_hideAll _ e) hd) e
    have hdx₂ : b₂.get? dx' = some emptyDict := k₂ _ _ (fun q => by obtain ⟨oL, _, _, hL, _⟩ := F.ns; rw [← q, hdn] at hL; cases hL) hdx'
    have R₂ : RootAt b₂ root' yss' := R'.trim2 fun c items nn e => kl c _ (fun _ _ => by simp) e
    clear F
    have F := F₂; clear F₂
    have T := T.up e₂
    have hD := e₂ _ _ hD
    have hcat : yss'.flatten ++ zs' = xs ++ [y0] ∧ zs'.length ≤ 32 ∧ (∀ ys ∈ yss', ys.length = 32) ∧ n + 1 = 32 * yss'.length + zs'.length := by
      rcases hc with ⟨c1, rfl, rfl⟩ | ⟨c1, rfl, rfl⟩
      · exact ⟨by rw [e9, List.append_assoc], by simp; omega, e8, by simp; omega⟩
      · refine ⟨by rw [e9]; simp, by simp, fun ys hm => ?_, by simp; omega⟩
        rcases List.mem_append.mp hm with hm | hm
        · exact e8 ys hm
        · rw [List.mem_singleton.mp hm]; exact c1
    obtain ⟨hcat, hz', hy', hn'⟩ := hcat
    walk_at "r"
    refine gm_mutating_extend (T.up F.keep).X F.head (F.keep _ _ hdx₂) ?_
    refine cw_fn T (by kernel_rfl) ?_
    walk_at "r"
    refine cut_list (lo := some ((1 : Nat) : Int)) (hi := none) F (F.keep _ _ hD) (by simp; omega) (.int _ _) .none ?_
    clear F; intro D2 hq F _
    have ecut : cutL (y0 :: rest) (some ((1 : Nat) : Int)) none = rest := by unfold cutL; rw [slicePick_from']; simp
    rw [ecut] at F
    walk_at "r"
    refine ⟨F.keep, ?_⟩
    have F := F.rot3'
    refine mut_extend_spec (g := hideAll _ [x', tail']) (T.up F.hid2) (fun _ _ e => of_hideAll _ e) (hideAll_none _ (by simp)) (hideAll_none _ (by simp)) hxt F.head (F.hid2 _ _ hdx₂) (R₂.up F.hid2) F.head2 (hideAll_get _ F.head3 (by simp [F.rot3.ne12, F.rot3.ne13])) hn' hz' hy' (by omega) (by walk_at "room") hh ?_
    intro h₄ tk₄ root₄ tail₄ u1 u2 u3 nt₄ yss₄ zs₄ e₄ hx₄ R₄ ht₄ gt₄ hxt₄ hy₄ hz₄ hcat₄
    have F := F.only e₄ (by simp)
    walk_at "r"
    have e6 : n + 1 + (rest.length : Int) - (zs₄.length : Int) = n + 1 + (rest.length : Int) - (zs₄.length : Int) := rfl
    refine h x' _ _ (e₁.trans (e₂.trans F.keep)) ⟨dx', root₄, tail₄, _, _, u1, u2, u3, yss₄, zs₄, nt₄, hx₄, F.keep _ _ hdx₂, R₄, ht₄, ?_, rfl, hz₄, hy₄, ?_⟩
    · have q := congrArg List.length (hcat₄.trans (by rw [hcat]))
      simp only [List.length_append, flat_len hy₄, List.length_cons, List.length_nil] at q
      omega
    · rw [hcat₄, hcat]; simp
end
theorem flat_get : ∀ {yss : List (List Value)} (_ : ∀ ys ∈ yss, ys.length = 32) (q r : Nat) (ys : List Value), yss[q]? = some ys → r < 32 → yss.flatten[32 * q + r]? = ys[r]?
  | [], _, q, r, ys, h, _ => by simp at h
  | y :: rest, hy, 0, r, ys, h, hr => by
    simp at h
    subst h
    rw [List.flatten_cons, Nat.mul_zero, Nat.zero_add, List.getElem?_append_left (by rw [hy y (.head _)]; exact hr)]
  | y :: rest, hy, q + 1, r, ys, h, hr => by
    rw [List.getElem?_cons_succ] at h
    rw [List.flatten_cons, List.getElem?_append_right (by rw [hy y (.head _)]; omega), hy y (.head _), show 32 * (q + 1) + r - 32 = 32 * q + r by omega]
    exact flat_get (fun z m => hy z (.tail _ m)) q r ys h hr
section
variable {prog : Program} {w : World} {A : Around} {E : Value → Shared → Prop} {hp : Heap} {gs : Array GenState} {dr : Drawn} {tk : Nat} {os : OsState} {mg mb : Str → Option Value} {x dx : Addr} {sl : List (Option Value)} {Q : Value → Shared → Prop}
set_option maxHeartbeats 4000000 in
theorem node_for_spec {root tail : Addr} {n toff i : Int} {t1 t2 t3 ti : Tok} {yss : List (List Value)} {zs : List Value} {nt : Nat} (T : Tp (KK w) mg mb hp) (hx : hp.get? x = some (VO dx n root 5 tail toff t1 t2 t3)) (hdx : hp.get? dx = some emptyDict) (R : RootAt hp root yss) (ht : hp.get? tail = some (LO zs nt))
    (hn : n = 32 * yss.length + zs.length) (ho : toff = n - zs.length) (hz : zs.length ≤ 32) (hy : ∀ ys ∈ yss, ys.length = 32) (hi0 : 0 ≤ i) (hi : i < n) (hn2 : n < 1056) (hroom : A.depth < 600) (hh : A.handled = none)
    (h : ∀ l its c h' tk, Ext hp h' → h'.get? l = some (LO its c) → its.length ≤ 32 → its[(i % 32).toNat]? = (yss.flatten ++ zs)[i.toNat]? → Q (.ref l) ⟨h', gs, dr, tk, os⟩) :
    wpAny (model prog w) A (call (.ref m_node_for) [.ref x, .int i ti]) Q E ⟨hp, gs, dr, tk, os⟩ := by
  obtain ⟨nr, cs, gr, hl, hk⟩ := id R
  refine wpAny_call ?_
  refine call_fx [] (binds := [(Str.ofString "pvector_like", .ref x), (Str.ofString "i", .int i ti)]) (by walk_at "room") (T.X _ _ (lk m_node_for (by kernel_rfl))) (by with_unfolding_all rfl) T.nolimit (codeRec_of T.X (by kernel_rfl)) (BindsTo.of_eq (by with_unfolding_all rfl)) (locs (by with_unfolding_all rfl)) (fun _ q => nomatch q) List.nodup_nil ?_ (by decide +kernel)
  intro L h₁ tk F
  have F : Fx hp L h₁ _ [] := F
  walk_at "r"
  rw [decide_eq_true hi0, if_pos rfl]
  walk_at "r"
  rw [decide_eq_true hi, if_pos rfl]
  walk_at "r"
  have hfl := flat_len hy
  by_cases ht0 : toff ≤ i
  · rw [decide_eq_true ht0, if_pos rfl]
    walk_at "r"
    refine h tail zs nt _ _ F.keep (F.keep _ _ ht) hz ?_
    rw [List.getElem?_append_right (by omega), hfl]
    congr 1
    omega
  · rw [decide_eq_false ht0, if_neg (by decide)]
    walk_at "r"
    refine wpAny_For ?_
    walk_at "r"
    refine rg3 F (by decide) (by decide) (by decide) (by decide) ?_
    clear F; intro rg hq F _
    obtain ⟨q, hq1, hq2⟩ : ∃ q : Nat, i.fdiv (2 ^ Int.toNat 5) = q ∧ i = 32 * q + i % 32 := by
      refine ⟨(i / 32).toNat, ?_, by omega⟩
      rw [show (2 : Int) ^ Int.toNat 5 = 32 from rfl, Int.fdiv_eq_ediv_of_nonneg _ (by decide)]
      omega
    have hql : q < yss.length := by omega
    obtain ⟨c, hc⟩ : ∃ c, cs[q]? = some c := ⟨_, List.getElem?_eq_getElem (by omega)⟩
    obtain ⟨ys, hys⟩ : ∃ ys, yss[q]? = some ys := ⟨_, List.getElem?_eq_getElem hql⟩
    obtain ⟨nc, hcl⟩ := hk q c ys hc hys
    refine for_range (n := 1) F F.head (by decide) (by decide) hh (fun k b' m' own' => m' (Str.ofString "pvector_like") = some (.ref x) ∧ m' (Str.ofString "i") = some (.int i ti) ∧ (k = 0 → m' (Str.ofString "node") = some (.ref root)) ∧ (k = 1 → m' (Str.ofString "node") = some (.ref c))) ⟨rfl, rfl, fun _ => rfl, (fun e => by cases e)⟩ ?_ ?_
    · rintro k tv b₁ m₁ own₁ h₂ tk₂ it E' hk1 ⟨ms, mi, mn, _⟩ e₁ F
      have k0 : k = 0 := by omega
      subst k0
      have mn := mn rfl
      have T := T.up e₁
      walk_at "r"
      refine x_rshift (by decide) ?_
      walk_at "r"
      have ei : Builtin.bitAnd (i.fdiv (2 ^ (5 + ((0 : Nat) : Int) * -5).toNat)) 31 = q := by
        rw [bitAnd_m5]
        have : i.fdiv (2 ^ (5 + ((0 : Nat) : Int) * -5).toNat) = q := hq1
        rw [this]
        omega
      rw [ei]
      refine sub_list (F.keep _ _ (e₁ _ _ gr)) (by omega) (by omega) (v := .ref c) (by rw [Int.toNat_natCast, List.getElem?_map, hc]; rfl) ?_
      walk_at "r"
      exact ⟨_, _, b₁, _, own₁, rfl, .rfl', F, by walk_at "look", by walk_at "look", (fun e => by cases e), fun _ => by walk_at "look"⟩
    · rintro h' tk' b' m' own' ⟨ms, mi, _, mn⟩ e' F
      have mn := mn rfl
      walk_at "r"
      refine h c ys nc _ _ (e'.trans F.keep) (F.keep _ _ (e' _ _ hcl)) (by rw [hy ys (List.mem_of_getElem? hys)]; exact Nat.le_refl _) ?_
      rw [List.getElem?_append_left (by omega), show i.toNat = 32 * q + (i % 32).toNat by omega]
      exact (flat_get hy q _ ys hys (by omega)).symm

theorem isi_int_slice {i : Int} {t : Tok} (X : (KK w).In hp) (h : ∀ tk, Q (.bool false) ⟨hp, gs, dr, tk, os⟩) : wpAny (model prog w) A (call (.builtin "isinstance") [.int i t, .type "slice"]) Q E ⟨hp, gs, dr, tk, os⟩ :=
  kia_one kitx_int X trivial (by kernel_rfl) (by intro q; cases q) h
theorem gm_node_for {pl : Sem Bool} {Q : Value × List Value → Shared → Prop} (X : (KK w).In hp) (h : Q (.ref m_node_for, []) ⟨hp, gs, dr, tk + 1, os⟩) : wpAny (model prog w) A (getMethod (.ref aC) (Str.ofString "_node_for") pl) Q E ⟨hp, gs, dr, tk, os⟩ :=
  method_cls X (by kernel_rfl) (cls_bind (mc := .type "type") X (by kernel_rfl) (g := .builtin "staticmethod.__get__") (a := .ref sm_node_for) (obj := .none) (tp := .ref aC) (by kernel_rfl) (wpAny_call (sm_get (s := ⟨hp, gs, dr, tk + 1, os⟩) (f := .ref m_node_for) (rest := [.bool false]) X (by kernel_rfl) (handed_on rfl h))))
set_option maxHeartbeats 4000000 in
theorem getitem_int_spec {xs : List Value} {i : Int} {ti : Tok} {v : Value} (T : Tp (KK w) mg mb hp) (V : VecAt hp x xs) (hn2 : xs.length < 1056) (hlo : -(xs.length : Int) ≤ i) (hhi : i < xs.length) (hv : xs[(if i < 0 then i + xs.length else i).toNat]? = some v) (hroom : A.depth < 400) (hh : A.handled = none)
    (h : ∀ h' tk, Ext hp h' → Q v ⟨h', gs, dr, tk, os⟩) : wpAny (model prog w) A (call (.ref m_dunder_getitem) [.ref x, .int i ti]) Q E ⟨hp, gs, dr, tk, os⟩ := by
  obtain ⟨dx, root, tail, n, toff, t1, t2, t3, yss, zs, nt, hx, hdx, R, ht, e5, e6, e7, e8, e9⟩ := id V
  have hlen : (n : Int) = xs.length := by rw [e9, List.length_append, flat_len e8]; omega
  refine wpAny_call ?_
  refine call_fx [] (binds := [(Str.ofString "self", .ref x), (Str.ofString "index", .int i ti)]) (by walk_at "room") (T.X _ _ (lk m_dunder_getitem (by kernel_rfl))) (by with_unfolding_all rfl) T.nolimit (codeRec_of T.X (by kernel_rfl)) (BindsTo.of_eq (by with_unfolding_all rfl)) (locs (by with_unfolding_all rfl)) (fun _ q => nomatch q) List.nodup_nil ?_ (by decide +kernel)
  intro L h₁ tk F
  have F : Fx hp L h₁ _ [] := F
  walk_at "r"
  refine isi_int_slice (T.up F.keep).X ?_
  intro tk'
  walk_at "r"
  rw [if_neg (by decide)]
  walk_at "r"
  by_cases hneg : i < 0
  · rw [if_pos hneg] at hv
    rw [decide_eq_true hneg, if_pos rfl]
    walk_at "r"
    rw [← hlen] at hv
    refine gm_node_for (T.up F.keep).X ?_
    refine cw_fn T (by kernel_rfl) ?_
    walk_at "r"
    refine ⟨F.keep, ?_⟩
    refine node_for_spec (T.up F.keep) (F.keep _ _ hx) (F.keep _ _ hdx) (R.up F.keep) (F.keep _ _ ht) e5 e6 e7 e8 (by omega) (by omega) (by omega) (by walk_at "room") hh ?_
    intro l its c h' tk' eh hl h32 hget
    have F := F.ext eh
    rw [← e9, hv] at hget
    walk_at "r"
    rw [bitAnd_m5]
    refine sub_list hl (by omega) (by omega) hget ?_
    walk_at "r"
    exact h _ _ F.keep
  · rw [if_neg hneg] at hv
    rw [decide_eq_false hneg, if_neg (by decide)]
    walk_at "r"
    refine gm_node_for (T.up F.keep).X ?_
    refine cw_fn T (by kernel_rfl) ?_
    walk_at "r"
    refine ⟨F.keep, ?_⟩
    refine node_for_spec (T.up F.keep) (F.keep _ _ hx) (F.keep _ _ hdx) (R.up F.keep) (F.keep _ _ ht) e5 e6 e7 e8 (by omega) (by omega) (by omega) (by walk_at "room") hh ?_
    intro l its c h' tk' eh hl h32 hget
    have F := F.ext eh
    rw [← e9, hv] at hget
    walk_at "r"
    rw [bitAnd_m5]
    refine sub_list hl (by omega) (by omega) hget ?_
    walk_at "r"
    exact h _ _ F.keep
end
section
variable {prog : Program} {w : World} {A : Around} {E : Value → Shared → Prop} {hp : Heap} {gs : Array GenState} {dr : Drawn} {tk : Nat} {os : OsState} {mg mb : Str → Option Value} {x dx : Addr} {sl : List (Option Value)} {Q : Value → Shared → Prop}
theorem len_spec {n : Int} {root tail : Addr} {sh toff : Int} {t1 t2 t3 : Tok} (T : Tp (KK w) mg mb hp) (hx : hp.get? x = some (VO dx n root sh tail toff t1 t2 t3)) (hdx : hp.get? dx = some emptyDict)
    (hroom : A.depth < 900) (h : ∀ h' tk, Ext hp h' → Q (.int n t1) ⟨h', gs, dr, tk, os⟩) : wpAny (model prog w) A (call (.ref m_dunder_len) [.ref x]) Q E ⟨hp, gs, dr, tk, os⟩ := by
  refine wpAny_call ?_
  refine call_fx [] (binds := [(Str.ofString "self", .ref x)]) (by walk_at "room") (T.X _ _ (lk m_dunder_len (by kernel_rfl))) (by with_unfolding_all rfl) T.nolimit (codeRec_of T.X (by kernel_rfl)) (BindsTo.of_eq (by with_unfolding_all rfl)) (locs (by with_unfolding_all rfl)) (fun _ q => nomatch q) List.nodup_nil ?_ (by decide +kernel)
  intro L h₁ tk F
  have F : Fx hp L h₁ _ [] := F
  walk_at "r"
  exact h _ _ F.keep
theorem pvector_spec {ys : List Value} {v : Value} (T : Tp (KK w) mg mb hp) (S : Src hp v ys) (hn : ys.length < 1056) (hroom : A.depth < 390) (hh : A.handled = none)
    (h : ∀ x' h' tk, Ext hp h' → VecAt h' x' ys → Q (.ref x') ⟨h', gs, dr, tk, os⟩) : wpAny (model prog w) A (call (.ref g_python_pvector) [v]) Q E ⟨hp, gs, dr, tk, os⟩ := by
  have V := empty_vec T.X
  obtain ⟨dx, root, tail, n, toff, t1, t2, t3, hx, hdx, _⟩ := V.len
  refine wpAny_call ?_
  refine call_fx [] (binds := [(Str.ofString "iterable", v)]) (by walk_at "room") (T.X _ _ (lk g_python_pvector (by kernel_rfl))) (by with_unfolding_all rfl) T.nolimit (codeRec_of T.X (by kernel_rfl)) (BindsTo.of_defaults rfl (T.X _ _ (lk _ (by kernel_rfl))) (by with_unfolding_all rfl) (by with_unfolding_all rfl) (by with_unfolding_all rfl)) (locs (by with_unfolding_all rfl)) (fun _ q => nomatch q) List.nodup_nil ?_ (by decide +kernel)
  intro L h₁ tk F
  have F : Fx hp L h₁ _ [] := F
  walk_at "r"
  refine gm_extend (T.up F.keep).X (F.keep _ _ hx) (F.keep _ _ hdx) ?_
  refine cw_fn T (by kernel_rfl) ?_
  walk_at "r"
  refine ⟨F.keep, ?_⟩
  have S' : Src h₁ v ys := by
    rcases S with ⟨l, nl, rfl, hl⟩ | ⟨y, rfl, Vy⟩
    · exact .inl ⟨l, nl, rfl, F.keep _ _ hl⟩
    · exact .inr ⟨y, rfl, Vy.up F.keep⟩
  refine extend_spec (T.up F.keep) (V.up F.keep) S' (by simpa using hn) (by walk_at "room") hh ?_
  intro x' h' tk' eh V'
  walk_at "r"
  exact h x' _ _ (F.keep.trans eh) (by simpa using V')

end
section
variable {prog : Program} {w : World} {A : Around} {E : Value → Shared → Prop} {hp : Heap} {gs : Array GenState} {dr : Drawn} {tk : Nat} {os : OsState} {mg mb : Str → Option Value} {x dx : Addr} {sl : List (Option Value)} {Q : Value → Shared → Prop} {b : Heap} {L : Addr} {m : Str → Option Value} {own : List (Addr × Obj)}
theorem vec_tolist {xs : List Value} (T : Tp (KK w) mg mb hp) (V : VecAt hp x xs) (hn : xs.length ≤ 1000000) (hroom : A.depth < 700) (hh : A.handled = none)
    (h : ∀ D c h' tk, Ext hp h' → hp.get? D = none → h'.get? D = some (LO xs c) → Q (.ref D) ⟨h', gs, dr, tk, os⟩) : wpAny (model prog w) A (call (.ref m_tolist) [.ref x]) Q E ⟨hp, gs, dr, tk, os⟩ := by
  obtain ⟨dy, ry, ty, ny, oy, u1, u2, u3, yy, zy, nty, y1, y2, y3, y4, y5, y6, y7, y8, y9⟩ := id V
  refine tolist_spec (k := 1) T y1 y2 rfl y3.tree y4 (by omega) hh (by rw [y9, List.length_append] at hn; omega) ?_
  rw [← y9]
  exact h
theorem fi_getitem : findIn (KK w) (.ref aC) "__getitem__" = some (some (.ref m_dunder_getitem)) := by kernel_rfl
theorem ty_getitem : typeIn (KK w) (.ref m_dunder_getitem) = some (.type "function") := by kernel_rfl
theorem fn_getitem : ∃ fo, (KK w).lookup m_dunder_getitem = some fo ∧ ∃ fd, fo.data = .func fd := ⟨_, lk m_dunder_getitem (by kernel_rfl), _, by with_unfolding_all rfl⟩
/-- a vector read by a key -/
theorem sub_vec {value slice : Expr} {i : Value} {xs : List Value} (T : Tp (KK w) mg mb hp) (V : VecAt hp x xs) (h : wpAny (model prog w) A.in1 (call (.ref m_dunder_getitem) [.ref x, i]) Q E ⟨hp, gs, dr, tk, os⟩)
    (hsl : subscripted slice true (.ref x) i = runValue (.builtin "lifetime.subscript" ⟨[.ref x, i], []⟩) := by with_unfolding_all rfl) : wpAny (model prog w) A (subscriptTail value slice (.ref x) i) Q E ⟨hp, gs, dr, tk, os⟩ := by
  obtain ⟨dx, root, tail, n, toff, t1, t2, t3, hx, hdx, _⟩ := V.len
  have I := inst_of hx hdx
  have X := T.X
  obtain ⟨fo, e, fd, he⟩ := fn_getitem (w := w)
  unfold subscriptTail getitemInPython
  refine wpAny_bind (wpAny_bind (wpAny_bind (I.type.here (s := ⟨hp, gs, dr, tk, os⟩) ((looks_findIn X fi_getitem).here (s := ⟨hp, gs, dr, tk, os⟩) ?_))))
  dsimp only
  refine wpAny_bind (wpAny_load (X _ _ e) ?_)
  rw [he]
  refine wpAny_pure ?_
  dsimp only
  rw [hsl]
  refine wpAny_bind (wpAny_runValue (codeAny_builtin entry_sub ?_))
  unfold Builtin.«lifetime.subscript»
  refine wpAny_bind (special_fn (s := ⟨hp, gs, dr, tk, os⟩) X I fi_getitem ty_getitem (wpAny_mono h (fun v s' z => ?_) fun _ _ z => z))
  refine wpAny_pure ?_
  show wpAny (model prog w) A (letTemporaryGo value (.ref x) v >>= fun _ => pure v) Q E s'
  exact wpAny_bind (wpAny_letTemporaryGo (wpAny_pure z))
end
theorem mul_okR {c a : Int} (ha : -1000000 ≤ a ∧ a ≤ 1000000) : IntMulOk c a := by
  refine IntMulOk.of_right ?_
  unfold Builtin.Int.intBits
  split
  · decide
  · have h1 : a.natAbs ≤ 1000000 := by omega
    have h2 : a.natAbs ≠ 0 := by rename_i q; simpa using q
    have h3 : a.natAbs.log2 < 63 := (Nat.log2_lt h2).mpr (Nat.lt_of_le_of_lt h1 (by decide))
    omega
/-- a row read at a place, from either end -/
def rowAt (ns : List Int) (k : Int) : Int := ns.getD (if k < 0 then k + ns.length else k).toNat 0
theorem ints_at {vs : List Value} {ns : List Int} (hi : IntsAre vs ns) {k : Int} (h1 : -(ns.length : Int) ≤ k) (h2 : k < ns.length) : ∃ t, vs[(if k < 0 then k + vs.length else k).toNat]? = some (.int (rowAt ns k) t) := by
  have hl := hi.length
  unfold rowAt
  have hj : (if k < 0 then k + (ns.length : Int) else k).toNat < ns.length := by split <;> omega
  rw [hl]
  refine hi.get _ _ ?_
  rw [List.getD_eq_getElem?_getD, List.getElem?_eq_getElem hj]; rfl
theorem rs_down {c : Int} (hc : 0 ≤ c) : ∀ i : Nat, (i : Int) < Builtin.Range.rangeSize (-1) (-c - 1) (-17) → 17 * (i : Int) ≤ c - 1 := fun i h => by
  unfold Builtin.Range.rangeSize at h
  simp at h
  split at h <;> omega
theorem rs_up {c : Int} (hc : 0 ≤ c) : ∀ i : Nat, (i : Int) < Builtin.Range.rangeSize 0 c 29 → 29 * (i : Int) ≤ c - 1 := fun i h => by
  unfold Builtin.Range.rangeSize at h
  simp at h
  split at h <;> omega
section
variable {prog : Program} {w : World} {A : Around} {E : Value → Shared → Prop} {hp : Heap} {gs : Array GenState} {dr : Drawn} {tk : Nat} {os : OsState} {mg mb : Str → Option Value} {x dx : Addr} {sl : List (Option Value)} {Q : Value → Shared → Prop}
theorem c_loc {M : Model} {scope : Scope} {cl : List (Str × Addr)} {C : Addr} {env : Env} {n : Str} {pos : Pos} {v : Value} {m : Str → Option Value} {s : Shared} (hn : s.heap.Ns C m) (hv : m n = some v) (h : Q v s)
    (hk : (compEnvC scope cl C env).scope.kind = .function := by with_unfolding_all rfl) (hx : (compEnvC scope cl C env).kindOf n = some .local := by with_unfolding_all rfl) (hd : (n == ("__debug__" : Str)) = false := by decide) :
    wpAny M A (eval (.Name n pos) (compEnvC scope cl C env)) Q E s := wpAny_Name (wpAny_loadName_local hk hx hn hv h) hd
theorem c_cell {M : Model} {scope : Scope} {cl : List (Str × Addr)} {C c : Addr} {env : Env} {n : Str} {pos : Pos} {v : Value} {o : Obj} {s : Shared} (hc : cl.lookup n = some c) (ho : s.heap.get? c = some (CX o (some v))) (h : Q v s)
    (hk : (compEnvC scope cl C env).scope.kind = .function := by with_unfolding_all rfl) (hx : (compEnvC scope cl C env).kindOf n = some .cell := by with_unfolding_all rfl) (hd : (n == ("__debug__" : Str)) = false := by decide) :
    wpAny M A (eval (.Name n pos) (compEnvC scope cl C env)) Q E s := wpAny_Name (wpAny_loadName_cell hk hx hc ⟨_, ho, rfl⟩ h) hd
theorem fi_len : findIn (KK w) (.ref aC) "__len__" = some (some (.ref m_dunder_len)) := by kernel_rfl
theorem ty_len : typeIn (KK w) (.ref m_dunder_len) = some (.type "function") := by kernel_rfl
theorem len_vec {xs : List Value} (T : Tp (KK w) mg mb hp) (V : VecAt hp x xs) (hn : xs.length ≤ 1000000) (hroom : A.depth < 800)
    (h : ∀ h' tk t, Ext hp h' → Q (.int xs.length t) ⟨h', gs, dr, tk, os⟩) : wpAny (model prog w) A (call (.builtin "len") [.ref x]) Q E ⟨hp, gs, dr, tk, os⟩ := by
  obtain ⟨dx, root, tail, n, toff, t1, t2, t3, hx, hdx, hlen⟩ := V.len
  refine Calls.call_function_entry kind_len plain_len entry_len (args_len1 _) ?_
  unfold Builtin.«len»
  refine wpAny_bind (m := oneArg "len" _) (wpAny_pure ?_)
  refine wpAny_bind (m := callSpecial? (.ref x) (Str.ofString "__len__")) (special_fn (s := ⟨hp, gs, dr, tk, os⟩) T.X (inst_of hx hdx) fi_len ty_len (len_spec T hx hdx (by walk_at "room") fun h' tk' e => ?_))
  refine wpAny_bind (wpAny_holding (wpAny_pure ?_))
  refine wpAny_bind (wpAny_letGo ?_)
  show wpAny _ _ (if n < 0 then _ else _) _ _ _
  rw [if_neg (by omega)]
  show wpAny _ _ (if n ≥ 2 ^ 63 then _ else _) _ _ _
  rw [if_neg (by omega)]
  rw [hlen]
  exact wpAny_bind (wpAny_mkInt (wpAny_pure ⟨_, rfl, h _ _ _ e⟩))
theorem sub_at {value slice : Expr} {l : Addr} {items : List Value} {n : Nat} {k : Int} {t : Tok} {v : Value} (hl : hp.get? l = some (LO items n)) (h1 : -(items.length : Int) ≤ k) (h2 : k < items.length) (hz : items.length ≤ 1000000) (hv : items[(if k < 0 then k + (items.length : Int) else k).toNat]? = some v) (h : Q v ⟨hp, gs, dr, tk, os⟩)
    (hs : subscripted slice false (.ref l) (.int k t) = operate [.ref l, .int k t] (getItem (.ref l) (.int k t)) := by with_unfolding_all rfl) :
    wpAny (model prog w) A (subscriptTail value slice (.ref l) (.int k t)) Q E ⟨hp, gs, dr, tk, os⟩ := by
  by_cases hk : k < 0
  · rw [if_pos hk] at hv
    refine tail_any (isList_of hl).typeIs slot_list_getitem.lookup (wpAny_getItem_list_neg (s := ⟨hp, gs, dr, tk, os⟩) (isList_of hl) hk (by rw [List.size_toArray]; omega) (by omega) ?_ h) hs
    simpa using hv
  · rw [if_neg hk] at hv
    exact sub_list hl (by omega) (by omega) hv h hs
end
section
variable {prog : Program} {w : World} {A : Around} {R : Result → Shared → Prop} {hp : Heap} {gs : Array GenState} {dr : Drawn} {tk₀ : Nat} {os : OsState}
theorem loop_walkT {x y : Str} {px py pt : Pos} {kk : Nat} {body : List Stmt} {b : Heap} {L a : Addr} {m : Str → Option Value} {own : List (Addr × Obj)} {cn : Str} {cs : Scope} {ccd : Value} {cl : List (Str × Addr)}
    {I : Addr} {fp wr : List Addr} {n : Nat} {Pt : Nat → Array Value → Prop} {St : Nat → Heap → Prop} {Mid : Nat → Addr → Heap → Prop} (W : WalksT prog w A I fp wr n Pt St Mid) (hst : St 0 hp) (F : Fx b L hp m own) (hh : A.handled = none)
    (hpt : ∀ i vals, Pt i vals → ∃ v1 v2, vals = #[v1, v2])
    (hfp : ∀ a ∈ fp, a ∉ wr → ∃ o, b.get? a = some o) (hwr : ∀ a ∈ wr, b.get? a = none ∧ a ≠ L ∧ ∀ p ∈ own, p.1 ≠ a) (hnd : wr.Nodup) (hex : ∀ i h, St i h → ∀ a ∈ wr, ∃ o, h.get? a = some o ∧ ∃ vs, o.data = .fields vs)
    (Inv : Nat → Heap → (Str → Option Value) → List (Addr × Obj) → Prop) (h0 : Inv 0 b m own)
    (step : ∀ i v1 v2 b₁ m₁ own₁ h₁ tk₁ it E', (∀ p ∈ it, ∃ vs, p.2.data = .fields vs) → i < n → Pt i #[v1, v2] → Inv i b₁ m₁ own₁ → Ext b b₁ → Fx b₁ L h₁ (fun z => if z = y then some v2 else if z = x then some v1 else m₁ z) (own₁ ++ it) →
      wpAny (model prog w) A (execs body (envX cn cs L a ccd cl)) (Turned gs dr os L it b₁ (Inv (i + 1)) fun f s' => R (.ok f) s') E' ⟨h₁, gs, dr, tk₁, os⟩)
    (fin : ∀ h' tk b' m' own', Inv n b' m' own' → Ext b b' → Fx b' L h' m' own' → R (.ok .next) ⟨h', gs, dr, tk, os⟩)
    (hk : cs.kind = .function := by with_unfolding_all rfl) (hx : (envX cn cs L a ccd cl).kindOf x = some .local := by with_unfolding_all rfl) (hy : (envX cn cs L a ccd cl).kindOf y = some .local := by with_unfolding_all rfl) :
    codeAny (model prog w) A (.forLoop (.Tuple [.Name x px, .Name y py] kk pt) (.ref I) body [] (envX cn cs L a ccd cl)) R ⟨hp, gs, dr, tk₀, os⟩ := by
  have he : assignEach [Expr.Name x px, Expr.Name y py] (envX cn cs L a ccd cl) = [(false, assign (.Name x px) (envX cn cs L a ccd cl)), (false, assign (.Name y py) (envX cn cs L a ccd cl))] := by with_unfolding_all rfl
  refine codeAny_forLoop_any (fun k s' => ∃ h' tk b' m' own' i, s' = ⟨h', gs, dr, tk, os⟩ ∧ k = n + 1 - i ∧ i ≤ n ∧ St i h' ∧ Ext b b' ∧ Fx b' L h' m' own' ∧ Inv i b' m' own' ∧ (∀ a ∈ wr, b'.get? a = none ∧ a ≠ L ∧ ∀ p ∈ own', p.1 ≠ a)) ?_ (n + 1)
    ⟨hp, tk₀, b, m, own, 0, rfl, rfl, Nat.zero_le _, hst, .rfl', F, h0, hwr⟩
  rintro k s' ⟨h, tk, b', m', own', i, rfl, rfl, hi, st, eb, F', inv, hw⟩
  have keepF : ∀ {h₁ : Heap}, (∀ c o, c ∉ wr → h.get? c = some o → h₁.get? c = some o) → Fx b' L h₁ m' own' := fun {h₁} hk₁ => by
    obtain ⟨oL, es, ep, gL, r⟩ := F'.ns
    refine ⟨⟨oL, es, ep, hk₁ _ _ (fun q => (hw _ q).2.1 rfl) gL, r⟩, fun c o e => hk₁ c o (fun q => by rw [(hw _ q).1] at e; cases e) (F'.keep c o e), F'.lout, fun p hp => hk₁ _ _ (fun q => (hw _ q).2.2 p hp rfl) (F'.has p hp), F'.out, F'.nodup⟩
  by_cases hlt : i < n
  · refine W.item i _ _ _ hlt st fun T vals h₁ tk₁ hv hT hIT mid hk₁ => ?_
    obtain ⟨v1, v2, rfl⟩ := hpt i vals hv
    dsimp only
    refine W.go _ _ _ i T ⟨h₁, gs, dr, tk₁, os⟩ _ _ mid fun h₂ st₂ hk₂ => ?_
    have F₂ := keepF (h₁ := h₂) fun c o hc e => hk₂ c o hc (hk₁ c o hc e)
    have hIT₂ : h₂.IsTuple T #[v1, v2] := by
      obtain ⟨o, ho, r⟩ := hIT
      exact ⟨o, hk₂ T o (W.apart _ _ _ mid) ho, r⟩
    refine wpAny_assign_Tuple (items := #[v1, v2]) hh hIT₂ (by rw [he]; rfl) (by rw [he]; rfl) fun h₃ e₃ => ?_
    have ex : Ext h₂ h₃ := fun c oc q => e₃ c oc (Nat.ne_of_lt (Heap.lt_size q)) q
    have F₃ := F₂.ext ex
    have st₃ : St (i + 1) h₃ := W.frame _ _ _ st₂ fun c _ o e => ex c o e
    have hobj : ∀ c ∈ wr, ∃ o, h₃.get? c = some o := fun c hc => let ⟨o, ho, _⟩ := hex _ _ st₃ c hc; ⟨o, ho⟩
    let it : List (Addr × Obj) := wr.map fun c => (c, (h₃.get? c).getD default)
    have hit : ∀ p ∈ it, p.1 ∈ wr ∧ h₃.get? p.1 = some p.2 := fun p hp => by
      obtain ⟨c, hc, rfl⟩ := List.mem_map.mp hp
      obtain ⟨o, ho⟩ := hobj c hc
      refine ⟨hc, ?_⟩
      show h₃.get? c = some ((h₃.get? c).getD default)
      rw [ho]; rfl
    have hitf : ∀ p ∈ it, ∃ vs, p.2.data = .fields vs := fun p hp => by
      obtain ⟨o, ho, hd⟩ := hex _ _ st₃ p.1 (hit p hp).1
      rw [(hit p hp).2] at ho
      rw [Option.some.inj ho]; exact hd
    have hitm : it.map (·.1) = wr := by simp [it, List.map_map, Function.comp_def]
    have F₃' : Fx b' L h₃ m' (own' ++ it) := by
      refine ⟨F₃.ns, F₃.keep, F₃.lout, fun p hp => ?_, fun p hp => ?_, ?_⟩
      · rcases List.mem_append.mp hp with hp | hp
        · exact F₃.has p hp
        · exact (hit p hp).2
      · rcases List.mem_append.mp hp with hp | hp
        · exact F₃.out p hp
        · exact (hw _ (hit p hp).1).1
      · rw [List.map_append, hitm, ← List.cons_append]
        refine List.nodup_append.mpr ⟨F₃.nodup, hnd, fun c hc d hd => ?_⟩
        rintro rfl
        rcases List.mem_cons.mp hc with rfl | hc
        · exact (hw _ hd).2.1 rfl
        · obtain ⟨p, hp, q⟩ := List.mem_map.mp hc
          exact (hw _ hd).2.2 p hp q
    rw [he]
    show wpAny _ _ (holding [v2] (assign (.Name x px) (envX cn cs L a ccd cl) v1) >>= fun _ => holding [] (assign (.Name y py) (envX cn cs L a ccd cl) v2) >>= fun _ => pure ()) _ _ _
    refine wpAny_bind (wpAny_holding (wpAny_assign_Name (st_loc F₃' (fun h₄ F₄ => ?_) hk hx)))
    refine wpAny_bind (wpAny_holding (wpAny_assign_Name (st_loc F₄ (fun h₅ F₅ => ?_) hk hy)))
    refine wpAny_pure ?_
    refine wpAny_mono (step i v1 v2 b' m' own' h₅ _ it _ hitf hlt hv inv eb F₅) (fun f s₃ z => ?_) fun _ _ z => z
    have go : TurnEnd gs dr os L it b' (Inv (i + 1)) s₃ → ∃ k, k < n + 1 - i ∧ ∃ h' tk b' m' own' j, s₃ = ⟨h', gs, dr, tk, os⟩ ∧ k = n + 1 - j ∧ j ≤ n ∧ St j h' ∧ Ext b b' ∧ Fx b' L h' m' own' ∧ Inv j b' m' own' ∧ (∀ a ∈ wr, b'.get? a = none ∧ a ≠ L ∧ ∀ p ∈ own', p.1 ≠ a) := by
      rintro ⟨h₆, tk₆, b₆, m₆, own₆, rfl, e₆, F₆, inv₆⟩
      have hasit : ∀ p ∈ it, h₆.get? p.1 = some p.2 := fun p hp => F₆.has p (List.mem_append_right _ hp)
      have hi0 : ∀ c ∈ wr, ∃ o, (c, o) ∈ it := fun c hc => ⟨_, List.mem_map_of_mem hc⟩
      refine ⟨n + 1 - (i + 1), by omega, h₆, tk₆, b₆, m₆, own₆, i + 1, rfl, rfl, hlt, ?_, eb.trans e₆, ?_, inv₆, fun c hc => ?_⟩
      · refine W.frame _ _ _ st₃ fun c hc o e => ?_
        by_cases hcw : c ∈ wr
        · obtain ⟨oc, hoc⟩ := hi0 c hcw
          have := (hit _ hoc).2
          dsimp only at this
          rw [e] at this
          have := Option.some.inj this
          rw [this]
          exact hasit _ hoc
        · obtain ⟨obj, hob⟩ := hfp c hc hcw
          have e1 := F₃.keep c obj (eb c obj hob)
          rw [e] at e1
          rw [Option.some.inj e1]
          exact F₆.keep c obj (e₆ c obj (eb c obj hob))
      · refine ⟨F₆.ns, F₆.keep, F₆.lout, fun p hp => F₆.has p (List.mem_append_left _ hp), fun p hp => F₆.out p (List.mem_append_left _ hp), ?_⟩
        have nd := F₆.nodup
        rw [List.map_append, ← List.cons_append] at nd
        exact (List.nodup_append.mp nd).1
      · obtain ⟨oc, hoc⟩ := hi0 c hc
        refine ⟨F₆.out _ (List.mem_append_right _ hoc), (hw c hc).2.1, fun p hp q => ?_⟩
        have nd := F₆.nodup
        rw [List.map_append, hitm, ← List.cons_append] at nd
        exact (List.nodup_append.mp nd).2.2 _ (.tail _ (List.mem_map_of_mem hp)) _ hc q
    cases f with
    | next => exact go z
    | cont => exact go z
    | brk => exact z
    | ret v => exact z
  · have : i = n := by omega
    subst this
    refine W.done _ _ _ st fun h₁ tk₁ hk₁ => ?_
    dsimp only
    exact wpAny_execs_nil (fin h₁ tk₁ b' m' own' inv eb (keepF hk₁))

/-- a for over enumerate of a list that the base holds -/
theorem for_enum {x y : Str} {px py pt : Pos} {kk : Nat} {body : List Stmt} {b : Heap} {L a l : Addr} {m : Str → Option Value} {own : List (Addr × Obj)} {cn : Str} {cs : Scope} {ccd : Value} {cl : List (Str × Addr)} {items : List Value} {n : Nat} {E : Value → Shared → Prop}
    (F : Fx b L hp m own) (hl : b.get? l = some (LO items n)) (hh : A.handled = none)
    (Inv : Nat → Heap → (Str → Option Value) → List (Addr × Obj) → Prop) (h0 : Inv 0 b m own)
    (step : ∀ i v t b₁ m₁ own₁ h₁ tk₁ it E', (∀ p ∈ it, ∃ vs, p.2.data = .fields vs) → i < items.length → items[i]? = some v → Inv i b₁ m₁ own₁ → Ext b b₁ → Fx b₁ L h₁ (fun z => if z = y then some v else if z = x then some (.int i t) else m₁ z) (own₁ ++ it) →
      wpAny (model prog w) A (execs body (envX cn cs L a ccd cl)) (Turned gs dr os L it b₁ (Inv (i + 1)) fun f s' => R (.ok f) s') E' ⟨h₁, gs, dr, tk₁, os⟩)
    (fin : ∀ h' tk b' m' own', Inv items.length b' m' own' → Ext b b' → Fx b' L h' m' own' → R (.ok .next) ⟨h', gs, dr, tk, os⟩)
    (hk : cs.kind = .function := by with_unfolding_all rfl) (hx : (envX cn cs L a ccd cl).kindOf x = some .local := by with_unfolding_all rfl) (hy : (envX cn cs L a ccd cl).kindOf y = some .local := by with_unfolding_all rfl) :
    wpAny (model prog w) A (call (.type "enumerate") [.ref l]) (fun e s₁ => wpAny (model prog w) A (pyIter e) (fun it s₂ => codeAny (model prog w) A (.forLoop (.Tuple [.Name x px, .Name y py] kk pt) it body [] (envX cn cs L a ccd cl)) R s₂) E s₁) E ⟨hp, gs, dr, tk₀, os⟩ := by
  have hl' := F.keep _ _ hl
  refine call_enumerate_list (isList_of hl') ?_
  intro h1 he hit hsz hk1
  have fr := F.fresh
  have hlt : l < hp.objs.size := Heap.lt_size hl'
  have W := WalksT.enumerate (prog := prog) (w := w) hh (hp.objs.size + 1) hp.objs.size l (Nat.succ_ne_self _) (Nat.ne_of_lt (Nat.lt_succ_of_lt hlt)) (Nat.ne_of_lt hlt) items.toArray
  rw [List.size_toArray] at W
  have none2 : b.get? (hp.objs.size + 1) = none := by
    cases q : b.get? (hp.objs.size + 1) with
    | none => rfl
    | some o => exact absurd (Heap.lt_size (F.keep _ _ q)) (Nat.not_lt.mpr (Nat.le_succ _))
  have st0 : (∃ old, IsEnum h1 (hp.objs.size + 1) hp.objs.size ((0 : Nat) : Int) old) ∧ h1.IsListIter hp.objs.size l 0 ∧ h1.IsList l items.toArray := ⟨⟨_, he⟩, hit, isList_of (hk1 _ _ hl')⟩
  refine W.self 0 ⟨h1, gs, dr, tk₀, os⟩ _ _ st0 ?_
  refine loop_walkT W st0 (F.ext hk1) hh (fun i vals q => ?_) (fun c hc hw => ?_) (fun c hc => ?_) (by simp) (fun i h st c hc => ?_) Inv h0 (fun i v1 v2 b₁ m₁ own₁ h₁ tk₁ it E' hitf hi hv => ?_) fin hk hx hy
  · obtain ⟨t, v, _, e⟩ := q
    exact ⟨_, _, e⟩
  · rcases List.mem_cons.mp hc with rfl | hc
    · exact absurd (by simp) hw
    · rcases List.mem_cons.mp hc with rfl | hc
      · exact absurd (by simp) hw
      · rw [List.mem_singleton.mp hc]; exact ⟨_, hl⟩
  · rcases List.mem_cons.mp hc with rfl | hc
    · refine ⟨none2, fun q => ?_, fun p hp q => ?_⟩
      · exact absurd F.ns.lt (Nat.not_lt.mpr (q ▸ Nat.le_succ _))
      · exact absurd (Heap.lt_size (F.has p hp)) (Nat.not_lt.mpr (q ▸ Nat.le_succ _))
    · rw [List.mem_singleton.mp hc]; exact ⟨fr.1, fr.2.1.symm, fr.2.2⟩
  · rcases List.mem_cons.mp hc with rfl | hc
    · obtain ⟨⟨old, ho⟩, _⟩ := st; exact ⟨_, ho, _, rfl⟩
    · rw [List.mem_singleton.mp hc]
      obtain ⟨_, ⟨o, ho, hc1, hd1⟩, _⟩ := st
      exact ⟨o, ho, _, hd1⟩
  · obtain ⟨t, v, e1, e2⟩ := hv
    have e3 : v1 = .int i t ∧ v2 = v := by simpa using e2
    obtain ⟨rfl, rfl⟩ := e3
    exact step i v2 t b₁ m₁ own₁ h₁ tk₁ it E' hitf hi (by simpa using e1)
end
/-- objects that are no cell, no record, no namespace in use -/
def Solid (o : Obj) : Prop := (∀ v, o.data ≠ .cell v) ∧ (∀ vs, o.data ≠ .fields vs) ∧ (o = emptyDict ∨ ∀ es n, o.data ≠ .dict es n)
def Kp (h b : Heap) : Prop := ∀ c o, h.get? c = some o → Solid o → b.get? c = some o
def Odd (own : List (Addr × Obj)) : Prop := ∀ p ∈ own, (∃ v, p.2.data = .cell v) ∨ ∃ vs, p.2.data = .fields vs
theorem solid_list (its : List Value) (n : Nat) : Solid (LO its n) := ⟨fun _ q => (by cases q), fun _ q => (by cases q), .inr fun _ _ q => by cases q⟩
theorem solid_inst (dx : Addr) (sl : List (Option Value)) : Solid (IO dx sl) := ⟨fun _ q => (by cases q), fun _ q => (by cases q), .inr fun _ _ q => by cases q⟩
theorem solid_empty : Solid emptyDict := ⟨fun _ q => (by cases q), fun _ q => (by cases q), .inl rfl⟩
theorem Kp.list {h b : Heap} (k : Kp h b) {c : Addr} {its : List Value} {n : Nat} (e : h.get? c = some (LO its n)) : b.get? c = some (LO its n) := k c _ e (solid_list _ _)
theorem VecAt.kp {h b : Heap} {x : Addr} {xs : List Value} (V : VecAt h x xs) (k : Kp h b) : VecAt b x xs := by
  obtain ⟨dx, root, tail, n, toff, t1, t2, t3, yss, zs, nt, e1, e2, R, e4, r⟩ := V
  refine ⟨dx, root, tail, n, toff, t1, t2, t3, yss, zs, nt, k _ _ e1 (solid_inst _ _), k _ _ e2 solid_empty, ?_, k.list e4, r⟩
  obtain ⟨nr, cs, gr, hl, hk⟩ := R
  exact ⟨nr, cs, k.list gr, hl, fun q c ys hc hy => let ⟨nc, hcl⟩ := hk q c ys hc hy; ⟨nc, k.list hcl⟩⟩
/-- all that stands goes into the base, but the odd ones -/
theorem Fx.settle {b h : Heap} {L : Addr} {m : Str → Option Value} {own own' : List (Addr × Obj)} {x : Str} {v : Value} (F : Fx b L h m own) (hm : m x = some v) (hs : own'.Sublist own) (ho : Odd own') :
    ∃ b', Ext b b' ∧ Fx b' L h m own' ∧ Kp h b' := by
  obtain ⟨b', e, F', k, k2⟩ := F.freeze own' hs
  refine ⟨b', e, F', fun c o hc so => k c o (fun q => ?_) (fun q => ?_) hc⟩
  · subst q
    obtain ⟨oL, es, ep, gL, hd, hst, hf⟩ := F.ns
    rw [gL] at hc
    have := Option.some.inj hc
    subst this
    rcases so.2.2 with rfl | so
    · have e1 : es = #[] := by
        have : Data.dict #[] 0 = Data.dict es ep := hd
        cases this; rfl
      subst e1
      have := hf x
      rw [hm] at this
      simp [nsFind, findBy] at this
    · exact so _ _ hd
  · obtain ⟨p, hp, rfl⟩ := List.mem_map.mp q
    have := F'.has p hp
    rw [hc] at this
    have := Option.some.inj this
    rcases ho p hp with ⟨v, hv⟩ | ⟨vs, hv⟩
    · exact so.1 v (this ▸ hv)
    · exact so.2.1 vs (this ▸ hv)
/-- the head goes into the base -/
theorem Fx.sink {b h : Heap} {L a : Addr} {m : Str → Option Value} {o : Obj} {own : List (Addr × Obj)} (F : Fx b L h m ((a, o) :: own)) : ∃ b', Ext b b' ∧ Fx b' L h m own ∧ b'.get? a = some o := by
  obtain ⟨b', e, F', k, k2⟩ := F.freeze own (List.sublist_cons_self _ _)
  have nd := F.nodup
  simp only [List.map_cons, List.nodup_cons, List.mem_cons, not_or] at nd
  exact ⟨b', e, F', k a o (fun q => nd.1.1 q.symm) nd.2.1 F.head⟩
theorem odd_it {a b c : Addr} {o1 o2 o3 : Obj} {v1 v2 v3 : Option Value} {it : List (Addr × Obj)} (hit : ∀ p ∈ it, ∃ vs, p.2.data = .fields vs) : Odd ([(a, CX o1 v1), (b, CX o2 v2), (c, CX o3 v3)] ++ it) := fun p hp => by
  rcases List.mem_append.mp hp with hp | hp
  · simp only [List.mem_cons, List.not_mem_nil, or_false] at hp
    rcases hp with rfl | rfl | rfl <;> exact .inl ⟨_, rfl⟩
  · exact .inr (hit p hp)
/-- the first place of k, from i on, ahead of stop -/
def ixI (ns : List Int) (k stop : Int) : Nat → Nat → Option Nat
  | 0, _ => none
  | f + 1, i => if (i : Int) < stop then (match ns[i]? with | some x => if x == k then some i else ixI ns k stop f (i + 1) | none => none) else none
namespace Sx
open AutoSeq1 (wpAny_loadPart')
open MeetsSeq
theorem sx_repr {prog : Program} {w : World} {A : Around} {E : Value → Shared → Prop} {s : Shared} {a : Int} {t : Tok} {Q : Str → Shared → Prop} (ha : a.natAbs < 10 ^ 7) (h : ∀ tk x, x.length ≤ 1000 → Q x { s with toks := tk }) : wpAny (model prog w) A (pyRepr (.int a t)) Q E s := by
  have hd : a.natAbs.log2 < 1920 := by
    by_cases q : a.natAbs = 0
    · rw [q]; decide
    · exact (Nat.log2_lt q).mpr (Nat.lt_of_lt_of_le ha (by decide +kernel))
  have hl : (toString a).length ≤ 8 := int_text_length_le10 (by decide) ha
  unfold pyRepr
  refine wpAny_bind (wpAny_pyReprObj_gives (typeIs_int _ a t) F.slot_int_repr F.entry_int_repr (PySem.F.args_int_repr_1 _) (gives_int_repr a t hd) (wpAny_pure (h _ _ ?_)) (hx := int_text_fits hd))
  rw [PySem.ofString_length]
  omega
theorem niw : (Str.ofString " is not in list").length ≤ 100 := by decide +kernel
theorem sx_raise {prog : Program} {w : World} {A : Around} {α : Type} {E : Value → Shared → Prop} {s : Shared} {cls : String} {msg : Str} {Q : α → Shared → Prop} (hp : PlainExc cls) (hh : A.handled = none)
    (h : ∀ h' tk e, Heap.NewExc s.heap h' e cls → E (.ref e) { s with heap := h', toks := tk }) (hm : msg.length ≤ sizeLine) :
    wpAny (model prog w) A (Builtin.List.listRaiseStr cls msg : Sem α) Q E s := by
  unfold Builtin.List.listRaiseStr
  refine wpAny_bind (wpAny_mkStr (wpAny_bind ?_) hm)
  unfold newExc newTuple
  refine wpAny_bind (wpAny_newObj_type ?_)
  refine wpAny_bind (m := firstArgMember _ _) (wpAny_of_eq (a := Value.none) (by simp only [firstArgMember, hp.first]; rfl) ?_)
  rw [hp.own]
  refine wpAny_newObj_type ?_
  unfold raiseNew
  refine wpAny_bind (wpAny_handled ?_)
  rw [hh]
  first
    | refine wpAny_throw ?_
    | refine wpAny_bind (wpAny_pure (wpAny_throw ?_))
  exact h _ _ _ ⟨fun b o hb => Heap.get?_push_of_some _ (Heap.get?_push_of_some _ hb), Heap.get?_none_of_le (by simp), _, .ref s.heap.objs.size, Heap.get?_push_size _ rfl, rfl, by simp⟩
set_option maxHeartbeats 4000000 in
theorem index_loop_all (l : Addr) (items : List Value) (ns : List Int) (n : Nat) (k : Int) (t : Tok) (hi : IntsAre items ns) (hz : ns.length ≤ 1000000) (hk : k.natAbs < 10 ^ 7) (stop : Int) (f : Nat) :
    ∀ i : Nat, ns.length < i + f → Meets (Builtin.«list.index.loop» ⟨[.ref l, .int k t, rawInt i, rawInt stop], []⟩)
      (fun A R s => s.heap.get? l = some (LO items n) ∧ (∀ j, ixI ns k stop f i = some j → R (.ok (.ret (.int j s.toks))) { s with toks := s.toks + 1 }) ∧ (ixI ns k stop f i = none → raisesNew "ValueError" A R s)) := by
  induction f with
  | zero =>
    intro i hf prog w A R s h
    obtain ⟨hp, g, d, tk, os⟩ := s; obtain ⟨hl, h, hn⟩ := h
    have hlen := hi.length
    wp_walk using wpAny_loadPart' hl
    have hx : (if (i : Int) < stop then items.toArray[((i : Nat) : Int).toNat]? else none) = none := by
      split
      · simp; omega
      · rfl
    rw [hx]
    with_reducible refine wpAny_bind (wpAny_rule ?_)
    with_reducible refine wpAny_bind (sx_repr hk fun tk' x hx' => ?_)
    with_reducible refine sx_raise plainExc_ValueError ?_ ?_ ?_
    · exact (hn rfl).1
    · exact (hn rfl).2
    rw [Str.length_append, sizeLine_eq]; exact Nat.le_trans (Nat.add_le_add hx' niw) (by decide)
  | succ f ih =>
    intro i hf prog w A R s h
    obtain ⟨hp, g, d, tk, os⟩ := s; obtain ⟨hl, h, hn⟩ := h
    have hlen := hi.length
    rw [ixI] at h hn
    wp_walk using wpAny_loadPart' hl
    by_cases hs : (i : Int) < stop
    · rw [if_pos hs] at h hn ⊢
      cases hx : ns[i]? with
      | none =>
        rw [hx] at h hn
        have hx' : items.toArray[((i : Nat) : Int).toNat]? = none := by
          have := List.getElem?_eq_none_iff.mp hx
          simp; omega
        rw [hx']
        with_reducible refine wpAny_bind (wpAny_rule ?_)
        with_reducible refine wpAny_bind (sx_repr hk fun tk' x hx' => ?_)
        with_reducible refine sx_raise plainExc_ValueError ?_ ?_ ?_
        · exact (hn rfl).1
        · exact (hn rfl).2
        rw [Str.length_append, sizeLine_eq]; exact Nat.le_trans (Nat.add_le_add hx' niw) (by decide)
      | some x =>
        rw [hx] at h hn
        obtain ⟨u, hu⟩ := hi.get i x hx
        have hx' : items.toArray[((i : Nat) : Int).toNat]? = some (.int x u) := by simpa using hu
        rw [hx']
        refine wpAny_bind (EqGives.int x k u t prog w _ _ _ _ ?_)
        dsimp only at h hn
        cases hb : x == k with
        | true =>
          rw [hb] at h
          wp_walk
          exact h i rfl
        | false =>
          rw [hb] at h hn
          have hc : ((i : Int) + 1) = ((i + 1 : Nat) : Int) := by push_cast; rfl
          wp_walk
          rw [hc]
          exact ⟨plainId_quiet plain_index_loop _, codeAny_builtin entry_index_loop (by
            rw [Around.under_plainId plain_index_loop _]
            exact ih (i + 1) (by omega) prog w A R _ ⟨hl, by simpa using h, by simpa using hn⟩)⟩
    · rw [if_neg hs] at h hn ⊢
      with_reducible refine wpAny_bind (wpAny_rule ?_)
      with_reducible refine wpAny_bind (sx_repr hk fun tk' x hx' => ?_)
      with_reducible refine sx_raise plainExc_ValueError ?_ ?_ ?_
      · exact (hn rfl).1
      · exact (hn rfl).2
      rw [Str.length_append, sizeLine_eq]; exact Nat.le_trans (Nat.add_le_add hx' niw) (by decide)
/-- where a bound stands -/
def endI (c b : Int) : Int := if b < 0 then max 0 (b + c) else b
theorem index_all0 (l : Addr) (items : List Value) (ns : List Int) (n : Nat) (k : Int) (t : Tok) (hi : IntsAre items ns) (hz : ns.length ≤ 1000000) (hk : k.natAbs < 10 ^ 7) :
    Meets (Builtin.«list.index» ⟨[.ref l, .int k t], []⟩)
      (fun A R s => s.heap.get? l = some (LO items n) ∧ (∀ j, ixI ns k (2 ^ 63 - 1) (ns.length + 1) 0 = some j → R (.ok (.ret (.int j s.toks))) { s with toks := s.toks + 1 }) ∧ (ixI ns k (2 ^ 63 - 1) (ns.length + 1) 0 = none → raisesNew "ValueError" A R s)) := by
  intro prog w A R s h
  obtain ⟨hp, g, d, tk, os⟩ := s; obtain ⟨hl, h, hn⟩ := h
  wp_walk using wpAny_loadPart' hl
  have a1 : ((fun i : Int => if i < 0 then max 0 (i + (items.toArray.size : Int)) else i) ((none : Option Int).getD 0)) = ((0 : Nat) : Int) := by simp
  have a2 : ((fun i : Int => if i < 0 then max 0 (i + (items.toArray.size : Int)) else i) ((none : Option Int).getD (2 ^ 63 - 1))) = 2 ^ 63 - 1 := by simp
  rw [a1, a2]
  exact ⟨plainId_quiet plain_index_loop _, codeAny_builtin entry_index_loop (by
    rw [Around.under_plainId plain_index_loop _]
    exact index_loop_all l items ns n k t hi hz hk (2 ^ 63 - 1) _ 0 (by omega) prog w A R _ ⟨hl, h, hn⟩)⟩
theorem index_all1 (l : Addr) (items : List Value) (ns : List Int) (n : Nat) (k b : Int) (t u : Tok) (hi : IntsAre items ns) (hz : ns.length ≤ 1000000) (hk : k.natAbs < 10 ^ 7) :
    Meets (Builtin.«list.index» ⟨[.ref l, .int k t, .int b u], []⟩)
      (fun A R s => s.heap.get? l = some (LO items n) ∧ (∀ j, ixI ns k (2 ^ 63 - 1) (ns.length + 1) (endI ns.length b).toNat = some j → R (.ok (.ret (.int j s.toks))) { s with toks := s.toks + 1 }) ∧ (ixI ns k (2 ^ 63 - 1) (ns.length + 1) (endI ns.length b).toNat = none → raisesNew "ValueError" A R s)) := by
  intro prog w A R s h
  obtain ⟨hp, g, d, tk, os⟩ := s; obtain ⟨hl, h, hn⟩ := h
  wp_walk using wpAny_loadPart' hl
  have hlen := hi.length
  have a1 : ((fun i : Int => if i < 0 then max 0 (i + (items.toArray.size : Int)) else i) ((some b : Option Int).getD 0)) = (((endI ns.length b).toNat : Nat) : Int) := by
    simp only [Option.getD_some, List.size_toArray, endI, hlen]
    split <;> omega
  have a2 : ((fun i : Int => if i < 0 then max 0 (i + (items.toArray.size : Int)) else i) ((none : Option Int).getD (2 ^ 63 - 1))) = 2 ^ 63 - 1 := by simp
  rw [a1, a2]
  exact ⟨plainId_quiet plain_index_loop _, codeAny_builtin entry_index_loop (by
    rw [Around.under_plainId plain_index_loop _]
    exact index_loop_all l items ns n k t hi hz hk (2 ^ 63 - 1) _ _ (by omega) prog w A R _ ⟨hl, h, hn⟩)⟩
theorem index_all2 (l : Addr) (items : List Value) (ns : List Int) (n : Nat) (k b c : Int) (t u v : Tok) (hi : IntsAre items ns) (hz : ns.length ≤ 1000000) (hk : k.natAbs < 10 ^ 7) :
    Meets (Builtin.«list.index» ⟨[.ref l, .int k t, .int b u, .int c v], []⟩)
      (fun A R s => s.heap.get? l = some (LO items n) ∧ (∀ j, ixI ns k (endI ns.length c) (ns.length + 1) (endI ns.length b).toNat = some j → R (.ok (.ret (.int j s.toks))) { s with toks := s.toks + 1 }) ∧ (ixI ns k (endI ns.length c) (ns.length + 1) (endI ns.length b).toNat = none → raisesNew "ValueError" A R s)) := by
  intro prog w A R s h
  obtain ⟨hp, g, d, tk, os⟩ := s; obtain ⟨hl, h, hn⟩ := h
  wp_walk using wpAny_loadPart' hl
  have hlen := hi.length
  have a1 : ((fun i : Int => if i < 0 then max 0 (i + (items.toArray.size : Int)) else i) ((some b : Option Int).getD 0)) = (((endI ns.length b).toNat : Nat) : Int) := by
    simp only [Option.getD_some, List.size_toArray, endI, hlen]
    split <;> omega
  have a2 : ((fun i : Int => if i < 0 then max 0 (i + (items.toArray.size : Int)) else i) ((some c : Option Int).getD (2 ^ 63 - 1))) = endI ns.length c := by
    simp only [Option.getD_some, List.size_toArray, endI, hlen]
  rw [a1, a2]
  exact ⟨plainId_quiet plain_index_loop _, codeAny_builtin entry_index_loop (by
    rw [Around.under_plainId plain_index_loop _]
    exact index_loop_all l items ns n k t hi hz hk _ _ _ (by omega) prog w A R _ ⟨hl, h, hn⟩)⟩
end Sx
/-- the bounds that index is handed -/
inductive IxB (c : Nat) : List Value → Nat → Int → Prop
  | none : IxB c [] 0 (2 ^ 63 - 1)
  | one (b : Int) (u : Tok) : IxB c [.int b u] (Sx.endI c b).toNat (2 ^ 63 - 1)
  | two (b d : Int) (u v : Tok) : IxB c [.int b u, .int d v] (Sx.endI c b).toNat (Sx.endI c d)
section
variable {prog : Program} {w : World} {A : Around} {E : Value → Shared → Prop} {hp : Heap} {gs : Array GenState} {dr : Drawn} {tk : Nat} {os : OsState} {b : Heap} {L l : Addr} {m : Str → Option Value} {own : List (Addr × Obj)} {items : List Value} {ns : List Int} {n : Nat} {k : Int} {t : Tok} {Q : Value → Shared → Prop}
theorem isInt_count (k : Int) : ∀ {vs : List Value} {ns : List Int}, IntsAre vs ns → vs.countP (isInt k) = ns.countP (· == k)
  | _, _, .nil => rfl
  | _, _, .cons n t h => by rw [List.countP_cons, List.countP_cons, isInt_count k h]; rfl
theorem lx_count (hl : hp.get? l = some (LO items n)) (hi : IntsAre items ns) (h : ∀ t' tk', Q (.int (ns.countP (· == k)) t') ⟨hp, gs, dr, tk', os⟩) :
    wpAny (model prog w) A (call (.builtin "list.count") [.ref l, .int k t]) Q E ⟨hp, gs, dr, tk, os⟩ := by
  refine call_meets PySem.F.slot_list_count ⟨_, hl, rfl⟩ PySem.F.entry_list_count (PySem.F.args_list_count_2 _ _) (MeetsSeq.list_count l items.toArray n (.int k t) (isInt k) fun y hy => eq_isInt k t hi y (by simpa using hy)) ⟨hl, ?_⟩
  have e : items.toArray.toList.countP (isInt k) = ns.countP (· == k) := isInt_count k hi
  rw [e]
  exact h _ _
theorem isInt_at (k : Int) {vs : List Value} {ns : List Int} (hi : IntsAre vs ns) (j : Nat) (hj : j < vs.toArray.size) : isInt k vs.toArray[j] = (ns.getD j 0 == k) := by
  have hj' : j < ns.length := by have := hi.length; simp at hj; omega
  obtain ⟨t, ht⟩ := hi.get j ns[j] (List.getElem?_eq_getElem hj')
  have e1 : vs.toArray[j] = .int ns[j] t := by
    have : vs[j]? = some vs.toArray[j] := by simp at hj ⊢
    rw [this] at ht; exact Option.some.inj ht
  rw [e1, List.getD_eq_getElem?_getD, List.getElem?_eq_getElem hj']
  rfl
theorem lx_remove (F : Fx b L hp m ((l, LO items n) :: own)) (hi : IntsAre items ns) (hz : ns.length ≤ 1000000) (hh : A.handled = none)
    (h : ∀ j, ns.findIdx? (· == k) = some j → ∀ h' n', Fx b L h' m ((l, LO (items.eraseIdx j) n') :: own) → Q .none ⟨h', gs, dr, tk, os⟩)
    (hn : ns.findIdx? (· == k) = none → ∀ e h' tk', Heap.NewExc hp h' e "ValueError" → E (.ref e) ⟨h', gs, dr, tk', os⟩) :
    wpAny (model prog w) A (call (.builtin "list.remove") [.ref l, .int k t]) Q E ⟨hp, gs, dr, tk, os⟩ := by
  have hlen := hi.length
  have he : ∀ y, y ∈ items.toArray → MeetsSeq.EqGives y (.int k t) (isInt k y) := fun y hy => eq_isInt k t hi y (by simpa using hy)
  cases hf : ns.findIdx? (· == k) with
  | none =>
    have no : ∀ mm (hm : mm < items.toArray.size), isInt k items.toArray[mm] = false := fun mm hm => by
      rw [isInt_at k hi mm hm]
      have := List.findIdx?_eq_none_iff.mp hf
      have hm' : mm < ns.length := by simp at hm; omega
      rw [List.getD_eq_getElem?_getD, List.getElem?_eq_getElem hm']
      exact this _ (List.getElem_mem hm')
    exact call_meets PySem.F.slot_list_remove ⟨_, F.head, rfl⟩ PySem.F.entry_list_remove (PySem.F.args_list_remove_2 _ _) (MeetsSeq.list_remove_none l items.toArray n (.int k t) (isInt k) he no) ⟨F.head, hh, fun h' tk x z => hn hf x h' tk z⟩
  | some j =>
    obtain ⟨hj, h1, h2⟩ := List.findIdx?_eq_some_iff_getElem.mp hf
    have hj' : j < items.toArray.size := by simp; omega
    have hz' : items.toArray.size ≤ sizeLine := by rw [List.size_toArray, sizeLine_eq]; omega
    refine call_meets PySem.F.slot_list_remove ⟨_, F.head, rfl⟩ PySem.F.entry_list_remove (PySem.F.args_list_remove_2 _ _) (MeetsSeq.list_remove l items.toArray n (.int k t) (isInt k) he j hj' ?_ ?_ hz') ⟨F.head, ?_⟩
    · rw [isInt_at k hi j hj', List.getD_eq_getElem?_getD, List.getElem?_eq_getElem hj]; exact h1
    · intro mm hm hlt
      have hm' : mm < ns.length := by omega
      rw [isInt_at k hi mm hm, List.getD_eq_getElem?_getD, List.getElem?_eq_getElem hm']
      simpa using h2 mm hlt
    · have F' := F.upd (Obj.mapSeq fun xs => xs.eraseIdxIfInBounds j)
      refine h j hf _ (n + 1) ?_
      have e : items.toArray.eraseIdxIfInBounds j = (items.eraseIdx j).toArray := by apply Array.ext'; simp
      have e2 : Obj.mapSeq (fun xs => xs.eraseIdxIfInBounds j) (LO items n) = LO (items.eraseIdx j) (n + 1) := by
        show Obj.mk (.type "list") none (.seq (items.toArray.eraseIdxIfInBounds j) (if ((items.toArray.eraseIdxIfInBounds j).size == items.toArray.size) = true then n else n + 1)) #[] = _
        have hs : ((items.toArray.eraseIdxIfInBounds j).size == items.toArray.size) = false := by
          rw [e]
          simp only [List.size_toArray, List.length_eraseIdx, beq_eq_false_iff_ne]
          split <;> omega
        rw [hs, if_neg (by decide), e]
      rw [← e2]
      exact F'
end
namespace Sx
theorem plain_ci : plainId "proto.contains_iter" = true := by decide +kernel
theorem entry_ci : entryFor table "proto.contains_iter" = some Builtin.«proto.contains_iter» := entryFor_of_tree (by kernel_rfl)
set_option maxHeartbeats 2000000 in
theorem ci_loop (I l : Addr) (hne : l ≠ I) (items : List Value) (ns : List Int) (k : Int) (t : Tok) (hi : IntsAre items ns) : ∀ (f i : Nat), i + f = ns.length → Meets (Builtin.«proto.contains_iter» ⟨[.ref I, .int k t], []⟩)
      (fun A R s => A.handled = none ∧ s.heap.IsListIter I l i ∧ s.heap.IsList l items.toArray ∧ ∀ h' tk, (∀ c o, c ≠ I → s.heap.get? c = some o → h'.get? c = some o) → R (.ok (.ret (.bool ((ns.drop i).any (· == k))))) { s with heap := h', toks := tk }) := by
  intro f
  induction f with
  | zero =>
    intro i hf prog w A R s h
    obtain ⟨hh, h1, h2, hq⟩ := h
    have hlen := hi.length
    have W := Walks.list (prog := prog) (w := w) (A := A.in1) hh I l hne items.toArray
    unfold Builtin.«proto.contains_iter»
    show wpAny _ _ (pyNext (.ref I) >>= _) _ _ _
    have hie : i = items.toArray.size := by simp; omega
    refine wpAny_bind (W.done s _ _ (hie ▸ ⟨h1, h2⟩) fun h' tk hk => ?_)
    dsimp only
    with_reducible refine wpAny_bind (wpAny_rule ?_)
    refine wpAny_pure ?_
    have hd : ns.drop i = [] := List.drop_eq_nil_of_le (by omega)
    rw [hd] at hq
    exact hq h' tk fun c o hc e => hk c o (by simpa using hc) e
  | succ f ih =>
    intro i hf prog w A R s h
    obtain ⟨hh, h1, h2, hq⟩ := h
    have hlen := hi.length
    have W := Walks.list (prog := prog) (w := w) (A := A.in1) hh I l hne items.toArray
    unfold Builtin.«proto.contains_iter»
    show wpAny _ _ (pyNext (.ref I) >>= _) _ _ _
    refine wpAny_bind (W.item i s _ _ (by simp; omega) ⟨h1, h2⟩ fun v h' tk hv st hk => ?_)
    dsimp only
    have hil : i < ns.length := by omega
    obtain ⟨u, hu⟩ := hi.get i ns[i] (List.getElem?_eq_getElem hil)
    have hv' : v = .int ns[i] u := by
      have : items[i]? = some v := by simpa using hv
      rw [hu] at this; exact (Option.some.inj this).symm
    subst hv'
    refine wpAny_bind (MeetsSeq.EqGives.int ns[i] k u t prog w _ _ _ _ ?_)
    have hd : ns.drop i = ns[i] :: ns.drop (i + 1) := List.drop_eq_getElem_cons hil
    rw [hd, List.any_cons] at hq
    cases hb : ns[i] == k with
    | true =>
      rw [hb] at hq
      rw [if_pos rfl]
      with_reducible refine wpAny_bind (wpAny_rule ?_)
      refine wpAny_pure ?_
      exact hq h' tk fun c o hc e => hk c o (by simpa using hc) e
    | false =>
      rw [hb] at hq
      rw [if_neg (by decide)]
      refine wpAny_pure ⟨plainId_quiet plain_ci _, codeAny_builtin entry_ci ?_⟩
      rw [Around.under_plainId plain_ci _]
      refine ih (i + 1) (by omega) prog w A R _ ⟨hh, st.1, st.2, fun h'' tk' hk' => ?_⟩
      have := hq h'' tk' fun c o hc e => hk' c o hc (hk c o (by simpa using hc) e)
      simpa using this
end Sx
section
variable {prog : Program} {w : World} {A : Around} {E : Value → Shared → Prop} {hp : Heap} {gs : Array GenState} {dr : Drawn} {tk : Nat} {os : OsState} {b : Heap} {L l : Addr} {m : Str → Option Value} {own : List (Addr × Obj)} {items : List Value} {ns : List Int} {n : Nat} {k : Int} {t : Tok} {Q : Value → Shared → Prop}
theorem lx_iter (hl : hp.get? l = some (LO items n)) (h : ∀ I h', Ext hp h' → hp.get? I = none → h'.IsListIter I l 0 → l ≠ I → Q (.ref I) ⟨h', gs, dr, tk, os⟩) :
    wpAny (model prog w) A (call (.builtin "iter") [.ref l]) Q E ⟨hp, gs, dr, tk, os⟩ := by
  refine call_function_entry (by decide +kernel) (by decide +kernel) kdk_entry_iter (kdk_args_iter _) ?_
  unfold Builtin.«iter»
  refine wpAny_bind (m := someArgs "iter" 1 2 _) (wpAny_of_eq (a := [Value.ref l]) (by first | rfl | kernel_rfl!) ?_)
  show wpAny _ _ (pyIter (.ref l) >>= _) _ _ _
  refine wpAny_bind (wpAny_pyIter_list (isList_of hl) ?_)
  exact wpAny_pure ⟨_, rfl, h _ _ (.of_push _) (none_at_size _) ⟨_, Heap.get?_push_size _ rfl, rfl, rfl⟩ (Nat.ne_of_lt (Heap.lt_size hl))⟩
end
section
variable {prog : Program} {w : World} {A : Around} {E : Value → Shared → Prop} {env : Env}
/-- the first of two names, over pairs, where the test says so -/
structure TestsP (prog : Program) (w : World) (A : Around) (env : Env) (scope : Scope) (cl : List (Str × Addr)) (x y : Str) (c : Expr) (nn : Nat) (Pt : Nat → Array Value → Prop) (pp : Nat → Bool) (hp : Heap) : Prop where
  test : ∀ C i t v h₃ gs dr tk os m₃ E', i < nn → Pt i #[.int i t, v] → h₃.Ns C m₃ → m₃ y = some v → Ext hp h₃ →
    wpAny (model prog w) A (isTrue c (compEnvC scope cl C env) (eval c (compEnvC scope cl C env))) (fun ok s₄ => ok = pp i ∧ ∃ h' tk', s₄ = ⟨h', gs, dr, tk', os⟩ ∧ Ext h₃ h') E' ⟨h₃, gs, dr, tk, os⟩
end
abbrev BmO (id : String) (l : Addr) : Obj := { cls := .type "builtin_function_or_method", data := .fields #[.builtin id, .ref l] }
namespace Sx
theorem bk_index : builtinKind "list.index" = some .method := by first | kernel_rfl | decide +kernel
theorem va_index : Manifest.varargsMethods.contains "list.index" = false := by first | kernel_rfl | decide +kernel
theorem ca2 (a b : Value) : (Manifest.signature? "list.index").map (fun sig => Bind.checkArgs "list.index" { sig with full := s!"{Bind.lastOf "list"}.{Bind.lastOf "list.index"}" } ⟨[a, b], []⟩) = some (pure ()) := by
  rw [signature?_of (id := "list.index") (n := ['x', 'e', 'd', 'n', 'i']) (o := ['t', 's', 'i', 'l']) (by kernel_rfl) PySem.F.owner_list]; kernel_rfl
theorem ca3 (a b c : Value) : (Manifest.signature? "list.index").map (fun sig => Bind.checkArgs "list.index" { sig with full := s!"{Bind.lastOf "list"}.{Bind.lastOf "list.index"}" } ⟨[a, b, c], []⟩) = some (pure ()) := by
  rw [signature?_of (id := "list.index") (n := ['x', 'e', 'd', 'n', 'i']) (o := ['t', 's', 'i', 'l']) (by kernel_rfl) PySem.F.owner_list]; kernel_rfl
theorem ca4 (a b c d : Value) : (Manifest.signature? "list.index").map (fun sig => Bind.checkArgs "list.index" { sig with full := s!"{Bind.lastOf "list"}.{Bind.lastOf "list.index"}" } ⟨[a, b, c, d], []⟩) = some (pure ()) := by
  rw [signature?_of (id := "list.index") (n := ['x', 'e', 'd', 'n', 'i']) (o := ['t', 's', 'i', 'l']) (by kernel_rfl) PySem.F.owner_list]; kernel_rfl
theorem sub_module : isSubtype (.type "list") (.type "module") = pure false := by rw [isSubtype_type]; kernel_rfl
theorem cb {prog : Program} {w : World} {A : Around} {E : Value → Shared → Prop} {s : Shared} {l : Addr} {rest items : List Value} {n : Nat} {Q : Unit → Shared → Prop} (hl : s.heap.get? l = some (LO items n))
    (hc : (Manifest.signature? "list.index").map (fun sig => Bind.checkArgs "list.index" { sig with full := s!"{Bind.lastOf "list"}.{Bind.lastOf "list.index"}" } ⟨.ref l :: rest, []⟩) = some (pure ())) (h : Q () s) :
    wpAny (model prog w) A (checkBoundCall "list.index" ⟨.ref l :: rest, []⟩) Q E s := by
  have hT : s.TypeIs (.ref l) "list" := ⟨_, hl, rfl⟩
  obtain ⟨hp, g, d, tk, os⟩ := s
  unfold checkBoundCall
  cases hs : Manifest.signature? "list.index" with
  | none => exact wpAny_pure h
  | some sig =>
    rw [hs] at hc
    have hc' := Option.some.inj hc
    dsimp only
    rw [bk_index]
    dsimp only
    rw [if_neg (by decide)]
    refine wpAny_bind (wpAny_isInstance hT sub_module ?_)
    rw [va_index, if_neg (by decide)]
    wp_walk using AutoSeq1.wpAny_loadPart' hl
    exact h
theorem lk_index : typeLookup (.type "list") "index" = pure (some (.builtin "list.index")) := by rw [typeLookup_type, builtinLookup_eq_fast]; kernel_rfl
theorem slot_lga : Slot "list" "__getattribute__" "list.__getattribute__" :=
  .of (owner := "list") (n := "__getattribute__") (by rw [typeLookup_type, builtinLookup_eq_fast]; kernel_rfl) (by decide +kernel) (by decide +kernel) (by decide +kernel)
    (by first | exact .inl (by decide +kernel) | exact .inr (by decide +kernel)) (by rw [isSubtype_type]; kernel_rfl)
theorem args_lga (a b : Value) : argsOk "list.__getattribute__" ⟨[a, b], []⟩ := by unfold argsOk; kernel_rfl
theorem entry_lga : entryFor table "list.__getattribute__" = some Builtin.«object.__getattribute__» :=
  entryFor_alias (id' := "object.__getattribute__") (by kernel_rfl) (by first | rfl | decide +kernel) (by decide +kernel) (by kernel_rfl)
theorem lk_mdget : typeLookup (.type "method_descriptor") "__get__" = pure (some (.builtin "method_descriptor.__get__")) := by rw [typeLookup_type, builtinLookup_eq_fast]; kernel_rfl
theorem lk_mdset : typeLookup (.type "method_descriptor") "__set__" = pure none := by rw [typeLookup_type, builtinLookup_eq_fast]; kernel_rfl
theorem lk_mddel : typeLookup (.type "method_descriptor") "__delete__" = pure none := by rw [typeLookup_type, builtinLookup_eq_fast]; kernel_rfl
theorem slot_mdget : Slot "method_descriptor" "__get__" "method_descriptor.__get__" :=
  .of (owner := "method_descriptor") (n := "__get__") (by rw [typeLookup_type, builtinLookup_eq_fast]; kernel_rfl) (by decide +kernel) (by decide +kernel) (by decide +kernel)
    (by first | exact .inl (by decide +kernel) | exact .inr (by decide +kernel)) (by rw [isSubtype_type]; kernel_rfl)
theorem args_mdget (a b c : Value) : argsOk "method_descriptor.__get__" ⟨[a, b, c], []⟩ := by unfold argsOk; kernel_rfl
theorem entry_mdget : entryFor table "method_descriptor.__get__" = some Builtin.«method_descriptor.__get__» := entryFor_of_tree (by kernel_rfl)
theorem sub_list2 : isSubtype (.type "list") (.type (".".intercalate ("list.index".cutAt '.').dropLast)) = pure true := by
  rw [show (".".intercalate ("list.index".cutAt '.').dropLast) = "list" by decide +kernel, isSubtype_type]; kernel_rfl
end Sx
section
variable {prog : Program} {w : World} {A : Around} {E : Value → Shared → Prop} {hp : Heap} {gs : Array GenState} {dr : Drawn} {tk : Nat} {os : OsState} {b : Heap} {L l q : Addr} {m : Str → Option Value} {own : List (Addr × Obj)} {items : List Value} {ns : List Int} {n : Nat} {k : Int} {t : Tok} {Q : Value → Shared → Prop}
set_option maxHeartbeats 2000000 in
theorem ga_index (hl : hp.get? l = some (LO items n)) (hq : ∀ q h' tk', Ext hp h' → h'.get? q = some (BmO "list.index" l) → Q (.ref q) ⟨h', gs, dr, tk', os⟩) : wpAny (model prog w) A (getAttr (.ref l) "index" true) Q E ⟨hp, gs, dr, tk, os⟩ := by
  have hT : (⟨hp, gs, dr, tk + 1, os⟩ : Shared).TypeIs (.ref l) "list" := ⟨_, hl, rfl⟩
  have hT5 : (⟨hp, gs, dr, tk + 1, os⟩ : Shared).TypeIs (.builtin "list.index") "method_descriptor" := PySem.F.type_list_index
  have f2 := Sx.slot_lga.lookup
  have f3 := Sx.slot_lga.bind (.ref l)
  have f4 := Sx.lk_index
  have f5 := PySem.F.type_list_index
  have f6 := Sx.lk_mdget
  have f7 := Sx.lk_mdset
  have f8 := Sx.lk_mddel
  have f9 := Sx.slot_mdget.bind (.builtin "list.index")
  have f10 := Sx.sub_list2
  unfold getAttr
  repeat (any_goals (first | assumption | wp_step))
  refine codeAny_call_builtin Sx.slot_lga.plain Sx.entry_lga (Sx.slot_lga.check _ _ _ _ _ _ _ _ hT (Sx.args_lga _ _) ?_)
  repeat (any_goals (first | assumption | wp_step))
  refine codeAny_call_builtin Sx.slot_mdget.plain Sx.entry_mdget (Sx.slot_mdget.check _ _ _ _ _ _ _ _ hT5 (Sx.args_mdget _ _ _) ?_)
  repeat (any_goals (first | assumption | wp_step))
  exact hq _ _ _ (.of_push _) (Heap.get?_push_size _ rfl)
theorem call_bound {rest : List Value} {id : String} {B : Builtin} {S : PySem.Spec} (hq : hp.get? q = some (BmO id l)) (hl : hp.get? l = some (LO items n)) (hplain : plainId id = true) (entry : entryFor table id = some B)
    (hcb : ∀ (A : Around) (E : Value → Shared → Prop) (Q : Unit → Shared → Prop), Q () ⟨hp, gs, dr, tk, os⟩ → wpAny (model prog w) A (checkBoundCall id ⟨.ref l :: rest, []⟩) Q E ⟨hp, gs, dr, tk, os⟩)
    (g : Meets (B ⟨.ref l :: rest, []⟩) S) (h : S A (wants Q E) ⟨hp, gs, dr, tk, os⟩) : wpAny (model prog w) A (call (.ref q) rest) Q E ⟨hp, gs, dr, tk, os⟩ := by
  refine wpAny_call (codeAny_of_tree ?_)
  show wpAny _ A.in1 (callAny (.ref q) ⟨rest, []⟩) _ _ _
  simp only [callAny]
  refine wpAny_bind (PySem.wpAny_load hq ?_)
  dsimp only
  rw [if_pos (by decide)]
  show wpAny _ A.in1 (do checkBoundCall id ⟨.ref l :: rest, []⟩; again (.builtin id ⟨.ref l :: rest, []⟩)) _ _ _
  refine wpAny_bind (hcb _ _ _ ?_)
  exact wpAny_pure ⟨plainId_quiet hplain _, codeAny_builtin entry (by
    rw [Around.under_plainId hplain _]
    exact g prog w A _ _ h)⟩
end
section
variable {prog : Program} {w : World} {A : Around} {E : Value → Shared → Prop} {hp : Heap} {gs : Array GenState} {dr : Drawn} {tk : Nat} {os : OsState} {s : Shared}
set_option maxHeartbeats 2000000 in
theorem merged_none {f : Value} {x : Sem Value} {Q : Addr → Shared → Prop}
    (h : ∀ h0 d, Ext hp h0 → h0.get? d = some emptyDict → hp.get? d = none → wpAny (model prog w) A x (fun v s₁ => ∃ hp1 tk1 M, v = .ref M ∧ s₁ = ⟨hp1, gs, dr, tk1, os⟩ ∧ Ext h0 hp1 ∧ hp1.get? M = some emptyDict ∧ (M == sysModules) = false ∧ Q d ⟨hp1, gs, dr, tk1, os⟩) E ⟨h0, gs, dr, tk, os⟩) :
    wpAny (model prog w) A (mergedKeywords f [(none, x)]) Q E ⟨hp, gs, dr, tk, os⟩ := by
  unfold mergedKeywords
  refine wpAny_bind (wpAny_alloc ?_)
  refine wpAny_bind (wpAny_holding ?_)
  refine wpAny_bind ?_
  refine wpAny_forIn_list _ (fun rest b s => (rest = [(none, x)] ∧ b = [] ∧ s = ⟨hp.push { cls := .type "dict", data := .dict #[] }, gs, dr, tk, os⟩) ∨ (rest = [] ∧ b = [] ∧ Q hp.objs.size s)) _ ?turn ?fin _ _ (.inl ⟨rfl, rfl, rfl⟩)
  case turn =>
    rintro y rest b s' (⟨e1, rfl, rfl⟩ | ⟨e1, _⟩)
    · cases e1
      dsimp only
      refine wpAny_bind ?_
      rw [if_pos (by rfl)]
      refine wpAny_pure ?_
      refine wpAny_bind (wpAny_mono (h _ _ (.of_push _) (Heap.get?_push_size _ rfl) (none_at_size _)) (fun v s₁ z => ?_) fun _ _ e => e)
      obtain ⟨hp1, tk1, M, rfl, rfl, e1, hM, hs, hQ⟩ := z
      refine wpAny_bind (wpAny_onRaise (wpAny_holding (wpAny_tryCatch (wpAny_onRaise ?_))))
      have hD := e1 _ _ (Heap.get?_push_size hp (o := emptyDict) rfl)
      have hT : (⟨hp1, gs, dr, tk1, os⟩ : Shared).TypeIs (.ref M) "dict" := ⟨_, hM, rfl⟩
      unfold mergeMapping
      refine wpAny_bind (wpAny_isInstance (T := "dict") (b := true) hT (by rw [isSubtype_type]; kernel_rfl) ?_)
      rw [if_pos rfl]
      refine wpAny_bind (wpAny_specialOf hT PySem.F.slot_dict_iter.lookup ?_)
      refine wpAny_bind (wpAny_pure ?_)
      rw [show (some (Value.builtin "dict.__iter__") == some (Value.builtin "dict.__iter__")) = true from beq_self_eq_true _]
      dsimp only
      rw [hs, if_neg (by decide)]
      have hM' : hp1.get? M = some { cls := .type "dict", data := .dict #[] } := hM
      have hD' : hp1.get? hp.objs.size = some { cls := .type "dict", data := .dict #[] } := hD
      wp_walk using PySem.wpAny_dictEntries hM' rfl, PySem.wpAny_dictEntries hD' rfl
      exact .inr ⟨rfl, rfl, hQ⟩
    · cases e1
  case fin =>
    rintro b s' (⟨e1, rfl, rfl⟩ | ⟨_, rfl, hq⟩)
    · cases e1
    · dsimp only
      rw [if_pos (by rfl)]
      exact wpAny_pure (wpAny_pure hq)
set_option maxHeartbeats 2000000 in
theorem keywords_none {f : Value} {d : Addr} {Q : List (Str × Value) → Shared → Prop} (hd : hp.get? d = some emptyDict) (h : Q [] ⟨hp, gs, dr, tk, os⟩) : wpAny (model prog w) A (keywordsIn f d) Q E ⟨hp, gs, dr, tk, os⟩ := by
  have hd' : hp.get? d = some { cls := .type "dict", data := .dict #[] } := hd
  unfold keywordsIn
  refine wpAny_bind (PySem.wpAny_dictEntries hd' rfl ?_)
  refine wpAny_bind ?_
  have e : ∀ (g : DictEntry → List (Str × Value) → Sem (ForInStep (List (Str × Value)))), forIn (#[] : Array DictEntry) ([] : List (Str × Value)) g = pure [] := fun g => by simp
  rw [e]
  exact wpAny_pure (wpAny_pure h)
theorem star_mono {M : Model} {v : Value} {Q Q' : List Value → Shared → Prop} (h : StarOf M A E v Q s) (hm : ∀ a s, Q a s → Q' a s) : StarOf M A E v Q' s := by
  unfold StarOf at h ⊢
  exact wpAny_mono h (fun b s z => ⟨z.1, wpAny_mono z.2 (fun a s y => hm a s y) fun _ _ e => e⟩) fun _ _ e => e
/-- the arguments «a1, *a2, **a3», a3 an empty dict -/
theorem args_sk {f : Value} {x1 x2 x3 : Sem Value} {Q : Args → Shared → Prop}
    (h : wpAny (model prog w) A x1 (fun v1 s₁ => wpAny (model prog w) A x2 (fun v2 s₂ => StarOf (model prog w) A E v2 (fun here s₃ => ∃ hp gs dr tk os, s₃ = ⟨hp, gs, dr, tk, os⟩ ∧
      ∀ h0, Ext hp h0 → wpAny (model prog w) A x3 (fun v3 s₄ => ∃ hp1 tk1 M, v3 = .ref M ∧ s₄ = ⟨hp1, gs, dr, tk1, os⟩ ∧ Ext h0 hp1 ∧ hp1.get? M = some emptyDict ∧ (M == sysModules) = false ∧ Q ⟨v1 :: here, []⟩ ⟨hp1, gs, dr, tk1, os⟩) E ⟨h0, gs, dr, tk, os⟩) s₂) E s₁) E s) {pos : Pos} :
    wpAny (model prog w) A (evalArgs f true [(false, x1), (true, (do let v ← x2; standAt pos; pure v))] [(none, x3)]) Q E s := by
  unfold evalArgs
  show wpAny _ _ (spliced [(false, x1), (true, (do let v ← x2; standAt pos; pure v))] >>= _) _ _ _
  refine wpAny_bind ?_
  rw [spliced]
  refine wpAny_bind (wpAny_mono h (fun v1 s₁ z => ?_) fun _ _ e => e)
  rw [if_neg (by decide)]
  refine wpAny_bind (wpAny_pure ?_)
  refine wpAny_bind (wpAny_holding (ks_spliced (wpAny_mono z (fun v2 s₂ y => ?_) fun _ _ e => e)))
  refine star_mono y fun here s₃ u => ?_
  obtain ⟨hp, gs, dr, tk, os, rfl, hq⟩ := u
  refine wpAny_pure ?_
  refine wpAny_pure ?_
  refine wpAny_bind (wpAny_pure ?_)
  dsimp only
  refine wpAny_holding ?_
  rw [if_neg (by simp)]
  refine wpAny_bind (merged_none fun h0 d e1 hd hn => wpAny_mono (hq h0 e1) (fun v3 s₄ w => ?_) fun _ _ e => e)
  obtain ⟨hp1, tk1, M, rfl, rfl, e2, hM, hs, hQ⟩ := w
  refine ⟨hp1, tk1, M, rfl, rfl, e2, hM, hs, ?_⟩
  refine wpAny_bind (wpAny_pure ?_)
  refine wpAny_bind (wpAny_holding (keywords_none (e2 _ _ hd) (wpAny_pure ?_)))
  rw [List.append_nil]
  exact hQ
end
section
variable {prog : Program} {w : World} {A : Around} {E : Value → Shared → Prop} {hp : Heap} {gs : Array GenState} {dr : Drawn} {tk : Nat} {os : OsState} {s : Shared} {env : Env} {Q : Value → Shared → Prop}
theorem MethodCall_star {o : Expr} {name : Str} {apos pos : Pos} {args : List Expr} {kws : List Keyword}
    (h : wpAny (model prog w) A (eval o env) (fun ov s₁ => wpAny (model prog w) A (getAttr ov name true) (fun f s₂ => wpAny (model prog w) A (callWith pos f [] (backTo pos (starEach args env)) (backToKw pos (keywordEach kws env))) Q E s₂) E s₁) E s)
    (he : eval (.Call (.Attribute o name apos) args kws pos) env = (do
      let ov ← eval o env
      standAt apos.atName
      let (f, first) ← holding [ov] (do pure (← getAttr ov name true, []))
      let callPos ← pure pos
      callWith callPos f first (backTo pos (starEach args env)) (backToKw pos (keywordEach kws env))) := by with_unfolding_all rfl) :
    wpAny (model prog w) A (eval (.Call (.Attribute o name apos) args kws pos) env) Q E s := by
  rw [he]
  refine wpAny_bind (wpAny_mono h (fun ov s₁ h₁ => wpAny_bind (wpAny_standAt (wpAny_bind (wpAny_holding (wpAny_bind (wpAny_mono h₁ (fun f s₂ h₂ => wpAny_pure ?_) fun _ _ x => x)))))) fun _ _ x => x)
  exact wpAny_bind (wpAny_pure h₂)
theorem callWith_bm {q l : Addr} {id : String} {args : List (Bool × Sem Value)} {kws : List (Option Str × Sem Value)} {pos : Pos} (hst : args.any (·.1) = true)
    (h : wpAny (model prog w) A (evalArgs (.ref q) true args kws) (fun a s₁ => s₁.heap.get? q = some (BmO id l) ∧ wpAny (model prog w) A (call (.ref q) a.pos a.kw) Q E s₁) E s) :
    wpAny (model prog w) A (callWith pos (.ref q) [] args kws) Q E s := by
  unfold callWith
  refine wpAny_bind (wpAny_holding (wpAny_mono h (fun a s₁ z => wpAny_bind (wpAny_standAt ?_)) fun _ _ x => x))
  simp only [hst, Bool.true_or, List.nil_append]
  refine wpAny_bind (m := keeperOf (.ref q)) ?_
  unfold keeperOf
  refine wpAny_bind (PySem.wpAny_load z.1 ?_)
  dsimp only
  rw [if_pos (by decide), if_pos (by decide)]
  refine wpAny_pure ?_
  dsimp only
  exact wpAny_bind (wpAny_operating (wpAny_mono z.2 (fun r s₂ hr => wpAny_bind (wpAny_holding (wpAny_point (wpAny_pure hr)))) fun _ _ x => x))
theorem star_tup {T : Addr} {its : List Value} {n : Nat} {Q : List Value → Shared → Prop} (ht : hp.get? T = some (TO its n)) (hz : its.length ≤ 1000000) (h : ∀ h', Ext hp h' → Q its ⟨h', gs, dr, tk, os⟩) : StarOf (model prog w) A E (.ref T) Q ⟨hp, gs, dr, tk, os⟩ := by
  have hT' : (⟨hp, gs, dr, tk, os⟩ : Shared).TypeIs (.ref T) "tuple" := ⟨_, ht, rfl⟩
  have z : wpAny (model prog w) A (collect (.ref T)) Q E ⟨hp, gs, dr, tk, os⟩ := by
    refine wpAny_collect_seq T (.inr rfl) ht rfl rfl (fun h' hk => ?_) (by rw [List.size_toArray, sizeLine_eq]; omega)
    exact h h' hk
  unfold StarOf notIterableAtAll
  exact wpAny_bind (wpAny_specialOf hT' PySem.F.slot_tuple_iter.lookup (wpAny_pure ⟨rfl, z⟩))
end
section
variable {prog : Program} {w : World} {A : Around} {hp : Heap} {gs : Array GenState} {dr : Drawn} {tk : Nat} {os : OsState} {R : Result → Shared → Prop} {name qual : Str} {params : Arguments} {body : List Stmt} {scope : Scope} {cl : List (Str × Addr)} {dV kV doc pm cdv ct : Value} {an : Option Addr} {fo : Obj} {f : Addr} {args : Args}
/-- a call whose binding makes objects -/
theorem call_fxg (P : List (Str × Value) → Heap → Prop) (hroom : A.depth < recursionLimit) (ho : hp.get? f = some fo) (hd : fo.data = .func (fnX name qual params body scope cl dV kV doc pm an cdv ct))
    (hlim : hp.NoLimit) (hcd : hp.CodeRec cdv qual)
    (hbind : ∀ (Q : List (Str × Value) → Shared → Prop) (E : Value → Shared → Prop), (∀ binds h', Ext hp h' → P binds h' → Q binds ⟨h', gs, dr, tk, os⟩) → wpAny (model prog w) A.in1 (bindArgs (fnX name qual params body scope cl dV kV doc pm an cdv ct) args) Q E ⟨hp, gs, dr, tk, os⟩)
    (hloc : ∀ binds h', P binds h' → ∀ y ∈ binds, scope.names.lookup y.1 = some .local)
    (h : ∀ binds h' L' h₁ tk', Ext hp h' → P binds h' → Fx h' L' h₁ (fun y => binds.reverse.lookup y) [] →
      wpAny (model prog w) (A.deeper (envX qual scope L' f cdv cl)) (execs body (envX qual scope L' f cdv cl)) (fun fl s' => R (.ok (.ret (retOf fl))) s')
        (fun e s' => wpAny (model prog w) (A.deeper (envX qual scope L' f cdv cl)) (leaving (envX qual scope L' f cdv cl) e) (fun _ s'' => R (.error e) s'') (fun e' s'' => R (.error e') s'') s')
        ⟨h₁, gs, dr, tk', os⟩)
    (hcell : ∀ x ∈ scope.names, x.2 ≠ .cell) (hco : scope.isCoroutine = false := by with_unfolding_all rfl) (hgen : scope.isGenerator = false := by with_unfolding_all rfl) (hk : scope.kind = .function := by with_unfolding_all rfl) : codeAny (model prog w) A (.call (.ref f) args) R ⟨hp, gs, dr, tk, os⟩ := by
  refine codeAny_call_function hroom ho hd hco hgen rfl hcd (hbind _ _ fun binds h' e p => ?_)
  refine wpAny_newFunctionEnv hcell (hloc binds h' p) (fun h₀ hns₀ hsb₀ => ⟨(hlim.keeps e).fresh _ hsb₀, codeAny_func ?_⟩) hk
  refine wpAny_mono (h binds h' h'.objs.size h₀ _ e p ⟨hns₀, fun b o q => hsb₀.extBut b o (Nat.ne_of_lt (Heap.lt_size q)) (Heap.get?_push_of_some _ q), none_at_size _, (fun _ q => nomatch q), (fun _ q => nomatch q), by simp⟩) (fun fl s' z => ?_) fun _ _ y => y
  cases fl <;> exact z
end
section
variable {prog : Program} {w : World} {A : Around} {E : Value → Shared → Prop} {hp : Heap} {gs : Array GenState} {dr : Drawn} {tk : Nat} {os : OsState} {mg mb : Str → Option Value} {x dx : Addr} {sl : List (Option Value)} {Q : Value → Shared → Prop}
theorem bind_sk {fd : FuncData} {as : Args} {k : Value} {bs : List Value} (e : bindArgs fd as = (newTuple bs >>= fun T => alloc { cls := .type "dict", data := .dict #[] } >>= fun D => pure [(Str.ofString "self", .ref x), (Str.ofString "value", k), (Str.ofString "args", T), (Str.ofString "kwargs", .ref D)])) (hz : bs.length ≤ 10) (Q : List (Str × Value) → Shared → Prop) (E : Value → Shared → Prop)
    (h : ∀ binds h', Ext hp h' → (∃ T D, binds = [(Str.ofString "self", .ref x), (Str.ofString "value", k), (Str.ofString "args", .ref T), (Str.ofString "kwargs", .ref D)] ∧ h'.get? T = some (TO bs 0) ∧ h'.get? D = some emptyDict ∧ hp.objs.size ≤ D) → Q binds ⟨h', gs, dr, tk, os⟩) :
    wpAny (model prog w) A (bindArgs fd as) Q E ⟨hp, gs, dr, tk, os⟩ := by
  rw [e]
  refine wpAny_bind (wpAny_newTuple ?_ (by rw [sizeLine_eq]; omega))
  refine wpAny_bind (wpAny_alloc (wpAny_pure (h _ _ ((Ext.of_push _).push _) ⟨_, _, rfl, ?_, Heap.get?_push_size _ rfl, ?_⟩)))
  · exact Heap.get?_push_of_some _ (Heap.get?_push_size _ rfl)
  · rw [Heap.size_push]; exact Nat.le_succ _
theorem bound_index {q l : Addr} {items bs : List Value} {ns : List Int} {n lo : Nat} {k hi' : Int} {t : Tok} (hB : IxB ns.length bs lo hi') (hq : hp.get? q = some (BmO "list.index" l)) (hl : hp.get? l = some (LO items n)) (hi : IntsAre items ns) (hz : ns.length ≤ 1000000) (hk : k.natAbs < 10 ^ 7) (hh : A.handled = none)
    (h : ∀ j tk', ixI ns k hi' (ns.length + 1) lo = some j → Q (.int j tk) ⟨hp, gs, dr, tk', os⟩) (hn : ixI ns k hi' (ns.length + 1) lo = none → ∀ e h' tk', Heap.NewExc hp h' e "ValueError" → E (.ref e) ⟨h', gs, dr, tk', os⟩) :
    wpAny (model prog w) A (call (.ref q) (.int k t :: bs)) Q E ⟨hp, gs, dr, tk, os⟩ := by
  cases hB with
  | none => exact call_bound hq hl (by decide +kernel) PySem.F.entry_list_index (fun A E Q h => Sx.cb hl (Sx.ca2 _ _) h) (Sx.index_all0 l items ns n k t hi hz hk) ⟨hl, fun j e => h j _ e, fun e => ⟨hh, fun h' tk x z => hn e x h' tk z⟩⟩
  | one b u => exact call_bound hq hl (by decide +kernel) PySem.F.entry_list_index (fun A E Q h => Sx.cb hl (Sx.ca3 _ _ _) h) (Sx.index_all1 l items ns n k b t u hi hz hk) ⟨hl, fun j e => h j _ e, fun e => ⟨hh, fun h' tk x z => hn e x h' tk z⟩⟩
  | two b d u v => exact call_bound hq hl (by decide +kernel) PySem.F.entry_list_index (fun A E Q h => Sx.cb hl (Sx.ca4 _ _ _ _) h) (Sx.index_all2 l items ns n k b d t u v hi hz hk) ⟨hl, fun j e => h j _ e, fun e => ⟨hh, fun h' tk x z => hn e x h' tk z⟩⟩
set_option maxHeartbeats 4000000 in
theorem index_spec {base : Heap} {outer : List Env} {xs bs : List Value} {ns : List Int} {k hi' : Int} {lo : Nat} {t : Tok} (hB : IxB ns.length bs lo hi') (T : Tp (KK w) mg mb hp) (V : VecAt hp x xs) (hi : IntsAre xs ns) (hz : ns.length ≤ 1000) (hk : k.natAbs < 10 ^ 7) (hroom : A.depth < 380) (hh : A.handled = none)
    (hfr : A.frames = some outer) (hb : Ext base hp) (hff : hp.FunFrames base outer)
    (h : ∀ j h' tk' t', ixI ns k hi' (ns.length + 1) lo = some j → Ext hp h' → Q (.int j t') ⟨h', gs, dr, tk', os⟩) (hn : ixI ns k hi' (ns.length + 1) lo = none → ∀ e h' tk', Thrown base hp outer "ValueError" e h' → E (.ref e) ⟨h', gs, dr, tk', os⟩) :
    wpAny (model prog w) A (call (.ref m_index) ([.ref x, .int k t] ++ bs)) Q E ⟨hp, gs, dr, tk, os⟩ := by
  obtain ⟨dx, root, tail, n, toff, t1, t2, t3, hx, hdx, _⟩ := V.len
  have hlen := hi.length
  have hbl : bs.length ≤ 10 := by cases hB <;> simp
  refine wpAny_call ?_
  refine call_fxg (fun binds h' => ∃ T D, binds = [(Str.ofString "self", .ref x), (Str.ofString "value", .int k t), (Str.ofString "args", .ref T), (Str.ofString "kwargs", .ref D)] ∧ h'.get? T = some (TO bs 0) ∧ h'.get? D = some emptyDict ∧ hp.objs.size ≤ D) (by walk_at "room") (T.X _ _ (lk m_index (by kernel_rfl))) (by with_unfolding_all rfl) T.nolimit (codeRec_of T.X (by kernel_rfl)) ?_ ?_ ?_ (by decide +kernel)
  · intro Q E hq
    refine bind_sk ?_ hbl Q E hq
    cases hB <;> kernel_rfl
  · rintro binds h' ⟨T, D, rfl, _⟩ y hy
    simp only [List.mem_cons, List.not_mem_nil, or_false] at hy
    rcases hy with rfl | rfl | rfl | rfl <;> with_unfolding_all rfl
  rintro binds h' L h₁ tk1 e1 ⟨TT, D, rfl, hT, hD, hDn⟩ F
  have T0 := T
  replace T := T.up e1
  replace V := V.up e1
  replace hx := e1 _ _ hx
  replace hdx := e1 _ _ hdx
  have hDs : (D == sysModules) = false := by
    rw [beq_eq_false_iff_ne]
    rintro rfl
    exact absurd (modules_low T0.nolimit) (Nat.not_lt.mpr hDn)
  walk_at "e"; walk_at "e"
  refine MethodCall_star ?_
  walk_at "r"
  refine gm_tolist (T.up F.keep).X (F.keep _ _ hx) (F.keep _ _ hdx) ?_
  refine cw_fn0 T F.keep (by kernel_rfl) ?_
  refine vec_tolist (T.up F.keep) (V.up F.keep) (by omega) (by walk_at "room") hh ?_
  intro l c h2 tk2 e2 hln hl
  replace F := F.gain e2 hln hl
  refine ga_index F.head ?_
  intro q h3 tk3 e3 hq3
  replace F := F.ext e3
  refine callWith_bm (l := l) (id := "list.index") rfl ?_
  refine args_sk ?_
  rw [if_neg (by decide)]
  walk_at "r"
  refine star_tup (F.keep _ _ hT) (by omega) ?_
  intro h4 e4
  refine ⟨_, _, _, _, _, rfl, fun h0 e0 => ?_⟩
  replace F := F.ext (e4.trans e0)
  refine wpAny_bind ?_
  walk_at "r"
  refine wpAny_bind (wpAny_standAt (wpAny_pure ?_))
  refine ⟨_, _, D, rfl, rfl, .rfl', F.keep _ _ hD, hDs, e0 _ _ (e4 _ _ hq3), ?_⟩
  refine bound_index hB (e0 _ _ (e4 _ _ hq3)) F.head hi (by omega) hk hh ?_ ?_
  · intro j tk' e
    walk_at "r"
    exact h j _ _ _ e (e1.trans F.keep)
  · intro e ee h' tk' ne
    exact leave_new F e1 hfr hb hff ne fun h'' th => hn e ee h'' _ th
set_option maxHeartbeats 4000000 in
theorem count_spec {xs : List Value} {ns : List Int} {k : Int} {t : Tok} (T : Tp (KK w) mg mb hp) (V : VecAt hp x xs) (hi : IntsAre xs ns) (hz : ns.length ≤ 1000) (hroom : A.depth < 380) (hh : A.handled = none)
    (h : ∀ h' tk' t', Ext hp h' → Q (.int (ns.countP (· == k)) t') ⟨h', gs, dr, tk', os⟩) : wpAny (model prog w) A (call (.ref m_count) [.ref x, .int k t]) Q E ⟨hp, gs, dr, tk, os⟩ := by
  obtain ⟨dx, root, tail, n, toff, t1, t2, t3, hx, hdx, _⟩ := V.len
  have hlen := hi.length
  refine wpAny_call ?_
  refine call_fx [] (binds := [(Str.ofString "self", .ref x), (Str.ofString "value", .int k t)]) (by walk_at "room") (T.X _ _ (lk m_count (by kernel_rfl))) (by with_unfolding_all rfl) T.nolimit (codeRec_of T.X (by kernel_rfl)) (BindsTo.of_eq (by with_unfolding_all rfl)) (locs (by with_unfolding_all rfl)) (fun _ q => nomatch q) List.nodup_nil ?_ (by decide +kernel)
  intro L h₁ tk F
  have F : Fx hp L h₁ _ [] := F
  walk_at "r"
  refine gm_tolist (T.up F.keep).X (F.keep _ _ hx) (F.keep _ _ hdx) ?_
  refine cw_fn0 T F.keep (by kernel_rfl) ?_
  refine vec_tolist (T.up F.keep) (V.up F.keep) (by omega) (by walk_at "room") hh ?_
  intro D c h' tk' eh hDn hD
  replace F := F.gain eh hDn hD
  refine gm_list F.head PySem.F.slot_list_count (by with_unfolding_all rfl) ?_
  walk_at "r"
  refine lx_count F.head hi ?_
  intro t' tk2
  walk_at "r"
  exact h _ _ _ F.keep
set_option maxHeartbeats 4000000 in
theorem remove_spec {base : Heap} {outer : List Env} {xs : List Value} {ns : List Int} {k : Int} {t : Tok} (T : Tp (KK w) mg mb hp) (V : VecAt hp x xs) (hi : IntsAre xs ns) (hz : ns.length < 1000) (hroom : A.depth < 370) (hh : A.handled = none)
    (hfr : A.frames = some outer) (hb : Ext base hp) (hff : hp.FunFrames base outer)
    (h : ∀ j x' h' tk', ns.findIdx? (· == k) = some j → Ext hp h' → VecAt h' x' (xs.eraseIdx j) → Q (.ref x') ⟨h', gs, dr, tk', os⟩)
    (hn : ns.findIdx? (· == k) = none → ∀ e h' tk', Thrown base hp outer "ValueError" e h' → E (.ref e) ⟨h', gs, dr, tk', os⟩) : wpAny (model prog w) A (call (.ref m_remove) [.ref x, .int k t]) Q E ⟨hp, gs, dr, tk, os⟩ := by
  obtain ⟨dx, root, tail, n, toff, t1, t2, t3, hx, hdx, _⟩ := V.len
  have hlen := hi.length
  refine wpAny_call ?_
  refine call_fx [] (binds := [(Str.ofString "self", .ref x), (Str.ofString "value", .int k t)]) (by walk_at "room") (T.X _ _ (lk m_remove (by kernel_rfl))) (by with_unfolding_all rfl) T.nolimit (codeRec_of T.X (by kernel_rfl)) (BindsTo.of_eq (by with_unfolding_all rfl)) (locs (by with_unfolding_all rfl)) (fun _ q => nomatch q) List.nodup_nil ?_ (by decide +kernel)
  intro L h₁ tk F
  have F : Fx hp L h₁ _ [] := F
  walk_at "r"
  refine gm_tolist (T.up F.keep).X (F.keep _ _ hx) (F.keep _ _ hdx) ?_
  refine cw_fn0 T F.keep (by kernel_rfl) ?_
  refine vec_tolist (T.up F.keep) (V.up F.keep) (by omega) (by walk_at "room") hh ?_
  intro D c h' tk' eh hDn hD
  replace F := F.gain eh hDn hD
  walk_at "r"
  refine gm_list F.head PySem.F.slot_list_remove (by with_unfolding_all rfl) ?_
  walk_at "r"
  refine lx_remove F hi (by omega) hh ?_ ?_
  · intro j hj h2 n2 F
    walk_at "r"
    have VE := empty_vec T.X
    obtain ⟨dx0, _, _, _, _, _, _, _, hx0, hdx0, _⟩ := VE.len
    refine gm_extend (T.up F.keep).X (F.keep _ _ hx0) (F.keep _ _ hdx0) ?_
    refine cw_fn T (by kernel_rfl) ?_
    walk_at "r"
    refine ⟨F.keep, ?_⟩
    refine extend_spec (T.up F.keep) (VE.up F.keep) (.inl ⟨D, _, rfl, F.head⟩) (by have := List.length_eraseIdx_le xs j; simp; omega) (by walk_at "room") hh ?_
    intro x' h3 tk3 e3 V'
    walk_at "r"
    exact h j x' _ _ hj (F.keep.trans e3) (by simpa using V')
  · intro hj e h2 tk2 ne
    exact leave_new F .rfl' hfr hb hff ne fun h'' th => hn hj e h'' _ th
theorem ci_run {I l : Addr} {items : List Value} {ns : List Int} {k : Int} {t : Tok} (hi : IntsAre items ns) (hne : l ≠ I) (hh : A.handled = none) (hI : hp.IsListIter I l 0) (hl : hp.IsList l items.toArray)
    (h : ∀ h' tk', (∀ c o, c ≠ I → hp.get? c = some o → h'.get? c = some o) → Q (.bool (ns.any (· == k))) ⟨h', gs, dr, tk', os⟩) :
    wpAny (model prog w) A (runValue (.builtin "proto.contains_iter" ⟨[.ref I, .int k t], []⟩)) Q E ⟨hp, gs, dr, tk, os⟩ := by
  have z := Sx.ci_loop I l hne items ns k t hi ns.length 0 (by omega) prog w A (fun r s' => match r with | .ok (.ret v) => Q v s' | .ok _ => False | .error e => E e s') ⟨hp, gs, dr, tk, os⟩ ⟨hh, hI, hl, fun h3 tk3 e3 => h h3 tk3 e3⟩
  rw [← Around.under_plainId Sx.plain_ci ⟨[.ref I, .int k t], []⟩] at z
  exact wpAny_runValue (codeAny_builtin Sx.entry_ci z)
theorem fi_contains : findIn (KK w) (.ref aC) "__contains__" = some none := by kernel_rfl
theorem fi_iter : findIn (KK w) (.ref aC) "__iter__" = some (some (.ref m_dunder_iter)) := by kernel_rfl
theorem ty_iter : typeIn (KK w) (.ref m_dunder_iter) = some (.type "function") := by kernel_rfl
set_option maxHeartbeats 4000000 in
theorem iter_spec {xs : List Value} (T : Tp (KK w) mg mb hp) (V : VecAt hp x xs) (hz : xs.length ≤ 1000) (hroom : A.depth < 380) (hh : A.handled = none)
    (h : ∀ I l n h' tk', Ext hp h' → hp.get? I = none → h'.IsListIter I l 0 → h'.get? l = some (LO xs n) → l ≠ I → Q (.ref I) ⟨h', gs, dr, tk', os⟩) : wpAny (model prog w) A (call (.ref m_dunder_iter) [.ref x]) Q E ⟨hp, gs, dr, tk, os⟩ := by
  obtain ⟨dx, root, tail, n, toff, t1, t2, t3, hx, hdx, _⟩ := V.len
  refine wpAny_call ?_
  refine call_fx [] (binds := [(Str.ofString "self", .ref x)]) (by walk_at "room") (T.X _ _ (lk m_dunder_iter (by kernel_rfl))) (by with_unfolding_all rfl) T.nolimit (codeRec_of T.X (by kernel_rfl)) (BindsTo.of_eq (by with_unfolding_all rfl)) (locs (by with_unfolding_all rfl)) (fun _ q => nomatch q) List.nodup_nil ?_ (by decide +kernel)
  intro L h₁ tk F
  have F : Fx hp L h₁ _ [] := F
  walk_at "r"
  refine gm_tolist (T.up F.keep).X (F.keep _ _ hx) (F.keep _ _ hdx) ?_
  refine cw_fn0 T F.keep (by kernel_rfl) ?_
  refine vec_tolist (T.up F.keep) (V.up F.keep) (by omega) (by walk_at "room") hh ?_
  intro D c h' tk' eh hDn hD
  replace F := F.gain eh hDn hD
  walk_at "r"
  refine lx_iter F.head ?_
  intro I h2 e2 hIn hI hne
  walk_at "r"
  exact h I D c _ _ (F.keep.trans e2) (F.keep.none hIn) hI (e2 _ _ F.head) hne
/-- pyIter of a vector: its __iter__, whose answer must be an iterator of a built-in class -/
theorem own_iter {xs : List Value} (T : Tp (KK w) mg mb hp) (V : VecAt hp x xs)
    (h : wpAny (model prog w) A (call (.ref m_dunder_iter) [.ref x]) (fun it s' => ∃ g : Value, typeLookup (.type "list_iterator") (Str.ofString "__next__") = pure (some g) ∧ s'.TypeIs it "list_iterator" ∧ Q it s') E ⟨hp, gs, dr, tk, os⟩) :
    wpAny (model prog w) A (pyIter (.ref x)) Q E ⟨hp, gs, dr, tk, os⟩ := by
  obtain ⟨dx, root, tail, n, toff, t1, t2, t3, hx, hdx, _⟩ := V.len
  have I0 := inst_of hx hdx
  unfold pyIter
  refine wpAny_bind (wpAny_bind (I0.type.here (s := ⟨hp, gs, dr, tk, os⟩) ((looks_findIn T.X fi_iter).here (s := ⟨hp, gs, dr, tk, os⟩) ?_)))
  dsimp only
  have bd : ∀ (E : Value → Shared → Prop) (Q : Value × List Value → Shared → Prop), Q (.ref m_dunder_iter, [.ref x]) ⟨hp, gs, dr, tk, os⟩ → wpAny (model prog w) A (bindSpecial (.ref m_dunder_iter) (.ref x)) Q E ⟨hp, gs, dr, tk, os⟩ := fun E Q hq => (bind_fn T.X _ ty_iter).here (s := ⟨hp, gs, dr, tk, os⟩) hq
  refine wpAny_bind (m := callSpecialIfBoundUnlessNone? (.ref x) (Str.ofString "__iter__") _) ?_
  unfold callSpecialIfBoundUnlessNone? bindSpecialIfBound?
  refine wpAny_holding (wpAny_bind (wpAny_bind (wpAny_bind (I0.type.here (s := ⟨hp, gs, dr, tk, os⟩) ((looks_findIn T.X fi_iter).here (s := ⟨hp, gs, dr, tk, os⟩) ?_)))))
  have fin : wpAny (model prog w) A (call (.ref m_dunder_iter) [.ref x] >>= fun v => pure (some v)) (fun a s' => wpAny (model prog w) A (match a with
      | some it => (do
        let g ← specialOf it (Str.ofString "__next__")
        match g with
        | none => (do
          rule "iter.non-iterator"
          raiseErrorMade "TypeError" (toString "iter() returned non-iterator of type '" ++ toString (← PySem.typeNameOf it) ++ toString "'"))
        | some val => pure it)
      | none => (do
        match ← bindSpecialIfBound? (.ref x) "__getitem__" with
        | none => (do rule "iter.not-iterable"; raiseErrorMade "TypeError" (toString "'" ++ toString (← PySem.typeNameOf (.ref x)) ++ toString "' object is not iterable"))
        | some _ => (do rule "iter.getitem-fallback"; newFields "iterator" [.ref x, ← mkInt 0]))) Q E s') E ⟨hp, gs, dr, tk, os⟩ := by
    refine wpAny_bind (wpAny_mono h (fun it s' z => wpAny_pure ?_) fun _ _ e => e)
    obtain ⟨g, hg, hT, hq⟩ := z
    refine wpAny_bind (wpAny_specialOf (name := Str.ofString "__next__") hT hg ?_)
    exact wpAny_pure hq
  dsimp only
  refine wpAny_bind (wpAny_askSetting (wpAny_ite ?_))
  split
  · refine wpAny_bind (bd _ _ (wpAny_pure ?_))
    dsimp only
    rw [if_neg (by decide)]
    exact fin
  · refine wpAny_tryCatch (wpAny_bind (bd _ _ (wpAny_pure ?_)))
    dsimp only
    rw [if_neg (by decide)]
    exact fin
set_option maxHeartbeats 4000000 in
theorem vec_in {xs : List Value} {ns : List Int} {k : Int} {t : Tok} (T : Tp (KK w) mg mb hp) (V : VecAt hp x xs) (hi : IntsAre xs ns) (hz : ns.length ≤ 1000) (hroom : A.depth < 370) (hh : A.handled = none)
    (h : ∀ h' tk', Ext hp h' → Q (.bool (ns.any (· == k))) ⟨h', gs, dr, tk', os⟩) : wpAny (model prog w) A (compareOp .In (.int k t) (.ref x)) Q E ⟨hp, gs, dr, tk, os⟩ := by
  obtain ⟨dx, root, tail, n, toff, t1, t2, t3, hx, hdx, _⟩ := V.len
  have I0 := inst_of hx hdx
  have hlen := hi.length
  unfold compareOp
  dsimp only
  refine wpAny_bind (m := contains (.ref x) (.int k t)) ?_
  unfold contains
  refine wpAny_holding ?_
  refine wpAny_bind (wpAny_bind (I0.type.here (s := ⟨hp, gs, dr, tk, os⟩) ((looks_findIn T.X fi_contains).here (s := ⟨hp, gs, dr, tk, os⟩) ?_)))
  rw [if_neg (by decide)]
  refine wpAny_bind (m := callSpecialUnlessNone? (.ref x) (Str.ofString "__contains__") [.int k t] _) ?_
  unfold callSpecialUnlessNone?
  refine wpAny_bind (wpAny_bind (I0.type.here (s := ⟨hp, gs, dr, tk, os⟩) ((looks_findIn T.X fi_contains).here (s := ⟨hp, gs, dr, tk, os⟩) ?_)))
  refine wpAny_pure ?_
  refine wpAny_bind (wpAny_rule ?_)
  refine wpAny_bind (wpAny_tryCatch ?_)
  refine own_iter T V ?_
  refine iter_spec T V (by omega) (by omega) hh ?_
  intro I l n2 h2 tk2 e2 hIn hI hl hne
  refine (hI.typeIs : (⟨h2, gs, dr, tk2, os⟩ : Shared).TypeIs (.ref I) "list_iterator") |> fun hTI => ?_
  refine ⟨_, slot_listiter_next.lookup, hTI, ?_⟩
  refine wpAny_bind (ci_run hi hne hh hI (isList_of hl) ?_)
  intro h3 tk3 e3
  refine wpAny_pure (wpAny_pure (h _ _ fun c o q => e3 c o (fun z => ?_) (e2 c o q)))
  rw [z, hIn] at q; cases q
end
/-- where k stands -/
def standsI (ns : List Int) (k : Int) : List Int := ((List.range ns.length).filter fun j => ns.getD j 0 == k).map fun (j : Nat) => (j : Int)
/-- what _law_first gives -/
def firstP (st : List Int) (low high : Int) : Option Int := st.find? fun p => decide (low ≤ p) && decide (p < high)
theorem ixI_range {ns : List Int} {k stop : Int} : ∀ (f i : Nat), ns.length < i + f → ixI ns k stop f i = (List.range' i (ns.length - i)).find? fun (j : Nat) => decide ((j : Int) < stop) && (ns.getD j 0 == k)
  | 0, i, h => by
    rw [show ns.length - i = 0 by omega]
    rfl
  | f + 1, i, h => by
    rw [ixI]
    by_cases hl : i < ns.length
    · rw [show ns.length - i = (ns.length - (i + 1)) + 1 by omega, List.range'_succ, List.find?_cons]
      have hg : ns[i]? = some ns[i] := List.getElem?_eq_getElem hl
      have hd : ns.getD i 0 = ns[i] := by rw [List.getD_eq_getElem?_getD, hg]; rfl
      by_cases hs : (i : Int) < stop
      · rw [if_pos hs, hg]
        dsimp only
        rw [hd, decide_eq_true hs, Bool.true_and]
        cases hb : ns[i] == k with
        | true => rfl
        | false => rw [if_neg (by decide)]; exact ixI_range f (i + 1) (by omega)
      · rw [if_neg hs, decide_eq_false hs, Bool.false_and]
        dsimp only
        symm
        rw [List.find?_eq_none]
        intro j hj
        have := List.mem_range'_1.mp hj
        have : ¬ (j : Int) < stop := by omega
        simp [this]
    · rw [show ns.length - i = 0 by omega]
      have hg : ns[i]? = none := List.getElem?_eq_none (by omega)
      rw [hg]
      simp
theorem find_congr {α : Type} {p q : α → Bool} : ∀ {l : List α}, (∀ a ∈ l, p a = q a) → l.find? p = l.find? q
  | [], _ => rfl
  | a :: l, h => by
    rw [List.find?_cons, List.find?_cons, h a (.head _), find_congr (l := l) fun b hb => h b (.tail _ hb)]
theorem firstP_ix {ns : List Int} {k low high stop : Int} {lo : Nat} (h1 : ∀ j : Nat, j < ns.length → (low ≤ (j : Int) ↔ lo ≤ j)) (h2 : ∀ j : Nat, j < ns.length → ((j : Int) < high ↔ (j : Int) < stop)) :
    firstP (standsI ns k) low high = (ixI ns k stop (ns.length + 1) lo).map fun (j : Nat) => (j : Int) := by
  unfold firstP standsI
  rw [List.find?_map, List.find?_filter, ixI_range _ _ (by omega)]
  congr 1
  have split : List.range ns.length = List.range' 0 (min lo ns.length) ++ List.range' (min lo ns.length) (ns.length - min lo ns.length) := by
    have e := @List.range'_append_1 0 (min lo ns.length) (ns.length - min lo ns.length)
    rw [Nat.zero_add] at e
    rw [List.range_eq_range', e]
    congr 1
    omega
  by_cases hlo : lo ≤ ns.length
  · rw [Nat.min_eq_left hlo] at split
    rw [split, List.find?_append]
    have e1 : ∀ P : Nat → Bool, (∀ j, j < lo → P j = false) → (List.range' 0 lo).find? P = none := fun P hP => by
      rw [List.find?_eq_none]
      intro j hj
      have := List.mem_range'_1.mp hj
      simp [hP j (by omega)]
    rw [e1 _ (fun j hj => ?_), Option.none_or]
    rotate_left
    · have : ¬ low ≤ (j : Int) := fun q => by have := (h1 j (by omega)).mp q; omega
      simp [this]
    refine find_congr fun j hj => ?_
    have hm := List.mem_range'_1.mp hj
    have hl : j < ns.length := by omega
    have a1 : low ≤ (j : Int) := (h1 j hl).mpr (by omega)
    by_cases q : (j : Int) < stop
    · have := (h2 j hl).mpr q
      simp [a1, q, this]
      rfl
    · have : ¬ (j : Int) < high := fun z => q ((h2 j hl).mp z)
      simp [q, this]
  · rw [show ns.length - lo = 0 by omega]
    have : List.range' lo 0 = [] := rfl
    rw [this, List.find?_nil, List.find?_eq_none]
    intro j hj
    have := List.mem_range.mp hj
    have : ¬ low ≤ (j : Int) := fun q => by have := (h1 j (by omega)).mp q; omega
    simp [this]
/-- what low and high _law_first takes for given bounds -/
inductive LowHigh (c : Int) : List Value → Int → Int → Prop
  | none : LowHigh c [] 0 c
  | one (b : Int) (u : Tok) : LowHigh c [.int b u] (if b < 0 then b + c else b) c
  | two (b d : Int) (u v : Tok) : LowHigh c [.int b u, .int d v] (if b < 0 then b + c else b) (if d < 0 then d + c else d)
theorem first_index {ns : List Int} {k low high stop : Int} {lo : Nat} {bs : List Value} (hz : ns.length ≤ 1000000) (hB : IxB ns.length bs lo stop) (hL : LowHigh ns.length bs low high) :
    firstP (standsI ns k) low high = (ixI ns k stop (ns.length + 1) lo).map fun (j : Nat) => (j : Int) := by
  cases hB with
  | none => cases hL; exact firstP_ix (fun j hj => by omega) (fun j hj => by omega)
  | one b u =>
    cases hL
    refine firstP_ix (fun j hj => ?_) (fun j hj => by omega)
    unfold Sx.endI
    split <;> omega
  | two b d u v =>
    cases hL
    refine firstP_ix (fun j hj => ?_) (fun j hj => ?_)
    · unfold Sx.endI
      split <;> omega
    · unfold Sx.endI
      split <;> omega
theorem mul_okA {c a : Int} (ha : -1000000 ≤ c ∧ c ≤ 1000000) : IntMulOk c a := by
  refine IntMulOk.of_left ?_
  unfold Builtin.Int.intBits
  split
  · decide
  · have h1 : c.natAbs ≤ 1000000 := by omega
    have h2 : c.natAbs ≠ 0 := by rename_i q; simpa using q
    have h3 : c.natAbs.log2 < 63 := (Nat.log2_lt h2).mpr (Nat.lt_of_le_of_lt h1 (by decide))
    omega
local macro_rules | `(tactic| walk_at "rif") => `(tactic| repeat ((fail_if_success (with_reducible show wpAny _ _ (execs (Stmt.If _ _ _ _ :: _) _) _ _ _)); walk_at "e"))
section
variable {prog : Program} {w : World} {A : Around} {E : Value → Shared → Prop} {hp : Heap} {gs : Array GenState} {dr : Drawn} {tk : Nat} {os : OsState} {mg mb : Str → Option Value} {x dx : Addr} {sl : List (Option Value)} {Q : Value → Shared → Prop}
theorem x_ifdiv {a c : Int} {t u : Tok} (hc : c ≠ 0) (hs : c.natAbs < 1073741824) (h : Q (.int (a.fdiv c) tk) ⟨hp, gs, dr, tk + 1, os⟩) : wpAny (model prog w) A (inplaceOp .FloorDiv (.int a t) (.int c u)) Q E ⟨hp, gs, dr, tk, os⟩ :=
  ifloordiv_int (s := ⟨hp, gs, dr, tk, os⟩) hc h (.inl (PyProof.noPylong_small hs))
set_option maxHeartbeats 4000000 in
theorem digits_spec {c : Int} {n : Nat} {t1 t2 : Tok} (T : Tp (KK w) mg mb hp) (hn : n ≤ 75) (hroom : A.depth < 800) (hh : A.handled = none)
    (h : ∀ D m ys ns h' tk', Ext hp h' → hp.get? D = none → h'.get? D = some (LO ys m) → IntsAre ys ns → ns.length = n → Q (.ref D) ⟨h', gs, dr, tk', os⟩) : wpAny (model prog w) A (call (.ref g_law_digits) [.int c t1, .int n t2]) Q E ⟨hp, gs, dr, tk, os⟩ := by
  refine wpAny_call ?_
  refine call_fx [] (binds := [(Str.ofString "number", .int c t1), (Str.ofString "width", .int n t2)]) (by walk_at "room") (T.X _ _ (lk g_law_digits (by kernel_rfl))) (by with_unfolding_all rfl) T.nolimit (codeRec_of T.X (by kernel_rfl)) (BindsTo.of_eq (by with_unfolding_all rfl)) (locs (by with_unfolding_all rfl)) (fun _ q => nomatch q) List.nodup_nil ?_ (by decide +kernel)
  intro L h₁ tk F
  replace F : Fx hp L h₁ _ [] := F
  walk_at "r"
  refine nl F ?_
  clear F; intro D h2 F e2
  have hDn : hp.get? D = none := F.out _ (.head _)
  walk_at "r"
  refine wpAny_For ?_
  walk_at "r"
  refine rg1 F ?_
  clear F; intro r h3 tr vr tk3 F e3
  refine for_range (F.swap) F.head (rsmall (by decide) (by omega) (by decide) (by decide)) (n := n) (by rw [rangeSize_one]; split <;> omega) hh (fun i b' m' own' => ∃ c' tc ys ns m r', b' = hp ∧ m' (Str.ofString "number") = some (.int c' tc) ∧ m' (Str.ofString "row") = some (.ref D) ∧ own' = [(D, LO ys m), r'] ∧ IntsAre ys ns ∧ ns.length = i) ⟨c, t1, [], [], 0, _, rfl, by walk_at "look", by walk_at "look", rfl, .nil, rfl⟩ ?_ ?_
  · clear F
    rintro i tv b₁ m₁ own₁ h4 tk4 it E' hi ⟨c', tc, ys, ns, m, r', rfl, mn, mr, rfl, hi2, hl⟩ e4 F
    have hyl := hi2.length
    walk_at "r"
    refine gm_list F.head PySem.F.slot_list_append (by with_unfolding_all rfl) ?_
    walk_at "r"
    refine x_mul (mul_okA (by omega)) ?_
    walk_at "r"
    refine x_mod (by decide) ?_
    walk_at "r"
    refine lc_append F (by omega) ?_
    clear F; intro h5 n5 F
    walk_at "r"
    refine x_ifdiv (by decide) (by decide) ?_
    walk_at "r"
    exact ⟨_, _, b₁, _, [(D, _), r'], rfl, .rfl', F, _, _, _, _, _, r', rfl, by walk_at "look", by walk_at "look", rfl, hi2.append (.cons _ _ .nil), by simp; omega⟩
  · clear F
    rintro h' tk' b' m' own' ⟨c', tc, ys, ns, m, r', rfl, mn, mr, rfl, hi2, hl⟩ e' F
    walk_at "r"
    exact h D m ys ns _ _ F.keep hDn F.head hi2 hl
set_option maxHeartbeats 4000000 in
theorem first_spec {S B : Addr} {ss bs : List Value} {nS nB : Nat} {sts : List Int} {c low high : Int} {tc : Tok} (T : Tp (KK w) mg mb hp) (hS : hp.get? S = some (LO ss nS)) (hss : IntsAre ss sts) (hz : sts.length ≤ 1000) (hBo : hp.get? B = some (LO bs nB)) (hL : LowHigh c bs low high) (hroom : A.depth < 800) (hh : A.handled = none)
    (h : ∀ h' tk' v, Ext hp h' → (firstP sts low high = none → v = .none) → (∀ p, firstP sts low high = some p → ∃ t, v = .int p t) → Q v ⟨h', gs, dr, tk', os⟩) : wpAny (model prog w) A (call (.ref g_law_first) [.ref S, .int c tc, .ref B]) Q E ⟨hp, gs, dr, tk, os⟩ := by
  have hsl := hss.length
  refine wpAny_call ?_
  refine call_fx [] (binds := [(Str.ofString "stands", .ref S), (Str.ofString "count", .int c tc), (Str.ofString "bounds", .ref B)]) (by walk_at "room") (T.X _ _ (lk g_law_first (by kernel_rfl))) (by with_unfolding_all rfl) T.nolimit (codeRec_of T.X (by kernel_rfl)) (BindsTo.of_eq (by with_unfolding_all rfl)) (locs (by with_unfolding_all rfl)) (fun _ q => nomatch q) List.nodup_nil ?_ (by decide +kernel)
  intro L h₁ tk F
  replace F : Fx hp L h₁ _ [] := F
  have hbl : bs.length ≤ 2 := by cases hL <;> simp
  have hA : (bs.length = 0 ∧ low = 0) ∨ (0 < bs.length ∧ ∃ b u, bs[0]? = some (.int b u) ∧ low = if b < 0 then b + c else b) := by
    cases hL with
    | none => exact .inl ⟨rfl, rfl⟩
    | one b u => exact .inr ⟨by simp, b, u, rfl, rfl⟩
    | two b d u v => exact .inr ⟨by simp, b, u, rfl, rfl⟩
  have hB : (bs.length ≤ 1 ∧ high = c) ∨ (1 < bs.length ∧ ∃ b u, bs[1]? = some (.int b u) ∧ high = if b < 0 then b + c else b) := by
    cases hL with
    | none => exact .inl ⟨by simp, rfl⟩
    | one b u => exact .inl ⟨by simp, rfl⟩
    | two b d u v => exact .inr ⟨by simp, d, v, rfl, rfl⟩
  walk_at "rif"
  refine s_cons ?_
  refine wpAny_mono (Q := fun f s' => f = .next ∧ ∃ h' tk' m' tl th, s' = ⟨h', gs, dr, tk', os⟩ ∧ Fx hp L h' m' [] ∧ m' (Str.ofString "low") = some (.int low tl) ∧ m' (Str.ofString "stands") = some (.ref S) ∧ m' (Str.ofString "bounds") = some (.ref B) ∧ m' (Str.ofString "count") = some (.int c tc) ∧ m' (Str.ofString "high") = some (.int c th)) ?_ ?_ fun _ _ z => z
  · refine wpAny_If ?_
    walk_at "r"
    refine lc_len (F.keep _ _ hBo) (by omega) ?_
    intro t3 tk3
    walk_at "r"
    rcases hA with ⟨h0, rfl⟩ | ⟨h0, b, u, hb, rfl⟩
    · rw [if_neg (by simp [h0])]
      walk_at "r"
      exact ⟨rfl, _, _, _, _, _, rfl, F, by walk_at "look", by walk_at "look", by walk_at "look", by walk_at "look", by walk_at "look"⟩
    · rw [if_pos (by simp; omega)]
      walk_at "r"
      refine wpAny_mono (Q := fun v s' => ∃ t tk', s' = ⟨hq, gs, dr, tk', os⟩ ∧ v = .int (if b < 0 then b + c else b) t) ?_ ?_ fun _ _ z => z
      · refine IfExp_ ?_
        walk_at "r"
        refine sub_list (F.keep _ _ hBo) (by decide) (by decide) hb ?_
        walk_at "r"
        split
        · rename_i q
          walk_at "r"
          refine sub_list (F.keep _ _ hBo) (by decide) (by decide) hb ?_
          walk_at "r"
          exact ⟨_, _, rfl, by rw [if_pos (by simpa using q)]⟩
        · rename_i q
          walk_at "r"
          refine sub_list (F.keep _ _ hBo) (by decide) (by decide) hb ?_
          exact ⟨_, _, rfl, by rw [if_neg (by simpa using q)]⟩
      rintro v s' ⟨t4, tk4, rfl, rfl⟩
      walk_at "r"
      exact ⟨rfl, _, _, _, _, _, rfl, F, by walk_at "look", by walk_at "look", by walk_at "look", by walk_at "look", by walk_at "look"⟩
  clear F
  rintro f s' ⟨rfl, h2, tk2, m2, tl, th, rfl, F, g1, g2, g3, g4, g5⟩
  refine nx_next (s_cons ?_)
  refine wpAny_mono (Q := fun f s' => f = .next ∧ ∃ h' tk' m' tl th, s' = ⟨h', gs, dr, tk', os⟩ ∧ Fx hp L h' m' [] ∧ m' (Str.ofString "low") = some (.int low tl) ∧ m' (Str.ofString "stands") = some (.ref S) ∧ m' (Str.ofString "high") = some (.int high th)) ?_ ?_ fun _ _ z => z
  · refine wpAny_If ?_
    walk_at "r"
    refine lc_len (F.keep _ _ hBo) (by omega) ?_
    intro t3 tk3
    walk_at "r"
    rcases hB with ⟨h0, rfl⟩ | ⟨h0, b, u, hb, rfl⟩
    · rw [if_neg (by simp; omega)]
      walk_at "r"
      exact ⟨rfl, _, _, _, _, _, rfl, F, by walk_at "look", by walk_at "look", by walk_at "look"⟩
    · rw [if_pos (by simp; omega)]
      walk_at "r"
      refine wpAny_mono (Q := fun v s' => ∃ t tk', s' = ⟨h2, gs, dr, tk', os⟩ ∧ v = .int (if b < 0 then b + c else b) t) ?_ ?_ fun _ _ z => z
      · refine IfExp_ ?_
        walk_at "r"
        refine sub_list (F.keep _ _ hBo) (by decide) (by decide) hb ?_
        walk_at "r"
        split
        · rename_i q
          walk_at "r"
          refine sub_list (F.keep _ _ hBo) (by decide) (by decide) hb ?_
          walk_at "r"
          exact ⟨_, _, rfl, by rw [if_pos (by simpa using q)]⟩
        · rename_i q
          walk_at "r"
          refine sub_list (F.keep _ _ hBo) (by decide) (by decide) hb ?_
          exact ⟨_, _, rfl, by rw [if_neg (by simpa using q)]⟩
      rintro v s' ⟨t4, tk4, rfl, rfl⟩
      walk_at "r"
      exact ⟨rfl, _, _, _, _, _, rfl, F, by walk_at "look", by walk_at "look", by walk_at "look"⟩
  clear F
  rintro f s' ⟨rfl, h3, tk3, m3, tl3, th3, rfl, F, k1, k2, k3⟩
  refine nx_next (s_cons ?_)
  refine wpAny_For ?_
  walk_at "r"
  refine for_list F hS hh (fun i b' m' own' => b' = hp ∧ own' = [] ∧ m' (Str.ofString "low") = some (.int low tl3) ∧ m' (Str.ofString "high") = some (.int high th3) ∧ firstP (sts.take i) low high = none) ⟨rfl, rfl, k1, k3, rfl⟩ ?_ ?_
  · clear F
    rintro i v b₁ m₁ own₁ h4 tk4 it E' hil hv ⟨rfl, rfl, j1, j3, hno⟩ e4 F
    have hij : i < sts.length := by omega
    obtain ⟨pp, hpp⟩ : ∃ pp, sts[i]? = some pp := ⟨_, List.getElem?_eq_getElem hij⟩
    obtain ⟨u, hu⟩ := hss.get i pp hpp
    have hv' : v = .int pp u := by rw [hu] at hv; exact (Option.some.inj hv).symm
    subst hv'
    have htk : sts.take (i + 1) = sts.take i ++ [pp] := by rw [List.take_add_one, hpp]; rfl
    have e : sts = sts.take i ++ pp :: sts.drop (i + 1) := by
      have z := List.drop_eq_getElem_cons hij
      rw [(List.getElem?_eq_some_iff.mp hpp).2] at z
      rw [← z, List.take_append_drop]
    walk_at "r"
    by_cases q1 : low ≤ pp
    · rw [decide_eq_true q1, if_pos rfl]
      walk_at "r"
      by_cases q2 : pp < high
      · rw [decide_eq_true q2, if_pos rfl]
        walk_at "r"
        have hf : firstP sts low high = some pp := by
          unfold firstP at hno ⊢
          rw [e, List.find?_append, hno, Option.none_or, List.find?_cons]
          simp [q1, q2]
        refine h _ _ _ F.keep (fun z => by rw [hf] at z; cases z) fun p hp => ⟨u, ?_⟩
        rw [hf] at hp
        rw [← Option.some.inj hp]
        rfl
      · rw [decide_eq_false q2, if_neg (by decide)]
        walk_at "r"
        refine ⟨_, _, b₁, _, [], rfl, .rfl', F, rfl, rfl, by walk_at "look", by walk_at "look", ?_⟩
        unfold firstP at hno ⊢
        rw [htk, List.find?_append, hno]
        simp [q2]
    · rw [decide_eq_false q1, if_neg (by decide)]
      rw [if_neg (by decide)]
      walk_at "r"
      refine ⟨_, _, b₁, _, [], rfl, .rfl', F, rfl, rfl, by walk_at "look", by walk_at "look", ?_⟩
      unfold firstP at hno ⊢
      rw [htk, List.find?_append, hno]
      simp [q1]
  · clear F
    rintro h' tk' b' m' own' ⟨rfl, rfl, j1, j3, hno⟩ e' F
    walk_at "r"
    rw [hsl, List.take_length] at hno
    refine h _ _ _ F.keep (fun _ => rfl) fun p hp => ?_
    rw [hno] at hp; cases hp
theorem Fx.weaken {b b' h : Heap} {L : Addr} {m : Str → Option Value} {own : List (Addr × Obj)} (F : Fx b L h m own) (e : Ext b' b) : Fx b' L h m own :=
  ⟨F.ns, e.trans F.keep, e.none F.lout, F.has, fun p hp => e.none (F.out p hp), F.nodup⟩
set_option maxHeartbeats 4000000 in
theorem lindex_spec {base : Heap} {outer : List Env} {B : Addr} {xs bs : List Value} {nB lo : Nat} {ns : List Int} {k hi' : Int} {t : Tok} (T : Tp (KK w) mg mb base) (V : VecAt base x xs) (hi : IntsAre xs ns) (hz : ns.length ≤ 1000) (hk : k.natAbs < 10 ^ 7) (hBo : base.get? B = some (LO bs nB)) (hB : IxB ns.length bs lo hi')
    (hb : Ext base hp) (hfr : A.frames = some outer) (hff : hp.FunFrames base outer) (hroom : A.depth < 370) (hh : A.handled = none)
    (h : ∀ h' tk' v, Ext base h' → hp.UpToSlots h' → (ixI ns k hi' (ns.length + 1) lo = none → v = .none) → (∀ j, ixI ns k hi' (ns.length + 1) lo = some j → ∃ t, v = .int j t) → Q v ⟨h', gs, dr, tk', os⟩) :
    wpAny (model prog w) A (call (.ref g_law_index) [.ref x, .int k t, .ref B]) Q E ⟨hp, gs, dr, tk, os⟩ := by
  have T0 := T.up hb
  have hbl : bs.length ≤ 2 := by cases hB <;> simp
  obtain ⟨dx, root, tail, nn, toff, t1, t2, t3, hx, hdx, _⟩ := V.len
  refine wpAny_call ?_
  refine call_fx [] (binds := [(Str.ofString "vector", .ref x), (Str.ofString "value", .int k t), (Str.ofString "bounds", .ref B)]) (by walk_at "room") (T0.X _ _ (lk g_law_index (by kernel_rfl))) (by with_unfolding_all rfl) T0.nolimit (codeRec_of T0.X (by kernel_rfl)) (BindsTo.of_eq (by with_unfolding_all rfl)) (locs (by with_unfolding_all rfl)) (fun _ q => nomatch q) List.nodup_nil ?_ (by decide +kernel)
  intro L h₁ tk F
  replace F : Fx hp L h₁ _ [] := F
  have e1 : Ext hp h₁ := F.keep
  replace F := F.weaken hb
  have done : ∀ (hc : Heap) (tk' : Nat) (v : Value), Ext base hc → hp.UpToSlots hc → (ixI ns k hi' (ns.length + 1) lo = none → v = .none) → (∀ j, ixI ns k hi' (ns.length + 1) lo = some j → ∃ t, v = .int j t) → Q v ⟨hc, gs, dr, tk', os⟩ := fun hc tk' v => h hc tk' v
  refine s_cons ?_
  refine wpAny_Try_except ?_
  cases hB with
  | none =>
    walk_at "r"
    refine lc_len (F.keep _ _ hBo) (by simp) ?_
    intro t4 tk4
    walk_at "r"
    rw [if_pos (by simp)]
    walk_at "r"
    refine gm_index (T.up F.keep).X (F.keep _ _ hx) (F.keep _ _ hdx) ?_
    refine cw_fn T (by kernel_rfl) ?_
    walk_at "r"
    refine ⟨F.keep, ?_⟩
    refine index_spec (base := base) (outer := envX _ _ _ _ _ _ :: outer) (bs := []) .none (T.up F.keep) (V.up F.keep) hi hz hk (by walk_at "room") hh (Around.frames_deeper hfr) F.keep (frames_of F (by with_unfolding_all decide) F.lout (hff.of_keeps fun c o hc _ => ⟨o, e1 c o hc, rfl⟩)) ?_ ?_
    · intro j h' tk' t' hj e'
      walk_at "r"
      refine done _ _ _ (F.keep.trans e') ((Heap.UpToSlots.of_keeps (e1.trans e'))) (fun z => by rw [hj] at z; cases z) fun p hp => ?_
      rw [hj] at hp
      rw [← Option.some.inj hp]
      exact ⟨_, rfl⟩
    · intro hj e h' tk' thr
      refine caught F T .rfl' (fun _ q => nomatch q) (Around.frames_deeper hfr) thr (by kernel_rfl) (by kernel_rfl) (by decide) Rz.ve1 Rz.ve2 Rz.ve3 ?_
      intro h'' tk'' E'' F2 ek u _
      replace F := F2
      walk_at "r"
      exact done _ _ _ ek ((Heap.UpToSlots.of_keeps e1).trans u) (fun _ => rfl) fun p hp => by rw [hj] at hp; cases hp
  | one b u =>
    walk_at "r"
    refine lc_len (F.keep _ _ hBo) (by simp) ?_
    intro t4 tk4
    walk_at "r"
    rw [if_neg (by simp)]
    walk_at "r"
    refine lc_len (F.keep _ _ hBo) (by simp) ?_
    intro t5 tk5
    walk_at "r"
    rw [if_pos (by simp)]
    walk_at "r"
    refine gm_index (T.up F.keep).X (F.keep _ _ hx) (F.keep _ _ hdx) ?_
    refine cw_fn T (by kernel_rfl) ?_
    walk_at "r"
    refine sub_list (F.keep _ _ hBo) (by decide) (by decide) rfl ?_
    walk_at "r"
    refine ⟨F.keep, ?_⟩
    refine index_spec (base := base) (outer := envX _ _ _ _ _ _ :: outer) (bs := [.int b u]) (.one b u) (T.up F.keep) (V.up F.keep) hi hz hk (by walk_at "room") hh (Around.frames_deeper hfr) F.keep (frames_of F (by with_unfolding_all decide) F.lout (hff.of_keeps fun c o hc _ => ⟨o, e1 c o hc, rfl⟩)) ?_ ?_
    · intro j h' tk' t' hj e'
      walk_at "r"
      refine done _ _ _ (F.keep.trans e') ((Heap.UpToSlots.of_keeps (e1.trans e'))) (fun z => by rw [hj] at z; cases z) fun p hp => ?_
      rw [hj] at hp
      rw [← Option.some.inj hp]
      exact ⟨_, rfl⟩
    · intro hj e h' tk' thr
      refine caught F T .rfl' (fun _ q => nomatch q) (Around.frames_deeper hfr) thr (by kernel_rfl) (by kernel_rfl) (by decide) Rz.ve1 Rz.ve2 Rz.ve3 ?_
      intro h'' tk'' E'' F2 ek u2 _
      replace F := F2
      walk_at "r"
      exact done _ _ _ ek ((Heap.UpToSlots.of_keeps e1).trans u2) (fun _ => rfl) fun p hp => by rw [hj] at hp; cases hp
  | two b d u v =>
    walk_at "r"
    refine lc_len (F.keep _ _ hBo) (by simp) ?_
    intro t4 tk4
    walk_at "r"
    rw [if_neg (by simp)]
    walk_at "r"
    refine lc_len (F.keep _ _ hBo) (by simp) ?_
    intro t5 tk5
    walk_at "r"
    rw [if_neg (by simp)]
    walk_at "r"
    refine gm_index (T.up F.keep).X (F.keep _ _ hx) (F.keep _ _ hdx) ?_
    refine cw_fn T (by kernel_rfl) ?_
    walk_at "r"
    refine sub_list (F.keep _ _ hBo) (by decide) (by decide) rfl ?_
    walk_at "r"
    refine sub_list (F.keep _ _ hBo) (by decide) (by decide) rfl ?_
    walk_at "r"
    refine ⟨F.keep, ?_⟩
    refine index_spec (base := base) (outer := envX _ _ _ _ _ _ :: outer) (bs := [.int b u, .int d v]) (.two b d u v) (T.up F.keep) (V.up F.keep) hi hz hk (by walk_at "room") hh (Around.frames_deeper hfr) F.keep (frames_of F (by with_unfolding_all decide) F.lout (hff.of_keeps fun c o hc _ => ⟨o, e1 c o hc, rfl⟩)) ?_ ?_
    · intro j h' tk' t' hj e'
      walk_at "r"
      refine done _ _ _ (F.keep.trans e') ((Heap.UpToSlots.of_keeps (e1.trans e'))) (fun z => by rw [hj] at z; cases z) fun p hp => ?_
      rw [hj] at hp
      rw [← Option.some.inj hp]
      exact ⟨_, rfl⟩
    · intro hj e h' tk' thr
      refine caught F T .rfl' (fun _ q => nomatch q) (Around.frames_deeper hfr) thr (by kernel_rfl) (by kernel_rfl) (by decide) Rz.ve1 Rz.ve2 Rz.ve3 ?_
      intro h'' tk'' E'' F2 ek u2 _
      replace F := F2
      walk_at "r"
      exact done _ _ _ ek ((Heap.UpToSlots.of_keeps e1).trans u2) (fun _ => rfl) fun p hp => by rw [hj] at hp; cases hp
end
section
variable {prog : Program} {w : World} {A : Around} {R : Result → Shared → Prop} {hp : Heap} {gs : Array GenState} {dr : Drawn} {tk₀ : Nat} {os : OsState}
/-- a turn over pairs that fill two cells has come to its end -/
def PairEnd (gs : Array GenState) (dr : Drawn) (os : OsState) (L cx cy : Addr) (ox oy : Obj) (own it : List (Addr × Obj)) (b : Heap) (Inv : (Str → Option Value) → Prop) (s' : Shared) : Prop :=
  ∃ h tk m vx vy, s' = ⟨h, gs, dr, tk, os⟩ ∧ Fx b L h m ((cx, CX ox vx) :: (cy, CX oy vy) :: (own ++ it)) ∧ Inv m
def PairTurned (gs : Array GenState) (dr : Drawn) (os : OsState) (L cx cy : Addr) (ox oy : Obj) (own it : List (Addr × Obj)) (b : Heap) (Inv : (Str → Option Value) → Prop) (Q : Flow → Shared → Prop) : Flow → Shared → Prop
  | .next, s' | .cont, s' => PairEnd gs dr os L cx cy ox oy own it b Inv s'
  | .brk, s' => Q .next s'
  | .ret v, s' => Q (.ret v) s'
set_option maxHeartbeats 1000000 in
theorem loop_pairs {x y : Str} {px py pt : Pos} {kk : Nat} {body : List Stmt} {b : Heap} {L a cx cy : Addr} {ox oy : Obj} {vx vy : Option Value} {m : Str → Option Value} {own : List (Addr × Obj)} {cn : Str} {cs : Scope} {ccd : Value} {cl : List (Str × Addr)}
    {I : Addr} {fp wr tr : List Addr} {n : Nat} {Pt : Nat → Array Value → Prop} {St : Nat → Heap → Prop} {Mid : Nat → Addr → Heap → Prop} (W : WalksT prog w A I fp wr n Pt St Mid) (hst : St 0 hp) (F : Fx b L hp m ((cx, CX ox vx) :: (cy, CX oy vy) :: own)) (hh : A.handled = none)
    (hpt : ∀ i vals, Pt i vals → ∃ v1 v2, vals = #[v1, v2])
    (hsub : ∀ a ∈ wr, a ∈ tr) (hfp : ∀ a ∈ fp, a ∉ tr → ∃ o, b.get? a = some o) (hwr : ∀ a ∈ tr, b.get? a = none ∧ a ≠ L ∧ a ≠ cx ∧ a ≠ cy ∧ ∀ p ∈ own, p.1 ≠ a) (hnd : tr.Nodup) (hex : ∀ i h, St i h → ∀ a ∈ tr, ∃ o, h.get? a = some o)
    (Inv : Nat → (Str → Option Value) → Prop) (h0 : Inv 0 m)
    (step : ∀ i v1 v2 m₁ h₁ tk₁ it E', i < n → Pt i #[v1, v2] → Inv i m₁ → Fx b L h₁ m₁ ((cx, CX ox (some v1)) :: (cy, CX oy (some v2)) :: (own ++ it)) →
      wpAny (model prog w) A (execs body (envX cn cs L a ccd cl)) (PairTurned gs dr os L cx cy ox oy own it b (Inv (i + 1)) fun f s' => R (.ok f) s') E' ⟨h₁, gs, dr, tk₁, os⟩)
    (fin : ∀ h' tk m' vx' vy', Inv n m' → Fx b L h' m' ((cx, CX ox vx') :: (cy, CX oy vy') :: own) → R (.ok .next) ⟨h', gs, dr, tk, os⟩) (hcx : cl.lookup x = some cx) (hcy : cl.lookup y = some cy)
    (hk : cs.kind = .function := by with_unfolding_all rfl) (hx : (envX cn cs L a ccd cl).kindOf x = some .cell := by with_unfolding_all rfl) (hy : (envX cn cs L a ccd cl).kindOf y = some .cell := by with_unfolding_all rfl) :
    codeAny (model prog w) A (.forLoop (.Tuple [.Name x px, .Name y py] kk pt) (.ref I) body [] (envX cn cs L a ccd cl)) R ⟨hp, gs, dr, tk₀, os⟩ := by
  have he : assignEach [Expr.Name x px, Expr.Name y py] (envX cn cs L a ccd cl) = [(false, assign (.Name x px) (envX cn cs L a ccd cl)), (false, assign (.Name y py) (envX cn cs L a ccd cl))] := by with_unfolding_all rfl
  refine codeAny_forLoop_any (fun k s' => ∃ h' tk m' vx' vy' i, s' = ⟨h', gs, dr, tk, os⟩ ∧ k = n + 1 - i ∧ i ≤ n ∧ St i h' ∧ Fx b L h' m' ((cx, CX ox vx') :: (cy, CX oy vy') :: own) ∧ Inv i m') ?_ (n + 1)
    ⟨hp, tk₀, m, vx, vy, 0, rfl, rfl, Nat.zero_le _, hst, F, h0⟩
  rintro k s' ⟨h, tk, m', vx', vy', i, rfl, rfl, hi, st, F', inv⟩
  have offw : ∀ {vx' vy' : Option Value}, ∀ c ∈ tr, ∀ p ∈ ((cx, CX ox vx') :: (cy, CX oy vy') :: own), p.1 ≠ c := fun {vx' vy'} c hc p hp => by
    rcases List.mem_cons.mp hp with rfl | hp
    · exact fun q => (hwr c hc).2.2.1 q.symm
    · rcases List.mem_cons.mp hp with rfl | hp
      · exact fun q => (hwr c hc).2.2.2.1 q.symm
      · exact (hwr c hc).2.2.2.2 p hp
  have keepF : ∀ {h₁ : Heap}, (∀ c o, c ∉ wr → h.get? c = some o → h₁.get? c = some o) → Fx b L h₁ m' ((cx, CX ox vx') :: (cy, CX oy vy') :: own) := fun {h₁} hk₁ => by
    obtain ⟨oL, es, ep, gL, r⟩ := F'.ns
    refine ⟨⟨oL, es, ep, hk₁ _ _ (fun q => (hwr _ (hsub _ q)).2.1 rfl) gL, r⟩, fun c o e => hk₁ c o (fun q => by rw [(hwr _ (hsub _ q)).1] at e; cases e) (F'.keep c o e), F'.lout, fun p hp => hk₁ _ _ (fun q => offw _ (hsub _ q) p hp rfl) (F'.has p hp), F'.out, F'.nodup⟩
  by_cases hlt : i < n
  · refine W.item i _ _ _ hlt st fun T vals h₁ tk₁ hv hT hIT mid hk₁ => ?_
    obtain ⟨v1, v2, rfl⟩ := hpt i vals hv
    dsimp only
    refine W.go _ _ _ i T ⟨h₁, gs, dr, tk₁, os⟩ _ _ mid fun h₂ st₂ hk₂ => ?_
    have F₂ := keepF (h₁ := h₂) fun c o hc e => hk₂ c o hc (hk₁ c o hc e)
    have hIT₂ : h₂.IsTuple T #[v1, v2] := by
      obtain ⟨o, ho, r⟩ := hIT
      exact ⟨o, hk₂ T o (W.apart _ _ _ mid) ho, r⟩
    refine wpAny_assign_Tuple (items := #[v1, v2]) hh hIT₂ (by rw [he]; rfl) (by rw [he]; rfl) fun h₃ e₃ => ?_
    have ex : Ext h₂ h₃ := fun c oc q => e₃ c oc (Nat.ne_of_lt (Heap.lt_size q)) q
    have F₃ := F₂.ext ex
    have st₃ : St (i + 1) h₃ := W.frame _ _ _ st₂ fun c _ o e => ex c o e
    have hobj : ∀ c ∈ tr, ∃ o, h₃.get? c = some o := hex _ _ st₃
    let it : List (Addr × Obj) := tr.map fun c => (c, (h₃.get? c).getD default)
    have hit : ∀ p ∈ it, p.1 ∈ tr ∧ h₃.get? p.1 = some p.2 := fun p hp => by
      obtain ⟨c, hc, rfl⟩ := List.mem_map.mp hp
      obtain ⟨o, ho⟩ := hobj c hc
      refine ⟨hc, ?_⟩
      show h₃.get? c = some ((h₃.get? c).getD default)
      rw [ho]; rfl
    have hitm : it.map (·.1) = tr := by simp [it, List.map_map, Function.comp_def]
    have F₃' : Fx b L h₃ m' ((cx, CX ox vx') :: (cy, CX oy vy') :: (own ++ it)) := by
      show Fx b L h₃ m' (((cx, CX ox vx') :: (cy, CX oy vy') :: own) ++ it)
      refine ⟨F₃.ns, F₃.keep, F₃.lout, fun p hp => ?_, fun p hp => ?_, ?_⟩
      · rcases List.mem_append.mp hp with hp | hp
        · exact F₃.has p hp
        · exact (hit p hp).2
      · rcases List.mem_append.mp hp with hp | hp
        · exact F₃.out p hp
        · exact (hwr _ (hit p hp).1).1
      · rw [List.map_append, hitm, ← List.cons_append]
        refine List.nodup_append.mpr ⟨F₃.nodup, hnd, fun c hc d hd => ?_⟩
        rintro rfl
        rcases List.mem_cons.mp hc with rfl | hc
        · exact (hwr _ hd).2.1 rfl
        · obtain ⟨p, hp, q⟩ := List.mem_map.mp hc
          exact offw _ hd p hp q
    rw [he]
    show wpAny _ _ (holding [v2] (assign (.Name x px) (envX cn cs L a ccd cl) v1) >>= fun _ => holding [] (assign (.Name y py) (envX cn cs L a ccd cl) v2) >>= fun _ => pure ()) _ _ _
    refine wpAny_bind (wpAny_holding (wpAny_assign_Name (st_cx F₃' hcx (fun h₄ F₄ => ?_) hk hx)))
    refine wpAny_bind (wpAny_holding (wpAny_assign_Name (st_cx F₄.swap hcy (fun h₅ F₅ => ?_) hk hy)))
    refine wpAny_pure ?_
    refine wpAny_mono (step i v1 v2 m' h₅ _ it _ hlt hv inv F₅.swap) (fun f s₃ z => ?_) fun _ _ z => z
    have go : PairEnd gs dr os L cx cy ox oy own it b (Inv (i + 1)) s₃ → ∃ k, k < n + 1 - i ∧ ∃ h' tk m' vx' vy' j, s₃ = ⟨h', gs, dr, tk, os⟩ ∧ k = n + 1 - j ∧ j ≤ n ∧ St j h' ∧ Fx b L h' m' ((cx, CX ox vx') :: (cy, CX oy vy') :: own) ∧ Inv j m' := by
      rintro ⟨h₆, tk₆, m₆, vx₆, vy₆, rfl, F₆, inv₆⟩
      replace F₆ : Fx b L h₆ m₆ (((cx, CX ox vx₆) :: (cy, CX oy vy₆) :: own) ++ it) := F₆
      have hasit : ∀ p ∈ it, h₆.get? p.1 = some p.2 := fun p hp => F₆.has p (List.mem_append_right _ hp)
      have hi0 : ∀ c ∈ tr, ∃ o, (c, o) ∈ it := fun c hc => ⟨_, List.mem_map_of_mem hc⟩
      refine ⟨n + 1 - (i + 1), by omega, h₆, tk₆, m₆, vx₆, vy₆, i + 1, rfl, rfl, hlt, ?_, ?_, inv₆⟩
      · refine W.frame _ _ _ st₃ fun c hc o e => ?_
        by_cases hcw : c ∈ tr
        · obtain ⟨oc, hoc⟩ := hi0 c hcw
          have := (hit _ hoc).2
          dsimp only at this
          rw [e] at this
          have := Option.some.inj this
          rw [this]
          exact hasit _ hoc
        · obtain ⟨obj, hob⟩ := hfp c hc hcw
          have e1 := F₃.keep c obj hob
          rw [e] at e1
          rw [Option.some.inj e1]
          exact F₆.keep c obj hob
      · refine ⟨F₆.ns, F₆.keep, F₆.lout, fun p hp => F₆.has p (List.mem_append_left _ hp), fun p hp => F₆.out p (List.mem_append_left _ hp), ?_⟩
        have nd := F₆.nodup
        rw [List.map_append, ← List.cons_append] at nd
        exact (List.nodup_append.mp nd).1
    cases f with
    | next => exact go z
    | cont => exact go z
    | brk => exact z
    | ret v => exact z
  · have : i = n := by omega
    subst this
    refine W.done _ _ _ st fun h₁ tk₁ hk₁ => ?_
    dsimp only
    exact wpAny_execs_nil (fin h₁ tk₁ m' vx' vy' inv (keepF hk₁))
/-- a for over zip of two lists that the base holds, into two cells -/
theorem for_zip {x y : Str} {px py pt : Pos} {kk : Nat} {body : List Stmt} {b : Heap} {L a l1 l2 cx cy : Addr} {ox oy : Obj} {vx vy : Option Value} {m : Str → Option Value} {own : List (Addr × Obj)} {cn : Str} {cs : Scope} {ccd : Value} {cl : List (Str × Addr)} {xs ys : List Value} {n1 n2 : Nat} {E : Value → Shared → Prop}
    (F : Fx b L hp m ((cx, CX ox vx) :: (cy, CX oy vy) :: own)) (hl1 : b.get? l1 = some (LO xs n1)) (hl2 : b.get? l2 = some (LO ys n2)) (hlen : xs.length = ys.length) (hh : A.handled = none)
    (Inv : Nat → (Str → Option Value) → Prop) (h0 : Inv 0 m)
    (step : ∀ i v1 v2 m₁ h₁ tk₁ it E', i < xs.length → xs[i]? = some v1 → ys[i]? = some v2 → Inv i m₁ → Fx b L h₁ m₁ ((cx, CX ox (some v1)) :: (cy, CX oy (some v2)) :: (own ++ it)) →
      wpAny (model prog w) A (execs body (envX cn cs L a ccd cl)) (PairTurned gs dr os L cx cy ox oy own it b (Inv (i + 1)) fun f s' => R (.ok f) s') E' ⟨h₁, gs, dr, tk₁, os⟩)
    (fin : ∀ h' tk m' vx' vy', Inv xs.length m' → Fx b L h' m' ((cx, CX ox vx') :: (cy, CX oy vy') :: own) → R (.ok .next) ⟨h', gs, dr, tk, os⟩) (hcx : cl.lookup x = some cx) (hcy : cl.lookup y = some cy)
    (hk : cs.kind = .function := by with_unfolding_all rfl) (hx : (envX cn cs L a ccd cl).kindOf x = some .cell := by with_unfolding_all rfl) (hy : (envX cn cs L a ccd cl).kindOf y = some .cell := by with_unfolding_all rfl) :
    wpAny (model prog w) A (call (.type "zip") [.ref l1, .ref l2]) (fun e s₁ => wpAny (model prog w) A (pyIter e) (fun it s₂ => codeAny (model prog w) A (.forLoop (.Tuple [.Name x px, .Name y py] kk pt) it body [] (envX cn cs L a ccd cl)) R s₂) E s₁) E ⟨hp, gs, dr, tk₀, os⟩ := by
  have hl1' := F.keep _ _ hl1
  have hl2' := F.keep _ _ hl2
  refine call_zip_2 (isList_of hl1') (isList_of hl2') ?_
  intro h1 hz hTI hTO hi1 hi2 hsz hk1
  have fr := F.fresh
  have above : ∀ k : Nat, b.get? (hp.objs.size + k) = none ∧ hp.objs.size + k ≠ L ∧ hp.objs.size + k ≠ cx ∧ hp.objs.size + k ≠ cy ∧ ∀ p ∈ own, p.1 ≠ hp.objs.size + k := fun k => by
    have hb : b.get? (hp.objs.size + k) = none := by
      cases q : b.get? (hp.objs.size + k) with
      | none => rfl
      | some o => exact absurd (Heap.lt_size (F.keep _ _ q)) (Nat.not_lt.mpr (Nat.le_add_right _ _))
    have hL := F.ns.lt
    have hcx' := Heap.lt_size F.head
    have hcy' := Heap.lt_size F.head2
    refine ⟨hb, fun q => ?_, fun q => ?_, fun q => ?_, fun p hp q => ?_⟩
    · rw [← q] at hL; exact absurd hL (Nat.not_lt.mpr (Nat.le_add_right _ _))
    · rw [← q] at hcx'; exact absurd hcx' (Nat.not_lt.mpr (Nat.le_add_right _ _))
    · rw [← q] at hcy'; exact absurd hcy' (Nat.not_lt.mpr (Nat.le_add_right _ _))
    · have := Heap.lt_size (F.drop.drop.has p hp)
      rw [q] at this; exact absurd this (Nat.not_lt.mpr (Nat.le_add_right _ _))
  have lt1 : l1 < hp.objs.size := Heap.lt_size hl1'
  have lt2 : l2 < hp.objs.size := Heap.lt_size hl2'
  have D : ZipApart (hp.objs.size + 4) (hp.objs.size + 2) (hp.objs.size + 3) hp.objs.size (hp.objs.size + 1) l1 l2 := by
    constructor <;> (intro q; revert q lt1 lt2; generalize hp.objs.size = s; intro lt1 lt2 q; simp only [Addr] at *; omega)
  have W := WalksT.zip2 (prog := prog) (w := w) hh _ _ _ _ _ _ _ D xs.toArray ys.toArray
  have hmin : min xs.toArray.size ys.toArray.size = xs.length := by simp; omega
  rw [hmin] at W
  have st0 : IsZip h1 (hp.objs.size + 4) (hp.objs.size + 2) (hp.objs.size + 3) .none ∧ IsPair h1 (hp.objs.size + 2) (.ref hp.objs.size) (.ref (hp.objs.size + 1)) ∧ (∃ a b, IsPair h1 (hp.objs.size + 3) a b) ∧ h1.IsListIter hp.objs.size l1 0 ∧ h1.IsListIter (hp.objs.size + 1) l2 0 ∧ h1.IsList l1 xs.toArray ∧ h1.IsList l2 ys.toArray :=
    ⟨hz, hTI, ⟨_, _, hTO⟩, hi1, hi2, isList_of (hk1 _ _ hl1'), isList_of (hk1 _ _ hl2')⟩
  refine W.self 0 ⟨h1, gs, dr, tk₀, os⟩ _ _ st0 ?_
  refine loop_pairs (tr := [hp.objs.size + 4, hp.objs.size + 3, hp.objs.size + 0, hp.objs.size + 1, hp.objs.size + 2]) W st0 (F.ext hk1) hh (fun i vals q => ?_) (fun c hc => ?_) (fun c hc hw => ?_) (fun c hc => ?_) ?_ (fun i h st c hc => ?_) Inv h0 (fun i v1 v2 m₁ h₁ tk₁ it E' hi hv => ?_) fin hcx hcy hk hx hy
  · obtain ⟨x, y, _, _, e⟩ := q
    exact ⟨_, _, e⟩
  · simp only [List.mem_cons, List.not_mem_nil, or_false] at hc ⊢
    rcases hc with rfl | rfl | rfl | rfl <;> simp
  · simp only [List.mem_cons, List.not_mem_nil, or_false] at hc hw
    rcases hc with rfl | rfl | rfl | rfl | rfl | rfl | rfl
    · exact absurd (by simp) hw
    · exact absurd (by simp) hw
    · exact absurd (by simp) hw
    · exact absurd (by simp) hw
    · exact absurd (by simp) hw
    · exact ⟨_, hl1⟩
    · exact ⟨_, hl2⟩
  · simp only [List.mem_cons, List.not_mem_nil, or_false] at hc
    rcases hc with rfl | rfl | rfl | rfl | rfl <;> exact above _
  · simp
  · obtain ⟨z1, z2, ⟨_, _, z3⟩, ⟨o4, z4, _⟩, ⟨o5, z5, _⟩, _⟩ := st
    simp only [List.mem_cons, List.not_mem_nil, or_false] at hc
    rcases hc with rfl | rfl | rfl | rfl | rfl
    · exact ⟨_, z1⟩
    · exact ⟨_, z3⟩
    · exact ⟨_, z4⟩
    · exact ⟨_, z5⟩
    · exact ⟨_, z2⟩
  · obtain ⟨x, y, e1, e2, e3⟩ := hv
    have e4 : v1 = x ∧ v2 = y := by simpa using e3
    obtain ⟨rfl, rfl⟩ := e4
    exact step i v1 v2 m₁ h₁ tk₁ it E' hi (by simpa using e1) (by simpa using e2)
end
/-- all that is solid goes into the base, but for some -/
def Kpx (ex : List Addr) (h b : Heap) : Prop := ∀ c o, h.get? c = some o → Solid o → c ∉ ex → b.get? c = some o
theorem Fx.settlex {b h : Heap} {L : Addr} {m : Str → Option Value} {own own' : List (Addr × Obj)} {x : Str} {v : Value} (ex : List Addr) (F : Fx b L h m own) (hm : m x = some v) (hs : own'.Sublist own) (ho : ∀ p ∈ own', (∃ v, p.2.data = .cell v) ∨ (∃ vs, p.2.data = .fields vs) ∨ p.1 ∈ ex) :
    ∃ b', Ext b b' ∧ Fx b' L h m own' ∧ Kpx ex h b' := by
  obtain ⟨b', e, F', k, k2⟩ := F.freeze own' hs
  refine ⟨b', e, F', fun c o hc so hx => k c o (fun q => ?_) (fun q => ?_) hc⟩
  · subst q
    obtain ⟨oL, es, ep, gL, hd, hst, hf⟩ := F.ns
    rw [gL] at hc
    have := Option.some.inj hc
    subst this
    rcases so.2.2 with rfl | so
    · have e1 : es = #[] := by
        have : Data.dict #[] 0 = Data.dict es ep := hd
        cases this; rfl
      subst e1
      have := hf x
      rw [hm] at this
      simp [nsFind, findBy] at this
    · exact so _ _ hd
  · obtain ⟨p, hp, rfl⟩ := List.mem_map.mp q
    have := F'.has p hp
    rw [hc] at this
    have := Option.some.inj this
    rcases ho p hp with ⟨v, hv⟩ | ⟨vs, hv⟩ | hv
    · exact so.1 v (this ▸ hv)
    · exact so.2.1 vs (this ▸ hv)
    · exact hx hv
theorem Kpx.list {ex : List Addr} {h b : Heap} (k : Kpx ex h b) {c : Addr} {its : List Value} {n : Nat} (e : h.get? c = some (LO its n)) (hx : c ∉ ex) : b.get? c = some (LO its n) := k c _ e (solid_list _ _) hx
/-- a list whose first item refers to an object of a class, or to a list longer than the vector, is none of the vector's nodes -/
def Aside (h : Heap) (n : Nat) (D : Addr) : Prop := ∃ a rest e, h.get? D = some (LO (.ref a :: rest) e) ∧ ((∃ dx sl, h.get? a = some (IO dx sl)) ∨ ∃ its e', h.get? a = some (LO its e') ∧ n < its.length)
theorem ints_no_ref {vs : List Value} {ns : List Int} (hi : IntsAre vs ns) {a : Addr} (h : Value.ref a ∈ vs) : False := by
  obtain ⟨j, hj, e⟩ := List.getElem_of_mem h
  have hj' : j < ns.length := by rw [← hi.length]; exact hj
  obtain ⟨t, ht⟩ := hi.get j ns[j] (List.getElem?_eq_getElem hj')
  rw [List.getElem?_eq_getElem hj, e] at ht
  cases ht
theorem VecAt.kpx {ex : List Addr} {h b : Heap} {x : Addr} {xs : List Value} {ns : List Int} (V : VecAt h x xs) (k : Kpx ex h b) (hi : IntsAre xs ns) (ha : ∀ D ∈ ex, Aside h xs.length D) : VecAt b x xs := by
  obtain ⟨dx, root, tail, n, toff, t1, t2, t3, yss, zs, nt, e1, e2, R, e4, e5, e6, e7, e8, e9⟩ := V
  have inx : ∀ ys, ys ∈ yss → ∀ v, v ∈ ys → v ∈ xs := fun ys hys v hv => by
    rw [e9]; exact List.mem_append_left _ (List.mem_flatten.mpr ⟨ys, hys, hv⟩)
  have noleaf : ∀ c its m, h.get? c = some (LO its m) → (∀ v, v ∈ its → v ∈ xs) → c ∉ ex := fun c its m hc hsub hx => by
    obtain ⟨a, rest, e, hD, _⟩ := ha c hx
    rw [hc] at hD
    have : its.toArray = (Value.ref a :: rest).toArray := by
      have := Option.some.inj hD
      injection this with _ _ hd _
      injection hd
    have : its = Value.ref a :: rest := by simpa using this
    exact ints_no_ref hi (a := a) (hsub _ (by rw [this]; exact .head _))
  obtain ⟨nr, cs, gr, hl, hk⟩ := R
  have hroot : root ∉ ex := fun hx => by
    obtain ⟨a, rest, e, hD, hor⟩ := ha root hx
    rw [gr] at hD
    have q : (cs.map Value.ref).toArray = (Value.ref a :: rest).toArray := by
      have := Option.some.inj hD
      injection this with _ _ hd _
      injection hd
    have q : cs.map Value.ref = Value.ref a :: rest := by simpa using q
    cases cs with
    | nil => cases q
    | cons c cs =>
      have hca : c = a := by
        have := List.cons.inj q
        exact Value.ref.inj this.1
      subst hca
      obtain ⟨ys, hys⟩ : ∃ ys, yss[0]? = some ys := ⟨_, List.getElem?_eq_getElem (by rw [← hl]; simp)⟩
      obtain ⟨nc, hcl⟩ := hk 0 c ys rfl hys
      rcases hor with ⟨dx', sl, hio⟩ | ⟨its, e', hio, hlt⟩
      · rw [hcl] at hio
        have := Option.some.inj hio
        injection this with hc _ _ _
        cases hc
      · rw [hcl] at hio
        have q2 : ys.toArray = its.toArray := by
          have := Option.some.inj hio
          injection this with _ _ hd _
          injection hd
        have q2 : ys = its := by simpa using q2
        subst q2
        have hm : ys ∈ yss := List.mem_of_getElem? hys
        have : ys.length ≤ yss.flatten.length := by
          obtain ⟨l1, l2, e⟩ := List.append_of_mem hm
          rw [e]; simp only [List.flatten_append, List.flatten_cons, List.length_append]; omega
        rw [e9, List.length_append] at hlt
        omega
  have hxx : x ∉ ex := fun hx => by
    obtain ⟨a, rest, e, hD, _⟩ := ha x hx
    rw [e1] at hD
    have := Option.some.inj hD
    injection this with hc _ _ _
    cases hc
  have hdx : dx ∉ ex := fun hx => by
    obtain ⟨a, rest, e, hD, _⟩ := ha dx hx
    rw [e2] at hD
    have := Option.some.inj hD
    injection this with hc _ _ _
    injection hc with hc
    exact absurd hc (by decide)
  refine ⟨dx, root, tail, n, toff, t1, t2, t3, yss, zs, nt, k _ _ e1 (solid_inst _ _) hxx, k _ _ e2 solid_empty hdx, ⟨nr, cs, k.list gr hroot, hl, fun q c ys hc hy => ?_⟩, k.list e4 (noleaf _ _ _ e4 fun v hv => by rw [e9]; exact List.mem_append_right _ hv), e5, e6, e7, e8, e9⟩
  obtain ⟨nc, hcl⟩ := hk q c ys hc hy
  exact ⟨nc, k.list hcl (noleaf _ _ _ hcl fun v hv => inx ys (List.mem_of_getElem? hy) v hv)⟩
theorem stands_len (ns : List Int) (k : Int) : (standsI ns k).length = ns.countP (· == k) := by
  unfold standsI
  rw [List.length_map, ← List.countP_eq_length_filter]
  have e : ns = (List.range ns.length).map fun j => ns.getD j 0 := by
    apply List.ext_getElem (by simp)
    intro i h1 h2
    simp [List.getD_eq_getElem?_getD, List.getElem?_eq_getElem h1]
  conv => rhs; rw [e]
  rw [List.countP_map]
  rfl
theorem stands_none {ns : List Int} {k : Int} (h : ns.findIdx? (· == k) = none) : standsI ns k = [] := by
  have := List.findIdx?_eq_none_iff.mp h
  have hc : ns.countP (· == k) = 0 := List.countP_eq_zero.mpr fun a ha => by simp [this a ha]
  rw [← stands_len] at hc
  exact List.length_eq_zero_iff.mp hc
theorem stands_some {ns : List Int} {k : Int} {j : Nat} (h : ns.findIdx? (· == k) = some j) : j < ns.length ∧ ∃ r, standsI ns k = (j : Int) :: r := by
  obtain ⟨hj, h1, h2⟩ := List.findIdx?_eq_some_iff_getElem.mp h
  refine ⟨hj, ?_⟩
  unfold standsI
  have hd : ∀ i, i < ns.length → ns.getD i 0 = ns[i]! := fun i hi => by simp [List.getD_eq_getElem?_getD]
  have split : List.range ns.length = List.range j ++ j :: List.range' (j + 1) (ns.length - (j + 1)) := by
    have e := @List.range'_append_1 0 j (ns.length - j)
    rw [Nat.zero_add] at e
    rw [List.range_eq_range', List.range_eq_range', show ns.length = j + (ns.length - j) by omega, ← e]
    congr 1
    rw [show j + (ns.length - j) - (j + 1) = (ns.length - j) - 1 by omega]
    conv => lhs; rw [show ns.length - j = (ns.length - j - 1) + 1 by omega, List.range'_succ]
  rw [split, List.filter_append, List.filter_cons]
  have f1 : (List.range j).filter (fun i => ns.getD i 0 == k) = [] := by
    rw [List.filter_eq_nil_iff]
    intro i hi
    have hij := List.mem_range.mp hi
    have := h2 i hij
    rw [List.getD_eq_getElem?_getD, List.getElem?_eq_getElem (by omega)]
    simpa using this
  have f2 : (ns.getD j 0 == k) = true := by
    rw [List.getD_eq_getElem?_getD, List.getElem?_eq_getElem hj]; exact h1
  rw [f1, if_pos f2, List.nil_append, List.map_cons]
  exact ⟨_, rfl⟩
theorem stands_any (ns : List Int) (k : Int) : ns.any (· == k) = !decide (standsI ns k = []) := by
  cases h : ns.findIdx? (· == k) with
  | none =>
    rw [stands_none h]
    have := List.findIdx?_eq_none_iff.mp h
    simp
    intro a ha q
    have := this a ha
    simp [q] at this
  | some j =>
    obtain ⟨hj, r, e⟩ := stands_some h
    obtain ⟨_, h1, _⟩ := List.findIdx?_eq_some_iff_getElem.mp h
    rw [e]
    simp
    have : ns[j] = k := by simpa using h1
    rw [← this]; exact List.getElem_mem hj
theorem erase_ints {xs : List Value} {ns : List Int} (hi : IntsAre xs ns) (j : Nat) : IntsAre (xs.eraseIdx j) (ns.eraseIdx j) := by
  have a := slice_ints_uptoW hi (y := (j : Int)) (by omega)
  have b := slice_ints_fromW hi (x := ((j + 1 : Nat) : Int)) (by omega)
  rw [List.eraseIdx_eq_take_drop_succ, List.eraseIdx_eq_take_drop_succ]
  refine IntsAre.append ?_ ?_
  · clear a b; revert j; induction hi with
    | nil => intro j; simpa using IntsAre.nil
    | cons n t h ih =>
      intro j
      cases j with
      | zero => exact .nil
      | succ j => exact .cons n t (ih j)
  · clear a b; revert j; induction hi with
    | nil => intro j; simpa using IntsAre.nil
    | cons n t h ih =>
      intro j
      cases j with
      | zero => simpa using h
      | succ j => exact ih j
theorem halves_ints {ys : List Value} {ns : List Int} (hi : IntsAre ys ns) (j : Nat) : IntsAre (cutL ys none (some (j : Int)) ++ cutL ys (some ((j : Int) + 1)) none) (ns.eraseIdx j) := by
  have a := slice_ints_uptoW hi (y := (j : Int)) (by omega)
  have b := slice_ints_fromW hi (x := (j : Int) + 1) (by omega)
  rw [List.eraseIdx_eq_take_drop_succ]
  exact a.append b
theorem nums_two {script : List Int} : ∃ a b r, script ++ pickNums [50, 123456, 17, 40] (some (script.length : Int)) none none = a :: b :: r := by
  cases script with
  | nil => exact ⟨50, 123456, [17, 40], by decide⟩
  | cons a r =>
    cases r with
    | nil => exact ⟨a, 123456, [17, 40], by simp; decide⟩
    | cons b r => exact ⟨a, b, _, rfl⟩
/-- a version and what was told of it -/
def PairOk (b : Heap) (m p : Value) : Prop := ∃ x xs D ys c ns, m = .ref x ∧ p = .ref D ∧ VecAt b x xs ∧ b.get? D = some (LO ys c) ∧ IntsAre xs ns ∧ IntsAre ys ns ∧ ns.length ≤ 75
theorem PairOk.up {b b' : Heap} {m p : Value} (h : PairOk b m p) (e : Ext b b') : PairOk b' m p := by
  obtain ⟨x, xs, D, ys, c, ns, h1, h2, h3, h4, h5⟩ := h
  exact ⟨x, xs, D, ys, c, ns, h1, h2, h3.up e, e _ _ h4, h5⟩
structure Vers (b : Heap) (size : Nat) (ms ps : List Value) : Prop where
  len : ms.length = ps.length
  ok : ∀ (j : Nat) (m p : Value), ms[j]? = some m → ps[j]? = some p → PairOk b m p
  first : ∃ x0 dx sl D0 ys0 c0 mr pr, ms = .ref x0 :: mr ∧ ps = .ref D0 :: pr ∧ b.get? x0 = some (IO dx sl) ∧ b.get? D0 = some (LO ys0 c0) ∧ ys0.length = size
theorem Vers.up {b b' : Heap} {size : Nat} {ms ps : List Value} (h : Vers b size ms ps) (e : Ext b b') : Vers b' size ms ps := by
  refine ⟨h.len, fun j m p h1 h2 => (h.ok j m p h1 h2).up e, ?_⟩
  obtain ⟨x0, dx, sl, D0, ys0, c0, mr, pr, h1, h2, h3, h4, h5⟩ := h.first
  exact ⟨x0, dx, sl, D0, ys0, c0, mr, pr, h1, h2, e _ _ h3, e _ _ h4, h5⟩
theorem Vers.push {b : Heap} {size : Nat} {ms ps : List Value} {m p : Value} (h : Vers b size ms ps) (q : PairOk b m p) : Vers b size (ms ++ [m]) (ps ++ [p]) := by
  refine ⟨by simp [h.len], fun j m' p' h1 h2 => ?_, ?_⟩
  · by_cases hj : j < ms.length
    · rw [List.getElem?_append_left hj] at h1
      rw [List.getElem?_append_left (by rw [← h.len]; exact hj)] at h2
      exact h.ok j m' p' h1 h2
    · have hj' : j = ms.length := by
        have : j < (ms ++ [m]).length := by
          by_cases z : j < (ms ++ [m]).length
          · exact z
          · rw [List.getElem?_eq_none (by omega)] at h1; cases h1
        simp at this; omega
      subst hj'
      rw [List.getElem?_append_right (Nat.le_refl _)] at h1
      rw [h.len, List.getElem?_append_right (Nat.le_refl _)] at h2
      simp at h1 h2
      subst h1 h2
      exact q
  · obtain ⟨x0, dx, sl, D0, ys0, c0, mr, pr, h1, h2, h3⟩ := h.first
    subst h1 h2
    exact ⟨x0, dx, sl, D0, ys0, c0, mr ++ [m], pr ++ [p], rfl, rfl, h3⟩
theorem Vers.one {b : Heap} {x D : Addr} {xs ys : List Value} {c : Nat} {ns : List Int} (V : VecAt b x xs) (hD : b.get? D = some (LO ys c)) (hi : IntsAre xs ns) (hj : IntsAre ys ns) (hn : ns.length ≤ 75) : Vers b ns.length [.ref x] [.ref D] := by
  refine ⟨rfl, fun j m p h1 h2 => ?_, ?_⟩
  · cases j with
    | zero =>
      cases h1; cases h2
      exact ⟨x, xs, D, ys, c, ns, rfl, rfl, V, hD, hi, hj, hn⟩
    | succ j => cases h1
  · obtain ⟨dx, _, _, _, _, _, _, _, hx, _⟩ := V.len
    exact ⟨x, dx, _, D, ys, c, [], [], rfl, rfl, hx, hD, hj.length⟩
theorem Vers.aside1 {b h : Heap} {size : Nat} {ms ps : List Value} (v : Vers b size ms ps) (e : Ext b h) {D : Addr} {c : Nat} (hD : h.get? D = some (LO ms c)) (n : Nat) : Aside h n D := by
  obtain ⟨x0, dx, sl, D0, ys0, c0, mr, pr, h1, h2, h3, h4, h5⟩ := v.first
  subst h1
  exact ⟨x0, mr, c, hD, .inl ⟨dx, sl, e _ _ h3⟩⟩
theorem Vers.aside2 {b h : Heap} {size : Nat} {ms ps : List Value} (v : Vers b size ms ps) (e : Ext b h) {D : Addr} {c : Nat} (hD : h.get? D = some (LO ps c)) {n : Nat} (hn : n < size) : Aside h n D := by
  obtain ⟨x0, dx, sl, D0, ys0, c0, mr, pr, h1, h2, h3, h4, h5⟩ := v.first
  subst h2
  exact ⟨D0, pr, c, hD, .inr ⟨ys0, c0, e _ _ h4, by omega⟩⟩
theorem int_ne_ok {v1 v2 : Value} {r : Option Nat} (h1 : r = none → v1 = .none) (h2 : ∀ j, r = some j → ∃ t, v1 = .int j t) (h3 : (r.map fun (j : Nat) => (j : Int)) = none → v2 = .none) (h4 : ∀ p, (r.map fun (j : Nat) => (j : Int)) = some p → ∃ t, v2 = .int p t) :
    (v1 = .none ∧ v2 = .none) ∨ ∃ j t u, v1 = .int j t ∧ v2 = .int j u := by
  cases r with
  | none => exact .inl ⟨h1 rfl, h3 rfl⟩
  | some j =>
    obtain ⟨t, e⟩ := h2 j rfl
    obtain ⟨u, e2⟩ := h4 j rfl
    exact .inr ⟨j, t, u, e, e2⟩
section
variable {prog : Program} {w : World} {A : Around} {E : Value → Shared → Prop} {env : Env}
set_option maxHeartbeats 2000000 in
theorem comp_pairs_asg {iter c : Expr} {x y z : Str} {pe px py tp pos pz spos : Pos} {kk : Nat} {scope : Scope} {cl : List (Str × Addr)} {s : Shared} {Q : Flow → Shared → Prop} (pp : Nat → Bool) (hh : A.handled = none)
    (hsw : swapsWith (.ListComp (.Name x pe) [⟨.Tuple [.Name x px, .Name y py] kk tp, iter, [c], 0⟩] scope pos) (some (.Name z pz)) spos.line env = pure true)
    (hclos : closureFor scope env = pure cl) (hcell : ∀ y ∈ scope.names, y.2 ≠ .cell) (hkind : scope.kind = .function)
    (hnames : ∀ y ∈ scope.names, y.2 = .local → scope.names.lookup y.1 = some .local) (hx : scope.names.lookup x = some .local) (hy : scope.names.lookup y = some .local) (hxy : x ≠ y) (hdx : (x == ("__debug__" : Str)) = false)
    (hs : ∀ x, foldedSetIterable iter env x = pure x) (hz : env.kindOf z = some .local) (hkz : (env.scope.kind == .class || (env.scope.kind == .module && env.locals != env.globals)) = false)
    (h : wpAny (model prog w) A (eval iter env) (fun xv s₁ => wpAny (model prog w) A (pyIter xv) (fun it s₂ => ∃ I fp wr nn Pt St Mid hp b L m own gs dr tk os, env.locals = L ∧ it = .ref I ∧ s₂ = ⟨hp, gs, dr, tk, os⟩ ∧ WalksT prog w A I fp wr nn Pt St Mid ∧ nn ≤ 1000000 ∧ St 0 hp ∧ (∀ b ∈ fp, b < hp.objs.size) ∧
      (∀ i vals, Pt i vals → ∃ t v, vals = #[.int i t, v]) ∧ Fx b L hp m own ∧ (∀ a ∈ wr, b.get? a = none ∧ a ≠ L ∧ ∀ p ∈ own, p.1 ≠ a) ∧
      TestsP prog w A env scope cl x y c nn Pt pp (hideAll hp wr) ∧
      (∀ D cc ys h' tk', Fx b L h' (fun q => if q = z then some (.ref D) else m q) ((D, LO ys cc) :: own) → IntsAre ys (((List.range nn).filter pp).map fun (i : Nat) => (i : Int)) → Q .next ⟨h', gs, dr, tk', os⟩)) E s₁) E s) :
    wpAny (model prog w) A (exec (.Assign [.Name z pz] (.ListComp (.Name x pe) [⟨.Tuple [.Name x px, .Name y py] kk tp, iter, [c], 0⟩] scope pos) spos) env) Q E s := by
  rw [exec_Assign_Name_used _ _ _ _ hsw]
  refine wpAny_bind (wpAny_standAt (wpAny_bind ?_))
  show wpAny _ A (do let _ ← comprehension (.ListComp (.Name x pe) [⟨.Tuple [.Name x px, .Name y py] kk tp, iter, [c], 0⟩] scope pos) scope env _ (newList []) false (eval iter env) (some (assign (.Name z pz) env))) _ _ s
  refine wpAny_bind (wpAny_mono (wpAny_comprehension_free (use := some (assign (.Name z pz) env)) (Q := fun _ s' => Q .next s') rfl hs hclos hkind hnames
    (wpAny_mono h (fun xv s₁ h₁ => wpAny_mono h₁ (fun it s₂ h₂ => ?_) fun _ _ e => e) fun _ _ e => e)) (fun _ s' hq => wpAny_pure (wpAny_pure hq)) fun _ _ e => e)
  obtain ⟨I, fp, wr, nn, Pt, St, Mid, hp, b, L, m, own, gs, dr, tk, os, hL, rfl, rfl, W, hsz, hst, hfp, hP, F, hw, hT, hQ⟩ := h₂
  refine wpAny_newObj_type (wpAny_newFunctionEnv hcell (by intro y hy; simp at hy) (fun h₁ hns₁ hsb₁ => ?_) hkind)
  dsimp only at hns₁ hsb₁ ⊢
  generalize hH2 : hp.push { cls := .type "list", dict := none, data := .seq ([] : List Value).toArray } = H2 at hns₁ hsb₁ ⊢
  have hC : H2.objs.size = hp.objs.size + 1 := by rw [← hH2, Heap.size_push]
  have hDC : hp.objs.size ≠ H2.objs.size := by rw [hC]; exact Nat.ne_of_lt (Nat.lt_succ_self _)
  have below : ∀ b, b < hp.objs.size → b ≠ H2.objs.size ∧ b ≠ hp.objs.size := fun b hb => ⟨by rw [hC]; exact Nat.ne_of_lt (Nat.lt_succ_of_lt hb), Nat.ne_of_lt hb⟩
  have hDf : hp.objs.size ∉ fp := fun hm => Nat.lt_irrefl _ (hfp _ hm)
  have hCf : H2.objs.size ∉ fp := fun hm => by have := hfp _ hm; rw [hC] at this; exact Nat.lt_irrefl _ (Nat.lt_of_succ_lt this)
  have hDw : hp.objs.size ∉ wr := fun hm => hDf (W.sub _ hm)
  have hCw : H2.objs.size ∉ wr := fun hm => hCf (W.sub _ hm)
  have old : ∀ b o, hp.get? b = some o → h₁.get? b = some o := fun b o e => hsb₁.extBut b o (below b (Heap.lt_size e)).1 (Heap.get?_push_of_some _ (hH2 ▸ Heap.get?_push_of_some _ e))
  have hacc : h₁.get? hp.objs.size = some (LO [] 0) := hsb₁.extBut _ _ hDC (Heap.get?_push_of_some _ (hH2 ▸ Heap.get?_push_size _ rfl))
  have hst₁ : St 0 h₁ := W.frame _ _ _ hst fun b _ o e => old b o e
  have fresh : ∀ a, hp.objs.size ≤ a → hp.get? a = none := fun a ha => by
    cases e : hp.get? a with
    | none => rfl
    | some o' => exact absurd (Heap.lt_size e) (Nat.not_lt.mpr ha)
  have loop : ∀ s₃ : Shared, s₃ = { (⟨hp, gs, dr, tk, os⟩ : Shared) with heap := h₁, toks := tk + ([] : List (Str × Value)).length } →
      codeAny (model prog w) A (.compLoop (.ListComp (.Name x pe) [⟨.Tuple [.Name x px, .Name y py] kk tp, iter, [c], 0⟩] scope pos) 0 (.ref I) (.ref hp.objs.size) (compEnvC scope cl H2.objs.size env))
        (compPost (model prog w) A E (some (assign (.Name z pz) env)) (fun _ s' => Q .next s') (.ref hp.objs.size) H2.objs.size) s₃ := by
    rintro s₃ rfl
    refine kct_loop (fun k s' => ∃ h' tk i ys cc m', s' = ⟨h', gs, dr, tk, os⟩ ∧ i ≤ nn ∧ k = nn + 1 - i ∧ St i h' ∧ h'.Ns H2.objs.size m' ∧ h'.get? hp.objs.size = some (LO ys cc) ∧ IntsAre ys (((List.range i).filter pp).map fun (i : Nat) => (i : Int)) ∧
      (∀ b o, b ∉ wr → hp.get? b = some o → h'.get? b = some o)) ?_ (nn + 1) ⟨h₁, _, 0, [], 0, _, rfl, Nat.zero_le _, rfl, hst₁, hns₁, hacc, .nil, fun b o _ e => old b o e⟩
    rintro k s' ⟨h', tk', i, ys, cc, m', rfl, hi, rfl, hst', hn', hD', hys, hk'⟩
    by_cases hlt : i < nn
    · refine W.item i _ _ _ hlt hst' fun T vals h₂ tk₂ hPv hTs hIT mid hk₂ => ?_
      obtain ⟨t, v, rfl⟩ := hP i vals hPv
      refine W.go _ _ _ i T ⟨h₂, gs, dr, tk₂, os⟩ _ _ mid fun h₃ st₃ hk₃ => ?_
      have hIT₃ : h₃.IsTuple T #[.int i t, v] := by
        obtain ⟨o, ho, r⟩ := hIT
        exact ⟨o, hk₃ T o (W.apart _ _ _ mid) ho, r⟩
      have he : assignEach [Expr.Name x px, Expr.Name y py] (compEnvC scope cl H2.objs.size env) = [(false, assign (.Name x px) (compEnvC scope cl H2.objs.size env)), (false, assign (.Name y py) (compEnvC scope cl H2.objs.size env))] := by with_unfolding_all rfl
      refine wpAny_assign_Tuple (items := #[.int i t, v]) hh hIT₃ (by rw [he]; rfl) (by rw [he]; rfl) fun h₄ e₄ => ?_
      have ex : Ext h₃ h₄ := fun a oa q => e₄ a oa (Nat.ne_of_lt (Heap.lt_size q)) q
      have up : ∀ a oa, a ∉ wr → h'.get? a = some oa → h₄.get? a = some oa := fun a oa hw e => ex a oa (hk₃ a oa hw (hk₂ a oa hw e))
      have st₄ : St (i + 1) h₄ := W.frame _ _ _ st₃ fun a _ oa e => ex a oa e
      have hkd : ((compEnvC scope cl H2.objs.size env).scope.kind == .class || ((compEnvC scope cl H2.objs.size env).scope.kind == .module && (compEnvC scope cl H2.objs.size env).locals != (compEnvC scope cl H2.objs.size env).globals)) = false := by simp [compEnvC, relabel, hkind]
      rw [he]
      show wpAny _ _ (holding [v] (assign (.Name x px) (compEnvC scope cl H2.objs.size env) (.int i t)) >>= fun _ => holding [] (assign (.Name y py) (compEnvC scope cl H2.objs.size env) v) >>= fun _ => pure ()) _ _ _
      refine wpAny_bind (wpAny_holding (wpAny_assign_Name (wpAny_storeName_local (lookup_relabel_local hx) (hn'.at' fun o e => up _ o hCw e) (fun h₅ hn₅ hs₅ => ?_) hkd)))
      refine wpAny_bind (wpAny_holding (wpAny_assign_Name (wpAny_storeName_local (lookup_relabel_local hy) hn₅ (fun h₆ hn₆ hs₆ => ?_) hkd)))
      refine wpAny_pure ?_
      have up6 : ∀ a oa, a ≠ H2.objs.size → a ∉ wr → h'.get? a = some oa → h₆.get? a = some oa := fun a oa hc hw e => hs₆.extBut a oa hc (hs₅.extBut a oa hc (up a oa hw e))
      have st₆ : St (i + 1) h₆ := W.frame _ _ _ st₄ fun a ha oa e => by
        have nC : a ≠ H2.objs.size := fun q => hCf (by rw [q] at ha; exact ha)
        exact hs₆.extBut a oa nC (hs₅.extBut a oa nC e)
      have base6 : Ext (hideAll hp wr) h₆ := fun a oa e => up6 a oa (below a (Heap.lt_size (of_hideAll _ e))).1 (fun q => by rw [hideAll_none _ q] at e; cases e) (hk' a oa (fun q => by rw [hideAll_none _ q] at e; cases e) (of_hideAll _ e))
      refine wpAny_mono (hT.test _ i t v h₆ gs dr _ os _ _ hlt hPv hn₆ (by simp) base6) (fun ok s₄ z => ?_) fun _ _ e => e
      obtain ⟨rfl, h₇, tk₇, rfl, e₇⟩ := z
      have st₇ : St (i + 1) h₇ := W.frame _ _ _ st₆ fun a _ oa e => e₇ a oa e
      have hn₇ := hn₆.keeps e₇
      have hD₇ : h₇.get? hp.objs.size = some (LO ys cc) := e₇ _ _ (up6 _ _ hDC hDw hD')
      have hk₇ : ∀ a oa, a ∉ wr → hp.get? a = some oa → h₇.get? a = some oa := fun a oa hw e => e₇ _ _ (up6 a oa (below a (Heap.lt_size e)).1 hw (hk' a oa hw e))
      have hr : ((List.range (i + 1)).filter pp).map (fun (i : Nat) => (i : Int)) = ((List.range i).filter pp).map (fun (i : Nat) => (i : Int)) ++ if pp i = true then [(i : Int)] else [] := by
        rw [List.range_succ, List.filter_append, List.map_append]
        by_cases q : pp i = true <;> simp [q]
      split
      · rename_i hpp
        refine wpAny_Name (wpAny_loadName_local (v := .int i t) (by simp [compEnvC, relabel, hkind]) (lookup_relabel_local hx) hn₇ (by simp [hxy]) ?_) hdx
        have hyl : ys.length ≤ i := by
          rw [hys.length, List.length_map]
          exact Nat.le_trans (List.length_filter_le _ _) (by simp)
        refine wpAny_list_append_plain ⟨cc, hD₇⟩ (fun h₈ ⟨n', hn'⟩ hs => ?_) (by rw [List.size_toArray, sizeLine_eq]; omega)
        refine ⟨nn + 1 - (i + 1), by omega, h₈, _, i + 1, ys ++ [.int i t], n', _, rfl, hlt, rfl, W.frame _ _ _ st₇ fun a ha oa e => hs.extBut a oa (fun q => hDf (q ▸ ha)) e, hn₇.sameBut hs (Ne.symm hDC), by rw [hn']; simp, ?_, fun a oa hw e => hs.extBut a oa (below a (Heap.lt_size e)).2 (hk₇ a oa hw e)⟩
        rw [hr, if_pos hpp]
        exact hys.append (.cons _ _ .nil)
      · rename_i hpp
        refine ⟨nn + 1 - (i + 1), by omega, h₇, _, i + 1, ys, cc, _, rfl, hlt, rfl, st₇, hn₇, hD₇, ?_, hk₇⟩
        rw [hr, if_neg hpp, List.append_nil]
        exact hys
    · have : i = nn := by omega
      subst this
      refine W.done _ _ _ hst' fun h₂ tk₂ hk₂ => ?_
      have ekeep : ∀ a oa, a ∉ wr → hp.get? a = some oa → h₂.get? a = some oa := fun a oa hw e => hk₂ a oa hw (hk' a oa hw e)
      have F2 : Fx b L h₂ m own := by
        obtain ⟨oL, es, ep, gL, r⟩ := F.ns
        exact ⟨⟨oL, es, ep, ekeep _ _ (fun q => (hw _ q).2.1 rfl) gL, r⟩, fun a o q => ekeep a o (fun z => by rw [(hw _ z).1] at q; cases q) (F.keep a o q), F.lout, fun p hp => ekeep _ _ (fun q => (hw _ q).2.2 p hp rfl) (F.has p hp), F.out, F.nodup⟩
      have FD : Fx b L h₂ m ((hp.objs.size, LO ys cc) :: own) := F.addNew F2 rfl (none_at_size _) (hk₂ _ _ hDw hD')
      have hLC : L ≠ H2.objs.size := fun q => by have := F.ns.lt; rw [q, hC] at this; exact Nat.lt_irrefl _ (Nat.lt_of_succ_lt this)
      subst hL
      show wpAny _ A (assign (.Name z pz) env (.ref hp.objs.size)) _ _ _
      refine wpAny_assign_Name (wpAny_storeName_local hz FD.ns (fun h₃ hn₃ hs₃ => ?_) hkz)
      have F3 := FD.store hn₃ hs₃
      refine ⟨m', (hn'.at' fun o e => hk₂ _ o hCw e).sameBut hs₃ (Ne.symm hLC), fun h'' hs'' => ?_⟩
      have outC : b.get? H2.objs.size = none := by
        cases e : b.get? H2.objs.size with
        | none => rfl
        | some o => exact absurd rfl (below _ (Heap.lt_size (F.keep _ _ e))).1
      have ownC : ∀ p ∈ (hp.objs.size, LO ys cc) :: own, p.1 ≠ H2.objs.size := fun p hp' => by
        rcases List.mem_cons.mp hp' with rfl | hp'
        · exact hDC
        · exact (below _ (Heap.lt_size (F.has p hp'))).1
      refine hQ hp.objs.size cc ys h'' _ ⟨hn₃.sameBut hs'' hLC, fun a o q => hs''.extBut a o (fun z => by rw [z, outC] at q; cases q) (F3.keep a o q), F3.lout, fun p hp' => hs''.extBut _ _ (ownC p hp') (F3.has p hp'), F3.out, F3.nodup⟩ hys
  exact codeAny_compStart_list (loop _ rfl) (W.self 0 _ _ _ hst₁ (loop _ rfl))
end
section
variable {prog : Program} {w : World} {A : Around} {E : Value → Shared → Prop} {hp : Heap} {gs : Array GenState} {dr : Drawn} {tk : Nat} {os : OsState} {env : Env}
/-- the places of k in a row, by enumerate -/
theorem enum_compA {scope : Scope} {cl : List (Str × Addr)} {x y z : Str} {c : Expr} {Q : Flow → Shared → Prop} {b : Heap} {L l : Addr} {m : Str → Option Value} {own : List (Addr × Obj)} {items : List Value} {n : Nat} {ns : List Int} (k : Int) (F : Fx b L hp m own) (hl : hp.get? l = some (LO items n)) (hi : IntsAre items ns) (hz : ns.length ≤ 1000) (hh : A.handled = none)
    (test : ∀ C i u h₃ gs dr tk os m₃ E', i < ns.length → h₃.Ns C m₃ → m₃ y = some (.int (ns.getD i 0) u) → Ext hp h₃ →
      wpAny (model prog w) A (isTrue c (compEnvC scope cl C env) (eval c (compEnvC scope cl C env))) (fun ok s₄ => ok = (ns.getD i 0 == k) ∧ ∃ h' tk', s₄ = ⟨h', gs, dr, tk', os⟩ ∧ Ext h₃ h') E' ⟨h₃, gs, dr, tk, os⟩)
    (hL : env.locals = L) (hQ : ∀ D cc ys h' tk', Fx b L h' (fun q => if q = z then some (.ref D) else m q) ((D, LO ys cc) :: own) → IntsAre ys (standsI ns k) → Q .next ⟨h', gs, dr, tk', os⟩) :
    wpAny (model prog w) A (call (.type "enumerate") [.ref l]) (fun xv s₁ => wpAny (model prog w) A (pyIter xv) (fun it s₂ => ∃ I fp wr nn Pt St Mid hp b L m own gs dr tk os, env.locals = L ∧ it = .ref I ∧ s₂ = ⟨hp, gs, dr, tk, os⟩ ∧ WalksT prog w A I fp wr nn Pt St Mid ∧ nn ≤ 1000000 ∧ St 0 hp ∧ (∀ b ∈ fp, b < hp.objs.size) ∧
      (∀ i vals, Pt i vals → ∃ t v, vals = #[.int i t, v]) ∧ Fx b L hp m own ∧ (∀ a ∈ wr, b.get? a = none ∧ a ≠ L ∧ ∀ p ∈ own, p.1 ≠ a) ∧
      TestsP prog w A env scope cl x y c nn Pt (fun i => ns.getD i 0 == k) (hideAll hp wr) ∧
      (∀ D cc ys h' tk', Fx b L h' (fun q => if q = z then some (.ref D) else m q) ((D, LO ys cc) :: own) → IntsAre ys (((List.range nn).filter fun i => ns.getD i 0 == k).map fun (i : Nat) => (i : Int)) → Q .next ⟨h', gs, dr, tk', os⟩)) E s₁) E ⟨hp, gs, dr, tk, os⟩ := by
  have hlen := hi.length
  refine call_enumerate_list (isList_of hl) ?_
  intro h1 he hit hsz hk1
  have fr := F.fresh
  have hlt : l < hp.objs.size := Heap.lt_size hl
  have W := WalksT.enumerate (prog := prog) (w := w) hh (hp.objs.size + 1) hp.objs.size l (Nat.succ_ne_self _) (Nat.ne_of_lt (Nat.lt_succ_of_lt hlt)) (Nat.ne_of_lt hlt) items.toArray
  rw [List.size_toArray] at W
  have none2 : b.get? (hp.objs.size + 1) = none := by
    cases q : b.get? (hp.objs.size + 1) with
    | none => rfl
    | some o => exact absurd (Heap.lt_size (F.keep _ _ q)) (Nat.not_lt.mpr (Nat.le_succ _))
  have st0 : (∃ old, IsEnum h1 (hp.objs.size + 1) hp.objs.size ((0 : Nat) : Int) old) ∧ h1.IsListIter hp.objs.size l 0 ∧ h1.IsList l items.toArray := ⟨⟨_, he⟩, hit, isList_of (hk1 _ _ hl)⟩
  have ex : Ext hp (hideAll h1 [hp.objs.size + 1, hp.objs.size]) := fun c o e => hideAll_get _ (hk1 _ _ e) (by
    have := Heap.lt_size e
    simp only [List.mem_cons, List.not_mem_nil, or_false, not_or]
    exact ⟨Nat.ne_of_lt (Nat.lt_succ_of_lt this), Nat.ne_of_lt this⟩)
  refine W.self 0 ⟨h1, gs, dr, tk, os⟩ _ _ st0 ?_
  refine ⟨_, _, _, items.length, _, _, _, h1, b, L, m, own, gs, dr, tk, os, hL, rfl, rfl, W, by omega, st0, fun c hc => ?_, fun i vals q => ?_, F.ext hk1, fun c hc => ?_, ⟨fun C i t v h₃ gs dr tk os m₃ E' hi' hP hn hv e => ?_⟩, fun D cc ys h' tk' F' hy => hQ D cc ys h' tk' F' (by rw [hlen] at hy; exact hy)⟩
  · rw [hsz]
    simp only [List.mem_cons, List.not_mem_nil, or_false] at hc
    rcases hc with rfl | rfl | rfl
    · exact Nat.lt_succ_self _
    · exact Nat.lt_succ_of_lt (Nat.lt_succ_self _)
    · exact Nat.lt_succ_of_lt (Nat.lt_succ_of_lt hlt)
  · obtain ⟨t, v, _, e⟩ := q
    exact ⟨_, _, e⟩
  · rcases List.mem_cons.mp hc with rfl | hc
    · refine ⟨none2, fun q => ?_, fun p hp q => ?_⟩
      · exact absurd F.ns.lt (Nat.not_lt.mpr (q ▸ Nat.le_succ _))
      · exact absurd (Heap.lt_size (F.has p hp)) (Nat.not_lt.mpr (q ▸ Nat.le_succ _))
    · rw [List.mem_singleton.mp hc]; exact ⟨fr.1, fr.2.1.symm, fr.2.2⟩
  · obtain ⟨t', v', h1', h2'⟩ := hP
    have hil : i < ns.length := by rw [← hlen]; exact hi'
    obtain ⟨u, hu⟩ := hi.get i ns[i] (List.getElem?_eq_getElem hil)
    have hv' : v = .int (ns.getD i 0) u := by
      have z : v' = v := by have := congrArg (·[1]?) h2'; simpa using this.symm
      have : items[i]? = some v' := by simpa using h1'
      rw [hu] at this
      rw [← z, ← Option.some.inj this, List.getD_eq_getElem?_getD, List.getElem?_eq_getElem hil]; rfl
    exact test C i u h₃ gs dr tk os m₃ E' hil hn (by rw [← hv']; exact hv) (ex.trans e)
end
section
variable {prog : Program} {w : World} {A : Around} {E : Value → Shared → Prop} {hp : Heap} {gs : Array GenState} {dr : Drawn} {tk : Nat} {os : OsState} {mg mb : Str → Option Value} {Q : Value → Shared → Prop}
theorem nm_loc {cn : Str} {cs : Scope} {L a : Addr} {ccd : Value} {cl : List (Str × Addr)} {n : Str} {pos : Pos} {s : Shared} (hx : (envX cn cs L a ccd cl).kindOf n = some .local) (h : wpAny (model prog w) A (loadName (envX cn cs L a ccd cl) n) Q E s) (hd : (n == ("__debug__" : Str)) = false := by decide) :
    wpAny (model prog w) A (eval (.Name n pos) (envX cn cs L a ccd cl)) Q E s := wpAny_Name h hd
/-- a list made in place, cut by a slice -/
theorem sub_cut {b : Heap} {L l : Addr} {m : Str → Option Value} {own : List (Addr × Obj)} {value slice : Expr} {its : List Value} {n : Nat} {vl vu : Value} {lo hi : Option Int} (F : Fx b L hp m own) (hl : hp.get? l = some (LO its n)) (hz : its.length ≤ 1000000) (pl : IsPart vl lo) (pu : IsPart vu hi)
    (h : ∀ D h', Fx b L h' m ((D, LO (cutL its lo hi) 0) :: own) → Ext hp h' → Q (.ref D) ⟨h', gs, dr, tk, os⟩)
    (hs : subscripted slice false (.ref l) (.ref hp.objs.size) = operate [.ref hp.objs.size, .ref l] (getItem (.ref l) (.ref hp.objs.size)) := by with_unfolding_all rfl) :
    wpAny (model prog w) A (subscriptTail value slice (.ref l) (.ref hp.objs.size)) Q E ⟨hp.push (SlO vl vu .none), gs, dr, tk, os⟩ := by
  have hl' := Heap.get?_push_of_some (SlO vl vu .none) hl
  refine tail_any (isList_of hl').typeIs slot_list_getitem.lookup (gi_slice (F.ext (.of_push (SlO vl vu .none))) hl' (Heap.get?_push_size _ rfl) pl pu .none (by simp) hz ?_) hs
  exact fun D h' F' e => h D h' F' ((Ext.of_push _).trans e)
theorem fm_in (a : Int) {c : Int} (hc : 0 < c) : 0 ≤ a.fmod c ∧ a.fmod c < c := ⟨Int.fmod_nonneg_of_pos a hc, Int.fmod_lt_of_pos a hc⟩
local macro_rules | `(tactic| walk_at "mem") => `(tactic| repeat (first | exact .head _ | refine .tail _ ?_))
local macro_rules | `(tactic| walk_at "cel") => do
  let F := Lean.mkIdent `F; let val := Lean.mkIdent `value; let tv := Lean.mkIdent `tv; let L := Lean.mkIdent `L; let o1 := Lean.mkIdent `o1
  `(tactic| ((with_reducible show wpAny _ _ (eval (Expr.Name _ _) _) _ _ _); refine n_cell (hm := Fx.has $F ($L + 1, CX $o1 (some (Value.int $val $tv))) (by walk_at "mem")) (by with_unfolding_all rfl) rfl ?_))
local macro_rules | `(tactic| walk_at "look2") => `(tactic| first
  | with_unfolding_all rfl
  | ((try dsimp only); repeat' (first | assumption | with_reducible exact look_hit rfl | with_reducible refine look_miss (by decide) ?_)))
local macro_rules | `(tactic| walk_at "nm") => do
  let F := Lean.mkIdent `F
  `(tactic| ((with_reducible show wpAny _ _ (eval (Expr.Name _ _) _) _ _ _); first
    | (refine nm_loc (by with_unfolding_all rfl) ?_; refine l_loc $F (by walk_at "look2") ?_)
    | walk_at "cel"
    | walk_at "glob"))
local macro_rules | `(tactic| walk_at "rc") => `(tactic| repeat (first | walk_at "nm" | walk_at "e"))
local macro_rules | `(tactic| walk_at "cel2") => do
  let F := Lean.mkIdent `F; let xv := Lean.mkIdent `xv; let D := Lean.mkIdent `D; let L := Lean.mkIdent `L; let o2 := Lean.mkIdent `o2; let o3 := Lean.mkIdent `o3
  `(tactic| ((with_reducible show wpAny _ _ (eval (Expr.Name _ _) _) _ _ _); first
    | refine n_cell (hm := Fx.has $F ($L + 2, CX $o2 (some (Value.ref $xv))) (by walk_at "mem")) (by with_unfolding_all rfl) rfl ?_
    | refine n_cell (hm := Fx.has $F ($L + 3, CX $o3 (some (Value.ref $D))) (by walk_at "mem")) (by with_unfolding_all rfl) rfl ?_))
local macro_rules | `(tactic| walk_at "nm2") => do
  let F := Lean.mkIdent `F
  `(tactic| ((with_reducible show wpAny _ _ (eval (Expr.Name _ _) _) _ _ _); first
    | (refine nm_loc (by with_unfolding_all rfl) ?_; refine l_loc $F (by walk_at "look2") ?_)
    | walk_at "cel2"
    | walk_at "glob"))
local macro_rules | `(tactic| walk_at "rc2") => `(tactic| repeat (first | walk_at "nm2" | walk_at "e"))
set_option maxHeartbeats 8000000 in
theorem law_spec {items : List Value} {script : List Int} {S : Addr} {nS : Nat} (T : Tp (KK w) mg mb hp) (hS : hp.get? S = some (LO items nS)) (hi : IntsAre items script) (hm : script.length ≤ 63) (hroom : A.depth < 360) (hu : A.units < 500) (hh : A.handled = none) (hfr : A.frames = some [])
    (h : ∀ h' tk, Ext hp h' → Q (.bool true) ⟨h', gs, dr, tk, os⟩) : wpAny (model prog w) A (call (.ref g_law) [.ref S]) Q E ⟨hp, gs, dr, tk, os⟩ := by
  have hl1 := hi.length
  refine wpAny_call ?_
  refine call_fxc (binds := [(Str.ofString "script", .ref S)]) (by walk_at "room") (T.X _ _ (lk g_law (by kernel_rfl))) (by with_unfolding_all rfl) T.nolimit (codeRec_of T.X (by kernel_rfl)) (BindsTo.of_eq (by with_unfolding_all rfl)) ?_ (by decide +kernel) ?_
  · intro n y hy
    rw [List.mem_singleton.mp hy]
    exact .inl (by with_unfolding_all rfl)
  intro L h₁ tk ob F
  replace F : Fx hp L h₁ (fun y => if y = Str.ofString "script" then some (.ref S) else none) [(L + 3, CX (ob (L + 3)) none), (L + 2, CX (ob (L + 2)) none), (L + 1, CX (ob (L + 1)) none)] := F
  generalize ob (L + 1) = o1 at F
  generalize ob (L + 2) = o2 at F
  generalize ob (L + 3) = o3 at F
  walk_at "r"
  refine nl F ?_ (by simp)
  clear F; intro D1 h2 F _
  walk_at "r"
  refine wpAny_Slice ?_
  walk_at "r"
  refine lc_len (F.keep _ _ hS) (by omega) ?_
  intro t3 tk3
  walk_at "r"
  refine sub_cut F F.head (by simp) (.int _ _) .none ?_
  clear F; intro D2 h3 F _
  have h50 : IntsAre [Value.int 50 tk, Value.int 123456 (tk + 1), Value.int 17 (tk + 1 + 1), Value.int 40 (tk + 1 + 1 + 1)] [50, 123456, 17, 40] := .cons _ _ (.cons _ _ (.cons _ _ (.cons _ _ .nil)))
  have hcut := h50.pick (some (items.length : Int)) none none
  have hcl := cutL_length [Value.int 50 tk, Value.int 123456 (tk + 1), Value.int 17 (tk + 1 + 1), Value.int 40 (tk + 1 + 1 + 1)] (some (items.length : Int)) none
  simp only [List.length_cons, List.length_nil] at hcl
  walk_at "r"
  refine lc_add F (F.keep _ _ hS) F.head (by omega) ?_
  clear F; intro DN h4 F _
  have hnums := hi.append hcut
  rw [hl1] at hnums
  obtain ⟨n0, n1, nr, hnr⟩ := nums_two (script := script)
  rw [hnr] at hnums
  generalize hN : items ++ cutL [Value.int 50 tk, Value.int 123456 (tk + 1), Value.int 17 (tk + 1 + 1), Value.int 40 (tk + 1 + 1 + 1)] (some (items.length : Int)) none = NN at F
  have hnums : IntsAre NN (n0 :: n1 :: nr) := by rw [← hN, hl1]; exact hnums
  have hNl : NN.length ≤ 67 := by rw [← hN, List.length_append]; omega
  walk_at "e"
  obtain ⟨b₁, e₁, F₁, hDN⟩ := F.sink
  clear F
  have F := F₁.drop.drop; clear F₁
  replace T := T.up e₁
  walk_at "r"
  have hn0 : ∃ t0, NN[0]? = some (.int n0 t0) := hnums.get 0 n0 rfl
  obtain ⟨t0, hn0⟩ := hn0
  have hn1 : ∃ t0, NN[1]? = some (.int n1 t0) := hnums.get 1 n1 rfl
  obtain ⟨t1, hn1⟩ := hn1
  refine cw_fn T (by kernel_rfl) ?_
  walk_at "r"
  refine sub_list (F.keep _ _ hDN) (by decide) (by decide) hn1 ?_
  walk_at "r"
  refine sub_list (F.keep _ _ hDN) (by decide) (by decide) hn0 ?_
  walk_at "r"
  refine x_mod (by decide) ?_
  obtain ⟨size, hsize, hsz⟩ : ∃ size : Nat, n0.fmod 76 = size ∧ size < 76 := by
    have h1 := Int.fmod_nonneg_of_pos n0 (show (0 : Int) < 76 by decide)
    have h2 := Int.fmod_lt_of_pos n0 (show (0 : Int) < 76 by decide)
    exact ⟨(n0.fmod 76).toNat, (Int.toNat_of_nonneg h1).symm, by omega⟩
  rw [hsize]
  walk_at "r"
  refine ⟨F.keep, ?_⟩
  refine digits_spec (T.up F.keep) (by omega) (by walk_at "room") hh ?_
  intro DR cR rs ns h5 tk5 e5 hDRn hDR hrs hnl
  replace F := F.gain e5 hDRn hDR
  obtain ⟨b₂, e₂, F₂, hDR'⟩ := F.sink
  clear F hDR
  have F := F₂; clear F₂
  have hDR := hDR'; clear hDR'
  replace T := T.up e₂
  replace hDN := e₂ _ _ hDN
  have hrl : rs.length = size := by rw [hrs.length, hnl]
  walk_at "rc"
  refine cw_fn T (by kernel_rfl) ?_
  walk_at "rc"
  refine ⟨F.keep, ?_⟩
  refine pvector_spec (T.up F.keep) (.inl ⟨DR, cR, rfl, F.keep _ _ hDR⟩) (by omega) (by walk_at "room") hh ?_
  intro xw h8 tk8 e8 Vw
  replace F := F.ext e8
  obtain ⟨b₄, e₄, F₄, kp₄⟩ := F.settle (own' := [(L + 3, CX o3 none), (L + 2, CX o2 none), (L + 1, CX o1 none)]) (x := Str.ofString "numbers") (by walk_at "look2") (List.Sublist.refl _) (odd_it (it := []) (fun _ q => nomatch q))
  replace Vw := Vw.kp kp₄
  clear F
  have F := F₄; clear F₄
  replace T := T.up e₄
  replace hDN := e₄ _ _ hDN
  replace hDR := e₄ _ _ hDR
  walk_at "rc"
  refine nl F ?_ (by simp)
  clear F; intro DM h9 F _
  walk_at "rc"
  refine nl F ?_ (by simp)
  clear F; intro DP h10 F _
  walk_at "rc"
  replace F := F.perm (own' := [(L + 1, CX o1 none), (DM, LO [.ref xw] 0), (DP, LO [.ref DR] 0), (L + 3, CX o3 none), (L + 2, CX o2 none)]) (by
    refine (List.Perm.swap _ _ _).trans ?_
    exact ((List.perm_append_comm (l₁ := [_, _, _, _]) (l₂ := [_])))) 
  refine wpAny_For ?_
  walk_at "rc"
  refine cut_list F (F.keep _ _ hDN) (by omega) (.int _ _) (.int _ _) ?_
  clear F; intro D5 h11 F _
  have hq5 : IntsAre (cutL NN (some 2) (some 8)) (pickNums (n0 :: n1 :: nr) (some 2) (some 8) none) := hnums.pick (some 2) (some 8) none
  have hq6 := cutL_length NN (some 2) (some 8)
  obtain ⟨b₅, e₅, F₅, hD5⟩ := F.sink
  clear F
  have F := F₅; clear F₅
  replace T := T.up e₅
  replace hDR := e₅ _ _ hDR
  replace Vw := Vw.up e₅
  have ebase : Ext hp b₅ := e₁.trans (e₂.trans (e₄.trans e₅))
  clear hDN kp₄
  generalize hnn : pickNums (n0 :: n1 :: nr) (some 2) (some 8) none = qs at hq5
  walk_at "rc"
  refine for_enum F hD5 hh (fun i b' m' own' => ∃ xv xs D ys c ns' ms ps c1 c2 v1, m' (Str.ofString "row") = some (.ref D) ∧ m' (Str.ofString "vector") = some (.ref xv) ∧ m' (Str.ofString "made") = some (.ref DM) ∧ m' (Str.ofString "plain") = some (.ref DP) ∧
    VecAt b' xv xs ∧ b'.get? D = some (LO ys c) ∧ IntsAre xs ns' ∧ IntsAre ys ns' ∧ ns'.length ≤ size ∧ Vers b' size ms ps ∧ ms.length ≤ i + 1 ∧ own' = [(L + 1, CX o1 v1), (DM, LO ms c1), (DP, LO ps c2), (L + 3, CX o3 none), (L + 2, CX o2 none)])
    ⟨xw, rs, DR, rs, cR, ns, _, _, _, _, none, by walk_at "look2", by walk_at "look2", by walk_at "look2", by walk_at "look2", Vw, hDR, hrs, hrs, by omega, hnl ▸ Vers.one Vw hDR hrs hrs (by omega), by simp, rfl⟩ ?_ ?_
  · clear F
    rintro i v ti b₆ m₆ own₆ h12 tk10 it E' hit hil hv ⟨xv, xs, D, ys, c, ns', ms, ps, c1, c2, v1, mrow, mvec, mmade, mplain, V, hD, hxs, hys, hle, hvs, hms, rfl⟩ e₆ F
    replace T := T.up e₆
    obtain ⟨nb, tb, rfl⟩ : ∃ nb tb, v = .int nb tb := by
      have hj : i < qs.length := by rw [← hq5.length]; exact hil
      obtain ⟨t, ht⟩ := hq5.get i qs[i] (List.getElem?_eq_getElem hj)
      rw [ht] at hv
      exact ⟨_, _, (Option.some.inj hv).symm⟩
    have hyl := hys.length
    have hxl := hxs.length
    have hi6 : i ≤ 100 := by omega
    walk_at "rc"
    refine lc_len (F.keep _ _ hD) (by omega) ?_
    intro tc tkc
    rw [hyl]
    walk_at "rc"
    refine x_mod (by decide) ?_
    walk_at "rc"
    refine st_cx (c := L + 1) (o := o1) (v₀ := v1) (own := [(DM, LO ms c1), (DP, LO ps c2), (L + 3, CX o3 none), (L + 2, CX o2 none)] ++ it) F (by with_unfolding_all rfl) ?_
    clear F; intro h13 F
    obtain ⟨value, tv, hval, F'⟩ : ∃ value tv, value = nb.fmod 6 ∧ Fx b₆ L h13 _ ((L + 1, CX o1 (some (.int value tv))) :: ([(DM, LO ms c1), (DP, LO ps c2), (L + 3, CX o3 none), (L + 2, CX o2 none)] ++ it)) := ⟨_, _, rfl, F⟩
    clear F
    have F := F'; clear F'
    have hv6 := fm_in nb (c := 6) (by decide)
    rw [← hval] at hv6
    walk_at "rc"
    refine x_fdiv (by decide) (by decide) ?_
    walk_at "rc"
    refine x_mul (mul_okR (by omega)) ?_
    walk_at "rc"
    refine x_mod (by omega) ?_
    walk_at "rc"
    generalize hst : (nb.fdiv 6).fmod (2 * (ns'.length : Int) + 6) - (ns'.length : Int) - 3 = start at F
    refine x_fdiv (by omega) (by omega) ?_
    walk_at "rc"
    refine x_mul (mul_okR (by omega)) ?_
    walk_at "rc"
    refine x_mod (by omega) ?_
    walk_at "rc"
    generalize hsp : ((nb.fdiv 6).fdiv (2 * (ns'.length : Int) + 6) + 7 * (i : Int) + 20).fmod (2 * (ns'.length : Int) + 6) - (ns'.length : Int) - 3 = stop at F
    refine comp_pairs_asg (fun j => ns'.getD j 0 == value) hh (by with_unfolding_all rfl) (cl := [(Str.ofString "value", L + 1)]) (by with_unfolding_all rfl) (by decide +kernel) rfl (by decide +kernel) rfl rfl (by decide) (by decide) (by intro _; rfl) (by with_unfolding_all rfl) (by with_unfolding_all rfl) ?_
    walk_at "rc"
    refine enum_compA value F (F.keep _ _ hD) hys (by omega) hh ?_ rfl ?_
    · intro C j u h₃ gs dr tk os m₃ E' hj hn hm e
      walk_at "e"
      refine c_loc hn hm ?_
      refine c_cell (c := L + 1) (by with_unfolding_all rfl) (e _ _ F.head) ?_
      walk_at "e"
      walk_at "e"
      exact ⟨rfl, h₃, _, rfl, .rfl'⟩
    clear F; intro DS cS ss h14 tk14 F hss
    obtain ⟨b₇, e₇, F₇, hDS⟩ := F.sink
    clear F
    have F := F₇; clear F₇
    replace T := T.up e₇
    replace hD := e₇ _ _ hD
    replace V := V.up e₇
    replace hvs := hvs.up e₇
    have hsl := hss.length
    have hsl2 : (standsI ns' value).length ≤ ns'.length := by rw [stands_len]; exact List.countP_le_length
    walk_at "rc"
    refine wpAny_For ?_
    walk_at "rc"
    refine nl F ?_ (by simp)
    clear F; intro B0 h15 F _
    walk_at "rc"
    refine nl F ?_ (by simp)
    clear F; intro B1 h16 F _
    walk_at "rc"
    refine nl F ?_ (by simp)
    clear F; intro B2 h17 F _
    walk_at "rc"
    refine nl F ?_ (by simp)
    clear F; intro BB h18 F _
    obtain ⟨c1', f1, F₈, hBB⟩ := F.sink
    clear F
    obtain ⟨c2', f2, F₉, hB2⟩ := F₈.sink
    obtain ⟨c3', f3, F₁₀, hB1⟩ := F₉.sink
    obtain ⟨b₈, f4, F, hB0⟩ := F₁₀.sink
    clear F₈ F₉ F₁₀
    have e₈ : Ext b₇ b₈ := f1.trans (f2.trans (f3.trans f4))
    replace hBB := f4 _ _ (f3 _ _ (f2 _ _ hBB))
    replace hB2 := f4 _ _ (f3 _ _ hB2)
    replace hB1 := f4 _ _ hB1
    replace T := T.up e₈
    replace hD := e₈ _ _ hD
    replace V := V.up e₈
    replace hvs := hvs.up e₈
    replace hDS := e₈ _ _ hDS
    clear f1 f2 f3 f4
    walk_at "rc"
    generalize (tkc + 1 + 1 + 1 + 1 + 1 + 1 + 1 + 1 + 1 + 1 + 1 + 1 + 1 + 1) = tst at F hB1 hB2
    generalize (tst + 1 + 1 + 1 + 1 + 1 + 1 + 1 + 1 + 1 + 1 + 1) = tsp at F hB2
    obtain ⟨m₇, own₇, ⟨q1, q2, q3, q4, q5, q6⟩, hown, F'⟩ : ∃ m₇ own₇, (m₇ (Str.ofString "row") = some (.ref D) ∧ m₇ (Str.ofString "vector") = some (.ref xv) ∧ m₇ (Str.ofString "made") = some (.ref DM) ∧ m₇ (Str.ofString "plain") = some (.ref DP) ∧ m₇ (Str.ofString "stands") = some (.ref DS) ∧ m₇ (Str.ofString "count") = some (.int ns'.length tc)) ∧
        own₇ = (L + 1, CX o1 (some (.int value tv))) :: ([(DM, LO ms c1), (DP, LO ps c2), (L + 3, CX o3 none), (L + 2, CX o2 none)] ++ it) ∧ Fx b₈ L h18 m₇ own₇ := ⟨_, _, ⟨by walk_at "look2", by walk_at "look2", by walk_at "look2", by walk_at "look2", by walk_at "look2", by walk_at "look2"⟩, rfl, F⟩
    clear F
    have F := F'; clear F'
    refine for_list F hBB hh (fun _ b' m' own' => b' = b₈ ∧ own' = own₇ ∧ m' (Str.ofString "row") = some (.ref D) ∧ m' (Str.ofString "vector") = some (.ref xv) ∧ m' (Str.ofString "made") = some (.ref DM) ∧ m' (Str.ofString "plain") = some (.ref DP) ∧ m' (Str.ofString "stands") = some (.ref DS) ∧ m' (Str.ofString "count") = some (.int ns'.length tc)) ⟨rfl, rfl, q1, q2, q3, q4, q5, q6⟩ ?_ ?_
    · clear F
      rintro j v b₁ m₁ own₁ h20 tk20 it2 E' hjl hjv ⟨rfl, rfl, r1, r2, r3, r4, r5, r6⟩ e9 F
      obtain ⟨B, bs, nB, lo, hi2, low, high, rfl, hBo, hIx, hLH⟩ : ∃ B bs nB lo hi2 low high, v = .ref B ∧ b₁.get? B = some (LO bs nB) ∧ IxB ns'.length bs lo hi2 ∧ LowHigh ns'.length bs low high := by
        match j, hjv with
        | 0, hjv => cases hjv; exact ⟨_, _, _, _, _, _, _, rfl, hB0, .none, .none⟩
        | 1, hjv => cases hjv; exact ⟨_, _, _, _, _, _, _, rfl, hB1, .one _ _, .one _ _⟩
        | 2, hjv => cases hjv; exact ⟨_, _, _, _, _, _, _, rfl, hB2, .two _ _ _ _, .two _ _ _ _⟩
        | j + 3, hjv => cases hjv
      subst hown
      walk_at "rc"
      refine cw_fn T (by kernel_rfl) ?_
      walk_at "rc"
      refine ⟨F.keep, ?_⟩
      have eb : Ext b₁ (hideAll h20 [L]) := fun c o q => hideAll_get _ (F.keep c o q) (fun z => by rw [List.mem_singleton.mp z, F.lout] at q; cases q)
      refine lindex_spec (base := hideAll h20 [L]) (T.up eb) (V.up eb) hxs (by omega) (by omega) (eb _ _ hBo) hIx (fun _ _ e => of_hideAll _ e) (Around.frames_deeper hfr) (frames_of F (by with_unfolding_all decide) (hideAll_none _ (.head _)) trivial) (by walk_at "room") hh ?_
      intro h21 tk21 v1 ek u g1 g2
      have F2 := F.slots eb (fun p hp => hideAll_get _ (F.has p hp) (fun z => F.notL hp (List.mem_singleton.mp z))) ek u
      clear F
      have F := F2; clear F2
      walk_at "rc"
      refine cw_fn T (by kernel_rfl) ?_
      walk_at "rc"
      refine ⟨F.keep, ?_⟩
      refine first_spec (T.up F.keep) (F.keep _ _ hDS) hss (by omega) (F.keep _ _ hBo) hLH (by walk_at "room") hh ?_
      intro h22 tk22 v2 e22 g3 g4
      replace F := F.ext e22
      rw [first_index (by omega) hIx hLH] at g3 g4
      rcases int_ne_ok g1 g2 g3 g4 with ⟨rfl, rfl⟩ | ⟨jj, t, u2, rfl, rfl⟩
      · refine EqNone.ne_none_none ?_
        walk_at "rc"
        rw [if_neg (by decide)]
        walk_at "rc"
        exact ⟨_, _, b₁, _, _, rfl, .rfl', F, rfl, rfl, by walk_at "look2", by walk_at "look2", by walk_at "look2", by walk_at "look2", by walk_at "look2", by walk_at "look2"⟩
      · walk_at "rc"
        rw [if_neg (by simp)]
        walk_at "rc"
        exact ⟨_, _, b₁, _, _, rfl, .rfl', F, rfl, rfl, by walk_at "look2", by walk_at "look2", by walk_at "look2", by walk_at "look2", by walk_at "look2", by walk_at "look2"⟩
    clear F q1 q2 q3 q4 q5 q6
    rintro h23 tk23 bq m₈ own' ⟨rfl, rfl, q1, q2, q3, q4, q5, q6⟩ _ F
    subst hown
    walk_at "rc"
    obtain ⟨dx, _, _, _, _, _, _, _, hx, hdx, _⟩ := V.len
    refine gm_count (T.up F.keep).X (F.keep _ _ hx) (F.keep _ _ hdx) ?_
    refine cw_fn T (by kernel_rfl) ?_
    walk_at "rc"
    refine ⟨F.keep, ?_⟩
    refine count_spec (T.up F.keep) (V.up F.keep) hxs (by omega) (by walk_at "room") hh ?_
    intro h24 tk24 t24 e24
    replace F := F.ext e24
    walk_at "rc"
    refine lc_len (F.keep _ _ hDS) (by omega) ?_
    intro t25 tk25
    walk_at "rc"
    rw [if_neg (by rw [hsl, stands_len]; simp)]
    walk_at "rc"
    refine vec_in (T.up F.keep) (V.up F.keep) hxs (by omega) (by walk_at "room") hh ?_
    intro h25 tk26 e25
    replace F := F.ext e25
    walk_at "rc"
    refine nl F ?_ (by simp)
    clear F; intro Dz h26 F _
    walk_at "rc"
    refine ke_ne_ints (isList_of (F.keep _ _ hDS)) (isList_of F.head) hss .nil (by simp only [Around.deeper, cLine]; omega) ?_
    rw [stands_any]
    refine wpAny_isNot_self rfl ?_
    replace F := F.drop
    walk_at "rc"
    rw [if_neg (by decide)]
    walk_at "rc"
    rw [if_neg (by decide)]
    walk_at "rc"
    refine wpAny_mono (Q := fun f s' => f = .next ∧ ∃ h' tk' m' lv b₉, s' = ⟨h', gs, dr, tk', os⟩ ∧ Ext bq b₉ ∧ Fx b₉ L h' m' ((L + 1, CX o1 (some (.int value tv))) :: ([(DM, LO ms c1), (DP, LO ps c2), (L + 3, CX o3 none), (L + 2, CX o2 none)] ++ it)) ∧
      m' (Str.ofString "row") = some (.ref D) ∧ m' (Str.ofString "vector") = some (.ref xv) ∧ m' (Str.ofString "made") = some (.ref DM) ∧ m' (Str.ofString "plain") = some (.ref DP) ∧ m' (Str.ofString "stands") = some (.ref DS) ∧ m' (Str.ofString "left") = some lv ∧
      ((ns'.findIdx? (· == value) = none ∧ lv = .none) ∨ ∃ j x', ns'.findIdx? (· == value) = some j ∧ lv = .ref x' ∧ VecAt b₉ x' (xs.eraseIdx j))) ?_ ?_ fun _ _ z => z
    · refine wpAny_Try_except ?_
      walk_at "rc"
      refine gm_remove (T.up F.keep).X (F.keep _ _ hx) (F.keep _ _ hdx) ?_
      refine cw_fn T (by kernel_rfl) ?_
      walk_at "rc"
      refine ⟨F.keep, ?_⟩
      refine remove_spec (base := hideAll h26 [L]) (T.up F.keep) (V.up F.keep) hxs (by omega) (by walk_at "room") hh (Around.frames_deeper hfr) (fun _ _ e => of_hideAll _ e) (frames_of F (by with_unfolding_all decide) (hideAll_none _ (.head _)) trivial) ?_ ?_
      · intro j x' h27 tk27 hj e27 V'
        replace F := F.ext e27
        have hmem : ∀ p ∈ (L + 1, CX o1 (some (.int value tv))) :: ([(DM, LO ms c1), (DP, LO ps c2), (L + 3, CX o3 none), (L + 2, CX o2 none)] ++ it), (∃ v, p.2.data = .cell v) ∨ (∃ vs, p.2.data = .fields vs) ∨ p.1 ∈ [DM, DP] := by
          intro p hp
          simp only [List.mem_cons, List.mem_append, List.not_mem_nil, or_false] at hp
          rcases hp with rfl | (rfl | rfl | rfl | rfl) | hp
          · exact .inl ⟨_, rfl⟩
          · exact .inr (.inr (.head _))
          · exact .inr (.inr (.tail _ (.head _)))
          · exact .inl ⟨_, rfl⟩
          · exact .inl ⟨_, rfl⟩
          · exact .inr (.inl (hit p hp))
        obtain ⟨b₉, e₉, F₉, kp₉⟩ := F.settlex [DM, DP] (x := Str.ofString "stands") q5 (List.Sublist.refl _) hmem
        have hjl := (stands_some hj).1
        replace V' := V'.kpx kp₉ (erase_ints hxs j) (by
          intro D0 hD0
          have hle2 : (xs.eraseIdx j).length < size := by
            rw [List.length_eraseIdx, if_pos (by omega)]; omega
          rcases List.mem_cons.mp hD0 with rfl | hD0
          · exact hvs.aside1 F.keep (F.has (D0, LO ms c1) (by walk_at "mem")) _
          · rw [List.mem_singleton.mp hD0]
            exact hvs.aside2 F.keep (F.has (DP, LO ps c2) (by walk_at "mem")) hle2)
        clear F
        have F := F₉; clear F₉
        walk_at "rc"
        exact ⟨rfl, _, _, _, _, b₉, rfl, e₉, F, by walk_at "look2", by walk_at "look2", by walk_at "look2", by walk_at "look2", by walk_at "look2", by walk_at "look2", .inr ⟨j, x', hj, rfl, V'⟩⟩
      · intro hj e h27 tk27 th
        refine caught F T (fun c o q => hideAll_get _ (F.keep c o q) (fun z => by rw [List.mem_singleton.mp z, F.lout] at q; cases q)) (fun p hp => hideAll_get _ (F.has p hp) (fun z => F.notL hp (List.mem_singleton.mp z))) (Around.frames_deeper hfr) th (by kernel_rfl) (by kernel_rfl) (by decide) Rz.ve1 Rz.ve2 Rz.ve3 ?_
        clear F
        intro h28 tk28 E'' F _ _ _
        walk_at "rc"
        exact ⟨rfl, _, _, _, _, bq, rfl, .rfl', F, by walk_at "look2", by walk_at "look2", by walk_at "look2", by walk_at "look2", by walk_at "look2", by walk_at "look2", .inl ⟨hj, rfl⟩⟩
    clear F q1 q2 q3 q4 q5 q6
    rintro f s' ⟨rfl, h29, tk29, m₉, lv, b₉, rfl, e₉, F, q1, q2, q3, q4, q5, q6, hlv⟩
    replace T := T.up e₉
    replace hD := e₉ _ _ hD
    replace V := V.up e₉
    replace hvs := hvs.up e₉
    replace hDS := e₉ _ _ hDS
    refine nx_next ?_
    walk_at "rc"
    refine nl F ?_ (by simp)
    clear F; intro Dz2 h30 F _
    walk_at "rc"
    refine ke_eq_ints (isList_of (F.keep _ _ hDS)) (isList_of F.head) hss .nil (by simp only [Around.deeper, cLine]; omega) ?_
    replace F := F.drop
    rcases hlv with ⟨hno, rfl⟩ | ⟨j, x', hj, rfl, V'⟩
    · rw [stands_none hno, decide_eq_true rfl]
      walk_at "rc"
      rw [if_pos rfl]
      walk_at "rc"
      rw [if_neg (by decide)]
      walk_at "rc"
      refine wpAny_Continue (nx_cont ?_)
      exact ⟨_, _, b₉, _, _, rfl, e₇.trans (e₈.trans e₉), F, xv, xs, D, ys, c, ns', ms, ps, c1, c2, _, q1, q2, q3, q4, V, hD, hxs, hys, hle, hvs, by omega, rfl⟩
    · obtain ⟨hjl, r, hr⟩ := stands_some hj
      rw [hr, decide_eq_false (by simp)]
      have hs0 : ∃ t0, ss[0]? = some (.int j t0) := hss.get 0 j (by rw [hr]; rfl)
      obtain ⟨ts0, hs0⟩ := hs0
      walk_at "rc"
      rw [if_neg (by decide)]
      walk_at "rc"
      rw [if_neg (by decide)]
      walk_at "rc"
      refine sub_list (F.keep _ _ hDS) (by decide) (by decide) hs0 ?_
      walk_at "rc"
      refine cut_list F (F.keep _ _ hD) (by omega) .none (.int _ _) ?_
      clear F; intro Da h31 F _
      walk_at "rc"
      refine sub_list (F.keep _ _ hDS) (by decide) (by decide) hs0 ?_
      walk_at "rc"
      refine cut_list F (F.keep _ _ hD) (by omega) (.int _ _) .none ?_
      clear F; intro Db h32 F _
      have hca := cutL_length ys none (some (j : Int))
      have hcb := cutL_length ys (some ((j : Int) + 1)) none
      walk_at "rc"
      refine lc_add F F.head2 F.head (by omega) ?_
      clear F; intro Dn h33 F _
      have hyn := halves_ints hys j
      generalize cutL ys none (some (j : Int)) ++ cutL ys (some ((j : Int) + 1)) none = yn at F hyn
      obtain ⟨b₁₀, e₁₀, F₁₀, hDn⟩ := F.sink
      clear F
      have F := F₁₀.drop.drop; clear F₁₀
      replace T := T.up e₁₀
      replace V' := V'.up e₁₀
      replace hvs := hvs.up e₁₀
      have hxn := erase_ints hxs j
      have hle3 : (ns'.eraseIdx j).length ≤ size := by
        have := List.length_eraseIdx_le ns' j; omega
      have hvs2 := hvs.push (m := .ref x') (p := .ref Dn) ⟨x', xs.eraseIdx j, Dn, yn, 0, ns'.eraseIdx j, rfl, rfl, V', hDn, hxn, hyn, by omega⟩
      have hml := hvs.len
      walk_at "rc"
      replace F := F.swap
      refine gm_list F.head PySem.F.slot_list_append (by with_unfolding_all rfl) ?_
      walk_at "rc"
      refine lc_append F (by omega) ?_
      clear F; intro h34 n34 F
      walk_at "rc"
      replace F := F.rot3
      refine gm_list F.head PySem.F.slot_list_append (by with_unfolding_all rfl) ?_
      walk_at "rc"
      refine lc_append F (by omega) ?_
      clear F; intro h35 n35 F
      walk_at "rc"
      replace F := F.rot3.perm (.cons _ (.swap _ _ _))
      exact ⟨_, _, b₁₀, _, [(L + 1, CX o1 (some (.int value tv))), (DM, LO (ms ++ [.ref x']) n34), (DP, LO (ps ++ [.ref Dn]) n35), (L + 3, CX o3 none), (L + 2, CX o2 none)], rfl, e₇.trans (e₈.trans (e₉.trans e₁₀)), F, x', xs.eraseIdx j, Dn, yn, 0, ns'.eraseIdx j, _, _, n34, n35, _, by walk_at "look2", by walk_at "look2", by walk_at "look2", by walk_at "look2", V', hDn, hxn, hyn, hle3, hvs2, by simp; omega, rfl⟩
  · clear F
    rintro h12 tk12 b' m' own' ⟨xv, xs, D, ys, c, ns', ms, ps, c1, c2, v1, mrow, mvec, mmade, mplain, V, hD, hxs, hys, hle, hvs, hms, rfl⟩ e' F
    clear V hD hxs hys hle mrow mvec
    replace T := T.up e'
    walk_at "r"
    replace F := F.swap
    obtain ⟨b₆, e₆, F₆, hM⟩ := F.sink
    clear F
    replace F₆ := F₆.swap
    obtain ⟨b₇, e₇, F₇, hP⟩ := F₆.sink
    clear F₆
    have F := F₇.perm (own' := [(L + 2, CX o2 none), (L + 3, CX o3 none), (L + 1, CX o1 v1)]) (List.reverse_perm [(L + 2, CX o2 none), (L + 3, CX o3 none), (L + 1, CX o1 v1)])
    clear F₇
    replace hM := e₇ _ _ hM
    replace T := T.up (e₆.trans e₇)
    replace hvs := hvs.up (e₆.trans e₇)
    have ebase2 : Ext hp b₇ := ebase.trans (e'.trans (e₆.trans e₇))
    refine wpAny_For ?_
    walk_at "rc"
    refine for_zip F hM hP hvs.len hh (fun _ _ => True) trivial ?_ ?_ rfl rfl
    · clear F
      intro i w1 w2 m₁ h13 tk13 it E' hil hw1 hw2 _ F
      obtain ⟨xv, xs, D, ys, c, ns', rfl, rfl, V, hD, hxs, hys, hle⟩ := hvs.ok i w1 w2 hw1 hw2
      have hxl := hxs.length
      have hyl := hys.length
      obtain ⟨dx, _, _, _, _, _, _, _, hx, hdx, _⟩ := V.len
      walk_at "rc2"
      refine len_vec (T.up F.keep) (V.up F.keep) (by omega) (by walk_at "room") ?_
      intro h14 tk14 t14 e14
      replace F := F.ext e14
      walk_at "rc2"
      refine lc_len (F.keep _ _ hD) (by omega) ?_
      intro t15 tk15
      walk_at "rc2"
      rw [if_neg (by simp; omega)]
      walk_at "rc2"
      refine gm_tolist (T.up F.keep).X (F.keep _ _ hx) (F.keep _ _ hdx) ?_
      refine cw_fn0 T F.keep (by kernel_rfl) ?_
      refine vec_tolist (T.up F.keep) (V.up F.keep) (by omega) (by walk_at "room") hh ?_
      intro Dt ct h16 tk16 e16 hDn hDt
      replace F := F.gain e16 hDn hDt
      walk_at "rc2"
      refine ke_ne_ints (isList_of hDt) (isList_of (F.keep _ _ hD)) hxs hys (by simp only [Around.deeper, cLine]; omega) ?_
      walk_at "rc2"
      rw [if_neg (by simp)]
      walk_at "rc2"
      rw [if_neg (by decide)]
      replace F := F.drop
      have hr1 := rsize_bound (x := -1) (y := -(ys.length : Int) - 1) (z := -17) (by omega) (by omega) (by decide)
      obtain ⟨n1, hn1⟩ : ∃ n1 : Nat, Builtin.Range.rangeSize (-1) (-(ys.length : Int) - 1) (-17) = n1 := ⟨_, (Int.toNat_of_nonneg hr1.1).symm⟩
      have hr2 := rsize_bound (x := 0) (y := (ys.length : Int)) (z := 29) (by omega) (by omega) (by decide)
      obtain ⟨n2, hn2⟩ : ∃ n2 : Nat, Builtin.Range.rangeSize 0 (ys.length : Int) 29 = n2 := ⟨_, (Int.toNat_of_nonneg hr2.1).symm⟩
      have hb1 : ∀ i : Nat, i < n1 → 17 * (i : Int) ≤ (ys.length : Int) - 1 := fun i hi => rs_down (by omega) i (by rw [hn1]; omega)
      have hb2 : ∀ i : Nat, i < n2 → 29 * (i : Int) ≤ (ys.length : Int) - 1 := fun i hi => rs_up (by omega) i (by rw [hn2]; omega)
      have hs1 : n1 ≤ 2000 := by
        rcases Nat.eq_zero_or_pos n1 with q | q
        · omega
        · have := hb1 (n1 - 1) (by omega); omega
      have hs2 : n2 ≤ 2000 := by
        rcases Nat.eq_zero_or_pos n2 with q | q
        · omega
        · have := hb2 (n2 - 1) (by omega); omega
      walk_at "rc2"
      refine lc_len (F.keep _ _ hD) (by omega) ?_
      intro t17 tk17
      walk_at "rc2"
      refine rg3 F (by decide) (by decide) (by omega) (by decide) ?_
      clear F; intro r1 h18 F _
      walk_at "rc2"
      refine lc_range F F.head (rsmall (by decide) (by omega) (by decide) (by decide)) hn1 (by omega) hh ?_
      clear F; intro D1 c1 ys1 h19 tk19 F _ hy1
      walk_at "rc2"
      refine lc_len (F.keep _ _ hD) (by omega) ?_
      intro t20 tk20
      walk_at "rc2"
      refine rg3 F (by decide) (by decide) (by omega) (by decide) ?_
      clear F; intro r2 h21 F _
      walk_at "rc2"
      refine lc_range F F.head (rsmall (by decide) (by omega) (by decide) (by decide)) hn2 (by omega) hh ?_
      clear F; intro D2 c2 ys2 h22 tk22 F _ hy2
      have hz1 := hy1.length
      have hz2 := hy2.length
      simp only [rangeL, List.length_map, List.length_range] at hz1 hz2
      walk_at "rc2"
      refine lc_add F F.head3 F.head (by omega) ?_
      clear F; intro D3 h23 F _
      have hy3 := hy1.append hy2
      have hin : ∀ k ∈ rangeL (-1) (-17) n1 ++ rangeL 0 29 n2, -(ns'.length : Int) ≤ k ∧ k < ns'.length := fun k hk => by
        rcases List.mem_append.mp hk with hk | hk
        · obtain ⟨i, hi, rfl⟩ := List.mem_map.mp hk
          have := hb1 i (List.mem_range.mp hi)
          omega
        · obtain ⟨i, hi, rfl⟩ := List.mem_map.mp hk
          have := hb2 i (List.mem_range.mp hi)
          omega
      walk_at "rc2"
      refine comp_list (fun _ => true) (rowAt ns') hh (cl := [(Str.ofString "version", L + 2)]) (by with_unfolding_all rfl) (by decide +kernel) rfl (by decide +kernel) rfl (by intro _; rfl) ?_
      walk_at "rc2"
      refine ⟨D3, ys1 ++ ys2, 0, _, _, _, _, _, _, _, _, _, _, rfl, rfl, F.head, hy3, by simp [rangeL]; omega, F, ⟨fun C k t h₃ gs dr tk os m₃ E' hk hn hm e => wpAny_pure (a := true) ⟨rfl, _, _, rfl, .rfl'⟩, fun C k t h₃ gs dr tk os m₃ E' hk _ hn hm e => ?_⟩, ?_⟩
      · refine Subscript_ ?_
        refine c_cell (c := L + 2) (by with_unfolding_all rfl) (e _ _ (F.has (L + 2, CX o2 (some (Value.ref xv))) (by walk_at "mem"))) ?_
        refine c_loc hn hm ?_
        refine sub_vec ((T.up F.keep).up e) ((V.up F.keep).up e) ?_
        obtain ⟨t', ht⟩ := ints_at hxs (hin k hk).1 (hin k hk).2
        have hk2 := hin k hk
        refine getitem_int_spec ((T.up F.keep).up e) ((V.up F.keep).up e) (by omega) (by omega) (by omega) ht (by walk_at "room") hh ?_
        intro h' tk' e'
        exact ⟨⟨t', rfl⟩, h', tk', rfl, e'⟩
      clear F; intro D4 c4 ys4 h24 tk24 F _ _ hy4
      walk_at "rc2"
      refine comp_list (fun _ => true) (rowAt ns') hh (cl := [(Str.ofString "told", L + 3)]) (by with_unfolding_all rfl) (by decide +kernel) rfl (by decide +kernel) rfl (by intro _; rfl) ?_
      walk_at "rc2"
      refine ⟨D3, ys1 ++ ys2, 0, _, _, _, _, _, _, _, _, _, _, rfl, rfl, F.head2, hy3, by simp [rangeL]; omega, F, ⟨fun C k t h₃ gs dr tk os m₃ E' hk hn hm e => wpAny_pure (a := true) ⟨rfl, _, _, rfl, .rfl'⟩, fun C k t h₃ gs dr tk os m₃ E' hk _ hn hm e => ?_⟩, ?_⟩
      · refine Subscript_ ?_
        refine c_cell (c := L + 3) (by with_unfolding_all rfl) (e _ _ (F.has (L + 3, CX o3 (some (Value.ref D))) (by walk_at "mem"))) ?_
        refine c_loc hn hm ?_
        obtain ⟨t', ht⟩ := ints_at hys (hin k hk).1 (hin k hk).2
        have hk2 := hin k hk
        refine sub_at (e _ _ (F.keep _ _ hD)) (by omega) (by omega) (by omega) ht ?_
        exact ⟨⟨t', rfl⟩, h₃, _, rfl, .rfl'⟩
      clear F; intro D5 c5 ys5 h25 tk25 F _ _ hy5
      walk_at "rc2"
      refine ke_ne_ints (isList_of F.head2) (isList_of F.head) hy4 hy5 (by simp only [Around.deeper, cLine]; omega) ?_
      walk_at "rc2"
      rw [if_neg (by simp)]
      walk_at "rc2"
      exact ⟨_, _, _, _, _, rfl, F.drop.drop.drop.drop.drop.drop.drop, trivial⟩
    · clear F
      intro h13 tk13 m₁ w1 w2 _ F
      walk_at "rc"
      exact h _ _ (ebase2.trans F.keep)
end
theorem list_of_well {P : Params} {h : Heap} {S : Addr} {items : List Value} {D : WData} {xs : List WData} (hL : h.IsList S items.toArray) (w : Well P h (.ref S) D) (e : D = .list xs) : h.get? S = some (LO items 0) := by
  subst e
  cases w with
  | list hg hw =>
    obtain ⟨o, ho, hc, ne, hd⟩ := hL
    rw [hg] at ho
    have := Option.some.inj ho
    subst this
    have hd' : Data.seq _ _ = Data.seq items.toArray ne := hd
    injection hd' with h1 h2
    rw [hg, h1]
end Mine
open Mine
set_option maxHeartbeats 8000000 in
theorem PySem.Challenge.cw_md0019_04_holds : PySem.Challenge.rw_md0019_04.Holds := by
  w_on
  o_law
  refine holds_open (q := vw) (loose := vl) (Xt := fun s => xlAt vw vv s && recOk (RowW.records PySem.Challenge.rw_md0019_04.row.toRowW) s) (XP := XL vw vv) (Yf := Hook.obs (kHook KF KA KA_is)) (Ya := Hook.val (kHook KF KA KA_is)) (YP := Hook.says (kHook KF KA KA_is)) (N := 4742)
    left_is (Hook.of (kHook KF KA KA_is)) (Hook.keeps (kHook KF KA KA_is)) (fun s e => xl_of s (Bool.and_eq_true_iff.mp e).1) XL.keeps (by rfl) (by rfl) (by rfl) (fun s e => recFacts_of (Bool.and_eq_true_iff.mp e).2) (by rfl) (by first | assumption | decide +kernel) (by decide +kernel) ⟨rfl, rfl, rfl, rfl, rfl, by decide +kernel⟩ ?hw ?hc
  case hw => w_witness2
  intro w s₀ s₁ mg mb G Y fa o pm cd doc dV kV ho hd hcd hD hmg hg args vals as hpre hlay hrd hwl hlo
  have KX := kIn_of Y
  refine Ground.open G ?_
  intro T B D TE TW
  clear hD TE TW B hd ho hcd Y D
  have hfa : fa = g_law := by
    have q := mg_of (n := Str.ofString "law") (v := .ref g_law) KX T.g (by kernel_rfl)
    have hmg' : mg (Str.ofString "law") = some (.ref fa) := hmg
    rw [q] at hmg'
    cases hmg'
    rfl
  clear hmg G
  subst hfa
  wrow_args hpre hlay hrd hwl hlo
  rename_i script hs hlay0 hL1 hr1 hl2 as4 as3 S items as0 hL ra w1 r0 hI hr hcond hcond2
  have hS := list_of_well hL w1 rfl
  obtain ⟨hp, gs, dr, tk, os⟩ := s₁
  dsimp only at hg hS KX T
  show wpAny _ _ (call (.ref g_law) [.ref S]) _ _ _
  refine law_spec ⟨KX, T.g, T.b, T.nolimit, T.builtins⟩ hS hI (by omega) (by decide) (by decide) rfl rfl ?_
  intro h' tk' e
  refine GoodW.toG ⟨.inl ⟨.bool true, .bool true, [], rfl, ?_, .bool true, ?_, unshared_nil⟩, e, rfl, hg⟩
  · intro cls
    rfl
  · kernel_rfl
