import PyProof.Rows.All
import Wide.All
import OpenK.AllK
import Wide.FinOn
import PySem.Challenge.RW_md0019_05
open PySem PySem.W PyProof.Rows PySem.Calls
set_option Elab.async false
set_option maxRecDepth 100000
set_option linter.unusedVariables false
namespace Mine
/-- everything of the one heap stands in the other -/
abbrev Ext (h h' : Heap) : Prop := ∀ b o, h.get? b = some o → h'.get? b = some o
theorem Ext.rfl' {h : Heap} : Ext h h := fun _ _ e => e
theorem Ext.trans {h₁ h₂ h₃ : Heap} (x : Ext h₁ h₂) (y : Ext h₂ h₃) : Ext h₁ h₃ := fun b o e => y b o (x b o e)
theorem Ext.none {h h' : Heap} {a : Addr} (x : Ext h h') (e : h'.get? a = .none) : h.get? a = .none := by
  cases q : h.get? a with
  | none => rfl
  | some o => rw [x _ _ q] at e; cases e
theorem Ext.push {h h' : Heap} (x : Ext h h') (o : Obj) : Ext h (h'.push o) := fun b o' e => Heap.get?_push_of_some o (x b o' e)
theorem Ext.of_push {h : Heap} (o : Obj) : Ext h (h.push o) := fun _ _ e => Heap.get?_push_of_some o e

/-- the frame at L: its names m, all of b as it was, and the call's own objects -/
structure Fx (b : Heap) (L : Addr) (h : Heap) (m : Str → Option Value) (own : List (Addr × Obj)) : Prop where
  ns : h.Ns L m
  keep : Ext b h
  lout : b.get? L = none
  has : ∀ p ∈ own, h.get? p.1 = some p.2
  out : ∀ p ∈ own, b.get? p.1 = none
  nodup : (L :: own.map (·.1)).Nodup

section
variable {b h h' : Heap} {L a : Addr} {m m' : Str → Option Value} {own own' : List (Addr × Obj)} {o o' : Obj}
theorem Fx.notL (F : Fx b L h m own) {p : Addr × Obj} (hp : p ∈ own) : p.1 ≠ L := fun e =>
  (List.nodup_cons.mp F.nodup).1 (List.mem_map.mpr ⟨p, hp, e⟩)
theorem Fx.store (F : Fx b L h m own) (hn : h'.Ns L m') (hs : Heap.SameBut L h h') : Fx b L h' m' own :=
  ⟨hn, fun c oc e => (hs.2 c (fun q => by rw [q, F.lout] at e; cases e)).trans (F.keep c oc e), F.lout, fun p hp => (hs.2 p.1 (F.notL hp)).trans (F.has p hp), F.out, F.nodup⟩
theorem Fx.ext (F : Fx b L h m own) (e : Ext h h') : Fx b L h' m own :=
  ⟨F.ns.keeps e, F.keep.trans e, F.lout, fun p hp => e _ _ (F.has p hp), F.out, F.nodup⟩
theorem Fx.head (F : Fx b L h m ((a, o) :: own)) : h.get? a = some o := F.has _ (.head _)
theorem Fx.head2 {a₂ : Addr} {o₂ : Obj} (F : Fx b L h m ((a, o) :: (a₂, o₂) :: own)) : h.get? a₂ = some o₂ := F.has _ (.tail _ (.head _))
theorem Fx.head3 {a₂ a₃ : Addr} {o₂ o₃ : Obj} (F : Fx b L h m ((a, o) :: (a₂, o₂) :: (a₃, o₃) :: own)) : h.get? a₃ = some o₃ := F.has _ (.tail _ (.tail _ (.head _)))
theorem Fx.drop (F : Fx b L h m ((a, o) :: own)) : Fx b L h m own :=
  ⟨F.ns, F.keep, F.lout, fun p hp => F.has p (.tail _ hp), fun p hp => F.out p (.tail _ hp), by
    have := F.nodup; simp only [List.map_cons, List.nodup_cons, List.mem_cons, not_or] at this ⊢; exact ⟨this.1.2, this.2.2⟩⟩
theorem Fx.perm (F : Fx b L h m own) (hp : own.Perm own') : Fx b L h m own' :=
  ⟨F.ns, F.keep, F.lout, fun p q => F.has p (hp.mem_iff.mpr q), fun p q => F.out p (hp.mem_iff.mpr q), ((hp.map _).cons L).nodup_iff.mp F.nodup⟩
theorem Fx.swap {p q : Addr × Obj} (F : Fx b L h m (p :: q :: own)) : Fx b L h m (q :: p :: own) := F.perm (.swap _ _ _)
theorem Fx.fresh (F : Fx b L h m own) : b.get? h.objs.size = none ∧ L ≠ h.objs.size ∧ ∀ p ∈ own, p.1 ≠ h.objs.size := by
  refine ⟨?_, Nat.ne_of_lt F.ns.lt, fun p hp => Nat.ne_of_lt (Heap.lt_size (F.has p hp))⟩
  cases q : b.get? h.objs.size with
  | none => rfl
  | some o => exact absurd (Heap.lt_size (F.keep _ _ q)) (Nat.lt_irrefl _)
theorem Fx.gain (F : Fx b L h m own) (e : Ext h h') (ha : h.get? a = none) (hal : h'.get? a = some o) : Fx b L h' m ((a, o) :: own) := by
  have F' := F.ext e
  refine ⟨F'.ns, F'.keep, F.lout, fun p hp => ?_, fun p hp => ?_, ?_⟩
  · rcases List.mem_cons.mp hp with rfl | hp
    · exact hal
    · exact F'.has p hp
  · rcases List.mem_cons.mp hp with rfl | hp
    · cases q : b.get? a with
      | none => rfl
      | some o => rw [F.keep _ _ q] at ha; cases ha
    · exact F.out p hp
  · have nd := F.nodup
    have hl : L ≠ a := fun q => by obtain ⟨oL, _, _, hL, _⟩ := F.ns; rw [q, ha] at hL; cases hL
    have ho : a ∉ own.map (·.1) := fun q => by
      obtain ⟨p, hp, e⟩ := List.mem_map.mp q
      have := F.has p hp
      rw [e, ha] at this; cases this
    simp only [List.map_cons, List.nodup_cons, List.mem_cons, not_or] at nd ⊢
    exact ⟨⟨hl, nd.1⟩, ho, nd.2⟩
theorem none_at_size (h : Heap) : h.get? h.objs.size = none := by
  cases q : h.get? h.objs.size with
  | none => rfl
  | some o => exact absurd (Heap.lt_size q) (Nat.lt_irrefl _)
theorem Fx.push (F : Fx b L h m own) (o : Obj) (ho : o.isFreed = false := by with_unfolding_all rfl) : Fx b L (h.push o) m ((h.objs.size, o) :: own) :=
  F.gain (.of_push o) (none_at_size h) (Heap.get?_push_size _ ho)
/-- one own object turned, all else kept -/
theorem Fx.turn (F : Fx b L h m ((a, o) :: own)) (e : ∀ c oc, c ≠ a → h.get? c = some oc → h'.get? c = some oc) (ha : h'.get? a = some o') : Fx b L h' m ((a, o') :: own) := by
  have hL : L ≠ a := fun q => F.notL (p := (a, o)) (.head _) q.symm
  obtain ⟨oL, es, ep, gL, r⟩ := F.ns
  refine ⟨⟨oL, es, ep, e _ _ hL gL, r⟩, fun c oc q => e c oc (fun z => ?_) (F.keep c oc q), F.lout, fun p hp => ?_, fun p hp => ?_, F.nodup⟩
  · have := F.out (a, o) (.head _); rw [z] at q; rw [q] at this; cases this
  · rcases List.mem_cons.mp hp with rfl | hp
    · exact ha
    · refine e _ _ (fun z => ?_) (F.has p (.tail _ hp))
      have nd := F.nodup
      simp only [List.map_cons, List.nodup_cons] at nd
      exact nd.2.1 (List.mem_map.mpr ⟨p, hp, z⟩)
  · rcases List.mem_cons.mp hp with rfl | hp
    · exact F.out (a, o) (.head _)
    · exact F.out p (.tail _ hp)
theorem Fx.turnS (F : Fx b L h m ((a, o) :: own)) (e : Heap.SameBut a h h') (ha : h'.get? a = some o') : Fx b L h' m ((a, o') :: own) :=
  F.turn (fun c oc n q => (e.2 c n).trans q) ha
theorem Fx.upd (F : Fx b L h m ((a, o) :: own)) (f : Obj → Obj) (hf : (f o).isFreed = false := by with_unfolding_all rfl) : Fx b L (h.update a f) m ((a, f o) :: own) :=
  F.turnS (.update ..) (Heap.get?_update_self _ F.head hf)
/-- a new base: all that stands but the frame's names and what is still the call's own -/
theorem Fx.freeze (F : Fx b L h m own) (own' : List (Addr × Obj)) (sub : own'.Sublist own) :
    ∃ b', Ext b b' ∧ Fx b' L h m own' ∧ (∀ c oc, c ≠ L → c ∉ own'.map (·.1) → h.get? c = some oc → b'.get? c = some oc) ∧ (∀ c oc, b'.get? c = some oc → h.get? c = some oc) := by
  refine ⟨hideAll h (L :: own'.map (·.1)), fun c oc e => hideAll_get _ (F.keep c oc e) ?_, ⟨F.ns, fun c oc e => of_hideAll _ e, hideAll_none _ (.head _), fun p hp => F.has p (sub.subset hp), fun p hp => hideAll_none _ (.tail _ (List.mem_map_of_mem hp)), ?_⟩, fun c oc n1 n2 e => hideAll_get _ e ?_, fun c oc e => of_hideAll _ e⟩
  · intro q
    rcases List.mem_cons.mp q with rfl | q
    · rw [F.lout] at e; cases e
    · obtain ⟨p, hp, rfl⟩ := List.mem_map.mp q
      rw [F.out p (sub.subset hp)] at e; cases e
  · exact F.nodup.sublist ((sub.map _).cons_cons L)
  · intro q
    rcases List.mem_cons.mp q with rfl | q
    · exact n1 rfl
    · exact n2 q
theorem Fx.freeze0 (F : Fx b L h m own) :
    ∃ b', Ext b b' ∧ Fx b' L h m [] ∧ (∀ c oc, c ≠ L → h.get? c = some oc → b'.get? c = some oc) ∧ (∀ c oc, b'.get? c = some oc → h.get? c = some oc) := by
  obtain ⟨b', e, F', k, k2⟩ := F.freeze [] (List.nil_sublist _)
  exact ⟨b', e, F', fun c oc n q => k c oc n (by simp) q, k2⟩
/-- behind a call that turned its head -/
theorem Fx.back1 (F : Fx b L h m ((a, o) :: own)) (e : Ext (h.hide a) h') (ha : h'.get? a = some o') : Fx b L h' m ((a, o') :: own) :=
  F.turn (fun c oc n q => e c oc ((Heap.hide_ne h n).trans q)) ha
end

/-- a list's object -/
abbrev LO (items : List Value) (n : Nat) : Obj := { cls := .type "list", data := .seq items.toArray n }
abbrev TO (items : List Value) (n : Nat) : Obj := { cls := .type "tuple", data := .seq items.toArray n }
theorem isList_of {h : Heap} {a : Addr} {items : List Value} {n : Nat} (e : h.get? a = some (LO items n)) : h.IsList a items.toArray := ⟨_, e, rfl, n, rfl⟩

/-- what the top left: the written part, the two namespaces -/
structure Tp (K : Frag) (mg mb : Str → Option Value) (h : Heap) : Prop where
  X : K.In h
  g : h.Ns mainGlobals mg
  b : h.Ns builtinsNs mb
  nolimit : h.NoLimit
  builtins : ∀ x : Str, x ≠ "__name__" → mb x = bootBuiltins x
theorem Tp.up {K : Frag} {mg mb : Str → Option Value} {h h' : Heap} (T : Tp K mg mb h) (e : Ext h h') : Tp K mg mb h' :=
  ⟨T.X.keeps e, T.g.keeps e, T.b.keeps e, T.nolimit.keeps e, T.builtins⟩

/-- behind a statement: on to the next, or out -/
def Nx (Q : Flow → Shared → Prop) (k : Shared → Prop) : Flow → Shared → Prop
  | .next, s => k s
  | f, s => Q f s
section
variable {M : Model} {A : Around} {E : Value → Shared → Prop} {s : Shared} {env : Env} {Q : Flow → Shared → Prop} {k : Shared → Prop}
theorem nx_next (h : k s) : Nx Q k .next s := h
theorem nx_ret {v : Value} (h : Q (.ret v) s) : Nx Q k (.ret v) s := h
theorem nx_cont (h : Q .cont s) : Nx Q k .cont s := h
theorem s_cons {st : Stmt} {rest : List Stmt} (h : wpAny M A (exec st env) (Nx Q fun s' => wpAny M A (execs rest env) Q E s') E s) : wpAny M A (execs (st :: rest) env) Q E s :=
  wpAny_execs_cons (wpAny_mono h (fun f s' z => by cases f <;> exact z) fun _ _ z => z)
end

section
variable {M : Model} {A : Around} {E : Value → Shared → Prop} {hp : Heap} {gs : Array GenState} {dr : Drawn} {tk : Nat} {os : OsState} {K : Frag} {b : Heap} {L a : Addr} {m mg mb : Str → Option Value} {own : List (Addr × Obj)} {cn : Str} {cs : Scope} {ccd : Value} {cl : List (Str × Addr)}
  {x : Str} {pos : Pos} {v : Value} {Q : Value → Shared → Prop} {c : Addr} {o : Obj}
theorem n_loc (F : Fx b L hp m own) (hv : m x = some v) (h : Q v ⟨hp, gs, dr, tk, os⟩)
    (hk : cs.kind = .function := by with_unfolding_all rfl) (hx : (envX cn cs L a ccd cl).kindOf x = some .local := by with_unfolding_all rfl) (hd : (x == ("__debug__" : Str)) = false := by decide) :
    wpAny M A (eval (.Name x pos) (envX cn cs L a ccd cl)) Q E ⟨hp, gs, dr, tk, os⟩ := wpAny_Name (wpAny_loadName_local hk hx F.ns hv h) hd
theorem l_loc (F : Fx b L hp m own) (hv : m x = some v) (h : Q v ⟨hp, gs, dr, tk, os⟩)
    (hk : cs.kind = .function := by with_unfolding_all rfl) (hx : (envX cn cs L a ccd cl).kindOf x = some .local := by with_unfolding_all rfl) :
    wpAny M A (loadName (envX cn cs L a ccd cl) x) Q E ⟨hp, gs, dr, tk, os⟩ := wpAny_loadName_local hk hx F.ns hv h
theorem n_glob (F : Fx b L hp m own) (T : Tp K mg mb b) (e : nsIn K mainGlobals x = some (some v)) (h : Q v ⟨hp, gs, dr, tk, os⟩)
    (hk : cs.kind = .function := by with_unfolding_all rfl) (hx : (envX cn cs L a ccd cl).kindOf x = some .globalImplicit := by with_unfolding_all rfl) (hd : (x == ("__debug__" : Str)) = false := by decide) :
    wpAny M A (eval (.Name x pos) (envX cn cs L a ccd cl)) Q E ⟨hp, gs, dr, tk, os⟩ := Name_function_global hk hx (loadGlobal_global (env := envX cn cs L a ccd cl) (T.g.keeps F.keep) (mg_of T.X T.g e) h) hd
theorem n_blt (F : Fx b L hp m own) (T : Tp K mg mb b) (e : nsIn K mainGlobals x = some none) (hv : bootBuiltins x = some v) (h : Q v ⟨hp, gs, dr, tk, os⟩) (hn : x ≠ "__name__" := by decide)
    (hk : cs.kind = .function := by with_unfolding_all rfl) (hx : (envX cn cs L a ccd cl).kindOf x = some .globalImplicit := by with_unfolding_all rfl) (hd : (x == ("__debug__" : Str)) = false := by decide) :
    wpAny M A (eval (.Name x pos) (envX cn cs L a ccd cl)) Q E ⟨hp, gs, dr, tk, os⟩ :=
  Name_function_global hk hx (loadGlobal_builtin (env := envX cn cs L a ccd cl) (T.g.keeps F.keep) (mg_none_of T.X T.g e) (T.b.keeps F.keep) ((T.builtins x hn).trans hv) h) hd
theorem n_cell (hc : cl.lookup x = some c) (hm : hp.get? c = some o) (hd : o.data = .cell (some v)) (h : Q v ⟨hp, gs, dr, tk, os⟩)
    (hk : cs.kind = .function := by with_unfolding_all rfl) (hx : (envX cn cs L a ccd cl).kindOf x = some .cell := by with_unfolding_all rfl) (hb : (x == ("__debug__" : Str)) = false := by decide) :
    wpAny M A (eval (.Name x pos) (envX cn cs L a ccd cl)) Q E ⟨hp, gs, dr, tk, os⟩ := wpAny_Name (wpAny_loadName_cell hk hx hc ⟨o, hm, hd⟩ h) hb
theorem st_loc {Q : Unit → Shared → Prop} (F : Fx b L hp m own)
    (h : ∀ h', Fx b L h' (fun y => if y = x then some v else m y) own → Q () ⟨h', gs, dr, tk + 1, os⟩)
    (hk : cs.kind = .function := by with_unfolding_all rfl) (hx : (envX cn cs L a ccd cl).kindOf x = some .local := by with_unfolding_all rfl) : wpAny M A (storeName (envX cn cs L a ccd cl) x v) Q E ⟨hp, gs, dr, tk, os⟩ :=
  wpAny_storeName_local hx F.ns (fun h' hn hs => h h' (F.store hn hs)) (by show (cs.kind == .class || (cs.kind == .module && L != mainGlobals)) = false; rw [hk]; rfl)
abbrev CO (v : Option Value) : Obj := { cls := .type "cell", data := .cell v }
end

/-! the bridge to the library's rules over a ledger -/
def noHeap : Heap := { objs := #[] }
theorem noHeap_get (a : Addr) : noHeap.get? a = none := by simp [noHeap, Heap.get?]
def others (h : Heap) (as : List Addr) : List (Addr × Obj) := (List.range h.objs.size).filterMap fun a => if a ∈ as then none else (h.get? a).map fun o => (a, o)
theorem mem_others {h : Heap} {as : List Addr} {p : Addr × Obj} : p ∈ others h as ↔ p.1 ∉ as ∧ h.get? p.1 = some p.2 := by
  obtain ⟨a, o⟩ := p
  simp only [others, List.mem_filterMap, List.mem_range]
  constructor
  · rintro ⟨c, hc, e⟩
    split at e
    · cases e
    · rename_i n
      obtain ⟨oc, h1, h2⟩ := Option.map_eq_some_iff.mp e
      cases h2
      exact ⟨n, h1⟩
  · rintro ⟨n, e⟩
    exact ⟨a, Heap.lt_size e, by rw [if_neg n, e]; rfl⟩
section
variable {b h h' : Heap} {L a : Addr} {m m' : Str → Option Value} {own own' : List (Addr × Obj)} {o o' : Obj}
theorem Fx.fr (F : Fx b L h m own) : Fr noHeap L h m := ⟨F.ns, (fun c oc e => by rw [noHeap_get] at e; cases e), Nat.zero_le _⟩
theorem Fx.news (F : Fx b L h m own) : News noHeap L h (own ++ others h (L :: own.map (·.1))) := fun p hp => by
  rcases List.mem_append.mp hp with hp | hp
  · exact ⟨F.has p hp, F.notL hp, noHeap_get _⟩
  · obtain ⟨n, e⟩ := mem_others.mp hp
    exact ⟨e, fun q => n (q ▸ .head _), noHeap_get _⟩
/-- a rule has turned the head of the ledger -/
theorem Fx.ofNews (F : Fx b L h m ((a, o) :: own)) (F' : Fr noHeap L h' m') (N' : News noHeap L h' ((a, o') :: (own ++ others h (L :: a :: own.map (·.1))))) : Fx b L h' m' ((a, o') :: own) := by
  have nd := F.nodup
  have all : ∀ p ∈ (a, o') :: own, h'.get? p.1 = some p.2 := fun p hp => by
    rcases List.mem_cons.mp hp with rfl | hp
    · exact (N' _ (.head _)).1
    · exact (N' _ (.tail _ (List.mem_append_left _ hp))).1
  refine ⟨F'.ns, fun c oc e => ?_, F.lout, all, fun p hp => ?_, nd⟩
  · refine (N' (c, oc) (.tail _ (List.mem_append_right _ (mem_others.mpr ⟨fun q => ?_, F.keep c oc e⟩)))).1
    rcases List.mem_cons.mp q with q | q
    · dsimp only at q; rw [q, F.lout] at e; cases e
    · rcases List.mem_cons.mp q with q | q
      · have := F.out (a, o) (.head _); dsimp only at q this; rw [q, this] at e; cases e
      · obtain ⟨p, hp, z⟩ := List.mem_map.mp q
        have := F.out p (.tail _ hp); dsimp only at z; rw [z, e] at this; cases this
  · rcases List.mem_cons.mp hp with rfl | hp
    · exact F.out (a, o) (.head _)
    · exact F.out p (.tail _ hp)
end

section
variable {prog : Program} {w : World} {A : Around} {E : Value → Shared → Prop} {hp : Heap} {gs : Array GenState} {dr : Drawn} {tk : Nat} {os : OsState} {K : Frag} {b : Heap} {x C L p dx : Addr} {m : Str → Option Value} {own : List (Addr × Obj)} {ox ox' od : Obj} {name : Str} {v : Value} {i : Nat}
theorem ga_slot {expr : Bool} {Q : Value → Shared → Prop} (X : K.In hp) (I : InstAt hp x ox C (some od)) (hg : plainGet K C name = true) (hc : isClsIn K C = true)
    (ha : findIn K (.ref C) name = some (some (.ref p))) (hn : specialIn K (.ref p) "__get__" = some (some (.builtin "member_descriptor.__get__"))) (ht : takesIn K (.ref p) = some true) (hps : slotIn K p C = some i)
    (hv : (ox.slots[i]?).join = some v) (hh : handedIn v = true) (h : Q v ⟨hp, gs, dr, tk + 1, os⟩) : wpAny (model prog w) A (getAttr (.ref x) name expr) Q E ⟨hp, gs, dr, tk, os⟩ :=
  get_bind X I (plainGet_of hg).1 (findObj_data hc ha hn ht) (plainGet_of hg).2 (wpAny_call (slot_get (s := ⟨hp, gs, dr, tk + 1, os⟩) X I hps hv (handed_on hh h)))
theorem sa_slot {Q : Unit → Shared → Prop} (F : Fx b L hp m ((x, ox) :: own)) (X : K.In hp) (I : InstAt hp x ox C (some od))
    (hs : findIn K (.ref C) "__setattr__" = some (some (.builtin "object.__setattr__"))) (hpo : plainOver K C = true) (ht : takerIn K C name = some (some (.ref p))) (hT : typeIn K (.ref p) = some (.type "member_descriptor")) (hi : slotIn K p C = some i) (hz : i < 1000)
    (e : { ox with slots := (ox.slots ++ Array.replicate (i + 1 - ox.slots.size) none).setIfInBounds i (some v) } = ox') (hf : ox'.isFreed = false)
    (h : ∀ h', Fx b L h' m ((x, ox') :: own) → Q () ⟨h', gs, dr, tk + 1, os⟩) : wpAny (model prog w) A (setAttr (.ref x) name v) Q E ⟨hp, gs, dr, tk, os⟩ := by
  refine set_plain X I hs (osa_descr (s := ⟨hp, gs, dr, tk + 1, os⟩) KF.slot_mset X I hpo ht hT (slot_set (s := ⟨hp, gs, dr, tk + 1, os⟩) (pre := []) (post := own ++ others hp (L :: x :: own.map (·.1))) F.fr F.news X I hi hz (fun _ q => nomatch q) (fun q hq z => ?_) e hf fun h' F' N' => h h' (F.ofNews F' N')))
  rcases List.mem_append.mp hq with hq | hq
  · have nd := F.nodup
    simp only [List.map_cons, List.nodup_cons] at nd
    exact nd.2.1 (List.mem_map.mpr ⟨q, hq, z⟩)
  · exact (mem_others.mp hq).1 (.tail _ (by rw [z]; exact .head _))
end

section
variable {prog : Program} {w : World} {A : Around} {hp : Heap} {gs : Array GenState} {dr : Drawn} {tk : Nat} {os : OsState} {R : Result → Shared → Prop} {name qual : Str} {params : Arguments} {body : List Stmt} {scope : Scope} {cl : List (Str × Addr)} {dV kV doc pm cdv ct : Value} {an : Option Addr} {fo : Obj} {f : Addr} {args : Args} {binds : List (Str × Value)}
def retOf : Flow → Value
  | .ret v => v
  | _ => .none
/-- a def's call: a new frame over all that stands, but what the call may turn -/
theorem call_fx (own : List (Addr × Obj)) (hroom : A.depth < recursionLimit) (ho : hp.get? f = some fo) (hd : fo.data = .func (fnX name qual params body scope cl dV kV doc pm an cdv ct))
    (hlim : hp.NoLimit) (hcd : hp.CodeRec cdv qual) (hbind : BindsTo ⟨hp, gs, dr, tk, os⟩ (fnX name qual params body scope cl dV kV doc pm an cdv ct) args binds) (hloc : ∀ y ∈ binds, scope.names.lookup y.1 = some .local)
    (hown : ∀ p ∈ own, hp.get? p.1 = some p.2) (hnd : (own.map (·.1)).Nodup)
    (h : ∀ L' h₁ tk', Fx (hideAll hp (own.map (·.1))) L' h₁ (fun y => binds.reverse.lookup y) own →
      wpAny (model prog w) (A.deeper (envX qual scope L' f cdv cl)) (execs body (envX qual scope L' f cdv cl)) (fun fl s' => R (.ok (.ret (retOf fl))) s')
        (fun e s' => wpAny (model prog w) (A.deeper (envX qual scope L' f cdv cl)) (leaving (envX qual scope L' f cdv cl) e) (fun _ s'' => R (.error e) s'') (fun e' s'' => R (.error e') s'') s')
        ⟨h₁, gs, dr, tk', os⟩)
    (hcell : ∀ x ∈ scope.names, x.2 ≠ .cell) (hco : scope.isCoroutine = false := by with_unfolding_all rfl) (hgen : scope.isGenerator = false := by with_unfolding_all rfl) (hk : scope.kind = .function := by with_unfolding_all rfl) : codeAny (model prog w) A (.call (.ref f) args) R ⟨hp, gs, dr, tk, os⟩ := by
  refine codeAny_call_def (fd := fnX name qual params body scope cl dV kV doc pm an cdv ct) (body := body) (binds := binds) hroom ho hd hlim hcd rfl hbind hcell hloc (fun h₁ hns hk₁ => ?_) hco hgen hk
  refine wpAny_mono (h hp.objs.size h₁ (tk + binds.length) ⟨hns, fun c oc e => hk₁ c oc (of_hideAll _ e), ?_, fun p hp => hk₁ _ _ (hown p hp), fun p hp => hideAll_none _ (List.mem_map_of_mem hp), ?_⟩) (fun fl s' z => ?_) fun _ _ y => y
  · cases q : (hideAll hp (own.map (·.1))).get? hp.objs.size with
    | none => rfl
    | some o => have := of_hideAll _ q; rw [none_at_size] at this; cases this
  · refine List.nodup_cons.mpr ⟨fun q => ?_, hnd⟩
    obtain ⟨p, hp, e⟩ := List.mem_map.mp q
    have := hown p hp
    rw [e, none_at_size] at this; cases this
  · cases fl <;> exact z
end

section
variable {M : Model} {A : Around} {E : Value → Shared → Prop} {s : Shared} {K : Frag} {b : Heap} {L : Addr} {m mg mb : Str → Option Value} {env : Env} {pos : Pos} {f : Value} {first : List Value} {Q : Value → Shared → Prop}
/-- a call of a thing of the text -/
theorem cw_fn {e : Expr} {rest : List Expr} (T : Tp K mg mb b) (hk : keepIn K f = true) (h : wpAny M A (spliced (backTo pos (starEach (e :: rest) env))) (fun vs s₁ => Ext b s₁.heap ∧ wpAny M A (call f (first ++ vs)) Q E s₁) E s)
    (he : starEach (e :: rest) env = (false, eval e env) :: starEach rest env := by with_unfolding_all rfl) (hplain : (backTo pos (starEach rest env)).any (·.1) = false := by with_unfolding_all rfl) :
    wpAny M A (callWith pos f first (backTo pos (starEach (e :: rest) env)) []) Q E s :=
  callWith_K T.X hk (wpAny_mono h (fun _ _ z => ⟨T.X.keeps z.1, z.2⟩) fun _ _ z => z) he hplain
theorem cw_fn0 (T : Tp K mg mb b) (e : Ext b s.heap) (hk : keepIn K f = true) (h : wpAny M A (call f (first ++ [])) Q E s) : wpAny M A (callWith pos f first (backTo pos (starEach [] env)) []) Q E s :=
  callWith_K0 (T.X.keeps e) hk h
end

section
variable {prog : Program} {w : World} {A : Around} {E : Value → Shared → Prop} {hp : Heap} {gs : Array GenState} {dr : Drawn} {tk : Nat} {os : OsState} {env : Env} {Q : Value → Shared → Prop} {a c : Int} {t u : Tok}
theorem x_int {i : Int} {k : Nat} {pos : Pos} (h : Q (.int i tk) ⟨hp, gs, dr, tk + 1, os⟩) : wpAny (model prog w) A (eval (.Constant (.int i) k pos) env) Q E ⟨hp, gs, dr, tk, os⟩ := wpAny_Constant_int h
theorem x_str {x : Str} {k : Nat} {pos : Pos} (h : Q (.str x tk) ⟨hp, gs, dr, tk + 1, os⟩) : wpAny (model prog w) A (eval (.Constant (.str x) k pos) env) Q E ⟨hp, gs, dr, tk, os⟩ := Constant_str h
theorem x_add (h : Q (.int (a + c) tk) ⟨hp, gs, dr, tk + 1, os⟩) : wpAny (model prog w) A (binaryOp .Add (.int a t) (.int c u)) Q E ⟨hp, gs, dr, tk, os⟩ := add_int h
theorem x_sub (h : Q (.int (a - c) tk) ⟨hp, gs, dr, tk + 1, os⟩) : wpAny (model prog w) A (binaryOp .Sub (.int a t) (.int c u)) Q E ⟨hp, gs, dr, tk, os⟩ := sub_int h
theorem x_isub (h : Q (.int (a - c) tk) ⟨hp, gs, dr, tk + 1, os⟩) : wpAny (model prog w) A (inplaceOp .Sub (.int a t) (.int c u)) Q E ⟨hp, gs, dr, tk, os⟩ := isub_int h
theorem x_iadd (h : Q (.int (a + c) tk) ⟨hp, gs, dr, tk + 1, os⟩) : wpAny (model prog w) A (inplaceOp .Add (.int a t) (.int c u)) Q E ⟨hp, gs, dr, tk, os⟩ := iadd_int h
theorem x_and (h : Q (.int (Builtin.bitAnd a c) tk) ⟨hp, gs, dr, tk + 1, os⟩) : wpAny (model prog w) A (binaryOp .BitAnd (.int a t) (.int c u)) Q E ⟨hp, gs, dr, tk, os⟩ := and_int h
theorem x_rshift (hn : 0 ≤ c) (h : Q (.int (a.fdiv (2 ^ c.toNat)) tk) ⟨hp, gs, dr, tk + 1, os⟩) : wpAny (model prog w) A (binaryOp .RShift (.int a t) (.int c u)) Q E ⟨hp, gs, dr, tk, os⟩ := rshift_int hn h
theorem x_lshift (hn : 0 ≤ c) (hn2 : c ≤ 1000000) (ha : a.natAbs < 2 ^ 64) (h : Q (.int (a * 2 ^ c.toNat) tk) ⟨hp, gs, dr, tk + 1, os⟩) : wpAny (model prog w) A (binaryOp .LShift (.int a t) (.int c u)) Q E ⟨hp, gs, dr, tk, os⟩ := lshift_int_small hn hn2 ha h
theorem x_mod (hc : c ≠ 0) (h : Q (.int (a.fmod c) tk) ⟨hp, gs, dr, tk + 1, os⟩) : wpAny (model prog w) A (binaryOp .Mod (.int a t) (.int c u)) Q E ⟨hp, gs, dr, tk, os⟩ := mod_int' hc h
theorem x_mul (hm : IntMulOk a c) (h : Q (.int (a * c) tk) ⟨hp, gs, dr, tk + 1, os⟩) : wpAny (model prog w) A (binaryOp .Mult (.int a t) (.int c u)) Q E ⟨hp, gs, dr, tk, os⟩ := mul_int h hm
end

theorem Fx.hid {b h : Heap} {L a : Addr} {m : Str → Option Value} {own : List (Addr × Obj)} {o : Obj} (F : Fx b L h m ((a, o) :: own)) : Ext b (h.hide a) :=
  fun c oc e => (Heap.hide_ne h (fun z => by have := F.out (a, o) (.head _); rw [z] at e; rw [e] at this; cases this)).trans (F.keep c oc e)
theorem hide_ext (h : Heap) (a : Addr) : Ext (h.hide a) h := fun _ _ e => Heap.of_hide e
theorem Fx.freeze1 {b h : Heap} {L : Addr} {m : Str → Option Value} {p : Addr × Obj} {own : List (Addr × Obj)} (F : Fx b L h m (p :: own)) :
    ∃ b', Ext b b' ∧ Fx b' L h m [p] ∧ (∀ q ∈ own, b'.get? q.1 = some q.2) ∧ (∀ c oc, c ≠ L → c ≠ p.1 → h.get? c = some oc → b'.get? c = some oc) ∧ Ext b' h := by
  obtain ⟨b', e, F', k, k2⟩ := F.freeze [p] (by simp)
  refine ⟨b', e, F', fun q hq => k _ _ (F.notL (.tail _ hq)) (fun z => ?_) (F.has q (.tail _ hq)), fun c oc n1 n2 z => k c oc n1 (by simpa using n2) z, k2⟩
  have nd := F.nodup
  simp only [List.map_cons, List.nodup_cons] at nd
  exact nd.2.1 (List.mem_map.mpr ⟨q, hq, by simpa using z⟩)
theorem Fx.freezeA {b h : Heap} {L : Addr} {m : Str → Option Value} {own : List (Addr × Obj)} (F : Fx b L h m own) :
    ∃ b', Ext b b' ∧ Fx b' L h m [] ∧ (∀ q ∈ own, b'.get? q.1 = some q.2) ∧ (∀ c oc, c ≠ L → h.get? c = some oc → b'.get? c = some oc) ∧ Ext b' h := by
  obtain ⟨b', e, F', k, k2⟩ := F.freeze0
  exact ⟨b', e, F', fun q hq => k _ _ (F.notL hq) (F.has q hq), k, k2⟩
theorem Fx.notL' {b h : Heap} {L a : Addr} {m : Str → Option Value} {own : List (Addr × Obj)} {o : Obj} (F : Fx b L h m own) (e : h.get? a = some o) (hd : ∀ es n, o.data ≠ .dict es n) : a ≠ L := by
  rintro rfl
  obtain ⟨oL, es, ep, g, d, _⟩ := F.ns
  rw [g] at e
  exact hd es ep (Option.some.inj e ▸ d)
section
variable {b h h' hp : Heap} {L a : Addr} {m : Str → Option Value} {own own0 : List (Addr × Obj)} {o : Obj} {p q r : Addr × Obj}
theorem Fx.rot3 (F : Fx b L h m (p :: q :: r :: own)) : Fx b L h m (r :: p :: q :: own) := F.perm ((List.Perm.cons _ (.swap _ _ _)).trans (.swap _ _ _))
theorem Fx.rot3' (F : Fx b L h m (p :: q :: r :: own)) : Fx b L h m (q :: r :: p :: own) := F.perm ((List.Perm.swap _ _ _).trans (.cons _ (.swap _ _ _)))
theorem Fx.addNew (F0 : Fx b L hp m own0) (F : Fx b L h m own) (he : own.map (·.1) = own0.map (·.1)) (ha : hp.get? a = none) (hn : h.get? a = some o) : Fx b L h m ((a, o) :: own) := by
  refine ⟨F.ns, F.keep, F.lout, fun p hp => ?_, fun p hp => ?_, ?_⟩
  · rcases List.mem_cons.mp hp with rfl | hp
    · exact hn
    · exact F.has p hp
  · rcases List.mem_cons.mp hp with rfl | hp
    · exact F0.keep.none ha
    · exact F.out p hp
  · have nd := F.nodup
    have hl : L ≠ a := fun q => by obtain ⟨oL, _, _, hL, _⟩ := F0.ns; rw [q, ha] at hL; cases hL
    have ho : a ∉ own.map (·.1) := fun q => by
      rw [he] at q
      obtain ⟨p, hp, e⟩ := List.mem_map.mp q
      have := F0.has p hp
      rw [e, ha] at this; cases this
    simp only [List.map_cons, List.nodup_cons, List.mem_cons, not_or] at nd ⊢
    exact ⟨⟨hl, nd.1⟩, ho, nd.2⟩
/-- behind a call that turned its two first -/
theorem Fx.back2 {a₂ : Addr} {o₂ o' o₂' : Obj} (F : Fx b L h m ((a, o) :: (a₂, o₂) :: own)) (e : Ext (hideAll h [a, a₂]) h') (ha : h'.get? a = some o') (ha₂ : h'.get? a₂ = some o₂') : Fx b L h' m ((a, o') :: (a₂, o₂') :: own) := by
  have nd := F.nodup
  simp only [List.map_cons, List.nodup_cons, List.mem_cons, not_or] at nd
  have keep : ∀ c oc, c ≠ a → c ≠ a₂ → h.get? c = some oc → h'.get? c = some oc := fun c oc n1 n2 q => e c oc (hideAll_get _ q (by simp [n1, n2]))
  obtain ⟨oL, es, ep, gL, r⟩ := F.ns
  refine ⟨⟨oL, es, ep, keep _ _ nd.1.1 nd.1.2.1 gL, r⟩, fun c oc q => keep c oc (fun z => ?_) (fun z => ?_) (F.keep c oc q), F.lout, fun p hp => ?_, fun p hp => ?_, F.nodup⟩
  · have := F.out (a, o) (.head _); rw [z] at q; rw [q] at this; cases this
  · have := F.out (a₂, o₂) (.tail _ (.head _)); rw [z] at q; rw [q] at this; cases this
  · rcases List.mem_cons.mp hp with rfl | hp
    · exact ha
    · rcases List.mem_cons.mp hp with rfl | hp
      · exact ha₂
      · exact keep _ _ (fun z => nd.2.1.2 (List.mem_map.mpr ⟨p, hp, z⟩)) (fun z => nd.2.2.1 (List.mem_map.mpr ⟨p, hp, z⟩)) (F.has p (.tail _ (.tail _ hp)))
  · rcases List.mem_cons.mp hp with rfl | hp
    · exact F.out (a, o) (.head _)
    · rcases List.mem_cons.mp hp with rfl | hp
      · exact F.out (a₂, o₂) (.tail _ (.head _))
      · exact F.out p (.tail _ (.tail _ hp))
theorem Fx.hid2 {a₂ : Addr} {o₂ : Obj} (F : Fx b L h m ((a, o) :: (a₂, o₂) :: own)) : Ext b (hideAll h [a, a₂]) := fun c oc e => hideAll_get _ (F.keep c oc e) (fun q => by
  rcases List.mem_cons.mp q with z | z
  · have := F.out (a, o) (.head _); rw [z] at e; rw [e] at this; cases this
  · have := F.out (a₂, o₂) (.tail _ (.head _)); rw [List.mem_singleton.mp z] at e; rw [e] at this; cases this)
end
theorem ext_hide2 {g hp : Heap} {a a₂ : Addr} (he : Ext g hp) (h1 : g.get? a = none) (h2 : g.get? a₂ = none) : Ext g (hideAll hp [a, a₂]) := fun c oc e => hideAll_get _ (he c oc e) (fun q => by
  rcases List.mem_cons.mp q with z | z
  · rw [z, h1] at e; cases e
  · rw [List.mem_singleton.mp z, h2] at e; cases e)
/-- a loop's turn has come to its end -/
def TurnEnd (gs : Array GenState) (dr : Drawn) (os : OsState) (L : Addr) (it : List (Addr × Obj)) (b : Heap) (Inv : Heap → (Str → Option Value) → List (Addr × Obj) → Prop) (s' : Shared) : Prop :=
  ∃ h tk b' m own, s' = ⟨h, gs, dr, tk, os⟩ ∧ Ext b b' ∧ Fx b' L h m (own ++ it) ∧ Inv b' m own
def Turned (gs : Array GenState) (dr : Drawn) (os : OsState) (L : Addr) (it : List (Addr × Obj)) (b : Heap) (Inv : Heap → (Str → Option Value) → List (Addr × Obj) → Prop) (Q : Flow → Shared → Prop) : Flow → Shared → Prop
  | .next, s' | .cont, s' => TurnEnd gs dr os L it b Inv s'
  | .brk, s' => Q .next s'
  | .ret v, s' => Q (.ret v) s'

section
variable {prog : Program} {w : World} {A : Around} {R : Result → Shared → Prop} {hp : Heap} {gs : Array GenState} {dr : Drawn} {tk₀ : Nat} {os : OsState}
set_option maxHeartbeats 1000000 in
/-- a for over what one walks, into any target -/
theorem loop_gen {tgt : Expr} {body : List Stmt} {b : Heap} {L : Addr} {m : Str → Option Value} {own : List (Addr × Obj)} {env : Env}
    {I : Addr} {fp wr : List Addr} {n : Nat} {P : Nat → Value → Prop} {St : Nat → Heap → Prop} (Pd : Obj → Prop) (W : Walks prog w A I fp wr n P St) (hst : St 0 hp) (F : Fx b L hp m own)
    (hfp : ∀ a ∈ fp, a ∉ wr → ∃ o, b.get? a = some o) (hwr : ∀ a ∈ wr, b.get? a = none ∧ a ≠ L ∧ ∀ p ∈ own, p.1 ≠ a) (hnd : wr.Nodup) (hex : ∀ i h, St i h → ∀ a ∈ wr, ∃ o, h.get? a = some o ∧ Pd o)
    (Inv : Nat → Heap → (Str → Option Value) → List (Addr × Obj) → Prop) (h0 : Inv 0 b m own)
    (step : ∀ i v b₁ m₁ own₁ h₁ tk₁ it E₁ E₂, (∀ p ∈ it, Pd p.2) → i < n → P i v → Inv i b₁ m₁ own₁ → Ext b b₁ → Fx b₁ L h₁ m₁ (own₁ ++ it) →
      wpAny (model prog w) A (assign tgt env v) (fun _ s₂ => wpAny (model prog w) A (execs body env) (Turned gs dr os L it b₁ (Inv (i + 1)) fun f s' => R (.ok f) s') E₂ s₂) E₁ ⟨h₁, gs, dr, tk₁, os⟩)
    (fin : ∀ h' tk b' m' own', Inv n b' m' own' → Ext b b' → Fx b' L h' m' own' → R (.ok .next) ⟨h', gs, dr, tk, os⟩)
    (ht : ∀ v, letOwnedTupleGo tgt (.ref I) v = pure () := by intro _; rfl) :
    codeAny (model prog w) A (.forLoop tgt (.ref I) body [] env) R ⟨hp, gs, dr, tk₀, os⟩ := by
  refine codeAny_forLoop (fun k s' => ∃ h' tk b' m' own' i, s' = ⟨h', gs, dr, tk, os⟩ ∧ k = n + 1 - i ∧ i ≤ n ∧ St i h' ∧ Ext b b' ∧ Fx b' L h' m' own' ∧ Inv i b' m' own' ∧ (∀ a ∈ wr, b'.get? a = none ∧ a ≠ L ∧ ∀ p ∈ own', p.1 ≠ a)) ?_ (n + 1)
    ⟨hp, tk₀, b, m, own, 0, rfl, rfl, Nat.zero_le _, hst, .rfl', F, h0, hwr⟩ ht
  rintro k s' ⟨h, tk, b', m', own', i, rfl, rfl, hi, st, eb, F', inv, hw⟩
  have keepF : ∀ {h₁ : Heap}, (∀ c o, c ∉ wr → h.get? c = some o → h₁.get? c = some o) → Fx b' L h₁ m' own' := fun {h₁} hk₁ => by
    obtain ⟨oL, es, ep, gL, r⟩ := F'.ns
    refine ⟨⟨oL, es, ep, hk₁ _ _ (fun q => (hw _ q).2.1 rfl) gL, r⟩, fun c o e => hk₁ c o (fun q => by rw [(hw _ q).1] at e; cases e) (F'.keep c o e), F'.lout, fun p hp => hk₁ _ _ (fun q => (hw _ q).2.2 p hp rfl) (F'.has p hp), F'.out, F'.nodup⟩
  by_cases hlt : i < n
  · refine W.item i _ _ _ hlt st fun v h₁ tk₁ hv st₁ hk₁ => ?_
    have F₁ := keepF hk₁
    dsimp only
    have hobj : ∀ c ∈ wr, ∃ o, h₁.get? c = some o ∧ Pd o := hex _ _ st₁
    let it : List (Addr × Obj) := wr.map fun c => (c, (h₁.get? c).getD default)
    have hit : ∀ p ∈ it, p.1 ∈ wr ∧ h₁.get? p.1 = some p.2 ∧ Pd p.2 := fun p hp => by
      obtain ⟨c, hc, rfl⟩ := List.mem_map.mp hp
      obtain ⟨o, ho, hf⟩ := hobj c hc
      refine ⟨hc, ?_, ?_⟩
      · show h₁.get? c = some ((h₁.get? c).getD default)
        rw [ho]; rfl
      · show Pd ((h₁.get? c).getD default)
        rw [ho]; exact hf
    have hitm : it.map (·.1) = wr := by simp [it, List.map_map, Function.comp_def]
    have F₃ : Fx b' L h₁ m' (own' ++ it) := by
      refine ⟨F₁.ns, F₁.keep, F₁.lout, fun p hp => ?_, fun p hp => ?_, ?_⟩
      · rcases List.mem_append.mp hp with hp | hp
        · exact F₁.has p hp
        · exact (hit p hp).2.1
      · rcases List.mem_append.mp hp with hp | hp
        · exact F₁.out p hp
        · exact (hw _ (hit p hp).1).1
      · rw [List.map_append, hitm, ← List.cons_append]
        refine List.nodup_append.mpr ⟨F₁.nodup, hnd, fun c hc d hd => ?_⟩
        rintro rfl
        rcases List.mem_cons.mp hc with rfl | hc
        · exact (hw _ hd).2.1 rfl
        · obtain ⟨p, hp, q⟩ := List.mem_map.mp hc
          exact (hw _ hd).2.2 p hp q
    refine wpAny_mono (step i v b' m' own' h₁ tk₁ it _ _ (fun p hp => (hit p hp).2.2) hlt hv inv eb F₃) (fun _ s₂ y => wpAny_mono y (fun f s₃ z => ?_) fun _ _ z => z) fun _ _ z => z
    have go : TurnEnd gs dr os L it b' (Inv (i + 1)) s₃ → ∃ k, k < n + 1 - i ∧ ∃ h' tk b' m' own' j, s₃ = ⟨h', gs, dr, tk, os⟩ ∧ k = n + 1 - j ∧ j ≤ n ∧ St j h' ∧ Ext b b' ∧ Fx b' L h' m' own' ∧ Inv j b' m' own' ∧ (∀ a ∈ wr, b'.get? a = none ∧ a ≠ L ∧ ∀ p ∈ own', p.1 ≠ a) := by
      rintro ⟨h₃, tk₃, b₃, m₃, own₃, rfl, e₃, F₄, inv₃⟩
      have hasit : ∀ p ∈ it, h₃.get? p.1 = some p.2 := fun p hp => F₄.has p (List.mem_append_right _ hp)
      have hi0 : ∀ c ∈ wr, ∃ o, (c, o) ∈ it := fun c hc => ⟨_, List.mem_map_of_mem hc⟩
      refine ⟨n + 1 - (i + 1), by omega, h₃, tk₃, b₃, m₃, own₃, i + 1, rfl, rfl, hlt, ?_, eb.trans e₃, ?_, inv₃, fun c hc => ?_⟩
      · refine W.frame _ _ _ st₁ fun c hc o e => ?_
        by_cases hcw : c ∈ wr
        · obtain ⟨oc, hoc⟩ := hi0 c hcw
          have := (hit _ hoc).2.1
          dsimp only at this
          rw [e] at this
          have := Option.some.inj this
          rw [this]
          exact hasit _ hoc
        · obtain ⟨ob, hob⟩ := hfp c hc hcw
          have e1 := F₁.keep c ob (eb c ob hob)
          rw [e] at e1
          rw [Option.some.inj e1]
          exact F₄.keep c ob (e₃ c ob (eb c ob hob))
      · refine ⟨F₄.ns, F₄.keep, F₄.lout, fun p hp => F₄.has p (List.mem_append_left _ hp), fun p hp => F₄.out p (List.mem_append_left _ hp), ?_⟩
        have nd := F₄.nodup
        rw [List.map_append, ← List.cons_append] at nd
        exact (List.nodup_append.mp nd).1
      · obtain ⟨oc, hoc⟩ := hi0 c hc
        refine ⟨F₄.out _ (List.mem_append_right _ hoc), (hw c hc).2.1, fun p hp q => ?_⟩
        have nd := F₄.nodup
        rw [List.map_append, hitm, ← List.cons_append] at nd
        exact (List.nodup_append.mp nd).2.2 _ (.tail _ (List.mem_map_of_mem hp)) _ hc q
    cases f with
    | next => exact go z
    | cont => exact go z
    | brk => exact z
    | ret v => exact z
  · have : i = n := by omega
    subst this
    refine W.done _ _ _ st fun h₁ tk₁ hk₁ => ?_
    dsimp only
    exact wpAny_execs_nil (fin h₁ tk₁ b' m' own' inv eb (keepF hk₁))
theorem loop_walk {x : Str} {px : Pos} {body : List Stmt} {b : Heap} {L a : Addr} {m : Str → Option Value} {own : List (Addr × Obj)} {cn : Str} {cs : Scope} {ccd : Value} {cl : List (Str × Addr)}
    {I : Addr} {fp wr : List Addr} {n : Nat} {P : Nat → Value → Prop} {St : Nat → Heap → Prop} (W : Walks prog w A I fp wr n P St) (hst : St 0 hp) (F : Fx b L hp m own)
    (hfp : ∀ a ∈ fp, a ∉ wr → ∃ o, b.get? a = some o) (hwr : ∀ a ∈ wr, b.get? a = none ∧ a ≠ L ∧ ∀ p ∈ own, p.1 ≠ a) (hnd : wr.Nodup) (hex : ∀ i h, St i h → ∀ a ∈ wr, ∃ o, h.get? a = some o)
    (Inv : Nat → Heap → (Str → Option Value) → List (Addr × Obj) → Prop) (h0 : Inv 0 b m own)
    (step : ∀ i v b₁ m₁ own₁ h₁ tk₁ it E', i < n → P i v → Inv i b₁ m₁ own₁ → Ext b b₁ → Fx b₁ L h₁ (fun y => if y = x then some v else m₁ y) (own₁ ++ it) →
      wpAny (model prog w) A (execs body (envX cn cs L a ccd cl)) (Turned gs dr os L it b₁ (Inv (i + 1)) fun f s' => R (.ok f) s') E' ⟨h₁, gs, dr, tk₁, os⟩)
    (fin : ∀ h' tk b' m' own', Inv n b' m' own' → Ext b b' → Fx b' L h' m' own' → R (.ok .next) ⟨h', gs, dr, tk, os⟩)
    (hk : cs.kind = .function := by with_unfolding_all rfl) (hx : (envX cn cs L a ccd cl).kindOf x = some .local := by with_unfolding_all rfl) :
    codeAny (model prog w) A (.forLoop (.Name x px) (.ref I) body [] (envX cn cs L a ccd cl)) R ⟨hp, gs, dr, tk₀, os⟩ :=
  loop_gen (fun _ => True) W hst F hfp hwr hnd (fun i h st c hc => let ⟨o, ho⟩ := hex i h st c hc; ⟨o, ho, trivial⟩) Inv h0 (fun i v b₁ m₁ own₁ h₁ tk₁ it E₁ E₂ _ hi hv inv e F => wpAny_assign_Name (st_loc F (fun h₂ F₂ => step i v b₁ m₁ own₁ h₂ _ it E₂ hi hv inv e F₂) hk hx)) fin
theorem loop_while {test : Expr} {body : List Stmt} {b : Heap} {L a : Addr} {m : Str → Option Value} {own : List (Addr × Obj)} {cn : Str} {cs : Scope} {ccd : Value} {cl : List (Str × Addr)}
    (F : Fx b L hp m own) (Inv : Nat → Heap → (Str → Option Value) → List (Addr × Obj) → Prop) (n : Nat) (h0 : Inv n b m own)
    (step : ∀ k b₁ m₁ own₁ h₁ tk₁ E', Inv k b₁ m₁ own₁ → Ext b b₁ → Fx b₁ L h₁ m₁ own₁ →
      wpAny (model prog w) A (isTrue test (envX cn cs L a ccd cl) (eval test (envX cn cs L a ccd cl))) (fun t s₂ =>
        if t then wpAny (model prog w) A (execs body (envX cn cs L a ccd cl)) (Turned gs dr os L [] b₁ (fun b m own => ∃ j, j < k ∧ Inv j b m own) fun f s' => R (.ok f) s') E' s₂ else R (.ok .next) s₂) E' ⟨h₁, gs, dr, tk₁, os⟩) :
    codeAny (model prog w) A (.whileLoop test body [] (envX cn cs L a ccd cl)) R ⟨hp, gs, dr, tk₀, os⟩ := by
  refine codeAny_whileLoop (fun k s' => ∃ h' tk b' m' own', s' = ⟨h', gs, dr, tk, os⟩ ∧ Ext b b' ∧ Fx b' L h' m' own' ∧ Inv k b' m' own') ?_ n ⟨hp, tk₀, b, m, own, rfl, .rfl', F, h0⟩
  rintro k s' ⟨h, tk, b', m', own', rfl, eb, F', inv⟩
  refine wpAny_mono (step k b' m' own' h tk _ inv eb F') (fun t s₂ z => ?_) fun _ _ z => z
  cases t with
  | false => simp only [Bool.false_eq_true, if_false] at z ⊢; exact wpAny_execs_nil z
  | true =>
    simp only [if_true] at z ⊢
    refine wpAny_mono z (fun f s₃ y => ?_) fun _ _ z => z
    have go : TurnEnd gs dr os L [] b' (fun b m own => ∃ j, j < k ∧ Inv j b m own) s₃ → ∃ j, j < k ∧ ∃ h' tk b' m' own', s₃ = ⟨h', gs, dr, tk, os⟩ ∧ Ext b b' ∧ Fx b' L h' m' own' ∧ Inv j b' m' own' := by
      rintro ⟨h₃, tk₃, b₃, m₃, own₃, rfl, e₃, F₄, j, hj, inv₃⟩
      rw [List.append_nil] at F₄
      exact ⟨j, hj, h₃, tk₃, b₃, m₃, own₃, rfl, eb.trans e₃, F₄, inv₃⟩
    cases f with
    | next => exact go y
    | cont => exact go y
    | brk => exact y
    | ret v => exact y
end
theorem TurnEnd.mk0 {gs : Array GenState} {dr : Drawn} {os : OsState} {L : Addr} {b b' h : Heap} {tk : Nat} {m : Str → Option Value} {own : List (Addr × Obj)} {Inv : Heap → (Str → Option Value) → List (Addr × Obj) → Prop} (F : Fx b' L h m own) (e : Ext b b') (i : Inv b' m own) :
    TurnEnd gs dr os L [] b Inv ⟨h, gs, dr, tk, os⟩ := ⟨h, tk, b', m, own, rfl, e, by rw [List.append_nil]; exact F, i⟩
section
variable {prog : Program} {w : World} {A : Around} {E : Value → Shared → Prop} {hp : Heap} {gs : Array GenState} {dr : Drawn} {tk : Nat} {os : OsState} {b : Heap} {L l l2 : Addr} {m : Str → Option Value} {own : List (Addr × Obj)} {items items2 : List Value} {n n2 : Nat} {v : Value}

theorem lc_copy {Q : Value → Shared → Prop} (F : Fx b L hp m own) (hl : hp.get? l = some (LO items n)) (hz : items.length ≤ 1000000)
    (h : ∀ D c h', Fx b L h' m ((D, LO items c) :: own) → Ext hp h' → Q (.ref D) ⟨h', gs, dr, tk, os⟩) : wpAny (model prog w) A (call (.type "list") [.ref l]) Q E ⟨hp, gs, dr, tk, os⟩ :=
  call_list_seq l (.inl rfl) hl rfl rfl (fun h' c' hk hD => h _ c' h' (F.gain hk (none_at_size _) hD) hk) (by rw [List.size_toArray, sizeLine_eq]; omega)
theorem gm_list {name : Str} {id : String} {pl : Sem Bool} {Q : Value × List Value → Shared → Prop} (hl : hp.get? l = some (LO items n)) (slot : Slot "list" name id)
    (hty : typeOf (.builtin id) = pure (.type "method_descriptor")) (h : Q (.builtin id, [.ref l]) ⟨hp, gs, dr, tk, os⟩) : wpAny (model prog w) A (getMethod (.ref l) name pl) Q E ⟨hp, gs, dr, tk, os⟩ :=
  getMethod_list_of slot hty (isList_of hl) ⟨_, hl, rfl⟩ h
theorem lc_append {Q : Value → Shared → Prop} (F : Fx b L hp m ((l, LO items n) :: own)) (hz : items.length ≤ 1000000)
    (h : ∀ h' n', Fx b L h' m ((l, LO (items ++ [v]) n') :: own) → Q .none ⟨h', gs, dr, tk, os⟩) : wpAny (model prog w) A (call (.builtin "list.append") [.ref l, v]) Q E ⟨hp, gs, dr, tk, os⟩ :=
  wpAny_list_append_plain ⟨n, F.head⟩ (fun h' ⟨n', hn'⟩ hs => h h' n' (F.turnS hs (by rw [hn']; simp))) (by rw [List.size_toArray, sizeLine_eq]; omega)
theorem lc_extend {Q : Value → Shared → Prop} (F : Fx b L hp m ((l, LO items n) :: own)) (hl2 : hp.get? l2 = some (LO items2 n2)) (hz : items.length + items2.length ≤ 1000000)
    (h : ∀ h' n', Fx b L h' m ((l, LO (items ++ items2) n') :: own) → Q .none ⟨h', gs, dr, tk, os⟩) : wpAny (model prog w) A (call (.builtin "list.extend") [.ref l, .ref l2]) Q E ⟨hp, gs, dr, tk, os⟩ := by
  have hz' : items.toArray.size + items2.toArray.size ≤ sizeLine := by rw [List.size_toArray, List.size_toArray, sizeLine_eq]; omega
  refine call_meets PySem.F.slot_list_extend ⟨_, F.head, rfl⟩ PySem.F.entry_list_extend (PySem.F.args_list_extend_2 _ _) (AutoSeq1.list_extend_list_list_0 l items.toArray n l2 items2.toArray n2 (extend_door hz') (Nat.le_trans (Nat.le_add_right _ _) hz') (Nat.le_succ_of_le hz')) ⟨F.head, hl2, ?_⟩
  have F' := F.upd (Obj.mapSeq fun x => x ++ items2.toArray) (by rw [mapSeq_app]; rfl)
  rw [mapSeq_app] at F'
  exact h _ _ (by simpa using F')
theorem lc_len {Q : Value → Shared → Prop} (hl : hp.get? l = some (LO items n)) (hz : items.length ≤ 1000000)
    (h : ∀ t tk', Q (.int items.length t) ⟨hp, gs, dr, tk', os⟩) : wpAny (model prog w) A (call (.builtin "len") [.ref l]) Q E ⟨hp, gs, dr, tk, os⟩ := by
  refine Calls.call_function_entry kind_len plain_len entry_len (args_len1 _) (wpAny_len_body_list (isList_of hl) (by rw [List.size_toArray]; omega) ?_)
  rw [List.size_toArray]
  exact h _ _
theorem tr_list {Q : Bool → Shared → Prop} (hl : hp.get? l = some (LO items n)) (hz : items.length ≤ 1000000)
    (h : ∀ tk', Q (!items.isEmpty) ⟨hp, gs, dr, tk', os⟩) : wpAny (model prog w) A (truthy (.ref l)) Q E ⟨hp, gs, dr, tk, os⟩ := by
  refine wpAny_truthy_list (isList_of hl) (by rw [List.size_toArray]; omega) ?_
  have e : items.toArray.isEmpty = items.isEmpty := by simp
  rw [e]
  exact h _
/-- an item of a list at a place in bounds -/
theorem sub_list {value slice : Expr} {k : Int} {t : Tok} {Q : Value → Shared → Prop} (hl : hp.get? l = some (LO items n)) (h0 : 0 ≤ k) (hk : k < 1000000) (hx : items[k.toNat]? = some v) (h : Q v ⟨hp, gs, dr, tk, os⟩)
    (hs : subscripted slice false (.ref l) (.int k t) = operate [.ref l, .int k t] (getItem (.ref l) (.int k t)) := by with_unfolding_all rfl) :
    wpAny (model prog w) A (subscriptTail value slice (.ref l) (.int k t)) Q E ⟨hp, gs, dr, tk, os⟩ :=
  tail_any (isList_of hl).typeIs slot_list_getitem.lookup (wpAny_getItem_list (isList_of hl) h0 (by omega) (by simpa using hx) h) hs
/-- a new list by its display -/
theorem nl {its : List Value} {Q : Value → Shared → Prop} (F : Fx b L hp m own) (h : ∀ D h', Fx b L h' m ((D, LO its 0) :: own) → Ext hp h' → Q (.ref D) ⟨h', gs, dr, tk, os⟩) (hz : its.length ≤ 1000000 := by decide) :
    wpAny (model prog w) A (newList its) Q E ⟨hp, gs, dr, tk, os⟩ :=
  wpAny_newList (h _ _ (F.push _) (.of_push _)) (by rw [sizeLine_eq]; omega)
end

section
variable {prog : Program} {w : World} {A : Around} {E : Value → Shared → Prop} {hp : Heap} {gs : Array GenState} {dr : Drawn} {tk₀ : Nat} {os : OsState} {R : Result → Shared → Prop}
/-- a for over a list that the base holds -/
theorem for_list {x : Str} {px : Pos} {body : List Stmt} {b : Heap} {L a l : Addr} {m : Str → Option Value} {own : List (Addr × Obj)} {cn : Str} {cs : Scope} {ccd : Value} {cl : List (Str × Addr)} {items : List Value} {n : Nat}
    (F : Fx b L hp m own) (hl : b.get? l = some (LO items n)) (hh : A.handled = none)
    (Inv : Nat → Heap → (Str → Option Value) → List (Addr × Obj) → Prop) (h0 : Inv 0 b m own)
    (step : ∀ i v b₁ m₁ own₁ h₁ tk₁ it E', i < items.length → items[i]? = some v → Inv i b₁ m₁ own₁ → Ext b b₁ → Fx b₁ L h₁ (fun y => if y = x then some v else m₁ y) (own₁ ++ it) →
      wpAny (model prog w) A (execs body (envX cn cs L a ccd cl)) (Turned gs dr os L it b₁ (Inv (i + 1)) fun f s' => R (.ok f) s') E' ⟨h₁, gs, dr, tk₁, os⟩)
    (fin : ∀ h' tk b' m' own', Inv items.length b' m' own' → Ext b b' → Fx b' L h' m' own' → R (.ok .next) ⟨h', gs, dr, tk, os⟩)
    (hk : cs.kind = .function := by with_unfolding_all rfl) (hx : (envX cn cs L a ccd cl).kindOf x = some .local := by with_unfolding_all rfl) :
    wpAny (model prog w) A (pyIter (.ref l)) (fun it s₂ => codeAny (model prog w) A (.forLoop (.Name x px) it body [] (envX cn cs L a ccd cl)) R s₂) E ⟨hp, gs, dr, tk₀, os⟩ := by
  have hl' := F.keep _ _ hl
  have hne : l ≠ hp.objs.size := Nat.ne_of_lt (Heap.lt_size hl')
  refine wpAny_pyIter_list (isList_of hl') ?_
  dsimp only
  have fr := F.fresh
  have W : Walks prog w A hp.objs.size [hp.objs.size, l] [hp.objs.size] items.length (fun i v => items[i]? = some v) (fun i h => h.IsListIter hp.objs.size l i ∧ h.IsList l items.toArray) := by simpa using Walks.list (prog := prog) (w := w) hh hp.objs.size l hne items.toArray
  refine loop_walk W ⟨⟨_, Heap.get?_push_size _ rfl, rfl, rfl⟩, (isList_of hl').push _⟩ (F.ext (.of_push _)) (fun c hc hw => ?_) (fun c hc => ?_) (by simp) (fun i h st c hc => ?_) Inv h0 step fin hk hx
  · rcases List.mem_cons.mp hc with rfl | hc
    · exact absurd (List.mem_singleton.mpr rfl) hw
    · rw [List.mem_singleton.mp hc]; exact ⟨_, hl⟩
  · rw [List.mem_singleton.mp hc]; exact ⟨fr.1, fr.2.1.symm, fr.2.2⟩
  · rw [List.mem_singleton.mp hc]; obtain ⟨o, ho, _⟩ := st.1; exact ⟨o, ho⟩
end

section
variable {prog : Program} {w : World} {A : Around} {E : Value → Shared → Prop} {hp : Heap} {gs : Array GenState} {dr : Drawn} {tk : Nat} {os : OsState} {b : Heap} {L : Addr} {m : Str → Option Value} {own : List (Addr × Obj)} {env : Env}
theorem assign_tup2 {e1 e2 : Expr} {k : Nat} {pos : Pos} {t : Addr} {v1 v2 : Value} {n : Nat} {Q : Unit → Shared → Prop} (F : Fx b L hp m own) (hh : A.handled = none) (ht : hp.get? t = some (TO [v1, v2] n))
    (h : ∀ h', Fx b L h' m own → Ext hp h' → wpAny (model prog w) A (assign e1 env v1) (fun _ s₁ => wpAny (model prog w) A (assign e2 env v2) Q E s₁) E ⟨h', gs, dr, tk, os⟩)
    (he : assignEach [e1, e2] env = [(false, assign e1 env), (false, assign e2 env)] := by with_unfolding_all rfl) :
    wpAny (model prog w) A (assign (.Tuple [e1, e2] k pos) env (.ref t)) Q E ⟨hp, gs, dr, tk, os⟩ := by
  refine wpAny_assign_Tuple (items := [v1, v2].toArray) hh ⟨_, ht, rfl, n, rfl⟩ (by rw [he]; rfl) (by rw [he]; rfl) fun h' e => ?_
  have ex : Ext hp h' := fun c oc q => e c oc (Nat.ne_of_lt (Heap.lt_size q)) q
  rw [he]
  show wpAny _ _ (holding [v2] (assign e1 env v1) >>= fun _ => holding [] (assign e2 env v2) >>= fun _ => pure ()) _ _ _
  refine wpAny_bind (wpAny_holding (wpAny_mono (h h' (F.ext ex) ex) (fun _ s₁ z => wpAny_bind (wpAny_holding (wpAny_mono z (fun _ _ y => wpAny_pure y) fun _ _ y => y))) fun _ _ y => y))
theorem assign_attr {o : Expr} {attr : Str} {pos : Pos} {v : Value} {Q : Unit → Shared → Prop} (h : wpAny (model prog w) A (eval o env) (fun ov s₁ => wpAny (model prog w) A (setAttr ov attr v) Q E s₁) E ⟨hp, gs, dr, tk, os⟩) :
    wpAny (model prog w) A (assign (.Attribute o attr pos) env v) Q E ⟨hp, gs, dr, tk, os⟩ := fun Γ p hΓ => by
  simp only [assign_Attribute, Sem.wp_bind', Sem.wp_holding, Sem.wp_cmd_standAt, Sem.wp_release, Sem.wp_pure']
  exact Sem.wp_mono _ Γ _ (fun ov p₁ s₁ h₁ => h₁ Γ _ hΓ) (fun _ _ _ h' => h') _ _ (h Γ _ hΓ)
/-- a new tuple by its display -/
theorem nt {its : List Value} {Q : Value → Shared → Prop} (F : Fx b L hp m own) (h : ∀ D h', Fx b L h' m ((D, TO its 0) :: own) → Ext hp h' → Q (.ref D) ⟨h', gs, dr, tk, os⟩) (hz : its.length ≤ 1000000 := by decide) :
    wpAny (model prog w) A (newTuple its) Q E ⟨hp, gs, dr, tk, os⟩ :=
  wpAny_newTuple (h _ _ (F.push _) (.of_push _)) (by rw [sizeLine_eq]; omega)
end

/-- a cut of a list -/
def cutL (items : List Value) (lo hi : Option Int) : List Value := (slicePick items.toArray lo hi none).toList
theorem cutL_length (items : List Value) (lo hi : Option Int) : (cutL items lo hi).length ≤ items.length := by
  have := slicePick_size_le items.toArray lo hi none
  simpa [cutL] using this
section
variable {prog : Program} {w : World} {A : Around} {E : Value → Shared → Prop} {hp : Heap} {gs : Array GenState} {dr : Drawn} {tk : Nat} {os : OsState} {b : Heap} {L : Addr} {m : Str → Option Value} {own : List (Addr × Obj)} {env : Env}
def Cut (Q : Value → Shared → Prop) (o vl vu : Value) (s : Shared) : Prop := ∃ l items lo hi, o = .ref l ∧ s.heap.IsList l items ∧ items.size ≤ sizeLine ∧ IsPart vl lo ∧ IsPart vu hi ∧
  Q (.ref (s.heap.objs.size + 1)) { s with heap := (s.heap.push { cls := .type "slice", data := .fields #[vl, vu, .none] }).push { cls := .type "list", data := .seq (slicePick items lo hi none) } }
theorem sub_slice {s : Shared} {value : Expr} {lower upper : Option Expr} {p pos : Pos} {Q : Value → Shared → Prop}
    (h : wpAny (model prog w) A (eval value env) (fun o s₁ => wpAny (model prog w) A (evalPart lower env) (fun vl s₂ => wpAny (model prog w) A (evalPart upper env) (fun vu s₃ => Cut Q o vl vu s₃) E s₂) E s₁) E s)
    (ht : ∀ o r, letTemporaryGo value o r = pure () := by intro _ _; rfl) :
    wpAny (model prog w) A (eval (.Subscript value (.Slice lower upper none p) pos) env) Q E s := wpAny_Subscript_list_slice h ht
theorem ep_none {s : Shared} {Q : Value → Shared → Prop} (h : Q .none s) : wpAny (model prog w) A (evalPart none env) Q E s := by rw [evalPart_none]; exact wpAny_pure h
theorem ep_some {s : Shared} {e : Expr} {Q : Value → Shared → Prop} (h : wpAny (model prog w) A (eval e env) Q E s) : wpAny (model prog w) A (evalPart (some e) env) Q E s := by rw [evalPart_some]; exact h
theorem cut_list {l : Addr} {items : List Value} {n : Nat} {vl vu : Value} {lo hi : Option Int} {Q : Value → Shared → Prop} (F : Fx b L hp m own) (hl : hp.get? l = some (LO items n)) (hz : items.length ≤ 1000000) (pl : IsPart vl lo) (pu : IsPart vu hi)
    (h : ∀ D h', Fx b L h' m ((D, LO (cutL items lo hi) 0) :: own) → Ext hp h' → Q (.ref D) ⟨h', gs, dr, tk, os⟩) : Cut Q (.ref l) vl vu ⟨hp, gs, dr, tk, os⟩ := by
  refine ⟨l, items.toArray, lo, hi, rfl, isList_of hl, by rw [List.size_toArray, sizeLine_eq]; omega, pl, pu, ?_⟩
  have F' := (F.ext (.of_push { cls := .type "slice", data := .fields #[vl, vu, .none] })).push (LO (cutL items lo hi) 0)
  rw [Heap.size_push] at F'
  have e : (LO (cutL items lo hi) 0) = { cls := .type "list", data := .seq (slicePick items.toArray lo hi none) } := by simp [cutL]
  have ex : Ext hp ((hp.push { cls := .type "slice", data := .fields #[vl, vu, .none] }).push (LO (cutL items lo hi) 0)) := (Ext.of_push _).push _
  have z := h _ _ F' ex
  rw [e] at z
  exact z
end
section
variable {b h hp : Heap} {L a x : Addr} {m : Str → Option Value} {own : List (Addr × Obj)} {p q r : Addr × Obj}
theorem none_of_hide1 (e : (hideAll hp [x]).get? a = none) (n : a ≠ x) : hp.get? a = none := by
  cases q : hp.get? a with
  | none => rfl
  | some o => rw [hideAll_get [x] q (by simpa using n)] at e; cases e
theorem Fx.ne12 (F : Fx b L h m (p :: q :: own)) : p.1 ≠ q.1 := by
  have nd := F.nodup
  simp only [List.map_cons, List.nodup_cons, List.mem_cons, not_or] at nd
  exact nd.2.1.1
theorem Fx.ne13 (F : Fx b L h m (p :: q :: r :: own)) : p.1 ≠ r.1 := by
  have nd := F.nodup
  simp only [List.map_cons, List.nodup_cons, List.mem_cons, not_or] at nd
  exact nd.2.1.2.1
end
theorem Fx.take2 {b h h' : Heap} {L a a₂ : Addr} {m : Str → Option Value} {o o₂ : Obj} (F : Fx b L h m []) (eg : Ext h (hideAll h' [a, a₂])) (hne : a ≠ a₂) (ha : h'.get? a = some o) (ha₂ : h'.get? a₂ = some o₂) (n1 : h.get? a = none) (n2 : h.get? a₂ = none) :
    ∃ b', Ext b b' ∧ Fx b' L h' m [(a, o), (a₂, o₂)] ∧ ∀ c oc, c ≠ L → (hideAll h' [a, a₂]).get? c = some oc → b'.get? c = some oc := by
  have up : Ext h h' := fun c oc e => of_hideAll _ (eg c oc e)
  have L1 : L ≠ a := fun q => by obtain ⟨oL, _, _, hL, _⟩ := F.ns; rw [q, n1] at hL; cases hL
  have L2 : L ≠ a₂ := fun q => by obtain ⟨oL, _, _, hL, _⟩ := F.ns; rw [q, n2] at hL; cases hL
  have mem : ∀ {c oc}, (hideAll h' [a, a₂]).get? c = some oc → c ∉ [a, a₂] := fun {c oc} e q => by rw [hideAll_none _ q] at e; cases e
  refine ⟨hideAll h' [L, a, a₂], fun c oc e => hideAll_get _ (up c oc (F.keep c oc e)) (fun q => ?_), ⟨F.ns.keeps up, fun c oc e => of_hideAll _ e, hideAll_none _ (.head _), fun p hp => ?_, fun p hp => hideAll_none _ (.tail _ ?_), ?_⟩, fun c oc nL e => hideAll_get _ (of_hideAll _ e) (fun q => ?_)⟩
  · rcases List.mem_cons.mp q with rfl | q
    · rw [F.lout] at e; cases e
    · exact mem (eg c oc (F.keep c oc e)) q
  · rcases List.mem_cons.mp hp with rfl | hp
    · exact ha
    · rw [List.mem_singleton.mp hp]; exact ha₂
  · rcases List.mem_cons.mp hp with rfl | hp
    · exact .head _
    · rw [List.mem_singleton.mp hp]; exact .tail _ (.head _)
  · simp [L1, L2, hne]
  · rcases List.mem_cons.mp q with rfl | q
    · exact nL rfl
    · exact mem e q
theorem Fx.only {b h h' : Heap} {L : Addr} {m : Str → Option Value} {own : List (Addr × Obj)} (F : Fx b L h m own) {as : List Addr} (e : Ext (hideAll h as) h') (hs : ∀ a ∈ as, a ∈ own.map (·.1)) : Fx b L h' m [] := by
  have nd := List.nodup_cons.mp F.nodup
  obtain ⟨oL, es, ep, gL, r⟩ := F.ns
  refine ⟨⟨oL, es, ep, e _ _ (hideAll_get _ gL fun q => nd.1 (hs _ q)), r⟩, fun c oc q => e c oc (hideAll_get _ (F.keep c oc q) fun z => ?_), F.lout, (fun _ q => nomatch q), (fun _ q => nomatch q), by simp⟩
  obtain ⟨p, hp, rfl⟩ := List.mem_map.mp (hs _ z)
  rw [F.out p hp] at q; cases q
abbrev RgO (a b c : Int) (t u v : Tok) : Obj := { cls := .type "range", data := .fields #[.int a t, .int b u, .int c v] }
section
variable {prog : Program} {w : World} {A : Around} {E : Value → Shared → Prop} {hp : Heap} {gs : Array GenState} {dr : Drawn} {tk : Nat} {os : OsState} {b : Heap} {L : Addr} {m : Str → Option Value} {own : List (Addr × Obj)} {Q : Value → Shared → Prop} {x y z : Int} {t u v : Tok}
theorem rg3 (F : Fx b L hp m own) (hc : z ≠ 0) (hx : -1000000 ≤ x ∧ x ≤ 1000000) (hy : -1000000 ≤ y ∧ y ≤ 1000000) (hz : -1000000 ≤ z ∧ z ≤ 1000000) (h : ∀ D h', Fx b L h' m ((D, RgO x y z t u v) :: own) → Ext hp h' → Q (.ref D) ⟨h', gs, dr, tk, os⟩) :
    wpAny (model prog w) A (call (.type "range") [.int x t, .int y u, .int z v]) Q E ⟨hp, gs, dr, tk, os⟩ :=
  call_range_3 hc (h _ _ (F.push _) (.of_push _)) (.inl (PyProof.noPylong_small (by omega)))
theorem rg2 (F : Fx b L hp m own) (h : ∀ D h' v tk', Fx b L h' m ((D, RgO x y 1 t u v) :: own) → Ext hp h' → Q (.ref D) ⟨h', gs, dr, tk', os⟩) :
    wpAny (model prog w) A (call (.type "range") [.int x t, .int y u]) Q E ⟨hp, gs, dr, tk, os⟩ := call_range_2 (h _ _ _ _ (F.push _) (.of_push _))
theorem rg1 (F : Fx b L hp m own) (h : ∀ D h' t v tk', Fx b L h' m ((D, RgO 0 y 1 t u v) :: own) → Ext hp h' → Q (.ref D) ⟨h', gs, dr, tk', os⟩) :
    wpAny (model prog w) A (call (.type "range") [.int y u]) Q E ⟨hp, gs, dr, tk, os⟩ := call_range_1 (h _ _ _ _ _ (F.push _) (.of_push _))
end

theorem rsize_bound {x y z : Int} (hx : -1000000 ≤ x ∧ x ≤ 1000000) (hy : -1000000 ≤ y ∧ y ≤ 1000000) (hz : z ≠ 0) : 0 ≤ Builtin.Range.rangeSize x y z ∧ Builtin.Range.rangeSize x y z ≤ 3000000 := by
  unfold Builtin.Range.rangeSize
  have key : ∀ d k : Int, 0 ≤ d → 1 ≤ k → 0 ≤ d / k ∧ d / k ≤ d := fun d k hd hk => ⟨Int.ediv_nonneg hd (by omega), Int.ediv_le_self _ hd⟩
  split
  · split
    · have := key (y - x - 1) z (by omega) (by omega); omega
    · omega
  · split
    · have := key (x - y - 1) (-z) (by omega) (by omega); omega
    · omega
theorem rsmall {x y z : Int} (hx : -1000000 ≤ x ∧ x ≤ 1000000) (hy : -1000000 ≤ y ∧ y ≤ 1000000) (hz : -1000000 ≤ z ∧ z ≤ 1000000) (h0 : z ≠ 0) : Builtin.Range.small x y z = true := by
  have hb := rsize_bound hx hy h0
  unfold Builtin.Range.small Builtin.Range.rangeFitsLong
  simp only [Bool.and_eq_true, decide_eq_true_eq, Bool.or_eq_true]
  refine ⟨⟨⟨⟨⟨by omega, by omega⟩, by omega, by omega⟩, by omega, by omega⟩, by omega, by omega⟩, .inr ?_⟩
  split <;> simp <;> omega
section
variable {prog : Program} {w : World} {A : Around} {E : Value → Shared → Prop} {hp : Heap} {gs : Array GenState} {dr : Drawn} {tk₀ : Nat} {os : OsState} {R : Result → Shared → Prop}
/-- a for over a range -/
theorem for_range {x : Str} {px : Pos} {body : List Stmt} {b : Heap} {L a r : Addr} {m : Str → Option Value} {own : List (Addr × Obj)} {cn : Str} {cs : Scope} {ccd : Value} {cl : List (Str × Addr)} {i0 i1 st : Int} {t u v : Tok} {n : Nat}
    (F : Fx b L hp m own) (hr : hp.get? r = some (RgO i0 i1 st t u v)) (hsm : Builtin.Range.small i0 i1 st = true) (hn : Builtin.Range.rangeSize i0 i1 st = n) (hh : A.handled = none)
    (Inv : Nat → Heap → (Str → Option Value) → List (Addr × Obj) → Prop) (h0 : Inv 0 b m own)
    (step : ∀ (i : Nat) tv b₁ m₁ own₁ h₁ tk₁ it E', i < n → Inv i b₁ m₁ own₁ → Ext b b₁ → Fx b₁ L h₁ (fun y => if y = x then some (.int (i0 + i * st) tv) else m₁ y) (own₁ ++ it) →
      wpAny (model prog w) A (execs body (envX cn cs L a ccd cl)) (Turned gs dr os L it b₁ (Inv (i + 1)) fun f s' => R (.ok f) s') E' ⟨h₁, gs, dr, tk₁, os⟩)
    (fin : ∀ h' tk b' m' own', Inv n b' m' own' → Ext b b' → Fx b' L h' m' own' → R (.ok .next) ⟨h', gs, dr, tk, os⟩)
    (hk : cs.kind = .function := by with_unfolding_all rfl) (hx : (envX cn cs L a ccd cl).kindOf x = some .local := by with_unfolding_all rfl) :
    wpAny (model prog w) A (pyIter (.ref r)) (fun it s₂ => codeAny (model prog w) A (.forLoop (.Name x px) it body [] (envX cn cs L a ccd cl)) R s₂) E ⟨hp, gs, dr, tk₀, os⟩ := by
  refine wpAny_pyIter_range hr hsm ?_
  dsimp only
  have fr := F.fresh
  have W := Walks.range (prog := prog) (w := w) hh hp.objs.size i0 st n
  refine loop_walk W ?_ (F.ext (.of_push _)) (fun c hc hw => absurd hc hw) (fun c hc => ?_) (by simp) (fun i h st c hc => ?_) Inv h0 (fun i v b₁ m₁ own₁ h₁ tk₁ it E' hi hv => ?_) fin hk hx
  · rw [hn]
    have := Heap.get?_push_size hp (o := { cls := .type "range_iterator", data := .fields #[rawInt i0, rawInt (n : Int), rawInt st] }) rfl
    simpa [IsRangeIter] using this
  · rw [List.mem_singleton.mp hc]; exact ⟨fr.1, fr.2.1.symm, fr.2.2⟩
  · rw [List.mem_singleton.mp hc]; exact ⟨_, st⟩
  · obtain ⟨tv, rfl⟩ := hv
    exact step i tv b₁ m₁ own₁ h₁ tk₁ it E' hi
end
theorem x_neg {prog : Program} {w : World} {A : Around} {E : Value → Shared → Prop} {hp : Heap} {gs : Array GenState} {dr : Drawn} {tk : Nat} {os : OsState} {Q : Value → Shared → Prop} {a : Int} {t : Tok} (h : Q (.int (-a) tk) ⟨hp, gs, dr, tk + 1, os⟩) : wpAny (model prog w) A (unaryOp .USub (.int a t)) Q E ⟨hp, gs, dr, tk, os⟩ := PySem.P.neg_int h
/-! slice objects -/
abbrev SlO (a b c : Value) : Obj := { cls := .type "slice", data := .fields #[a, b, c] }
namespace Sl
section
variable {prog : Program} {w : World} {A : Around} {E : Value → Shared → Prop} {h : Heap} {g : Array GenState} {d : Drawn} {t : Nat} {os : OsState} {l : Addr} {a b c : Value}
end
end Sl
namespace Sl
end Sl
section
variable {prog : Program} {w : World} {A : Around} {E : Value → Shared → Prop} {hp : Heap} {gs : Array GenState} {dr : Drawn} {tk : Nat} {os : OsState} {b : Heap} {L l sl : Addr} {m : Str → Option Value} {own : List (Addr × Obj)} {items : List Value} {n : Nat} {v vl vu vs : Value} {lo hi st : Option Int}
/-- a list cut by a slice object -/
def pickL (items : List Value) (lo hi st : Option Int) : List Value := (slicePick items.toArray lo hi st).toList
theorem gi_slice {Q : Value → Shared → Prop} (F : Fx b L hp m own) (hl : hp.get? l = some (LO items n)) (hs : hp.get? sl = some (SlO vl vu vs)) (pl : IsPart vl lo) (pu : IsPart vu hi) (ps : IsPart vs st) (h0 : st ≠ some 0) (hz : items.length ≤ 1000000)
    (h : ∀ D h', Fx b L h' m ((D, LO (pickL items lo hi st) 0) :: own) → Ext hp h' → Q (.ref D) ⟨h', gs, dr, tk, os⟩) : wpAny (model prog w) A (getItem (.ref l) (.ref sl)) Q E ⟨hp, gs, dr, tk, os⟩ :=
  wpAny_getItem_list_slice (isList_of hl) ⟨_, hs, rfl, rfl⟩ pl pu ps h0 (by
    have z := h _ _ (F.push (LO (pickL items lo hi st) 0)) (.of_push _)
    simpa [pickL] using z) (by rw [List.size_toArray, sizeLine_eq]; omega)
/-- the places that a del of a slice takes -/
def selD (start stop : Int) (i : Nat) : Bool := decide (start ≤ i) && decide (i < stop)
def sel3 (start stop step : Int) (i : Nat) : Bool :=
  if step > 0 then start ≤ i && i < stop && (i - start) % step == 0
  else stop < i && i ≤ start && (start - i) % (-step) == 0
def delL (items : List Value) (lo hi : Option Int) : List Value :=
  items.zipIdx.filterMap fun (x, k) => if selD (sliceBounds lo hi none items.length).1 (sliceBounds lo hi none items.length).2.1 k then none else some x
end
/-- an exception of a builtin class is under way -/
def Thrown (base hp : Heap) (outer : List Env) (cls : String) (e : Addr) (h' : Heap) : Prop := ∃ a0, Heap.FlyingW base outer e (.type cls) a0 h' ∧ hp.UpToSlots h'
section
variable {prog : Program} {w : World} {A : Around} {E : Value → Shared → Prop} {hp h₁ h₂ base : Heap} {gs : Array GenState} {dr : Drawn} {tk : Nat} {os : OsState} {b : Heap} {L f e : Addr} {m : Str → Option Value} {own : List (Addr × Obj)} {outer : List Env} {cls : String} {cn : Str} {cs : Scope} {ccd : Value} {cl : List (Str × Addr)}
theorem frames_of (F : Fx b L h₁ m own) (hk : cs.kind ≠ .module) (hn : base.get? L = none) (hff : h₁.FunFrames base outer) : h₁.FunFrames base (envX cn cs L f ccd cl :: outer) :=
  Heap.FunFrames.cons (env := envX cn cs L f ccd cl) hk rfl F.ns hn hff
/-- a new exception leaves the frame in which it arose -/
theorem leave_new {Q : Unit → Shared → Prop} (F : Fx b L h₁ m own) (eb : Ext hp b) (hfr : A.frames = some outer) (hb : Ext base hp) (hff : hp.FunFrames base outer) (x : Heap.NewExc h₁ h₂ e cls)
    (h : ∀ h', Thrown base hp outer cls e h' → Q () ⟨h', gs, dr, tk, os⟩) (hk : cs.kind ≠ .module := by with_unfolding_all decide) :
    wpAny (model prog w) (A.deeper (envX cn cs L f ccd cl)) (leaving (envX cn cs L f ccd cl) (.ref e)) Q E ⟨h₂, gs, dr, tk, os⟩ := by
  obtain ⟨ob, tp, he, hcls, hd⟩ := x.there
  have e1 : Ext hp h₁ := eb.trans F.keep
  have e2 : Ext hp h₂ := e1.trans x.keeps
  have hen : base.get? e = none := (hb.trans e1).none x.new
  have hff2 : h₂.FunFrames base outer := hff.of_keeps fun c o hc _ => ⟨o, e2 c o hc, rfl⟩
  have F2 := F.ext x.keeps
  refine wpAny_leaving_firstW (base := base) (Around.frames_deeper hfr) (frames_of F2 hk ((hb.trans eb).none F.lout) hff2) rfl he (fun c o hc => e2 c o (hb c o hc)) hen hd rfl rfl fun h' hL => ?_
  obtain ⟨k1, ⟨_, _, k2⟩, k3, k4⟩ := hL
  rw [hcls] at k3
  exact h h' ⟨_, ⟨k1, hen, k2, k3⟩, (Heap.UpToSlots.of_keeps e2).trans k4⟩
/-- an exception passes through a frame -/
theorem leave_on {Q : Unit → Shared → Prop} {hq : Heap} (hfr : A.frames = some outer) (hf : Ext hp h₁) (x : Thrown base h₁ (envX cn cs L f ccd cl :: outer) cls e h₂)
    (h : ∀ h', Thrown base hp outer cls e h' → Q () ⟨h', gs, dr, tk, os⟩) :
    wpAny (model prog w) (A.deeper (envX cn cs L f ccd cl)) (leaving (envX cn cs L f ccd cl) (.ref e)) Q E ⟨h₂, gs, dr, tk, os⟩ := by
  obtain ⟨a0, fl, up⟩ := x
  refine wpAny_leaves_onW (base := base) (Around.frames_deeper hfr) rfl fl fun h' fl' up' => ?_
  exact h h' ⟨a0, fl', ((Heap.UpToSlots.of_keeps hf).trans up).trans up'⟩
theorem Fx.slots (F : Fx b L h₁ m own) (hb : Ext b base) (ho : ∀ p ∈ own, base.get? p.1 = some p.2) (k : Ext base h₂) (u : h₁.UpToSlots h₂) : Fx b L h₂ m own :=
  ⟨u.ns F.ns, hb.trans k, F.lout, fun p hp => k _ _ (ho p hp), F.out, F.nodup⟩
/-- the clause that catches it -/
theorem caught {K : Frag} {mg mb : Str → Option Value} {x : Str} {px pos : Pos} {b₀ : Stmt} {suite : List Stmt} {rest : List ExceptHandler} {Q : Flow → Shared → Prop} (F : Fx b L h₁ m own) (T : Tp K mg mb b) (hb : Ext b base) (ho : ∀ p ∈ own, base.get? p.1 = some p.2)
    (hfr : A.frames = some (envX cn cs L f ccd cl :: outer)) (x1 : Thrown base h₁ (envX cn cs L f ccd cl :: outer) cls e h₂)
    (hg : nsIn K mainGlobals x = some none) (hv : bootBuiltins x = some (.type cls)) (hn : x ≠ "__name__")
    (hexc : isSubtype (.type cls) (.type "BaseException") = pure true) (hnt : isSubtype (.type ((Manifest.find? cls).elim "type" fun x => x.metatype)) (.type "tuple") = pure false) (hsub : isSubtype (.type cls) (.type cls) = pure true)
    (h : ∀ h' tk E', Fx b L h' m own → Ext base h' → h₁.UpToSlots h' → h'.FunFrames base (envX cn cs L f ccd cl :: outer) → wpAny (model prog w) (A.mark (some (.ref e))) (execs (b₀ :: suite) (envX cn cs L f ccd cl)) Q E' ⟨h', gs, dr, tk, os⟩)
    (hk : cs.kind = .function := by with_unfolding_all rfl) (hx : (envX cn cs L f ccd cl).kindOf x = some .globalImplicit := by with_unfolding_all rfl) (hd : (x == ("__debug__" : Str)) = false := by decide) :
    wpAny (model prog w) A (noteFrame (.ref e) (envX cn cs L f ccd cl)) (fun _ s₂ => wpAny (model prog w) A (setFlight (.ref e) none) (fun _ s₃ => wpAny (model prog w) A (handleBy (.ref e) (envX cn cs L f ccd cl) (.ExceptHandler (some (.Name x px)) none (b₀ :: suite) pos :: rest)) Q E s₃) E s₂) E ⟨h₂, gs, dr, tk, os⟩ := by
  obtain ⟨a0, fl, up⟩ := x1
  refine wpAny_looks_onW (base := base) hfr rfl fl fun h3 held u3 => ?_
  refine wpAny_landsW held fun h4 fl4 u4 => ?_
  have F4 : Fx b L h4 m own := F.slots hb ho fl4.1 ((up.trans u3).trans u4)
  refine wpAny_handleBy_builtin (X := cls) (T := cls) (b := true) hexc hnt hsub ?_
  refine n_blt F4 T hg hv ⟨rfl, fl4.there, ?_⟩ hn hk hx hd
  simp only [if_true]
  refine wpAny_setFlight_noneW fl4.1 fl4.2.2.1 fl4.2.2.2.at fun h5 k1 k2 k3 k4 => ?_
  have u5 : h4.UpToSlots h5 := fun c o hc hn => ⟨o.slots, k4 c o hc hn⟩
  have u := ((up.trans u3).trans u4).trans u5
  exact h h5 _ _ (F.slots hb ho k1 u) k1 u k2
end
namespace Rz
theorem ie1 : isSubtype (.type "IndexError") (.type "BaseException") = pure true := by rw [isSubtype_type]; kernel_rfl
theorem ie2 : isSubtype (.type ((Manifest.find? "IndexError").elim "type" fun x => x.metatype)) (.type "tuple") = pure false := by rw [find?_eq_fast, isSubtype_type]; kernel_rfl
theorem ie3 : isSubtype (.type "IndexError") (.type "IndexError") = pure true := by rw [isSubtype_type]; kernel_rfl
end Rz
/-! calls of defs with cells -/
abbrev CX (o : Obj) (v : Option Value) : Obj := { o with data := .cell v }
theorem cx_of {o : Obj} {v : Option Value} (h : o.data = .cell v) : o = CX o v := by cases o; simp only at h; subst h; rfl
section
variable {M : Model} {A : Around} {E : Value → Shared → Prop} {hp : Heap} {gs : Array GenState} {dr : Drawn} {tk : Nat} {os : OsState} {b : Heap} {L a : Addr} {m : Str → Option Value} {own : List (Addr × Obj)} {cn : Str} {cs : Scope} {ccd : Value} {cl : List (Str × Addr)}
  {x : Str} {v : Value} {c : Addr} {o : Obj}
theorem st_cx {Q : Unit → Shared → Prop} {v₀ : Option Value} (F : Fx b L hp m ((c, CX o v₀) :: own)) (hc : cl.lookup x = some c)
    (h : ∀ h', Fx b L h' m ((c, CX o (some v)) :: own) → Q () ⟨h', gs, dr, tk, os⟩)
    (hk : cs.kind = .function := by with_unfolding_all rfl) (hx : (envX cn cs L a ccd cl).kindOf x = some .cell := by with_unfolding_all rfl) : wpAny M A (storeName (envX cn cs L a ccd cl) x v) Q E ⟨hp, gs, dr, tk, os⟩ := by
  unfold storeName
  simp only [hx, hk]
  refine wpAny_bind (wpAny_cellOf hc ?_)
  unfold cellSet
  refine wpAny_bind (wpAny_load F.head ?_)
  exact wpAny_update F.head (h _ (F.upd (fun o => { o with data := .cell (some v) })))
end
section
variable {prog : Program} {w : World} {A : Around} {hp : Heap} {gs : Array GenState} {dr : Drawn} {tk : Nat} {os : OsState} {R : Result → Shared → Prop} {name qual : Str} {params : Arguments} {body : List Stmt} {scope : Scope} {dV kV doc pm cdv ct : Value} {an : Option Addr} {fo : Obj} {f : Addr} {args : Args} {binds : List (Str × Value)}
/-- the cells of a frame at L -/
def cellsOwn (L : Addr) (scope : Scope) (cm : Str → Option Value) (ob : Addr → Obj) : List (Addr × Obj) := (cellsFrom (L + 1) scope.names []).map fun p => (p.2, CX (ob p.2) (cm p.1))
theorem call_fxc (hroom : A.depth < recursionLimit) (ho : hp.get? f = some fo) (hd : fo.data = .func (fnX name qual params body scope [] dV kV doc pm an cdv ct))
    (hlim : hp.NoLimit) (hcd : hp.CodeRec cdv qual) (hbind : BindsTo ⟨hp, gs, dr, tk, os⟩ (fnX name qual params body scope [] dV kV doc pm an cdv ct) args binds)
    (hkind : ∀ n, ∀ x ∈ binds, scope.names.lookup x.1 = some .local ∨ (scope.names.lookup x.1 = some .cell ∧ ((cellsFrom n scope.names []).lookup x.1).isSome = true))
    (hnd : ((cellsFrom 0 scope.names []).map (·.1)).Nodup)
    (h : ∀ L' h₁ tk' ob, Fx hp L' h₁ (bindL (envOfC qual scope L' f cdv).kindOf binds fun _ => none) (cellsOwn L' scope (bindC (envOfC qual scope L' f cdv).kindOf binds fun _ => none) ob) →
      wpAny (model prog w) (A.deeper (envX qual scope L' f cdv (cellsFrom (L' + 1) scope.names []))) (execs body (envX qual scope L' f cdv (cellsFrom (L' + 1) scope.names []))) (fun fl s' => R (.ok (.ret (retOf fl))) s')
        (fun e s' => wpAny (model prog w) (A.deeper (envX qual scope L' f cdv (cellsFrom (L' + 1) scope.names []))) (leaving (envX qual scope L' f cdv (cellsFrom (L' + 1) scope.names [])) e) (fun _ s'' => R (.error e) s'') (fun e' s'' => R (.error e') s'') s')
        ⟨h₁, gs, dr, tk', os⟩)
    (hco : scope.isCoroutine = false := by with_unfolding_all rfl) (hgen : scope.isGenerator = false := by with_unfolding_all rfl) (hk : scope.kind = .function := by with_unfolding_all rfl) : codeAny (model prog w) A (.call (.ref f) args) R ⟨hp, gs, dr, tk, os⟩ := by
  refine codeAny_call_function hroom ho hd hco hgen rfl hcd (hbind _ _ _ _ ?_)
  refine wpAny_newFunctionEnv_cells hk (hkind _) fun env' he s' x => ?_
  subst he
  refine ⟨hlim.keeps x.toInCall.keep, codeAny_func ?_⟩
  obtain ⟨h₁, tk', rfl, _⟩ := x.done
  have hk₁ := x.toInCall.keep
  have hlk : ∀ n c, (n, c) ∈ cellsFrom (hp.objs.size + 1) scope.names [] → (cellsFrom (hp.objs.size + 1) scope.names []).lookup n = some c := fun n c hm => lookup_of_mem_nodup (cellsFrom_names scope.names 0 (hp.objs.size + 1) [] [] rfl ▸ hnd) hm
  refine wpAny_mono (h hp.objs.size h₁ tk' (fun c => (h₁.get? c).getD default) ⟨x.toInCall.ns, hk₁, none_at_size _, fun p hpm => ?_, fun p hpm => ?_, ?_⟩) (fun fl s' z => ?_) fun _ _ y => y
  · obtain ⟨q, hq, rfl⟩ := List.mem_map.mp hpm
    obtain ⟨o, ho, hd⟩ := x.cell q.1 q.2 (hlk _ _ hq)
    show h₁.get? q.2 = some (CX ((h₁.get? q.2).getD default) _)
    rw [show h₁.get? q.2 = some o from ho]
    exact congrArg some (cx_of hd)
  · obtain ⟨q, hq, rfl⟩ := List.mem_map.mp hpm
    exact Heap.get?_none_of_le (Nat.le_of_lt (x.above q.1 q.2 hq))
  · refine List.nodup_cons.mpr ⟨fun q => ?_, ?_⟩
    · obtain ⟨p, hpm, e⟩ := List.mem_map.mp q
      obtain ⟨q, hq, rfl⟩ := List.mem_map.mp hpm
      exact absurd e (Nat.ne_of_gt (x.above q.1 q.2 hq))
    · unfold cellsOwn
      rw [List.map_map]
      exact List.pairwise_map.mpr x.apart
  · cases fl <;> exact z
end

/-! list comprehensions over whole numbers -/
def pv (pp : Int → Bool) : Value → Bool
  | .int k _ => pp k
  | _ => false
def fv (g : Int → Int) (v y : Value) : Prop := ∃ k t t', v = .int k t ∧ y = .int (g k) t'
theorem ints_of : ∀ {vs : List Value} {ns : List Int}, vs.length = ns.length → (∀ (j : Nat) (v : Value), vs[j]? = some v → ∃ (k : Int) (t : Tok), ns[j]? = some k ∧ v = .int k t) → IntsAre vs ns
  | [], [], _, _ => .nil
  | v :: vs, n :: ns, hl, h => by
    obtain ⟨k, t, e1, rfl⟩ := h 0 v rfl
    cases e1
    exact .cons _ _ (ints_of (by simpa using hl) fun j v e => h (j + 1) v e)
section
variable {prog : Program} {w : World} {A : Around} {E : Value → Shared → Prop} {hp : Heap} {gs : Array GenState} {dr : Drawn} {tk : Nat} {os : OsState} {b : Heap} {L : Addr} {m : Str → Option Value} {own : List (Addr × Obj)} {env : Env} {Q : Value → Shared → Prop}
/-- what one turn of the comprehension does -/
structure Turns (prog : Program) (w : World) (A : Around) (env : Env) (scope : Scope) (cl : List (Str × Addr)) (x : Str) (ifs : List Expr) (elt : Expr) (ns : List Int) (pp : Int → Bool) (g : Int → Int) (hp : Heap) : Prop where
  tests : ∀ C k t h₃ gs dr tk os m₃ E', k ∈ ns → h₃.Ns C m₃ → m₃ x = some (.int k t) → Ext hp h₃ →
    wpAny (model prog w) A (forIn ifs true fun c r => if r = true then do let ok ← isTrue c (compEnvC scope cl C env) (eval c (compEnvC scope cl C env)); pure (ForInStep.yield ok) else pure (ForInStep.yield r))
      (fun ok s₄ => ok = pp k ∧ ∃ h' tk', s₄ = ⟨h', gs, dr, tk', os⟩ ∧ Ext h₃ h') E' ⟨h₃, gs, dr, tk, os⟩
  elt : ∀ C k t h₃ gs dr tk os m₃ E', k ∈ ns → pp k = true → h₃.Ns C m₃ → m₃ x = some (.int k t) → Ext hp h₃ →
    wpAny (model prog w) A (eval elt (compEnvC scope cl C env)) (fun y s₄ => (∃ t', y = .int (g k) t') ∧ ∃ h' tk', s₄ = ⟨h', gs, dr, tk', os⟩ ∧ Ext h₃ h') E' ⟨h₃, gs, dr, tk, os⟩
/-- the numbers of a range -/
def rangeL (a st : Int) (n : Nat) : List Int := (List.range n).map fun (i : Nat) => a + (i : Int) * st
end
section
variable {prog : Program} {w : World} {A : Around} {E : Value → Shared → Prop} {hp : Heap} {gs : Array GenState} {dr : Drawn} {tk : Nat} {os : OsState} {b : Heap} {L l l2 : Addr} {m : Str → Option Value} {own : List (Addr × Obj)} {items items2 : List Value} {n n2 : Nat} {Q : Value → Shared → Prop}
theorem lc_add (F : Fx b L hp m own) (hl : hp.get? l = some (LO items n)) (hl2 : hp.get? l2 = some (LO items2 n2)) (hz : items.length + items2.length ≤ 1000000)
    (h : ∀ D h', Fx b L h' m ((D, LO (items ++ items2) 0) :: own) → Ext hp h' → Q (.ref D) ⟨h', gs, dr, tk, os⟩) : wpAny (model prog w) A (binaryOp .Add (.ref l) (.ref l2)) Q E ⟨hp, gs, dr, tk, os⟩ := by
  refine concat_meets ⟨_, hl, rfl⟩ ⟨_, hl2, rfl⟩ noFill_list_add seq_list_add PySem.F.slot_list_add PySem.F.entry_list_add (PySem.F.args_list_add_2 _ _) (list_addW l l2 items.toArray items2.toArray n n2 none none #[] #[] (by rw [List.size_toArray, List.size_toArray, sizeLine_eq]; omega)) ⟨hl, hl2, ?_⟩
  have z := h _ _ (F.push (LO (items ++ items2) 0)) (.of_push _)
  simpa using z
theorem lc_range {r : Addr} {i0 i1 st : Int} {t u v : Tok} (F : Fx b L hp m own) (hr : hp.get? r = some (RgO i0 i1 st t u v)) (hsm : Builtin.Range.small i0 i1 st = true) (hn : Builtin.Range.rangeSize i0 i1 st = n) (hz : n ≤ 1000000) (hh : A.handled = none)
    (h : ∀ D c ys h' tk', Fx b L h' m ((D, LO ys c) :: own) → Ext hp h' → IntsAre ys (rangeL i0 st n) → Q (.ref D) ⟨h', gs, dr, tk', os⟩) : wpAny (model prog w) A (call (.type "list") [.ref r]) Q E ⟨hp, gs, dr, tk, os⟩ := by
  refine call_list_range hh hr hsm hn (by omega) fun h' tk' acc c hk hD hi => ?_
  refine h _ c acc.toList h' tk' (F.gain hk (none_at_size _) (by rw [hD])) hk (ints_of (by simp [rangeL, hi.1]) fun j v e => ?_)
  have e' : acc[j]? = some v := by simpa using e
  obtain ⟨t, rfl⟩ := hi.2 j v e'
  have hj : j < n := by
    have := (Array.getElem?_eq_some_iff.mp e').1
    rw [hi.1] at this; exact this
  exact ⟨_, t, by simp [rangeL, hj], rfl⟩
theorem x_fdiv {a c : Int} {t u : Tok} (hc : c ≠ 0) (hs : c.natAbs < 1073741824) (h : Q (.int (a.fdiv c) tk) ⟨hp, gs, dr, tk + 1, os⟩) : wpAny (model prog w) A (binaryOp .FloorDiv (.int a t) (.int c u)) Q E ⟨hp, gs, dr, tk, os⟩ :=
  floordiv_int (s := ⟨hp, gs, dr, tk, os⟩) hc h (.inl (PyProof.noPylong_small hs))
end
set_option maxHeartbeats 8000000
/-- the heap as a tree, object by object -/
def treeFrom : List Obj → Nat → BT → BT
  | [], _, t => t
  | o :: l, n, t => treeFrom l (n + 1) (t.ins n o)
def toT (s : Shared) : SharedT := ⟨treeFrom s.heap.objs.toList 0 .nil, s.heap.objs.size, s.heap.life, s.gens, s.drawn, s.toks, s.os⟩
/-- the tree holds just what the heap holds -/
def holdsAll (h : Heap) (t : BT) : List Obj → Nat → Bool
  | [], _ => true
  | _ :: l, n => (t.get n).isSome && holdsAll h t l (n + 1)
theorem ins_self (o : Obj) : ∀ (n : Nat) (t : BT), (∀ i, i < n → (t.get i).isSome = true) → ((t.ins n o).get n) = some o
  | n, .nil, h => by
    cases n with
    | zero => show (BT.node o .nil .nil).get 0 = _; rw [BT.get_node, if_pos rfl]
    | succ n => have := h 0 (by omega); simp [BT.get] at this
  | n, .node v l r, h => by
    rw [BT.ins_node]
    by_cases h0 : n = 0
    · rw [if_pos h0, BT.get_node, if_pos h0]
    · rw [if_neg h0]
      by_cases h1 : n % 2 = 1
      · rw [if_pos h1, BT.get_node, if_neg h0, if_pos h1]
        refine ins_self o (n / 2) l fun i hi => ?_
        have := h (2 * i + 1) (by omega)
        rw [BT.get_node, if_neg (by omega), if_pos (by omega), show (2 * i + 1) / 2 = i by omega] at this
        exact this
      · rw [if_neg h1, BT.get_node, if_neg h0, if_neg h1]
        refine ins_self o (n / 2 - 1) r fun i hi => ?_
        have := h (2 * i + 2) (by omega)
        rw [BT.get_node, if_neg (by omega), if_neg (by omega), show (2 * i + 2) / 2 - 1 = i by omega] at this
        exact this
termination_by n => n
decreasing_by all_goals omega
theorem treeFrom_get : ∀ (l pre : List Obj) (t : BT), (∀ i, i < pre.length → t.get i = pre[i]?) → ∀ i, i < (pre ++ l).length → (treeFrom l pre.length t).get i = (pre ++ l)[i]?
  | [], pre, t, h, i, hi => by
    rw [List.append_nil] at hi ⊢
    exact h i hi
  | o :: l, pre, t, h, i, hi => by
    have hs : ∀ i, i < pre.length → (t.get i).isSome = true := fun i hi => by
      rw [h i hi, List.getElem?_eq_getElem hi]; rfl
    have e := ins_self o pre.length t hs
    have q := treeFrom_get l (pre ++ [o]) (t.ins pre.length o) (fun j hj => by
      rw [List.length_append, List.length_singleton] at hj
      rw [BT.get_ins o t pre.length (by rw [e]; rfl)]
      by_cases x : j = pre.length
      · subst x; rw [if_pos rfl, List.getElem?_append_right (Nat.le_refl _), Nat.sub_self]; rfl
      · rw [if_neg x, List.getElem?_append_left (by omega)]; exact h j (by omega)) i (by simpa using hi)
    rw [List.length_append, List.length_singleton, List.append_assoc] at q
    exact q
theorem toT_abs (s : Shared) : (toT s).abs = s := by
  obtain ⟨⟨⟨l⟩, life⟩, gens, drawn, toks, os⟩ := s
  have e : BT.list (treeFrom l 0 .nil) l.length = l := by
    apply List.ext_getElem?
    intro i
    unfold BT.list
    rw [List.getElem?_map]
    by_cases h : i < l.length
    · rw [List.getElem?_range h]
      have := treeFrom_get l [] .nil (fun i hi => by cases hi) i (by simpa using h)
      show some (((treeFrom l 0 .nil).get i).getD default) = _
      have q : (treeFrom l 0 .nil).get i = l[i]? := this
      rw [q, List.getElem?_eq_getElem h]; rfl
    · rw [List.getElem?_eq_none (by rw [List.length_range]; omega), List.getElem?_eq_none (by omega)]; rfl
  show Shared.mk (absHeap (treeFrom l 0 .nil) l.length life) gens drawn toks os = _
  unfold absHeap
  rw [e]
abbrev Stp := SharedT → Thread → Option (SharedT × Thread)
def topRunT (stp : Stp) (n₀ : Nat) (ann : Option Value) : Nat → SharedT → Thread → Option SharedT
  | 0, _, _ => none
  | n + 1, s, t => match through t with
    | true => some s
    | false => match stepOk n₀ ann t with
      | false => none
      | true => match stp s t with
        | some (s', t') => topRunT stp n₀ ann n s' t'
        | none => none
theorem topRun_of {tb : String → Option Builtin} {p : Program} {w : World} {n₀ : Nat} {ann : Option Value} : ∀ {n : Nat} {s s' : SharedT} {t : Thread}, topRunT (stepT (denote tb) p w) n₀ ann n s t = some s' → topRun tb p w n₀ ann n s.abs t = some s'.abs
  | 0, _, _, _, h => by cases h
  | n + 1, s, s', t, h => by
    unfold topRunT at h
    unfold topRun
    cases ht : through t with
    | true => rw [ht] at h; cases h; rfl
    | false =>
      rw [ht] at h
      cases hk : stepOk n₀ ann t with
      | false => rw [hk] at h; cases h
      | true =>
        rw [hk] at h
        cases hs : stepT (denote tb) p w s t with
        | none => rw [hs] at h; cases h
        | some r => obtain ⟨s₂, t₂⟩ := r; rw [hs] at h; dsimp only; rw [stepT_spec hs]; exact topRun_of h
def impEndsT (stp : Stp) : Nat → SharedT → Thread → Option SharedT
  | 0, _, _ => none
  | n + 1, s, t => match t.atExitBegin with
    | some [] => some s
    | some (_ :: _) => none
    | none => match stp s t with
      | some (s', t') => impEndsT stp n s' t'
      | none => none
theorem impEnds_of {tb : String → Option Builtin} {p : Program} {w : World} : ∀ {n : Nat} {s s' : SharedT} {t : Thread}, impEndsT (stepT (denote tb) p w) n s t = some s' → importEnds tb p w n s.abs t = some s'.abs
  | 0, _, _, _, h => by cases h
  | n + 1, s, s', t, h => by
    unfold impEndsT at h
    unfold importEnds
    cases ht : t.atExitBegin with
    | some l => rw [ht] at h; cases l with
      | nil => cases h; rfl
      | cons => cases h
    | none =>
      rw [ht] at h
      cases hs : stepT (denote tb) p w s t with
      | none => rw [hs] at h; cases h
      | some r => obtain ⟨s₂, t₂⟩ := r; rw [hs] at h; dsimp only; rw [stepT_spec hs]; exact impEnds_of h
def endsT (stp : Program → Stp) (st : Program → Shared × Thread) (fen : Program → Shared → Option Shared) (p : Program) (N : Nat) : Option Shared :=
  match impEndsT (stp (opening p)) N (toT (st (opening p)).1) (st (opening p)).2 with
  | none => none
  | some a => match fen p a.abs with
    | none => none
    | some s₀ => match s₀.heap.isNs mainGlobals && s₀.gens.size == 0 with
      | false => none
      | true => match topRunT (stp p) s₀.heap.objs.size (s₀.heap.nsMap mainGlobals "__annotations__") N (toT s₀) (topStub p) with
        | none => none
        | some b => match staticsOk (importedModules p.main.body) s₀.heap b.abs.heap && namesBound p b.abs.heap && gensDone b.abs && laidKept s₀.heap b.abs.heap with
          | false => none
          | true => some b.abs
theorem ends_of {tb : String → Option Builtin} {p : Program} {w : World} {N : Nat} {s : Shared} (h : endsT (fun q => stepT (denote tb) q w) start fenceModules? p N = some s) : openEnds tb p w N = some s := by
  unfold endsT at h
  dsimp only at h
  cases e1 : impEndsT (stepT (denote tb) (opening p) w) N (toT (start (opening p)).1) (start (opening p)).2 with
  | none => rw [e1] at h; cases h
  | some a =>
    rw [e1] at h
    dsimp only at h
    have i := impEnds_of e1
    rw [toT_abs] at i
    cases e2 : fenceModules? p a.abs with
    | none => rw [e2] at h; cases h
    | some s₀ =>
      rw [e2] at h
      dsimp only at h
      unfold openEnds fencedOpening topFrom
      rw [i]
      dsimp only [Option.bind]
      rw [e2]
      dsimp only [Option.bind]
      cases e3 : s₀.heap.isNs mainGlobals && s₀.gens.size == 0 with
      | false => rw [e3] at h; cases h
      | true =>
        rw [e3] at h
        dsimp only at h ⊢
        cases e4 : topRunT (stepT (denote tb) p w) s₀.heap.objs.size (s₀.heap.nsMap mainGlobals "__annotations__") N (toT s₀) (topStub p) with
        | none => rw [e4] at h; cases h
        | some b =>
          rw [e4] at h
          dsimp only at h
          have j := topRun_of e4
          rw [toT_abs] at j
          rw [j]
          dsimp only
          cases e5 : staticsOk (importedModules p.main.body) s₀.heap b.abs.heap && namesBound p b.abs.heap && gensDone b.abs && laidKept s₀.heap b.abs.heap with
          | false => rw [e5] at h; cases h
          | true => rw [e5] at h; exact h
theorem left_of {p q : Program} {loose : List Str} {Xt : Shared → Bool} {α : Type} {Yf : Shared → α} {Ya : World → α} {N : Nat}
    (h : ∀ w, (endsT (fun q => stepT (denote treeTable) q w) start fenceModules? p N).map (fun s => (openSeen q loose (importedModules p.main.body) Xt true s, Yf s)) = some (openGood q loose, Ya w)) : LeftO p q loose Xt Yf Ya N := fun w => by
  obtain ⟨s, e, k⟩ := Option.map_eq_some_iff.mp (h w)
  rw [ends_of e]
  exact congrArg some k
abbrev FnT := Arguments × List Stmt × Scope
def fnAt : Stmt → List FnT
  | .FunctionDef _ a b _ _ _ s _ _ _ => [(a, b, s)]
  | _ => []
def fnIn : Stmt → List FnT
  | .ClassDef _ _ _ b _ _ _ _ _ _ _ => b.flatMap fnAt
  | s => fnAt s
def fnsOf (b : List Stmt) : List FnT := b.flatMap fnIn
noncomputable def Kmk (a0 : Arguments) (b0 : List Stmt) (s0 : Scope) (a1 : Arguments) (b1 : List Stmt) (s1 : Scope) (a2 : Arguments) (b2 : List Stmt) (s2 : Scope) (a3 : Arguments) (b3 : List Stmt) (s3 : Scope) (a4 : Arguments) (b4 : List Stmt) (s4 : Scope) (a5 : Arguments) (b5 : List Stmt) (s5 : Scope) (a6 : Arguments) (b6 : List Stmt) (s6 : Scope) (a7 : Arguments) (b7 : List Stmt) (s7 : Scope) (a8 : Arguments) (b8 : List Stmt) (s8 : Scope) (a9 : Arguments) (b9 : List Stmt) (s9 : Scope) (a10 : Arguments) (b10 : List Stmt) (s10 : Scope) (a11 : Arguments) (b11 : List Stmt) (s11 : Scope) (a12 : Arguments) (b12 : List Stmt) (s12 : Scope) (a13 : Arguments) (b13 : List Stmt) (s13 : Scope) (a14 : Arguments) (b14 : List Stmt) (s14 : Scope) (a15 : Arguments) (b15 : List Stmt) (s15 : Scope) (a16 : Arguments) (b16 : List Stmt) (s16 : Scope) (a17 : Arguments) (b17 : List Stmt) (s17 : Scope) (a18 : Arguments) (b18 : List Stmt) (s18 : Scope) (a19 : Arguments) (b19 : List Stmt) (s19 : Scope) (a20 : Arguments) (b20 : List Stmt) (s20 : Scope) (a21 : Arguments) (b21 : List Stmt) (s21 : Scope) (a22 : Arguments) (b22 : List Stmt) (s22 : Scope) (a23 : Arguments) (b23 : List Stmt) (s23 : Scope) (a24 : Arguments) (b24 : List Stmt) (s24 : Scope) (a25 : Arguments) (b25 : List Stmt) (s25 : Scope) (a26 : Arguments) (b26 : List Stmt) (s26 : Scope) (a27 : Arguments) (b27 : List Stmt) (s27 : Scope) (a28 : Arguments) (b28 : List Stmt) (s28 : Scope) (a29 : Arguments) (b29 : List Stmt) (s29 : Scope) (a30 : Arguments) (b30 : List Stmt) (s30 : Scope) (a31 : Arguments) (b31 : List Stmt) (s31 : Scope) (a32 : Arguments) (b32 : List Stmt) (s32 : Scope) (a33 : Arguments) (b33 : List Stmt) (s33 : Scope) (a34 : Arguments) (b34 : List Stmt) (s34 : Scope) (a35 : Arguments) (b35 : List Stmt) (s35 : Scope) (a36 : Arguments) (b36 : List Stmt) (s36 : Scope) (a37 : Arguments) (b37 : List Stmt) (s37 : Scope) (a38 : Arguments) (b38 : List Stmt) (s38 : Scope) (P : Params) : Frag := [
  (nat_lit 2, ⟨.none, none, (.dict (List.toArray [⟨PyData.keyHash P (Str.ofString "\x69mport.loaded._operator"), (.str (Str.ofString "\x69mport.loaded._operator") 189), (.bool true)⟩, ⟨PyData.keyHash P (Str.ofString "class._frozen_importlib.BuiltinImporter"), (.str (Str.ofString "class._frozen_importlib.BuiltinImporter") 191), (.ref 15)⟩, ⟨PyData.keyHash P (Str.ofString "watched.\x69mport"), (.str (Str.ofString "watched.\x69mport") 212), (.ref 19)⟩, ⟨PyData.keyHash P (Str.ofString "class._frozen_importlib.ModuleSpec"), (.str (Str.ofString "class._frozen_importlib.ModuleSpec") 222), (.ref 23)⟩, ⟨PyData.keyHash P (Str.ofString "sys.modules.booked-epoch"), (.str (Str.ofString "sys.modules.booked-epoch") 251), (.int 3 0)⟩, ⟨PyData.keyHash P (Str.ofString "sys.modules.landed._operator"), (.str (Str.ofString "sys.modules.landed._operator") 252), (.bool true)⟩, ⟨PyData.keyHash P (Str.ofString "\x69mport.later-laid._operator"), (.str (Str.ofString "\x69mport.later-laid._operator") 316), (.bool true)⟩, ⟨PyData.keyHash P (Str.ofString "watched.library"), (.str (Str.ofString "watched.library") 318), (.ref 28)⟩, ⟨PyData.keyHash P (Str.ofString "watched.library-objects"), (.str (Str.ofString "watched.library-objects") 0), (.str (Str.ofString "\x0d") 0)⟩, ⟨PyData.keyHash P (Str.ofString "watched.library-deep._operator"), (.str (Str.ofString "watched.library-deep._operator") 319), (.str (Str.ofString "\x04\x00\x00\x0c\x04\x00\x00\x0c\x04\x00\x00\x03\x04\x00\x00\x0c\x08\x04dict\x02") 0)⟩]) 10), (List.toArray [])⟩),
  (nat_lit 3, ⟨(.type "dict"), none, (.dict (List.toArray [⟨PyData.keyHash P (Str.ofString "__name__"), (.str (Str.ofString "__name__") 165), (.str (Str.ofString "law_md0019_05") 749)⟩, ⟨PyData.keyHash P (Str.ofString "__doc__"), (.str (Str.ofString "__doc__") 166), .none⟩, ⟨PyData.keyHash P (Str.ofString "__package__"), (.str (Str.ofString "__package__") 167), .none⟩, ⟨PyData.keyHash P (Str.ofString "__loader__"), (.str (Str.ofString "__loader__") 168), (.builtin "__main__.__loader__#opaque")⟩, ⟨PyData.keyHash P (Str.ofString "__spec__"), (.str (Str.ofString "__spec__") 169), .none⟩, ⟨PyData.keyHash P (Str.ofString "__annotations__"), (.str (Str.ofString "__annotations__") 170), (.ref 6)⟩, ⟨PyData.keyHash P (Str.ofString "__builtins__"), (.str (Str.ofString "__builtins__") 171), (.ref 4)⟩, ⟨PyData.keyHash P (Str.ofString "__file__"), (.str (Str.ofString "__file__") 173), (.str (Str.ofString "/claim/cut.py") 172)⟩, ⟨PyData.keyHash P (Str.ofString "__cached__"), (.str (Str.ofString "__cached__") 174), .none⟩, ⟨PyData.keyHash P (Str.ofString "eq"), (.str (Str.ofString "eq") 325), (.builtin "_operator.eq")⟩, ⟨PyData.keyHash P (Str.ofString "ge"), (.str (Str.ofString "ge") 328), (.builtin "_operator.ge")⟩, ⟨PyData.keyHash P (Str.ofString "gt"), (.str (Str.ofString "gt") 331), (.builtin "_operator.gt")⟩, ⟨PyData.keyHash P (Str.ofString "le"), (.str (Str.ofString "le") 334), (.builtin "_operator.le")⟩, ⟨PyData.keyHash P (Str.ofString "lt"), (.str (Str.ofString "lt") 337), (.builtin "_operator.lt")⟩, ⟨PyData.keyHash P (Str.ofString "_wall"), (.str (Str.ofString "_wall") 350), (.ref 39)⟩, ⟨PyData.keyHash P (Str.ofString "_bitcount"), (.str (Str.ofString "_bitcount") 359), (.ref 46)⟩, ⟨PyData.keyHash P (Str.ofString "BRANCH_FACTOR"), (.str (Str.ofString "BRANCH_FACTOR") 361), (.int 32 360)⟩, ⟨PyData.keyHash P (Str.ofString "BIT_MASK"), (.str (Str.ofString "BIT_MASK") 364), (.int 31 363)⟩, ⟨PyData.keyHash P (Str.ofString "SHIFT"), (.str (Str.ofString "SHIFT") 369), (.int 5 368)⟩, ⟨PyData.keyHash P (Str.ofString "compare_pvector"), (.str (Str.ofString "compare_pvector") 378), (.ref 54)⟩, ⟨PyData.keyHash P (Str.ofString "PythonPVector"), (.str (Str.ofString "PythonPVector") 721), (.ref 296)⟩, ⟨PyData.keyHash P (Str.ofString "_EMPTY_PVECTOR"), (.str (Str.ofString "_EMPTY_PVECTOR") 741), (.ref 311)⟩, ⟨PyData.keyHash P (Str.ofString "python_pvector"), (.str (Str.ofString "python_pvector") 748), (.ref 320)⟩, ⟨PyData.keyHash P (Str.ofString "_law_size"), (.str (Str.ofString "_law_size") 759), (.ref 327)⟩, ⟨PyData.keyHash P (Str.ofString "_law_holds"), (.str (Str.ofString "_law_holds") 772), (.ref 334)⟩, ⟨PyData.keyHash P (Str.ofString "law"), (.str (Str.ofString "law") 778), (.ref 339)⟩]) 26), (List.toArray [])⟩),
  (nat_lit 33, ⟨(.type "tuple"), none, (.seq (List.toArray []) 0), (List.toArray [])⟩),
  (nat_lit 35, ⟨(.type "tuple"), none, (.seq (List.toArray [(.str (Str.ofString "k") 347)]) 0), (List.toArray [])⟩),
  (nat_lit 36, ⟨(.type "tuple"), none, (.seq (List.toArray []) 0), (List.toArray [])⟩),
  (nat_lit 38, ⟨(.type "code"), none, (.fields (List.toArray [(.str (Str.ofString "_wall") 344), (.str (Str.ofString "_wall") 345), (.str (Str.ofString "/claim/cut.py") 346), (.int 2 0), (.int 1 0), (.int 0 0), (.int 0 0), (.int 3 0), (.ref 33), (.bool true), (.int 338 0), (.ref 34), .none, (.ref 35), (.ref 36), (.ref 37), (.int 348 0), (.int 2 0), (.str (Str.ofString "/claim/cut.py") 349)])), (List.toArray [])⟩),
  (nat_lit 39, ⟨(.type "function"), none, (.func ⟨(Str.ofString "_wall"), (Str.ofString "_wall"), a0, .stmts b0, s0, 3, [], .none, .none, .none, (.str (Str.ofString "__main__") 164), none, (.ref 38), .none, 0⟩), (List.toArray [])⟩),
  (nat_lit 48, ⟨(.type "tuple"), none, (.seq (List.toArray []) 0), (List.toArray [])⟩),
  (nat_lit 50, ⟨(.type "tuple"), none, (.seq (List.toArray [(.str (Str.ofString "v") 373), (.str (Str.ofString "other") 374), (.str (Str.ofString "operator") 375)]) 0), (List.toArray [])⟩),
  (nat_lit 51, ⟨(.type "tuple"), none, (.seq (List.toArray []) 0), (List.toArray [])⟩),
  (nat_lit 53, ⟨(.type "code"), none, (.fields (List.toArray [(.str (Str.ofString "compare_pvector") 370), (.str (Str.ofString "compare_pvector") 371), (.str (Str.ofString "/claim/cut.py") 372), (.int 11 0), (.int 3 0), (.int 0 0), (.int 0 0), (.int 3 0), (.ref 48), (.bool true), (.int 338 0), (.ref 49), .none, (.ref 50), (.ref 51), (.ref 52), (.int 376 0), (.int 11 0), (.str (Str.ofString "/claim/cut.py") 377)])), (List.toArray [])⟩),
  (nat_lit 54, ⟨(.type "function"), none, (.func ⟨(Str.ofString "compare_pvector"), (Str.ofString "compare_pvector"), a2, .stmts b2, s2, 3, [], .none, .none, .none, (.str (Str.ofString "pyrsistent._pvector") 351), none, (.ref 53), .none, 0⟩), (List.toArray [])⟩),
  (nat_lit 55, ⟨(.type "tuple"), none, (.seq (List.toArray [(.type "object")]) 0), (List.toArray [])⟩),
  (nat_lit 58, ⟨(.type "cell"), none, (.cell (some (.ref 296))), (List.toArray [])⟩),
  (nat_lit 63, ⟨(.type "tuple"), none, (.seq (List.toArray [(.str (Str.ofString "_count") 391), (.str (Str.ofString "_shift") 392), (.str (Str.ofString "_root") 393), (.str (Str.ofString "_tail") 394), (.str (Str.ofString "_tail_offset") 395), (.str (Str.ofString "__weakref__") 396)]) 0), (List.toArray [])⟩),
  (nat_lit 64, ⟨(.type "tuple"), none, (.seq (List.toArray [(.ref 58)]) 0), (List.toArray [])⟩),
  (nat_lit 65, ⟨(.type "tuple"), none, (.seq (List.toArray [(.str (Str.ofString "__class__") 401)]) 0), (List.toArray [])⟩),
  (nat_lit 67, ⟨(.type "tuple"), none, (.seq (List.toArray [(.str (Str.ofString "cls") 402), (.str (Str.ofString "count") 403), (.str (Str.ofString "shift") 404), (.str (Str.ofString "root") 405), (.str (Str.ofString "tail") 406), (.str (Str.ofString "self") 407)]) 0), (List.toArray [])⟩),
  (nat_lit 68, ⟨(.type "tuple"), none, (.seq (List.toArray []) 0), (List.toArray [])⟩),
  (nat_lit 70, ⟨(.type "code"), none, (.fields (List.toArray [(.str (Str.ofString "__new__") 398), (.str (Str.ofString "PythonPVector.__new__") 399), (.str (Str.ofString "/claim/cut.py") 400), (.int 16 0), (.int 5 0), (.int 0 0), (.int 0 0), (.int 3 0), (.ref 65), (.bool true), (.int 338 0), (.ref 66), .none, (.ref 67), (.ref 68), (.ref 69), (.int 408 0), (.int 16 0), (.str (Str.ofString "/claim/cut.py") 409)])), (List.toArray [])⟩),
  (nat_lit 71, ⟨(.type "function"), none, (.func ⟨(Str.ofString "__new__"), (Str.ofString "PythonPVector.__new__"), a3, .stmts b3, s3, 3, [((Str.ofString "__class__"), 58)], .none, .none, .none, (.str (Str.ofString "pyrsistent._pvector") 351), none, (.ref 70), (.ref 64), 0⟩), (List.toArray [])⟩),
  (nat_lit 72, ⟨(.type "tuple"), none, (.seq (List.toArray []) 0), (List.toArray [])⟩),
  (nat_lit 74, ⟨(.type "tuple"), none, (.seq (List.toArray [(.str (Str.ofString "self") 414)]) 0), (List.toArray [])⟩),
  (nat_lit 75, ⟨(.type "tuple"), none, (.seq (List.toArray []) 0), (List.toArray [])⟩),
  (nat_lit 77, ⟨(.type "code"), none, (.fields (List.toArray [(.str (Str.ofString "__len__") 411), (.str (Str.ofString "PythonPVector.__len__") 412), (.str (Str.ofString "/claim/cut.py") 413), (.int 25 0), (.int 1 0), (.int 0 0), (.int 0 0), (.int 3 0), (.ref 72), (.bool true), (.int 338 0), (.ref 73), .none, (.ref 74), (.ref 75), (.ref 76), (.int 415 0), (.int 25 0), (.str (Str.ofString "/claim/cut.py") 416)])), (List.toArray [])⟩),
  (nat_lit 78, ⟨(.type "function"), none, (.func ⟨(Str.ofString "__len__"), (Str.ofString "PythonPVector.__len__"), a4, .stmts b4, s4, 3, [], .none, .none, .none, (.str (Str.ofString "pyrsistent._pvector") 351), none, (.ref 77), .none, 0⟩), (List.toArray [])⟩),
  (nat_lit 79, ⟨(.type "tuple"), none, (.seq (List.toArray []) 0), (List.toArray [])⟩),
  (nat_lit 81, ⟨(.type "tuple"), none, (.seq (List.toArray [(.str (Str.ofString "self") 421), (.str (Str.ofString "index") 422)]) 0), (List.toArray [])⟩),
  (nat_lit 82, ⟨(.type "tuple"), none, (.seq (List.toArray []) 0), (List.toArray [])⟩),
  (nat_lit 84, ⟨(.type "code"), none, (.fields (List.toArray [(.str (Str.ofString "__getitem__") 418), (.str (Str.ofString "PythonPVector.__getitem__") 419), (.str (Str.ofString "/claim/cut.py") 420), (.int 28 0), (.int 2 0), (.int 0 0), (.int 0 0), (.int 3 0), (.ref 79), (.bool true), (.int 338 0), (.ref 80), .none, (.ref 81), (.ref 82), (.ref 83), (.int 423 0), (.int 28 0), (.str (Str.ofString "/claim/cut.py") 424)])), (List.toArray [])⟩),
  (nat_lit 85, ⟨(.type "function"), none, (.func ⟨(Str.ofString "__getitem__"), (Str.ofString "PythonPVector.__getitem__"), a5, .stmts b5, s5, 3, [], .none, .none, .none, (.str (Str.ofString "pyrsistent._pvector") 351), none, (.ref 84), .none, 0⟩), (List.toArray [])⟩),
  (nat_lit 86, ⟨(.type "tuple"), none, (.seq (List.toArray []) 0), (List.toArray [])⟩),
  (nat_lit 88, ⟨(.type "tuple"), none, (.seq (List.toArray [(.str (Str.ofString "self") 429), (.str (Str.ofString "other") 430)]) 0), (List.toArray [])⟩),
  (nat_lit 89, ⟨(.type "tuple"), none, (.seq (List.toArray []) 0), (List.toArray [])⟩),
  (nat_lit 91, ⟨(.type "code"), none, (.fields (List.toArray [(.str (Str.ofString "__add__") 426), (.str (Str.ofString "PythonPVector.__add__") 427), (.str (Str.ofString "/claim/cut.py") 428), (.int 37 0), (.int 2 0), (.int 0 0), (.int 0 0), (.int 3 0), (.ref 86), (.bool true), (.int 338 0), (.ref 87), .none, (.ref 88), (.ref 89), (.ref 90), (.int 431 0), (.int 37 0), (.str (Str.ofString "/claim/cut.py") 432)])), (List.toArray [])⟩),
  (nat_lit 92, ⟨(.type "function"), none, (.func ⟨(Str.ofString "__add__"), (Str.ofString "PythonPVector.__add__"), a6, .stmts b6, s6, 3, [], .none, .none, .none, (.str (Str.ofString "pyrsistent._pvector") 351), none, (.ref 91), .none, 0⟩), (List.toArray [])⟩),
  (nat_lit 93, ⟨(.type "tuple"), none, (.seq (List.toArray []) 0), (List.toArray [])⟩),
  (nat_lit 95, ⟨(.type "tuple"), none, (.seq (List.toArray [(.str (Str.ofString "self") 437)]) 0), (List.toArray [])⟩),
  (nat_lit 96, ⟨(.type "tuple"), none, (.seq (List.toArray []) 0), (List.toArray [])⟩),
  (nat_lit 98, ⟨(.type "code"), none, (.fields (List.toArray [(.str (Str.ofString "__repr__") 434), (.str (Str.ofString "PythonPVector.__repr__") 435), (.str (Str.ofString "/claim/cut.py") 436), (.int 40 0), (.int 1 0), (.int 0 0), (.int 0 0), (.int 3 0), (.ref 93), (.bool true), (.int 338 0), (.ref 94), .none, (.ref 95), (.ref 96), (.ref 97), (.int 438 0), (.int 40 0), (.str (Str.ofString "/claim/cut.py") 439)])), (List.toArray [])⟩),
  (nat_lit 99, ⟨(.type "function"), none, (.func ⟨(Str.ofString "__repr__"), (Str.ofString "PythonPVector.__repr__"), a7, .stmts b7, s7, 3, [], .none, .none, .none, (.str (Str.ofString "pyrsistent._pvector") 351), none, (.ref 98), .none, 0⟩), (List.toArray [])⟩),
  (nat_lit 100, ⟨(.type "tuple"), none, (.seq (List.toArray []) 0), (List.toArray [])⟩),
  (nat_lit 102, ⟨(.type "tuple"), none, (.seq (List.toArray [(.str (Str.ofString "self") 444)]) 0), (List.toArray [])⟩),
  (nat_lit 103, ⟨(.type "tuple"), none, (.seq (List.toArray []) 0), (List.toArray [])⟩),
  (nat_lit 105, ⟨(.type "code"), none, (.fields (List.toArray [(.str (Str.ofString "__str__") 441), (.str (Str.ofString "PythonPVector.__str__") 442), (.str (Str.ofString "/claim/cut.py") 443), (.int 43 0), (.int 1 0), (.int 0 0), (.int 0 0), (.int 3 0), (.ref 100), (.bool true), (.int 338 0), (.ref 101), .none, (.ref 102), (.ref 103), (.ref 104), (.int 445 0), (.int 43 0), (.str (Str.ofString "/claim/cut.py") 446)])), (List.toArray [])⟩),
  (nat_lit 106, ⟨(.type "function"), none, (.func ⟨(Str.ofString "__str__"), (Str.ofString "PythonPVector.__str__"), a8, .stmts b8, s8, 3, [], .none, .none, .none, (.str (Str.ofString "pyrsistent._pvector") 351), none, (.ref 105), .none, 0⟩), (List.toArray [])⟩),
  (nat_lit 107, ⟨(.type "tuple"), none, (.seq (List.toArray []) 0), (List.toArray [])⟩),
  (nat_lit 109, ⟨(.type "tuple"), none, (.seq (List.toArray [(.str (Str.ofString "self") 451)]) 0), (List.toArray [])⟩),
  (nat_lit 110, ⟨(.type "tuple"), none, (.seq (List.toArray []) 0), (List.toArray [])⟩),
  (nat_lit 112, ⟨(.type "code"), none, (.fields (List.toArray [(.str (Str.ofString "__iter__") 448), (.str (Str.ofString "PythonPVector.__iter__") 449), (.str (Str.ofString "/claim/cut.py") 450), (.int 46 0), (.int 1 0), (.int 0 0), (.int 0 0), (.int 3 0), (.ref 107), (.bool true), (.int 338 0), (.ref 108), .none, (.ref 109), (.ref 110), (.ref 111), (.int 452 0), (.int 46 0), (.str (Str.ofString "/claim/cut.py") 453)])), (List.toArray [])⟩),
  (nat_lit 113, ⟨(.type "function"), none, (.func ⟨(Str.ofString "__iter__"), (Str.ofString "PythonPVector.__iter__"), a9, .stmts b9, s9, 3, [], .none, .none, .none, (.str (Str.ofString "pyrsistent._pvector") 351), none, (.ref 112), .none, 0⟩), (List.toArray [])⟩),
  (nat_lit 114, ⟨(.type "tuple"), none, (.seq (List.toArray []) 0), (List.toArray [])⟩),
  (nat_lit 116, ⟨(.type "tuple"), none, (.seq (List.toArray [(.str (Str.ofString "self") 458), (.str (Str.ofString "other") 459)]) 0), (List.toArray [])⟩),
  (nat_lit 117, ⟨(.type "tuple"), none, (.seq (List.toArray []) 0), (List.toArray [])⟩),
  (nat_lit 119, ⟨(.type "code"), none, (.fields (List.toArray [(.str (Str.ofString "__ne__") 455), (.str (Str.ofString "PythonPVector.__ne__") 456), (.str (Str.ofString "/claim/cut.py") 457), (.int 49 0), (.int 2 0), (.int 0 0), (.int 0 0), (.int 3 0), (.ref 114), (.bool true), (.int 338 0), (.ref 115), .none, (.ref 116), (.ref 117), (.ref 118), (.int 460 0), (.int 49 0), (.str (Str.ofString "/claim/cut.py") 461)])), (List.toArray [])⟩),
  (nat_lit 120, ⟨(.type "function"), none, (.func ⟨(Str.ofString "__ne__"), (Str.ofString "PythonPVector.__ne__"), a10, .stmts b10, s10, 3, [], .none, .none, .none, (.str (Str.ofString "pyrsistent._pvector") 351), none, (.ref 119), .none, 0⟩), (List.toArray [])⟩),
  (nat_lit 121, ⟨(.type "tuple"), none, (.seq (List.toArray []) 0), (List.toArray [])⟩),
  (nat_lit 123, ⟨(.type "tuple"), none, (.seq (List.toArray [(.str (Str.ofString "self") 466), (.str (Str.ofString "other") 467)]) 0), (List.toArray [])⟩),
  (nat_lit 124, ⟨(.type "tuple"), none, (.seq (List.toArray []) 0), (List.toArray [])⟩),
  (nat_lit 126, ⟨(.type "code"), none, (.fields (List.toArray [(.str (Str.ofString "__eq__") 463), (.str (Str.ofString "PythonPVector.__eq__") 464), (.str (Str.ofString "/claim/cut.py") 465), (.int 52 0), (.int 2 0), (.int 0 0), (.int 0 0), (.int 3 0), (.ref 121), (.bool true), (.int 338 0), (.ref 122), .none, (.ref 123), (.ref 124), (.ref 125), (.int 468 0), (.int 52 0), (.str (Str.ofString "/claim/cut.py") 469)])), (List.toArray [])⟩),
  (nat_lit 127, ⟨(.type "function"), none, (.func ⟨(Str.ofString "__eq__"), (Str.ofString "PythonPVector.__eq__"), a11, .stmts b11, s11, 3, [], .none, .none, .none, (.str (Str.ofString "pyrsistent._pvector") 351), none, (.ref 126), .none, 0⟩), (List.toArray [])⟩),
  (nat_lit 128, ⟨(.type "tuple"), none, (.seq (List.toArray []) 0), (List.toArray [])⟩),
  (nat_lit 130, ⟨(.type "tuple"), none, (.seq (List.toArray [(.str (Str.ofString "self") 474), (.str (Str.ofString "other") 475)]) 0), (List.toArray [])⟩),
  (nat_lit 131, ⟨(.type "tuple"), none, (.seq (List.toArray []) 0), (List.toArray [])⟩),
  (nat_lit 133, ⟨(.type "code"), none, (.fields (List.toArray [(.str (Str.ofString "__gt__") 471), (.str (Str.ofString "PythonPVector.__gt__") 472), (.str (Str.ofString "/claim/cut.py") 473), (.int 55 0), (.int 2 0), (.int 0 0), (.int 0 0), (.int 3 0), (.ref 128), (.bool true), (.int 338 0), (.ref 129), .none, (.ref 130), (.ref 131), (.ref 132), (.int 476 0), (.int 55 0), (.str (Str.ofString "/claim/cut.py") 477)])), (List.toArray [])⟩),
  (nat_lit 134, ⟨(.type "function"), none, (.func ⟨(Str.ofString "__gt__"), (Str.ofString "PythonPVector.__gt__"), a12, .stmts b12, s12, 3, [], .none, .none, .none, (.str (Str.ofString "pyrsistent._pvector") 351), none, (.ref 133), .none, 0⟩), (List.toArray [])⟩),
  (nat_lit 135, ⟨(.type "tuple"), none, (.seq (List.toArray []) 0), (List.toArray [])⟩),
  (nat_lit 137, ⟨(.type "tuple"), none, (.seq (List.toArray [(.str (Str.ofString "self") 482), (.str (Str.ofString "other") 483)]) 0), (List.toArray [])⟩),
  (nat_lit 138, ⟨(.type "tuple"), none, (.seq (List.toArray []) 0), (List.toArray [])⟩),
  (nat_lit 140, ⟨(.type "code"), none, (.fields (List.toArray [(.str (Str.ofString "__lt__") 479), (.str (Str.ofString "PythonPVector.__lt__") 480), (.str (Str.ofString "/claim/cut.py") 481), (.int 58 0), (.int 2 0), (.int 0 0), (.int 0 0), (.int 3 0), (.ref 135), (.bool true), (.int 338 0), (.ref 136), .none, (.ref 137), (.ref 138), (.ref 139), (.int 484 0), (.int 58 0), (.str (Str.ofString "/claim/cut.py") 485)])), (List.toArray [])⟩),
  (nat_lit 141, ⟨(.type "function"), none, (.func ⟨(Str.ofString "__lt__"), (Str.ofString "PythonPVector.__lt__"), a13, .stmts b13, s13, 3, [], .none, .none, .none, (.str (Str.ofString "pyrsistent._pvector") 351), none, (.ref 140), .none, 0⟩), (List.toArray [])⟩),
  (nat_lit 142, ⟨(.type "tuple"), none, (.seq (List.toArray []) 0), (List.toArray [])⟩),
  (nat_lit 144, ⟨(.type "tuple"), none, (.seq (List.toArray [(.str (Str.ofString "self") 490), (.str (Str.ofString "other") 491)]) 0), (List.toArray [])⟩),
  (nat_lit 145, ⟨(.type "tuple"), none, (.seq (List.toArray []) 0), (List.toArray [])⟩),
  (nat_lit 147, ⟨(.type "code"), none, (.fields (List.toArray [(.str (Str.ofString "__ge__") 487), (.str (Str.ofString "PythonPVector.__ge__") 488), (.str (Str.ofString "/claim/cut.py") 489), (.int 61 0), (.int 2 0), (.int 0 0), (.int 0 0), (.int 3 0), (.ref 142), (.bool true), (.int 338 0), (.ref 143), .none, (.ref 144), (.ref 145), (.ref 146), (.int 492 0), (.int 61 0), (.str (Str.ofString "/claim/cut.py") 493)])), (List.toArray [])⟩),
  (nat_lit 148, ⟨(.type "function"), none, (.func ⟨(Str.ofString "__ge__"), (Str.ofString "PythonPVector.__ge__"), a14, .stmts b14, s14, 3, [], .none, .none, .none, (.str (Str.ofString "pyrsistent._pvector") 351), none, (.ref 147), .none, 0⟩), (List.toArray [])⟩),
  (nat_lit 149, ⟨(.type "tuple"), none, (.seq (List.toArray []) 0), (List.toArray [])⟩),
  (nat_lit 151, ⟨(.type "tuple"), none, (.seq (List.toArray [(.str (Str.ofString "self") 498), (.str (Str.ofString "other") 499)]) 0), (List.toArray [])⟩),
  (nat_lit 152, ⟨(.type "tuple"), none, (.seq (List.toArray []) 0), (List.toArray [])⟩),
  (nat_lit 154, ⟨(.type "code"), none, (.fields (List.toArray [(.str (Str.ofString "__le__") 495), (.str (Str.ofString "PythonPVector.__le__") 496), (.str (Str.ofString "/claim/cut.py") 497), (.int 64 0), (.int 2 0), (.int 0 0), (.int 0 0), (.int 3 0), (.ref 149), (.bool true), (.int 338 0), (.ref 150), .none, (.ref 151), (.ref 152), (.ref 153), (.int 500 0), (.int 64 0), (.str (Str.ofString "/claim/cut.py") 501)])), (List.toArray [])⟩),
  (nat_lit 155, ⟨(.type "function"), none, (.func ⟨(Str.ofString "__le__"), (Str.ofString "PythonPVector.__le__"), a15, .stmts b15, s15, 3, [], .none, .none, .none, (.str (Str.ofString "pyrsistent._pvector") 351), none, (.ref 154), .none, 0⟩), (List.toArray [])⟩),
  (nat_lit 156, ⟨(.type "tuple"), none, (.seq (List.toArray []) 0), (List.toArray [])⟩),
  (nat_lit 158, ⟨(.type "tuple"), none, (.seq (List.toArray [(.str (Str.ofString "self") 506), (.str (Str.ofString "times") 507)]) 0), (List.toArray [])⟩),
  (nat_lit 159, ⟨(.type "tuple"), none, (.seq (List.toArray []) 0), (List.toArray [])⟩),
  (nat_lit 161, ⟨(.type "code"), none, (.fields (List.toArray [(.str (Str.ofString "__mul__") 503), (.str (Str.ofString "PythonPVector.__mul__") 504), (.str (Str.ofString "/claim/cut.py") 505), (.int 67 0), (.int 2 0), (.int 0 0), (.int 0 0), (.int 3 0), (.ref 156), (.bool true), (.int 338 0), (.ref 157), .none, (.ref 158), (.ref 159), (.ref 160), (.int 508 0), (.int 67 0), (.str (Str.ofString "/claim/cut.py") 509)])), (List.toArray [])⟩),
  (nat_lit 162, ⟨(.type "function"), none, (.func ⟨(Str.ofString "__mul__"), (Str.ofString "PythonPVector.__mul__"), a16, .stmts b16, s16, 3, [], .none, .none, .none, (.str (Str.ofString "pyrsistent._pvector") 351), none, (.ref 161), .none, 0⟩), (List.toArray [])⟩),
  (nat_lit 163, ⟨(.type "tuple"), none, (.seq (List.toArray []) 0), (List.toArray [])⟩),
  (nat_lit 165, ⟨(.type "tuple"), none, (.seq (List.toArray [(.str (Str.ofString "self") 515), (.str (Str.ofString "node") 516), (.str (Str.ofString "shift") 517), (.str (Str.ofString "the_list") 518), (.str (Str.ofString "n") 519)]) 0), (List.toArray [])⟩),
  (nat_lit 166, ⟨(.type "tuple"), none, (.seq (List.toArray []) 0), (List.toArray [])⟩),
  (nat_lit 168, ⟨(.type "code"), none, (.fields (List.toArray [(.str (Str.ofString "_fill_list") 512), (.str (Str.ofString "PythonPVector._fill_list") 513), (.str (Str.ofString "/claim/cut.py") 514), (.int 75 0), (.int 4 0), (.int 0 0), (.int 0 0), (.int 3 0), (.ref 163), (.bool true), (.int 338 0), (.ref 164), .none, (.ref 165), (.ref 166), (.ref 167), (.int 520 0), (.int 75 0), (.str (Str.ofString "/claim/cut.py") 521)])), (List.toArray [])⟩),
  (nat_lit 169, ⟨(.type "function"), none, (.func ⟨(Str.ofString "_fill_list"), (Str.ofString "PythonPVector._fill_list"), a17, .stmts b17, s17, 3, [], .none, .none, .none, (.str (Str.ofString "pyrsistent._pvector") 351), none, (.ref 168), .none, 0⟩), (List.toArray [])⟩),
  (nat_lit 170, ⟨(.type "tuple"), none, (.seq (List.toArray []) 0), (List.toArray [])⟩),
  (nat_lit 172, ⟨(.type "tuple"), none, (.seq (List.toArray [(.str (Str.ofString "self") 526), (.str (Str.ofString "the_list") 527)]) 0), (List.toArray [])⟩),
  (nat_lit 173, ⟨(.type "tuple"), none, (.seq (List.toArray []) 0), (List.toArray [])⟩),
  (nat_lit 175, ⟨(.type "code"), none, (.fields (List.toArray [(.str (Str.ofString "tolist") 523), (.str (Str.ofString "PythonPVector.tolist") 524), (.str (Str.ofString "/claim/cut.py") 525), (.int 83 0), (.int 1 0), (.int 0 0), (.int 0 0), (.int 3 0), (.ref 170), (.bool true), (.int 338 0), (.ref 171), .none, (.ref 172), (.ref 173), (.ref 174), (.int 528 0), (.int 83 0), (.str (Str.ofString "/claim/cut.py") 529)])), (List.toArray [])⟩),
  (nat_lit 176, ⟨(.type "function"), none, (.func ⟨(Str.ofString "tolist"), (Str.ofString "PythonPVector.tolist"), a18, .stmts b18, s18, 3, [], .none, .none, .none, (.str (Str.ofString "pyrsistent._pvector") 351), none, (.ref 175), .none, 0⟩), (List.toArray [])⟩),
  (nat_lit 177, ⟨(.type "tuple"), none, (.seq (List.toArray []) 0), (List.toArray [])⟩),
  (nat_lit 179, ⟨(.type "tuple"), none, (.seq (List.toArray [(.str (Str.ofString "self") 534)]) 0), (List.toArray [])⟩),
  (nat_lit 180, ⟨(.type "tuple"), none, (.seq (List.toArray []) 0), (List.toArray [])⟩),
  (nat_lit 182, ⟨(.type "code"), none, (.fields (List.toArray [(.str (Str.ofString "_totuple") 531), (.str (Str.ofString "PythonPVector._totuple") 532), (.str (Str.ofString "/claim/cut.py") 533), (.int 89 0), (.int 1 0), (.int 0 0), (.int 0 0), (.int 3 0), (.ref 177), (.bool true), (.int 338 0), (.ref 178), .none, (.ref 179), (.ref 180), (.ref 181), (.int 535 0), (.int 89 0), (.str (Str.ofString "/claim/cut.py") 536)])), (List.toArray [])⟩),
  (nat_lit 183, ⟨(.type "function"), none, (.func ⟨(Str.ofString "_totuple"), (Str.ofString "PythonPVector._totuple"), a19, .stmts b19, s19, 3, [], .none, .none, .none, (.str (Str.ofString "pyrsistent._pvector") 351), none, (.ref 182), .none, 0⟩), (List.toArray [])⟩),
  (nat_lit 184, ⟨(.type "tuple"), none, (.seq (List.toArray []) 0), (List.toArray [])⟩),
  (nat_lit 186, ⟨(.type "tuple"), none, (.seq (List.toArray [(.str (Str.ofString "self") 541), (.str (Str.ofString "i") 542), (.str (Str.ofString "val") 543), (.str (Str.ofString "new_tail") 544)]) 0), (List.toArray [])⟩),
  (nat_lit 187, ⟨(.type "tuple"), none, (.seq (List.toArray []) 0), (List.toArray [])⟩),
  (nat_lit 189, ⟨(.type "code"), none, (.fields (List.toArray [(.str (Str.ofString "set") 538), (.str (Str.ofString "PythonPVector.set") 539), (.str (Str.ofString "/claim/cut.py") 540), (.int 92 0), (.int 3 0), (.int 0 0), (.int 0 0), (.int 3 0), (.ref 184), (.bool true), (.int 338 0), (.ref 185), .none, (.ref 186), (.ref 187), (.ref 188), (.int 545 0), (.int 92 0), (.str (Str.ofString "/claim/cut.py") 546)])), (List.toArray [])⟩),
  (nat_lit 190, ⟨(.type "function"), none, (.func ⟨(Str.ofString "set"), (Str.ofString "PythonPVector.set"), a20, .stmts b20, s20, 3, [], .none, .none, .none, (.str (Str.ofString "pyrsistent._pvector") 351), none, (.ref 189), .none, 0⟩), (List.toArray [])⟩),
  (nat_lit 191, ⟨(.type "tuple"), none, (.seq (List.toArray []) 0), (List.toArray [])⟩),
  (nat_lit 193, ⟨(.type "tuple"), none, (.seq (List.toArray [(.str (Str.ofString "self") 551), (.str (Str.ofString "level") 552), (.str (Str.ofString "node") 553), (.str (Str.ofString "i") 554), (.str (Str.ofString "val") 555), (.str (Str.ofString "ret") 556), (.str (Str.ofString "sub_index") 557)]) 0), (List.toArray [])⟩),
  (nat_lit 194, ⟨(.type "tuple"), none, (.seq (List.toArray []) 0), (List.toArray [])⟩),
  (nat_lit 196, ⟨(.type "code"), none, (.fields (List.toArray [(.str (Str.ofString "_do_set") 548), (.str (Str.ofString "PythonPVector._do_set") 549), (.str (Str.ofString "/claim/cut.py") 550), (.int 107 0), (.int 5 0), (.int 0 0), (.int 0 0), (.int 3 0), (.ref 191), (.bool true), (.int 338 0), (.ref 192), .none, (.ref 193), (.ref 194), (.ref 195), (.int 558 0), (.int 107 0), (.str (Str.ofString "/claim/cut.py") 559)])), (List.toArray [])⟩),
  (nat_lit 197, ⟨(.type "function"), none, (.func ⟨(Str.ofString "_do_set"), (Str.ofString "PythonPVector._do_set"), a21, .stmts b21, s21, 3, [], .none, .none, .none, (.str (Str.ofString "pyrsistent._pvector") 351), none, (.ref 196), .none, 0⟩), (List.toArray [])⟩),
  (nat_lit 198, ⟨(.type "tuple"), none, (.seq (List.toArray []) 0), (List.toArray [])⟩),
  (nat_lit 200, ⟨(.type "tuple"), none, (.seq (List.toArray [(.str (Str.ofString "pvector_like") 564), (.str (Str.ofString "i") 565), (.str (Str.ofString "node") 566), (.str (Str.ofString "level") 567)]) 0), (List.toArray [])⟩),
  (nat_lit 201, ⟨(.type "tuple"), none, (.seq (List.toArray []) 0), (List.toArray [])⟩),
  (nat_lit 203, ⟨(.type "code"), none, (.fields (List.toArray [(.str (Str.ofString "_node_for") 561), (.str (Str.ofString "PythonPVector._node_for") 562), (.str (Str.ofString "/claim/cut.py") 563), (.int 116 0), (.int 2 0), (.int 0 0), (.int 0 0), (.int 3 0), (.ref 198), (.bool true), (.int 338 0), (.ref 199), .none, (.ref 200), (.ref 201), (.ref 202), (.int 568 0), (.int 116 0), (.str (Str.ofString "/claim/cut.py") 569)])), (List.toArray [])⟩),
  (nat_lit 204, ⟨(.type "function"), none, (.func ⟨(Str.ofString "_node_for"), (Str.ofString "PythonPVector._node_for"), a22, .stmts b22, s22, 3, [], .none, .none, .none, (.str (Str.ofString "pyrsistent._pvector") 351), (some 207), (.ref 203), .none, 0⟩), (List.toArray [])⟩),
  (nat_lit 205, ⟨(.type "dict"), none, (.dict (List.toArray [⟨PyData.keyHash P (Str.ofString "__module__"), (.str (Str.ofString "__module__") 571), (.str (Str.ofString "pyrsistent._pvector") 351)⟩, ⟨PyData.keyHash P (Str.ofString "__name__"), (.str (Str.ofString "__name__") 574), (.str (Str.ofString "_node_for") 573)⟩, ⟨PyData.keyHash P (Str.ofString "__qualname__"), (.str (Str.ofString "__qualname__") 577), (.str (Str.ofString "PythonPVector._node_for") 576)⟩, ⟨PyData.keyHash P (Str.ofString "__doc__"), (.str (Str.ofString "__doc__") 579), .none⟩, ⟨PyData.keyHash P (Str.ofString "__annotations__"), (.str (Str.ofString "__annotations__") 581), (.ref 207)⟩]) 5), (List.toArray [])⟩),
  (nat_lit 206, ⟨(.type "staticmethod"), (some 205), (.fields (List.toArray [(.ref 204), (.bool false)])), (List.toArray [])⟩),
  (nat_lit 207, ⟨(.type "dict"), none, (.dict (List.toArray []) 0), (List.toArray [])⟩),
  (nat_lit 208, ⟨(.type "tuple"), none, (.seq (List.toArray []) 0), (List.toArray [])⟩),
  (nat_lit 210, ⟨(.type "tuple"), none, (.seq (List.toArray [(.str (Str.ofString "self") 586), (.str (Str.ofString "new_shift") 587), (.str (Str.ofString "new_root") 588)]) 0), (List.toArray [])⟩),
  (nat_lit 211, ⟨(.type "tuple"), none, (.seq (List.toArray []) 0), (List.toArray [])⟩),
  (nat_lit 213, ⟨(.type "code"), none, (.fields (List.toArray [(.str (Str.ofString "_create_new_root") 583), (.str (Str.ofString "PythonPVector._create_new_root") 584), (.str (Str.ofString "/claim/cut.py") 585), (.int 127 0), (.int 1 0), (.int 0 0), (.int 0 0), (.int 3 0), (.ref 208), (.bool true), (.int 338 0), (.ref 209), .none, (.ref 210), (.ref 211), (.ref 212), (.int 589 0), (.int 127 0), (.str (Str.ofString "/claim/cut.py") 590)])), (List.toArray [])⟩),
  (nat_lit 214, ⟨(.type "function"), none, (.func ⟨(Str.ofString "_create_new_root"), (Str.ofString "PythonPVector._create_new_root"), a23, .stmts b23, s23, 3, [], .none, .none, .none, (.str (Str.ofString "pyrsistent._pvector") 351), none, (.ref 213), .none, 0⟩), (List.toArray [])⟩),
  (nat_lit 215, ⟨(.type "tuple"), none, (.seq (List.toArray []) 0), (List.toArray [])⟩),
  (nat_lit 217, ⟨(.type "tuple"), none, (.seq (List.toArray [(.str (Str.ofString "self") 595), (.str (Str.ofString "val") 596), (.str (Str.ofString "new_tail") 597), (.str (Str.ofString "new_root") 598), (.str (Str.ofString "new_shift") 599)]) 0), (List.toArray [])⟩),
  (nat_lit 218, ⟨(.type "tuple"), none, (.seq (List.toArray []) 0), (List.toArray [])⟩),
  (nat_lit 220, ⟨(.type "code"), none, (.fields (List.toArray [(.str (Str.ofString "append") 592), (.str (Str.ofString "PythonPVector.append") 593), (.str (Str.ofString "/claim/cut.py") 594), (.int 136 0), (.int 2 0), (.int 0 0), (.int 0 0), (.int 3 0), (.ref 215), (.bool true), (.int 338 0), (.ref 216), .none, (.ref 217), (.ref 218), (.ref 219), (.int 600 0), (.int 136 0), (.str (Str.ofString "/claim/cut.py") 601)])), (List.toArray [])⟩),
  (nat_lit 221, ⟨(.type "function"), none, (.func ⟨(Str.ofString "append"), (Str.ofString "PythonPVector.append"), a24, .stmts b24, s24, 3, [], .none, .none, .none, (.str (Str.ofString "pyrsistent._pvector") 351), none, (.ref 220), .none, 0⟩), (List.toArray [])⟩),
  (nat_lit 222, ⟨(.type "tuple"), none, (.seq (List.toArray []) 0), (List.toArray [])⟩),
  (nat_lit 224, ⟨(.type "tuple"), none, (.seq (List.toArray [(.str (Str.ofString "self") 606), (.str (Str.ofString "level") 607), (.str (Str.ofString "node") 608)]) 0), (List.toArray [])⟩),
  (nat_lit 225, ⟨(.type "tuple"), none, (.seq (List.toArray []) 0), (List.toArray [])⟩),
  (nat_lit 227, ⟨(.type "code"), none, (.fields (List.toArray [(.str (Str.ofString "_new_path") 603), (.str (Str.ofString "PythonPVector._new_path") 604), (.str (Str.ofString "/claim/cut.py") 605), (.int 144 0), (.int 3 0), (.int 0 0), (.int 0 0), (.int 3 0), (.ref 222), (.bool true), (.int 338 0), (.ref 223), .none, (.ref 224), (.ref 225), (.ref 226), (.int 609 0), (.int 144 0), (.str (Str.ofString "/claim/cut.py") 610)])), (List.toArray [])⟩),
  (nat_lit 228, ⟨(.type "function"), none, (.func ⟨(Str.ofString "_new_path"), (Str.ofString "PythonPVector._new_path"), a25, .stmts b25, s25, 3, [], .none, .none, .none, (.str (Str.ofString "pyrsistent._pvector") 351), none, (.ref 227), .none, 0⟩), (List.toArray [])⟩),
  (nat_lit 229, ⟨(.type "tuple"), none, (.seq (List.toArray []) 0), (List.toArray [])⟩),
  (nat_lit 231, ⟨(.type "tuple"), none, (.seq (List.toArray [(.str (Str.ofString "self") 615)]) 0), (List.toArray [])⟩),
  (nat_lit 232, ⟨(.type "tuple"), none, (.seq (List.toArray []) 0), (List.toArray [])⟩),
  (nat_lit 234, ⟨(.type "code"), none, (.fields (List.toArray [(.str (Str.ofString "_mutating_insert_tail") 612), (.str (Str.ofString "PythonPVector._mutating_insert_tail") 613), (.str (Str.ofString "/claim/cut.py") 614), (.int 149 0), (.int 1 0), (.int 0 0), (.int 0 0), (.int 3 0), (.ref 229), (.bool true), (.int 338 0), (.ref 230), .none, (.ref 231), (.ref 232), (.ref 233), (.int 616 0), (.int 149 0), (.str (Str.ofString "/claim/cut.py") 617)])), (List.toArray [])⟩),
  (nat_lit 235, ⟨(.type "function"), none, (.func ⟨(Str.ofString "_mutating_insert_tail"), (Str.ofString "PythonPVector._mutating_insert_tail"), a26, .stmts b26, s26, 3, [], .none, .none, .none, (.str (Str.ofString "pyrsistent._pvector") 351), none, (.ref 234), .none, 0⟩), (List.toArray [])⟩),
  (nat_lit 236, ⟨(.type "tuple"), none, (.seq (List.toArray []) 0), (List.toArray [])⟩),
  (nat_lit 238, ⟨(.type "tuple"), none, (.seq (List.toArray [(.str (Str.ofString "self") 622), (.str (Str.ofString "offset") 623), (.str (Str.ofString "sequence") 624), (.str (Str.ofString "max_delta_len") 625), (.str (Str.ofString "delta") 626), (.str (Str.ofString "delta_len") 627)]) 0), (List.toArray [])⟩),
  (nat_lit 239, ⟨(.type "tuple"), none, (.seq (List.toArray []) 0), (List.toArray [])⟩),
  (nat_lit 241, ⟨(.type "code"), none, (.fields (List.toArray [(.str (Str.ofString "_mutating_fill_tail") 619), (.str (Str.ofString "PythonPVector._mutating_fill_tail") 620), (.str (Str.ofString "/claim/cut.py") 621), (.int 153 0), (.int 3 0), (.int 0 0), (.int 0 0), (.int 3 0), (.ref 236), (.bool true), (.int 338 0), (.ref 237), .none, (.ref 238), (.ref 239), (.ref 240), (.int 628 0), (.int 153 0), (.str (Str.ofString "/claim/cut.py") 629)])), (List.toArray [])⟩),
  (nat_lit 242, ⟨(.type "function"), none, (.func ⟨(Str.ofString "_mutating_fill_tail"), (Str.ofString "PythonPVector._mutating_fill_tail"), a27, .stmts b27, s27, 3, [], .none, .none, .none, (.str (Str.ofString "pyrsistent._pvector") 351), none, (.ref 241), .none, 0⟩), (List.toArray [])⟩),
  (nat_lit 243, ⟨(.type "tuple"), none, (.seq (List.toArray []) 0), (List.toArray [])⟩),
  (nat_lit 245, ⟨(.type "tuple"), none, (.seq (List.toArray [(.str (Str.ofString "self") 634), (.str (Str.ofString "sequence") 635), (.str (Str.ofString "offset") 636), (.str (Str.ofString "sequence_len") 637)]) 0), (List.toArray [])⟩),
  (nat_lit 246, ⟨(.type "tuple"), none, (.seq (List.toArray []) 0), (List.toArray [])⟩),
  (nat_lit 248, ⟨(.type "code"), none, (.fields (List.toArray [(.str (Str.ofString "_mutating_extend") 631), (.str (Str.ofString "PythonPVector._mutating_extend") 632), (.str (Str.ofString "/claim/cut.py") 633), (.int 161 0), (.int 2 0), (.int 0 0), (.int 0 0), (.int 3 0), (.ref 243), (.bool true), (.int 338 0), (.ref 244), .none, (.ref 245), (.ref 246), (.ref 247), (.int 638 0), (.int 161 0), (.str (Str.ofString "/claim/cut.py") 639)])), (List.toArray [])⟩),
  (nat_lit 249, ⟨(.type "function"), none, (.func ⟨(Str.ofString "_mutating_extend"), (Str.ofString "PythonPVector._mutating_extend"), a28, .stmts b28, s28, 3, [], .none, .none, .none, (.str (Str.ofString "pyrsistent._pvector") 351), none, (.ref 248), .none, 0⟩), (List.toArray [])⟩),
  (nat_lit 250, ⟨(.type "tuple"), none, (.seq (List.toArray []) 0), (List.toArray [])⟩),
  (nat_lit 252, ⟨(.type "tuple"), none, (.seq (List.toArray [(.str (Str.ofString "self") 644), (.str (Str.ofString "obj") 645), (.str (Str.ofString "l") 646), (.str (Str.ofString "new_vector") 647)]) 0), (List.toArray [])⟩),
  (nat_lit 253, ⟨(.type "tuple"), none, (.seq (List.toArray []) 0), (List.toArray [])⟩),
  (nat_lit 255, ⟨(.type "code"), none, (.fields (List.toArray [(.str (Str.ofString "extend") 641), (.str (Str.ofString "PythonPVector.extend") 642), (.str (Str.ofString "/claim/cut.py") 643), (.int 170 0), (.int 2 0), (.int 0 0), (.int 0 0), (.int 3 0), (.ref 250), (.bool true), (.int 338 0), (.ref 251), .none, (.ref 252), (.ref 253), (.ref 254), (.int 648 0), (.int 170 0), (.str (Str.ofString "/claim/cut.py") 649)])), (List.toArray [])⟩),
  (nat_lit 256, ⟨(.type "function"), none, (.func ⟨(Str.ofString "extend"), (Str.ofString "PythonPVector.extend"), a29, .stmts b29, s29, 3, [], .none, .none, .none, (.str (Str.ofString "pyrsistent._pvector") 351), none, (.ref 255), .none, 0⟩), (List.toArray [])⟩),
  (nat_lit 257, ⟨(.type "tuple"), none, (.seq (List.toArray []) 0), (List.toArray [])⟩),
  (nat_lit 259, ⟨(.type "tuple"), none, (.seq (List.toArray [(.str (Str.ofString "self") 654), (.str (Str.ofString "level") 655), (.str (Str.ofString "parent") 656), (.str (Str.ofString "tail_node") 657), (.str (Str.ofString "ret") 658), (.str (Str.ofString "sub_index") 659)]) 0), (List.toArray [])⟩),
  (nat_lit 260, ⟨(.type "tuple"), none, (.seq (List.toArray []) 0), (List.toArray [])⟩),
  (nat_lit 262, ⟨(.type "code"), none, (.fields (List.toArray [(.str (Str.ofString "_push_tail") 651), (.str (Str.ofString "PythonPVector._push_tail") 652), (.str (Str.ofString "/claim/cut.py") 653), (.int 178 0), (.int 4 0), (.int 0 0), (.int 0 0), (.int 3 0), (.ref 257), (.bool true), (.int 338 0), (.ref 258), .none, (.ref 259), (.ref 260), (.ref 261), (.int 660 0), (.int 178 0), (.str (Str.ofString "/claim/cut.py") 661)])), (List.toArray [])⟩),
  (nat_lit 263, ⟨(.type "function"), none, (.func ⟨(Str.ofString "_push_tail"), (Str.ofString "PythonPVector._push_tail"), a30, .stmts b30, s30, 3, [], .none, .none, .none, (.str (Str.ofString "pyrsistent._pvector") 351), none, (.ref 262), .none, 0⟩), (List.toArray [])⟩),
  (nat_lit 264, ⟨(.type "tuple"), none, (.seq (List.toArray []) 0), (List.toArray [])⟩),
  (nat_lit 266, ⟨(.type "tuple"), none, (.seq (List.toArray [(.str (Str.ofString "self") 666), (.str (Str.ofString "value") 667), (.str (Str.ofString "args") 668), (.str (Str.ofString "kwargs") 669)]) 0), (List.toArray [])⟩),
  (nat_lit 267, ⟨(.type "tuple"), none, (.seq (List.toArray []) 0), (List.toArray [])⟩),
  (nat_lit 269, ⟨(.type "code"), none, (.fields (List.toArray [(.str (Str.ofString "index") 663), (.str (Str.ofString "PythonPVector.index") 664), (.str (Str.ofString "/claim/cut.py") 665), (.int 190 0), (.int 2 0), (.int 0 0), (.int 0 0), (.int 15 0), (.ref 264), (.bool true), (.int 338 0), (.ref 265), .none, (.ref 266), (.ref 267), (.ref 268), (.int 670 0), (.int 190 0), (.str (Str.ofString "/claim/cut.py") 671)])), (List.toArray [])⟩),
  (nat_lit 270, ⟨(.type "function"), none, (.func ⟨(Str.ofString "index"), (Str.ofString "PythonPVector.index"), a31, .stmts b31, s31, 3, [], .none, .none, .none, (.str (Str.ofString "pyrsistent._pvector") 351), none, (.ref 269), .none, 0⟩), (List.toArray [])⟩),
  (nat_lit 271, ⟨(.type "tuple"), none, (.seq (List.toArray []) 0), (List.toArray [])⟩),
  (nat_lit 273, ⟨(.type "tuple"), none, (.seq (List.toArray [(.str (Str.ofString "self") 676), (.str (Str.ofString "value") 677)]) 0), (List.toArray [])⟩),
  (nat_lit 274, ⟨(.type "tuple"), none, (.seq (List.toArray []) 0), (List.toArray [])⟩),
  (nat_lit 276, ⟨(.type "code"), none, (.fields (List.toArray [(.str (Str.ofString "count") 673), (.str (Str.ofString "PythonPVector.count") 674), (.str (Str.ofString "/claim/cut.py") 675), (.int 193 0), (.int 2 0), (.int 0 0), (.int 0 0), (.int 3 0), (.ref 271), (.bool true), (.int 338 0), (.ref 272), .none, (.ref 273), (.ref 274), (.ref 275), (.int 678 0), (.int 193 0), (.str (Str.ofString "/claim/cut.py") 679)])), (List.toArray [])⟩),
  (nat_lit 277, ⟨(.type "function"), none, (.func ⟨(Str.ofString "count"), (Str.ofString "PythonPVector.count"), a32, .stmts b32, s32, 3, [], .none, .none, .none, (.str (Str.ofString "pyrsistent._pvector") 351), none, (.ref 276), .none, 0⟩), (List.toArray [])⟩),
  (nat_lit 278, ⟨(.type "tuple"), none, (.seq (List.toArray [.none]) 0), (List.toArray [])⟩),
  (nat_lit 279, ⟨(.type "tuple"), none, (.seq (List.toArray []) 0), (List.toArray [])⟩),
  (nat_lit 281, ⟨(.type "tuple"), none, (.seq (List.toArray [(.str (Str.ofString "self") 684), (.str (Str.ofString "index") 685), (.str (Str.ofString "stop") 686)]) 0), (List.toArray [])⟩),
  (nat_lit 282, ⟨(.type "tuple"), none, (.seq (List.toArray []) 0), (List.toArray [])⟩),
  (nat_lit 284, ⟨(.type "code"), none, (.fields (List.toArray [(.str (Str.ofString "delete") 681), (.str (Str.ofString "PythonPVector.delete") 682), (.str (Str.ofString "/claim/cut.py") 683), (.int 196 0), (.int 3 0), (.int 0 0), (.int 0 0), (.int 3 0), (.ref 279), (.bool true), (.int 338 0), (.ref 280), .none, (.ref 281), (.ref 282), (.ref 283), (.int 687 0), (.int 196 0), (.str (Str.ofString "/claim/cut.py") 688)])), (List.toArray [])⟩),
  (nat_lit 285, ⟨(.type "function"), none, (.func ⟨(Str.ofString "delete"), (Str.ofString "PythonPVector.delete"), a33, .stmts b33, s33, 3, [], (.ref 278), .none, .none, (.str (Str.ofString "pyrsistent._pvector") 351), none, (.ref 284), .none, 0⟩), (List.toArray [])⟩),
  (nat_lit 286, ⟨(.type "tuple"), none, (.seq (List.toArray []) 0), (List.toArray [])⟩),
  (nat_lit 288, ⟨(.type "tuple"), none, (.seq (List.toArray [(.str (Str.ofString "self") 693), (.str (Str.ofString "value") 694)]) 0), (List.toArray [])⟩),
  (nat_lit 289, ⟨(.type "tuple"), none, (.seq (List.toArray []) 0), (List.toArray [])⟩),
  (nat_lit 291, ⟨(.type "code"), none, (.fields (List.toArray [(.str (Str.ofString "remove") 690), (.str (Str.ofString "PythonPVector.remove") 691), (.str (Str.ofString "/claim/cut.py") 692), (.int 199 0), (.int 2 0), (.int 0 0), (.int 0 0), (.int 3 0), (.ref 286), (.bool true), (.int 338 0), (.ref 287), .none, (.ref 288), (.ref 289), (.ref 290), (.int 695 0), (.int 199 0), (.str (Str.ofString "/claim/cut.py") 696)])), (List.toArray [])⟩),
  (nat_lit 292, ⟨(.type "function"), none, (.func ⟨(Str.ofString "remove"), (Str.ofString "PythonPVector.remove"), a34, .stmts b34, s34, 3, [], .none, .none, .none, (.str (Str.ofString "pyrsistent._pvector") 351), none, (.ref 291), .none, 0⟩), (List.toArray [])⟩),
  (nat_lit 293, ⟨(.type "tuple"), none, (.seq (List.toArray [(.str (Str.ofString "_count") 698), (.str (Str.ofString "_root") 699), (.str (Str.ofString "_shift") 700), (.str (Str.ofString "_tail") 701), (.str (Str.ofString "_tail_offset") 702)]) 0), (List.toArray [])⟩),
  (nat_lit 295, ⟨(.type "dict"), none, (.dict (List.toArray [⟨PyData.keyHash P (Str.ofString "__module__"), (.str (Str.ofString "__module__") 386), (.str (Str.ofString "pyrsistent._pvector") 351)⟩, ⟨PyData.keyHash P (Str.ofString "__firstlineno__"), (.str (Str.ofString "__firstlineno__") 390), (.int 13 389)⟩, ⟨PyData.keyHash P (Str.ofString "__slots__"), (.str (Str.ofString "__slots__") 397), (.ref 63)⟩, ⟨PyData.keyHash P (Str.ofString "__new__"), (.str (Str.ofString "__new__") 410), (.ref 297)⟩, ⟨PyData.keyHash P (Str.ofString "__len__"), (.str (Str.ofString "__len__") 417), (.ref 78)⟩, ⟨PyData.keyHash P (Str.ofString "__getitem__"), (.str (Str.ofString "__getitem__") 425), (.ref 85)⟩, ⟨PyData.keyHash P (Str.ofString "__add__"), (.str (Str.ofString "__add__") 433), (.ref 92)⟩, ⟨PyData.keyHash P (Str.ofString "__repr__"), (.str (Str.ofString "__repr__") 440), (.ref 99)⟩, ⟨PyData.keyHash P (Str.ofString "__str__"), (.str (Str.ofString "__str__") 447), (.ref 106)⟩, ⟨PyData.keyHash P (Str.ofString "__iter__"), (.str (Str.ofString "__iter__") 454), (.ref 113)⟩, ⟨PyData.keyHash P (Str.ofString "__ne__"), (.str (Str.ofString "__ne__") 462), (.ref 120)⟩, ⟨PyData.keyHash P (Str.ofString "__eq__"), (.str (Str.ofString "__eq__") 470), (.ref 127)⟩, ⟨PyData.keyHash P (Str.ofString "__gt__"), (.str (Str.ofString "__gt__") 478), (.ref 134)⟩, ⟨PyData.keyHash P (Str.ofString "__lt__"), (.str (Str.ofString "__lt__") 486), (.ref 141)⟩, ⟨PyData.keyHash P (Str.ofString "__ge__"), (.str (Str.ofString "__ge__") 494), (.ref 148)⟩, ⟨PyData.keyHash P (Str.ofString "__le__"), (.str (Str.ofString "__le__") 502), (.ref 155)⟩, ⟨PyData.keyHash P (Str.ofString "__mul__"), (.str (Str.ofString "__mul__") 510), (.ref 162)⟩, ⟨PyData.keyHash P (Str.ofString "__rmul__"), (.str (Str.ofString "__rmul__") 511), (.ref 162)⟩, ⟨PyData.keyHash P (Str.ofString "_fill_list"), (.str (Str.ofString "_fill_list") 522), (.ref 169)⟩, ⟨PyData.keyHash P (Str.ofString "tolist"), (.str (Str.ofString "tolist") 530), (.ref 176)⟩, ⟨PyData.keyHash P (Str.ofString "_totuple"), (.str (Str.ofString "_totuple") 537), (.ref 183)⟩, ⟨PyData.keyHash P (Str.ofString "set"), (.str (Str.ofString "set") 547), (.ref 190)⟩, ⟨PyData.keyHash P (Str.ofString "_do_set"), (.str (Str.ofString "_do_set") 560), (.ref 197)⟩, ⟨PyData.keyHash P (Str.ofString "_node_for"), (.str (Str.ofString "_node_for") 582), (.ref 206)⟩, ⟨PyData.keyHash P (Str.ofString "_create_new_root"), (.str (Str.ofString "_create_new_root") 591), (.ref 214)⟩, ⟨PyData.keyHash P (Str.ofString "append"), (.str (Str.ofString "append") 602), (.ref 221)⟩, ⟨PyData.keyHash P (Str.ofString "_new_path"), (.str (Str.ofString "_new_path") 611), (.ref 228)⟩, ⟨PyData.keyHash P (Str.ofString "_mutating_insert_tail"), (.str (Str.ofString "_mutating_insert_tail") 618), (.ref 235)⟩, ⟨PyData.keyHash P (Str.ofString "_mutating_fill_tail"), (.str (Str.ofString "_mutating_fill_tail") 630), (.ref 242)⟩, ⟨PyData.keyHash P (Str.ofString "_mutating_extend"), (.str (Str.ofString "_mutating_extend") 640), (.ref 249)⟩, ⟨PyData.keyHash P (Str.ofString "extend"), (.str (Str.ofString "extend") 650), (.ref 256)⟩, ⟨PyData.keyHash P (Str.ofString "_push_tail"), (.str (Str.ofString "_push_tail") 662), (.ref 263)⟩, ⟨PyData.keyHash P (Str.ofString "index"), (.str (Str.ofString "index") 672), (.ref 270)⟩, ⟨PyData.keyHash P (Str.ofString "count"), (.str (Str.ofString "count") 680), (.ref 277)⟩, ⟨PyData.keyHash P (Str.ofString "delete"), (.str (Str.ofString "delete") 689), (.ref 285)⟩, ⟨PyData.keyHash P (Str.ofString "remove"), (.str (Str.ofString "remove") 697), (.ref 292)⟩, ⟨PyData.keyHash P (Str.ofString "__static_attributes__"), (.str (Str.ofString "__static_attributes__") 703), (.ref 293)⟩, ⟨PyData.keyHash P (Str.ofString "_count"), (.str (Str.ofString "_count") 707), (.ref 298)⟩, ⟨PyData.keyHash P (Str.ofString "_root"), (.str (Str.ofString "_root") 709), (.ref 299)⟩, ⟨PyData.keyHash P (Str.ofString "_shift"), (.str (Str.ofString "_shift") 711), (.ref 300)⟩, ⟨PyData.keyHash P (Str.ofString "_tail"), (.str (Str.ofString "_tail") 713), (.ref 301)⟩, ⟨PyData.keyHash P (Str.ofString "_tail_offset"), (.str (Str.ofString "_tail_offset") 715), (.ref 302)⟩, ⟨PyData.keyHash P (Str.ofString "__weakref__"), (.str (Str.ofString "__weakref__") 717), (.ref 303)⟩, ⟨PyData.keyHash P (Str.ofString "__doc__"), (.str (Str.ofString "__doc__") 718), .none⟩, ⟨PyData.keyHash P (Str.ofString "__hash__"), (.str (Str.ofString "__hash__") 719), .none⟩]) 10), (List.toArray [])⟩),
  (nat_lit 296, ⟨(.type "type"), none, (.cls ⟨(Str.ofString "PythonPVector"), [(.type "object")], [(.ref 296), (.type "object")], 295, (Str.ofString "PythonPVector"), false, [(Str.ofString "_count"), (Str.ofString "_root"), (Str.ofString "_shift"), (Str.ofString "_tail"), (Str.ofString "_tail_offset")], [], false, none, false⟩), (List.toArray [(some (.ref 55)), none, (some (.str (Str.ofString "PythonPVector") 379)), (some (.str (Str.ofString "PythonPVector") 387)), (some .none), (some (.bool true))])⟩),
  (nat_lit 297, ⟨(.type "staticmethod"), none, (.fields (List.toArray [(.ref 71)])), (List.toArray [])⟩),
  (nat_lit 298, ⟨(.type "member_descriptor"), none, (.fields (List.toArray [(.str (Str.ofString "_count") 706), (.ref 296), (.builtin "proto.slot"), (.builtin "proto.slot#set"), (.int 4 0)])), (List.toArray [])⟩),
  (nat_lit 299, ⟨(.type "member_descriptor"), none, (.fields (List.toArray [(.str (Str.ofString "_root") 708), (.ref 296), (.builtin "proto.slot"), (.builtin "proto.slot#set"), (.int 3 0)])), (List.toArray [])⟩),
  (nat_lit 300, ⟨(.type "member_descriptor"), none, (.fields (List.toArray [(.str (Str.ofString "_shift") 710), (.ref 296), (.builtin "proto.slot"), (.builtin "proto.slot#set"), (.int 2 0)])), (List.toArray [])⟩),
  (nat_lit 301, ⟨(.type "member_descriptor"), none, (.fields (List.toArray [(.str (Str.ofString "_tail") 712), (.ref 296), (.builtin "proto.slot"), (.builtin "proto.slot#set"), (.int 1 0)])), (List.toArray [])⟩),
  (nat_lit 302, ⟨(.type "member_descriptor"), none, (.fields (List.toArray [(.str (Str.ofString "_tail_offset") 714), (.ref 296), (.builtin "proto.slot"), (.builtin "proto.slot#set"), (.int 0 0)])), (List.toArray [])⟩),
  (nat_lit 303, ⟨(.type "getset_descriptor"), none, (.fields (List.toArray [(.str (Str.ofString "__weakref__") 716), (.ref 296), (.builtin "ExceptionGroup.__weakref__"), .none])), (List.toArray [])⟩),
  (nat_lit 306, ⟨(.type "list"), none, (.seq (List.toArray []) 0), (List.toArray [])⟩),
  (nat_lit 307, ⟨(.type "list"), none, (.seq (List.toArray []) 0), (List.toArray [])⟩),
  (nat_lit 310, ⟨(.type "dict"), none, (.dict (List.toArray []) 0), (List.toArray [])⟩),
  (nat_lit 311, ⟨(.ref 296), (some 310), .plain, (List.toArray [(some (.int 0 722)), (some (.ref 306)), (some (.int 5 368)), (some (.ref 307)), (some (.int 0 739))])⟩),
  (nat_lit 312, ⟨(.type "tuple"), none, (.seq (List.toArray []) 0), (List.toArray [])⟩),
  (nat_lit 313, ⟨(.type "tuple"), none, (.seq (List.toArray [(.ref 312)]) 0), (List.toArray [])⟩),
  (nat_lit 314, ⟨(.type "tuple"), none, (.seq (List.toArray []) 0), (List.toArray [])⟩),
  (nat_lit 316, ⟨(.type "tuple"), none, (.seq (List.toArray [(.str (Str.ofString "iterable") 745)]) 0), (List.toArray [])⟩),
  (nat_lit 317, ⟨(.type "tuple"), none, (.seq (List.toArray []) 0), (List.toArray [])⟩),
  (nat_lit 319, ⟨(.type "code"), none, (.fields (List.toArray [(.str (Str.ofString "python_pvector") 742), (.str (Str.ofString "python_pvector") 743), (.str (Str.ofString "/claim/cut.py") 744), (.int 202 0), (.int 1 0), (.int 0 0), (.int 0 0), (.int 3 0), (.ref 314), (.bool true), (.int 338 0), (.ref 315), .none, (.ref 316), (.ref 317), (.ref 318), (.int 746 0), (.int 202 0), (.str (Str.ofString "/claim/cut.py") 747)])), (List.toArray [])⟩),
  (nat_lit 320, ⟨(.type "function"), none, (.func ⟨(Str.ofString "python_pvector"), (Str.ofString "python_pvector"), a35, .stmts b35, s35, 3, [], (.ref 313), .none, .none, (.str (Str.ofString "pyrsistent._pvector") 351), none, (.ref 319), .none, 0⟩), (List.toArray [])⟩),
  (nat_lit 321, ⟨(.type "tuple"), none, (.seq (List.toArray []) 0), (List.toArray [])⟩),
  (nat_lit 323, ⟨(.type "tuple"), none, (.seq (List.toArray [(.str (Str.ofString "number") 754), (.str (Str.ofString "more") 755), (.str (Str.ofString "half") 756)]) 0), (List.toArray [])⟩),
  (nat_lit 324, ⟨(.type "tuple"), none, (.seq (List.toArray []) 0), (List.toArray [])⟩),
  (nat_lit 326, ⟨(.type "code"), none, (.fields (List.toArray [(.str (Str.ofString "_law_size") 751), (.str (Str.ofString "_law_size") 752), (.str (Str.ofString "/claim/cut.py") 753), (.int 205 0), (.int 1 0), (.int 0 0), (.int 0 0), (.int 3 0), (.ref 321), (.bool true), (.int 338 0), (.ref 322), .none, (.ref 323), (.ref 324), (.ref 325), (.int 757 0), (.int 205 0), (.str (Str.ofString "/claim/cut.py") 758)])), (List.toArray [])⟩),
  (nat_lit 327, ⟨(.type "function"), none, (.func ⟨(Str.ofString "_law_size"), (Str.ofString "_law_size"), a36, .stmts b36, s36, 3, [], .none, .none, .none, (.str (Str.ofString "law_md0019_05") 749), none, (.ref 326), .none, 0⟩), (List.toArray [])⟩),
  (nat_lit 328, ⟨(.type "tuple"), none, (.seq (List.toArray []) 0), (List.toArray [])⟩),
  (nat_lit 330, ⟨(.type "tuple"), none, (.seq (List.toArray [(.str (Str.ofString "vector") 763), (.str (Str.ofString "count") 764), (.str (Str.ofString "changes") 765), (.str (Str.ofString "asked") 766), (.str (Str.ofString "place") 767), (.str (Str.ofString "spot") 768), (.str (Str.ofString "read") 769)]) 0), (List.toArray [])⟩),
  (nat_lit 331, ⟨(.type "tuple"), none, (.seq (List.toArray []) 0), (List.toArray [])⟩),
  (nat_lit 333, ⟨(.type "code"), none, (.fields (List.toArray [(.str (Str.ofString "_law_holds") 760), (.str (Str.ofString "_law_holds") 761), (.str (Str.ofString "/claim/cut.py") 762), (.int 211 0), (.int 4 0), (.int 0 0), (.int 0 0), (.int 3 0), (.ref 328), (.bool true), (.int 338 0), (.ref 329), .none, (.ref 330), (.ref 331), (.ref 332), (.int 770 0), (.int 211 0), (.str (Str.ofString "/claim/cut.py") 771)])), (List.toArray [])⟩),
  (nat_lit 334, ⟨(.type "function"), none, (.func ⟨(Str.ofString "_law_holds"), (Str.ofString "_law_holds"), a37, .stmts b37, s37, 3, [], .none, .none, .none, (.str (Str.ofString "law_md0019_05") 749), none, (.ref 333), .none, 0⟩), (List.toArray [])⟩),
  (nat_lit 335, ⟨(.type "tuple"), none, (.seq (List.toArray []) 0), (List.toArray [])⟩),
  (nat_lit 338, ⟨(.type "code"), none, (.fields (List.toArray [(.str (Str.ofString "law") 773), (.str (Str.ofString "law") 774), (.str (Str.ofString "/claim/cut.py") 775), (.int 223 0), (.int 1 0), (.int 0 0), (.int 0 0), (.int 3 0), (.ref 335), (.bool true), (.int 338 0), (.ref 336), .none, .none, .none, (.ref 337), (.int 776 0), (.int 223 0), (.str (Str.ofString "/claim/cut.py") 777)])), (List.toArray [])⟩),
  (nat_lit 339, ⟨(.type "function"), none, (.func ⟨(Str.ofString "law"), (Str.ofString "law"), a38, .stmts b38, s38, 3, [], .none, .none, .none, (.str (Str.ofString "law_md0019_05") 749), none, (.ref 338), .none, 0⟩), (List.toArray [])⟩)]
noncomputable def Kby {a0 : Arguments} {b0 : List Stmt} {s0 : Scope} {a1 : Arguments} {b1 : List Stmt} {s1 : Scope} {a2 : Arguments} {b2 : List Stmt} {s2 : Scope} {a3 : Arguments} {b3 : List Stmt} {s3 : Scope} {a4 : Arguments} {b4 : List Stmt} {s4 : Scope} {a5 : Arguments} {b5 : List Stmt} {s5 : Scope} {a6 : Arguments} {b6 : List Stmt} {s6 : Scope} {a7 : Arguments} {b7 : List Stmt} {s7 : Scope} {a8 : Arguments} {b8 : List Stmt} {s8 : Scope} {a9 : Arguments} {b9 : List Stmt} {s9 : Scope} {a10 : Arguments} {b10 : List Stmt} {s10 : Scope} {a11 : Arguments} {b11 : List Stmt} {s11 : Scope} {a12 : Arguments} {b12 : List Stmt} {s12 : Scope} {a13 : Arguments} {b13 : List Stmt} {s13 : Scope} {a14 : Arguments} {b14 : List Stmt} {s14 : Scope} {a15 : Arguments} {b15 : List Stmt} {s15 : Scope} {a16 : Arguments} {b16 : List Stmt} {s16 : Scope} {a17 : Arguments} {b17 : List Stmt} {s17 : Scope} {a18 : Arguments} {b18 : List Stmt} {s18 : Scope} {a19 : Arguments} {b19 : List Stmt} {s19 : Scope} {a20 : Arguments} {b20 : List Stmt} {s20 : Scope} {a21 : Arguments} {b21 : List Stmt} {s21 : Scope} {a22 : Arguments} {b22 : List Stmt} {s22 : Scope} {a23 : Arguments} {b23 : List Stmt} {s23 : Scope} {a24 : Arguments} {b24 : List Stmt} {s24 : Scope} {a25 : Arguments} {b25 : List Stmt} {s25 : Scope} {a26 : Arguments} {b26 : List Stmt} {s26 : Scope} {a27 : Arguments} {b27 : List Stmt} {s27 : Scope} {a28 : Arguments} {b28 : List Stmt} {s28 : Scope} {a29 : Arguments} {b29 : List Stmt} {s29 : Scope} {a30 : Arguments} {b30 : List Stmt} {s30 : Scope} {a31 : Arguments} {b31 : List Stmt} {s31 : Scope} {a32 : Arguments} {b32 : List Stmt} {s32 : Scope} {a33 : Arguments} {b33 : List Stmt} {s33 : Scope} {a34 : Arguments} {b34 : List Stmt} {s34 : Scope} {a35 : Arguments} {b35 : List Stmt} {s35 : Scope} {a36 : Arguments} {b36 : List Stmt} {s36 : Scope} {a37 : Arguments} {b37 : List Stmt} {s37 : Scope} {a38 : Arguments} {b38 : List Stmt} {s38 : Scope} (h : fnsOf PySem.Challenge.pw_md0019_05.main.body = [(a0, b0, s0), (a1, b1, s1), (a2, b2, s2), (a3, b3, s3), (a4, b4, s4), (a5, b5, s5), (a6, b6, s6), (a7, b7, s7), (a8, b8, s8), (a9, b9, s9), (a10, b10, s10), (a11, b11, s11), (a12, b12, s12), (a13, b13, s13), (a14, b14, s14), (a15, b15, s15), (a16, b16, s16), (a17, b17, s17), (a18, b18, s18), (a19, b19, s19), (a20, b20, s20), (a21, b21, s21), (a22, b22, s22), (a23, b23, s23), (a24, b24, s24), (a25, b25, s25), (a26, b26, s26), (a27, b27, s27), (a28, b28, s28), (a29, b29, s29), (a30, b30, s30), (a31, b31, s31), (a32, b32, s32), (a33, b33, s33), (a34, b34, s34), (a35, b35, s35), (a36, b36, s36), (a37, b37, s37), (a38, b38, s38)]) : Params → Frag := Kmk a0 b0 s0 a1 b1 s1 a2 b2 s2 a3 b3 s3 a4 b4 s4 a5 b5 s5 a6 b6 s6 a7 b7 s7 a8 b8 s8 a9 b9 s9 a10 b10 s10 a11 b11 s11 a12 b12 s12 a13 b13 s13 a14 b14 s14 a15 b15 s15 a16 b16 s16 a17 b17 s17 a18 b18 s18 a19 b19 s19 a20 b20 s20 a21 b21 s21 a22 b22 s22 a23 b23 s23 a24 b24 s24 a25 b25 s25 a26 b26 s26 a27 b27 s27 a28 b28 s28 a29 b29 s29 a30 b30 s30 a31 b31 s31 a32 b32 s32 a33 b33 s33 a34 b34 s34 a35 b35 s35 a36 b36 s36 a37 b37 s37 a38 b38 s38
noncomputable def KF : Params → Frag := Kby (by with_unfolding_all rfl)
def KA : List Addr := [2, 3, 33, 35, 36, 38, 39, 48, 50, 51, 53, 54, 55, 58, 63, 64, 65, 67, 68, 70, 71, 72, 74, 75, 77, 78, 79, 81, 82, 84, 85, 86, 88, 89, 91, 92, 93, 95, 96, 98, 99, 100, 102, 103, 105, 106, 107, 109, 110, 112, 113, 114, 116, 117, 119, 120, 121, 123, 124, 126, 127, 128, 130, 131, 133, 134, 135, 137, 138, 140, 141, 142, 144, 145, 147, 148, 149, 151, 152, 154, 155, 156, 158, 159, 161, 162, 163, 165, 166, 168, 169, 170, 172, 173, 175, 176, 177, 179, 180, 182, 183, 184, 186, 187, 189, 190, 191, 193, 194, 196, 197, 198, 200, 201, 203, 204, 205, 206, 207, 208, 210, 211, 213, 214, 215, 217, 218, 220, 221, 222, 224, 225, 227, 228, 229, 231, 232, 234, 235, 236, 238, 239, 241, 242, 243, 245, 246, 248, 249, 250, 252, 253, 255, 256, 257, 259, 260, 262, 263, 264, 266, 267, 269, 270, 271, 273, 274, 276, 277, 278, 279, 281, 282, 284, 285, 286, 288, 289, 291, 292, 293, 295, 296, 297, 298, 299, 300, 301, 302, 303, 306, 307, 310, 311, 312, 313, 314, 316, 317, 319, 320, 321, 323, 324, 326, 327, 328, 330, 331, 333, 334, 335, 338, 339]
abbrev vw : Program := PySem.W.view PySem.Challenge.pw_md0019_05 [0, 1, 3, 4, 5, 6, 7, 8, 9, 12, 13, 14]
abbrev vl : List Str := [Str.ofString "BIT_MASK", Str.ofString "SHIFT", Str.ofString "PythonPVector", Str.ofString "_EMPTY_PVECTOR", Str.ofString "python_pvector"]
abbrev vv : List (Str × WData) := [(Str.ofString "BIT_MASK", WData.int 31), (Str.ofString "SHIFT", WData.int 5)]
theorem KA_is : ∀ P, KA = (KF P).map (·.1) := fun _ => by kernel_rfl
theorem left_is : LeftO PySem.Challenge.pw_md0019_05 vw vl (fun s => xlAt vw vv s && recOk (RowW.records PySem.Challenge.rw_md0019_05.row.toRowW) s) (Hook.obs (kHook KF KA KA_is)) (Hook.val (kHook KF KA KA_is)) 4684 := by
  refine left_of ?_
  rw [PySem.W.Fast.te10156331382660048174, PySem.W.Fast.te11892475500146522536, PySem.W.Fast.te14364793385576792824, PySem.W.Fast.te1435165496053646825, PySem.W.Fast.te14289696077712309145, PySem.W.Fast.te4187177175401517315]
  intro w
  kernel_rfl
set_option maxHeartbeats 200000
noncomputable abbrev KK (w : World) : Frag := KF w.params
abbrev aC : Addr := 296
abbrev aEmpty : Addr := 311
abbrev sm_new : Addr := 297
abbrev m_dunder_new : Addr := 71
abbrev m_dunder_len : Addr := 78
abbrev m_dunder_getitem : Addr := 85
abbrev m_dunder_add : Addr := 92
abbrev m_dunder_repr : Addr := 99
abbrev m_dunder_str : Addr := 106
abbrev m_dunder_iter : Addr := 113
abbrev m_dunder_ne : Addr := 120
abbrev m_dunder_eq : Addr := 127
abbrev m_dunder_gt : Addr := 134
abbrev m_dunder_lt : Addr := 141
abbrev m_dunder_ge : Addr := 148
abbrev m_dunder_le : Addr := 155
abbrev m_dunder_mul : Addr := 162
abbrev m_dunder_rmul : Addr := 162
abbrev m_fill_list : Addr := 169
abbrev m_tolist : Addr := 176
abbrev m_totuple : Addr := 183
abbrev m_set : Addr := 190
abbrev m_do_set : Addr := 197
abbrev sm_node_for : Addr := 206
abbrev m_node_for : Addr := 204
abbrev m_create_new_root : Addr := 214
abbrev m_append : Addr := 221
abbrev m_new_path : Addr := 228
abbrev m_mutating_insert_tail : Addr := 235
abbrev m_mutating_fill_tail : Addr := 242
abbrev m_mutating_extend : Addr := 249
abbrev m_extend : Addr := 256
abbrev m_push_tail : Addr := 263
abbrev m_index : Addr := 270
abbrev m_count : Addr := 277
abbrev m_delete : Addr := 285
abbrev m_remove : Addr := 292
abbrev g_wall : Addr := 39
abbrev g_bitcount : Addr := 46
abbrev g_compare_pvector : Addr := 54
abbrev g_python_pvector : Addr := 320
abbrev g_law_size : Addr := 327
abbrev g_law_holds : Addr := 334
abbrev g_law : Addr := 339
noncomputable def ob (w : World) (a : Addr) : Obj := ((KK w).lookup a).getD default
theorem lk {w : World} (a : Addr) (e : ((KK w).lookup a).isSome = true) : (KK w).lookup a = some (ob w a) := by
  unfold ob; cases h : (KK w).lookup a with
  | none => rw [h] at e; cases e
  | some o => rfl
abbrev IO (dx : Addr) (sl : List (Option Value)) : Obj := { cls := .ref aC, dict := some dx, data := .plain, slots := sl.toArray }
theorem arr_set (l : List (Option Value)) (i : Nat) (v : Value) : (l.toArray ++ Array.replicate (i + 1 - l.toArray.size) none).setIfInBounds i (some v) = ((l ++ List.replicate (i + 1 - l.length) none).set i (some v)).toArray := by
  apply Array.toList_inj.mp; simp
theorem inst_of {h : Heap} {x dx : Addr} {sl : List (Option Value)} (hx : h.get? x = some (IO dx sl)) (hdx : h.get? dx = some emptyDict) : InstAt h x (IO dx sl) aC (some emptyDict) := ⟨hx, rfl, rfl, hdx⟩
section
variable {prog : Program} {w : World} {A : Around} {E : Value → Shared → Prop} {hp : Heap} {gs : Array GenState} {dr : Drawn} {tk : Nat} {os : OsState} {mg mb : Str → Option Value} {x dx : Addr} {ox : Obj} {sl : List (Option Value)} {v : Value} {b : Heap} {L a : Addr} {m : Str → Option Value} {own : List (Addr × Obj)} {cn : Str} {cs : Scope} {ccd : Value} {cl : List (Str × Addr)} {pos : Pos} {Q : Value → Shared → Prop}
theorem nm_BRANCH_FACTOR (F : Fx b L hp m own) (T : Tp (KK w) mg mb b) (h : Q (.int 32 360) ⟨hp, gs, dr, tk, os⟩) (hk : cs.kind = .function := by with_unfolding_all rfl) (hx : (envX cn cs L a ccd cl).kindOf (Str.ofString "BRANCH_FACTOR") = some .globalImplicit := by with_unfolding_all rfl) :
    wpAny (model prog w) A (eval (.Name (Str.ofString "BRANCH_FACTOR") pos) (envX cn cs L a ccd cl)) Q E ⟨hp, gs, dr, tk, os⟩ := n_glob F T (by kernel_rfl) h hk hx (by decide)
theorem nm_BIT_MASK (F : Fx b L hp m own) (T : Tp (KK w) mg mb b) (h : Q (.int 31 363) ⟨hp, gs, dr, tk, os⟩) (hk : cs.kind = .function := by with_unfolding_all rfl) (hx : (envX cn cs L a ccd cl).kindOf (Str.ofString "BIT_MASK") = some .globalImplicit := by with_unfolding_all rfl) :
    wpAny (model prog w) A (eval (.Name (Str.ofString "BIT_MASK") pos) (envX cn cs L a ccd cl)) Q E ⟨hp, gs, dr, tk, os⟩ := n_glob F T (by kernel_rfl) h hk hx (by decide)
theorem nm_SHIFT (F : Fx b L hp m own) (T : Tp (KK w) mg mb b) (h : Q (.int 5 368) ⟨hp, gs, dr, tk, os⟩) (hk : cs.kind = .function := by with_unfolding_all rfl) (hx : (envX cn cs L a ccd cl).kindOf (Str.ofString "SHIFT") = some .globalImplicit := by with_unfolding_all rfl) :
    wpAny (model prog w) A (eval (.Name (Str.ofString "SHIFT") pos) (envX cn cs L a ccd cl)) Q E ⟨hp, gs, dr, tk, os⟩ := n_glob F T (by kernel_rfl) h hk hx (by decide)
theorem nm_PythonPVector (F : Fx b L hp m own) (T : Tp (KK w) mg mb b) (h : Q (.ref 296) ⟨hp, gs, dr, tk, os⟩) (hk : cs.kind = .function := by with_unfolding_all rfl) (hx : (envX cn cs L a ccd cl).kindOf (Str.ofString "PythonPVector") = some .globalImplicit := by with_unfolding_all rfl) :
    wpAny (model prog w) A (eval (.Name (Str.ofString "PythonPVector") pos) (envX cn cs L a ccd cl)) Q E ⟨hp, gs, dr, tk, os⟩ := n_glob F T (by kernel_rfl) h hk hx (by decide)
theorem nm_EMPTY_PVECTOR (F : Fx b L hp m own) (T : Tp (KK w) mg mb b) (h : Q (.ref 311) ⟨hp, gs, dr, tk, os⟩) (hk : cs.kind = .function := by with_unfolding_all rfl) (hx : (envX cn cs L a ccd cl).kindOf (Str.ofString "_EMPTY_PVECTOR") = some .globalImplicit := by with_unfolding_all rfl) :
    wpAny (model prog w) A (eval (.Name (Str.ofString "_EMPTY_PVECTOR") pos) (envX cn cs L a ccd cl)) Q E ⟨hp, gs, dr, tk, os⟩ := n_glob F T (by kernel_rfl) h hk hx (by decide)
theorem nm_python_pvector (F : Fx b L hp m own) (T : Tp (KK w) mg mb b) (h : Q (.ref 320) ⟨hp, gs, dr, tk, os⟩) (hk : cs.kind = .function := by with_unfolding_all rfl) (hx : (envX cn cs L a ccd cl).kindOf (Str.ofString "python_pvector") = some .globalImplicit := by with_unfolding_all rfl) :
    wpAny (model prog w) A (eval (.Name (Str.ofString "python_pvector") pos) (envX cn cs L a ccd cl)) Q E ⟨hp, gs, dr, tk, os⟩ := n_glob F T (by kernel_rfl) h hk hx (by decide)
theorem nm_law_size (F : Fx b L hp m own) (T : Tp (KK w) mg mb b) (h : Q (.ref 327) ⟨hp, gs, dr, tk, os⟩) (hk : cs.kind = .function := by with_unfolding_all rfl) (hx : (envX cn cs L a ccd cl).kindOf (Str.ofString "_law_size") = some .globalImplicit := by with_unfolding_all rfl) :
    wpAny (model prog w) A (eval (.Name (Str.ofString "_law_size") pos) (envX cn cs L a ccd cl)) Q E ⟨hp, gs, dr, tk, os⟩ := n_glob F T (by kernel_rfl) h hk hx (by decide)
theorem nm_law_holds (F : Fx b L hp m own) (T : Tp (KK w) mg mb b) (h : Q (.ref 334) ⟨hp, gs, dr, tk, os⟩) (hk : cs.kind = .function := by with_unfolding_all rfl) (hx : (envX cn cs L a ccd cl).kindOf (Str.ofString "_law_holds") = some .globalImplicit := by with_unfolding_all rfl) :
    wpAny (model prog w) A (eval (.Name (Str.ofString "_law_holds") pos) (envX cn cs L a ccd cl)) Q E ⟨hp, gs, dr, tk, os⟩ := n_glob F T (by kernel_rfl) h hk hx (by decide)
theorem nm_len (F : Fx b L hp m own) (T : Tp (KK w) mg mb b) (h : Q (.builtin "len") ⟨hp, gs, dr, tk, os⟩) (hk : cs.kind = .function := by with_unfolding_all rfl) (hx : (envX cn cs L a ccd cl).kindOf (Str.ofString "len") = some .globalImplicit := by with_unfolding_all rfl) :
    wpAny (model prog w) A (eval (.Name (Str.ofString "len") pos) (envX cn cs L a ccd cl)) Q E ⟨hp, gs, dr, tk, os⟩ := n_blt F T (by kernel_rfl) (by kernel_rfl) h (by decide) hk hx (by decide)
theorem nm_list (F : Fx b L hp m own) (T : Tp (KK w) mg mb b) (h : Q (.type "list") ⟨hp, gs, dr, tk, os⟩) (hk : cs.kind = .function := by with_unfolding_all rfl) (hx : (envX cn cs L a ccd cl).kindOf (Str.ofString "list") = some .globalImplicit := by with_unfolding_all rfl) :
    wpAny (model prog w) A (eval (.Name (Str.ofString "list") pos) (envX cn cs L a ccd cl)) Q E ⟨hp, gs, dr, tk, os⟩ := n_blt F T (by kernel_rfl) (by kernel_rfl) h (by decide) hk hx (by decide)
theorem nm_range (F : Fx b L hp m own) (T : Tp (KK w) mg mb b) (h : Q (.type "range") ⟨hp, gs, dr, tk, os⟩) (hk : cs.kind = .function := by with_unfolding_all rfl) (hx : (envX cn cs L a ccd cl).kindOf (Str.ofString "range") = some .globalImplicit := by with_unfolding_all rfl) :
    wpAny (model prog w) A (eval (.Name (Str.ofString "range") pos) (envX cn cs L a ccd cl)) Q E ⟨hp, gs, dr, tk, os⟩ := n_blt F T (by kernel_rfl) (by kernel_rfl) h (by decide) hk hx (by decide)
theorem nm_isinstance (F : Fx b L hp m own) (T : Tp (KK w) mg mb b) (h : Q (.builtin "isinstance") ⟨hp, gs, dr, tk, os⟩) (hk : cs.kind = .function := by with_unfolding_all rfl) (hx : (envX cn cs L a ccd cl).kindOf (Str.ofString "isinstance") = some .globalImplicit := by with_unfolding_all rfl) :
    wpAny (model prog w) A (eval (.Name (Str.ofString "isinstance") pos) (envX cn cs L a ccd cl)) Q E ⟨hp, gs, dr, tk, os⟩ := n_blt F T (by kernel_rfl) (by kernel_rfl) h (by decide) hk hx (by decide)
theorem nm_slice (F : Fx b L hp m own) (T : Tp (KK w) mg mb b) (h : Q (.type "slice") ⟨hp, gs, dr, tk, os⟩) (hk : cs.kind = .function := by with_unfolding_all rfl) (hx : (envX cn cs L a ccd cl).kindOf (Str.ofString "slice") = some .globalImplicit := by with_unfolding_all rfl) :
    wpAny (model prog w) A (eval (.Name (Str.ofString "slice") pos) (envX cn cs L a ccd cl)) Q E ⟨hp, gs, dr, tk, os⟩ := n_blt F T (by kernel_rfl) (by kernel_rfl) h (by decide) hk hx (by decide)
theorem nm_zip (F : Fx b L hp m own) (T : Tp (KK w) mg mb b) (h : Q (.type "zip") ⟨hp, gs, dr, tk, os⟩) (hk : cs.kind = .function := by with_unfolding_all rfl) (hx : (envX cn cs L a ccd cl).kindOf (Str.ofString "zip") = some .globalImplicit := by with_unfolding_all rfl) :
    wpAny (model prog w) A (eval (.Name (Str.ofString "zip") pos) (envX cn cs L a ccd cl)) Q E ⟨hp, gs, dr, tk, os⟩ := n_blt F T (by kernel_rfl) (by kernel_rfl) h (by decide) hk hx (by decide)
theorem nm_super (F : Fx b L hp m own) (T : Tp (KK w) mg mb b) (h : Q (.type "super") ⟨hp, gs, dr, tk, os⟩) (hk : cs.kind = .function := by with_unfolding_all rfl) (hx : (envX cn cs L a ccd cl).kindOf (Str.ofString "super") = some .globalImplicit := by with_unfolding_all rfl) :
    wpAny (model prog w) A (eval (.Name (Str.ofString "super") pos) (envX cn cs L a ccd cl)) Q E ⟨hp, gs, dr, tk, os⟩ := n_blt F T (by kernel_rfl) (by kernel_rfl) h (by decide) hk hx (by decide)
theorem nm_dict (F : Fx b L hp m own) (T : Tp (KK w) mg mb b) (h : Q (.type "dict") ⟨hp, gs, dr, tk, os⟩) (hk : cs.kind = .function := by with_unfolding_all rfl) (hx : (envX cn cs L a ccd cl).kindOf (Str.ofString "dict") = some .globalImplicit := by with_unfolding_all rfl) :
    wpAny (model prog w) A (eval (.Name (Str.ofString "dict") pos) (envX cn cs L a ccd cl)) Q E ⟨hp, gs, dr, tk, os⟩ := n_blt F T (by kernel_rfl) (by kernel_rfl) h (by decide) hk hx (by decide)
theorem nm_int (F : Fx b L hp m own) (T : Tp (KK w) mg mb b) (h : Q (.type "int") ⟨hp, gs, dr, tk, os⟩) (hk : cs.kind = .function := by with_unfolding_all rfl) (hx : (envX cn cs L a ccd cl).kindOf (Str.ofString "int") = some .globalImplicit := by with_unfolding_all rfl) :
    wpAny (model prog w) A (eval (.Name (Str.ofString "int") pos) (envX cn cs L a ccd cl)) Q E ⟨hp, gs, dr, tk, os⟩ := n_blt F T (by kernel_rfl) (by kernel_rfl) h (by decide) hk hx (by decide)
theorem nm_IndexError (F : Fx b L hp m own) (T : Tp (KK w) mg mb b) (h : Q (.type "IndexError") ⟨hp, gs, dr, tk, os⟩) (hk : cs.kind = .function := by with_unfolding_all rfl) (hx : (envX cn cs L a ccd cl).kindOf (Str.ofString "IndexError") = some .globalImplicit := by with_unfolding_all rfl) :
    wpAny (model prog w) A (eval (.Name (Str.ofString "IndexError") pos) (envX cn cs L a ccd cl)) Q E ⟨hp, gs, dr, tk, os⟩ := n_blt F T (by kernel_rfl) (by kernel_rfl) h (by decide) hk hx (by decide)
theorem gm_fn {name : Str} {f : Addr} {pl : Sem Bool} {Q : Value × List Value → Shared → Prop} (X : (KK w).In hp) (I : InstAt hp x ox aC (some emptyDict))
    (hf : findIn (KK w) (.ref aC) name = some (some (.ref f))) (ht : typeIn (KK w) (.ref f) = some (.type "function")) (h : Q (.ref f, [.ref x]) ⟨hp, gs, dr, tk, os⟩) : wpAny (model prog w) A (getMethod (.ref x) name pl) Q E ⟨hp, gs, dr, tk, os⟩ :=
  method_fn X I (by kernel_rfl) (by kernel_rfl) hf ht rfl h
theorem gm_fill_list {pl : Sem Bool} {Q : Value × List Value → Shared → Prop} (X : (KK w).In hp) (hx : hp.get? x = some (IO dx sl)) (hdx : hp.get? dx = some emptyDict) (h : Q (.ref m_fill_list, [.ref x]) ⟨hp, gs, dr, tk, os⟩) :
    wpAny (model prog w) A (getMethod (.ref x) (Str.ofString "_fill_list") pl) Q E ⟨hp, gs, dr, tk, os⟩ := gm_fn X (inst_of hx hdx) (by kernel_rfl) (by kernel_rfl) h
theorem gm_tolist {pl : Sem Bool} {Q : Value × List Value → Shared → Prop} (X : (KK w).In hp) (hx : hp.get? x = some (IO dx sl)) (hdx : hp.get? dx = some emptyDict) (h : Q (.ref m_tolist, [.ref x]) ⟨hp, gs, dr, tk, os⟩) :
    wpAny (model prog w) A (getMethod (.ref x) (Str.ofString "tolist") pl) Q E ⟨hp, gs, dr, tk, os⟩ := gm_fn X (inst_of hx hdx) (by kernel_rfl) (by kernel_rfl) h
theorem gm_set {pl : Sem Bool} {Q : Value × List Value → Shared → Prop} (X : (KK w).In hp) (hx : hp.get? x = some (IO dx sl)) (hdx : hp.get? dx = some emptyDict) (h : Q (.ref m_set, [.ref x]) ⟨hp, gs, dr, tk, os⟩) :
    wpAny (model prog w) A (getMethod (.ref x) (Str.ofString "set") pl) Q E ⟨hp, gs, dr, tk, os⟩ := gm_fn X (inst_of hx hdx) (by kernel_rfl) (by kernel_rfl) h
theorem gm_do_set {pl : Sem Bool} {Q : Value × List Value → Shared → Prop} (X : (KK w).In hp) (hx : hp.get? x = some (IO dx sl)) (hdx : hp.get? dx = some emptyDict) (h : Q (.ref m_do_set, [.ref x]) ⟨hp, gs, dr, tk, os⟩) :
    wpAny (model prog w) A (getMethod (.ref x) (Str.ofString "_do_set") pl) Q E ⟨hp, gs, dr, tk, os⟩ := gm_fn X (inst_of hx hdx) (by kernel_rfl) (by kernel_rfl) h
theorem gm_create_new_root {pl : Sem Bool} {Q : Value × List Value → Shared → Prop} (X : (KK w).In hp) (hx : hp.get? x = some (IO dx sl)) (hdx : hp.get? dx = some emptyDict) (h : Q (.ref m_create_new_root, [.ref x]) ⟨hp, gs, dr, tk, os⟩) :
    wpAny (model prog w) A (getMethod (.ref x) (Str.ofString "_create_new_root") pl) Q E ⟨hp, gs, dr, tk, os⟩ := gm_fn X (inst_of hx hdx) (by kernel_rfl) (by kernel_rfl) h
theorem gm_append {pl : Sem Bool} {Q : Value × List Value → Shared → Prop} (X : (KK w).In hp) (hx : hp.get? x = some (IO dx sl)) (hdx : hp.get? dx = some emptyDict) (h : Q (.ref m_append, [.ref x]) ⟨hp, gs, dr, tk, os⟩) :
    wpAny (model prog w) A (getMethod (.ref x) (Str.ofString "append") pl) Q E ⟨hp, gs, dr, tk, os⟩ := gm_fn X (inst_of hx hdx) (by kernel_rfl) (by kernel_rfl) h
theorem gm_new_path {pl : Sem Bool} {Q : Value × List Value → Shared → Prop} (X : (KK w).In hp) (hx : hp.get? x = some (IO dx sl)) (hdx : hp.get? dx = some emptyDict) (h : Q (.ref m_new_path, [.ref x]) ⟨hp, gs, dr, tk, os⟩) :
    wpAny (model prog w) A (getMethod (.ref x) (Str.ofString "_new_path") pl) Q E ⟨hp, gs, dr, tk, os⟩ := gm_fn X (inst_of hx hdx) (by kernel_rfl) (by kernel_rfl) h
theorem gm_mutating_insert_tail {pl : Sem Bool} {Q : Value × List Value → Shared → Prop} (X : (KK w).In hp) (hx : hp.get? x = some (IO dx sl)) (hdx : hp.get? dx = some emptyDict) (h : Q (.ref m_mutating_insert_tail, [.ref x]) ⟨hp, gs, dr, tk, os⟩) :
    wpAny (model prog w) A (getMethod (.ref x) (Str.ofString "_mutating_insert_tail") pl) Q E ⟨hp, gs, dr, tk, os⟩ := gm_fn X (inst_of hx hdx) (by kernel_rfl) (by kernel_rfl) h
theorem gm_mutating_fill_tail {pl : Sem Bool} {Q : Value × List Value → Shared → Prop} (X : (KK w).In hp) (hx : hp.get? x = some (IO dx sl)) (hdx : hp.get? dx = some emptyDict) (h : Q (.ref m_mutating_fill_tail, [.ref x]) ⟨hp, gs, dr, tk, os⟩) :
    wpAny (model prog w) A (getMethod (.ref x) (Str.ofString "_mutating_fill_tail") pl) Q E ⟨hp, gs, dr, tk, os⟩ := gm_fn X (inst_of hx hdx) (by kernel_rfl) (by kernel_rfl) h
theorem gm_mutating_extend {pl : Sem Bool} {Q : Value × List Value → Shared → Prop} (X : (KK w).In hp) (hx : hp.get? x = some (IO dx sl)) (hdx : hp.get? dx = some emptyDict) (h : Q (.ref m_mutating_extend, [.ref x]) ⟨hp, gs, dr, tk, os⟩) :
    wpAny (model prog w) A (getMethod (.ref x) (Str.ofString "_mutating_extend") pl) Q E ⟨hp, gs, dr, tk, os⟩ := gm_fn X (inst_of hx hdx) (by kernel_rfl) (by kernel_rfl) h
theorem gm_extend {pl : Sem Bool} {Q : Value × List Value → Shared → Prop} (X : (KK w).In hp) (hx : hp.get? x = some (IO dx sl)) (hdx : hp.get? dx = some emptyDict) (h : Q (.ref m_extend, [.ref x]) ⟨hp, gs, dr, tk, os⟩) :
    wpAny (model prog w) A (getMethod (.ref x) (Str.ofString "extend") pl) Q E ⟨hp, gs, dr, tk, os⟩ := gm_fn X (inst_of hx hdx) (by kernel_rfl) (by kernel_rfl) h
theorem gm_push_tail {pl : Sem Bool} {Q : Value × List Value → Shared → Prop} (X : (KK w).In hp) (hx : hp.get? x = some (IO dx sl)) (hdx : hp.get? dx = some emptyDict) (h : Q (.ref m_push_tail, [.ref x]) ⟨hp, gs, dr, tk, os⟩) :
    wpAny (model prog w) A (getMethod (.ref x) (Str.ofString "_push_tail") pl) Q E ⟨hp, gs, dr, tk, os⟩ := gm_fn X (inst_of hx hdx) (by kernel_rfl) (by kernel_rfl) h
theorem ga_count {expr : Bool} (X : (KK w).In hp) (hx : hp.get? x = some (IO dx sl)) (hdx : hp.get? dx = some emptyDict) (hv : (sl[0]?).join = some v) (hh : handedIn v = true) (h : Q v ⟨hp, gs, dr, tk + 1, os⟩) :
    wpAny (model prog w) A (getAttr (.ref x) (Str.ofString "_count") expr) Q E ⟨hp, gs, dr, tk, os⟩ :=
  ga_slot (p := 298) (i := 0) X (inst_of hx hdx) (by kernel_rfl) (by kernel_rfl) (by kernel_rfl) (by kernel_rfl) (by kernel_rfl) (by kernel_rfl) (by simpa using hv) hh h
theorem sa_count {Q : Unit → Shared → Prop} (F : Fx b L hp m ((x, IO dx sl) :: own)) (X : (KK w).In hp) (hdx : hp.get? dx = some emptyDict)
    (h : ∀ h', Fx b L h' m ((x, IO dx ((sl ++ List.replicate (0 + 1 - sl.length) none).set 0 (some v))) :: own) → Q () ⟨h', gs, dr, tk + 1, os⟩) : wpAny (model prog w) A (setAttr (.ref x) (Str.ofString "_count") v) Q E ⟨hp, gs, dr, tk, os⟩ :=
  sa_slot (p := 298) (i := 0) F X (inst_of F.head hdx) (by kernel_rfl) (by kernel_rfl) (by kernel_rfl) (by kernel_rfl) (by kernel_rfl) (by decide) (by rw [arr_set]) rfl h
theorem ga_root {expr : Bool} (X : (KK w).In hp) (hx : hp.get? x = some (IO dx sl)) (hdx : hp.get? dx = some emptyDict) (hv : (sl[1]?).join = some v) (hh : handedIn v = true) (h : Q v ⟨hp, gs, dr, tk + 1, os⟩) :
    wpAny (model prog w) A (getAttr (.ref x) (Str.ofString "_root") expr) Q E ⟨hp, gs, dr, tk, os⟩ :=
  ga_slot (p := 299) (i := 1) X (inst_of hx hdx) (by kernel_rfl) (by kernel_rfl) (by kernel_rfl) (by kernel_rfl) (by kernel_rfl) (by kernel_rfl) (by simpa using hv) hh h
theorem sa_root {Q : Unit → Shared → Prop} (F : Fx b L hp m ((x, IO dx sl) :: own)) (X : (KK w).In hp) (hdx : hp.get? dx = some emptyDict)
    (h : ∀ h', Fx b L h' m ((x, IO dx ((sl ++ List.replicate (1 + 1 - sl.length) none).set 1 (some v))) :: own) → Q () ⟨h', gs, dr, tk + 1, os⟩) : wpAny (model prog w) A (setAttr (.ref x) (Str.ofString "_root") v) Q E ⟨hp, gs, dr, tk, os⟩ :=
  sa_slot (p := 299) (i := 1) F X (inst_of F.head hdx) (by kernel_rfl) (by kernel_rfl) (by kernel_rfl) (by kernel_rfl) (by kernel_rfl) (by decide) (by rw [arr_set]) rfl h
theorem ga_shift {expr : Bool} (X : (KK w).In hp) (hx : hp.get? x = some (IO dx sl)) (hdx : hp.get? dx = some emptyDict) (hv : (sl[2]?).join = some v) (hh : handedIn v = true) (h : Q v ⟨hp, gs, dr, tk + 1, os⟩) :
    wpAny (model prog w) A (getAttr (.ref x) (Str.ofString "_shift") expr) Q E ⟨hp, gs, dr, tk, os⟩ :=
  ga_slot (p := 300) (i := 2) X (inst_of hx hdx) (by kernel_rfl) (by kernel_rfl) (by kernel_rfl) (by kernel_rfl) (by kernel_rfl) (by kernel_rfl) (by simpa using hv) hh h
theorem sa_shift {Q : Unit → Shared → Prop} (F : Fx b L hp m ((x, IO dx sl) :: own)) (X : (KK w).In hp) (hdx : hp.get? dx = some emptyDict)
    (h : ∀ h', Fx b L h' m ((x, IO dx ((sl ++ List.replicate (2 + 1 - sl.length) none).set 2 (some v))) :: own) → Q () ⟨h', gs, dr, tk + 1, os⟩) : wpAny (model prog w) A (setAttr (.ref x) (Str.ofString "_shift") v) Q E ⟨hp, gs, dr, tk, os⟩ :=
  sa_slot (p := 300) (i := 2) F X (inst_of F.head hdx) (by kernel_rfl) (by kernel_rfl) (by kernel_rfl) (by kernel_rfl) (by kernel_rfl) (by decide) (by rw [arr_set]) rfl h
theorem ga_tail {expr : Bool} (X : (KK w).In hp) (hx : hp.get? x = some (IO dx sl)) (hdx : hp.get? dx = some emptyDict) (hv : (sl[3]?).join = some v) (hh : handedIn v = true) (h : Q v ⟨hp, gs, dr, tk + 1, os⟩) :
    wpAny (model prog w) A (getAttr (.ref x) (Str.ofString "_tail") expr) Q E ⟨hp, gs, dr, tk, os⟩ :=
  ga_slot (p := 301) (i := 3) X (inst_of hx hdx) (by kernel_rfl) (by kernel_rfl) (by kernel_rfl) (by kernel_rfl) (by kernel_rfl) (by kernel_rfl) (by simpa using hv) hh h
theorem sa_tail {Q : Unit → Shared → Prop} (F : Fx b L hp m ((x, IO dx sl) :: own)) (X : (KK w).In hp) (hdx : hp.get? dx = some emptyDict)
    (h : ∀ h', Fx b L h' m ((x, IO dx ((sl ++ List.replicate (3 + 1 - sl.length) none).set 3 (some v))) :: own) → Q () ⟨h', gs, dr, tk + 1, os⟩) : wpAny (model prog w) A (setAttr (.ref x) (Str.ofString "_tail") v) Q E ⟨hp, gs, dr, tk, os⟩ :=
  sa_slot (p := 301) (i := 3) F X (inst_of F.head hdx) (by kernel_rfl) (by kernel_rfl) (by kernel_rfl) (by kernel_rfl) (by kernel_rfl) (by decide) (by rw [arr_set]) rfl h
theorem ga_tail_offset {expr : Bool} (X : (KK w).In hp) (hx : hp.get? x = some (IO dx sl)) (hdx : hp.get? dx = some emptyDict) (hv : (sl[4]?).join = some v) (hh : handedIn v = true) (h : Q v ⟨hp, gs, dr, tk + 1, os⟩) :
    wpAny (model prog w) A (getAttr (.ref x) (Str.ofString "_tail_offset") expr) Q E ⟨hp, gs, dr, tk, os⟩ :=
  ga_slot (p := 302) (i := 4) X (inst_of hx hdx) (by kernel_rfl) (by kernel_rfl) (by kernel_rfl) (by kernel_rfl) (by kernel_rfl) (by kernel_rfl) (by simpa using hv) hh h
theorem sa_tail_offset {Q : Unit → Shared → Prop} (F : Fx b L hp m ((x, IO dx sl) :: own)) (X : (KK w).In hp) (hdx : hp.get? dx = some emptyDict)
    (h : ∀ h', Fx b L h' m ((x, IO dx ((sl ++ List.replicate (4 + 1 - sl.length) none).set 4 (some v))) :: own) → Q () ⟨h', gs, dr, tk + 1, os⟩) : wpAny (model prog w) A (setAttr (.ref x) (Str.ofString "_tail_offset") v) Q E ⟨hp, gs, dr, tk, os⟩ :=
  sa_slot (p := 302) (i := 4) F X (inst_of F.head hdx) (by kernel_rfl) (by kernel_rfl) (by kernel_rfl) (by kernel_rfl) (by kernel_rfl) (by decide) (by rw [arr_set]) rfl h
end
local macro_rules | `(tactic| walk_at "glob") => do
  let F := Lean.mkIdent `F; let T := Lean.mkIdent `T
  `(tactic| first | (with_reducible refine nm_eq $F $T ?_ ?_ ?_; rotate_left; with_unfolding_all rfl; with_unfolding_all rfl) | (with_reducible refine nm_ge $F $T ?_ ?_ ?_; rotate_left; with_unfolding_all rfl; with_unfolding_all rfl) | (with_reducible refine nm_gt $F $T ?_ ?_ ?_; rotate_left; with_unfolding_all rfl; with_unfolding_all rfl) | (with_reducible refine nm_le $F $T ?_ ?_ ?_; rotate_left; with_unfolding_all rfl; with_unfolding_all rfl) | (with_reducible refine nm_lt $F $T ?_ ?_ ?_; rotate_left; with_unfolding_all rfl; with_unfolding_all rfl) | (with_reducible refine nm_wall $F $T ?_ ?_ ?_; rotate_left; with_unfolding_all rfl; with_unfolding_all rfl) | (with_reducible refine nm_bitcount $F $T ?_ ?_ ?_; rotate_left; with_unfolding_all rfl; with_unfolding_all rfl) | (with_reducible refine nm_BRANCH_FACTOR $F $T ?_ ?_ ?_; rotate_left; with_unfolding_all rfl; with_unfolding_all rfl) | (with_reducible refine nm_BIT_MASK $F $T ?_ ?_ ?_; rotate_left; with_unfolding_all rfl; with_unfolding_all rfl) | (with_reducible refine nm_SHIFT $F $T ?_ ?_ ?_; rotate_left; with_unfolding_all rfl; with_unfolding_all rfl) | (with_reducible refine nm_compare_pvector $F $T ?_ ?_ ?_; rotate_left; with_unfolding_all rfl; with_unfolding_all rfl) | (with_reducible refine nm_PythonPVector $F $T ?_ ?_ ?_; rotate_left; with_unfolding_all rfl; with_unfolding_all rfl) | (with_reducible refine nm_EMPTY_PVECTOR $F $T ?_ ?_ ?_; rotate_left; with_unfolding_all rfl; with_unfolding_all rfl) | (with_reducible refine nm_python_pvector $F $T ?_ ?_ ?_; rotate_left; with_unfolding_all rfl; with_unfolding_all rfl) | (with_reducible refine nm_law_size $F $T ?_ ?_ ?_; rotate_left; with_unfolding_all rfl; with_unfolding_all rfl) | (with_reducible refine nm_law_holds $F $T ?_ ?_ ?_; rotate_left; with_unfolding_all rfl; with_unfolding_all rfl) | (with_reducible refine nm_len $F $T ?_ ?_ ?_; rotate_left; with_unfolding_all rfl; with_unfolding_all rfl) | (with_reducible refine nm_list $F $T ?_ ?_ ?_; rotate_left; with_unfolding_all rfl; with_unfolding_all rfl) | (with_reducible refine nm_range $F $T ?_ ?_ ?_; rotate_left; with_unfolding_all rfl; with_unfolding_all rfl) | (with_reducible refine nm_isinstance $F $T ?_ ?_ ?_; rotate_left; with_unfolding_all rfl; with_unfolding_all rfl) | (with_reducible refine nm_slice $F $T ?_ ?_ ?_; rotate_left; with_unfolding_all rfl; with_unfolding_all rfl) | (with_reducible refine nm_min $F $T ?_ ?_ ?_; rotate_left; with_unfolding_all rfl; with_unfolding_all rfl) | (with_reducible refine nm_max $F $T ?_ ?_ ?_; rotate_left; with_unfolding_all rfl; with_unfolding_all rfl) | (with_reducible refine nm_enumerate $F $T ?_ ?_ ?_; rotate_left; with_unfolding_all rfl; with_unfolding_all rfl) | (with_reducible refine nm_zip $F $T ?_ ?_ ?_; rotate_left; with_unfolding_all rfl; with_unfolding_all rfl) | (with_reducible refine nm_iter $F $T ?_ ?_ ?_; rotate_left; with_unfolding_all rfl; with_unfolding_all rfl) | (with_reducible refine nm_hasattr $F $T ?_ ?_ ?_; rotate_left; with_unfolding_all rfl; with_unfolding_all rfl) | (with_reducible refine nm_tuple $F $T ?_ ?_ ?_; rotate_left; with_unfolding_all rfl; with_unfolding_all rfl) | (with_reducible refine nm_super $F $T ?_ ?_ ?_; rotate_left; with_unfolding_all rfl; with_unfolding_all rfl) | (with_reducible refine nm_dict $F $T ?_ ?_ ?_; rotate_left; with_unfolding_all rfl; with_unfolding_all rfl) | (with_reducible refine nm_int $F $T ?_ ?_ ?_; rotate_left; with_unfolding_all rfl; with_unfolding_all rfl) | (with_reducible refine nm_ValueError $F $T ?_ ?_ ?_; rotate_left; with_unfolding_all rfl; with_unfolding_all rfl) | (with_reducible refine nm_IndexError $F $T ?_ ?_ ?_; rotate_left; with_unfolding_all rfl; with_unfolding_all rfl) | (with_reducible refine nm_TypeError $F $T ?_ ?_ ?_; rotate_left; with_unfolding_all rfl; with_unfolding_all rfl))
local macro_rules | `(tactic| walk_at "room") => do
  let h := Lean.mkIdent `hroom
  `(tactic| first
    | exact Nat.lt_of_lt_of_le $h (by decide)
    | exact Nat.lt_of_lt_of_le (Nat.succ_lt_succ $h) (by decide)
    | exact Nat.lt_of_le_of_lt (Nat.le_add_right _ _) (Nat.lt_of_lt_of_le $h (by decide))
    | (simp only [recursionLimit, Around.deeper, Around.in1, Around.mark] at *; omega))
local macro_rules | `(tactic| walk_at "rf") => `(tactic| (rotate_left; with_unfolding_all rfl))
local macro_rules | `(tactic| walk_at "rf2") => `(tactic| (rotate_left; with_unfolding_all rfl; with_unfolding_all rfl))
local macro_rules | `(tactic| walk_at "look") => `(tactic| first
  | with_unfolding_all rfl
  | ((try dsimp only); repeat' (first | assumption | exact look_hit rfl | refine look_miss (by decide) ?_)))
local macro_rules | `(tactic| walk_at "loc") => do
  let F := Lean.mkIdent `F
  `(tactic| first
    | ((with_reducible show wpAny _ _ (eval (Expr.Name _ _) _) _ _ _); refine n_loc $F (by walk_at "look") ?_)
    | ((with_reducible show wpAny _ _ (loadName _ _) _ _ _); refine l_loc $F (by walk_at "look") ?_))
local macro_rules | `(tactic| walk_at "st") => do
  let F := Lean.mkIdent `F
  let h := Lean.mkIdent `hq
  `(tactic| ((with_reducible show wpAny _ _ (storeName _ _ _) _ _ _); refine st_loc $F ?_; clear $F; intro $h $F))
local macro_rules | `(tactic| walk_at "ga") => do
  let F := Lean.mkIdent `F; let T := Lean.mkIdent `T; let hx := Lean.mkIdent `hx; let hdx := Lean.mkIdent `hdx
  `(tactic| ((with_reducible show wpAny _ _ (getAttr _ _ _) _ _ _); first
    | with_reducible refine ga_count (Tp.up $T (Fx.keep $F)).X (Fx.keep $F _ _ $hx) (Fx.keep $F _ _ $hdx) rfl rfl ?_
    | with_reducible refine ga_root (Tp.up $T (Fx.keep $F)).X (Fx.keep $F _ _ $hx) (Fx.keep $F _ _ $hdx) rfl rfl ?_
    | with_reducible refine ga_shift (Tp.up $T (Fx.keep $F)).X (Fx.keep $F _ _ $hx) (Fx.keep $F _ _ $hdx) rfl rfl ?_
    | with_reducible refine ga_tail (Tp.up $T (Fx.keep $F)).X (Fx.keep $F _ _ $hx) (Fx.keep $F _ _ $hdx) rfl rfl ?_
    | with_reducible refine ga_tail_offset (Tp.up $T (Fx.keep $F)).X (Fx.keep $F _ _ $hx) (Fx.keep $F _ _ $hdx) rfl rfl ?_
    | with_reducible refine ga_count (Tp.up $T (Fx.keep $F)).X (Fx.head $F) (Fx.keep $F _ _ $hdx) rfl rfl ?_
    | with_reducible refine ga_root (Tp.up $T (Fx.keep $F)).X (Fx.head $F) (Fx.keep $F _ _ $hdx) rfl rfl ?_
    | with_reducible refine ga_shift (Tp.up $T (Fx.keep $F)).X (Fx.head $F) (Fx.keep $F _ _ $hdx) rfl rfl ?_
    | with_reducible refine ga_tail (Tp.up $T (Fx.keep $F)).X (Fx.head $F) (Fx.keep $F _ _ $hdx) rfl rfl ?_
    | with_reducible refine ga_tail_offset (Tp.up $T (Fx.keep $F)).X (Fx.head $F) (Fx.keep $F _ _ $hdx) rfl rfl ?_))
local macro_rules | `(tactic| walk_at "e") => `(tactic| first
  | with_reducible refine s_cons ?_
  | with_reducible refine wpAny_execs_nil ?_
  | with_reducible refine nx_next ?_
  | with_reducible refine nx_ret ?_
  | with_reducible refine wpAny_If ?_
  | (with_reducible refine wpAny_Assign_Name ?_ ?_; walk_at "rf")
  | (with_reducible refine plainObj_wpAny_Assign_Attribute ?_ ?_; walk_at "rf")
  | (with_reducible refine Assign_Tuple ?_ ?_ ?_; walk_at "rf2")
  | with_reducible refine wpAny_assign_Name ?_
  | with_reducible refine assign_attr ?_
  | with_reducible refine wpAny_AugAssign_AttributeAny ?_
  | with_reducible refine wpAny_AugAssign_Name ?_
  | with_reducible refine wpAny_Return_some ?_
  | (with_reducible refine wpAny_Expr_any ?_ ?_ ?_; walk_at "rf2")
  | with_reducible refine wpAny_BinOp ?_
  | with_reducible refine x_int ?_
  | with_reducible refine List_ ?_
  | with_reducible refine Tuple_ ?_
  | with_reducible refine wpAny_Constant_none ?_
  | with_reducible refine wpAny_Constant_bool ?_
  | (with_reducible refine' MethodCall_ ?_ ?he; (case he => with_unfolding_all rfl))
  | (with_reducible refine Call_ ?_ ?_; walk_at "rf")
  | with_reducible refine args_nil ?_
  | (with_reducible refine args_cons ?_ ?_; walk_at "rf")
  | (with_reducible refine callWith_method1 ?_ ?_ ?_; walk_at "rf2")
  | (with_reducible refine callWith_method0 ?_)
  | (with_reducible refine PyProof.Rows.callWith_type1 ?_ ?_ ?_; walk_at "rf2")
  | (with_reducible refine PyProof.Rows.callWith_builtin1 ?_ ?_ ?_; walk_at "rf2")
  | (with_reducible refine Attribute_any_ ?_ ?_; walk_at "rf")
  | (with_reducible refine wpAny_isTrue_Compare1 ?_ ?_; walk_at "rf")
  | (with_reducible refine wpAny_Compare1 ?_ ?_; walk_at "rf")
  | (with_reducible refine isTrue_chain ?_ ?_; walk_at "rf")
  | (with_reducible refine Compare_chain ?_ ?_; walk_at "rf")
  | ((with_reducible show wpAny _ _ (testChain _ _ _ _) _ _ _); first | refine test_link ?_ | refine test_last ?_)
  | ((with_reducible show wpAny _ _ (compareChain _ _ _ _) _ _ _); first | refine chain_link ?_ | refine chain_last ?_)
  | with_reducible refine isTrue_and_nil ?_
  | with_reducible refine isTrue_or_nil ?_
  | with_reducible refine isTrue_and ?_
  | with_reducible refine isTrue_or ?_
  | with_reducible refine isTrue_not ?_
  | with_reducible refine is_none_none ?_
  | with_reducible refine is_int_none ?_
  | with_reducible refine is_ref_none ?_
  | with_reducible refine isnot_none_none ?_
  | with_reducible refine isnot_int_none ?_
  | with_reducible refine isnot_ref_none ?_
  | (with_reducible refine isTrue_plain ?_ ?_; walk_at "rf")
  | with_reducible refine wpAny_truthy_bool ?_
  | (with_reducible refine sub_slice ?_ ?_; (rotate_left; (intro _ _; with_unfolding_all rfl)))
  | with_reducible refine Subscript_ ?_
  | with_reducible refine ep_none ?_
  | with_reducible refine ep_some ?_
  | with_reducible refine x_add ?_
  | with_reducible refine x_sub ?_
  | with_reducible refine x_isub ?_
  | with_reducible refine x_iadd ?_
  | with_reducible refine x_and ?_
  | with_reducible refine wpAny_UnaryOp ?_
  | with_reducible refine x_neg ?_
  | with_reducible refine truthy_int ?_
  | with_reducible refine lt_int ?_
  | with_reducible refine gt_int ?_
  | with_reducible refine eq_int ?_
  | with_reducible refine ne_int ?_
  | with_reducible refine le_int ?_
  | with_reducible refine ge_int ?_
  | walk_at "loc"
  | walk_at "ga"
  | walk_at "glob"
  | walk_at "st"
  | fail "e: no step")
local macro_rules | `(tactic| walk_at "r") => `(tactic| repeat walk_at "e")
abbrev VO (dx : Addr) (n : Int) (root : Addr) (sh : Int) (tail : Addr) (toff : Int) (t1 t2 t3 : Tok) : Obj :=
  IO dx [some (.int n t1), some (.ref root), some (.int sh t2), some (.ref tail), some (.int toff t3)]
/-- a tree of lists over h, of a depth, and what its leaves hold -/
def TreeAt (h : Heap) : Nat → Addr → List Value → Prop
  | 0, a, xs => ∃ n, h.get? a = some (LO xs n)
  | k + 1, a, xs => ∃ n, ∃ cs : List Addr, ∃ yss : List (List Value), h.get? a = some (LO (cs.map Value.ref) n) ∧ cs.length = yss.length ∧ (∀ (i : Nat) c ys, cs[i]? = some c → yss[i]? = some ys → TreeAt h k c ys) ∧ xs = yss.flatten
theorem TreeAt.up {h h' : Heap} (e : Ext h h') : ∀ {k : Nat} {a : Addr} {xs : List Value}, TreeAt h k a xs → TreeAt h' k a xs
  | 0, _, _, ⟨n, g⟩ => ⟨n, e _ _ g⟩
  | _ + 1, _, _, ⟨n, cs, yss, g, hl, hc, hx⟩ => ⟨n, cs, yss, e _ _ g, hl, fun i c ys h1 h2 => (hc i c ys h1 h2).up e, hx⟩
theorem ext_hide1 {g hp : Heap} {tl : Addr} (he : Ext g hp) (hg : g.get? tl = none) : Ext g (hideAll hp [tl]) :=
  fun c oc e => hideAll_get _ (he c oc e) (fun q => by rw [List.mem_singleton.mp q, hg] at e; cases e)

section
variable {prog : Program} {w : World} {mg mb : Str → Option Value} {x dx : Addr} {sl : List (Option Value)}
set_option maxHeartbeats 4000000 in
theorem fill_spec : ∀ (k : Nat) {A : Around} {E : Value → Shared → Prop} {hp : Heap} {gs : Array GenState} {dr : Drawn} {tk : Nat} {os : OsState} {Q : Value → Shared → Prop} {g : Heap} {a tl : Addr} {xs items : List Value} {n : Nat} {t : Tok} {sh : Int} (T : Tp (KK w) mg mb g) (hx : g.get? x = some (IO dx sl)) (hdx : g.get? dx = some emptyDict)
    (Tr : TreeAt g k a xs) (he : Ext g hp) (hg : g.get? tl = none) (htl : hp.get? tl = some (LO items n)) (hsh : sh = 5 * k) (hroom : A.depth + k < 900) (hh : A.handled = none) (hz : items.length + xs.length ≤ 1000000)
    (h : ∀ h' tk n', Ext g h' → h'.get? tl = some (LO (items ++ xs) n') → Q .none ⟨h', gs, dr, tk, os⟩),
    wpAny (model prog w) A (call (.ref m_fill_list) [.ref x, .ref a, .int sh t, .ref tl]) Q E ⟨hp, gs, dr, tk, os⟩ := by
  intro k
  induction k with
  | zero =>
    intro A E hp gs dr tk os Q g a tl xs items n t sh T hx hdx Tr he hg htl hsh hroom hh hz h
    have T0 := T.up he
    refine wpAny_call ?_
    refine call_fx [(tl, LO items n)] (binds := [(Str.ofString "self", .ref x), (Str.ofString "node", .ref a), (Str.ofString "shift", .int sh t), (Str.ofString "the_list", .ref tl)]) (by walk_at "room") (T0.X _ _ (lk m_fill_list (by kernel_rfl))) (by with_unfolding_all rfl) T0.nolimit (codeRec_of T0.X (by kernel_rfl)) (BindsTo.of_eq (by with_unfolding_all rfl)) (locs (by with_unfolding_all rfl)) (fun p hp => by rw [List.mem_singleton.mp hp]; exact htl) (by simp) ?_ (by decide +kernel)
    intro L h₁ tk F
    have eb := ext_hide1 he hg
    have T := T.up eb
    obtain ⟨na, ga⟩ := Tr
    subst hsh
    walk_at "r"
    rw [if_neg (by decide)]
    walk_at "r"
    refine gm_list F.head PySem.F.slot_list_extend PySem.F.type_list_extend ?_
    walk_at "r"
    refine lc_extend F (F.keep _ _ (eb _ _ ga)) hz ?_
    clear F
    intro hq n' F
    walk_at "r"
    exact h _ _ _ (eb.trans F.keep) F.head
  | succ k ih =>
    intro A E hp gs dr tk os Q g a tl xs items n t sh T hx hdx Tr he hg htl hsh hroom hh hz h
    have T0 := T.up he
    refine wpAny_call ?_
    refine call_fx [(tl, LO items n)] (binds := [(Str.ofString "self", .ref x), (Str.ofString "node", .ref a), (Str.ofString "shift", .int sh t), (Str.ofString "the_list", .ref tl)]) (by walk_at "room") (T0.X _ _ (lk m_fill_list (by kernel_rfl))) (by with_unfolding_all rfl) T0.nolimit (codeRec_of T0.X (by kernel_rfl)) (BindsTo.of_eq (by with_unfolding_all rfl)) (locs (by with_unfolding_all rfl)) (fun p hp => by rw [List.mem_singleton.mp hp]; exact htl) (by simp) ?_ (by decide +kernel)
    intro L h₁ tk F
    have eb := ext_hide1 he hg
    have T := T.up eb
    obtain ⟨na, cs, yss, ga, hlen, hkids, rfl⟩ := Tr
    walk_at "r"
    rw [if_pos (by subst hsh; simp; omega)]
    walk_at "r"
    refine wpAny_For ?_
    walk_at "r"
    refine for_list (items := cs.map Value.ref) F (eb _ _ ga) hh (fun i b' m' own' => m' (Str.ofString "self") = some (.ref x) ∧ m' (Str.ofString "the_list") = some (.ref tl) ∧ (∃ t', m' (Str.ofString "shift") = some (.int (sh - 5) t')) ∧ ∃ n', own' = [(tl, LO (items ++ (yss.take i).flatten) n')]) ⟨rfl, rfl, ⟨_, rfl⟩, n, by simp⟩ ?_ ?_
    · rintro i v b₁ m₁ own₁ h₁ tk₁ it E' hi hv ⟨ms, mt, ⟨t', msh⟩, n', rfl⟩ e₁ F
      have T := T.up e₁
      have ex := eb.trans e₁
      obtain ⟨c, hc, rfl⟩ : ∃ c, cs[i]? = some c ∧ v = .ref c := by
        rw [List.getElem?_map] at hv
        obtain ⟨c, hc, e⟩ := Option.map_eq_some_iff.mp hv
        exact ⟨c, hc, e.symm⟩
      rw [List.length_map] at hi
      obtain ⟨ys, hys⟩ : ∃ ys, yss[i]? = some ys := ⟨_, List.getElem?_eq_getElem (by omega)⟩
      walk_at "r"
      refine gm_fill_list (T.up F.keep).X (F.keep _ _ (ex _ _ hx)) (F.keep _ _ (ex _ _ hdx)) ?_
      refine cw_fn T (by kernel_rfl) ?_
      walk_at "r"
      refine ⟨F.keep, ?_⟩
      have F : Fx b₁ L h₁ _ ((tl, LO (items ++ (yss.take i).flatten) n') :: it) := F
      have eh := ex.trans F.hid
      have hlen' : ((yss.take (i + 1)).flatten).length ≤ yss.flatten.length := by
        conv => rhs; rw [← List.take_append_drop (i + 1) yss]
        rw [List.flatten_append, List.length_append]; omega
      have hfl : (yss.take (i + 1)).flatten = (yss.take i).flatten ++ ys := by
        rw [List.take_add_one, hys, List.flatten_append]; simp
      rw [hfl, List.length_append] at hlen'
      refine ih (g := h₁.hide tl) (T.up F.hid) (eh _ _ hx) (eh _ _ hdx) ((hkids i c ys hc hys).up eh) (hide_ext _ _) (Heap.hide_self _ _) F.head (by omega) (by walk_at "room") hh (by rw [List.length_append]; omega) ?_
      intro h₂ tk₂ n₂ e₂ ht₂
      have F := F.back1 e₂ ht₂
      walk_at "r"
      refine ⟨h₂, tk₂, b₁, (fun y => if y = Str.ofString "n" then some (Value.ref c) else m₁ y), [(tl, LO (items ++ (yss.take (i + 1)).flatten) n₂)], rfl, .rfl', ?_, by walk_at "look", by walk_at "look", ⟨t', by walk_at "look"⟩, n₂, rfl⟩
      rw [hfl, ← List.append_assoc]
      exact F
    · rintro h' tk' b' m' own' ⟨ms, mt, msh, n', rfl⟩ e' F
      walk_at "r"
      rw [List.length_map, hlen, List.take_length] at F
      exact h _ _ _ ((eb.trans e').trans F.keep) F.head

set_option maxHeartbeats 4000000 in
theorem tolist_spec {A : Around} {E : Value → Shared → Prop} {hp : Heap} {gs : Array GenState} {dr : Drawn} {tk : Nat} {os : OsState} {Q : Value → Shared → Prop} {k : Nat} {root tail : Addr} {ys zs : List Value} {tn : Nat} {n toff sh : Int} {t1 t2 t3 : Tok} (T : Tp (KK w) mg mb hp)
    (hx : hp.get? x = some (VO dx n root sh tail toff t1 t2 t3)) (hdx : hp.get? dx = some emptyDict) (hsh : sh = 5 * k) (Tr : TreeAt hp k root ys) (ht : hp.get? tail = some (LO zs tn)) (hroom : A.depth + k < 800) (hh : A.handled = none) (hz : ys.length + zs.length ≤ 1000000)
    (h : ∀ D c h' tk, Ext hp h' → hp.get? D = none → h'.get? D = some (LO (ys ++ zs) c) → Q (.ref D) ⟨h', gs, dr, tk, os⟩) :
    wpAny (model prog w) A (call (.ref m_tolist) [.ref x]) Q E ⟨hp, gs, dr, tk, os⟩ := by
  refine wpAny_call ?_
  refine call_fx [] (binds := [(Str.ofString "self", .ref x)]) (by walk_at "room") (T.X _ _ (lk m_tolist (by kernel_rfl))) (by with_unfolding_all rfl) T.nolimit (codeRec_of T.X (by kernel_rfl)) (BindsTo.of_eq (by with_unfolding_all rfl)) (locs (by with_unfolding_all rfl)) (fun _ q => nomatch q) List.nodup_nil ?_ (by decide +kernel)
  intro L h₁ tk F
  have F : Fx hp L h₁ _ [] := F
  walk_at "r"
  refine nl F ?_
  clear F; intro D hq F _
  walk_at "r"
  refine gm_fill_list (T.up F.keep).X (F.keep _ _ hx) (F.keep _ _ hdx) ?_
  refine cw_fn T (by kernel_rfl) ?_
  walk_at "r"
  refine ⟨F.keep, ?_⟩
  refine fill_spec k (g := Heap.hide _ D) (T.up F.hid) (F.hid _ _ hx) (F.hid _ _ hdx) (Tr.up F.hid) (hide_ext _ _) (Heap.hide_self _ _) F.head hsh (by walk_at "room") hh (by simp; omega) ?_
  intro h₂ tk₂ n₂ e₂ ht₂
  have F := F.back1 e₂ ht₂
  walk_at "r"
  refine gm_list F.head PySem.F.slot_list_extend PySem.F.type_list_extend ?_
  walk_at "r"
  refine lc_extend F (F.keep _ _ ht) (by simp; omega) ?_
  clear F; intro hq n' F
  walk_at "r"
  exact h _ _ _ _ F.keep (F.out _ (.head _)) (by simpa using F.head)
end
theorem cls_at (w : World) : ∃ oc od cd sl, (KK w).lookup aC = some ⟨oc, od, .cls cd, sl⟩ ∧ cd.abstract = false ∧ cd.hasDel = false ∧ cd.mro.isEmpty = false := ⟨_, _, _, _, by with_unfolding_all rfl, by with_unfolding_all rfl, by with_unfolding_all rfl, by with_unfolding_all rfl⟩
section
variable {prog : Program} {w : World} {A : Around} {E : Value → Shared → Prop} {hp : Heap} {gs : Array GenState} {dr : Drawn} {tk : Nat} {os : OsState} {mg mb : Str → Option Value}
theorem obj_new {Q : Value → Shared → Prop} (X : (KK w).In hp) (hq : Q (.ref (hp.objs.size + 1)) ⟨(hp.push emptyDict).push (IO hp.objs.size []), gs, dr, tk, os⟩) :
    wpAny (model prog w) A (call (.builtin "object.__new__") [.ref aC]) Q E ⟨hp, gs, dr, tk, os⟩ := by
  have F := PySem.F.objNew
  refine wpAny_call ?_
  refine codeAny_call_builtin_code (Code.quiet_builtin _ F.quiet) ?_
  simp only [checkBuiltinCall, F.kind, F.split, F.row]
  obtain ⟨oc, od, cd, sl, hC, e1, e2, e4⟩ := cls_at w
  have hC := X _ _ hC
  have typ : Looks (model prog w) hp (isInstance (.ref aC) (.type "type")) true := looks_instIn X (by kernel_rfl)
  have top : Looks (model prog w) hp (isSubtype (.ref aC) (.type "object")) true := looks_subIn X (by kernel_rfl)
  have here : Looks (model prog w) hp (Bind.madeHere "object.__new__" (.ref aC)) () := Looks.of_peek X (by kernel_rfl)
  have base : Looks (model prog w) hp (Bind.staticBase (.ref aC)) (.type "object") := Looks.of_peek X (by kernel_rfl)
  have made : Looks (model prog w) hp (Bind.madeBy (.ref aC)) none := Looks.of_peek X (by kernel_rfl)
  have made2 : Looks (model prog w) hp (Bind.madeBy (.type "object")) (some "object.__new__") := Looks.of_peek X (by kernel_rfl)
  have args : Bind.checkArgs "object.__new__" ⟨.hand, "object.__new__", "__new__", .cls, []⟩ ⟨[.ref aC], []⟩ = pure () := by kernel_rfl
  rw [args]
  repeat (first | simp only [bne_self_eq_false, Bool.false_eq_true, if_false] | lk)
  refine codeAny_builtin F.entry ?_
  unfold Builtin.«object.__new__»
  have fin : ∀ A', wpAny (model prog w) A' (do
      let d ← if typeHasDict (.ref aC) then some <$> alloc { cls := .type "dict", data := .dict #[] } else pure none
      ret (← newObj (.ref aC) .plain d)) (fun fin s' => match fin with | .done f => (match (Except.ok f : Result) with | .ok (.ret v) => Q v s' | .ok _ => False | .error e => E e s') | .again c' => c'.quiet = true ∧ codeAny (model prog w) A c' (fun r s' => match r with | .ok (.ret v) => Q v s' | .ok _ => False | .error e => E e s') s') (fun e s' => E e s') ⟨hp, gs, dr, tk, os⟩ := by
    intro A'
    show wpAny _ _ ((alloc emptyDict >>= fun x => pure (some x)) >>= _) _ _ _
    refine wpAny_bind (wpAny_bind (wpAny_alloc (wpAny_pure (wpAny_bind ?_))))
    show wpAny _ _ (newObjAsIs _ _ _) _ _ _
    unfold newObjAsIs classHasDel
    refine wpAny_bind (wpAny_alloc (wpAny_bind (wpAny_bind (wpAny_load (Heap.get?_push_of_some _ (Heap.get?_push_of_some _ hC)) (wpAny_pure ?_)))))
    rw [e2]
    refine wpAny_pure (wpAny_pure ?_)
    dsimp only
    rw [Heap.size_push]
    exact hq
  repeat (first | simp only [e1, Bool.false_eq_true, if_false] | exact fin _ | lk)

abbrev SO : Obj := { cls := .type "super", dict := none, data := .fields #[.ref aC, .ref aC, .ref aC], slots := #[] }
theorem super_call {Q : Value → Shared → Prop} (X : (KK w).In hp) (hq : ∀ h', h'.get? hp.objs.size = some SO → Ext hp h' → Q (.ref hp.objs.size) ⟨h', gs, dr, tk, os⟩) :
    wpAny (model prog w) A (call (.type "super") [.ref aC, .ref aC]) Q E ⟨hp, gs, dr, tk, os⟩ := by
  obtain ⟨oc, od, cd, sl, hC, e1, e2, e4⟩ := cls_at w
  have hD := X _ _ hC
  have hsub : Looks (model prog w) hp (isSubtype (.ref aC) (.ref aC)) true := looks_subIn X (by kernel_rfl)
  refine ks_callType_codesW (Q₁ := fun obj s₁ => obj = .ref hp.objs.size ∧ s₁ = ⟨hp.push { cls := .type "super", data := .fields #[.none, .none, .none] }, gs, dr, tk, os⟩) F.ks_called_super (ks_wpAny_checkTypeCall_super hD rfl) F.ks_entry_super_init
    (ks_code_super_new _ _ ⟨rfl, rfl⟩) fun obj s₁ h₁ => ?_
  obtain ⟨rfl, rfl⟩ := h₁
  have up : Ext hp (hp.push { cls := .type "super", data := .fields #[.none, .none, .none] }) := .of_push _
  have hso : (hp.push { cls := .type "super", data := .fields #[.none, .none, .none] }).get? hp.objs.size = some { cls := .type "super", dict := none, data := .fields #[.none, .none, .none], slots := #[] } := Heap.get?_push_at rfl rfl
  have hD' := up _ _ hD
  have hsub' := hsub.keeps up
  refine ⟨⟨_, hso, rfl⟩, F.ks_initArgs_super _ _ _, ?_⟩
  unfold Builtin.«super.__init__» noKeywords
  repeat (first | (with_reducible refine ks_wpAny_isType_cls hD' rfl ?_) | (with_reducible refine Looks.at hsub' ?_) | (with_reducible refine ks_wpAny_super_set3 hso ?_) | wp_step)
  all_goals (intro h' e k; exact ⟨rfl, hq h' e fun y o ey => k y o (Nat.ne_of_lt (Heap.lt_size ey)) (up y o ey)⟩)


theorem super_ga {C so : Addr} {K : Frag} {name : Str} {t' : Tok} {vf : Value} {l₀ l : List Value} {Q : Fin → Shared → Prop} (X : K.In hp)
    (hso : hp.get? so = some { cls := .type "super", dict := none, data := .fields #[.ref C, .ref C, .ref C], slots := #[] }) (hno : Looks (model prog w) hp (opaqueClassAbove (.ref C)) none)
    (hC : Looks (model prog w) hp (mroOf (.ref C)) l₀) (hl : (l₀.dropWhile (· != .ref C)).drop 1 = l) (hf : alongIn K name l = some (some vf)) (hty : typeOf vf = pure (.type "builtin_function_or_method")) (hhd : handedOut vf = pure vf) (hn : (name == ("__class__" : Str)) = false)
    (hq : Q (.done (.ret vf)) ⟨hp, gs, dr, tk, os⟩) :
    wpAny (model prog w) A (Builtin.«super.__getattribute__» ⟨[.ref so, .str name t'], []⟩) Q E ⟨hp, gs, dr, tk, os⟩ := by
  have hget : typeLookup (.type "builtin_function_or_method") "__get__" = pure none := by rw [typeLookup_type, builtinLookup_eq_fast]; kernel_rfl
  have hdt : ({ cls := .type "super", dict := none, data := .fields #[.ref C, .ref C, .ref C], slots := #[] } : Obj).data = .fields #[.ref C, .ref C, .ref C] := rfl
  have f0 : (#[.ref C, .ref C, .ref C] : Array Value)[0]? = some (.ref C) := rfl
  have f1 : (#[.ref C, .ref C, .ref C] : Array Value)[1]? = some (.ref C) := rfl
  have f2 : (#[.ref C, .ref C, .ref C] : Array Value)[2]? = some (.ref C) := rfl
  unfold Builtin.«super.__getattribute__»
  repeat (first
    | (with_reducible refine wpAny_field hso hdt f0 ?_) | (with_reducible refine wpAny_field hso hdt f1 ?_) | (with_reducible refine wpAny_field hso hdt f2 ?_)
    | (with_reducible refine ks_wpAny_notOpaque hno ?_)
    | (with_reducible refine Looks.at hC ?_; rw [hl])
    | ((with_reducible show wpAny _ _ (forIn _ _ _) _ _ _); refine ks_forIn_along X (fun _ _ => rfl) rfl ?_ hf)
    | (with_reducible refine wpAny_of_eq hty ?_)
    | (with_reducible refine wpAny_of_eq hget ?_)
    | (with_reducible refine wpAny_of_eq hhd ?_)
    | (with_reducible refine ⟨_, rfl, ?_⟩)
    | (simp only [hn, Bool.or_false, Bool.false_eq_true, if_false])
    | wp_step
    | dsimp only)
  all_goals exact hq

theorem super_new {so : Addr} {pl : Sem Bool} {Q : Value × List Value → Shared → Prop} (X : (KK w).In hp) (hso : hp.get? so = some SO) (hq : Q (.builtin "object.__new__", []) ⟨hp, gs, dr, tk + 1, os⟩) :
    wpAny (model prog w) A (getMethod (.ref so) (Str.ofString "__new__") pl) Q E ⟨hp, gs, dr, tk, os⟩ := by
  have hlk := F.ks_slot_super_ga.lookup
  have hcan := F.ks_canon_super_ga
  have hT : ∀ t', (⟨hp, gs, dr, t', os⟩ : Shared).TypeIs (.ref so) "super" := fun _ => ⟨_, hso, rfl⟩
  unfold getMethod
  refine wpAny_bind (wpAny_specialOf (hT _) hlk ?_)
  show wpAny _ _ (if (Manifest.canonical "super.__getattribute__" != "object.__getattribute__") = true then _ else _) _ _ _
  rw [if_pos hcan]
  unfold getAttr getAttrBy
  refine wpAny_bind (wpAny_bind (wpAny_mkText (wpAny_holding (wpAny_bind (wpAny_typeOf (hT _) (wpAny_bind (wpAny_of_eq hlk ?_)))))))
  show wpAny _ _ (getAttrByItsOwn (.ref so) (.str (Str.ofString "__new__") tk) (.type "super") (.builtin "super.__getattribute__") true false) _ _ _
  unfold getAttrByItsOwn hookBefore callGetattribute boundAndCalled
  refine wpAny_bind (wpAny_of_eq (show (if onTheHeap (.type "super") then typeLookup (.type "super") "__getattr__" else pure none) = pure none from rfl) ?_)
  refine wpAny_bind (wpAny_attempt (wpAny_holding ?_))
  show wpAny _ _ (bindSpecial (.builtin "super.__getattribute__") (.ref so) >>= _) _ _ _
  refine wpAny_bind (wpAny_of_eq (F.ks_slot_super_ga.bind _) ?_)
  refine wpAny_mono (Q := fun v s' => v = .builtin "object.__new__" ∧ s' = ⟨hp, gs, dr, tk + 1, os⟩) (E := fun _ _ => False)
    (wpAny_call_entry F.ks_slot_super_ga (hT _) F.ks_entry_super_ga (super_ga (l := [.type "object"]) X hso (Looks.of_peek X (by kernel_rfl)) (Looks.of_peek X (r := [.ref aC, .type "object"]) (by kernel_rfl)) (by decide) (by kernel_rfl) (by show builtinType _ = _; rw [builtinType_eq_fast]; kernel_rfl) (handedOut_of (by decide +kernel)) (by decide) ⟨_, rfl, rfl, rfl⟩) (F.ks_gaArgs_super _ _)) (fun v s' hv => ?_) fun _ _ z => z.elim
  obtain ⟨rfl, rfl⟩ := hv
  exact wpAny_pure (wpAny_pure hq)
end
section
variable {prog : Program} {w : World} {A : Around} {E : Value → Shared → Prop} {hp : Heap} {gs : Array GenState} {dr : Drawn} {tk : Nat} {os : OsState} {mg mb : Str → Option Value}
set_option maxHeartbeats 4000000 in
theorem new_spec {Q : Value → Shared → Prop} {n sh : Int} {root tail : Addr} {t1 t2 : Tok} {zs : List Value} {tn : Nat} (T : Tp (KK w) mg mb hp) (ht : hp.get? tail = some (LO zs tn)) (hz : zs.length ≤ 1000000) (hroom : A.depth < 800)
    (h : ∀ x dx h' tk t3, Ext hp h' → hp.get? x = none → hp.get? dx = none → x ≠ dx → h'.get? dx = some emptyDict → h'.get? x = some (VO dx n root sh tail (n - zs.length) t1 t2 t3) → Q (.ref x) ⟨h', gs, dr, tk, os⟩) :
    wpAny (model prog w) A (call (.ref m_dunder_new) [.ref aC, .int n t1, .int sh t2, .ref root, .ref tail]) Q E ⟨hp, gs, dr, tk, os⟩ := by
  refine wpAny_call ?_
  refine call_fx [] (binds := [(Str.ofString "cls", .ref aC), (Str.ofString "count", .int n t1), (Str.ofString "shift", .int sh t2), (Str.ofString "root", .ref root), (Str.ofString "tail", .ref tail)]) (by walk_at "room") (T.X _ _ (lk m_dunder_new (by kernel_rfl))) (by with_unfolding_all rfl) T.nolimit (codeRec_of T.X (by kernel_rfl)) (BindsTo.of_eq (by with_unfolding_all rfl)) (locs (by with_unfolding_all rfl)) (fun _ q => nomatch q) List.nodup_nil ?_ (by decide +kernel)
  intro L h₁ tk F
  have F : Fx hp L h₁ _ [] := F
  walk_at "r"
  refine super_call (T.up F.keep).X ?_
  intro h₂ hso e₂
  have F := F.ext e₂
  refine super_new (T.up F.keep).X hso ?_
  walk_at "r"
  refine obj_new (T.up F.keep).X ?_
  have F := (F.push emptyDict).push (IO h₂.objs.size [])
  rw [Heap.size_push] at F
  obtain ⟨b', eb, F', kb, _⟩ := F.freeze1
  have hdx : b'.get? h₂.objs.size = some emptyDict := kb (h₂.objs.size, emptyDict) (by simp)
  have hxn : hp.get? (h₂.objs.size + 1) = none := F.out _ (.head _)
  have hdn : hp.get? h₂.objs.size = none := F.out (h₂.objs.size, emptyDict) (by simp)
  have hne : h₂.objs.size + 1 ≠ h₂.objs.size := Nat.succ_ne_self _
  clear F
  have F := F'; clear F'
  have T := T.up eb
  generalize h₂.objs.size + 1 = x at *
  generalize h₂.objs.size = dx at *
  walk_at "r"
  refine sa_count F (T.up F.keep).X (F.keep _ _ hdx) ?_
  clear F; intro hq F
  walk_at "r"
  refine sa_shift F (T.up F.keep).X (F.keep _ _ hdx) ?_
  clear F; intro hq F
  walk_at "r"
  refine sa_root F (T.up F.keep).X (F.keep _ _ hdx) ?_
  clear F; intro hq F
  walk_at "r"
  refine sa_tail F (T.up F.keep).X (F.keep _ _ hdx) ?_
  clear F; intro hq F
  walk_at "r"
  refine lc_len (F.keep _ _ (eb _ _ ht)) hz ?_
  intro t4 tk4
  walk_at "r"
  refine sa_tail_offset F (T.up F.keep).X (F.keep _ _ hdx) ?_
  clear F; intro hq F
  walk_at "r"
  have hfin := F.head
  exact h x dx _ _ _ (eb.trans F.keep) hxn hdn hne (F.keep _ _ hdx) hfin
end
section
variable {prog : Program} {w : World} {A : Around} {E : Value → Shared → Prop} {hp : Heap} {gs : Array GenState} {dr : Drawn} {tk : Nat} {os : OsState} {mg mb : Str → Option Value}
theorem init_call {x dx : Addr} {sl : List (Option Value)} {rest : List Value} {Q : Value → Shared → Prop} (X : (KK w).In hp) (hx : hp.get? x = some (IO dx sl)) (hdx : hp.get? dx = some emptyDict) (hargs : argsOk "object.__init__" ⟨.ref x :: rest, []⟩) (h : Q .none ⟨hp, gs, dr, tk, os⟩) :
    wpAny (model prog w) A (call (.builtin "object.__init__") (.ref x :: rest)) Q E ⟨hp, gs, dr, tk, os⟩ := by
  have I := inst_of hx hdx
  have L0 := I.type (M := model prog w)
  have t2 : Looks (model prog w) hp (isInstance (.ref x) (.type "object")) true := L0.andThen (looks_subIn X (by kernel_rfl))
  have made : Looks (model prog w) hp (Bind.madeBy (.ref aC)) none := Looks.of_peek X (by kernel_rfl)
  have li : Looks (model prog w) hp (typeLookup (.ref aC) "__init__") (some (.builtin "object.__init__")) := looks_findIn X (by kernel_rfl)
  refine wpAny_call ?_
  refine codeAny_call_builtin oi_plain entry_oi (@check_slot (model prog w) _ _ _ "object.__init__" "object" "__init__" (.ref x) rest [] _ oi_kind oi_split t2 hargs ?_)
  unfold Builtin.«object.__init__»
  cases rest with
  | nil => exact wpAny_pure h
  | cons a r =>
    repeat (first | simp only [bne_self_eq_false, Bool.false_eq_true, if_false] | lk)
    exact h

theorem ga_new {expr : Bool} {Q : Value → Shared → Prop} (X : (KK w).In hp) (h : Q (.ref m_dunder_new) ⟨hp, gs, dr, tk + 1, os⟩) : wpAny (model prog w) A (getAttr (.ref aC) (Str.ofString "__new__") expr) Q E ⟨hp, gs, dr, tk, os⟩ :=
  cls_bind (mc := .type "type") X (by kernel_rfl) (g := .builtin "staticmethod.__get__") (a := .ref sm_new) (obj := .none) (tp := .ref aC) (by kernel_rfl) (wpAny_call (sm_get (s := ⟨hp, gs, dr, tk + 1, os⟩) (f := .ref m_dunder_new) (rest := []) X (by kernel_rfl) (handed_on rfl h)))
theorem make_spec {Q : Value → Shared → Prop} {n sh : Int} {root tail : Addr} {t1 t2 : Tok} {zs : List Value} {tn : Nat} (T : Tp (KK w) mg mb hp) (ht : hp.get? tail = some (LO zs tn)) (hz : zs.length ≤ 1000000) (hroom : A.depth < 700)
    (h : ∀ x dx h' tk t3, Ext hp h' → hp.get? x = none → hp.get? dx = none → x ≠ dx → h'.get? dx = some emptyDict → h'.get? x = some (VO dx n root sh tail (n - zs.length) t1 t2 t3) → Q (.ref x) ⟨h', gs, dr, tk, os⟩) :
    wpAny (model prog w) A (call (.ref aC) [.int n t1, .int sh t2, .ref root, .ref tail]) Q E ⟨hp, gs, dr, tk, os⟩ := by
  obtain ⟨oc, od, cd, sl, hC, e1, e2, e4⟩ := cls_at w
  have hC := T.X _ _ hC
  have call : Looks (model prog w) hp (specialOf (.ref aC) "__call__") (some (.builtin "type.__call__")) := looks_specialIn T.X (by kernel_rfl)
  have typ : Looks (model prog w) hp (isInstance (.ref aC) (.type "type")) true := looks_instIn T.X (by kernel_rfl)
  have made : Looks (model prog w) hp (Bind.madeBy (.ref aC)) none := Looks.of_peek T.X (by kernel_rfl)
  refine wpAny_call ?_
  refine codeAny_of_tree ?_
  show wpAny _ _ (callAny (.ref aC) _) _ _ _
  refine nd_load hC ?_
  show wpAny _ _ (callAny.viaDunder (.ref aC) _) _ _ _
  unfold callAny.viaDunder
  refine wpAny_bind (call.at ?_)
  dsimp only
  rw [tc_bind]
  refine wpAny_bind (wpAny_pure (wpAny_bind (wpAny_pure ?_)))
  refine wpAny_pure (a := Fin.again (.call (.builtin "type.__call__") ⟨.ref aC :: [.int n t1, .int sh t2, .ref root, .ref tail], []⟩)) (And.intro rfl ?_)
  refine codeAny_call_builtin_at (Code.quiet_builtin _ (by decide +kernel)) entry_typeCall (check_slot tc_kind tc_split typ (tc_args _ _ _) ?_)
  unfold Builtin.«type.__call__»
  have hm : Looks (model prog w) hp (mroOf (.ref aC)) cd.mro := ((Looks.ld (part := none) hC).andThen .now).andThen .now
  repeat (first | (with_reducible refine ga_new T.X ?_) | (with_reducible refine new_spec T ht hz ?_ ?_) | simp only [e4, Bool.false_eq_true, if_false] | lk)
  · rw [depth_under_make]; omega
  intro x dx h' tk' t3 eh hxn hdn hne hdx hx
  have I := inst_of hx hdx
  have X' := T.X.keeps eh
  have L0 := I.type (M := model prog w)
  have s1 : Looks (model prog w) h' (isSubtype (.ref aC) (.ref aC)) true := looks_subIn X' (by kernel_rfl)
  have i1 : Looks (model prog w) h' (typeLookup (.ref aC) "__init__") (some (.builtin "object.__init__")) := looks_findIn X' (by kernel_rfl)
  have b1 : Looks (model prog w) h' (bindSpecial (.builtin "object.__init__") (.ref x)) (.builtin "object.__init__", [.ref x]) := Looks.of_pure (oi_bind _)
  unfold isInstance callSpecial? specialOf
  repeat (first | ((with_reducible show wpAny _ _ (PySem.call _ _ _) _ _ _); refine init_call X' hx hdx (rest := [.int n t1, .int sh t2, .ref root, .ref tail]) ?_ ?_) | simp only [bne_self_eq_false, Bool.not_true, Bool.false_eq_true, if_false] | lk)
  · unfold argsOk; kernel_rfl
  · refine wpAny_pure ?_
    exact wpAny_pure (h x dx h' _ t3 eh hxn hdn hne hdx hx)
end
/-- the i-th stretch of B -/
def chunk {α : Type} (B : Nat) (ls : List α) (i : Nat) : List α := (ls.drop (i * B)).take B
section
variable {α : Type} {B : Nat} {ls : List α} {i j q : Nat} {t : α}
theorem chunk_len : (chunk B ls i).length = min B (ls.length - i * B) := by simp [chunk]
theorem chunk_snoc_lt (h : (i + 1) * B ≤ ls.length) : chunk B (ls ++ [t]) i = chunk B ls i := by
  rw [Nat.succ_mul] at h
  unfold chunk
  rw [List.drop_append_of_le_length (by omega), List.take_append_of_le_length (by rw [List.length_drop]; omega)]
theorem chunk_snoc_eq (h1 : i * B ≤ ls.length) (h2 : ls.length < (i + 1) * B) : chunk B (ls ++ [t]) i = chunk B ls i ++ [t] := by
  rw [Nat.succ_mul] at h2
  unfold chunk
  rw [List.drop_append_of_le_length h1, List.take_append, List.take_of_length_le (l := ls.drop (i * B)) (by rw [List.length_drop]; omega)]
  congr 1
  rw [List.take_of_length_le]
  simp only [List.length_drop, List.length_cons, List.length_nil]
  omega
theorem chunk_get (hB : 0 < B) : (chunk B ls (q / B))[q % B]? = ls[q]? := by
  unfold chunk
  rw [List.getElem?_take_of_lt (Nat.mod_lt _ hB), List.getElem?_drop]
  congr 1
  rw [Nat.mul_comm]
  exact Nat.div_add_mod q B
theorem chunk_set_same (hB : 0 < B) : chunk B (ls.set q t) (q / B) = (chunk B ls (q / B)).set (q % B) t := by
  have e := Nat.div_add_mod q B
  rw [Nat.mul_comm] at e
  unfold chunk
  apply List.ext_getElem?
  intro k
  by_cases hk : k < B
  · rw [List.getElem?_take_of_lt hk, List.getElem?_drop, List.getElem?_set, List.getElem?_set, List.getElem?_take_of_lt hk, List.getElem?_drop]
    by_cases z : q % B = k
    · rw [if_pos z, if_pos (by omega)]
      simp only [List.length_take, List.length_drop]
      by_cases y : q < ls.length
      · rw [if_pos y, if_pos (by omega)]
      · rw [if_neg y, if_neg (by omega)]
    · rw [if_neg z, if_neg (by omega)]
  · rw [List.getElem?_eq_none (by simp; (clear hB e; omega)), List.getElem?_eq_none (by simp; (clear hB e; omega))]
theorem chunk_set_other (hB : 0 < B) (h : i ≠ q / B) : chunk B (ls.set q t) i = chunk B ls i := by
  have e := Nat.div_add_mod q B
  have hm := Nat.mod_lt q hB
  rw [Nat.mul_comm] at e
  unfold chunk
  apply List.ext_getElem?
  intro k
  by_cases hk : k < B
  · rw [List.getElem?_take_of_lt hk, List.getElem?_drop, List.getElem?_set, List.getElem?_take_of_lt hk, List.getElem?_drop]
    rw [if_neg]
    intro z
    apply h
    have : q / B = i := by
      rw [z, Nat.mul_comm, Nat.mul_add_div hB, Nat.div_eq_of_lt hk]; rfl
    exact this.symm
  · rw [List.getElem?_eq_none (by simp; (clear hB h e hm; omega)), List.getElem?_eq_none (by simp; (clear hB h e hm; omega))]
theorem chunk_one (h : ls.length ≤ B) : chunk B ls 0 = ls := by
  unfold chunk; rw [Nat.zero_mul, List.drop_zero, List.take_of_length_le h]
end
/-- a tree of the depth k + 1 over its leaves' addresses, filled from the left -/
def Tr (h : Heap) : Nat → Addr → List Value → Prop
  | 0, a, ls => ∃ n, h.get? a = some (LO ls n)
  | k + 1, a, ls => ∃ n, ∃ cs : List Addr, h.get? a = some (LO (cs.map Value.ref) n) ∧ ls.length ≤ cs.length * 32 ^ (k + 1) ∧ (∀ i, i < cs.length → i * 32 ^ (k + 1) < ls.length) ∧ ∀ (i : Nat) c, cs[i]? = some c → Tr h k c (chunk (32 ^ (k + 1)) ls i)
theorem Tr.up {h h' : Heap} (e : Ext h h') : ∀ {k : Nat} {a : Addr} {ls : List Value}, Tr h k a ls → Tr h' k a ls
  | 0, _, _, ⟨n, g⟩ => ⟨n, e _ _ g⟩
  | _ + 1, _, _, ⟨n, cs, g, h1, h2, h3⟩ => ⟨n, cs, e _ _ g, h1, h2, fun i c hc => (h3 i c hc).up e⟩
theorem p32 (k : Nat) : 0 < 32 ^ k := Nat.pow_pos (by decide)
/-- how many children there are -/
theorem kids_eq {B L n : Nat} (hB : 0 < B) (h1 : L ≤ n * B) (h2 : ∀ i, i < n → i * B < L) : (L % B = 0 → n = L / B) ∧ (L % B ≠ 0 → n = L / B + 1) := by
  have e := Nat.div_add_mod L B
  have hm := Nat.mod_lt L hB
  rw [Nat.mul_comm] at e
  constructor
  · intro z
    have a : L / B ≤ n := by
      by_cases q : L / B ≤ n
      · exact q
      · have : (n + 1) * B ≤ L / B * B := Nat.mul_le_mul_right _ (by exact Nat.not_le.mp q)
        rw [Nat.succ_mul] at this; omega
    by_cases q : n ≤ L / B
    · (clear hB h1 e hm z; omega)
    · have := h2 (L / B) (by exact Nat.not_le.mp q); omega
  · intro z
    have a : L / B + 1 ≤ n := by
      by_cases q : L / B + 1 ≤ n
      · exact q
      · have : n * B ≤ L / B * B := Nat.mul_le_mul_right _ (by exact Nat.not_lt.mp q)
        omega
    by_cases q : n ≤ L / B + 1
    · (clear hB h1 e hm z; omega)
    · have := h2 (L / B + 1) (by exact Nat.not_le.mp q)
      rw [Nat.succ_mul] at this; omega
/-- one new leaf on a tree -/
theorem Tr.node {h : Heap} {k : Nat} {a : Addr} {ls : List Value} {t : Value} {cs : List Addr} {n : Nat} {c : Addr} (hk : ∀ (i : Nat) c', i < ls.length / 32 ^ (k + 1) → cs[i]? = some c' → Tr h k c' (chunk (32 ^ (k + 1)) ls i)) (hcl : ls.length / 32 ^ (k + 1) ≤ cs.length)
    (ga : h.get? a = some (LO ((cs.take (ls.length / 32 ^ (k + 1)) ++ [c]).map Value.ref) n)) (hc : Tr h k c (chunk (32 ^ (k + 1)) ls (ls.length / 32 ^ (k + 1)) ++ [t])) : Tr h (k + 1) a (ls ++ [t]) := by
  have hB := p32 (k + 1)
  have e := Nat.div_add_mod ls.length (32 ^ (k + 1))
  have hm := Nat.mod_lt ls.length hB
  generalize hBB : 32 ^ (k + 1) = B at *
  rw [Nat.mul_comm] at e
  have hlen : (cs.take (ls.length / B) ++ [c]).length = ls.length / B + 1 := by simp; (clear hBB ga hB e hm; omega)
  refine ⟨n, cs.take (ls.length / B) ++ [c], ga, ?_, fun i hi => ?_, fun i c' hc' => ?_⟩
  · rw [hlen, hBB, List.length_append, List.length_singleton, Nat.succ_mul]; (clear hBB hcl ga hB hlen; omega)
  · rw [hlen] at hi
    have : i * B ≤ ls.length / B * B := Nat.mul_le_mul_right _ (by (clear hBB hcl ga hB e hm hlen; omega))
    rw [hBB, List.length_append, List.length_singleton]; (clear hBB hcl ga hB hm hlen hi; omega)
  · rw [hBB]
    by_cases hi : i < ls.length / B
    · rw [List.getElem?_append_left (by simp; (clear hBB ga hB e hm hlen hc'; omega)), List.getElem?_take_of_lt hi] at hc'
      rw [chunk_snoc_lt (by have : (i + 1) * B ≤ ls.length / B * B := Nat.mul_le_mul_right _ hi; (clear hBB hcl ga hB hm hlen hc' hi; omega))]
      exact hk i c' hi hc'
    · have hi2 : i = ls.length / B := by
        have := (List.getElem?_eq_some_iff.mp hc').1
        rw [hlen] at this; (clear hBB hcl ga hB e hm hlen hc'; omega)
      subst hi2
      rw [List.getElem?_append_right (by simp; (clear hBB hcl ga hB e hm hlen hc' hi; omega))] at hc'
      have : c' = c := by
        have e2 : ls.length / B - (List.take (ls.length / B) cs).length = 0 := by simp; (clear hBB ga hB e hm hlen hc' hi; omega)
        rw [e2] at hc'; exact (Option.some.inj hc').symm
      subst this
      rw [chunk_snoc_eq (by (clear hBB hcl hB hm hi ga hlen hc'; omega)) (by rw [Nat.succ_mul]; (clear hBB hcl hB hi ga hlen hc'; omega))]
      exact hc
section
variable {prog : Program} {w : World} {A : Around} {E : Value → Shared → Prop} {hp : Heap} {gs : Array GenState} {dr : Drawn} {tk : Nat} {os : OsState} {b : Heap} {L l : Addr} {m : Str → Option Value} {own : List (Addr × Obj)} {items : List Value} {n : Nat}
/-- a list's item laid anew -/
theorem lc_set {Q : Unit → Shared → Prop} {k : Int} {t : Tok} {v : Value} (F : Fx b L hp m ((l, LO items n) :: own)) (h0 : 0 ≤ k) (hk : k < items.length) (hz : items.length ≤ 1000000)
    (h : ∀ h' n', Fx b L h' m ((l, LO (items.set k.toNat v) n') :: own) → Q () ⟨h', gs, dr, tk, os⟩) : wpAny (model prog w) A (setItem (.ref l) (.int k t) v) Q E ⟨hp, gs, dr, tk, os⟩ := by
  have ho := F.head
  have hT : (⟨hp, gs, dr, tk, os⟩ : Shared).TypeIs (.ref l) "list" := (isList_of ho).typeIs
  have hd : (LO items n).data = .seq items.toArray n := rfl
  have hk2 : k < 2 ^ 63 := by omega
  unfold setItem
  refine wpAny_holding (wpAny_bind (wpAny_sequenceKey hT (by decide) ?_))
  refine wpAny_bind (wpAny_callSpecial?_slot (name := Str.ofString "__setitem__") hT slot_list_setitem (wpAny_call_entry slot_list_setitem hT entry_list_setitem ?_ (args_list_setitem _ _ _)))
  show wpAny _ _ (Builtin.List.listSubscript? (.int k t) >>= _) _ _ _
  refine wpAny_bind (wpAny_listSubscript_int (fitsIndex_of h0 hk2) ?_)
  clear hk2
  obtain ⟨j, rfl⟩ := Int.eq_ofNat_of_zero_le h0
  have hj : j < items.length := by exact Int.ofNat_lt.mp hk
  have hx : items.toArray[j]? = some items[j] := by simp [hj]
  show wpAny _ _ ((seqItemAt l j >>= fun r => pure (r.map (j, ·))) >>= _) _ _ _
  refine wpAny_bind (wpAny_bind (wpAny_seqItemAt ho hd (wpAny_pure ?_)))
  rw [hx]
  show wpAny _ _ (setSeqItemAt l j v >>= _) _ _ _
  refine wpAny_bind (wpAny_setSeqItemAt ho hd ?_)
  have F' := F.upd (Obj.mapSeq (·.setIfInBounds j v))
  obtain ⟨n', e⟩ : ∃ n', Obj.mapSeq (·.setIfInBounds j v) (LO items n) = LO (items.set j v) n' := ⟨_, by simp [Obj.mapSeq]; rfl⟩
  rw [e] at F'
  exact wpAny_bind (wpAny_pure (wpAny_pure ⟨.none, rfl, wpAny_pure (h _ n' F')⟩))
end
/-- g grew to g' while h grew to h': what is in g' and not in g is new -/
structure Gr (g h g' h' : Heap) : Prop where
  e : Ext h h'
  up : Ext g g'
  sub : Ext g' h'
  new : ∀ c o, g'.get? c = some o → g.get? c = some o ∨ h.get? c = none
theorem Gr.rfl' {g h : Heap} (s : Ext g h) : Gr g h g h := ⟨.rfl', .rfl', s, fun _ _ e => .inl e⟩
theorem Gr.ext {g h g' h' h'' : Heap} (a : Gr g h g' h') (e : Ext h' h'') : Gr g h g' h'' := ⟨a.e.trans e, a.up, a.sub.trans e, a.new⟩
/-- one more object -/
theorem add_obj {g h : Heap} {D : Addr} {o : Obj} (s : Ext g h) (hD : h.get? D = some o) : ∃ g', Ext g g' ∧ Ext g' h ∧ g'.get? D = some o ∧ ∀ c oc, g'.get? c = some oc → g.get? c = some oc ∨ c = D := by
  refine ⟨hideAll h ((List.range h.objs.size).filter fun a => !((g.get? a).isSome || a == D)), fun c oc e => hideAll_get _ (s c oc e) (fun q => ?_), fun c oc e => of_hideAll _ e, hideAll_get _ hD (fun q => ?_), fun c oc e => ?_⟩
  · have := (List.mem_filter.mp q).2
    rw [e] at this
    simp at this
  · have := (List.mem_filter.mp q).2
    simp at this
  · have hc := of_hideAll _ e
    by_cases z : c = D
    · exact .inr z
    · cases y : g.get? c with
      | some o' =>
        rw [s c o' y] at hc
        exact .inl hc
      | none =>
        have : (hideAll h ((List.range h.objs.size).filter fun a => !((g.get? a).isSome || a == D))).get? c = none := hideAll_none _ (List.mem_filter.mpr ⟨List.mem_range.mpr (Heap.lt_size hc), by simp [y, z]⟩)
        rw [this] at e; cases e
theorem Gr.add {g h g' h' : Heap} {D : Addr} {o : Obj} (a : Gr g h g' h') (hD : h'.get? D = some o) (hn : h.get? D = none) : ∃ g'', Gr g h g'' h' ∧ g''.get? D = some o ∧ Ext g' g'' := by
  obtain ⟨g'', q1, q2, q3, q4⟩ := add_obj a.sub hD
  refine ⟨g'', ⟨a.e, a.up.trans q1, q2, fun c oc e => ?_⟩, q3, q1⟩
  rcases q4 c oc e with z | rfl
  · exact a.new c oc z
  · exact .inr hn
/-- a frame over a call that let g grow -/
theorem Fx.grow {b h h' g g' : Heap} {L : Addr} {m : Str → Option Value} {own : List (Addr × Obj)} (F : Fx b L h m own) (a : Gr g h g' h') (s : Ext g b) : ∃ b', Ext b b' ∧ Fx b' L h' m own ∧ Ext g' b' := by
  obtain ⟨b', e, F', k, _⟩ := (F.ext a.e).freeze own (List.Sublist.refl _)
  refine ⟨b', e, F', fun c oc q => k c oc (fun z => ?_) (fun z => ?_) (a.sub c oc q)⟩
  · subst z
    rcases a.new c oc q with y | y
    · have := s _ _ y; rw [F.lout] at this; cases this
    · obtain ⟨oL, _, _, hL, _⟩ := F.ns; rw [y] at hL; cases hL
  · obtain ⟨p, hp, rfl⟩ := List.mem_map.mp z
    rcases a.new _ oc q with y | y
    · have := s _ _ y; rw [F.out p hp] at this; cases this
    · have := F.has p hp; rw [y] at this; cases this
theorem Gr.from' {g h₀ h g' h' : Heap} (a : Gr g h g' h') (e : Ext h₀ h) : Gr g h₀ g' h' :=
  ⟨e.trans a.e, a.up, a.sub, fun c o q => by
    rcases a.new c o q with z | z
    · exact .inl z
    · exact .inr (e.none z)⟩
section
variable {prog : Program} {w : World} {mg mb : Str → Option Value} {x dx : Addr} {sl : List (Option Value)}
/-- a row of rows around a leaf -/
def Path (h : Heap) (v : Value) : Nat → Value → Prop
  | 0, r => r = v
  | k + 1, r => ∃ D, r = .ref D ∧ Tr h k D [v]
set_option maxHeartbeats 4000000 in
theorem new_path_spec : ∀ (j : Nat) {A : Around} {E : Value → Shared → Prop} {g hp : Heap} {gs : Array GenState} {dr : Drawn} {tk : Nat} {os : OsState} {Q : Value → Shared → Prop} {v : Value} {t : Tok} {sh : Int} (T : Tp (KK w) mg mb hp) (he : Ext g hp) (hx : hp.get? x = some (IO dx sl)) (hdx : hp.get? dx = some emptyDict) (hsh : sh = 5 * j) (hroom : A.depth + j < 850)
    (h : ∀ r h' tk g', Gr g hp g' h' → Path g' v j r → Q r ⟨h', gs, dr, tk, os⟩),
    wpAny (model prog w) A (call (.ref m_new_path) [.ref x, .int sh t, v]) Q E ⟨hp, gs, dr, tk, os⟩ := by
  intro j
  induction j with
  | zero =>
    intro A E g hp gs dr tk os Q v t sh T he hx hdx hsh hroom h
    refine wpAny_call ?_
    refine call_fx [] (binds := [(Str.ofString "self", .ref x), (Str.ofString "level", .int sh t), (Str.ofString "node", v)]) (by walk_at "room") (T.X _ _ (lk m_new_path (by kernel_rfl))) (by with_unfolding_all rfl) T.nolimit (codeRec_of T.X (by kernel_rfl)) (BindsTo.of_eq (by with_unfolding_all rfl)) (locs (by with_unfolding_all rfl)) (fun _ q => nomatch q) List.nodup_nil ?_ (by decide +kernel)
    intro L h₁ tk F
    replace F : Fx hp L h₁ _ [] := F
    subst hsh
    walk_at "r"
    rw [if_pos (by decide)]
    walk_at "r"
    exact h v _ _ g ((Gr.rfl' he).ext F.keep) rfl
  | succ j ih =>
    intro A E g hp gs dr tk os Q v t sh T he hx hdx hsh hroom h
    refine wpAny_call ?_
    refine call_fx [] (binds := [(Str.ofString "self", .ref x), (Str.ofString "level", .int sh t), (Str.ofString "node", v)]) (by walk_at "room") (T.X _ _ (lk m_new_path (by kernel_rfl))) (by with_unfolding_all rfl) T.nolimit (codeRec_of T.X (by kernel_rfl)) (BindsTo.of_eq (by with_unfolding_all rfl)) (locs (by with_unfolding_all rfl)) (fun _ q => nomatch q) List.nodup_nil ?_ (by decide +kernel)
    intro L h₁ tk F
    replace F : Fx hp L h₁ _ [] := F
    walk_at "r"
    rw [if_neg (by subst hsh; simp; omega)]
    walk_at "r"
    refine gm_new_path (T.up F.keep).X (F.keep _ _ hx) (F.keep _ _ hdx) ?_
    refine cw_fn T (by kernel_rfl) ?_
    walk_at "r"
    refine ⟨F.keep, ?_⟩
    have e1 := F.keep
    refine ih (g := g) (T.up F.keep) (he.trans F.keep) (F.keep _ _ hx) (F.keep _ _ hdx) (by subst hsh; push_cast; omega) (by walk_at "room") ?_
    intro r h2 tk2 g2 G hr
    obtain ⟨b2, e2, F2, s2⟩ := F.grow G he
    clear F; have F := F2; clear F2
    walk_at "r"
    refine nl F ?_ (by simp)
    clear F; intro D h3 F e3
    walk_at "r"
    have G1 : Gr g hp g2 h3 := ⟨e2.trans F.keep, G.up, s2.trans F.keep, (G.from' e1).new⟩
    obtain ⟨g3, G3, gD, e4⟩ := G1.add F.head (e2.none (F.out _ (.head _)))
    refine h (.ref D) _ _ g3 G3 ⟨D, rfl, ?_⟩
    cases j with
    | zero =>
      have hr : r = v := hr
      subst hr
      exact ⟨0, gD⟩
    | succ k =>
      obtain ⟨D', rfl, hT⟩ := hr
      refine ⟨0, [D'], gD, by have := p32 (k + 1); simp; exact this, fun i hi => by simp at hi; subst hi; simp, fun i c hc => ?_⟩
      match i, hc with
      | 0, hc =>
        cases hc
        rw [chunk_one (by have := p32 (k + 1); simp; exact this)]
        exact hT.up e4
      | i + 1, hc => cases hc
theorem set_last {α : Type} {l : List α} {n : Nat} {d : α} (h : l.length = n + 1) : l.set n d = l.take n ++ [d] := by
  rw [List.set_eq_take_append_cons_drop, if_pos (by exact Nat.le_of_eq h.symm), List.drop_of_length_le (by exact Nat.le_of_eq h)]
theorem sub_at5 {Lt B L : Nat} (hB : 0 < B) (hmod : Lt % (B * 32) = L) : (Lt / B) % 32 = L / B ∧ Lt % B = L % B := by
  have e := Nat.mod_mul (x := Lt) (a := B) (b := 32)
  have hm := Nat.mod_lt Lt hB
  rw [hmod] at e
  constructor
  · rw [e, Nat.add_mul_div_left _ _ hB, Nat.div_eq_of_lt hm, Nat.zero_add]
  · rw [e, Nat.add_mul_mod_self_left, Nat.mod_mod]
theorem sh_sub {k Lt : Nat} : Builtin.bitAnd ((32 * ((Lt : Int) + 1) - 1).fdiv (2 ^ (5 * ((k : Int) + 1 + 1)).toNat)) 31 = ((Lt / 32 ^ (k + 1) % 32 : Nat) : Int) := by
  rw [bitAnd_m5]
  have e1 : (5 * ((k : Int) + 1 + 1)).toNat = 5 * (k + 2) := by exact rfl
  have e2 : (2 : Int) ^ (5 * (k + 2)) = ((32 * 32 ^ (k + 1) : Nat) : Int) := by
    rw [Int.pow_mul]
    rw [show (2 : Int) ^ 5 = ((32 : Nat) : Int) from rfl, ← Int.natCast_pow, Nat.pow_succ, Nat.mul_comm]
  rw [e1, e2, Int.fdiv_eq_ediv_of_nonneg _ (Int.natCast_nonneg _), show (32 * ((Lt : Int) + 1) - 1) = ((32 * Lt + 31 : Nat) : Int) by (clear e1 e2; omega), ← Int.natCast_ediv, ← Nat.div_div_eq_div_mul, show (32 * Lt + 31) / 32 = Lt by (clear e1 e2; omega)]
  rfl
set_option maxHeartbeats 8000000 in
theorem push_spec : ∀ (k : Nat) {A : Around} {E : Value → Shared → Prop} {g hp : Heap} {gs : Array GenState} {dr : Drawn} {tk : Nat} {os : OsState} {Q : Value → Shared → Prop} {a root tail : Addr} {ls : List Value} {vt : Value} {t t1 t2 t3 : Tok} {sh n sh0 toff : Int} {Lt : Nat} (T : Tp (KK w) mg mb hp) (he : Ext g hp)
    (hx : hp.get? x = some (VO dx n root sh0 tail toff t1 t2 t3)) (hdx : hp.get? dx = some emptyDict) (R : Tr g k a ls) (hsh : sh = 5 * ((k : Int) + 1)) (hn : n = 32 * ((Lt : Int) + 1)) (hmod : Lt % 32 ^ (k + 1) = ls.length) (hz : ls.length ≤ 100000) (hroom : A.depth + k < 800)
    (h : ∀ D h' tk g', Gr g hp g' h' → Tr g' k D (ls ++ [vt]) → Q (.ref D) ⟨h', gs, dr, tk, os⟩),
    wpAny (model prog w) A (call (.ref m_push_tail) [.ref x, .int sh t, .ref a, vt]) Q E ⟨hp, gs, dr, tk, os⟩ := by
  intro k
  induction k with
  | zero =>
    intro A E g hp gs dr tk os Q a root tail ls vt t t1 t2 t3 sh n sh0 toff Lt T he hx hdx R hsh hn hmod hz hroom h
    obtain ⟨na, ga⟩ := R
    have ga := he _ _ ga
    refine wpAny_call ?_
    refine call_fx [] (binds := [(Str.ofString "self", .ref x), (Str.ofString "level", .int sh t), (Str.ofString "parent", .ref a), (Str.ofString "tail_node", vt)]) (by walk_at "room") (T.X _ _ (lk m_push_tail (by kernel_rfl))) (by with_unfolding_all rfl) T.nolimit (codeRec_of T.X (by kernel_rfl)) (BindsTo.of_eq (by with_unfolding_all rfl)) (locs (by with_unfolding_all rfl)) (fun _ q => nomatch q) List.nodup_nil ?_ (by decide +kernel)
    intro L h₁ tk F
    replace F : Fx hp L h₁ _ [] := F
    subst hsh
    walk_at "r"
    refine lc_copy F (F.keep _ _ ga) (by omega) ?_
    clear F; intro D c hq F _
    walk_at "r"
    rw [if_pos (by decide)]
    walk_at "r"
    refine gm_list F.head PySem.F.slot_list_append PySem.F.type_list_append ?_
    walk_at "r"
    refine lc_append F (by omega) ?_
    clear F; intro hq n' F
    walk_at "r"
    obtain ⟨g3, G3, gD, _⟩ := ((Gr.rfl' he).ext F.keep).add F.head (F.out _ (.head _))
    exact h _ _ _ g3 G3 ⟨_, gD⟩
  | succ k ih =>
    intro A E g hp gs dr tk os Q a root tail ls vt t t1 t2 t3 sh n sh0 toff Lt T he hx hdx R hsh hn hmod hz hroom h
    obtain ⟨na, cs, ga, c1, c2, hk⟩ := R
    have ga := he _ _ ga
    have hB := p32 (k + 1)
    obtain ⟨s1, s2⟩ := sub_at5 (L := ls.length) hB (by rw [← Nat.pow_succ]; exact hmod)
    obtain ⟨k1, k2⟩ := kids_eq hB c1 c2
    have hcz : cs.length ≤ 100001 := by
      have : ls.length / 32 ^ (k + 1) ≤ ls.length := Nat.div_le_self _ _
      by_cases q : ls.length % 32 ^ (k + 1) = 0
      · have := k1 q; (clear hx hdx hsh hn hmod hz hroom c1 ga hB s2 q; omega)
      · have := k2 q; (clear hx hdx hsh hn hmod hz hroom c1 ga hB s2 q; omega)
    have hsubz : ls.length / 32 ^ (k + 1) ≤ 100000 := Nat.le_trans (Nat.div_le_self _ _) hz
    refine wpAny_call ?_
    refine call_fx [] (binds := [(Str.ofString "self", .ref x), (Str.ofString "level", .int sh t), (Str.ofString "parent", .ref a), (Str.ofString "tail_node", vt)]) (by walk_at "room") (T.X _ _ (lk m_push_tail (by kernel_rfl))) (by with_unfolding_all rfl) T.nolimit (codeRec_of T.X (by kernel_rfl)) (BindsTo.of_eq (by with_unfolding_all rfl)) (locs (by with_unfolding_all rfl)) (fun _ q => nomatch q) List.nodup_nil ?_ (by decide +kernel)
    intro L h₁ tk F
    replace F : Fx hp L h₁ _ [] := F
    walk_at "r"
    refine lc_copy F (F.keep _ _ ga) (by rw [List.length_map]; exact Nat.le_trans hcz (by decide)) ?_
    clear F; intro D c hq F _
    walk_at "r"
    rw [if_neg (by subst hsh; simp; (clear hx hdx hn hmod hz hroom c1 ga hB s1 s2 hcz hsubz; omega))]
    walk_at "r"
    refine x_rshift (by (clear hx hdx hn hmod hz hroom c1 ga hB s1 s2 hcz hsubz; omega)) ?_
    walk_at "r"
    refine lc_len (F.keep _ _ ga) (by rw [List.length_map]; exact Nat.le_trans hcz (by decide)) ?_
    intro t6 tk6
    walk_at "r"
    have hsub : Builtin.bitAnd ((n - 1).fdiv (2 ^ sh.toNat)) 31 = ((ls.length / 32 ^ (k + 1) : Nat) : Int) := by
      rw [hn, hsh, ← s1]; exact sh_sub
    rw [hsub] at F
    rw [List.length_map, hsub]
    generalize hBB : 32 ^ (k + 1) = BB at *
    by_cases hm : ls.length % BB = 0
    · have hc := k1 hm
      rw [decide_eq_false (by (clear hx hdx hsh hn hmod hz hroom ga hcz hBB c1 hB s1 s2 hsubz hsub hm; omega)), if_neg (by decide)]
      walk_at "r"
      refine gm_list F.head PySem.F.slot_list_append PySem.F.type_list_append ?_
      walk_at "r"
      refine gm_new_path (T.up F.keep).X (F.keep _ _ hx) (F.keep _ _ hdx) ?_
      refine cw_fn T (by kernel_rfl) ?_
      walk_at "r"
      refine ⟨F.keep, ?_⟩
      have e1 := F.keep
      refine new_path_spec (g := g) (k + 1) (T.up F.keep) (he.trans F.keep) (F.keep _ _ hx) (F.keep _ _ hdx) (by rw [hsh]; push_cast; (clear hx hdx hsh hn hmod hz hroom ga hcz hBB c1 hB s1 s2 hsubz hsub hm hc; omega)) (by walk_at "room") ?_
      intro r h2 tk2 g2 G hr
      obtain ⟨D', rfl, hT'⟩ := hr
      obtain ⟨b2, e2, F2, z2⟩ := F.grow G he
      clear F; have F := F2; clear F2
      walk_at "r"
      refine lc_append F (by rw [List.length_map]; (clear hx hdx hsh hn hmod hz hroom ga hcz hBB c1 hB s2 hsubz hsub hm; omega)) ?_
      clear F; intro h3 n3 F
      walk_at "r"
      subst hBB
      have G1 : Gr g hp g2 h3 := ⟨e2.trans F.keep, G.up, z2.trans F.keep, (G.from' e1).new⟩
      obtain ⟨g3, G3, gD, e4⟩ := G1.add F.head (e2.none (F.out _ (.head _)))
      refine h D _ _ g3 G3 (Tr.node (cs := cs) (c := D') (n := n3) (fun i c' _ hc' => (hk i c' hc').up G3.up) (by exact Nat.le_of_eq hc.symm) ?_ ?_)
      · rw [List.take_of_length_le (by exact Nat.le_of_eq hc), List.map_append]
        exact gD
      · have e0 : chunk (32 ^ (k + 1)) ls (ls.length / 32 ^ (k + 1)) = [] := List.eq_nil_of_length_eq_zero (by
          have e := Nat.div_add_mod ls.length (32 ^ (k + 1))
          rw [Nat.mul_comm] at e
          rw [chunk_len]; (clear hx hdx hsh hn hmod hz hroom ga hcz c1 hB s1 s2 hsubz hsub hc gD; omega))
        rw [e0]
        exact hT'.up e4
    · have hc := k2 hm
      rw [decide_eq_true (by (clear hx hdx hsh hn hmod hz hroom ga hcz hBB c1 hB s1 s2 hsubz hsub hm; omega)), if_pos rfl]
      walk_at "r"
      obtain ⟨c0, hc0⟩ : ∃ c0, cs[ls.length / BB]? = some c0 := ⟨_, List.getElem?_eq_getElem (by exact Nat.le_of_eq hc.symm)⟩
      refine wpAny_Assign_Subscript ?_ (by with_unfolding_all rfl)
      walk_at "r"
      refine gm_push_tail (T.up F.keep).X (F.keep _ _ hx) (F.keep _ _ hdx) ?_
      refine cw_fn T (by kernel_rfl) ?_
      walk_at "r"
      refine sub_list (F.keep _ _ ga) (by (clear hx hdx hsh hn hmod hz hroom ga hcz hBB c1 hB s2 hsubz hsub hm hc hc0; omega)) (by (clear hx hdx hsh hn hmod hz hroom ga hcz hBB c1 hB s2 hsubz hsub hm hc hc0; omega)) (v := .ref c0) (by rw [Int.toNat_natCast, List.getElem?_map, hc0]; rfl) ?_
      walk_at "r"
      refine ⟨F.keep, ?_⟩
      subst hBB
      have e1 := F.keep
      refine ih (g := g) (T.up F.keep) (he.trans F.keep) (F.keep _ _ hx) (F.keep _ _ hdx) (hk _ c0 hc0) (by rw [hsh]; push_cast; (clear hx hdx hsh hn hmod hz hroom ga hcz c1 hB s1 s2 hsubz hsub hm hc hc0; omega)) hn ?_ ?_ (by walk_at "room") ?_
      · rw [chunk_len, s2]
        have e := Nat.div_add_mod ls.length (32 ^ (k + 1))
        have hm2 := Nat.mod_lt ls.length hB
        rw [Nat.mul_comm] at e
        (clear hx hdx hsh hn hmod hz hroom ga hcz c1 hB s1 s2 hsubz hsub hm hc hc0 hm2; omega)
      · rw [chunk_len]; (clear hx hdx hsh hn hmod hroom ga hcz c1 hB s1 s2 hsubz hsub hm hc hc0; omega)
      intro D' h2 tk2 g2 G hT'
      obtain ⟨b2, e2, F2, z2⟩ := F.grow G he
      clear F; have F := F2; clear F2
      walk_at "r"
      refine lc_set F (by (clear hx hdx hsh hn hmod hz hroom ga hcz c1 hB s2 hsubz hsub hm hc hc0; omega)) (by rw [List.length_map]; (clear hx hdx hsh hn hmod hz hroom ga hcz c1 hB s1 s2 hsubz hsub hm hc0; omega)) (by rw [List.length_map]; (clear hx hdx hsh hn hmod hz hroom ga hcz c1 hB s2 hsubz hsub hm hc0; omega)) ?_
      clear F; intro h3 n3 F
      walk_at "r"
      have G1 : Gr g hp g2 h3 := ⟨e2.trans F.keep, G.up, z2.trans F.keep, (G.from' e1).new⟩
      obtain ⟨g3, G3, gD, e4⟩ := G1.add F.head (e2.none (F.out _ (.head _)))
      refine h D _ _ g3 G3 (Tr.node (cs := cs) (c := D') (n := n3) (fun i c' _ hc' => (hk i c' hc').up G3.up) (by (clear hx hdx hsh hn hmod hz hroom ga hcz c1 hB s1 s2 hsubz hsub hm hc0 gD; omega)) ?_ (hT'.up e4))
      rw [gD, Int.toNat_natCast, ← List.map_set, set_last hc]
end
theorem sh_pow {d : Nat} : (1 : Int) * 2 ^ (5 * ((d : Int) + 1)).toNat = ((32 ^ (d + 1) : Nat) : Int) := by
  rw [Int.one_mul, show (5 * ((d : Int) + 1)).toNat = 5 * (d + 1) by exact rfl, Int.pow_mul, Int.natCast_pow]; rfl
theorem count_sh {m : Nat} : (32 * ((m : Int) + 1)).fdiv (2 ^ Int.toNat 5) = (m : Int) + 1 := by
  rw [show (2 : Int) ^ Int.toNat 5 = 32 from rfl, Int.fdiv_eq_ediv_of_nonneg _ (by decide)]; omega
/-- a second root above the first -/
theorem Tr.above {h : Heap} {d : Nat} {root D' D : Addr} {ls : List Value} {t : Value} {n : Nat} (R : Tr h d root ls) (P : Tr h d D' [t]) (hl : ls.length = 32 ^ (d + 1)) (hD : h.get? D = some (LO [.ref root, .ref D'] n)) : Tr h (d + 1) D (ls ++ [t]) := by
  have hB := p32 (d + 1)
  refine ⟨n, [root, D'], hD, by simp; omega, fun i hi => ?_, fun i c hc => ?_⟩
  · match i, hi with
    | 0, _ => simp
    | 1, _ => simp; omega
    | i + 2, hi => exact absurd hi (by simp)
  · match i, hc with
    | 0, hc =>
      cases hc
      rw [chunk_snoc_lt (by rw [Nat.zero_add, Nat.one_mul]; exact Nat.le_of_eq hl.symm), chunk_one (by exact Nat.le_of_eq hl)]
      exact R
    | 1, hc =>
      cases hc
      rw [chunk_snoc_eq (by omega) (by omega), List.eq_nil_of_length_eq_zero (l := chunk _ ls 1) (by rw [chunk_len]; omega)]
      exact P
    | i + 2, hc => cases hc
/-- what is a list in the one heap is that list in the other -/
def Lk (h b : Heap) : Prop := ∀ c items n, h.get? c = some (LO items n) → b.get? c = some (LO items n)
theorem Lk.of_ext {h b : Heap} (e : Ext h b) : Lk h b := fun c _ _ q => e c _ q
theorem Tr.lk {h b : Heap} (k : Lk h b) : ∀ {d : Nat} {a : Addr} {ls : List Value}, Tr h d a ls → Tr b d a ls
  | 0, _, _, ⟨n, g⟩ => ⟨n, k _ _ _ g⟩
  | _ + 1, _, _, ⟨n, cs, g, h1, h2, h3⟩ => ⟨n, cs, k _ _ _ g, h1, h2, fun i c hc => (h3 i c hc).lk k⟩
/-- the leaves and what they hold -/
def Lv (h : Heap) (ls : List Value) (yss : List (List Value)) : Prop := ls.length = yss.length ∧ ∀ (i : Nat) v ys, ls[i]? = some v → yss[i]? = some ys → ∃ c n, v = .ref c ∧ h.get? c = some (LO ys n)
theorem Lv.lk {h b : Heap} {ls : List Value} {yss : List (List Value)} (V : Lv h ls yss) (k : Lk h b) : Lv b ls yss :=
  ⟨V.1, fun i v ys a b => let ⟨c, n, e, g⟩ := V.2 i v ys a b; ⟨c, n, e, k _ _ _ g⟩⟩
theorem Lv.snoc {h : Heap} {ls : List Value} {yss : List (List Value)} {tail : Addr} {zs : List Value} {nt : Nat} (V : Lv h ls yss) (ht : h.get? tail = some (LO zs nt)) : Lv h (ls ++ [.ref tail]) (yss ++ [zs]) := by
  refine ⟨by simp [V.1], fun i v ys h1 h2 => ?_⟩
  rcases Nat.lt_trichotomy i ls.length with hi | hi | hi
  · rw [List.getElem?_append_left hi] at h1
    rw [List.getElem?_append_left (by rw [← V.1]; exact hi)] at h2
    exact V.2 i v ys h1 h2
  · subst hi
    rw [List.getElem?_append_right (by exact Nat.le_refl _)] at h1
    rw [List.getElem?_append_right (by rw [V.1]; exact Nat.le_refl _), V.1] at h2
    simp at h1 h2
    subst h1 h2
    exact ⟨tail, nt, rfl, ht⟩
  · rw [List.getElem?_eq_none (by simp; exact hi)] at h1; cases h1
/-- a root over h: a tree of depth d + 1 and what its leaves hold -/
def Rt (h : Heap) (d : Nat) (root : Addr) (yss : List (List Value)) : Prop := ∃ ls, Tr h d root ls ∧ Lv h ls yss ∧ yss.length ≤ 32 ^ (d + 1) ∧ d ≤ 2
theorem Rt.lk {h b : Heap} {d : Nat} {root : Addr} {yss : List (List Value)} (R : Rt h d root yss) (k : Lk h b) : Rt b d root yss := let ⟨ls, a, v, r⟩ := R; ⟨ls, a.lk k, v.lk k, r⟩
theorem Rt.up {h b : Heap} {d : Nat} {root : Addr} {yss : List (List Value)} (R : Rt h d root yss) (e : Ext h b) : Rt b d root yss := R.lk (.of_ext e)
theorem Lv.chunk {h : Heap} {ls : List Value} {yss : List (List Value)} {B i : Nat} (V : Lv h ls yss) : Lv h (chunk B ls i) (chunk B yss i) := by
  refine ⟨by rw [chunk_len, chunk_len, V.1], fun j v ys h1 h2 => ?_⟩
  unfold Mine.chunk at h1 h2
  rw [List.getElem?_take] at h1 h2
  split at h1
  · rename_i q
    rw [if_pos q] at h2
    rw [List.getElem?_drop] at h1 h2
    exact V.2 _ v ys h1 h2
  · cases h1
theorem chunks_flat {α : Type} {B : Nat} : ∀ (n : Nat) (ls : List α), ls.length ≤ n * B → ((List.range n).map (chunk B ls)).flatten = ls
  | 0, ls, h => by rw [Nat.zero_mul] at h; rw [List.eq_nil_of_length_eq_zero (by omega : ls.length = 0)]; rfl
  | n + 1, ls, h => by
    rw [Nat.succ_mul] at h
    have ih := chunks_flat (B := B) n (ls.drop B) (by rw [List.length_drop]; omega)
    rw [List.range_succ_eq_map, List.map_cons, List.flatten_cons, List.map_map]
    have e : (chunk B ls ∘ Nat.succ) = chunk B (ls.drop B) := by
      funext i
      simp only [Function.comp, Mine.chunk, List.drop_drop, Nat.succ_mul]
      rw [Nat.add_comm]
    rw [e, ih]
    simp only [Mine.chunk, Nat.zero_mul, List.drop_zero]
    exact List.take_append_drop B ls
/-- the tree as fill_spec wants it -/
theorem Tr.tree {h : Heap} : ∀ {d : Nat} {a : Addr} {ls : List Value} {yss : List (List Value)}, Tr h d a ls → Lv h ls yss → TreeAt h (d + 1) a yss.flatten
  | 0, a, ls, yss, ⟨n, g⟩, V => by
    have hc : ∃ cs : List Addr, ls = cs.map Value.ref := by
      refine ⟨ls.map fun v => match v with | .ref c => c | _ => 0, ?_⟩
      rw [List.map_map]
      apply List.ext_getElem?
      intro i
      rw [List.getElem?_map]
      cases q : ls[i]? with
      | none => rfl
      | some v =>
        have hi := (List.getElem?_eq_some_iff.mp q).1
        obtain ⟨c, n, rfl, _⟩ := V.2 i v _ q (List.getElem?_eq_getElem (by rw [← V.1]; exact hi))
        rfl
    obtain ⟨cs, rfl⟩ := hc
    refine ⟨n, cs, yss, g, by rw [← V.1, List.length_map], fun i c ys h1 h2 => ?_, rfl⟩
    obtain ⟨c', n', e, g'⟩ := V.2 i (.ref c) ys (by rw [List.getElem?_map, h1]; rfl) h2
    cases e
    exact ⟨n', g'⟩
  | d + 1, a, ls, yss, ⟨n, cs, g, h1, h2, h3⟩, V => by
    refine ⟨n, cs, ((List.range cs.length).map fun i => (chunk (32 ^ (d + 1)) yss i).flatten), g, by simp, fun i c ys hc hy => ?_, ?_⟩
    · have hi := (List.getElem?_eq_some_iff.mp hc).1
      rw [List.getElem?_map, List.getElem?_range hi] at hy
      cases hy
      exact (h3 i c hc).tree V.chunk
    · have q := chunks_flat (B := 32 ^ (d + 1)) cs.length yss (by rw [← V.1]; exact h1)
      conv => lhs; rw [← q]
      rw [List.flatten_flatten, List.map_map]; rfl
theorem Rt.tree {h : Heap} {d : Nat} {root : Addr} {yss : List (List Value)} (R : Rt h d root yss) : TreeAt h (d + 1) root yss.flatten := let ⟨_, a, v, _⟩ := R; a.tree v
/-- a root with one more leaf -/
theorem Rt.snoc {h g' : Heap} {d' : Nat} {D tail : Addr} {ls : List Value} {yss : List (List Value)} {zs : List Value} {nt : Nat} (V : Lv h ls yss) (e : Ext h g') (ht : g'.get? tail = some (LO zs nt)) (R : Tr g' d' D (ls ++ [.ref tail])) (hl : ls.length + 1 ≤ 32 ^ (d' + 1)) (hd : d' ≤ 2) : Rt g' d' D (yss ++ [zs]) :=
  ⟨_, R, (V.lk (.of_ext e)).snoc ht, by rw [List.length_append, ← V.1]; simpa using hl, hd⟩
section
variable {prog : Program} {w : World} {A : Around} {E : Value → Shared → Prop} {hp : Heap} {gs : Array GenState} {dr : Drawn} {tk : Nat} {os : OsState} {mg mb : Str → Option Value} {x dx : Addr}
set_option maxHeartbeats 4000000 in
theorem new_root5 {Q : Value → Shared → Prop} {g : Heap} {root tail : Addr} {n toff sh : Int} {t1 t2 t3 : Tok} {ls : List Value} {d : Nat} (T : Tp (KK w) mg mb hp) (he : Ext g hp) (hx : hp.get? x = some (VO dx n root sh tail toff t1 t2 t3)) (hdx : hp.get? dx = some emptyDict) (R : Tr g d root ls) (hsh : sh = 5 * ((d : Int) + 1))
    (hn : n = 32 * ((ls.length : Int) + 1)) (hl : ls.length ≤ 32 ^ (d + 1)) (hz : ls.length ≤ 2000) (hd : d ≤ 2) (hroom : A.depth < 700)
    (h : ∀ D d' tp t2' h' tk g', Gr g hp g' h' → Tr g' d' D (ls ++ [.ref tail]) → ls.length + 1 ≤ 32 ^ (d' + 1) → d' ≤ 2 → h'.get? tp = some (TO [.ref D, .int (5 * ((d' : Int) + 1)) t2'] 0) → Q (.ref tp) ⟨h', gs, dr, tk, os⟩) :
    wpAny (model prog w) A (call (.ref m_create_new_root) [.ref x]) Q E ⟨hp, gs, dr, tk, os⟩ := by
  refine wpAny_call ?_
  refine call_fx [] (binds := [(Str.ofString "self", .ref x)]) (by walk_at "room") (T.X _ _ (lk m_create_new_root (by kernel_rfl))) (by with_unfolding_all rfl) T.nolimit (codeRec_of T.X (by kernel_rfl)) (BindsTo.of_eq (by with_unfolding_all rfl)) (locs (by with_unfolding_all rfl)) (fun _ q => nomatch q) List.nodup_nil ?_ (by decide +kernel)
  intro L h₁ tk F
  have F : Fx hp L h₁ _ [] := F
  walk_at "r"
  refine x_rshift (by decide) ?_
  walk_at "r"
  refine x_lshift (by (clear hx hdx hn hl hz hd hroom; omega)) (by omega) (by decide) ?_
  walk_at "r"
  rw [hn, count_sh, hsh, sh_pow]
  by_cases hfull : ls.length = 32 ^ (d + 1)
  · have hd1 : d + 1 ≤ 2 := by
      rcases Nat.lt_or_ge d 2 with q | q
      · exact q
      · have : d = 2 := by omega
        subst this
        simp at hfull; omega
    rw [decide_eq_true (by omega)]
    walk_at "r"
    rw [if_pos rfl]
    walk_at "r"
    refine gm_new_path (T.up F.keep).X (F.keep _ _ hx) (F.keep _ _ hdx) ?_
    refine cw_fn T (by kernel_rfl) ?_
    walk_at "r"
    refine ⟨F.keep, ?_⟩
    refine new_path_spec (g := g) (d + 1) (T.up F.keep) (he.trans F.keep) (F.keep _ _ hx) (F.keep _ _ hdx) (by rw [hsh]; push_cast; rfl) (by walk_at "room") ?_
    intro r h2 tk2 g2 G hr
    obtain ⟨D', rfl, hT'⟩ := hr
    have e1 := F.keep
    obtain ⟨b2, e2, F2, z2⟩ := F.grow G he
    clear F; have F := F2; clear F2
    have T := T.up e2; have hx := e2 _ _ hx; have hdx := e2 _ _ hdx
    walk_at "r"
    refine nl F ?_ (by simp)
    clear F; intro D h3 F e3
    walk_at "r"
    refine nt F ?_ (by simp)
    clear F; intro tp h4 F e4
    walk_at "r"
    have G1 : Gr g hp g2 h4 := ⟨e2.trans F.keep, G.up, z2.trans F.keep, (G.from' e1).new⟩
    obtain ⟨g3, G3, gD, e5⟩ := G1.add F.head2 (e2.none (F.out _ (.tail _ (.head _))))
    have ht := F.head
    refine h D (d + 1) tp _ _ _ g3 G3 ((R.up G3.up).above (hT'.up e5) hfull gD) ?_ hd1 (by rw [ht]; rw [hsh]; push_cast; rfl)
    rw [Nat.pow_succ]; have := p32 (d + 1); (clear hsh hn hl hz hd hroom hd1 hx hdx gD ht; omega)
  · rw [decide_eq_false (by omega)]
    walk_at "r"
    rw [if_neg (by decide)]
    walk_at "r"
    refine gm_push_tail (T.up F.keep).X (F.keep _ _ hx) (F.keep _ _ hdx) ?_
    refine cw_fn T (by kernel_rfl) ?_
    walk_at "r"
    refine ⟨F.keep, ?_⟩
    refine push_spec (g := g) (Lt := ls.length) d (T.up F.keep) (he.trans F.keep) (F.keep _ _ hx) (F.keep _ _ hdx) R hsh hn (Nat.mod_eq_of_lt (by omega)) (by exact Nat.le_trans hz (by decide)) (by walk_at "room") ?_
    intro D h2 tk2 g2 G hT'
    have e1 := F.keep
    obtain ⟨b2, e2, F2, z2⟩ := F.grow G he
    clear F; have F := F2; clear F2
    have T := T.up e2; have hx := e2 _ _ hx; have hdx := e2 _ _ hdx
    walk_at "r"
    refine nt F ?_ (by simp)
    clear F; intro tp h4 F e4
    walk_at "r"
    exact h D d tp _ _ _ g2 ⟨e2.trans F.keep, G.up, z2.trans F.keep, (G.from' e1).new⟩ hT' (by omega) hd (by rw [F.head, hsh])
set_option maxHeartbeats 4000000 in
theorem append5 {Q : Value → Shared → Prop} {root tail : Addr} {n toff sh : Int} {t1 t2 t3 : Tok} {d : Nat} {yss : List (List Value)} {zs : List Value} {nt : Nat} {v : Value} (T : Tp (KK w) mg mb hp) (hx : hp.get? x = some (VO dx n root sh tail toff t1 t2 t3)) (hdx : hp.get? dx = some emptyDict) (R : Rt hp d root yss) (ht : hp.get? tail = some (LO zs nt))
    (hsh : sh = 5 * ((d : Int) + 1)) (hn : n = 32 * yss.length + zs.length) (hz : zs.length ≤ 32) (hn2 : n < 60000) (hroom : A.depth < 600) (hh : A.handled = none)
    (h : ∀ x' dx' root' tail' h' tk t1' t2' t3' nt' d' yss' zs', Ext hp (hideAll h' [x', tail']) → hp.get? x' = none → hp.get? tail' = none → hp.get? dx' = none → x' ≠ tail' → (hideAll h' [x', tail']).get? dx' = some emptyDict → Rt (hideAll h' [x', tail']) d' root' yss' → h'.get? tail' = some (LO zs' nt') →
      h'.get? x' = some (VO dx' (n + 1) root' (5 * ((d' : Int) + 1)) tail' (n + 1 - zs'.length) t1' t2' t3') → (zs.length < 32 ∧ yss' = yss ∧ zs' = zs ++ [v] ∨ zs.length = 32 ∧ yss' = yss ++ [zs] ∧ zs' = [v]) → Q (.ref x') ⟨h', gs, dr, tk, os⟩) :
    wpAny (model prog w) A (call (.ref m_append) [.ref x, v]) Q E ⟨hp, gs, dr, tk, os⟩ := by
  refine wpAny_call ?_
  refine call_fx [] (binds := [(Str.ofString "self", .ref x), (Str.ofString "val", v)]) (by walk_at "room") (T.X _ _ (lk m_append (by kernel_rfl))) (by with_unfolding_all rfl) T.nolimit (codeRec_of T.X (by kernel_rfl)) (BindsTo.of_eq (by with_unfolding_all rfl)) (locs (by with_unfolding_all rfl)) (fun _ q => nomatch q) List.nodup_nil ?_ (by decide +kernel)
  intro L h₁ tk F
  have F : Fx hp L h₁ _ [] := F
  walk_at "r"
  refine lc_len (F.keep _ _ ht) (by exact Nat.le_trans hz (by decide)) ?_
  intro t4 tk4
  walk_at "r"
  by_cases hlt : zs.length < 32
  · rw [decide_eq_true (by exact Int.ofNat_lt.mpr hlt), if_pos rfl]
    walk_at "r"
    refine lc_copy F (F.keep _ _ ht) (by exact Nat.le_trans hz (by decide)) ?_
    clear F; intro D c hq F _
    walk_at "r"
    refine gm_list F.head PySem.F.slot_list_append PySem.F.type_list_append ?_
    walk_at "r"
    refine lc_append F (by exact Nat.le_trans hz (by decide)) ?_
    clear F; intro hq n' F
    walk_at "r"
    refine cw_fn T (by kernel_rfl) ?_
    walk_at "r"
    refine ⟨F.keep, ?_⟩
    refine make_spec (zs := zs ++ [v]) (T.up F.keep) F.head (by simp; exact Nat.le_trans hz (by decide)) (by walk_at "room") ?_
    intro x' dx' h' tk' t3' eh hxn hdn hne hdx' hx'
    walk_at "r"
    have F2 := F.ext eh
    have n1 := F.keep.none hxn
    have n2 := F.out _ (.head _)
    have ne1 : x' ≠ D := fun q => by rw [q, F.head] at hxn; cases hxn
    have ne2 : dx' ≠ D := fun q => by rw [q, F.head] at hdn; cases hdn
    have eg := ext_hide2 F2.keep n1 n2
    exact h x' dx' root D h' _ _ _ _ _ d yss (zs ++ [v]) eg n1 n2 (F.keep.none hdn) ne1 (hideAll_get _ hdx' (by simp [hne.symm, ne2])) (R.up eg) F2.head (by simpa [hsh] using hx') (.inl ⟨hlt, rfl, rfl⟩)
  · rw [decide_eq_false (by (clear hx hdx ht hsh hn hz hn2 hroom hh; omega)), if_neg (by decide)]
    walk_at "r"
    refine gm_create_new_root (T.up F.keep).X (F.keep _ _ hx) (F.keep _ _ hdx) ?_
    refine cw_fn0 T F.keep (by kernel_rfl) ?_
    obtain ⟨ls, R, V, hl, hd⟩ := R
    have hV := V.1
    refine new_root5 (g := hp) (T.up F.keep) F.keep (F.keep _ _ hx) (F.keep _ _ hdx) R hsh (by (clear hx hdx ht hsh hn2 hroom hh hl hd; omega)) (by exact Nat.le_trans (Nat.le_of_eq hV) hl) (by (clear hx hdx ht hsh hz hroom hh hlt hl hd; omega)) hd (by walk_at "room") ?_
    intro D d' tp t2' h' tk' g' G hT' hl' hd' htp
    obtain ⟨b2, e2, F2, z2⟩ := F.grow G .rfl'
    clear F; have F := F2; clear F2
    have T := T.up e2; have hx := e2 _ _ hx; have hdx := e2 _ _ hdx
    refine assign_tup2 F hh htp ?_
    clear F; intro hq F _
    walk_at "r"
    refine cw_fn T (by kernel_rfl) ?_
    walk_at "r"
    refine nl F ?_ (by simp)
    clear F; intro E1 hq F _
    walk_at "r"
    refine ⟨F.keep, ?_⟩
    refine make_spec (zs := [v]) (T.up F.keep) F.head (by simp) (by walk_at "room") ?_
    intro x' dx' h' tk' t3' eh hxn hdn hne hdx' hx'
    walk_at "r"
    have F2 := F.ext eh
    have n1 := F.keep.none hxn
    have n2 := F.out _ (.head _)
    have ne1 : x' ≠ E1 := fun q => by rw [q, F.head] at hxn; cases hxn
    have ne2 : dx' ≠ E1 := fun q => by rw [q, F.head] at hdn; cases hdn
    have eg := ext_hide2 F2.keep n1 n2
    exact h x' dx' D E1 h' _ _ _ _ _ d' (yss ++ [zs]) [v] (e2.trans eg) (e2.none n1) (e2.none n2) (e2.none (F.keep.none hdn)) ne1 (hideAll_get _ hdx' (by simp [hne.symm, ne2])) (Rt.snoc V (e2.trans eg) (eg _ _ (e2 _ _ ht)) (hT'.up (z2.trans eg)) hl' hd') F2.head (by simpa using hx') (.inr ⟨by (clear ht hsh hn hn2 hroom hh hl hd hV hl' hd' htp hx hdx hxn hdn hne hdx' hx' n1 n2 ne1 ne2; omega), rfl, rfl⟩)
end
theorem cutL_nat (items : List Value) (a b : Nat) (h : a ≤ items.length) : cutL items (some a) (some b) = (items.drop a).take (b - a) := by
  unfold cutL
  rw [slicePick_plain]
  simp only [Option.elim, clipAt_nat, List.size_toArray]
  rw [Nat.min_eq_left h]
  rcases Nat.le_total b items.length with hb | hb
  · rw [Nat.min_eq_left hb]
  · rw [Nat.min_eq_right hb, List.take_of_length_le (by simp), List.take_of_length_le (by simp; omega)]
theorem Fx.regrow {b h h' g' : Heap} {L a E1 : Addr} {m : Str → Option Value} {o o' oE : Obj} (F : Fx b L h m [(a, o)]) (e1 : Ext (h.hide a) g') (e2 : Ext g' h') (n1 : g'.get? a = none) (n2 : g'.get? E1 = none) (hE : h.get? E1 = none) (ha : h'.get? a = some o') (hE1 : h'.get? E1 = some oE) :
    ∃ b', Ext b b' ∧ Fx b' L h' m [(a, o'), (E1, oE)] ∧ Lk g' b' := by
  have F4 := F.back1 (e1.trans e2) ha
  have F5 := (F.addNew F4 rfl hE hE1).swap
  have dn : Ext (hideAll g' [L]) g' := fun c oc e => of_hideAll _ e
  refine ⟨hideAll g' [L], fun c oc e => hideAll_get _ (e1 _ _ (F.hid _ _ e)) (fun q => by rw [List.mem_singleton.mp q, F.lout] at e; cases e), ⟨F5.ns, dn.trans e2, hideAll_none _ (.head _), F5.has, fun p hp => ?_, F5.nodup⟩, fun c items n e => hideAll_get _ e (fun q => ?_)⟩
  · rcases List.mem_cons.mp hp with rfl | hp
    · exact dn.none n1
    · rw [List.mem_singleton.mp hp]; exact dn.none n2
  · exact F5.notL' (e2 _ _ e) (fun _ _ => by simp) (List.mem_singleton.mp q)
section
variable {prog : Program} {w : World} {A : Around} {E : Value → Shared → Prop} {hp : Heap} {gs : Array GenState} {dr : Drawn} {tk : Nat} {os : OsState} {mg mb : Str → Option Value} {x dx : Addr}
set_option maxHeartbeats 4000000 in
theorem fill_tail5 {Q : Value → Shared → Prop} {g : Heap} {root tail sq : Addr} {n toff sh : Int} {t1 t2 t3 to : Tok} {zs seq : List Value} {nt ns : Nat} {off : Nat} (T : Tp (KK w) mg mb g) (he : Ext g hp) (hgx : g.get? x = none) (hgt : g.get? tail = none) (hxt : x ≠ tail)
    (hx : hp.get? x = some (VO dx n root sh tail toff t1 t2 t3)) (hdx : g.get? dx = some emptyDict) (ht : hp.get? tail = some (LO zs nt)) (hs : g.get? sq = some (LO seq ns)) (hz : zs.length ≤ 32) (hsz : seq.length ≤ 100000) (ho : off ≤ seq.length) (hroom : A.depth < 700)
    (h : ∀ h' tk t t1' nt', Ext g h' → h'.get? x = some (VO dx (n + ((seq.drop off).take (32 - zs.length)).length) root sh tail toff t1' t2 t3) → h'.get? tail = some (LO (zs ++ (seq.drop off).take (32 - zs.length)) nt') →
      Q (.int (off + ((seq.drop off).take (32 - zs.length)).length) t) ⟨h', gs, dr, tk, os⟩) :
    wpAny (model prog w) A (call (.ref m_mutating_fill_tail) [.ref x, .int off to, .ref sq]) Q E ⟨hp, gs, dr, tk, os⟩ := by
  have T0 := T.up he
  refine wpAny_call ?_
  refine call_fx [(x, VO dx n root sh tail toff t1 t2 t3), (tail, LO zs nt)] (binds := [(Str.ofString "self", .ref x), (Str.ofString "offset", .int off to), (Str.ofString "sequence", .ref sq)]) (by walk_at "room") (T0.X _ _ (lk m_mutating_fill_tail (by kernel_rfl))) (by with_unfolding_all rfl) T0.nolimit (codeRec_of T0.X (by kernel_rfl)) (BindsTo.of_eq (by with_unfolding_all rfl)) (locs (by with_unfolding_all rfl)) (fun p hp => by
    rcases List.mem_cons.mp hp with rfl | hp
    · exact hx
    · rw [List.mem_singleton.mp hp]; exact ht) (by simp [hxt]) ?_ (by decide +kernel)
  clear hx
  intro L h₁ tk F
  have eb := ext_hide2 he hgx hgt
  have T := T.up eb
  have hdx := eb _ _ hdx
  have hs := eb _ _ hs
  have F : Fx (hideAll hp [x, tail]) L h₁ _ [(x, VO dx n root sh tail toff t1 t2 t3), (tail, LO zs nt)] := F
  walk_at "r"
  refine lc_len F.head2 (by exact Nat.le_trans hz (by decide)) ?_
  intro t4 tk4
  walk_at "r"
  refine cut_list (lo := some (off : Int)) (hi := some ((off + (32 - zs.length) : Nat) : Int)) F (F.keep _ _ hs) (by exact Nat.le_trans hsz (by decide)) (.int _ _) ?_ ?_
  · rw [show ((off + (32 - zs.length) : Nat) : Int) = (off : Int) + (32 - (zs.length : Int)) by omega]; exact .int _ _
  clear F; intro D hq F _
  rw [cutL_nat _ _ _ ho, show off + (32 - zs.length) - off = 32 - zs.length by omega] at F
  generalize hdl : (seq.drop off).take (32 - zs.length) = delta at *
  have hdle : delta.length ≤ 32 := by rw [← hdl, List.length_take]; omega
  walk_at "r"
  have F := F.rot3'
  walk_at "r"
  refine gm_list F.head2 PySem.F.slot_list_extend PySem.F.type_list_extend ?_
  walk_at "r"
  have F := F.rot3'
  refine lc_extend F F.head2 (by omega) ?_
  clear F; intro hq n' F
  walk_at "r"
  refine lc_len F.head2 (by exact Nat.le_trans hdle (by decide)) ?_
  intro t5 tk5
  walk_at "r"
  have F := F.rot3
  walk_at "r"
  refine sa_count F (T.up F.keep).X (F.keep _ _ hdx) ?_
  clear F; intro hq F
  walk_at "r"
  exact h _ _ _ _ _ (eb.trans F.keep) F.head F.head2

set_option maxHeartbeats 4000000 in
theorem insert_tail5 {Q : Value → Shared → Prop} {g : Heap} {root tail : Addr} {n toff sh : Int} {t1 t2 t3 : Tok} {d : Nat} {yss : List (List Value)} {zs : List Value} {nt : Nat} (T : Tp (KK w) mg mb g) (he : Ext g hp) (hgx : g.get? x = none)
    (hx : hp.get? x = some (VO dx n root sh tail toff t1 t2 t3)) (hdx : g.get? dx = some emptyDict) (R : Rt g d root yss) (ht : g.get? tail = some (LO zs nt)) (hsh : sh = 5 * ((d : Int) + 1)) (hn : n = 32 * ((yss.length : Int) + 1)) (hn2 : n < 60000) (hroom : A.depth < 600) (hh : A.handled = none)
    (h : ∀ h' tk D E1 t2' g' (d' : Nat), Ext g g' → Ext g' h' → g'.get? x = none → g'.get? E1 = none → hp.get? E1 = none → h'.get? x = some (VO dx n D (5 * ((d' : Int) + 1)) E1 toff t1 t2' t3) → Rt g' d' D (yss ++ [zs]) → h'.get? E1 = some (LO [] 0) → Q .none ⟨h', gs, dr, tk, os⟩) :
    wpAny (model prog w) A (call (.ref m_mutating_insert_tail) [.ref x]) Q E ⟨hp, gs, dr, tk, os⟩ := by
  have T0 := T.up he
  obtain ⟨ls, R, V, hl, hd⟩ := R
  have hV := V.1
  refine wpAny_call ?_
  refine call_fx [(x, VO dx n root sh tail toff t1 t2 t3)] (binds := [(Str.ofString "self", .ref x)]) (by walk_at "room") (T0.X _ _ (lk m_mutating_insert_tail (by kernel_rfl))) (by with_unfolding_all rfl) T0.nolimit (codeRec_of T0.X (by kernel_rfl)) (BindsTo.of_eq (by with_unfolding_all rfl)) (locs (by with_unfolding_all rfl)) (fun p hp => by rw [List.mem_singleton.mp hp]; exact hx) (by simp) ?_ (by decide +kernel)
  have hxo := hx
  clear hx
  intro L h₁ tk F
  have eb := ext_hide1 he hgx
  have T := T.up eb
  have hdx := eb _ _ hdx
  have F : Fx (hideAll hp [x]) L h₁ _ [(x, VO dx n root sh tail toff t1 t2 t3)] := F
  walk_at "r"
  refine gm_create_new_root (T.up F.keep).X F.head (F.keep _ _ hdx) ?_
  refine cw_fn0 T F.keep (by kernel_rfl) ?_
  refine new_root5 (g := hideAll hp [x]) (T.up F.keep) F.keep F.head (F.keep _ _ hdx) (R.up eb) hsh (by exact hV ▸ hn) (by exact Nat.le_trans (Nat.le_of_eq hV) hl) (by (clear hgx ht hsh hroom hh hl hd hxo hdx; omega)) hd (by walk_at "room") ?_
  intro D d' tp t2' h' tk' g' G hT' hl' hd' htp
  obtain ⟨b2, e2, F2, z2⟩ := F.grow G .rfl'
  clear F; have F := F2; clear F2
  have T := T.up e2; have hdx := e2 _ _ hdx
  refine assign_tup2 F hh htp ?_
  clear F; intro hq F _
  walk_at "r"
  refine sa_root F (T.up F.keep).X (F.keep _ _ hdx) ?_
  clear F; intro hq F
  walk_at "r"
  refine sa_shift F (T.up F.keep).X (F.keep _ _ hdx) ?_
  clear F; intro hq F
  walk_at "r"
  refine nl F ?_ (by simp)
  clear F; intro E1 hq F _
  have F := F.swap
  walk_at "r"
  refine sa_tail F (T.up F.keep).X (F.keep _ _ hdx) ?_
  clear F; intro hq F
  walk_at "r"
  have nE : hp.get? E1 = none := none_of_hide1 (e2.none (F.out _ (.tail _ (.head _)))) F.ne12.symm
  exact h _ _ D E1 _ b2 d' (eb.trans e2) F.keep (F.out _ (.head _)) (F.out _ (.tail _ (.head _))) nE F.head (Rt.snoc V (eb.trans e2) (e2 _ _ (eb _ _ ht)) (hT'.up z2) hl' hd') F.head2
set_option maxHeartbeats 4000000 in
theorem mut_extend5 {Q : Value → Shared → Prop} {g : Heap} {root tail sq : Addr} {n toff sh : Int} {t1 t2 t3 : Tok} {d : Nat} {yss : List (List Value)} {zs seq : List Value} {nt ns : Nat} (T : Tp (KK w) mg mb g) (he : Ext g hp) (hgx : g.get? x = none) (hgt : g.get? tail = none) (hxt : x ≠ tail)
    (hx : hp.get? x = some (VO dx n root sh tail toff t1 t2 t3)) (hdx : g.get? dx = some emptyDict) (R : Rt g d root yss) (hsh : sh = 5 * ((d : Int) + 1)) (ht : hp.get? tail = some (LO zs nt)) (hs : g.get? sq = some (LO seq ns)) (hn : n = 32 * yss.length + zs.length) (hz : zs.length ≤ 32) (hy : ∀ ys ∈ yss, ys.length = 32)
    (hn2 : n + seq.length < 60000) (hroom : A.depth < 500) (hh : A.handled = none)
    (h : ∀ h' tk root' tail' t1' t2' t3' nt' (d' : Nat) yss' zs', Ext g h' → (h'.get? x = some (VO dx (n + seq.length) root' (5 * ((d' : Int) + 1)) tail' (n + seq.length - zs'.length) t1' t2' t3')) → Rt h' d' root' yss' → h'.get? tail' = some (LO zs' nt') → g.get? tail' = none → x ≠ tail' → (∀ ys ∈ yss', ys.length = 32) → zs'.length ≤ 32 →
      yss'.flatten ++ zs' = yss.flatten ++ zs ++ seq → Q .none ⟨h', gs, dr, tk, os⟩) :
    wpAny (model prog w) A (call (.ref m_mutating_extend) [.ref x, .ref sq]) Q E ⟨hp, gs, dr, tk, os⟩ := by
  have T0 := T.up he
  refine wpAny_call ?_
  refine call_fx [(x, VO dx n root sh tail toff t1 t2 t3), (tail, LO zs nt)] (binds := [(Str.ofString "self", .ref x), (Str.ofString "sequence", .ref sq)]) (by walk_at "room") (T0.X _ _ (lk m_mutating_extend (by kernel_rfl))) (by with_unfolding_all rfl) T0.nolimit (codeRec_of T0.X (by kernel_rfl)) (BindsTo.of_eq (by with_unfolding_all rfl)) (locs (by with_unfolding_all rfl)) (fun p hp => by
    rcases List.mem_cons.mp hp with rfl | hp
    · exact hx
    · rw [List.mem_singleton.mp hp]; exact ht) (by simp [hxt]) ?_ (by decide +kernel)
  have hxo := hx
  clear hx
  intro L h₁ tk F
  have eb := ext_hide2 he hgx hgt
  have T := T.up eb
  have hdx := eb _ _ hdx
  have hs := eb _ _ hs
  have R := R.up eb
  have F : Fx (hideAll hp [x, tail]) L h₁ _ [(x, VO dx n root sh tail toff t1 t2 t3), (tail, LO zs nt)] := F
  walk_at "r"
  refine lc_len (F.keep _ _ hs) (by (clear hgx hgt hxt hsh ht hz hroom hh hxo hdx hs; omega)) ?_
  intro t5 tk5
  walk_at "r"
  refine wpAny_While ?_
  refine loop_while F (fun k b' m' own' => ∃ (off : Nat) (root' tail' : Addr) (t1' t2' t3' to : Tok) (d' : Nat) (yss' : List (List Value)) (zs' : List Value) (nt' : Nat), m' (Str.ofString "self") = some (.ref x) ∧ m' (Str.ofString "sequence") = some (.ref sq) ∧ m' (Str.ofString "sequence_len") = some (.int seq.length t5) ∧ m' (Str.ofString "offset") = some (.int off to) ∧
      own' = [(x, VO dx (n + off) root' (5 * ((d' : Int) + 1)) tail' toff t1' t2' t3'), (tail', LO zs' nt')] ∧ Rt b' d' root' yss' ∧ n + off = 32 * yss'.length + zs'.length ∧ zs'.length ≤ 32 ∧ (∀ ys ∈ yss', ys.length = 32) ∧ yss'.flatten ++ zs' = yss.flatten ++ zs ++ seq.take off ∧ off ≤ seq.length ∧ k = 2 * (seq.length - off) + (if zs'.length = 32 then 1 else 0))
    (2 * seq.length + (if zs.length = 32 then 1 else 0)) ⟨0, root, tail, t1, t2, t3, _, d, yss, zs, nt, rfl, rfl, rfl, rfl, by simp [hsh], R, by simpa using hn, hz, hy, by simp, Nat.zero_le _, by simp⟩ ?_
  rintro k b₁ m₁ own₁ h₂ tk₂ E' ⟨off, root', tail', t1', t2', t3', to, d', yss', zs', nt', ms, mq, ml, mo, rfl, R', hn', hz', hy', hcat, hoff, rfl⟩ e₁ F
  have T := T.up e₁
  have hdx := e₁ _ _ hdx
  have hs := e₁ _ _ hs
  walk_at "r"
  by_cases hlt : off < seq.length
  · rw [decide_eq_true (by exact Int.ofNat_lt.mpr hlt), if_pos rfl]
    walk_at "r"
    refine gm_mutating_fill_tail (T.up F.keep).X F.head (F.keep _ _ hdx) ?_
    refine cw_fn T (by kernel_rfl) ?_
    walk_at "r"
    refine ⟨F.keep, ?_⟩
    refine fill_tail5 (g := hideAll h₂ [x, tail']) (T.up F.hid2) (fun _ _ e => of_hideAll _ e) (hideAll_none _ (by simp)) (hideAll_none _ (by simp)) F.ne12 F.head (F.hid2 _ _ hdx) F.head2 (F.hid2 _ _ hs) hz' (by (clear hgx hgt hxt hsh ht hz hroom hh hxo ms mq ml mo hn' hz' hcat hoff hdx hs hlt; omega)) hoff (by walk_at "room") ?_
    generalize hdl : (seq.drop off).take (32 - zs'.length) = delta at *
    have hdle : delta.length = min (32 - zs'.length) (seq.length - off) := by rw [← hdl, List.length_take, List.length_drop]
    have htake : seq.take (off + delta.length) = seq.take off ++ delta := by
      rw [List.take_add, ← hdl, List.length_take]
      congr 1
      rcases Nat.le_total (32 - zs'.length) (seq.drop off).length with h | h
      · rw [Nat.min_eq_left h]
      · rw [Nat.min_eq_right h, List.take_length, List.take_of_length_le h]
    intro h₃ tk₃ t₃ t1₃ nt₃ e₃ hx₃ ht₃
    have F := F.back2 e₃ hx₃ ht₃
    walk_at "r"
    refine lc_len F.head2 (by simp; (clear hgx hgt hxt hsh ht hn hz hroom hh hxo ms mq ml mo hz' hcat hoff hdx hs hdl htake hx₃ ht₃; omega)) ?_
    intro t6 tk6
    walk_at "r"
    by_cases hfull : (zs' ++ delta).length = 32
    · rw [if_pos (by rw [hfull]; decide)]
      walk_at "r"
      refine gm_mutating_insert_tail (T.up F.keep).X F.head (F.keep _ _ hdx) ?_
      refine cw_fn0 T F.keep (by kernel_rfl) ?_
      have hfl : (zs' ++ delta).length = 32 := hfull
      obtain ⟨b₂, e₂, F₂, kq, kb, _⟩ := F.freeze1
      have htl := kq (tail', LO (zs' ++ delta) nt₃) (by simp)
      have T := T.up e₂
      have hdx := e₂ _ _ hdx
      refine insert_tail5 (g := Heap.hide _ x) (T.up F₂.hid) (hide_ext _ _) (Heap.hide_self _ _) F₂.head (F₂.hid _ _ hdx) ((R'.up e₂).up F₂.hid) (F₂.hid _ _ htl) rfl (by simp at hfl; (clear hgx hgt hxt hsh ht hn hz hn2 hroom hh hxo ms mq ml mo hz' hcat hoff hs hlt hdl hdle htake hx₃ ht₃ hfull htl hdx; omega)) (by simp at hfl; (clear hgx hgt hxt hsh ht hn hz hroom hh hxo ms mq ml mo hn' hz' hcat hoff hs hdl htake hx₃ ht₃ hfull htl hdx hfl; omega)) (by walk_at "room") hh ?_
      intro h₄ tk₄ D E1 t2₄ g₄ d₄ e₄ e₄' nx₄ nE₄ hE1n hx₄ R₄ hE1
      obtain ⟨b₃, e₅, F₆, kk⟩ := F₂.regrow e₄ e₄' nx₄ nE₄ hE1n hx₄ hE1
      have R₆ := R₄.lk kk
      have hyn : ∀ ys ∈ yss' ++ [zs' ++ delta], ys.length = 32 := fun ys hm => by
        rcases List.mem_append.mp hm with hm | hm
        · exact hy' ys hm
        · rw [List.mem_singleton.mp hm]; exact hfl
      walk_at "r"
      rw [show n + (off : Int) + (delta.length : Int) = n + ((off + delta.length : Nat) : Int) by (clear hgx hgt hxt hsh ht hn hz hn2 hroom hh hxo ms mq ml mo hn' hz' hcat hoff hs hlt hdl hdle htake hx₃ ht₃ hfull hfl htl hdx nx₄ nE₄ hE1n hx₄ hE1; omega), show (off : Int) + (delta.length : Int) = ((off + delta.length : Nat) : Int) by exact rfl] at F₆
      simp only [List.length_append] at hfl
      refine TurnEnd.mk0 F₆ (e₂.trans e₅) ⟨2 * (seq.length - (off + delta.length)) + 0, ?_, off + delta.length, D, E1, _, _, _, _, d₄, yss' ++ [zs' ++ delta], [], _, by walk_at "look", by walk_at "look", by walk_at "look", by walk_at "look", rfl, R₆, ?_, by simp, hyn, ?_, ?_, by simp⟩
      · split <;> omega
      · simp only [List.length_append, List.length_cons, List.length_nil]; (clear hgx hgt hxt hsh ht hn hz hn2 hroom hh hxo ms mq ml mo hz' hcat hoff hs hlt hdl hdle htake hx₃ ht₃ hfull htl hdx nx₄ nE₄ hE1n hx₄ hE1; omega)
      · rw [List.flatten_append, List.append_nil, htake]; simp only [List.flatten_cons, List.flatten_nil, List.append_nil]; rw [← List.append_assoc, hcat, List.append_assoc]
      · (clear hgx hgt hxt hsh ht hn hz hn2 hroom hh hxo ms mq ml mo hn' hz' hcat hoff hs hdl htake hx₃ ht₃ hfull htl hdx nx₄ nE₄ hE1n hx₄ hE1 hfl; omega)
    · rw [if_neg (by simp at hfull ⊢; (clear hgx hgt hxt hsh ht hn hz hn2 hroom hh hxo ms mq ml mo hn' hz' hcat hoff hdx hs hlt hdl hdle htake hx₃ ht₃; omega))]
      walk_at "r"
      rw [show n + (off : Int) + (delta.length : Int) = n + ((off + delta.length : Nat) : Int) by (clear hgx hgt hxt hsh ht hn hz hn2 hroom hh hxo ms mq ml mo hn' hz' hcat hoff hdx hs hlt hdl hdle htake hx₃ ht₃ hfull; omega), show (off : Int) + (delta.length : Int) = ((off + delta.length : Nat) : Int) by exact rfl] at F
      simp only [List.length_append] at hfull
      refine TurnEnd.mk0 F .rfl' ⟨2 * (seq.length - (off + delta.length)) + (if (zs' ++ delta).length = 32 then 1 else 0), ?_, off + delta.length, root', tail', _, _, _, _, d', yss', zs' ++ delta, _, by walk_at "look", by walk_at "look", by walk_at "look", by walk_at "look", rfl, R', ?_, ?_, hy', ?_, ?_, rfl⟩
      · simp only [List.length_append]; split <;> split <;> omega
      · simp only [List.length_append]; (clear hgx hgt hxt hsh ht hn hz hn2 hroom hh hxo ms mq ml mo hz' hcat hoff hdx hs hlt hdl hdle htake hx₃ ht₃ hfull; omega)
      · simp only [List.length_append]; (clear hgx hgt hxt hsh ht hn hz hn2 hroom hh hxo ms mq ml mo hn' hcat hoff hdx hs hlt hdl htake hx₃ ht₃ hfull; omega)
      · rw [← List.append_assoc, hcat, htake, List.append_assoc]
      · (clear hgx hgt hxt hsh ht hn hz hn2 hroom hh hxo ms mq ml mo hn' hz' hcat hoff hdx hs hdl htake hx₃ ht₃ hfull; omega)
  · rw [decide_eq_false (by (clear hgx hgt hxt hsh ht hn hz hn2 hroom hh hxo ms mq ml mo hn' hz' hcat hoff hdx hs; omega)), if_neg (by decide)]
    have ho : off = seq.length := by (clear hgx hgt hxt hsh ht hn hz hn2 hroom hh hxo ms mq ml mo hn' hz' hcat hdx hs; omega)
    subst ho
    walk_at "r"
    refine lc_len F.head2 (by exact Nat.le_trans hz' (by decide)) ?_
    intro t6 tk6
    walk_at "r"
    refine sa_tail_offset F (T.up F.keep).X (F.keep _ _ hdx) ?_
    clear F; intro hq F
    walk_at "r"
    rw [List.take_length] at hcat
    have gt : g.get? tail' = none := eb.none (e₁.none (F.out _ (.tail _ (.head _))))
    exact h _ _ root' tail' _ _ _ _ d' yss' zs' (eb.trans (e₁.trans F.keep)) F.head (R'.up F.keep) F.head2 gt F.ne12 hy' hz' hcat
end
namespace Rn
theorem entry_ga : entryFor table "range.__getattribute__" = some Builtin.«object.__getattribute__» :=
  entryFor_alias (id' := "object.__getattribute__") (by kernel_rfl) (by first | rfl | decide +kernel) (by decide +kernel) (by kernel_rfl)
theorem lk_class : typeLookup (.type "range") "__class__" = pure (some (.builtin "object.__class__")) := by rw [typeLookup_type, builtinLookup_eq_fast]; kernel_rfl
theorem sub_class : isSubtype (.type "range") (.type (".".intercalate ("object.__class__".cutAt '.').dropLast)) = pure true := by
  rw [F.owner_object_class, isSubtype_type]; kernel_rfl
section
variable {prog : Program} {w : World} {A : Around} {E : Value → Shared → Prop} {h : Heap} {g : Array GenState} {d : Drawn} {t : Nat} {os : OsState} {a : Addr} {o : Obj}
theorem get {R : Result → Shared → Prop} (hx : h.get? a = some o) (hc : o.cls = .type "range") (hq : R (.ok (.ret (.type "range"))) ⟨h, g, d, t, os⟩) :
    codeAny (model prog w) A (.call (.builtin "getset_descriptor.__get__") ⟨[.builtin "object.__class__", .ref a, .type "range"], []⟩) R ⟨h, g, d, t, os⟩ := by
  have hT : (⟨h, g, d, t, os⟩ : Shared).TypeIs (.ref a) "range" := ⟨_, hx, hc⟩
  have hT5 : (⟨h, g, d, t, os⟩ : Shared).TypeIs (.builtin "object.__class__") "getset_descriptor" := F.typeOf_object_class
  have f8 := sub_class
  refine codeAny_call_builtin F.slot_gs_get.plain F.entry_gs_get (F.slot_gs_get.check _ _ _ _ _ _ _ _ hT5 (F.args_gs_get _ _ _) ?_)
  repeat (any_goals (first | assumption | wp_step))
  refine ⟨Code.quiet_builtin _ (by decide +kernel), codeAny_builtin F.entry_object_class ?_⟩
  repeat (any_goals (first | assumption | wp_step))
theorem entry {tk : Tok} {Q : Fin → Shared → Prop} (hx : h.get? a = some o) (hc : o.cls = .type "range") (hq : Q (.done (.ret (.type "range"))) ⟨h, g, d, t, os⟩) :
    wpAny (model prog w) A (Builtin.«object.__getattribute__» ⟨[.ref a, .str "__class__" tk], []⟩) Q E ⟨h, g, d, t, os⟩ := by
  have hT : (⟨h, g, d, t, os⟩ : Shared).TypeIs (.ref a) "range" := ⟨_, hx, hc⟩
  have hT5 : (⟨h, g, d, t, os⟩ : Shared).TypeIs (.builtin "object.__class__") "getset_descriptor" := F.typeOf_object_class
  have f4 := lk_class
  have f5 := F.typeOf_object_class
  have f6 := F.slot_gs_get.lookup
  have f7 := F.slot_gs_set.lookup
  repeat (any_goals (first | assumption | wp_step))
  refine get hx hc ?_
  repeat (any_goals (first | assumption | wp_step))
theorem attr {Q : Option Value → Shared → Prop} (hx : h.get? a = some o) (hc : o.cls = .type "range") (hq : Q (some (.type "range")) ⟨h, g, d, t + 1, os⟩) : wpAny (model prog w) A (getAttr? (.ref a) "__class__") Q E ⟨h, g, d, t, os⟩ := by
  unfold getAttr? getAttrBy?
  have by' : ∀ {tk : Tok} {Q : Value → Shared → Prop} {E : Value → Shared → Prop}, Q (.type "range") ⟨h, g, d, t + 1, os⟩ → wpAny (model prog w) A (getAttrBy (.ref a) (.str "__class__" tk) false) Q E ⟨h, g, d, t + 1, os⟩ := fun hq => by
    have hT : (⟨h, g, d, t + 1, os⟩ : Shared).TypeIs (.ref a) "range" := ⟨_, hx, hc⟩
    have f2 := F.slot_range_getattribute.lookup
    have f3 := F.slot_range_getattribute.bind (.ref a)
    repeat (any_goals (first | assumption | wp_step))
    refine codeAny_call_builtin F.slot_range_getattribute.plain entry_ga (F.slot_range_getattribute.check _ _ _ _ _ _ _ _ hT (F.args_range_getattribute_2 _ _) (entry hx hc ?_))
    repeat (any_goals (first | assumption | wp_step))
  repeat (any_goals (first | assumption | with_reducible apply by' | wp_step))
theorem kit {K : Frag} : KitX K (.ref a) (.type "range") (KitAt a "range") := kitx_of kitAt_ty (fun {_ _ _ _ _ s} p k => by obtain ⟨h, g, d, t, os⟩ := s; obtain ⟨o, h1, h2⟩ := p; exact attr h1 h2 k)
end
end Rn
/-- a vector over h, and what it holds -/
def VecAt (h : Heap) (x : Addr) (xs : List Value) : Prop :=
  ∃ (dx root tail : Addr) (n toff sh : Int) (t1 t2 t3 : Tok) (d : Nat) (yss : List (List Value)) (zs : List Value) (nt : Nat), h.get? x = some (VO dx n root sh tail toff t1 t2 t3) ∧ h.get? dx = some emptyDict ∧ Rt h d root yss ∧ h.get? tail = some (LO zs nt) ∧ sh = 5 * ((d : Int) + 1) ∧
    n = 32 * yss.length + zs.length ∧ toff = n - zs.length ∧ zs.length ≤ 32 ∧ (∀ ys ∈ yss, ys.length = 32) ∧ xs = yss.flatten ++ zs
theorem VecAt.up {h h' : Heap} {x : Addr} {xs : List Value} (V : VecAt h x xs) (e : Ext h h') : VecAt h' x xs := by
  obtain ⟨dx, root, tail, n, toff, sh, t1, t2, t3, d, yss, zs, nt, a, b, c, q, r⟩ := V
  exact ⟨dx, root, tail, n, toff, sh, t1, t2, t3, d, yss, zs, nt, e _ _ a, e _ _ b, c.up e, e _ _ q, r⟩
theorem flat_len : ∀ {yss : List (List Value)}, (∀ ys ∈ yss, ys.length = 32) → yss.flatten.length = 32 * yss.length
  | [], _ => rfl
  | y :: r, h => by
    rw [List.flatten_cons, List.length_append, flat_len (fun ys m => h ys (.tail _ m)), h y (.head _), List.length_cons]; omega
theorem VecAt.len {h : Heap} {x : Addr} {xs : List Value} (V : VecAt h x xs) : ∃ dx root tail n toff sh t1 t2 t3, h.get? x = some (VO dx n root sh tail toff t1 t2 t3) ∧ h.get? dx = some emptyDict ∧ n = xs.length := by
  obtain ⟨dx, root, tail, n, toff, sh, t1, t2, t3, d, yss, zs, nt, a, b, c, q, e0, e1, e2, e3, e4, rfl⟩ := V
  exact ⟨dx, root, tail, n, toff, sh, t1, t2, t3, a, b, by rw [List.length_append, flat_len e4]; exact e1⟩
/-- whose last row tl is, whose namespace dx -/
def TailOf (h : Heap) (x tl dx : Addr) : Prop := ∃ root n toff sh t1 t2 t3, h.get? x = some (VO dx n root sh tl toff t1 t2 t3)
theorem TailOf.up {h h' : Heap} {x tl dx : Addr} (t : TailOf h x tl dx) (e : Ext h h') : TailOf h' x tl dx := let ⟨root, n, toff, sh, t1, t2, t3, q⟩ := t; ⟨root, n, toff, sh, t1, t2, t3, e _ _ q⟩
theorem TailOf.same {h : Heap} {x tl tl' dx dx' : Addr} (a : TailOf h x tl dx) (b : TailOf h x tl' dx') : tl = tl' ∧ dx = dx' := by
  obtain ⟨r, n, tf, sh, t1, t2, t3, a⟩ := a
  obtain ⟨r', n', tf', sh', t1', t2', t3', b⟩ := b
  rw [a] at b
  have := Option.some.inj b
  simp only [VO, IO] at this
  injection this with _ q1 _ q
  simp at q q1
  exact ⟨q.2.2.2.1, q1⟩
theorem VecAt.tail {h : Heap} {x : Addr} {xs : List Value} (V : VecAt h x xs) : ∃ tl dx, TailOf h x tl dx ∧ (∃ o, h.get? tl = some o) ∧ ∃ o, h.get? dx = some o := let ⟨dx, root, tail, n, toff, sh, t1, t2, t3, d, yss, zs, nt, a, b, _, c, r⟩ := V; ⟨tail, dx, ⟨root, n, toff, sh, t1, t2, t3, a⟩, ⟨_, c⟩, ⟨_, b⟩⟩
/-- the last row of the new vector is new, or that of the old one; so its namespace -/
def NewTl (hp : Heap) (x : Addr) (h' : Heap) (x' : Addr) : Prop := ∃ tl dx, TailOf h' x' tl dx ∧ (hp.get? tl = none ∨ ∃ d0, TailOf hp x tl d0) ∧ (hp.get? dx = none ∨ ∃ t0, TailOf hp x t0 dx)
section
variable {prog : Program} {w : World} {A : Around} {E : Value → Shared → Prop} {hp : Heap} {gs : Array GenState} {dr : Drawn} {tk : Nat} {os : OsState} {mg mb : Str → Option Value} {x dx : Addr} {sl : List (Option Value)} {Q : Value → Shared → Prop}
theorem isi_list {l : Addr} {items : List Value} {n : Nat} (X : (KK w).In hp) (hl : hp.get? l = some (LO items n)) (h : ∀ tk, Q (.bool false) ⟨hp, gs, dr, tk, os⟩) : wpAny (model prog w) A (call (.builtin "isinstance") [.ref l, .ref aC]) Q E ⟨hp, gs, dr, tk, os⟩ :=
  kia_one kitx_list X ⟨_, hl, rfl⟩ (by kernel_rfl) (by intro q; cases q) h
theorem empty_vec (X : (KK w).In hp) : VecAt hp aEmpty [] := by
  have h1 : ∃ dx root n tail toff t1 t2 t3 nr nt, (KK w).lookup aEmpty = some (VO dx n root 5 tail toff t1 t2 t3) ∧ (KK w).lookup dx = some emptyDict ∧ (KK w).lookup root = some (LO [] nr) ∧ (KK w).lookup tail = some (LO [] nt) ∧ n = 0 ∧ toff = 0 :=
    ⟨_, _, _, _, _, _, _, _, _, _, by with_unfolding_all rfl, by with_unfolding_all rfl, by with_unfolding_all rfl, by with_unfolding_all rfl, rfl, rfl⟩
  obtain ⟨dx, root, n, tail, toff, t1, t2, t3, nr, nt, a, b, c, d, rfl, rfl⟩ := h1
  exact ⟨dx, root, tail, 0, 0, 5, t1, t2, t3, 0, [], [], nt, X _ _ a, X _ _ b, ⟨[], ⟨nr, X _ _ c⟩, ⟨rfl, fun i v ys q => by simp at q⟩, by simp, by decide⟩, X _ _ d, by decide, rfl, rfl, by decide, (fun _ m => nomatch m), rfl⟩
/-- what extend may be handed: a list, or a row of numbers -/
def Src (h : Heap) (v : Value) (P : List Value → Prop) : Prop := (∃ l ys n, v = .ref l ∧ h.get? l = some (LO ys n) ∧ ys.length ≤ 50000 ∧ P ys) ∨ ∃ r i0 i1 t u q, v = .ref r ∧ h.get? r = some (RgO i0 i1 1 t u q) ∧ -1000000 ≤ i0 ∧ i0 ≤ i1 ∧ i1 ≤ 1000000 ∧ i1 - i0 ≤ 50000 ∧ ∀ ys, IntsAre ys (rangeL i0 1 (i1 - i0).toNat) → P ys
theorem Src.up {h h' : Heap} {v : Value} {P : List Value → Prop} (S : Src h v P) (e : Ext h h') : Src h' v P := by
  rcases S with ⟨l, ys, n, a, b, c⟩ | ⟨r, i0, i1, t, u, q, a, b, c⟩
  · exact .inl ⟨l, ys, n, a, e _ _ b, c⟩
  · exact .inr ⟨r, i0, i1, t, u, q, a, e _ _ b, c⟩
theorem Lk.of_frame {b h' : Heap} {L : Addr} {m : Str → Option Value} {own : List (Addr × Obj)} {as : List Addr} {b₂ : Heap} (F : Fx b L h' m own) (k : ∀ c oc, c ≠ L → (hideAll h' as).get? c = some oc → b₂.get? c = some oc) : Lk (hideAll h' as) b₂ :=
  fun c _ _ e => k c _ (F.notL' (of_hideAll _ e) (fun _ _ => by simp)) e
set_option maxHeartbeats 4000000 in
theorem extend5 {xs : List Value} {P : List Value → Prop} {v : Value} (T : Tp (KK w) mg mb hp) (V : VecAt hp x xs) (S : Src hp v P) (hn : xs.length < 40000 ∧ ∀ ys, P ys → xs.length + ys.length < 40000) (hroom : A.depth < 400) (hh : A.handled = none)
    (h : ∀ x' ys h' tk, Ext hp h' → P ys → VecAt h' x' (xs ++ ys) → NewTl hp x h' x' → Q (.ref x') ⟨h', gs, dr, tk, os⟩) :
    wpAny (model prog w) A (call (.ref m_extend) [.ref x, v]) Q E ⟨hp, gs, dr, tk, os⟩ := by
  refine wpAny_call ?_
  refine call_fx [] (binds := [(Str.ofString "self", .ref x), (Str.ofString "obj", v)]) (by walk_at "room") (T.X _ _ (lk m_extend (by kernel_rfl))) (by with_unfolding_all rfl) T.nolimit (codeRec_of T.X (by kernel_rfl)) (BindsTo.of_eq (by with_unfolding_all rfl)) (locs (by with_unfolding_all rfl)) (fun _ q => nomatch q) List.nodup_nil ?_ (by decide +kernel)
  intro L h₁ tk F
  have F : Fx hp L h₁ (fun y => List.lookup y [(Str.ofString "self", Value.ref x), (Str.ofString "obj", v)].reverse) [] := F
  walk_at "r"
  refine wpAny_mono (Q := fun u s' => ∃ D c ys h' tk', u = .ref D ∧ s' = ⟨h', gs, dr, tk', os⟩ ∧ P ys ∧ Fx hp L h' (fun y => List.lookup y [(Str.ofString "self", Value.ref x), (Str.ofString "obj", v)].reverse) [(D, LO ys c)]) ?_ ?_ fun _ _ z => z
  · refine wpAny_IfExp ?_
    rcases S with ⟨l, ys, nl, rfl, hl, hyl, hP⟩ | ⟨r, i0, i1, t, u, q, rfl, hr, c1, c2, c3, c4, hP⟩
    · walk_at "r"
      refine isi_list (T.up F.keep).X (F.keep _ _ hl) ?_
      intro tk'
      walk_at "r"
      rw [if_neg (by decide)]
      walk_at "r"
      refine lc_copy F (F.keep _ _ hl) (by exact Nat.le_trans hyl (by decide)) ?_
      clear F; intro D c hq F _
      exact ⟨D, c, ys, _, _, rfl, rfl, hP, F⟩
    · walk_at "r"
      refine kia_one (b := false) Rn.kit (T.up F.keep).X ⟨_, F.keep _ _ hr, rfl⟩ (by kernel_rfl) (by intro q; cases q) ?_
      intro tk'
      walk_at "r"
      rw [if_neg (by decide)]
      walk_at "r"
      refine lc_range (n := (i1 - i0).toNat) F (F.keep _ _ hr) (rsmall ⟨by exact c1, by exact Int.le_trans c2 c3⟩ ⟨by exact Int.le_trans c1 c2, by exact c3⟩ ⟨by exact Int.natCast_nonneg _, by exact Int.natCast_nonneg _⟩ (by decide)) ?_ (by omega) hh ?_
      · exact rangeSize_nat _ _
      clear F; intro D c ys hq tk' F _ hi
      exact ⟨D, c, ys, _, _, rfl, rfl, hP ys hi, F⟩
  rintro u s' ⟨D, c, ys, h₂, tk₂, rfl, rfl, hP, F⟩
  have hn0 := hn.1
  have hn := hn.2 ys hP
  walk_at "r"
  refine tr_list F.head (by (clear hroom hh hn0; omega)) ?_
  intro tk₃
  cases ys with
  | nil =>
    rw [if_neg (by simp)]
    walk_at "r"
    obtain ⟨tl, dx, ht, _⟩ := V.tail
    exact h x [] _ _ F.keep hP (by rw [List.append_nil]; exact V.up F.keep) ⟨tl, dx, ht.up F.keep, .inr ⟨_, ht⟩, .inr ⟨_, ht⟩⟩
  | cons y0 rest =>
    rw [if_pos (by simp)]
    obtain ⟨b₁, e₁, F₁, kD, _, _⟩ := F.freezeA
    have hD := kD (D, LO (y0 :: rest) c) (by simp)
    clear F
    have F := F₁; clear F₁
    have T := T.up e₁
    have V := V.up e₁
    obtain ⟨dx, root, tail, n, toff, sh, t1, t2, t3, d, yss, zs, nt, hx, hdx, R, ht, hsh, e5, e6, e7, e8, e9⟩ := id V
    have hlen : (n : Int) = xs.length := by rw [e9, List.length_append, flat_len e8]; exact e5
    rw [List.length_cons] at hn
    walk_at "r"
    refine gm_append (T.up F.keep).X (F.keep _ _ hx) (F.keep _ _ hdx) ?_
    refine cw_fn T (by kernel_rfl) ?_
    walk_at "r"
    refine sub_list (F.keep _ _ hD) (by decide) (by decide) rfl ?_
    walk_at "r"
    refine ⟨F.keep, ?_⟩
    refine append5 (T.up F.keep) (F.keep _ _ hx) (F.keep _ _ hdx) (R.up F.keep) (F.keep _ _ ht) hsh e5 e7 (by omega) (by walk_at "room") hh ?_
    intro x' dx' root' tail' h' tk' t1' t2' t3' nt' d' yss' zs' eg hxn htn hdn hxt hdx' R' ht' hx' hc
    have hdn0 := F.keep.none hdn
    obtain ⟨b₂, e₂, F₂, k₂⟩ := F.take2 eg hxt hx' ht' hxn htn
    have hdx₂ : b₂.get? dx' = some emptyDict := k₂ _ _ (fun q => by obtain ⟨oL, _, _, hL, _⟩ := F.ns; rw [← q, hdn] at hL; cases hL) hdx'
    have R₂ : Rt b₂ d' root' yss' := R'.lk (Lk.of_frame F₂ k₂)
    clear F
    have F := F₂; clear F₂
    have T := T.up e₂
    have hD := e₂ _ _ hD
    have hcat : yss'.flatten ++ zs' = xs ++ [y0] ∧ zs'.length ≤ 32 ∧ (∀ ys ∈ yss', ys.length = 32) ∧ n + 1 = 32 * yss'.length + zs'.length := by
      rcases hc with ⟨c1, rfl, rfl⟩ | ⟨c1, rfl, rfl⟩
      · exact ⟨by rw [e9, List.append_assoc], by simp; (clear hroom hh hn0 hn hx hdx ht hsh e6 e7 hlen hxn htn hdn hxt hdx' hdn0 hdx₂ hD e5 e9 ht' hx'; omega), e8, by simp; (clear hroom hh hn0 hn hx hdx ht hsh e6 e7 hlen hxn htn hdn hxt hdx' hdn0 hdx₂ hD c1 e9 ht' hx'; omega)⟩
      · refine ⟨by rw [e9]; simp, by simp, fun ys hm => ?_, by simp; (clear hroom hh hn0 hn hx hdx ht hsh e6 e7 e9 hlen hxn htn hdn hxt hdx' hdn0 hdx₂ hD ht' hx'; omega)⟩
        rcases List.mem_append.mp hm with hm | hm
        · exact e8 ys hm
        · rw [List.mem_singleton.mp hm]; exact c1
    obtain ⟨hcat, hz', hy', hn'⟩ := hcat
    walk_at "r"
    refine gm_mutating_extend (T.up F.keep).X F.head (F.keep _ _ hdx₂) ?_
    refine cw_fn T (by kernel_rfl) ?_
    walk_at "r"
    refine cut_list (lo := some ((1 : Nat) : Int)) (hi := none) F (F.keep _ _ hD) (by simp; (clear hroom hh hn0 hx hdx ht hsh e5 e6 e7 e9 hlen hxn htn hdn hxt hdx' ht' hx' hc hdn0 hdx₂ hD hcat hz' hn'; omega)) (.int _ _) .none ?_
    clear F; intro D2 hq F _
    have ecut : cutL (y0 :: rest) (some ((1 : Nat) : Int)) none = rest := by unfold cutL; rw [slicePick_from']; simp
    rw [ecut] at F
    walk_at "r"
    refine ⟨F.keep, ?_⟩
    have F := F.rot3'
    have hid := F.hid2
    refine mut_extend5 (g := hideAll _ [x', tail']) (T.up F.hid2) (fun _ _ e => of_hideAll _ e) (hideAll_none _ (by simp)) (hideAll_none _ (by simp)) hxt F.head (F.hid2 _ _ hdx₂) (R₂.up F.hid2) rfl F.head2 (hideAll_get _ F.head3 (by simp [F.rot3.ne12, F.rot3.ne13])) hn' hz' hy' (by (clear hroom hh hn0 hx hdx ht hsh e5 e6 e7 e9 hxn htn hdn hxt hdx' ht' hx' hc hdn0 hdx₂ hD hcat hz' hn' ecut; omega)) (by walk_at "room") hh ?_
    intro h₄ tk₄ root₄ tail₄ u1 u2 u3 nt₄ d₄ yss₄ zs₄ e₄ hx₄ R₄ ht₄ gt₄ hxt₄ hy₄ hz₄ hcat₄
    have F := F.only e₄ (by simp)
    walk_at "r"
    refine h x' (y0 :: rest) _ _ (e₁.trans (e₂.trans F.keep)) hP ⟨dx', root₄, tail₄, _, _, _, u1, u2, u3, d₄, yss₄, zs₄, nt₄, hx₄, F.keep _ _ hdx₂, R₄, ht₄, rfl, ?_, rfl, hz₄, hy₄, ?_⟩ ⟨tail₄, dx', ⟨_, _, _, _, _, _, _, hx₄⟩, .inl (e₁.none (e₂.none (hid.none gt₄))), .inl (e₁.none hdn0)⟩
    · have q := congrArg List.length (hcat₄.trans (by rw [hcat]))
      simp only [List.length_append, flat_len hy₄, List.length_cons, List.length_nil] at q
      (clear hroom hh hn0 hn hx hdx ht hsh e5 e6 e7 e9 hxn htn hdn hxt hdx' ht' hx' hc hdn0 hdx₂ hD hcat hz' hn' ecut hx₄ ht₄ gt₄ hxt₄ hz₄ hcat₄; omega)
    · rw [hcat₄, hcat]; simp
set_option maxHeartbeats 4000000 in
theorem append_vec {xs : List Value} {v : Value} (T : Tp (KK w) mg mb hp) (V : VecAt hp x xs) (hn : xs.length < 40000) (hroom : A.depth < 400) (hh : A.handled = none)
    (h : ∀ x' h' tk, Ext hp h' → VecAt h' x' (xs ++ [v]) → NewTl hp x h' x' → Q (.ref x') ⟨h', gs, dr, tk, os⟩) :
    wpAny (model prog w) A (call (.ref m_append) [.ref x, v]) Q E ⟨hp, gs, dr, tk, os⟩ := by
  obtain ⟨dx, root, tail, n, toff, sh, t1, t2, t3, d, yss, zs, nt, hx, hdx, R, ht, hsh, e5, e6, e7, e8, e9⟩ := id V
  have hlen : (n : Int) = xs.length := by rw [e9, List.length_append, flat_len e8]; exact e5
  refine append5 T hx hdx R ht hsh e5 e7 (by (clear hroom hh hx hdx ht hsh e5 e6 e7 e9; omega)) (by exact Nat.lt_of_lt_of_le hroom (by decide)) hh ?_
  intro x' dx' root' tail' h' tk' t1' t2' t3' nt' d' yss' zs' eg hxn htn hdn hxt hdx' R' ht' hx' hc
  have dn : Ext (hideAll h' [x', tail']) h' := fun c oc e => of_hideAll _ e
  have hcat : yss'.flatten ++ zs' = xs ++ [v] ∧ zs'.length ≤ 32 ∧ (∀ ys ∈ yss', ys.length = 32) ∧ n + 1 = 32 * yss'.length + zs'.length := by
    rcases hc with ⟨c1, rfl, rfl⟩ | ⟨c1, rfl, rfl⟩
    · exact ⟨by rw [e9, List.append_assoc], by simp; (clear hn hroom hh hx hdx ht hsh e6 e7 hlen hxn htn hdn hxt hdx' e5 e9 ht' hx'; omega), e8, by simp; (clear hn hroom hh hx hdx ht hsh e6 e7 hlen hxn htn hdn hxt hdx' c1 e9 ht' hx'; omega)⟩
    · refine ⟨by rw [e9]; simp, by simp, fun ys hm => ?_, by simp; (clear hn hroom hh hx hdx ht hsh e6 e7 e9 hlen hxn htn hdn hxt hdx' ht' hx'; omega)⟩
      rcases List.mem_append.mp hm with hm | hm
      · exact e8 ys hm
      · rw [List.mem_singleton.mp hm]; exact c1
  obtain ⟨hcat, hz', hy', hn'⟩ := hcat
  exact h x' h' _ (eg.trans dn) ⟨dx', root', tail', _, _, _, t1', t2', t3', d', yss', zs', nt', hx', dn _ _ hdx', R'.up dn, ht', rfl, hn', rfl, hz', hy', hcat.symm⟩ ⟨tail', dx', ⟨_, _, _, _, _, _, _, hx'⟩, .inl htn, .inl hdn⟩
theorem tolist_vec {xs : List Value} (T : Tp (KK w) mg mb hp) (V : VecAt hp x xs) (hn : xs.length < 40000) (hroom : A.depth < 700) (hh : A.handled = none)
    (h : ∀ D c h' tk, Ext hp h' → hp.get? D = none → h'.get? D = some (LO xs c) → Q (.ref D) ⟨h', gs, dr, tk, os⟩) :
    wpAny (model prog w) A (call (.ref m_tolist) [.ref x]) Q E ⟨hp, gs, dr, tk, os⟩ := by
  obtain ⟨dx, root, tail, n, toff, sh, t1, t2, t3, d, yss, zs, nt, hx, hdx, R, ht, hsh, e5, e6, e7, e8, e9⟩ := id V
  have hd : d ≤ 2 := by obtain ⟨_, _, _, _, q⟩ := R; exact q
  refine tolist_spec (k := d + 1) T hx hdx (by rw [hsh]; push_cast; rfl) R.tree ht (by omega) hh (by rw [← List.length_append, ← e9]; exact Nat.le_of_lt (Nat.lt_of_lt_of_le hn (by decide))) ?_
  intro D c h' tk' eh hDn hD
  exact h D c h' tk' eh hDn (by rw [e9]; exact hD)
end
theorem NewTl.from {h₀ hp h' : Heap} {x x' : Addr} {xs : List Value} (n : NewTl hp x h' x') (e : Ext h₀ hp) (V : VecAt h₀ x xs) : NewTl h₀ x h' x' := by
  obtain ⟨tl, dx, a, b, c⟩ := n
  obtain ⟨tl', dx', t, _⟩ := V.tail
  refine ⟨tl, dx, a, ?_, ?_⟩
  · rcases b with b | ⟨d0, b⟩
    · exact .inl (e.none b)
    · obtain ⟨rfl, rfl⟩ := (t.up e).same b
      exact .inr ⟨_, t⟩
  · rcases c with c | ⟨t0, c⟩
    · exact .inl (e.none c)
    · obtain ⟨rfl, rfl⟩ := (t.up e).same c
      exact .inr ⟨_, t⟩
theorem execs_of {M : Model} {A : Around} {E : Value → Shared → Prop} {Q : Flow → Shared → Prop} {l l' : List Stmt} {env env' : Env} {s : Shared} (h1 : l = l') (h2 : env = env') (h : wpAny M A (execs l' env') Q E s) : wpAny M A (execs l env) Q E s := by
  subst h1 h2; exact h
/-- a function's statements, its frame: taken out of the written part -/
noncomputable def fnRec (w : World) (a : Addr) : FuncData := match (ob w a).data with | .func fd => fd | _ => default
noncomputable def stmtsAt (w : World) (a : Addr) : List Stmt := match (fnRec w a).body with | .stmts l => l | _ => []
noncomputable def envAt (w : World) (a L : Addr) : Env := envX (fnRec w a).qualname (fnRec w a).scope L a (fnRec w a).code []
section
variable {prog : Program} {w : World} {A : Around} {E : Value → Shared → Prop}
theorem nm_loc {cn : Str} {cs : Scope} {L a : Addr} {ccd : Value} {cl : List (Str × Addr)} {n : Str} {pos : Pos} {Q : Value → Shared → Prop} {s : Shared} (hx : (envX cn cs L a ccd cl).kindOf n = some .local) (h : wpAny (model prog w) A (loadName (envX cn cs L a ccd cl) n) Q E s) (hd : (n == ("__debug__" : Str)) = false := by decide) :
    wpAny (model prog w) A (eval (.Name n pos) (envX cn cs L a ccd cl)) Q E s := wpAny_Name h hd
end
local macro_rules | `(tactic| walk_at "mem") => `(tactic| repeat (first | exact .head _ | refine .tail _ ?_))
local macro_rules | `(tactic| walk_at "cel") => do
  let F := Lean.mkIdent `F; let val := Lean.mkIdent `number; let tv := Lean.mkIdent `tv; let L := Lean.mkIdent `L; let o1 := Lean.mkIdent `o1
  `(tactic| ((with_reducible show wpAny _ _ (eval (Expr.Name _ _) _) _ _ _); refine n_cell (hm := Fx.has $F ($L + 1, CX $o1 (some (Value.int $val $tv))) (by walk_at "mem")) (by with_unfolding_all rfl) rfl ?_))
local macro_rules | `(tactic| walk_at "look2") => `(tactic| first
  | with_unfolding_all rfl
  | ((try dsimp only); repeat' (first | assumption | with_reducible exact look_hit rfl | with_reducible refine look_miss (by decide) ?_)))
local macro_rules | `(tactic| walk_at "nm") => do
  let F := Lean.mkIdent `F
  `(tactic| ((with_reducible show wpAny _ _ (eval (Expr.Name _ _) _) _ _ _); first
    | (refine nm_loc (by with_unfolding_all rfl) ?_; refine l_loc $F (by walk_at "look2") ?_)
    | walk_at "cel"
    | walk_at "glob"))
local macro_rules | `(tactic| walk_at "bo") => `(tactic| first
  | with_reducible refine BoolOp_or ?_
  | with_reducible refine BoolOp_one ?_)
local macro_rules | `(tactic| walk_at "rc") => `(tactic| repeat (first | walk_at "nm" | walk_at "e" | walk_at "bo"))
theorem sh_at {i : Int} {q r j : Nat} (hi : i = ((32 * q + r : Nat) : Int)) (hr : r < 32) : Builtin.bitAnd (i.fdiv (2 ^ (5 * ((j : Int) + 1)).toNat)) 31 = ((q / 32 ^ j % 32 : Nat) : Int) := by
  rw [bitAnd_m5]
  have e2 : (2 : Int) ^ (5 * (j + 1)) = ((32 * 32 ^ j : Nat) : Int) := by
    rw [Int.pow_mul]
    rw [show (2 : Int) ^ 5 = ((32 : Nat) : Int) from rfl, ← Int.natCast_pow, Nat.pow_succ, Nat.mul_comm]
  rw [show (5 * ((j : Int) + 1)).toNat = 5 * (j + 1) by exact rfl, e2, Int.fdiv_eq_ediv_of_nonneg _ (Int.natCast_nonneg _), hi, ← Int.natCast_ediv, ← Nat.div_div_eq_div_mul, show (32 * q + r) / 32 = q by omega]
  rfl
theorem mod_at {q j : Nat} : (q % 32 ^ (j + 1)) / 32 ^ j = q / 32 ^ j % 32 ∧ (q % 32 ^ (j + 1)) % 32 ^ j = q % 32 ^ j := by
  have hB := p32 j
  have e := Nat.mod_mul (x := q) (a := 32 ^ j) (b := 32)
  rw [← Nat.pow_succ] at e
  have hm := Nat.mod_lt q hB
  rw [e]
  constructor
  · rw [Nat.add_mul_div_left _ _ hB, Nat.div_eq_of_lt hm, Nat.zero_add]
  · rw [Nat.add_mul_mod_self_left, Nat.mod_mod]
theorem flat_get : ∀ {yss : List (List Value)} (_ : ∀ ys ∈ yss, ys.length = 32) (q r : Nat) (ys : List Value), yss[q]? = some ys → r < 32 → yss.flatten[32 * q + r]? = ys[r]?
  | [], _, q, r, ys, h, _ => by simp at h
  | y :: rest, hy, 0, r, ys, h, hr => by
    simp at h
    subst h
    rw [List.flatten_cons, Nat.mul_zero, Nat.zero_add, List.getElem?_append_left (by rw [hy y (.head _)]; exact hr)]
  | y :: rest, hy, q + 1, r, ys, h, hr => by
    rw [List.getElem?_cons_succ] at h
    rw [List.flatten_cons, List.getElem?_append_right (by rw [hy y (.head _)]; (clear h hr; omega)), hy y (.head _), show 32 * (q + 1) + r - 32 = 32 * q + r by (clear h hr; omega)]
    exact flat_get (fun z m => hy z (.tail _ m)) q r ys h hr
section
variable {prog : Program} {w : World} {A : Around} {E : Value → Shared → Prop} {hp : Heap} {gs : Array GenState} {dr : Drawn} {tk : Nat} {os : OsState} {mg mb : Str → Option Value} {x dx : Addr} {sl : List (Option Value)} {Q : Value → Shared → Prop}
theorem text_short {i : Int} {y : Str} (hy : y.length ≤ 100) (h1 : -1000000 ≤ i) (h2 : i ≤ 1000000) : (y ++ PySem.Str.ofString (toString i)).length ≤ sizeLine ∧ (PySem.Str.ofString (toString i)).length ≤ sizeLine := by
  have e := int_text_length_le10 (a := i) (k := 10) (by decide) (by omega)
  rw [strLen_append, PySem.ofString_length, sizeLine_eq]; omega
set_option maxHeartbeats 1000000 in
theorem node_for5 {root tail : Addr} {n toff sh i : Int} {t1 t2 t3 ti : Tok} {d : Nat} {yss : List (List Value)} {zs : List Value} {nt : Nat} (T : Tp (KK w) mg mb hp) (hx : hp.get? x = some (VO dx n root sh tail toff t1 t2 t3)) (hdx : hp.get? dx = some emptyDict) (R : Rt hp d root yss) (ht : hp.get? tail = some (LO zs nt)) (hsh : sh = 5 * ((d : Int) + 1))
    (hn : n = 32 * yss.length + zs.length) (ho : toff = n - zs.length) (hz : zs.length ≤ 32) (hy : ∀ ys ∈ yss, ys.length = 32) (hi0 : 0 ≤ i) (hi : i < n) (hn2 : n < 60000) (hroom : A.depth < 600) (hh : A.handled = none)
    (h : ∀ l its c h' tk, Ext hp h' → h'.get? l = some (LO its c) → its.length ≤ 32 → its[(i % 32).toNat]? = (yss.flatten ++ zs)[i.toNat]? → Q (.ref l) ⟨h', gs, dr, tk, os⟩) :
    wpAny (model prog w) A (call (.ref m_node_for) [.ref x, .int i ti]) Q E ⟨hp, gs, dr, tk, os⟩ := by
  obtain ⟨ls, R, V, hl, hd⟩ := R
  refine wpAny_call ?_
  refine call_fx [] (binds := [(Str.ofString "pvector_like", .ref x), (Str.ofString "i", .int i ti)]) (by walk_at "room") (T.X _ _ (lk m_node_for (by kernel_rfl))) (by with_unfolding_all rfl) T.nolimit (codeRec_of T.X (by kernel_rfl)) (BindsTo.of_eq (by with_unfolding_all rfl)) (locs (by with_unfolding_all rfl)) (fun _ q => nomatch q) List.nodup_nil ?_ (by decide +kernel)
  intro L h₁ tk F
  have F : Fx hp L h₁ _ [] := F
  walk_at "r"
  rw [decide_eq_true hi0, if_pos rfl]
  walk_at "r"
  rw [decide_eq_true hi, if_pos rfl]
  walk_at "r"
  have hfl := flat_len hy
  by_cases ht0 : toff ≤ i
  · rw [decide_eq_true ht0, if_pos rfl]
    walk_at "r"
    refine h tail zs nt _ _ F.keep (F.keep _ _ ht) hz ?_
    rw [List.getElem?_append_right (by (clear hx hdx ht hsh hz hi0 hi hn2 hroom hh hl hd; omega)), hfl]
    congr 1
    (clear hx hdx ht hsh hi0 hn2 hroom hh hl hd hfl; omega)
  · rw [decide_eq_false ht0, if_neg (by decide)]
    walk_at "r"
    refine wpAny_For ?_
    walk_at "r"
    refine rg3 F (by decide) (by (clear hx hdx ht hn ho hz hi0 hi hn2 hroom hh hl hfl ht0; omega)) (by decide) (by decide) ?_
    clear F; intro rg hq F _
    obtain ⟨q, r, hir, hr⟩ : ∃ q r : Nat, i = ((32 * q + r : Nat) : Int) ∧ r < 32 := ⟨i.toNat / 32, i.toNat % 32, by (clear hx hdx ht hsh hn ho hz hi hn2 hroom hh hl hd hfl ht0; omega), by (clear hx hdx ht hsh hn ho hz hi0 hi hn2 hroom hh hl hd hfl ht0; omega)⟩
    have hql : q < yss.length := by (clear hx hdx ht hsh hz hi0 hi hn2 hroom hh hl hd hfl hr; omega)
    obtain ⟨ys, hys⟩ : ∃ ys, yss[q]? = some ys := ⟨_, List.getElem?_eq_getElem hql⟩
    obtain ⟨v, hv⟩ : ∃ v, ls[q]? = some v := ⟨_, List.getElem?_eq_getElem (by rw [V.1]; exact hql)⟩
    obtain ⟨c, nc, rfl, hcl⟩ := V.2 q v ys hv hys
    refine for_range (n := d + 1) F F.head (rsmall ⟨by (clear hx hdx ht hn ho hz hi0 hi hn2 hroom hh hl hd hfl ht0 hir hr hql hys hcl hv; omega), by (clear hx hdx ht hn ho hz hi0 hi hn2 hroom hh hl hfl ht0 hir hr hql hys hcl hv; omega)⟩ (by decide) (by decide) (by decide)) ?_ hh (fun k b' m' own' => m' (Str.ofString "pvector_like") = some (.ref x) ∧ m' (Str.ofString "i") = some (.int i ti) ∧ (k ≤ d → ∃ a ls', m' (Str.ofString "node") = some (.ref a) ∧ Tr hp (d - k) a ls' ∧ ls'[q % 32 ^ (d - k + 1)]? = some (.ref c)) ∧ (k = d + 1 → m' (Str.ofString "node") = some (.ref c))) ⟨rfl, rfl, fun _ => ⟨root, ls, rfl, R, ?_⟩, (fun e => by (clear hx hdx ht hsh hn ho hz hi0 hi hn2 hroom hh hl hd hfl ht0 hir hr hql hys hcl hv; omega))⟩ ?_ ?_
    · subst hsh; have : d = 0 ∨ d = 1 ∨ d = 2 := by (clear hdx ht hn ho hz hi0 hi hn2 hroom hh hl hfl ht0 hir hr hql hys hcl hv hx; omega)
      rcases this with rfl | rfl | rfl <;> decide
    · rw [Nat.sub_zero, Nat.mod_eq_of_lt (by exact Nat.lt_of_lt_of_le hql hl)]; exact hv
    · rintro k tv b₁ m₁ own₁ h₂ tk₂ it E' hk1 ⟨ms, mi, mn, _⟩ e₁ F
      obtain ⟨a, ls', mn, R', hv'⟩ := mn (by (clear hx hdx ht hsh hn ho hz hi0 hi hn2 hroom hh hl hd hfl ht0 hir hr hql hys hcl hv ms mi; omega))
      have T := T.up e₁
      walk_at "r"
      refine x_rshift (by (clear hx hdx ht hn ho hz hi0 hi hn2 hroom hh hl hd hfl ht0 hir hr hql hys hcl hv ms mi mn hv'; omega)) ?_
      walk_at "r"
      obtain ⟨j, hj⟩ : ∃ j, j = d - k := ⟨_, rfl⟩
      rw [← hj] at R' hv'
      have ei : Builtin.bitAnd (i.fdiv (2 ^ (sh + (k : Int) * -5).toNat)) 31 = ((q / 32 ^ j % 32 : Nat) : Int) := by
        rw [show sh + (k : Int) * -5 = 5 * ((j : Int) + 1) by (clear hx hdx ht hn ho hz hi0 hi hn2 hroom hh hl hd hfl ht0 hir hr hql hys hcl hv ms mi mn hv'; omega)]
        exact sh_at hir hr
      rw [ei]
      obtain ⟨p1, p2⟩ := mod_at (q := q) (j := j)
      have hlt := (List.getElem?_eq_some_iff.mp hv').1
      cases j with
      | zero =>
        obtain ⟨na, ga⟩ := R'
        refine sub_list (F.keep _ _ (e₁ _ _ ga)) (by exact Int.natCast_nonneg _) (by omega) (v := .ref c) (by rw [Int.toNat_natCast, Nat.pow_zero, Nat.div_one]; exact hv') ?_
        walk_at "r"
        exact ⟨_, _, b₁, _, own₁, rfl, .rfl', F, by walk_at "look", by walk_at "look", (fun e => by (clear hx hdx ht hsh hn ho hz hi0 hi hn2 hroom hh hl hd hfl ht0 hir hr hql hys hcl hv hk1 ms mi mn hv' ei p1 p2 hlt ga; omega)), fun _ => by walk_at "look"⟩
      | succ j =>
        obtain ⟨na, cs, ga, c1, c2, c3⟩ := R'
        have hp2 : q / 32 ^ (j + 1) % 32 < cs.length := by
          rw [← p1]
          exact (Nat.div_lt_iff_lt_mul (p32 _)).mpr (by exact Nat.lt_of_lt_of_le hlt c1)
        obtain ⟨c', hc'⟩ : ∃ c', cs[q / 32 ^ (j + 1) % 32]? = some c' := ⟨_, List.getElem?_eq_getElem hp2⟩
        refine sub_list (F.keep _ _ (e₁ _ _ ga)) (by exact Int.natCast_nonneg _) (by omega) (v := .ref c') (by rw [Int.toNat_natCast, List.getElem?_map, hc']; rfl) ?_
        walk_at "r"
        refine ⟨_, _, b₁, _, own₁, rfl, .rfl', F, by walk_at "look", by walk_at "look", (fun e => ⟨c', _, by walk_at "look", by rw [show d - (k + 1) = j by omega]; exact c3 _ c' hc', ?_⟩), fun e => by (clear hx hdx ht hsh hn ho hz hi0 hi hn2 hroom hh hl hd hfl ht0 hir hr hql hys hcl hv hk1 ms mi mn hv' ei p1 p2 hlt ga c1 hp2 hc'; omega)⟩
        rw [show d - (k + 1) = j by omega, ← p1, ← p2, chunk_get (p32 _)]
        exact hv'
    · rintro h' tk' b' m' own' ⟨ms, mi, _, mn⟩ e' F
      have mn := mn rfl
      walk_at "r"
      refine h c ys nc _ _ (e'.trans F.keep) (F.keep _ _ (e' _ _ hcl)) (by rw [hy ys (List.mem_of_getElem? hys)]; exact Nat.le_refl _) ?_
      rw [List.getElem?_append_left (by (clear hx hdx ht hsh hz hi0 hi hn2 hroom hh hl hd hir hr hys hcl hv ms mi mn; omega)), show i.toNat = 32 * q + r by exact congrArg Int.toNat hir, show (i % 32).toNat = r by (clear hx hdx ht hsh hn ho hz hi0 hi hn2 hroom hh hl hd hfl ht0 hql hys hcl hv ms mi mn; omega)]
      exact (flat_get hy q r ys hys hr).symm
/-- raise IndexError('..' % (i,)): CPython's compiler makes an f-text of it -/
theorem raise_idx {cn : Str} {cs : Scope} {L f : Addr} {ccd : Value} {cl : List (Str × Addr)} {b : Heap} {m : Str → Option Value} {own : List (Addr × Obj)} {p1 p2 p3 p4 p5 p6 p7 : Pos} {k : Nat} {i : Int} {ti : Tok} {X : Str} {Q : Flow → Shared → Prop} (F : Fx b L hp m own) (T : Tp (KK w) mg mb b) (hh : A.handled = none)
    (mi : m (Str.ofString "i") = some (.int i ti)) (hX : X.length ≤ 100) (h1 : -1000000 ≤ i) (h2 : i ≤ 1000000) (h : ∀ h₂ e tk', Heap.NewExc hp h₂ e "IndexError" → E (.ref e) ⟨h₂, gs, dr, tk', os⟩)
    (hk : cs.kind = .function := by with_unfolding_all rfl) (hx : (envX cn cs L f ccd cl).kindOf (Str.ofString "IndexError") = some .globalImplicit := by with_unfolding_all rfl) (hy : (envX cn cs L f ccd cl).kindOf (Str.ofString "i") = some .local := by with_unfolding_all rfl) :
    wpAny (model prog w) A (exec (.Raise (some (.Call (.Name (Str.ofString "IndexError") p1) [.JoinedStr [.Constant (.str X) k p2, .FormattedValue (.Name (Str.ofString "i") p3) 115 none p4] p5] [] p6)) none p7) (envX cn cs L f ccd cl)) Q E ⟨hp, gs, dr, tk, os⟩ := by
  obtain ⟨z1, z2⟩ := text_short (y := Str.empty ++ X) (by rw [strLen_append]; exact Nat.le_trans (Nat.le_of_eq (Nat.zero_add _)) hX) h1 h2
  refine wpAny_Raise_call PySem.F.excCall_IndexError PySem.F.excRaise_IndexError hh rfl ?_
  refine nm_IndexError F T ⟨rfl, ?_⟩ hk hx
  have he : starEach [Expr.JoinedStr [.Constant (.str X) k p2, .FormattedValue (.Name (Str.ofString "i") p3) 115 none p4] p5] (envX cn cs L f ccd cl) = (false, eval (Expr.JoinedStr [.Constant (.str X) k p2, .FormattedValue (.Name (Str.ofString "i") p3) 115 none p4] p5) (envX cn cs L f ccd cl)) :: starEach [] (envX cn cs L f ccd cl) := rfl
  rw [he]
  refine evalArgs_plain ?_
  show wpAny _ _ (spliced (backTo p6 (starEach [Expr.JoinedStr [.Constant (.str X) k p2, .FormattedValue (.Name (Str.ofString "i") p3) 115 none p4] p5] (envX cn cs L f ccd cl)))) _ _ _
  refine args_cons ?_ he
  refine JoinedStr_many (joinParts_cons ?_)
  refine x_str ⟨?_, ?_⟩
  · rw [strLen_append, sizeLine_eq]; exact Nat.le_trans (Nat.le_of_eq (Nat.zero_add _)) (by exact Nat.le_trans hX (by decide))
  refine joinParts_cons (wpAny_FormattedValue_s ?_)
  refine n_loc F mi ?_ hk hy
  refine pyStrObj_int (shown (N := 2 ^ 1920) (by exact Int.lt_of_lt_of_le (by decide) h1) (by exact Int.lt_of_le_of_lt h2 (by decide)) (Int.le_refl _)) ?_
  refine formatField_str (fun t' tk' => ⟨z1, ?_⟩) z2
  refine joinParts_nil ?_ z1
  refine args_nil ?_
  refine ⟨rfl, by simp [sizeLine_eq], fun h₂ e hm => ?_⟩
  exact h h₂ e _ hm.newExc
set_option maxHeartbeats 1000000 in
theorem node_for_out5 {base : Heap} {outer : List Env} {root tail : Addr} {n toff sh i : Int} {t1 t2 t3 ti : Tok} (T : Tp (KK w) mg mb hp) (hx : hp.get? x = some (VO dx n root sh tail toff t1 t2 t3)) (hdx : hp.get? dx = some emptyDict)
    (hi : i < 0 ∨ n ≤ i) (h1 : -1000000 ≤ i) (h2 : i ≤ 1000000) (hroom : A.depth < 600) (hh : A.handled = none) (hfr : A.frames = some outer) (hb : Ext base hp) (hff : hp.FunFrames base outer)
    (h : ∀ e h' tk, Thrown base hp outer "IndexError" e h' → E (.ref e) ⟨h', gs, dr, tk, os⟩) :
    wpAny (model prog w) A (call (.ref m_node_for) [.ref x, .int i ti]) Q E ⟨hp, gs, dr, tk, os⟩ := by
  refine wpAny_call ?_
  refine call_fx [] (binds := [(Str.ofString "pvector_like", .ref x), (Str.ofString "i", .int i ti)]) (by walk_at "room") (T.X _ _ (lk m_node_for (by kernel_rfl))) (by with_unfolding_all rfl) T.nolimit (codeRec_of T.X (by kernel_rfl)) (BindsTo.of_eq (by with_unfolding_all rfl)) (locs (by with_unfolding_all rfl)) (fun _ q => nomatch q) List.nodup_nil ?_ (by decide +kernel)
  intro L h₁ tk F
  have F : Fx hp L h₁ _ [] := F
  walk_at "r"
  by_cases h0 : 0 ≤ i
  · rw [decide_eq_true h0, if_pos rfl]
    walk_at "r"
    rw [decide_eq_false (by (clear hx hdx h1 h2 hroom hh hfr; omega)), if_neg (by decide)]
    walk_at "r"
    refine raise_idx (A := A.deeper _) (i := i) (ti := ti) F T hh ?_ ?_ h1 h2 ?_
    · walk_at "look"
    · decide
    intro h4 e tk' ne
    exact leave_new F .rfl' hfr hb hff ne fun h' th => h e h' _ th
  · rw [decide_eq_false h0, if_neg (by decide)]
    walk_at "r"
    rw [if_neg (by decide)]
    walk_at "r"
    refine raise_idx (A := A.deeper _) (i := i) (ti := ti) F T hh ?_ ?_ h1 h2 ?_
    · walk_at "look"
    · decide
    intro h4 e tk' ne
    exact leave_new F .rfl' hfr hb hff ne fun h' th => h e h' _ th
theorem isi_int_slice {i : Int} {t : Tok} (X : (KK w).In hp) (h : ∀ tk, Q (.bool false) ⟨hp, gs, dr, tk, os⟩) : wpAny (model prog w) A (call (.builtin "isinstance") [.int i t, .type "slice"]) Q E ⟨hp, gs, dr, tk, os⟩ :=
  kia_one kitx_int X trivial (by kernel_rfl) (by intro q; cases q) h
theorem isi_int_int {i : Int} {t : Tok} (X : (KK w).In hp) (h : ∀ tk, Q (.bool true) ⟨hp, gs, dr, tk, os⟩) : wpAny (model prog w) A (call (.builtin "isinstance") [.int i t, .type "int"]) Q E ⟨hp, gs, dr, tk, os⟩ :=
  kia_one kitx_int X trivial (by kernel_rfl) (by intro q; cases q) h
theorem gm_node_for {pl : Sem Bool} {Q : Value × List Value → Shared → Prop} (X : (KK w).In hp) (h : Q (.ref m_node_for, []) ⟨hp, gs, dr, tk + 1, os⟩) : wpAny (model prog w) A (getMethod (.ref aC) (Str.ofString "_node_for") pl) Q E ⟨hp, gs, dr, tk, os⟩ :=
  method_cls X (by kernel_rfl) (cls_bind (mc := .type "type") X (by kernel_rfl) (g := .builtin "staticmethod.__get__") (a := .ref sm_node_for) (obj := .none) (tp := .ref aC) (by kernel_rfl) (wpAny_call (sm_get (s := ⟨hp, gs, dr, tk + 1, os⟩) (f := .ref m_node_for) (rest := [.bool false]) X (by kernel_rfl) (handed_on rfl h))))
set_option maxHeartbeats 1000000 in
/-- a read, behind the place's sign -/
theorem getitem_rest {Q : Flow → Shared → Prop} {base : Heap} {outer : List Env} {h₁ : Heap} {L : Addr} {m : Str → Option Value} {xs : List Value} {j : Int} {tj : Tok} (T : Tp (KK w) mg mb hp) (V : VecAt hp x xs) (hn2 : xs.length < 40000) (h1 : -200000 ≤ j) (h2 : j ≤ 200000) (hroom : A.depth < 401) (hh : A.handled = none) (F : Fx hp L h₁ m []) (ms : m (Str.ofString "self") = some (.ref x)) (mi : m (Str.ofString "index") = some (.int j tj)) (hfr : A.frames = some (envAt w m_dunder_getitem L :: outer)) (hb : Ext base hp) (hff : hp.FunFrames base outer)
    (h : ∀ v h' tk, 0 ≤ j → xs[j.toNat]? = some v → Ext hp h' → Q (.ret v) ⟨h', gs, dr, tk, os⟩)
    (ho : ∀ e h₀ h' tk, (j < 0 ∨ xs.length ≤ j) → Ext hp h₀ → Thrown base h₀ (envAt w m_dunder_getitem L :: outer) "IndexError" e h' → E (.ref e) ⟨h', gs, dr, tk, os⟩) : wpAny (model prog w) A (execs ((stmtsAt w m_dunder_getitem).drop 2) (envAt w m_dunder_getitem L)) Q E ⟨h₁, gs, dr, tk, os⟩ := by
  obtain ⟨dx, root, tail, n, toff, sh, t1, t2, t3, d, yss, zs, nt, hx, hdx, R, ht, hsh, e5, e6, e7, e8, e9⟩ := id V
  have hlen : (n : Int) = xs.length := by rw [e9, List.length_append, flat_len e8]; exact e5
  refine execs_of (l' := [_]) (env' := envX _ _ L _ _ _) (by with_unfolding_all rfl) (by with_unfolding_all rfl) ?_
  walk_at "rc"
  refine gm_node_for (T.up F.keep).X ?_
  refine cw_fn T (by kernel_rfl) ?_
  walk_at "rc"
  refine ⟨F.keep, ?_⟩
  by_cases hin : 0 ≤ j ∧ j < n
  · refine node_for5 (T.up F.keep) (F.keep _ _ hx) (F.keep _ _ hdx) (R.up F.keep) (F.keep _ _ ht) hsh e5 e6 e7 e8 hin.1 hin.2 (by (clear h1 h2 hroom hh ms mi hfr hx hdx ht hsh e5 e6 e7 e9 hin; omega)) (by walk_at "room") hh ?_
    intro l its c h' tk' eh hl h32 hget
    have F := F.ext eh
    obtain ⟨v, hv⟩ : ∃ v, xs[j.toNat]? = some v := ⟨_, List.getElem?_eq_getElem (by (clear hn2 h1 h2 hroom hh ms mi hfr hx hdx ht hsh e5 e6 e7 e9 hl h32 hget; omega))⟩
    rw [← e9, hv] at hget
    walk_at "rc"
    rw [bitAnd_m5]
    refine sub_list hl (by (clear hn2 h1 h2 hroom hh ms mi hfr hx hdx ht hsh e5 e6 e7 e9 hlen hin hl h32 hget hv; omega)) (by (clear hn2 h1 h2 hroom hh ms mi hfr hx hdx ht hsh e5 e6 e7 e9 hlen hin hl h32 hget hv; omega)) hget ?_
    walk_at "rc"
    exact h v _ _ hin.1 hv F.keep
  · refine node_for_out5 (base := base) (T.up F.keep) (F.keep _ _ hx) (F.keep _ _ hdx) (by (clear hn2 h1 h2 hroom hh ms mi hfr hx hdx ht hsh e5 e6 e7 e9 hlen; omega)) (by exact Int.le_trans (by decide) h1) (by exact Int.le_trans h2 (by decide)) (by walk_at "room") hh hfr (hb.trans F.keep) ?_ ?_
    · exact frames_of F (by show (fnRec w m_dunder_getitem).scope.kind ≠ _; have : (fnRec w m_dunder_getitem).scope.kind = .function := (by with_unfolding_all rfl); rw [this]; decide) (hb.none F.lout) (hff.of_keeps fun c o hc _ => ⟨o, F.keep _ _ hc, rfl⟩)
    · intro e h' tk' th
      exact ho e _ h' _ (by (clear hn2 h1 h2 hroom hh ms mi hfr hx hdx ht hsh e5 e6 e7 e9; omega)) F.keep th
set_option maxHeartbeats 1000000 in
/-- a vector read at a place: the item, or IndexError -/
theorem getitem5 {Q : Value → Shared → Prop} {base : Heap} {outer : List Env} {xs : List Value} {i : Int} {ti : Tok} (T : Tp (KK w) mg mb hp) (V : VecAt hp x xs) (hn2 : xs.length < 40000) (h1 : -100000 ≤ i) (h2 : i ≤ 100000) (hroom : A.depth < 400) (hh : A.handled = none) (hfr : A.frames = some outer) (hb : Ext base hp) (hff : hp.FunFrames base outer)
    (h : ∀ v h' tk, 0 ≤ (if i < 0 then i + xs.length else i) → xs[(if i < 0 then i + xs.length else i).toNat]? = some v → Ext hp h' → Q v ⟨h', gs, dr, tk, os⟩)
    (ho : ∀ e h' tk, ((if i < 0 then i + xs.length else i) < 0 ∨ xs.length ≤ (if i < 0 then i + xs.length else i)) → Thrown base hp outer "IndexError" e h' → E (.ref e) ⟨h', gs, dr, tk, os⟩) : wpAny (model prog w) A (call (.ref m_dunder_getitem) [.ref x, .int i ti]) Q E ⟨hp, gs, dr, tk, os⟩ := by
  obtain ⟨dx, root, tail, n, toff, sh, t1, t2, t3, hx, hdx, hlen⟩ := V.len
  refine wpAny_call ?_
  refine call_fx [] (binds := [(Str.ofString "self", .ref x), (Str.ofString "index", .int i ti)]) (by walk_at "room") (T.X _ _ (lk m_dunder_getitem (by kernel_rfl))) (by with_unfolding_all rfl) T.nolimit (codeRec_of T.X (by kernel_rfl)) (BindsTo.of_eq (by with_unfolding_all rfl)) (locs (by with_unfolding_all rfl)) (fun _ q => nomatch q) List.nodup_nil ?_ (by decide +kernel)
  intro L h₁ tk F
  have F : Fx hp L h₁ _ [] := F
  walk_at "r"
  refine isi_int_slice (T.up F.keep).X ?_
  intro tk'
  walk_at "r"
  rw [if_neg (by decide)]
  refine wpAny_execs_nil ?_
  refine nx_next ?_
  refine s_cons ?_
  refine wpAny_mono (Q := fun f s' => f = .next ∧ ∃ h' tk' m' t j, s' = ⟨h', gs, dr, tk', os⟩ ∧ Fx hp L h' m' [] ∧ j = (if i < 0 then i + (xs.length : Int) else i) ∧ m' (Str.ofString "self") = some (.ref x) ∧ m' (Str.ofString "index") = some (.int j t)) ?_ ?_ fun _ _ z => z
  · refine wpAny_If ?_
    walk_at "r"
    by_cases hneg : i < 0
    · rw [decide_eq_true hneg, if_pos rfl]
      walk_at "r"
      exact ⟨rfl, _, _, _, _, _, rfl, F, by rw [if_pos hneg, ← hlen], by walk_at "look", by walk_at "look"⟩
    · rw [decide_eq_false hneg, if_neg (by decide)]
      walk_at "r"
      exact ⟨rfl, _, _, _, _, _, rfl, F, by rw [if_neg hneg], by walk_at "look", by walk_at "look"⟩
  rintro f s' ⟨rfl, h2', tk2, m', t, j, rfl, F', hj, q1, q2⟩
  refine nx_next ?_
  refine execs_of (l' := (stmtsAt w m_dunder_getitem).drop 2) (env' := envAt w m_dunder_getitem L) (by with_unfolding_all rfl) (by with_unfolding_all rfl) ?_
  rw [← hj] at h ho
  refine getitem_rest (base := base) (outer := outer) T V hn2 (by split at hj <;> (clear hn2 h2 hroom hh hfr hx hdx hlen q1 q2; omega)) (by split at hj <;> (clear h1 hroom hh hfr hx hdx hlen q1 q2; omega)) (Nat.succ_lt_succ hroom) hh F' q1 q2 (Around.frames_deeper hfr) hb hff (fun v h' tk a b c => h v h' tk a b c) ?_
  intro e h₀ h' tk3 hor e0 th
  exact leave_on (hq := hp) hfr e0 th fun h' th => ho e h' _ hor th
end
/-- one leaf laid anew -/
theorem Tr.set {h : Heap} {k p q : Nat} {a c : Addr} {ls : List Value} {t : Value} {cs : List Addr} {n : Nat} (hk : ∀ (i : Nat) c', cs[i]? = some c' → Tr h k c' (chunk (32 ^ (k + 1)) ls i)) (h1 : ls.length ≤ cs.length * 32 ^ (k + 1)) (h2 : ∀ i, i < cs.length → i * 32 ^ (k + 1) < ls.length)
    (hp : p = q / 32 ^ (k + 1)) (ga : h.get? a = some (LO ((cs.map Value.ref).set p (.ref c)) n)) (hc : Tr h k c ((chunk (32 ^ (k + 1)) ls p).set (q % 32 ^ (k + 1)) t)) : Tr h (k + 1) a (ls.set q t) := by
  refine ⟨n, cs.set p c, by rw [ga, List.map_set], by simpa using h1, fun i hi => by simpa using h2 i (by simpa using hi), fun i c' hc' => ?_⟩
  by_cases e : i = p
  · subst e
    rw [List.getElem?_set_self'] at hc'
    have : c' = c := by
      cases q : cs[i]? with
      | none => rw [q] at hc'; cases hc'
      | some _ => rw [q] at hc'; exact (Option.some.inj hc').symm
    subst this
    rw [hp, chunk_set_same (p32 _), ← hp]
    exact hc
  · rw [List.getElem?_set_ne (fun z => e z.symm)] at hc'
    rw [chunk_set_other (p32 _) (by rw [← hp]; exact e)]
    exact hk i c' hc'
section
variable {prog : Program} {w : World} {mg mb : Str → Option Value} {x dx : Addr} {sl : List (Option Value)}
set_option maxHeartbeats 1000000 in
/-- a new leaf: the level 0 of _do_set -/
theorem do_set0 {A : Around} {E : Value → Shared → Prop} {g hp : Heap} {gs : Array GenState} {dr : Drawn} {tk : Nat} {os : OsState} {Q : Value → Shared → Prop} {c : Addr} {its : List Value} {nc : Nat} {v : Value} {t ti : Tok} {sh i : Int} (T : Tp (KK w) mg mb hp) (he : Ext g hp) (hsh : sh = 0)
    (hc : g.get? c = some (LO its nc)) (hi : (i % 32).toNat < its.length) (hz : its.length ≤ 32) (hroom : A.depth < 800)
    (h : ∀ D h' tk g' n', Gr g hp g' h' → g'.get? D = some (LO (its.set (i % 32).toNat v) n') → Q (.ref D) ⟨h', gs, dr, tk, os⟩) :
    wpAny (model prog w) A (call (.ref m_do_set) [.ref x, .int sh t, .ref c, .int i ti, v]) Q E ⟨hp, gs, dr, tk, os⟩ := by
  subst hsh
  refine wpAny_call ?_
  refine call_fx [] (binds := [(Str.ofString "self", .ref x), (Str.ofString "level", .int 0 t), (Str.ofString "node", .ref c), (Str.ofString "i", .int i ti), (Str.ofString "val", v)]) (by walk_at "room") (T.X _ _ (lk m_do_set (by kernel_rfl))) (by with_unfolding_all rfl) T.nolimit (codeRec_of T.X (by kernel_rfl)) (BindsTo.of_eq (by with_unfolding_all rfl)) (locs (by with_unfolding_all rfl)) (fun _ q => nomatch q) List.nodup_nil ?_ (by decide +kernel)
  intro L h₁ tk F
  replace F : Fx hp L h₁ _ [] := F
  have hc := he _ _ hc
  walk_at "r"
  refine lc_copy F (F.keep _ _ hc) (by exact Nat.le_trans hz (by decide)) ?_
  clear F; intro D c' hq F _
  walk_at "r"
  rw [if_pos (by decide)]
  walk_at "r"
  refine wpAny_Assign_Subscript ?_ (by with_unfolding_all rfl)
  walk_at "r"
  rw [bitAnd_m5]
  refine lc_set F (by omega) (by omega) (by exact Nat.le_trans hz (by decide)) ?_
  clear F; intro h3 n3 F
  walk_at "r"
  obtain ⟨g3, G3, gD, _⟩ := ((Gr.rfl' he).ext F.keep).add F.head (F.out _ (.head _))
  exact h D _ _ g3 n3 G3 gD
set_option maxHeartbeats 1000000 in
theorem do_set5 : ∀ (k : Nat) {A : Around} {E : Value → Shared → Prop} {g hp : Heap} {gs : Array GenState} {dr : Drawn} {tk : Nat} {os : OsState} {Q : Value → Shared → Prop} {a c : Addr} {ls its : List Value} {nc q r : Nat} {v : Value} {t ti : Tok} {sh i : Int} (T : Tp (KK w) mg mb hp) (he : Ext g hp) (hx : hp.get? x = some (IO dx sl)) (hdx : hp.get? dx = some emptyDict)
    (R : Tr g k a ls) (hsh : sh = 5 * ((k : Int) + 1)) (hir : i = ((32 * q + r : Nat) : Int)) (hr : r < its.length) (hqc : ls[q % 32 ^ (k + 1)]? = some (.ref c)) (hc : g.get? c = some (LO its nc)) (hz : its.length ≤ 32) (hlz : ls.length ≤ 32 ^ (k + 1)) (hroom : A.depth + k < 700)
    (h : ∀ D c' h' tk g' n', Gr g hp g' h' → Tr g' k D (ls.set (q % 32 ^ (k + 1)) (.ref c')) → g'.get? c' = some (LO (its.set r v) n') → Q (.ref D) ⟨h', gs, dr, tk, os⟩),
    wpAny (model prog w) A (call (.ref m_do_set) [.ref x, .int sh t, .ref a, .int i ti, v]) Q E ⟨hp, gs, dr, tk, os⟩ := by
  intro k
  induction k with
  | zero =>
    intro A E g hp gs dr tk os Q a c ls its nc q r v t ti sh i T he hx hdx R hsh hir hr hqc hc hz hlz hroom h
    obtain ⟨na, ga⟩ := R
    have ga' := he _ _ ga
    refine wpAny_call ?_
    refine call_fx [] (binds := [(Str.ofString "self", .ref x), (Str.ofString "level", .int sh t), (Str.ofString "node", .ref a), (Str.ofString "i", .int i ti), (Str.ofString "val", v)]) (by walk_at "room") (T.X _ _ (lk m_do_set (by kernel_rfl))) (by with_unfolding_all rfl) T.nolimit (codeRec_of T.X (by kernel_rfl)) (BindsTo.of_eq (by with_unfolding_all rfl)) (locs (by with_unfolding_all rfl)) (fun _ q => nomatch q) List.nodup_nil ?_ (by decide +kernel)
    intro L h₁ tk F
    replace F : Fx hp L h₁ _ [] := F
    have hlz : ls.length ≤ 32 := by simpa using hlz
    walk_at "r"
    refine lc_copy F (F.keep _ _ ga') (by omega) ?_
    clear F; intro D cD hh1 F _
    walk_at "r"
    rw [if_neg (by subst hsh; decide)]
    walk_at "r"
    refine x_rshift (by omega) ?_
    walk_at "r"
    have ei : Builtin.bitAnd (i.fdiv (2 ^ sh.toNat)) 31 = ((q / 32 ^ 0 % 32 : Nat) : Int) := by rw [hsh]; exact sh_at hir (by exact Nat.lt_of_lt_of_le hr hz)
    rw [ei] at F
    rw [show q / 32 ^ 0 % 32 = q % 32 by simp] at F
    rw [show q % 32 ^ (0 + 1) = q % 32 by simp] at hqc
    have hlt := (List.getElem?_eq_some_iff.mp hqc).1
    refine wpAny_Assign_Subscript ?_ (by with_unfolding_all rfl)
    walk_at "r"
    refine gm_do_set (T.up F.keep).X (F.keep _ _ hx) (F.keep _ _ hdx) ?_
    refine cw_fn T (by kernel_rfl) ?_
    walk_at "r"
    refine sub_list (F.keep _ _ ga') (by exact Int.natCast_nonneg _) (by omega) (v := .ref c) (by rw [Int.toNat_natCast]; exact hqc) ?_
    walk_at "r"
    refine ⟨F.keep, ?_⟩
    have e1 := F.keep
    refine do_set0 (g := g) (T.up F.keep) (he.trans F.keep) (by (clear hx hdx hir hr hqc hc hz hroom ga ga' hlz ei hlt; omega)) hc (by (clear hx hdx hsh hqc hc hz hroom ga ga' hlz ei hlt; omega)) hz (by walk_at "room") ?_
    intro D' h2 tk2 g2 n2 G hD'
    rw [show (i % 32).toNat = r by (clear hx hdx hsh hqc hc hroom ga ga' hlz ei hlt hD'; omega)] at hD'
    obtain ⟨b2, e2, F2, z2⟩ := F.grow G he
    clear F; have F := F2; clear F2
    have T := T.up e2
    walk_at "r"
    refine lc_set F (by exact Int.natCast_nonneg _) (by exact Int.ofNat_lt.mpr hlt) (by omega) ?_
    clear F; intro h3 n3 F
    walk_at "r"
    have G1 : Gr g hp g2 h3 := ⟨e2.trans F.keep, G.up, z2.trans F.keep, (G.from' e1).new⟩
    obtain ⟨g3, G3, gD, e4⟩ := G1.add F.head (e2.none (F.out _ (.head _)))
    refine h D D' _ _ g3 n2 G3 ⟨n3, ?_⟩ (e4 _ _ hD')
    rw [gD, Int.toNat_natCast]
  | succ k ih =>
    intro A E g hp gs dr tk os Q a c ls its nc q r v t ti sh i T he hx hdx R hsh hir hr hqc hc hz hlz hroom h
    obtain ⟨na, cs, ga, c1, c2, hk⟩ := R
    have ga' := he _ _ ga
    obtain ⟨p1, p2⟩ := mod_at (q := q) (j := k + 1)
    have hlt := (List.getElem?_eq_some_iff.mp hqc).1
    have hcs : cs.length ≤ 32 := by
      rcases Nat.lt_or_ge 32 cs.length with z | z
      · have := c2 32 z
        rw [Nat.pow_succ, Nat.mul_comm] at hlz
        (clear hx hdx hsh hir hr hqc hc hz hroom ga c1 ga' p1 p2 hlt z; omega)
      · exact z
    have hp2 : q / 32 ^ (k + 1) % 32 < cs.length := by
      rw [← p1]
      exact (Nat.div_lt_iff_lt_mul (p32 _)).mpr (by exact Nat.lt_of_lt_of_le hlt c1)
    obtain ⟨c', hc'⟩ : ∃ c', cs[q / 32 ^ (k + 1) % 32]? = some c' := ⟨_, List.getElem?_eq_getElem hp2⟩
    refine wpAny_call ?_
    refine call_fx [] (binds := [(Str.ofString "self", .ref x), (Str.ofString "level", .int sh t), (Str.ofString "node", .ref a), (Str.ofString "i", .int i ti), (Str.ofString "val", v)]) (by walk_at "room") (T.X _ _ (lk m_do_set (by kernel_rfl))) (by with_unfolding_all rfl) T.nolimit (codeRec_of T.X (by kernel_rfl)) (BindsTo.of_eq (by with_unfolding_all rfl)) (locs (by with_unfolding_all rfl)) (fun _ q => nomatch q) List.nodup_nil ?_ (by decide +kernel)
    intro L h₁ tk F
    replace F : Fx hp L h₁ _ [] := F
    walk_at "r"
    refine lc_copy F (F.keep _ _ ga') (by rw [List.length_map]; exact Nat.le_trans hcs (by decide)) ?_
    clear F; intro D cD hh1 F _
    walk_at "r"
    rw [if_neg (by subst hsh; simp; (clear hx hdx hir hr hqc hc hz hlz hroom ga c1 ga' p1 p2 hlt hcs hp2 hc'; omega))]
    walk_at "r"
    refine x_rshift (by (clear hx hdx hir hr hqc hc hz hlz hroom ga c1 ga' p1 p2 hlt hcs hp2 hc'; omega)) ?_
    walk_at "r"
    have ei : Builtin.bitAnd (i.fdiv (2 ^ sh.toNat)) 31 = ((q / 32 ^ (k + 1) % 32 : Nat) : Int) := by rw [hsh]; exact sh_at hir (by exact Nat.lt_of_lt_of_le hr hz)
    rw [ei] at F
    generalize hP : q / 32 ^ (k + 1) % 32 = P at *
    refine wpAny_Assign_Subscript ?_ (by with_unfolding_all rfl)
    walk_at "r"
    refine gm_do_set (T.up F.keep).X (F.keep _ _ hx) (F.keep _ _ hdx) ?_
    refine cw_fn T (by kernel_rfl) ?_
    walk_at "r"
    refine sub_list (F.keep _ _ ga') (by exact Int.natCast_nonneg _) (by (clear hx hdx hsh hir hr hqc hc hz hlz hroom ga c1 ga' p2 hlt hcs p1 hp2 hc' ei; omega)) (v := .ref c') (by rw [Int.toNat_natCast, List.getElem?_map, hc']; rfl) ?_
    walk_at "r"
    refine ⟨F.keep, ?_⟩
    have e1 := F.keep
    have hB := p32 (k + 1)
    have hq2 : (chunk (32 ^ (k + 1)) ls P)[q % 32 ^ (k + 1)]? = some (.ref c) := by
      rw [← p1, ← p2, chunk_get hB]; exact hqc
    refine ih (g := g) (T.up F.keep) (he.trans F.keep) (F.keep _ _ hx) (F.keep _ _ hdx) (hk P c' hc') (by rw [hsh]; push_cast; (clear hx hdx hsh hir hr hqc hc hz hlz hroom ga c1 ga' p2 hlt hcs hP p1 hp2 hc' ei hB hq2; omega)) hir hr hq2 hc hz (by rw [chunk_len]; (clear hx hdx hsh hir hr hqc hc hz hlz hroom ga c1 ga' p2 hlt hcs hP p1 hp2 hc' ei hB hq2; omega)) (by walk_at "room") ?_
    intro D' c2' h2 tk2 g2 n2 G hT' hc2
    obtain ⟨b2, e2, F2, z2⟩ := F.grow G he
    clear F; have F := F2; clear F2
    have T := T.up e2
    walk_at "r"
    refine lc_set F (by exact Int.natCast_nonneg _) (by rw [List.length_map]; exact Int.ofNat_lt.mpr hp2) (by rw [List.length_map]; exact Nat.le_trans hcs (by decide)) ?_
    clear F; intro h3 n3 F
    walk_at "r"
    have G1 : Gr g hp g2 h3 := ⟨e2.trans F.keep, G.up, z2.trans F.keep, (G.from' e1).new⟩
    obtain ⟨g3, G3, gD, e4⟩ := G1.add F.head (e2.none (F.out _ (.head _)))
    refine h D c2' _ _ g3 n2 G3 (Tr.set (cs := cs) (c := D') (n := n3) (p := P) (fun i c' hc' => (hk i c' hc').up G3.up) c1 c2 p1.symm (by rw [gD, Int.toNat_natCast]) ?_) (e4 _ _ hc2)
    rw [p2]
    exact hT'.up e4
end
theorem Lv.set {h : Heap} {ls : List Value} {yss : List (List Value)} {q c n : Nat} {ys : List Value} (V : Lv h ls yss) (hc : h.get? c = some (LO ys n)) : Lv h (ls.set q (.ref c)) (yss.set q ys) := by
  refine ⟨by simp [V.1], fun i v zs h1 h2 => ?_⟩
  by_cases e : q = i
  · subst e
    rw [List.getElem?_set_self'] at h1 h2
    cases y1 : ls[q]? with
    | none => rw [y1] at h1; cases h1
    | some _ =>
      cases y2 : yss[q]? with
      | none => rw [y2] at h2; cases h2
      | some _ =>
        rw [y1] at h1; rw [y2] at h2
        cases h1; cases h2
        exact ⟨c, n, rfl, hc⟩
  · rw [List.getElem?_set_ne e] at h1 h2
    exact V.2 i v zs h1 h2
theorem flat_set : ∀ {yss : List (List Value)} (_ : ∀ ys ∈ yss, ys.length = 32) (q r : Nat) (ys : List Value) (v : Value), yss[q]? = some ys → r < 32 → (yss.set q (ys.set r v)).flatten = yss.flatten.set (32 * q + r) v
  | [], _, q, r, ys, v, h, _ => by simp at h
  | y :: rest, hy, 0, r, ys, v, h, hr => by
    simp at h
    subst h
    rw [List.set_cons_zero, List.flatten_cons, List.flatten_cons, Nat.mul_zero, Nat.zero_add, List.set_append, if_pos (by rw [hy y (.head _)]; exact hr)]
  | y :: rest, hy, q + 1, r, ys, v, h, hr => by
    rw [List.getElem?_cons_succ] at h
    rw [List.set_cons_succ, List.flatten_cons, List.flatten_cons, List.set_append, if_neg (by rw [hy y (.head _)]; (clear h hr; omega)), hy y (.head _), show 32 * (q + 1) + r - 32 = 32 * q + r by (clear h hr; omega), flat_set (fun z m => hy z (.tail _ m)) q r ys v h hr]
section
variable {prog : Program} {w : World} {A : Around} {E : Value → Shared → Prop} {hp : Heap} {gs : Array GenState} {dr : Drawn} {tk : Nat} {os : OsState} {mg mb : Str → Option Value} {x dx : Addr} {sl : List (Option Value)}
set_option maxHeartbeats 2000000 in
/-- set, behind the place's sign -/
theorem set_rest {Q : Flow → Shared → Prop} {h₁ : Heap} {L : Addr} {m : Str → Option Value} {xs : List Value} {j : Int} {tj : Tok} {v : Value} (T : Tp (KK w) mg mb hp) (V0 : VecAt hp x xs) (hn2 : xs.length < 40000) (h1 : -200000 ≤ j) (h2 : j ≤ 200000) (hroom : A.depth < 391) (hh : A.handled = none) (F : Fx hp L h₁ m []) (ms : m (Str.ofString "self") = some (.ref x)) (mi : m (Str.ofString "i") = some (.int j tj)) (mv : m (Str.ofString "val") = some v)
    (hset : ∀ x' h' tk, 0 ≤ j → j < xs.length → Ext hp h' → VecAt h' x' (xs.set j.toNat v) → NewTl hp x h' x' → Q (.ret (.ref x')) ⟨h', gs, dr, tk, os⟩)
    (hend : ∀ x' h' tk, j = xs.length → Ext hp h' → VecAt h' x' (xs ++ [v]) → NewTl hp x h' x' → Q (.ret (.ref x')) ⟨h', gs, dr, tk, os⟩)
    (hout : ∀ e h₂ h₀ tk, (j < 0 ∨ xs.length < j) → Fx hp L h₀ m [] → Heap.NewExc h₀ h₂ e "IndexError" → E (.ref e) ⟨h₂, gs, dr, tk, os⟩) : wpAny (model prog w) A (execs ((stmtsAt w m_set).drop 2) (envAt w m_set L)) Q E ⟨h₁, gs, dr, tk, os⟩ := by
  obtain ⟨dx, root, tail, n, toff, sh, t1, t2, t3, d, yss, zs, nt, hx, hdx, R, ht, hsh, e5, e6, e7, e8, e9⟩ := id V0
  have hx0 := hx
  have hfl := flat_len e8
  have hlen : (n : Int) = xs.length := by rw [e9, List.length_append, hfl]; exact e5
  refine execs_of (l' := [_, _, _]) (env' := envX _ _ L _ _ _) (by with_unfolding_all rfl) (by with_unfolding_all rfl) ?_
  walk_at "rc"
  by_cases h0 : 0 ≤ j
  · rw [decide_eq_true h0, if_pos rfl]
    walk_at "rc"
    by_cases hlt : j < n
    · rw [decide_eq_true hlt, if_pos rfl]
      walk_at "rc"
      by_cases htl : toff ≤ j
      · rw [decide_eq_true htl, if_pos rfl]
        walk_at "rc"
        refine lc_copy F (F.keep _ _ ht) (by exact Nat.le_trans e7 (by decide)) ?_
        clear F; intro D cD hq F _
        walk_at "rc"
        refine wpAny_Assign_Subscript ?_ (by with_unfolding_all rfl)
        walk_at "rc"
        rw [bitAnd_m5]
        refine lc_set F (by (clear hn2 h1 h2 hroom hh ms mi mv hx hdx ht hsh e5 e6 e7 e9 hx0 hfl hlen h0 hlt htl; omega)) (by (clear hn2 h1 h2 hroom hh ms mi mv hx hdx ht hsh e7 e9 hx0 hfl hlen h0; omega)) (by exact Nat.le_trans e7 (by decide)) ?_
        clear F; intro h3 n3 F
        walk_at "rc"
        refine cw_fn T (by kernel_rfl) ?_
        walk_at "rc"
        refine ⟨F.keep, ?_⟩
        refine make_spec (zs := zs.set (j % 32).toNat v) (T.up F.keep) F.head (by rw [List.length_set]; exact Nat.le_trans e7 (by decide)) (by walk_at "room") ?_
        intro x' dx' h' tk' t3' eh hxn hdn hne hdx' hx'
        walk_at "rc"
        have F2 := F.ext eh
        refine hset x' h' _ (by exact h0) (by exact hlen ▸ hlt) F2.keep ⟨dx', root, D, _, _, _, _, _, _, d, yss, zs.set (j % 32).toNat v, n3, hx', hdx', R.up F2.keep, F2.head, hsh, by simpa using e5, by simp, by simpa using e7, e8, ?_⟩ ⟨D, dx', ⟨_, _, _, _, _, _, _, hx'⟩, .inl (F.out _ (.head _)), .inl (F.keep.none hdn)⟩
        rw [e9, List.set_append, if_neg (by rw [hfl]; (clear hn2 h1 h2 hroom hh ms mi mv hx hdx ht hsh e7 e9 hx0 hfl hlen h0 hlt hxn hdn hne hdx' hx'; omega)), hfl]
        congr 2
        (clear hn2 h1 h2 hroom hh ms mi mv hx hdx ht hsh e9 hx0 hfl hlen h0 hxn hdn hne hdx' hx'; omega)
      · rw [decide_eq_false htl, if_neg (by decide)]
        walk_at "rc"
        obtain ⟨ls, R, V, hl, hd⟩ := R
        obtain ⟨q, r, hir, hr⟩ : ∃ q r : Nat, j = ((32 * q + r : Nat) : Int) ∧ r < 32 := ⟨(j).toNat / 32, (j).toNat % 32, by (clear hn2 h1 h2 hroom hh ms mi mv hx hdx ht hsh e5 e6 e7 e9 hx0 hfl hlen hlt htl hl hd; omega), by (clear hn2 h1 h2 hroom hh ms mi mv hx hdx ht hsh e5 e6 e7 e9 hx0 hfl hlen h0 hlt htl hl hd; omega)⟩
        have hql : q < yss.length := by (clear hn2 h1 h2 hroom hh ms mi mv hx hdx ht hsh e7 e9 hx0 hfl hlen h0 hlt hl hd hr; omega)
        obtain ⟨ys, hys⟩ : ∃ ys, yss[q]? = some ys := ⟨_, List.getElem?_eq_getElem hql⟩
        have hy32 := e8 ys (List.mem_of_getElem? hys)
        obtain ⟨v0, hv0⟩ : ∃ v, ls[q]? = some v := ⟨_, List.getElem?_eq_getElem (by rw [V.1]; exact hql)⟩
        obtain ⟨c, nc, rfl, hcl⟩ := V.2 q v0 ys hv0 hys
        have hqm : q % 32 ^ (d + 1) = q := Nat.mod_eq_of_lt (by exact Nat.lt_of_lt_of_le hql hl)
        refine cw_fn T (by kernel_rfl) ?_
        walk_at "rc"
        refine gm_do_set (T.up F.keep).X (F.keep _ _ hx) (F.keep _ _ hdx) ?_
        refine cw_fn T (by kernel_rfl) ?_
        walk_at "rc"
        refine ⟨F.keep, ?_⟩
        refine do_set5 (g := hp) d (T.up F.keep) F.keep (F.keep _ _ hx) (F.keep _ _ hdx) R hsh hir (by exact hy32 ▸ hr) (by rw [hqm]; exact hv0) hcl (by exact Nat.le_of_eq hy32) (by rw [V.1]; exact hl) (by (clear hn2 h1 h2 hh ms mi mv hx hdx ht hsh e5 e6 e7 e9 hx0 hfl hlen h0 hlt htl hl hir hr hql hys hy32 hcl hv0 hqm; omega)) ?_
        intro D' c2 h2 tk2 g2 n2 G hT' hc2
        rw [hqm] at hT'
        obtain ⟨b2, e2, F2, z2⟩ := F.grow G .rfl'
        clear F; have F := F2; clear F2
        have T := T.up e2; have hx := e2 _ _ hx; have hdx := e2 _ _ hdx; have ht := e2 _ _ ht
        walk_at "rc"
        refine ⟨e2.trans F.keep, ?_⟩
        refine make_spec (zs := zs) (T.up F.keep) (F.keep _ _ ht) (by exact Nat.le_trans e7 (by decide)) (by walk_at "room") ?_
        intro x' dx' h' tk' t3' eh hxn hdn hne hdx' hx'
        walk_at "rc"
        have F2 := F.ext eh
        refine hset x' h' _ (by exact h0) (by exact hlen ▸ hlt) (e2.trans F2.keep) ⟨dx', D', tail, _, _, _, _, _, _, d, yss.set q (ys.set r v), zs, nt, hx', hdx', ⟨_, (hT'.up z2).up F2.keep, Lv.set (V.lk (.of_ext (e2.trans F2.keep))) (F2.keep _ _ (z2 _ _ hc2)), by rw [List.length_set]; exact hl, hd⟩, F2.keep _ _ ht, hsh, by simpa using e5, rfl, e7, ?_, ?_⟩ ⟨tail, dx', ⟨_, _, _, _, _, _, _, hx'⟩, .inr ⟨_, _, _, _, _, _, _, _, hx0⟩, .inl (e2.none (F.keep.none hdn))⟩
        · intro zz hm
          rcases List.mem_or_eq_of_mem_set hm with hm | rfl
          · exact e8 _ hm
          · rw [List.length_set]; exact hy32
        · rw [e9, List.set_append, if_pos (by rw [hfl]; (clear hn2 h1 hroom hh ms mi mv hsh e7 e9 hx0 hfl hlen h0 hlt hl hd hir hr hys hy32 hcl hv0 hqm hc2 hx hdx ht hxn hdn hne hdx' hx'; omega)), show (j).toNat = 32 * q + r by exact congrArg Int.toNat hir, flat_set e8 q r ys v hys hr]
    · rw [decide_eq_false hlt, if_neg (by decide)]
      walk_at "rc"
      by_cases hen : j = n
      · rw [if_pos (by simp; exact hen)]
        walk_at "rc"
        refine gm_append (T.up F.keep).X (F.keep _ _ hx) (F.keep _ _ hdx) ?_
        refine cw_fn T (by kernel_rfl) ?_
        walk_at "rc"
        refine ⟨F.keep, ?_⟩
        refine append_vec (T.up F.keep) (V0.up F.keep) hn2 (by walk_at "room") hh ?_
        intro x' h' tk' eh V' hnt
        walk_at "rc"
        exact hend x' h' _ (by exact hlen ▸ hen) (F.keep.trans eh) V' (hnt.from F.keep V0)
      · rw [if_neg (by simp; exact hen)]
        walk_at "rc"
        refine raise_idx (A := A) (i := j) F T hh (by walk_at "look") (by decide) (by exact Int.le_trans (by decide) h1) (by exact Int.le_trans h2 (by decide)) ?_
        intro h4 e tk' ne
        exact hout e h4 _ _ (by (clear hn2 h1 h2 hroom hh ms mi mv hx hdx ht hsh e5 e6 e7 e9 hx0 hfl h0; omega)) F ne
  · rw [decide_eq_false h0, if_neg (by decide)]
    walk_at "rc"
    rw [if_neg (by decide)]
    walk_at "rc"
    rw [if_neg (by simp; (clear hn2 h1 h2 hroom hh ms mi mv hx hdx ht hsh e5 e6 e7 e9 hx0 hfl; omega))]
    walk_at "rc"
    refine raise_idx (A := A) (i := j) F T hh (by walk_at "look") (by decide) (by exact Int.le_trans (by decide) h1) (by exact Int.le_trans h2 (by decide)) ?_
    intro h4 e tk' ne
    exact hout e h4 _ _ (by (clear hn2 h1 h2 hroom hh ms mi mv hx hdx ht hsh e5 e6 e7 e9 hx0 hfl hlen; omega)) F ne
set_option maxHeartbeats 2000000 in
/-- set: a new vector with the item laid anew, or one longer, or IndexError -/
theorem set_vec {Q : Value → Shared → Prop} {base : Heap} {outer : List Env} {xs : List Value} {i : Int} {ti : Tok} {v : Value} (T : Tp (KK w) mg mb hp) (V0 : VecAt hp x xs) (hn2 : xs.length < 40000) (h1 : -100000 ≤ i) (h2 : i ≤ 100000) (hroom : A.depth < 390) (hh : A.handled = none) (hfr : A.frames = some outer) (hb : Ext base hp) (hff : hp.FunFrames base outer)
    (hset : ∀ x' h' tk, 0 ≤ (if i < 0 then i + xs.length else i) → (if i < 0 then i + xs.length else i) < xs.length → Ext hp h' → VecAt h' x' (xs.set (if i < 0 then i + xs.length else i).toNat v) → NewTl hp x h' x' → Q (.ref x') ⟨h', gs, dr, tk, os⟩)
    (hend : ∀ x' h' tk, (if i < 0 then i + xs.length else i) = xs.length → Ext hp h' → VecAt h' x' (xs ++ [v]) → NewTl hp x h' x' → Q (.ref x') ⟨h', gs, dr, tk, os⟩)
    (hout : ∀ e h' tk, ((if i < 0 then i + xs.length else i) < 0 ∨ xs.length < (if i < 0 then i + xs.length else i)) → Thrown base hp outer "IndexError" e h' → E (.ref e) ⟨h', gs, dr, tk, os⟩) : wpAny (model prog w) A (call (.ref m_set) [.ref x, .int i ti, v]) Q E ⟨hp, gs, dr, tk, os⟩ := by
  obtain ⟨dx, root, tail, n, toff, sh, t1, t2, t3, hx, hdx, hlen⟩ := V0.len
  refine wpAny_call ?_
  refine call_fx [] (binds := [(Str.ofString "self", .ref x), (Str.ofString "i", .int i ti), (Str.ofString "val", v)]) (by walk_at "room") (T.X _ _ (lk m_set (by kernel_rfl))) (by with_unfolding_all rfl) T.nolimit (codeRec_of T.X (by kernel_rfl)) (BindsTo.of_eq (by with_unfolding_all rfl)) (locs (by with_unfolding_all rfl)) (fun _ q => nomatch q) List.nodup_nil ?_ (by decide +kernel)
  intro L h₁ tk F
  have F : Fx hp L h₁ _ [] := F
  walk_at "r"
  refine isi_int_int (T.up F.keep).X ?_
  intro tk'
  walk_at "r"
  rw [if_neg (by decide)]
  refine wpAny_execs_nil ?_
  refine nx_next ?_
  refine s_cons ?_
  refine wpAny_mono (Q := fun f s' => f = .next ∧ ∃ h' tk' m' t j, s' = ⟨h', gs, dr, tk', os⟩ ∧ Fx hp L h' m' [] ∧ j = (if i < 0 then i + (xs.length : Int) else i) ∧ m' (Str.ofString "self") = some (.ref x) ∧ m' (Str.ofString "i") = some (.int j t) ∧ m' (Str.ofString "val") = some v) ?_ ?_ fun _ _ z => z
  · refine wpAny_If ?_
    walk_at "r"
    by_cases hneg : i < 0
    · rw [decide_eq_true hneg, if_pos rfl]
      walk_at "r"
      exact ⟨rfl, _, _, _, _, _, rfl, F, by rw [if_pos hneg, ← hlen], by walk_at "look", by walk_at "look", by walk_at "look"⟩
    · rw [decide_eq_false hneg, if_neg (by decide)]
      walk_at "r"
      exact ⟨rfl, _, _, _, _, _, rfl, F, by rw [if_neg hneg], by walk_at "look", by walk_at "look", by walk_at "look"⟩
  rintro f s' ⟨rfl, h2', tk2, m', t, j, rfl, F', hj, q1, q2, q3⟩
  refine nx_next ?_
  refine execs_of (l' := (stmtsAt w m_set).drop 2) (env' := envAt w m_set L) (by with_unfolding_all rfl) (by with_unfolding_all rfl) ?_
  rw [← hj] at hset hend hout
  refine set_rest T V0 hn2 (by split at hj <;> (clear hn2 h2 hroom hh hfr hx hdx hlen q1 q2 q3; omega)) (by split at hj <;> (clear h1 hroom hh hfr hx hdx hlen q1 q2 q3; omega)) (Nat.succ_lt_succ hroom) hh F' q1 q2 q3 (fun x' h' tk a b c d e => hset x' h' tk a b c d e) (fun x' h' tk a b c d => hend x' h' tk a b c d) ?_
  intro e h₂ h₀ tk3 hor F0 ne
  exact leave_new F0 .rfl' hfr hb hff ne fun h' th => hout e h' _ hor th
end
section
variable {prog : Program} {w : World} {A : Around} {E : Value → Shared → Prop} {hp : Heap} {gs : Array GenState} {dr : Drawn} {tk : Nat} {os : OsState} {mg mb : Str → Option Value} {x dx : Addr} {sl : List (Option Value)} {Q : Value → Shared → Prop}
theorem len_spec {n : Int} {root tail : Addr} {sh toff : Int} {t1 t2 t3 : Tok} (T : Tp (KK w) mg mb hp) (hx : hp.get? x = some (VO dx n root sh tail toff t1 t2 t3)) (hdx : hp.get? dx = some emptyDict)
    (hroom : A.depth < 900) (h : ∀ h' tk, Ext hp h' → Q (.int n t1) ⟨h', gs, dr, tk, os⟩) : wpAny (model prog w) A (call (.ref m_dunder_len) [.ref x]) Q E ⟨hp, gs, dr, tk, os⟩ := by
  refine wpAny_call ?_
  refine call_fx [] (binds := [(Str.ofString "self", .ref x)]) (by walk_at "room") (T.X _ _ (lk m_dunder_len (by kernel_rfl))) (by with_unfolding_all rfl) T.nolimit (codeRec_of T.X (by kernel_rfl)) (BindsTo.of_eq (by with_unfolding_all rfl)) (locs (by with_unfolding_all rfl)) (fun _ q => nomatch q) List.nodup_nil ?_ (by decide +kernel)
  intro L h₁ tk F
  have F : Fx hp L h₁ _ [] := F
  walk_at "r"
  exact h _ _ F.keep
theorem fi_getitem : findIn (KK w) (.ref aC) "__getitem__" = some (some (.ref m_dunder_getitem)) := by kernel_rfl
theorem ty_getitem : typeIn (KK w) (.ref m_dunder_getitem) = some (.type "function") := by kernel_rfl
theorem fn_getitem : ∃ fo, (KK w).lookup m_dunder_getitem = some fo ∧ ∃ fd, fo.data = .func fd := ⟨_, lk m_dunder_getitem (by kernel_rfl), _, by with_unfolding_all rfl⟩
/-- a vector read by a key -/
theorem sub_vec {value slice : Expr} {i : Value} {xs : List Value} (T : Tp (KK w) mg mb hp) (V : VecAt hp x xs) (h : wpAny (model prog w) A.in1 (call (.ref m_dunder_getitem) [.ref x, i]) Q E ⟨hp, gs, dr, tk, os⟩)
    (hsl : subscripted slice true (.ref x) i = runValue (.builtin "lifetime.subscript" ⟨[.ref x, i], []⟩) := by with_unfolding_all rfl) : wpAny (model prog w) A (subscriptTail value slice (.ref x) i) Q E ⟨hp, gs, dr, tk, os⟩ := by
  obtain ⟨dx, root, tail, n, toff, sh, t1, t2, t3, hx, hdx, _⟩ := V.len
  have I := inst_of hx hdx
  have X := T.X
  obtain ⟨fo, e, fd, he⟩ := fn_getitem (w := w)
  unfold subscriptTail getitemInPython
  refine wpAny_bind (wpAny_bind (wpAny_bind (I.type.here (s := ⟨hp, gs, dr, tk, os⟩) ((looks_findIn X fi_getitem).here (s := ⟨hp, gs, dr, tk, os⟩) ?_))))
  dsimp only
  refine wpAny_bind (wpAny_load (X _ _ e) ?_)
  rw [he]
  refine wpAny_pure ?_
  dsimp only
  rw [hsl]
  refine wpAny_bind (wpAny_runValue (codeAny_builtin entry_sub ?_))
  unfold Builtin.«lifetime.subscript»
  refine wpAny_bind (special_fn (s := ⟨hp, gs, dr, tk, os⟩) X I fi_getitem ty_getitem (wpAny_mono h (fun v s' z => ?_) fun _ _ z => z))
  refine wpAny_pure ?_
  show wpAny (model prog w) A (letTemporaryGo value (.ref x) v >>= fun _ => pure v) Q E s'
  exact wpAny_bind (wpAny_letTemporaryGo (wpAny_pure z))
theorem c_loc {M : Model} {scope : Scope} {cl : List (Str × Addr)} {C : Addr} {env : Env} {n : Str} {pos : Pos} {v : Value} {m : Str → Option Value} {s : Shared} (hn : s.heap.Ns C m) (hv : m n = some v) (h : Q v s)
    (hk : (compEnvC scope cl C env).scope.kind = .function := by with_unfolding_all rfl) (hx : (compEnvC scope cl C env).kindOf n = some .local := by with_unfolding_all rfl) (hd : (n == ("__debug__" : Str)) = false := by decide) :
    wpAny M A (eval (.Name n pos) (compEnvC scope cl C env)) Q E s := wpAny_Name (wpAny_loadName_local hk hx hn hv h) hd
theorem c_cell {M : Model} {scope : Scope} {cl : List (Str × Addr)} {C c : Addr} {env : Env} {n : Str} {pos : Pos} {v : Value} {o : Obj} {s : Shared} (hc : cl.lookup n = some c) (ho : s.heap.get? c = some (CX o (some v))) (h : Q v s)
    (hk : (compEnvC scope cl C env).scope.kind = .function := by with_unfolding_all rfl) (hx : (compEnvC scope cl C env).kindOf n = some .cell := by with_unfolding_all rfl) (hd : (n == ("__debug__" : Str)) = false := by decide) :
    wpAny M A (eval (.Name n pos) (compEnvC scope cl C env)) Q E s := wpAny_Name (wpAny_loadName_cell hk hx hc ⟨_, ho, rfl⟩ h) hd
theorem fi_len : findIn (KK w) (.ref aC) "__len__" = some (some (.ref m_dunder_len)) := by kernel_rfl
theorem ty_len : typeIn (KK w) (.ref m_dunder_len) = some (.type "function") := by kernel_rfl
theorem len_vec {xs : List Value} (T : Tp (KK w) mg mb hp) (V : VecAt hp x xs) (hn : xs.length ≤ 1000000) (hroom : A.depth < 800)
    (h : ∀ h' tk t, Ext hp h' → Q (.int xs.length t) ⟨h', gs, dr, tk, os⟩) : wpAny (model prog w) A (call (.builtin "len") [.ref x]) Q E ⟨hp, gs, dr, tk, os⟩ := by
  obtain ⟨dx, root, tail, n, toff, sh, t1, t2, t3, hx, hdx, hlen⟩ := V.len
  refine Calls.call_function_entry kind_len plain_len entry_len (args_len1 _) ?_
  unfold Builtin.«len»
  refine wpAny_bind (m := oneArg "len" _) (wpAny_pure ?_)
  refine wpAny_bind (m := callSpecial? (.ref x) (Str.ofString "__len__")) (special_fn (s := ⟨hp, gs, dr, tk, os⟩) T.X (inst_of hx hdx) fi_len ty_len (len_spec T hx hdx (by walk_at "room") fun h' tk' e => ?_))
  refine wpAny_bind (wpAny_holding (wpAny_pure ?_))
  refine wpAny_bind (wpAny_letGo ?_)
  show wpAny _ _ (if n < 0 then _ else _) _ _ _
  rw [if_neg (by (clear hn hroom hx hdx; omega))]
  show wpAny _ _ (if n ≥ 2 ^ 63 then _ else _) _ _ _
  rw [if_neg (by omega)]
  rw [hlen]
  exact wpAny_bind (wpAny_mkInt (wpAny_pure ⟨_, rfl, h _ _ _ e⟩))
theorem sub_at {value slice : Expr} {l : Addr} {items : List Value} {n : Nat} {k : Int} {t : Tok} {v : Value} (hl : hp.get? l = some (LO items n)) (h1 : -(items.length : Int) ≤ k) (h2 : k < items.length) (hz : items.length ≤ 1000000) (hv : items[(if k < 0 then k + (items.length : Int) else k).toNat]? = some v) (h : Q v ⟨hp, gs, dr, tk, os⟩)
    (hs : subscripted slice false (.ref l) (.int k t) = operate [.ref l, .int k t] (getItem (.ref l) (.int k t)) := by with_unfolding_all rfl) :
    wpAny (model prog w) A (subscriptTail value slice (.ref l) (.int k t)) Q E ⟨hp, gs, dr, tk, os⟩ := by
  by_cases hk : k < 0
  · rw [if_pos hk] at hv
    refine tail_any (isList_of hl).typeIs slot_list_getitem.lookup (wpAny_getItem_list_neg (s := ⟨hp, gs, dr, tk, os⟩) (isList_of hl) hk (by rw [List.size_toArray]; exact h1) (by omega) ?_ h) hs
    simpa using hv
  · rw [if_neg hk] at hv
    exact sub_list hl (by exact Int.not_lt.mp hk) (by (clear hl h1 hv hs hk; omega)) hv h hs
theorem pvector5 {P : List Value → Prop} {v : Value} (T : Tp (KK w) mg mb hp) (S : Src hp v P) (hn : ∀ ys, P ys → ys.length < 40000) (hroom : A.depth < 390) (hh : A.handled = none)
    (h : ∀ x' ys h' tk, Ext hp h' → P ys → VecAt h' x' ys → NewTl hp aEmpty h' x' → Q (.ref x') ⟨h', gs, dr, tk, os⟩) : wpAny (model prog w) A (call (.ref g_python_pvector) [v]) Q E ⟨hp, gs, dr, tk, os⟩ := by
  have V := empty_vec T.X
  obtain ⟨dx, root, tail, n, toff, sh, t1, t2, t3, hx, hdx, _⟩ := V.len
  refine wpAny_call ?_
  refine call_fx [] (binds := [(Str.ofString "iterable", v)]) (by walk_at "room") (T.X _ _ (lk g_python_pvector (by kernel_rfl))) (by with_unfolding_all rfl) T.nolimit (codeRec_of T.X (by kernel_rfl)) (BindsTo.of_defaults rfl (T.X _ _ (lk _ (by kernel_rfl))) (by with_unfolding_all rfl) (by with_unfolding_all rfl) (by with_unfolding_all rfl)) (locs (by with_unfolding_all rfl)) (fun _ q => nomatch q) List.nodup_nil ?_ (by decide +kernel)
  intro L h₁ tk F
  have F : Fx hp L h₁ _ [] := F
  walk_at "r"
  refine gm_extend (T.up F.keep).X (F.keep _ _ hx) (F.keep _ _ hdx) ?_
  refine cw_fn T (by kernel_rfl) ?_
  walk_at "r"
  refine ⟨F.keep, ?_⟩
  refine extend5 (T.up F.keep) (V.up F.keep) (S.up F.keep) ⟨by simp, fun ys hP => by simpa using hn ys hP⟩ (by walk_at "room") hh ?_
  intro x' ys h' tk' eh hP V' hnt
  walk_at "r"
  exact h x' ys _ _ (F.keep.trans eh) hP (by simpa using V') (hnt.from F.keep V)
end
/-- a dict's object -/
abbrev DK (prog : Program) (w : World) (o : Obj) (kvs : List (Int × Value)) : Prop := o.IsDictOf (intKind prog w) kvs
section
variable {prog : Program} {w : World} {A : Around} {E : Value → Shared → Prop} {hp : Heap} {gs : Array GenState} {dr : Drawn} {tk : Nat} {os : OsState} {b : Heap} {L d : Addr} {m : Str → Option Value} {own : List (Addr × Obj)} {o : Obj} {kvs : List (Int × Value)}
theorem dictOf_of (hd : hp.get? d = some o) (D : DK prog w o kvs) : hp.DictOf (intKind prog w) d kvs := Heap.dictOf_iff.mpr ⟨o, hd, D⟩
theorem nd {env : Env} {pos : Pos} {Q : Value → Shared → Prop} (F : Fx b L hp m own) (h : ∀ D h' o, hp.objs.size ≤ D → DK prog w o [] → Fx b L h' m ((D, o) :: own) → Ext hp h' → Q (.ref D) ⟨h', gs, dr, tk, os⟩) :
    wpAny (model prog w) A (eval (.Dict [] [] pos) env) Q E ⟨hp, gs, dr, tk, os⟩ := by
  refine wpAny_Dict_empty ?_
  obtain ⟨o, ho, D⟩ := Heap.dictOf_iff.mp (Heap.DictOf.new (knd := intKind prog w) hp)
  rw [Heap.get?_push_size _ rfl] at ho
  cases ho
  exact h _ _ _ (Nat.le_refl _) D (F.push _) (.of_push _)
theorem dc_copy {Q : Value → Shared → Prop} (F : Fx b L hp m own) (hd : hp.get? d = some o) (D : DK prog w o kvs) (hs : (d == sysModules) = false) (hz : kvs.length ≤ 1000000) (h : ∀ D h' o, hp.objs.size ≤ D → DK prog w o kvs → Fx b L h' m ((D, o) :: own) → Ext hp h' → Q (.ref D) ⟨h', gs, dr, tk, os⟩) :
    wpAny (model prog w) A (call (.type "dict") [.ref d]) Q E ⟨hp, gs, dr, tk, os⟩ := by
  refine kt_call_dict hs (dictOf_of hd D) (by rw [sizeLine_eq]; exact Nat.le_trans hz (by decide)) fun h' hd' sb => ?_
  obtain ⟨o', ho', D'⟩ := Heap.dictOf_iff.mp hd'
  have F1 := (F.push { cls := .type "dict", data := .dict #[] }).turnS sb ho'
  exact h _ _ o' (Nat.le_refl _) D' F1 fun c oc e => (sb.2 c (Nat.ne_of_lt (Heap.lt_size e))).trans (Heap.get?_push_of_some _ e)
theorem dc_set {Q : Unit → Shared → Prop} {k : Int} {t : Tok} {v : Value} (F : Fx b L hp m ((d, o) :: own)) (D : DK prog w o kvs) (hz : kvs.length ≤ 1000000) (h : ∀ h' o, DK prog w o (stored kvs k v) → Fx b L h' m ((d, o) :: own) → Q () ⟨h', gs, dr, tk + 1, os⟩) :
    wpAny (model prog w) A (setItem (.ref d) (.int k t) v) Q E ⟨hp, gs, dr, tk, os⟩ := by
  refine wpAny_setItem_pairs (knd := intKind prog w) (intKind_is prog w k t) (dictOf_of F.head D) (fun h' hd' sb => ?_) (by rw [sizeLine_eq]; exact Nat.le_trans hz (by decide))
  obtain ⟨o', ho', D'⟩ := Heap.dictOf_iff.mp hd'
  exact h h' o' D' (F.turnS sb ho')
theorem gm_dict {name : Str} {id : String} {pl : Sem Bool} {Q : Value × List Value → Shared → Prop} (hd : hp.get? d = some o) (D : DK prog w o kvs) (slot : Slot "dict" name id)
    (hty : typeOf (.builtin id) = pure (.type "method_descriptor")) (h : Q (.builtin id, [.ref d]) ⟨hp, gs, dr, tk, os⟩) : wpAny (model prog w) A (getMethod (.ref d) name pl) Q E ⟨hp, gs, dr, tk, os⟩ :=
  getMethod_builtin (dictOf_of hd D).typeIs PySem.F.plainAttrs_dict slot hty (dictOf_of hd D).mapOf.noDict h
theorem dc_get {Q : Value → Shared → Prop} {k : Int} {t : Tok} {v : Value} (hd : hp.get? d = some o) (D : DK prog w o kvs) (hs : (d == sysModules) = false) (h : ∀ tk, Q ((valueAt kvs k).getD v) ⟨hp, gs, dr, tk, os⟩) :
    wpAny (model prog w) A (call (.builtin "dict.get") [.ref d, .int k t, v]) Q E ⟨hp, gs, dr, tk, os⟩ :=
  call_meetsIn PySem.F.slot_dict_get (dictOf_of hd D).typeIs PySem.F.entry_dict_get (PySem.F.args_dict_get_3 _ _ _) (meets_dict_get_default (intKind prog w) d (intKind_is prog w k t) hs v) ⟨_, (dictOf_of hd D).mapOf, h _⟩
abbrev VwO (d : Addr) : Obj := { cls := .type "dict_items", data := .fields #[.ref d] }
theorem dc_items {Q : Value → Shared → Prop} (F : Fx b L hp m own) (hd : hp.get? d = some o) (D : DK prog w o kvs) (hs : (d == sysModules) = false) (h : ∀ v h', Fx b L h' m ((v, VwO d) :: own) → Q (.ref v) ⟨h', gs, dr, tk, os⟩) :
    wpAny (model prog w) A (call (.builtin "dict.items") [.ref d]) Q E ⟨hp, gs, dr, tk, os⟩ :=
  call_meetsIn PySem.F.slot_dict_items (dictOf_of hd D).typeIs PySem.F.entry_dict_items (PySem.F.args_dict_items_1 _) (meets_dict_items (intKind prog w) d hs) ⟨⟨_, dictOf_of hd D⟩, h _ _ (F.push (VwO d))⟩
end
theorem Fx.dropBut {b h h' : Heap} {L a : Addr} {m : Str → Option Value} {o : Obj} {own : List (Addr × Obj)} (F : Fx b L h m ((a, o) :: own)) (e : Heap.ExtBut a h h') : Fx b L h' m own := by
  have hL : L ≠ a := fun q => F.notL (p := (a, o)) (.head _) q.symm
  obtain ⟨oL, es, ep, gL, r⟩ := F.ns
  have nd := F.nodup
  simp only [List.map_cons, List.nodup_cons, List.mem_cons, not_or] at nd
  refine ⟨⟨oL, es, ep, e _ _ hL gL, r⟩, fun c oc q => e c oc (fun z => ?_) (F.keep c oc q), F.lout, fun p hp => e _ _ (fun z => nd.2.1 (List.mem_map.mpr ⟨p, hp, z⟩)) (F.has p (.tail _ hp)), fun p hp => F.out p (.tail _ hp), ?_⟩
  · have := F.out (a, o) (.head _); rw [z] at q; rw [q] at this; cases this
  · exact List.nodup_cons.mpr ⟨nd.1.2, nd.2.2⟩
section
variable {prog : Program} {w : World} {A : Around} {R : Result → Shared → Prop} {hp : Heap} {gs : Array GenState} {dr : Drawn} {tk₀ : Nat} {os : OsState}
set_option maxHeartbeats 1000000 in
/-- a for over a dict's items, into two locals -/
theorem for_items {xk xv : Str} {pk pv pt : Pos} {kk : Nat} {body : List Stmt} {b : Heap} {L a d vw : Addr} {m : Str → Option Value} {own : List (Addr × Obj)} {cn : Str} {cs : Scope} {ccd : Value} {cl : List (Str × Addr)} {o : Obj} {kvs : List (Int × Value)} {E : Value → Shared → Prop}
    (F : Fx b L hp m ((vw, VwO d) :: own)) (hd : b.get? d = some o) (D : DK prog w o kvs) (hh : A.handled = none)
    (Inv : Nat → (Str → Option Value) → List (Addr × Obj) → Prop) (h0 : Inv 0 m own)
    (step : ∀ i k t v m₁ own₁ h₁ tk₁ it E', kvs[i]? = some (k, v) → Inv i m₁ own₁ → Fx b L h₁ (fun z => if z = xv then some v else if z = xk then some (.int k t) else m₁ z) (own₁ ++ it) →
      wpAny (model prog w) A (execs body (envX cn cs L a ccd cl)) (fun f s' => f = .next ∧ ∃ h' tk m' own', s' = ⟨h', gs, dr, tk, os⟩ ∧ Fx b L h' m' (own' ++ it) ∧ Inv (i + 1) m' own') E' ⟨h₁, gs, dr, tk₁, os⟩)
    (fin : ∀ h' tk m' own', Inv kvs.length m' own' → Fx b L h' m' own' → R (.ok .next) ⟨h', gs, dr, tk, os⟩)
    (hk : cs.kind = .function := by with_unfolding_all rfl) (hx : (envX cn cs L a ccd cl).kindOf xk = some .local := by with_unfolding_all rfl) (hy : (envX cn cs L a ccd cl).kindOf xv = some .local := by with_unfolding_all rfl) :
    wpAny (model prog w) A (pyIter (.ref vw)) (fun it s₂ => codeAny (model prog w) A (.forLoop (.Tuple [.Name xk pk, .Name xv pv] kk pt) it body [] (envX cn cs L a ccd cl)) R s₂) E ⟨hp, gs, dr, tk₀, os⟩ := by
  have he : assignEach [Expr.Name xk pk, Expr.Name xv pv] (envX cn cs L a ccd cl) = [(false, assign (.Name xk pk) (envX cn cs L a ccd cl)), (false, assign (.Name xv pv) (envX cn cs L a ccd cl))] := by with_unfolding_all rfl
  obtain ⟨ep, hm⟩ := (dictOf_of (F.keep _ _ hd) D).dictAt
  have hmb : b.DictAt (intKind prog w) d kvs ep := by
    obtain ⟨o', es, ho', r⟩ := hm
    rw [F.keep _ _ hd] at ho'
    cases ho'
    exact ⟨o, es, hd, r⟩
  refine wpAny_pyIter_items (knd := intKind prog w) (d := d) (kvs := kvs) (ep := ep) ⟨_, F.head, rfl, rfl⟩ hm ?_
  dsimp only
  have F0 := (F.push { cls := .type "dict_itemiterator", data := .fields #[.none, .bool false, .ref d, .int 0 0, .int kvs.length 0, .int ep 0, .none, .none] }).swap.drop
  generalize hI : hp.objs.size = I at F0
  refine codeAny_forLoop_any (fun n s' => ∃ h' tk m' own' i ok ov ob, s' = ⟨h', gs, dr, tk, os⟩ ∧ n = kvs.length + 1 - i ∧ i ≤ kvs.length ∧ IsItemIter h' I d i kvs.length ep ok ov ∧ Fx b L h' m' ((I, ob) :: own') ∧ Inv i m' own') ?_ (kvs.length + 1)
    ⟨_, _, m, own, 0, .none, .none, _, rfl, rfl, Nat.zero_le _, F0.head, F0, h0⟩
  rintro n s' ⟨h, tk, m', own', i, ok, ov, ob, rfl, rfl, hi, hit, F', inv⟩
  have dI : d ≠ I := fun q => by have := F0.out _ (.head _); rw [← q, hd] at this; cases this
  have hmh : h.DictAt (intKind prog w) d kvs ep := hmb.at fun o e => F'.keep _ o e
  cases hv : kvs[i]? with
  | none =>
    have hsz : i = kvs.length := Nat.le_antisymm hi (by simpa using hv)
    refine wpAny_pyNext_items_end hh hit hmh hv fun h₁ he₁ => wpAny_execs_nil ?_
    subst hsz
    exact fin h₁ tk m' own' inv (F'.dropBut he₁)
  | some kv =>
    obtain ⟨k, v⟩ := kv
    have hlt : i < kvs.length := (List.getElem?_eq_some_iff.mp hv).1
    refine wpAny_pyNext_items_item hit hmh hv fun key h₁ hkey heo ht₁ hz₁ hk₁ => ?_
    obtain ⟨t, rfl⟩ := Value.isInt_shape (show Value.isInt k key = true from hkey)
    refine wpAny_letOwnedTupleGo_items heo fun h₂ he₂ hs₂ => ?_
    replace hs₂ : Heap.SameBut I h₁ h₂ := hs₂
    have hIh : I < h.objs.size := Heap.lt_size hit
    have ht₂ : h₂.IsTuple h.objs.size #[.int k t, v] := ⟨_, (hs₂.2 _ (Nat.ne_of_gt hIh)).trans ht₁, rfl, _, rfl⟩
    have F₂ := F'.turn (h' := h₂) (o' := _) (fun c oc q e => (hs₂.2 c q).trans (hk₁ c oc q e)) he₂
    refine wpAny_assign_Tuple (items := #[.int k t, v]) hh ht₂ (by rw [he]; rfl) (by rw [he]; rfl) fun h₃ e₃ => ?_
    have ex : Ext h₂ h₃ := fun c oc q => e₃ c oc (Nat.ne_of_lt (Heap.lt_size q)) q
    have F₃ := F₂.ext ex
    have F₃' := F₃.perm (List.perm_append_comm (l₁ := [_]) (l₂ := own'))
    rw [he]
    show wpAny _ _ (holding [v] (assign (.Name xk pk) (envX cn cs L a ccd cl) (.int k t)) >>= fun _ => holding [] (assign (.Name xv pv) (envX cn cs L a ccd cl) v) >>= fun _ => pure ()) _ _ _
    refine wpAny_bind (wpAny_holding (wpAny_assign_Name (st_loc F₃' (fun h₄ F₄ => ?_) hk hx)))
    refine wpAny_bind (wpAny_holding (wpAny_assign_Name (st_loc F₄ (fun h₅ F₅ => ?_) hk hy)))
    refine wpAny_pure ?_
    refine wpAny_mono (step i k t v m' own' h₅ _ _ _ hv inv F₅) (fun f s₃ z => ?_) fun _ _ z => z
    obtain ⟨rfl, h₆, tk₆, m₆, own₆, rfl, F₆, inv₆⟩ := z
    have F₆' := F₆.perm (List.perm_append_comm (l₁ := own₆) (l₂ := [_]))
    exact ⟨kvs.length + 1 - (i + 1), by (clear hd hh hk hx hy he hI hi hit dI hv hz₁ hkey heo ht₁ he₂ hIh; omega), h₆, tk₆, m₆, own₆, i + 1, _, _, _, rfl, rfl, hlt, F₆'.head, F₆', inv₆⟩
end
/-- objects that are no cell, no record, no namespace in use -/
def Solid (o : Obj) : Prop := (∀ v, o.data ≠ .cell v) ∧ (∀ vs, o.data ≠ .fields vs) ∧ (o = emptyDict ∨ ∀ es n, o.data ≠ .dict es n)
def Kp (h b : Heap) : Prop := ∀ c o, h.get? c = some o → Solid o → b.get? c = some o
def Odd (own : List (Addr × Obj)) : Prop := ∀ p ∈ own, (∃ v, p.2.data = .cell v) ∨ ∃ vs, p.2.data = .fields vs
theorem solid_list (its : List Value) (n : Nat) : Solid (LO its n) := ⟨fun _ q => (by cases q), fun _ q => (by cases q), .inr fun _ _ q => by cases q⟩
theorem solid_inst (dx : Addr) (sl : List (Option Value)) : Solid (IO dx sl) := ⟨fun _ q => (by cases q), fun _ q => (by cases q), .inr fun _ _ q => by cases q⟩
theorem solid_empty : Solid emptyDict := ⟨fun _ q => (by cases q), fun _ q => (by cases q), .inl rfl⟩
theorem Kp.list {h b : Heap} (k : Kp h b) {c : Addr} {its : List Value} {n : Nat} (e : h.get? c = some (LO its n)) : b.get? c = some (LO its n) := k c _ e (solid_list _ _)
/-- the head goes into the base -/
theorem Fx.sink {b h : Heap} {L a : Addr} {m : Str → Option Value} {o : Obj} {own : List (Addr × Obj)} (F : Fx b L h m ((a, o) :: own)) : ∃ b', Ext b b' ∧ Fx b' L h m own ∧ b'.get? a = some o := by
  obtain ⟨b', e, F', k, k2⟩ := F.freeze own (List.sublist_cons_self _ _)
  have nd := F.nodup
  simp only [List.map_cons, List.nodup_cons, List.mem_cons, not_or] at nd
  exact ⟨b', e, F', k a o (fun q => nd.1.1 q.symm) nd.2.1 F.head⟩
/-- all that is solid goes into the base, but for some -/
def Kpx (ex : List Addr) (h b : Heap) : Prop := ∀ c o, h.get? c = some o → Solid o → c ∉ ex → b.get? c = some o
theorem Fx.settlex {b h : Heap} {L : Addr} {m : Str → Option Value} {own own' : List (Addr × Obj)} {x : Str} {v : Value} (ex : List Addr) (F : Fx b L h m own) (hm : m x = some v) (hs : own'.Sublist own) (ho : ∀ p ∈ own', (∃ v, p.2.data = .cell v) ∨ (∃ vs, p.2.data = .fields vs) ∨ p.1 ∈ ex) :
    ∃ b', Ext b b' ∧ Fx b' L h m own' ∧ Kpx ex h b' := by
  obtain ⟨b', e, F', k, k2⟩ := F.freeze own' hs
  refine ⟨b', e, F', fun c o hc so hx => k c o (fun q => ?_) (fun q => ?_) hc⟩
  · subst q
    obtain ⟨oL, es, ep, gL, hd, hst, hf⟩ := F.ns
    rw [gL] at hc
    have := Option.some.inj hc
    subst this
    rcases so.2.2 with rfl | so
    · have e1 : es = #[] := by
        have : Data.dict #[] 0 = Data.dict es ep := hd
        cases this; rfl
      subst e1
      have := hf x
      rw [hm] at this
      simp [nsFind, findBy] at this
    · exact so _ _ hd
  · obtain ⟨p, hp, rfl⟩ := List.mem_map.mp q
    have := F'.has p hp
    rw [hc] at this
    have := Option.some.inj this
    rcases ho p hp with ⟨v, hv⟩ | ⟨vs, hv⟩ | hv
    · exact so.1 v (this ▸ hv)
    · exact so.2.1 vs (this ▸ hv)
    · exact hx hv
theorem Kpx.list {ex : List Addr} {h b : Heap} (k : Kpx ex h b) {c : Addr} {its : List Value} {n : Nat} (e : h.get? c = some (LO its n)) (hx : c ∉ ex) : b.get? c = some (LO its n) := k c _ e (solid_list _ _) hx
theorem ints_no_ref {vs : List Value} {ns : List Int} (hi : IntsAre vs ns) {a : Addr} (h : Value.ref a ∈ vs) : False := by
  obtain ⟨j, hj, e⟩ := List.getElem_of_mem h
  have hj' : j < ns.length := by rw [← hi.length]; exact hj
  obtain ⟨t, ht⟩ := hi.get j ns[j] (List.getElem?_eq_getElem hj')
  rw [List.getElem?_eq_getElem hj, e] at ht
  cases ht
/-- none of a vector's nodes but perhaps its last row, its namespace: a short list of numbers, a list whose first item refers to what is no list, a dict -/
def Aside (h : Heap) (D : Addr) : Prop := (∃ v rest e, h.get? D = some (LO (v :: rest) e) ∧ ((∀ a, v ≠ .ref a) ∧ rest.length < 31 ∨ ∃ a, v = .ref a ∧ ∀ its n, h.get? a ≠ some (LO its n))) ∨ ∃ o, h.get? D = some o ∧ o.cls = .type "dict"
theorem Aside.list {h : Heap} {D : Addr} {its : List Value} {n : Nat} (a : Aside h D) (g : h.get? D = some (LO its n)) : ∃ v rest e, h.get? D = some (LO (v :: rest) e) ∧ ((∀ a, v ≠ .ref a) ∧ rest.length < 31 ∨ ∃ a, v = .ref a ∧ ∀ its n, h.get? a ≠ some (LO its n)) := by
  rcases a with a | ⟨o, q, c⟩
  · exact a
  · rw [g] at q
    cases q
    have c : Value.type "list" = Value.type "dict" := c
    injection c with c
    exact absurd c (by decide)
theorem lo_inj {h : Heap} {c : Addr} {its its' : List Value} {n n' : Nat} (a : h.get? c = some (LO its n)) (b : h.get? c = some (LO its' n')) : its = its' := by
  rw [a] at b
  have := Option.some.inj b
  injection this with _ _ hd _
  injection hd with q _
  simpa using q
theorem Tr.kpx {ex : List Addr} {h b : Heap} (k : Kpx ex h b) (ha : ∀ D ∈ ex, Aside h D) : ∀ {d : Nat} {a : Addr} {ls : List Value} {yss : List (List Value)}, Tr h d a ls → Lv h ls yss → Tr b d a ls
  | 0, a, ls, yss, ⟨n, g⟩, V => by
    refine ⟨n, k.list g fun hx => ?_⟩
    obtain ⟨v, rest, e, hD, hor⟩ := (ha a hx).list g
    have := lo_inj g hD
    subst this
    obtain ⟨ys, hys⟩ : ∃ ys, yss[0]? = some ys := ⟨_, List.getElem?_eq_getElem (by rw [← V.1]; simp)⟩
    obtain ⟨c, nc, rfl, hc⟩ := V.2 0 _ ys rfl hys
    rcases hor with ⟨q, _⟩ | ⟨a', q, q2⟩
    · exact q c rfl
    · cases q; exact q2 _ _ hc
  | d + 1, a, ls, yss, ⟨n, cs, g, h1, h2, h3⟩, V => by
    refine ⟨n, cs, k.list g fun hx => ?_, h1, h2, fun i c hc => (h3 i c hc).kpx k ha V.chunk⟩
    obtain ⟨v, rest, e, hD, hor⟩ := (ha a hx).list g
    have := lo_inj g hD
    cases cs with
    | nil => cases this
    | cons c cs =>
      have hv : Value.ref c = v := (List.cons.inj this).1
      have hc : ∃ its n, h.get? c = some (LO its n) := by
        have t := h3 0 c rfl
        cases d with
        | zero => obtain ⟨n, g⟩ := t; exact ⟨_, _, g⟩
        | succ d => obtain ⟨n, cs, g, _⟩ := t; exact ⟨_, _, g⟩
      obtain ⟨its, nn, hc⟩ := hc
      rcases hor with ⟨q, _⟩ | ⟨a', q, q2⟩
      · exact q c hv.symm
      · rw [q] at hv; cases hv; exact q2 _ _ hc
theorem VecAt.kpx {ex : List Addr} {h b : Heap} {x tl dx : Addr} {xs : List Value} {ns : List Int} (V : VecAt h x xs) (k : Kpx ex h b) (hi : IntsAre xs ns) (ht : TailOf h x tl dx) (htl : tl ∉ ex) (hdx : dx ∉ ex) (ha : ∀ D ∈ ex, Aside h D) : VecAt b x xs := by
  obtain ⟨dx', root, tail, n, toff, sh, t1, t2, t3, d, yss, zs, nt, e1, e2, R, e4, e5, e6, e7, e8, e9, e10⟩ := V
  obtain ⟨rfl, rfl⟩ := ht.same ⟨_, _, _, _, _, _, _, e1⟩
  have inx : ∀ ys, ys ∈ yss → ∀ v, v ∈ ys → v ∈ xs := fun ys hys v hv => by
    rw [e10]; exact List.mem_append_left _ (List.mem_flatten.mpr ⟨ys, hys, hv⟩)
  have hxx : x ∉ ex := fun hx => by
    rcases ha x hx with ⟨v, rest, e, hD, _⟩ | ⟨o, hD, hc⟩
    · rw [e1] at hD
      have := Option.some.inj hD
      injection this with q _ _ _
      cases q
    · rw [e1] at hD
      cases hD
      cases hc
  have hb1 := k _ _ e1 (solid_inst _ _) hxx
  obtain ⟨ls, T, V, hl, hd⟩ := R
  refine ⟨dx, root, tl, n, toff, sh, t1, t2, t3, d, yss, zs, nt, hb1, k _ _ e2 solid_empty hdx, ⟨ls, T.kpx k ha V, ⟨V.1, fun i v ys hv hy => ?_⟩, hl, hd⟩, k.list e4 htl, e5, e6, e7, e8, e9, e10⟩
  obtain ⟨c, nc, rfl, hc⟩ := V.2 i v ys hv hy
  have hys := List.mem_of_getElem? hy
  have h32 := e9 ys hys
  refine ⟨c, nc, rfl, k.list hc fun hx => ?_⟩
  obtain ⟨v, rest, e, hD, hor⟩ := (ha c hx).list hc
  have := lo_inj hc hD
  subst this
  rcases hor with ⟨_, q⟩ | ⟨a', rfl, q2⟩
  · simp at h32; (clear htl hdx e5 e6 e7 e8 e10 e4 e2 e1 hxx hb1 hl hd hv hD hy hc; omega)
  · exact ints_no_ref hi (a := a') (inx _ hys _ (.head _))
section
variable {prog : Program} {w : World} {A : Around} {E : Value → Shared → Prop} {hp : Heap} {gs : Array GenState} {dr : Drawn} {tk : Nat} {os : OsState} {mg mb : Str → Option Value} {Q : Value → Shared → Prop}
/-- what a table of changes says of the items -/
def TabOk (kvs : List (Int × Value)) (ns : List Int) : Prop := (∀ (j : Nat) (z : Int), ns[j]? = some z → (∃ t, valueAt kvs j = some (.int z t)) ∨ valueAt kvs j = none ∧ z = 1000 + j) ∧ (∀ k v, (k, v) ∈ kvs → 0 ≤ k ∧ k < ns.length)
theorem spot_get {xs : List Value} {ns : List Int} (hi : IntsAre xs ns) {j : Nat} {v : Value} (h : xs[j]? = some v) : ∃ z t, ns[j]? = some z ∧ v = .int z t := by
  have hj : j < ns.length := by rw [← hi.length]; exact (List.getElem?_eq_some_iff.mp h).1
  obtain ⟨t, ht⟩ := hi.get j ns[j] (List.getElem?_eq_getElem hj)
  rw [h] at ht
  exact ⟨_, t, List.getElem?_eq_getElem hj, Option.some.inj ht⟩
theorem Fx.weaken {b b' h : Heap} {L : Addr} {m : Str → Option Value} {own : List (Addr × Obj)} (F : Fx b L h m own) (e : Ext b' b) : Fx b' L h m own :=
  ⟨F.ns, e.trans F.keep, e.none F.lout, F.has, fun p hp => e.none (F.out p hp), F.nodup⟩
theorem Fx.putBack {b h h' : Heap} {L : Addr} {m m' : Str → Option Value} {p : Addr × Obj} {o' : Obj} {own own' : List (Addr × Obj)} (F : Fx b L h m (p :: own)) (F' : Fx b L h' m' own') (he : own'.map (·.1) = own.map (·.1)) (ha : h'.get? p.1 = some o') : Fx b L h' m' ((p.1, o') :: own') := by
  refine ⟨F'.ns, F'.keep, F'.lout, fun q hq => ?_, fun q hq => ?_, ?_⟩
  · rcases List.mem_cons.mp hq with rfl | hq
    · exact ha
    · exact F'.has q hq
  · rcases List.mem_cons.mp hq with rfl | hq
    · exact F.out p (.head _)
    · exact F'.out q hq
  · have := F.nodup
    simp only [List.map_cons] at this ⊢
    rw [he]; exact this
/-- an outer frame among the own objects -/
theorem Fx.outerIn {h h' : Heap} {L L0 : Addr} {m : Str → Option Value} {o0 : Obj} (F : Fx h L h' m []) (h0 : h.get? L0 = some o0) : Fx (hideAll h [L0]) L h' m [(L0, o0)] := by
  have F1 := F.weaken (b' := hideAll h [L0]) fun c o e => of_hideAll _ e
  refine ⟨F1.ns, F1.keep, F1.lout, fun p hp => by rw [List.mem_singleton.mp hp]; exact F.keep _ _ h0, fun p hp => by rw [List.mem_singleton.mp hp]; exact hideAll_none _ (.head _), ?_⟩
  have : L ≠ L0 := fun q => by have := F.lout; rw [q, h0] at this; cases this
  simp [this]
theorem Fx.afterOuter {b h h' : Heap} {L0 : Addr} {m : Str → Option Value} {own : List (Addr × Obj)} {o0 : Obj} {sl : Array (Option Value)} (F : Fx b L0 h m own) (h0 : h.get? L0 = some o0) (e : Ext (hideAll h [L0]) h') (hs : h'.get? L0 = some { o0 with slots := sl }) : Fx b L0 h' m own := by
  have hb : Ext b (hideAll h [L0]) := fun c o q => hideAll_get _ (F.keep c o q) fun z => by rw [List.mem_singleton.mp z, F.lout] at q; cases q
  refine F.slots hb (fun p hp => hideAll_get _ (F.has p hp) fun z => F.notL hp (List.mem_singleton.mp z)) e fun c o q _ => ?_
  by_cases z : c = L0
  · subst z
    rw [h0] at q
    cases q
    exact ⟨sl, hs⟩
  · exact ⟨o.slots, e c o (hideAll_get _ q fun y => z (List.mem_singleton.mp y))⟩
set_option maxHeartbeats 2000000 in
theorem holds_spec {env0 : Env} {L0 x d qa : Addr} {o0 : Obj} {xs asked : List Value} {ns as : List Int} {o : Obj} {kvs : List (Int × Value)} {c : Int} {tc : Tok} {na : Nat} (hfr : A.frames = some [env0]) (hk0 : env0.scope.kind ≠ .module) (hf0 : env0.frame = some L0) (ho0 : hp.get? L0 = some o0) (hd0 : ∀ vs, o0.data ≠ .fields vs)
    (T : Tp (KK w) mg mb (hideAll hp [L0])) (V : VecAt (hideAll hp [L0]) x xs) (hi : IntsAre xs ns) (hc : c = ns.length) (hn : ns.length < 40000) (hd : (hideAll hp [L0]).get? d = some o) (D : DK prog w o kvs) (hds : (d == sysModules) = false) (hk : TabOk kvs ns)
    (hqa : (hideAll hp [L0]).get? qa = some (LO asked na)) (ha : IntsAre asked as) (hal : as.length ≤ 100) (hab : ∀ z ∈ as, -100000 ≤ z ∧ z ≤ 100000) (hroom : A.depth < 350) (hu : A.units < 500) (hh : A.handled = none)
    (h : ∀ h' tk sl, Ext (hideAll hp [L0]) h' → h'.get? L0 = some { o0 with slots := sl } → Q (.bool true) ⟨h', gs, dr, tk, os⟩) :
    wpAny (model prog w) A (call (.ref g_law_holds) [.ref x, .int c tc, .ref d, .ref qa]) Q E ⟨hp, gs, dr, tk, os⟩ := by
  have T0 := T.up (fun c o e => of_hideAll _ e : Ext (hideAll hp [L0]) hp)
  have hxl := hi.length
  have hall := ha.length
  refine wpAny_call ?_
  refine call_fx [] (binds := [(Str.ofString "vector", .ref x), (Str.ofString "count", .int c tc), (Str.ofString "changes", .ref d), (Str.ofString "asked", .ref qa)]) (by walk_at "room") (T0.X _ _ (lk g_law_holds (by kernel_rfl))) (by with_unfolding_all rfl) T0.nolimit (codeRec_of T0.X (by kernel_rfl)) (BindsTo.of_eq (by with_unfolding_all rfl)) (locs (by with_unfolding_all rfl)) (fun _ q => nomatch q) List.nodup_nil ?_ (by decide +kernel)
  intro L h₁ tk F
  replace F : Fx hp L h₁ _ [] := F
  replace F := F.outerIn ho0
  walk_at "rc"
  refine len_vec (T.up F.keep) (V.up F.keep) (by exact Nat.le_trans (Nat.le_of_eq hxl) (Nat.le_trans (Nat.le_of_lt hn) (by decide))) (by walk_at "room") ?_
  intro h2 tk2 t2 e2
  replace F := F.ext e2
  walk_at "rc"
  rw [if_neg (by simp; omega)]
  walk_at "rc"
  refine wpAny_For ?_
  walk_at "rc"
  refine nl F ?_ (by simp)
  clear F; intro D1 h3 F _
  walk_at "rc"
  refine lc_add F F.head (F.keep _ _ hqa) (by simp; omega) ?_
  clear F; intro D2 h4 F _
  have hP : ∀ v, v ∈ [Value.int 0 tk2, Value.int 31 (tk2 + 1), Value.int 32 (tk2 + 1 + 1), Value.int 1023 (tk2 + 1 + 1 + 1), Value.int 1024 (tk2 + 1 + 1 + 1 + 1), Value.int 1055 (tk2 + 1 + 1 + 1 + 1 + 1), Value.int 1056 (tk2 + 1 + 1 + 1 + 1 + 1 + 1), Value.int 32767 (tk2 + 1 + 1 + 1 + 1 + 1 + 1 + 1), Value.int 32768 (tk2 + 1 + 1 + 1 + 1 + 1 + 1 + 1 + 1), Value.int 32799 (tk2 + 1 + 1 + 1 + 1 + 1 + 1 + 1 + 1 + 1), Value.int 32800 (tk2 + 1 + 1 + 1 + 1 + 1 + 1 + 1 + 1 + 1 + 1), Value.int 32801 (tk2 + 1 + 1 + 1 + 1 + 1 + 1 + 1 + 1 + 1 + 1 + 1),
      Value.int (c - 1) (tk2 + 1 + 1 + 1 + 1 + 1 + 1 + 1 + 1 + 1 + 1 + 1 + 1 + 1), Value.int c tc, Value.int (-1) (tk2 + 1 + 1 + 1 + 1 + 1 + 1 + 1 + 1 + 1 + 1 + 1 + 1 + 1 + 1 + 1), Value.int (-c) (tk2 + 1 + 1 + 1 + 1 + 1 + 1 + 1 + 1 + 1 + 1 + 1 + 1 + 1 + 1 + 1 + 1), Value.int (-c - 1) (tk2 + 1 + 1 + 1 + 1 + 1 + 1 + 1 + 1 + 1 + 1 + 1 + 1 + 1 + 1 + 1 + 1 + 1 + 1 + 1)] ++ asked → ∃ z t, v = .int z t ∧ -100000 ≤ z ∧ z ≤ 100000 := by
    intro v hv
    rcases List.mem_append.mp hv with hv | hv
    · simp only [List.mem_cons, List.not_mem_nil, or_false] at hv
      rcases hv with rfl | rfl | rfl | rfl | rfl | rfl | rfl | rfl | rfl | rfl | rfl | rfl | rfl | rfl | rfl | rfl | rfl <;> exact ⟨_, _, rfl, by first | decide | (clear hfr hk0 hf0 ho0 hd hds hqa hal hroom hu hh hxl hall; omega), by first | decide | (clear hfr hk0 hf0 ho0 hd hds hqa hal hroom hu hh hxl hall; omega)⟩
    · obtain ⟨j, hj, e⟩ := List.getElem_of_mem hv
      have hj' : j < as.length := by exact hall ▸ hj
      obtain ⟨t, ht⟩ := ha.get j as[j] (List.getElem?_eq_getElem hj')
      rw [List.getElem?_eq_getElem hj, e] at ht
      obtain ⟨q1, q2⟩ := hab _ (List.getElem_mem hj')
      exact ⟨_, t, Option.some.inj ht, q1, q2⟩
  generalize hIT : [Value.int 0 tk2, Value.int 31 (tk2 + 1), Value.int 32 (tk2 + 1 + 1), Value.int 1023 (tk2 + 1 + 1 + 1), Value.int 1024 (tk2 + 1 + 1 + 1 + 1), Value.int 1055 (tk2 + 1 + 1 + 1 + 1 + 1), Value.int 1056 (tk2 + 1 + 1 + 1 + 1 + 1 + 1), Value.int 32767 (tk2 + 1 + 1 + 1 + 1 + 1 + 1 + 1), Value.int 32768 (tk2 + 1 + 1 + 1 + 1 + 1 + 1 + 1 + 1), Value.int 32799 (tk2 + 1 + 1 + 1 + 1 + 1 + 1 + 1 + 1 + 1), Value.int 32800 (tk2 + 1 + 1 + 1 + 1 + 1 + 1 + 1 + 1 + 1 + 1), Value.int 32801 (tk2 + 1 + 1 + 1 + 1 + 1 + 1 + 1 + 1 + 1 + 1 + 1),
      Value.int (c - 1) (tk2 + 1 + 1 + 1 + 1 + 1 + 1 + 1 + 1 + 1 + 1 + 1 + 1 + 1), Value.int c tc, Value.int (-1) (tk2 + 1 + 1 + 1 + 1 + 1 + 1 + 1 + 1 + 1 + 1 + 1 + 1 + 1 + 1 + 1), Value.int (-c) (tk2 + 1 + 1 + 1 + 1 + 1 + 1 + 1 + 1 + 1 + 1 + 1 + 1 + 1 + 1 + 1 + 1), Value.int (-c - 1) (tk2 + 1 + 1 + 1 + 1 + 1 + 1 + 1 + 1 + 1 + 1 + 1 + 1 + 1 + 1 + 1 + 1 + 1 + 1 + 1)] ++ asked = its at F hP
  obtain ⟨b₁, e₁, F₁, hD2⟩ := F.sink
  clear F
  have F := F₁.drop; clear F₁
  replace T := T.up e₁
  walk_at "rc"
  refine for_list F hD2 hh (fun _ b' m' own' => b' = b₁ ∧ (∃ sl, own' = [(L0, { o0 with slots := sl })]) ∧ m' (Str.ofString "vector") = some (.ref x) ∧ m' (Str.ofString "count") = some (.int c tc) ∧ m' (Str.ofString "changes") = some (.ref d)) ⟨rfl, ⟨_, rfl⟩, rfl, rfl, rfl⟩ ?_ ?_
  · clear F
    rintro i v b' m₁ own₁ h5 tk5 it E' hil hv ⟨rfl, ⟨sl, rfl⟩, mv, mc, md⟩ _ F
    obtain ⟨z, tz, rfl, hz1, hz2⟩ := hP v (List.mem_of_getElem? hv)
    replace F : Fx b' L h5 _ ((L0, { o0 with slots := sl }) :: it) := F
    walk_at "rc"
    refine wpAny_mono (Q := fun u s' => ∃ j t tk', u = .int j t ∧ j = (if z < 0 then z + c else z) ∧ s' = ⟨h5, gs, dr, tk', os⟩) ?_ ?_ fun _ _ z => z
    · refine wpAny_IfExp ?_
      walk_at "rc"
      by_cases hneg : z < 0
      · rw [decide_eq_true hneg, if_pos rfl]
        walk_at "rc"
        exact ⟨_, _, _, rfl, by rw [if_pos hneg], rfl⟩
      · rw [decide_eq_false hneg, if_neg (by decide)]
        walk_at "rc"
        exact ⟨_, _, _, rfl, by rw [if_neg hneg], rfl⟩
    rintro u s' ⟨j, tj, tk', rfl, hj, rfl⟩
    walk_at "rc"
    refine wpAny_mono (Q := fun f s' => f = .next ∧ ∃ h' tk' Dr cr rs zs t sl', s' = ⟨h', gs, dr, tk', os⟩ ∧ Fx b' L h' (fun y => if y = Str.ofString "read" then some (.ref Dr) else if y = Str.ofString "spot" then some (.int j tj) else if y = Str.ofString "place" then some (.int z t) else m₁ y) ((Dr, LO rs cr) :: (L0, { o0 with slots := sl' }) :: it) ∧ IntsAre rs zs ∧
      (0 ≤ j ∧ j < c ∧ (∃ y, ns[j.toNat]? = some y ∧ zs = [y]) ∨ (j < 0 ∨ c ≤ j) ∧ zs = [])) ?_ ?_ fun _ _ z => z
    · refine wpAny_Try_except ?_
      walk_at "rc"
      refine sub_vec (T.up F.keep) ((V.up e₁).up F.keep) ?_
      refine getitem5 (base := hideAll hq [L, L0]) (outer := [_, env0]) (T.up F.keep) ((V.up e₁).up F.keep) (by exact Nat.lt_of_le_of_lt (Nat.le_of_eq hxl) hn) hz1 hz2 (by walk_at "room") hh (Around.frames_deeper hfr) (fun _ _ e => of_hideAll _ e) ?_ ?_ ?_
      · exact frames_of F (by with_unfolding_all decide) (hideAll_none _ (.head _)) ⟨hk0, ⟨L0, _, hf0, hideAll_none _ (.tail _ (.head _)), F.head, hd0⟩, trivial⟩
      · intro v h6 tk6 q1 q2 e6
        rw [hxl, ← hc, ← hj] at q1 q2
        obtain ⟨y, ty, q3, rfl⟩ := spot_get hi q2
        replace F := F.ext e6
        walk_at "rc"
        refine nl F ?_ (by simp)
        clear F; intro Dr h7 F _
        walk_at "rc"
        have hjl := (List.getElem?_eq_some_iff.mp q3).1
        exact ⟨rfl, _, _, Dr, 0, [.int y ty], [y], _, _, rfl, F, .cons _ _ .nil, .inl ⟨q1, by (clear hfr hk0 hf0 ho0 hn hd hds hqa hal hroom hu hh hxl hall hIT hil hD2 mv mc md hv hz1 hz2 hj q1 q3 q2; omega), y, q3, rfl⟩⟩
      · intro e h6 tk6 q1 th
        rw [hxl, ← hc, ← hj] at q1
        refine caught F.drop T (base := hideAll hq [L, L0]) (fun c o q => hideAll_get _ (F.keep c o q) (fun z => ?_)) (fun p hp => hideAll_get _ (F.has p (.tail _ hp)) (fun z => ?_)) (Around.frames_deeper hfr) th (by kernel_rfl) (by kernel_rfl) (by decide) Rz.ie1 Rz.ie2 Rz.ie3 ?_
        · rcases List.mem_cons.mp z with rfl | z
          · rw [F.lout] at q; cases q
          · have := F.out _ (.head _); rw [← List.mem_singleton.mp z] at this; rw [q] at this; cases this
        · have nd := F.nodup
          simp only [List.map_cons, List.nodup_cons, List.mem_cons, not_or] at nd
          rcases List.mem_cons.mp z with z | z
          · exact F.notL (.tail _ hp) z
          · exact nd.2.1 (List.mem_map.mpr ⟨p, hp, List.mem_singleton.mp z⟩)
        intro h7 tk7 E'' F7 _ u7 _
        obtain ⟨sl', hsl⟩ := u7 _ _ F.head hd0
        replace F := F.putBack F7 rfl hsl
        walk_at "rc"
        refine nl F ?_ (by simp)
        clear F; intro Dr h8 F _
        walk_at "rc"
        exact ⟨rfl, _, _, Dr, 0, [], [], _, _, rfl, F, .nil, .inr ⟨q1, rfl⟩⟩
    clear F
    rintro f s' ⟨rfl, h6, tk6, Dr, cr, rs, zs, t, sl', rfl, F, hrs, hcase⟩
    refine nx_next ?_
    walk_at "rc"
    refine wpAny_mono (Q := fun u s' => ∃ h' tk' Dc cc cs ms, u = .ref Dc ∧ s' = ⟨h', gs, dr, tk', os⟩ ∧ Fx b' L h' (fun y => if y = Str.ofString "read" then some (.ref Dr) else if y = Str.ofString "spot" then some (.int j tj) else if y = Str.ofString "place" then some (.int z t) else m₁ y) ((Dc, LO cs cc) :: (Dr, LO rs cr) :: (L0, { o0 with slots := sl' }) :: it) ∧ IntsAre cs ms ∧ ms = zs) ?_ ?_ fun _ _ z => z
    · refine wpAny_IfExp ?_
      walk_at "rc"
      rcases hcase with ⟨j0, jc, y, hy, rfl⟩ | ⟨hor, rfl⟩
      · rw [decide_eq_true j0, if_pos rfl]
        walk_at "rc"
        rw [decide_eq_true jc, if_pos rfl]
        walk_at "rc"
        refine gm_dict (F.keep _ _ (e₁ _ _ hd)) D PySem.F.slot_dict_get PySem.F.type_dict_get ?_
        walk_at "rc"
        refine dc_get (F.keep _ _ (e₁ _ _ hd)) D hds ?_
        intro tk7
        obtain ⟨jn, rfl⟩ := Int.eq_ofNat_of_zero_le j0
        have hv2 : ∀ tt, ∃ t', (valueAt kvs (jn : Int)).getD (.int (1000 + (jn : Int)) tt) = .int y t' := by
          intro tt
          rcases hk.1 jn y hy with ⟨t', e⟩ | ⟨e, rfl⟩
          · exact ⟨t', by rw [e]; rfl⟩
          · exact ⟨_, by rw [e]; rfl⟩
        walk_at "rc"
        refine nl F ?_ (by simp)
        clear F; intro Dc h8 F _
        obtain ⟨t', e⟩ := hv2 _
        rw [e] at F
        exact ⟨_, _, Dc, 0, _, [y], rfl, rfl, F, .cons _ _ .nil, rfl⟩
      · by_cases j0 : 0 ≤ j
        · rw [decide_eq_true j0, if_pos rfl]
          walk_at "rc"
          rw [decide_eq_false (by (clear hfr hk0 hf0 ho0 hc hn hd hds hqa hal hroom hu hh hxl hall hIT hil hD2 mv mc md hv hz1 hz2 hj; omega)), if_neg (by decide)]
          walk_at "rc"
          refine nl F ?_ (by simp)
          clear F; intro Dc h8 F _
          exact ⟨_, _, Dc, 0, _, [], rfl, rfl, F, .nil, rfl⟩
        · rw [decide_eq_false j0, if_neg (by decide)]
          walk_at "rc"
          rw [if_neg (by decide)]
          walk_at "rc"
          refine nl F ?_ (by simp)
          clear F; intro Dc h8 F _
          exact ⟨_, _, Dc, 0, _, [], rfl, rfl, F, .nil, rfl⟩
    clear F
    rintro u s' ⟨h7, tk7, Dc, cc, cs, ms, rfl, rfl, F, hms, rfl⟩
    refine ke_ne_ints (isList_of F.head2) (isList_of F.head) hrs hms (by simp only [Around.deeper, cLine]; (clear hfr hk0 hf0 ho0 hc hn hd hds hqa hal hroom hh hxl hall hIT hil hD2 mv mc md hv hz1 hz2 hj hcase; omega)) ?_
    walk_at "rc"
    rw [if_neg (by simp)]
    walk_at "rc"
    exact ⟨_, _, b', _, [(L0, { o0 with slots := sl' })], rfl, .rfl', F.drop.drop, rfl, ⟨sl', rfl⟩, by walk_at "look2", by walk_at "look2", by walk_at "look2"⟩
  · clear F
    rintro h6 tk6 b' m' own' ⟨rfl, ⟨sl, rfl⟩, _⟩ _ F
    walk_at "rc"
    exact h _ _ sl (e₁.trans F.keep) F.head
end
section
variable {prog : Program} {w : World} {A : Around} {E : Value → Shared → Prop} {hp : Heap} {gs : Array GenState} {dr : Drawn} {tk : Nat} {os : OsState} {mg mb : Str → Option Value} {Q : Value → Shared → Prop}
theorem fm_in (a : Int) {c : Int} (hc : 0 < c) : 0 ≤ a.fmod c ∧ a.fmod c < c := ⟨Int.fmod_nonneg_of_pos a hc, Int.fmod_lt_of_pos a hc⟩
set_option maxHeartbeats 1000000 in
theorem size_spec {n : Int} {t : Tok} (T : Tp (KK w) mg mb hp) (hroom : A.depth < 800) (h : ∀ (size : Nat) t h' tk, size ≤ 32900 → Ext hp h' → Q (.int size t) ⟨h', gs, dr, tk, os⟩) :
    wpAny (model prog w) A (call (.ref g_law_size) [.int n t]) Q E ⟨hp, gs, dr, tk, os⟩ := by
  have h' : ∀ (z : Int) t h' tk, 0 ≤ z → z ≤ 32900 → Ext hp h' → Q (.int z t) ⟨h', gs, dr, tk, os⟩ := fun z t h' tk h1 h2 e => by
    obtain ⟨k, rfl⟩ := Int.eq_ofNat_of_zero_le h1
    exact h k t h' tk (by exact Int.ofNat_le.mp h2) e
  clear h
  refine wpAny_call ?_
  refine call_fx [] (binds := [(Str.ofString "number", .int n t)]) (by walk_at "room") (T.X _ _ (lk g_law_size (by kernel_rfl))) (by with_unfolding_all rfl) T.nolimit (codeRec_of T.X (by kernel_rfl)) (BindsTo.of_eq (by with_unfolding_all rfl)) (locs (by with_unfolding_all rfl)) (fun _ q => nomatch q) List.nodup_nil ?_ (by decide +kernel)
  intro L h₁ tk F
  have F : Fx hp L h₁ _ [] := F
  walk_at "r"
  refine x_fdiv (by decide) (by decide) ?_
  walk_at "r"
  refine x_mod (by decide) ?_
  walk_at "r"
  by_cases hlt : n.fmod 8 < 7
  · rw [decide_eq_true hlt, if_pos rfl]
    walk_at "r"
    refine x_mod (by decide) ?_
    walk_at "r"
    have := fm_in (n.fdiv 8) (c := 1100) (by decide)
    exact h' _ _ _ _ this.1 (by omega) F.keep
  · rw [decide_eq_false hlt, if_neg (by decide)]
    walk_at "r"
    refine x_fdiv (by decide) (by decide) ?_
    walk_at "r"
    refine x_mod (by decide) ?_
    walk_at "r"
    refine x_mod (by decide) ?_
    walk_at "r"
    refine nl F ?_ (by simp)
    clear F; intro D hq F _
    walk_at "r"
    refine x_mod (by decide) ?_
    walk_at "r"
    have h2 := fm_in (n.fdiv 8) (c := 2) (by decide)
    have h3 := fm_in ((n.fdiv 8).fdiv 2) (c := 161) (by decide)
    have h4 := fm_in ((n.fdiv 8).fdiv 2) (c := 32901) (by decide)
    rcases (by omega : (n.fdiv 8).fmod 2 = 0 ∨ (n.fdiv 8).fmod 2 = 1) with q | q <;> rw [q]
    · refine sub_list F.head (by decide) (by decide) rfl ?_
      walk_at "r"
      exact h' _ _ _ _ (by omega) (by omega) F.keep
    · refine sub_list F.head (by decide) (by decide) rfl ?_
      walk_at "r"
      exact h' _ _ _ _ (by exact h4.1) (by omega) F.keep
end
theorem stored_at {kvs : List (Int × Value)} {k j : Int} {v : Value} : valueAt (stored kvs k v) j = if j = k then some v else valueAt kvs j := by
  unfold stored
  split
  · rename_i h
    induction kvs with
    | nil => simp at h
    | cons kv kvs ih =>
      unfold valueAt at ih ⊢
      rw [List.map_cons, List.find?_cons, List.find?_cons]
      by_cases e : kv.1 = k
      · rw [if_pos e]
        by_cases ej : kv.1 = j
        · have : j = k := by rw [← ej]; exact e
          simp [ej, this]
        · have : ¬ j = k := fun q => ej (by rw [e, q])
          simp only [ej, decide_false, this, if_false]
          by_cases h2 : kvs.any (fun kv => kv.1 = k) = true
          · rw [ih h2, if_neg this]
          · have hn : kvs.map (fun kv => if kv.1 = k then (kv.1, v) else kv) = kvs := by
              refine map_store_of_not_mem kvs k v fun q => ?_
              obtain ⟨x, hx, q⟩ := List.mem_map.mp q
              exact h2 (List.any_eq_true.mpr ⟨x, hx, by simpa using q⟩)
            rw [hn]
      · rw [if_neg e]
        have h2 : kvs.any (fun kv => kv.1 = k) = true := by simpa [e] using h
        by_cases ej : kv.1 = j
        · have : ¬ j = k := fun q => e (by rw [ej, q])
          simp [ej, this]
        · simp only [ej, decide_false]
          exact ih h2
  · rename_i h
    unfold valueAt
    rw [List.find?_append]
    by_cases e : j = k
    · subst e
      have : kvs.find? (fun kv => decide (kv.1 = j)) = none := by
        rw [List.find?_eq_none]
        intro x hx q
        exact h (List.any_eq_true.mpr ⟨x, hx, q⟩)
      rw [this]; simp
    · rw [if_neg e]
      have e' : ¬ k = j := fun q => e q.symm
      cases kvs.find? (fun kv => decide (kv.1 = j)) <;> simp [e']
theorem stored_len {kvs : List (Int × Value)} {k : Int} {v : Value} : (stored kvs k v).length ≤ kvs.length + 1 := by
  unfold stored; split <;> simp
theorem stored_mem {kvs : List (Int × Value)} {k k' : Int} {v v' : Value} (h : (k', v') ∈ stored kvs k v) : k' = k ∨ ∃ u, (k', u) ∈ kvs := by
  unfold stored at h
  split at h
  · obtain ⟨x, hx, e⟩ := List.mem_map.mp h
    split at e
    · rename_i q; left; cases e; exact q
    · right; subst e; exact ⟨_, hx⟩
  · rcases List.mem_append.mp h with h | h
    · exact .inr ⟨_, h⟩
    · left; cases List.mem_singleton.mp h; rfl
theorem valueAt_mem {kvs : List (Int × Value)} (hn : (kvs.map (·.1)).Nodup) {k : Int} {v : Value} (h : (k, v) ∈ kvs) : valueAt kvs k = some v := by
  induction kvs with
  | nil => cases h
  | cons kv kvs ih =>
    rw [List.map_cons, List.nodup_cons] at hn
    unfold valueAt at ih ⊢
    rw [List.find?_cons]
    rcases List.mem_cons.mp h with e | h
    · subst e; simp
    · have : ¬ kv.1 = k := fun q => hn.1 (List.mem_map.mpr ⟨(k, v), h, q.symm⟩)
      simp only [this, decide_false]
      exact ih hn.2 h
theorem valueAt_none {kvs : List (Int × Value)} {k : Int} (h : k ∉ kvs.map (·.1)) : valueAt kvs k = none := by
  unfold valueAt
  rw [List.find?_eq_none.mpr]
  · rfl
  · intro x hx q
    exact h (List.mem_map.mpr ⟨x, hx, by simpa using q⟩)
theorem TabOk.nil {n : Nat} : TabOk [] (rangeL 1000 1 n) := ⟨fun j z h => .inr ⟨rfl, by
  unfold rangeL at h
  rw [List.getElem?_map] at h
  obtain ⟨a, ha, e⟩ := Option.map_eq_some_iff.mp h
  obtain ⟨hj, e2⟩ := List.getElem?_eq_some_iff.mp ha
  rw [List.getElem_range] at e2
  omega⟩, fun k v h => by cases h⟩
theorem TabOk.snoc {kvs : List (Int × Value)} {ns : List Int} {z : Int} {t : Tok} (h : TabOk kvs ns) : TabOk (stored kvs ns.length (.int z t)) (ns ++ [z]) := by
  refine ⟨fun j y hy => ?_, fun k v hm => ?_⟩
  · rw [stored_at]
    by_cases e : (j : Int) = ns.length
    · rw [if_pos e]
      have : j = ns.length := by exact congrArg Int.toNat e
      subst this
      rw [List.getElem?_append_right (Nat.le_refl _)] at hy
      simp at hy
      subst hy
      exact .inl ⟨_, rfl⟩
    · rw [if_neg e]
      have hj := (List.getElem?_eq_some_iff.mp hy).1
      rw [List.length_append, List.length_singleton] at hj
      rw [List.getElem?_append_left (by omega)] at hy
      exact h.1 j y hy
  · rw [List.length_append, List.length_singleton]
    rcases stored_mem hm with rfl | ⟨u, hu⟩
    · omega
    · have := h.2 _ _ hu; omega
theorem TabOk.set {kvs : List (Int × Value)} {ns : List Int} {z : Int} {t : Tok} {k : Nat} (h : TabOk kvs ns) (hk : k < ns.length) : TabOk (stored kvs k (.int z t)) (ns.set k z) := by
  refine ⟨fun j y hy => ?_, fun k' v hm => ?_⟩
  · rw [stored_at]
    by_cases e : (j : Int) = k
    · rw [if_pos e]
      have : j = k := by exact congrArg Int.toNat e
      subst this
      rw [List.getElem?_set_self hk] at hy
      cases hy
      exact .inl ⟨_, rfl⟩
    · rw [if_neg e]
      rw [List.getElem?_set_ne (by omega)] at hy
      exact h.1 j y hy
  · rw [List.length_set]
    rcases stored_mem hm with rfl | ⟨u, hu⟩
    · omega
    · exact h.2 _ _ hu
theorem ints_set {vs : List Value} {ns : List Int} (h : IntsAre vs ns) (k : Nat) (z : Int) (t : Tok) : IntsAre (vs.set k (.int z t)) (ns.set k z) := by
  induction h generalizing k with
  | nil => exact .nil
  | cons n u h ih =>
    cases k with
    | zero => exact .cons _ _ h
    | succ k => exact .cons _ _ (ih k)
/-- a version: a vector, its count, its table -/
def OneV (prog : Program) (w : World) (b : Heap) (sz K : Nat) (mv cv tv : Value) : Prop := ∃ x xs ns c t d o kvs, mv = .ref x ∧ cv = .int c t ∧ tv = .ref d ∧ VecAt b x xs ∧ IntsAre xs ns ∧ c = ns.length ∧ ns.length ≤ sz + K ∧ b.get? d = some o ∧ DK prog w o kvs ∧ (d == sysModules) = false ∧ TabOk kvs ns ∧ kvs.length ≤ K
theorem OneV.up {prog : Program} {w : World} {b b' : Heap} {sz K K' : Nat} {mv cv tv : Value} (h : OneV prog w b sz K mv cv tv) (e : Ext b b') (hK : K ≤ K') : OneV prog w b' sz K' mv cv tv := by
  obtain ⟨x, xs, ns, c, t, d, o, kvs, a1, a2, a3, a4, a5, a6, a7, a8, a9, a10, a11, a12⟩ := h
  exact ⟨x, xs, ns, c, t, d, o, kvs, a1, a2, a3, a4.up e, a5, a6, by omega, e _ _ a8, a9, a10, a11, by exact Nat.le_trans a12 hK⟩
structure Vers (prog : Program) (w : World) (b : Heap) (sz K : Nat) (ms cs ts : List Value) : Prop where
  l1 : ms.length = cs.length
  l2 : ms.length = ts.length
  pos : 0 < ms.length
  ok : ∀ (i : Nat) v1 v2 v3, ms[i]? = some v1 → cs[i]? = some v2 → ts[i]? = some v3 → OneV prog w b sz K v1 v2 v3
theorem Vers.up {prog : Program} {w : World} {b b' : Heap} {sz K K' : Nat} {ms cs ts : List Value} (h : Vers prog w b sz K ms cs ts) (e : Ext b b') (hK : K ≤ K') : Vers prog w b' sz K' ms cs ts :=
  ⟨h.l1, h.l2, h.pos, fun i v1 v2 v3 a b c => (h.ok i v1 v2 v3 a b c).up e hK⟩
theorem Vers.at {prog : Program} {w : World} {b : Heap} {sz K : Nat} {ms cs ts : List Value} (h : Vers prog w b sz K ms cs ts) {i : Nat} (hi : i < ms.length) : ∃ v1 v2 v3, ms[i]? = some v1 ∧ cs[i]? = some v2 ∧ ts[i]? = some v3 ∧ OneV prog w b sz K v1 v2 v3 := by
  have h1 := h.l1
  have h2 := h.l2
  have e1 : ms[i]? = some ms[i] := List.getElem?_eq_getElem hi
  have e2 : cs[i]? = some cs[i] := List.getElem?_eq_getElem (by exact h1 ▸ hi)
  have e3 : ts[i]? = some ts[i] := List.getElem?_eq_getElem (by exact h2 ▸ hi)
  exact ⟨_, _, _, e1, e2, e3, h.ok i _ _ _ e1 e2 e3⟩
theorem Vers.push {prog : Program} {w : World} {b : Heap} {sz K : Nat} {ms cs ts : List Value} {m c t : Value} (h : Vers prog w b sz K ms cs ts) (v : OneV prog w b sz K m c t) : Vers prog w b sz K (ms ++ [m]) (cs ++ [c]) (ts ++ [t]) := by
  have h1 := h.l1
  have h2 := h.l2
  refine ⟨by simp [h1], by simp [h2], by simp, fun i v1 v2 v3 a b c => ?_⟩
  by_cases hi : i < ms.length
  · rw [List.getElem?_append_left hi] at a
    rw [List.getElem?_append_left (by exact h1 ▸ hi)] at b
    rw [List.getElem?_append_left (by exact h2 ▸ hi)] at c
    exact h.ok i _ _ _ a b c
  · have hl := (List.getElem?_eq_some_iff.mp a).1
    have : i = ms.length := by simp at hl; (clear h1 h2 a b c; omega)
    subst this
    rw [List.getElem?_append_right (Nat.le_refl _)] at a
    rw [h1, List.getElem?_append_right (Nat.le_refl _)] at b
    rw [h2, List.getElem?_append_right (Nat.le_refl _)] at c
    simp at a b c
    subst a b c
    exact v
theorem Vers.one {prog : Program} {w : World} {b : Heap} {sz K : Nat} {m c t : Value} (v : OneV prog w b sz K m c t) : Vers prog w b sz K [m] [c] [t] :=
  ⟨rfl, rfl, by simp, fun i v1 v2 v3 a b c => by
    match i, a, b, c with
    | 0, a, b, c => cases a; cases b; cases c; exact v
    | i + 1, a, _, _ => cases a⟩
/-- what is none of a vector's nodes, said so that it stays true -/
def AsideP (h : Heap) (D : Addr) : Prop := (∃ v rest e, h.get? D = some (LO (v :: rest) e) ∧ ((∀ a, v ≠ .ref a) ∧ rest.length < 31 ∨ ∃ a o, v = .ref a ∧ h.get? a = some o ∧ ∀ its n, o ≠ LO its n)) ∨ ∃ o, h.get? D = some o ∧ o.cls = .type "dict"
theorem AsideP.to {h h' : Heap} {D : Addr} (a : AsideP h D) (e : Ext h h') : Aside h' D := by
  rcases a with ⟨v, rest, n, g, c | ⟨a, o, q1, q2, q3⟩⟩ | ⟨o, g, c⟩
  · exact .inl ⟨v, rest, n, e _ _ g, .inl c⟩
  · refine .inl ⟨v, rest, n, e _ _ g, .inr ⟨a, q1, fun its k q => ?_⟩⟩
    rw [e _ _ q2] at q
    exact q3 _ _ (Option.some.inj q)
  · exact .inr ⟨o, e _ _ g, c⟩
theorem DK.cls {prog : Program} {w : World} {o : Obj} {kvs : List (Int × Value)} (D : DK prog w o kvs) : o.cls = .type "dict" := by
  obtain ⟨es, ep, hE, _⟩ := D
  exact hE.1
theorem dict_no_list {o : Obj} (c : o.cls = .type "dict") : ∀ its n, o ≠ LO its n := fun its n q => by
  rw [q] at c
  have c : Value.type "list" = Value.type "dict" := c
  injection c with c
  exact absurd c (by decide)
theorem io_no_list {dx : Addr} {sl : List (Option Value)} : ∀ its n, IO dx sl ≠ LO its n := fun its n q => by
  injection q with q _ _ _
  cases q
/-- a new vector goes into the base, the call's own lists and dicts stay its own -/
theorem Fx.takeVec {b h₀ h : Heap} {L x x' : Addr} {m : Str → Option Value} {own : List (Addr × Obj)} {xs xs' : List Value} {ns' : List Int} {y : Str} {v : Value} (ex : List Addr) (F : Fx b L h₀ m own) (e : Ext h₀ h) (V : VecAt b x xs) (V' : VecAt h x' xs') (hi : IntsAre xs' ns') (n : NewTl h₀ x h x') (hm : m y = some v)
    (ho : ∀ p ∈ own, (∃ v, p.2.data = .cell v) ∨ (∃ vs, p.2.data = .fields vs) ∨ p.1 ∈ ex) (hex : ∀ D ∈ ex, ∃ o, (D, o) ∈ own) (ha : ∀ D ∈ ex, AsideP h₀ D) : ∃ b', Ext b b' ∧ Fx b' L h m own ∧ VecAt b' x' xs' := by
  obtain ⟨b', e', F', kp⟩ := (F.ext e).settlex ex hm (List.Sublist.refl _) ho
  obtain ⟨tl, dx, t, c1, c2⟩ := n
  obtain ⟨tl0, dx0, t0, ⟨o1, q1⟩, ⟨o2, q2⟩⟩ := V.tail
  have t0 := t0.up F.keep
  have off : ∀ a, (h₀.get? a = none ∨ ∃ o, b.get? a = some o) → a ∉ ex := fun a hor hx => by
    obtain ⟨o, hmem⟩ := hex a hx
    rcases hor with q | ⟨o', q⟩
    · have := F.has _ hmem
      rw [q] at this; cases this
    · have := F.out _ hmem
      rw [q] at this; cases this
  refine ⟨b', e', F', V'.kpx kp hi t (off _ ?_) (off _ ?_) fun D hD => (ha D hD).to e⟩
  · rcases c1 with c | ⟨d0, c⟩
    · exact .inl c
    · obtain ⟨rfl, _⟩ := t0.same c
      exact .inr ⟨_, q1⟩
  · rcases c2 with c | ⟨d0, c⟩
    · exact .inl c
    · obtain ⟨_, rfl⟩ := t0.same c
      exact .inr ⟨_, q2⟩
/-- the four lists of versions are none of a vector's nodes -/
theorem Vers.aside {prog : Program} {w : World} {b h : Heap} {sz K : Nat} {ms cs ts as : List Value} {DM DC DT DA : Addr} {n1 n2 n3 n4 : Nat} {zs : List Int} (V : Vers prog w b sz K ms cs ts) (e : Ext b h) (h1 : h.get? DM = some (LO ms n1)) (h2 : h.get? DC = some (LO cs n2)) (h3 : h.get? DT = some (LO ts n3)) (h4 : h.get? DA = some (LO as n4)) (hl : ms.length ≤ 30) (ha : IntsAre as zs) (ha0 : 0 < as.length) (hal : as.length ≤ 30) :
    AsideP h DM ∧ AsideP h DC ∧ AsideP h DT ∧ AsideP h DA := by
  obtain ⟨v1, v2, v3, y1, y2, y3, x, xs, ns, c, t, d, o, kvs, rfl, rfl, rfl, Vx, _, _, _, hd, hD, _⟩ := V.at V.pos
  obtain ⟨dx, _, _, _, _, _, _, _, _, hx, _⟩ := Vx.len
  have l1 := V.l1
  have l2 := V.l2
  refine ⟨.inl ?_, .inl ?_, .inl ?_, .inl ?_⟩
  · cases ms with
    | nil => cases y1
    | cons v rest => cases y1; exact ⟨_, _, _, h1, .inr ⟨x, _, rfl, e _ _ hx, io_no_list⟩⟩
  · cases cs with
    | nil => cases y2
    | cons v rest => cases y2; exact ⟨_, _, _, h2, .inl ⟨fun _ q => (by cases q), by simp at l1; (clear h1 h3 h4 ha0 hal y1 y3 hd hx l2 h2; omega)⟩⟩
  · cases ts with
    | nil => cases y3
    | cons v rest => cases y3; exact ⟨_, _, _, h3, .inr ⟨d, _, rfl, e _ _ hd, dict_no_list hD.cls⟩⟩
  · cases ha with
    | nil => cases ha0
    | cons n u r => exact ⟨_, _, _, h4, .inl ⟨fun _ q => (by cases q), by simp at hal; exact Nat.lt_of_le_of_lt hal (by decide)⟩⟩
section
variable {prog : Program} {w : World} {A : Around} {R : Result → Shared → Prop} {hp : Heap} {gs : Array GenState} {dr : Drawn} {tk₀ : Nat} {os : OsState}
/-- a for over a list that the base holds, into any target -/
theorem for_listG {tgt : Expr} {body : List Stmt} {b : Heap} {L l : Addr} {m : Str → Option Value} {own : List (Addr × Obj)} {env : Env} {items : List Value} {n : Nat} {E : Value → Shared → Prop}
    (F : Fx b L hp m own) (hl : b.get? l = some (LO items n)) (hh : A.handled = none)
    (Inv : Nat → Heap → (Str → Option Value) → List (Addr × Obj) → Prop) (h0 : Inv 0 b m own)
    (step : ∀ i v b₁ m₁ own₁ h₁ tk₁ it E₁ E₂, (∀ p ∈ it, ∃ vs, p.2.data = .fields vs) → i < items.length → items[i]? = some v → Inv i b₁ m₁ own₁ → Ext b b₁ → Fx b₁ L h₁ m₁ (own₁ ++ it) →
      wpAny (model prog w) A (assign tgt env v) (fun _ s₂ => wpAny (model prog w) A (execs body env) (Turned gs dr os L it b₁ (Inv (i + 1)) fun f s' => R (.ok f) s') E₂ s₂) E₁ ⟨h₁, gs, dr, tk₁, os⟩)
    (fin : ∀ h' tk b' m' own', Inv items.length b' m' own' → Ext b b' → Fx b' L h' m' own' → R (.ok .next) ⟨h', gs, dr, tk, os⟩)
    (ht : ∀ it v, letOwnedTupleGo tgt it v = pure () := by intro _ _; rfl) :
    wpAny (model prog w) A (pyIter (.ref l)) (fun it s₂ => codeAny (model prog w) A (.forLoop tgt it body [] env) R s₂) E ⟨hp, gs, dr, tk₀, os⟩ := by
  have hl' := F.keep _ _ hl
  have hne : l ≠ hp.objs.size := Nat.ne_of_lt (Heap.lt_size hl')
  refine wpAny_pyIter_list (isList_of hl') ?_
  dsimp only
  have fr := F.fresh
  have W : Walks prog w A hp.objs.size [hp.objs.size, l] [hp.objs.size] items.length (fun i v => items[i]? = some v) (fun i h => h.IsListIter hp.objs.size l i ∧ h.IsList l items.toArray) := by simpa using Walks.list (prog := prog) (w := w) hh hp.objs.size l hne items.toArray
  refine loop_gen (fun o => ∃ vs, o.data = .fields vs) W ⟨⟨_, Heap.get?_push_size _ rfl, rfl, rfl⟩, (isList_of hl').push _⟩ (F.ext (.of_push _)) (fun c hc hw => ?_) (fun c hc => ?_) (by simp) (fun i h st c hc => ?_) Inv h0 step fin (ht _)
  · rcases List.mem_cons.mp hc with rfl | hc
    · exact absurd (List.mem_singleton.mpr rfl) hw
    · rw [List.mem_singleton.mp hc]; exact ⟨_, hl⟩
  · rw [List.mem_singleton.mp hc]; exact ⟨fr.1, fr.2.1.symm, fr.2.2⟩
  · rw [List.mem_singleton.mp hc]; obtain ⟨o, ho, _, hd⟩ := st.1; exact ⟨o, ho, _, hd⟩
theorem for_rangeG {tgt : Expr} {body : List Stmt} {b : Heap} {L r : Addr} {m : Str → Option Value} {own : List (Addr × Obj)} {env : Env} {i0 i1 st : Int} {t u v : Tok} {n : Nat} {E : Value → Shared → Prop}
    (F : Fx b L hp m own) (hr : hp.get? r = some (RgO i0 i1 st t u v)) (hsm : Builtin.Range.small i0 i1 st = true) (hn : Builtin.Range.rangeSize i0 i1 st = n) (hh : A.handled = none)
    (Inv : Nat → Heap → (Str → Option Value) → List (Addr × Obj) → Prop) (h0 : Inv 0 b m own)
    (step : ∀ (i : Nat) tv b₁ m₁ own₁ h₁ tk₁ it E₁ E₂, (∀ p ∈ it, ∃ vs, p.2.data = .fields vs) → i < n → Inv i b₁ m₁ own₁ → Ext b b₁ → Fx b₁ L h₁ m₁ (own₁ ++ it) →
      wpAny (model prog w) A (assign tgt env (.int (i0 + i * st) tv)) (fun _ s₂ => wpAny (model prog w) A (execs body env) (Turned gs dr os L it b₁ (Inv (i + 1)) fun f s' => R (.ok f) s') E₂ s₂) E₁ ⟨h₁, gs, dr, tk₁, os⟩)
    (fin : ∀ h' tk b' m' own', Inv n b' m' own' → Ext b b' → Fx b' L h' m' own' → R (.ok .next) ⟨h', gs, dr, tk, os⟩)
    (ht : ∀ it v, letOwnedTupleGo tgt it v = pure () := by intro _ _; rfl) :
    wpAny (model prog w) A (pyIter (.ref r)) (fun it s₂ => codeAny (model prog w) A (.forLoop tgt it body [] env) R s₂) E ⟨hp, gs, dr, tk₀, os⟩ := by
  refine wpAny_pyIter_range hr hsm ?_
  dsimp only
  have fr := F.fresh
  have W := Walks.range (prog := prog) (w := w) hh hp.objs.size i0 st n
  refine loop_gen (fun o => ∃ vs, o.data = .fields vs) W ?_ (F.ext (.of_push _)) (fun c hc hw => absurd hc hw) (fun c hc => ?_) (by simp) (fun i h st c hc => ?_) Inv h0 (fun i v b₁ m₁ own₁ h₁ tk₁ it E₁ E₂ hf hi hv => ?_) fin (ht _)
  · rw [hn]
    have := Heap.get?_push_size hp (o := { cls := .type "range_iterator", data := .fields #[rawInt i0, rawInt (n : Int), rawInt st] }) rfl
    simpa [IsRangeIter] using this
  · rw [List.mem_singleton.mp hc]; exact ⟨fr.1, fr.2.1.symm, fr.2.2⟩
  · rw [List.mem_singleton.mp hc]; exact ⟨_, st, _, rfl⟩
  · obtain ⟨tv, rfl⟩ := hv
    exact step i tv b₁ m₁ own₁ h₁ tk₁ it E₁ E₂ hf hi
end
namespace Z3
theorem typeCall (a b c : Value) : checkTypeCall "zip" ⟨[a, b, c], []⟩ = pure () := by kernel_rfl
theorem newCall (a b c : Value) : checkBuiltinCall "zip.__new__" ⟨[.type "zip", a, b, c], []⟩ = pure () := by kernel_rfl
theorem args_init (a b c d : Value) : argsOk "object.__init__" ⟨[a, b, c, d], []⟩ := by unfold argsOk; kernel_rfl
abbrev It (l : Addr) : Obj := { cls := .type "list_iterator", data := .fields #[.ref l, .int 0 0] }
abbrev Tu (a b c : Value) : Obj := { cls := .type "tuple", data := .seq #[a, b, c] }
abbrev Zo (f0 : Value) (TI TO : Addr) : Obj := { cls := .type "zip", data := .fields #[f0, .bool false, .bool false, .ref TI, .ref TO] }
/-- the heap behind zip(l1, l2, l3) -/
abbrev made (h : Heap) (l1 l2 l3 : Addr) : Heap := (((((h.push (It l1)).push (It l2)).push (It l3)).push (Tu (.ref h.objs.size) (.ref (h.push (It l1)).objs.size) (.ref ((h.push (It l1)).push (It l2)).objs.size))).push (Tu .none .none .none)).push
  (Zo .none (((h.push (It l1)).push (It l2)).push (It l3)).objs.size ((((h.push (It l1)).push (It l2)).push (It l3)).push (Tu (.ref h.objs.size) (.ref (h.push (It l1)).objs.size) (.ref ((h.push (It l1)).push (It l2)).objs.size))).objs.size)
set_option maxHeartbeats 2000000 in
theorem meets_new (l1 l2 l3 : Addr) (xs ys zs : Array Value) :
    Meets (Builtin.«zip.__new__» ⟨[.type "zip", .ref l1, .ref l2, .ref l3], []⟩) (fun _ R s => s.heap.IsList l1 xs ∧ s.heap.IsList l2 ys ∧ s.heap.IsList l3 zs ∧
      R (.ok (.ret (.ref ((((((s.heap.push (It l1)).push (It l2)).push (It l3)).push (Tu (.ref s.heap.objs.size) (.ref (s.heap.push (It l1)).objs.size) (.ref ((s.heap.push (It l1)).push (It l2)).objs.size))).push (Tu .none .none .none)).objs.size)))) { s with heap := made s.heap l1 l2 l3 }) :=
  .of_wp fun prog w A R s h => by
    obtain ⟨hp, g, d, tk, os⟩ := s; obtain ⟨hl1, hl2, hl3, h⟩ := h
    have hsub := sub_zip
    have hL1 : Heap.IsList (Shared.heap ⟨hp, g, d, tk, os⟩) l1 xs := hl1
    have hL2 : Heap.IsList (Shared.heap ⟨hp.push (It l1), g, d, tk, os⟩) l2 ys := Heap.IsList.push hl2 _
    have hL3 : Heap.IsList (Shared.heap ⟨(hp.push (It l1)).push (It l2), g, d, tk, os⟩) l3 zs := Heap.IsList.push (Heap.IsList.push hl3 _) _
    have p1 : ∀ {A : Around} {E : Value → Shared → Prop} {Q : Value → Shared → Prop}, Q (.ref hp.objs.size) ⟨hp.push (It l1), g, d, tk, os⟩ → wpAny (model prog w) A (pyIter (.ref l1)) Q E ⟨hp, g, d, tk, os⟩ := fun h => wpAny_pyIter_list hL1 h
    have p2 : ∀ {A : Around} {E : Value → Shared → Prop} {Q : Value → Shared → Prop}, Q (.ref (hp.push (It l1)).objs.size) ⟨(hp.push (It l1)).push (It l2), g, d, tk, os⟩ → wpAny (model prog w) A (pyIter (.ref l2)) Q E ⟨hp.push (It l1), g, d, tk, os⟩ := fun h => wpAny_pyIter_list hL2 h
    have p3 : ∀ {A : Around} {E : Value → Shared → Prop} {Q : Value → Shared → Prop}, Q (.ref ((hp.push (It l1)).push (It l2)).objs.size) ⟨((hp.push (It l1)).push (It l2)).push (It l3), g, d, tk, os⟩ → wpAny (model prog w) A (pyIter (.ref l3)) Q E ⟨(hp.push (It l1)).push (It l2), g, d, tk, os⟩ := fun h => wpAny_pyIter_list hL3 h
    wp_walk using p1, p2, p3
    exact ⟨_, rfl, h⟩
structure Sta (n l1 l2 l3 : Nat) (xs ys zs : Array Value) (f0 : Value) (i : Nat) (h : Heap) : Prop where
  z : h.get? (n + 5) = some (Zo f0 (n + 3) (n + 4))
  TI : h.get? (n + 3) = some (Tu (.ref n) (.ref (n + 1)) (.ref (n + 2)))
  TO : ∃ a b c, h.get? (n + 4) = some (Tu a b c)
  i1 : h.IsListIter n l1 i
  i2 : h.IsListIter (n + 1) l2 i
  i3 : h.IsListIter (n + 2) l3 i
  L1 : h.IsList l1 xs
  L2 : h.IsList l2 ys
  L3 : h.IsList l3 zs
section
variable {prog : Program} {w : World} {A : Around} {E : Value → Shared → Prop} {s : Shared} {n l1 l2 l3 : Nat} {xs ys zs : Array Value} {i : Nat}
theorem upd {T : Addr} {a b c x : Value} {k : Nat} {Q : Unit → Shared → Prop} (hT : s.heap.get? T = some (Tu a b c))
    (h : ∀ h', h'.get? T = some { cls := .type "tuple", data := .seq ((#[a, b, c] : Array Value).setIfInBounds k x) } → Heap.SameBut T s.heap h' → Q () { s with heap := h' }) :
    wpAny (model prog w) A (updateSeq T (·.setIfInBounds k x)) Q E s := by
  refine wpAny_updateSeq hT rfl (h _ ?_ (Heap.SameBut.update ..))
  rw [Heap.get?_update_self _ hT rfl]
  simp [Obj.mapSeq]
theorem na {n a b : Nat} (h : a ≠ b) : n + a ≠ n + b := fun q => h (Nat.add_left_cancel q)
theorem n0 {n a : Nat} (h : 0 ≠ a) : n ≠ n + a := fun q => h (Nat.add_left_cancel (n := n) q)
theorem n1 {n a : Nat} (h : a ≠ 0) : n + a ≠ n := fun q => h (Nat.add_left_cancel (n := n) (m := a) (k := 0) q)
theorem nlt {n l a : Nat} (h : l < n) : l ≠ n + a := fun q => Nat.lt_irrefl _ (Nat.lt_of_lt_of_le h (q ▸ Nat.le_add_right n a))
theorem nlt0 {n l : Nat} (h : l < n) : l ≠ n := Nat.ne_of_lt h
local macro_rules | `(tactic| walk_at "ad") => do
  let h1 := Lean.mkIdent `h1; let h2 := Lean.mkIdent `h2; let h3 := Lean.mkIdent `h3
  `(tactic| first | exact na (by decide) | exact n0 (by decide) | exact n1 (by decide) | exact nlt $h1 | exact nlt0 $h1 | exact nlt $h2 | exact nlt0 $h2 | exact nlt $h3 | exact nlt0 $h3 | omega)
theorem xb {h h' : Heap} {a : Nat} (k : Heap.SameBut a h h') (c : Nat) (o : Obj) (q : c ≠ a) (e : h.get? c = some o) : h'.get? c = some o := k.extBut c o q e
set_option maxHeartbeats 2000000 in
theorem next_item {x y z : Value} {Q : Value → Shared → Prop} (h1 : l1 < n) (h2 : l2 < n) (h3 : l3 < n) (S : Sta n l1 l2 l3 xs ys zs .none i s.heap) (hx : xs[i]? = some x) (hy : ys[i]? = some y) (hz : zs[i]? = some z)
    (hQ : ∀ h', Sta n l1 l2 l3 xs ys zs (rawInt s.heap.objs.size) (i + 1) h' → h'.get? s.heap.objs.size = some (Tu x y z) → (∀ c o, c ∉ [n + 5, n + 4, n, n + 1, n + 2] → s.heap.get? c = some o → h'.get? c = some o) → Q (.ref s.heap.objs.size) { s with heap := h' }) :
    wpAny (model prog w) A (Builtin.«zip.__next__» ⟨[.ref (n + 5)], []⟩) (fun fin s' => ∃ v, fin = .done (.ret v) ∧ Q v s') E s := by
  obtain ⟨Sz, STI, ⟨a, b, c, STO⟩, S1, S2, S3, SL1, SL2, SL3⟩ := S
  show wpAny _ _ (field (.ref (n + 5)) 2 >>= _) _ _ _
  refine wpAny_bind (wpAny_field Sz rfl (x := .bool false) rfl ?_)
  show wpAny _ _ (field (.ref (n + 5)) 3 >>= _) _ _ _
  refine wpAny_bind (wpAny_field Sz rfl (x := .ref (n + 3)) rfl ?_)
  refine wpAny_bind (wpAny_seqItems STI rfl ?_)
  show wpAny _ _ (Builtin.SmallTypes.ownedTupleIsFree (.ref (n + 5)) >>= _) _ _ _
  refine wpAny_bind ?_
  unfold Builtin.SmallTypes.ownedTupleIsFree
  refine wpAny_bind (wpAny_field Sz rfl (x := .none) rfl (wpAny_pure ?_))
  simp only [if_true]
  refine wpAny_bind (wpAny_rule ?_)
  refine wpAny_bind (wpAny_field Sz rfl (x := .ref (n + 4)) rfl ?_)
  refine wpAny_bind (wpAny_setField_rec Sz (by simp) fun g1 z1 k1 => ?_)
  replace z1 : g1.get? (n + 5) = some (Zo .ellipsis (n + 3) (n + 4)) := z1
  have u1 : ∀ (c : Nat) o, c ≠ n + 5 → s.heap.get? c = some o → g1.get? c = some o := fun (c : Nat) o q e => xb k1 c o q e
  refine wpAny_bind ?_
  simp only [List.zipIdx_cons, List.zipIdx_nil, List.forIn_cons, List.forIn_nil]
  refine wpAny_bind (wpAny_bind (wpAny_onRaise ?_))
  show wpAny _ _ (Builtin.SmallTypes.nextOf (.ref n) >>= _) _ _ _
  refine wpAny_bind (wpAny_nextOf_list_item (S1.at fun o e => u1 n o (by walk_at "ad") e) (SL1.at fun o e => u1 l1 o (by walk_at "ad") e) hx fun g2 m2 k2 => wpAny_pure ?_)
  have u2 : ∀ (c : Nat) o, c ≠ n + 5 → c ≠ n → s.heap.get? c = some o → g2.get? c = some o := fun (c : Nat) o q q2 e => xb k2 c o q2 (u1 c o q e)
  have t2 := u2 (n + 4) _ (by walk_at "ad") (by walk_at "ad") STO
  refine wpAny_bind (wpAny_seqItems t2 rfl ?_)
  refine wpAny_bind (upd t2 fun g3 t3 k3 => ?_)
  replace t3 : g3.get? (n + 4) = some (Tu x b c) := t3
  have u3 : ∀ (c : Nat) o, c ≠ n + 5 → c ≠ n → c ≠ n + 4 → s.heap.get? c = some o → g3.get? c = some o := fun c o q q2 q3 e => xb k3 c o q3 (u2 c o q q2 e)
  refine wpAny_bind (wpAny_letGo (wpAny_pure ?_))
  refine wpAny_bind (wpAny_bind (wpAny_onRaise ?_))
  show wpAny _ _ (Builtin.SmallTypes.nextOf (.ref (n + 1)) >>= _) _ _ _
  refine wpAny_bind (wpAny_nextOf_list_item (S2.at fun o e => u3 (n + 1) o (by walk_at "ad") (by walk_at "ad") (by walk_at "ad") e) (SL2.at fun o e => u3 l2 o (by walk_at "ad") (by walk_at "ad") (by walk_at "ad") e) hy fun g4 m4 k4 => wpAny_pure ?_)
  have u4 : ∀ (c : Nat) o, c ≠ n + 5 → c ≠ n → c ≠ n + 4 → c ≠ n + 1 → s.heap.get? c = some o → g4.get? c = some o := fun c o q q2 q3 q4 e => xb k4 c o q4 (u3 c o q q2 q3 e)
  have t4 := xb k4 (n + 4) _ (by walk_at "ad") t3
  refine wpAny_bind (wpAny_seqItems t4 rfl ?_)
  refine wpAny_bind (upd t4 fun g5 t5 k5 => ?_)
  replace t5 : g5.get? (n + 4) = some (Tu x y c) := t5
  have u5 : ∀ (c : Nat) o, c ≠ n + 5 → c ≠ n → c ≠ n + 4 → c ≠ n + 1 → s.heap.get? c = some o → g5.get? c = some o := fun c o q q2 q3 q4 e => xb k5 c o q3 (u4 c o q q2 q3 q4 e)
  refine wpAny_bind (wpAny_letGo (wpAny_pure ?_))
  refine wpAny_bind (wpAny_bind (wpAny_onRaise ?_))
  show wpAny _ _ (Builtin.SmallTypes.nextOf (.ref (n + 2)) >>= _) _ _ _
  refine wpAny_bind (wpAny_nextOf_list_item (S3.at fun o e => u5 (n + 2) o (by walk_at "ad") (by walk_at "ad") (by walk_at "ad") (by walk_at "ad") e) (SL3.at fun o e => u5 l3 o (by walk_at "ad") (by walk_at "ad") (by walk_at "ad") (by walk_at "ad") e) hz fun g6 m6 k6 => wpAny_pure ?_)
  have t6 := xb k6 (n + 4) _ (by walk_at "ad") t5
  refine wpAny_bind (wpAny_seqItems t6 rfl ?_)
  refine wpAny_bind (upd t6 fun g7 t7 k7 => ?_)
  replace t7 : g7.get? (n + 4) = some (Tu x y z) := t7
  refine wpAny_bind (wpAny_letGo (wpAny_pure (wpAny_pure ?_)))
  refine wpAny_bind (wpAny_seqItems t7 rfl ?_)
  refine wpAny_bind (wpAny_newTuple ?_)
  have hsz : g7.objs.size = s.heap.objs.size := by rw [k7.1, k6.1, k5.1, k4.1, k3.1, k2.1, k1.1]
  have u7 : ∀ (c : Nat) o, c ∉ [n + 5, n + 4, n, n + 1, n + 2] → s.heap.get? c = some o → g7.get? c = some o := fun (c : Nat) o q e => by
    simp only [List.mem_cons, List.not_mem_nil, or_false, not_or] at q
    exact xb k7 c o q.2.1 (xb k6 c o q.2.2.2.2 (u5 c o q.1 q.2.2.1 q.2.1 q.2.2.2.1 e))
  have z7 : g7.get? (n + 5) = some (Zo .ellipsis (n + 3) (n + 4)) := xb k7 _ _ (by walk_at "ad") (xb k6 _ _ (by walk_at "ad") (xb k5 _ _ (by walk_at "ad") (xb k4 _ _ (by walk_at "ad") (xb k3 _ _ (by walk_at "ad") (xb k2 _ _ (by walk_at "ad") z1)))))
  have m7 : g7.IsListIter n l1 (i + 1) := m2.at fun o e => xb k7 _ _ (by walk_at "ad") (xb k6 _ _ (by walk_at "ad") (xb k5 _ _ (by walk_at "ad") (xb k4 _ _ (by walk_at "ad") (xb k3 _ _ (by walk_at "ad") e))))
  have p7 : g7.IsListIter (n + 1) l2 (i + 1) := m4.at fun o e => xb k7 _ _ (by walk_at "ad") (xb k6 _ _ (by walk_at "ad") (xb k5 _ _ (by walk_at "ad") e))
  have q7 : g7.IsListIter (n + 2) l3 (i + 1) := m6.at fun o e => xb k7 _ _ (by walk_at "ad") e
  have hlt : n + 5 < g7.objs.size := Heap.lt_size z7
  show wpAny _ _ (Builtin.SmallTypes.ownedTupleHandOut (.ref (n + 5)) (.ref g7.objs.size) >>= _) _ _ _
  refine wpAny_bind ?_
  unfold Builtin.SmallTypes.ownedTupleHandOut
  have z8 : (g7.push (Tu x y z)).get? (n + 5) = some (Zo .ellipsis (n + 3) (n + 4)) := Heap.get?_push_of_some _ z7
  refine wpAny_bind (wpAny_setField_rec z8 (by simp) fun g9 z9 k9 => ?_)
  replace z9 : g9.get? (n + 5) = some (Zo (rawInt g7.objs.size) (n + 3) (n + 4)) := z9
  refine wpAny_setField_rec z9 (by simp) fun g10 z10 k10 => ?_
  replace z10 : g10.get? (n + 5) = some (Zo (rawInt g7.objs.size) (n + 3) (n + 4)) := z10
  have up : ∀ (c : Nat) o, c ≠ n + 5 → g7.get? c = some o → g10.get? c = some o := fun (c : Nat) o q e => xb k10 _ _ q (xb k9 _ _ q (Heap.get?_push_of_some _ e))
  have T10 : g10.get? g7.objs.size = some (Tu x y z) := xb k10 _ _ (by walk_at "ad") (xb k9 _ _ (by walk_at "ad") (Heap.get?_push_size _ rfl))
  rw [hsz] at z10 T10
  refine wpAny_pure ⟨_, rfl, ?_⟩
  show Q (.ref g7.objs.size) _
  rw [hsz]
  refine hQ g10 ⟨z10, up _ _ (by walk_at "ad") (u7 _ _ (by simp) STI), ⟨_, _, _, up _ _ (by walk_at "ad") t7⟩, m7.at fun o e => up _ o (by walk_at "ad") e, p7.at fun o e => up _ o (by walk_at "ad") e, q7.at fun o e => up _ o (by walk_at "ad") e,
    SL1.at fun o e => up _ o (by walk_at "ad") (u7 _ o (by simp; omega) e), SL2.at fun o e => up _ o (by walk_at "ad") (u7 _ o (by simp; omega) e), SL3.at fun o e => up _ o (by walk_at "ad") (u7 _ o (by simp; omega) e)⟩ T10 fun (c : Nat) o q e => up c o (fun r => q (by simp [r])) (u7 c o q e)
theorem next_end {Q : Fin → Shared → Prop} (hh : A.handled = none) (h1 : l1 < n) (S : Sta n l1 l2 l3 xs ys zs .none i s.heap) (hx : xs[i]? = none)
    (hE : ∀ h' e, (∀ c o, c ∉ [n + 5, n + 4, n, n + 1, n + 2] → s.heap.get? c = some o → h'.get? c = some o) → (∃ o, h'.get? e = some o ∧ o.cls = .type "StopIteration") → E (.ref e) { s with heap := h' }) :
    wpAny (model prog w) A (Builtin.«zip.__next__» ⟨[.ref (n + 5)], []⟩) Q E s := by
  obtain ⟨Sz, STI, ⟨a, b, c, STO⟩, S1, S2, S3, SL1, SL2, SL3⟩ := S
  show wpAny _ _ (field (.ref (n + 5)) 2 >>= _) _ _ _
  refine wpAny_bind (wpAny_field Sz rfl (x := .bool false) rfl ?_)
  show wpAny _ _ (field (.ref (n + 5)) 3 >>= _) _ _ _
  refine wpAny_bind (wpAny_field Sz rfl (x := .ref (n + 3)) rfl ?_)
  refine wpAny_bind (wpAny_seqItems STI rfl ?_)
  show wpAny _ _ (Builtin.SmallTypes.ownedTupleIsFree (.ref (n + 5)) >>= _) _ _ _
  refine wpAny_bind ?_
  unfold Builtin.SmallTypes.ownedTupleIsFree
  refine wpAny_bind (wpAny_field Sz rfl (x := .none) rfl (wpAny_pure ?_))
  simp only [if_true]
  refine wpAny_bind (wpAny_rule ?_)
  refine wpAny_bind (wpAny_field Sz rfl (x := .ref (n + 4)) rfl ?_)
  refine wpAny_bind (wpAny_setField_rec Sz (by simp) fun g1 z1 k1 => ?_)
  replace z1 : g1.get? (n + 5) = some (Zo .ellipsis (n + 3) (n + 4)) := z1
  have u1 : ∀ (c : Nat) o, c ≠ n + 5 → s.heap.get? c = some o → g1.get? c = some o := fun (c : Nat) o q e => xb k1 c o q e
  refine wpAny_bind ?_
  simp only [List.zipIdx_cons, List.zipIdx_nil, List.forIn_cons, List.forIn_nil]
  refine wpAny_bind (wpAny_bind (wpAny_onRaise ?_))
  show wpAny _ _ (Builtin.SmallTypes.nextOf (.ref n) >>= _) _ _ _
  refine wpAny_bind (wpAny_nextOf_list_end hh (S1.at fun o e => u1 n o (by walk_at "ad") e) (SL1.at fun o e => u1 l1 o (by walk_at "ad") e) hx fun g2 e k2 he => ?_)
  obtain ⟨oe, hoe, hce⟩ := he
  have z2 : g2.get? (n + 5) = some (Zo .ellipsis (n + 3) (n + 4)) := k2 _ _ (show (n + 5 : Nat) ≠ n by omega) z1
  have hez : e ≠ n + 5 := fun x => by subst x; rw [z2] at hoe; cases hoe; simp at hce
  refine wpAny_setField_rec z2 (by simp) fun g3 _ k3 => hE g3 e (fun c o q x => ?_) ⟨oe, xb k3 _ _ hez hoe, hce⟩
  simp only [List.mem_cons, List.not_mem_nil, or_false, not_or] at q
  exact xb k3 _ _ q.1 (k2 _ _ q.2.2.1 (u1 c o q.1 x))
theorem pn_item {x y z : Value} {Q : Option Value → Shared → Prop} (h1 : l1 < n) (h2 : l2 < n) (h3 : l3 < n) (S : Sta n l1 l2 l3 xs ys zs .none i s.heap) (hx : xs[i]? = some x) (hy : ys[i]? = some y) (hz : zs[i]? = some z)
    (hQ : ∀ h', Sta n l1 l2 l3 xs ys zs (rawInt s.heap.objs.size) (i + 1) h' → h'.get? s.heap.objs.size = some (Tu x y z) → (∀ c o, c ∉ [n + 5, n + 4, n, n + 1, n + 2] → s.heap.get? c = some o → h'.get? c = some o) → Q (some (.ref s.heap.objs.size)) { s with heap := h' }) :
    wpAny (model prog w) A (pyNext (.ref (n + 5))) Q E s := by
  have hT : s.TypeIs (.ref (n + 5)) "zip" := ⟨_, S.z, rfl⟩
  unfold pyNext
  exact wpAny_bind (wpAny_attempt (wpAny_callSpecial?_slot (name := Str.ofString "__next__") hT F.slot_zip_next
    (wpAny_call_entry F.slot_zip_next hT F.entry_zip_next (next_item h1 h2 h3 S hx hy hz fun h' a1 a2 a3 => wpAny_pure (hQ h' a1 a2 a3)) (F.args_zip_next_1 _))))
theorem pn_end {Q : Option Value → Shared → Prop} (hh : A.handled = none) (h1 : l1 < n) (S : Sta n l1 l2 l3 xs ys zs .none i s.heap) (hx : xs[i]? = none)
    (hQ : ∀ h', (∀ c o, c ∉ [n + 5, n + 4, n, n + 1, n + 2] → s.heap.get? c = some o → h'.get? c = some o) → Q none { s with heap := h' }) : wpAny (model prog w) A (pyNext (.ref (n + 5))) Q E s := by
  have hT : s.TypeIs (.ref (n + 5)) "zip" := ⟨_, S.z, rfl⟩
  unfold pyNext
  refine wpAny_bind (wpAny_attempt (wpAny_callSpecial?_slot (name := Str.ofString "__next__") hT F.slot_zip_next
    (wpAny_call_entry F.slot_zip_next hT F.entry_zip_next (next_end hh h1 S hx fun h' e hk he => ?_) (F.args_zip_next_1 _))))
  obtain ⟨o, ho, hc⟩ := he
  refine wpAny_bind (wpAny_isInstance (T := "StopIteration") (b := true) ⟨o, ho, hc⟩ isSubtype_stop ?_)
  exact wpAny_pure (hQ _ hk)
theorem Sta.at {h h' : Heap} {f0 : Value} (S : Sta n l1 l2 l3 xs ys zs f0 i h) (e : ∀ c o, c ∈ [n + 5, n + 3, n + 4, n, n + 1, n + 2, l1, l2, l3] → h.get? c = some o → h'.get? c = some o) : Sta n l1 l2 l3 xs ys zs f0 i h' := by
  obtain ⟨Sz, STI, ⟨a, b, c, STO⟩, S1, S2, S3, SL1, SL2, SL3⟩ := S
  exact ⟨e _ _ (by simp) Sz, e _ _ (by simp) STI, ⟨a, b, c, e _ _ (by simp) STO⟩, S1.at fun o q => e _ o (by simp) q, S2.at fun o q => e _ o (by simp) q, S3.at fun o q => e _ o (by simp) q, SL1.at fun o q => e _ o (by simp) q, SL2.at fun o q => e _ o (by simp) q, SL3.at fun o q => e _ o (by simp) q⟩
theorem walks (hh : A.handled = none) (h1 : l1 < n) (h2 : l2 < n) (h3 : l3 < n) (e1 : xs.size = ys.size) (e2 : xs.size = zs.size) :
    WalksT prog w A (n + 5) [n + 5, n + 3, n + 4, n, n + 1, n + 2, l1, l2, l3] [n + 5, n + 4, n, n + 1, n + 2] xs.size
      (fun i vals => ∃ x y z, xs[i]? = some x ∧ ys[i]? = some y ∧ zs[i]? = some z ∧ vals = #[x, y, z])
      (fun i h => Sta n l1 l2 l3 xs ys zs .none i h) (fun i T h => Sta n l1 l2 l3 xs ys zs (rawInt T) (i + 1) h ∧ T ∉ [n + 5, n + 4, n, n + 1, n + 2]) where
  sub := fun c hc => by simp at hc ⊢; rcases hc with rfl | rfl | rfl | rfl | rfl <;> simp
  frame := fun i h h' hst hk => hst.at fun c o hc e => hk c hc o e
  item := fun i s Q E hi S hQ => by
    refine pn_item h1 h2 h3 S (Array.getElem?_eq_getElem hi) (Array.getElem?_eq_getElem (by walk_at "ad")) (Array.getElem?_eq_getElem (by walk_at "ad")) fun h' S' hT hk => ?_
    have hz : (n + 5 : Nat) < s.heap.objs.size := Heap.lt_size S.z
    refine hQ s.heap.objs.size _ h' s.toks ⟨_, _, _, Array.getElem?_eq_getElem hi, Array.getElem?_eq_getElem (by walk_at "ad"), Array.getElem?_eq_getElem (by walk_at "ad"), rfl⟩ (Nat.le_refl _) ⟨_, hT, rfl, _, rfl⟩ ⟨S', fun q => ?_⟩ hk
    have q' : (s.heap.objs.size : Nat) = n + 5 ∨ (s.heap.objs.size : Nat) = n + 4 ∨ (s.heap.objs.size : Nat) = n ∨ (s.heap.objs.size : Nat) = n + 1 ∨ (s.heap.objs.size : Nat) = n + 2 := by simpa using q
    (clear hh h1 h2 h3 e1 e2 hi hT; omega)
  go := fun elts k pos i T s Q E hm hQ => by
    obtain ⟨S, _⟩ := hm
    refine wpAny_letOwnedTupleGo_zip S.z fun h' hz' hs' => hQ h' ?_ fun c o hc e => hs'.extBut _ _ (fun x => hc (by simp [x])) e
    obtain ⟨Sz, STI, ⟨a, b, c, STO⟩, S1, S2, S3, SL1, SL2, SL3⟩ := S
    have up : ∀ (c : Nat) o, c ≠ n + 5 → s.heap.get? c = some o → h'.get? c = some o := fun (c : Nat) o q e => hs'.extBut _ _ q e
    exact ⟨hz', up _ _ (by walk_at "ad") STI, ⟨a, b, c, up _ _ (by walk_at "ad") STO⟩, S1.at fun o e => up _ o (by walk_at "ad") e, S2.at fun o e => up _ o (by walk_at "ad") e, S3.at fun o e => up _ o (by walk_at "ad") e, SL1.at fun o e => up _ o (by walk_at "ad") e, SL2.at fun o e => up _ o (by walk_at "ad") e, SL3.at fun o e => up _ o (by walk_at "ad") e⟩
  apart := fun i T h hm hT => hm.2 hT
  done := fun s Q E S hQ => pn_end hh h1 S (Array.getElem?_eq_none (Nat.le_refl _)) fun h' hk => hQ h' s.toks fun c o hc e => hk c o hc e
  self := fun i s Q E S hQ => wpAny_pyIter_zip S.z hQ
end
end Z3
section
variable {prog : Program} {w : World} {A : Around} {R : Result → Shared → Prop} {hp : Heap} {gs : Array GenState} {dr : Drawn} {tk₀ : Nat} {os : OsState}
theorem loop_trio {x y u : Str} {px py pu pt : Pos} {kk : Nat} {body : List Stmt} {b : Heap} {L a : Addr} {m : Str → Option Value} {own : List (Addr × Obj)} {cn : Str} {cs : Scope} {ccd : Value} {cl : List (Str × Addr)}
    {I : Addr} {fp wr tr : List Addr} {n : Nat} {Pt : Nat → Array Value → Prop} {St : Nat → Heap → Prop} {Mid : Nat → Addr → Heap → Prop} (W : WalksT prog w A I fp wr n Pt St Mid) (hst : St 0 hp) (F : Fx b L hp m own) (hh : A.handled = none)
    (hpt : ∀ i vals, Pt i vals → ∃ v1 v2 v3, vals = #[v1, v2, v3])
    (hsub : ∀ a ∈ wr, a ∈ tr) (hfp : ∀ a ∈ fp, a ∉ tr → ∃ o, b.get? a = some o) (hwr : ∀ a ∈ tr, b.get? a = none ∧ a ≠ L ∧ ∀ p ∈ own, p.1 ≠ a) (hnd : tr.Nodup) (hex : ∀ i h, St i h → ∀ a ∈ tr, ∃ o, h.get? a = some o)
    (Inv : Nat → Heap → (Str → Option Value) → List (Addr × Obj) → Prop) (h0 : Inv 0 b m own)
    (step : ∀ i v1 v2 v3 b₁ m₁ own₁ h₁ tk₁ it E', i < n → Pt i #[v1, v2, v3] → Inv i b₁ m₁ own₁ → Ext b b₁ → Fx b₁ L h₁ (fun z => if z = u then some v3 else if z = y then some v2 else if z = x then some v1 else m₁ z) (own₁ ++ it) →
      wpAny (model prog w) A (execs body (envX cn cs L a ccd cl)) (Turned gs dr os L it b₁ (Inv (i + 1)) fun f s' => R (.ok f) s') E' ⟨h₁, gs, dr, tk₁, os⟩)
    (fin : ∀ h' tk b' m' own', Inv n b' m' own' → Ext b b' → Fx b' L h' m' own' → R (.ok .next) ⟨h', gs, dr, tk, os⟩)
    (hk : cs.kind = .function := by with_unfolding_all rfl) (hx : (envX cn cs L a ccd cl).kindOf x = some .local := by with_unfolding_all rfl) (hy : (envX cn cs L a ccd cl).kindOf y = some .local := by with_unfolding_all rfl) (hz : (envX cn cs L a ccd cl).kindOf u = some .local := by with_unfolding_all rfl) :
    codeAny (model prog w) A (.forLoop (.Tuple [.Name x px, .Name y py, .Name u pu] kk pt) (.ref I) body [] (envX cn cs L a ccd cl)) R ⟨hp, gs, dr, tk₀, os⟩ := by
  have he : assignEach [Expr.Name x px, Expr.Name y py, Expr.Name u pu] (envX cn cs L a ccd cl) = [(false, assign (.Name x px) (envX cn cs L a ccd cl)), (false, assign (.Name y py) (envX cn cs L a ccd cl)), (false, assign (.Name u pu) (envX cn cs L a ccd cl))] := by with_unfolding_all rfl
  refine codeAny_forLoop_any (fun k s' => ∃ h' tk b' m' own' i, s' = ⟨h', gs, dr, tk, os⟩ ∧ k = n + 1 - i ∧ i ≤ n ∧ St i h' ∧ Ext b b' ∧ Fx b' L h' m' own' ∧ Inv i b' m' own' ∧ (∀ a ∈ tr, b'.get? a = none ∧ a ≠ L ∧ ∀ p ∈ own', p.1 ≠ a)) ?_ (n + 1)
    ⟨hp, tk₀, b, m, own, 0, rfl, rfl, Nat.zero_le _, hst, .rfl', F, h0, hwr⟩
  rintro k s' ⟨h, tk, b', m', own', i, rfl, rfl, hi, st, eb, F', inv, hw⟩
  have keepF : ∀ {h₁ : Heap}, (∀ c o, c ∉ wr → h.get? c = some o → h₁.get? c = some o) → Fx b' L h₁ m' own' := fun {h₁} hk₁ => by
    obtain ⟨oL, es, ep, gL, r⟩ := F'.ns
    refine ⟨⟨oL, es, ep, hk₁ _ _ (fun q => (hw _ (hsub _ q)).2.1 rfl) gL, r⟩, fun c o e => hk₁ c o (fun q => by rw [(hw _ (hsub _ q)).1] at e; cases e) (F'.keep c o e), F'.lout, fun p hp => hk₁ _ _ (fun q => (hw _ (hsub _ q)).2.2 p hp rfl) (F'.has p hp), F'.out, F'.nodup⟩
  by_cases hlt : i < n
  · refine W.item i _ _ _ hlt st fun T vals h₁ tk₁ hv hT hIT mid hk₁ => ?_
    obtain ⟨v1, v2, v3, rfl⟩ := hpt i vals hv
    dsimp only
    refine W.go _ _ _ i T ⟨h₁, gs, dr, tk₁, os⟩ _ _ mid fun h₂ st₂ hk₂ => ?_
    have F₂ := keepF (h₁ := h₂) fun c o hc e => hk₂ c o hc (hk₁ c o hc e)
    have hIT₂ : h₂.IsTuple T #[v1, v2, v3] := by
      obtain ⟨o, ho, r⟩ := hIT
      exact ⟨o, hk₂ T o (W.apart _ _ _ mid) ho, r⟩
    refine wpAny_assign_Tuple (items := #[v1, v2, v3]) hh hIT₂ (by rw [he]; rfl) (by rw [he]; rfl) fun h₃ e₃ => ?_
    have ex : Ext h₂ h₃ := fun c oc q => e₃ c oc (Nat.ne_of_lt (Heap.lt_size q)) q
    have F₃ := F₂.ext ex
    have st₃ : St (i + 1) h₃ := W.frame _ _ _ st₂ fun c _ o e => ex c o e
    have hobj : ∀ c ∈ tr, ∃ o, h₃.get? c = some o := hex _ _ st₃
    let it : List (Addr × Obj) := tr.map fun c => (c, (h₃.get? c).getD default)
    have hit : ∀ p ∈ it, p.1 ∈ tr ∧ h₃.get? p.1 = some p.2 := fun p hp => by
      obtain ⟨c, hc, rfl⟩ := List.mem_map.mp hp
      obtain ⟨o, ho⟩ := hobj c hc
      refine ⟨hc, ?_⟩
      show h₃.get? c = some ((h₃.get? c).getD default)
      rw [ho]; rfl
    have hitm : it.map (·.1) = tr := by simp [it, List.map_map, Function.comp_def]
    have F₃' : Fx b' L h₃ m' (own' ++ it) := by
      refine ⟨F₃.ns, F₃.keep, F₃.lout, fun p hp => ?_, fun p hp => ?_, ?_⟩
      · rcases List.mem_append.mp hp with hp | hp
        · exact F₃.has p hp
        · exact (hit p hp).2
      · rcases List.mem_append.mp hp with hp | hp
        · exact F₃.out p hp
        · exact (hw _ (hit p hp).1).1
      · rw [List.map_append, hitm, ← List.cons_append]
        refine List.nodup_append.mpr ⟨F₃.nodup, hnd, fun c hc d hd => ?_⟩
        rintro rfl
        rcases List.mem_cons.mp hc with rfl | hc
        · exact (hw _ hd).2.1 rfl
        · obtain ⟨p, hp, q⟩ := List.mem_map.mp hc
          exact (hw _ hd).2.2 p hp q
    rw [he]
    show wpAny _ _ (holding [v2, v3] (assign (.Name x px) (envX cn cs L a ccd cl) v1) >>= fun _ => holding [v3] (assign (.Name y py) (envX cn cs L a ccd cl) v2) >>= fun _ => holding [] (assign (.Name u pu) (envX cn cs L a ccd cl) v3) >>= fun _ => pure ()) _ _ _
    refine wpAny_bind (wpAny_holding (wpAny_assign_Name (st_loc F₃' (fun h₄ F₄ => ?_) hk hx)))
    refine wpAny_bind (wpAny_holding (wpAny_assign_Name (st_loc F₄ (fun h₄' F₄' => ?_) hk hy)))
    refine wpAny_bind (wpAny_holding (wpAny_assign_Name (st_loc F₄' (fun h₅ F₅ => ?_) hk hz)))
    refine wpAny_pure ?_
    refine wpAny_mono (step i v1 v2 v3 b' m' own' h₅ _ it _ hlt hv inv eb F₅) (fun f s₃ z => ?_) fun _ _ z => z
    have go : TurnEnd gs dr os L it b' (Inv (i + 1)) s₃ → ∃ k, k < n + 1 - i ∧ ∃ h' tk b' m' own' j, s₃ = ⟨h', gs, dr, tk, os⟩ ∧ k = n + 1 - j ∧ j ≤ n ∧ St j h' ∧ Ext b b' ∧ Fx b' L h' m' own' ∧ Inv j b' m' own' ∧ (∀ a ∈ tr, b'.get? a = none ∧ a ≠ L ∧ ∀ p ∈ own', p.1 ≠ a) := by
      rintro ⟨h₆, tk₆, b₆, m₆, own₆, rfl, e₆, F₆, inv₆⟩
      have hasit : ∀ p ∈ it, h₆.get? p.1 = some p.2 := fun p hp => F₆.has p (List.mem_append_right _ hp)
      have hi0 : ∀ c ∈ tr, ∃ o, (c, o) ∈ it := fun c hc => ⟨_, List.mem_map_of_mem hc⟩
      refine ⟨n + 1 - (i + 1), by omega, h₆, tk₆, b₆, m₆, own₆, i + 1, rfl, rfl, hlt, ?_, eb.trans e₆, ?_, inv₆, fun c hc => ?_⟩
      · refine W.frame _ _ _ st₃ fun c hc o e => ?_
        by_cases hcw : c ∈ tr
        · obtain ⟨oc, hoc⟩ := hi0 c hcw
          have := (hit _ hoc).2
          dsimp only at this
          rw [e] at this
          have := Option.some.inj this
          rw [this]
          exact hasit _ hoc
        · obtain ⟨obj, hob⟩ := hfp c hc hcw
          have e1 := F₃.keep c obj (eb c obj hob)
          rw [e] at e1
          rw [Option.some.inj e1]
          exact F₆.keep c obj (e₆ c obj (eb c obj hob))
      · refine ⟨F₆.ns, F₆.keep, F₆.lout, fun p hp => F₆.has p (List.mem_append_left _ hp), fun p hp => F₆.out p (List.mem_append_left _ hp), ?_⟩
        have nd := F₆.nodup
        rw [List.map_append, ← List.cons_append] at nd
        exact (List.nodup_append.mp nd).1
      · obtain ⟨oc, hoc⟩ := hi0 c hc
        refine ⟨F₆.out _ (List.mem_append_right _ hoc), (hw c hc).2.1, fun p hp q => ?_⟩
        have nd := F₆.nodup
        rw [List.map_append, hitm, ← List.cons_append] at nd
        exact (List.nodup_append.mp nd).2.2 _ (.tail _ (List.mem_map_of_mem hp)) _ hc q
    cases f with
    | next => exact go z
    | cont => exact go z
    | brk => exact z
    | ret v => exact z
  · have : i = n := by omega
    subst this
    refine W.done _ _ _ st fun h₁ tk₁ hk₁ => ?_
    dsimp only
    exact wpAny_execs_nil (fin h₁ tk₁ b' m' own' inv eb (keepF hk₁))
set_option maxHeartbeats 1000000 in
/-- a for over zip of three lists of one length that the base holds, into three locals -/
theorem for_trio {x y u : Str} {px py pu pt : Pos} {kk : Nat} {body : List Stmt} {b : Heap} {L a l1 l2 l3 : Addr} {m : Str → Option Value} {own : List (Addr × Obj)} {cn : Str} {cs : Scope} {ccd : Value} {cl : List (Str × Addr)} {xs ys zs : List Value} {n1 n2 n3 : Nat} {E : Value → Shared → Prop}
    (F : Fx b L hp m own) (hl1 : b.get? l1 = some (LO xs n1)) (hl2 : b.get? l2 = some (LO ys n2)) (hl3 : b.get? l3 = some (LO zs n3)) (q1 : xs.length = ys.length) (q2 : xs.length = zs.length) (hh : A.handled = none)
    (Inv : Nat → Heap → (Str → Option Value) → List (Addr × Obj) → Prop) (h0 : Inv 0 b m own)
    (step : ∀ i v1 v2 v3 b₁ m₁ own₁ h₁ tk₁ it E', i < xs.length → xs[i]? = some v1 → ys[i]? = some v2 → zs[i]? = some v3 → Inv i b₁ m₁ own₁ → Ext b b₁ → Fx b₁ L h₁ (fun z => if z = u then some v3 else if z = y then some v2 else if z = x then some v1 else m₁ z) (own₁ ++ it) →
      wpAny (model prog w) A (execs body (envX cn cs L a ccd cl)) (Turned gs dr os L it b₁ (Inv (i + 1)) fun f s' => R (.ok f) s') E' ⟨h₁, gs, dr, tk₁, os⟩)
    (fin : ∀ h' tk b' m' own', Inv xs.length b' m' own' → Ext b b' → Fx b' L h' m' own' → R (.ok .next) ⟨h', gs, dr, tk, os⟩)
    (hk : cs.kind = .function := by with_unfolding_all rfl) (hx : (envX cn cs L a ccd cl).kindOf x = some .local := by with_unfolding_all rfl) (hy : (envX cn cs L a ccd cl).kindOf y = some .local := by with_unfolding_all rfl) (hz : (envX cn cs L a ccd cl).kindOf u = some .local := by with_unfolding_all rfl) :
    wpAny (model prog w) A (call (.type "zip") [.ref l1, .ref l2, .ref l3]) (fun e s₁ => wpAny (model prog w) A (pyIter e) (fun it s₂ => codeAny (model prog w) A (.forLoop (.Tuple [.Name x px, .Name y py, .Name u pu] kk pt) it body [] (envX cn cs L a ccd cl)) R s₂) E s₁) E ⟨hp, gs, dr, tk₀, os⟩ := by
  have hl1' := F.keep _ _ hl1
  have hl2' := F.keep _ _ hl2
  have hl3' := F.keep _ _ hl3
  refine callType_new PySem.F.called_zip (by decide) (Z3.typeCall _ _ _) (Z3.newCall _ _ _) (fun obj => Z3.args_init obj _ _ _) PySem.F.entry_zip_new (Z3.meets_new l1 l2 l3 xs.toArray ys.toArray zs.toArray) ⟨isList_of hl1', isList_of hl2', isList_of hl3', ?_⟩
  have lt1 : (l1 : Nat) < hp.objs.size := Heap.lt_size hl1'
  have lt2 : (l2 : Nat) < hp.objs.size := Heap.lt_size hl2'
  have lt3 : (l3 : Nat) < hp.objs.size := Heap.lt_size hl3'
  have up : Ext hp (Z3.made hp l1 l2 l3) := fun c o e => Heap.get?_push_of_some _ (Heap.get?_push_of_some _ (Heap.get?_push_of_some _ (Heap.get?_push_of_some _ (Heap.get?_push_of_some _ (Heap.get?_push_of_some _ e)))))
  have z1 : (hp.push (Z3.It l1)).objs.size = hp.objs.size + 1 := Heap.size_push ..
  have z2 : ((hp.push (Z3.It l1)).push (Z3.It l2)).objs.size = hp.objs.size + 2 := by rw [Heap.size_push, z1]
  have z3 : (((hp.push (Z3.It l1)).push (Z3.It l2)).push (Z3.It l3)).objs.size = hp.objs.size + 3 := by rw [Heap.size_push, z2]
  have z4 : ((((hp.push (Z3.It l1)).push (Z3.It l2)).push (Z3.It l3)).push (Z3.Tu (.ref hp.objs.size) (.ref (hp.push (Z3.It l1)).objs.size) (.ref ((hp.push (Z3.It l1)).push (Z3.It l2)).objs.size))).objs.size = hp.objs.size + 4 := by rw [Heap.size_push, z3]
  have z5 : (((((hp.push (Z3.It l1)).push (Z3.It l2)).push (Z3.It l3)).push (Z3.Tu (.ref hp.objs.size) (.ref (hp.push (Z3.It l1)).objs.size) (.ref ((hp.push (Z3.It l1)).push (Z3.It l2)).objs.size))).push (Z3.Tu .none .none .none)).objs.size = hp.objs.size + 5 := by rw [Heap.size_push, z4]
  have g6 : (Z3.made hp l1 l2 l3).get? (((((hp.push (Z3.It l1)).push (Z3.It l2)).push (Z3.It l3)).push (Z3.Tu (.ref hp.objs.size) (.ref (hp.push (Z3.It l1)).objs.size) (.ref ((hp.push (Z3.It l1)).push (Z3.It l2)).objs.size))).push (Z3.Tu .none .none .none)).objs.size = some _ := Heap.get?_push_size _ rfl
  have g5 : (Z3.made hp l1 l2 l3).get? ((((hp.push (Z3.It l1)).push (Z3.It l2)).push (Z3.It l3)).push (Z3.Tu (.ref hp.objs.size) (.ref (hp.push (Z3.It l1)).objs.size) (.ref ((hp.push (Z3.It l1)).push (Z3.It l2)).objs.size))).objs.size = some _ := Heap.get?_push_of_some _ (Heap.get?_push_size _ rfl)
  have g4 : (Z3.made hp l1 l2 l3).get? (((hp.push (Z3.It l1)).push (Z3.It l2)).push (Z3.It l3)).objs.size = some _ := Heap.get?_push_of_some _ (Heap.get?_push_of_some _ (Heap.get?_push_size _ rfl))
  have g3 : (Z3.made hp l1 l2 l3).get? ((hp.push (Z3.It l1)).push (Z3.It l2)).objs.size = some _ := Heap.get?_push_of_some _ (Heap.get?_push_of_some _ (Heap.get?_push_of_some _ (Heap.get?_push_size _ rfl)))
  have g2 : (Z3.made hp l1 l2 l3).get? (hp.push (Z3.It l1)).objs.size = some _ := Heap.get?_push_of_some _ (Heap.get?_push_of_some _ (Heap.get?_push_of_some _ (Heap.get?_push_of_some _ (Heap.get?_push_size _ rfl))))
  have g1 : (Z3.made hp l1 l2 l3).get? hp.objs.size = some _ := Heap.get?_push_of_some _ (Heap.get?_push_of_some _ (Heap.get?_push_of_some _ (Heap.get?_push_of_some _ (Heap.get?_push_of_some _ (Heap.get?_push_size _ rfl)))))
  show _ ∧ _
  rw [z3, z4, z5] at g6
  rw [z1, z2, z3] at g4
  rw [z4] at g5
  rw [z2] at g3
  rw [z1] at g2
  rw [z5]
  refine ⟨⟨_, g6, rfl⟩, ?_⟩
  have st0 : Z3.Sta hp.objs.size l1 l2 l3 xs.toArray ys.toArray zs.toArray .none 0 (Z3.made hp l1 l2 l3) :=
    ⟨g6, g4, ⟨_, _, _, g5⟩, ⟨_, g1, rfl, rfl⟩, ⟨_, g2, rfl, rfl⟩, ⟨_, g3, rfl, rfl⟩, isList_of (up _ _ hl1'), isList_of (up _ _ hl2'), isList_of (up _ _ hl3')⟩
  show wpAny _ _ (pyIter (.ref (hp.objs.size + 5))) _ _ ⟨Z3.made hp l1 l2 l3, gs, dr, tk₀, os⟩
  have F1 := F.ext up
  generalize Z3.made hp l1 l2 l3 = h1 at st0 F1
  have above : ∀ k : Nat, b.get? (hp.objs.size + k) = none ∧ hp.objs.size + k ≠ L ∧ ∀ p ∈ own, p.1 ≠ hp.objs.size + k := fun k => by
    have hb : b.get? (hp.objs.size + k) = none := by
      cases q : b.get? (hp.objs.size + k) with
      | none => rfl
      | some o => exact absurd (Heap.lt_size (F.keep _ _ q)) (Nat.not_lt.mpr (Nat.le_add_right _ _))
    have hL := F.ns.lt
    refine ⟨hb, fun q => ?_, fun p hp q => ?_⟩
    · rw [← q] at hL; exact absurd hL (Nat.not_lt.mpr (Nat.le_add_right _ _))
    · have := Heap.lt_size (F.has p hp)
      rw [q] at this; exact absurd this (Nat.not_lt.mpr (Nat.le_add_right _ _))
  have W := Z3.walks (prog := prog) (w := w) (n := hp.objs.size) (l1 := l1) (l2 := l2) (l3 := l3) (xs := xs.toArray) (ys := ys.toArray) (zs := zs.toArray) hh lt1 lt2 lt3 (by simpa using q1) (by simpa using q2)
  rw [show xs.toArray.size = xs.length by simp] at W
  refine W.self 0 ⟨h1, gs, dr, tk₀, os⟩ _ _ st0 ?_
  refine loop_trio (tr := [hp.objs.size + 5, hp.objs.size + 4, hp.objs.size + 0, hp.objs.size + 1, hp.objs.size + 2, hp.objs.size + 3]) W st0 F1 hh (fun i vals q => ?_) (fun c hc => ?_) (fun c hc hw => ?_) (fun c hc => ?_) ?_ (fun i h st c hc => ?_) Inv h0 (fun i v1 v2 v3 b₁ m₁ own₁ h₁ tk₁ it E' hi hv => ?_) fin hk hx hy hz
  · obtain ⟨x, y, z, _, _, _, e⟩ := q
    exact ⟨_, _, _, e⟩
  · simp only [List.mem_cons, List.not_mem_nil, or_false] at hc ⊢
    rcases hc with rfl | rfl | rfl | rfl | rfl <;> simp
  · simp only [List.mem_cons, List.not_mem_nil, or_false] at hc hw
    rcases hc with rfl | rfl | rfl | rfl | rfl | rfl | rfl | rfl | rfl
    · exact absurd (by simp) hw
    · exact absurd (by simp) hw
    · exact absurd (by simp) hw
    · exact absurd (by simp) hw
    · exact absurd (by simp) hw
    · exact absurd (by simp) hw
    · exact ⟨_, hl1⟩
    · exact ⟨_, hl2⟩
    · exact ⟨_, hl3⟩
  · simp only [List.mem_cons, List.not_mem_nil, or_false] at hc
    rcases hc with rfl | rfl | rfl | rfl | rfl | rfl <;> exact above _
  · simp
  · obtain ⟨z1, z2, ⟨_, _, _, z3⟩, ⟨o4, z4, _⟩, ⟨o5, z5, _⟩, ⟨o6, z6, _⟩, _⟩ := st
    simp only [List.mem_cons, List.not_mem_nil, or_false] at hc
    rcases hc with rfl | rfl | rfl | rfl | rfl | rfl
    · exact ⟨_, z1⟩
    · exact ⟨_, z3⟩
    · exact ⟨_, z4⟩
    · exact ⟨_, z5⟩
    · exact ⟨_, z6⟩
    · exact ⟨_, z2⟩
  · obtain ⟨x, y, z, e1, e2, e3, e4⟩ := hv
    have e5 : v1 = x ∧ v2 = y ∧ v3 = z := by simpa using e4
    obtain ⟨rfl, rfl, rfl⟩ := e5
    exact step i v1 v2 v3 b₁ m₁ own₁ h₁ tk₁ it E' hi (by simpa using e1) (by simpa using e2) (by simpa using e3)
end
section
variable {prog : Program} {w : World} {A : Around} {E : Value → Shared → Prop}
theorem comp0_loop {elt iter : PySem.Expr} {x : Str} {px : Pos} {scope : Scope} {pos : Pos} {it acc : Value} {env : Env} {R : Result → Shared → Prop} (I : Nat → Shared → Prop)
    (turn : ∀ n s, I n s → ∀ E', wpAny (model prog w) A (pyNext it) (fun r s₁ => match r with
      | none => R (.ok .next) s₁
      | some v => wpAny (model prog w) A (assign (.Name x px) env v) (fun _ s₂ =>
          wpAny (model prog w) A (eval elt env) (fun y s₄ =>
            wpAny (model prog w) A (call (.builtin "list.append") [acc, y]) (fun _ s₅ => ∃ m, m < n ∧ I m s₅) E' s₄) E' s₂) E' s₁) E' s)
    (n : Nat) (h : I n s) : codeAny (model prog w) A (.compLoop (.ListComp elt [⟨.Name x px, iter, [], 0⟩] scope pos) 0 it acc env) R s := by
  refine codeAny_loop rfl I (fun n s hI => ?_) n h
  show wpAny _ A ((compTurn (.ListComp elt [⟨.Name x px, iter, [], 0⟩] scope pos) 0 it acc env).onRaise (fun x => do noteFrame x env; theTreesLotGoes x)) _ _ s
  refine wpAny_noted ?_
  rw [compTurn_list]
  refine wpAny_bind (wpAny_standAt (wpAny_bind (wpAny_mono (turn n s hI _) (fun r s₁ h₁ => ?_) fun _ _ h' => h')))
  cases r with
  | none => exact wpAny_pure h₁
  | some v =>
    refine wpAny_bind (m := letOwnedTupleGo (.Name x px) it v) (wpAny_pure ?_)
    refine wpAny_bind (wpAny_mono h₁ (fun _ s₂ h₂ => ?_) fun _ _ h' => h')
    refine wpAny_bind (wpAny_pure ?_)
    exact wpAny_bind (wpAny_bind (wpAny_mono h₂ (fun y s₄ h₄ => wpAny_bind (wpAny_mono h₄ (fun _ s₅ h₅ => wpAny_pure (wpAny_pure ⟨rfl, h₅⟩)) fun _ _ h' => h')) fun _ _ h' => h'))
end
section
variable {prog : Program} {w : World} {A : Around} {E : Value → Shared → Prop} {env : Env}
set_option maxHeartbeats 2000000 in
/-- names = [elt for x in range(..)]: the list is stored by the comprehension's own end -/
theorem comp_range_asg {elt iter : Expr} {x z : Str} {px pz pos spos : Pos} {scope : Scope} {cl : List (Str × Addr)} {s : Shared} {Q : Flow → Shared → Prop} (g : Int → Int) (hh : A.handled = none)
    (hsw : swapsWith (.ListComp elt [⟨.Name x px, iter, [], 0⟩] scope pos) (some (.Name z pz)) spos.line env = pure true)
    (hclos : closureFor scope env = pure cl) (hcell : ∀ y ∈ scope.names, y.2 ≠ .cell) (hkind : scope.kind = .function)
    (hnames : ∀ y ∈ scope.names, y.2 = .local → scope.names.lookup y.1 = some .local) (hx : scope.names.lookup x = some .local)
    (hs : ∀ x, foldedSetIterable iter env x = pure x) (hz : env.kindOf z = some .local) (hkz : (env.scope.kind == .class || (env.scope.kind == .module && env.locals != env.globals)) = false)
    (h : wpAny (model prog w) A (eval iter env) (fun xv s₁ => ∃ r i0 i1 st t u v nn hp b L m own gs dr tk os, env.locals = L ∧ xv = .ref r ∧ s₁ = ⟨hp, gs, dr, tk, os⟩ ∧ hp.get? r = some (RgO i0 i1 st t u v) ∧ Builtin.Range.small i0 i1 st = true ∧ Builtin.Range.rangeSize i0 i1 st = (nn : Nat) ∧ nn ≤ 1000000 ∧ Fx b L hp m own ∧
      (∀ C k t h₃ tk m₃ E', h₃.Ns C m₃ → m₃ x = some (.int k t) → Ext hp h₃ → wpAny (model prog w) A (eval elt (compEnvC scope cl C env)) (fun y s₄ => (∃ t', y = .int (g k) t') ∧ ∃ h' tk', s₄ = ⟨h', gs, dr, tk', os⟩ ∧ Ext h₃ h') E' ⟨h₃, gs, dr, tk, os⟩) ∧
      (∀ D cc ys h' tk', Fx b L h' (fun q => if q = z then some (.ref D) else m q) ((D, LO ys cc) :: own) → IntsAre ys ((rangeL i0 st nn).map g) → Q .next ⟨h', gs, dr, tk', os⟩)) E s) :
    wpAny (model prog w) A (exec (.Assign [.Name z pz] (.ListComp elt [⟨.Name x px, iter, [], 0⟩] scope pos) spos) env) Q E s := by
  rw [exec_Assign_Name_used _ _ _ _ hsw]
  refine wpAny_bind (wpAny_standAt (wpAny_bind ?_))
  show wpAny _ A (do let _ ← comprehension (.ListComp elt [⟨.Name x px, iter, [], 0⟩] scope pos) scope env _ (newList []) false (eval iter env) (some (assign (.Name z pz) env))) _ _ s
  refine wpAny_bind (wpAny_mono (wpAny_comprehension_free (use := some (assign (.Name z pz) env)) (Q := fun _ s' => Q .next s') rfl hs hclos hkind hnames
    (wpAny_mono h (fun xv s₁ h₁ => ?_) fun _ _ e => e)) (fun _ s' hq => wpAny_pure (wpAny_pure hq)) fun _ _ e => e)
  obtain ⟨r, i0, i1, st, t, u, v, nn, hp0, b, L, m, own, gs, dr, tk, os, hL, rfl, rfl, hr, hsm, hn, hsz, F0, helt, hQ⟩ := h₁
  refine wpAny_pyIter_range hr hsm ?_
  dsimp only
  have fr := F0.fresh
  have W := Walks.range (prog := prog) (w := w) hh hp0.objs.size i0 st nn
  have hst : IsRangeIter (hp0.push { cls := .type "range_iterator", data := .fields #[rawInt i0, rawInt (Builtin.Range.rangeSize i0 i1 st), rawInt st] }) hp0.objs.size (i0 + ((0 : Nat) : Int) * st) ((nn : Int) - ((0 : Nat) : Int)) st := by
    have := Heap.get?_push_size hp0 (o := { cls := .type "range_iterator", data := .fields #[rawInt i0, rawInt (Builtin.Range.rangeSize i0 i1 st), rawInt st] }) rfl
    simpa [IsRangeIter, hn] using this
  have F := F0.ext (.of_push { cls := .type "range_iterator", data := .fields #[rawInt i0, rawInt (Builtin.Range.rangeSize i0 i1 st), rawInt st] })
  have ePush : Ext hp0 (hp0.push { cls := .type "range_iterator", data := .fields #[rawInt i0, rawInt (Builtin.Range.rangeSize i0 i1 st), rawInt st] }) := .of_push _
  have hIlt : hp0.objs.size < (hp0.push { cls := .type "range_iterator", data := .fields #[rawInt i0, rawInt (Builtin.Range.rangeSize i0 i1 st), rawInt st] }).objs.size := by rw [Heap.size_push]; exact Nat.lt_succ_self _
  generalize hp0.push { cls := .type "range_iterator", data := .fields #[rawInt i0, rawInt (Builtin.Range.rangeSize i0 i1 st), rawInt st] } = hp at hst F ePush hIlt
  generalize hII : hp0.objs.size = I at *
  have hw : ∀ a ∈ [I], b.get? a = none ∧ a ≠ L ∧ ∀ p ∈ own, p.1 ≠ a := fun a ha => by
    rw [List.mem_singleton.mp ha]; exact ⟨fr.1, fr.2.1.symm, fr.2.2⟩
  refine wpAny_newObj_type (wpAny_newFunctionEnv hcell (by intro y hy; simp at hy) (fun h₁ hns₁ hsb₁ => ?_) hkind)
  dsimp only at hns₁ hsb₁ ⊢
  generalize hH2 : hp.push { cls := .type "list", dict := none, data := .seq ([] : List Value).toArray } = H2 at hns₁ hsb₁ ⊢
  have hC : H2.objs.size = hp.objs.size + 1 := by rw [← hH2, Heap.size_push]
  have hDC : hp.objs.size ≠ H2.objs.size := by rw [hC]; exact Nat.ne_of_lt (Nat.lt_succ_self _)
  have below : ∀ b, b < hp.objs.size → b ≠ H2.objs.size ∧ b ≠ hp.objs.size := fun b hb => ⟨by rw [hC]; exact Nat.ne_of_lt (Nat.lt_succ_of_lt hb), Nat.ne_of_lt hb⟩
  have hDw : hp.objs.size ∉ [I] := fun hm => (below I hIlt).2 (List.mem_singleton.mp hm).symm
  have hCw : H2.objs.size ∉ [I] := fun hm => (below I hIlt).1 (List.mem_singleton.mp hm).symm
  have old : ∀ b o, hp.get? b = some o → h₁.get? b = some o := fun b o e => hsb₁.extBut b o (below b (Heap.lt_size e)).1 (Heap.get?_push_of_some _ (hH2 ▸ Heap.get?_push_of_some _ e))
  have hacc : h₁.get? hp.objs.size = some (LO [] 0) := hsb₁.extBut _ _ hDC (Heap.get?_push_of_some _ (hH2 ▸ Heap.get?_push_size _ rfl))
  have hst₁ : IsRangeIter h₁ I (i0 + ((0 : Nat) : Int) * st) ((nn : Int) - ((0 : Nat) : Int)) st := W.frame 0 _ _ hst fun b _ o e => old b o e
  have hkd : ((compEnvC scope cl H2.objs.size env).scope.kind == .class || ((compEnvC scope cl H2.objs.size env).scope.kind == .module && (compEnvC scope cl H2.objs.size env).locals != (compEnvC scope cl H2.objs.size env).globals)) = false := by simp [compEnvC, relabel, hkind]
  have loop : codeAny (model prog w) A (.compLoop (.ListComp elt [⟨.Name x px, iter, [], 0⟩] scope pos) 0 (.ref I) (.ref hp.objs.size) (compEnvC scope cl H2.objs.size env))
        (compPost (model prog w) A E (some (assign (.Name z pz) env)) (fun _ s' => Q .next s') (.ref hp.objs.size) H2.objs.size) ⟨h₁, gs, dr, tk, os⟩ := by
    refine comp0_loop (fun k s' => ∃ h' tk i ys cc m', s' = ⟨h', gs, dr, tk, os⟩ ∧ i ≤ nn ∧ k = nn + 1 - i ∧ IsRangeIter h' I (i0 + (i : Nat) * st) ((nn : Int) - (i : Nat)) st ∧ h'.Ns H2.objs.size m' ∧ h'.get? hp.objs.size = some (LO ys cc) ∧ IntsAre ys ((rangeL i0 st i).map g) ∧
      (∀ b o, b ∉ [I] → hp.get? b = some o → h'.get? b = some o)) ?_ (nn + 1) ⟨h₁, _, 0, [], 0, _, rfl, Nat.zero_le _, rfl, hst₁, hns₁, hacc, .nil, fun b o _ e => old b o e⟩
    rintro k s' ⟨h', tk', i, ys, cc, m', rfl, hi, rfl, hst', hn', hD', hys, hk'⟩ E'
    by_cases hlt : i < nn
    · refine W.item i _ _ _ hlt hst' fun v h₂ tk₂ hPv st₂ hk₂ => ?_
      obtain ⟨tv, rfl⟩ := hPv
      dsimp only at hk₂ ⊢
      refine wpAny_assign_Name (wpAny_storeName_local (lookup_relabel_local hx) (hn'.at' fun o e => hk₂ _ o hCw e) (fun h₅ hn₅ hs₅ => ?_) hkd)
      have up5 : ∀ a oa, a ≠ H2.objs.size → a ∉ [I] → h'.get? a = some oa → h₅.get? a = some oa := fun a oa hc hw e => hs₅.extBut a oa hc (hk₂ a oa hw e)
      have st₅ := W.frame (i + 1) _ _ st₂ fun a ha oa e => hs₅.extBut a oa (fun q => hCw (by have q' : a = H2.objs.size := q; rw [← q']; exact ha)) e
      have offI : ∀ a oa, hp0.get? a = some oa → a ∉ [I] := fun a oa e q => by
        rw [List.mem_singleton.mp q, ← hII] at e
        exact absurd (Heap.lt_size e) (Nat.lt_irrefl _)
      have base5 : Ext hp0 h₅ := fun a oa e => up5 a oa (below a (Heap.lt_size (ePush _ _ e))).1 (offI a oa e) (hk' a oa (offI a oa e) (ePush _ _ e))
      refine wpAny_mono (helt _ (i0 + (i : Nat) * st) tv h₅ _ _ _ hn₅ (by simp) base5) (fun y s₄ z => ?_) fun _ _ e => e
      obtain ⟨⟨t', rfl⟩, h₇, tk₇, rfl, e₇⟩ := z
      have hD₇ : h₇.get? hp.objs.size = some (LO ys cc) := e₇ _ _ (up5 _ _ hDC hDw hD')
      have hyl : ys.length = i := by rw [hys.length, List.length_map]; simp [rangeL]
      refine wpAny_list_append_plain ⟨cc, hD₇⟩ (fun h₈ ⟨n', hn8⟩ hs => ?_) (by rw [List.size_toArray, sizeLine_eq]; (clear hh hsw hclos hkind hx hz hkz hL hr hsm hn hII fr hst hIlt hH2 hC hDC hDw hCw hacc hst₁ hkd hi hst' hD' st₂ st₅ hD₇; omega))
      refine ⟨nn + 1 - (i + 1), by (clear hh hsw hclos hkind hx hz hkz hL hr hsm hn hsz hII fr hst hIlt hH2 hC hDC hDw hCw hacc hst₁ hkd hi hst' hD' st₂ st₅ hD₇ hyl hn8; omega), h₈, _, i + 1, ys ++ [.int (g (i0 + (i : Nat) * st)) t'], n', _, rfl, hlt, rfl, W.frame (i + 1) _ _ st₅ fun a ha oa e => hs.extBut a oa (fun q => hDw (q ▸ ha)) (e₇ a oa e), (hn₅.keeps e₇).sameBut hs (Ne.symm hDC), by rw [hn8]; simp, ?_, fun a oa hw e => hs.extBut a oa (below a (Heap.lt_size e)).2 (e₇ _ _ (up5 a oa (below a (Heap.lt_size e)).1 hw (hk' a oa hw e)))⟩
      rw [show rangeL i0 st (i + 1) = rangeL i0 st i ++ [i0 + (i : Nat) * st] by simp [rangeL, List.range_succ], List.map_append]
      exact hys.append (.cons _ _ .nil)
    · have : i = nn := by omega
      subst this
      refine W.done _ _ _ hst' fun h₂ tk₂ hk₂ => ?_
      dsimp only at hk₂ ⊢
      have ekeep : ∀ a oa, a ∉ [I] → hp.get? a = some oa → h₂.get? a = some oa := fun a oa hw e => hk₂ a oa hw (hk' a oa hw e)
      have F2 : Fx b L h₂ m own := by
        obtain ⟨oL, es, ep, gL, r⟩ := F.ns
        exact ⟨⟨oL, es, ep, ekeep _ _ (fun q => (hw _ q).2.1 rfl) gL, r⟩, fun a o q => ekeep a o (fun z => by rw [(hw _ z).1] at q; cases q) (F.keep a o q), F.lout, fun p hp => ekeep _ _ (fun q => (hw _ q).2.2 p hp rfl) (F.has p hp), F.out, F.nodup⟩
      have FD : Fx b L h₂ m ((hp.objs.size, LO ys cc) :: own) := F.addNew F2 rfl (none_at_size _) (hk₂ _ _ hDw hD')
      have hLC : L ≠ H2.objs.size := fun q => by have := F.ns.lt; rw [q, hC] at this; exact Nat.lt_irrefl _ (Nat.lt_of_succ_lt this)
      subst hL
      show wpAny _ A (assign (.Name z pz) env (.ref hp.objs.size)) _ _ _
      refine wpAny_assign_Name (wpAny_storeName_local hz FD.ns (fun h₃ hn₃ hs₃ => ?_) hkz)
      have F3 := FD.store hn₃ hs₃
      refine ⟨m', (hn'.at' fun o e => hk₂ _ o hCw e).sameBut hs₃ (Ne.symm hLC), fun h'' hs'' => ?_⟩
      have outC : b.get? H2.objs.size = none := by
        cases e : b.get? H2.objs.size with
        | none => rfl
        | some o => exact absurd rfl (below _ (Heap.lt_size (F.keep _ _ e))).1
      have ownC : ∀ p ∈ (hp.objs.size, LO ys cc) :: own, p.1 ≠ H2.objs.size := fun p hp' => by
        rcases List.mem_cons.mp hp' with rfl | hp'
        · exact hDC
        · exact (below _ (Heap.lt_size (F.has p hp'))).1
      exact hQ hp.objs.size cc ys h'' _ ⟨hn₃.sameBut hs'' hLC, fun a o q => hs''.extBut a o (fun z => by rw [z, outC] at q; cases q) (F3.keep a o q), F3.lout, fun p hp' => hs''.extBut _ _ (ownC p hp') (F3.has p hp'), F3.out, F3.nodup⟩ hys
  exact codeAny_compStart_list loop (W.self 0 _ _ _ hst₁ loop)
end
theorem mul_okR {c a : Int} (ha : -1000000 ≤ a ∧ a ≤ 1000000) : IntMulOk c a := by
  refine IntMulOk.of_right ?_
  unfold Builtin.Int.intBits
  split
  · decide
  · have h1 : a.natAbs ≤ 1000000 := by omega
    have h2 : a.natAbs ≠ 0 := by rename_i q; simpa using q
    have h3 : a.natAbs.log2 < 63 := (Nat.log2_lt h2).mpr (Nat.lt_of_le_of_lt h1 (by decide))
    exact Nat.lt_of_lt_of_le h3 (by decide)
section
variable {prog : Program} {w : World} {A : Around} {E : Value → Shared → Prop} {hp : Heap} {gs : Array GenState} {dr : Drawn} {tk : Nat} {os : OsState} {mg mb : Str → Option Value} {Q : Value → Shared → Prop}
theorem sub_cut {b : Heap} {L l : Addr} {m : Str → Option Value} {own : List (Addr × Obj)} {value slice : Expr} {its : List Value} {n : Nat} {vl vu : Value} {lo hi : Option Int} (F : Fx b L hp m own) (hl : hp.get? l = some (LO its n)) (hz : its.length ≤ 1000000) (pl : IsPart vl lo) (pu : IsPart vu hi)
    (h : ∀ D h', Fx b L h' m ((D, LO (cutL its lo hi) 0) :: own) → Ext hp h' → Q (.ref D) ⟨h', gs, dr, tk, os⟩)
    (hs : subscripted slice false (.ref l) (.ref hp.objs.size) = operate [.ref hp.objs.size, .ref l] (getItem (.ref l) (.ref hp.objs.size)) := by with_unfolding_all rfl) :
    wpAny (model prog w) A (subscriptTail value slice (.ref l) (.ref hp.objs.size)) Q E ⟨hp.push (SlO vl vu .none), gs, dr, tk, os⟩ := by
  have hl' := Heap.get?_push_of_some (SlO vl vu .none) hl
  refine tail_any (isList_of hl').typeIs slot_list_getitem.lookup (gi_slice (F.ext (.of_push (SlO vl vu .none))) hl' (Heap.get?_push_size _ rfl) pl pu .none (by simp) hz ?_) hs
  exact fun D h' F' e => h D h' F' ((Ext.of_push _).trans e)
theorem nums_some {script : List Int} : ∃ n0 nr, script ++ pickNums [560, 44, 39, 241, 508622] (some script.length) none none = n0 :: nr := by
  cases script with
  | nil => exact ⟨560, [44, 39, 241, 508622], by decide⟩
  | cons a r => exact ⟨a, _, rfl⟩
theorem not_sys {b h : Heap} {D : Addr} (T : Tp (KK w) mg mb b) (e : Ext b h) (hD : h.objs.size ≤ D) : (D == sysModules) = false := by
  have hg : (339 : Nat) < h.objs.size := Heap.lt_size (e _ _ (T.X _ _ (lk g_law (by kernel_rfl))))
  have hD : (h.objs.size : Nat) ≤ D := hD
  have : D ≠ sysModules := fun q => by
    have q : @Eq Nat D 1 := q
    omega
  simpa using this
/-- the law's own lists, a table under work, the cell -/
abbrev ownL (dn c DM DC DT DA : Addr) (on o1 : Obj) (number : Int) (tv : Tok) (ms cs ts as : List Value) (n1 n2 n3 n4 : Nat) (it : List (Addr × Obj)) : List (Addr × Obj) := (dn, on) :: (c, CX o1 (some (.int number tv))) :: ([(DM, LO ms n1), (DC, LO cs n2), (DT, LO ts n3), (DA, LO as n4)] ++ it)
theorem own_ho {dn c DM DC DT DA : Addr} {on o1 : Obj} {number : Int} {tv : Tok} {ms cs ts as : List Value} {n1 n2 n3 n4 : Nat} {it : List (Addr × Obj)} (hit : ∀ p ∈ it, ∃ vs, p.2.data = .fields vs) : ∀ p ∈ ownL dn c DM DC DT DA on o1 number tv ms cs ts as n1 n2 n3 n4 it, (∃ v, p.2.data = .cell v) ∨ (∃ vs, p.2.data = .fields vs) ∨ p.1 ∈ [dn, DM, DC, DT, DA] := by
  intro p hp
  simp only [ownL, List.mem_cons, List.mem_append, List.not_mem_nil, or_false] at hp
  rcases hp with rfl | rfl | (rfl | rfl | rfl | rfl) | hp
  · exact .inr (.inr (by simp))
  · exact .inl ⟨_, rfl⟩
  · exact .inr (.inr (by simp))
  · exact .inr (.inr (by simp))
  · exact .inr (.inr (by simp))
  · exact .inr (.inr (by simp))
  · exact .inr (.inl (hit p hp))
theorem own_hex {dn c DM DC DT DA : Addr} {on o1 : Obj} {number : Int} {tv : Tok} {ms cs ts as : List Value} {n1 n2 n3 n4 : Nat} {it : List (Addr × Obj)} : ∀ D ∈ [dn, DM, DC, DT, DA], ∃ o, (D, o) ∈ ownL dn c DM DC DT DA on o1 number tv ms cs ts as n1 n2 n3 n4 it := by
  intro D hD
  simp only [List.mem_cons, List.not_mem_nil, or_false] at hD
  rcases hD with rfl | rfl | rfl | rfl | rfl
  · exact ⟨_, .head _⟩
  · exact ⟨_, .tail _ (.tail _ (.head _))⟩
  · exact ⟨_, .tail _ (.tail _ (.tail _ (.head _)))⟩
  · exact ⟨_, .tail _ (.tail _ (.tail _ (.tail _ (.head _))))⟩
  · exact ⟨_, .tail _ (.tail _ (.tail _ (.tail _ (.tail _ (.head _)))))⟩
theorem own_aside {prog : Program} {w : World} {b h : Heap} {sz K : Nat} {dn c DM DC DT DA L : Addr} {on o1 : Obj} {number : Int} {tv : Tok} {ms cs ts as : List Value} {n1 n2 n3 n4 : Nat} {it : List (Addr × Obj)} {b' : Heap} {m : Str → Option Value} {zs : List Int} {kvs : List (Int × Value)} (V : Vers prog w b sz K ms cs ts) (e : Ext b b') (F : Fx b' L h m (ownL dn c DM DC DT DA on o1 number tv ms cs ts as n1 n2 n3 n4 it)) (hl : ms.length ≤ 30) (ha : IntsAre as zs) (ha0 : 0 < as.length) (hal : as.length ≤ 30) (hD : DK prog w on kvs) :
    ∀ D ∈ [dn, DM, DC, DT, DA], AsideP h D := by
  obtain ⟨a1, a2, a3, a4⟩ := V.aside (e.trans F.keep) (F.has (DM, LO ms n1) (.tail _ (.tail _ (.head _)))) (F.has (DC, LO cs n2) (.tail _ (.tail _ (.tail _ (.head _))))) (F.has (DT, LO ts n3) (.tail _ (.tail _ (.tail _ (.tail _ (.head _)))))) (F.has (DA, LO as n4) (.tail _ (.tail _ (.tail _ (.tail _ (.tail _ (.head _))))))) hl ha ha0 hal
  intro D hD'
  simp only [List.mem_cons, List.not_mem_nil, or_false] at hD'
  rcases hD' with rfl | rfl | rfl | rfl | rfl
  · exact .inr ⟨_, F.head, hD.cls⟩
  · exact a1
  · exact a2
  · exact a3
  · exact a4
theorem pick_int {b h : Heap} {L D : Addr} {m : Str → Option Value} {own : List (Addr × Obj)} {its : List Value} {n k : Nat} {lo hi : Int} (F : Fx b L h m ((D, LO its n) :: own)) (hP : ∀ v ∈ its, ∃ z t, v = .int z t ∧ lo ≤ z ∧ z ≤ hi) (hk : k < its.length) : ∃ z t, its[k]? = some (.int z t) ∧ lo ≤ z ∧ z ≤ hi := by
  obtain ⟨z, t, e, h1, h2⟩ := hP _ (List.getElem_mem hk)
  exact ⟨z, t, by rw [List.getElem?_eq_getElem hk, e], h1, h2⟩
/-- how the frame stands within a deed -/
structure Deed (prog : Program) (w : World) (dn DM DC DT DA x : Addr) (b : Heap) (m : Str → Option Value) (on : Obj) (N K : Nat) : Prop where
  made : m (Str.ofString "made") = some (.ref DM)
  counts : m (Str.ofString "counts") = some (.ref DC)
  tables : m (Str.ofString "tables") = some (.ref DT)
  asked : m (Str.ofString "asked") = some (.ref DA)
  changes : m (Str.ofString "changes") = some (.ref dn)
  vector : m (Str.ofString "vector") = some (.ref x)
  ok : ∃ xs ns kvs t, m (Str.ofString "count") = some (.int ns.length t) ∧ VecAt b x xs ∧ IntsAre xs ns ∧ ns.length ≤ N ∧ DK prog w on kvs ∧ TabOk kvs ns ∧ kvs.length ≤ K
theorem range0_size (n : Nat) : Builtin.Range.rangeSize 0 (n : Int) 1 = (n : Nat) := by rw [rangeSize_nat]; simp
end
/-- the law's function, its statements, its frame: taken out of the written part -/
noncomputable def fnD (w : World) : FuncData := match (ob w g_law).data with | .func fd => fd | _ => default
noncomputable def stmtsOf (w : World) : List Stmt := match (fnD w).body with | .stmts l => l | _ => []
def nth (l : List Stmt) (k : Nat) : Stmt := l.getD k (.Pass default)
def forBody : Stmt → List Stmt | .For _ _ b _ _ => b | _ => []
def ifThen : Stmt → List Stmt | .If _ b _ _ => b | _ => []
def ifElse : Stmt → List Stmt | .If _ _ b _ => b | _ => []
noncomputable def turnStmts (w : World) : List Stmt := forBody (nth (stmtsOf w) 6)
noncomputable def lawEnv (w : World) (L : Addr) : Env := envX (fnD w).qualname (fnD w).scope L g_law (fnD w).code [(Str.ofString "number", L + 1)]
theorem kind_law (w : World) : (fnD w).scope.kind ≠ .module := by
  have : (fnD w).scope.kind = .function := by with_unfolding_all rfl
  rw [this]; decide
section
variable {prog : Program} {w : World} {A : Around} {E : Value → Shared → Prop} {hp : Heap} {gs : Array GenState} {dr : Drawn} {tk : Nat} {os : OsState} {mg mb : Str → Option Value}
set_option maxHeartbeats 4000000 in
/-- the first deed: some items appended one by one -/
theorem deed0 {Q : Flow → Shared → Prop} {b' : Heap} {L dn DM DC DT DA x : Addr} {m : Str → Option Value} {on o1 : Obj} {number rest : Int} {tv tr : Tok} {ms cs ts as' : List Value} {n1 n2 n3 n4' sz K N0 K0 : Nat} {it : List (Addr × Obj)} {zs' : List Int} (T : Tp (KK w) mg mb b') (F : Fx b' L hp m (ownL dn (L + 1) DM DC DT DA on o1 number tv ms cs ts as' n1 n2 n3 n4' it)) (hit : ∀ p ∈ it, ∃ vs, p.2.data = .fields vs)
    (VV : Vers prog w b' sz K ms cs ts) (hms9 : ms.length ≤ 30) (has' : IntsAre as' zs') (has9 : 0 < as'.length ∧ as'.length ≤ 30) (DD : Deed prog w dn DM DC DT DA x b' m on N0 K0) (hN0 : N0 ≤ 39800) (hK0 : K0 ≤ 100000) (hr : m (Str.ofString "rest") = some (.int rest tr)) (hroom : A.depth < 320) (hh : A.handled = none)
    (h : ∀ h' tk' m' b₉ x' on', Ext b' b₉ → Fx b₉ L h' m' (ownL dn (L + 1) DM DC DT DA on' o1 number tv ms cs ts as' n1 n2 n3 n4' it) → Deed prog w dn DM DC DT DA x' b₉ m' on' (N0 + 70) (K0 + 70) → Q .next ⟨h', gs, dr, tk', os⟩) :
    wpAny (model prog w) A (execs (ifThen (nth (turnStmts w) 9)) (lawEnv w L)) Q E ⟨hp, gs, dr, tk, os⟩ := by
  obtain ⟨q1, q2, q3, q4, q7, q5, xs, ns, kvs, tc, q6, V, hxs, hNN, hon, htab, hKK⟩ := id DD
  refine execs_of (l' := [Stmt.For _ _ _ _ _]) (env' := envX _ _ L _ _ _) (by with_unfolding_all rfl) (by with_unfolding_all rfl) ?_
  walk_at "rc"
  refine wpAny_For ?_
  walk_at "rc"
  refine x_mod (by decide) ?_
  walk_at "rc"
  obtain ⟨nn, hnn1, hnn2⟩ : ∃ nn : Nat, 1 + rest.fmod 12 = nn ∧ nn ≤ 12 := by
    have := fm_in rest (c := 12) (by decide)
    exact ⟨(1 + rest.fmod 12).toNat, by (clear hms9 has9 hN0 hK0 hr hroom hh q1 q2 q3 q4 q7 q5 q6 hNN hKK; omega), by (clear hms9 has9 hN0 hK0 hr hroom hh q1 q2 q3 q4 q7 q5 q6 hNN hKK; omega)⟩
  rw [hnn1]
  refine rg1 F ?_
  clear F; intro rg h23 t23 v23 tk23 F _
  have hrg := F.head
  replace F := F.drop
  refine for_rangeG F hrg (rsmall (by decide) (by (clear hms9 has9 hN0 hK0 hr hroom hh q1 q2 q3 q4 q7 q5 q6 hNN hKK hnn1 hrg; omega)) (by decide) (by decide)) (range0_size nn) hh (fun k b'' m'' own'' => ∃ x' on', own'' = ownL dn (L + 1) DM DC DT DA on' o1 number tv ms cs ts as' n1 n2 n3 n4' it ∧ Deed prog w dn DM DC DT DA x' b'' m'' on' (N0 + k) (K0 + k)) ⟨x, on, rfl, DD⟩ ?_ ?_
  · clear F
    rintro k tv2 b₁ m₃ own₃ h24 tk24 it2 E₃ E₄ hit2 hk ⟨x', on', rfl, ⟨r1, r2, r3, r4, r7, r5, xs', ns', kvs', t6, r6, V', hxs', hN, hon', htab', hK⟩⟩ e₆ F
    replace T := T.up e₆
    have hx2 := hxs'.length
    replace F : Fx b₁ L h24 m₃ (ownL dn (L + 1) DM DC DT DA on' o1 number tv ms cs ts as' n1 n2 n3 n4' (it ++ it2)) := F
    have hit3 : ∀ p ∈ it ++ it2, ∃ vs, p.2.data = .fields vs := fun p hp => (List.mem_append.mp hp).elim (hit p) (hit2 p)
    refine wpAny_assign_Name ?_
    walk_at "rc"
    obtain ⟨dx', _, _, _, _, _, _, _, _, hx', hdx', _⟩ := V'.len
    refine gm_append (T.up F.keep).X (F.keep _ _ hx') (F.keep _ _ hdx') ?_
    refine cw_fn T (by kernel_rfl) ?_
    walk_at "rc"
    refine ⟨F.keep, ?_⟩
    refine append_vec (T.up F.keep) (V'.up F.keep) (by (clear hms9 has9 hK0 hr hroom hh q1 q2 q3 q4 q7 q5 q6 hNN hKK hnn1 hrg r1 r2 r3 r4 r7 r5 r6 hK hx' hdx'; omega)) (by first | (exact Nat.lt_of_lt_of_le hroom (by decide)) | walk_at "room") hh ?_
    intro x2 h25 tk25 e25 V2 hnt
    obtain ⟨b₂, e₇, F₂, V2⟩ := F.takeVec [dn, DM, DC, DT, DA] e25 V' V2 (hxs'.append (.cons _ _ .nil)) hnt (y := Str.ofString "made") (by walk_at "look2") (own_ho hit3) own_hex (own_aside VV e₆ F hms9 has' has9.1 has9.2 hon')
    clear F
    have F := F₂; clear F₂
    replace T := T.up e₇
    walk_at "rc"
    refine wpAny_Assign_Subscript ?_ (by with_unfolding_all rfl)
    walk_at "rc"
    refine dc_set F hon' (by (clear hms9 has9 hN0 hr hroom hh q1 q2 q3 q4 q7 q5 q6 hNN hKK hnn1 hrg r1 r2 r3 r4 r7 r5 r6 hN hx2 hx' hdx'; omega)) ?_
    clear F; intro h26 on2 hon2 F
    walk_at "rc"
    refine ⟨_, _, b₂, _, ownL dn (L + 1) DM DC DT DA on2 o1 number tv ms cs ts as' n1 n2 n3 n4' it, rfl, e₇, F, x2, on2, rfl, ⟨by walk_at "look2", by walk_at "look2", by walk_at "look2", by walk_at "look2", by walk_at "look2", by walk_at "look2", _, ns' ++ [_], _, _, (by rw [List.length_append, Int.natCast_add]; walk_at "look2"), V2, hxs'.append (.cons _ _ .nil), by simp; exact Nat.lt_succ_of_le hN, hon2, htab'.snoc, Nat.le_trans stored_len (by exact Nat.lt_succ_of_le hK)⟩⟩
  · rintro h24 tk24 b₁ m₃ own₃ ⟨x', on', rfl, D'⟩ e₆ F
    walk_at "rc"
    obtain ⟨r1, r2, r3, r4, r7, r5, xs', ns', kvs', t6, r6, V', hxs', hN, hon', htab', hK⟩ := D'
    exact h _ _ _ b₁ x' on' e₆ F ⟨r1, r2, r3, r4, r7, r5, xs', ns', kvs', t6, r6, V', hxs', by exact Nat.le_trans hN (Nat.add_le_add_left (Nat.le_trans hnn2 (by decide)) _), hon', htab', by exact Nat.le_trans hK (Nat.add_le_add_left (Nat.le_trans hnn2 (by decide)) _)⟩
end
section
variable {prog : Program} {w : World} {A : Around} {E : Value → Shared → Prop} {hp : Heap} {gs : Array GenState} {dr : Drawn} {tk : Nat} {os : OsState} {mg mb : Str → Option Value}
set_option maxHeartbeats 4000000 in
/-- the second deed: some items appended at once -/
theorem deed1 {Q : Flow → Shared → Prop} {b' : Heap} {L dn DM DC DT DA x : Addr} {m : Str → Option Value} {on o1 : Obj} {number rest : Int} {tv tr : Tok} {ms cs ts as' : List Value} {n1 n2 n3 n4' sz K N0 K0 : Nat} {it : List (Addr × Obj)} {zs' : List Int} (T : Tp (KK w) mg mb b') (F : Fx b' L hp m (ownL dn (L + 1) DM DC DT DA on o1 number tv ms cs ts as' n1 n2 n3 n4' it)) (hit : ∀ p ∈ it, ∃ vs, p.2.data = .fields vs)
    (VV : Vers prog w b' sz K ms cs ts) (hms9 : ms.length ≤ 30) (has' : IntsAre as' zs') (has9 : 0 < as'.length ∧ as'.length ≤ 30) (DD : Deed prog w dn DM DC DT DA x b' m on N0 K0) (hN0 : N0 ≤ 39800) (hK0 : K0 ≤ 100000) (hr : m (Str.ofString "rest") = some (.int rest tr)) (hroom : A.depth < 320) (hh : A.handled = none)
    (h : ∀ h' tk' m' b₉ x' on', Ext b' b₉ → Fx b₉ L h' m' (ownL dn (L + 1) DM DC DT DA on' o1 number tv ms cs ts as' n1 n2 n3 n4' it) → Deed prog w dn DM DC DT DA x' b₉ m' on' (N0 + 70) (K0 + 70) → Q .next ⟨h', gs, dr, tk', os⟩) :
    wpAny (model prog w) A (execs (ifThen (nth (ifElse (nth (turnStmts w) 9)) 0)) (lawEnv w L)) Q E ⟨hp, gs, dr, tk, os⟩ := by
  obtain ⟨q1, q2, q3, q4, q7, q5, xs, ns, kvs, tc, q6, V, hxs, hNN, hon, htab, hKK⟩ := id DD
  have hx1 := hxs.length
  refine execs_of (l' := [Stmt.Assign _ _ _, Stmt.Assign _ _ _, Stmt.For _ _ _ _ _]) (env' := envX _ _ L _ _ _) (by with_unfolding_all rfl) (by with_unfolding_all rfl) ?_
  walk_at "rc"
  obtain ⟨nn, hnn1, hnn2⟩ : ∃ nn : Nat, rest.fmod 70 = nn ∧ nn < 70 := by
    have := fm_in rest (c := 70) (by decide)
    exact ⟨(rest.fmod 70).toNat, by (clear hms9 has9 hN0 hK0 hr hroom hh q1 q2 q3 q4 q7 q5 q6 hNN hKK hx1; omega), by (clear hms9 has9 hN0 hK0 hr hroom hh q1 q2 q3 q4 q7 q5 q6 hNN hKK hx1; omega)⟩
  refine comp_range_asg (fun j => number - j) hh (by with_unfolding_all rfl) (cl := [(Str.ofString "number", L + 1)]) (by with_unfolding_all rfl) (by decide +kernel) rfl (by decide +kernel) rfl (by intro _; rfl) (by with_unfolding_all rfl) (by with_unfolding_all rfl) ?_
  walk_at "rc"
  refine x_mod (by decide) ?_
  rw [hnn1]
  walk_at "rc"
  refine rg1 F ?_
  clear F; intro rg h21 t26 t27 tk26 F e21
  refine ⟨rg, 0, nn, 1, _, _, _, nn, _, _, L, _, _, _, _, _, _, rfl, rfl, rfl, F.head, rsmall (by decide) (by (clear hms9 has9 hN0 hK0 hr hroom hh q1 q2 q3 q4 q7 q5 q6 hNN hKK hx1 hnn1; omega)) (by decide) (by decide), range0_size nn, by exact Nat.le_of_lt (Nat.lt_of_lt_of_le hnn2 (by decide)), F, fun C k t h₃ tk m₃ E' hn hm e => ?_, ?_⟩
  · refine wpAny_BinOp ?_
    refine c_cell (c := L + 1) (by with_unfolding_all rfl) (e _ _ F.head3) ?_
    refine c_loc hn hm ?_
    walk_at "e"
    exact ⟨⟨_, rfl⟩, h₃, _, rfl, .rfl'⟩
  clear F; intro Dt ct ys h22 tk22 F hys
  have hyl := hys.length
  simp only [rangeL, List.length_map, List.length_range] at hyl
  generalize ((rangeL 0 1 nn).map fun j => number - j) = zz at hys
  obtain ⟨b₁, e₁, F₁, hDt⟩ := F.sink
  clear F
  have F := F₁.drop; clear F₁
  replace T := T.up e₁
  replace V := V.up e₁
  replace VV := VV.up e₁ (Nat.le_refl _)
  walk_at "rc"
  obtain ⟨dx, _, _, _, _, _, _, _, _, hx, hdx, _⟩ := V.len
  refine gm_extend (T.up F.keep).X (F.keep _ _ hx) (F.keep _ _ hdx) ?_
  refine cw_fn T (by kernel_rfl) ?_
  walk_at "rc"
  refine ⟨F.keep, ?_⟩
  refine extend5 (P := fun vs => vs = ys) (T.up F.keep) (V.up F.keep) (.inl ⟨Dt, ys, _, rfl, F.keep _ _ hDt, by exact Nat.le_trans (Nat.le_of_eq hyl) (Nat.le_trans (Nat.le_of_lt hnn2) (by decide)), rfl⟩) ⟨by (clear hms9 has9 hK0 hr hroom hh q1 q2 q3 q4 q7 q5 q6 hKK hnn1 hnn2 hyl hDt hx hdx; omega), fun vs hv => by rw [hv]; (clear hms9 has9 hK0 hr hroom hh q1 q2 q3 q4 q7 q5 q6 hKK hnn1 hDt hx hdx hv; omega)⟩ (by first | (exact Nat.lt_of_lt_of_le hroom (by decide)) | walk_at "room") hh ?_
  rintro x2 vs h25 tk25 e25 rfl V2 hnt
  obtain ⟨b₂, e₂, F₂, V2⟩ := F.takeVec [dn, DM, DC, DT, DA] e25 V V2 (hxs.append hys) hnt (y := Str.ofString "made") (by walk_at "look2") (own_ho hit) own_hex (own_aside VV .rfl' F hms9 has' has9.1 has9.2 hon)
  clear F
  have F := F₂; clear F₂
  replace T := T.up e₂
  replace hDt := e₂ _ _ hDt
  walk_at "rc"
  refine wpAny_For ?_
  walk_at "rc"
  refine for_listG F hDt hh (fun k b'' m'' own'' => ∃ on' kvs' t', own'' = ownL dn (L + 1) DM DC DT DA on' o1 number tv ms cs ts as' n1 n2 n3 n4' it ∧ m'' (Str.ofString "made") = some (.ref DM) ∧ m'' (Str.ofString "counts") = some (.ref DC) ∧ m'' (Str.ofString "tables") = some (.ref DT) ∧ m'' (Str.ofString "asked") = some (.ref DA) ∧ m'' (Str.ofString "changes") = some (.ref dn) ∧ m'' (Str.ofString "vector") = some (.ref x2) ∧
    m'' (Str.ofString "count") = some (.int ((ns ++ zz.take k).length : Nat) t') ∧ DK prog w on' kvs' ∧ TabOk kvs' (ns ++ zz.take k) ∧ kvs'.length ≤ K0 + k) ⟨on, kvs, tc, rfl, by walk_at "look2", by walk_at "look2", by walk_at "look2", by walk_at "look2", by walk_at "look2", by walk_at "look2", by rw [List.take_zero, List.append_nil]; walk_at "look2", hon, by rw [List.take_zero, List.append_nil]; exact htab, by exact hKK⟩ ?_ ?_
  · clear F
    rintro k v b₃ m₃ own₃ h26 tk26 it2 E₃ E₄ hit2 hk hv ⟨on', kvs', t', rfl, r1, r2, r3, r4, r7, r5, r6, hon', htab', hK⟩ e₆ F
    replace T := T.up e₆
    replace F : Fx b₃ L h26 m₃ (ownL dn (L + 1) DM DC DT DA on' o1 number tv ms cs ts as' n1 n2 n3 n4' (it ++ it2)) := F
    have hkz : k < zz.length := by rw [← hys.length]; exact hk
    obtain ⟨z, tz, rfl, hz⟩ : ∃ z tz, v = .int z tz ∧ zz[k]? = some z := by
      obtain ⟨t, ht⟩ := hys.get k zz[k] (List.getElem?_eq_getElem hkz)
      rw [ht] at hv
      exact ⟨_, t, (Option.some.inj hv).symm, List.getElem?_eq_getElem hkz⟩
    have htake : zz.take (k + 1) = zz.take k ++ [z] := by rw [List.take_add_one, hz]; rfl
    refine wpAny_assign_Name ?_
    walk_at "rc"
    refine wpAny_Assign_Subscript ?_ (by with_unfolding_all rfl)
    walk_at "rc"
    refine dc_set F hon' (by (clear hms9 has9 hN0 hr hroom hh q1 q2 q3 q4 q7 q5 q6 hNN hKK hx1 hnn1 hx hdx hDt r1 r2 r3 r4 r7 r5 r6 hkz hz hv htake; omega)) ?_
    clear F; intro h27 on2 hon2 F
    walk_at "rc"
    refine ⟨_, _, b₃, _, ownL dn (L + 1) DM DC DT DA on2 o1 number tv ms cs ts as' n1 n2 n3 n4' it, rfl, .rfl', F, on2, _, _, rfl, by walk_at "look2", by walk_at "look2", by walk_at "look2", by walk_at "look2", by walk_at "look2", by walk_at "look2", (by rw [htake, ← List.append_assoc, List.length_append (bs := [z]), Int.natCast_add]; walk_at "look2"), hon2, ?_, Nat.le_trans stored_len (by exact Nat.lt_succ_of_le hK)⟩
    · rw [htake, ← List.append_assoc]
      exact htab'.snoc
  · rintro h26 tk26 b₃ m₃ own₃ ⟨on', kvs', t', rfl, r1, r2, r3, r4, r7, r5, r6, hon', htab', hK⟩ e₆ F
    walk_at "rc"
    have hyl2 := hys.length
    rw [hyl2, List.take_length] at r6 htab'
    exact h _ _ _ b₃ x2 on' (e₁.trans (e₂.trans e₆)) F ⟨r1, r2, r3, r4, r7, r5, _, _, kvs', t', r6, V2.up e₆, hxs.append hys, by rw [List.length_append]; (clear hms9 has9 hN0 hK0 hr hroom hh q1 q2 q3 q4 q7 q5 q6 hKK hx1 hnn1 hx hdx hDt r1 r2 r3 r4 r7 r5 r6 hK; omega), hon', htab', by (clear hms9 has9 hN0 hK0 hr hroom hh q1 q2 q3 q4 q7 q5 q6 hNN hKK hx1 hnn1 hx hdx hDt r1 r2 r3 r4 r7 r5 r6 hyl2; omega)⟩
end
section
variable {prog : Program} {w : World} {A : Around} {E : Value → Shared → Prop} {hp : Heap} {gs : Array GenState} {dr : Drawn} {tk : Nat} {os : OsState} {mg mb : Str → Option Value}
set_option maxHeartbeats 4000000 in
/-- the third deed's end: behind the check that IndexError came where it should -/
theorem deed2_end {Q : Flow → Shared → Prop} {b₉ : Heap} {L dn DM DC DT DA x' : Addr} {m₂ : Str → Option Value} {on o1 : Obj} {number j : Int} {tv tj' tc' : Tok} {ms cs ts as' xs' : List Value} {n1 n2 n3 n4' N0 K0 : Nat} {it : List (Addr × Obj)} {ns ns' : List Int} {kvs : List (Int × Value)} {rf : Bool} (T : Tp (KK w) mg mb b₉) (F : Fx b₉ L hp m₂ (ownL dn (L + 1) DM DC DT DA on o1 number tv ms cs ts as' n1 n2 n3 n4' it))
    (r1 : m₂ (Str.ofString "made") = some (.ref DM)) (r2 : m₂ (Str.ofString "counts") = some (.ref DC)) (r3 : m₂ (Str.ofString "tables") = some (.ref DT)) (r4 : m₂ (Str.ofString "asked") = some (.ref DA)) (r7 : m₂ (Str.ofString "changes") = some (.ref dn)) (r5 : m₂ (Str.ofString "vector") = some (.ref x')) (r6 : m₂ (Str.ofString "count") = some (.int ns.length tc')) (r9 : m₂ (Str.ofString "spot") = some (.int j tj')) (r10 : m₂ (Str.ofString "refused") = some (.bool rf))
    (V' : VecAt b₉ x' xs') (hi' : IntsAre xs' ns') (hNN : ns.length ≤ N0) (hK0 : K0 ≤ 100000) (hon : DK prog w on kvs) (htab : TabOk kvs ns) (hKK : kvs.length ≤ K0) (hcase : rf = false ∧ 0 ≤ j ∧ j < ns.length ∧ ns' = ns.set j.toNat number ∨ rf = false ∧ j = ns.length ∧ ns' = ns ++ [number] ∨ rf = true ∧ (j < 0 ∨ ns.length < j))
    (h : ∀ h' tk' m' on', Fx b₉ L h' m' (ownL dn (L + 1) DM DC DT DA on' o1 number tv ms cs ts as' n1 n2 n3 n4' it) → Deed prog w dn DM DC DT DA x' b₉ m' on' (N0 + 70) (K0 + 70) → Q .next ⟨h', gs, dr, tk', os⟩)
    (hc : ∀ h' tk' m', Fx b₉ L h' m' (ownL dn (L + 1) DM DC DT DA on o1 number tv ms cs ts as' n1 n2 n3 n4' it) → m' (Str.ofString "made") = some (.ref DM) → m' (Str.ofString "counts") = some (.ref DC) → m' (Str.ofString "tables") = some (.ref DT) → m' (Str.ofString "asked") = some (.ref DA) → Q .cont ⟨h', gs, dr, tk', os⟩) :
    wpAny (model prog w) A (execs ((ifElse (nth (ifElse (nth (turnStmts w) 9)) 0)).drop 3) (lawEnv w L)) Q E ⟨hp, gs, dr, tk, os⟩ := by
  refine execs_of (l' := [_, _, _]) (env' := envX _ _ L _ _ _) (by with_unfolding_all rfl) (by with_unfolding_all rfl) ?_
  refine s_cons ?_
  refine wpAny_If ?_
  walk_at "rc"
  rcases hcase with ⟨rfl, g1, g2, rfl⟩ | ⟨rfl, g1, rfl⟩ | ⟨rfl, g1⟩
  · rw [if_neg (by decide)]
    walk_at "rc"
    obtain ⟨jn, rfl⟩ := Int.eq_ofNat_of_zero_le g1
    refine wpAny_Assign_Subscript ?_ (by with_unfolding_all rfl)
    walk_at "rc"
    refine dc_set F hon (by exact Nat.le_trans (Nat.le_trans hKK hK0) (by decide)) ?_
    clear F; intro h26 on2 hon2 F
    walk_at "rc"
    rw [if_neg (by simp; omega)]
    walk_at "rc"
    exact h _ _ _ on2 F ⟨by walk_at "look2", by walk_at "look2", by walk_at "look2", by walk_at "look2", by walk_at "look2", by walk_at "look2", _, _, _, _, (by rw [List.length_set]; walk_at "look2"), V', hi', by rw [List.length_set]; exact Nat.le_trans hNN (Nat.le_add_right _ _), hon2, htab.set (by exact Int.ofNat_lt.mp g2), Nat.le_trans stored_len (by omega)⟩
  · rw [if_neg (by decide)]
    walk_at "rc"
    subst g1
    refine wpAny_Assign_Subscript ?_ (by with_unfolding_all rfl)
    walk_at "rc"
    refine dc_set F hon (by exact Nat.le_trans (Nat.le_trans hKK hK0) (by decide)) ?_
    clear F; intro h26 on2 hon2 F
    walk_at "rc"
    rw [if_pos (by simp)]
    walk_at "rc"
    exact h _ _ _ on2 F ⟨by walk_at "look2", by walk_at "look2", by walk_at "look2", by walk_at "look2", by walk_at "look2", by walk_at "look2", _, _, _, _, (by rw [List.length_append, Int.natCast_add]; walk_at "look2"), V', hi', by rw [List.length_append]; simp; exact Nat.le_trans hNN (Nat.le_add_right _ _), hon2, htab.snoc, Nat.le_trans stored_len (by omega)⟩
  · rw [if_pos rfl]
    walk_at "rc"
    refine wpAny_Continue (nx_cont ?_)
    exact hc _ _ _ F (by walk_at "look2") (by walk_at "look2") (by walk_at "look2") (by walk_at "look2")
set_option maxHeartbeats 4000000 in
/-- the third deed: an item laid anew, or one behind the end, or IndexError -/
theorem deed2 {Q : Flow → Shared → Prop} {b' : Heap} {L dn DM DC DT DA x : Addr} {m : Str → Option Value} {on o1 : Obj} {number place : Int} {tv tp : Tok} {ms cs ts as' : List Value} {n1 n2 n3 n4' sz K N0 K0 : Nat} {it : List (Addr × Obj)} {zs' : List Int} (T : Tp (KK w) mg mb b') (F : Fx b' L hp m (ownL dn (L + 1) DM DC DT DA on o1 number tv ms cs ts as' n1 n2 n3 n4' it)) (hit : ∀ p ∈ it, ∃ vs, p.2.data = .fields vs)
    (VV : Vers prog w b' sz K ms cs ts) (hms9 : ms.length ≤ 30) (has' : IntsAre as' zs') (has9 : 0 < as'.length ∧ as'.length ≤ 30) (DD : Deed prog w dn DM DC DT DA x b' m on N0 K0) (hN0 : N0 ≤ 39800) (hK0 : K0 ≤ 100000) (hpl : m (Str.ofString "place") = some (.int place tp)) (hp1 : -100000 ≤ place) (hp2 : place ≤ 100000) (hroom : A.depth < 312) (hh : A.handled = none) (hfr : A.frames = some [lawEnv w L])
    (h : ∀ h' tk' m' b₉ x' on', Ext b' b₉ → Fx b₉ L h' m' (ownL dn (L + 1) DM DC DT DA on' o1 number tv ms cs ts as' n1 n2 n3 n4' it) → Deed prog w dn DM DC DT DA x' b₉ m' on' (N0 + 70) (K0 + 70) → Q .next ⟨h', gs, dr, tk', os⟩)
    (hc : ∀ h' tk' m' b₉, Ext b' b₉ → Fx b₉ L h' m' (ownL dn (L + 1) DM DC DT DA on o1 number tv ms cs ts as' n1 n2 n3 n4' it) → m' (Str.ofString "made") = some (.ref DM) → m' (Str.ofString "counts") = some (.ref DC) → m' (Str.ofString "tables") = some (.ref DT) → m' (Str.ofString "asked") = some (.ref DA) → Q .cont ⟨h', gs, dr, tk', os⟩) :
    wpAny (model prog w) A (execs (ifElse (nth (ifElse (nth (turnStmts w) 9)) 0)) (lawEnv w L)) Q E ⟨hp, gs, dr, tk, os⟩ := by
  obtain ⟨q1, q2, q3, q4, q7, q5, xs, ns, kvs, tc, q6, V, hxs, hNN, hon, htab, hKK⟩ := id DD
  have hx1 := hxs.length
  refine execs_of (l' := [_, _, _, _, _, _]) (env' := envX _ _ L _ _ _) (by with_unfolding_all rfl) (by with_unfolding_all rfl) ?_
  walk_at "rc"
  refine wpAny_mono (Q := fun u s' => ∃ j t tk', u = .int j t ∧ j = (if place < 0 then place + (ns.length : Int) else place) ∧ s' = ⟨hp, gs, dr, tk', os⟩) ?_ ?_ fun _ _ z => z
  · refine wpAny_IfExp ?_
    walk_at "rc"
    by_cases hneg : place < 0
    · rw [decide_eq_true hneg, if_pos rfl]
      walk_at "rc"
      exact ⟨_, _, _, rfl, by rw [if_pos hneg], rfl⟩
    · rw [decide_eq_false hneg, if_neg (by decide)]
      walk_at "rc"
      exact ⟨_, _, _, rfl, by rw [if_neg hneg], rfl⟩
  rintro u s' ⟨j, tj, tk', rfl, hj, rfl⟩
  walk_at "rc"
  refine wpAny_mono (Q := fun f s' => f = .next ∧ ∃ h' tk' m' b₉ x' xs' ns' rf tj' tp' tc', s' = ⟨h', gs, dr, tk', os⟩ ∧ Ext b' b₉ ∧ Fx b₉ L h' m' (ownL dn (L + 1) DM DC DT DA on o1 number tv ms cs ts as' n1 n2 n3 n4' it) ∧
    (m' (Str.ofString "made") = some (.ref DM) ∧ m' (Str.ofString "counts") = some (.ref DC) ∧ m' (Str.ofString "tables") = some (.ref DT) ∧ m' (Str.ofString "asked") = some (.ref DA) ∧ m' (Str.ofString "changes") = some (.ref dn) ∧ m' (Str.ofString "vector") = some (.ref x') ∧ m' (Str.ofString "count") = some (.int ns.length tc') ∧ m' (Str.ofString "place") = some (.int place tp') ∧ m' (Str.ofString "spot") = some (.int j tj') ∧ m' (Str.ofString "refused") = some (.bool rf)) ∧
    VecAt b₉ x' xs' ∧ IntsAre xs' ns' ∧ (rf = false ∧ 0 ≤ j ∧ j < ns.length ∧ ns' = ns.set j.toNat number ∨ rf = false ∧ j = ns.length ∧ ns' = ns ++ [number] ∨ rf = true ∧ (j < 0 ∨ ns.length < j))) ?_ ?_ fun _ _ z => z
  · refine wpAny_Try_except ?_
    walk_at "rc"
    obtain ⟨dx, _, _, _, _, _, _, _, _, hx, hdx, _⟩ := V.len
    refine gm_set (T.up F.keep).X (F.keep _ _ hx) (F.keep _ _ hdx) ?_
    refine cw_fn T (by kernel_rfl) ?_
    walk_at "rc"
    refine ⟨F.keep, ?_⟩
    refine set_vec (base := hideAll hq [L]) (T.up F.keep) (V.up F.keep) (by (clear hms9 has9 hK0 hpl hp1 hp2 hroom hh hfr q1 q2 q3 q4 q7 q5 q6 hKK hj hx hdx; omega)) hp1 hp2 (by first | (exact Nat.lt_of_lt_of_le hroom (by decide)) | walk_at "room") hh hfr (fun _ _ e => of_hideAll _ e) (frames_of F (kind_law w) (hideAll_none _ (.head _)) trivial) ?_ ?_ ?_
    · intro x2 h25 tk25 g1 g2 e25 V2 hnt
      rw [hx1, ← hj] at g1 g2 V2
      have hi2 := ints_set hxs j.toNat number tv
      obtain ⟨b₂, e₂, F₂, V2⟩ := F.takeVec [dn, DM, DC, DT, DA] e25 V V2 hi2 hnt (y := Str.ofString "made") (by walk_at "look2") (own_ho hit) own_hex (own_aside VV .rfl' F hms9 has' has9.1 has9.2 hon)
      clear F
      have F := F₂; clear F₂
      walk_at "rc"
      exact ⟨rfl, _, _, _, b₂, x2, _, _, false, _, _, _, rfl, e₂, F, ⟨by walk_at "look2", by walk_at "look2", by walk_at "look2", by walk_at "look2", by walk_at "look2", by walk_at "look2", by walk_at "look2", by walk_at "look2", by walk_at "look2", by walk_at "look2"⟩, V2, hi2, .inl ⟨rfl, g1, g2, rfl⟩⟩
    · intro x2 h25 tk25 g1 e25 V2 hnt
      rw [hx1, ← hj] at g1
      have hi2 := hxs.append (.cons number tv .nil)
      obtain ⟨b₂, e₂, F₂, V2⟩ := F.takeVec [dn, DM, DC, DT, DA] e25 V V2 hi2 hnt (y := Str.ofString "made") (by walk_at "look2") (own_ho hit) own_hex (own_aside VV .rfl' F hms9 has' has9.1 has9.2 hon)
      clear F
      have F := F₂; clear F₂
      walk_at "rc"
      exact ⟨rfl, _, _, _, b₂, x2, _, _, false, _, _, _, rfl, e₂, F, ⟨by walk_at "look2", by walk_at "look2", by walk_at "look2", by walk_at "look2", by walk_at "look2", by walk_at "look2", by walk_at "look2", by walk_at "look2", by walk_at "look2", by walk_at "look2"⟩, V2, hi2, .inr (.inl ⟨rfl, g1, rfl⟩)⟩
    · intro e h25 tk25 g1 th
      rw [hx1, ← hj] at g1
      refine caught F T (fun c o q => hideAll_get _ (F.keep c o q) (fun z => by rw [List.mem_singleton.mp z, F.lout] at q; cases q)) (fun p hp => hideAll_get _ (F.has p hp) (fun z => F.notL hp (List.mem_singleton.mp z))) hfr th (by kernel_rfl) (by kernel_rfl) (by decide) Rz.ie1 Rz.ie2 Rz.ie3 ?_
      clear F
      intro h28 tk28 E'' F _ _ _
      walk_at "rc"
      exact ⟨rfl, _, _, _, b', x, _, _, true, _, _, _, rfl, .rfl', F, ⟨by walk_at "look2", by walk_at "look2", by walk_at "look2", by walk_at "look2", by walk_at "look2", by walk_at "look2", by walk_at "look2", by walk_at "look2", by walk_at "look2", by walk_at "look2"⟩, V, hxs, .inr (.inr ⟨rfl, g1⟩)⟩
  clear F
  rintro f s' ⟨rfl, h6, tk6, m₂, b₉, x', xs', ns', rf, tj', tp', tc', rfl, e₉, F, ⟨r1, r2, r3, r4, r7, r5, r6, r8, r9, r10⟩, V', hi', hcase⟩
  replace T := T.up e₉
  refine nx_next ?_
  refine s_cons ?_
  refine wpAny_If ?_
  walk_at "rc"
  have hrf : rf = (decide ((ns.length : Int) < place) || decide (j < 0)) := by
    rcases hcase with ⟨rfl, g1, g2, _⟩ | ⟨rfl, g1, _⟩ | ⟨rfl, g1⟩
    · rw [decide_eq_false (by split at hj <;> omega), decide_eq_false (by exact Int.not_lt.mpr g1)]; rfl
    · rw [decide_eq_false (by split at hj <;> omega), decide_eq_false (by (clear hms9 has9 hN0 hK0 hpl hp1 hp2 hroom hh hfr q1 q2 q3 q4 q7 q5 q6 hNN hKK hx1 hj r1 r2 r3 r4 r7 r5 r6 r8 r9 r10; omega))]; rfl
    · by_cases g : (ns.length : Int) < place
      · rw [decide_eq_true g]; rfl
      · rw [decide_eq_false g, decide_eq_true (by split at hj <;> omega)]; rfl
  by_cases hgt : (ns.length : Int) < place
  · rw [decide_eq_true hgt] at hrf ⊢
    rw [if_pos rfl]
    refine ne_bool ?_
    walk_at "rc"
    rw [if_neg (by rw [hrf]; simp)]
    refine wpAny_execs_nil ?_
    refine nx_next ?_
    refine execs_of (l' := (ifElse (nth (ifElse (nth (turnStmts w) 9)) 0)).drop 3) (env' := lawEnv w L) (by with_unfolding_all rfl) (by with_unfolding_all rfl) ?_
    exact deed2_end T F r1 r2 r3 r4 r7 r5 r6 r9 r10 V' hi' hNN hK0 hon htab hKK hcase (fun h' tk' m' on' F D => h h' tk' m' b₉ x' on' e₉ F D) (fun h' tk' m' F a b c d => hc h' tk' m' b₉ e₉ F a b c d)
  · rw [decide_eq_false hgt] at hrf ⊢
    rw [if_neg (by decide)]
    walk_at "rc"
    refine ne_bool ?_
    walk_at "rc"
    rw [if_neg (by rw [hrf]; simp)]
    refine wpAny_execs_nil ?_
    refine nx_next ?_
    refine execs_of (l' := (ifElse (nth (ifElse (nth (turnStmts w) 9)) 0)).drop 3) (env' := lawEnv w L) (by with_unfolding_all rfl) (by with_unfolding_all rfl) ?_
    exact deed2_end T F r1 r2 r3 r4 r7 r5 r6 r9 r10 V' hi' hNN hK0 hon htab hKK hcase (fun h' tk' m' on' F D => h h' tk' m' b₉ x' on' e₉ F D) (fun h' tk' m' F a b c d => hc h' tk' m' b₉ e₉ F a b c d)
end
section
variable {prog : Program} {w : World} {A : Around} {E : Value → Shared → Prop} {hp : Heap} {gs : Array GenState} {dr : Drawn} {tk : Nat} {os : OsState} {mg mb : Str → Option Value}
set_option maxHeartbeats 8000000 in
/-- a turn of the law's loop -/
theorem turn_spec {Q : Flow → Shared → Prop} {b' : Heap} {L DM DC DT DA : Addr} {m₁ : Str → Option Value} {o1 : Obj} {number : Int} {tv : Tok} {ms cs ts as : List Value} {n1 n2 n3 n4 sz K : Nat} {it : List (Addr × Obj)} {zs : List Int} (T : Tp (KK w) mg mb b') (F : Fx b' L hp m₁ ((L + 1, CX o1 (some (.int number tv))) :: ([(DM, LO ms n1), (DC, LO cs n2), (DT, LO ts n3), (DA, LO as n4)] ++ it))) (hit : ∀ p ∈ it, ∃ vs, p.2.data = .fields vs)
    (mmade : m₁ (Str.ofString "made") = some (.ref DM)) (mcounts : m₁ (Str.ofString "counts") = some (.ref DC)) (mtables : m₁ (Str.ofString "tables") = some (.ref DT)) (masked : m₁ (Str.ofString "asked") = some (.ref DA)) (VV : Vers prog w b' sz K ms cs ts) (hml : ms.length ≤ 20) (has : IntsAre as zs) (hai : as.length ≤ 20) (haz : ∀ z ∈ zs, -100000 ≤ z ∧ z ≤ 100000) (hszK : sz + K ≤ 39800) (hKb : K ≤ 50000)
    (hroom : A.depth < 312) (hh : A.handled = none) (hfr : A.frames = some [lawEnv w L])
    (h : ∀ f h' tk' m' b₉ ms' cs' ts' as' zs' n1' n2' n3' n4', (f = .next ∨ f = .cont) → Ext b' b₉ → Fx b₉ L h' m' ((L + 1, CX o1 (some (.int number tv))) :: ([(DM, LO ms' n1'), (DC, LO cs' n2'), (DT, LO ts' n3'), (DA, LO as' n4')] ++ it)) →
      m' (Str.ofString "made") = some (.ref DM) → m' (Str.ofString "counts") = some (.ref DC) → m' (Str.ofString "tables") = some (.ref DT) → m' (Str.ofString "asked") = some (.ref DA) → Vers prog w b₉ sz (K + 100) ms' cs' ts' → ms'.length ≤ ms.length + 1 → IntsAre as' zs' → as'.length = as.length + 1 → (∀ z ∈ zs', -100000 ≤ z ∧ z ≤ 100000) → Q f ⟨h', gs, dr, tk', os⟩) :
    wpAny (model prog w) A (execs (turnStmts w) (lawEnv w L)) Q E ⟨hp, gs, dr, tk, os⟩ := by
  refine execs_of (l' := [_, _, _, _, _, _, _, _, _, _, _, _, _]) (env' := envX _ _ L _ _ _) (by with_unfolding_all rfl) (by with_unfolding_all rfl) ?_
  walk_at "rc"
  refine x_fdiv (by decide) (by decide) ?_
  walk_at "rc"
  refine lc_len (F.has (DM, LO ms n1) (by walk_at "mem")) (by exact Nat.le_trans hml (by decide)) ?_
  intro t17 tk17
  walk_at "rc"
  have hpos := VV.pos
  refine x_mod (by (clear mmade mcounts mtables masked hml hai hszK hKb hroom hh hfr; omega)) ?_
  walk_at "rc"
  refine lc_len (F.has (DM, LO ms n1) (by walk_at "mem")) (by exact Nat.le_trans hml (by decide)) ?_
  intro t18 tk18
  walk_at "rc"
  refine x_fdiv (by (clear mmade mcounts mtables masked hml hai hszK hKb hroom hh hfr; omega)) (by exact Nat.lt_of_le_of_lt hml (by decide)) ?_
  walk_at "rc"
  obtain ⟨wi, hwi, hwl⟩ : ∃ wi : Nat, (number.fdiv 4).fmod (ms.length : Int) = wi ∧ wi < ms.length := by
    have := fm_in (number.fdiv 4) (c := (ms.length : Int)) (by exact Int.ofNat_lt.mpr hpos)
    exact ⟨((number.fdiv 4).fmod (ms.length : Int)).toNat, by omega, by (clear mmade mcounts mtables masked hml hai hszK hKb hroom hh hfr hpos; omega)⟩
  rw [hwi] at F ⊢
  obtain ⟨u1, u2, u3, y1, y2, y3, x, xs, ns, c, tc, d, od, kvs, rfl, rfl, rfl, V, hxs, rfl, hnl, hd, hod, hds, htab, hkl⟩ := VV.at hwl
  have hcl1 := VV.l1
  have hcl2 := VV.l2
  refine sub_list (F.has (DM, LO ms n1) (by walk_at "mem")) (by exact Int.natCast_nonneg _) (by (clear mmade mcounts mtables masked hai hszK hKb hroom hh hfr hpos hwi y1 y3 y2 hnl hd hds hkl hcl1 hcl2; omega)) (by rw [Int.toNat_natCast]; exact y1) ?_
  walk_at "rc"
  refine sub_list (F.has (DC, LO cs n2) (by walk_at "mem")) (by exact Int.natCast_nonneg _) (by (clear mmade mcounts mtables masked hai hszK hKb hroom hh hfr hpos hwi y1 y3 y2 hnl hd hds hkl hcl1 hcl2; omega)) (by rw [Int.toNat_natCast]; exact y2) ?_
  walk_at "rc"
  refine sub_list (F.has (DT, LO ts n3) (by walk_at "mem")) (by exact Int.natCast_nonneg _) (by (clear mmade mcounts mtables masked hai hszK hKb hroom hh hfr hpos hwi y1 y3 y2 hnl hd hds hkl hcl1 hcl2; omega)) (by rw [Int.toNat_natCast]; exact y3) ?_
  walk_at "rc"
  have F17 := F.keep
  refine dc_copy F (F.keep _ _ hd) hod hds (by exact Nat.le_trans (Nat.le_trans hkl hKb) (by decide)) ?_
  clear F; intro dn h19 on hbign hon F _
  have hdns := not_sys T F17 hbign
  clear F17
  walk_at "rc"
  generalize hrest : (number.fdiv 4).fdiv (ms.length : Int) = rest at F
  refine x_mul (mul_okR (by (clear mmade mcounts mtables masked hml hai hKb hroom hh hfr hpos hwi hwl y1 y3 y2 hd hds hkl hcl1 hcl2 hbign hdns hrest; omega))) ?_
  walk_at "rc"
  refine x_mod (by (clear mmade mcounts mtables masked hml hai hszK hKb hroom hh hfr hpos hwi hwl y1 y3 y2 hnl hd hds hkl hcl1 hcl2 hbign hdns hrest; omega)) ?_
  iterate 7 (first | walk_at "nm" | walk_at "e")
  have hplace := fm_in rest (c := 2 * (ns.length : Int) + 4) (by (clear mmade mcounts mtables masked hml hai hszK hKb hroom hh hfr hpos hwi hwl y1 y3 y2 hnl hd hds hkl hcl1 hcl2 hbign hdns hrest; omega))
  generalize rest.fmod (2 * (ns.length : Int) + 4) = pl at F hplace
  refine wpAny_mono (Q := fun f s' => f = .next ∧ ∃ h' tk' m' place tp tr, s' = ⟨h', gs, dr, tk', os⟩ ∧ Fx b' L h' m' ((dn, on) :: (L + 1, CX o1 (some (.int number tv))) :: ([(DM, LO ms n1), (DC, LO cs n2), (DT, LO ts n3), (DA, LO as n4)] ++ it)) ∧ -100000 ≤ place ∧ place ≤ 100000 ∧
    m' (Str.ofString "made") = some (.ref DM) ∧ m' (Str.ofString "counts") = some (.ref DC) ∧ m' (Str.ofString "tables") = some (.ref DT) ∧ m' (Str.ofString "asked") = some (.ref DA) ∧ m' (Str.ofString "vector") = some (.ref x) ∧ m' (Str.ofString "count") = some (.int ns.length tc) ∧ m' (Str.ofString "changes") = some (.ref dn) ∧ m' (Str.ofString "rest") = some (.int rest tr) ∧ m' (Str.ofString "place") = some (.int place tp)) ?_ ?_ fun _ _ z => z
  · refine wpAny_If ?_
    walk_at "rc"
    refine x_mod (by decide) ?_
    walk_at "rc"
    by_cases h3 : number.fmod 4 = 3
    · rw [if_pos (by simp [h3])]
      walk_at "rc"
      refine nl F ?_ (by simp)
      clear F; intro D6 h20 F _
      walk_at "rc"
      refine x_mod (by decide) ?_
      obtain ⟨k8, hk8, hk8l⟩ : ∃ k : Nat, rest.fmod 8 = k ∧ k < 8 := by
        have := fm_in rest (c := 8) (by decide)
        exact ⟨(rest.fmod 8).toNat, by (clear mmade mcounts mtables masked hml hai hszK hKb hroom hh hfr hpos hwi hwl y1 y3 y2 hnl hd hds hkl hcl1 hcl2 hbign hdns hrest hplace h3; omega), by (clear mmade mcounts mtables masked hml hai hszK hKb hroom hh hfr hpos hwi hwl y1 y3 y2 hnl hd hds hkl hcl1 hcl2 hbign hdns hrest hplace h3; omega)⟩
      rw [hk8]
      obtain ⟨pz, pt, hpz, hpz1, hpz2⟩ := pick_int (k := k8) (lo := -100000) (hi := 100000) F (by
        intro v hv
        simp only [List.mem_cons, List.not_mem_nil, or_false] at hv
        rcases hv with rfl | rfl | rfl | rfl | rfl | rfl | rfl | rfl <;> exact ⟨_, _, rfl, by (clear mmade mcounts mtables masked hml hai hszK hKb hroom hh hfr hpos hwi hwl y1 y3 y2 hnl hd hds hkl hcl1 hcl2 hbign hdns hrest hplace h3 hk8 hk8l; omega), by (clear mmade mcounts mtables masked hml hai hKb hroom hh hfr hpos hwi hwl y1 y3 y2 hd hds hkl hcl1 hcl2 hbign hdns hrest hplace h3 hk8 hk8l; omega)⟩) (by simp only [List.length_cons, List.length_nil]; exact hk8l)
      refine sub_list F.head (by exact Int.natCast_nonneg _) (by exact Int.ofNat_lt.mpr (Nat.lt_of_lt_of_le hk8l (by decide))) (by rw [Int.toNat_natCast]; exact hpz) ?_
      replace F := F.drop
      walk_at "rc"
      exact ⟨rfl, _, _, _, _, _, _, rfl, F, hpz1, hpz2, by walk_at "look2", by walk_at "look2", by walk_at "look2", by walk_at "look2", by walk_at "look2", by walk_at "look2", by walk_at "look2", by walk_at "look2", by walk_at "look2"⟩
    · rw [if_neg (by simp [h3])]
      walk_at "rc"
      exact ⟨rfl, _, _, _, pl - (ns.length : Int) - 2, _, _, rfl, F, by (clear mmade mcounts mtables masked hml hai hKb hroom hh hfr hpos hwi hwl y1 y3 y2 hd hds hkl hcl1 hcl2 hbign hdns hrest h3; omega), by (clear mmade mcounts mtables masked hml hai hKb hroom hh hfr hpos hwi hwl y1 y3 y2 hd hds hkl hcl1 hcl2 hbign hdns hrest h3; omega), by walk_at "look2", by walk_at "look2", by walk_at "look2", by walk_at "look2", by walk_at "look2", by walk_at "look2", by walk_at "look2", by walk_at "look2", by walk_at "look2"⟩
  clear F
  rintro f s' ⟨rfl, h21, tk21, m₂, place, tp, tr, rfl, F, hp1, hp2, q1, q2, q3, q4, q5, q6, q7, q8, q9⟩
  refine nx_next ?_
  walk_at "rc"
  replace F := F.perm (own' := (DA, LO as n4) :: ([(dn, on), (L + 1, CX o1 (some (.int number tv))), (DM, LO ms n1), (DC, LO cs n2), (DT, LO ts n3)] ++ it)) (List.perm_middle (l₁ := [(dn, on), (L + 1, CX o1 (some (.int number tv))), (DM, LO ms n1), (DC, LO cs n2), (DT, LO ts n3)]))
  refine gm_list F.head PySem.F.slot_list_append (by with_unfolding_all rfl) ?_
  walk_at "rc"
  refine lc_append F (by exact Nat.le_trans hai (by decide)) ?_
  clear F; intro h22 n4' F
  replace F := F.perm (own' := ownL dn (L + 1) DM DC DT DA on o1 number tv ms cs ts (as ++ [.int place tp]) n1 n2 n3 n4' it) (List.perm_middle (l₁ := [(dn, on), (L + 1, CX o1 (some (.int number tv))), (DM, LO ms n1), (DC, LO cs n2), (DT, LO ts n3)])).symm
  have has' : IntsAre (as ++ [.int place tp]) (zs ++ [place]) := has.append (.cons _ _ .nil)
  have haz' : ∀ z ∈ zs ++ [place], -100000 ≤ z ∧ z ≤ 100000 := fun z hz => by
    rcases List.mem_append.mp hz with hz | hz
    · exact haz z hz
    · rw [List.mem_singleton.mp hz]; exact ⟨hp1, hp2⟩
  have hal' : (as ++ [Value.int place tp]).length = as.length + 1 := by simp
  generalize as ++ [.int place tp] = as' at F has' hal'
  generalize zs ++ [place] = zs' at has' haz'
  iterate 2 (first | walk_at "nm" | walk_at "e")
  have DD : Deed prog w dn DM DC DT DA x b' m₂ on ns.length kvs.length := ⟨q1, q2, q3, q4, q7, q5, xs, ns, kvs, tc, q6, V, hxs, Nat.le_refl _, hon, htab, Nat.le_refl _⟩
  refine wpAny_mono (Q := fun f s' => (f = .next ∧ ∃ h' tk' m' b₉ x' on', s' = ⟨h', gs, dr, tk', os⟩ ∧ Ext b' b₉ ∧ Fx b₉ L h' m' (ownL dn (L + 1) DM DC DT DA on' o1 number tv ms cs ts as' n1 n2 n3 n4' it) ∧ Deed prog w dn DM DC DT DA x' b₉ m' on' (ns.length + 70) (kvs.length + 70)) ∨
      (f = .cont ∧ ∃ h' tk' m' b₉, s' = ⟨h', gs, dr, tk', os⟩ ∧ Ext b' b₉ ∧ Fx b₉ L h' m' (ownL dn (L + 1) DM DC DT DA on o1 number tv ms cs ts as' n1 n2 n3 n4' it) ∧ m' (Str.ofString "made") = some (.ref DM) ∧ m' (Str.ofString "counts") = some (.ref DC) ∧ m' (Str.ofString "tables") = some (.ref DT) ∧ m' (Str.ofString "asked") = some (.ref DA))) ?_ ?_ fun _ _ z => z
  · refine wpAny_If ?_
    walk_at "rc"
    refine x_mod (by decide) ?_
    walk_at "rc"
    by_cases h0 : number.fmod 4 = 0
    · rw [if_pos (by simp [h0])]
      refine execs_of (l' := ifThen (nth (turnStmts w) 9)) (env' := lawEnv w L) (by with_unfolding_all rfl) (by with_unfolding_all rfl) ?_
      refine deed0 T F hit VV (by exact Nat.le_trans hml (by decide)) has' ⟨by (clear mmade mcounts mtables masked hml hai hszK hKb hroom hh hfr hpos hwi hwl y1 y3 y2 hnl hd hds hkl hcl1 hcl2 hbign hdns hrest hplace hp1 hp2 q1 q2 q3 q4 q5 q6 q7 q8 q9 h0; omega), by (clear mmade mcounts mtables masked hml hszK hKb hroom hh hfr hpos hwi hwl y1 y3 y2 hnl hd hds hkl hcl1 hcl2 hbign hdns hrest hplace hp1 hp2 q1 q2 q3 q4 q5 q6 q7 q8 q9 h0; omega)⟩ DD (by exact Nat.le_trans hnl hszK) (by exact Nat.le_trans (Nat.le_trans hkl hKb) (by decide)) q8 (by exact Nat.lt_of_lt_of_le hroom (by decide)) hh ?_
      intro h' tk' m' b₉ x' on' e F D
      exact .inl ⟨rfl, h', tk', m', b₉, x', on', rfl, e, F, D⟩
    · rw [if_neg (by simp [h0])]
      refine s_cons ?_
      refine wpAny_If ?_
      walk_at "rc"
      refine x_mod (by decide) ?_
      walk_at "rc"
      by_cases h1 : number.fmod 4 = 1
      · rw [if_pos (by simp [h1])]
        refine execs_of (l' := ifThen (nth (ifElse (nth (turnStmts w) 9)) 0)) (env' := lawEnv w L) (by with_unfolding_all rfl) (by with_unfolding_all rfl) ?_
        refine deed1 T F hit VV (by exact Nat.le_trans hml (by decide)) has' ⟨by (clear mmade mcounts mtables masked hml hai hszK hKb hroom hh hfr hpos hwi hwl y1 y3 y2 hnl hd hds hkl hcl1 hcl2 hbign hdns hrest hplace hp1 hp2 q1 q2 q3 q4 q5 q6 q7 q8 q9 h0 h1; omega), by (clear mmade mcounts mtables masked hml hszK hKb hroom hh hfr hpos hwi hwl y1 y3 y2 hnl hd hds hkl hcl1 hcl2 hbign hdns hrest hplace hp1 hp2 q1 q2 q3 q4 q5 q6 q7 q8 q9 h0 h1; omega)⟩ DD (by exact Nat.le_trans hnl hszK) (by exact Nat.le_trans (Nat.le_trans hkl hKb) (by decide)) q8 (by exact Nat.lt_of_lt_of_le hroom (by decide)) hh ?_
        intro h' tk' m' b₉ x' on' e F D
        refine nx_next ?_
        walk_at "rc"
        exact .inl ⟨rfl, h', _, m', b₉, x', on', rfl, e, F, D⟩
      · rw [if_neg (by simp [h1])]
        refine execs_of (l' := ifElse (nth (ifElse (nth (turnStmts w) 9)) 0)) (env' := lawEnv w L) (by with_unfolding_all rfl) (by with_unfolding_all rfl) ?_
        refine deed2 T F hit VV (by exact Nat.le_trans hml (by decide)) has' ⟨by (clear mmade mcounts mtables masked hml hai hszK hKb hroom hh hfr hpos hwi hwl y1 y3 y2 hnl hd hds hkl hcl1 hcl2 hbign hdns hrest hplace hp1 hp2 q1 q2 q3 q4 q5 q6 q7 q8 q9 h0 h1; omega), by (clear mmade mcounts mtables masked hml hszK hKb hroom hh hfr hpos hwi hwl y1 y3 y2 hnl hd hds hkl hcl1 hcl2 hbign hdns hrest hplace hp1 hp2 q1 q2 q3 q4 q5 q6 q7 q8 q9 h0 h1; omega)⟩ DD (by exact Nat.le_trans hnl hszK) (by exact Nat.le_trans (Nat.le_trans hkl hKb) (by decide)) q9 hp1 hp2 (by exact hroom) hh hfr ?_ ?_
        · intro h' tk' m' b₉ x' on' e F D
          refine nx_next ?_
          walk_at "rc"
          exact .inl ⟨rfl, h', _, m', b₉, x', on', rfl, e, F, D⟩
        · intro h' tk' m' b₉ e F r1 r2 r3 r4
          refine nx_cont ?_
          exact .inr ⟨rfl, h', _, m', b₉, rfl, e, F, r1, r2, r3, r4⟩
  clear F
  rintro f s' (⟨rfl, h6, tk6, m₃, b₉, x', on', rfl, e₉, F, r1, r2, r3, r4, r7, r5, xs', ns', kvs', t6, r6, V', hxs', hN, hon', htab', hK⟩ | ⟨rfl, h6, tk6, m₃, b₉, rfl, e₉, F, r1, r2, r3, r4⟩)
  · obtain ⟨b₁₀, e₁₀, F₁, hdn⟩ := F.sink
    clear F
    have F := F₁; clear F₁
    replace T := T.up (e₉.trans e₁₀)
    have hv : OneV prog w b₁₀ sz (K + 100) (.ref x') (.int ns'.length t6) (.ref dn) := ⟨x', xs', ns', _, _, dn, on', kvs', rfl, rfl, rfl, V'.up e₁₀, hxs', rfl, by (clear mmade mcounts mtables masked hml hai hszK hKb hroom hh hfr hpos hwi hwl y1 y3 y2 hd hds hkl hcl1 hcl2 hbign hdns hrest hplace hp1 hp2 q1 q2 q3 q4 q5 q6 q7 q8 q9 hal' r1 r2 r3 r4 r7 r5 r6 hK hdn; omega), hdn, hon', hdns, htab', by (clear mmade mcounts mtables masked hml hai hszK hKb hroom hh hfr hpos hwi hwl y1 y3 y2 hnl hd hds hcl1 hcl2 hbign hdns hrest hplace hp1 hp2 q1 q2 q3 q4 q5 q6 q7 q8 q9 hal' r1 r2 r3 r4 r7 r5 r6 hN hdn; omega)⟩
    have VV2 := (VV.up (e₉.trans e₁₀) (K' := K + 100) (by exact Nat.le_add_right _ _)).push hv
    refine nx_next ?_
    walk_at "rc"
    replace F := F.perm (own' := (DM, LO ms n1) :: ([(L + 1, CX o1 (some (.int number tv))), (DC, LO cs n2), (DT, LO ts n3), (DA, LO as' n4')] ++ it)) (List.perm_middle (l₁ := [(L + 1, CX o1 (some (.int number tv)))]))
    refine gm_list F.head PySem.F.slot_list_append (by with_unfolding_all rfl) ?_
    walk_at "rc"
    refine lc_append F (by exact Nat.le_trans hml (by decide)) ?_
    clear F; intro h26 n1' F
    replace F := F.perm (own' := (L + 1, CX o1 (some (.int number tv))) :: ([(DM, LO (ms ++ [Value.ref x']) n1'), (DC, LO cs n2), (DT, LO ts n3), (DA, LO as' n4')] ++ it)) (List.perm_middle (l₁ := [(L + 1, CX o1 (some (.int number tv)))])).symm
    walk_at "rc"
    replace F := F.perm (own' := (DC, LO cs n2) :: ([(L + 1, CX o1 (some (.int number tv))), (DM, LO (ms ++ [Value.ref x']) n1'), (DT, LO ts n3), (DA, LO as' n4')] ++ it)) (List.perm_middle (l₁ := [(L + 1, CX o1 (some (.int number tv))), (DM, LO (ms ++ [Value.ref x']) n1')]))
    refine gm_list F.head PySem.F.slot_list_append (by with_unfolding_all rfl) ?_
    walk_at "rc"
    refine lc_append F (by (clear mmade mcounts mtables masked hai hszK hKb hroom hh hfr hpos hwi hwl y1 y3 y2 hnl hd hds hkl hcl2 hbign hdns hrest hplace hp1 hp2 q1 q2 q3 q4 q5 q6 q7 q8 q9 hal' r1 r2 r3 r4 r7 r5 r6 hN hK hdn; omega)) ?_
    clear F; intro h27 n2' F
    replace F := F.perm (own' := (L + 1, CX o1 (some (.int number tv))) :: ([(DM, LO (ms ++ [Value.ref x']) n1'), (DC, LO (cs ++ [Value.int (ns'.length : Int) t6]) n2'), (DT, LO ts n3), (DA, LO as' n4')] ++ it)) (List.perm_middle (l₁ := [(L + 1, CX o1 (some (.int number tv))), (DM, LO (ms ++ [Value.ref x']) n1')])).symm
    walk_at "rc"
    replace F := F.perm (own' := (DT, LO ts n3) :: ([(L + 1, CX o1 (some (.int number tv))), (DM, LO (ms ++ [Value.ref x']) n1'), (DC, LO (cs ++ [Value.int (ns'.length : Int) t6]) n2'), (DA, LO as' n4')] ++ it)) (List.perm_middle (l₁ := [(L + 1, CX o1 (some (.int number tv))), (DM, LO (ms ++ [Value.ref x']) n1'), (DC, LO (cs ++ [Value.int (ns'.length : Int) t6]) n2')]))
    refine gm_list F.head PySem.F.slot_list_append (by with_unfolding_all rfl) ?_
    walk_at "rc"
    refine lc_append F (by (clear mmade mcounts mtables masked hai hszK hKb hroom hh hfr hpos hwi hwl y1 y3 y2 hnl hd hds hkl hcl1 hbign hdns hrest hplace hp1 hp2 q1 q2 q3 q4 q5 q6 q7 q8 q9 hal' r1 r2 r3 r4 r7 r5 r6 hN hK hdn; omega)) ?_
    clear F; intro h28 n3' F
    replace F := F.perm (own' := (L + 1, CX o1 (some (.int number tv))) :: ([(DM, LO (ms ++ [Value.ref x']) n1'), (DC, LO (cs ++ [Value.int (ns'.length : Int) t6]) n2'), (DT, LO (ts ++ [Value.ref dn]) n3'), (DA, LO as' n4')] ++ it)) (List.perm_middle (l₁ := [(L + 1, CX o1 (some (.int number tv))), (DM, LO (ms ++ [Value.ref x']) n1'), (DC, LO (cs ++ [Value.int (ns'.length : Int) t6]) n2')])).symm
    walk_at "rc"
    exact h .next _ _ _ b₁₀ _ _ _ _ _ _ _ _ _ (.inl rfl) (e₉.trans e₁₀) F (by walk_at "look2") (by walk_at "look2") (by walk_at "look2") (by walk_at "look2") VV2 (by simp) has' hal' haz'
  · refine h .cont _ _ _ b₉ _ _ _ _ _ _ _ _ _ (.inr rfl) e₉ F.drop r1 r2 r3 r4 (VV.up e₉ (by exact Nat.le_add_right _ _)) (by exact Nat.le_add_right _ _) has' hal' haz'
end
theorem run_step {ns zs : List Int} {kvs : List (Int × Value)} {i : Nat} {k : Int} {v : Value} {z : Int} (hl : zs.length = ns.length) (hi : kvs[i]? = some (k, v)) (hk : 0 ≤ k ∧ k < ns.length) (hz : ns[k.toNat]? = some z) (h : ∀ j : Nat, j < ns.length → zs[j]? = if (j : Int) ∈ (kvs.take i).map (·.1) then ns[j]? else some (1000 + (j : Int))) :
    ∀ j : Nat, j < ns.length → (zs.set k.toNat z)[j]? = if (j : Int) ∈ (kvs.take (i + 1)).map (·.1) then ns[j]? else some (1000 + (j : Int)) := by
  intro j hj
  have ht : (kvs.take (i + 1)).map (·.1) = (kvs.take i).map (·.1) ++ [k] := by rw [List.take_add_one, hi]; simp
  rw [ht]
  by_cases e : j = k.toNat
  · subst e
    rw [List.getElem?_set_self (by exact hl ▸ hj), if_pos (by simp; omega), hz]
  · rw [List.getElem?_set_ne (fun q => e q.symm), h j hj]
    have : (j : Int) ≠ k := by omega
    simp [this]
theorem run_done {ns zs : List Int} {kvs : List (Int × Value)} (hl : zs.length = ns.length) (ht : TabOk kvs ns) (h : ∀ j : Nat, j < ns.length → zs[j]? = if (j : Int) ∈ (kvs.take kvs.length).map (·.1) then ns[j]? else some (1000 + (j : Int))) : zs = ns := by
  rw [List.take_length] at h
  apply List.ext_getElem?
  intro j
  by_cases hj : j < ns.length
  · rw [h j hj]
    split
    · rfl
    · rename_i q
      rcases ht.1 j ns[j] (List.getElem?_eq_getElem hj) with ⟨t, e⟩ | ⟨_, e⟩
      · rw [valueAt_none q] at e; cases e
      · rw [List.getElem?_eq_getElem hj, e]
  · rw [List.getElem?_eq_none (by omega), List.getElem?_eq_none (by exact Nat.not_lt.mp hj)]
section
variable {prog : Program} {w : World} {A : Around} {E : Value → Shared → Prop} {hp : Heap} {gs : Array GenState} {dr : Drawn} {tk : Nat} {os : OsState} {mg mb : Str → Option Value} {Q : Value → Shared → Prop}
set_option maxHeartbeats 8000000 in
theorem law_spec {items : List Value} {script : List Int} {S : Addr} {nS : Nat} (T : Tp (KK w) mg mb hp) (hS : hp.get? S = some (LO items nS)) (hi : IntsAre items script) (hm : script.length ≤ 63) (hroom : A.depth < 310) (hu : A.units < 400) (hh : A.handled = none) (hfr : A.frames = some [])
    (h : ∀ h' tk, Ext hp h' → Q (.bool true) ⟨h', gs, dr, tk, os⟩) : wpAny (model prog w) A (call (.ref g_law) [.ref S]) Q E ⟨hp, gs, dr, tk, os⟩ := by
  have hl1 := hi.length
  refine wpAny_call ?_
  refine call_fxc (binds := [(Str.ofString "script", .ref S)]) (by walk_at "room") (T.X _ _ (lk g_law (by kernel_rfl))) (by with_unfolding_all rfl) T.nolimit (codeRec_of T.X (by kernel_rfl)) (BindsTo.of_eq (by with_unfolding_all rfl)) ?_ (by decide +kernel) ?_
  · intro n y hy
    rw [List.mem_singleton.mp hy]
    exact .inl (by with_unfolding_all rfl)
  intro L h₁ tk ob F
  replace F : Fx hp L h₁ (fun y => if y = Str.ofString "script" then some (.ref S) else none) [(L + 1, CX (ob (L + 1)) none)] := F
  generalize ob (L + 1) = o1 at F
  walk_at "r"
  refine nl F ?_ (by simp)
  clear F; intro D1 h2 F _
  walk_at "r"
  refine wpAny_Slice ?_
  walk_at "r"
  refine lc_len (F.keep _ _ hS) (by exact Nat.le_trans (Nat.le_of_eq hl1) (Nat.le_trans hm (by decide))) ?_
  intro t3 tk3
  walk_at "r"
  refine sub_cut F F.head (by simp) (.int _ _) .none ?_
  clear F; intro D2 h3 F _
  have h50 : IntsAre [Value.int 560 tk, Value.int 44 (tk + 1), Value.int 39 (tk + 1 + 1), Value.int 241 (tk + 1 + 1 + 1), Value.int 508622 (tk + 1 + 1 + 1 + 1)] [560, 44, 39, 241, 508622] := .cons _ _ (.cons _ _ (.cons _ _ (.cons _ _ (.cons _ _ .nil))))
  have hcut := h50.pick (some (items.length : Int)) none none
  have hcl := cutL_length [Value.int 560 tk, Value.int 44 (tk + 1), Value.int 39 (tk + 1 + 1), Value.int 241 (tk + 1 + 1 + 1), Value.int 508622 (tk + 1 + 1 + 1 + 1)] (some (items.length : Int)) none
  simp only [List.length_cons, List.length_nil] at hcl
  walk_at "r"
  refine lc_add F (F.keep _ _ hS) F.head (by omega) ?_
  clear F; intro DN h4 F _
  have hnums := hi.append hcut
  rw [hl1] at hnums
  obtain ⟨n0, nr, hnr⟩ := nums_some (script := script)
  rw [hnr] at hnums
  generalize hN : items ++ cutL [Value.int 560 tk, Value.int 44 (tk + 1), Value.int 39 (tk + 1 + 1), Value.int 241 (tk + 1 + 1 + 1), Value.int 508622 (tk + 1 + 1 + 1 + 1)] (some (items.length : Int)) none = NN at F
  have hnums : IntsAre NN (n0 :: nr) := by rw [← hN, hl1]; exact hnums
  have hNl : NN.length ≤ 68 := by rw [← hN, List.length_append]; omega
  walk_at "e"
  obtain ⟨b₁, e₁, F₁, hDN⟩ := F.sink
  clear F
  have F := F₁.drop.drop; clear F₁
  replace T := T.up e₁
  walk_at "r"
  obtain ⟨t0, hn0⟩ : ∃ t0, NN[0]? = some (.int n0 t0) := hnums.get 0 n0 rfl
  refine cw_fn T (by kernel_rfl) ?_
  walk_at "r"
  refine sub_list (F.keep _ _ hDN) (by decide) (by decide) hn0 ?_
  walk_at "r"
  refine ⟨F.keep, ?_⟩
  refine size_spec (T.up F.keep) (by walk_at "room") ?_
  intro size tz h5 tk5 hsz e5
  replace F := F.ext e5
  walk_at "rc"
  refine cw_fn T (by kernel_rfl) ?_
  walk_at "rc"
  refine rg2 F ?_
  clear F; intro rg h6 vv tk6 F _
  walk_at "rc"
  refine ⟨F.keep, ?_⟩
  refine pvector5 (P := fun ys => IntsAre ys (rangeL 1000 1 size)) (T.up F.keep) (.inr ⟨rg, _, _, _, _, _, rfl, F.head, by exact Int.natCast_nonneg _, by (clear hS hm hroom hu hh hfr hl1 hcl hnr hN hNl hDN hn0 hsz; omega), by (clear hS hm hroom hu hh hfr hl1 hcl hnr hN hNl hDN hn0; omega), by (clear hS hm hroom hu hh hfr hl1 hcl hnr hN hNl hDN hn0; omega), fun ys hy => by rw [show (1000 + (size : Int) - 1000).toNat = size by (clear hS hm hroom hu hh hfr hl1 hcl hnr hN hNl hDN hn0 hsz; omega)] at hy; exact hy⟩) (fun ys hy => by rw [hy.length]; simp [rangeL]; exact Nat.lt_of_le_of_lt hsz (by decide)) (by walk_at "room") hh ?_
  intro xw ws h8 tk8 e8 hws Vw _
  replace F := F.ext e8
  obtain ⟨b₂, e₂, F₂, kp₂⟩ := F.settlex [] (own' := [(L + 1, CX o1 none)]) (x := Str.ofString "size") (by walk_at "look2") (List.sublist_cons_self _ _) (fun p hp => by rw [List.mem_singleton.mp hp]; exact .inl ⟨_, rfl⟩)
  obtain ⟨tlw, dxw, htw, _⟩ := Vw.tail
  replace Vw := Vw.kpx kp₂ hws htw (fun q => nomatch q) (fun q => nomatch q) (fun _ q => nomatch q)
  clear F
  have F := F₂; clear F₂ htw kp₂
  replace T := T.up e₂
  replace hDN := e₂ _ _ hDN
  walk_at "rc"
  refine nl F ?_ (by simp)
  clear F; intro DM h9 F _
  walk_at "rc"
  refine nl F ?_ (by simp)
  clear F; intro DC h10 F _
  walk_at "rc"
  have F10 := F.keep
  refine nd F ?_
  clear F; intro d0 h11 od0 hbig0 hod0 F _
  have hd0s := not_sys T F10 hbig0
  clear F10
  walk_at "rc"
  refine nl F ?_ (by simp)
  clear F; intro DT h12 F _
  walk_at "rc"
  refine nl F ?_ (by simp)
  clear F; intro DA h13 F _
  walk_at "rc"
  have F := F.perm (own' := [(d0, od0), (L + 1, CX o1 none), (DM, LO [.ref xw] 0), (DC, LO [.int size tz] 0), (DT, LO [.ref d0] 0), (DA, LO [] 0)]) ((List.reverse_perm _).symm.trans (List.perm_middle (l₁ := [(L + 1, CX o1 none), (DM, LO [.ref xw] 0), (DC, LO [.int size tz] 0)])))
  obtain ⟨b₃, e₃, F₃, hd0⟩ := F.sink
  clear F
  have F := F₃; clear F₃
  replace T := T.up e₃
  replace hDN := e₃ _ _ hDN
  replace Vw := Vw.up e₃
  have V0 : Vers prog w b₃ size 0 [.ref xw] [.int size tz] [.ref d0] := Vers.one ⟨xw, ws, _, _, _, d0, od0, [], rfl, rfl, rfl, Vw, hws, by simp [rangeL], by simp [rangeL], hd0, hod0, hd0s, TabOk.nil, by simp⟩
  clear Vw hws hd0 hod0
  refine wpAny_For ?_
  walk_at "rc"
  refine cut_list F (F.keep _ _ hDN) (by exact Nat.le_trans hNl (by decide)) (.int _ _) (.int _ _) ?_
  clear F; intro D5 h14 F _
  have hq5 : IntsAre (cutL NN (some 1) (some 9)) (pickNums (n0 :: nr) (some 1) (some 9) none) := hnums.pick (some 1) (some 9) none
  have hq6 : (cutL NN (some 1) (some 9)).length ≤ 8 := by
    show (cutL NN (some ((1 : Nat) : Int)) (some ((9 : Nat) : Int))).length ≤ 8
    rw [cutL_nat NN 1 9 (by rw [hnums.length]; simp), List.length_take]
    exact Nat.min_le_left _ _
  obtain ⟨b₄, e₄, F₄, hD5⟩ := F.sink
  clear F
  have F := F₄; clear F₄
  replace T := T.up e₄
  replace V0 := V0.up e₄ (Nat.le_refl _)
  have ebase : Ext hp b₄ := e₁.trans (e₂.trans (e₃.trans e₄))
  clear hDN
  generalize hnn : pickNums (n0 :: nr) (some 1) (some 9) none = qs at hq5
  generalize cutL NN (some 1) (some 9) = CC at hq5 hq6 hD5
  walk_at "rc"
  refine for_listG F hD5 hh (fun i b' m' own' => ∃ ms cs ts as zs v1 n1 n2 n3 n4, m' (Str.ofString "made") = some (.ref DM) ∧ m' (Str.ofString "counts") = some (.ref DC) ∧ m' (Str.ofString "tables") = some (.ref DT) ∧ m' (Str.ofString "asked") = some (.ref DA) ∧
    Vers prog w b' size (100 * i) ms cs ts ∧ ms.length ≤ i + 1 ∧ IntsAre as zs ∧ as.length = i ∧ (∀ z ∈ zs, -100000 ≤ z ∧ z ≤ 100000) ∧ own' = [(L + 1, CX o1 v1), (DM, LO ms n1), (DC, LO cs n2), (DT, LO ts n3), (DA, LO as n4)])
    ⟨_, _, _, _, _, _, _, _, _, _, by walk_at "look2", by walk_at "look2", by walk_at "look2", by walk_at "look2", V0, by simp, .nil, rfl, (fun _ q => nomatch q), rfl⟩ ?_ ?_
  · clear F
    rintro i v b' m₁ own₁ h15 tk15 it E₁ E₂ hit hil hv ⟨ms, cs, ts, as, zs, v1, n1, n2, n3, n4, mmade, mcounts, mtables, masked, VV, hml, has, hai, haz, rfl⟩ e₅ F
    replace T := T.up e₅
    obtain ⟨number, tv, rfl⟩ : ∃ number tv, v = .int number tv := by
      have hj : i < qs.length := by rw [← hq5.length]; exact hil
      obtain ⟨t, ht⟩ := hq5.get i qs[i] (List.getElem?_eq_getElem hj)
      rw [ht] at hv
      exact ⟨_, _, (Option.some.inj hv).symm⟩
    refine wpAny_assign_Name (st_cx (c := L + 1) (o := o1) (v₀ := v1) (own := [(DM, LO ms n1), (DC, LO cs n2), (DT, LO ts n3), (DA, LO as n4)] ++ it) F (by with_unfolding_all rfl) ?_)
    clear F; intro h16 F
    refine execs_of (l' := turnStmts w) (env' := lawEnv w L) (by with_unfolding_all rfl) (by with_unfolding_all rfl) ?_
    refine turn_spec T F hit mmade mcounts mtables masked VV (by (clear hS hm hroom hu hh hfr hl1 hcl hnr hN hNl hn0 hsz hbig0 hd0s hnn hD5 mmade mcounts mtables masked hai hv; omega)) has (by (clear hS hm hroom hu hh hfr hl1 hcl hnr hN hNl hn0 hsz hbig0 hd0s hnn hD5 mmade mcounts mtables masked hml hv; omega)) haz (by (clear hS hm hroom hu hh hfr hl1 hcl hnr hN hNl hn0 hbig0 hd0s hnn hD5 mmade mcounts mtables masked hml hai hv; omega)) (by (clear hS hm hroom hu hh hfr hl1 hcl hnr hN hNl hn0 hsz hbig0 hd0s hnn hD5 mmade mcounts mtables masked hml hai hv; omega)) (by show A.depth + 1 < 312; exact Nat.lt_of_le_of_lt hroom (by decide)) hh (Around.frames_deeper hfr) ?_
    intro f h17 tk17 m₂ b₉ ms' cs' ts' as' zs' k1 k2 k3 k4 hf e₉ F r1 r2 r3 r4 VV' hml' has' hal' haz'
    have te : TurnEnd gs dr os L it b' (fun b' m' own' => ∃ ms cs ts as zs v1 n1 n2 n3 n4, m' (Str.ofString "made") = some (.ref DM) ∧ m' (Str.ofString "counts") = some (.ref DC) ∧ m' (Str.ofString "tables") = some (.ref DT) ∧ m' (Str.ofString "asked") = some (.ref DA) ∧
      Vers prog w b' size (100 * (i + 1)) ms cs ts ∧ ms.length ≤ (i + 1) + 1 ∧ IntsAre as zs ∧ as.length = i + 1 ∧ (∀ z ∈ zs, -100000 ≤ z ∧ z ≤ 100000) ∧ own' = [(L + 1, CX o1 v1), (DM, LO ms n1), (DC, LO cs n2), (DT, LO ts n3), (DA, LO as n4)]) ⟨h17, gs, dr, tk17, os⟩ :=
      ⟨h17, tk17, b₉, m₂, [(L + 1, CX o1 (some (.int number tv))), (DM, LO ms' k1), (DC, LO cs' k2), (DT, LO ts' k3), (DA, LO as' k4)], rfl, e₉, F, ms', cs', ts', as', zs', _, k1, k2, k3, k4, r1, r2, r3, r4, VV', by (clear hS hm hroom hu hh hfr hl1 hcl hnr hN hNl hn0 hsz hbig0 hd0s hnn hq6 hD5 hil mmade mcounts mtables masked hai hv hf r1 r2 r3 r4 hal'; omega), has', by exact hai ▸ hal', haz', rfl⟩
    rcases hf with rfl | rfl
    · exact te
    · exact te
  · clear F
    rintro h15 tk15 b' m' own' ⟨ms, cs, ts, as, zs, v1, n1, n2, n3, n4, mmade, mcounts, mtables, masked, VV, hml, has, hai, haz, rfl⟩ e' F
    replace T := T.up e'
    replace F := F.perm (List.reverse_perm _).symm
    obtain ⟨c1, f1, F₁, hA⟩ := F.sink
    obtain ⟨c2, f2, F₂, hT⟩ := F₁.sink
    obtain ⟨c3, f3, F₃, hC⟩ := F₂.sink
    obtain ⟨b₉, f4, F₄, hM⟩ := F₃.sink
    clear F F₁ F₂ F₃
    have F := F₄; clear F₄
    have e₉ : Ext b' b₉ := f1.trans (f2.trans (f3.trans f4))
    replace hA := f4 _ _ (f3 _ _ (f2 _ _ hA))
    replace hT := f4 _ _ (f3 _ _ hT)
    replace hC := f4 _ _ hC
    replace T := T.up e₉
    replace VV := VV.up e₉ (Nat.le_refl _)
    clear f1 f2 f3 f4
    have ebase2 : Ext hp b₉ := ebase.trans (e'.trans e₉)
    have hl1 := VV.l1
    have hl2 := VV.l2
    have hasl := has.length
    walk_at "rc"
    refine wpAny_For ?_
    walk_at "rc"
    refine for_trio F hM hC hT hl1 hl2 hh (fun _ b' m' own' => b' = b₉ ∧ own' = [(L + 1, CX o1 v1)] ∧ m' (Str.ofString "made") = some (.ref DM) ∧ m' (Str.ofString "counts") = some (.ref DC) ∧ m' (Str.ofString "tables") = some (.ref DT) ∧ m' (Str.ofString "asked") = some (.ref DA)) ⟨rfl, rfl, by walk_at "look2", by walk_at "look2", by walk_at "look2", by walk_at "look2"⟩ ?_ ?_
    · clear F
      rintro j w1 w2 w3 b₁ m₁ own₁ h16 tk16 it E' hj y1 y2 y3 ⟨rfl, rfl, r1, r2, r3, r4⟩ _ F
      obtain ⟨x, xs, ns, c, tc, d, od, kvs, rfl, rfl, rfl, V, hxs, rfl, hnl, hd, hod, hds, htab, hkl⟩ := VV.ok j w1 w2 w3 y1 y2 y3
      walk_at "rc"
      refine cw_fn T (by kernel_rfl) ?_
      walk_at "rc"
      refine ⟨F.keep, ?_⟩
      have eb : Ext b₁ (hideAll h16 [L]) := fun c o q => hideAll_get _ (F.keep c o q) (fun z => by rw [List.mem_singleton.mp z, F.lout] at q; cases q)
      obtain ⟨oL, es, ep, gL, hdL, _⟩ := F.ns
      refine holds_spec (Around.frames_deeper hfr) (show ScopeKind.function ≠ ScopeKind.module by decide) rfl gL (fun vs q => by rw [hdL] at q; cases q) (T.up eb) (V.up eb) hxs rfl (by (clear hS hm hroom hu hh hfr hcl hnr hN hNl hn0 hbig0 hd0s hnn hD5 mmade mcounts mtables masked hml hai hl1 hl2 hasl hj hM hA hT hC r1 r2 r3 r4 y1 y3 y2 hd hds hkl gL hdL; omega)) (eb _ _ hd) hod hds htab (eb _ _ hA) has (by (clear hS hm hroom hu hh hfr hcl hnr hN hNl hn0 hsz hbig0 hd0s hnn hD5 mmade mcounts mtables masked hml hl1 hl2 hj hM hA hT hC r1 r2 r3 r4 y1 y3 y2 hnl hd hds hkl gL hdL; omega)) haz (by walk_at "room") (by simp only [Around.deeper, Around.in1]; (clear hS hm hroom hh hfr hcl hnr hN hNl hn0 hsz hbig0 hd0s hnn hq6 hD5 mmade mcounts mtables masked hml hai hl1 hl2 hasl hj hM hA hT hC r1 r2 r3 r4 y1 y3 y2 hnl hd hds hkl gL hdL; omega)) hh ?_
      intro h17 tk17 sl e17 hs17
      replace F := F.afterOuter gL e17 hs17
      walk_at "rc"
      rw [if_neg (by decide)]
      walk_at "rc"
      exact ⟨_, _, b₁, _, _, rfl, .rfl', F, rfl, rfl, by walk_at "look2", by walk_at "look2", by walk_at "look2", by walk_at "look2"⟩
    · clear F
      rintro h16 tk16 b₁ m₁ own₁ ⟨rfl, rfl, r1, r2, r3, r4⟩ _ F
      have hpos := VV.pos
      obtain ⟨w1, w2, w3, y1, y2, y3, x, xs, ns, c, tc, d, od, kvs, rfl, rfl, rfl, V, hxs, rfl, hnl, hd, hod, hds, htab, hkl⟩ := VV.at (i := ms.length - 1) (by (clear hS hm hroom hu hh hfr hcl hnr hN hNl hn0 hsz hbig0 hd0s hnn hq6 hD5 mmade mcounts mtables masked hml hai hl1 hl2 hasl hM hA hT hC r1 r2 r3 r4; omega))
      have hxl := hxs.length
      have lastM : ms[(if (-1 : Int) < 0 then -1 + (ms.length : Int) else -1).toNat]? = some (.ref x) := by rw [if_pos (by decide), show (-1 + (ms.length : Int)).toNat = ms.length - 1 by (clear hS hm hroom hu hh hfr hcl hnr hN hNl hn0 hsz hbig0 hd0s hnn hq6 hD5 mmade mcounts mtables masked hml hai hl1 hl2 hasl hM hA hT hC r1 r2 r3 r4 hpos y1 y3 y2 hnl hd hds hkl hxl; omega)]; exact y1
      have lastC : cs[(if (-1 : Int) < 0 then -1 + (cs.length : Int) else -1).toNat]? = some (.int ns.length tc) := by rw [if_pos (by decide), show (-1 + (cs.length : Int)).toNat = ms.length - 1 by (clear hS hm hroom hu hh hfr hcl hnr hN hNl hn0 hsz hbig0 hd0s hnn hq6 hD5 mmade mcounts mtables masked hml hai hl2 hasl hM hA hT hC r1 r2 r3 r4 hpos y1 y3 y2 hnl hd hds hkl hxl lastM; omega)]; exact y2
      have lastT : ts[(if (-1 : Int) < 0 then -1 + (ts.length : Int) else -1).toNat]? = some (.ref d) := by rw [if_pos (by decide), show (-1 + (ts.length : Int)).toNat = ms.length - 1 by (clear hS hm hroom hu hh hfr hcl hnr hN hNl hn0 hsz hbig0 hd0s hnn hq6 hD5 mmade mcounts mtables masked hml hai hl1 hasl hM hA hT hC r1 r2 r3 r4 hpos y1 y3 y2 hnl hd hds hkl hxl lastM lastC; omega)]; exact y3
      walk_at "rc"
      refine sub_at (F.keep _ _ hC) (by (clear hS hm hroom hu hh hfr hcl hnr hN hNl hn0 hsz hbig0 hd0s hnn hq6 hD5 mmade mcounts mtables masked hml hai hl2 hasl hM hA hT hC r1 r2 r3 r4 y1 y3 y2 hnl hd hds hkl hxl lastM lastC lastT; omega)) (by exact Int.natCast_nonneg _) (by (clear hS hm hroom hu hh hfr hcl hnr hN hNl hn0 hsz hbig0 hd0s hnn hD5 mmade mcounts mtables masked hai hl2 hasl hM hA hT hC r1 r2 r3 r4 hpos y1 y3 y2 hnl hd hds hkl hxl lastM lastC lastT; omega)) lastC ?_
      walk_at "rc"
      refine rg2 F ?_
      clear F; intro rg h17 vv tk17 F _
      walk_at "rc"
      refine lc_range (n := ns.length) F F.head (rsmall (by decide) (by (clear hS hm hroom hu hh hfr hcl hnr hN hNl hn0 hbig0 hd0s hnn hD5 mmade mcounts mtables masked hml hai hl1 hl2 hasl hM hA hT hC r1 r2 r3 r4 hpos y1 y3 y2 hd hds hkl hxl lastM lastC lastT; omega)) (by decide) (by decide)) (by rw [rangeSize_nat]; (clear hS hm hroom hu hh hfr hcl hnr hN hNl hn0 hsz hbig0 hd0s hnn hq6 hD5 mmade mcounts mtables masked hml hai hl1 hl2 hasl hM hA hT hC r1 r2 r3 r4 hpos y1 y3 y2 hnl hd hds hkl hxl lastM lastC lastT; omega)) (by (clear hS hm hroom hu hh hfr hcl hnr hN hNl hn0 hbig0 hd0s hnn hD5 mmade mcounts mtables masked hml hai hl1 hl2 hasl hM hA hT hC r1 r2 r3 r4 hpos y1 y3 y2 hd hds hkl hxl lastM lastC lastT; omega)) hh ?_
      clear F; intro Dr cr rs h18 tk18 F _ hrs
      walk_at "rc"
      refine wpAny_For ?_
      walk_at "rc"
      refine sub_at (F.keep _ _ hT) (by (clear hS hm hroom hu hh hfr hcl hnr hN hNl hn0 hsz hbig0 hd0s hnn hq6 hD5 mmade mcounts mtables masked hml hai hl1 hasl hM hA hT hC r1 r2 r3 r4 y1 y3 y2 hnl hd hds hkl hxl lastM lastC lastT; omega)) (by exact Int.natCast_nonneg _) (by (clear hS hm hroom hu hh hfr hcl hnr hN hNl hn0 hsz hbig0 hd0s hnn hD5 mmade mcounts mtables masked hai hl1 hasl hM hA hT hC r1 r2 r3 r4 hpos y1 y3 y2 hnl hd hds hkl hxl lastM lastC lastT; omega)) lastT ?_
      walk_at "rc"
      refine gm_dict (F.keep _ _ hd) hod PySem.F.slot_dict_items PySem.F.type_dict_items ?_
      walk_at "rc"
      refine dc_items F (F.keep _ _ hd) hod hds ?_
      clear F; intro vw h19 F
      have hnd : (kvs.map (·.1)).Nodup := by
        obtain ⟨_, _, _, _, _, _, q⟩ := hod
        exact q
      replace F : Fx b₁ L h19 _ ((vw, VwO d) :: [(Dr, LO rs cr), (rg, RgO 1000 (1000 + (ns.length : Int)) 1 _ _ _), (L + 1, CX o1 v1)]) := F
      refine for_items F hd hod hh (fun i m' own' => ∃ rs cr zs, own' = [(Dr, LO rs cr), (rg, RgO 1000 (1000 + (ns.length : Int)) 1 _ _ _), (L + 1, CX o1 v1)] ∧ IntsAre rs zs ∧ zs.length = ns.length ∧ (∀ j : Nat, j < ns.length → zs[j]? = if (j : Int) ∈ (kvs.take i).map (·.1) then ns[j]? else some (1000 + (j : Int))) ∧
        m' (Str.ofString "made") = some (.ref DM) ∧ m' (Str.ofString "run") = some (.ref Dr)) ⟨rs, cr, _, rfl, hrs, by simp [rangeL], fun j hj => by simp [rangeL, hj], by walk_at "look2", by walk_at "look2"⟩ ?_ ?_
      · clear F
        rintro i k t v m₃ own₃ h20 tk20 it E' hi ⟨rs', cr', zs', rfl, hrs', hzl, hzj, s1, s2⟩ F
        have hmem := List.mem_of_getElem? hi
        have hkk := htab.2 k v hmem
        obtain ⟨kn, rfl⟩ := Int.eq_ofNat_of_zero_le hkk.1
        have hva := valueAt_mem hnd hmem
        have hkn : kn < ns.length := by (clear hS hm hroom hu hh hfr hcl hnr hN hNl hn0 hsz hbig0 hd0s hnn hq6 hD5 mmade mcounts mtables masked hml hai hl1 hl2 hasl hM hA hT hC r1 r2 r3 r4 hpos y1 y3 y2 hnl hd hds hkl hxl lastM lastC lastT hzl s1 s2 hi hva; omega)
        obtain ⟨z, tz, rfl, hz⟩ : ∃ z tz, v = .int z tz ∧ ns[kn]? = some z := by
          rcases htab.1 kn ns[kn] (List.getElem?_eq_getElem hkn) with ⟨t, e⟩ | ⟨e, _⟩
          · rw [hva] at e; exact ⟨_, t, Option.some.inj e, List.getElem?_eq_getElem hkn⟩
          · rw [hva] at e; cases e
        have hrl := hrs'.length
        replace F : Fx b₁ L h20 _ ((Dr, LO rs' cr') :: ([(rg, RgO 1000 (1000 + (ns.length : Int)) 1 _ _ _), (L + 1, CX o1 v1)] ++ it)) := F
        walk_at "rc"
        refine wpAny_Assign_Subscript ?_ (by with_unfolding_all rfl)
        walk_at "rc"
        refine lc_set F (by exact Int.natCast_nonneg _) (by (clear hS hm hroom hu hh hfr hcl hnr hN hNl hn0 hsz hbig0 hd0s hnn hq6 hD5 mmade mcounts mtables masked hml hai hl1 hl2 hasl hM hA hT hC r1 r2 r3 r4 hpos y1 y3 y2 hnl hd hds hkl hxl lastM lastC lastT s1 s2 hkn hz hi hva; omega)) (by (clear hS hm hroom hu hh hfr hcl hnr hN hNl hn0 hbig0 hd0s hnn hD5 mmade mcounts mtables masked hml hai hl1 hl2 hasl hM hA hT hC r1 r2 r3 r4 hpos y1 y3 y2 hd hds hkl hxl lastM lastC lastT s1 s2 hkk hkn hz hi hva; omega)) ?_
        clear F; intro h21 n21 F
        walk_at "rc"
        exact ⟨rfl, _, _, _, _, rfl, F, _, _, _, rfl, ints_set hrs' _ z tz, by rw [List.length_set]; exact hzl, run_step hzl hi ⟨by exact Int.natCast_nonneg _, by exact hkk.2⟩ (by rw [Int.toNat_natCast]; exact hz) hzj, by walk_at "look2", by walk_at "look2"⟩
      · clear F
        rintro h20 tk20 m₃ own₃ ⟨rs', cr', zs', rfl, hrs', hzl, hzj, s1, s2⟩ F
        have hzn := run_done hzl htab hzj
        subst hzn
        walk_at "rc"
        refine sub_at (F.keep _ _ hM) (by (clear hS hm hroom hu hh hfr hcl hnr hN hNl hn0 hsz hbig0 hd0s hnn hq6 hD5 mmade mcounts mtables masked hml hai hl1 hl2 hasl hM hA hT hC r1 r2 r3 r4 y1 y3 hd hds hkl lastM lastT s1 s2 y2 hnl hxl lastC hzl; omega)) (by exact Int.natCast_nonneg _) (by (clear hS hm hroom hu hh hfr hcl hnr hN hNl hn0 hsz hbig0 hd0s hnn hD5 mmade mcounts mtables masked hai hl1 hl2 hasl hM hA hT hC r1 r2 r3 r4 hpos y1 y3 hd hds hkl lastM lastT s1 s2 y2 hnl hxl lastC hzl; omega)) lastM ?_
        walk_at "rc"
        obtain ⟨dx, _, _, _, _, _, _, _, _, hx, hdx, _⟩ := V.len
        refine gm_tolist (T.up F.keep).X (F.keep _ _ hx) (F.keep _ _ hdx) ?_
        refine cw_fn0 T F.keep (by kernel_rfl) ?_
        refine tolist_vec (T.up F.keep) (V.up F.keep) (by (clear hS hm hroom hu hh hfr hcl hnr hN hNl hn0 hbig0 hd0s hnn hD5 mmade mcounts mtables masked hml hai hl1 hl2 hasl hM hA hT hC r1 r2 r3 r4 hpos y1 y3 hd hds hkl lastM lastT s1 s2 y2 lastC hzl hx hdx; omega)) (by walk_at "room") hh ?_
        intro Dt ct h22 tk22 e22 hDn hDt
        replace F := F.ext e22
        walk_at "rc"
        refine ke_eq_ints (isList_of hDt) (isList_of F.head) hxs hrs' (by simp only [Around.deeper, cLine]; (clear hS hm hroom hh hfr hcl hnr hN hNl hn0 hsz hbig0 hd0s hnn hq6 hD5 mmade mcounts mtables masked hml hai hl1 hl2 hasl hM hA hT hC r1 r2 r3 r4 hpos y1 y3 hd hds hkl lastM lastT s1 s2 y2 hnl hxl lastC hzl hx hdx hDn hDt; omega)) ?_
        rw [decide_eq_true rfl]
        walk_at "rc"
        exact h _ _ (ebase2.trans F.keep)
end
theorem list_of_well {P : Params} {h : Heap} {S : Addr} {items : List Value} {D : WData} {xs : List WData} (hL : h.IsList S items.toArray) (w : Well P h (.ref S) D) (e : D = .list xs) : h.get? S = some (LO items 0) := by
  subst e
  cases w with
  | list hg hw =>
    obtain ⟨o, ho, hc, ne, hd⟩ := hL
    rw [hg] at ho
    have := Option.some.inj ho
    subst this
    have hd' : Data.seq _ _ = Data.seq items.toArray ne := hd
    injection hd' with h1 h2
    rw [hg, h1]
end Mine
open Mine
set_option maxHeartbeats 8000000 in
theorem PySem.Challenge.cw_md0019_05_holds : PySem.Challenge.rw_md0019_05.Holds := by
  w_on
  o_law
  refine holds_open (q := vw) (loose := vl) (Xt := fun s => xlAt vw vv s && recOk (RowW.records PySem.Challenge.rw_md0019_05.row.toRowW) s) (XP := XL vw vv) (Yf := Hook.obs (kHook KF KA KA_is)) (Ya := Hook.val (kHook KF KA KA_is)) (YP := Hook.says (kHook KF KA KA_is)) (N := 4684)
    left_is (Hook.of (kHook KF KA KA_is)) (Hook.keeps (kHook KF KA KA_is)) (fun s e => xl_of s (Bool.and_eq_true_iff.mp e).1) XL.keeps (by rfl) (by rfl) (by rfl) (fun s e => recFacts_of (Bool.and_eq_true_iff.mp e).2) (by rfl) (by first | assumption | decide +kernel) (by decide +kernel) ⟨rfl, rfl, rfl, rfl, rfl, by decide +kernel⟩ ?hw ?hc
  case hw => w_witness2
  intro w s₀ s₁ mg mb G Y fa o pm cd doc dV kV ho hd hcd hD hmg hg args vals as hpre hlay hrd hwl hlo
  have KX := kIn_of Y
  refine Ground.open G ?_
  intro T B D TE TW
  clear hD TE TW B hd ho hcd Y D
  have hfa : fa = g_law := by
    have q := mg_of (n := Str.ofString "law") (v := .ref g_law) KX T.g (by kernel_rfl)
    have hmg' : mg (Str.ofString "law") = some (.ref fa) := hmg
    rw [q] at hmg'
    cases hmg'
    rfl
  clear hmg G
  subst hfa
  wrow_args hpre hlay hrd hwl hlo
  rename_i script hs hlay0 hL1 hr1 hl2 as4 as3 S items as0 hL ra w1 r0 hI hr hcond hcond2
  have hS := list_of_well hL w1 rfl
  obtain ⟨hp, gs, dr, tk, os⟩ := s₁
  dsimp only at hg hS KX T
  show wpAny _ _ (call (.ref g_law) [.ref S]) _ _ _
  refine law_spec ⟨KX, T.g, T.b, T.nolimit, T.builtins⟩ hS hI (by omega) (by decide) (by decide) rfl rfl ?_
  intro h' tk' e
  refine GoodW.toG ⟨.inl ⟨.bool true, .bool true, [], rfl, ?_, .bool true, ?_, unshared_nil⟩, e, rfl, hg⟩
  · intro cls
    rfl
  · kernel_rfl
