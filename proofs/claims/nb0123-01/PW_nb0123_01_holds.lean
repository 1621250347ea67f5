import PyProof.Rows.All
import Wide.All
import OpenK.AllK
import Wide.FinOn
import PySem.Challenge.RW_nb0123_01
open PySem PySem.W PyProof.Rows
set_option Elab.async false
set_option maxRecDepth 100000
set_option maxHeartbeats 8000000
namespace Mine
open_top hd for PySem.Challenge.rw_nb0123_01
end Mine

open PySem PySem.W PyProof.Rows PySem.Calls
namespace Mine

/-- the program -/
abbrev PR : Program := PySem.Challenge.pw_nb0123_01

/-- what is known of the top -/
structure TopOk (w : World) (h : Heap) : Prop where
  K : (hd.heap_39 w.params).In h
  g : ∃ mg, h.Ns mainGlobals mg
  b : ∃ mb, h.Ns builtinsNs mb ∧ ∀ x : Str, x ≠ "__name__" → mb x = bootBuiltins x
  lim : h.NoLimit
theorem TopOk.keeps {w : World} {h h' : Heap} (T : TopOk w h) (hk : ∀ b o, h.get? b = some o → h'.get? b = some o) : TopOk w h' :=
  ⟨T.K.keeps hk, T.g.imp fun _ x => x.keeps hk, T.b.imp fun _ x => ⟨x.1.keeps hk, x.2⟩, T.lim.keeps hk⟩

/-- a step that keeps every object -/
structure Ext (s s' : Shared) : Prop where
  heap : ∀ b o, s.heap.get? b = some o → s'.heap.get? b = some o
  os : s'.os = s.os
  bare : AllBare s.gens → AllBare s'.gens
theorem Ext.refl (s : Shared) : Ext s s := ⟨fun _ _ e => e, rfl, fun h => h⟩
theorem Ext.trans {s s' s'' : Shared} (x : Ext s s') (y : Ext s' s'') : Ext s s'' :=
  ⟨fun b o e => y.heap b o (x.heap b o e), y.os.trans x.os, fun h => y.bare (x.bare h)⟩

/-- the state inside a frame: the objects of the top are kept (b0), those of a snapshot (base) but for some (ex), the locals at L are m,
    and the objects of led are as written, all apart -/
structure Fm (w : World) (os₀ : OsState) (b0 base : Heap) (ex : List Addr) (L : Addr) (m : Str → Option Value) (led : List (Addr × Obj)) (s : Shared) : Prop where
  top : TopOk w b0
  keep0 : ∀ b o, b0.get? b = some o → s.heap.get? b = some o
  keep : ∀ b o, base.get? b = some o → b ∉ ex → s.heap.get? b = some o
  sep0 : ∀ a ∈ L :: led.map (·.1), b0.get? a = none
  sep : ∀ a ∈ L :: led.map (·.1), base.get? a = none ∨ a ∈ ex
  ns : s.heap.Ns L m
  own : ∀ p ∈ led, s.heap.get? p.1 = some p.2
  nodup : (L :: led.map (·.1)).Nodup
  os : s.os = os₀
  bare : AllBare s.gens

theorem size_upd (h : Heap) (a : Addr) (f : Obj → Obj) : (h.update a f).objs.size = h.objs.size := (Heap.SameBut.update h a f).1
theorem size_psh (h : Heap) (o : Obj) : (h.push o).objs.size = h.objs.size + 1 := by cases h; simp [Heap.push]

section
variable {w : World} {os₀ : OsState} {b0 base : Heap} {ex : List Addr} {L : Addr} {m : Str → Option Value} {led : List (Addr × Obj)} {s s' : Shared}

theorem Fm.topNow (F : Fm w os₀ b0 base ex L m led s) : TopOk w s.heap := F.top.keeps F.keep0
theorem Fm.new0 (F : Fm w os₀ b0 base ex L m led s) : b0.get? s.heap.objs.size = none := by
  cases q : b0.get? s.heap.objs.size with
  | none => rfl
  | some o => exact absurd (Heap.lt_size (F.keep0 _ _ q)) (Nat.lt_irrefl _)
theorem Fm.newB (F : Fm w os₀ b0 base ex L m led s) : base.get? s.heap.objs.size = none ∨ s.heap.objs.size ∈ ex := by
  cases q : base.get? s.heap.objs.size with
  | none => exact .inl rfl
  | some o =>
    by_cases hm : s.heap.objs.size ∈ ex
    · exact .inr hm
    · exact absurd (Heap.lt_size (F.keep _ _ q hm)) (Nat.lt_irrefl _)
theorem Fm.newL (F : Fm w os₀ b0 base ex L m led s) : s.heap.objs.size ∉ L :: led.map (·.1) := by
  intro hm
  rcases List.mem_cons.mp hm with e | hm
  · exact absurd F.ns.lt (e ▸ Nat.lt_irrefl _)
  · obtain ⟨p, hp, e⟩ := List.mem_map.mp hm
    exact absurd (Heap.lt_size (F.own p hp)) (e ▸ Nat.lt_irrefl _)
/-- everything else stays -/
theorem Fm.ext (F : Fm w os₀ b0 base ex L m led s) (x : Ext s s') : Fm w os₀ b0 base ex L m led s' :=
  ⟨F.top, fun b o e => x.heap b o (F.keep0 b o e), fun b o e n => x.heap b o (F.keep b o e n), F.sep0, F.sep, F.ns.keeps x.heap, fun p hp => x.heap _ _ (F.own p hp), F.nodup, x.os.trans F.os, x.bare F.bare⟩
theorem Fm.tok (F : Fm w os₀ b0 base ex L m led s) (t : Nat) : Fm w os₀ b0 base ex L m led { s with toks := t } :=
  F.ext ⟨fun _ _ e => e, rfl, fun h => h⟩
theorem Ext.tok (s : Shared) (t : Nat) : Ext s { s with toks := t } := ⟨fun _ _ e => e, rfl, fun h => h⟩
theorem Ext.push (s : Shared) (o : Obj) : Ext s { s with heap := s.heap.push o } :=
  ⟨fun _ _ e => Heap.get?_push_of_some o e, rfl, fun h => h⟩
theorem Fm.push (F : Fm w os₀ b0 base ex L m led s) (o : Obj) (hf : o.isFreed = false) : Fm w os₀ b0 base ex L m ((s.heap.objs.size, o) :: led) { s with heap := s.heap.push o } := by
  have G := F.ext (Ext.push s o)
  have mem : ∀ a ∈ L :: ((s.heap.objs.size, o) :: led).map (·.1), a = s.heap.objs.size ∨ a ∈ L :: led.map (·.1) := by
    intro a ha
    rcases List.mem_cons.mp ha with rfl | ha
    · exact .inr (.head _)
    · rcases List.mem_cons.mp ha with rfl | ha
      · exact .inl rfl
      · exact .inr (.tail _ ha)
  refine ⟨G.top, G.keep0, G.keep, fun a ha => ?_, fun a ha => ?_, G.ns, fun p hp => ?_, ?_, G.os, G.bare⟩
  · rcases mem a ha with rfl | ha
    · exact F.new0
    · exact F.sep0 a ha
  · rcases mem a ha with rfl | ha
    · exact F.newB
    · exact F.sep a ha
  · rcases List.mem_cons.mp hp with rfl | hp
    · exact Heap.get?_push_size _ hf
    · exact G.own p hp
  · have nl := F.newL
    have nd := F.nodup
    rw [List.nodup_cons] at nd
    rw [List.map_cons, List.nodup_cons, List.nodup_cons, List.mem_cons]
    refine ⟨fun h => ?_, fun h => nl (.tail _ h), nd.2⟩
    rcases h with h | h
    · exact nl (h ▸ .head _)
    · exact nd.1 h
/-- the ledger may be shortened -/
theorem Fm.sub {led' : List (Addr × Obj)} (F : Fm w os₀ b0 base ex L m led s) (h : List.Sublist led' led) : Fm w os₀ b0 base ex L m led' s := by
  have hs : List.Sublist (L :: led'.map (·.1)) (L :: led.map (·.1)) := (h.map _).cons_cons _
  exact ⟨F.top, F.keep0, F.keep, fun a ha => F.sep0 a (hs.subset ha), fun a ha => F.sep a (hs.subset ha), F.ns, fun p hp => F.own p (h.subset hp), F.nodup.sublist hs, F.os, F.bare⟩
theorem Fm.perm {led' : List (Addr × Obj)} (F : Fm w os₀ b0 base ex L m led s) (h : List.Perm led' led) : Fm w os₀ b0 base ex L m led' s := by
  have hs : List.Perm (L :: led'.map (·.1)) (L :: led.map (·.1)) := (h.map _).cons _
  exact ⟨F.top, F.keep0, F.keep, fun a ha => F.sep0 a (hs.mem_iff.mp ha), fun a ha => F.sep a (hs.mem_iff.mp ha), F.ns, fun p hp => F.own p (h.mem_iff.mp hp), hs.nodup_iff.mpr F.nodup, F.os, F.bare⟩
theorem Fm.tail {p : Addr × Obj} (F : Fm w os₀ b0 base ex L m (p :: led) s) : Fm w os₀ b0 base ex L m led s := F.sub (List.sublist_cons_self _ _)
theorem Fm.get {a : Addr} {o : Obj} (F : Fm w os₀ b0 base ex L m led s) (h : (a, o) ∈ led) : s.heap.get? a = some o := F.own _ h
/-- some objects of the ledger are changed -/
theorem Fm.move {gl gl' : List (Addr × Obj)} (F : Fm w os₀ b0 base ex L m (led ++ gl) s) (hk : ∀ b o, b ∉ gl.map (·.1) → s.heap.get? b = some o → s'.heap.get? b = some o)
    (ha : gl'.map (·.1) = gl.map (·.1)) (hg : ∀ p ∈ gl', s'.heap.get? p.1 = some p.2) (hos : s'.os = s.os) (hb : AllBare s'.gens) : Fm w os₀ b0 base ex L m (led ++ gl') s' := by
  have em : (led ++ gl').map (·.1) = (led ++ gl).map (·.1) := by simp [ha]
  have am : ∀ a ∈ gl.map (·.1), a ∈ L :: (led ++ gl).map (·.1) := fun a h => List.mem_cons_of_mem _ (by rw [List.map_append]; exact List.mem_append.mpr (.inr h))
  have nd := F.nodup
  rw [List.nodup_cons, List.map_append] at nd
  have nL : L ∉ gl.map (·.1) := fun h => nd.1 (List.mem_append.mpr (.inr h))
  have n1 : ∀ p ∈ led, p.1 ∉ gl.map (·.1) := fun p hp h => (List.nodup_append.mp nd.2).2.2 p.1 (List.mem_map_of_mem hp) p.1 h rfl
  refine ⟨F.top, fun b o e => ?_, fun b o e n => ?_, by rw [em]; exact F.sep0, by rw [em]; exact F.sep, ?_, fun p hp => ?_, by rw [em]; exact F.nodup, hos.trans F.os, hb⟩
  · refine hk b o (fun h => ?_) (F.keep0 b o e)
    have := F.sep0 b (am b h)
    rw [e] at this; cases this
  · refine hk b o (fun h => ?_) (F.keep b o e n)
    rcases F.sep b (am b h) with h | h
    · rw [e] at h; cases h
    · exact n h
  · exact F.ns.at' fun o e => hk L o nL e
  · rcases List.mem_append.mp hp with hp | hp
    · exact hk _ _ (n1 p hp) (F.own p (List.mem_append.mpr (.inl hp)))
    · exact hg p hp
/-- some objects of the ledger are lost -/
theorem Fm.lose {gl : List (Addr × Obj)} (F : Fm w os₀ b0 base ex L m (led ++ gl) s) (hk : ∀ b o, b ∉ gl.map (·.1) → s.heap.get? b = some o → s'.heap.get? b = some o)
    (hos : s'.os = s.os) (hb : AllBare s'.gens) : Fm w os₀ b0 base ex L m led s' := by
  have am : ∀ a ∈ gl.map (·.1), a ∈ L :: (led ++ gl).map (·.1) := fun a h => List.mem_cons_of_mem _ (by rw [List.map_append]; exact List.mem_append.mpr (.inr h))
  have nd := F.nodup
  rw [List.nodup_cons, List.map_append] at nd
  have nL : L ∉ gl.map (·.1) := fun h => nd.1 (List.mem_append.mpr (.inr h))
  have n1 : ∀ p ∈ led, p.1 ∉ gl.map (·.1) := fun p hp h => (List.nodup_append.mp nd.2).2.2 p.1 (List.mem_map_of_mem hp) p.1 h rfl
  have G := F.sub (List.sublist_append_left led gl)
  refine ⟨F.top, fun b o e => ?_, fun b o e n => ?_, G.sep0, G.sep, ?_, fun p hp => ?_, G.nodup, hos.trans F.os, hb⟩
  · refine hk b o (fun h => ?_) (F.keep0 b o e)
    have := F.sep0 b (am b h)
    rw [e] at this; cases this
  · refine hk b o (fun h => ?_) (F.keep b o e n)
    rcases F.sep b (am b h) with h | h
    · rw [e] at h; cases h
    · exact n h
  · exact F.ns.at' fun o e => hk L o nL e
  · exact hk _ _ (n1 p hp) (F.own p (List.mem_append.mpr (.inl hp)))
/-- an object of the ledger is changed -/
theorem Fm.put {l1 l2 : List (Addr × Obj)} {a : Addr} {o o' : Obj} {h' : Heap} (F : Fm w os₀ b0 base ex L m (l1 ++ (a, o) :: l2) s) (hs : Heap.SameBut a s.heap h') (hg : h'.get? a = some o') :
    Fm w os₀ b0 base ex L m (l1 ++ (a, o') :: l2) { s with heap := h' } := by
  have p1 : ∀ x : Obj, List.Perm (l1 ++ (a, x) :: l2) ((l1 ++ l2) ++ [(a, x)]) := fun x => by
    rw [List.append_assoc]
    exact List.Perm.append_left _ (List.perm_append_singleton _ _).symm
  refine ((F.perm (p1 o).symm).move (gl' := [(a, o')]) (s' := { s with heap := h' }) (fun b o e h => ?_) rfl (fun p hp => ?_) rfl F.bare).perm (p1 o')
  · exact (hs.2 b (fun q => e (by simp [q]))).trans h
  · rw [List.mem_singleton.mp hp]; exact hg
/-- a local is stored -/
theorem Fm.set {m' : Str → Option Value} {h' : Heap} (F : Fm w os₀ b0 base ex L m led s) (hs : Heap.SameBut L s.heap h') (hn : h'.Ns L m') (t : Nat) : Fm w os₀ b0 base ex L m' led { s with heap := h', toks := t } := by
  refine ⟨F.top, fun b o e => ?_, fun b o e n => ?_, F.sep0, F.sep, hn, fun p hp => ?_, F.nodup, F.os, F.bare⟩
  · refine (hs.2 b ?_).trans (F.keep0 b o e)
    rintro rfl
    have := F.sep0 b (.head _)
    rw [e] at this; cases this
  · refine (hs.2 b ?_).trans (F.keep b o e n)
    rintro rfl
    rcases F.sep b (.head _) with h | h
    · rw [e] at h; cases h
    · exact n h
  · refine (hs.2 _ ?_).trans (F.own p hp)
    intro e
    have nd := F.nodup
    rw [List.nodup_cons] at nd
    have h1 : p.1 ∈ led.map (·.1) := List.mem_map_of_mem hp
    rw [e] at h1
    exact nd.1 h1
/-- the snapshot is taken anew -/
theorem Fm.rebase (F : Fm w os₀ b0 base ex L m led s) : Fm w os₀ b0 s.heap (L :: led.map (·.1)) L m led s :=
  ⟨F.top, F.keep0, fun _ _ e _ => e, F.sep0, fun _ ha => .inr ha, F.ns, F.own, F.nodup, F.os, F.bare⟩
/-- what of an older snapshot is in a newer one -/
def Sub (e : Heap) (x : List Addr) (base : Heap) (ex : List Addr) : Prop := ∀ b o, e.get? b = some o → b ∉ x → base.get? b = some o ∧ b ∉ ex
theorem Sub.refl (base : Heap) (ex : List Addr) : Sub base ex base ex := fun _ _ e n => ⟨e, n⟩
theorem Sub.rebase {e : Heap} {x : List Addr} (S : Sub e x base ex) (F : Fm w os₀ b0 base ex L m led s) : Sub e x s.heap (L :: led.map (·.1)) := by
  intro b o h n
  obtain ⟨h1, h2⟩ := S b o h n
  refine ⟨F.keep b o h1 h2, fun hm => ?_⟩
  rcases F.sep b hm with h3 | h3
  · rw [h1] at h3; cases h3
  · exact h2 h3
theorem Sub.now {e : Heap} {x : List Addr} (S : Sub e x base ex) (F : Fm w os₀ b0 base ex L m led s) : ∀ b o, e.get? b = some o → b ∉ x → s.heap.get? b = some o := fun b o h n => F.keep b o (S b o h n).1 (S b o h n).2
end

/-- a map with one name more -/
def upd (m : Str → Option Value) (x : Str) (v : Value) : Str → Option Value := fun y => if y = x then some v else m y
theorem upd_self (m : Str → Option Value) (x : Str) (v : Value) : upd m x v x = some v := by simp [upd]
theorem upd_ne {m : Str → Option Value} {x y : Str} {v : Value} (h : y ≠ x) : upd m x v y = m y := by simp [upd, h]

section
variable {w : World} {os₀ : OsState} {b0 base : Heap} {ex : List Addr} {m : Str → Option Value} {led : List (Addr × Obj)} {s : Shared} {env : Env} {A : Around} {E : Value → Shared → Prop} {M : Model}

theorem rNm {x : Str} {pos : Pos} {v : Value} {Q : Value → Shared → Prop} (F : Fm w os₀ b0 base ex env.locals m led s) (hv : m x = some v) (h : Q v s)
    (hk : env.scope.kind = .function := by rfl) (hl : env.kindOf x = some .local := by rfl) (hd : (x == ("__debug__" : Str)) = false := by decide) : wpAny M A (eval (.Name x pos) env) Q E s :=
  wpAny_Name (wpAny_loadName_local hk hl F.ns hv h) hd
theorem rLd {x : Str} {v : Value} {Q : Value → Shared → Prop} (F : Fm w os₀ b0 base ex env.locals m led s) (hv : m x = some v) (h : Q v s)
    (hk : env.scope.kind = .function := by rfl) (hl : env.kindOf x = some .local := by rfl) : wpAny M A (loadName env x) Q E s := wpAny_loadName_local hk hl F.ns hv h
theorem rSt {x : Str} {v : Value} {Q : Unit → Shared → Prop} (F : Fm w os₀ b0 base ex env.locals m led s)
    (h : ∀ s', Fm w os₀ b0 base ex env.locals (upd m x v) led s' → s'.gens = s.gens → Q () s')
    (hk : env.scope.kind = .function := by rfl) (hl : env.kindOf x = some .local := by rfl) : wpAny M A (storeName env x v) Q E s :=
  wpAny_storeName_local hl F.ns (fun h' hn hs => h _ (F.set hs hn _) rfl) (by rw [hk]; rfl)
theorem TopOk.glob {h : Heap} (T : TopOk w h) {x : Str} {v : Value} (e : nsIn (hd.heap_39 w.params) mainGlobals x = some (some v)) : ∃ mg, h.Ns mainGlobals mg ∧ mg x = some v := by
  obtain ⟨mg, hg⟩ := T.g
  exact ⟨mg, hg, mg_of T.K hg e⟩
theorem rGlob {x : Str} {pos : Pos} {v : Value} {L : Addr} {Q : Value → Shared → Prop} (F : Fm w os₀ b0 base ex L m led s) (e : nsIn (hd.heap_39 w.params) mainGlobals x = some (some v)) (h : Q v s)
    (hk : env.scope.kind = .function := by rfl) (hg : env.globals = mainGlobals := by rfl) (hx : env.kindOf x = some .globalImplicit := by rfl) (hd : (x == ("__debug__" : Str)) = false := by decide) : wpAny M A (eval (.Name x pos) env) Q E s := by
  obtain ⟨mg, h1, h2⟩ := F.topNow.glob e
  exact Name_function_global hk hx (loadGlobal_global (hg ▸ h1) h2 h) hd
theorem rBlt {x : Str} {pos : Pos} {v : Value} {L : Addr} {Q : Value → Shared → Prop} (F : Fm w os₀ b0 base ex L m led s) (e : nsIn (hd.heap_39 w.params) mainGlobals x = some none) (hv : bootBuiltins x = some v) (h : Q v s)
    (hn : x ≠ "__name__" := by decide) (hk : env.scope.kind = .function := by rfl) (hg : env.globals = mainGlobals := by rfl) (hb : env.builtins = builtinsNs := by rfl) (hx : env.kindOf x = some .globalImplicit := by rfl) (hd : (x == ("__debug__" : Str)) = false := by decide) : wpAny M A (eval (.Name x pos) env) Q E s := by
  obtain ⟨mg, h1⟩ := F.topNow.g
  obtain ⟨mb, h2, h3⟩ := F.topNow.b
  exact Name_function_global hk hx (loadGlobal_builtin (hg ▸ h1) (mg_none_of F.topNow.K h1 e) (hb ▸ h2) ((h3 x hn).trans hv) h) hd
theorem rInt {i : Int} {k : Nat} {pos : Pos} {L : Addr} {Q : Value → Shared → Prop} (F : Fm w os₀ b0 base ex L m led s) (h : ∀ t s', Fm w os₀ b0 base ex L m led s' → s'.gens = s.gens → Q (.int i t) s') : wpAny M A (eval (.Constant (.int i) k pos) env) Q E s :=
  wpAny_Constant_int (h _ _ (F.tok _) rfl)
theorem rStr {x : Str} {k : Nat} {pos : Pos} {L : Addr} {Q : Value → Shared → Prop} (F : Fm w os₀ b0 base ex L m led s) (h : ∀ t s', Fm w os₀ b0 base ex L m led s' → s'.gens = s.gens → Q (.str x t) s') : wpAny M A (eval (.Constant (.str x) k pos) env) Q E s :=
  wpAny_Constant_str (h _ _ (F.tok _) rfl)
theorem extBut_new {s : Shared} {h' : Heap} (hx : Heap.ExtBut s.heap.objs.size s.heap h') : Ext s { s with heap := h' } :=
  ⟨fun b o e => hx b o (Nat.ne_of_lt (Heap.lt_size e)) e, rfl, fun h => h⟩
theorem rUnpack2 {prog : Program} {x₁ x₂ : Str} {p₁ p₂ pos : Pos} {k : Nat} {a : Addr} {v₁ v₂ : Value} {Q : Unit → Shared → Prop} (hh : A.handled = none) (F : Fm w os₀ b0 base ex env.locals m led s) (ht : s.heap.IsTuple a #[v₁, v₂])
    (h : ∀ s', Fm w os₀ b0 base ex env.locals (upd (upd m x₁ v₁) x₂ v₂) led s' → s'.gens = s.gens → Q () s')
    (hk : env.scope.kind = .function := by rfl) (h₁ : env.kindOf x₁ = some .local := by rfl) (h₂ : env.kindOf x₂ = some .local := by rfl) :
    wpAny (model prog w) A (assign (.Tuple [.Name x₁ p₁, .Name x₂ p₂] k pos) env (.ref a)) Q E s := by
  refine wpAny_assign_Tuple hh ht rfl rfl fun h' hx => ?_
  have F₁ := F.ext (extBut_new hx)
  show wpAny _ A (do holding [v₂] (assign (.Name x₁ p₁) env v₁); do holding [] (assign (.Name x₂ p₂) env v₂); pure ()) _ _ _
  refine wpAny_bind (wpAny_holding (wpAny_assign_Name (rSt F₁ (fun s₂ F₂ g₂ => ?_) hk h₁)))
  refine wpAny_bind (wpAny_holding (wpAny_assign_Name (rSt F₂ (fun s₃ F₃ g₃ => wpAny_pure (h s₃ F₃ (g₃.trans g₂))) hk h₂)))
theorem rTuple2 {e₁ e₂ : Expr} {k : Nat} {pos : Pos} {Q : Value → Shared → Prop}
    (h : wpAny M A (eval e₁ env) (fun v₁ s₁ => wpAny M A (eval e₂ env) (fun v₂ s₂ => Q (.ref s₂.heap.objs.size) { s₂ with heap := s₂.heap.push { cls := .type "tuple", data := .seq #[v₁, v₂] } }) E s₁) E s)
    (h1 : starEach [e₁, e₂] env = (false, eval e₁ env) :: starEach [e₂] env := by rfl) (h2 : starEach [e₂] env = (false, eval e₂ env) :: starEach [] env := by rfl) :
    wpAny M A (eval (.Tuple [e₁, e₂] k pos) env) Q E s :=
  Tuple_ (wpAny_items_cons (wpAny_mono h (fun v₁ s₁ x => wpAny_items_cons (wpAny_mono x (fun v₂ s₂ y => wpAny_items_nil (wpAny_newTuple y)) fun _ _ z => z) h2) fun _ _ z => z) h1)
end
end Mine

open PySem PySem.W PyProof.Rows PySem.Calls PySem.W.X
namespace Mine
noncomputable def fdAt (P : Params) (a : Addr) : FuncData := match (hd.heap_39 P).lookup a with | some ⟨_, _, .func fd, _⟩ => fd | _ => default
def bodyOf : FuncBody → List Stmt | .stmts b => b | _ => []
noncomputable def bodyAt (P : Params) (a : Addr) : List Stmt := bodyOf (fdAt P a).body
def nth (l : List Stmt) (i : Nat) : Stmt := l.getD i (.Pass ⟨0,0,0,0⟩)
def forT : Stmt → Expr | .For t _ _ _ _ => t | _ => .Name "" ⟨0,0,0,0⟩
def forB : Stmt → List Stmt | .For _ _ b _ _ => b | _ => []

section
variable {prog : Program} {w : World} {A : Around} {c : Code} {fs : List Frame} {s : Shared} {P : End → Shared → Prop} {env : Env} {H : Value → Sem Fin} {gd : Bool → Bool} {lv : List Value → List Value}

theorem sxWrap {α : Type} {m : Sem α} {K : α → Sem Fin} (h : wpAny (model prog w) (A.over c fs) m (fun a s' => SegX (model prog w) A c (K a) fs s' P) (fun _ _ => False) s) :
    SegX (model prog w) A c (m.wrap K H gd lv) fs s P := by
  rintro Γ p rfl hΓ
  exact runs_wrap_of_wp (Φ := fun e s' => e.quiet = true ∧ P e s') K H gd lv m (h (Γ.over fs) p (hΓ.over fs)) (fun a p' s' h' => h' Γ p' rfl hΓ) (fun _ _ _ h' => h'.elim)
theorem sxBind {α β : Type} {m : Sem α} {f : α → Sem β} {K : β → Sem Fin} (h : wpAny (model prog w) (A.over c fs) m (fun a s' => SegX (model prog w) A c ((f a).wrap K H gd lv) fs s' P) (fun _ _ => False) s) :
    SegX (model prog w) A c ((m >>= f).wrap K H gd lv) fs s P := by
  rw [Sem.bind_eq_wrap', Sem.wrap_wrap]; exact sxWrap h
theorem sxCons {st : Stmt} {rest : List Stmt} {K : Flow → Sem Fin}
    (h : SegX (model prog w) A c ((exec st env).wrap (fun f => match f with | .next => (execs rest env).wrap K H gd lv | f => K f) H gd lv) fs s P) :
    SegX (model prog w) A c ((execs (st :: rest) env).wrap K H gd lv) fs s P := by rw [execs_cons_wrap]; exact h
theorem sxNil {K : Flow → Sem Fin} (h : SegX (model prog w) A c (K .next) fs s P) : SegX (model prog w) A c ((execs [] env).wrap K H gd lv) fs s P := h
theorem sxIf {test : Expr} {body orelse : List Stmt} {pos : Pos} {K : Flow → Sem Fin}
    (h : wpAny (model prog w) (A.over c fs) (isTrue test env (eval test env)) (fun b s' => if b = true then SegX (model prog w) A c ((execs body env).wrap K H gd lv) fs s' P else SegX (model prog w) A c ((execs orelse env).wrap K H gd lv) fs s' P) (fun _ _ => False) s) :
    SegX (model prog w) A c ((exec (.If test body orelse pos) env).wrap K H gd lv) fs s P := by
  rw [exec_If]
  refine sxBind (wpAny_standAt (sxBind (wpAny_mono h (fun b s' hb => ?_) fun _ _ x => x)))
  cases b with
  | true => simpa using hb
  | false => simpa using hb
theorem sxYield {e : Expr} {ypos pos : Pos} {K : Flow → Sem Fin} (hfs : splitAtGen fs = none) (hgd : gd false = false) (hfg : fs.any Frame.guarded = false)
    (h : wpAny (model prog w) (A.over c fs) (eval e env) (fun v s' => ∀ l k p, (∀ P' s'', SegX (model prog w) A c (K .next) fs s'' P' → SegX (model prog w) A c (k (.send .none)) fs s'' P') → P (.susp v false l k c p fs) s') (fun _ _ => False) s)
    (hco : env.scope.isCoroutine = false := by rfl) (hi : interactive env = false := by rfl) :
    SegX (model prog w) A c ((exec (.Expr (.Yield (some e) ypos) pos) env).wrap K H gd lv) fs s P := by
  rw [exec_Expr env _ pos hi rfl]
  have hy : ∀ v, yieldOut env v = yieldValue v := fun v => by simp only [yieldOut, hco, Bool.false_eq_true, if_false]
  have ee : eval (.Yield (some e) ypos) env = (eval e env >>= fun v => (standAt ypos >>= fun _ => yieldOut env v)) := rfl
  rw [ee]
  simp only [hy]
  refine sxBind (wpAny_standAt ?_)
  rw [Sem.bind_eq_wrap', Sem.bind_eq_wrap', Sem.wrap_wrap, Sem.wrap_wrap]
  refine sxWrap (wpAny_mono h (fun v s' h' => ?_) fun _ _ x => x)
  refine s_skim prog w A c fs P s' _ 1 ?_
  show SegX (model prog w) A c (.yield v (gd false) _ _) fs s' P
  rw [hgd]
  exact s_yield prog w A c fs P s' v _ _ hfs hfg fun p => h' _ _ p fun P' s'' hx => hx
theorem sxFor {target iter : Expr} {body orelse : List Stmt} {pos : Pos} {K : Flow → Sem Fin}
    (h : wpAny (model prog w) (A.over c fs) (eval iter env) (fun x s₁ => wpAny (model prog w) (A.over c fs) (pyIter x) (fun it s₂ =>
      ∀ (KK : Result → Sem Fin) l p, (∀ f, KK (.ok f) = K f) → SegX (model prog w) A (.forLoop target it body orelse env) (denote table (.forLoop target it body orelse env)) (.ret KK none (gd false) l c p [] :: fs) s₂ P) (fun _ _ => False) s₁) (fun _ _ => False) s)
    (hs : ∀ x, foldedSetIterable iter env x = pure x := by intro _; rfl) :
    SegX (model prog w) A c ((exec (.For target iter body orelse pos) env).wrap K H gd lv) fs s P := by
  rw [exec_For]
  refine sxBind (wpAny_standAt (sxBind (wpAny_mono h (fun x s₁ h₁ => ?_) fun _ _ x => x)))
  refine sxBind (wpAny_of_eq (hs x) (sxBind (wpAny_standAt (sxBind (wpAny_holding (wpAny_mono h₁ (fun it s₂ h₂ => ?_) fun _ _ x => x))))))
  exact s_call prog w A c fs P s₂ _ none (gd false) _ _ fun p => h₂ _ _ p fun f => rfl
/-- a turn of a loop inside a generator -/
theorem sxLoop {target : Expr} {it : Value} {body : List Stmt}
    (h : wpAny (model prog w) (A.over (.forLoop target it body [] env) fs) (pyNext it) (fun r s₁ => match r with
      | none => SegX (model prog w) A (.block [] env) (.pure (.done .next)) fs s₁ P
      | some v => wpAny (model prog w) (A.over (.forLoop target it body [] env) fs) (letOwnedTupleGo target it v) (fun _ s₂ => wpAny (model prog w) (A.over (.forLoop target it body [] env) fs) (assign target env v) (fun _ s₃ =>
          ∀ (KB : Flow → Sem Fin) HB, (KB .next = .pure (.again (.forLoop target it body [] env))) → SegX (model prog w) A (.forLoop target it body [] env) ((execs body env).wrap KB HB id id) fs s₃ P) (fun _ _ => False) s₂) (fun _ _ => False) s₁) (fun _ _ => False) s) :
    SegX (model prog w) A (.forLoop target it body [] env) (denote table (.forLoop target it body [] env)) fs s P := by
  show SegX (model prog w) A _ ((forTurn target it body [] env).onRaise (fun x => do noteFrame x env; theTreesLotGoes x)) fs s P
  unfold forTurn
  rw [Sem.onRaise_eq_wrap]
  refine sxBind (wpAny_standAt (sxBind (wpAny_onRaise (wpAny_mono h (fun r s₁ h₁ => ?_) fun _ _ x => x.elim))))
  cases r with
  | none => exact s_again prog w A _ fs P s₁ _ rfl h₁
  | some v =>
    refine sxBind (wpAny_mono h₁ (fun _ s₂ h₂ => sxBind (wpAny_mono h₂ (fun _ s₃ h₃ => ?_) fun _ _ x => x)) fun _ _ x => x)
    rw [Sem.bind_eq_wrap', Sem.wrap_wrap]
    exact h₃ _ _ rfl
end
end Mine

namespace Mine
/-- what the generator tells: place and sign, by the next place, the flag and the signs left -/
def escItems (pos : Nat) : Bool → List Nat → List (Nat × List Nat)
  | false, [] => []
  | true, [] => [(pos - 1, [92])]
  | true, c :: r => (pos, [92, c]) :: escItems (pos + 1) false r
  | false, c :: r => if c = 92 then escItems (pos + 1) true r else (pos, [c]) :: escItems (pos + 1) false r
abbrev Item := Nat × List Nat
def IsItem (h : Heap) (a : Addr) (x : Item) : Prop := ∃ t u, h.IsTuple a #[.int x.1 t, .str ⟨x.2.toArray⟩ u]

def Woke (w : World) (A : Around) (gs : GenState) (s : Shared) (P : End → Shared → Prop) : Prop := match gs with
  | .fresh c => SegX (model PR w) A c (denote table c) [] s P
  | .suspended k _ c _ fs _ => SegX (model PR w) A c (k (.send .none)) fs s P
  | _ => False
def Framed (fp : List Addr) (I : Heap → Prop) : Prop := (∀ h h', I h → (∀ b ∈ fp, ∀ o, h.get? b = some o → h'.get? b = some o) → I h') ∧ ∀ h, I h → ∀ b ∈ fp, ∃ o, h.get? b = some o
structure GPre (w : World) (os₀ : OsState) (b0 : Heap) (fp : List Addr) (I : Heap → Prop) (s : Shared) : Prop where
  top : TopOk w b0
  keep0 : ∀ b o, b0.get? b = some o → s.heap.get? b = some o
  sep0 : ∀ b ∈ fp, b0.get? b = none
  nodup : fp.Nodup
  holds : I s.heap
  os : s.os = os₀
  bare : AllBare s.gens
def GPost (base : Heap) (ex : List Addr) (os : OsState) (g : Array GenState) (s' : Shared) : Prop := (∀ b o, base.get? b = some o → b ∉ ex → s'.heap.get? b = some o) ∧ s'.os = os ∧ s'.gens = g
def YPost (b0 : Heap) (R : List Addr → (Heap → Prop) → GenState → Prop) (x : Item) (base : Heap) (ex : List Addr) (os : OsState) (g : Array GenState) (e : End) (s' : Shared) : Prop :=
  GPost base ex os g s' ∧ ∃ a l k c p fs, e = .susp (.ref a) false l k c p fs ∧ IsItem s'.heap a x ∧ (base.get? a = none ∨ a ∈ ex) ∧
    ∃ fp' I', a ∉ fp' ∧ fp'.Nodup ∧ (∀ b ∈ fp', base.get? b = none ∨ b ∈ ex) ∧ (∀ b ∈ fp', b0.get? b = none) ∧ I' s'.heap ∧ R fp' I' e.genState
def EPost (base : Heap) (ex : List Addr) (os : OsState) (g : Array GenState) (e : End) (s' : Shared) : Prop := GPost base ex os g s' ∧ e = .ret (.ok (.ret .none))
/-- the generator g's state, by what it will still tell -/
def GenR (w : World) (A : Around) (os₀ : OsState) (b0 : Heap) : List Item → List Addr → (Heap → Prop) → GenState → Prop
  | [], fp, I, gs => Framed fp I ∧ ∀ s, GPre w os₀ b0 fp I s → Woke w A gs s (EPost s.heap fp os₀ s.gens)
  | x :: r, fp, I, gs => Framed fp I ∧ ∀ s, GPre w os₀ b0 fp I s → Woke w A gs s (YPost b0 (GenR w A os₀ b0 r) x s.heap fp os₀ s.gens)
def PostI (w : World) (A : Around) (os₀ : OsState) (b0 : Heap) (base : Heap) (ex : List Addr) (g : Array GenState) : List Item → End → Shared → Prop
  | [] => EPost base ex os₀ g
  | x :: r => YPost b0 (GenR w A os₀ b0 r) x base ex os₀ g
theorem GenR.intro {w : World} {A : Around} {os₀ : OsState} {b0 : Heap} {items : List Item} {fp : List Addr} {I : Heap → Prop} {gs : GenState} (hf : Framed fp I)
    (h : ∀ s, GPre w os₀ b0 fp I s → Woke w A gs s (PostI w A os₀ b0 s.heap fp s.gens items)) : GenR w A os₀ b0 items fp I gs := by
  cases items with
  | nil => exact ⟨hf, h⟩
  | cons x r => exact ⟨hf, h⟩
theorem GenR.elim {w : World} {A : Around} {os₀ : OsState} {b0 : Heap} {items : List Item} {fp : List Addr} {I : Heap → Prop} {gs : GenState} (R : GenR w A os₀ b0 items fp I gs) :
    Framed fp I ∧ ∀ s, GPre w os₀ b0 fp I s → Woke w A gs s (PostI w A os₀ b0 s.heap fp s.gens items) := by
  cases items with
  | nil => exact R
  | cons x r => exact R

def enumObj (it : Addr) (i : Int) (old : Value) : Obj := { cls := .type "enumerate", dict := none, data := .fields #[.none, .bool false, .ref it, rawInt i, .none, old], slots := #[] }
theorem drawsStr {prog : Program} {w : World} {A : Around} (hh : A.handled = none) (it : Addr) (x : Str) (t : Tok) :
    Draws prog w A it [it] x.cps.size (fun i v => ∃ c u, x.cps[i]? = some c ∧ v = .str ⟨#[c]⟩ u) (fun i h => h.IsStrIter it (strIterType x) x t i) := by
  cases ha : x.cps.all (· < 128)
  · simp only [strIterType, ha]; exact Draws.strWide hh it x t
  · simp only [strIterType, ha]; exact Draws.strAscii hh it x t

section
variable (w : World) (os₀ : OsState) (b0 : Heap) (x : Str) (t : Tok) (L e it : Addr)
/-- the generator's heap between two turns -/
def GI (i : Nat) (esc : Bool) (h : Heap) : Prop := ∃ m old oi, h.Ns L m ∧ h.get? e = some (enumObj it i old) ∧ h.get? it = some oi ∧ oi.cls = .type (strIterType x) ∧ oi.data = .fields #[.str x t, .int i 0] ∧
  m (Str.ofString "escape") = some (.bool esc) ∧ (i = 0 ∧ esc = false ∨ 0 < i ∧ ∃ u, m (Str.ofString "pos") = some (.int ((i - 1 : Nat) : Int) u))
theorem GI.framed (i : Nat) (esc : Bool) : Framed [L, e, it] (GI x t L e it i esc) := by
  refine ⟨fun h h' hI hk => ?_, fun h hI b hb => ?_⟩
  · obtain ⟨m, old, oi, h1, h2, h3, h4, h5, h6, h7⟩ := hI
    exact ⟨m, old, oi, h1.at' fun o q => hk L (by simp) o q, hk e (by simp) _ h2, hk it (by simp) _ h3, h4, h5, h6, h7⟩
  · obtain ⟨m, old, oi, ⟨o, _, _, h1, _⟩, h2, h3, _⟩ := hI
    simp only [List.mem_cons, List.not_mem_nil, or_false] at hb
    rcases hb with rfl | rfl | rfl
    · exact ⟨_, h1⟩
    · exact ⟨_, h2⟩
    · exact ⟨_, h3⟩
/-- the same with the frame's own facts -/
structure GLI (base : Heap) (ex : List Addr) (g : Array GenState) (i : Nat) (esc : Bool) (m : Str → Option Value) (old : Value) (oi : Obj) (s : Shared) : Prop where
  F : Fm w os₀ b0 base ex L m [(e, enumObj it i old), (it, oi)] s
  cls : oi.cls = .type (strIterType x)
  data : oi.data = .fields #[.str x t, .int i 0]
  hesc : m (Str.ofString "escape") = some (.bool esc)
  hpos : i = 0 ∧ esc = false ∨ 0 < i ∧ ∃ u, m (Str.ofString "pos") = some (.int ((i - 1 : Nat) : Int) u)
  gens : s.gens = g
variable {w os₀ b0 x t L e it}
theorem GLI.gi {base : Heap} {ex : List Addr} {g : Array GenState} {i : Nat} {esc : Bool} {m : Str → Option Value} {old : Value} {oi : Obj} {s : Shared} (Z : GLI w os₀ b0 x t L e it base ex g i esc m old oi s) : GI x t L e it i esc s.heap :=
  ⟨m, old, oi, Z.F.ns, Z.F.get (.head _), Z.F.get (.tail _ (.head _)), Z.cls, Z.data, Z.hesc, Z.hpos⟩
theorem GPre.gli {i : Nat} {esc : Bool} {s : Shared} (Z : GPre w os₀ b0 [L, e, it] (GI x t L e it i esc) s) : ∃ m old oi, GLI w os₀ b0 x t L e it s.heap [L, e, it] s.gens i esc m old oi s := by
  obtain ⟨m, old, oi, h1, h2, h3, h4, h5, h6, h7⟩ := Z.holds
  refine ⟨m, old, oi, ⟨Z.top, Z.keep0, fun _ _ q _ => q, Z.sep0, fun a ha => .inr ha, h1, fun p hp => ?_, Z.nodup, Z.os, Z.bare⟩, h4, h5, h6, h7, rfl⟩
  simp only [List.mem_cons, List.not_mem_nil, or_false] at hp
  rcases hp with rfl | rfl
  · exact h2
  · exact h3
end
end Mine

namespace Mine
noncomputable def gEnv (P : Params) (L : Addr) : Env := callEnv (fdAt P 21) L 21
noncomputable def gFor (P : Params) : Stmt := nth (bodyAt P 21) 2
noncomputable abbrev gLC (P : Params) (L e : Addr) : Code := .forLoop (forT (gFor P)) (.ref e) (forB (gFor P)) [] (gEnv P L)
noncomputable abbrev gFC (P : Params) (L : Addr) : Code := .func (bodyAt P 21) (gEnv P L)
theorem over_handled {A : Around} {c : Code} {KK : Result → Sem Fin} {g : Bool} {l : List Value} {c' : Code} {p : Pos} (hh : A.handled = none) : (A.over c [.ret KK none g l c' p []]).handled = none := by
  simp [Around.over, marksOver, Frame.marks, hh]; rfl
theorem esc_add (c : Nat) : (Str.ofString "\\" ++ (⟨#[c]⟩ : Str)) = ⟨[92, c].toArray⟩ := by rfl
theorem esc_eq (c : Nat) : ((⟨#[c]⟩ : Str) == Str.ofString "\\") = decide (c = 92) := by
  have : Str.ofString "\\" = ⟨#[92]⟩ := by rfl
  rw [this]
  by_cases h : c = 92
  · subst h; rfl
  · simp [h]

section
variable {w : World} {A : Around} {os₀ : OsState} {b0 : Heap} {x : Str} {t : Tok} {L e it : Addr}

theorem gEnd {KF : Flow → Sem Fin} {HF : Value → Sem Fin} (hKF : KF .next = .pure (.done (.ret .none))) {base : Heap} {ex : List Addr} {g : Array GenState} {m : Str → Option Value} {s : Shared} {i : Nat} {esc : Bool}
    (F : Fm w os₀ b0 base ex L m [] s) (hg : s.gens = g) (h1 : m (Str.ofString "escape") = some (.bool esc)) (h2 : i = 0 ∧ esc = false ∨ 0 < i ∧ ∃ u, m (Str.ofString "pos") = some (.int ((i - 1 : Nat) : Int) u)) :
    SegX (model PR w) A (gFC w.params L) ((execs ((bodyAt w.params 21).drop 3) (gEnv w.params L)).wrap KF HF id id) [] s (PostI w A os₀ b0 base ex g (escItems i esc [])) := by
  refine sxCons (sxIf ?_)
  refine isTrue_plain (rNm F h1 (wpAny_truthy_bool ?_))
  cases esc with
  | false =>
    refine sxNil (sxNil ?_)
    rw [hKF]
    exact s_end PR w A _ _ s (.ok (.ret .none)) _ rfl ⟨⟨F.keep, F.os, hg⟩, rfl⟩
  | true =>
    obtain ⟨h3, u, h4⟩ : 0 < i ∧ ∃ u, m (Str.ofString "pos") = some (.int ((i - 1 : Nat) : Int) u) := by
      rcases h2 with h2 | h2
      · cases h2.2
      · exact h2
    refine sxCons (sxYield rfl rfl rfl ?_)
    refine rTuple2 (rNm F h4 (rStr F fun t₂ s₂ F₂ g₂ => ?_))
    intro l k p hk
    have F₃ := F₂.push { cls := .type "tuple", data := .seq #[.int ((i - 1 : Nat) : Int) u, .str (Str.ofString "\\") t₂] } rfl
    refine ⟨⟨F₃.keep, F₃.os, g₂.trans hg⟩, _, l, k, _, p, [], rfl, ⟨u, t₂, _, F₃.get (.head _), rfl, _, rfl⟩, F₃.sep _ (.tail _ (.head _)), [], fun _ => True, by simp, by simp, by simp, by simp, trivial, ?_⟩
    refine GenR.intro ⟨fun _ _ _ _ => trivial, fun _ _ _ h => by cases h⟩ fun s' Z => ?_
    refine hk _ _ (sxNil (sxNil ?_))
    rw [hKF]
    exact s_end PR w A _ _ s' (.ok (.ret .none)) _ rfl ⟨⟨fun _ _ q _ => q, Z.os, rfl⟩, rfl⟩

theorem gLoop (hh : A.handled = none) {KA KF : Flow → Sem Fin} {HF : Value → Sem Fin} (hKA : KA .next = (execs ((bodyAt w.params 21).drop 3) (gEnv w.params L)).wrap KF HF id id) (hKF : KF .next = .pure (.done (.ret .none))) :
    ∀ (n i : Nat) (esc : Bool) (base : Heap) (ex : List Addr) (g : Array GenState) (m : Str → Option Value) (old : Value) (oi : Obj) (s : Shared) (KK : Result → Sem Fin) (l : List Value) (p : Pos), x.cps.size - i = n → i ≤ x.cps.size →
      (∀ f, KK (.ok f) = KA f) → GLI w os₀ b0 x t L e it base ex g i esc m old oi s →
      SegX (model PR w) A (gLC w.params L e) (denote table (gLC w.params L e)) [.ret KK none false l (gFC w.params L) p []] s (PostI w A os₀ b0 base ex g (escItems i esc (x.cps.toList.drop i))) := by
  intro n
  induction n with
  | zero =>
    intro i esc base ex g m old oi s KK l p hn hi hKK Z
    have hin : i = x.cps.size := by omega
    have hdrop : x.cps.toList.drop i = [] := List.drop_of_length_le (by rw [hin]; simp)
    rw [hdrop]
    refine sxLoop ?_
    have D := drawsStr (prog := PR) (w := w) (A := (A.over (gLC w.params L e) [.ret KK none false l (gFC w.params L) p []]).in1) (by exact over_handled (c := gLC w.params L e) (KK := KK) (g := false) (l := l) (c' := gFC w.params L) (p := p) hh) it x t
    refine wpAny_pyNext_enum_endD D (i := i) (old := old) (Z.F.get (.head _)) ⟨oi, Z.F.get (.tail _ (.head _)), Z.cls, by rw [Z.data, hin]⟩ fun h' hx => ?_
    have F' : Fm w os₀ b0 base ex L m [] { s with heap := h' } := by
      have := (Z.F.lose (led := [(e, enumObj it i old)]) (gl := [(it, oi)]) (s' := { s with heap := h' }) (fun b o hb q => hx b o (fun z => hb (by simp [z])) q) rfl Z.F.bare)
      exact this.tail
    refine s_pop PR w A _ [] _ _ (.ok .next) _ rfl KK none false l _ p [] ?_
    rw [hKK, hKA]
    exact gEnd hKF F' Z.gens Z.hesc Z.hpos
  | succ n ih =>
    intro i esc base ex g m old oi s KK l p hn hi hKK Z
    have hlt : i < x.cps.size := by omega
    have nd := Z.F.nodup
    simp only [List.map_cons, List.map_nil, List.nodup_cons, List.mem_cons, List.not_mem_nil, or_false, not_or, not_false_eq_true, List.nodup_nil, and_true] at nd
    obtain ⟨⟨hLe, hLi⟩, hei⟩ := nd
    have ho := over_handled (c := gLC w.params L e) (KK := KK) (g := false) (l := l) (c' := gFC w.params L) (p := p) hh
    have D := drawsStr (prog := PR) (w := w) (A := (A.over (gLC w.params L e) [.ret KK none false l (gFC w.params L) p []]).in1) (by exact ho) it x t
    refine sxLoop ?_
    refine wpAny_pyNext_enum_itemD D (i := i) (old := old) (Z.F.get (.head _)) ⟨oi, Z.F.get (.tail _ (.head _)), Z.cls, Z.data⟩ hlt hei (by simpa using hei) fun v h' tk hP hout hst' hT hsz hk => ?_
    obtain ⟨c, u, hc, rfl⟩ := hP
    have hdrop : x.cps.toList.drop i = c :: x.cps.toList.drop (i + 1) := by
      have hc' : x.cps.toList[i]? = some c := by simpa using hc
      obtain ⟨hl, he⟩ := List.getElem?_eq_some_iff.mp hc'
      rw [List.drop_eq_getElem_cons hl, he]
    rw [hdrop]
    refine wpAny_letOwnedTupleGo_enum hout fun h₂ he₂ hs₂ => ?_
    replace hs₂ : Heap.SameBut e h' h₂ := hs₂
    obtain ⟨oi', hoi, hcl, hda⟩ := hst'
    have hTe : s.heap.objs.size ≠ e := Nat.ne_of_gt (Heap.lt_size (Z.F.get (.head _)))
    have F₂ : Fm w os₀ b0 base ex L m [(e, enumObj it ((i + 1 : Nat) : Int) (.str ⟨#[c]⟩ u)), (it, oi')] { s with heap := h₂, toks := tk + 1 } := by
      refine Fm.move (led := []) (gl := [(e, enumObj it i old), (it, oi)]) Z.F (fun b o hb q => ?_) rfl (fun q hq => ?_) rfl Z.F.bare
      · have hbe : b ≠ e := fun z => hb (by simp [z])
        have hbi : b ≠ it := fun z => hb (by simp [z])
        exact (hs₂.2 b hbe).trans (hk b o hbe hbi q)
      · simp only [List.mem_cons, List.not_mem_nil, or_false] at hq
        rcases hq with rfl | rfl
        · exact he₂
        · exact (hs₂.2 it (Ne.symm hei)).trans hoi
    have ht : ({ s with heap := h₂, toks := tk + 1 } : Shared).heap.IsTuple s.heap.objs.size #[.int i tk, .str ⟨#[c]⟩ u] := ⟨_, (hs₂.2 _ hTe).trans hT, rfl, _, rfl⟩
    refine rUnpack2 (env := gEnv w.params L) ho F₂ ht fun s₃ F₃ g₃ => ?_
    intro KB HB hKB
    have hE : upd (upd m (Str.ofString "pos") (.int i tk)) (Str.ofString "ch") (.str ⟨#[c]⟩ u) (Str.ofString "escape") = some (.bool esc) := by
      rw [upd_ne (by decide), upd_ne (by decide)]; exact Z.hesc
    have hPos : upd (upd m (Str.ofString "pos") (.int i tk)) (Str.ofString "ch") (.str ⟨#[c]⟩ u) (Str.ofString "pos") = some (.int i tk) := by
      rw [upd_ne (by decide), upd_self]
    have hCh : upd (upd m (Str.ofString "pos") (.int i tk)) (Str.ofString "ch") (.str ⟨#[c]⟩ u) (Str.ofString "ch") = some (.str ⟨#[c]⟩ u) := upd_self _ _ _
    generalize upd (upd m (Str.ofString "pos") (.int i tk)) (Str.ofString "ch") (.str ⟨#[c]⟩ u) = m₃ at F₃ hE hPos hCh
    have hg₃ : s₃.gens = g := g₃.trans Z.gens
    refine sxCons (sxIf ?_)
    refine isTrue_plain (rNm F₃ hE (wpAny_truthy_bool ?_))
    cases esc with
    | true =>
      rw [if_pos rfl]
      refine sxCons (sxYield rfl rfl rfl ?_)
      refine rTuple2 (rNm F₃ hPos (wpAny_BinOp (rStr F₃ fun t₄ s₄ F₄ g₄ => rNm F₄ hCh (PyProof.Rows.add_str fun t' tk' => ?_))))
      rw [esc_add]
      intro l' k p' hk'
      have F₅ := (F₄.tok tk').push { cls := .type "tuple", data := .seq #[.int i tk, .str ⟨[92, c].toArray⟩ t'] } rfl
      have nd₅ := F₅.nodup
      simp only [List.map_cons, List.map_nil, List.nodup_cons, List.mem_cons, List.not_mem_nil, or_false, not_or, not_false_eq_true, List.nodup_nil, and_true] at nd₅
      refine ⟨⟨F₅.keep, F₅.os, g₄.trans hg₃⟩, _, l', k, _, p', _, rfl, ⟨tk, t', _, F₅.get (.head _), rfl, _, rfl⟩, F₅.sep _ (.tail _ (.head _)), [L, e, it], GI x t L e it (i + 1) true, ?_, F₄.nodup, F₄.sep, F₄.sep0, ?_, ?_⟩
      · simp only [List.mem_cons, List.not_mem_nil, or_false, not_or]
        exact ⟨Ne.symm nd₅.1.1, nd₅.2.1.1, nd₅.2.1.2⟩
      · exact ⟨m₃, _, oi', F₅.ns, F₅.get (.tail _ (.head _)), F₅.get (.tail _ (.tail _ (.head _))), hcl, hda, hE, .inr ⟨Nat.succ_pos _, tk, hPos⟩⟩
      · refine GenR.intro (GI.framed ..) fun s₆ Z₆ => ?_
        obtain ⟨m₆, old₆, oi₆, Y⟩ := Z₆.gli
        refine hk' _ _ ?_
        refine sxCons (sxWrap (wpAny_Assign_Name (Constant_bool (rSt Y.F fun s₇ F₇ g₇ => ?_))))
        refine sxNil (sxNil ?_)
        rw [hKB]
        refine s_again PR w A _ _ _ _ _ rfl ?_
        refine ih (i + 1) false s₆.heap [L, e, it] s₆.gens _ old₆ oi₆ s₇ KK l p (by omega) (by omega) hKK ⟨F₇, Y.cls, Y.data, upd_self _ _ _, ?_, g₇⟩
        rcases Y.hpos with q | q
        · cases q.1
        · exact .inr ⟨q.1, q.2.imp fun u' hu => by rw [upd_ne (by decide)]; exact hu⟩
    | false =>
      rw [if_neg Bool.false_ne_true]
      refine sxCons (sxIf ?_)
      refine wpAny_isTrue_Compare1 (rNm F₃ hCh (rStr F₃ fun t₄ s₄ F₄ g₄ => PyProof.Rows.eq_str (wpAny_truthy_bool ?_)))
      rw [esc_eq]
      by_cases h92 : c = 92
      · rw [if_pos (by simp [h92])]
        have hit : escItems i false (c :: x.cps.toList.drop (i + 1)) = escItems (i + 1) true (x.cps.toList.drop (i + 1)) := by simp [escItems, h92]
        rw [hit]
        refine sxCons (sxWrap (wpAny_Assign_Name (Constant_bool (rSt F₄ fun s₇ F₇ g₇ => ?_))))
        refine sxNil (sxNil (sxNil ?_))
        rw [hKB]
        refine s_again PR w A _ _ _ _ _ rfl ?_
        exact ih (i + 1) true base ex g _ _ oi' s₇ KK l p (by omega) (by omega) hKK ⟨F₇, hcl, hda, upd_self _ _ _, .inr ⟨Nat.succ_pos _, tk, by rw [upd_ne (by decide)]; exact hPos⟩, g₇.trans (g₄.trans hg₃)⟩
      · rw [if_neg (by simp [h92])]
        have hit : escItems i false (c :: x.cps.toList.drop (i + 1)) = (i, [c]) :: escItems (i + 1) false (x.cps.toList.drop (i + 1)) := by simp [escItems, h92]
        rw [hit]
        refine sxCons (sxYield rfl rfl rfl ?_)
        refine rTuple2 (rNm F₄ hPos (rNm F₄ hCh ?_))
        intro l' k p' hk'
        have F₅ := F₄.push { cls := .type "tuple", data := .seq #[.int i tk, .str ⟨#[c]⟩ u] } rfl
        have nd₅ := F₅.nodup
        simp only [List.map_cons, List.map_nil, List.nodup_cons, List.mem_cons, List.not_mem_nil, or_false, not_or, not_false_eq_true, List.nodup_nil, and_true] at nd₅
        refine ⟨⟨F₅.keep, F₅.os, g₄.trans hg₃⟩, _, l', k, _, p', _, rfl, ⟨tk, u, _, F₅.get (.head _), rfl, _, rfl⟩, F₅.sep _ (.tail _ (.head _)), [L, e, it], GI x t L e it (i + 1) false, ?_, F₄.nodup, F₄.sep, F₄.sep0, ?_, ?_⟩
        · simp only [List.mem_cons, List.not_mem_nil, or_false, not_or]
          exact ⟨Ne.symm nd₅.1.1, nd₅.2.1.1, nd₅.2.1.2⟩
        · exact ⟨m₃, _, oi', F₅.ns, F₅.get (.tail _ (.head _)), F₅.get (.tail _ (.tail _ (.head _))), hcl, hda, hE, .inr ⟨Nat.succ_pos _, tk, hPos⟩⟩
        · refine GenR.intro (GI.framed ..) fun s₆ Z₆ => ?_
          obtain ⟨m₆, old₆, oi₆, Y⟩ := Z₆.gli
          refine hk' _ _ ?_
          refine sxNil (sxNil (sxNil ?_))
          rw [hKB]
          refine s_again PR w A _ _ _ _ _ rfl ?_
          exact ih (i + 1) false s₆.heap [L, e, it] s₆.gens _ old₆ oi₆ s₆ KK l p (by omega) (by omega) hKK Y
end
end Mine

namespace Mine
section
variable {w : World} {os₀ : OsState} {b0 base : Heap} {ex : List Addr} {L : Addr} {m : Str → Option Value} {led : List (Addr × Obj)} {s s' : Shared}
/-- some objects of the ledger are lost, others come, each at a place of the lost or at a new one -/
theorem Fm.regl {gl gl' : List (Addr × Obj)} (F : Fm w os₀ b0 base ex L m (led ++ gl) s) (hk : ∀ b o, b ∉ gl.map (·.1) → s.heap.get? b = some o → s'.heap.get? b = some o)
    (hn : ∀ p ∈ gl', s'.heap.get? p.1 = some p.2 ∧ (p.1 ∈ gl.map (·.1) ∨ s.heap.get? p.1 = none)) (nd' : (gl'.map (·.1)).Nodup) (hos : s'.os = s.os) (hb : AllBare s'.gens) : Fm w os₀ b0 base ex L m (led ++ gl') s' := by
  have G := F.lose hk hos hb
  have nd := F.nodup
  rw [List.nodup_cons, List.map_append] at nd
  have am : ∀ a ∈ gl.map (·.1), a ∈ L :: (led ++ gl).map (·.1) := fun a h => List.mem_cons_of_mem _ (by rw [List.map_append]; exact List.mem_append.mpr (.inr h))
  have off : ∀ p ∈ gl', p.1 ∉ L :: led.map (·.1) := by
    intro p hp hm
    rcases (hn p hp).2 with h | h
    · rcases List.mem_cons.mp hm with e | hm
      · exact nd.1 (List.mem_append.mpr (.inr (e ▸ h)))
      · exact (List.nodup_append.mp nd.2).2.2 p.1 hm p.1 h rfl
    · rcases List.mem_cons.mp hm with e | hm
      · obtain ⟨o, _, _, ho, _⟩ := F.ns
        rw [← e, h] at ho; cases ho
      · obtain ⟨q, hq, e⟩ := List.mem_map.mp hm
        have := F.own q (List.mem_append.mpr (.inl hq))
        rw [e, h] at this; cases this
  have mem : ∀ a ∈ L :: (led ++ gl').map (·.1), a ∈ L :: led.map (·.1) ∨ ∃ p ∈ gl', p.1 = a := by
    intro a ha
    rcases List.mem_cons.mp ha with rfl | ha
    · exact .inl (.head _)
    · rw [List.map_append] at ha
      rcases List.mem_append.mp ha with ha | ha
      · exact .inl (.tail _ ha)
      · obtain ⟨p, hp, e⟩ := List.mem_map.mp ha
        exact .inr ⟨p, hp, e⟩
  refine ⟨G.top, G.keep0, G.keep, fun a ha => ?_, fun a ha => ?_, G.ns, fun p hp => ?_, ?_, G.os, G.bare⟩
  · rcases mem a ha with h | ⟨p, hp, rfl⟩
    · exact G.sep0 a h
    · rcases (hn p hp).2 with h | h
      · exact F.sep0 _ (am _ h)
      · cases q : b0.get? p.1 with
        | none => rfl
        | some o => rw [F.keep0 _ _ q] at h; cases h
  · rcases mem a ha with h | ⟨p, hp, rfl⟩
    · exact G.sep a h
    · rcases (hn p hp).2 with h | h
      · exact F.sep _ (am _ h)
      · cases q : base.get? p.1 with
        | none => exact .inl rfl
        | some o =>
          by_cases hx : p.1 ∈ ex
          · exact .inr hx
          · rw [F.keep _ _ q hx] at h; cases h
  · rcases List.mem_append.mp hp with hp | hp
    · exact G.own p hp
    · exact (hn p hp).1
  · rw [List.map_append, List.nodup_cons]
    have g := G.nodup
    rw [List.nodup_cons] at g
    refine ⟨fun h => ?_, List.nodup_append.mpr ⟨g.2, nd', fun a ha b hb' e => ?_⟩⟩
    · rcases List.mem_append.mp h with h | h
      · exact g.1 h
      · obtain ⟨p, hp, e⟩ := List.mem_map.mp h
        exact off p hp (e ▸ .head _)
    · obtain ⟨p, hp, e'⟩ := List.mem_map.mp hb'
      exact off p hp (by rw [e', ← e]; exact .tail _ ha)
/-- new objects -/
theorem Fm.adds {nl : List (Addr × Obj)} (F : Fm w os₀ b0 base ex L m led s) (x : Ext s s') (hn : ∀ p ∈ nl, s'.heap.get? p.1 = some p.2 ∧ s.heap.get? p.1 = none) (nd : (nl.map (·.1)).Nodup) : Fm w os₀ b0 base ex L m (led ++ nl) s' :=
  Fm.regl (gl := []) (by rw [List.append_nil]; exact F) (fun b o _ e => x.heap b o e) (fun p hp => ⟨(hn p hp).1, .inr (hn p hp).2⟩) nd x.os (x.bare F.bare)
end
theorem get_new {h : Heap} {a : Addr} (hle : h.objs.size ≤ a) : h.get? a = none := by
  cases q : h.get? a with
  | none => rfl
  | some o => exact absurd (Heap.lt_size q) (Nat.not_lt.mpr hle)

section
variable {w : World} {A : Around} {os₀ : OsState} {b0 : Heap} {x : Str} {t : Tok} {L : Addr}
def GF (x : Str) (t : Tok) (L : Addr) (h : Heap) : Prop := ∃ m, h.Ns L m ∧ m (Str.ofString "addr") = some (.str x t)
theorem gFresh (hh : A.handled = none) : GenR w A os₀ b0 (escItems 0 false x.cps.toList) [L] (GF x t L) (.fresh (gFC w.params L)) := by
  refine GenR.intro ⟨fun h h' hI hk => ?_, fun h hI b hb => ?_⟩ fun s Z => ?_
  · obtain ⟨m, h1, h2⟩ := hI
    exact ⟨m, h1.at' fun o q => hk L (by simp) o q, h2⟩
  · obtain ⟨m, ⟨o, _, _, h1, _⟩, _⟩ := hI
    rw [List.mem_singleton.mp hb]; exact ⟨o, h1⟩
  obtain ⟨m, h1, h2⟩ := Z.holds
  have F : Fm w os₀ b0 s.heap [L] L m [] s := ⟨Z.top, Z.keep0, fun _ _ q _ => q, Z.sep0, fun a ha => .inr ha, h1, (fun p hp => by cases hp), Z.nodup, Z.os, Z.bare⟩
  show SegX (model PR w) A _ (.point [] fun _ => ((execs (bodyAt w.params 21) (gEnv w.params L)).onRaise (leaving (gEnv w.params L))) >>= _) [] s _
  refine s_skim PR w A _ _ _ s _ 1 ?_
  show SegX (model PR w) A _ (((execs (bodyAt w.params 21) (gEnv w.params L)).onRaise (leaving (gEnv w.params L))) >>= _) [] s _
  rw [Sem.onRaise_eq_wrap, Sem.bind_eq_wrap', Sem.wrap_wrap]
  have ho : (A.over (gFC w.params L) []).handled = none := by simp [Around.over, marksOver, hh]
  refine sxCons (sxWrap (wpAny_Assign_Name (rInt F fun t₁ s₁ F₁ g₁ => rSt F₁ fun s₂ F₂ g₂ => ?_)))
  refine sxCons (sxWrap (wpAny_Assign_Name (Constant_bool (rSt F₂ fun s₃ F₃ g₃ => ?_))))
  refine sxCons (sxFor ?_)
  refine Call_Name1 (rBlt F₃ (v := .type "enumerate") (by rfl) (by rfl) ?_)
  refine PyProof.Rows.callWith_type rfl (evalArgs_plain (spliced_cons (rNm F₃ (v := .str x t) (by rw [upd_ne (by decide), upd_ne (by decide)]; exact h2) (spliced_nil ?_))))
  refine call_enumerate_str fun h' he hi hsz hk => ?_
  obtain ⟨oi, hoi, hcl, hda⟩ := hi
  refine wpAny_pyIter_enum he ?_
  intro KK l p hKK
  have F₄ := Fm.adds (led := []) (nl := [(s₃.heap.objs.size + 1, enumObj s₃.heap.objs.size ((0 : Nat) : Int) .none), (s₃.heap.objs.size, oi)]) (s' := { s₃ with heap := h' }) F₃ ⟨hk, rfl, fun h => h⟩ (fun q hq => by
    simp only [List.mem_cons, List.not_mem_nil, or_false] at hq
    rcases hq with rfl | rfl
    · exact ⟨he, get_new (Nat.le_succ _)⟩
    · exact ⟨hoi, get_new (Nat.le_refl _)⟩) (by simp)
  have hdrop : x.cps.toList = x.cps.toList.drop 0 := rfl
  rw [hdrop]
  refine gLoop hh rfl rfl x.cps.size 0 false s.heap [L] s.gens _ _ oi _ KK l p rfl (Nat.zero_le _) hKK ⟨F₄, hcl, hda, upd_self _ _ _, .inl ⟨rfl, rfl⟩, ?_⟩
  exact g₃.trans (g₂.trans g₁)
end
end Mine

namespace Mine
theorem SegX_quiet {M : Model} {A : Around} {c : Code} {t : Sem Fin} {fs : List Frame} {s : Shared} {P : End → Shared → Prop} (x : SegX M A c t fs s P) : SegX M A c t fs s (fun e s' => e.quiet = true ∧ P e s') := fun Γ p hc hΓ => by
  obtain ⟨e, s', hr, hq, hp⟩ := x Γ p hc hΓ
  exact ⟨e, s', hr, hq, hq, hp⟩
theorem nocell_of {l : List (Str × NameKind)} (h : (l.all fun x => decide (x.2 ≠ .cell)) = true) : ∀ x ∈ l, x.2 ≠ .cell := fun x hx => of_decide_eq_true (List.all_eq_true.mp h x hx)
theorem bare_set {a : Array GenState} (h : AllBare a) (g : Nat) {x : GenState} (hx : x.bare = true) : AllBare (a.setIfInBounds g x) := fun y hy => by
  rcases Array.mem_or_eq_of_mem_setIfInBounds hy with h' | rfl
  · exact h y h'
  · exact hx

theorem rResume {w : World} {A : Around} {s : Shared} {g : Nat} {gs : GenState} {α : Type} {l : List Value} {k : GenResult → Sem α} {Q : α → Shared → Prop} {E : Value → Shared → Prop} (hg : s.gens[g]? = some gs)
    (x : Woke w A gs (s.setGen g .running) (fun e s₁ => e.quiet = true → wpAny (model PR w) A (k e.result) Q E (s₁.setGen g e.genState))) : wpAny (model PR w) A (.resume g (.send .none) l k) Q E s := by
  cases gs with
  | fresh c =>
    have y := (SegX_quiet x).mono fun e s' h => h.2 h.1
    exact wake_any α PR w hg (.inl ⟨rfl, rfl, rfl, rfl⟩) (fun Γ => Γ.In A) (fun _ h => h) y
  | suspended k₀ l₀ c₀ p₀ fs₀ cl =>
    have y := (SegX_quiet x).mono fun e s' h => h.2 h.1
    exact wake_any α PR w hg (.inr ⟨k₀, l₀, p₀, cl, rfl, rfl⟩) (fun Γ => Γ.In A) (fun _ h => h) y
  | running => exact x.elim
  | finished => exact x.elim
theorem Woke.mono {w : World} {A : Around} {gs : GenState} {s : Shared} {P P' : End → Shared → Prop} (x : Woke w A gs s P) (h : ∀ e s', P e s' → P' e s') : Woke w A gs s P' := by
  cases gs with
  | fresh c => exact SegX.mono x h
  | suspended k₀ l₀ c₀ p₀ fs₀ cl => exact SegX.mono x h
  | running => exact x
  | finished => exact x

/-- a generator in the ledger: its own object first, then what it needs -/
def GenIt (w : World) (A : Around) (os₀ : OsState) (b0 : Heap) (a : Addr) (items : List Item) (gl : List (Addr × Obj)) (s : Shared) : Prop :=
  ∃ g gs fp I, gl.map (·.1) = a :: fp ∧ s.heap.IsGen a g ∧ s.gens[g]? = some gs ∧ I s.heap ∧ GenR w A.in1 os₀ b0 items fp I gs

section
variable {w : World} {A : Around} {os₀ : OsState} {b0 base : Heap} {ex : List Addr} {L : Addr} {m m' : Str → Option Value} {led led' gl : List (Addr × Obj)} {s s' : Shared} {a : Addr} {items r : List Item} {x : Item}
theorem GenIt.keep (G : GenIt w A os₀ b0 a items gl s) (h : ∀ p ∈ gl, s.heap.get? p.1 = some p.2) (h' : ∀ p ∈ gl, s'.heap.get? p.1 = some p.2) (hg : s'.gens = s.gens) : GenIt w A os₀ b0 a items gl s' := by
  obtain ⟨g, gs, fp, I, h1, h2, h3, h4, h5⟩ := G
  have key : ∀ b ∈ a :: fp, ∀ o, s.heap.get? b = some o → s'.heap.get? b = some o := by
    intro b hb o e
    rw [← h1] at hb
    obtain ⟨p, hp, rfl⟩ := List.mem_map.mp hb
    rw [h p hp] at e; cases e
    exact h' p hp
  refine ⟨g, gs, fp, I, h1, ?_, by rw [hg]; exact h3, h5.elim.1.1 _ _ h4 fun b hb o e => key b (.tail _ hb) o e, h5⟩
  obtain ⟨o, nm, qn, ho, z⟩ := h2
  exact ⟨o, nm, qn, key a (.head _) o ho, z⟩
theorem GenIt.ledger {L' : Addr} {m' : Str → Option Value} {base' : Heap} {ex' : List Addr} (G : GenIt w A os₀ b0 a items gl s) (F : Fm w os₀ b0 base ex L m (led ++ gl) s) (F' : Fm w os₀ b0 base' ex' L' m' (led' ++ gl) s') (hg : s'.gens = s.gens) : GenIt w A os₀ b0 a items gl s' :=
  G.keep (fun p hp => F.own p (List.mem_append.mpr (.inr hp))) (fun p hp => F'.own p (List.mem_append.mpr (.inr hp))) hg
/-- a state with other generators' states only -/
theorem Fm.gens (F : Fm w os₀ b0 base ex L m led s) (g : Array GenState) (h : AllBare g) : Fm w os₀ b0 base ex L m led { s with gens := g } := F.ext ⟨fun _ _ e => e, rfl, fun _ => h⟩
theorem setGen_heap (s : Shared) (g : Nat) (x : GenState) : (s.setGen g x).heap = s.heap := rfl
theorem setGen_os (s : Shared) (g : Nat) (x : GenState) : (s.setGen g x).os = s.os := rfl
theorem setGen_gens (s : Shared) (g : Nat) (x : GenState) : (s.setGen g x).gens = s.gens.setIfInBounds g x := rfl

theorem GenIt.pre {g : Nat} {fp : List Addr} {I : Heap → Prop} (F : Fm w os₀ b0 base ex L m (led ++ gl) s) (h1 : gl.map (·.1) = a :: fp) (h4 : I s.heap) :
    GPre w os₀ b0 fp I (s.setGen g .running) := by
  have hs : List.Sublist fp (L :: (led ++ gl).map (·.1)) := by
    rw [List.map_append, h1]
    exact ((List.sublist_cons_self _ _).trans (List.sublist_append_right _ _)).trans (List.sublist_cons_self _ _)
  exact ⟨F.top, F.keep0, fun b hb => F.sep0 b (hs.subset hb), F.nodup.sublist hs, h4, F.os, bare_set F.bare g rfl⟩

/-- the objects at the places, as they stand -/
theorem objs_at {h : Heap} : ∀ (fp : List Addr), (∀ b ∈ fp, ∃ o, h.get? b = some o) → ∃ gl : List (Addr × Obj), gl.map (·.1) = fp ∧ ∀ p ∈ gl, h.get? p.1 = some p.2
  | [], _ => ⟨[], rfl, fun p hp => by cases hp⟩
  | b :: r, H => by
    obtain ⟨gl, h1, h2⟩ := objs_at r fun c hc => H c (.tail _ hc)
    obtain ⟨o, ho⟩ := H b (.head _)
    refine ⟨(b, o) :: gl, by rw [List.map_cons, h1], fun p hp => ?_⟩
    rcases List.mem_cons.mp hp with rfl | hp
    · exact ho
    · exact h2 p hp

theorem rNextSome {Q : Option Value → Shared → Prop} {E : Value → Shared → Prop} (hroom : A.depth < recursionLimit) (F : Fm w os₀ b0 base ex L m (led ++ gl) s) (G : GenIt w A os₀ b0 a (x :: r) gl s)
    (hQ : ∀ b s' gl', Fm w os₀ b0 base ex L m (led ++ gl') s' → GenIt w A os₀ b0 a r gl' s' → IsItem s'.heap b x → Q (some (.ref b)) s') : wpAny (model PR w) A (pyNext (.ref a)) Q E s := by
  obtain ⟨g, gs, fp, I, h1, hg, hgs, h4, hR⟩ := G
  have W := hR.2 _ (GenIt.pre (g := g) F h1 h4)
  unfold pyNext
  refine wpAny_bind (wpAny_attempt (wpAny_callSpecial?_slot (name := Str.ofString "__next__") hg.typeIs slot_gen_next (wpAny_call_entry slot_gen_next hg.typeIs entry_gen_next ?_ (args_gen_next _))))
  show wpAny _ A.in1 (Builtin.Generator.genWake (.ref a) (.send .none)) _ _ s
  unfold Builtin.Generator.genWake
  refine wpAny_bind (wpAny_holding (wpAny_genNumber hg (wpAny_bind (wpAny_genState hgs ?_))))
  have hq : ∀ e s₁, YPost b0 (GenR w A.in1 os₀ b0 r) x (s.setGen g .running).heap fp os₀ (s.setGen g .running).gens e s₁ → e.quiet = true → ∃ b gl', e.result = .yielded (.ref b) ∧ Fm w os₀ b0 base ex L m (led ++ gl') (s₁.setGen g e.genState) ∧ GenIt w A os₀ b0 a r gl' (s₁.setGen g e.genState) ∧ IsItem (s₁.setGen g e.genState).heap b x := by
    intro e s₁ hY hquiet
    obtain ⟨⟨hk, hos, hgn⟩, b, l, k, c, p, fs, rfl, hit, hb, fp', I', hb', nd', hs', hs0', hI', hR'⟩ := hY
    obtain ⟨glf, hf1, hf2⟩ := objs_at fp' (hR'.elim.1.2 _ hI')
    obtain ⟨og, nm, qn, hog, hz⟩ := id hg
    have hbare : AllBare (s₁.setGen g (End.susp (Value.ref b) false l k c p fs).genState).gens := by
      rw [setGen_gens, hgn, setGen_gens]
      exact bare_set (bare_set F.bare g rfl) g (End.bare_of_quiet hquiet)
    have nd := F.nodup
    rw [List.nodup_cons, List.map_append, h1] at nd
    have haf : a ∉ fp := (List.nodup_cons.mp (List.nodup_append.mp nd.2).2.1).1
    have haf' : a ∉ fp' := by
      intro hm
      rcases hs' a hm with h | h
      · rw [setGen_heap, hog] at h; cases h
      · exact haf h
    have hkeep : ∀ b o, b ∉ fp → s.heap.get? b = some o → (s₁.setGen g (End.susp (Value.ref b) false l k c p fs).genState).heap.get? b = some o := fun b o hn e => hk b o e hn
    have F' : Fm w os₀ b0 base ex L m (led ++ (a, og) :: glf) (s₁.setGen g (End.susp (Value.ref b) false l k c p fs).genState) := by
      refine F.regl (fun b o hn e => hk b o e fun h => hn (by rw [h1]; exact .tail _ h)) (fun q hq => ?_) (by rw [List.map_cons, hf1]; exact List.nodup_cons.mpr ⟨haf', nd'⟩) (hos.trans F.os.symm) hbare
      rcases List.mem_cons.mp hq with rfl | hq
      · exact ⟨hk a og hog haf, .inl (by rw [h1]; exact .head _)⟩
      · refine ⟨hf2 q hq, ?_⟩
        have hqm : q.1 ∈ fp' := hf1 ▸ List.mem_map_of_mem hq
        rcases hs' q.1 hqm with h | h
        · exact .inr h
        · exact .inl (by rw [h1]; exact .tail _ h)
    refine ⟨b, (a, og) :: glf, rfl, F', ⟨g, _, fp', I', by rw [List.map_cons, hf1], ⟨og, nm, qn, hk a og hog haf, hz⟩, ?_, hI', hR'⟩, hit⟩
    rw [setGen_gens, hgn, setGen_gens]
    have hlt : g < s.gens.size := (Array.getElem?_eq_some_iff.mp hgs).1
    simp [hlt]
  cases gs with
  | running => exact W.elim
  | finished => exact W.elim
  | fresh c =>
    refine wpAny_bind (wpAny_roomToWake F.topNow.lim hroom ?_)
    show wpAny _ A.in1 (.resume g (.send .none) [] _) _ _ s
    refine rResume hgs (Woke.mono W fun e s₁ hY hquiet => ?_)
    obtain ⟨b, gl', h5, F', G', hit⟩ := hq e s₁ hY hquiet
    rw [h5]
    exact wpAny_pure ⟨.ref b, rfl, wpAny_pure (hQ b _ gl' F' G' hit)⟩
  | suspended k₀ l₀ c₀ p₀ fs₀ cl =>
    refine wpAny_bind (wpAny_roomToWake F.topNow.lim hroom ?_)
    show wpAny _ A.in1 (.resume g (.send .none) [] _) _ _ s
    refine rResume hgs (Woke.mono W fun e s₁ hY hquiet => ?_)
    obtain ⟨b, gl', h5, F', G', hit⟩ := hq e s₁ hY hquiet
    rw [h5]
    exact wpAny_pure ⟨.ref b, rfl, wpAny_pure (hQ b _ gl' F' G' hit)⟩

theorem rNextNone {Q : Option Value → Shared → Prop} {E : Value → Shared → Prop} (hh : A.handled = none) (hroom : A.depth < recursionLimit) (F : Fm w os₀ b0 base ex L m (led ++ gl) s) (G : GenIt w A os₀ b0 a [] gl s)
    (hQ : ∀ s', Fm w os₀ b0 base ex L m led s' → Q none s') : wpAny (model PR w) A (pyNext (.ref a)) Q E s := by
  obtain ⟨g, gs, fp, I, h1, hg, hgs, h4, hR⟩ := G
  have W := hR.2 _ (GenIt.pre (g := g) F h1 h4)
  unfold pyNext
  refine wpAny_bind (wpAny_attempt (wpAny_callSpecial?_slot (name := Str.ofString "__next__") hg.typeIs slot_gen_next (wpAny_call_entry slot_gen_next hg.typeIs entry_gen_next ?_ (args_gen_next _))))
  show wpAny _ A.in1 (Builtin.Generator.genWake (.ref a) (.send .none)) _ _ s
  unfold Builtin.Generator.genWake
  refine wpAny_bind (wpAny_holding (wpAny_genNumber hg (wpAny_bind (wpAny_genState hgs ?_))))
  have hq : ∀ e s₁, EPost (s.setGen g .running).heap fp os₀ (s.setGen g .running).gens e s₁ → e.result = .returned .none ∧ ∀ h' : Heap, (∀ b o, s₁.heap.get? b = some o → h'.get? b = some o) → Fm w os₀ b0 base ex L m led { s₁.setGen g e.genState with heap := h' } := by
    rintro e s₁ ⟨⟨hk, hos, hgn⟩, rfl⟩
    refine ⟨rfl, fun h' hk' => F.lose (fun b o hn e => hk' b o (hk b o e fun h => hn (by rw [h1]; exact .tail _ h))) (hos.trans F.os.symm) ?_⟩
    show AllBare (s₁.setGen g .finished).gens
    rw [setGen_gens, hgn, setGen_gens]
    exact bare_set (bare_set F.bare g rfl) g rfl
  cases gs with
  | running => exact W.elim
  | finished => exact W.elim
  | fresh c =>
    refine wpAny_bind (wpAny_roomToWake F.topNow.lim hroom ?_)
    show wpAny _ A.in1 (.resume g (.send .none) [] _) _ _ s
    refine rResume hgs (Woke.mono W fun e s₁ hY hquiet => ?_)
    obtain ⟨h5, hF⟩ := hq e s₁ hY
    rw [h5]
    show wpAny _ _ (newExc (.type "StopIteration") [] >>= _) _ _ _
    refine wpAny_bind ?_
    simp only [newExc, newTuple]
    refine wpAny_bind (wpAny_newObj_type ?_ (by size_fits))
    refine wpAny_bind (m := firstArgMember _ _) (wpAny_of_eq (a := Value.none) (by first | rfl | (simp only [firstArgMember]; rfl)) ?_)
    refine wpAny_newObj_type ?_ (by size_fits)
    simp only [raiseNew]
    refine wpAny_bind (wpAny_bind (wpAny_handled ?_))
    rw [show A.in1.handled = none from hh]
    refine wpAny_throw ?_
    refine wpAny_bind (wpAny_isInstance (T := "StopIteration") (b := true) ⟨_, Heap.get?_push_size _ rfl, rfl⟩ isSubtype_stop ?_)
    exact wpAny_pure (hQ _ (hF _ fun b o hb => Heap.get?_push_of_some _ (Heap.get?_push_of_some _ hb)))
  | suspended k₀ l₀ c₀ p₀ fs₀ cl =>
    refine wpAny_bind (wpAny_roomToWake F.topNow.lim hroom ?_)
    show wpAny _ A.in1 (.resume g (.send .none) [] _) _ _ s
    refine rResume hgs (Woke.mono W fun e s₁ hY hquiet => ?_)
    obtain ⟨h5, hF⟩ := hq e s₁ hY
    rw [h5]
    show wpAny _ _ (newExc (.type "StopIteration") [] >>= _) _ _ _
    refine wpAny_bind ?_
    simp only [newExc, newTuple]
    refine wpAny_bind (wpAny_newObj_type ?_ (by size_fits))
    refine wpAny_bind (m := firstArgMember _ _) (wpAny_of_eq (a := Value.none) (by first | rfl | (simp only [firstArgMember]; rfl)) ?_)
    refine wpAny_newObj_type ?_ (by size_fits)
    simp only [raiseNew]
    refine wpAny_bind (wpAny_bind (wpAny_handled ?_))
    rw [show A.in1.handled = none from hh]
    refine wpAny_throw ?_
    refine wpAny_bind (wpAny_isInstance (T := "StopIteration") (b := true) ⟨_, Heap.get?_push_size _ rfl, rfl⟩ isSubtype_stop ?_)
    exact wpAny_pure (hQ _ (hF _ fun b o hb => Heap.get?_push_of_some _ (Heap.get?_push_of_some _ hb)))

/-- the generator is made -/
theorem rIter {A' : Around} {str : Str} {t : Tok} {Q : Value → Shared → Prop} {E : Value → Shared → Prop} (hh' : A'.handled = none) (hroom : A.depth < recursionLimit) (F : Fm w os₀ b0 base ex L m led s)
    (hQ : ∀ a s' gl, Fm w os₀ b0 base ex L m (led ++ gl) s' → GenIt w A' os₀ b0 a (escItems 0 false str.cps.toList) gl s' → Q (.ref a) s') : wpAny (model PR w) A (call (.ref 21) [.str str t]) Q E s := by
  refine wpAny_call ?_
  have hK := F.topNow.K
  refine codeAny_call_generator hroom (o := ⟨.type "function", none, .func (fdAt w.params 21), #[]⟩) (fd := fdAt w.params 21) (body := bodyAt w.params 21) (hK 21 _ rfl) rfl rfl rfl rfl (codeRec_of hK rfl) ?_
  show wpAny _ _ (pure [(Str.ofString "addr", Value.str str t)]) _ _ s
  refine wpAny_pure (wpAny_newFunctionEnv (nocell_of rfl) (locs rfl) fun h₁ hns hsb => ?_)
  refine ⟨F.topNow.lim.fresh _ hsb, ?_⟩
  obtain ⟨oL, es, ep, hoL, hz⟩ := id hns
  have hz1 : h₁.objs.size = s.heap.objs.size + 1 := by rw [hsb.1, size_psh]
  have hk1 : ∀ b o, s.heap.get? b = some o → h₁.get? b = some o := fun b o e => (hsb.2 b (Nat.ne_of_lt (Heap.lt_size e))).trans (Heap.get?_push_of_some _ e)
  generalize hgo : ({ cls := .type "generator", data := .fields #[.int s.gens.size 0, .str (fdAt w.params 21).name _, .str (fdAt w.params 21).qualname _] } : Obj) = og
  have F' := F.adds (nl := [(h₁.objs.size, og), (s.heap.objs.size, oL)]) (s' := { s with gens := s.gens.push (.fresh (gFC w.params s.heap.objs.size)), toks := s.toks + 1 + 1 + 1, heap := h₁.push og }) ⟨fun b o e => Heap.get?_push_of_some _ (hk1 b o e), rfl, fun h => h.push rfl⟩ (fun q hq => by
    simp only [List.mem_cons, List.not_mem_nil, or_false] at hq
    rcases hq with rfl | rfl
    · exact ⟨Heap.get?_push_size _ (by rw [← hgo]; rfl), get_new (by rw [hz1]; exact Nat.le_succ _)⟩
    · exact ⟨Heap.get?_push_of_some _ hoL, get_new (Nat.le_refl _)⟩) (by rw [hz1]; simp)
  refine hQ _ _ _ F' ⟨s.gens.size, .fresh (gFC w.params s.heap.objs.size), [s.heap.objs.size], GF str t s.heap.objs.size, rfl, ⟨og, _, _, F'.get (List.mem_append.mpr (.inr (.head _))), by rw [← hgo], by rw [← hgo], by rw [← hgo]⟩, Array.getElem?_push_size, ⟨_, (hns.push og), rfl⟩, gFresh hh'⟩
end
end Mine

namespace Mine
abbrev NE : Value → Shared → Prop := fun _ _ => False
abbrev lst (vs : List Value) (n : Nat) : Obj := { cls := .type "list", data := .seq vs.toArray n }
noncomputable abbrev fEnv (P : Params) (a L : Addr) : Env := callEnv (fdAt P a) L a
section
variable {w : World} {A : Around} {os₀ : OsState} {b0 base : Heap} {ex : List Addr} {L : Addr} {m : Str → Option Value} {led l1 l2 : List (Addr × Obj)} {s : Shared} {env : Env} {E : Value → Shared → Prop}

/-- a def of the text is called -/
theorem rCall {a : Addr} {args : List Value} {binds : List (Str × Value)} {Q : Value → Shared → Prop} (hroom : A.depth < recursionLimit) (F : Fm w os₀ b0 base ex L m led s)
    (ho : (hd.heap_39 w.params).lookup a = some ⟨.type "function", none, .func (fdAt w.params a), #[]⟩) (hcd : codeIn (hd.heap_39 w.params) (fdAt w.params a).code (fdAt w.params a).qualname = true)
    (hco : (fdAt w.params a).scope.isCoroutine = false) (hgen : (fdAt w.params a).scope.isGenerator = false) (hbody : (fdAt w.params a).body = .stmts (bodyAt w.params a)) (hk : (fdAt w.params a).scope.kind = .function)
    (hbind : BindsTo s (fdAt w.params a) ⟨args, []⟩ binds) (hcell : ((fdAt w.params a).scope.names.all fun x => decide (x.2 ≠ .cell)) = true) (hloc : (binds.all fun x => decide ((fdAt w.params a).scope.names.lookup x.1 = some .local)) = true)
    (h : ∀ L' s₁, Fm w os₀ b0 s.heap [] L' (fun x => binds.reverse.lookup x) [] s₁ → s₁.gens = s.gens →
      wpAny (model PR w) (A.deeper (fEnv w.params a L')) (execs (bodyAt w.params a) (fEnv w.params a L')) (fun f s' => Q (match f with | .ret v => v | _ => .none) s') NE s₁) :
    wpAny (model PR w) A (call (.ref a) args) Q E s := by
  have hK := F.topNow.K
  refine wpAny_call (codeAny_call_function hroom (hK a _ ho) rfl hco hgen hbody (codeRec_of hK hcd) ?_)
  refine hbind _ _ _ _ (wpAny_newFunctionEnv (nocell_of hcell) (locs hloc) (fun h₁ hns hsb => ⟨F.topNow.lim.fresh _ hsb, ?_⟩) hk)
  have hk1 : ∀ b o, s.heap.get? b = some o → h₁.get? b = some o := fun b o e => (hsb.2 b (Nat.ne_of_lt (Heap.lt_size e))).trans (Heap.get?_push_of_some _ e)
  have hnew : ∀ b, b ∈ s.heap.objs.size :: ([] : List (Addr × Obj)).map (·.1) → s.heap.get? b = none := fun b hb => by
    rw [List.map_nil] at hb
    rw [List.mem_singleton.mp hb]; exact get_new (Nat.le_refl _)
  refine codeAny_func (wpAny_mono (h s.heap.objs.size { s with heap := h₁, toks := s.toks + binds.length } ⟨F.top, fun b o e => hk1 b o (F.keep0 b o e), fun b o e _ => hk1 b o e, fun b hb => ?_, fun b hb => .inl (hnew b hb), hns, (fun p hp => by cases hp), by simp, F.os, F.bare⟩ rfl) (fun f s' q => q) fun _ _ q => q.elim)
  cases q : b0.get? b with
  | none => rfl
  | some o => have := F.keep0 b o q; rw [hnew b hb] at this; cases this
theorem Fm.toExt {L' : Addr} {m' : Str → Option Value} {led' : List (Addr × Obj)} {s' : Shared} (F : Fm w os₀ b0 base ex L m led s) (F' : Fm w os₀ b0 s.heap [] L' m' led' s') : Ext s s' :=
  ⟨fun b o e => F'.keep b o e (by simp), F'.os.trans F.os.symm, fun _ => F'.bare⟩
theorem Fm.subExt {L' : Addr} {m' : Str → Option Value} {led' : List (Addr × Obj)} {s' : Shared} {base' : Heap} {ex' : List Addr} (F : Fm w os₀ b0 base ex L m led s) (S : Sub s.heap [] base' ex') (F' : Fm w os₀ b0 base' ex' L' m' led' s') : Ext s s' :=
  ⟨fun b o e => S.now F' b o e (by simp), F'.os.trans F.os.symm, fun _ => F'.bare⟩

theorem rFor {prog : Program} {target iter : Expr} {body orelse : List Stmt} {pos : Pos} {Q : Flow → Shared → Prop}
    (h : wpAny (model prog w) A (eval iter env) (fun x s₁ => wpAny (model prog w) A (pyIter x) (fun it s₂ => ∃ (I : Nat → Shared → Prop) (n : Nat), I n s₂ ∧ ∀ n s, I n s →
      wpAny (model prog w) A (pyNext it) (fun r s₁ => match r with
        | none => wpAny (model prog w) A (execs orelse env) Q NE s₁
        | some v => wpAny (model prog w) A (letOwnedTupleGo target it v) (fun _ s₁' => wpAny (model prog w) A (assign target env v) (fun _ s₂ => wpAny (model prog w) A (execs body env) (fun f s₃ => match f with
            | .next | .cont => ∃ m, m < n ∧ I m s₃
            | .brk => Q .next s₃
            | .ret v => Q (.ret v) s₃) NE s₂) NE s₁') NE s₁) NE s) NE s₁) NE s)
    (hs : ∀ x, foldedSetIterable iter env x = pure x := by intro _; rfl) :
    wpAny (model prog w) A (exec (.For target iter body orelse pos) env) Q NE s := by
  refine wpAny_For (wpAny_mono h (fun x s₁ h₁ => wpAny_mono h₁ (fun it s₂ h₂ => ?_) fun _ _ q => q) fun _ _ q => q) hs
  obtain ⟨I, n, h0, turn⟩ := h₂
  refine codeAny_forLoop_any I (fun n s hI => ?_) n h0
  refine wpAny_mono (turn n s hI) (fun r s₁ hr => ?_) fun _ _ q => q.elim
  cases r with
  | none => exact wpAny_mono hr (fun f s₃ q => q) fun _ _ q => q.elim
  | some v =>
    refine wpAny_mono hr (fun _ s₁' h₁ => wpAny_mono h₁ (fun _ s₂ h₂ => wpAny_mono h₂ (fun f s₃ h₃ => ?_) fun _ _ q => q.elim) fun _ _ q => q.elim) fun _ _ q => q.elim
    cases f <;> exact h₃
theorem rLotg {prog : Program} {elts : List Expr} {k : Nat} {pos : Pos} {a : Addr} {v : Value} {o : Obj} {T : String} {Q : Unit → Shared → Prop} (ho : s.heap.get? a = some o) (hc : o.cls = .type T)
    (hT : (["enumerate", "zip", "dict_itemiterator", "dict_reverseitemiterator", "odict_iterator", "itertools.zip_longest", "itertools.pairwise"].contains T) = false) (h : Q () s) :
    wpAny (model prog w) A (letOwnedTupleGo (.Tuple elts k pos) (.ref a) v) Q E s := by
  unfold letOwnedTupleGo
  cases v with
  | ref b =>
    refine wpAny_bind (wpAny_load ho ?_)
    rw [hc]
    cases hd : o.data with
    | fields vs => simp only [hT, Bool.false_and, Bool.false_eq_true, if_false]; exact wpAny_pure h
    | _ => exact wpAny_pure h
  | _ => exact wpAny_pure h
theorem rApp {prog : Program} {D : Addr} {vs : List Value} {n : Nat} {v : Value} {Q : Value → Shared → Prop} (F : Fm w os₀ b0 base ex L m (l1 ++ (D, lst vs n) :: l2) s) (hsz : vs.length ≤ sizeLine)
    (h : ∀ s' n', Fm w os₀ b0 base ex L m (l1 ++ (D, lst (vs ++ [v]) n') :: l2) s' → s'.gens = s.gens → Q .none s') : wpAny (model prog w) A (call (.builtin "list.append") [.ref D, v]) Q E s := by
  refine wpAny_list_append_plain (items := vs.toArray) ⟨n, F.get (by simp)⟩ (fun h' hp hs => ?_) (by simpa using hsz)
  obtain ⟨n', hg⟩ := hp
  have e : vs.toArray.push v = (vs ++ [v]).toArray := by simp
  rw [e] at hg
  exact h _ n' (F.put hs hg) rfl
end
end Mine

namespace Mine
/-- a text of signs -/
def mkS (l : List Nat) : Str := ⟨l.toArray⟩
theorem mkS_self (x : Str) : mkS x.cps.toList = x := by cases x; simp [mkS]
theorem pick_run {α : Type} (l : List α) (a : Nat) : ∀ k, ((List.range k).map fun j => a + j).filterMap (fun i => l[i]?) = (l.drop a).take k
  | 0 => by simp
  | k + 1 => by
    rw [List.range_succ, List.map_append, List.filterMap_append, pick_run l a k, List.take_add_one, List.getElem?_drop]
    simp only [List.map_cons, List.map_nil, List.filterMap_cons, List.filterMap_nil]
    cases l[a + k]? <;> rfl
theorem sliceIdx_nat (a b n : Nat) : Builtin.Str.strSliceIndices (some a) (some b) 1 n = (List.range (min b n - min a n)).map fun j => min a n + j := by
  unfold Builtin.Str.strSliceIndices sliceRange
  have ha : ¬ ((a : Int) < 0) := by omega
  have hb : ¬ ((b : Int) < 0) := by omega
  simp only [show (1 : Int) > 0 by decide, if_true, ha, hb, if_false, Int.ediv_one]
  have e1 : max (0 : Int) (min (a : Int) n) = ((min a n : Nat) : Int) := by omega
  have e2 : max (0 : Int) (min (b : Int) n) = ((min b n : Nat) : Int) := by omega
  rw [e1, e2]
  have e3 : (if ((min a n : Nat) : Int) < ((min b n : Nat) : Int) then ((min b n : Nat) : Int) - ((min a n : Nat) : Int) + 1 - 1 else 0).toNat = min b n - min a n := by
    split <;> omega
  rw [e3]
  refine List.map_congr_left fun k _ => ?_
  omega
theorem sliceIdx_from (a n : Nat) : Builtin.Str.strSliceIndices (some a) none 1 n = (List.range (n - min a n)).map fun j => min a n + j := by
  unfold Builtin.Str.strSliceIndices sliceRange
  have ha : ¬ ((a : Int) < 0) := by omega
  simp only [show (1 : Int) > 0 by decide, if_true, ha, if_false, Int.ediv_one]
  have e1 : max (0 : Int) (min (a : Int) n) = ((min a n : Nat) : Int) := by omega
  rw [e1]
  have e3 : (if ((min a n : Nat) : Int) < (n : Int) then (n : Int) - ((min a n : Nat) : Int) + 1 - 1 else 0).toNat = n - min a n := by
    split <;> omega
  rw [e3]
  refine List.map_congr_left fun k _ => ?_
  omega
theorem slice_mk (x : Str) (a b : Nat) : Txt.slice x (some a) (some b) = mkS ((x.cps.toList.take b).drop a) := by
  have hl : x.length = x.cps.toList.length := by simp [Str.length]
  have key : ((Builtin.Str.strSliceIndices (some a) (some b) 1 x.length).filterMap (x.cps[·]?)) = (x.cps.toList.take b).drop a := by
    rw [sliceIdx_nat]
    have e : (fun i : Nat => x.cps[i]?) = fun i => x.cps.toList[i]? := by funext i; simp
    rw [e, pick_run, hl, List.drop_take]
    by_cases h1 : a ≤ x.cps.toList.length
    · rw [Nat.min_eq_left h1]
      by_cases h2 : b ≤ x.cps.toList.length
      · rw [Nat.min_eq_left h2]
      · rw [Nat.min_eq_right (by omega), List.take_of_length_le (by rw [List.length_drop]; exact Nat.le_refl _), List.take_of_length_le (by rw [List.length_drop]; omega)]
    · have e2 : min a x.cps.toList.length = x.cps.toList.length := by omega
      rw [e2, List.drop_of_length_le (Nat.le_refl _), List.drop_of_length_le (by omega)]; simp
  unfold Txt.slice
  split
  · rename_i h
    simp only [beq_self_eq_true, Bool.true_and, beq_iff_eq] at h
    rw [sliceIdx_nat, List.length_map, List.length_range] at h
    have h0 : min a x.length = 0 ∨ x.length = 0 := by omega
    have : (x.cps.toList.take b).drop a = x.cps.toList := by
      rcases h0 with h0 | h0
      · have hb : x.length ≤ b := by omega
        rw [List.take_of_length_le (by rw [← hl]; exact hb)]
        rcases Nat.eq_zero_or_pos a with ha | ha
        · rw [ha]; rfl
        · have : x.length = 0 := by omega
          rw [hl] at this
          rw [List.length_eq_zero_iff.mp this]; simp
      · rw [hl] at h0
        rw [List.length_eq_zero_iff.mp h0]; simp
    rw [this, mkS_self]
  · rw [key]; rfl
theorem slice_from_mk (x : Str) (a : Nat) : Txt.slice x (some a) none = mkS (x.cps.toList.drop a) := by
  have hl : x.length = x.cps.toList.length := by simp [Str.length]
  have key : ((Builtin.Str.strSliceIndices (some a) none 1 x.length).filterMap (x.cps[·]?)) = x.cps.toList.drop a := by
    rw [sliceIdx_from]
    have e : (fun i : Nat => x.cps[i]?) = fun i => x.cps.toList[i]? := by funext i; simp
    rw [e, pick_run, hl]
    by_cases h1 : a ≤ x.cps.toList.length
    · rw [Nat.min_eq_left h1, List.take_of_length_le (by rw [List.length_drop]; exact Nat.le_refl _)]
    · rw [Nat.min_eq_right (by omega), List.drop_of_length_le (Nat.le_refl _), List.drop_of_length_le (by omega)]; simp
  unfold Txt.slice
  split
  · rename_i h
    simp only [beq_self_eq_true, Bool.true_and, beq_iff_eq] at h
    rw [sliceIdx_from, List.length_map, List.length_range] at h
    have : x.cps.toList.drop a = x.cps.toList := by
      rcases Nat.eq_zero_or_pos a with ha | ha
      · rw [ha]; rfl
      · have : x.length = 0 := by omega
        rw [hl] at this
        rw [List.length_eq_zero_iff.mp this]; simp
    rw [this, mkS_self]
  · rw [key]; rfl
theorem StrsAre_append {vs ws : List Value} {xs ys : List Str} (h : StrsAre vs xs) (k : StrsAre ws ys) : StrsAre (vs ++ ws) (xs ++ ys) := by
  induction h with
  | nil => exact k
  | cons y t _ ih => exact .cons y t ih
theorem StrsAre_len {vs : List Value} {xs : List Str} (h : StrsAre vs xs) : vs.length = xs.length := by
  induction h with
  | nil => rfl
  | cons y t _ ih => simp [ih]
/-- what the strip does, piece by piece -/
def stStep (cs : List Nat) (st : Nat × Option Nat × List (List Nat)) (x : Item) : Nat × Option Nat × List (List Nat) :=
  if x.2 = [34] then (match st.2.1 with
    | none => (st.1, some x.1, st.2.2)
    | some o => (x.1 + 1, none, if st.1 ≠ o then st.2.2 ++ [(cs.take o).drop st.1] else st.2.2))
  else st
def stEnd (cs : List Nat) (st : Nat × Option Nat × List (List Nat)) : List Nat := (if st.1 < cs.length then st.2.2 ++ [cs.drop st.1] else st.2.2).flatten
def stripL (cs : List Nat) : List Nat := if 34 ∈ cs then stEnd cs ((escItems 0 false cs).foldl (stStep cs) (0, none, [])) else cs
theorem escItems_len : ∀ (cs : List Nat) (i : Nat) (b : Bool), (escItems i b cs).length ≤ cs.length + 1
  | [], i, false => by simp [escItems]
  | [], i, true => by simp [escItems]
  | c :: r, i, true => by simp only [escItems, List.length_cons]; have := escItems_len r (i + 1) false; omega
  | c :: r, i, false => by
    simp only [escItems]
    split
    · have := escItems_len r (i + 1) true; simp only [List.length_cons]; omega
    · have := escItems_len r (i + 1) false; simp only [List.length_cons]; omega
theorem mkS_app (a b : List Nat) : mkS a ++ mkS b = mkS (a ++ b) := by
  show (⟨(a.toArray ++ b.toArray)⟩ : Str) = _
  simp [mkS]
theorem join_empty (l : List (List Nat)) : Txt.join (Str.ofString "") (l.map mkS) = mkS l.flatten := by
  rw [eq_of_beq (join_plain_closes (Str.ofString "") (l.map mkS))]
  have he : Str.ofString "" = mkS [] := by rfl
  rw [he]
  induction l with
  | nil => rfl
  | cons a r ih =>
    cases r with
    | nil => simp [Str.join]
    | cons b r =>
      show mkS a ++ mkS [] ++ Str.join (mkS []) ((b :: r).map mkS) = _
      rw [ih, mkS_app, mkS_app, List.append_nil]; rfl
end Mine

namespace Mine
section
variable {w : World} {A : Around} {os₀ : OsState} {b0 base : Heap} {ex : List Addr} {L : Addr} {m : Str → Option Value} {led l1 l2 : List (Addr × Obj)} {s : Shared} {env : Env} {E : Value → Shared → Prop}
/-- a def of the text, called by its name with one argument -/
theorem rFn1 {f : Str} {p pos : Pos} {e : Expr} {a : Addr} {fd : FuncData} {oc : Value} {od : Option Addr} {osl : Array (Option Value)} {Q : Value → Shared → Prop} (F : Fm w os₀ b0 base ex L m led s) (hx : nsIn (hd.heap_39 w.params) mainGlobals f = some (some (.ref a)))
    (hf : (hd.heap_39 w.params).lookup a = some ⟨oc, od, .func fd, osl⟩) (h : wpAny (model PR w) A (eval e env) (fun v s₁ => TopOk w s₁.heap ∧ wpAny (model PR w) A (call (.ref a) [v]) Q E s₁) E s)
    (hk : env.scope.kind = .function := by rfl) (hg : env.globals = mainGlobals := by rfl) (hkx : env.kindOf f = some .globalImplicit := by rfl) (hd' : (f == ("__debug__" : Str)) = false := by decide) (hs : starEach [e] env = [(false, eval e env)] := by rfl) :
    wpAny (model PR w) A (eval (.Call (.Name f p) [e] [] pos) env) Q E s := by
  refine Call_Name1 (rGlob F hx ?_ hk hg hkx hd') hs
  refine callWith_function (o := ⟨oc, od, .func fd, osl⟩) (fd := fd) (evalArgs_plain (spliced_cons (wpAny_mono h (fun v s₁ h₁ => spliced_nil ⟨⟨h₁.1.K a _ hf, rfl⟩, ?_⟩) fun _ _ q => q)))
  exact h₁.2
/-- a built-in function, called by its name with one argument -/
theorem rB1 {f : Str} {p pos : Pos} {e : Expr} {id : String} {Q : Value → Shared → Prop} (F : Fm w os₀ b0 base ex L m led s) (hx : nsIn (hd.heap_39 w.params) mainGlobals f = some none) (hv : bootBuiltins f = some (.builtin id))
    (h : wpAny (model PR w) A (eval e env) (fun v s₁ => wpAny (model PR w) A (call (.builtin id) [v]) Q E s₁) E s)
    (hn : f ≠ "__name__" := by decide) (hk : env.scope.kind = .function := by rfl) (hg : env.globals = mainGlobals := by rfl) (hb : env.builtins = builtinsNs := by rfl) (hkx : env.kindOf f = some .globalImplicit := by rfl) (hd' : (f == ("__debug__" : Str)) = false := by decide) (hs : starEach [e] env = [(false, eval e env)] := by rfl) :
    wpAny (model PR w) A (eval (.Call (.Name f p) [e] [] pos) env) Q E s := by
  refine Call_Name1 (rBlt F hx hv ?_ hn hk hg hb hkx hd') hs
  exact callWith_builtin rfl (evalArgs_plain (spliced_cons (wpAny_mono h (fun v s₁ h₁ => spliced_nil h₁) fun _ _ q => q)))
theorem rLenStr {x : Str} {t : Tok} {Q : Value → Shared → Prop} (hlen : x.length ≤ 1000000) (F : Fm w os₀ b0 base ex L m led s) (h : ∀ u s', Fm w os₀ b0 base ex L m led s' → s'.gens = s.gens → Q (.int x.length u) s') : wpAny (model PR w) A (call (.builtin "len") [.str x t]) Q E s :=
  PyProof.Rows.len_str (by omega) (h _ _ (F.tok _) rfl)
theorem kept_push (g : Array GenState) : KeptByPush (fun s => Fm w os₀ b0 base ex L m led s ∧ s.gens = g) := fun s ob k h => ⟨(h.1.ext (Ext.push s ob)).tok k, h.2⟩
/-- x[i:] of a text -/
theorem rSlcS {value e : Expr} {p pos : Pos} {x : Str} {t : Tok} {i : Nat} {Q : Value → Shared → Prop} (hlen : x.length ≤ 1000000)
    (h : wpAny (model PR w) A (eval value env) (fun o s₁ => wpAny (model PR w) A (eval e env) (fun v s₂ => ∃ ui, o = .str x t ∧ v = .int i ui ∧ Fm w os₀ b0 base ex L m led s₂ ∧ ∀ s' t', Fm w os₀ b0 base ex L m led s' → s'.gens = s₂.gens → Q (.str (mkS (x.cps.toList.drop i)) t') s') E s₁) E s)
    (ht : ∀ o r, letTemporaryGo value o r = pure () := by intro _ _; rfl) : wpAny (model PR w) A (eval (.Subscript value (.Slice (some e) none none p) pos) env) Q E s := by
  refine Subscript_Slice (wpAny_mono h (fun o s₁ h₁ => wpAny_Slice (evalPart_some_step (wpAny_mono h₁ (fun v s₂ h₂ => ?_) fun _ _ q => q))) fun _ _ q => q) ht
  obtain ⟨ui, rfl, rfl, F, hq⟩ := h₂
  refine evalPart_none_step (evalPart_none_step ?_)
  refine SBG.sliceItem_sn (kept_push s₂.gens) ⟨F, rfl⟩ (fun s' t' h => ?_) (by rw [sizeLine_eq]; omega)
  rw [slice_from_mk]
  exact hq s' t' h.1 h.2
/-- x[i:j] of a text -/
theorem rSlcSS {value e₁ e₂ : Expr} {p pos : Pos} {x : Str} {t : Tok} {i j : Nat} {Q : Value → Shared → Prop} (hlen : x.length ≤ 1000000)
    (h : wpAny (model PR w) A (eval value env) (fun o s₁ => wpAny (model PR w) A (eval e₁ env) (fun v₁ s₂ => wpAny (model PR w) A (eval e₂ env) (fun v₂ s₃ => ∃ u₁ u₂, o = .str x t ∧ v₁ = .int i u₁ ∧ v₂ = .int j u₂ ∧ Fm w os₀ b0 base ex L m led s₃ ∧
      ∀ s' t', Fm w os₀ b0 base ex L m led s' → s'.gens = s₃.gens → Q (.str (mkS ((x.cps.toList.take j).drop i)) t') s') E s₂) E s₁) E s)
    (ht : ∀ o r, letTemporaryGo value o r = pure () := by intro _ _; rfl) : wpAny (model PR w) A (eval (.Subscript value (.Slice (some e₁) (some e₂) none p) pos) env) Q E s := by
  refine Subscript_Slice (wpAny_mono h (fun o s₁ h₁ => wpAny_Slice (evalPart_some_step (wpAny_mono h₁ (fun v s₂ h₂ => evalPart_some_step (wpAny_mono h₂ (fun v₂ s₃ h₃ => ?_) fun _ _ q => q)) fun _ _ q => q))) fun _ _ q => q) ht
  obtain ⟨u₁, u₂, rfl, rfl, rfl, F, hq⟩ := h₃
  refine evalPart_none_step ?_
  refine SBG.sliceItem_ss (kept_push s₃.gens) ⟨F, rfl⟩ (fun s' t' h => ?_) (by rw [sizeLine_eq]; omega)
  rw [slice_mk]
  exact hq s' t' h.1 h.2
/-- l.append(e) as a statement -/
theorem rAppS {nl : Str} {pn apos pos pos' : Pos} {e : Expr} {D : Addr} {vs : List Value} {n : Nat} {Q : Flow → Shared → Prop} (F : Fm w os₀ b0 base ex env.locals m led s) (hl : m nl = some (.ref D)) (hD : s.heap.get? D = some (lst vs n))
    (h : wpAny (model PR w) A (eval e env) (fun v s₂ => wpAny (model PR w) A (call (.builtin "list.append") [.ref D, v]) (fun r s₃ => r = .none ∧ Q .next s₃) E s₂) E s)
    (hline : (apos.endLine == pos.line) = true := by rfl) (hst : starEach [e] env = [(false, eval e env)] := by rfl)
    (hk : env.scope.kind = .function := by rfl) (hkl : env.kindOf nl = some .local := by rfl) (hd' : (nl == ("__debug__" : Str)) = false := by decide) (hi : interactive env = false := by rfl) :
    wpAny (model PR w) A (exec (.Expr (.Call (.Attribute (.Name nl pn) "append" apos) [e] [] pos) pos') env) Q E s := by
  have htrees : backTo pos (starEach [e] env) = [(false, eval e env)] := by rw [hst]; rfl
  have hfew : ((backTo pos (starEach [e] env)).all (fun x => !x.1) && (backToKw pos (keywordEach [] env)).all (fun x => x.1.isSome)
      && decide (([e] : List Expr).length + ([] : List Keyword).length + (if ([] : List Keyword).isEmpty then 0 else 1) < 30)) = true := by rw [htrees]; rfl
  refine wpAny_Expr (wpAny_Call_append rfl hfew hline htrees (rNm F hl ⟨D, vs.toArray, rfl, ⟨_, n, hD, rfl, rfl, rfl⟩, wpAny_mono h (fun v s₂ h₂ => wpAny_mono h₂ (fun r s₃ h₃ => ?_) fun _ _ q => q) fun _ _ q => q⟩ hk hkl hd')) hi rfl
  obtain ⟨rfl, h₃⟩ := h₃
  exact h₃
/-- ''.join(e) -/
theorem rJoin {k : Nat} {p apos pos : Pos} {e : Expr} {D : Addr} {vs : List Value} {acc : List (List Nat)} {N : Nat} {Q : Value → Shared → Prop} (F : Fm w os₀ b0 base ex L m led s)
    (h : ∀ s₀, Fm w os₀ b0 base ex L m led s₀ → s₀.gens = s.gens → wpAny (model PR w) A (eval e env) (fun v s₁ => v = .ref D ∧ s₁.heap.IsList D vs.toArray ∧ StrsAre vs (acc.map mkS) ∧ acc.length ≤ 1002 ∧ N ≤ 10000 ∧ (∀ p ∈ acc, p.length ≤ N) ∧ ∀ t' k, Q (.str (mkS acc.flatten) t') { s₁ with toks := k }) E s₀)
    (hline : (apos.endLine == pos.line) = true := by rfl) (hs : starEach [e] env = [(false, eval e env)] := by rfl) :
    wpAny (model PR w) A (eval (.Call (.Attribute (.Constant (.str (Str.ofString "")) k p) (Str.ofString "join") apos) [e] [] pos) env) Q E s := by
  refine Call_method1 rfl hs hline (rStr F fun tj sj Fj gj => ?_)
  refine ⟨"str", _, PySem.F.plainAttrs_str, PySem.F.slot_str_join, PySem.F.type_str_join, typeIs_str _ _ _, (fun _ e => nomatch e), ?_⟩
  refine callWith_builtin rfl (evalArgs_plain (spliced_cons (wpAny_mono (h sj Fj gj) (fun v s₁ h₁ => spliced_nil ?_) fun _ _ q => q)))
  obtain ⟨rfl, hl, hv, hc, hN, hp, hq⟩ := h₁
  refine join_list (items := vs.toArray) hl (by simpa using hv) ?_ fun t' k => ?_
  · have hz : (Str.ofString "").length = 0 := by rfl
    rw [hz, Nat.mul_zero, Nat.add_zero, List.map_map]
    have hsum : ∀ (l : List (List Nat)), (∀ p ∈ l, p.length ≤ N) → (l.map ((fun z : Str => z.length) ∘ mkS)).sum ≤ l.length * N := by
      intro l
      induction l with
      | nil => intro _; simp
      | cons a r ih =>
        intro h
        have h1 := ih fun p hp => h p (.tail _ hp)
        have h2 := h a (.head _)
        have h3 : ((fun z : Str => z.length) ∘ mkS) a = a.length := by simp [mkS, Str.length]
        simp only [List.map_cons, List.sum_cons, List.length_cons, Nat.add_mul, Nat.one_mul, h3]
        omega
    have := hsum acc hp
    have hm : acc.length * N ≤ 1002 * 10000 := Nat.mul_le_mul hc hN
    omega
  · rw [join_empty]
    exact hq t' k
def OpIs (v : Option Value) : Option Nat → Prop
  | none => v = some .none
  | some o => ∃ u, v = some (.int o u)

/-- what the strip's loop keeps -/
def StI (w : World) (A : Around) (os₀ : OsState) (b0 base : Heap) (L rl ga : Addr) (x : Str) (t : Tok) (goal : Nat × Option Nat × List (List Nat)) (n : Nat) (s : Shared) : Prop :=
  ∃ (items : List Item) (m : Str → Option Value) (start : Nat) (op : Option Nat) (acc : List (List Nat)) (vs : List Value) (nn : Nat) (gl : List (Addr × Obj)) (u : Tok), items.length = n ∧
    Fm w os₀ b0 base [] L m ([(rl, lst vs nn)] ++ gl) s ∧ GenIt w A os₀ b0 ga items gl s ∧ m (Str.ofString "addr") = some (.str x t) ∧ m (Str.ofString "start") = some (.int start u) ∧ OpIs (m (Str.ofString "open_pos")) op ∧
    m (Str.ofString "result") = some (.ref rl) ∧ StrsAre vs (acc.map mkS) ∧ items.foldl (stStep x.cps.toList) (start, op, acc) = goal ∧ acc.length + items.length ≤ x.length + 1 ∧ ∀ p ∈ acc, p.length ≤ x.length

theorem quote_eq (l : List Nat) : ((⟨l.toArray⟩ : Str) == Str.ofString "\"") = decide (l = [34]) := by
  have : Str.ofString "\"" = ⟨[34].toArray⟩ := by rfl
  rw [this]
  by_cases h : l = [34]
  · subst h; rfl
  · have : ¬ ((⟨l.toArray⟩ : Str) = ⟨[34].toArray⟩) := fun e => h (by injection e with e; simpa using congrArg Array.toList e)
    simp [h]
theorem strip_spec {x : Str} {t : Tok} {Q : Value → Shared → Prop} (hh : A.handled = none) (hroom : A.depth + 1 < recursionLimit) (F : Fm w os₀ b0 base ex L m led s) (hlen : x.length ≤ 1000)
    (hQ : ∀ s' t', Ext s s' → Q (.str (mkS (stripL x.cps.toList)) t') s') : wpAny (model PR w) A (call (.ref 28) [.str x t]) Q E s := by
  refine rCall (by omega) F rfl rfl rfl rfl rfl rfl (binds := [(Str.ofString "addr", .str x t)]) (.of_eq rfl) rfl rfl fun L' s₁ F₁ g₁ => ?_
  have hh' : (A.deeper (fEnv w.params 28 L')).handled = none := hh
  have hroom' : (A.deeper (fEnv w.params 28 L')).depth < recursionLimit := hroom
  generalize A.deeper (fEnv w.params 28 L') = A' at hh' hroom'
  have hA : (fun y => List.lookup y [(Str.ofString "addr", Value.str x t)].reverse) (Str.ofString "addr") = some (.str x t) := rfl
  generalize (fun y => List.lookup y [(Str.ofString "addr", Value.str x t)].reverse) = m₁ at F₁ hA
  refine wpAny_execs_cons (wpAny_If (wpAny_isTrue_Compare1 (rStr F₁ fun t₂ s₂ F₂ g₂ => rNm F₂ hA (PyProof.Rows.notIn_str (wpAny_truthy_bool ?_)))))
  rw [show (!(Builtin.Str.occurrences x (Str.ofString "\"") 0 x.length 1).isEmpty) = decide (34 ∈ x.cps.toList) from StrLaws.found_one x 34]
  by_cases h34 : 34 ∈ x.cps.toList
  · rw [if_neg (by simp [h34])]
    refine wpAny_execs_nil ?_
    refine wpAny_execs_cons (wpAny_Assign_Name (rInt F₂ fun t₃ s₃ F₃ g₃ => rSt F₃ fun s₄ F₄ g₄ => ?_))
    refine wpAny_execs_cons (wpAny_Assign_Name (Constant_none (rSt F₄ fun s₅ F₅ g₅ => ?_)))
    refine wpAny_execs_cons (wpAny_Assign_Name (List_ (wpAny_items_nil (wpAny_newList ?_))))
    have F₆ := F₅.push (lst [] 0) rfl
    generalize s₅.heap.objs.size = rl at F₆
    refine rSt F₆ fun s₇ F₇ g₇ => ?_
    refine wpAny_execs_cons (rFor ?_)
    refine rFn1 F₇ (a := 21) rfl rfl (rNm F₇ (v := .str x t) (by rw [upd_ne (by decide), upd_ne (by decide), upd_ne (by decide)]; exact hA) ⟨F₇.topNow, ?_⟩)
    refine rIter (A' := A') hh' hroom' F₇ fun ga s₈ gl F₈ G₈ => ?_
    obtain ⟨g, gs, fp, I, hg1, hgen, _⟩ := id G₈
    refine wpAny_pyIter_gen hgen ?_
    refine ⟨StI w A' os₀ b0 s.heap L' rl ga x t ((escItems 0 false x.cps.toList).foldl (stStep x.cps.toList) (0, none, [])), _, ⟨escItems 0 false x.cps.toList, _, 0, none, [], [], 0, gl, t₃, rfl, F₈, G₈, ?_, ?_, ?_, upd_self _ _ _, .nil, rfl, ?_, fun p hp => by cases hp⟩, ?_⟩
    · rw [upd_ne (by decide), upd_ne (by decide), upd_ne (by decide)]; exact hA
    · rw [upd_ne (by decide), upd_ne (by decide), upd_self]; rfl
    · show _ = _
      rw [upd_ne (by decide), upd_self]
    · have := escItems_len x.cps.toList 0 false
      have hl : x.length = x.cps.toList.length := by simp [Str.length]
      simp only [List.length_nil]; omega
    · intro n s₉ hI
      obtain ⟨items, m₉, start, op, acc, vs, nn, gl₉, u, hn, F₉, G₉, k1, k2, k3, k4, k5, k6, k7, k8⟩ := hI
      cases items with
      | nil =>
        refine rNextNone hh' hroom' F₉ G₉ fun s' F' => wpAny_execs_nil ?_
        have hgoal : stripL x.cps.toList = stEnd x.cps.toList (start, op, acc) := by
          unfold stripL
          rw [if_pos h34, ← k6]; rfl
        have hl : x.length = x.cps.toList.length := by simp [Str.length]
        have hlt : (decide ((start : Int) < (x.length : Int))) = decide (start < x.cps.toList.length) := by rw [hl]; simp
        refine wpAny_execs_cons (wpAny_mono (Q := fun f s'' => f = .next ∧ ∃ (vs' : List Value) (nn' : Nat) (acc' : List (List Nat)), Fm w os₀ b0 s.heap [] L' m₉ [(rl, lst vs' nn')] s'' ∧ StrsAre vs' (acc'.map mkS) ∧ acc'.length ≤ x.length + 2 ∧ (∀ p ∈ acc', p.length ≤ x.length) ∧ acc'.flatten = stripL x.cps.toList) ?_ (fun f s'' hf => ?_) fun _ _ q => q)
        · refine wpAny_If (wpAny_isTrue_Compare1 (rNm F' k2 (rB1 F' (id := "len") rfl rfl (rNm F' k1 (rLenStr (by omega) F' fun ul sl Fl gl' => PyProof.Rows.lt_int (wpAny_truthy_bool ?_))))))
          rw [hlt]
          by_cases hs : start < x.cps.toList.length
          · rw [if_pos (decide_eq_true hs)]
            refine wpAny_execs_cons (rAppS (env := fEnv w.params 28 L') Fl k4 (Fl.get (.head _)) ?_)
            refine rSlcS (by omega) (rNm Fl k1 (rNm Fl k2 ⟨u, rfl, rfl, Fl, fun s' t' F' g' => ?_⟩))
            refine rApp (l1 := []) F' (by rw [StrsAre_len k5, List.length_map, sizeLine_eq]; omega) fun s₁₀ n' F₁₀ g₁₀ => ⟨rfl, wpAny_execs_nil ⟨rfl, ?_⟩⟩
            refine ⟨_, n', acc ++ [x.cps.toList.drop start], F₁₀, ?_, (by simp only [List.length_append, List.length_cons, List.length_nil]; simp only [List.length_nil] at k7; omega), ?_, ?_⟩
            · rw [List.map_append]
              exact StrsAre_append k5 (.cons _ _ .nil)
            · intro p hp
              rcases List.mem_append.mp hp with hp | hp
              · exact k8 p hp
              · rw [List.mem_singleton.mp hp, List.length_drop, hl]; omega
            · rw [hgoal]; simp only [stEnd]; rw [if_pos hs]
          · rw [if_neg (fun h => hs (of_decide_eq_true h))]
            refine wpAny_execs_nil ⟨rfl, vs, nn, acc, Fl, k5, (by simp only [List.length_nil] at k7; omega), k8, ?_⟩
            rw [hgoal]; simp only [stEnd]; rw [if_neg hs]
        · obtain ⟨rfl, vs', nn', acc', F'', hv, hc, hp, hf⟩ := hf
          refine wpAny_execs_cons (wpAny_Return_some (rJoin (acc := acc') (N := x.length) F'' fun s₀ F₀ g₀ => rNm F₀ k4 ⟨rfl, ⟨_, F₀.get (.head _), rfl, _, rfl⟩, hv, by omega, by omega, hp, fun t' k => ?_⟩))
          rw [hf]
          exact hQ _ t' ((F.toExt F₀).trans (Ext.tok _ _))
      | cons it r =>
        refine rNextSome hroom' F₉ G₉ fun b s' gl' F' G' hit => ?_
        obtain ⟨ti, ui, hit⟩ := hit
        obtain ⟨g', gs', fp', I', hg1', ⟨og, nm, qn, hog, hoc, _⟩, _⟩ := id G'
        refine rLotg hog hoc (by decide) ?_
        refine rUnpack2 (env := fEnv w.params 28 L') hh' F' hit fun s₁₀ F₁₀ g₁₀ => ?_
        have G₁₀ := G'.ledger F' F₁₀ g₁₀
        have c1 : upd (upd m₉ (Str.ofString "pos") (.int it.1 ti)) (Str.ofString "ch") (.str ⟨it.2.toArray⟩ ui) (Str.ofString "addr") = some (.str x t) := by rw [upd_ne (by decide), upd_ne (by decide)]; exact k1
        have c2 : upd (upd m₉ (Str.ofString "pos") (.int it.1 ti)) (Str.ofString "ch") (.str ⟨it.2.toArray⟩ ui) (Str.ofString "start") = some (.int start u) := by rw [upd_ne (by decide), upd_ne (by decide)]; exact k2
        have c3 : OpIs (upd (upd m₉ (Str.ofString "pos") (.int it.1 ti)) (Str.ofString "ch") (.str ⟨it.2.toArray⟩ ui) (Str.ofString "open_pos")) op := by rw [upd_ne (by decide), upd_ne (by decide)]; exact k3
        have c4 : upd (upd m₉ (Str.ofString "pos") (.int it.1 ti)) (Str.ofString "ch") (.str ⟨it.2.toArray⟩ ui) (Str.ofString "result") = some (.ref rl) := by rw [upd_ne (by decide), upd_ne (by decide)]; exact k4
        have c5 : upd (upd m₉ (Str.ofString "pos") (.int it.1 ti)) (Str.ofString "ch") (.str ⟨it.2.toArray⟩ ui) (Str.ofString "pos") = some (.int it.1 ti) := by rw [upd_ne (by decide), upd_self]
        have c6 : upd (upd m₉ (Str.ofString "pos") (.int it.1 ti)) (Str.ofString "ch") (.str ⟨it.2.toArray⟩ ui) (Str.ofString "ch") = some (.str ⟨it.2.toArray⟩ ui) := upd_self _ _ _
        generalize upd (upd m₉ (Str.ofString "pos") (.int it.1 ti)) (Str.ofString "ch") (.str ⟨it.2.toArray⟩ ui) = m₁₀ at F₁₀ c1 c2 c3 c4 c5 c6
        rw [List.length_cons] at k7 hn
        rw [List.foldl_cons] at k6
        have hlt : r.length < n := by omega
        refine wpAny_execs_cons (wpAny_If (wpAny_isTrue_Compare1 (rNm F₁₀ c6 (rStr F₁₀ fun tq sq Fq gq => PyProof.Rows.eq_str (wpAny_truthy_bool ?_)))))
        rw [quote_eq]
        by_cases hq : it.2 = [34]
        · rw [if_pos (decide_eq_true hq)]
          cases op with
          | none =>
            refine wpAny_execs_cons (wpAny_If (wpAny_isTrue_Compare1 (rNm Fq c3 (Constant_none (is_none_none (wpAny_truthy_bool ?_))))))
            rw [if_pos rfl]
            refine wpAny_execs_cons (wpAny_Assign_Name (rNm Fq c5 (rSt Fq fun s₁₁ F₁₁ g₁₁ => wpAny_execs_nil (wpAny_execs_nil (wpAny_execs_nil ?_)))))
            refine ⟨r.length, hlt, r, _, start, some it.1, acc, vs, nn, gl', u, rfl, F₁₁, G₁₀.ledger F₁₀ F₁₁ (g₁₁.trans gq), ?_, ?_, ⟨ti, upd_self _ _ _⟩, ?_, k5, ?_, by omega, k8⟩
            · rw [upd_ne (by decide)]; exact c1
            · rw [upd_ne (by decide)]; exact c2
            · rw [upd_ne (by decide)]; exact c4
            · rw [← k6]; simp [stStep, hq]
          | some o =>
            obtain ⟨uo, c3⟩ := c3
            refine wpAny_execs_cons (wpAny_If (wpAny_isTrue_Compare1 (rNm Fq c3 (Constant_none (is_int_none (wpAny_truthy_bool ?_))))))
            rw [if_neg Bool.false_ne_true]
            refine wpAny_execs_cons (wpAny_mono (Q := fun f s'' => f = .next ∧ ∃ (vs' : List Value) (nn' : Nat) (acc' : List (List Nat)), Fm w os₀ b0 s.heap [] L' m₁₀ ([(rl, lst vs' nn')] ++ gl') s'' ∧ s''.gens = s₁₀.gens ∧ StrsAre vs' (acc'.map mkS) ∧ acc'.length ≤ acc.length + 1 ∧ (∀ p ∈ acc', p.length ≤ x.length) ∧
                acc' = (if start ≠ o then acc ++ [(x.cps.toList.take o).drop start] else acc)) ?_ (fun f s'' hf => ?_) fun _ _ q => q)
            · refine wpAny_If (wpAny_isTrue_Compare1 (rNm Fq c2 (rNm Fq c3 (PyProof.Rows.ne_int (wpAny_truthy_bool ?_)))))
              have hne : ((start : Int) != (o : Int)) = decide (start ≠ o) := by
                by_cases h : start = o
                · subst h; simp
                · have : ¬ ((start : Int) = o) := by omega
                  simp [h, this]
              rw [hne]
              by_cases hso : start ≠ o
              · rw [if_pos (decide_eq_true hso)]
                refine wpAny_execs_cons (rAppS (env := fEnv w.params 28 L') Fq c4 (Fq.get (.head _)) ?_)
                refine rSlcSS (by omega) (rNm Fq c1 (rNm Fq c2 (rNm Fq c3 ⟨u, uo, rfl, rfl, rfl, Fq, fun s' t' F' g' => ?_⟩)))
                refine rApp (l1 := []) F' (by rw [StrsAre_len k5, List.length_map, sizeLine_eq]; omega) fun s₁₁ n' F₁₁ g₁₁ => ⟨rfl, wpAny_execs_nil ⟨rfl, ?_⟩⟩
                refine ⟨_, n', acc ++ [(x.cps.toList.take o).drop start], F₁₁, g₁₁.trans (g'.trans gq), ?_, (by simp), ?_, (if_pos hso).symm⟩
                · rw [List.map_append]
                  exact StrsAre_append k5 (.cons _ _ .nil)
                · intro p hp
                  rcases List.mem_append.mp hp with hp | hp
                  · exact k8 p hp
                  · have hl : x.length = x.cps.toList.length := by simp [Str.length]
                    rw [List.mem_singleton.mp hp, List.length_drop, List.length_take, hl]; omega
              · rw [if_neg (fun h => hso (of_decide_eq_true h))]
                exact wpAny_execs_nil ⟨rfl, vs, nn, acc, Fq, gq, k5, by omega, k8, (if_neg hso).symm⟩
            · obtain ⟨rfl, vs', nn', acc', F'', hgg, hv, hc, hp, hf⟩ := hf
              refine wpAny_execs_cons (wpAny_Assign_Name (wpAny_BinOp (rNm F'' c5 (rInt F'' fun t₁₂ s₁₂ F₁₂ g₁₂ => PyProof.Rows.add_int (rSt (F₁₂.tok _) fun s₁₃ F₁₃ g₁₃ => ?_)))))
              refine wpAny_execs_cons (wpAny_Assign_Name (Constant_none (rSt F₁₃ fun s₁₄ F₁₄ g₁₄ => wpAny_execs_nil (wpAny_execs_nil (wpAny_execs_nil ?_)))))
              refine ⟨r.length, hlt, r, _, it.1 + 1, none, acc', vs', nn', gl', s₁₂.toks, rfl, F₁₄, G₁₀.ledger F₁₀ F₁₄ (g₁₄.trans (g₁₃.trans (g₁₂.trans hgg))), ?_, ?_, upd_self _ _ _, ?_, hv, ?_, by omega, hp⟩
              · rw [upd_ne (by decide), upd_ne (by decide)]; exact c1
              · rw [upd_ne (by decide), upd_self]; rfl
              · rw [upd_ne (by decide), upd_ne (by decide)]; exact c4
              · rw [← k6, hf]; simp [stStep, hq]
        · rw [if_neg (fun h => hq (of_decide_eq_true h))]
          refine wpAny_execs_nil (wpAny_execs_nil ?_)
          refine ⟨r.length, hlt, r, _, start, op, acc, vs, nn, gl', u, rfl, Fq, G₁₀.ledger F₁₀ Fq gq, c1, c2, c3, c4, k5, ?_, by omega, k8⟩
          rw [← k6]; simp [stStep, hq]
  · rw [if_pos (by simp [h34])]
    refine wpAny_execs_cons (wpAny_Return_some (rNm F₂ hA ?_))
    have : stripL x.cps.toList = x.cps.toList := by simp [stripL, h34]
    have q := hQ s₂ t (F.toExt F₂)
    rw [this, mkS_self] at q
    exact q
end
end Mine

namespace Mine
def chk : Int → List Item → Bool
  | n, [] => n == 0
  | n, x :: r => if x.2 = [40] then chk (n + 1) r else if x.2 = [41] then (if n - 1 < 0 then false else chk (n - 1) r) else chk n r
def checkL (cs : List Nat) : Bool := chk 0 (escItems 0 false (stripL cs))
theorem lpar_eq (l : List Nat) : ((⟨l.toArray⟩ : Str) == Str.ofString "(") = decide (l = [40]) := by
  have : Str.ofString "(" = ⟨[40].toArray⟩ := by rfl
  rw [this]
  by_cases h : l = [40]
  · subst h; rfl
  · have : ¬ ((⟨l.toArray⟩ : Str) = ⟨[40].toArray⟩) := fun e => h (by injection e with e; simpa using congrArg Array.toList e)
    simp [h]
theorem rpar_eq (l : List Nat) : ((⟨l.toArray⟩ : Str) == Str.ofString ")") = decide (l = [41]) := by
  have : Str.ofString ")" = ⟨[41].toArray⟩ := by rfl
  rw [this]
  by_cases h : l = [41]
  · subst h; rfl
  · have : ¬ ((⟨l.toArray⟩ : Str) = ⟨[41].toArray⟩) := fun e => h (by injection e with e; simpa using congrArg Array.toList e)
    simp [h]
section
variable {w : World} {A : Around} {os₀ : OsState} {b0 base : Heap} {ex : List Addr} {L : Addr} {m : Str → Option Value} {led l1 l2 : List (Addr × Obj)} {s : Shared} {env : Env} {E : Value → Shared → Prop}
def CkI (w : World) (A : Around) (os₀ : OsState) (b0 base : Heap) (L ga : Addr) (goal : Bool) (n : Nat) (s : Shared) : Prop :=
  ∃ (items : List Item) (m : Str → Option Value) (k : Int) (gl : List (Addr × Obj)) (u : Tok), items.length = n ∧ Fm w os₀ b0 base [] L m ([] ++ gl) s ∧ GenIt w A os₀ b0 ga items gl s ∧ m (Str.ofString "opens") = some (.int k u) ∧ chk k items = goal

theorem check_spec {x : Str} {t : Tok} {Q : Value → Shared → Prop} (hh : A.handled = none) (hroom : A.depth + 2 < recursionLimit) (F : Fm w os₀ b0 base ex L m led s) (hlen : x.length ≤ 1000)
    (hQ : ∀ s', Ext s s' → Q (.bool (checkL x.cps.toList)) s') : wpAny (model PR w) A (call (.ref 35) [.str x t]) Q E s := by
  refine rCall (by omega) F rfl rfl rfl rfl rfl rfl (binds := [(Str.ofString "addr", .str x t)]) (.of_eq rfl) rfl rfl fun L' s₁ F₁ g₁ => ?_
  have hh' : (A.deeper (fEnv w.params 35 L')).handled = none := hh
  have hroom' : (A.deeper (fEnv w.params 35 L')).depth + 1 < recursionLimit := hroom
  generalize A.deeper (fEnv w.params 35 L') = A' at hh' hroom'
  have hA : (fun y => List.lookup y [(Str.ofString "addr", Value.str x t)].reverse) (Str.ofString "addr") = some (.str x t) := rfl
  generalize (fun y => List.lookup y [(Str.ofString "addr", Value.str x t)].reverse) = m₁ at F₁ hA
  refine wpAny_execs_cons (wpAny_Assign_Name (rFn1 F₁ (a := 28) rfl rfl (rNm F₁ hA ⟨F₁.topNow, ?_⟩)))
  refine strip_spec hh' hroom' F₁ hlen fun s₂ t₂ x₂ => ?_
  refine rSt (F₁.ext x₂) fun s₃ F₃ g₃ => ?_
  refine wpAny_execs_cons (wpAny_Assign_Name (rInt F₃ fun t₄ s₄ F₄ g₄ => rSt F₄ fun s₅ F₅ g₅ => ?_))
  refine wpAny_execs_cons (rFor ?_)
  refine rFn1 F₅ (a := 21) rfl rfl (rNm F₅ (v := .str (mkS (stripL x.cps.toList)) t₂) (by rw [upd_ne (by decide), upd_self]) ⟨F₅.topNow, ?_⟩)
  refine rIter (A' := A') hh' (by omega) F₅ fun ga s₈ gl F₈ G₈ => ?_
  obtain ⟨g, gs, fp, I, hg1, hgen, _⟩ := id G₈
  refine wpAny_pyIter_gen hgen ?_
  have ecs : (mkS (stripL x.cps.toList)).cps.toList = stripL x.cps.toList := by simp [mkS]
  rw [ecs] at G₈
  refine ⟨CkI w A' os₀ b0 s.heap L' ga (checkL x.cps.toList), _, ⟨escItems 0 false (stripL x.cps.toList), _, 0, gl, t₄, rfl, F₈, G₈, upd_self _ _ _, rfl⟩, ?_⟩
  intro n s₉ hI
  obtain ⟨items, m₉, k, gl₉, u, hn, F₉, G₉, k1, k2⟩ := hI
  cases items with
  | nil =>
    refine rNextNone hh' (by omega) F₉ G₉ fun s' F' => wpAny_execs_nil ?_
    refine wpAny_execs_cons (wpAny_Return_some (wpAny_Compare1 (rNm F' k1 (rInt F' fun t₁₀ s₁₀ F₁₀ g₁₀ => PyProof.Rows.eq_int ?_))))
    rw [show (k == (0 : Int)) = checkL x.cps.toList from k2]
    exact hQ _ (F.toExt F₁₀)
  | cons it r =>
    refine rNextSome (by omega) F₉ G₉ fun b s' gl' F' G' hit => ?_
    obtain ⟨ti, ui, hit⟩ := hit
    obtain ⟨g', gs', fp', I', hg1', ⟨og, nm, qn, hog, hoc, _⟩, _⟩ := id G'
    refine rLotg hog hoc (by decide) ?_
    refine rUnpack2 (env := fEnv w.params 35 L') hh' F' hit fun s₁₀ F₁₀ g₁₀ => ?_
    have G₁₀ := G'.ledger F' F₁₀ g₁₀
    have c1 : upd (upd m₉ (Str.ofString "pos") (.int it.1 ti)) (Str.ofString "ch") (.str ⟨it.2.toArray⟩ ui) (Str.ofString "opens") = some (.int k u) := by rw [upd_ne (by decide), upd_ne (by decide)]; exact k1
    have c6 : upd (upd m₉ (Str.ofString "pos") (.int it.1 ti)) (Str.ofString "ch") (.str ⟨it.2.toArray⟩ ui) (Str.ofString "ch") = some (.str ⟨it.2.toArray⟩ ui) := upd_self _ _ _
    generalize upd (upd m₉ (Str.ofString "pos") (.int it.1 ti)) (Str.ofString "ch") (.str ⟨it.2.toArray⟩ ui) = m₁₀ at F₁₀ c1 c6
    rw [List.length_cons] at hn
    have hlt : r.length < n := by omega
    refine wpAny_execs_cons (wpAny_If (wpAny_isTrue_Compare1 (rNm F₁₀ c6 (rStr F₁₀ fun tq sq Fq gq => PyProof.Rows.eq_str (wpAny_truthy_bool ?_)))))
    rw [lpar_eq]
    by_cases h40 : it.2 = [40]
    · rw [if_pos (decide_eq_true h40)]
      refine wpAny_execs_cons (wpAny_AugAssign_Name (rLd Fq c1 (rInt Fq fun t₁₁ s₁₁ F₁₁ g₁₁ => PyProof.Rows.iadd_int (rSt (F₁₁.tok _) fun s₁₂ F₁₂ g₁₂ => wpAny_execs_nil (wpAny_execs_nil ?_)))))
      refine ⟨r.length, hlt, r, _, k + 1, gl', s₁₁.toks, rfl, F₁₂, G₁₀.ledger F₁₀ F₁₂ (g₁₂.trans (g₁₁.trans gq)), upd_self _ _ _, ?_⟩
      rw [← k2]; simp [chk, h40]
    · rw [if_neg (fun h => h40 (of_decide_eq_true h))]
      refine wpAny_execs_cons (wpAny_If (wpAny_isTrue_Compare1 (rNm Fq c6 (rStr Fq fun tr sr Fr gr => PyProof.Rows.eq_str (wpAny_truthy_bool ?_)))))
      rw [rpar_eq]
      by_cases h41 : it.2 = [41]
      · rw [if_pos (decide_eq_true h41)]
        refine wpAny_execs_cons (wpAny_AugAssign_Name (rLd Fr c1 (rInt Fr fun t₁₁ s₁₁ F₁₁ g₁₁ => PyProof.Rows.isub_int (rSt (F₁₁.tok _) fun s₁₂ F₁₂ g₁₂ => ?_))))
        refine wpAny_execs_cons (wpAny_If (wpAny_isTrue_Compare1 (rNm F₁₂ (upd_self _ _ _) (rInt F₁₂ fun t₁₃ s₁₃ F₁₃ g₁₃ => PyProof.Rows.lt_int (wpAny_truthy_bool ?_)))))
        by_cases hneg : k - 1 < 0
        · rw [if_pos (decide_eq_true hneg)]
          refine wpAny_execs_cons (wpAny_Return_some (Constant_bool ?_))
          have : checkL x.cps.toList = false := by rw [← k2]; simp [chk, h41, hneg]
          have q := hQ s₁₃ (F.toExt F₁₃)
          rw [this] at q
          exact q
        · rw [if_neg (fun h => hneg (of_decide_eq_true h))]
          refine wpAny_execs_nil (wpAny_execs_nil (wpAny_execs_nil (wpAny_execs_nil ?_)))
          refine ⟨r.length, hlt, r, _, k - 1, gl', s₁₁.toks, rfl, F₁₃, G₁₀.ledger F₁₀ F₁₃ (g₁₃.trans (g₁₂.trans (g₁₁.trans (gr.trans gq)))), upd_self _ _ _, ?_⟩
          rw [← k2]; simp [chk, h41, hneg]
      · rw [if_neg (fun h => h41 (of_decide_eq_true h))]
        refine wpAny_execs_nil (wpAny_execs_nil (wpAny_execs_nil ?_))
        refine ⟨r.length, hlt, r, _, k, gl', u, rfl, Fr, G₁₀.ledger F₁₀ Fr (gr.trans gq), c1, ?_⟩
        rw [← k2]; simp [chk, h40, h41]
end
end Mine

namespace Mine
/-- a plain list, in a view of the heap -/
def PL (V : Addr → Option Obj) (a : Addr) (vs : List Value) : Prop := ∃ n, V a = some (lst vs n)
theorem PL.isList {h : Heap} {a : Addr} {vs : List Value} (x : PL h.get? a vs) : h.IsList a vs.toArray := let ⟨n, e⟩ := x; ⟨_, e, rfl, n, rfl⟩
theorem PL.keeps {h h' : Addr → Option Obj} {a : Addr} {vs : List Value} (x : PL h a vs) (k : ∀ b o, h b = some o → h' b = some o) : PL h' a vs := let ⟨n, e⟩ := x; ⟨n, k _ _ e⟩
def tup (vs : List Value) : Obj := { cls := .type "tuple", data := .seq vs.toArray }
section
variable {w : World} {A : Around} {os₀ : OsState} {b0 base : Heap} {ex : List Addr} {L : Addr} {m : Str → Option Value} {led l1 l2 : List (Addr × Obj)} {s : Shared} {env : Env} {E : Value → Shared → Prop}
theorem rAddL {l b : Addr} {vs ws : List Value} {Q : Value → Shared → Prop} (F : Fm w os₀ b0 base ex L m led s) (hl : PL s.heap.get? l vs) (hb : PL s.heap.get? b ws) (hsz : vs.length + ws.length ≤ 1000000)
    (h : ∀ a s', Fm w os₀ b0 base ex L m ((a, lst (vs ++ ws) 0) :: led) s' → s'.gens = s.gens → Q (.ref a) s') : wpAny (model PR w) A (binaryOp .Add (.ref l) (.ref b)) Q E s := by
  obtain ⟨n, hl⟩ := hl
  obtain ⟨n₂, hb⟩ := hb
  refine P.add_list (items := vs.toArray) (items2 := ws.toArray) hl hb ?_ (by rw [sizeLine_eq]; simp only [List.size_toArray]; omega)
  have e : vs.toArray ++ ws.toArray = (vs ++ ws).toArray := by simp
  rw [e]
  exact h _ _ (F.push (lst (vs ++ ws) 0) rfl) rfl
/-- l[a:b] of a list -/
theorem rSlc {value : Expr} {lower upper : Option Expr} {p pos : Pos} {Q : Value → Shared → Prop}
    (h : wpAny (model PR w) A (eval value env) (fun o s₁ => wpAny (model PR w) A (evalPart lower env) (fun vl s₂ => wpAny (model PR w) A (evalPart upper env) (fun vu s₃ => ∃ l vs lo hi, o = .ref l ∧ s₃.heap.IsList l (List.toArray vs) ∧ IsPart vl lo ∧ IsPart vu hi ∧ vs.length ≤ 1000000 ∧
      Fm w os₀ b0 base ex L m led s₃ ∧ ∀ a s', Fm w os₀ b0 base ex L m ((a, lst (slicePick vs.toArray lo hi none).toList 0) :: led) s' → s'.gens = s₃.gens → Q (.ref a) s') E s₂) E s₁) E s)
    (ht : ∀ o r, letTemporaryGo value o r = pure () := by intro _ _; rfl) : wpAny (model PR w) A (eval (.Subscript value (.Slice lower upper none p) pos) env) Q E s := by
  refine wpAny_Subscript_Slice (T := "list") PySem.slot_list_getitem.lookup (wpAny_mono h (fun o s₁ h₁ => wpAny_Slice (wpAny_mono h₁ (fun vl s₂ h₂ => wpAny_mono h₂ (fun vu s₃ h₃ => ?_) fun _ _ q => q) fun _ _ q => q)) fun _ _ q => q) ht
  obtain ⟨l, vs, lo, hi, rfl, hl, pl, pu, hsz, F, hq⟩ := h₃
  refine evalPart_none_step ?_
  have F' := F.ext (Ext.push s₃ { cls := .type "slice", data := .fields #[vl, vu, .none] })
  refine ⟨(hl.push _).typeIs, wpAny_getItem_list_slice (hl.push _) (Heap.IsSliceOf.new ..) pl pu IsPart.none (by simp) ?_ (by rw [sizeLine_eq]; simp only [List.size_toArray]; omega)⟩
  have e : slicePick vs.toArray lo hi none = (slicePick vs.toArray lo hi none).toList.toArray := by simp
  rw [e]
  exact hq _ _ (F'.push (lst (slicePick vs.toArray lo hi none).toList 0) rfl) rfl
theorem rList1 {e : Expr} {pos : Pos} {Q : Value → Shared → Prop}
    (h : wpAny (model PR w) A (eval e env) (fun v s₁ => Fm w os₀ b0 base ex L m led s₁ ∧ ∀ a s', Fm w os₀ b0 base ex L m ((a, lst [v] 0) :: led) s' → s'.gens = s₁.gens → Q (.ref a) s') E s)
    (h1 : starEach [e] env = (false, eval e env) :: starEach [] env := by rfl) : wpAny (model PR w) A (eval (.List [e] pos) env) Q E s :=
  List_ (wpAny_items_cons (wpAny_mono h (fun v s₁ x => wpAny_items_nil (wpAny_newList (x.2 _ _ (x.1.push (lst [v] 0) rfl) rfl))) fun _ _ z => z) h1)
theorem rTuple3 {e₁ e₂ e₃ : Expr} {k : Nat} {pos : Pos} {Q : Value → Shared → Prop}
    (h : wpAny (model PR w) A (eval e₁ env) (fun v₁ s₁ => wpAny (model PR w) A (eval e₂ env) (fun v₂ s₂ => wpAny (model PR w) A (eval e₃ env) (fun v₃ s₃ => Q (.ref s₃.heap.objs.size) { s₃ with heap := s₃.heap.push (tup [v₁, v₂, v₃]) }) E s₂) E s₁) E s)
    (h1 : starEach [e₁, e₂, e₃] env = (false, eval e₁ env) :: starEach [e₂, e₃] env := by rfl) (h2 : starEach [e₂, e₃] env = (false, eval e₂ env) :: starEach [e₃] env := by rfl) (h3 : starEach [e₃] env = (false, eval e₃ env) :: starEach [] env := by rfl) :
    wpAny (model PR w) A (eval (.Tuple [e₁, e₂, e₃] k pos) env) Q E s :=
  Tuple_ (wpAny_items_cons (wpAny_mono h (fun v₁ s₁ x => wpAny_items_cons (wpAny_mono x (fun v₂ s₂ y => wpAny_items_cons (wpAny_mono y (fun v₃ s₃ z => wpAny_items_nil (wpAny_newTuple z)) fun _ _ z => z) h3) fun _ _ z => z) h2) fun _ _ z => z) h1)
theorem rUnpack3 {x₁ x₂ x₃ : Str} {p₁ p₂ p₃ pos : Pos} {k : Nat} {a : Addr} {v₁ v₂ v₃ : Value} {Q : Unit → Shared → Prop} (hh : A.handled = none) (F : Fm w os₀ b0 base ex env.locals m led s) (ht : s.heap.IsTuple a #[v₁, v₂, v₃])
    (h : ∀ s', Fm w os₀ b0 base ex env.locals (upd (upd (upd m x₁ v₁) x₂ v₂) x₃ v₃) led s' → s'.gens = s.gens → Q () s')
    (hk : env.scope.kind = .function := by rfl) (h₁ : env.kindOf x₁ = some .local := by rfl) (h₂ : env.kindOf x₂ = some .local := by rfl) (h₃ : env.kindOf x₃ = some .local := by rfl) :
    wpAny (model PR w) A (assign (.Tuple [.Name x₁ p₁, .Name x₂ p₂, .Name x₃ p₃] k pos) env (.ref a)) Q E s := by
  refine wpAny_assign_Tuple hh ht rfl rfl fun h' hx => ?_
  have F₁ := F.ext (extBut_new hx)
  show wpAny _ A (do holding [v₂, v₃] (assign (.Name x₁ p₁) env v₁); do holding [v₃] (assign (.Name x₂ p₂) env v₂); do holding [] (assign (.Name x₃ p₃) env v₃); pure ()) _ _ _
  refine wpAny_bind (wpAny_holding (wpAny_assign_Name (rSt F₁ (fun s₂ F₂ g₂ => ?_) hk h₁)))
  refine wpAny_bind (wpAny_holding (wpAny_assign_Name (rSt F₂ (fun s₃ F₃ g₃ => ?_) hk h₂)))
  refine wpAny_bind (wpAny_holding (wpAny_assign_Name (rSt F₃ (fun s₄ F₄ g₄ => wpAny_pure (h s₄ F₄ (g₄.trans (g₃.trans g₂)))) hk h₃)))
end

/-- what of the snapshot stays -/
def vw (base : Heap) (ex : List Addr) : Addr → Option Obj := fun b => if b ∈ ex then none else base.get? b
theorem vw_some {base : Heap} {ex : List Addr} {b : Addr} {o : Obj} : vw base ex b = some o ↔ base.get? b = some o ∧ b ∉ ex := by
  unfold vw
  by_cases h : b ∈ ex <;> simp [h]
theorem Fm.view {w : World} {os₀ : OsState} {b0 base : Heap} {ex : List Addr} {L : Addr} {m : Str → Option Value} {led : List (Addr × Obj)} {s : Shared} (F : Fm w os₀ b0 base ex L m led s) : ∀ b o, vw base ex b = some o → s.heap.get? b = some o := fun b o e => F.keep b o (vw_some.mp e).1 (vw_some.mp e).2
theorem vw_nil (h : Heap) : vw h [] = h.get? := by funext b; simp [vw]
theorem Sub.view {e : Heap} {x : List Addr} {base : Heap} {ex : List Addr} (S : Sub e x base ex) : ∀ b o, vw e x b = some o → vw base ex b = some o := fun b o h => vw_some.mpr (S b o (vw_some.mp h).1 (vw_some.mp h).2)
/-- an object that is no dict and none of the ledger's kinds is of the new snapshot -/
theorem Fm.seqView {w : World} {os₀ : OsState} {b0 base : Heap} {ex : List Addr} {L : Addr} {m : Str → Option Value} {led : List (Addr × Obj)} {s : Shared} (F : Fm w os₀ b0 base ex L m led s)
    (hled : ∀ p ∈ led, ∀ its n, p.2.data ≠ .seq its n) {b : Addr} {o : Obj} {its : Array Value} {n : Nat} (hb : s.heap.get? b = some o) (ho : o.data = .seq its n) : vw s.heap (L :: led.map (·.1)) b = some o := by
  refine vw_some.mpr ⟨hb, fun hm => ?_⟩
  rcases List.mem_cons.mp hm with rfl | hm
  · obtain ⟨o', es, ep, h1, h2, _⟩ := F.ns
    rw [hb] at h1; cases h1
    rw [ho] at h2; cases h2
  · obtain ⟨p, hp, rfl⟩ := List.mem_map.mp hm
    have := F.own p hp
    rw [hb] at this; cases this
    exact hled p hp _ _ ho
/-- the pile, what is closed, the count -/
def StAt (V : Addr → Option Obj) (v : Value) (ws cs : List Int) (n : Int) : Prop := ∃ a aw ac t vw vc, v = .ref a ∧ V a = some (tup [.ref aw, .ref ac, .int n t]) ∧ PL V aw vw ∧ IntsAre vw ws ∧ PL V ac vc ∧ IntsAre vc cs
theorem StAt.keeps {h h' : Addr → Option Obj} {v : Value} {ws cs : List Int} {n : Int} (x : StAt h v ws cs n) (k : ∀ b o, h b = some o → h' b = some o) : StAt h' v ws cs n := by
  obtain ⟨a, aw, ac, t, vw, vc, h1, h2, h3, h4, h5, h6⟩ := x
  exact ⟨a, aw, ac, t, vw, vc, h1, k _ _ h2, h3.keeps k, h4, h5.keeps k, h6⟩
theorem tup_is {h : Heap} {a : Addr} {vs : List Value} (x : h.get? a = some (tup vs)) : h.IsTuple a vs.toArray := ⟨_, x, rfl, _, rfl⟩
def stepF (st : List Int × List Int × Int) (sign : List Nat) : List Int × List Int × Int :=
  if sign = [40] then (st.1 ++ [st.2.2], st.2.1, st.2.2 + 1) else if sign = [41] then (st.1.take (st.1.length - 1), st.2.1 ++ st.1.drop (st.1.length - 1), st.2.2) else st
theorem IntsAre_append {vs ws : List Value} {xs ys : List Int} (h : IntsAre vs xs) (k : IntsAre ws ys) : IntsAre (vs ++ ws) (xs ++ ys) := by
  induction h with
  | nil => exact k
  | cons y t _ ih => exact .cons y t ih
section
variable {w : World} {A : Around} {os₀ : OsState} {b0 base : Heap} {ex : List Addr} {L : Addr} {m : Str → Option Value} {led l1 l2 : List (Addr × Obj)} {s : Shared} {env : Env} {E : Value → Shared → Prop}
theorem step_spec {l : List Nat} {t : Tok} {v : Value} {st : List Int × List Int × Int} {Q : Value → Shared → Prop} (hh : A.handled = none) (hroom : A.depth < recursionLimit) (F : Fm w os₀ b0 base ex L m led s)
    (hs : StAt s.heap.get? v st.1 st.2.1 st.2.2) (hw : st.1.length ≤ 100000) (hc : st.2.1.length ≤ 100000)
    (hQ : ∀ v' s', Ext s s' → StAt s'.heap.get? v' (stepF st l).1 (stepF st l).2.1 (stepF st l).2.2 → Q v' s') : wpAny (model PR w) A (call (.ref 63) [v, .str ⟨l.toArray⟩ t]) Q E s := by
  refine rCall hroom F rfl rfl rfl rfl rfl rfl (binds := [(Str.ofString "state", v), (Str.ofString "sign", .str ⟨l.toArray⟩ t)]) (.of_eq rfl) rfl rfl fun L' s₁ F₁ g₁ => ?_
  have hh' : (A.deeper (fEnv w.params 63 L')).handled = none := hh
  generalize A.deeper (fEnv w.params 63 L') = A' at hh'
  have hA : (fun y => List.lookup y [(Str.ofString "state", v), (Str.ofString "sign", Value.str ⟨l.toArray⟩ t)].reverse) (Str.ofString "state") = some v := rfl
  have hB : (fun y => List.lookup y [(Str.ofString "state", v), (Str.ofString "sign", Value.str ⟨l.toArray⟩ t)].reverse) (Str.ofString "sign") = some (.str ⟨l.toArray⟩ t) := rfl
  generalize (fun y => List.lookup y [(Str.ofString "state", v), (Str.ofString "sign", Value.str ⟨l.toArray⟩ t)].reverse) = m₁ at F₁ hA hB
  obtain ⟨a, aw, ac, tn, vw, vc, rfl, h2, h3, h4, h5, h6⟩ := hs
  obtain ⟨ws, cs, n⟩ := st
  dsimp only at h4 h6 h2 hw hc hQ ⊢
  have old : ∀ {s' : Shared} {m' : Str → Option Value} {led' : List (Addr × Obj)}, Fm w os₀ b0 s.heap [] L' m' led' s' → ∀ b o, s.heap.get? b = some o → s'.heap.get? b = some o := fun F' b o e => F'.keep b o e (by simp)
  refine wpAny_execs_cons (Assign_Tuple (rNm F₁ hA (rUnpack3 (env := fEnv w.params 63 L') hh' F₁ (tup_is (old F₁ _ _ h2)) fun s₂ F₂ g₂ => ?_)))
  have c1 : upd (upd (upd m₁ (Str.ofString "waiting") (.ref aw)) (Str.ofString "closed") (.ref ac)) (Str.ofString "count") (.int n tn) (Str.ofString "waiting") = some (.ref aw) := by rw [upd_ne (by decide), upd_ne (by decide), upd_self]
  have c2 : upd (upd (upd m₁ (Str.ofString "waiting") (.ref aw)) (Str.ofString "closed") (.ref ac)) (Str.ofString "count") (.int n tn) (Str.ofString "closed") = some (.ref ac) := by rw [upd_ne (by decide), upd_self]
  have c3 : upd (upd (upd m₁ (Str.ofString "waiting") (.ref aw)) (Str.ofString "closed") (.ref ac)) (Str.ofString "count") (.int n tn) (Str.ofString "count") = some (.int n tn) := upd_self _ _ _
  have c4 : upd (upd (upd m₁ (Str.ofString "waiting") (.ref aw)) (Str.ofString "closed") (.ref ac)) (Str.ofString "count") (.int n tn) (Str.ofString "state") = some (.ref a) := by rw [upd_ne (by decide), upd_ne (by decide), upd_ne (by decide)]; exact hA
  have c5 : upd (upd (upd m₁ (Str.ofString "waiting") (.ref aw)) (Str.ofString "closed") (.ref ac)) (Str.ofString "count") (.int n tn) (Str.ofString "sign") = some (.str ⟨l.toArray⟩ t) := by rw [upd_ne (by decide), upd_ne (by decide), upd_ne (by decide)]; exact hB
  generalize upd (upd (upd m₁ (Str.ofString "waiting") (.ref aw)) (Str.ofString "closed") (.ref ac)) (Str.ofString "count") (.int n tn) = m₂ at F₂ c1 c2 c3 c4 c5
  have lw : vw.length ≤ 100000 := by rw [h4.length]; exact hw
  have lc : vc.length ≤ 100000 := by rw [h6.length]; exact hc
  refine wpAny_execs_cons (wpAny_If (wpAny_isTrue_Compare1 (rNm F₂ c5 (rStr F₂ fun tq sq Fq gq => PyProof.Rows.eq_str (wpAny_truthy_bool ?_)))))
  rw [lpar_eq]
  by_cases h40 : l = [40]
  · rw [if_pos (decide_eq_true h40)]
    refine wpAny_execs_cons (wpAny_Return_some (rTuple3 (wpAny_BinOp (rNm Fq c1 (rList1 (rNm Fq c3 ⟨Fq, fun al s₃ F₃ g₃ => ?_⟩))))))
    refine rAddL F₃ (h3.keeps (old F₃)) ⟨0, F₃.get (.head _)⟩ (by simp; omega) fun as s₄ F₄ g₄ => ?_
    refine rNm F₄ c2 (wpAny_BinOp (rNm F₄ c3 (rInt F₄ fun t₅ s₅ F₅ g₅ => PyProof.Rows.add_int ?_)))
    have F₆ := (F₅.tok (s₅.toks + 1)).push (tup [.ref as, .ref ac, .int (n + 1) s₅.toks]) rfl
    refine hQ _ _ (F.toExt F₆) ?_
    simp only [stepF, h40, if_true]
    exact ⟨_, as, ac, s₅.toks, _, vc, rfl, F₆.get (.head _), ⟨0, F₆.get (.tail _ (.head _))⟩, IntsAre_append h4 (.cons _ _ .nil), h5.keeps (old F₆), h6⟩
  · rw [if_neg (fun h => h40 (of_decide_eq_true h))]
    refine wpAny_execs_nil ?_
    refine wpAny_execs_cons (wpAny_If (wpAny_isTrue_Compare1 (rNm Fq c5 (rStr Fq fun tr sr Fr gr => PyProof.Rows.eq_str (wpAny_truthy_bool ?_)))))
    rw [rpar_eq]
    by_cases h41 : l = [41]
    · rw [if_pos (decide_eq_true h41)]
      refine wpAny_execs_cons (wpAny_Return_some (rTuple3 (rSlc (rNm Fr c1 (evalPart_none_step (evalPart_some_step (wpAny_UnaryOp (rInt Fr fun t₃ s₃ F₃ g₃ => PyProof.Rows.neg_int ⟨aw, vw, _, _, rfl, (h3.keeps (old F₃)).isList, IsPart.none, IsPart.int _ _, by omega, F₃.tok _, fun a₁ s₄ F₄ g₄ => ?_⟩))))))))
      refine wpAny_BinOp (rNm F₄ c2 (rSlc (rNm F₄ c1 (evalPart_some_step (wpAny_UnaryOp (rInt F₄ fun t₅ s₅ F₅ g₅ => PyProof.Rows.neg_int (evalPart_none_step ⟨aw, vw, _, _, rfl, (h3.keeps (old F₅)).isList, IsPart.int _ _, IsPart.none, by omega, F₅.tok _, fun a₂ s₆ F₆ g₆ => ?_⟩)))))))
      refine rAddL F₆ (h5.keeps (old F₆)) ⟨0, F₆.get (.head _)⟩ ?_ fun a₃ s₇ F₇ g₇ => ?_
      · rw [Array.length_toList]
        refine Nat.le_trans (Nat.add_le_add_left (slicePick_size_le _ _ _ _) _) ?_
        show vc.length + vw.toArray.size ≤ 1000000
        simp only [List.size_toArray]; omega
      refine rNm F₇ c3 ?_
      have F₈ := F₇.push (tup [.ref a₁, .ref a₃, .int n tn]) rfl
      refine hQ _ _ (F.toExt F₈) ?_
      simp only [stepF, h41, if_true, show ¬ (([41] : List Nat) = [40]) by decide, if_false]
      exact ⟨_, a₁, a₃, tn, _, _, rfl, F₈.get (.head _), ⟨0, F₈.get (.tail _ (.tail _ (.tail _ (.head _))))⟩, kmk_upto_neg h4 (by decide), ⟨0, F₈.get (.tail _ (.head _))⟩, IntsAre_append h6 (kmk_from_neg h4 (by decide))⟩
    · rw [if_neg (fun h => h41 (of_decide_eq_true h))]
      refine wpAny_execs_nil (wpAny_execs_cons (wpAny_Return_some (rNm Fr c4 ?_)))
      refine hQ _ _ (F.toExt Fr) ?_
      simp only [stepF, h40, h41, if_false]
      exact ⟨a, aw, ac, tn, vw, vc, rfl, old Fr _ _ h2, h3.keeps (old Fr), h4, h5.keeps (old Fr), h6⟩
end
end Mine

namespace Mine
/-- a list's iterator -/
def LIt (o : Obj) (l : Addr) (i : Nat) : Prop := o.cls = .type "list_iterator" ∧ o.data = .fields #[.ref l, .int i 0]
theorem LIt.noSeq {o : Obj} {l : Addr} {i : Nat} (h : LIt o l i) : ∀ its n, o.data ≠ .seq its n := fun its n e => by rw [h.2] at e; cases e
section
variable {w : World} {A : Around} {os₀ : OsState} {b0 base : Heap} {ex : List Addr} {L : Addr} {m : Str → Option Value} {led l1 l2 : List (Addr × Obj)} {s : Shared} {env : Env} {E : Value → Shared → Prop}
theorem rIterL {l : Addr} {vs : List Value} {Q : Value → Shared → Prop} (F : Fm w os₀ b0 base ex L m led s) (hl : s.heap.IsList l vs.toArray)
    (h : ∀ it oi s', Fm w os₀ b0 base ex L m ((it, oi) :: led) s' → LIt oi l 0 → s'.gens = s.gens → Q (.ref it) s') : wpAny (model PR w) A (pyIter (.ref l)) Q E s :=
  wpAny_pyIter_list hl (h _ _ _ (F.push { cls := .type "list_iterator", data := .fields #[.ref l, .int 0 0] } rfl) ⟨rfl, rfl⟩ rfl)
theorem rNextL {it l : Addr} {oi : Obj} {i : Nat} {vs : List Value} {x : Value} {Q : Option Value → Shared → Prop} (F : Fm w os₀ b0 base ex L m (l1 ++ (it, oi) :: l2) s) (ho : LIt oi l i) (hl : s.heap.IsList l vs.toArray) (hx : vs[i]? = some x)
    (h : ∀ s' oi', Fm w os₀ b0 base ex L m (l1 ++ (it, oi') :: l2) s' → LIt oi' l (i + 1) → s'.gens = s.gens → Q (some x) s') : wpAny (model PR w) A (pyNext (.ref it)) Q E s := by
  refine wpAny_pyNext_list_item (i := i) ⟨oi, F.get (by simp), ho.1, ho.2⟩ hl (by simpa using hx) fun h' hi hs => ?_
  obtain ⟨oi', h1, h2, h3⟩ := hi
  exact h _ oi' (F.put hs h1) ⟨h2, h3⟩ rfl
theorem rNextLE {it l : Addr} {oi : Obj} {i : Nat} {vs : List Value} {Q : Option Value → Shared → Prop} (hh : A.handled = none) (F : Fm w os₀ b0 base ex L m (l1 ++ (it, oi) :: l2) s) (ho : LIt oi l i) (hl : s.heap.IsList l vs.toArray) (hx : vs.length ≤ i)
    (h : ∀ s', Fm w os₀ b0 base ex L m (l1 ++ l2) s' → s'.gens = s.gens → Q none s') : wpAny (model PR w) A (pyNext (.ref it)) Q E s := by
  refine wpAny_pyNext_list_end hh (i := i) ⟨oi, F.get (by simp), ho.1, ho.2⟩ hl (by simpa using hx) fun h' hx' => ?_
  have p : List.Perm ((l1 ++ l2) ++ [(it, oi)]) (l1 ++ (it, oi) :: l2) := by
    rw [List.append_assoc]
    exact List.Perm.append_left _ (List.perm_append_singleton _ _)
  exact h _ ((F.perm p).lose (s' := { s with heap := h' }) (fun b o hb e => hx' b o (fun z => hb (by simp [z])) e) rfl F.bare) rfl
theorem rIs {x y : Addr} {ox oy : Obj} {Q : Value → Shared → Prop} (hx : s.heap.get? x = some ox) (hy : s.heap.get? y = some oy) (hxy : x ≠ y) (hnt : oy.cls ≠ .type "tuple") (h : Q (.bool false) s) : wpAny (model PR w) A (compareOp .Is (.ref x) (.ref y)) Q E s := by
  show wpAny _ A (do return .bool (← isSame (.ref x) (.ref y))) Q E s
  refine wpAny_bind ?_
  show wpAny _ A (if (x == y) = true then pure true else _) _ E s
  rw [if_neg (by simpa using hxy)]
  refine wpAny_bind (wpAny_load hx (wpAny_bind (wpAny_load hy ?_)))
  split
  · rename_i h1 h2 _ _; exact absurd h2 hnt
  · exact wpAny_pure (wpAny_pure h)
theorem rIterCall {l : Addr} {vs : List Value} {Q : Value → Shared → Prop} (F : Fm w os₀ b0 base ex L m led s) (hl : s.heap.IsList l vs.toArray)
    (h : ∀ it oi s', Fm w os₀ b0 base ex L m ((it, oi) :: led) s' → LIt oi l 0 → s'.gens = s.gens → Q (.ref it) s') : wpAny (model PR w) A (call (.builtin "iter") [.ref l]) Q E s := by
  refine call_function_entry (by decide +kernel) (by decide +kernel) kdk_entry_iter (kdk_args_iter _) ?_
  unfold Builtin.«iter»
  refine wpAny_bind (m := someArgs "iter" 1 2 _) (wpAny_of_eq (a := [Value.ref l]) (by first | rfl | kernel_rfl!) ?_)
  show wpAny _ _ (pyIter (.ref l) >>= _) _ _ _
  exact wpAny_bind (rIterL F hl fun it oi s' F' ho g => wpAny_pure ⟨_, rfl, h it oi s' F' ho g⟩)
theorem StAt.mkView {v : Value} {ws cs : List Int} {n : Int} (F : Fm w os₀ b0 base ex L m led s) (hled : ∀ p ∈ led, ∀ its n, p.2.data ≠ .seq its n) (x : StAt s.heap.get? v ws cs n) : StAt (vw s.heap (L :: led.map (·.1))) v ws cs n := by
  obtain ⟨a, aw, ac, t, vw', vc, h1, h2, ⟨n1, h3⟩, h4, ⟨n2, h5⟩, h6⟩ := x
  exact ⟨a, aw, ac, t, vw', vc, h1, F.seqView hled h2 rfl, ⟨n1, F.seqView hled h3 rfl⟩, h4, ⟨n2, F.seqView hled h5 rfl⟩, h6⟩
theorem stepF_len (st : List Int × List Int × Int) (l : List Nat) : (stepF st l).1.length ≤ st.1.length + 1 ∧ (stepF st l).2.1.length ≤ st.2.1.length + 1 := by
  unfold stepF
  split
  · simp
  · split
    · simp only [List.length_take, List.length_append, List.length_drop]; omega
    · simp
theorem foldF_len : ∀ (ls : List (List Nat)) (st : List Int × List Int × Int), (ls.foldl stepF st).1.length ≤ st.1.length + ls.length ∧ (ls.foldl stepF st).2.1.length ≤ st.2.1.length + ls.length
  | [], st => by simp
  | l :: r, st => by
    have h1 := stepF_len st l
    have h2 := foldF_len r (stepF st l)
    simp only [List.foldl_cons, List.length_cons]
    omega
theorem StrsAre_get {vs : List Value} {xs : List Str} (h : StrsAre vs xs) {i : Nat} {x : Str} (hx : xs[i]? = some x) : ∃ t, vs[i]? = some (.str x t) := by
  induction h generalizing i with
  | nil => simp at hx
  | cons y t _ ih =>
    cases i with
    | zero => simp at hx; subst hx; exact ⟨t, rfl⟩
    | succ i => simpa using ih (by simpa using hx)
/-- what reduce's loop keeps -/
def RdI (w : World) (os₀ : OsState) (b0 e₀ : Heap) (L it l : Addr) (vs : List Value) (signs : List (List Nat)) (st₀ : List Int × List Int × Int) (n : Nat) (s : Shared) : Prop :=
  ∃ (i : Nat) (base : Heap) (ex : List Addr) (m : Str → Option Value) (v : Value) (oi : Obj), n + i = signs.length + 1 ∧ i ≤ signs.length ∧ Fm w os₀ b0 base ex L m [(it, oi)] s ∧ Sub e₀ [] base ex ∧ LIt oi l i ∧ PL (vw base ex) l vs ∧ m (Str.ofString "function") = some (.ref 63) ∧ m (Str.ofString "value") = some v ∧
    StAt (vw base ex) v ((signs.take i).foldl stepF st₀).1 ((signs.take i).foldl stepF st₀).2.1 ((signs.take i).foldl stepF st₀).2.2

theorem reduce_spec {l : Addr} {vs : List Value} {signs : List (List Nat)} {v : Value} {st : List Int × List Int × Int} {Q : Value → Shared → Prop} (hh : A.handled = none) (hroom : A.depth + 1 < recursionLimit) (F : Fm w os₀ b0 base ex L m led s)
    (hl : PL s.heap.get? l vs) (hv : StrsAre vs (signs.map mkS)) (hs : StAt s.heap.get? v st.1 st.2.1 st.2.2) (hw : st.1.length ≤ 100) (hc : st.2.1.length ≤ 100) (hn : signs.length ≤ 10000)
    (hQ : ∀ v' s', Ext s s' → StAt s'.heap.get? v' (signs.foldl stepF st).1 (signs.foldl stepF st).2.1 (signs.foldl stepF st).2.2 → Q v' s') : wpAny (model PR w) A (call (.ref 44) [.ref 63, .ref l, v]) Q E s := by
  have hbd : BindsTo s (fdAt w.params 44) ⟨[.ref 63, .ref l, v], []⟩ [(Str.ofString "function", .ref 63), (Str.ofString "sequence", .ref l), (Str.ofString "initial", v)] := by
    intro M A E Q hq
    unfold bindArgs
    simp only [List.forIn_nil, pure_bind]
    refine wpAny_bind (wpAny_seqItems (F.topNow.K 37 _ rfl) rfl ?_)
    exact wpAny_of_eq (a := [(Str.ofString "function", .ref 63), (Str.ofString "sequence", .ref l), (Str.ofString "initial", v)]) rfl hq
  refine rCall (by omega) F rfl rfl rfl rfl rfl rfl hbd rfl rfl fun L' s₁ F₁ g₁ => ?_
  have hh' : (A.deeper (fEnv w.params 44 L')).handled = none := hh
  have hroom' : (A.deeper (fEnv w.params 44 L')).depth < recursionLimit := hroom
  generalize A.deeper (fEnv w.params 44 L') = A' at hh' hroom'
  have hA : (fun y => List.lookup y [(Str.ofString "function", Value.ref 63), (Str.ofString "sequence", .ref l), (Str.ofString "initial", v)].reverse) (Str.ofString "function") = some (.ref 63) := rfl
  have hB : (fun y => List.lookup y [(Str.ofString "function", Value.ref 63), (Str.ofString "sequence", .ref l), (Str.ofString "initial", v)].reverse) (Str.ofString "sequence") = some (.ref l) := rfl
  have hC : (fun y => List.lookup y [(Str.ofString "function", Value.ref 63), (Str.ofString "sequence", .ref l), (Str.ofString "initial", v)].reverse) (Str.ofString "initial") = some v := rfl
  generalize (fun y => List.lookup y [(Str.ofString "function", Value.ref 63), (Str.ofString "sequence", .ref l), (Str.ofString "initial", v)].reverse) = m₁ at F₁ hA hB hC
  have old : ∀ {s' : Shared} {m' : Str → Option Value} {led' : List (Addr × Obj)}, Fm w os₀ b0 s.heap [] L' m' led' s' → ∀ b o, s.heap.get? b = some o → s'.heap.get? b = some o := fun F' b o e => F'.keep b o e (by simp)
  have hlen : vs.length = signs.length := by rw [StrsAre_len hv, List.length_map]
  refine wpAny_execs_cons (wpAny_Assign_Name (rB1 F₁ (id := "iter") rfl rfl (rNm F₁ hB (rIterCall F₁ (hl.keeps (old F₁)).isList fun it oi s₂ F₂ ho g₂ => rSt F₂ fun s₃ F₃ g₃ => ?_))))
  obtain ⟨a, aw, ac, tn, vw', vc, rfl, h2, h3, h4, h5, h6⟩ := id hs
  have h36 : s₃.heap.get? 36 = some { cls := .type "object" } := F₃.topNow.K 36 _ rfl
  refine wpAny_execs_cons (wpAny_If (wpAny_isTrue_Compare1 (rNm F₃ (v := .ref a) (by rw [upd_ne (by decide)]; exact hC) (rGlob F₃ (v := .ref 36) rfl (rIs (old F₃ _ _ h2) h36 (fun e => ?_) (by decide) (wpAny_truthy_bool ?_))))))
  · have q := old F₃ _ _ h2
    rw [e, h36] at q
    exact absurd (show Value.type "object" = Value.type "tuple" from congrArg (fun o : Obj => o.cls) (Option.some.inj q)) (by decide)
  rw [if_neg Bool.false_ne_true]
  refine wpAny_execs_cons (wpAny_Assign_Name (rNm F₃ (v := .ref a) (by rw [upd_ne (by decide)]; exact hC) (rSt F₃ fun s₄ F₄ g₄ => wpAny_execs_nil ?_)))
  refine wpAny_execs_cons (rFor ?_)
  refine rNm F₄ (v := .ref it) (by rw [upd_ne (by decide), upd_self]) (wpAny_pyIter_listiter ⟨oi, F₄.get (.head _), ho.1, ho.2⟩ ?_)
  refine ⟨RdI w os₀ b0 s.heap L' it l vs signs st, signs.length + 1, ⟨0, s.heap, [], _, .ref a, oi, rfl, Nat.zero_le _, F₄, Sub.refl _ _, ho, by rw [vw_nil]; exact hl, ?_, upd_self _ _ _, by rw [vw_nil]; exact hs⟩, ?_⟩
  · rw [upd_ne (by decide), upd_ne (by decide)]; exact hA
  intro n s₉ hI
  obtain ⟨i, base', ex', m₉, v₉, oi₉, hn₉, hi, F₉, S₉, ho₉, hl₉, k1, k2, k3⟩ := hI
  have hlist := (hl₉.keeps F₉.view).isList
  by_cases hend : i = signs.length
  · refine rNextLE (l1 := []) hh' F₉ ho₉ hlist (by omega) fun s₁₀ F₁₀ g₁₀ => wpAny_execs_nil ?_
    refine wpAny_execs_cons (wpAny_Return_some (rNm F₁₀ k2 ?_))
    rw [hend, List.take_length] at k3
    exact hQ _ _ (F.subExt S₉ F₁₀) (k3.keeps F₁₀.view)
  · have hlt : i < signs.length := by omega
    obtain ⟨tx, hx⟩ := StrsAre_get hv (i := i) (x := mkS signs[i]) (by simp [hlt])
    refine rNextL (l1 := []) F₉ ho₉ hlist hx fun s₁₀ oi' F₁₀ ho' g₁₀ => ?_
    show wpAny _ _ (pure ()) _ _ _
    refine wpAny_pure (wpAny_assign_Name (rSt F₁₀ fun s₁₁ F₁₁ g₁₁ => ?_))
    refine wpAny_execs_cons (wpAny_Assign_Name (Call_Name2 (rNm F₁₁ (v := .ref 63) (by rw [upd_ne (by decide)]; exact k1) ?_)))
    refine callWith_function (o := ⟨.type "function", none, .func (fdAt w.params 63), #[]⟩) (fd := fdAt w.params 63) (evalArgs_plain (spliced_cons (rNm F₁₁ (v := v₉) (by rw [upd_ne (by decide)]; exact k2) (spliced_cons (rNm F₁₁ (upd_self _ _ _) (spliced_nil ⟨⟨F₁₁.topNow.K 63 _ rfl, rfl⟩, ?_⟩))))))
    have hb := foldF_len (signs.take i) st
    have hti : (signs.take i).length ≤ signs.length := by rw [List.length_take]; omega
    refine step_spec (l := signs[i]) hh' hroom' F₁₁ (k3.keeps F₁₁.view) (by omega) (by omega) fun v' s₁₂ x₁₂ hst => ?_
    have F₁₂ := F₁₁.ext x₁₂
    have hled : ∀ p ∈ [(it, oi')], ∀ its n, p.2.data ≠ .seq its n := fun p hp => by rw [List.mem_singleton.mp hp]; exact ho'.noSeq
    have V := hst.mkView F₁₂ hled
    have S' := S₉.rebase F₁₂
    have hl' : PL (vw s₁₂.heap (L' :: [(it, oi')].map (·.1))) l vs := by
      obtain ⟨n1, hz⟩ := hl₉
      exact ⟨n1, F₁₂.seqView hled (F₁₂.view _ _ hz) rfl⟩
    refine rSt F₁₂.rebase fun s₁₃ F₁₃ g₁₃ => wpAny_execs_nil ?_
    refine ⟨n - 1, by omega, i + 1, _, _, _, v', oi', by omega, hlt, F₁₃, S', ho', hl', ?_, upd_self _ _ _, ?_⟩
    · rw [upd_ne (by decide), upd_ne (by decide)]; exact k1
    · have e : (signs.take (i + 1)).foldl stepF st = stepF ((signs.take i).foldl stepF st) signs[i] := by
        rw [List.take_add_one, List.getElem?_eq_getElem hlt, List.foldl_append]; rfl
      rw [e]; exact V
end
end Mine

namespace Mine
/-- a range's iterator: i of n given -/
def RIt (o : Obj) (i n : Nat) : Prop := o = { cls := .type "range_iterator", dict := none, data := .fields #[rawInt (i : Int), rawInt ((n : Int) - i), rawInt 1], slots := #[] }
theorem RIt.noSeq {o : Obj} {i n : Nat} (h : RIt o i n) : ∀ its k, o.data ≠ .seq its k := fun its k e => by rw [h] at e; cases e
section
variable {w : World} {A : Around} {os₀ : OsState} {b0 base : Heap} {ex : List Addr} {L : Addr} {m : Str → Option Value} {led l1 l2 : List (Addr × Obj)} {s : Shared} {env : Env} {E : Value → Shared → Prop}
/-- a built-in class, called by its name with one argument -/
theorem rT1 {f : Str} {p pos : Pos} {e : Expr} {T : String} {Q : Value → Shared → Prop} (F : Fm w os₀ b0 base ex L m led s) (hx : nsIn (hd.heap_39 w.params) mainGlobals f = some none) (hv : bootBuiltins f = some (.type T))
    (h : wpAny (model PR w) A (eval e env) (fun v s₁ => wpAny (model PR w) A (call (.type T) [v]) Q E s₁) E s)
    (hn : f ≠ "__name__" := by decide) (hk : env.scope.kind = .function := by rfl) (hg : env.globals = mainGlobals := by rfl) (hb : env.builtins = builtinsNs := by rfl) (hkx : env.kindOf f = some .globalImplicit := by rfl) (hd' : (f == ("__debug__" : Str)) = false := by decide) (hs : starEach [e] env = [(false, eval e env)] := by rfl) :
    wpAny (model PR w) A (eval (.Call (.Name f p) [e] [] pos) env) Q E s := by
  refine Call_Name1 (rBlt F hx hv ?_ hn hk hg hb hkx hd') hs
  exact PyProof.Rows.callWith_type rfl (evalArgs_plain (spliced_cons (wpAny_mono h (fun v s₁ h₁ => spliced_nil h₁) fun _ _ q => q)))
/-- range(e), and its iterator -/
theorem rIterR {p pos : Pos} {e : Expr} {Q : Value → Shared → Prop} (F : Fm w os₀ b0 base ex L m led s)
    (h : wpAny (model PR w) A (eval e env) (fun v s₁ => ∃ (n : Nat) (t : Tok), v = .int n t ∧ n ≤ 1000000 ∧ Fm w os₀ b0 base ex L m led s₁ ∧ ∀ it oi s', Fm w os₀ b0 base ex L m ((it, oi) :: led) s' → RIt oi 0 n → s'.gens = s₁.gens → Q (.ref it) s') E s)
    (hx : nsIn (hd.heap_39 w.params) mainGlobals (Str.ofString "range") = some none := by rfl) (hv : bootBuiltins (Str.ofString "range") = some (.type "range") := by rfl)
    (hk : env.scope.kind = .function := by rfl) (hg : env.globals = mainGlobals := by rfl) (hb : env.builtins = builtinsNs := by rfl) (hkx : env.kindOf (Str.ofString "range") = some .globalImplicit := by rfl) (hs : starEach [e] env = [(false, eval e env)] := by rfl) :
    wpAny (model PR w) A (eval (.Call (.Name (Str.ofString "range") p) [e] [] pos) env) (fun x s₁ => wpAny (model PR w) A (pyIter x) Q E s₁) E s := by
  refine rT1 F hx hv (wpAny_mono h (fun v s₁ h₁ => ?_) fun _ _ q => q) (by decide) hk hg hb hkx (by decide) hs
  obtain ⟨n, t, rfl, hn, F₁, hq⟩ := h₁
  refine call_range_1 ?_
  refine wpAny_pyIter_range (IsRange.new ..) (small_one (by decide) (by decide) (by omega) (by omega)) ?_
  have G := (F₁.ext (Ext.push s₁ { cls := .type "range", data := .fields #[.int 0 s₁.toks, .int n t, .int 1 (s₁.toks + 1)] })).tok (s₁.toks + 1 + 1)
  refine hq _ _ _ (G.push { cls := .type "range_iterator", data := .fields #[rawInt 0, rawInt (Builtin.Range.rangeSize 0 n 1), rawInt 1] } rfl) ?_ rfl
  rw [rangeSize_one]
  unfold RIt
  congr 4
  split
  · simp
  · congr 2; omega
theorem rNextR {it : Addr} {oi : Obj} {i n : Nat} {Q : Option Value → Shared → Prop} (F : Fm w os₀ b0 base ex L m (l1 ++ (it, oi) :: l2) s) (ho : RIt oi i n) (hi : i < n)
    (h : ∀ s' t oi', Fm w os₀ b0 base ex L m (l1 ++ (it, oi') :: l2) s' → RIt oi' (i + 1) n → s'.gens = s.gens → Q (some (.int i t)) s') : wpAny (model PR w) A (pyNext (.ref it)) Q E s := by
  refine wpAny_pyNext_range_item (x := i) (left := (n : Int) - i) (step := 1) (Eq.trans (F.get (a := it) (o := oi) (by simp)) (congrArg some ho)) (by omega) fun h' hi' hs => ?_
  refine h _ _ _ ((F.put hs hi').tok (s.toks + 1)) ?_ rfl
  unfold RIt
  congr 4
  congr 2; omega
theorem rNextRE {it : Addr} {oi : Obj} {i n : Nat} {Q : Option Value → Shared → Prop} (hh : A.handled = none) (F : Fm w os₀ b0 base ex L m (l1 ++ (it, oi) :: l2) s) (ho : RIt oi i n) (hi : n ≤ i)
    (h : ∀ s', Fm w os₀ b0 base ex L m (l1 ++ l2) s' → s'.gens = s.gens → Q none s') : wpAny (model PR w) A (pyNext (.ref it)) Q E s := by
  refine wpAny_pyNext_range_end hh (x := i) (left := (n : Int) - i) (step := 1) (Eq.trans (F.get (a := it) (o := oi) (by simp)) (congrArg some ho)) (by omega) fun h' hx' => ?_
  have p : List.Perm ((l1 ++ l2) ++ [(it, oi)]) (l1 ++ (it, oi) :: l2) := by
    rw [List.append_assoc]
    exact List.Perm.append_left _ (List.perm_append_singleton _ _)
  exact h _ ((F.perm p).lose (s' := { s with heap := h' }) (fun b o hb e => hx' b o (fun z => hb (by simp [z])) e) rfl F.bare) rfl
theorem rLenL {l : Addr} {vs : List Value} {Q : Value → Shared → Prop} (F : Fm w os₀ b0 base ex L m led s) (hl : s.heap.IsList l vs.toArray) (hn : vs.length ≤ 1000000)
    (h : ∀ t s', Fm w os₀ b0 base ex L m led s' → s'.gens = s.gens → Q (.int vs.length t) s') : wpAny (model PR w) A (call (.builtin "len") [.ref l]) Q E s :=
  PyProof.Rows.len_list hl (by simp only [List.size_toArray]; omega) (h _ _ (F.tok _) rfl)
theorem rList2 {e₁ e₂ : Expr} {pos : Pos} {Q : Value → Shared → Prop}
    (h : wpAny (model PR w) A (eval e₁ env) (fun v₁ s₁ => wpAny (model PR w) A (eval e₂ env) (fun v₂ s₂ => Q (.ref s₂.heap.objs.size) { s₂ with heap := s₂.heap.push (lst [v₁, v₂] 0) }) E s₁) E s)
    (h1 : starEach [e₁, e₂] env = (false, eval e₁ env) :: starEach [e₂] env := by rfl) (h2 : starEach [e₂] env = (false, eval e₂ env) :: starEach [] env := by rfl) : wpAny (model PR w) A (eval (.List [e₁, e₂] pos) env) Q E s :=
  List_ (wpAny_items_cons (wpAny_mono h (fun v₁ s₁ x => wpAny_items_cons (wpAny_mono x (fun v₂ s₂ y => wpAny_items_nil (wpAny_newList y)) fun _ _ z => z) h2) fun _ _ z => z) h1)
theorem rList1' {e₁ : Expr} {pos : Pos} {Q : Value → Shared → Prop}
    (h : wpAny (model PR w) A (eval e₁ env) (fun v₁ s₁ => Q (.ref s₁.heap.objs.size) { s₁ with heap := s₁.heap.push (lst [v₁] 0) }) E s)
    (h1 : starEach [e₁] env = (false, eval e₁ env) :: starEach [] env := by rfl) : wpAny (model PR w) A (eval (.List [e₁] pos) env) Q E s :=
  List_ (wpAny_items_cons (wpAny_mono h (fun v₁ s₁ x => wpAny_items_nil (wpAny_newList x)) fun _ _ z => z) h1)
end
/-- the rows of a text's pieces -/
inductive RowIs (V : Addr → Option Obj) : List Value → List (List Nat × Int) → Prop
  | nil : RowIs V [] []
  | cons {a : Addr} {t t' : Tok} {p : List Nat} {n : Int} {vs ks} : V a = some (tup [.str (mkS p) t, .int n t']) → RowIs V vs ks → RowIs V (.ref a :: vs) ((p, n) :: ks)
theorem RowIs.keeps {V V' : Addr → Option Obj} {vs : List Value} {ks : List (List Nat × Int)} (h : RowIs V vs ks) (k : ∀ b o, V b = some o → V' b = some o) : RowIs V' vs ks := by
  induction h with
  | nil => exact .nil
  | cons e _ ih => exact .cons (k _ _ e) ih
theorem RowIs.append {V : Addr → Option Obj} {vs ws : List Value} {ks ls : List (List Nat × Int)} (h : RowIs V vs ks) (k : RowIs V ws ls) : RowIs V (vs ++ ws) (ks ++ ls) := by
  induction h with
  | nil => exact k
  | cons e _ ih => exact .cons e ih
theorem RowIs.length {V : Addr → Option Obj} {vs : List Value} {ks : List (List Nat × Int)} (h : RowIs V vs ks) : vs.length = ks.length := by
  induction h with
  | nil => rfl
  | cons _ _ ih => simp [ih]
theorem RowIs.get {V : Addr → Option Obj} {vs : List Value} {ks : List (List Nat × Int)} (h : RowIs V vs ks) {i : Nat} {k : List Nat × Int} (hk : ks[i]? = some k) : ∃ a t t', vs[i]? = some (.ref a) ∧ V a = some (tup [.str (mkS k.1) t, .int k.2 t']) := by
  induction h generalizing i with
  | nil => simp at hk
  | cons e _ ih =>
    cases i with
    | zero => simp at hk; subst hk; exact ⟨_, _, _, rfl, e⟩
    | succ i => simpa using ih (by simpa using hk)
theorem RowIs.drop {V : Addr → Option Obj} {vs : List Value} {ks : List (List Nat × Int)} (h : RowIs V vs ks) (i : Nat) : RowIs V (vs.drop i) (ks.drop i) := by
  induction h generalizing i with
  | nil => simpa using RowIs.nil
  | cons e r ih => cases i with
    | zero => exact .cons e r
    | succ i => exact ih i
theorem RowIs.take {V : Addr → Option Obj} {vs : List Value} {ks : List (List Nat × Int)} (h : RowIs V vs ks) (i : Nat) : RowIs V (vs.take i) (ks.take i) := by
  induction h generalizing i with
  | nil => simpa using RowIs.nil
  | cons e r ih => cases i with
    | zero => exact .nil
    | succ i => exact .cons e (ih i)
theorem RowIs.mkView {w : World} {os₀ : OsState} {b0 base : Heap} {ex : List Addr} {L : Addr} {m : Str → Option Value} {led : List (Addr × Obj)} {s : Shared} {vs : List Value} {ks : List (List Nat × Int)}
    (h : RowIs s.heap.get? vs ks) (F : Fm w os₀ b0 base ex L m led s) (hled : ∀ p ∈ led, ∀ its n, p.2.data ≠ .seq its n) : RowIs (vw s.heap (L :: led.map (·.1))) vs ks := by
  induction h with
  | nil => exact .nil
  | cons e _ ih => exact .cons (F.seqView hled e rfl) ih
/-- the text of a tree, written from a node on -/
def writeF (above : List Int) (hidden : List (List Nat)) : Nat → Nat → List (List Nat × Int)
  | 0, _ => []
  | f + 1, node => [([40], (node : Int)), (hidden.getD node [], -1)] ++ (List.range above.length).flatMap (fun kid => if above[kid]? = some (node : Int) then writeF above hidden f kid else []) ++ [([41], (node : Int))]
theorem flat_len {α : Type} {g : Nat → List α} {B : Nat} (h : ∀ k, (g k).length ≤ B) : ∀ l : List Nat, (l.flatMap g).length ≤ l.length * B
  | [] => by simp
  | k :: r => by
    have h1 := flat_len h r
    have h2 := h k
    simp only [List.flatMap_cons, List.length_append, List.length_cons, Nat.add_mul, Nat.one_mul]
    omega
theorem writeF_len {above : List Int} {hidden : List (List Nat)} (hn : above.length ≤ 6) : ∀ f node, (writeF above hidden f node).length + 1 ≤ 7 ^ f
  | 0, _ => by simp [writeF]
  | f + 1, node => by
    have h := flat_len (g := fun kid => if above[kid]? = some (node : Int) then writeF above hidden f kid else []) (B := 7 ^ f - 1) (fun k => by
      have := writeF_len (hidden := hidden) hn f k
      split
      · omega
      · simp) (List.range above.length)
    have h1 : (List.range above.length).length * (7 ^ f - 1) ≤ 6 * (7 ^ f - 1) := Nat.mul_le_mul_right _ (by simpa using hn)
    have h2 : 1 ≤ 7 ^ f := Nat.pos_of_ne_zero (by simp)
    have h3 : 7 ^ (f + 1) = 7 * 7 ^ f := by rw [Nat.pow_succ, Nat.mul_comm]
    simp only [writeF, List.length_append, List.length_cons, List.length_nil]
    omega
section
variable {w : World} {A : Around} {os₀ : OsState} {b0 base : Heap} {ex : List Addr} {L : Addr} {m : Str → Option Value} {led l1 l2 : List (Addr × Obj)} {s : Shared} {env : Env} {E : Value → Shared → Prop}
/-- what the loop over the kids keeps -/
def WrI (w : World) (os₀ : OsState) (b0 e₀ : Heap) (L it la lh : Addr) (above : List Int) (hidden : List (List Nat)) (f node : Nat) (tn : Tok) (n : Nat) (s : Shared) : Prop :=
  ∃ (i : Nat) (base : Heap) (ex : List Addr) (m : Str → Option Value) (a : Addr) (vs : List Value) (oi : Obj), n + i = above.length + 1 ∧ i ≤ above.length ∧ Fm w os₀ b0 base ex L m [(it, oi)] s ∧ Sub e₀ [] base ex ∧ RIt oi i above.length ∧
    m (Str.ofString "row") = some (.ref a) ∧ m (Str.ofString "node") = some (.int node tn) ∧ m (Str.ofString "above") = some (.ref la) ∧ m (Str.ofString "hidden") = some (.ref lh) ∧ PL (vw base ex) a vs ∧
    RowIs (vw base ex) vs ([([40], (node : Int)), (hidden.getD node [], -1)] ++ (List.range i).flatMap (fun kid => if above[kid]? = some (node : Int) then writeF above hidden f kid else []))

theorem write_spec {la lh : Addr} {va vh : List Value} {above : List Int} {hidden : List (List Nat)} (hn : above.length ≤ 6) (hlt : ∀ (k : Nat) (p : Int), above[k]? = some p → p < k) (hva : IntsAre va above) (hvh : StrsAre vh (hidden.map mkS)) (hhl : hidden.length = above.length) :
    ∀ (f : Nat) {node : Nat} {tn : Tok} {A : Around} {base : Heap} {ex : List Addr} {L : Addr} {m : Str → Option Value} {led : List (Addr × Obj)} {s : Shared} {E : Value → Shared → Prop} {Q : Value → Shared → Prop}, f ≤ 6 → A.handled = none → A.depth + f ≤ recursionLimit →
    Fm w os₀ b0 base ex L m led s → PL s.heap.get? la va → PL s.heap.get? lh vh → node < above.length → above.length ≤ node + f →
    (∀ a vs s', Ext s s' → PL s'.heap.get? a vs → RowIs s'.heap.get? vs (writeF above hidden f node) → Q (.ref a) s') → wpAny (model PR w) A (call (.ref 56) [.int node tn, .ref la, .ref lh]) Q E s
  | 0, node, tn, A, base, ex, L, m, led, s, E, Q, _, _, _, _, _, _, h1, h2, _ => absurd h1 (by omega)
  | f + 1, node, tn, A, base, ex, L, m, led, s, E, Q, hf6, hh, hroom, F, hla, hlh, hnode, hfuel, hQ => by
    refine rCall (by omega) F rfl rfl rfl rfl rfl rfl (binds := [(Str.ofString "node", .int node tn), (Str.ofString "above", .ref la), (Str.ofString "hidden", .ref lh)]) (.of_eq rfl) rfl rfl fun L' s₁ F₁ g₁ => ?_
    have hh' : (A.deeper (fEnv w.params 56 L')).handled = none := hh
    have hroom' : (A.deeper (fEnv w.params 56 L')).depth + f ≤ recursionLimit := by show A.depth + 1 + f ≤ _; omega
    generalize A.deeper (fEnv w.params 56 L') = A' at hh' hroom'
    have hA : (fun y => List.lookup y [(Str.ofString "node", Value.int node tn), (Str.ofString "above", .ref la), (Str.ofString "hidden", .ref lh)].reverse) (Str.ofString "node") = some (.int node tn) := rfl
    have hB : (fun y => List.lookup y [(Str.ofString "node", Value.int node tn), (Str.ofString "above", .ref la), (Str.ofString "hidden", .ref lh)].reverse) (Str.ofString "above") = some (.ref la) := rfl
    have hC : (fun y => List.lookup y [(Str.ofString "node", Value.int node tn), (Str.ofString "above", .ref la), (Str.ofString "hidden", .ref lh)].reverse) (Str.ofString "hidden") = some (.ref lh) := rfl
    generalize (fun y => List.lookup y [(Str.ofString "node", Value.int node tn), (Str.ofString "above", .ref la), (Str.ofString "hidden", .ref lh)].reverse) = m₁ at F₁ hA hB hC
    have old : ∀ {s' : Shared} {m' : Str → Option Value} {led' : List (Addr × Obj)}, Fm w os₀ b0 s.heap [] L' m' led' s' → ∀ b o, s.heap.get? b = some o → s'.heap.get? b = some o := fun F' b o e => F'.keep b o e (by simp)
    have lva : va.length = above.length := hva.length
    obtain ⟨thid, hhid⟩ := StrsAre_get hvh (i := node) (x := mkS (hidden.getD node [])) (by
      rw [List.getElem?_map, List.getElem?_eq_getElem (by omega)]; simp [List.getD, hhl, hnode])
    refine wpAny_execs_cons (wpAny_Assign_Name (rList2 (rTuple2 (rStr F₁ fun t₁ s₂ F₂ g₂ => rNm F₂ hA ?_))))
    have F₃ := F₂.push (tup [.str (mkS [40]) t₁, .int node tn]) rfl
    refine rTuple2 (Subscript_ (rNm F₃ hC (rNm F₃ hA (item_listL (hlh.keeps (old F₃)).isList (by omega) (by omega) (by simpa using hhid) (wpAny_UnaryOp (rInt F₃ fun t₄ s₄ F₄ g₄ => PyProof.Rows.neg_int ?_))))))
    have F₅ := (F₄.tok (s₄.toks + 1)).push (tup [.str (mkS (hidden.getD node [])) thid, .int (-1) s₄.toks]) rfl
    have F₆ := F₅.push (lst [.ref s₂.heap.objs.size, .ref s₄.heap.objs.size] 0) rfl
    refine rSt F₆ fun s₇ F₇ g₇ => ?_
    generalize s₂.heap.objs.size = x₂ at F₆ F₇ F₅ F₄ F₃
    generalize s₄.heap.objs.size = x₄ at F₆ F₇ F₅
    have hrow : RowIs s₇.heap.get? [.ref x₂, .ref x₄] [([40], (node : Int)), (hidden.getD node [], -1)] :=
      .cons (F₇.get (.tail _ (.tail _ (.head _)))) (.cons (F₇.get (.tail _ (.head _))) .nil)
    have hl₇ : PL s₇.heap.get? _ [.ref x₂, .ref x₄] := ⟨0, F₇.get (.head _)⟩
    have F₈ := F₇.tail.tail.tail
    generalize hm : upd m₁ (Str.ofString "row") _ = m₈ at F₈
    have cA : m₈ (Str.ofString "node") = some (.int node tn) := by rw [← hm, upd_ne (by decide)]; exact hA
    have cB : m₈ (Str.ofString "above") = some (.ref la) := by rw [← hm, upd_ne (by decide)]; exact hB
    have cC : m₈ (Str.ofString "hidden") = some (.ref lh) := by rw [← hm, upd_ne (by decide)]; exact hC
    have cR := congrFun hm (Str.ofString "row")
    rw [upd_self] at cR
    have hr₈ := hrow.mkView F₈ (fun p hp => by cases hp)
    have hl₈ : PL (vw s₇.heap [L']) _ [.ref x₂, .ref x₄] := let ⟨n, e⟩ := hl₇; ⟨n, F₈.seqView (fun p hp => by cases hp) e rfl⟩
    have S₈ := (Sub.refl s.heap []).rebase F₈
    have F₉ := F₈.rebase
    refine wpAny_execs_cons (rFor (rIterR F₉ (rB1 F₉ (id := "len") rfl rfl (rNm F₉ cB (rLenL F₉ (hla.keeps fun b o e => S₈.now F₉ b o e (by simp)).isList (by omega) fun t₁ s₁₀ F₁₀ g₁₀ => ⟨va.length, t₁, rfl, by omega, F₁₀, fun it oi s₁₁ F₁₁ ho g₁₁ => ?_⟩)))))
    rw [lva] at ho
    refine ⟨WrI w os₀ b0 s.heap L' it la lh above hidden f node tn, above.length + 1, ⟨0, _, _, _, _, _, oi, rfl, Nat.zero_le _, F₁₁, S₈, ho, cR.symm, cA, cB, cC, hl₈, by simpa using hr₈⟩, ?_⟩
    clear cR cA cB cC
    intro n s₉ hI
    obtain ⟨i, base', ex', m₉, a₉, vs₉, oi₉, hn₉, hi, F₉, S₉, ho₉, cR, cA, cB, cC, hl₉, hr₉⟩ := hI
    have hlen₉ : vs₉.length ≤ 100 + 6 * 7 ^ f := by
      rw [hr₉.length]
      have h := flat_len (g := fun kid => if above[kid]? = some (node : Int) then writeF above hidden f kid else []) (B := 7 ^ f) (fun k => by
        have := writeF_len (hidden := hidden) hn f k
        split
        · omega
        · simp) (List.range i)
      have h1 : (List.range i).length * 7 ^ f ≤ 6 * 7 ^ f := Nat.mul_le_mul_right _ (by simp; omega)
      simp only [List.length_append, List.length_cons, List.length_nil]
      omega
    have h7 : 7 ^ f ≤ 117649 := Nat.pow_le_pow_right (n := 7) (by decide) (show f ≤ 6 by omega)
    by_cases hend : i = above.length
    · refine rNextRE (l1 := []) hh' F₉ ho₉ (by omega) fun s₁₀ F₁₀ g₁₀ => wpAny_execs_nil ?_
      refine wpAny_execs_cons (wpAny_Return_some (wpAny_BinOp (rNm F₁₀ cR (rList1' (rTuple2 (rStr F₁₀ fun t₁ s₁₁ F₁₁ g₁₁ => rNm F₁₁ cA ?_))))))
      have F₁₂ := F₁₁.push (tup [.str (mkS [41]) t₁, .int node tn]) rfl
      have F₁₃ := F₁₂.push (lst [.ref s₁₁.heap.objs.size] 0) rfl
      refine rAddL F₁₃ (hl₉.keeps F₁₃.view) ⟨0, F₁₃.get (.head _)⟩ (by simp; omega) fun a₁₄ s₁₄ F₁₄ g₁₄ => ?_
      refine hQ _ _ _ (F.subExt S₉ F₁₄) ⟨0, F₁₄.get (.head _)⟩ ?_
      rw [hend] at hr₉
      exact (hr₉.keeps F₁₄.view).append (.cons (F₁₄.get (.tail _ (.tail _ (.head _)))) .nil)
    · have hlt' : i < above.length := by omega
      obtain ⟨ti, hvi⟩ := hva.get i above[i] (List.getElem?_eq_getElem hlt')
      refine rNextR (l1 := []) F₉ ho₉ hlt' fun s₁₀ t₁₀ oi' F₁₀ ho' g₁₀ => ?_
      show wpAny _ _ (pure ()) _ _ _
      refine wpAny_pure (wpAny_assign_Name (rSt F₁₀ fun s₁₁ F₁₁ g₁₁ => ?_))
      have cR' := (upd_ne (m := m₉) (x := Str.ofString "kid") (y := Str.ofString "row") (v := .int i t₁₀) (by decide)).trans cR
      have cA' := (upd_ne (m := m₉) (x := Str.ofString "kid") (y := Str.ofString "node") (v := .int i t₁₀) (by decide)).trans cA
      have cB' := (upd_ne (m := m₉) (x := Str.ofString "kid") (y := Str.ofString "above") (v := .int i t₁₀) (by decide)).trans cB
      have cC' := (upd_ne (m := m₉) (x := Str.ofString "kid") (y := Str.ofString "hidden") (v := .int i t₁₀) (by decide)).trans cC
      have cK := upd_self m₉ (Str.ofString "kid") (.int i t₁₀)
      generalize upd m₉ (Str.ofString "kid") (.int i t₁₀) = m₁₁ at F₁₁ cR' cA' cB' cC' cK
      have la₁₁ := hla.keeps fun b o e => S₉.now F₁₁ b o e (by simp)
      have lh₁₁ := hlh.keeps fun b o e => S₉.now F₁₁ b o e (by simp)
      refine wpAny_execs_cons (wpAny_If (wpAny_isTrue_Compare1 (Subscript_ (rNm F₁₁ cB' (rNm F₁₁ cK (item_listL la₁₁.isList (by omega) (by omega) (by simpa using hvi) (rNm F₁₁ cA' (PyProof.Rows.eq_int (wpAny_truthy_bool ?_)))))))))
      have hrange : (List.range (i + 1)).flatMap (fun kid => if above[kid]? = some (node : Int) then writeF above hidden f kid else []) = (List.range i).flatMap (fun kid => if above[kid]? = some (node : Int) then writeF above hidden f kid else []) ++ (if above[i] = (node : Int) then writeF above hidden f i else []) := by
        rw [List.range_succ, List.flatMap_append]
        simp [List.getElem?_eq_getElem hlt']
      by_cases heq : above[i] = (node : Int)
      · rw [if_pos (by simpa using heq)]
        have hki := hlt i _ (List.getElem?_eq_getElem hlt')
        refine wpAny_execs_cons (wpAny_Assign_Name (wpAny_BinOp (rNm F₁₁ cR' (Call_Name (trees := [(false, _), (false, _), (false, _)]) rfl (rGlob F₁₁ (v := .ref 56) rfl ?_)))))
        refine callWith_function (o := ⟨.type "function", none, .func (fdAt w.params 56), #[]⟩) (fd := fdAt w.params 56) (evalArgs_plain (spliced_cons (rNm F₁₁ cK (spliced_cons (rNm F₁₁ cB' (spliced_cons (rNm F₁₁ cC' (spliced_nil ⟨⟨F₁₁.topNow.K 56 _ rfl, rfl⟩, ?_⟩))))))))
        refine write_spec hn hlt hva hvh hhl f (by omega) hh' hroom' F₁₁ la₁₁ lh₁₁ hlt' (by omega) fun a₁₂ vs₁₂ s₁₂ x₁₂ hl₁₂ hr₁₂ => ?_
        have F₁₂ := F₁₁.ext x₁₂
        have hw := writeF_len (hidden := hidden) hn f i
        have hw2 := hr₁₂.length
        have hled : ∀ p ∈ [(it, oi')], ∀ its n, p.2.data ≠ .seq its n := fun p hp => by rw [List.mem_singleton.mp hp]; exact ho'.noSeq
        refine rAddL F₁₂.rebase ((hl₉.keeps F₁₂.view)) hl₁₂ (by omega) fun a₁₃ s₁₃ F₁₃ g₁₃ => ?_
        refine rSt F₁₃ fun s₁₄ F₁₄ g₁₄ => wpAny_execs_nil (wpAny_execs_nil ?_)
        have hl₁₄ := F₁₄.get (.head _)
        have F₁₅ := F₁₄.tail
        refine ⟨n - 1, by omega, i + 1, _, _, _, a₁₃, vs₉ ++ vs₁₂, oi', by omega, hlt', F₁₅.rebase, (S₉.rebase F₁₂).rebase F₁₅, ho', upd_self _ _ _, ?_, ?_, ?_, ⟨0, F₁₅.seqView hled hl₁₄ rfl⟩, ?_⟩
        · rw [upd_ne (by decide)]; exact cA'
        · rw [upd_ne (by decide)]; exact cB'
        · rw [upd_ne (by decide)]; exact cC'
        · rw [hrange, if_pos heq, ← List.append_assoc]
          refine RowIs.mkView (.append ?_ ?_) F₁₅ hled
          · exact ((hr₉.keeps F₁₂.view).mkView F₁₂ hled).keeps F₁₅.view
          · exact (hr₁₂.mkView F₁₂ hled).keeps F₁₅.view
      · rw [if_neg (by simpa using heq)]
        refine wpAny_execs_nil (wpAny_execs_nil ?_)
        refine ⟨n - 1, by omega, i + 1, _, _, _, a₉, vs₉, oi', by omega, hlt', F₁₁, S₉, ho', cR', cA', cB', cC', hl₉, ?_⟩
        rw [hrange, if_neg heq, List.append_nil]
        exact hr₉
end
end Mine

namespace Mine
section
variable {w : World} {A : Around} {os₀ : OsState} {b0 base : Heap} {ex : List Addr} {L : Addr} {m : Str → Option Value} {led l1 l2 il : List (Addr × Obj)} {s s₂ : Shared} {env : Env} {E : Value → Shared → Prop}
/-- into a comprehension's own names -/
theorem Fm.enter {h₁ : Heap} {C D : Addr} {mm : Str → Option Value} {k : Nat} (F : Fm w os₀ b0 base ex L m (il ++ led) s₂) (hD : @Eq Nat D s₂.heap.objs.size) (hC : @Eq Nat C (s₂.heap.objs.size + 1)) (hns : h₁.Ns C mm)
    (hk : ∀ b o, s₂.heap.get? b = some o → h₁.get? b = some o) (hg : h₁.get? D = some (lst [] 0)) : Fm w os₀ b0 s₂.heap (il.map (·.1)) C mm (il ++ [(D, lst [] 0)]) { s₂ with heap := h₁, toks := k } := by
  have new : ∀ a, s₂.heap.objs.size ≤ a → s₂.heap.get? a = none := fun a ha => by
    cases e : s₂.heap.get? a with
    | none => rfl
    | some o' => exact absurd (Heap.lt_size e) (Nat.not_lt.mpr ha)
  have new0 : ∀ a, s₂.heap.objs.size ≤ a → b0.get? a = none := fun a ha => by
    cases e : b0.get? a with
    | none => rfl
    | some o' => exact absurd (Heap.lt_size (F.keep0 _ _ e)) (Nat.not_lt.mpr ha)
  have ilt : ∀ a ∈ il.map (·.1), a < s₂.heap.objs.size := fun a ha => by
    obtain ⟨p, hp, rfl⟩ := List.mem_map.mp ha
    exact Heap.lt_size (F.own p (List.mem_append.mpr (.inl hp)))
  have mem : ∀ a ∈ C :: (il ++ [(D, lst [] 0)]).map (·.1), a = C ∨ a ∈ il.map (·.1) ∨ a = D := fun a ha => by
    rcases List.mem_cons.mp ha with rfl | ha
    · exact .inl rfl
    · rw [List.map_append, List.mem_append] at ha
      rcases ha with ha | ha
      · exact .inr (.inl ha)
      · exact .inr (.inr (by simpa using ha))
  refine ⟨F.top, fun b o e => hk b o (F.keep0 b o e), fun b o e _ => hk b o e, fun a ha => ?_, fun a ha => ?_, hns, fun p hp => ?_, ?_, F.os, F.bare⟩
  · rcases mem a ha with rfl | ha | rfl
    · exact new0 _ (by omega)
    · exact F.sep0 a (List.mem_cons_of_mem _ (by rw [List.map_append]; exact List.mem_append.mpr (.inl ha)))
    · exact new0 _ (by omega)
  · rcases mem a ha with rfl | ha | rfl
    · exact .inl (new _ (by omega))
    · exact .inr ha
    · exact .inl (new _ (by omega))
  · rcases List.mem_append.mp hp with hp | hp
    · exact hk _ _ (F.own p (List.mem_append.mpr (.inl hp)))
    · rw [List.mem_singleton.mp hp]; exact hg
  · have nd := F.nodup
    rw [List.map_append, List.nodup_cons, List.nodup_append] at nd
    rw [List.map_append, List.nodup_cons, List.nodup_append]
    refine ⟨fun hm => ?_, nd.2.1, by simp, fun a ha b hb => ?_⟩
    · rcases List.mem_append.mp hm with hm | hm
      · have := ilt _ hm; omega
      · have : @Eq Nat C D := by simpa using hm
        omega
    · have : @Eq Nat b D := by simpa using hb
      have := ilt _ ha
      intro (e : @Eq Nat a b)
      omega
/-- and out again -/
theorem Fm.glue {s₅ : Shared} {C : Addr} {oC : Obj} {m' : Str → Option Value} {led₅ : List (Addr × Obj)} (F : Fm w os₀ b0 base ex L m (il ++ led) s₂) (G : Fm w os₀ b0 s₂.heap (il.map (·.1)) C m' led₅ s₅) (hC : s₅.heap.get? C = some oC) :
    Fm w os₀ b0 base ex L m ((C, oC) :: led₅ ++ led) s₅ := by
  have nd := F.nodup
  rw [List.map_append, List.nodup_cons, List.nodup_append] at nd
  have nil : ∀ a ∈ L :: led.map (·.1), a ∉ il.map (·.1) := fun a ha hm => by
    rcases List.mem_cons.mp ha with rfl | ha
    · exact nd.1 (List.mem_append.mpr (.inl hm))
    · exact nd.2.2.2 a hm a ha rfl
  have old : ∀ a ∈ L :: led.map (·.1), ∃ o, s₂.heap.get? a = some o := fun a ha => by
    rcases List.mem_cons.mp ha with rfl | ha
    · obtain ⟨o, _, _, e, _⟩ := F.ns; exact ⟨o, e⟩
    · obtain ⟨p, hp, rfl⟩ := List.mem_map.mp ha
      exact ⟨_, F.own p (List.mem_append.mpr (.inr hp))⟩
  have notNew : ∀ a ∈ L :: led.map (·.1), a ∉ C :: led₅.map (·.1) := fun a ha hm => by
    obtain ⟨o, e⟩ := old a ha
    rcases G.sep a hm with h | h
    · rw [e] at h; cases h
    · exact nil a ha h
  have mem : ∀ a ∈ L :: ((C, oC) :: led₅ ++ led).map (·.1), a ∈ L :: led.map (·.1) ∨ a ∈ C :: led₅.map (·.1) := fun a ha => by
    simp only [List.cons_append, List.map_cons, List.map_append, List.mem_cons, List.mem_append] at ha ⊢
    rcases ha with h | h | h | h
    · exact .inl (.inl h)
    · exact .inr (.inl h)
    · exact .inr (.inr h)
    · exact .inl (.inr h)
  refine ⟨F.top, G.keep0, fun b o e n => G.keep b o (F.keep b o e n) fun hm => ?_, fun a ha => ?_, fun a ha => ?_, F.ns.at' fun o e => G.keep _ o e (nil L (.head _)), fun p hp => ?_, ?_, G.os, G.bare⟩
  · rcases F.sep b (List.mem_cons_of_mem _ (by rw [List.map_append]; exact List.mem_append.mpr (.inl hm))) with h | h
    · rw [e] at h; cases h
    · exact n h
  · rcases mem a ha with ha | ha
    · refine F.sep0 a ?_
      rcases List.mem_cons.mp ha with rfl | ha
      · exact .head _
      · exact List.mem_cons_of_mem _ (by rw [List.map_append]; exact List.mem_append.mpr (.inr ha))
    · exact G.sep0 a ha
  · rcases mem a ha with ha | ha
    · refine F.sep a ?_
      rcases List.mem_cons.mp ha with rfl | ha
      · exact .head _
      · exact List.mem_cons_of_mem _ (by rw [List.map_append]; exact List.mem_append.mpr (.inr ha))
    · rcases G.sep a ha with h | h
      · cases e : base.get? a with
        | none => exact .inl rfl
        | some o =>
          by_cases hx : a ∈ ex
          · exact .inr hx
          · rw [F.keep a o e hx] at h; cases h
      · exact F.sep a (List.mem_cons_of_mem _ (by rw [List.map_append]; exact List.mem_append.mpr (.inl h)))
  · rcases List.mem_append.mp hp with hp | hp
    · rcases List.mem_cons.mp hp with rfl | hp
      · exact hC
      · exact G.own p hp
    · exact G.keep _ _ (F.own p (List.mem_append.mpr (.inr hp))) (nil _ (List.mem_cons_of_mem _ (List.mem_map.mpr ⟨p, hp, rfl⟩)))
  · have gd := G.nodup
    rw [List.map_append, List.nodup_cons, List.map_cons, List.nodup_append]
    refine ⟨fun hm => ?_, gd, nd.2.2.1, fun a ha b hb e => notNew b (List.mem_cons_of_mem _ hb) (e ▸ ha)⟩
    rcases List.mem_append.mp hm with hm | hm
    · exact notNew L (.head _) hm
    · exact nd.1 (List.mem_append.mpr (.inr hm))

/-- the loop of a comprehension -/
theorem rCompLoop {elt target iter : Expr} {ifs : List Expr} {scope : Scope} {pos : Pos} {it acc : Value} {R : Result → Shared → Prop} (I : Nat → Shared → Prop)
    (turn : ∀ n s, I n s → wpAny (model PR w) A (pyNext it) (fun r s₁ => match r with
      | none => R (.ok .next) s₁
      | some v => wpAny (model PR w) A (letOwnedTupleGo target it v) (fun _ s₁' => wpAny (model PR w) A (assign target env v) (fun _ s₂ =>
          wpAny (model PR w) A (forIn ifs true fun c r => if r = true then do let ok ← isTrue c env (eval c env); pure (ForInStep.yield ok) else pure (ForInStep.yield r)) (fun ok s₃ =>
            if ok = true then wpAny (model PR w) A (eval elt env) (fun x s₄ =>
              wpAny (model PR w) A (call (.builtin "list.append") [acc, x]) (fun _ s₅ => ∃ m, m < n ∧ I m s₅) NE s₄) NE s₃
            else ∃ m, m < n ∧ I m s₃) NE s₂) NE s₁') NE s₁) NE s)
    (n : Nat) (h : I n s) : codeAny (model PR w) A (.compLoop (.ListComp elt [⟨target, iter, ifs, 0⟩] scope pos) 0 it acc env) R s := by
  refine codeAny_loop rfl I (fun n s hI => ?_) n h
  show wpAny _ A ((compTurn (.ListComp elt [⟨target, iter, ifs, 0⟩] scope pos) 0 it acc env).onRaise (fun x => do noteFrame x env; theTreesLotGoes x)) _ _ s
  refine wpAny_noted ?_
  rw [compTurn_list]
  refine wpAny_bind (wpAny_standAt (wpAny_bind (wpAny_mono (turn n s hI) (fun r s₁ h₁ => ?_) fun _ _ h' => h'.elim)))
  cases r with
  | none => exact wpAny_pure h₁
  | some v =>
    refine wpAny_bind (wpAny_mono h₁ (fun _ s₁' h₁' => wpAny_bind (wpAny_mono h₁' (fun _ s₂ h₂ => wpAny_bind (wpAny_mono h₂ (fun ok s₃ h₃ => ?_) fun _ _ h' => h'.elim)) fun _ _ h' => h'.elim)) fun _ _ h' => h'.elim)
    cases ok with
    | false => exact wpAny_pure ⟨rfl, h₃⟩
    | true =>
      exact wpAny_bind (wpAny_bind (wpAny_mono h₃ (fun x s₄ h₄ => wpAny_bind (wpAny_mono h₄ (fun _ s₅ h₅ => wpAny_pure (wpAny_pure ⟨rfl, h₅⟩)) fun _ _ h' => h'.elim)) fun _ _ h' => h'.elim))

/-- one turn of a comprehension -/
def CompTurn (w : World) (A : Around) (elt target : Expr) (ifs : List Expr) (env : Env) (it acc : Value) (I : Nat → Shared → Prop) (Z : Shared → Prop) : Prop :=
  ∀ n s, I n s → wpAny (model PR w) A (pyNext it) (fun r s₁ => match r with
      | none => Z s₁
      | some v => wpAny (model PR w) A (letOwnedTupleGo target it v) (fun _ s₁' => wpAny (model PR w) A (assign target env v) (fun _ s₂ =>
          wpAny (model PR w) A (forIn ifs true fun c r => if r = true then do let ok ← isTrue c env (eval c env); pure (ForInStep.yield ok) else pure (ForInStep.yield r)) (fun ok s₃ =>
            if ok = true then wpAny (model PR w) A (eval elt env) (fun x s₄ =>
              wpAny (model PR w) A (call (.builtin "list.append") [acc, x]) (fun _ s₅ => ∃ m, m < n ∧ I m s₅) NE s₄) NE s₃
            else ∃ m, m < n ∧ I m s₃) NE s₂) NE s₁') NE s₁) NE s
/-- what a comprehension over an iterator needs -/
def CompOver (w : World) (A : Around) (elt target : Expr) (ifs : List Expr) (scope : Scope) (cl : List (Str × Addr)) (env : Env) (os₀ : OsState) (b0 base : Heap) (ex : List Addr) (L : Addr) (m : Str → Option Value) (led : List (Addr × Obj)) (Q : Addr → List Value → Nat → Addr → Shared → Prop) (it : Value) (s₂ : Shared) : Prop :=
  ∃ (I : Addr) (il : List (Addr × Obj)), it = .ref I ∧ Fm w os₀ b0 base ex L m (il ++ led) s₂ ∧
    (∀ s' (Q' : Value → Shared → Prop) (E' : Value → Shared → Prop), (∀ b o, s₂.heap.get? b = some o → s'.heap.get? b = some o) → Q' it s' → wpAny (model PR w) A (pyIter it) Q' E' s') ∧
    ∀ D C s₄, Fm w os₀ b0 s₂.heap (il.map (·.1)) C (fun _ => none) (il ++ [(D, lst [] 0)]) s₄ → s₄.gens = s₂.gens → ∃ (J : Nat → Shared → Prop) (n : Nat), J n s₄ ∧
      CompTurn w A elt target ifs (compEnvC scope cl C env) it (.ref D) J (fun s₅ => ∃ m' vs k, Fm w os₀ b0 s₂.heap (il.map (·.1)) C m' [(D, lst vs k)] s₅ ∧ Q D vs k C s₅)
theorem comp_core {elt target iter : Expr} {ifs : List Expr} {scope : Scope} {cl : List (Str × Addr)} {pos : Pos} {it : Value} {RR : Value → Addr → Result → Shared → Prop} {Q : Addr → List Value → Nat → Addr → Shared → Prop}
    (hcell : (scope.names.all fun x => decide (x.2 ≠ .cell)) = true) (hkind : scope.kind = .function) (h : CompOver w A elt target ifs scope cl env os₀ b0 base ex L m led Q it s₂)
    (hRR : ∀ D C m' oC vs k s₅, s₅.heap.Ns C m' → Fm w os₀ b0 base ex L m ((C, oC) :: (D, lst vs k) :: led) s₅ → Q D vs k C s₅ → RR (.ref D) C (.ok .next) s₅) :
    wpAny (model PR w) A (newList []) (fun acc s₃ => wpAny (model PR w) A (newFunctionEnv scope env.globals cl [] env.qual none .none (some env)) (fun cenv s₄ =>
      codeAny (model PR w) A (.compStart (.ListComp elt [⟨target, iter, ifs, 0⟩] scope pos) 0 it acc { cenv with scope := relabel scope env }) (RR acc cenv.locals) s₄) E s₃) E s₂ := by
  obtain ⟨I, il, rfl, F₂, hself, hloop⟩ := h
  refine wpAny_newList (wpAny_newFunctionEnv (fun x hx => of_decide_eq_true (List.all_eq_true.mp hcell x hx)) (by intro y hy; simp at hy) (fun h₁ hns₁ hsb₁ => ?_) hkind)
  dsimp only at hns₁ hsb₁ ⊢
  have hkeep : ∀ b o, s₂.heap.get? b = some o → h₁.get? b = some o := fun b o e => hsb₁.extBut b o (by have := Heap.lt_size e; rw [size_psh]; exact Nat.ne_of_lt (Nat.lt_succ_of_lt this)) (Heap.get?_push_of_some _ (Heap.get?_push_of_some _ e))
  have hg : h₁.get? s₂.heap.objs.size = some (lst [] 0) := hsb₁.extBut _ _ (by rw [size_psh]; intro e; exact absurd e (Nat.ne_of_lt (Nat.lt_succ_self _))) (Heap.get?_push_of_some _ (Heap.get?_push_size _ rfl))
  have F₄ := F₂.enter (k := s₂.toks + ([] : List (Str × Value)).length) rfl (size_psh _ _) hns₁ hkeep hg
  obtain ⟨J, n, hJ, turn⟩ := hloop _ _ _ F₄ rfl
  have loop : codeAny (model PR w) A (.compLoop (.ListComp elt [⟨target, iter, ifs, 0⟩] scope pos) 0 (.ref I) (.ref s₂.heap.objs.size) (compEnvC scope cl (s₂.heap.push (lst [] 0)).objs.size env)) (RR (.ref s₂.heap.objs.size) (s₂.heap.push (lst [] 0)).objs.size) { s₂ with heap := h₁, toks := s₂.toks + ([] : List (Str × Value)).length } := by
    refine rCompLoop J (fun n s hI => wpAny_mono (turn n s hI) (fun r s₁ h₁ => ?_) fun _ _ q => q) n hJ
    cases r with
    | none =>
      obtain ⟨m', vs, k, G, hq⟩ := h₁
      obtain ⟨oC, _, _, e, _⟩ := id G.ns
      exact hRR _ _ m' oC vs k _ G.ns (F₂.glue G e) hq
    | some v => exact h₁
  exact codeAny_compStart_list loop (hself _ _ _ (fun b o e => hkeep b o e) loop)
theorem Fm.leave {C : Addr} {oC : Obj} {h' : Heap} (F : Fm w os₀ b0 base ex L m ((C, oC) :: led) s) (hs : Heap.SameBut C s.heap h') : Fm w os₀ b0 base ex L m led { s with heap := h' } := by
  have p : List.Perm (led ++ [(C, oC)]) ((C, oC) :: led) := List.perm_append_singleton _ _
  exact (F.perm p).lose (s' := { s with heap := h' }) (fun b o hb e => hs.extBut b o (fun z => hb (by simp [z])) e) rfl F.bare
/-- a comprehension, as a value -/
theorem rComp {elt target iter : Expr} {ifs : List Expr} {scope : Scope} {cl : List (Str × Addr)} {pos : Pos} {Q : Value → Shared → Prop}
    (h : wpAny (model PR w) A (eval iter env) (fun x s₁ => wpAny (model PR w) A (pyIter x) (CompOver w A elt target ifs scope cl env os₀ b0 base ex L m led
      (fun D vs k C s₅ => ∀ s', Fm w os₀ b0 base ex L m ((D, lst vs k) :: led) s' → (∀ b o, b ≠ C → s₅.heap.get? b = some o → s'.heap.get? b = some o) → s'.gens = s₅.gens → Q (.ref D) s')) E s₁) E s)
    (hclos : closureFor scope env = pure cl := by rfl) (hcell : (scope.names.all fun x => decide (x.2 ≠ .cell)) = true := by rfl) (hkind : scope.kind = .function := by rfl)
    (hnames : (scope.names.all fun x => decide (x.2 = .local → scope.names.lookup x.1 = some .local)) = true := by rfl) (hs : ∀ x, foldedSetIterable iter env x = pure x := by intro _; rfl) :
    wpAny (model PR w) A (eval (.ListComp elt [⟨target, iter, ifs, 0⟩] scope pos) env) Q E s := by
  rw [eval_ListComp]
  refine wpAny_comprehension_free (use := none) rfl hs hclos hkind (fun x hx => of_decide_eq_true (List.all_eq_true.mp hnames x hx)) (wpAny_mono h (fun xv s₁ h₁ => wpAny_mono h₁ (fun it s₂ h₂ => ?_) fun _ _ e => e) fun _ _ e => e)
  refine comp_core (RR := fun acc C => compPost (model PR w) A E none Q acc C) hcell hkind h₂ fun D C m' oC vs k s₅ hns F₅ hq => ?_
  exact ⟨m', hns, fun h'' hs'' => hq _ (F₅.leave hs'') (fun b o hb e => hs''.extBut b o hb e) rfl⟩
/-- a comprehension, stored at a local name -/
theorem rCompSt {elt target iter : Expr} {ifs : List Expr} {scope : Scope} {cl : List (Str × Addr)} {pos py spos : Pos} {y : Str} {Q : Flow → Shared → Prop}
    (h : wpAny (model PR w) A (eval iter env) (fun x s₁ => wpAny (model PR w) A (pyIter x) (CompOver w A elt target ifs scope cl env os₀ b0 base ex env.locals m led
      (fun D vs k C s₅ => ∀ s', Fm w os₀ b0 base ex env.locals (upd m y (.ref D)) ((D, lst vs k) :: led) s' → (∀ b o, b ≠ C → b ≠ env.locals → s₅.heap.get? b = some o → s'.heap.get? b = some o) → s'.gens = s₅.gens → Q .next s')) E s₁) E s)
    (hsw : swapsWith (.ListComp elt [⟨target, iter, ifs, 0⟩] scope pos) (some (.Name y py)) spos.line env = pure true := by rfl)
    (hclos : closureFor scope env = pure cl := by rfl) (hcell : (scope.names.all fun x => decide (x.2 ≠ .cell)) = true := by rfl) (hkind : scope.kind = .function := by rfl)
    (hnames : (scope.names.all fun x => decide (x.2 = .local → scope.names.lookup x.1 = some .local)) = true := by rfl) (hs : ∀ x, foldedSetIterable iter env x = pure x := by intro _; rfl)
    (hk : env.scope.kind = .function := by rfl) (hl : env.kindOf y = some .local := by rfl) :
    wpAny (model PR w) A (exec (.Assign [.Name y py] (.ListComp elt [⟨target, iter, ifs, 0⟩] scope pos) spos) env) Q E s := by
  rw [exec_Assign_Name_used _ _ _ _ hsw]
  refine wpAny_bind (wpAny_standAt (wpAny_bind ?_))
  show wpAny _ A (do let _ ← comprehension (.ListComp elt [⟨target, iter, ifs, 0⟩] scope pos) scope env _ (newList []) false (eval iter env) (some (assign (.Name y py) env))) _ _ s
  refine wpAny_bind (wpAny_mono (wpAny_comprehension_free (use := some (assign (.Name y py) env)) (Q := fun _ s' => Q .next s') rfl hs hclos hkind (fun x hx => of_decide_eq_true (List.all_eq_true.mp hnames x hx))
    (wpAny_mono h (fun xv s₁ h₁ => wpAny_mono h₁ (fun it s₂ h₂ => ?_) fun _ _ e => e) fun _ _ e => e)) (fun _ s' hq => wpAny_pure (wpAny_pure hq)) fun _ _ e => e)
  refine comp_core (RR := fun acc C => compPost (model PR w) A E (some (assign (.Name y py) env)) (fun _ s' => Q .next s') acc C) hcell hkind h₂ fun D C m' oC vs k s₅ hns F₅ hq => ?_
  show wpAny _ A (assign (.Name y py) env (.ref D)) _ _ _
  have hCL : C ≠ env.locals := fun e => by
    have := F₅.nodup
    rw [List.nodup_cons] at this
    exact this.1 (by rw [e]; exact .head _)
  refine wpAny_assign_Name (wpAny_storeName_local hl F₅.ns (fun h₂ hn₂ hs₂ => ?_) (by rw [hk]; rfl))
  have F₆ : Fm w os₀ b0 base ex env.locals (upd m y (.ref D)) _ _ := F₅.set hs₂ hn₂ (s₅.toks + 1)
  refine ⟨m', hns.sameBut hs₂ hCL, fun h₃ hs₃ => ?_⟩
  exact hq _ (F₆.leave hs₃) (fun b o hb hb' e => hs₃.extBut b o hb (hs₂.extBut b o hb' e)) rfl
end
end Mine

namespace Mine
theorem Fm.unbase {w : World} {os₀ : OsState} {b0 base e : Heap} {ex x : List Addr} {L : Addr} {m : Str → Option Value} {led : List (Addr × Obj)} {s : Shared} (F : Fm w os₀ b0 base ex L m led s) (S : Sub e x base ex) : Fm w os₀ b0 e x L m led s := by
  refine ⟨F.top, F.keep0, S.now F, F.sep0, fun a ha => ?_, F.ns, F.own, F.nodup, F.os, F.bare⟩
  cases q : e.get? a with
  | none => exact .inl rfl
  | some o =>
    by_cases hx : a ∈ x
    · exact .inr hx
    · obtain ⟨h1, h2⟩ := S a o q hx
      rcases F.sep a ha with h | h
      · rw [h] at h1; cases h1
      · exact absurd h h2
theorem Fm.ledView {w : World} {os₀ : OsState} {b0 base : Heap} {ex : List Addr} {L a : Addr} {o : Obj} {m : Str → Option Value} {led : List (Addr × Obj)} {s : Shared} (F : Fm w os₀ b0 base ex L m ((a, o) :: led) s) : vw s.heap (L :: led.map (·.1)) a = some o := by
  refine vw_some.mpr ⟨F.get (.head _), fun hm => ?_⟩
  have nd := F.nodup
  rw [List.map_cons, List.nodup_cons, List.nodup_cons] at nd
  rcases List.mem_cons.mp hm with rfl | hm
  · exact nd.1 (.head _)
  · exact nd.2.1 hm
theorem Fm.viewUp {w : World} {os₀ : OsState} {b0 base : Heap} {ex : List Addr} {L : Addr} {m : Str → Option Value} {led : List (Addr × Obj)} {s : Shared} (F : Fm w os₀ b0 base ex L m led s) : ∀ b o, vw base ex b = some o → vw s.heap (L :: led.map (·.1)) b = some o :=
  ((Sub.refl base ex).rebase F).view
theorem Fm.notL {w : World} {os₀ : OsState} {b0 base : Heap} {ex : List Addr} {L b : Addr} {o : Obj} {m : Str → Option Value} {led : List (Addr × Obj)} {s : Shared} (F : Fm w os₀ b0 base ex L m led s) (h : vw base ex b = some o) : b ∉ L :: led.map (·.1) :=
  (vw_some.mp (F.viewUp b o h)).2
/-- an iterator of N things -/
structure Iter (w : World) (A : Around) (os₀ : OsState) (b0 e₀ : Heap) (x₀ : List Addr) (I : Addr) (N : Nat) (It : Nat → Obj → Prop) (El : Nat → Value → Prop) : Prop where
  next : ∀ {base : Heap} {ex : List Addr} {L : Addr} {m : Str → Option Value} {l2 : List (Addr × Obj)} {s : Shared} {oi : Obj} {i : Nat} {Q : Option Value → Shared → Prop}, i < N → It i oi → Sub e₀ x₀ base ex → Fm w os₀ b0 base ex L m ((I, oi) :: l2) s →
    (∀ s' v oi', It (i + 1) oi' → El i v → Fm w os₀ b0 base ex L m ((I, oi') :: l2) s' → s'.gens = s.gens → Q (some v) s') → wpAny (model PR w) A (pyNext (.ref I)) Q NE s
  stop : ∀ {base : Heap} {ex : List Addr} {L : Addr} {m : Str → Option Value} {l2 : List (Addr × Obj)} {s : Shared} {oi : Obj} {Q : Option Value → Shared → Prop}, It N oi → Sub e₀ x₀ base ex → Fm w os₀ b0 base ex L m ((I, oi) :: l2) s →
    (∀ s', Fm w os₀ b0 base ex L m l2 s' → s'.gens = s.gens → Q none s') → wpAny (model PR w) A (pyNext (.ref I)) Q NE s
  self : ∀ {s : Shared} {oi : Obj} {i : Nat} {Q E : Value → Shared → Prop}, It i oi → s.heap.get? I = some oi → Q (.ref I) s → wpAny (model PR w) A (pyIter (.ref I)) Q E s
  plain : ∀ {i : Nat} {oi : Obj}, It i oi → ∃ T, oi.cls = .type T ∧ (["enumerate", "zip", "dict_itemiterator", "dict_reverseitemiterator", "odict_iterator", "itertools.zip_longest", "itertools.pairwise"].contains T) = false
  noSeq : ∀ {i : Nat} {oi : Obj}, It i oi → ∀ its k, oi.data ≠ .seq its k
theorem Iter.list {w : World} {A : Around} {os₀ : OsState} {b0 e₀ : Heap} {x₀ : List Addr} {I l : Addr} {vs : List Value} (hh : A.handled = none) (hl : PL (vw e₀ x₀) l vs) : Iter w A os₀ b0 e₀ x₀ I vs.length (fun i o => LIt o l i) (fun i v => vs[i]? = some v) where
  next := fun {base ex L m l2 s oi i Q} hi ho S F h =>
    rNextL (l1 := []) (x := vs[i]) F ho ((hl.keeps S.view).keeps F.view).isList (List.getElem?_eq_getElem hi) fun s' oi' F' ho' g => h s' _ oi' ho' (List.getElem?_eq_getElem hi) F' g
  stop := fun {base ex L m l2 s oi Q} ho S F h => rNextLE (l1 := []) hh F ho ((hl.keeps S.view).keeps F.view).isList (Nat.le_refl _) fun s' F' g => h s' F' g
  self := fun {s oi i Q E} ho e h => wpAny_pyIter_listiter ⟨oi, e, ho.1, ho.2⟩ h
  plain := fun h => ⟨_, h.1, by decide⟩
  noSeq := fun h => h.noSeq
theorem Iter.range {w : World} {A : Around} {os₀ : OsState} {b0 e₀ : Heap} {x₀ : List Addr} {I : Addr} {n : Nat} (hh : A.handled = none) : Iter w A os₀ b0 e₀ x₀ I n (fun i o => RIt o i n) (fun i v => ∃ t, v = .int i t) where
  next := fun {base ex L m l2 s oi i Q} hi ho S F h => rNextR (l1 := []) F ho hi fun s' t oi' F' ho' g => h s' _ oi' ho' ⟨t, rfl⟩ F' g
  stop := fun {base ex L m l2 s oi Q} ho S F h => rNextRE (l1 := []) hh F ho (Nat.le_refl _) fun s' F' g => h s' F' g
  self := fun {s oi i Q E} ho e h => wpAny_pyIter_rangeiter (e.trans (congrArg some ho)) h
  plain := fun h => ⟨"range_iterator", congrArg (·.cls) h, by decide⟩
  noSeq := fun h => h.noSeq
/-- only sequences are looked at -/
def SeqMono (Acc : (Addr → Option Obj) → Nat → List Value → Prop) : Prop := ∀ V V' i ys, (∀ b o its k, o.data = .seq its k → V b = some o → V' b = some o) → Acc V i ys → Acc V' i ys
section
variable {w : World} {A : Around} {os₀ : OsState} {b0 base : Heap} {ex : List Addr} {L : Addr} {m : Str → Option Value} {led l1 l2 : List (Addr × Obj)} {s s₂ : Shared} {env : Env} {E : Value → Shared → Prop}
theorem comp_over {elt target : Expr} {ifs : List Expr} {scope : Scope} {cl : List (Str × Addr)} {I : Addr} {oi : Obj} {N : Nat} {It : Nat → Obj → Prop} {El : Nat → Value → Prop} {Q : Addr → List Value → Nat → Addr → Shared → Prop}
    (F₂ : Fm w os₀ b0 base ex L m ((I, oi) :: led) s₂) (IT : Iter w A os₀ b0 s₂.heap [I] I N It El) (h₀ : It 0 oi) (hN : N ≤ 100000) (Acc : (Addr → Option Obj) → Nat → List Value → Prop) (Bd : Nat → (Str → Option Value) → Prop)
    (mono : SeqMono Acc) (hlen : ∀ V i ys, Acc V i ys → ys.length ≤ i) (hz : Acc (vw s₂.heap [I]) 0 [])
    (asg : ∀ {i v C m' led' base' ex' s oi'} {Q : Unit → Shared → Prop}, i < N → El i v → It (i + 1) oi' → Fm w os₀ b0 base' ex' C m' ((I, oi') :: led') s → Sub s₂.heap [I] base' ex' → (∀ s' m'', Bd i m'' → Fm w os₀ b0 base' ex' C m'' ((I, oi') :: led') s' → Q () s') →
      wpAny (model PR w) A (letOwnedTupleGo target (.ref I) v) (fun _ s₁ => wpAny (model PR w) A (assign target (compEnvC scope cl C env) v) Q NE s₁) NE s)
    (turn : ∀ {i base' ex' C D m' oi' ys k s}, i < N → Fm w os₀ b0 base' ex' C m' [(I, oi'), (D, lst ys k)] s → Sub s₂.heap [I] base' ex' → Acc (vw base' ex') i ys → Bd i m' →
      wpAny (model PR w) A (forIn ifs true fun c r => if r = true then do let ok ← isTrue c (compEnvC scope cl C env) (eval c (compEnvC scope cl C env)); pure (ForInStep.yield ok) else pure (ForInStep.yield r)) (fun ok s₃ =>
        if ok = true then wpAny (model PR w) A (eval elt (compEnvC scope cl C env)) (fun y s₄ => Fm w os₀ b0 base' ex' C m' [(I, oi'), (D, lst ys k)] s₄ ∧ Acc (vw s₄.heap [C, I, D]) (i + 1) (ys ++ [y])) NE s₃
        else Fm w os₀ b0 base' ex' C m' [(I, oi'), (D, lst ys k)] s₃ ∧ Acc (vw base' ex') (i + 1) ys) NE s)
    (hQ : ∀ {D ys k C m' base' ex' s₅}, Fm w os₀ b0 base' ex' C m' [(D, lst ys k)] s₅ → Sub s₂.heap [I] base' ex' → Acc (vw base' ex') N ys → Q D ys k C s₅) :
    CompOver w A elt target ifs scope cl env os₀ b0 base ex L m led Q (.ref I) s₂ := by
  refine ⟨I, [(I, oi)], rfl, F₂, fun s' Q' E' hk hq => IT.self h₀ (hk _ _ (F₂.get (.head _))) hq, fun D C s₄ F₄ g₄ => ?_⟩
  refine ⟨fun n s => ∃ i base' ex' m' oi' ys k, n + i = N ∧ It i oi' ∧ Fm w os₀ b0 base' ex' C m' [(I, oi'), (D, lst ys k)] s ∧ Sub s₂.heap [I] base' ex' ∧ Acc (vw base' ex') i ys, N, ⟨0, _, _, _, oi, [], 0, rfl, h₀, F₄, Sub.refl _ _, hz⟩, ?_⟩
  rintro n s ⟨i, base', ex', m', oi', ys, k, hn, ho, F, S, ha⟩
  by_cases hi : i = N
  · subst hi
    refine IT.stop ho S F fun s' F' g => ?_
    exact ⟨m', ys, k, F'.unbase S, hQ F' S ha⟩
  · have hi' : i < N := by omega
    refine IT.next hi' ho S F fun s' v oi'' ho' he F' g => ?_
    refine asg hi' he ho' F' S fun s₃ m'' hb F₃ => wpAny_mono (turn hi' F₃ S ha hb) (fun ok s₄ h₄ => ?_) fun _ _ q => q
    dsimp only at h₄ ⊢
    split at h₄
    · rename_i hok
      rw [if_pos hok]
      refine wpAny_mono h₄ (fun y s₅ h₅ => ?_) fun _ _ q => q
      obtain ⟨F₅, a₅⟩ := h₅
      have hl := hlen _ _ _ ha
      refine rApp (l1 := [(I, oi'')]) F₅.rebase (by rw [sizeLine_eq]; omega) fun s₆ k' F₆ g₆ => ?_
      exact ⟨n - 1, by omega, i + 1, _, _, m'', oi'', _, k', by omega, ho', F₆, S.rebase F₅, a₅⟩
    · rename_i hok
      rw [if_neg hok]
      exact ⟨n - 1, by omega, i + 1, _, _, m'', oi'', _, k, by omega, ho', h₄.1, S, h₄.2⟩
/-- the assignment to a name -/
theorem asgN {scope : Scope} {cl : List (Str × Addr)} {x : Str} {px : Pos} {I C : Addr} {v : Value} {Q : Unit → Shared → Prop} (F : Fm w os₀ b0 base ex C m led s) (h : ∀ s', Fm w os₀ b0 base ex C (upd m x v) led s' → Q () s')
    (hk : (compEnvC scope cl C env).scope.kind = .function := by rfl) (hl : (compEnvC scope cl C env).kindOf x = some .local := by rfl) :
    wpAny (model PR w) A (letOwnedTupleGo (.Name x px) (.ref I) v) (fun _ s₁ => wpAny (model PR w) A (assign (.Name x px) (compEnvC scope cl C env) v) Q NE s₁) NE s := by
  show wpAny _ _ (pure ()) _ _ _
  exact wpAny_pure (wpAny_assign_Name (rSt (env := compEnvC scope cl C env) F (fun s' F' _ => h s' F') hk hl))
/-- the assignment to a pair -/
theorem asgP {scope : Scope} {cl : List (Str × Addr)} {x₁ x₂ : Str} {p₁ p₂ pos : Pos} {k : Nat} {I C a : Addr} {oi : Obj} {T : String} {v₁ v₂ : Value} {Q : Unit → Shared → Prop} (hh : A.handled = none) (F : Fm w os₀ b0 base ex C m ((I, oi) :: led) s) (hc : oi.cls = .type T)
    (hT : (["enumerate", "zip", "dict_itemiterator", "dict_reverseitemiterator", "odict_iterator", "itertools.zip_longest", "itertools.pairwise"].contains T) = false) (ht : s.heap.get? a = some (tup [v₁, v₂]))
    (h : ∀ s', Fm w os₀ b0 base ex C (upd (upd m x₁ v₁) x₂ v₂) ((I, oi) :: led) s' → Q () s')
    (hk : (compEnvC scope cl C env).scope.kind = .function := by rfl) (h₁ : (compEnvC scope cl C env).kindOf x₁ = some .local := by rfl) (h₂ : (compEnvC scope cl C env).kindOf x₂ = some .local := by rfl) :
    wpAny (model PR w) A (letOwnedTupleGo (.Tuple [.Name x₁ p₁, .Name x₂ p₂] k pos) (.ref I) (.ref a)) (fun _ s₁ => wpAny (model PR w) A (assign (.Tuple [.Name x₁ p₁, .Name x₂ p₂] k pos) (compEnvC scope cl C env) (.ref a)) Q NE s₁) NE s :=
  rLotg (F.get (.head _)) hc hT (rUnpack2 (env := compEnvC scope cl C env) hh F (tup_is ht) (fun s' F' _ => h s' F') hk h₁ h₂)
/-- a comprehension that is a value: what the outer frame knows after it -/
theorem comp_out {Acc : (Addr → Option Obj) → Nat → List Value → Prop} {N : Nat} {Q : Value → Shared → Prop} (mono : SeqMono Acc) (h : ∀ D ys k s', Fm w os₀ b0 base ex L m ((D, lst ys k) :: led) s' → Acc s'.heap.get? N ys → Q (.ref D) s')
    {D : Addr} {ys : List Value} {k : Nat} {C : Addr} {m' : Str → Option Value} {base' : Heap} {ex' : List Addr} {s₅ : Shared} (F : Fm w os₀ b0 base' ex' C m' [(D, lst ys k)] s₅) (ha : Acc (vw base' ex') N ys) :
    ∀ s', Fm w os₀ b0 base ex L m ((D, lst ys k) :: led) s' → (∀ b o, b ≠ C → s₅.heap.get? b = some o → s'.heap.get? b = some o) → s'.gens = s₅.gens → Q (.ref D) s' :=
  fun s' F' hk _ => h _ _ _ s' F' (mono _ _ _ _ (fun b o its k _ e => hk b o (fun z => F.notL e (by rw [z]; exact .head _)) (F.view b o e)) ha)
theorem comp_outS {Acc : (Addr → Option Obj) → Nat → List Value → Prop} {N : Nat} {y : Str} {Q : Shared → Prop} (mono : SeqMono Acc) (h : ∀ D ys k s', Fm w os₀ b0 base ex env.locals (upd m y (.ref D)) ((D, lst ys k) :: led) s' → Acc s'.heap.get? N ys → Q s')
    (hns : s₂.heap.Ns env.locals m) {I D : Addr} {ys : List Value} {k : Nat} {C : Addr} {m' : Str → Option Value} {base' : Heap} {ex' : List Addr} {s₅ : Shared} (F : Fm w os₀ b0 base' ex' C m' [(D, lst ys k)] s₅) (hI : env.locals ≠ I) (S : Sub s₂.heap [I] base' ex') (ha : Acc (vw base' ex') N ys) :
    ∀ s', Fm w os₀ b0 base ex env.locals (upd m y (.ref D)) ((D, lst ys k) :: led) s' → (∀ b o, b ≠ C → b ≠ env.locals → s₅.heap.get? b = some o → s'.heap.get? b = some o) → s'.gens = s₅.gens → Q s' :=
  fun s' F' hk _ => h _ _ _ s' F' (mono _ _ _ _ (fun b o its k ho e => hk b o (fun z => F.notL e (by rw [z]; exact .head _)) (fun z => by
    subst z
    obtain ⟨o', _, _, e', e'', _⟩ := hns
    have := (S _ _ e' (by simpa using hI)).1
    rw [(vw_some.mp e).1] at this
    cases this
    rw [ho] at e''; cases e'') (F.view b o e)) ha)
end
end Mine

namespace Mine
/-- a row of numbers, at its place -/
structure Sq where
  a : Addr
  vs : List Value
  n : Nat
  xs : List Int
def Sq.ent (q : Sq) : Addr × Obj := (q.a, lst q.vs q.n)
def SqOk (qs : List Sq) : Prop := ∀ q ∈ qs, IntsAre q.vs q.xs ∧ q.xs.length ≤ 1000
def goodC (ys : List (List Int)) (y : List Int) : Bool := ys.all fun z => !((z.drop 1).any (· == y.headD 0))
def c3F : Nat → List (List Int) → Option (List Int)
  | 0, _ => none
  | f + 1, xs =>
    let ys := xs.filter (!·.isEmpty)
    if ys.isEmpty then some [] else
      match ys.find? (goodC ys) with
      | none => none
      | some y => (c3F f (ys.map fun z => if z.headD 0 == y.headD 0 then z.drop 1 else z)).map (y.headD 0 :: ·)
theorem Fm.openL {w : World} {os₀ : OsState} {b0 e : Heap} {L : Addr} {m : Str → Option Value} {ql : List (Addr × Obj)} {s : Shared} (F : Fm w os₀ b0 e [] L m [] s) (hq : ∀ p ∈ ql, e.get? p.1 = some p.2) (h0 : ∀ p ∈ ql, b0.get? p.1 = none) (nd : (ql.map (·.1)).Nodup) :
    Fm w os₀ b0 e (ql.map (·.1)) L m ql s := by
  refine ⟨F.top, F.keep0, fun b o q _ => F.keep b o q (by simp), fun a ha => ?_, fun a ha => ?_, F.ns, fun p hp => F.keep _ _ (hq p hp) (by simp), ?_, F.os, F.bare⟩
  · rcases List.mem_cons.mp ha with rfl | ha
    · exact F.sep0 _ (.head _)
    · obtain ⟨p, hp, rfl⟩ := List.mem_map.mp ha
      exact h0 p hp
  · rcases List.mem_cons.mp ha with rfl | ha
    · rcases F.sep a (.head _) with h | h
      · exact .inl h
      · cases h
    · exact .inr ha
  · refine List.nodup_cons.mpr ⟨fun hm => ?_, nd⟩
    obtain ⟨p, hp, e'⟩ := List.mem_map.mp hm
    rcases F.sep L (.head _) with h | h
    · rw [← e', hq p hp] at h; cases h
    · cases h
section
variable {w : World} {A : Around} {os₀ : OsState} {b0 base : Heap} {ex : List Addr} {L : Addr} {m : Str → Option Value} {led l1 l2 : List (Addr × Obj)} {s s₂ : Shared} {env : Env} {E : Value → Shared → Prop}
theorem rWhile {test : Expr} {body orelse : List Stmt} {pos : Pos} {Q : Flow → Shared → Prop} (I : Nat → Shared → Prop) (n : Nat) (h : I n s)
    (turn : ∀ n s, I n s → wpAny (model PR w) A (isTrue test env (eval test env)) (fun b s₂ =>
        if b then wpAny (model PR w) A (execs body env) (fun f s₃ => match f with
            | .next | .cont => ∃ m, m < n ∧ I m s₃
            | .brk => Q .next s₃
            | .ret v => Q (.ret v) s₃) NE s₂
        else wpAny (model PR w) A (execs orelse env) Q NE s₂) NE s) : wpAny (model PR w) A (exec (.While test body orelse pos) env) Q NE s := by
  refine wpAny_While (codeAny_whileLoop I (fun n s hI => wpAny_mono (turn n s hI) (fun b s₂ h₂ => ?_) fun _ _ q => q.elim) n h)
  cases b with
  | true => exact wpAny_mono h₂ (fun f s₃ h₃ => by cases f <;> exact h₃) fun _ _ q => q.elim
  | false => exact wpAny_mono h₂ (fun f s₃ h₃ => h₃) fun _ _ q => q.elim
theorem rTruthL {l : Addr} {vs : List Value} {Q : Bool → Shared → Prop} (F : Fm w os₀ b0 base ex L m led s) (hl : s.heap.IsList l vs.toArray) (hn : vs.length ≤ 1000000) (h : ∀ s', Fm w os₀ b0 base ex L m led s' → Q (!vs.isEmpty) s') : wpAny (model PR w) A (truthy (.ref l)) Q E s := by
  refine wpAny_truthy_list hl (by simp only [List.size_toArray]; omega) ?_
  have e : vs.toArray.isEmpty = vs.isEmpty := by simp
  rw [e]
  exact h _ (F.tok _)
theorem filter_take_succ {α : Type} (p : α → Bool) (l : List α) {i : Nat} {x : α} (h : l[i]? = some x) : (l.take (i + 1)).filter p = (l.take i).filter p ++ (if p x then [x] else []) := by
  rw [List.take_add_one, h, List.filter_append]
  cases hp : p x <;> simp [hp]
/-- [s for s in sequences if s] -/
theorem compTruth {qs : List Sq} {S I : Addr} {oi : Obj} {x : Str} {p1 p2 p3 : Pos} {scope : Scope} {cl : List (Str × Addr)} {Q : Addr → List Value → Nat → Addr → Shared → Prop} (hh : A.handled = none) (F : Fm w os₀ b0 base ex L m ((I, oi) :: (led ++ qs.map Sq.ent)) s₂) (hok : SqOk qs) (hS : PL s₂.heap.get? S (qs.map fun q => .ref q.a)) (ho : LIt oi S 0) (hn : qs.length ≤ 1000)
    (hQ : ∀ {D ys k C m' base' ex' s₅}, Fm w os₀ b0 base' ex' C m' [(D, lst ys k)] s₅ → Sub s₂.heap [I] base' ex' → ys = (qs.filter (!·.xs.isEmpty)).map (fun q => Value.ref q.a) → Q D ys k C s₅)
    (hk : ∀ C, (compEnvC scope cl C env).scope.kind = .function := by intro _; rfl) (hl : ∀ C, (compEnvC scope cl C env).kindOf x = some .local := by intro _; rfl) (hd' : (x == ("__debug__" : Str)) = false := by decide) :
    CompOver w A (.Name x p1) (.Name x p2) [.Name x p3] scope cl env os₀ b0 base ex L m (led ++ qs.map Sq.ent) Q (.ref I) s₂ := by
  have hS' : PL (vw s₂.heap [I]) S (qs.map fun q => .ref q.a) := by
    obtain ⟨n, e⟩ := hS
    refine ⟨n, vw_some.mpr ⟨e, fun hm => ?_⟩⟩
    rw [List.mem_singleton.mp hm, F.get (.head _)] at e
    cases e
    exact absurd (show Value.type "list" = Value.type "list_iterator" from ho.1) (by decide)
  have IT := Iter.list (w := w) (A := A) (os₀ := os₀) (b0 := b0) (I := I) hh hS'
  rw [List.length_map] at IT
  refine comp_over F IT ho (by omega) (fun _ i ys => ys = ((qs.take i).filter (!·.xs.isEmpty)).map fun q => Value.ref q.a) (fun i m' => ∃ q, qs[i]? = some q ∧ m' x = some (.ref q.a)) (fun _ _ _ _ _ h => h) (fun _ i ys h => ?_) (by simp) ?_ ?_ ?_
  · rw [h, List.length_map]
    exact Nat.le_trans (List.length_filter_le _ _) (by rw [List.length_take]; omega)
  · intro i v C m' led' base' ex' s oi' Q' hi he ho' F' S' h
    rw [List.getElem?_map, List.getElem?_eq_getElem hi] at he
    cases he
    exact asgN F' (fun s' F'' => h s' _ ⟨_, List.getElem?_eq_getElem hi, upd_self _ _ _⟩ F'') (hk C) (hl C)
  · intro i base' ex' C D m' oi' ys k s hi F' S' ha hb
    obtain ⟨q, hq, hm⟩ := hb
    have hmem : q ∈ qs := List.mem_of_getElem? hq
    have hg : s.heap.get? q.a = some (lst q.vs q.n) := by
      refine S'.now F' _ _ (F.get (.tail _ (List.mem_append.mpr (.inr (List.mem_map.mpr ⟨q, hmem, rfl⟩))))) (fun h => ?_)
      have nd := F.nodup
      rw [List.map_cons, List.nodup_cons, List.nodup_cons, List.map_append] at nd
      rw [List.mem_singleton] at h
      exact nd.2.1 (List.mem_append.mpr (.inr (by rw [← h]; exact List.mem_map.mpr ⟨q.ent, List.mem_map.mpr ⟨q, hmem, rfl⟩, rfl⟩)))
    have hlen : q.vs.length ≤ 1000 := by rw [(hok q hmem).1.length]; exact (hok q hmem).2
    have hemp : q.vs.isEmpty = q.xs.isEmpty := by
      have := (hok q hmem).1.length
      cases h1 : q.vs <;> cases h2 : q.xs <;> simp_all
    refine wpAny_tests_one (wpAny_isTrue_value (rNm (env := compEnvC scope cl C env) F' hm (rTruthL F' ⟨_, hg, rfl, q.n, rfl⟩ (by omega) fun s' F'' => ?_) (hk C) (hl C) hd'))
    rw [hemp]
    have hf := filter_take_succ (fun q : Sq => !q.xs.isEmpty) qs hq
    by_cases hb : (!q.xs.isEmpty) = true
    · rw [if_pos hb]
      refine rNm (env := compEnvC scope cl C env) F'' hm ⟨F'', ?_⟩ (hk C) (hl C) hd'
      rw [hf, if_pos hb, List.map_append, ha]; rfl
    · rw [if_neg hb]
      refine ⟨F'', ?_⟩
      rw [hf, if_neg hb, List.append_nil, ha]
  · intro D ys k C m' base' ex' s₅ F' S' ha
    refine hQ F' S' ?_
    rw [ha, List.take_length]
/-- before each turn of the while -/
def C3I (w : World) (os₀ : OsState) (b0 e₀ : Heap) (x₀ : List Addr) (L R : Addr) (r : List Int) (f : Nat) (s : Shared) : Prop :=
  ∃ (base : Heap) (ex : List Addr) (m : Str → Option Value) (rs : List Value) (kr : Nat) (res r' : List Int) (qs : List Sq) (S : Addr), Fm w os₀ b0 base ex L m ((R, lst rs kr) :: qs.map Sq.ent) s ∧ Sub e₀ x₀ base ex ∧ IntsAre rs res ∧ SqOk qs ∧ qs.length ≤ 1000 ∧
    PL (vw base ex) S (qs.map fun q => .ref q.a) ∧ m (Str.ofString "sequences") = some (.ref S) ∧ m (Str.ofString "result") = some (.ref R) ∧ c3F f (qs.map (·.xs)) = some r' ∧ res ++ r' = r
/-- after the search -/
def C3Q (w : World) (os₀ : OsState) (b0 base : Heap) (ex : List Addr) (L R S : Addr) (led : List (Addr × Obj)) (c : Int) (s : Shared) : Prop :=
  ∃ (m : Str → Option Value) (t : Tok), Fm w os₀ b0 base ex L m led s ∧ m (Str.ofString "sequences") = some (.ref S) ∧ m (Str.ofString "result") = some (.ref R) ∧ m (Str.ofString "candidate") = some (.int c t)
theorem find_first {α : Type} {p : α → Bool} : ∀ {l : List α} {y : α} {i : Nat} {x : α}, l.find? p = some y → l[i]? = some x → p x = true → (∀ j z, j < i → l[j]? = some z → p z = false) → y = x
  | [], _, _, _, h, _, _, _ => by simp at h
  | a :: l, y, i, x, h, hx, hp, hn => by
    cases i with
    | zero =>
      simp at hx; subst hx
      rw [List.find?_cons, hp] at h
      exact (Option.some.inj h).symm
    | succ i =>
      have ha := hn 0 a (by omega) rfl
      rw [List.find?_cons, ha] at h
      exact find_first (i := i) h (by simpa using hx) hp fun j z hj hz => hn (j + 1) z (by omega) (by simpa using hz)
theorem find_none {α : Type} {p : α → Bool} {l : List α} (hn : ∀ j z, j < l.length → l[j]? = some z → p z = false) : l.find? p = none := by
  rw [List.find?_eq_none]
  intro x hx
  obtain ⟨j, hj, e⟩ := List.getElem_of_mem hx
  rw [← e, hn j l[j] hj (List.getElem?_eq_getElem hj)]
  decide
theorem Sq.get {qs : List Sq} {i : Nat} {v : Value} (h : (qs.map fun q => Value.ref q.a)[i]? = some v) : ∃ q, qs[i]? = some q ∧ v = .ref q.a := by
  rw [List.getElem?_map] at h
  cases e : qs[i]? with
  | none => rw [e] at h; simp at h
  | some q => rw [e] at h; simp at h; exact ⟨q, rfl, h.symm⟩
theorem ints_head {vs : List Value} {x : Int} {xs : List Int} (h : IntsAre vs (x :: xs)) : ∃ t ws, vs = .int x t :: ws ∧ IntsAre ws xs := by
  cases h with
  | cons n t r => exact ⟨t, _, rfl, r⟩
end
end Mine

namespace Mine
section
variable {w : World} {A : Around} {os₀ : OsState} {b0 base : Heap} {ex : List Addr} {L : Addr} {m : Str → Option Value} {led l1 l2 : List (Addr × Obj)} {s s₂ : Shared} {env : Env} {E : Value → Shared → Prop}
theorem c3_spec {qs : List Sq} {S : Addr} {f : Nat} {r : List Int} {Q : Value → Shared → Prop} (hh : A.handled = none) (hroom : A.depth < recursionLimit) (F : Fm w os₀ b0 base ex L m (led ++ qs.map Sq.ent) s) (hok : SqOk qs) (hn : qs.length ≤ 1000)
    (hS : PL s.heap.get? S (qs.map fun q => .ref q.a)) (hSd : S ∉ (qs.map Sq.ent).map (·.1)) (hc : c3F f (qs.map (·.xs)) = some r) (hr : r.length ≤ 1000)
    (hQ : ∀ R rs s', Fm w os₀ b0 base ex L m led s' → (∀ b o, s.heap.get? b = some o → b ∉ (qs.map Sq.ent).map (·.1) → s'.heap.get? b = some o) → PL s'.heap.get? R rs → IntsAre rs r → Q (.ref R) s') :
    wpAny (model PR w) A (call (.ref 49) [.ref S]) Q E s := by
  refine rCall hroom F rfl rfl rfl rfl rfl rfl (binds := [(Str.ofString "sequences", .ref S)]) (.of_eq rfl) rfl rfl fun L' s₁ F₁ g₁ => ?_
  have hh' : (A.deeper (fEnv w.params 49 L')).handled = none := hh
  generalize A.deeper (fEnv w.params 49 L') = A' at hh'
  have hA : (fun y => List.lookup y [(Str.ofString "sequences", Value.ref S)].reverse) (Str.ofString "sequences") = some (.ref S) := rfl
  generalize (fun y => List.lookup y [(Str.ofString "sequences", Value.ref S)].reverse) = m₁ at F₁ hA
  have nd := F.nodup
  rw [List.nodup_cons, List.map_append, List.nodup_append] at nd
  have F₂ := F₁.openL (ql := qs.map Sq.ent) (fun p hp => F.own p (List.mem_append.mpr (.inr hp))) (fun p hp => F.sep0 p.1 (List.mem_cons_of_mem _ (List.mem_map.mpr ⟨p, List.mem_append.mpr (.inr hp), rfl⟩))) nd.2.2.1
  refine wpAny_execs_cons (wpAny_Assign_Name (List_ (wpAny_items_nil (wpAny_newList ?_))))
  have F₃ := F₂.push (lst [] 0) rfl
  generalize s₁.heap.objs.size = R at F₃
  refine rSt F₃ fun s₄ F₄ g₄ => ?_
  refine wpAny_execs_cons (rWhile (C3I w os₀ b0 s.heap ((qs.map Sq.ent).map (·.1)) L' R r) f ⟨_, _, _, [], 0, [], r, qs, S, F₄, Sub.refl _ _, .nil, hok, hn, ?_, ?_, upd_self _ _ _, hc, rfl⟩ ?_)
  · obtain ⟨n, e⟩ := hS; exact ⟨n, vw_some.mpr ⟨e, hSd⟩⟩
  · rw [upd_ne (by decide)]; exact hA
  clear hS hSd hc hok hn
  rintro f s₅ ⟨base₅, ex₅, m₅, rs, kr, res, r', qs₅, S₅, F₅, SB, hrs, hok, hn, hS, cS, cR, hc, hres⟩
  refine wpAny_isTrue_value (wpAny_Constant_bool (wpAny_truthy_bool ?_))
  rw [if_pos rfl]
  cases f with
  | zero => cases hc
  | succ f =>
  have hlist := (hS.keeps F₅.view).isList
  refine wpAny_execs_cons (rCompSt (rNm F₅ cS (rIterL F₅ hlist fun it oi s₆ F₆ ho g₆ => compTruth (led := [(R, lst rs kr)]) hh' F₆ hok (hS.keeps F₆.view) ho hn fun F' S' hys => comp_outS (env := fEnv w.params 49 L') (Acc := fun _ _ ys => ys = (qs₅.filter (!·.xs.isEmpty)).map (fun q => Value.ref q.a)) (N := 0) (fun _ _ _ _ _ h => h) ?_ F₆.ns F' ?_ S' hys)))
  rotate_left
  · intro e
    have := F₆.nodup
    rw [List.nodup_cons] at this
    exact this.1 (by rw [show L' = it from e]; exact .head _)
  intro D ys k s₇ F₇ hys
  replace F₇ : Fm w os₀ b0 base₅ ex₅ L' (upd m₅ (Str.ofString "sequences") (.ref D)) ((D, lst ys k) :: ([(R, lst rs kr)] ++ qs₅.map Sq.ent)) s₇ := F₇
  subst hys
  have hyz : (qs₅.map (·.xs)).filter (!·.isEmpty) = (qs₅.filter (!·.xs.isEmpty)).map (·.xs) := by rw [List.filter_map]; rfl
  have hok' : SqOk (qs₅.filter (!·.xs.isEmpty)) := fun q hq => hok q ((List.mem_filter.mp hq).1)
  have hne' : ∀ q ∈ qs₅.filter (!·.xs.isEmpty), ∃ c cs, q.xs = c :: cs := fun q hq => by
    have := (List.mem_filter.mp hq).2
    cases e : q.xs with
    | nil => rw [e] at this; simp at this
    | cons c cs => exact ⟨c, cs, rfl⟩
  have hn' : (qs₅.filter (!·.xs.isEmpty)).length ≤ 1000 := Nat.le_trans (List.length_filter_le _ _) hn
  have F₈ := F₇.sub (led' := (D, lst ((qs₅.filter (!·.xs.isEmpty)).map (fun q => Value.ref q.a)) k) :: (R, lst rs kr) :: (qs₅.filter (!·.xs.isEmpty)).map Sq.ent) (((List.filter_sublist.map _).cons_cons _).cons_cons _)
  simp only [c3F, hyz] at hc
  generalize qs₅.filter (!·.xs.isEmpty) = ql at F₇ F₈ hc hok' hne' hn'
  have hDv : PL (vw s₇.heap (L' :: ((R, lst rs kr) :: ql.map Sq.ent).map (·.1))) D (ql.map fun q => .ref q.a) := ⟨k, F₈.ledView⟩
  have SB' := SB.rebase F₈.tail
  have F₉ := F₈.tail.rebase
  have cS' := upd_self m₅ (Str.ofString "sequences") (.ref D)
  have cR' := (upd_ne (m := m₅) (x := Str.ofString "sequences") (y := Str.ofString "result") (v := .ref D) (by decide)).trans cR
  generalize upd m₅ (Str.ofString "sequences") (.ref D) = m₉ at F₉ cS' cR'
  generalize hB : s₇.heap = base₉ at F₉ hDv SB'
  generalize hX : (L' :: ((R, lst rs kr) :: ql.map Sq.ent).map (·.1)) = ex₉ at F₉ hDv SB'
  clear hB hX F₇ F₈
  refine wpAny_execs_cons (wpAny_If (isTrue_not (wpAny_isTrue_value (rNm F₉ cS' (rTruthL F₉ (hDv.keeps F₉.view).isList (by rw [List.length_map]; omega) fun s₁₀ F₁₀ => ?_)))))
  by_cases hemp : ql = []
  · rw [hemp]
    rw [hemp] at hc
    refine wpAny_execs_cons (wpAny_Return_some (rNm F₁₀ cR' ?_))
    have hr' : r' = [] := (Option.some.inj hc).symm
    rw [hr', List.append_nil] at hres
    subst hres
    refine hQ R rs _ (F.lose (fun b o hb e => SB'.now F₁₀ b o e hb) (F₁₀.os.trans F.os.symm) F₁₀.bare) (fun b o e hb => SB'.now F₁₀ b o e hb) ⟨kr, F₁₀.get (.head _)⟩ hrs
  · have hne1 : (ql.map fun q => Value.ref q.a).isEmpty = false := by cases ql <;> simp_all
    have hne2 : (ql.map (·.xs)).isEmpty = false := by cases ql <;> simp_all
    rw [hne1]
    rw [hne2] at hc
    refine wpAny_execs_nil ?_
    cases hfind : (ql.map (·.xs)).find? (goodC (ql.map (·.xs))) with
    | none => rw [hfind] at hc; cases hc
    | some y =>
    rw [hfind] at hc
    obtain ⟨r₂, hc₂, hr₂⟩ := Option.map_eq_some_iff.mp (show Option.map _ _ = some r' from hc)
    have IT : ∀ I, Iter w A' os₀ b0 base₉ ex₉ I ql.length (fun i o => LIt o D i) (fun i v => (ql.map fun q => Value.ref q.a)[i]? = some v) := fun I => by
      have := Iter.list (w := w) (os₀ := os₀) (b0 := b0) (I := I) hh' hDv
      rwa [List.length_map] at this
    have qg : ∀ {q : Sq} {m' : Str → Option Value} (l1 : List (Addr × Obj)) {s' : Shared}, q ∈ ql → Fm w os₀ b0 base₉ ex₉ L' m' (l1 ++ (R, lst rs kr) :: ql.map Sq.ent) s' → s'.heap.IsList q.a q.vs.toArray := fun {q} _ l1 _ hm F' =>
      ⟨_, F'.get (a := q.a) (o := lst q.vs q.n) (List.mem_append.mpr (.inr (.tail _ (List.mem_map.mpr ⟨q, hm, rfl⟩)))), rfl, q.n, rfl⟩
    refine wpAny_execs_cons (wpAny_mono (Q := fun fl s => fl = .next ∧ C3Q w os₀ b0 base₉ ex₉ L' R D ((R, lst rs kr) :: ql.map Sq.ent) (y.headD 0) s) (rFor (rNm F₁₀ cS' (rIterL F₁₀ (hDv.keeps F₁₀.view).isList fun it₁ oi₁ s₁₁ F₁₁ ho₁ g₁₁ => ?_))) ?_ fun _ _ q => q)
    · refine ⟨fun n s => ∃ i m oi, n + i = ql.length ∧ Fm w os₀ b0 base₉ ex₉ L' m ((it₁, oi) :: (R, lst rs kr) :: ql.map Sq.ent) s ∧ LIt oi D i ∧ m (Str.ofString "sequences") = some (.ref D) ∧ m (Str.ofString "result") = some (.ref R) ∧ ∀ j z, j < i → ql[j]? = some z → goodC (ql.map (·.xs)) z.xs = false,
        ql.length, ⟨0, m₉, oi₁, rfl, F₁₁, ho₁, cS', cR', fun j z hj _ => absurd hj (by omega)⟩, ?_⟩
      rintro n s₁₂ ⟨i, m₁₂, oi₁₂, hni, F₁₂, ho₁₂, dS, dR, hbad⟩
      by_cases hi : i = ql.length
      · exfalso
        have : (ql.map (·.xs)).find? (goodC (ql.map (·.xs))) = none := find_none fun j z hj hz => by
          rw [List.getElem?_map] at hz
          cases e : ql[j]? with
          | none => rw [e] at hz; simp at hz
          | some q => rw [e] at hz; simp at hz; rw [← hz]; exact hbad j q (by rw [List.length_map] at hj; omega) e
        rw [this] at hfind; cases hfind
      · have hi' : i < ql.length := by omega
        refine (IT it₁).next hi' ho₁₂ (Sub.refl _ _) F₁₂ fun s₁₃ v oi₁₃ ho₁₃ he F₁₃ g₁₃ => ?_
        obtain ⟨q, hq, rfl⟩ := Sq.get he
        have hmem : q ∈ ql := List.mem_of_getElem? hq
        obtain ⟨c, cs, hx⟩ := hne' q hmem
        have hqi := (hok' q hmem).1
        rw [hx] at hqi
        obtain ⟨tc, ws, hvs, hws⟩ := ints_head hqi
        show wpAny _ _ (pure ()) _ _ _
        refine wpAny_pure (wpAny_assign_Name (rSt F₁₃ fun s₁₄ F₁₄ g₁₄ => ?_))
        refine wpAny_execs_cons (wpAny_Assign_Name (Subscript_ (rNm F₁₄ (upd_self _ _ _) (rInt F₁₄ fun t₁₅ s₁₅ F₁₅ g₁₅ => ?_))))
        have hx0 : q.vs[(0 : Int).toNat]? = some (.int c tc) := by rw [hvs]; rfl
        refine item_listL (qg [(it₁, oi₁₃)] hmem F₁₅) (by decide) (by decide) hx0 (rSt F₁₅ fun s₁₆ F₁₆ g₁₆ => ?_)
        have dS' : upd (upd m₁₂ (Str.ofString "s1") (.ref q.a)) (Str.ofString "candidate") (.int c tc) (Str.ofString "sequences") = some (.ref D) := by rw [upd_ne (by decide), upd_ne (by decide)]; exact dS
        have dR' : upd (upd m₁₂ (Str.ofString "s1") (.ref q.a)) (Str.ofString "candidate") (.int c tc) (Str.ofString "result") = some (.ref R) := by rw [upd_ne (by decide), upd_ne (by decide)]; exact dR
        have dC' := upd_self (upd m₁₂ (Str.ofString "s1") (.ref q.a)) (Str.ofString "candidate") (.int c tc)
        generalize upd (upd m₁₂ (Str.ofString "s1") (.ref q.a)) (Str.ofString "candidate") (.int c tc) = m₁₆ at F₁₆ dS' dR' dC'
        have hq0 : q.xs.headD 0 = c := by rw [hx]; rfl
        refine wpAny_execs_cons (wpAny_mono (Q := fun fl s => ∃ m, Fm w os₀ b0 base₉ ex₉ L' m ((it₁, oi₁₃) :: (R, lst rs kr) :: ql.map Sq.ent) s ∧ m (Str.ofString "sequences") = some (.ref D) ∧ m (Str.ofString "result") = some (.ref R) ∧
            ((fl = .brk ∧ goodC (ql.map (·.xs)) q.xs = true ∧ m (Str.ofString "candidate") = some (.int c tc)) ∨ (fl = .next ∧ goodC (ql.map (·.xs)) q.xs = false)))
          (rFor (rNm F₁₆ dS' (rIterL F₁₆ (hDv.keeps F₁₆.view).isList fun it₂ oi₂ s₁₇ F₁₇ ho₂ g₁₇ => ?_))) ?_ fun _ _ q => q)
        · refine ⟨fun n s => ∃ j m oi, n + j = ql.length ∧ Fm w os₀ b0 base₉ ex₉ L' m ((it₂, oi) :: (it₁, oi₁₃) :: (R, lst rs kr) :: ql.map Sq.ent) s ∧ LIt oi D j ∧ m (Str.ofString "sequences") = some (.ref D) ∧ m (Str.ofString "result") = some (.ref R) ∧ m (Str.ofString "candidate") = some (.int c tc) ∧
              ∀ j' z, j' < j → ql[j']? = some z → (z.xs.drop 1).any (· == c) = false, ql.length, ⟨0, m₁₆, oi₂, rfl, F₁₇, ho₂, dS', dR', dC', fun j z hj _ => absurd hj (by omega)⟩, ?_⟩
          rintro n₂ s₁₈ ⟨j, m₁₈, oi₁₈, hnj, F₁₈, ho₁₈, eS, eR, eC, hall⟩
          by_cases hj : j = ql.length
          · subst hj
            refine (IT it₂).stop ho₁₈ (Sub.refl _ _) F₁₈ fun s₁₉ F₁₉ g₁₉ => ?_
            refine wpAny_execs_cons (wpAny_Break ⟨m₁₈, F₁₉, eS, eR, .inl ⟨rfl, ?_, eC⟩⟩)
            unfold goodC
            rw [List.all_eq_true, hq0]
            intro z hz
            obtain ⟨q', hq', rfl⟩ := List.mem_map.mp hz
            obtain ⟨j', hj', e'⟩ := List.getElem_of_mem hq'
            rw [hall j' q' hj' (by rw [List.getElem?_eq_getElem hj', e'])]; rfl
          · have hj' : j < ql.length := by omega
            refine (IT it₂).next hj' ho₁₈ (Sub.refl _ _) F₁₈ fun s₁₉ v oi₁₉ ho₁₉ he F₁₉ g₁₉ => ?_
            obtain ⟨q₂, hq₂, rfl⟩ := Sq.get he
            have hmem₂ : q₂ ∈ ql := List.mem_of_getElem? hq₂
            have hlen₂ : q₂.vs.length ≤ 1000 := by rw [(hok' q₂ hmem₂).1.length]; exact (hok' q₂ hmem₂).2
            show wpAny _ _ (pure ()) _ _ _
            refine wpAny_pure (wpAny_assign_Name (rSt F₁₉ fun s₂₀ F₂₀ g₂₀ => ?_))
            have eC' := (upd_ne (m := m₁₈) (x := Str.ofString "s2") (y := Str.ofString "candidate") (v := .ref q₂.a) (by decide)).trans eC
            refine wpAny_execs_cons (wpAny_If (wpAny_isTrue_Compare1 (rNm F₂₀ eC' (rSlc (rNm F₂₀ (upd_self _ _ _) (evalPart_some_step (rInt F₂₀ fun t₂₁ s₂₁ F₂₁ g₂₁ => evalPart_none_step ⟨q₂.a, q₂.vs, some 1, none, rfl, qg [(it₂, oi₁₉), (it₁, oi₁₃)] hmem₂ F₂₁, IsPart.int _ _, IsPart.none, by omega, F₂₁, fun a₂₂ s₂₂ F₂₂ g₂₂ => ?_⟩)))))))
            refine in_list_ints ⟨_, F₂₂.get (.head _), rfl, 0, rfl⟩ (kmk_from (hok' q₂ hmem₂).1 (by decide)) (wpAny_truthy_bool ?_)
            rw [show Int.toNat 1 = 1 from rfl]
            by_cases hin : (q₂.xs.drop 1).any (· == c) = true
            · rw [if_pos hin]
              refine wpAny_execs_cons (wpAny_Assign_Name (wpAny_Constant_none (rSt F₂₂.tail fun s₂₃ F₂₃ g₂₃ => ?_)))
              refine wpAny_execs_cons (wpAny_Break ⟨_, F₂₃.tail, ?_, ?_, .inr ⟨rfl, ?_⟩⟩)
              · rw [upd_ne (by decide), upd_ne (by decide)]; exact eS
              · rw [upd_ne (by decide), upd_ne (by decide)]; exact eR
              · unfold goodC
                rw [List.all_eq_false, hq0]
                exact ⟨q₂.xs, List.mem_map.mpr ⟨q₂, hmem₂, rfl⟩, by rw [hin]; decide⟩
            · rw [if_neg hin]
              refine wpAny_execs_nil (wpAny_execs_nil ⟨n₂ - 1, by omega, j + 1, _, oi₁₉, by omega, F₂₂.tail, ho₁₉, ?_, ?_, eC', ?_⟩)
              · rw [upd_ne (by decide)]; exact eS
              · rw [upd_ne (by decide)]; exact eR
              · intro j' z hj' hz
                by_cases h : j' = j
                · rw [h, hq₂] at hz; cases hz; exact Bool.eq_false_iff.mpr hin
                · exact hall j' z (by omega) hz
        · rintro fl s₁₈ ⟨m₁₈, F₁₈, eS, eR, ⟨rfl, hgood, eC⟩ | ⟨rfl, hbad'⟩⟩
          · refine ⟨rfl, m₁₈, tc, F₁₈.tail, eS, eR, ?_⟩
            have : y = q.xs := find_first (i := i) hfind (by rw [List.getElem?_map, hq]; rfl) hgood fun j z hj hz => by
              rw [List.getElem?_map] at hz
              cases e : ql[j]? with
              | none => rw [e] at hz; simp at hz
              | some q' => rw [e] at hz; simp at hz; rw [← hz]; exact hbad j q' hj e
            rw [this, hq0]; exact eC
          · refine wpAny_execs_nil ⟨n - 1, by omega, i + 1, m₁₈, oi₁₃, by omega, F₁₈, ho₁₃, eS, eR, ?_⟩
            intro j z hj hz
            by_cases h : j = i
            · rw [h, hq] at hz; cases hz; exact hbad'
            · exact hbad j z (by omega) hz
    · rintro fl s₁₁ ⟨rfl, m₁₁, tc, F₁₁, dS, dR, dC⟩
      refine wpAny_execs_cons (wpAny_If (wpAny_isTrue_Compare1 (rNm F₁₁ dC (wpAny_Constant_none (is_int_none (wpAny_truthy_bool ?_))))))
      rw [if_neg Bool.false_ne_true]
      refine wpAny_execs_nil ?_
      generalize y.headD 0 = c at F₁₁ dC hr₂ hc₂
      have hlr : rs.length ≤ 1000 := by
        rw [hrs.length]
        rw [← hres, List.length_append] at hr
        omega
      refine wpAny_execs_cons (rAppS F₁₁ dR (F₁₁.get (.head _)) (rNm F₁₁ dC (rApp (l1 := []) F₁₁ (by rw [sizeLine_eq]; omega) fun s₁₂ kr' F₁₂ g₁₂ => ⟨rfl, ?_⟩)))
      have hl₁₂ := (hDv.keeps F₁₂.view).isList
      refine wpAny_execs_cons (wpAny_mono (Q := fun fl s' => fl = .next ∧ C3I w os₀ b0 s.heap ((qs.map Sq.ent).map (·.1)) L' R r f s') (rFor (rNm F₁₂ dS (rIterL F₁₂ hl₁₂ fun it oi s₁₃ F₁₃ ho g₁₃ => ?_))) ?_ fun _ _ q => q)
      · refine ⟨fun n s' => ∃ i m oi, ∃ done : List Sq, n + i = ql.length ∧ Fm w os₀ b0 base₉ ex₉ L' m ((it, oi) :: (R, lst (rs ++ [Value.int c tc]) kr') :: (done.map Sq.ent ++ (ql.drop i).map Sq.ent)) s' ∧ LIt oi D i ∧ m (Str.ofString "sequences") = some (.ref D) ∧ m (Str.ofString "result") = some (.ref R) ∧
            m (Str.ofString "candidate") = some (.int c tc) ∧ done.map (·.a) = (ql.take i).map (·.a) ∧ done.map (·.xs) = (ql.take i).map (fun q => if q.xs.headD 0 == c then q.xs.drop 1 else q.xs) ∧ SqOk done,
          ql.length, ⟨0, m₁₁, oi, [], rfl, F₁₃, ho, dS, dR, dC, by simp, by simp, fun q hq => by cases hq⟩, ?_⟩
        rintro n s₁₄ ⟨i, m₁₄, oi₁₄, done, hni, F₁₄, ho₁₄, eS, eR, eC, hda, hdx, hdok⟩
        by_cases hi : i = ql.length
        · subst hi
          rw [List.take_length] at hda hdx
          refine (IT it).stop ho₁₄ (Sub.refl _ _) F₁₄ fun s₁₅ F₁₅ g₁₅ => wpAny_execs_nil ⟨rfl, ?_⟩
          rw [List.drop_length, List.map_nil, List.append_nil] at F₁₅
          have hlen : done.length = ql.length := by
            have := congrArg List.length hda
            simpa using this
          refine ⟨base₉, ex₉, m₁₄, _, kr', res ++ [c], r₂, done, D, F₁₅, SB', IntsAre_append hrs (.cons _ _ .nil), hdok, by omega, ?_, eS, eR, ?_, ?_⟩
          · have e : (done.map fun q => Value.ref q.a) = ql.map fun q => Value.ref q.a := by
              have h1 := congrArg (List.map Value.ref) hda
              rw [List.map_map, List.map_map] at h1
              exact h1
            rw [e]; exact hDv
          · rw [hdx, ← hc₂, List.map_map]; rfl
          · rw [← hres, ← hr₂]; simp
        · have hi' : i < ql.length := by omega
          refine (IT it).next hi' ho₁₄ (Sub.refl _ _) F₁₄ fun s₁₅ v oi₁₅ ho₁₅ he F₁₅ g₁₅ => ?_
          obtain ⟨q, hq, rfl⟩ := Sq.get he
          have hmem : q ∈ ql := List.mem_of_getElem? hq
          obtain ⟨c', cs, hx⟩ := hne' q hmem
          have hqi := (hok' q hmem).1
          have hqn := (hok' q hmem).2
          rw [hx] at hqi
          obtain ⟨tc', ws, hvs, hws⟩ := ints_head hqi
          have hdrop : ql.drop i = q :: ql.drop (i + 1) := by
            rw [List.drop_eq_getElem_cons hi']
            congr 1
            rw [List.getElem?_eq_getElem hi'] at hq
            exact Option.some.inj hq
          have htake : ql.take (i + 1) = ql.take i ++ [q] := by rw [List.take_add_one, hq]; rfl
          rw [hdrop, List.map_cons] at F₁₅
          show wpAny _ _ (pure ()) _ _ _
          refine wpAny_pure (wpAny_assign_Name (rSt F₁₅ fun s₁₆ F₁₆ g₁₆ => ?_))
          have eC' := (upd_ne (m := m₁₄) (x := Str.ofString "seq") (y := Str.ofString "candidate") (v := .ref q.a) (by decide)).trans eC
          have eS' := (upd_ne (m := m₁₄) (x := Str.ofString "seq") (y := Str.ofString "sequences") (v := .ref q.a) (by decide)).trans eS
          have eR' := (upd_ne (m := m₁₄) (x := Str.ofString "seq") (y := Str.ofString "result") (v := .ref q.a) (by decide)).trans eR
          have eQ' := upd_self m₁₄ (Str.ofString "seq") (.ref q.a)
          generalize upd m₁₄ (Str.ofString "seq") (.ref q.a) = m₁₆ at F₁₆ eC' eS' eR' eQ'
          have hx0 : q.vs[(0 : Int).toNat]? = some (.int c' tc') := by rw [hvs]; rfl
          have gq : ∀ {m' s'}, Fm w os₀ b0 base₉ ex₉ L' m' ((it, oi₁₅) :: (R, lst (rs ++ [.int c tc]) kr') :: (done.map Sq.ent ++ q.ent :: (ql.drop (i + 1)).map Sq.ent)) s' → s'.heap.get? q.a = some (lst q.vs q.n) := fun F' => F'.get (.tail _ (.tail _ (List.mem_append.mpr (.inr (.head _)))))
          refine wpAny_execs_cons (wpAny_If (wpAny_isTrue_Compare1 (Subscript_ (rNm F₁₆ eQ' (rInt F₁₆ fun t₁₇ s₁₇ F₁₇ g₁₇ => item_listL (l := q.vs) ⟨_, gq F₁₇, rfl, q.n, rfl⟩ (by decide) (by decide) hx0 (rNm F₁₇ eC' (PyProof.Rows.eq_int (wpAny_truthy_bool ?_))))))))
          by_cases hcc : (c' == c) = true
          · rw [if_pos hcc]
            refine wpAny_execs_cons (wpAny_Delete (wpAny_deleteEach_cons (delete_Subscript (rNm F₁₇ eQ' (rInt F₁₇ fun t₁₈ s₁₈ F₁₈ g₁₈ => delItem_at (k := 0) (gq F₁₈) (by decide) ?_ (fun h' hs hg => wpAny_deleteEach_nil (wpAny_execs_nil (wpAny_execs_nil ?_))) ?_)))))
            · rw [hvs]; simp [seqIndex?]
            · have F₁₉ := Fm.put (l1 := (it, oi₁₅) :: (R, lst (rs ++ [.int c tc]) kr') :: done.map Sq.ent) (a := q.a) (o := lst q.vs q.n) (l2 := (ql.drop (i + 1)).map Sq.ent) F₁₈ hs hg
              rw [hvs] at F₁₉
              refine ⟨n - 1, by omega, i + 1, m₁₆, oi₁₅, done ++ [⟨q.a, ws, q.n + 1, cs⟩], by omega, ?_, ho₁₅, eS', eR', eC', ?_, ?_, ?_⟩
              · rw [List.map_append, List.append_assoc]; exact F₁₉
              · rw [htake, List.map_append, List.map_append, hda]; rfl
              · rw [htake, List.map_append, List.map_append, hdx]
                show _ ++ [cs] = _ ++ [if (q.xs.headD 0 == c) = true then q.xs.drop 1 else q.xs]
                rw [hx]
                show _ ++ [cs] = _ ++ [if (c' == c) = true then cs else _]
                rw [if_pos hcc]
              · intro q' hq'
                rcases List.mem_append.mp hq' with h | h
                · exact hdok q' h
                · rw [List.mem_singleton.mp h]
                  rw [hx] at hqn
                  exact ⟨hws, by simp at hqn ⊢; omega⟩
            · have := (hok' q hmem).1.length
              rw [sizeLine_eq]; simp only [List.size_toArray]; omega
          · rw [if_neg hcc]
            refine wpAny_execs_nil (wpAny_execs_nil ⟨n - 1, by omega, i + 1, m₁₆, oi₁₅, done ++ [q], by omega, ?_, ho₁₅, eS', eR', eC', ?_, ?_, ?_⟩)
            · rw [List.map_append, List.append_assoc]; exact F₁₇
            · rw [htake, List.map_append, List.map_append, hda]
            · rw [htake, List.map_append, List.map_append, hdx]
              show _ ++ [q.xs] = _ ++ [if (q.xs.headD 0 == c) = true then q.xs.drop 1 else q.xs]
              rw [hx]
              show _ ++ [_] = _ ++ [if (c' == c) = true then cs else _]
              rw [if_neg hcc]
            · intro q' hq'
              rcases List.mem_append.mp hq' with h | h
              · exact hdok q' h
              · rw [List.mem_singleton.mp h]; exact hok' q hmem
      · rintro fl s₁₄ ⟨rfl, h⟩
        exact wpAny_execs_nil ⟨f, Nat.lt_succ_self _, h⟩
end
end Mine

namespace Mine
noncomputable abbrev lEnv (P : Params) (L fa : Addr) (cd : Value) : Env := envOfC (Str.ofString "law") (fdAt P 68).scope L fa cd
/-- what of law's body is left -/
noncomputable def lRest (P : Params) (k : Nat) : List Stmt := (bodyAt P 68).drop k
def kindsL : List (List Nat) := [[97, 92, 92], [92, 40], [92, 41], [92, 34], [34, 40, 34], [34, 92, 34, 41, 34]]
/-- a tree: who hangs below whom, and what each node hides -/
structure Tree (ps : List Nat) (ab : List Int) (hi : List (List Nat)) : Prop where
  abs : ab = -1 :: ps.map Int.ofNat
  par : ∀ (i : Nat) (p : Nat), ps[i]? = some p → p ≤ i
  len : hi.length = ab.length
  kind : ∀ h ∈ hi, h ∈ kindsL
  few : ps.length ≤ 5
theorem Tree.ablen {ps : List Nat} {ab : List Int} {hi : List (List Nat)} (T : Tree ps ab hi) : ab.length = ps.length + 1 := by rw [T.abs]; simp
section
variable {w : World} {A : Around} {os₀ : OsState} {b0 base : Heap} {ex : List Addr} {L : Addr} {m : Str → Option Value} {led l1 l2 : List (Addr × Obj)} {s s₂ : Shared} {env : Env} {E : Value → Shared → Prop}
theorem strs6 (t1 t2 t3 t4 t5 t6 : Tok) : StrsAre [.str (Str.ofString "a\\\\") t1, .str (Str.ofString "\\(") t2, .str (Str.ofString "\\)") t3, .str (Str.ofString "\\\"") t4, .str (Str.ofString "\"(\"") t5, .str (Str.ofString "\"\\\")\"") t6] (kindsL.map mkS) :=
  .cons _ _ (.cons _ _ (.cons _ _ (.cons _ _ (.cons _ _ (.cons _ _ .nil)))))
theorem kind_at {kv : List Value} (hk : StrsAre kv (kindsL.map mkS)) {i : Nat} (hi : i < 6) : ∃ h ∈ kindsL, ∃ t, kv[i]? = some (.str (mkS h) t) := by
  have hl : i < kindsL.length := hi
  obtain ⟨t, e⟩ := StrsAre_get hk (i := i) (x := mkS kindsL[i]) (by rw [List.getElem?_map, List.getElem?_eq_getElem hl]; rfl)
  exact ⟨_, List.getElem_mem hl, t, e⟩
theorem law1 {fa : Addr} {cd : Value} {l : Addr} {sv : List Value} {ns : List Int} {Q : Flow → Shared → Prop} (hh : A.handled = none) (F : Fm w os₀ b0 base [] L m led s) (hm : m (Str.ofString "script") = some (.ref l)) (hl : base.IsList l sv.toArray) (hi : IntsAre sv ns) (hn : ns.length ≤ 63)
    (h : ∀ m' la lh va vh na nh ps ab hi s', Fm w os₀ b0 base [] L m' ((la, lst va na) :: (lh, lst vh nh) :: led) s' → m' (Str.ofString "above") = some (.ref la) → m' (Str.ofString "hidden") = some (.ref lh) → IntsAre va ab → StrsAre vh (hi.map mkS) → Tree ps ab hi →
      wpAny (model PR w) A (execs (lRest w.params 4) (lEnv w.params L fa cd)) Q NE s') :
    wpAny (model PR w) A (execs (bodyAt w.params 68) (lEnv w.params L fa cd)) Q NE s := by
  have hsl : sv.length = ns.length := hi.length
  refine wpAny_execs_cons (wpAny_Assign_Name (List_ (wpAny_items_cons (rStr F fun t1 s₁ F₁ g₁ => wpAny_items_cons (rStr F₁ fun t2 s₂ F₂ g₂ => wpAny_items_cons (rStr F₂ fun t3 s₃ F₃ g₃ => wpAny_items_cons (rStr F₃ fun t4 s₄ F₄ g₄ =>
    wpAny_items_cons (rStr F₄ fun t5 s₅ F₅ g₅ => wpAny_items_cons (rStr F₅ fun t6 s₆ F₆ g₆ => wpAny_items_nil (wpAny_newList ?_))))))))))
  have hk := strs6 t1 t2 t3 t4 t5 t6
  generalize [Value.str (Str.ofString "a\\\\") t1, .str (Str.ofString "\\(") t2, .str (Str.ofString "\\)") t3, .str (Str.ofString "\\\"") t4, .str (Str.ofString "\"(\"") t5, .str (Str.ofString "\"\\\")\"") t6] = kv at hk ⊢
  have F₇ := F₆.push (lst kv 0) rfl
  generalize s₆.heap.objs.size = lk at F₇
  refine rSt F₇ fun s₈ F₈ g₈ => ?_
  refine wpAny_execs_cons (wpAny_Assign_Name (rList1' (wpAny_UnaryOp (rInt F₈ fun t₉ s₉ F₉ g₉ => PyProof.Rows.neg_int ?_))))
  have F₁₀ := (F₉.tok (s₉.toks + 1)).push (lst [.int (-1) s₉.toks] 0) rfl
  generalize s₉.toks = ta at F₁₀
  refine rSt F₁₀ fun s₁₁ F₁₁ g₁₁ => ?_
  generalize hla : ({ s₉ with toks := ta + 1 } : Shared).heap.objs.size = la at F₁₀ F₁₁
  have cK : upd (upd m (Str.ofString "kinds") (.ref lk)) (Str.ofString "above") (.ref la) (Str.ofString "kinds") = some (.ref lk) := by rw [upd_ne (by decide), upd_self]
  have cA := upd_self (upd m (Str.ofString "kinds") (.ref lk)) (Str.ofString "above") (.ref la)
  have cS : upd (upd m (Str.ofString "kinds") (.ref lk)) (Str.ofString "above") (.ref la) (Str.ofString "script") = some (.ref l) := by rw [upd_ne (by decide), upd_ne (by decide)]; exact hm
  generalize upd (upd m (Str.ofString "kinds") (.ref lk)) (Str.ofString "above") (.ref la) = m₁₁ at F₁₁ cK cA cS
  have old : ∀ {s' : Shared} {m' : Str → Option Value} {led' : List (Addr × Obj)}, Fm w os₀ b0 base [] L m' led' s' → s'.heap.IsList l sv.toArray := fun F' => let ⟨o, e, x⟩ := hl; ⟨o, F'.keep _ _ e (by simp), x⟩
  refine wpAny_execs_cons (wpAny_Assign_Name (rList1' (Subscript_ (rNm F₁₁ cK (wpAny_BinOp (rB1 F₁₁ (id := "len") rfl rfl (rNm F₁₁ cS (rLenL F₁₁ (old F₁₁) (by omega) fun t₁₂ s₁₂ F₁₂ g₁₂ => rInt F₁₂ fun t₁₃ s₁₃ F₁₃ g₁₃ => PyProof.Rows.mod_int (by decide) ?_))))))))
  have F₁₄ := F₁₃.tok (s₁₃.toks + 1)
  have hmod : ((sv.length : Int).fmod 6) = ((sv.length % 6 : Nat) : Int) := by rw [Int.fmod_eq_emod_of_nonneg _ (by decide)]; omega
  rw [hmod]
  obtain ⟨h0, hk0, t0, hv0⟩ := kind_at hk (i := sv.length % 6) (Nat.mod_lt _ (by decide))
  refine item_listL (l := kv) ⟨_, F₁₄.get (.tail _ (.head _)), rfl, 0, rfl⟩ (by omega) (by omega) (by rw [Int.toNat_natCast]; exact hv0) ?_
  have F₁₅ := F₁₄.push (lst [.str (mkS h0) t0] 0) rfl
  refine rSt F₁₅ fun s₁₆ F₁₆ g₁₆ => ?_
  generalize hlh : ({ s₁₃ with toks := s₁₃.toks + 1 } : Shared).heap.objs.size = lh at F₁₅ F₁₆
  have dK := (upd_ne (m := m₁₁) (x := Str.ofString "hidden") (y := Str.ofString "kinds") (v := .ref lh) (by decide)).trans cK
  have dA := (upd_ne (m := m₁₁) (x := Str.ofString "hidden") (y := Str.ofString "above") (v := .ref lh) (by decide)).trans cA
  have dS := (upd_ne (m := m₁₁) (x := Str.ofString "hidden") (y := Str.ofString "script") (v := .ref lh) (by decide)).trans cS
  have dH := upd_self m₁₁ (Str.ofString "hidden") (.ref lh)
  generalize upd m₁₁ (Str.ofString "hidden") (.ref lh) = m₁₆ at F₁₆ dK dA dS dH
  refine wpAny_execs_cons (wpAny_mono (Q := fun fl s' => fl = .next ∧ ∃ m' va vh na nh ps ab hi, Fm w os₀ b0 base [] L m' ((la, lst va na) :: (lh, lst vh nh) :: led) s' ∧ m' (Str.ofString "above") = some (.ref la) ∧ m' (Str.ofString "hidden") = some (.ref lh) ∧ IntsAre va ab ∧ StrsAre vh (hi.map mkS) ∧ Tree ps ab hi)
    (rFor (wpAny_BinOp (rList1' (rInt F₁₆ fun t₁₇ s₁₇ F₁₇ g₁₇ => ?_)))) ?_ fun _ _ q => q)
  · have F₁₈ := F₁₇.push (lst [.int 5 t₁₇] 0) rfl
    refine rSlc (rNm F₁₈ dS (evalPart_none_step (evalPart_some_step (rInt F₁₈ fun t₁₉ s₁₉ F₁₉ g₁₉ => ⟨l, sv, none, some 4, rfl, old F₁₉, IsPart.none, IsPart.int _ _, by omega, F₁₉, fun a₂₀ s₂₀ F₂₀ g₂₀ => ?_⟩))))
    have hup : IntsAre (slicePick sv.toArray none (some 4) none).toList (ns.take 4) := kmk_upto hi (by decide)
    generalize (slicePick sv.toArray none (some 4) none).toList = sl at hup F₂₀
    have hsl4 : sl.length ≤ 4 := by rw [hup.length, List.length_take]; omega
    refine rAddL F₂₀ ⟨0, F₂₀.get (.tail _ (.head _))⟩ ⟨0, F₂₀.get (.head _)⟩ (by simp only [List.length_cons, List.length_nil]; omega) fun ax s₂₁ F₂₁ g₂₁ => ?_
    have hxs : IntsAre ([Value.int 5 t₁₇] ++ sl) (5 :: ns.take 4) := .cons _ _ hup
    have hxl : ([Value.int 5 t₁₇] ++ sl).length ≤ 5 := by simp only [List.length_append, List.length_cons, List.length_nil]; omega
    generalize [Value.int 5 t₁₇] ++ sl = xs at F₂₁ hxs hxl
    generalize 5 :: ns.take 4 = zs at hxs
    have F₂₂ := F₂₁.sub (led' := (ax, lst xs 0) :: (lh, lst [.str (mkS h0) t0] 0) :: (la, lst [.int (-1) ta] 0) :: (lk, lst kv 0) :: led) ((((List.Sublist.refl _).cons _).cons _).cons_cons _)
    refine rIterL F₂₂ ⟨_, F₂₂.get (.head _), rfl, 0, rfl⟩ fun it oi s₂₃ F₂₃ ho g₂₃ => ?_
    refine ⟨fun n s' => ∃ i m' oi ps ab hi va vh na nh, n + i = xs.length ∧ Fm w os₀ b0 base [] L m' ((it, oi) :: (ax, lst xs 0) :: (lh, lst vh nh) :: (la, lst va na) :: (lk, lst kv 0) :: led) s' ∧ LIt oi ax i ∧ m' (Str.ofString "kinds") = some (.ref lk) ∧ m' (Str.ofString "above") = some (.ref la) ∧ m' (Str.ofString "hidden") = some (.ref lh) ∧
      IntsAre va ab ∧ StrsAre vh (hi.map mkS) ∧ Tree ps ab hi ∧ ps.length = i, xs.length, ⟨0, m₁₆, oi, [], [-1], [h0], _, _, 0, 0, rfl, F₂₃, ho, dK, dA, dH, .cons _ _ .nil, .cons _ _ .nil, ⟨rfl, by simp, rfl, by simpa using hk0, by simp⟩, rfl⟩, ?_⟩
    rintro n s₂₄ ⟨i, m₂₄, oi₂₄, ps, ab, hi', va, vh, na, nh, hni, F₂₄, ho₂₄, eK, eA, eH, hva, hvh, T, hps⟩
    have hax : s₂₄.heap.IsList ax xs.toArray := ⟨_, F₂₄.get (.tail _ (.head _)), rfl, 0, rfl⟩
    by_cases hi0 : i = xs.length
    · subst hi0
      refine rNextLE (l1 := []) hh F₂₄ ho₂₄ hax (by omega) fun s₂₅ F₂₅ g₂₅ => wpAny_execs_nil ⟨rfl, m₂₄, va, vh, na, nh, ps, ab, hi', ?_, eA, eH, hva, hvh, T⟩
      have := F₂₅.sub (led' := (lh, lst vh nh) :: (la, lst va na) :: led) ((((List.Sublist.refl _).cons _).cons_cons _ |>.cons_cons _).cons _)
      exact this.perm (.swap _ _ _)
    · have hi1 : i < xs.length := by omega
      obtain ⟨tx, hx⟩ := hxs.get i (zs[i]'(by rw [← hxs.length]; exact hi1)) (List.getElem?_eq_getElem _)
      generalize zs[i]'(by rw [← hxs.length]; exact hi1) = z at hx
      refine rNextL (l1 := []) F₂₄ ho₂₄ hax hx fun s₂₅ oi₂₅ F₂₅ ho₂₅ g₂₅ => ?_
      show wpAny _ _ (pure ()) _ _ _
      refine wpAny_pure (wpAny_assign_Name (rSt F₂₅ fun s₂₆ F₂₆ g₂₆ => ?_))
      have lva : va.length = ps.length + 1 := by rw [hva.length, T.ablen]
      have fK := (upd_ne (m := m₂₄) (x := Str.ofString "x") (y := Str.ofString "kinds") (v := .int z tx) (by decide)).trans eK
      have fA := (upd_ne (m := m₂₄) (x := Str.ofString "x") (y := Str.ofString "above") (v := .int z tx) (by decide)).trans eA
      have fH := (upd_ne (m := m₂₄) (x := Str.ofString "x") (y := Str.ofString "hidden") (v := .int z tx) (by decide)).trans eH
      have fX := upd_self m₂₄ (Str.ofString "x") (.int z tx)
      generalize upd m₂₄ (Str.ofString "x") (.int z tx) = m₂₆ at F₂₆ fK fA fH fX
      refine wpAny_execs_cons (wpAny_Assign_Name (wpAny_BinOp (rNm F₂₆ fX (wpAny_BinOp (rInt F₂₆ fun t₂₇ s₂₇ F₂₇ g₂₇ => rB1 F₂₇ (id := "len") rfl rfl (rNm F₂₇ fA (rLenL F₂₇ ⟨_, F₂₇.get (.tail _ (.tail _ (.tail _ (.head _)))), rfl, na, rfl⟩ (by omega) fun t₂₈ s₂₈ F₂₈ g₂₈ =>
        mul_int (PyProof.Rows.mod_int (by omega) (rSt ((F₂₈.tok (s₂₈.toks + 1)).tok (s₂₈.toks + 1 + 1)) fun s₂₉ F₂₉ g₂₉ => ?_)) (IntMulOk.of_left (by decide)))))))))
      have hd0 : 0 ≤ z.fmod (6 * (va.length : Int)) := by rw [Int.fmod_eq_emod_of_nonneg _ (by omega)]; exact Int.emod_nonneg _ (by omega)
      have hd1 : z.fmod (6 * (va.length : Int)) < 6 * (va.length : Int) := by rw [Int.fmod_eq_emod_of_nonneg _ (by omega)]; exact Int.emod_lt_of_pos _ (by omega)
      generalize z.fmod (6 * (va.length : Int)) = d at F₂₉ hd0 hd1
      obtain ⟨d, rfl⟩ := Int.eq_ofNat_of_zero_le hd0
      have gK := (upd_ne (m := m₂₆) (x := Str.ofString "drawn") (y := Str.ofString "kinds") (v := .int d (s₂₈.toks + 1)) (by decide)).trans fK
      have gA := (upd_ne (m := m₂₆) (x := Str.ofString "drawn") (y := Str.ofString "above") (v := .int d (s₂₈.toks + 1)) (by decide)).trans fA
      have gH := (upd_ne (m := m₂₆) (x := Str.ofString "drawn") (y := Str.ofString "hidden") (v := .int d (s₂₈.toks + 1)) (by decide)).trans fH
      have gD := upd_self m₂₆ (Str.ofString "drawn") (.int d (s₂₈.toks + 1))
      generalize upd m₂₆ (Str.ofString "drawn") (.int d (s₂₈.toks + 1)) = m₂₉ at F₂₉ gK gA gH gD
      have hq6 : d / va.length < 6 := Nat.div_lt_of_lt_mul (by omega)
      have hfd : (d : Int).fdiv va.length = ((d / va.length : Nat) : Int) := by rw [Int.fdiv_eq_ediv_of_nonneg _ (by omega)]; rfl
      have hfm : (d : Int).fmod va.length = ((d % va.length : Nat) : Int) := by rw [Int.fmod_eq_emod_of_nonneg _ (by omega)]; rfl
      obtain ⟨h1, hk1, t1', hv1⟩ := kind_at hk hq6
      refine wpAny_execs_cons (rAppS F₂₉ gH (F₂₉.get (.tail _ (.tail _ (.head _)))) (Subscript_ (rNm F₂₉ gK (wpAny_BinOp (rNm F₂₉ gD (rB1 F₂₉ (id := "len") rfl rfl (rNm F₂₉ gA (rLenL F₂₉ ⟨_, F₂₉.get (.tail _ (.tail _ (.tail _ (.head _)))), rfl, na, rfl⟩ (by omega) fun t₃₀ s₃₀ F₃₀ g₃₀ =>
        floordiv_int (by omega) ?_ (.inl (PyProof.noPylong_small (by omega)))))))))))
      rw [hfd]
      clear hfd
      generalize d / va.length = dq at hq6 hv1 ⊢
      have F₃₁ := F₃₀.tok (s₃₀.toks + 1)
      refine item_listL (l := kv) ⟨_, F₃₁.get (.tail _ (.tail _ (.tail _ (.tail _ (.head _))))), rfl, 0, rfl⟩ (by omega) (by omega) (by rw [Int.toNat_natCast]; exact hv1) ?_
      have lvh : vh.length = ps.length + 1 := by rw [StrsAre_len hvh, List.length_map, T.len, T.ablen]
      refine rApp (l1 := [(it, oi₂₅), (ax, lst xs 0)]) F₃₁ (by rw [sizeLine_eq]; omega) fun s₃₂ nh' F₃₂ g₃₂ => ⟨rfl, ?_⟩
      refine wpAny_execs_cons (rAppS F₃₂ gA (F₃₂.get (.tail _ (.tail _ (.tail _ (.head _))))) (wpAny_BinOp (rNm F₃₂ gD (rB1 F₃₂ (id := "len") rfl rfl (rNm F₃₂ gA (rLenL F₃₂ ⟨_, F₃₂.get (.tail _ (.tail _ (.tail _ (.head _)))), rfl, na, rfl⟩ (by omega) fun t₃₃ s₃₃ F₃₃ g₃₃ =>
        PyProof.Rows.mod_int (by omega) ?_))))))
      rw [hfm]
      refine rApp (l1 := [(it, oi₂₅), (ax, lst xs 0), (lh, lst (vh ++ [.str (mkS h1) t1']) nh')]) (F₃₃.tok (s₃₃.toks + 1)) (by rw [sizeLine_eq]; omega) fun s₃₄ na' F₃₄ g₃₄ => ⟨rfl, wpAny_execs_nil ?_⟩
      refine ⟨n - 1, by omega, i + 1, m₂₉, oi₂₅, ps ++ [d % va.length], ab ++ [((d % va.length : Nat) : Int)], hi' ++ [h1], _, _, na', nh', by omega, F₃₄, ho₂₅, gK, gA, gH, IntsAre_append hva (.cons _ _ .nil), ?_, ⟨?_, ?_, ?_, ?_, ?_⟩, by simp [hps]⟩
      · rw [List.map_append]; exact StrsAre_append hvh (.cons _ _ .nil)
      · rw [T.abs, List.map_append]; rfl
      · intro j p hj
        by_cases hjl : j < ps.length
        · rw [List.getElem?_append_left hjl] at hj; exact T.par j p hj
        · rw [List.getElem?_append_right (by omega)] at hj
          have : j - ps.length = 0 := by
            by_cases h0 : j - ps.length = 0
            · exact h0
            · rw [List.getElem?_eq_none (by simp; omega)] at hj; cases hj
          rw [this] at hj
          simp at hj
          rw [← hj]
          have := Nat.mod_lt d (show va.length > 0 by omega)
          omega
      · rw [List.length_append, List.length_append, T.len]; rfl
      · intro h hh'
        rcases List.mem_append.mp hh' with h2 | h2
        · exact T.kind h h2
        · rw [List.mem_singleton.mp h2]; exact hk1
      · rw [List.length_append]; show ps.length + 1 ≤ 5; omega
  · rintro fl s₁₇ ⟨rfl, m', va, vh, na, nh, ps, ab, hi', F', hA', hH', hva, hvh, T⟩
    exact h m' la lh va vh na nh ps ab hi' s₁₇ F' hA' hH' hva hvh T
end
end Mine

namespace Mine
section
variable {w : World} {A : Around} {os₀ : OsState} {b0 base : Heap} {ex : List Addr} {L : Addr} {m : Str → Option Value} {led l1 l2 : List (Addr × Obj)} {s s₂ : Shared} {env : Env} {E : Value → Shared → Prop}
theorem rCell {x : Str} {pos : Pos} {c : Addr} {v : Value} {M : Model} {Q : Value → Shared → Prop} (hv : s.heap.IsCell c (some v)) (h : Q v s) (hc : env.cells.lookup x = some c := by rfl) (hk : env.scope.kind = .function := by rfl) (hl : env.kindOf x = some .cell := by rfl) (hd : (x == ("__debug__" : Str)) = false := by decide) :
    wpAny M A (eval (.Name x pos) env) Q E s := wpAny_Name (wpAny_loadName_cell hk hl hc hv h) hd
theorem rCellSt {x : Str} {c : Addr} {o : Obj} {v₀ : Option Value} {v : Value} {M : Model} {Q : Unit → Shared → Prop} (F : Fm w os₀ b0 base ex L m (l1 ++ (c, o) :: l2) s) (ho : o.data = .cell v₀)
    (h : ∀ s' o', Fm w os₀ b0 base ex L m (l1 ++ (c, o') :: l2) s' → o'.data = .cell (some v) → s'.gens = s.gens → Q () s') (hc : env.cells.lookup x = some c := by rfl) (hk : env.scope.kind = .function := by rfl) (hl : env.kindOf x = some .cell := by rfl) :
    wpAny M A (storeName env x v) Q E s :=
  wpAny_storeName_cell hk hl hc ⟨o, F.get (by simp), ho⟩ fun h' hx hs => let ⟨o', e, d⟩ := hx; h _ o' (F.put hs e) d rfl
/-- where a sign stands -/
def idxF (c : List Nat) (ks : List (List Nat × Int)) (n : Nat) : List Nat := (List.range n).filter fun j => decide ((ks.getD j ([], 0)).1 = c)
theorem idxF_succ (c : List Nat) (ks : List (List Nat × Int)) (n : Nat) : idxF c ks (n + 1) = idxF c ks n ++ (if (ks.getD n ([], 0)).1 = c then [n] else []) := by
  unfold idxF
  rw [List.range_succ, List.filter_append]
  by_cases h : (ks.getD n ([], 0)).1 = c
  · rw [if_pos h, List.filter_cons, if_pos (decide_eq_true h)]; rfl
  · rw [if_neg h, List.filter_cons, if_neg (by simpa using h)]; rfl
theorem idxF_len (c : List Nat) (ks : List (List Nat × Int)) (n : Nat) : (idxF c ks n).length ≤ n := by
  unfold idxF
  exact Nat.le_trans (List.length_filter_le _ _) (by simp)
theorem mkS_beq (l c : List Nat) : (mkS l == mkS c) = decide (l = c) := by
  by_cases h : l = c
  · rw [h]; simp
  · rw [decide_eq_false h]
    refine beq_eq_false_iff_ne.mpr fun e => h ?_
    have := congrArg (fun x : Str => x.cps.toList) e
    simpa [mkS] using this
/-- row[i][k] -/
theorem rRowAt {vr vi : Expr} {p3 p4 p5 : Pos} {k : Nat} {kk : Int} {R : Addr} {rv : List Value} {ks : List (List Nat × Int)} {i : Nat} {ti : Tok} {Q : Value → Shared → Prop} (hrow : RowIs s.heap.get? rv ks) (hR : s.heap.IsList R rv.toArray) (hi : i < ks.length) (hbig : ks.length ≤ 1000000)
    (hr : ∀ {Q : Value → Shared → Prop}, Q (.ref R) s → wpAny (model PR w) A (eval vr env) Q E s) (hv : ∀ {Q : Value → Shared → Prop}, Q (.int i ti) s → wpAny (model PR w) A (eval vi env) Q E s)
    (hkk : kk = 0 ∨ kk = 1) (h : ∀ t, Q (if kk = 0 then .str (mkS (ks.getD i ([], 0)).1) t else .int (ks.getD i ([], 0)).2 t) { s with toks := s.toks + 1 })
    (hs1 : ∀ l u, subscripted vi false (.ref l) (.int i u) = operate [.ref l, .int i u] (getItem (.ref l) (.int i u)) := by intro _ _; with_unfolding_all rfl) (hg1 : ∀ l r, letTemporaryGo vr (.ref l) r = pure () := by intro _ _; with_unfolding_all rfl)
    (hs2 : ∀ a u, subscripted (.Constant (.int kk) k p4) false (.ref a) (.int kk u) = operate [.ref a, .int kk u] (getItem (.ref a) (.int kk u)) := by intro _ _; with_unfolding_all rfl) :
    wpAny (model PR w) A (eval (.Subscript (.Subscript vr vi p3) (.Constant (.int kk) k p4) p5) env) Q E s := by
  obtain ⟨a, t, t', e1, e2⟩ := hrow.get (i := i) (k := ks[i]) (List.getElem?_eq_getElem hi)
  have hget : ks.getD i ([], 0) = ks[i] := by simp [List.getD, hi]
  rw [hget] at h
  refine Subscript_ (Subscript_ (hr (hv (item_listL hR (by omega) (by omega) (by simpa using e1) (wpAny_Constant_int ?_) (hs1 _ _) (fun r => hg1 _ r)))))
  have ht : IsTup ({ s with toks := s.toks + 1 } : Shared).heap a ([.str (mkS ks[i].1) t, .int ks[i].2 t'] : List Value).toArray := ⟨_, e2, rfl, _, rfl⟩
  rcases hkk with rfl | rfl
  · exact item_tupleT (j := 0) ht (by decide) (by decide) rfl rfl (h t) (hs2 _ _)
  · exact item_tupleT (j := 1) ht (by decide) (by decide) rfl rfl (h t') (hs2 _ _)
/-- [i for i in range(len(row)) if row[i][0] == c] -/
theorem compIdx {scope : Scope} {cl : List (Str × Addr)} {x r : Str} {p1 p2 p3 p4 p5 p6 p7 p8 p9 : Pos} {k1 k2 : Nat} {I R cr : Addr} {oi : Obj} {rv : List Value} {ks : List (List Nat × Int)} {c : List Nat} {Q : Addr → List Value → Nat → Addr → Shared → Prop} (hh : A.handled = none)
    (F : Fm w os₀ b0 base ex L m ((I, oi) :: led) s₂) (ho : RIt oi 0 ks.length) (hrow : RowIs (vw s₂.heap [I]) rv ks) (hR : PL (vw s₂.heap [I]) R rv) (hcell : ∃ o, vw s₂.heap [I] cr = some o ∧ o.data = .cell (some (.ref R))) (hbig : ks.length ≤ 1000)
    (hQ : ∀ {D ys k C m' base' ex' s₅}, Fm w os₀ b0 base' ex' C m' [(D, lst ys k)] s₅ → Sub s₂.heap [I] base' ex' → IntsAre ys ((idxF c ks ks.length).map Int.ofNat) → Q D ys k C s₅)
    (hcl : cl.lookup r = some cr := by rfl) (hk : ∀ C, (compEnvC scope cl C env).scope.kind = .function := by intro _; rfl) (hl : ∀ C, (compEnvC scope cl C env).kindOf x = some .local := by intro _; rfl) (hr : ∀ C, (compEnvC scope cl C env).kindOf r = some .cell := by intro _; rfl)
    (hd' : (x == ("__debug__" : Str)) = false := by decide) (hd2 : (r == ("__debug__" : Str)) = false := by decide) :
    CompOver w A (.Name x p1) (.Name x p2) [.Compare (.Subscript (.Subscript (.Name r p3) (.Name x p4) p5) (.Constant (.int 0) k1 p6) p7) [.Eq] [.Constant (.str (mkS c)) k2 p8] p9] scope cl env os₀ b0 base ex L m led Q (.ref I) s₂ := by
  refine comp_over F (Iter.range hh) ho (by omega) (fun _ i ys => IntsAre ys ((idxF c ks i).map Int.ofNat)) (fun i m' => ∃ t, m' x = some (.int i t)) (fun _ _ _ _ _ h => h) (fun _ i ys h => ?_) .nil ?_ ?_ ?_
  · rw [h.length, List.length_map]; exact idxF_len _ _ _
  · rintro i v C m' led' base' ex' s oi' Q' hi ⟨t, rfl⟩ ho' F' S' h
    exact asgN F' (fun s' F'' => h s' _ ⟨t, upd_self _ _ _⟩ F'') (hk C) (hl C)
  · rintro i base' ex' C D m' oi' ys k s hi F' S' ha ⟨t, hm⟩
    have up : ∀ b o, vw s₂.heap [I] b = some o → s.heap.get? b = some o := fun b o e => F'.view b o (S'.view b o e)
    obtain ⟨oc, hc1, hc2⟩ := hcell
    refine wpAny_tests_one (wpAny_isTrue_Compare1 (rRowAt (env := compEnvC scope cl C env) (R := R) (rv := rv) (ks := ks) (i := i) (ti := t) (hrow.keeps up) (hR.keeps up).isList hi (by omega) (fun h => rCell (env := compEnvC scope cl C env) ⟨oc, up _ _ hc1, hc2⟩ h hcl (hk C) (hr C) hd2) (fun h => rNm (env := compEnvC scope cl C env) F' hm h (hk C) (hl C) hd') (.inl rfl) fun t' => ?_))
    rw [if_pos rfl]
    refine rStr (F'.tok (s.toks + 1)) fun t₃ s₃ F₃ g₃ => PyProof.Rows.eq_str (wpAny_truthy_bool ?_)
    rw [mkS_beq]
    by_cases hb : (ks.getD i ([], 0)).1 = c
    · rw [if_pos (decide_eq_true hb)]
      refine rNm (env := compEnvC scope cl C env) F₃ hm ⟨F₃, ?_⟩ (hk C) (hl C) hd'
      rw [idxF_succ, if_pos hb, List.map_append]
      exact IntsAre_append ha (.cons _ _ .nil)
    · rw [if_neg (by simpa using hb)]
      refine ⟨F₃, ?_⟩
      rw [idxF_succ, if_neg hb, List.append_nil]; exact ha
  · intro D ys k C m' base' ex' s₅ F' S' ha
    exact hQ F' S' ha
/-- [row[i][1] for i in begins] -/
theorem compNode {scope : Scope} {cl : List (Str × Addr)} {x r : Str} {p2 p3 p4 p5 p6 p7 : Pos} {k1 : Nat} {I R cr B : Addr} {oi : Obj} {rv bv : List Value} {bs : List Nat} {ks : List (List Nat × Int)} {Q : Addr → List Value → Nat → Addr → Shared → Prop} (hh : A.handled = none)
    (F : Fm w os₀ b0 base ex L m ((I, oi) :: led) s₂) (ho : LIt oi B 0) (hrow : RowIs (vw s₂.heap [I]) rv ks) (hR : PL (vw s₂.heap [I]) R rv) (hB : PL (vw s₂.heap [I]) B bv) (hbv : IntsAre bv (bs.map Int.ofNat)) (hcell : ∃ o, vw s₂.heap [I] cr = some o ∧ o.data = .cell (some (.ref R))) (hbig : ks.length ≤ 1000) (hbl : bs.length ≤ 1000) (hin : ∀ b ∈ bs, b < ks.length)
    (hQ : ∀ {D ys k C m' base' ex' s₅}, Fm w os₀ b0 base' ex' C m' [(D, lst ys k)] s₅ → Sub s₂.heap [I] base' ex' → IntsAre ys (bs.map fun b => (ks.getD b ([], 0)).2) → Q D ys k C s₅)
    (hcl : cl.lookup r = some cr := by rfl) (hk : ∀ C, (compEnvC scope cl C env).scope.kind = .function := by intro _; rfl) (hl : ∀ C, (compEnvC scope cl C env).kindOf x = some .local := by intro _; rfl) (hr : ∀ C, (compEnvC scope cl C env).kindOf r = some .cell := by intro _; rfl)
    (hd' : (x == ("__debug__" : Str)) = false := by decide) (hd2 : (r == ("__debug__" : Str)) = false := by decide) :
    CompOver w A (.Subscript (.Subscript (.Name r p3) (.Name x p4) p5) (.Constant (.int 1) k1 p6) p7) (.Name x p2) [] scope cl env os₀ b0 base ex L m led Q (.ref I) s₂ := by
  have hlen : bv.length = bs.length := by rw [hbv.length, List.length_map]
  refine comp_over F (Iter.list hh hB) ho (by omega) (fun _ i ys => IntsAre ys ((bs.take i).map fun b => (ks.getD b ([], 0)).2)) (fun i m' => ∃ b t, bs[i]? = some b ∧ m' x = some (.int b t)) (fun _ _ _ _ _ h => h) (fun _ i ys h => ?_) .nil ?_ ?_ ?_
  · rw [h.length, List.length_map, List.length_take]; omega
  · rintro i v C m' led' base' ex' s oi' Q' hi he ho' F' S' h
    have hib : i < bs.length := by omega
    obtain ⟨t, e⟩ := hbv.get i (Int.ofNat bs[i]) (by rw [List.getElem?_map, List.getElem?_eq_getElem hib]; rfl)
    rw [e] at he; cases he
    exact asgN F' (fun s' F'' => h s' _ ⟨bs[i], t, List.getElem?_eq_getElem hib, upd_self _ _ _⟩ F'') (hk C) (hl C)
  · rintro i base' ex' C D m' oi' ys k s hi F' S' ha ⟨b, t, hb, hm⟩
    have up : ∀ b o, vw s₂.heap [I] b = some o → s.heap.get? b = some o := fun b o e => F'.view b o (S'.view b o e)
    obtain ⟨oc, hc1, hc2⟩ := hcell
    refine wpAny_tests_nil ?_
    rw [if_pos rfl]
    refine rRowAt (env := compEnvC scope cl C env) (R := R) (rv := rv) (ks := ks) (i := b) (ti := t) (hrow.keeps up) (hR.keeps up).isList (hin b (List.mem_of_getElem? hb)) (by omega) (fun h => rCell (env := compEnvC scope cl C env) ⟨oc, up _ _ hc1, hc2⟩ h hcl (hk C) (hr C) hd2) (fun h => rNm (env := compEnvC scope cl C env) F' hm h (hk C) (hl C) hd') (.inr rfl) fun t' => ?_
    refine ⟨F'.tok _, ?_⟩
    rw [List.take_add_one, hb, List.map_append]
    exact IntsAre_append ha (.cons _ _ .nil)
  · intro D ys k C m' base' ex' s₅ F' S' ha
    rw [hlen, List.take_length] at ha
    exact hQ F' S' ha
/-- [piece for piece, node in row] -/
theorem compPiece {scope : Scope} {cl : List (Str × Addr)} {x y : Str} {p1 p2 p3 p4 : Pos} {kt : Nat} {I B : Addr} {oi : Obj} {rv : List Value} {ks : List (List Nat × Int)} {Q : Addr → List Value → Nat → Addr → Shared → Prop} (hh : A.handled = none)
    (F : Fm w os₀ b0 base ex L m ((I, oi) :: led) s₂) (ho : LIt oi B 0) (hrow : RowIs (vw s₂.heap [I]) rv ks) (hB : PL (vw s₂.heap [I]) B rv) (hbig : ks.length ≤ 1000)
    (hQ : ∀ {D ys k C m' base' ex' s₅}, Fm w os₀ b0 base' ex' C m' [(D, lst ys k)] s₅ → Sub s₂.heap [I] base' ex' → StrsAre ys ((ks.map (·.1)).map mkS) → Q D ys k C s₅)
    (hxy : x ≠ y) (hk : ∀ C, (compEnvC scope cl C env).scope.kind = .function := by intro _; rfl) (hl : ∀ C, (compEnvC scope cl C env).kindOf x = some .local := by intro _; rfl) (hr : ∀ C, (compEnvC scope cl C env).kindOf y = some .local := by intro _; rfl)
    (hd' : (x == ("__debug__" : Str)) = false := by decide) :
    CompOver w A (.Name x p1) (.Tuple [.Name x p2, .Name y p3] kt p4) [] scope cl env os₀ b0 base ex L m led Q (.ref I) s₂ := by
  have hlen : rv.length = ks.length := hrow.length
  have IT := Iter.list (w := w) (A := A) (os₀ := os₀) (b0 := b0) (I := I) hh hB
  refine comp_over F IT ho (by omega) (fun _ i ys => StrsAre ys (((ks.take i).map (fun p : List Nat × Int => p.1)).map mkS)) (fun i m' => ∃ kk t, ks[i]? = some kk ∧ m' x = some (.str (mkS kk.1) t)) (fun _ _ _ _ _ h => h) (fun _ i ys h => ?_) .nil ?_ ?_ ?_
  · rw [StrsAre_len h, List.length_map, List.length_map, List.length_take]; omega
  · rintro i v C m' led' base' ex' s oi' Q' hi he ho' F' S' h
    have hib : i < ks.length := by omega
    obtain ⟨a, t, t', e1, e2⟩ := hrow.get (i := i) (k := ks[i]) (List.getElem?_eq_getElem hib)
    rw [e1] at he; cases he
    obtain ⟨T, hT1, hT2⟩ := IT.plain ho'
    refine asgP hh F' hT1 hT2 (F'.view _ _ (S'.view _ _ e2)) (fun s' F'' => h s' _ ⟨ks[i], t, List.getElem?_eq_getElem hib, ?_⟩ F'') (hk C) (hl C) (hr C)
    rw [upd_ne hxy, upd_self]
  · rintro i base' ex' C D m' oi' ys k s hi F' S' ha ⟨kk, t, hb, hm⟩
    refine wpAny_tests_nil ?_
    rw [if_pos rfl]
    refine rNm (env := compEnvC scope cl C env) F' hm ⟨F', ?_⟩ (hk C) (hl C) hd'
    rw [List.take_add_one, hb, List.map_append, List.map_append]
    exact StrsAre_append ha (.cons _ _ .nil)
  · intro D ys k C m' base' ex' s₅ F' S' ha
    rw [hlen, List.take_length] at ha
    exact hQ F' S' ha
end
end Mine

namespace Mine
/-- law's cells: row, ends, first, k -/
abbrev cells4 (L : Addr) (o1 o2 o3 o4 : Obj) : List (Addr × Obj) := [(L + 1, o1), (L + 2, o2), (L + 3, o3), (L + 4, o4)]
theorem cells_noSeq {L : Addr} {o1 o2 o3 o4 : Obj} {c1 c2 c3 c4 : Option Value} (h1 : o1.data = .cell c1) (h2 : o2.data = .cell c2) (h3 : o3.data = .cell c3) (h4 : o4.data = .cell c4) : ∀ p ∈ cells4 L o1 o2 o3 o4, ∀ its n, p.2.data ≠ .seq its n := by
  intro p hp its n e
  simp only [List.mem_cons, List.not_mem_nil, or_false] at hp
  rcases hp with rfl | rfl | rfl | rfl
  · rw [show o1.data = _ from h1] at e; cases e
  · rw [show o2.data = _ from h2] at e; cases e
  · rw [show o3.data = _ from h3] at e; cases e
  · rw [show o4.data = _ from h4] at e; cases e
section
variable {w : World} {A : Around} {os₀ : OsState} {b0 base : Heap} {ex : List Addr} {L : Addr} {m : Str → Option Value} {led l1 l2 : List (Addr × Obj)} {s s₂ : Shared} {env : Env} {E : Value → Shared → Prop}
theorem Fm.memView {I a : Addr} {oi o : Obj} (F : Fm w os₀ b0 base ex L m ((I, oi) :: led) s) (h : (a, o) ∈ led) : vw s.heap [I] a = some o := by
  refine vw_some.mpr ⟨F.get (.tail _ h), fun hm => ?_⟩
  rw [List.mem_singleton] at hm
  have nd := F.nodup
  rw [List.map_cons, List.nodup_cons, List.nodup_cons] at nd
  exact nd.2.1 (by rw [← hm]; exact List.mem_map.mpr ⟨_, h, rfl⟩)
theorem Fm.upI {I : Addr} {oi : Obj} (F : Fm w os₀ b0 base ex L m ((I, oi) :: led) s) : ∀ b o, vw base ex b = some o → vw s.heap [I] b = some o := fun b o e =>
  vw_some.mpr ⟨F.view b o e, fun hm => F.notL e (by rw [List.mem_singleton.mp hm]; exact .tail _ (.head _))⟩
theorem Fm.neI {I : Addr} {oi : Obj} (F : Fm w os₀ b0 base ex L m ((I, oi) :: led) s) : L ≠ I := by
  intro e
  have nd := F.nodup
  rw [List.nodup_cons] at nd
  exact nd.1 (by rw [e]; exact .head _)
theorem law2 {fa : Addr} {cd : Value} {la lh : Addr} {va vh : List Value} {na nh : Nat} {ps : List Nat} {ab : List Int} {hi : List (List Nat)} {o1 o2 o3 o4 : Obj} {Q : Flow → Shared → Prop} (hh : A.handled = none) (hroom : A.depth + 6 ≤ recursionLimit)
    (F : Fm w os₀ b0 base ex L m ((la, lst va na) :: (lh, lst vh nh) :: cells4 L o1 o2 o3 o4) s) (d1 : o1.data = .cell none) (d2 : o2.data = .cell none) (d3 : o3.data = .cell none) (d4 : o4.data = .cell none)
    (cA : m (Str.ofString "above") = some (.ref la)) (cH : m (Str.ofString "hidden") = some (.ref lh)) (hva : IntsAre va ab) (hvh : StrsAre vh (hi.map mkS)) (T : Tree ps ab hi) (hbig : (writeF ab hi 6 0).length ≤ 1000)
    (h : ∀ base' ex' m' lr rv bl bv cl cv o1' s', Fm w os₀ b0 base' ex' L m' (cells4 L o1' o2 o3 o4) s' → o1'.data = .cell (some (.ref lr)) → m' (Str.ofString "above") = some (.ref la) → PL (vw base' ex') la va → PL (vw base' ex') lr rv → RowIs (vw base' ex') rv (writeF ab hi 6 0) →
      m' (Str.ofString "begins") = some (.ref bl) → PL (vw base' ex') bl bv → IntsAre bv ((idxF [40] (writeF ab hi 6 0) (writeF ab hi 6 0).length).map Int.ofNat) → m' (Str.ofString "closes") = some (.ref cl) → PL (vw base' ex') cl cv → IntsAre cv ((idxF [41] (writeF ab hi 6 0) (writeF ab hi 6 0).length).map Int.ofNat) →
      wpAny (model PR w) A (execs (lRest w.params 7) (lEnv w.params L fa cd)) Q NE s') :
    wpAny (model PR w) A (execs (lRest w.params 4) (lEnv w.params L fa cd)) Q NE s := by
  have hns := cells_noSeq (L := L) d1 d2 d3 d4
  have F₁ := F.tail.tail.rebase
  have vA : PL (vw s.heap (L :: (cells4 L o1 o2 o3 o4).map (·.1))) la va := ⟨na, (F.sub (led' := (la, lst va na) :: cells4 L o1 o2 o3 o4) (((List.Sublist.refl _).cons _).cons_cons _)).ledView⟩
  have vH : PL (vw s.heap (L :: (cells4 L o1 o2 o3 o4).map (·.1))) lh vh := ⟨nh, F.tail.ledView⟩
  generalize hB : s.heap = B₁ at F₁ vA vH
  generalize hX : L :: (cells4 L o1 o2 o3 o4).map (·.1) = X₁ at F₁ vA vH
  clear hB hX
  have habl := T.ablen
  have hfew := T.few
  refine wpAny_execs_cons (wpAny_Assign_Name (Call_Name (trees := [(false, _), (false, _), (false, _)]) rfl (rGlob F₁ (v := .ref 56) rfl ?_)))
  refine callWith_function (o := ⟨.type "function", none, .func (fdAt w.params 56), #[]⟩) (fd := fdAt w.params 56) (evalArgs_plain (spliced_cons (rInt (k := 0) (pos := ⟨100, 21, 100, 22⟩) F₁ fun t₂ s₂ F₂ g₂ => spliced_cons (rNm F₂ cA (spliced_cons (rNm F₂ cH (spliced_nil ⟨⟨F₂.topNow.K 56 _ rfl, rfl⟩, ?_⟩)))))))
  refine write_spec (node := 0) (above := ab) (hidden := hi) (by omega) (fun k p hk => ?_) hva hvh T.len 6 (by omega) hh hroom F₂ (vA.keeps F₂.view) (vH.keeps F₂.view) (by omega) (by omega) fun lr rv s₃ x₃ hl₃ hr₃ => ?_
  · rw [T.abs] at hk
    cases k with
    | zero => simp at hk; omega
    | succ k =>
      rw [List.getElem?_cons_succ, List.getElem?_map] at hk
      cases e : ps[k]? with
      | none => rw [e] at hk; simp at hk
      | some q => rw [e] at hk; simp at hk; have := T.par k q e; omega
  generalize writeF ab hi 6 0 = ks at hbig h hr₃
  have F₃ := F₂.ext x₃
  have F₄ := F₃.rebase
  have vR := hr₃.mkView F₃ hns
  have vL : PL (vw s₃.heap (L :: (cells4 L o1 o2 o3 o4).map (·.1))) lr rv := let ⟨n, e⟩ := hl₃; ⟨n, F₃.seqView hns e rfl⟩
  have vA₄ := vA.keeps F₃.viewUp
  generalize hB : s₃.heap = B₄ at F₄ vA₄ vR vL
  generalize hX : L :: (cells4 L o1 o2 o3 o4).map (·.1) = X₄ at F₄ vA₄ vR vL
  clear hB hX
  refine rCellSt (l1 := []) F₄ d1 fun s₅ o1' F₅ d1' g₅ => ?_
  replace F₅ : Fm w os₀ b0 B₄ X₄ L m (cells4 L o1' o2 o3 o4) s₅ := F₅
  have hrl : rv.length = ks.length := vR.length
  have hns' := cells_noSeq (L := L) d1' d2 d3 d4
  refine wpAny_execs_cons (rCompSt (cl := [(Str.ofString "row", L + 1)]) (rIterR F₅ (rB1 F₅ (id := "len") rfl rfl (rCell ⟨o1', F₅.get (.head _), d1'⟩ (rLenL F₅ (vL.keeps F₅.view).isList (by omega) fun t₆ s₆ F₆ g₆ => ⟨rv.length, t₆, rfl, by omega, F₆, fun it oi s₇ F₇ ho g₇ =>
    compIdx (c := [40]) hh F₇ (by rw [← hrl]; exact ho) (vR.keeps F₇.upI) (vL.keeps F₇.upI) ⟨o1', F₇.memView (.head _), d1'⟩ hbig fun F' S' hys => comp_outS (env := lEnv w.params L fa cd) (Acc := fun _ _ ys => IntsAre ys ((idxF [40] ks ks.length).map Int.ofNat)) (N := 0) (fun _ _ _ _ _ h => h) ?_ F₇.ns F' F₇.neI S' hys⟩)))))
  intro bl bv kb s₈ F₈ hbv
  replace F₈ : Fm w os₀ b0 B₄ X₄ L (upd m (Str.ofString "begins") (.ref bl)) ((bl, lst bv kb) :: cells4 L o1' o2 o3 o4) s₈ := F₈
  have F₉ := F₈.tail.rebase
  have vB₉ : PL (vw s₈.heap (L :: (cells4 L o1' o2 o3 o4).map (·.1))) bl bv := ⟨kb, F₈.ledView⟩
  have vR₉ := vR.keeps F₈.tail.viewUp
  have vL₉ := vL.keeps F₈.tail.viewUp
  have vA₉ := vA₄.keeps F₈.tail.viewUp
  generalize hB : s₈.heap = B₉ at F₉ vA₉ vR₉ vL₉ vB₉
  generalize hX : L :: (cells4 L o1' o2 o3 o4).map (·.1) = X₉ at F₉ vA₉ vR₉ vL₉ vB₉
  clear hB hX
  refine wpAny_execs_cons (rCompSt (cl := [(Str.ofString "row", L + 1)]) (rIterR F₉ (rB1 F₉ (id := "len") rfl rfl (rCell ⟨o1', F₉.get (.head _), d1'⟩ (rLenL F₉ (vL₉.keeps F₉.view).isList (by omega) fun t₆ s₆ F₆ g₆ => ⟨rv.length, t₆, rfl, by omega, F₆, fun it oi s₇ F₇ ho g₇ =>
    compIdx (c := [41]) hh F₇ (by rw [← hrl]; exact ho) (vR₉.keeps F₇.upI) (vL₉.keeps F₇.upI) ⟨o1', F₇.memView (.head _), d1'⟩ hbig fun F' S' hys => comp_outS (env := lEnv w.params L fa cd) (Acc := fun _ _ ys => IntsAre ys ((idxF [41] ks ks.length).map Int.ofNat)) (N := 0) (fun _ _ _ _ _ h => h) ?_ F₇.ns F' F₇.neI S' hys⟩)))))
  intro cl cv kc s₁₀ F₁₀ hcv
  replace F₁₀ : Fm w os₀ b0 B₉ X₉ L (upd (upd m (Str.ofString "begins") (.ref bl)) (Str.ofString "closes") (.ref cl)) ((cl, lst cv kc) :: cells4 L o1' o2 o3 o4) s₁₀ := F₁₀
  refine h _ _ _ lr rv bl bv cl cv o1' s₁₀ F₁₀.tail.rebase d1' ?_ (vA₉.keeps F₁₀.tail.viewUp) (vL₉.keeps F₁₀.tail.viewUp) (vR₉.keeps F₁₀.tail.viewUp) ?_ (vB₉.keeps F₁₀.tail.viewUp) hbv (upd_self _ _ _) ⟨kc, F₁₀.ledView⟩ hcv
  · rw [upd_ne (by decide), upd_ne (by decide)]; exact cA
  · rw [upd_ne (by decide), upd_self]
end
end Mine

namespace Mine
theorem RowIs.slice {V : Addr → Option Obj} {vs : List Value} {ks : List (List Nat × Int)} (h : RowIs V vs ks) (i j : Nat) : RowIs V (slicePick vs.toArray (some (i : Int)) (some (j : Int)) none).toList ((ks.drop i).take (min j ks.length - i)) := by
  have e : sliceBounds (some (i : Int)) (some (j : Int)) none vs.toArray.size = (((min i vs.toArray.size : Nat) : Int), ((min j vs.toArray.size : Nat) : Int), 1) := by
    simp only [sliceBounds, Option.getD_none, show (1 : Int) > 0 by decide, if_true, if_neg (show ¬ ((i : Int) < 0) by omega), if_neg (show ¬ ((j : Int) < 0) by omega)]
    congr 1
    · omega
    · congr 1
      omega
  rw [kmk_pick_nat _ e]
  show RowIs V ((vs.drop (min i vs.toArray.size)).take (min j vs.toArray.size - min i vs.toArray.size)) _
  rw [List.size_toArray, kmk_drop_min, h.length, show min j ks.length - min i ks.length = min j ks.length - i by omega]
  exact (h.drop _).take _
section
variable {w : World} {A : Around} {os₀ : OsState} {b0 base : Heap} {ex : List Addr} {L : Addr} {m : Str → Option Value} {led l1 l2 : List (Addr × Obj)} {s s₂ : Shared} {env : Env} {E : Value → Shared → Prop}
theorem rAppG {nl : Str} {pn apos pos pos' : Pos} {e : Expr} {D : Addr} {vs : List Value} {n : Nat} {Q : Flow → Shared → Prop} (hev : ∀ {Q : Value → Shared → Prop}, Q (.ref D) s → wpAny (model PR w) A (eval (.Name nl pn) env) Q E s) (hD : s.heap.get? D = some (lst vs n))
    (h : wpAny (model PR w) A (eval e env) (fun v s₂ => wpAny (model PR w) A (call (.builtin "list.append") [.ref D, v]) (fun r s₃ => r = .none ∧ Q .next s₃) E s₂) E s)
    (hline : (apos.endLine == pos.line) = true := by rfl) (hst : starEach [e] env = [(false, eval e env)] := by rfl) (hi : interactive env = false := by rfl) :
    wpAny (model PR w) A (exec (.Expr (.Call (.Attribute (.Name nl pn) "append" apos) [e] [] pos) pos') env) Q E s := by
  have htrees : backTo pos (starEach [e] env) = [(false, eval e env)] := by rw [hst]; rfl
  have hfew : ((backTo pos (starEach [e] env)).all (fun x => !x.1) && (backToKw pos (keywordEach [] env)).all (fun x => x.1.isSome)
      && decide (([e] : List Expr).length + ([] : List Keyword).length + (if ([] : List Keyword).isEmpty then 0 else 1) < 30)) = true := by rw [htrees]; rfl
  refine wpAny_Expr (wpAny_Call_append rfl hfew hline htrees (hev ⟨D, vs.toArray, rfl, ⟨_, n, hD, rfl, rfl, rfl⟩, wpAny_mono h (fun v s₂ h₂ => wpAny_mono h₂ (fun r s₃ h₃ => ?_) fun _ _ q => q) fun _ _ q => q⟩)) hi rfl
  obtain ⟨rfl, h₃⟩ := h₃
  exact h₃
theorem rJoinE {k : Nat} {p apos pos : Pos} {e : Expr} {Q : Value → Shared → Prop} (F : Fm w os₀ b0 base ex L m led s)
    (h : ∀ s₀, Fm w os₀ b0 base ex L m led s₀ → s₀.gens = s.gens → wpAny (model PR w) A (eval e env) (fun v s₁ => ∃ (D : Addr) (vs : List Value) (acc : List (List Nat)), v = .ref D ∧ s₁.heap.IsList D vs.toArray ∧ StrsAre vs (acc.map mkS) ∧ acc.length ≤ 1002 ∧ (∀ p ∈ acc, p.length ≤ 10000) ∧ ∀ t' k, Q (.str (mkS acc.flatten) t') { s₁ with toks := k }) E s₀)
    (hline : (apos.endLine == pos.line) = true := by rfl) (hs : starEach [e] env = [(false, eval e env)] := by rfl) :
    wpAny (model PR w) A (eval (.Call (.Attribute (.Constant (.str (Str.ofString "")) k p) (Str.ofString "join") apos) [e] [] pos) env) Q E s := by
  refine Call_method1 rfl hs hline (rStr F fun tj sj Fj gj => ?_)
  refine ⟨"str", _, PySem.F.plainAttrs_str, PySem.F.slot_str_join, PySem.F.type_str_join, typeIs_str _ _ _, (fun _ e => nomatch e), ?_⟩
  refine callWith_builtin rfl (evalArgs_plain (spliced_cons (wpAny_mono (h sj Fj gj) (fun v s₁ h₁ => spliced_nil ?_) fun _ _ q => q)))
  obtain ⟨D, vs, acc, rfl, hl, hv, hc, hp, hq⟩ := h₁
  refine join_list (items := vs.toArray) hl (by simpa using hv) ?_ fun t' k => ?_
  · have hz : (Str.ofString "").length = 0 := by rfl
    rw [hz, Nat.mul_zero, Nat.add_zero, List.map_map]
    have hsum : ∀ (l : List (List Nat)), (∀ p ∈ l, p.length ≤ 10000) → (l.map ((fun z : Str => z.length) ∘ mkS)).sum ≤ l.length * 10000 := by
      intro l
      induction l with
      | nil => intro _; simp
      | cons a r ih =>
        intro h
        have h1 := ih fun p hp => h p (.tail _ hp)
        have h2 := h a (.head _)
        have h3 : ((fun z : Str => z.length) ∘ mkS) a = a.length := by simp [mkS, Str.length]
        simp only [List.map_cons, List.sum_cons, List.length_cons, Nat.add_mul, Nat.one_mul, h3]
        omega
    have := hsum acc hp
    have hm : acc.length * 10000 ≤ 1002 * 10000 := Nat.mul_le_mul_right _ hc
    omega
  · rw [join_empty]
    exact hq t' k
end
/-- the node of a place of the row -/
def nodeF (ks : List (List Nat × Int)) (i : Nat) : Int := (ks.getD i ([], 0)).2
def sameF (ab : List Int) (ks : List (List Nat × Int)) (i j : Nat) : Bool := ab.getD (nodeF ks i).toNat 0 == ab.getD (nodeF ks j).toNat 0
def segF (ks : List (List Nat × Int)) (i j : Nat) : List Nat := (((ks.drop i).take (min (j + 1) ks.length - i)).map (·.1)).flatten
def foundF (ab : List Int) (ks : List (List Nat × Int)) (cs : List Nat) (i : Nat) : List Nat := cs.filter fun j => decide (i < j) && sameF ab ks i j
def endsF (ab : List Int) (ks : List (List Nat × Int)) (bs cs : List Nat) : List Nat := bs.map fun i => (foundF ab ks cs i).headD 0
/-- what the checks ask -/
structure ChkOk (ab : List Int) (ks : List (List Nat × Int)) (bs cs : List Nat) : Prop where
  told : ∀ i ∈ bs, ∀ j ∈ cs, i < j → checkL (segF ks i j) = sameF ab ks i j
  some : ∀ i ∈ bs, foundF ab ks cs i ≠ []
  node : ∀ i, i ∈ bs ∨ i ∈ cs → i < ks.length ∧ 0 ≤ nodeF ks i ∧ (nodeF ks i).toNat < ab.length
  big : ks.length ≤ 100
  bbig : bs.length ≤ 100
  cbig : cs.length ≤ 100
  short : ∀ k ∈ ks, k.1.length ≤ 5
theorem flat_short {l : List (List Nat)} {B : Nat} (h : ∀ p ∈ l, p.length ≤ B) : l.flatten.length ≤ l.length * B := by
  induction l with
  | nil => simp
  | cons a r ih =>
    have h1 := ih fun p hp => h p (.tail _ hp)
    have h2 := h a (.head _)
    simp only [List.flatten_cons, List.length_append, List.length_cons, Nat.add_mul, Nat.one_mul]
    omega
theorem ChkOk.segShort {ab : List Int} {ks : List (List Nat × Int)} {bs cs : List Nat} (O : ChkOk ab ks bs cs) (i j : Nat) : (segF ks i j).length ≤ 500 := by
  unfold segF
  refine Nat.le_trans (flat_short (B := 5) fun p hp => ?_) ?_
  · obtain ⟨k, hk, rfl⟩ := List.mem_map.mp hp
    exact O.short k (List.mem_of_mem_drop (List.mem_of_mem_take hk))
  · have := O.big
    rw [List.length_map, List.length_take, List.length_drop]
    omega
end Mine

namespace Mine
section
variable {w : World} {A : Around} {os₀ : OsState} {b0 base : Heap} {ex : List Addr} {L : Addr} {m : Str → Option Value} {led l1 l2 : List (Addr × Obj)} {s s₂ : Shared} {env : Env} {E : Value → Shared → Prop}
/-- the names that stay -/
structure Nm3 (m : Str → Option Value) (la bl cl : Addr) : Prop where
  a : m (Str.ofString "above") = some (.ref la)
  b : m (Str.ofString "begins") = some (.ref bl)
  c : m (Str.ofString "closes") = some (.ref cl)
theorem Nm3.upd {la bl cl : Addr} (N : Nm3 m la bl cl) (x : Str) (v : Value) (h1 : Str.ofString "above" ≠ x) (h2 : Str.ofString "begins" ≠ x) (h3 : Str.ofString "closes" ≠ x) : Nm3 (Mine.upd m x v) la bl cl :=
  ⟨(upd_ne h1).trans N.a, (upd_ne h2).trans N.b, (upd_ne h3).trans N.c⟩
theorem ints_at {bv : List Value} {bs : List Nat} (h : IntsAre bv (bs.map Int.ofNat)) {i : Nat} {v : Value} (hv : bv[i]? = some v) : ∃ b t, bs[i]? = some b ∧ v = .int b t := by
  have hl : bv.length = bs.length := by rw [h.length, List.length_map]
  have hi : i < bv.length := (List.getElem?_eq_some_iff.mp hv).1
  have hib : i < bs.length := by omega
  obtain ⟨t, e⟩ := h.get i (Int.ofNat bs[i]) (by rw [List.getElem?_map, List.getElem?_eq_getElem hib]; rfl)
  rw [hv] at e
  exact ⟨bs[i], t, List.getElem?_eq_getElem hib, Option.some.inj e⟩
/-- above[row[i][1]] -/
theorem rAbove {vr vi : Expr} {pa p3 p4 p5 p6 : Pos} {k : Nat} {R la : Addr} {rv va : List Value} {ks : List (List Nat × Int)} {ab : List Int} {i : Nat} {ti : Tok} {Q : Value → Shared → Prop} (F : Fm w os₀ b0 base ex env.locals m led s) (hm : m (Str.ofString "above") = some (.ref la)) (hA : PL s.heap.get? la va) (hva : IntsAre va ab) (hrow : RowIs s.heap.get? rv ks) (hR : s.heap.IsList R rv.toArray) (hi : i < ks.length) (hbig : ks.length ≤ 1000000)
    (hn0 : 0 ≤ nodeF ks i) (hn1 : (nodeF ks i).toNat < ab.length) (hab : ab.length ≤ 1000)
    (hr : ∀ {Q : Value → Shared → Prop}, Q (.ref R) s → wpAny (model PR w) A (eval vr env) Q E s) (hv : ∀ {Q : Value → Shared → Prop}, Q (.int i ti) s → wpAny (model PR w) A (eval vi env) Q E s)
    (h : ∀ t, Q (.int (ab.getD (nodeF ks i).toNat 0) t) { s with toks := s.toks + 1 })
    (hs1 : ∀ l u, subscripted vi false (.ref l) (.int i u) = operate [.ref l, .int i u] (getItem (.ref l) (.int i u)) := by intro _ _; with_unfolding_all rfl) (hg1 : ∀ l r, letTemporaryGo vr (.ref l) r = pure () := by intro _ _; with_unfolding_all rfl)
    (hs2 : ∀ a u, subscripted (.Constant (.int 1) k p4) false (.ref a) (.int 1 u) = operate [.ref a, .int 1 u] (getItem (.ref a) (.int 1 u)) := by intro _ _; with_unfolding_all rfl)
    (hs3 : ∀ a x u, subscripted (.Subscript (.Subscript vr vi p3) (.Constant (.int 1) k p4) p5) false (.ref a) (.int x u) = operate [.ref a, .int x u] (getItem (.ref a) (.int x u)) := by intro _ _ _; with_unfolding_all rfl)
    (hk : env.scope.kind = .function := by rfl) (hl : env.kindOf (Str.ofString "above") = some .local := by rfl) :
    wpAny (model PR w) A (eval (.Subscript (.Name (Str.ofString "above") pa) (.Subscript (.Subscript vr vi p3) (.Constant (.int 1) k p4) p5) p6) env) Q E s := by
  refine Subscript_ (rNm F hm (rRowAt hrow hR hi hbig hr hv (.inr rfl) (fun t => ?_) hs1 hg1 hs2) hk hl (by decide))
  rw [if_neg (by decide)]
  obtain ⟨t', e⟩ := hva.get (nodeF ks i).toNat (ab.getD (nodeF ks i).toNat 0) (by rw [List.getElem?_eq_getElem hn1]; simp [List.getD, hn1])
  exact item_listL (l := va) hA.isList hn0 (by show nodeF ks i < _; omega) e (h t') (hs3 _ _ _)
end
end Mine

namespace Mine
section
variable {w : World} {A : Around} {os₀ : OsState} {b0 base : Heap} {ex : List Addr} {L : Addr} {m : Str → Option Value} {led l1 l2 : List (Addr × Obj)} {s s₂ : Shared} {env : Env} {E : Value → Shared → Prop}
theorem comp_outA {Acc : (Addr → Option Obj) → Nat → List Value → Prop} {N : Nat} {Q : Addr → Shared → Prop} (mono : SeqMono Acc) (h : ∀ D ys k s', Fm w os₀ b0 base ex L m ((D, lst ys k) :: led) s' → Acc s'.heap.get? N ys → Q D s')
    {D : Addr} {ys : List Value} {k : Nat} {C : Addr} {m' : Str → Option Value} {base' : Heap} {ex' : List Addr} {s₅ : Shared} (F : Fm w os₀ b0 base' ex' C m' [(D, lst ys k)] s₅) (ha : Acc (vw base' ex') N ys) :
    ∀ s', Fm w os₀ b0 base ex L m ((D, lst ys k) :: led) s' → (∀ b o, b ≠ C → s₅.heap.get? b = some o → s'.heap.get? b = some o) → s'.gens = s₅.gens → Q D s' :=
  comp_out (Q := fun v s' => ∀ D', v = .ref D' → Q D' s') mono (fun D ys k s' F' ha D' e => by cases e; exact h D ys k s' F' ha) F ha |> fun x s' a b c => x s' a b c D rfl
theorem law3 {fa : Addr} {cd : Value} {la lr bl cl : Addr} {va rv bv cv : List Value} {ab : List Int} {ks : List (List Nat × Int)} {bs cs : List Nat} {o1 o2 o3 o4 : Obj} {Q : Flow → Shared → Prop} (hh : A.handled = none) (hroom : A.depth + 3 < recursionLimit)
    (F : Fm w os₀ b0 base ex L m (cells4 L o1 o2 o3 o4) s) (d1 : o1.data = .cell (some (.ref lr))) (d2 : o2.data = .cell none) (N : Nm3 m la bl cl) (vA : PL (vw base ex) la va) (hva : IntsAre va ab) (vL : PL (vw base ex) lr rv) (vR : RowIs (vw base ex) rv ks)
    (vB : PL (vw base ex) bl bv) (hbv : IntsAre bv (bs.map Int.ofNat)) (vC : PL (vw base ex) cl cv) (hcv : IntsAre cv (cs.map Int.ofNat)) (O : ChkOk ab ks bs cs) (hab : ab.length ≤ 1000)
    (h : ∀ base' ex' m' le ev o2' s', Fm w os₀ b0 base' ex' L m' (cells4 L o1 o2' o3 o4) s' → o2'.data = .cell (some (.ref le)) → Nm3 m' la bl cl → (∀ b o, vw base ex b = some o → vw base' ex' b = some o) → PL (vw base' ex') le ev → IntsAre ev ((endsF ab ks bs cs).map Int.ofNat) →
      wpAny (model PR w) A (execs (lRest w.params 9) (lEnv w.params L fa cd)) Q NE s') :
    wpAny (model PR w) A (execs (lRest w.params 7) (lEnv w.params L fa cd)) Q NE s := by
  have lbv : bv.length = bs.length := by rw [hbv.length, List.length_map]
  have lcv : cv.length = cs.length := by rw [hcv.length, List.length_map]
  have hbig := O.big
  have hcb := O.cbig
  have hbb := O.bbig
  refine wpAny_execs_cons (wpAny_Assign_Name (List_ (wpAny_items_nil (wpAny_newList ?_))))
  have F₁ := F.push (lst [] 0) rfl
  generalize s.heap.objs.size = le at F₁
  refine rCellSt (l1 := [(le, lst [] 0), (L + 1, o1)]) F₁ d2 fun s₂ o2' F₂ d2' g₂ => ?_
  replace F₂ : Fm w os₀ b0 base ex L m ((le, lst [] 0) :: cells4 L o1 o2' o3 o4) s₂ := F₂
  refine wpAny_execs_cons (wpAny_mono (Q := fun fl s' => fl = .next ∧ ∃ m' ev ne, Fm w os₀ b0 base ex L m' ((le, lst ev ne) :: cells4 L o1 o2' o3 o4) s' ∧ Nm3 m' la bl cl ∧ IntsAre ev ((endsF ab ks bs cs).map Int.ofNat))
    (rFor (rNm F₂ N.b (rIterL F₂ (vB.keeps F₂.view).isList fun it₁ oi₁ s₃ F₃ ho₃ g₃ => ?_))) ?_ fun _ _ q => q)
  rotate_left
  · rintro fl s₃ ⟨rfl, m', ev, ne, F₃, N₃, hev⟩
    exact h _ _ m' le ev o2' s₃ F₃.tail.rebase d2' N₃ F₃.tail.viewUp ⟨ne, F₃.ledView⟩ hev
  have IT₁ := Iter.list (w := w) (os₀ := os₀) (b0 := b0) (I := it₁) hh vB
  refine ⟨fun n s' => ∃ i m' oi ev ne, n + i = bs.length ∧ Fm w os₀ b0 base ex L m' ((it₁, oi) :: (le, lst ev ne) :: cells4 L o1 o2' o3 o4) s' ∧ LIt oi bl i ∧ Nm3 m' la bl cl ∧ IntsAre ev ((endsF ab ks (bs.take i) cs).map Int.ofNat),
    bs.length, ⟨0, m, oi₁, [], 0, rfl, F₃, ho₃, N, .nil⟩, ?_⟩
  rintro n s₄ ⟨i, m₄, oi₄, ev, ne, hni, F₄, ho₄, N₄, hev⟩
  by_cases hi : i = bs.length
  · rw [← lbv] at hi
    subst hi
    refine IT₁.stop ho₄ (Sub.refl _ _) F₄ fun s₅ F₅ g₅ => wpAny_execs_nil ⟨rfl, m₄, ev, ne, F₅, N₄, ?_⟩
    rw [lbv, List.take_length] at hev
    exact hev
  · have hi' : i < bv.length := by omega
    refine IT₁.next hi' ho₄ (Sub.refl _ _) F₄ fun s₅ v oi₅ ho₅ he F₅ g₅ => ?_
    obtain ⟨b, tb, hb, rfl⟩ := ints_at hbv he
    have hbm : b ∈ bs := List.mem_of_getElem? hb
    obtain ⟨hb1, hb2, hb3⟩ := O.node b (.inl hbm)
    show wpAny _ _ (pure ()) _ _ _
    refine wpAny_pure (wpAny_assign_Name (rSt F₅ fun s₆ F₆ g₆ => ?_))
    refine wpAny_execs_cons (wpAny_Assign_Name (List_ (wpAny_items_nil (wpAny_newList ?_))))
    have F₇ := F₆.push (lst [] 0) rfl
    generalize s₆.heap.objs.size = fd at F₇
    refine rSt F₇ fun s₈ F₈ g₈ => ?_
    have N₈ := (N₄.upd (Str.ofString "i") (.int b tb) (by decide) (by decide) (by decide)).upd (Str.ofString "found") (.ref fd) (by decide) (by decide) (by decide)
    have cI : upd (upd m₄ (Str.ofString "i") (.int b tb)) (Str.ofString "found") (.ref fd) (Str.ofString "i") = some (.int b tb) := by rw [upd_ne (by decide), upd_self]
    have cF := upd_self (upd m₄ (Str.ofString "i") (.int b tb)) (Str.ofString "found") (.ref fd)
    generalize upd (upd m₄ (Str.ofString "i") (.int b tb)) (Str.ofString "found") (.ref fd) = m₈ at F₈ N₈ cI cF
    refine wpAny_execs_cons (wpAny_mono (Q := fun fl s' => fl = .next ∧ ∃ m' fv nf, Fm w os₀ b0 base ex L m' ((fd, lst fv nf) :: (it₁, oi₅) :: (le, lst ev ne) :: cells4 L o1 o2' o3 o4) s' ∧ Nm3 m' la bl cl ∧ m' (Str.ofString "found") = some (.ref fd) ∧ IntsAre fv ((foundF ab ks cs b).map Int.ofNat))
      (rFor (rNm F₈ N₈.c (rIterL F₈ (vC.keeps F₈.view).isList fun it₂ oi₂ s₉ F₉ ho₉ g₉ => ?_))) ?_ fun _ _ q => q)
    rotate_left
    · rintro fl s₉ ⟨rfl, m₉, fv, nf, F₉, N₉, cF₉, hfv⟩
      obtain ⟨f0, fr, hf⟩ : ∃ f0 fr, foundF ab ks cs b = f0 :: fr := by
        cases e : foundF ab ks cs b with
        | nil => exact absurd e (O.some b hbm)
        | cons x r => exact ⟨x, r, rfl⟩
      have hfv' := hfv
      rw [hf] at hfv'
      obtain ⟨tf, wf, hfe, _⟩ := ints_head hfv'
      have lev : ev.length ≤ 100 := by rw [hev.length, List.length_map, endsF, List.length_map, List.length_take]; omega
      refine wpAny_execs_cons (rAppG (fun h => rCell ⟨o2', F₉.get (a := L + 2) (.tail _ (.tail _ (.tail _ (.tail _ (.head _))))), d2'⟩ h) (F₉.get (.tail _ (.tail _ (.head _)))) (Subscript_ (rNm F₉ cF₉ (rInt F₉ fun t₁₀ s₁₀ F₁₀ g₁₀ =>
        item_listL (l := fv) ⟨_, F₁₀.get (.head _), rfl, nf, rfl⟩ (by decide) (by decide) (by rw [hfe]; rfl) (rApp (l1 := [(fd, lst fv nf), (it₁, oi₅)]) F₁₀ (by rw [sizeLine_eq]; omega) fun s₁₁ ne' F₁₁ g₁₁ => ⟨rfl, wpAny_execs_nil ?_⟩)))))
      refine ⟨n - 1, by omega, i + 1, m₉, oi₅, _, ne', by omega, F₁₁.tail, ho₅, N₉, ?_⟩
      have e : endsF ab ks (bs.take (i + 1)) cs = endsF ab ks (bs.take i) cs ++ [f0] := by
        unfold endsF
        rw [List.take_add_one, hb, List.map_append]
        show _ ++ [(foundF ab ks cs b).headD 0] = _
        rw [hf]; rfl
      rw [e, List.map_append]
      exact IntsAre_append hev (.cons _ _ .nil)
    have IT₂ := Iter.list (w := w) (os₀ := os₀) (b0 := b0) (I := it₂) hh vC
    refine ⟨fun n s' => ∃ j m' oi fv nf, n + j = cs.length ∧ Fm w os₀ b0 base ex L m' ((it₂, oi) :: (fd, lst fv nf) :: (it₁, oi₅) :: (le, lst ev ne) :: cells4 L o1 o2' o3 o4) s' ∧ LIt oi cl j ∧ Nm3 m' la bl cl ∧ m' (Str.ofString "i") = some (.int b tb) ∧ m' (Str.ofString "found") = some (.ref fd) ∧ IntsAre fv ((foundF ab ks (cs.take j) b).map Int.ofNat),
      cs.length, ⟨0, m₈, oi₂, [], 0, rfl, F₉, ho₉, N₈, cI, cF, .nil⟩, ?_⟩
    rintro n₂ s₁₀ ⟨j, m₁₀, oi₁₀, fv, nf, hnj, F₁₀, ho₁₀, N₁₀, cI₁₀, cF₁₀, hfv⟩
    by_cases hj : j = cs.length
    · rw [← lcv] at hj
      subst hj
      refine IT₂.stop ho₁₀ (Sub.refl _ _) F₁₀ fun s₁₁ F₁₁ g₁₁ => wpAny_execs_nil ⟨rfl, m₁₀, fv, nf, F₁₁, N₁₀, cF₁₀, ?_⟩
      rw [lcv, List.take_length] at hfv
      exact hfv
    · have hj' : j < cv.length := by omega
      refine IT₂.next hj' ho₁₀ (Sub.refl _ _) F₁₀ fun s₁₁ v oi₁₁ ho₁₁ he F₁₁ g₁₁ => ?_
      obtain ⟨c, tc, hc, rfl⟩ := ints_at hcv he
      have hcm : c ∈ cs := List.mem_of_getElem? hc
      obtain ⟨hc1, hc2, hc3⟩ := O.node c (.inr hcm)
      show wpAny _ _ (pure ()) _ _ _
      refine wpAny_pure (wpAny_assign_Name (rSt F₁₁ fun s₁₂ F₁₂ g₁₂ => ?_))
      have N₁₂ := N₁₀.upd (Str.ofString "j") (.int c tc) (by decide) (by decide) (by decide)
      have cI₁₂ := (upd_ne (m := m₁₀) (x := Str.ofString "j") (y := Str.ofString "i") (v := .int c tc) (by decide)).trans cI₁₀
      have cF₁₂ := (upd_ne (m := m₁₀) (x := Str.ofString "j") (y := Str.ofString "found") (v := .int c tc) (by decide)).trans cF₁₀
      have cJ₁₂ := upd_self m₁₀ (Str.ofString "j") (.int c tc)
      generalize upd m₁₀ (Str.ofString "j") (.int c tc) = m₁₂ at F₁₂ N₁₂ cI₁₂ cF₁₂ cJ₁₂
      have hff : foundF ab ks (cs.take (j + 1)) b = foundF ab ks (cs.take j) b ++ (if (decide (b < c) && sameF ab ks b c) = true then [c] else []) := by
        unfold foundF
        exact filter_take_succ _ cs hc
      have lfv : fv.length ≤ 100 := by
        rw [hfv.length, List.length_map]
        refine Nat.le_trans (List.length_filter_le _ _) ?_
        rw [List.length_take]; omega
      refine wpAny_execs_cons (wpAny_If (wpAny_isTrue_Compare1 (rNm F₁₂ cI₁₂ (rNm F₁₂ cJ₁₂ (PyProof.Rows.lt_int (wpAny_truthy_bool ?_))))))
      by_cases hbc : b < c
      · rw [if_pos (by simpa using hbc)]
        have hlen13 : ((ks.drop b).take (min (c + 1) ks.length - b)).length ≤ 1000 := by rw [List.length_take, List.length_drop]; omega
        refine wpAny_execs_cons (wpAny_Assign_Name (rFn1 F₁₂ (a := 35) rfl rfl (rJoinE F₁₂ fun s₁₃ F₁₃ g₁₃ => rComp (cl := []) (os₀ := os₀) (b0 := b0) (base := base) (ex := ex) (L := L) (m := m₁₂) (led := (it₂, oi₁₁) :: (fd, lst fv nf) :: (it₁, oi₅) :: (le, lst ev ne) :: cells4 L o1 o2' o3 o4) (rSlc (rCell ⟨o1, F₁₃.get (a := L + 1) (.tail _ (.tail _ (.tail _ (.tail _ (.head _))))), d1⟩ (evalPart_some_step (rNm F₁₃ cI₁₂ (evalPart_some_step (wpAny_BinOp (rNm F₁₃ cJ₁₂ (rInt F₁₃ fun t₁₄ s₁₄ F₁₄ g₁₄ => PyProof.Rows.add_int
          ⟨lr, rv, some (b : Int), some ((c : Int) + 1), rfl, (vL.keeps F₁₄.view).isList, IsPart.int _ _, IsPart.int _ _, by rw [vR.length]; omega, F₁₄.tok _, fun a₁₅ s₁₅ F₁₅ g₁₅ => rIterL F₁₅ ⟨_, F₁₅.get (.head _), rfl, 0, rfl⟩ fun it₃ oi₃ s₁₆ F₁₆ ho₁₆ g₁₆ =>
            compPiece hh (F₁₆.sub (((List.Sublist.refl _).cons _).cons_cons _)) ho₁₆ ((vR.slice b (c + 1)).keeps F₁₆.upI) ⟨0, F₁₆.memView (.head _)⟩ hlen13 ?_ (by decide)⟩)))))))))))
        intro D ys kD C' m' base' ex' s₅' F' S' hys s₁₇ F₁₇ _ _
        refine ⟨D, ys, _, rfl, ⟨_, F₁₇.get (.head _), rfl, kD, rfl⟩, hys, by rw [List.length_map]; omega, fun p hp => ?_, fun t' kt => ?_⟩
        · obtain ⟨kk, hk, rfl⟩ := List.mem_map.mp hp
          have := O.short kk (List.mem_of_mem_drop (List.mem_of_mem_take hk))
          omega
        have F₁₈ := (F₁₇.tok kt).tail
        refine ⟨F₁₈.topNow, check_spec hh (by omega) F₁₈ ?_ fun s₁₉ x₁₉ => ?_⟩
        · have := O.segShort b c
          have e : (mkS (segF ks b c)).length = (segF ks b c).length := by simp [mkS, Str.length]
          show (mkS (segF ks b c)).length ≤ 1000
          rw [e]; omega
        have e19 : checkL (mkS (((ks.drop b).take (min (c + 1) ks.length - b)).map (·.1)).flatten).cps.toList = sameF ab ks b c := by
          rw [← O.told b hbm c hcm hbc]; simp [mkS, segF]
        rw [e19]
        have F₁₉ := F₁₈.ext x₁₉
        refine rSt F₁₉ fun s₂₀ F₂₀ g₂₀ => ?_
        have N₂₀ := N₁₂.upd (Str.ofString "told") (.bool (sameF ab ks b c)) (by decide) (by decide) (by decide)
        have cI₂₀ := (upd_ne (m := m₁₂) (x := Str.ofString "told") (y := Str.ofString "i") (v := .bool (sameF ab ks b c)) (by decide)).trans cI₁₂
        have cF₂₀ := (upd_ne (m := m₁₂) (x := Str.ofString "told") (y := Str.ofString "found") (v := .bool (sameF ab ks b c)) (by decide)).trans cF₁₂
        have cJ₂₀ := (upd_ne (m := m₁₂) (x := Str.ofString "told") (y := Str.ofString "j") (v := .bool (sameF ab ks b c)) (by decide)).trans cJ₁₂
        have cT₂₀ := upd_self m₁₂ (Str.ofString "told") (.bool (sameF ab ks b c))
        generalize upd m₁₂ (Str.ofString "told") (.bool (sameF ab ks b c)) = m₂₀ at F₂₀ N₂₀ cI₂₀ cF₂₀ cJ₂₀ cT₂₀
        have cellR : ∀ {s' : Shared}, Fm w os₀ b0 base ex L m₂₀ ((it₂, oi₁₁) :: (fd, lst fv nf) :: (it₁, oi₅) :: (le, lst ev ne) :: cells4 L o1 o2' o3 o4) s' → s'.heap.IsCell (L + 1) (some (.ref lr)) := fun F' => ⟨o1, F'.get (a := L + 1) (.tail _ (.tail _ (.tail _ (.tail _ (.head _))))), d1⟩
        have F₂₁ := F₂₀.tok (s₂₀.toks + 1)
        have F₂₂ := F₂₁.tok (s₂₀.toks + 1 + 1)
        refine wpAny_execs_cons (wpAny_If (wpAny_isTrue_Compare1 (rNm F₂₀ cT₂₀ (wpAny_Compare1 (rAbove (R := lr) (i := b) (ti := tb) F₂₀ N₂₀.a (vA.keeps F₂₀.view) hva (vR.keeps F₂₀.view) (vL.keeps F₂₀.view).isList hb1 (by omega) hb2 hb3 hab (fun h => rCell (cellR F₂₀) h) (fun h => rNm F₂₀ cI₂₀ h) fun t₂₁ =>
          rAbove (R := lr) (i := c) (ti := tc) F₂₁ N₂₀.a (vA.keeps F₂₁.view) hva (vR.keeps F₂₁.view) (vL.keeps F₂₁.view).isList hc1 (by omega) hc2 hc3 hab (fun h => rCell (cellR F₂₁) h) (fun h => rNm F₂₁ cJ₂₀ h) fun t₂₂ => PyProof.Rows.eq_int (isnot_bool (wpAny_truthy_bool ?_)))))))
        rw [if_neg (by show ¬ ((sameF ab ks b c != sameF ab ks b c) = true); simp)]
        refine wpAny_execs_nil (wpAny_execs_cons (wpAny_If (wpAny_isTrue_value (rNm F₂₂ cT₂₀ (wpAny_truthy_bool ?_)))))
        cases hsame : sameF ab ks b c with
        | true =>
          rw [if_pos rfl]
          refine wpAny_execs_cons (rAppS F₂₂ cF₂₀ (F₂₂.get (.tail _ (.head _))) (rNm F₂₂ cJ₂₀ (rApp (l1 := [(it₂, oi₁₁)]) F₂₂ (by rw [sizeLine_eq]; omega) fun s₂₃ nf' F₂₃ g₂₃ => ⟨rfl, wpAny_execs_nil (wpAny_execs_nil (wpAny_execs_nil ?_))⟩)))
          refine ⟨n₂ - 1, by omega, j + 1, m₂₀, oi₁₁, _, nf', by omega, F₂₃, ho₁₁, N₂₀, cI₂₀, cF₂₀, ?_⟩
          rw [hff, if_pos (by simp [hbc, hsame]), List.map_append]
          exact IntsAre_append hfv (.cons _ _ .nil)
        | false =>
          rw [if_neg (by decide)]
          refine wpAny_execs_nil (wpAny_execs_nil (wpAny_execs_nil ⟨n₂ - 1, by omega, j + 1, m₂₀, oi₁₁, fv, nf, by omega, F₂₂, ho₁₁, N₂₀, cI₂₀, cF₂₀, ?_⟩))
          rw [hff, if_neg (by simp [hsame]), List.append_nil]
          exact hfv
      · rw [if_neg (by simpa using hbc)]
        refine wpAny_execs_nil (wpAny_execs_nil ⟨n₂ - 1, by omega, j + 1, m₁₂, oi₁₁, fv, nf, by omega, F₁₂, ho₁₁, N₁₂, cI₁₂, cF₁₂, ?_⟩)
        rw [hff, if_neg (by simp [hbc]), List.append_nil]
        exact hfv
end
end Mine

namespace Mine
/-- a list of lists of numbers -/
inductive ListsAre (V : Addr → Option Obj) : List Value → List (List Int) → Prop
  | nil : ListsAre V [] []
  | cons {a : Addr} {vs ws : List Value} {xs : List Int} {xss : List (List Int)} : PL V a vs → IntsAre vs xs → ListsAre V ws xss → ListsAre V (.ref a :: ws) (xs :: xss)
theorem ListsAre.keeps {V V' : Addr → Option Obj} {vs : List Value} {xss : List (List Int)} (h : ListsAre V vs xss) (k : ∀ b o, V b = some o → V' b = some o) : ListsAre V' vs xss := by
  induction h with
  | nil => exact .nil
  | cons e i _ ih => exact .cons (e.keeps k) i ih
theorem ListsAre.append {V : Addr → Option Obj} {vs ws : List Value} {xs ys : List (List Int)} (h : ListsAre V vs xs) (k : ListsAre V ws ys) : ListsAre V (vs ++ ws) (xs ++ ys) := by
  induction h with
  | nil => exact k
  | cons e i _ ih => exact .cons e i ih
theorem ListsAre.length {V : Addr → Option Obj} {vs : List Value} {xs : List (List Int)} (h : ListsAre V vs xs) : vs.length = xs.length := by
  induction h with
  | nil => rfl
  | cons _ _ _ ih => simp [ih]
theorem ListsAre.get {V : Addr → Option Obj} {vs : List Value} {xss : List (List Int)} (h : ListsAre V vs xss) {i : Nat} {v : Value} (hv : vs[i]? = some v) : ∃ a us xs, v = .ref a ∧ xss[i]? = some xs ∧ PL V a us ∧ IntsAre us xs := by
  induction h generalizing i with
  | nil => simp at hv
  | cons e j _ ih =>
    cases i with
    | zero => simp at hv; subst hv; exact ⟨_, _, _, rfl, rfl, e, j⟩
    | succ i => simpa using ih (by simpa using hv)
def wayF (first : List Int) (ends : List Nat) (k n : Nat) : List Int := ((List.range n).filter fun h => decide (ends.getD k 0 ≤ ends.getD h 0)).map fun h => first.getD h 0
theorem wayF_succ (first : List Int) (ends : List Nat) (k n : Nat) : wayF first ends k (n + 1) = wayF first ends k n ++ (if ends.getD k 0 ≤ ends.getD n 0 then [first.getD n 0] else []) := by
  unfold wayF
  rw [List.range_succ, List.filter_append, List.map_append]
  by_cases h : ends.getD k 0 ≤ ends.getD n 0
  · rw [if_pos h, List.filter_cons, if_pos (decide_eq_true h)]; rfl
  · rw [if_neg h, List.filter_cons, if_neg (by simpa using h)]; rfl
theorem wayF_len (first : List Int) (ends : List Nat) (k n : Nat) : (wayF first ends k n).length ≤ n := by
  unfold wayF
  rw [List.length_map]
  exact Nat.le_trans (List.length_filter_le _ _) (by simp)
section
variable {w : World} {A : Around} {os₀ : OsState} {b0 base : Heap} {ex : List Addr} {L : Addr} {m : Str → Option Value} {led l1 l2 : List (Addr × Obj)} {s s₂ : Shared} {env : Env} {E : Value → Shared → Prop}
/-- [first[h] for h in range(k + 1) if ends[h] >= ends[k]] -/
theorem compWay {scope : Scope} {cl : List (Str × Addr)} {p1 p2 p3 p4 p5 p6 p7 p8 p9 q1 q2 : Pos} {I ce cf ck le lf : Addr} {oi : Obj} {ev fv : List Value} {ends : List Nat} {first : List Int} {k : Nat} {tk : Tok} {Q : Addr → List Value → Nat → Addr → Shared → Prop} (hh : A.handled = none)
    (F : Fm w os₀ b0 base ex L m ((I, oi) :: led) s₂) (ho : RIt oi 0 (k + 1)) (hE : PL (vw s₂.heap [I]) le ev) (hev : IntsAre ev (ends.map Int.ofNat)) (hF : PL (vw s₂.heap [I]) lf fv) (hfv : IntsAre fv first)
    (cE : ∃ o, vw s₂.heap [I] ce = some o ∧ o.data = .cell (some (.ref le))) (cF : ∃ o, vw s₂.heap [I] cf = some o ∧ o.data = .cell (some (.ref lf))) (cK : ∃ o, vw s₂.heap [I] ck = some o ∧ o.data = .cell (some (.int k tk)))
    (hk1 : k < ends.length) (hk2 : k < first.length) (hk3 : k ≤ 1000)
    (hQ : ∀ {D ys k' C m' base' ex' s₅}, Fm w os₀ b0 base' ex' C m' [(D, lst ys k')] s₅ → Sub s₂.heap [I] base' ex' → IntsAre ys (wayF first ends k (k + 1)) → Q D ys k' C s₅)
    (le1 : cl.lookup (Str.ofString "ends") = some ce := by rfl) (lf1 : cl.lookup (Str.ofString "first") = some cf := by rfl) (lk1 : cl.lookup (Str.ofString "k") = some ck := by rfl)
    (hk : ∀ C, (compEnvC scope cl C env).scope.kind = .function := by intro _; rfl) (hl : ∀ C, (compEnvC scope cl C env).kindOf (Str.ofString "h") = some .local := by intro _; rfl)
    (re : ∀ C, (compEnvC scope cl C env).kindOf (Str.ofString "ends") = some .cell := by intro _; rfl) (rf : ∀ C, (compEnvC scope cl C env).kindOf (Str.ofString "first") = some .cell := by intro _; rfl) (rk : ∀ C, (compEnvC scope cl C env).kindOf (Str.ofString "k") = some .cell := by intro _; rfl) :
    CompOver w A (.Subscript (.Name (Str.ofString "first") p1) (.Name (Str.ofString "h") p2) p3) (.Name (Str.ofString "h") p4) [.Compare (.Subscript (.Name (Str.ofString "ends") p5) (.Name (Str.ofString "h") p6) p7) [.GtE] [.Subscript (.Name (Str.ofString "ends") p8) (.Name (Str.ofString "k") p9) q1] q2] scope cl env os₀ b0 base ex L m led Q (.ref I) s₂ := by
  have lev : ev.length = ends.length := by rw [hev.length, List.length_map]
  have eat : ∀ j, j < ends.length → ∃ t, ev[j]? = some (.int (ends.getD j 0 : Nat) t) := fun j hj => by
    obtain ⟨t, e⟩ := hev.get j (Int.ofNat ends[j]) (by rw [List.getElem?_map, List.getElem?_eq_getElem hj]; rfl)
    exact ⟨t, by rw [e]; simp [List.getD, hj]⟩
  have fat : ∀ j, j < first.length → ∃ t, fv[j]? = some (.int (first.getD j 0) t) := fun j hj => by
    obtain ⟨t, e⟩ := hfv.get j first[j] (List.getElem?_eq_getElem hj)
    exact ⟨t, by rw [e]; simp [List.getD, hj]⟩
  refine comp_over F (Iter.range hh) ho (by omega) (fun _ i ys => IntsAre ys (wayF first ends k i)) (fun i m' => ∃ t, m' (Str.ofString "h") = some (.int i t)) (fun _ _ _ _ _ h => h) (fun _ i ys h => ?_) .nil ?_ ?_ ?_
  · rw [h.length]; exact wayF_len _ _ _ _
  · rintro i v C m' led' base' ex' s oi' Q' hi ⟨t, rfl⟩ ho' F' S' h
    exact asgN F' (fun s' F'' => h s' _ ⟨t, upd_self _ _ _⟩ F'') (hk C) (hl C)
  · rintro i base' ex' C D m' oi' ys kk s hi F' S' ha ⟨t, hm⟩
    have up : ∀ b o, vw s₂.heap [I] b = some o → s.heap.get? b = some o := fun b o e => F'.view b o (S'.view b o e)
    obtain ⟨oe, e1, e2⟩ := cE
    obtain ⟨of, f1, f2⟩ := cF
    obtain ⟨ok, k1, k2⟩ := cK
    obtain ⟨t1, a1⟩ := eat i (by omega)
    obtain ⟨t2, a2⟩ := eat k hk1
    obtain ⟨t3, a3⟩ := fat i (by omega)
    refine wpAny_tests_one (wpAny_isTrue_Compare1 (Subscript_ (rCell (env := compEnvC scope cl C env) ⟨oe, up _ _ e1, e2⟩ (rNm (env := compEnvC scope cl C env) F' hm (item_listL (hE.keeps up).isList (by omega) (by omega) (by rw [Int.toNat_natCast]; exact a1)
      (Subscript_ (rCell (env := compEnvC scope cl C env) ⟨oe, up _ _ e1, e2⟩ (rCell (env := compEnvC scope cl C env) ⟨ok, up _ _ k1, k2⟩ (item_listL (hE.keeps up).isList (by omega) (by omega) (by rw [Int.toNat_natCast]; exact a2) (ge_int (wpAny_truthy_bool ?_))) lk1 (hk C) (rk C)) le1 (hk C) (re C)))) (hk C) (hl C)) le1 (hk C) (re C))))
    by_cases hb : ends.getD k 0 ≤ ends.getD i 0
    · rw [if_pos (by simp only [decide_eq_true_eq]; omega)]
      refine Subscript_ (rCell (env := compEnvC scope cl C env) ⟨of, up _ _ f1, f2⟩ (rNm (env := compEnvC scope cl C env) F' hm (item_listL (hF.keeps up).isList (by omega) (by omega) (by rw [Int.toNat_natCast]; exact a3) ⟨F', ?_⟩) (hk C) (hl C)) lf1 (hk C) (rf C))
      rw [wayF_succ, if_pos hb]
      exact IntsAre_append ha (.cons _ _ .nil)
    · rw [if_neg (by simp only [decide_eq_true_eq]; omega)]
      refine ⟨F', ?_⟩
      rw [wayF_succ, if_neg hb, List.append_nil]; exact ha
  · intro D ys k' C m' base' ex' s₅ F' S' ha
    exact hQ F' S' ha
end
end Mine

namespace Mine
def waysF (first : List Int) (ends : List Nat) (n : Nat) : List (List Int) := (List.range n).map fun k => wayF first ends k (k + 1)
section
variable {w : World} {A : Around} {os₀ : OsState} {b0 base : Heap} {ex : List Addr} {L : Addr} {m : Str → Option Value} {led l1 l2 : List (Addr × Obj)} {s s₂ : Shared} {env : Env} {E : Value → Shared → Prop}
theorem law4 {fa : Addr} {cd : Value} {la lr bl cl le : Addr} {rv bv cv ev : List Value} {ends : List Nat} {ks : List (List Nat × Int)} {bs cs : List Nat} {o1 o2 o3 o4 : Obj} {Q : Flow → Shared → Prop} (hh : A.handled = none)
    (F : Fm w os₀ b0 base ex L m (cells4 L o1 o2 o3 o4) s) (d1 : o1.data = .cell (some (.ref lr))) (d2 : o2.data = .cell (some (.ref le))) (d3 : o3.data = .cell none) (d4 : o4.data = .cell none) (N : Nm3 m la bl cl) (vL : PL (vw base ex) lr rv) (vR : RowIs (vw base ex) rv ks)
    (vB : PL (vw base ex) bl bv) (hbv : IntsAre bv (bs.map Int.ofNat)) (vC : PL (vw base ex) cl cv) (hcv : IntsAre cv (cs.map Int.ofNat)) (vE : PL (vw base ex) le ev) (hev : IntsAre ev (ends.map Int.ofNat))
    (hbig : ks.length ≤ 100) (hbb : bs.length ≤ 100) (hcb : cs.length ≤ 100) (hbin : ∀ b ∈ bs, b < ks.length) (hcin : ∀ b ∈ cs, b < ks.length) (hel : ends.length = bs.length)
    (h : ∀ base' ex' m' lf fv lz zv lw wv o3' o4' tk s', Fm w os₀ b0 base' ex' L m' (cells4 L o1 o2 o3' o4') s' → o3'.data = .cell (some (.ref lf)) → o4'.data = .cell tk → (∀ b o, vw base ex b = some o → vw base' ex' b = some o) → PL (vw base' ex') lf fv → IntsAre fv (bs.map (nodeF ks)) →
      m' (Str.ofString "last") = some (.ref lz) → PL (vw base' ex') lz zv → IntsAre zv (cs.map (nodeF ks)) → m' (Str.ofString "ways") = some (.ref lw) → PL (vw base' ex') lw wv → ListsAre (vw base' ex') wv (waysF (bs.map (nodeF ks)) ends bs.length) →
      wpAny (model PR w) A (execs (lRest w.params 13) (lEnv w.params L fa cd)) Q NE s') :
    wpAny (model PR w) A (execs (lRest w.params 9) (lEnv w.params L fa cd)) Q NE s := by
  have lbv : bv.length = bs.length := by rw [hbv.length, List.length_map]
  refine wpAny_execs_cons (wpAny_Assign_Name (rComp (cl := [(Str.ofString "row", L + 1)]) (os₀ := os₀) (b0 := b0) (base := base) (ex := ex) (L := L) (m := m) (led := cells4 L o1 o2 o3 o4) (rNm F N.b (rIterL F (vB.keeps F.view).isList fun it oi s₁ F₁ ho g₁ =>
    compNode hh F₁ ho (vR.keeps F₁.upI) (vL.keeps F₁.upI) (vB.keeps F₁.upI) hbv ⟨o1, F₁.memView (.head _), d1⟩ (by omega) (by omega) hbin ?_))))
  intro lf fv kf C' m' base' ex' s₅' F' S' hfv s₂ F₂ _ _
  clear F' S'
  refine rCellSt (l1 := [(lf, lst fv kf), (L + 1, o1), (L + 2, o2)]) F₂ d3 fun s₃ o3' F₃ d3' g₃ => ?_
  replace F₃ : Fm w os₀ b0 base ex L m ((lf, lst fv kf) :: cells4 L o1 o2 o3' o4) s₃ := F₃
  have F₄ := F₃.tail.rebase
  have up₄ := F₃.tail.viewUp
  have vF₄ : PL (vw s₃.heap (L :: (cells4 L o1 o2 o3' o4).map (·.1))) lf fv := ⟨kf, F₃.ledView⟩
  generalize hB : s₃.heap = B₄ at F₄ up₄ vF₄
  generalize hX : L :: (cells4 L o1 o2 o3' o4).map (·.1) = X₄ at F₄ up₄ vF₄
  clear hB hX
  replace hfv : IntsAre fv (bs.map (nodeF ks)) := hfv
  refine wpAny_execs_cons (rCompSt (cl := [(Str.ofString "row", L + 1)]) (os₀ := os₀) (b0 := b0) (base := B₄) (ex := X₄) (m := m) (led := cells4 L o1 o2 o3' o4) (rNm F₄ N.c (rIterL F₄ ((vC.keeps up₄).keeps F₄.view).isList fun it oi s₅ F₅ ho g₅ =>
    compNode hh F₅ ho ((vR.keeps up₄).keeps F₅.upI) ((vL.keeps up₄).keeps F₅.upI) ((vC.keeps up₄).keeps F₅.upI) hcv ⟨o1, F₅.memView (.head _), d1⟩ (by omega) (by omega) hcin ?_)))
  intro lz zv kz C' m' base' ex' s₅' F' S' hzv s₆ F₆ _ _
  clear F' S'
  replace F₆ : Fm w os₀ b0 B₄ X₄ L (upd m (Str.ofString "last") (.ref lz)) ((lz, lst zv kz) :: cells4 L o1 o2 o3' o4) s₆ := F₆
  replace hzv : IntsAre zv (cs.map (nodeF ks)) := hzv
  have F₇ := F₆.tail.rebase
  have up₇ : ∀ b o, vw base ex b = some o → _ := fun b o e => F₆.tail.viewUp b o (up₄ b o e)
  have vF₇ := vF₄.keeps F₆.tail.viewUp
  have vZ₇ : PL (vw s₆.heap (L :: (cells4 L o1 o2 o3' o4).map (·.1))) lz zv := ⟨kz, F₆.ledView⟩
  have N₇ := N.upd (Str.ofString "last") (.ref lz) (by decide) (by decide) (by decide)
  have cZ₇ := upd_self m (Str.ofString "last") (.ref lz)
  generalize upd m (Str.ofString "last") (.ref lz) = m₇ at F₇ N₇ cZ₇
  generalize hB : s₆.heap = B₇ at F₇ up₇ vF₇ vZ₇
  generalize hX : L :: (cells4 L o1 o2 o3' o4).map (·.1) = X₇ at F₇ up₇ vF₇ vZ₇
  clear hB hX
  refine wpAny_execs_cons (wpAny_Assign_Name (List_ (wpAny_items_nil (wpAny_newList ?_))))
  have F₈ := F₇.push (lst [] 0) rfl
  generalize s₆.heap.objs.size = lw at F₈
  refine rSt F₈ fun s₉ F₉ g₉ => ?_
  have N₉ := N₇.upd (Str.ofString "ways") (.ref lw) (by decide) (by decide) (by decide)
  have cZ₉ := (upd_ne (m := m₇) (x := Str.ofString "ways") (y := Str.ofString "last") (v := .ref lw) (by decide)).trans cZ₇
  have cW₉ := upd_self m₇ (Str.ofString "ways") (.ref lw)
  generalize upd m₇ (Str.ofString "ways") (.ref lw) = m₉ at F₉ N₉ cZ₉ cW₉
  refine wpAny_execs_cons (wpAny_mono (Q := fun fl s' => fl = .next ∧ ∃ base' ex' o4' tk wv nw, Fm w os₀ b0 base' ex' L m₉ ((lw, lst wv nw) :: cells4 L o1 o2 o3' o4') s' ∧ o4'.data = .cell tk ∧ (∀ b o, vw B₇ X₇ b = some o → vw base' ex' b = some o) ∧ ListsAre (vw base' ex') wv (waysF (bs.map (nodeF ks)) ends bs.length))
    (rFor (rIterR F₉ (rB1 F₉ (id := "len") rfl rfl (rNm F₉ N₉.b (rLenL F₉ ((vB.keeps up₇).keeps F₉.view).isList (by omega) fun t₁₀ s₁₀ F₁₀ g₁₀ => ⟨bv.length, t₁₀, rfl, by omega, F₁₀, fun it oi s₁₁ F₁₁ ho g₁₁ => ?_⟩))))) ?_ fun _ _ q => q)
  rotate_left
  · rintro fl s₁₀ ⟨rfl, base', ex', o4', tk, wv, nw, F₁₀, d4', up, hwv⟩
    exact h _ _ m₉ lf fv lz zv lw wv o3' o4' tk s₁₀ F₁₀.tail.rebase d3' d4' (fun b o e => F₁₀.tail.viewUp b o (up b o (up₇ b o e))) ((vF₇.keeps up).keeps F₁₀.tail.viewUp) hfv cZ₉ ((vZ₇.keeps up).keeps F₁₀.tail.viewUp) hzv cW₉ ⟨nw, F₁₀.ledView⟩ (hwv.keeps F₁₀.tail.viewUp)
  rw [lbv] at ho
  have IT : ∀ (B : Heap) (X : List Addr), Iter w A os₀ b0 B X it bs.length (fun i o => RIt o i bs.length) (fun i v => ∃ t, v = .int i t) := fun B X => Iter.range hh
  refine ⟨fun n s' => ∃ i base' ex' oi o4' tk wv nw, n + i = bs.length ∧ Fm w os₀ b0 base' ex' L m₉ ((it, oi) :: (lw, lst wv nw) :: cells4 L o1 o2 o3' o4') s' ∧ RIt oi i bs.length ∧ o4'.data = .cell tk ∧ (∀ b o, vw B₇ X₇ b = some o → vw base' ex' b = some o) ∧ ListsAre (vw base' ex') wv (waysF (bs.map (nodeF ks)) ends i),
    bs.length, ⟨0, _, _, oi, o4, none, [], 0, rfl, F₁₁, ho, d4, fun b o e => e, .nil⟩, ?_⟩
  rintro n s₁₂ ⟨i, B₁₂, X₁₂, oi₁₂, o4', tk, wv, nw, hni, F₁₂, ho₁₂, d4', up₁₂, hwv⟩
  by_cases hi : i = bs.length
  · subst hi
    exact (IT _ _).stop ho₁₂ (Sub.refl _ _) F₁₂ fun s₁₃ F₁₃ g₁₃ => wpAny_execs_nil ⟨rfl, B₁₂, X₁₂, o4', tk, wv, nw, F₁₃, d4', up₁₂, hwv⟩
  · have hi' : i < bs.length := by omega
    refine (IT _ _).next hi' ho₁₂ (Sub.refl _ _) F₁₂ fun s₁₃ v oi₁₃ ho₁₃ he F₁₃ g₁₃ => ?_
    obtain ⟨t₁₃, rfl⟩ := he
    show wpAny _ _ (pure ()) _ _ _
    refine wpAny_pure (wpAny_assign_Name (rCellSt (l1 := [(it, oi₁₃), (lw, lst wv nw), (L + 1, o1), (L + 2, o2), (L + 3, o3')]) F₁₃ d4' fun s₁₄ o4'' F₁₄ d4'' g₁₄ => ?_))
    replace F₁₄ : Fm w os₀ b0 B₁₂ X₁₂ L m₉ ((it, oi₁₃) :: (lw, lst wv nw) :: cells4 L o1 o2 o3' o4'') s₁₄ := F₁₄
    have lwv : wv.length = i := by rw [hwv.length]; simp [waysF]
    have vE₁₂ := (vE.keeps up₇).keeps up₁₂
    have vF₁₂ := vF₇.keeps up₁₂
    refine wpAny_execs_cons (rAppS F₁₄ cW₉ (F₁₄.get (.tail _ (.head _))) (rComp (cl := [(Str.ofString "k", L + 4), (Str.ofString "first", L + 3), (Str.ofString "ends", L + 2)]) (os₀ := os₀) (b0 := b0) (base := B₁₂) (ex := X₁₂) (L := L) (m := m₉) (led := (it, oi₁₃) :: (lw, lst wv nw) :: cells4 L o1 o2 o3' o4'')
      (rIterR F₁₄ (wpAny_BinOp (rCell ⟨o4'', F₁₄.get (a := L + 4) (.tail _ (.tail _ (.tail _ (.tail _ (.tail _ (.head _)))))), d4''⟩ (rInt F₁₄ fun t₁₅ s₁₅ F₁₅ g₁₅ => PyProof.Rows.add_int ⟨i + 1, s₁₅.toks, rfl, by omega, F₁₅.tok _, fun it₂ oi₂ s₁₆ F₁₆ ho₁₆ g₁₆ =>
        compWay (k := i) (tk := t₁₃) hh F₁₆ ho₁₆ (vE₁₂.keeps F₁₆.upI) hev (vF₁₂.keeps F₁₆.upI) hfv ⟨o2, F₁₆.memView (a := L + 2) (.tail _ (.tail _ (.tail _ (.head _)))), d2⟩ ⟨o3', F₁₆.memView (a := L + 3) (.tail _ (.tail _ (.tail _ (.tail _ (.head _))))), d3'⟩ ⟨o4'', F₁₆.memView (a := L + 4) (.tail _ (.tail _ (.tail _ (.tail _ (.tail _ (.head _)))))), d4''⟩
          (by omega) (by rw [List.length_map]; omega) (by omega) ?_⟩))))))
    intro D ys kD C' m' base' ex' s₅' F' S' hys s₁₇ F₁₇ _ _
    clear F' S'
    have vD : PL (vw s₁₇.heap (L :: ((it, oi₁₃) :: (lw, lst wv nw) :: cells4 L o1 o2 o3' o4'').map (·.1))) D ys := ⟨kD, F₁₇.ledView⟩
    refine rApp (l1 := [(it, oi₁₃)]) F₁₇.tail.rebase (by rw [sizeLine_eq]; omega) fun s₁₈ nw' F₁₈ g₁₈ => ⟨rfl, wpAny_execs_nil ?_⟩
    refine ⟨n - 1, by omega, i + 1, _, _, oi₁₃, o4'', _, _, nw', by omega, F₁₈, ho₁₃, d4'', fun b o e => F₁₇.tail.viewUp b o (up₁₂ b o e), ?_⟩
    have e : waysF (bs.map (nodeF ks)) ends (i + 1) = waysF (bs.map (nodeF ks)) ends i ++ [wayF (bs.map (nodeF ks)) ends i (i + 1)] := by
      unfold waysF; rw [List.range_succ, List.map_append]; rfl
    rw [e]
    exact (hwv.keeps F₁₇.tail.viewUp).append (.cons vD hys .nil)
end
end Mine

namespace Mine
section
variable {w : World} {A : Around} {os₀ : OsState} {b0 base : Heap} {ex : List Addr} {L : Addr} {m : Str → Option Value} {led l1 l2 : List (Addr × Obj)} {s s₂ : Shared} {env : Env} {E : Value → Shared → Prop}
/-- new lists, all apart -/
structure NewSqs (V : Addr → Option Obj) (e : Heap) (qs : List Sq) (xss : List (List Int)) : Prop where
  at_ : ∀ q ∈ qs, V q.a = some (lst q.vs q.n) ∧ IntsAre q.vs q.xs ∧ e.get? q.a = none
  nodup : (qs.map (·.a)).Nodup
  xs : qs.map (·.xs) = xss
theorem compLists {scope : Scope} {cl : List (Str × Addr)} {x : Str} {elt : Expr} {px : Pos} {I lw : Addr} {oi : Obj} {wv : List Value} {xss : List (List Int)} (g : List Int → List Int) {Q : Addr → List Value → Nat → Addr → Shared → Prop} (hh : A.handled = none)
    (F : Fm w os₀ b0 base ex L m ((I, oi) :: led) s₂) (ho : LIt oi lw 0) (hW : PL (vw s₂.heap [I]) lw wv) (hwv : ListsAre (vw s₂.heap [I]) wv xss) (hn : wv.length ≤ 1000)
    (helt : ∀ {C m' led' s base' ex' a us xs} {Q : Value → Shared → Prop}, Fm w os₀ b0 base' ex' C m' led' s → m' x = some (.ref a) → PL s.heap.get? a us → IntsAre us xs → xs ∈ xss → (∀ b vs n s', Fm w os₀ b0 base' ex' C m' ((b, lst vs n) :: led') s' → IntsAre vs (g xs) → Q (.ref b) s') → wpAny (model PR w) A (eval elt (compEnvC scope cl C env)) Q NE s)
    (hQ : ∀ {D ys k C m' base' ex' s₅ qs}, Fm w os₀ b0 base' ex' C m' [(D, lst ys k)] s₅ → Sub s₂.heap [I] base' ex' → ys = qs.map (fun q : Sq => Value.ref q.a) → NewSqs (vw base' ex') s₂.heap qs (xss.map g) → Q D ys k C s₅)
    (hk : ∀ C, (compEnvC scope cl C env).scope.kind = .function := by intro _; rfl) (hl : ∀ C, (compEnvC scope cl C env).kindOf x = some .local := by intro _; rfl) :
    CompOver w A elt (.Name x px) [] scope cl env os₀ b0 base ex L m led Q (.ref I) s₂ := by
  have hlen : wv.length = xss.length := hwv.length
  refine comp_over F (Iter.list hh hW) ho (by omega) (fun V i ys => ∃ qs : List Sq, ys = qs.map (fun q : Sq => Value.ref q.a) ∧ NewSqs V s₂.heap qs ((xss.take i).map g)) (fun i m' => ∃ a us xs, xss[i]? = some xs ∧ m' x = some (.ref a) ∧ PL (vw s₂.heap [I]) a us ∧ IntsAre us xs) ?_ ?_ ⟨[], rfl, ⟨fun q hq => (List.not_mem_nil hq).elim, List.nodup_nil, rfl⟩⟩ ?_ ?_ ?_
  · rintro V V' i ys hV ⟨qs, e1, e2⟩
    exact ⟨qs, e1, fun q hq => ⟨hV _ _ _ _ rfl (e2.at_ q hq).1, (e2.at_ q hq).2⟩, e2.nodup, e2.xs⟩
  · rintro V i ys ⟨qs, rfl, e2⟩
    have := congrArg List.length e2.xs
    simp only [List.length_map, List.length_take] at this ⊢
    omega
  · rintro i v C m' led' base' ex' s oi' Q' hi he ho' F' S' h
    obtain ⟨a, us, xs, rfl, h1, h2, h3⟩ := hwv.get he
    exact asgN F' (fun s' F'' => h s' _ ⟨a, us, xs, h1, upd_self _ _ _, h2, h3⟩ F'') (hk C) (hl C)
  · rintro i base' ex' C D m' oi' ys k s hi F' S' ⟨qs, rfl, hnew⟩ ⟨a, us, xs, h1, hm, h2, h3⟩
    refine wpAny_tests_nil ?_
    rw [if_pos rfl]
    refine helt F' hm ((h2.keeps S'.view).keeps F'.view) h3 (List.mem_of_getElem? h1) fun b vs n s' F'' hb => ⟨F''.tail, qs ++ [⟨b, vs, n, g xs⟩], by simp, ?_⟩
    have hbv : vw s'.heap [C, I, D] b = some (lst vs n) := F''.ledView
    have hb0 : vw base' ex' b = none := by
      cases e : vw base' ex' b with
      | none => rfl
      | some o => exact absurd (F''.notL e) (fun hx => hx (.tail _ (.head _)))
    have hb2 : s₂.heap.get? b = none := by
      cases e : s₂.heap.get? b with
      | none => rfl
      | some o =>
        have hbI : b ∉ [I] := fun hm => by
          rw [List.mem_singleton] at hm
          have := (vw_some.mp hbv).2
          exact this (by rw [hm]; simp)
        have := vw_some.mpr (S' b o e hbI)
        rw [hb0] at this; cases this
    refine ⟨fun q hq => ?_, ?_, ?_⟩
    · rcases List.mem_append.mp hq with hq | hq
      · exact ⟨F''.tail.viewUp _ _ (hnew.at_ q hq).1, (hnew.at_ q hq).2⟩
      · rw [List.mem_singleton.mp hq]; exact ⟨hbv, hb, hb2⟩
    · rw [List.map_append, List.nodup_append]
      refine ⟨hnew.nodup, by simp, fun c hc d hd e => ?_⟩
      have : d = b := by simpa using hd
      obtain ⟨q, hq, rfl⟩ := List.mem_map.mp hc
      have h5 := (hnew.at_ q hq).1
      rw [show q.a = b from e.trans this, hb0] at h5
      cases h5
    · rw [List.map_append, hnew.xs, List.take_add_one, h1, List.map_append]; rfl
  · rintro D ys k C m' base' ex' s₅ F' S' ⟨qs, e1, e2⟩
    rw [hlen, List.take_length] at e2
    exact hQ F' S' e1 e2
/-- new objects into the ledger -/
theorem Fm.adopt {I : Addr} {oi : Obj} {qs : List Sq} {s' : Shared} (F₂ : Fm w os₀ b0 base ex L m ((I, oi) :: led) s₂) {D : Addr} {oD : Obj} {m' : Str → Option Value} (F : Fm w os₀ b0 base ex L m' ((D, oD) :: led) s') (h1 : ∀ q ∈ qs, s'.heap.get? q.a = some (lst q.vs q.n)) (h2 : ∀ q ∈ qs, s₂.heap.get? q.a = none) (h3 : ∀ q ∈ qs, q.a ≠ D) (nd : (qs.map (·.a)).Nodup) :
    Fm w os₀ b0 base ex L m' (((D, oD) :: led) ++ qs.map Sq.ent) s' := by
  have em : (qs.map Sq.ent).map (·.1) = qs.map (·.a) := by rw [List.map_map]; rfl
  have notOld : ∀ a ∈ qs.map (·.a), a ∉ L :: ((D, oD) :: led).map (·.1) := fun a ha hm => by
    obtain ⟨q, hq, rfl⟩ := List.mem_map.mp ha
    rcases List.mem_cons.mp hm with e | hm
    · obtain ⟨o, _, _, eo, _⟩ := F₂.ns
      rw [← e, h2 q hq] at eo; cases eo
    · rcases List.mem_cons.mp hm with e | hm
      · exact h3 q hq e
      · obtain ⟨p, hp, e⟩ := List.mem_map.mp hm
        have := F₂.own p (.tail _ hp)
        rw [e, h2 q hq] at this; cases this
  refine ⟨F.top, F.keep0, F.keep, fun a ha => ?_, fun a ha => ?_, F.ns, fun p hp => ?_, ?_, F.os, F.bare⟩
  · rw [List.map_append, em, ← List.cons_append] at ha
    rcases List.mem_append.mp ha with ha | ha
    · exact F.sep0 a ha
    · obtain ⟨q, hq, rfl⟩ := List.mem_map.mp ha
      cases e : b0.get? q.a with
      | none => rfl
      | some o => have := F₂.keep0 _ _ e; rw [h2 q hq] at this; cases this
  · rw [List.map_append, em, ← List.cons_append] at ha
    rcases List.mem_append.mp ha with ha | ha
    · exact F.sep a ha
    · obtain ⟨q, hq, rfl⟩ := List.mem_map.mp ha
      cases e : base.get? q.a with
      | none => exact .inl rfl
      | some o =>
        by_cases hx : q.a ∈ ex
        · exact .inr hx
        · have := F₂.keep _ _ e hx; rw [h2 q hq] at this; cases this
  · rcases List.mem_append.mp hp with hp | hp
    · exact F.own p hp
    · obtain ⟨q, hq, rfl⟩ := List.mem_map.mp hp
      exact h1 q hq
  · rw [List.map_append, em, ← List.cons_append, List.nodup_append]
    exact ⟨F.nodup, nd, fun a ha b hb e => notOld b hb (e ▸ ha)⟩
/-- list(way) -/
theorem rCopy {a : Addr} {us : List Value} {Q : Value → Shared → Prop} (F : Fm w os₀ b0 base ex L m led s) (hl : PL s.heap.get? a us) (hn : us.length ≤ 1000)
    (h : ∀ b n s', Fm w os₀ b0 base ex L m ((b, lst us n) :: led) s' → Q (.ref b) s') : wpAny (model PR w) A (call (.type "list") [.ref a]) Q E s := by
  obtain ⟨n, e⟩ := hl
  refine call_list_seq (items := us.toArray) (n := n) a (.inl rfl) e rfl rfl (fun h' c' hk hg => ?_) (by rw [sizeLine_eq]; simp only [List.size_toArray]; omega)
  refine h _ c' _ ?_
  have hb : ∀ {b : Addr} {o : Obj}, s.heap.get? b = some o → b ≠ s.heap.objs.size := fun e => Nat.ne_of_lt (Heap.lt_size e)
  have G : Fm w os₀ b0 base ex L m led { s with heap := h' } := F.ext ⟨hk, rfl, fun x => x⟩
  refine ⟨G.top, G.keep0, G.keep, fun a ha => ?_, fun a ha => ?_, G.ns, fun p hp => ?_, ?_, G.os, G.bare⟩
  · rcases List.mem_cons.mp ha with rfl | ha
    · exact G.sep0 _ (.head _)
    · rcases List.mem_cons.mp ha with rfl | ha
      · exact F.new0
      · exact G.sep0 _ (.tail _ ha)
  · rcases List.mem_cons.mp ha with rfl | ha
    · exact G.sep _ (.head _)
    · rcases List.mem_cons.mp ha with rfl | ha
      · exact F.newB
      · exact G.sep _ (.tail _ ha)
  · rcases List.mem_cons.mp hp with rfl | hp
    · exact hg
    · exact G.own p hp
  · have nd := F.nodup
    have nL := F.newL
    rw [List.map_cons, List.nodup_cons, List.nodup_cons]
    rw [List.nodup_cons] at nd
    refine ⟨fun hm => ?_, fun hm => nL (.tail _ hm), nd.2⟩
    rcases List.mem_cons.mp hm with e | hm
    · exact nL (by rw [show s.heap.objs.size = L from e.symm]; exact .head _)
    · exact nd.1 hm
/-- way[::-1] -/
theorem rRev {value : Expr} {p p1 p2 pos : Pos} {k : Nat} {a : Addr} {us : List Value} {xs : List Int} {Q : Value → Shared → Prop} (F : Fm w os₀ b0 base ex L m led s) (hl : PL s.heap.get? a us) (hi : IntsAre us xs) (hn : us.length ≤ 1000)
    (hv : ∀ {Q : Value → Shared → Prop}, Q (.ref a) s → wpAny (model PR w) A (eval value env) Q E s)
    (h : ∀ b vs s', Fm w os₀ b0 base ex L m ((b, lst vs 0) :: led) s' → IntsAre vs xs.reverse → Q (.ref b) s')
    (hs : ∀ i, ∃ ops, subscripted (.Slice none none (some (.UnaryOp .USub (.Constant (.int 1) k p1) p2)) p) false (.ref a) (.ref i) = operate ops (getItem (.ref a) (.ref i)) := by intro _; exact ⟨_, by with_unfolding_all rfl⟩) :
    wpAny (model PR w) A (eval (.Subscript value (.Slice none none (some (.UnaryOp .USub (.Constant (.int 1) k p1) p2)) p) pos) env) Q E s := by
  refine Subscript_ (hv (wpAny_Slice (evalPart_none_step (evalPart_none_step (evalPart_some_step (wpAny_UnaryOp (wpAny_Constant_int (PyProof.Rows.neg_int ?_))))))))
  obtain ⟨n, e⟩ := hl
  have F₁ := (F.tok (s.toks + 1)).tok (s.toks + 1 + 1)
  have F₂ := F₁.ext (Ext.push _ { cls := .type "slice", data := .fields #[.none, .none, .int (-1) (s.toks + 1)] })
  have hl' : (s.heap.push { cls := .type "slice", data := .fields #[.none, .none, .int (-1) (s.toks + 1)] }).IsList a us.toArray := ⟨_, Heap.get?_push_of_some _ e, rfl, n, rfl⟩
  obtain ⟨ops, hs'⟩ := hs s.heap.objs.size
  refine tail_any (T := "list") (ops := ops) hl'.typeIs PySem.slot_list_getitem.lookup (wpAny_getItem_list_slice hl' (Heap.IsSliceOf.new ..) IsPart.none IsPart.none (IsPart.int _ _) (by decide) ?_ (by rw [sizeLine_eq]; simp only [List.size_toArray]; omega)) hs'
  rw [show (slicePick us.toArray none none (some (-1))) = us.reverse.toArray by rw [krv_pick]]
  refine h _ us.reverse _ (F₂.push (lst us.reverse 0) rfl) (PyProof.Rows.IntsAre.reverse hi)
end
end Mine

namespace Mine
section
variable {w : World} {A : Around} {os₀ : OsState} {b0 base : Heap} {ex : List Addr} {L : Addr} {m : Str → Option Value} {led l1 l2 : List (Addr × Obj)} {s s₂ : Shared} {env : Env} {E : Value → Shared → Prop}
theorem c3_after {I : Addr} {oi : Obj} {qs : List Sq} {xss : List (List Int)} {r : List Int} {f : Nat} {D : Addr} {ys : List Value} {k : Nat} {C : Addr} {m' : Str → Option Value} {base' : Heap} {ex' : List Addr} {s₅ s' : Shared} {Q : Value → Shared → Prop} (hh : A.handled = none) (hroom : A.depth < recursionLimit)
    (F₂ : Fm w os₀ b0 base ex L m ((I, oi) :: led) s₂) (F' : Fm w os₀ b0 base' ex' C m' [(D, lst ys k)] s₅) (hys : ys = qs.map (fun q : Sq => Value.ref q.a)) (hnew : NewSqs (vw base' ex') s₂.heap qs xss)
    (Fo : Fm w os₀ b0 base ex L m ((D, lst ys k) :: led) s') (hk : ∀ b o, b ≠ C → s₅.heap.get? b = some o → s'.heap.get? b = some o) (hn : xss.length ≤ 1000) (hshort : ∀ x ∈ xss, x.length ≤ 1000) (hc : c3F f xss = some r) (hr : r.length ≤ 1000)
    (hQ : ∀ R rs s'', Fm w os₀ b0 base ex L m led s'' → PL s''.heap.get? R rs → IntsAre rs r → Q (.ref R) s'') : TopOk w s'.heap ∧ wpAny (model PR w) A (call (.ref 49) [.ref D]) Q E s' := by
  have h1 : ∀ q ∈ qs, s'.heap.get? q.a = some (lst q.vs q.n) := fun q hq => hk _ _ (fun e => F'.notL (hnew.at_ q hq).1 (by rw [e]; exact .head _)) (F'.view _ _ (hnew.at_ q hq).1)
  have h3 : ∀ q ∈ qs, q.a ≠ D := fun q hq e => F'.notL (hnew.at_ q hq).1 (by rw [e]; exact .tail _ (.head _))
  have G := F₂.adopt Fo h1 (fun q hq => (hnew.at_ q hq).2.2) h3 hnew.nodup
  have lq : qs.length = xss.length := by rw [← hnew.xs, List.length_map]
  refine ⟨Fo.topNow, c3_spec hh hroom G (fun q hq => ⟨(hnew.at_ q hq).2.1, hshort _ ?_⟩) (by omega) ⟨k, ?_⟩ (fun hm => ?_) (by rw [hnew.xs]; exact hc) hr fun R rs s'' F'' _ hR hrs => hQ R rs s'' F''.tail hR hrs⟩
  · rw [← hnew.xs]; exact List.mem_map.mpr ⟨q, hq, rfl⟩
  · rw [← hys]; exact Fo.get (.head _)
  · obtain ⟨p, hp, e⟩ := List.mem_map.mp hm
    obtain ⟨q, hq, rfl⟩ := List.mem_map.mp hp
    exact h3 q hq e
theorem law5 {fa : Addr} {cd : Value} {lf lz lw : Addr} {fv zv wv : List Value} {first last : List Int} {ways : List (List Int)} {f : Nat} {o1 o2 o3 o4 : Obj} {Q : Flow → Shared → Prop} (hh : A.handled = none) (hroom : A.depth < recursionLimit) (hu : A.units + 64 < cLine)
    (F : Fm w os₀ b0 base ex L m (cells4 L o1 o2 o3 o4) s) (d3 : o3.data = .cell (some (.ref lf))) (vF : PL (vw base ex) lf fv) (hfv : IntsAre fv first) (cZ : m (Str.ofString "last") = some (.ref lz)) (vZ : PL (vw base ex) lz zv) (hzv : IntsAre zv last)
    (cW : m (Str.ofString "ways") = some (.ref lw)) (vW : PL (vw base ex) lw wv) (hwv : ListsAre (vw base ex) wv ways) (hn : ways.length ≤ 1000) (hshort : ∀ x ∈ ways, x.length ≤ 1000) (hc1 : c3F f ways = some first) (hc2 : c3F f (ways.map List.reverse) = some last) (hl1 : first.length ≤ 1000) (hl2 : last.length ≤ 1000)
    (h : ∀ s', Fm w os₀ b0 base ex L m (cells4 L o1 o2 o3 o4) s' → wpAny (model PR w) A (execs (lRest w.params 15) (lEnv w.params L fa cd)) Q NE s') :
    wpAny (model PR w) A (execs (lRest w.params 13) (lEnv w.params L fa cd)) Q NE s := by
  have lwv : wv.length = ways.length := hwv.length
  refine wpAny_execs_cons (wpAny_If (wpAny_isTrue_Compare1 (rFn1 F (a := 49) rfl rfl (rComp (cl := []) (os₀ := os₀) (b0 := b0) (base := base) (ex := ex) (L := L) (m := m) (led := cells4 L o1 o2 o3 o4) (rNm F cW (rIterL F (vW.keeps F.view).isList fun it oi s₁ F₁ ho g₁ =>
    compLists (fun x => x) hh F₁ ho (vW.keeps F₁.upI) (hwv.keeps F₁.upI) (by omega) (fun {C m' led' s' base' ex' a us xs Q} F' hm hl hi hin hq => rT1 (env := compEnvC _ _ C (lEnv w.params L fa cd)) F' rfl rfl (rNm (env := compEnvC _ _ C (lEnv w.params L fa cd)) F' hm (rCopy F' hl (by rw [hi.length]; exact hshort _ hin) fun b n s'' F'' => hq b us n s'' F'' hi))) ?_))))))
  intro D ys k C m' base' ex' s₅ qs F' S' hys hnew s' Fo hk _
  rw [List.map_id'] at hnew
  refine c3_after hh hroom F₁ F' hys hnew Fo hk hn hshort hc1 hl1 fun R rs s₂ F₂ hR hrs => ?_
  refine rCell ⟨o3, F₂.get (a := L + 3) (.tail _ (.tail _ (.head _))), d3⟩ (ke_ne_ints hR.isList (vF.keeps F₂.view).isList hrs hfv hu (wpAny_truthy_bool ?_))
  rw [if_neg (by simp)]
  refine wpAny_execs_nil ?_
  clear F' S' hys hnew Fo hk hR hrs
  refine wpAny_execs_cons (wpAny_If (wpAny_isTrue_Compare1 (rFn1 F₂ (a := 49) rfl rfl (rComp (cl := []) (os₀ := os₀) (b0 := b0) (base := base) (ex := ex) (L := L) (m := m) (led := cells4 L o1 o2 o3 o4) (rNm F₂ cW (rIterL F₂ (vW.keeps F₂.view).isList fun it oi s₁ F₁ ho g₁ =>
    compLists List.reverse hh F₁ ho (vW.keeps F₁.upI) (hwv.keeps F₁.upI) (by omega) (fun {C m' led' s' base' ex' a us xs Q} F' hm hl hi hin hq => rRev (env := compEnvC _ _ C (lEnv w.params L fa cd)) F' hl hi (by rw [hi.length]; exact hshort _ hin) (fun h => rNm (env := compEnvC _ _ C (lEnv w.params L fa cd)) F' hm h) fun b vs s'' F'' hb => hq b vs 0 s'' F'' hb) ?_))))))
  intro D ys k C m' base' ex' s₅ qs F' S' hys hnew s' Fo hk _
  refine c3_after hh hroom F₁ F' hys hnew Fo hk (by rw [List.length_map]; exact hn) (fun x hx => ?_) hc2 hl2 fun R rs s₃ F₃ hR hrs => ?_
  · obtain ⟨y, hy, rfl⟩ := List.mem_map.mp hx
    rw [List.length_reverse]; exact hshort y hy
  refine rNm F₃ cZ (ke_ne_ints hR.isList (vZ.keeps F₃.view).isList hrs hzv hu (wpAny_truthy_bool ?_))
  rw [if_neg (by simp)]
  exact wpAny_execs_nil (h s₃ F₃)
end
end Mine

namespace Mine
section
variable {w : World} {A : Around} {os₀ : OsState} {b0 base : Heap} {ex : List Addr} {L : Addr} {m : Str → Option Value} {led l1 l2 : List (Addr × Obj)} {s s₂ : Shared} {env : Env} {E : Value → Shared → Prop}
/-- [sign for place, sign in _iter_escaped_chars(left)] -/
theorem compSign {scope : Scope} {cl : List (Str × Addr)} {x y : Str} {p1 p2 p3 p4 : Pos} {kt : Nat} {ga : Addr} {gl : List (Addr × Obj)} {items : List Item} {Q : Addr → List Value → Nat → Addr → Shared → Prop} (hh : A.handled = none) (hroom : A.depth < recursionLimit)
    (F : Fm w os₀ b0 base ex L m (led ++ gl) s₂) (G : GenIt w A os₀ b0 ga items gl s₂) (hn : items.length ≤ 10000)
    (hQ : ∀ {D ys k C m' s₅}, Fm w os₀ b0 s₂.heap (gl.map (·.1)) C m' [(D, lst ys k)] s₅ → StrsAre ys ((items.map (·.2)).map mkS) → Q D ys k C s₅)
    (hk : ∀ C, (compEnvC scope cl C env).scope.kind = .function := by intro _; rfl) (hl : ∀ C, (compEnvC scope cl C env).kindOf x = some .local := by intro _; rfl) (hr : ∀ C, (compEnvC scope cl C env).kindOf y = some .local := by intro _; rfl)
    (hd' : (y == ("__debug__" : Str)) = false := by decide) :
    CompOver w A (.Name y p1) (.Tuple [.Name x p2, .Name y p3] kt p4) [] scope cl env os₀ b0 base ex L m led Q (.ref ga) s₂ := by
  obtain ⟨g, gs, fp, I, hg1, hgen, _⟩ := id G
  refine ⟨ga, gl, rfl, F.perm List.perm_append_comm, fun s' Q' E' hkp hq => ?_, fun D C s₄ F₄ g₄ => ?_⟩
  · obtain ⟨o, nm, qn, ho, z⟩ := hgen
    exact wpAny_pyIter_gen ⟨o, nm, qn, hkp _ _ ho, z⟩ hq
  have F₅ : Fm w os₀ b0 s₂.heap (gl.map (·.1)) C (fun _ => none) ([(D, lst [] 0)] ++ gl) s₄ := F₄.perm List.perm_append_comm
  refine ⟨fun n s => ∃ dn rest m' ys k gl', rest.length = n ∧ dn ++ rest = items ∧ Fm w os₀ b0 s₂.heap (gl.map (·.1)) C m' ([(D, lst ys k)] ++ gl') s ∧ GenIt w A os₀ b0 ga rest gl' s ∧ StrsAre ys ((dn.map (fun p : Item => p.2)).map mkS), items.length, ⟨[], items, _, [], 0, gl, rfl, rfl, F₅, G.ledger F F₅ g₄, .nil⟩, ?_⟩
  rintro n s ⟨dn, rest, m', ys, k, gl', hn', hdn, F', G', hys⟩
  cases rest with
  | nil =>
    refine rNextNone hh hroom F' G' fun s' F'' => ⟨m', ys, k, F'', hQ F'' ?_⟩
    rw [List.append_nil] at hdn
    rw [← hdn]; exact hys
  | cons z r =>
    refine rNextSome hroom F' G' fun b s' gl'' F'' G'' hit => ?_
    obtain ⟨t, u, htup⟩ := hit
    obtain ⟨g₂, gs₂, fp₂, I₂, hgl₂, hgen₂, _⟩ := id G''
    obtain ⟨o, nm, qn, ho, hoc, _⟩ := id hgen₂
    refine rLotg ho hoc (by decide) (rUnpack2 (env := compEnvC scope cl C env) hh F'' htup (fun s₆ F₆ g₆ => ?_) (hk C) (hl C) (hr C))
    refine wpAny_tests_nil ?_
    rw [if_pos rfl]
    have hlen : ys.length ≤ 10000 := by
      rw [StrsAre_len hys, List.length_map, List.length_map]
      have := congrArg List.length hdn
      rw [List.length_append] at this
      omega
    refine rNm (env := compEnvC scope cl C env) F₆ (upd_self _ _ _) (rApp (l1 := []) F₆ (by rw [sizeLine_eq]; omega) fun s₇ k' F₇ g₇ => ?_) (hk C) (hr C) hd'
    replace F₇ : Fm w os₀ b0 s₂.heap (gl.map (·.1)) C (upd (upd m' x (.int z.1 t)) y (.str ⟨z.2.toArray⟩ u)) ([(D, lst (ys ++ [.str ⟨z.2.toArray⟩ u]) k')] ++ gl'') s₇ := F₇
    refine ⟨r.length, by rw [← hn']; exact Nat.lt_succ_self _, dn ++ [z], r, _, _, k', gl'', rfl, by rw [List.append_assoc]; exact hdn, F₇, (G''.ledger F'' F₆ g₆).ledger F₆ F₇ g₇, ?_⟩
    rw [List.map_append, List.map_append]
    exact StrsAre_append hys (.cons _ _ .nil)
end
end Mine

namespace Mine
section
variable {w : World} {A : Around} {os₀ : OsState} {b0 base : Heap} {ex : List Addr} {L : Addr} {m : Str → Option Value} {led l1 l2 : List (Addr × Obj)} {s s₂ : Shared} {env : Env} {E : Value → Shared → Prop}
/-- l.index(k) -/
theorem rIndex {nf : Str} {e : Expr} {pf apos pos : Pos} {lf : Addr} {fv : List Value} {first : List Int} {k : Int} {t : Tok} {Q : Value → Shared → Prop} (hF : PL s.heap.get? lf fv) (hfv : IntsAre fv first) (hin : k ∈ first) (hn : first.length ≤ 1000)
    (hf : ∀ {Q : Value → Shared → Prop}, Q (.ref lf) s → wpAny (model PR w) A (eval (.Name nf pf) env) Q E s) (he : ∀ {Q : Value → Shared → Prop}, Q (.int k t) s → wpAny (model PR w) A (eval e env) Q E s)
    (h : ∀ t', Q (.int (first.idxOf k : Nat) t') { s with toks := s.toks + 1 }) (hline : (apos.endLine == pos.line) = true := by rfl) (hs : starEach [e] env = [(false, eval e env)] := by rfl) :
    wpAny (model PR w) A (eval (.Call (.Attribute (.Name nf pf) (Str.ofString "index") apos) [e] [] pos) env) Q E s := by
  obtain ⟨n, eF⟩ := hF
  have hj : first.idxOf k < first.length := List.idxOf_lt_length_iff.mpr hin
  have hlen := hfv.length
  refine Call_method1 rfl hs hline (hf ?_)
  refine ⟨"list", _, PySem.F.plainAttrs_list, PySem.F.slot_list_index, PySem.F.type_list_index, ⟨_, eF, rfl⟩, (fun a ha => by cases ha; exact ⟨_, eF, rfl⟩), ?_⟩
  refine P.index_list (he ⟨fv.toArray, n, isInt k, first.idxOf k, by simp; omega, eF, fun y hy => eq_isInt k t hfv y (by simpa using hy), by omega, ?_, fun j hj1 hj2 => ?_, h _⟩)
  · have := isInt_at k hfv (first.idxOf k) (by omega) hj
    simpa using this
  · have h1 := isInt_at k hfv j (by simpa using hj1) (by omega)
    have h2 : first[j]'(by omega) ≠ k := fun e => by
      have h3 := List.not_of_lt_findIdx (p := (· == k)) (xs := first) (i := j) hj2
      simp [e] at h3
    have h3 : isInt k (fv[j]'(by simpa using hj1)) = false := by rw [h1]; exact beq_eq_false_iff_ne.mpr h2
    simpa using h3
/-- [first.index(node) for node in last] -/
theorem compIndex {scope : Scope} {cl : List (Str × Addr)} {x r : Str} {p2 p3 p4 p5 p6 : Pos} {I lf cf B : Addr} {oi : Obj} {fv bv : List Value} {first last : List Int} {Q : Addr → List Value → Nat → Addr → Shared → Prop} (hh : A.handled = none)
    (F : Fm w os₀ b0 base ex L m ((I, oi) :: led) s₂) (ho : LIt oi B 0) (hF : PL (vw s₂.heap [I]) lf fv) (hfv : IntsAre fv first) (hB : PL (vw s₂.heap [I]) B bv) (hbv : IntsAre bv last) (hcell : ∃ o, vw s₂.heap [I] cf = some o ∧ o.data = .cell (some (.ref lf))) (hfl : first.length ≤ 1000) (hbl : last.length ≤ 1000) (hin : ∀ b ∈ last, b ∈ first)
    (hQ : ∀ {D ys k C m' base' ex' s₅}, Fm w os₀ b0 base' ex' C m' [(D, lst ys k)] s₅ → Sub s₂.heap [I] base' ex' → IntsAre ys (last.map fun b => Int.ofNat (first.idxOf b)) → Q D ys k C s₅)
    (hline : (p5.endLine == p6.line) = true := by rfl) (hcl : cl.lookup r = some cf := by rfl) (hk : ∀ C, (compEnvC scope cl C env).scope.kind = .function := by intro _; rfl) (hl : ∀ C, (compEnvC scope cl C env).kindOf x = some .local := by intro _; rfl) (hr : ∀ C, (compEnvC scope cl C env).kindOf r = some .cell := by intro _; rfl)
    (hd' : (x == ("__debug__" : Str)) = false := by decide) (hd2 : (r == ("__debug__" : Str)) = false := by decide) :
    CompOver w A (.Call (.Attribute (.Name r p3) (Str.ofString "index") p5) [.Name x p4] [] p6) (.Name x p2) [] scope cl env os₀ b0 base ex L m led Q (.ref I) s₂ := by
  have hlen : bv.length = last.length := hbv.length
  refine comp_over F (Iter.list hh hB) ho (by omega) (fun _ i ys => IntsAre ys ((last.take i).map fun b => Int.ofNat (first.idxOf b))) (fun i m' => ∃ b t, last[i]? = some b ∧ m' x = some (.int b t)) (fun _ _ _ _ _ h => h) (fun _ i ys h => ?_) .nil ?_ ?_ ?_
  · rw [h.length, List.length_map, List.length_take]; omega
  · rintro i v C m' led' base' ex' s oi' Q' hi he ho' F' S' h
    have hib : i < last.length := by omega
    obtain ⟨t, e⟩ := hbv.get i last[i] (List.getElem?_eq_getElem hib)
    rw [e] at he; cases he
    exact asgN F' (fun s' F'' => h s' _ ⟨last[i], t, List.getElem?_eq_getElem hib, upd_self _ _ _⟩ F'') (hk C) (hl C)
  · rintro i base' ex' C D m' oi' ys k s hi F' S' ha ⟨b, t, hb, hm⟩
    have up : ∀ b o, vw s₂.heap [I] b = some o → s.heap.get? b = some o := fun b o e => F'.view b o (S'.view b o e)
    obtain ⟨oc, hc1, hc2⟩ := hcell
    refine wpAny_tests_nil ?_
    rw [if_pos rfl]
    refine rIndex (env := compEnvC scope cl C env) (hF.keeps up) hfv (hin b (List.mem_of_getElem? hb)) hfl (fun h => rCell (env := compEnvC scope cl C env) ⟨oc, up _ _ hc1, hc2⟩ h hcl (hk C) (hr C) hd2) (fun h => rNm (env := compEnvC scope cl C env) F' hm h (hk C) (hl C) hd') (fun t' => ⟨F'.tok _, ?_⟩) hline
    rw [List.take_add_one, hb, List.map_append]
    exact IntsAre_append ha (.cons _ _ .nil)
  · intro D ys k C m' base' ex' s₅ F' S' ha
    rw [hlen, List.take_length] at ha
    exact hQ F' S' ha
/-- two lists of the same numbers -/
theorem eqIntsAt {a b : Addr} {xs ys : List Value} {ns : List Int} (ha : s.heap.IsList a xs.toArray) (hb : s.heap.IsList b ys.toArray) (hi : IntsAre xs ns) (hj : IntsAre ys ns) (hu : A.units < cLine) : SeqAt.EqAt A s (.ref a) (.ref b) true := by
  by_cases h : a = b
  · subst h; exact SeqAt.EqAt.same _
  · have hl : xs.length = ys.length := by rw [hi.length, hj.length]
    have := SeqAt.RcAt.lists (A := A) (s := s) (e := fun _ => true) ha hb (by simpa using hl) hu fun j h1 h2 => by
      have h1' : j < ns.length := by rw [← hi.length]; simpa using h1
      obtain ⟨t, e1⟩ := hi.get j ns[j] (List.getElem?_eq_getElem h1')
      obtain ⟨u, e2⟩ := hj.get j ns[j] (List.getElem?_eq_getElem h1')
      have e1' : xs.toArray[j] = .int ns[j] t := by
        have := List.getElem?_eq_some_iff.mp e1
        simpa using this.2
      have e2' : ys.toArray[j] = .int ns[j] u := by
        have := List.getElem?_eq_some_iff.mp e2
        simpa using this.2
      rw [e1', e2']
      have := (MeetsSeq.EqGives.int ns[j] ns[j] t u).at A.in1 s
      simpa using this
    have e : (List.range xs.toArray.size).all (fun _ => true) = true := by simp
    rw [e] at this
    exact SeqAt.EqAt.of_refs h this
end
end Mine

namespace Mine
/-- the signs of what strip leaves of the whole text -/
def signsF (ks : List (List Nat × Int)) : List (List Nat) := (escItems 0 false (stripL (ks.map (·.1)).flatten)).map (·.2)
section
variable {w : World} {A : Around} {os₀ : OsState} {b0 base : Heap} {ex : List Addr} {L : Addr} {m : Str → Option Value} {led l1 l2 : List (Addr × Obj)} {s s₂ : Shared} {env : Env} {E : Value → Shared → Prop}
theorem law6 {fa : Addr} {cd : Value} {lr lf lz : Addr} {rv fv zv : List Value} {ks : List (List Nat × Int)} {first last : List Int} {o1 o2 o3 o4 : Obj} {c2 c4 : Option Value} {Q : Flow → Shared → Prop} (hh : A.handled = none) (hroom : A.depth + 3 < recursionLimit) (hu : A.units + 64 < cLine)
    (F : Fm w os₀ b0 base ex L m (cells4 L o1 o2 o3 o4) s) (d1 : o1.data = .cell (some (.ref lr))) (d2 : o2.data = .cell c2) (d3 : o3.data = .cell (some (.ref lf))) (d4 : o4.data = .cell c4) (vL : PL (vw base ex) lr rv) (vR : RowIs (vw base ex) rv ks)
    (vF : PL (vw base ex) lf fv) (hfv : IntsAre fv first) (cZ : m (Str.ofString "last") = some (.ref lz)) (vZ : PL (vw base ex) lz zv) (hzv : IntsAre zv last) (hbig : ks.length ≤ 100) (hshort : ∀ k ∈ ks, k.1.length ≤ 5) (hfl : first.length ≤ 1000) (hll : last.length ≤ 1000) (hin : ∀ b ∈ last, b ∈ first)
    (hleft : (stripL (ks.map (·.1)).flatten).length ≤ 1000) (hsig : (signsF ks).foldl stepF ([], [], 0) = ([], last.map (fun b => Int.ofNat (first.idxOf b)), (first.length : Int)))
    (h : ∀ s', (∀ b o, b0.get? b = some o → s'.heap.get? b = some o) → s'.os = os₀ → AllBare s'.gens → Q (.ret (.bool true)) s') :
    wpAny (model PR w) A (execs (lRest w.params 15) (lEnv w.params L fa cd)) Q NE s := by
  have hrl : rv.length = ks.length := vR.length
  have hwhole : ((ks.map (·.1)).flatten).length ≤ 500 := by
    refine Nat.le_trans (flat_short (B := 5) fun p hp => ?_) ?_
    · obtain ⟨k, hk, rfl⟩ := List.mem_map.mp hp
      exact hshort k hk
    · rw [List.length_map]; omega
  refine wpAny_execs_cons (wpAny_Assign_Name (rFn1 F (a := 28) rfl rfl (rJoinE F fun s₀ F₀ g₀ => rComp (cl := []) (os₀ := os₀) (b0 := b0) (base := base) (ex := ex) (L := L) (m := m) (led := cells4 L o1 o2 o3 o4) (rCell ⟨o1, F₀.get (a := L + 1) (.head _), d1⟩ (rIterL F₀ (vL.keeps F₀.view).isList fun it oi s₁ F₁ ho g₁ =>
    compPiece hh F₁ ho (vR.keeps F₁.upI) (vL.keeps F₁.upI) (by omega) ?_ (by decide))))))
  intro D ys kD C' m' base' ex' s₅' F' S' hys s₂ F₂ _ _
  clear F' S'
  refine ⟨D, ys, _, rfl, ⟨_, F₂.get (.head _), rfl, kD, rfl⟩, hys, by rw [List.length_map]; omega, fun p hp => ?_, fun t' kt => ?_⟩
  · obtain ⟨kk, hk, rfl⟩ := List.mem_map.mp hp
    have := hshort kk hk
    omega
  have F₃ := (F₂.tok kt).tail
  have em : ∀ l : List Nat, (mkS l).cps.toList = l := fun l => by simp [mkS]
  refine ⟨F₃.topNow, strip_spec hh (by omega) F₃ (by show (mkS _).length ≤ 1000; simp only [mkS, Str.length, List.size_toArray]; omega) fun s₄ t₄ x₄ => ?_⟩
  rw [em]
  have F₄ := F₃.ext x₄
  unfold signsF at hsig
  generalize stripL (ks.map (·.1)).flatten = left at hleft hsig ⊢
  refine rSt F₄ fun s₅ F₅ g₅ => ?_
  refine wpAny_execs_cons (rCompSt (cl := []) (os₀ := os₀) (b0 := b0) (base := base) (ex := ex) (m := upd m (Str.ofString "left") (.str (mkS left) t₄)) (led := cells4 L o1 o2 o3 o4) (rFn1 F₅ (a := 21) rfl rfl (rNm F₅ (upd_self _ _ _) ⟨F₅.topNow, rIter (A' := A) hh (by omega) F₅ fun ga s₆ gl F₆ G₆ => ?_⟩)))
  obtain ⟨g, gs, fp, I, hg1, hgen, _⟩ := id G₆
  rw [em] at G₆
  have hil := escItems_len left 0 false
  refine wpAny_pyIter_gen hgen (compSign hh (by omega) F₆ G₆ (by omega) ?_)
  intro ls sv ksg C' m' s₅' F' hsv s₇ F₇ _ _
  clear F'
  replace F₇ : Fm w os₀ b0 base ex L (upd (upd m (Str.ofString "left") (.str (mkS left) t₄)) (Str.ofString "signs") (.ref ls)) ((ls, lst sv ksg) :: cells4 L o1 o2 o3 o4) s₇ := F₇
  have hns := cells_noSeq (L := L) d1 d2 d3 d4
  have F₈ := F₇.tail.rebase
  have up₈ := F₇.tail.viewUp
  have vS₈ : PL (vw s₇.heap (L :: (cells4 L o1 o2 o3 o4).map (·.1))) ls sv := ⟨ksg, F₇.ledView⟩
  have cS₈ := upd_self (upd m (Str.ofString "left") (.str (mkS left) t₄)) (Str.ofString "signs") (.ref ls)
  have cZ₈ : upd (upd m (Str.ofString "left") (.str (mkS left) t₄)) (Str.ofString "signs") (.ref ls) (Str.ofString "last") = some (.ref lz) := by rw [upd_ne (by decide), upd_ne (by decide)]; exact cZ
  generalize upd (upd m (Str.ofString "left") (.str (mkS left) t₄)) (Str.ofString "signs") (.ref ls) = m₈ at F₈ cS₈ cZ₈
  generalize hB : s₇.heap = B₈ at F₈ up₈ vS₈
  generalize hX : L :: (cells4 L o1 o2 o3 o4).map (·.1) = X₈ at F₈ up₈ vS₈
  clear hB hX
  refine wpAny_execs_cons (wpAny_Return_some (wpAny_Compare1 (Call_Name (trees := [(false, _), (false, _), (false, _)]) rfl (rGlob F₈ (v := .ref 44) rfl ?_))))
  refine callWith_function (o := ⟨.type "function", none, .func (fdAt w.params 44), #[]⟩) (fd := fdAt w.params 44) (evalArgs_plain (spliced_cons (rGlob F₈ (v := .ref 63) rfl (spliced_cons (rNm F₈ cS₈ (spliced_cons (rTuple3 (k := 0) (List_ (wpAny_items_nil (wpAny_newList ?_))))))))))
  have F₉ := F₈.push (lst [] 0) rfl
  generalize s₇.heap.objs.size = e1 at F₉
  refine List_ (wpAny_items_nil (wpAny_newList ?_))
  have F₁₀ := F₉.push (lst [] 0) rfl
  generalize ({ s₇ with heap := s₇.heap.push (lst [] 0) } : Shared).heap.objs.size = e2 at F₁₀
  refine rInt F₁₀ fun t₁₁ s₁₁ F₁₁ g₁₁ => ?_
  have F₁₂ := F₁₁.push (tup [.ref e1, .ref e2, .int 0 t₁₁]) rfl
  refine spliced_nil ⟨⟨F₁₂.topNow.K 44 _ rfl, rfl⟩, ?_⟩
  refine reduce_spec (st := ([], [], 0)) hh (by omega) F₁₂ (vS₈.keeps F₁₂.view) hsv ⟨_, e1, e2, t₁₁, [], [], rfl, F₁₂.get (.head _), ⟨0, F₁₂.get (.tail _ (.tail _ (.head _)))⟩, .nil, ⟨0, F₁₂.get (.tail _ (.head _))⟩, .nil⟩ (by simp) (by simp) (by rw [List.length_map]; omega) fun v' s₁₃ x₁₃ hst => ?_
  rw [hsig] at hst
  have F₁₃ := (F₁₂.ext x₁₃).tail.tail.tail
  have hst' := hst.mkView F₁₃ hns
  have F₁₄ := F₁₃.rebase
  have up₁₄ := F₁₃.viewUp
  generalize hB : s₁₃.heap = B₁₄ at F₁₄ up₁₄ hst'
  generalize hX : L :: (cells4 L o1 o2 o3 o4).map (·.1) = X₁₄ at F₁₄ up₁₄ hst'
  clear hB hX hst
  have vF₁₄ := (vF.keeps up₈).keeps up₁₄
  have vZ₁₄ := (vZ.keeps up₈).keeps up₁₄
  refine rTuple3 (List_ (wpAny_items_nil (wpAny_newList ?_)))
  have F₁₅ := F₁₄.push (lst [] 0) rfl
  generalize s₁₃.heap.objs.size = e3 at F₁₅
  refine rComp (cl := [(Str.ofString "first", L + 3)]) (os₀ := os₀) (b0 := b0) (base := B₁₄) (ex := X₁₄) (L := L) (m := m₈) (led := (e3, lst [] 0) :: cells4 L o1 o2 o3 o4) (rNm F₁₅ cZ₈ (rIterL F₁₅ (vZ₁₄.keeps F₁₅.view).isList fun it oi s₁₆ F₁₆ ho g₁₆ =>
    compIndex hh F₁₆ ho (vF₁₄.keeps F₁₆.upI) hfv (vZ₁₄.keeps F₁₆.upI) hzv ⟨o3, F₁₆.memView (a := L + 3) (.tail _ (.tail _ (.tail _ (.head _)))), d3⟩ hfl hll hin ?_))
  intro e4 iv ki C' m' base' ex' s₅' F' S' hiv s₁₇ F₁₇ _ _
  clear F' S'
  refine rB1 F₁₇ (id := "len") rfl rfl (rCell ⟨o3, F₁₇.get (a := L + 3) (.tail _ (.tail _ (.tail _ (.tail _ (.head _))))), d3⟩ (rLenL F₁₇ (vF₁₄.keeps F₁₇.view).isList (by rw [hfv.length]; omega) fun t₁₈ s₁₈ F₁₈ g₁₈ => ?_))
  have F₁₉ := F₁₈.push (tup [.ref e3, .ref e4, .int fv.length t₁₈]) rfl
  obtain ⟨a, aw, ac, tn, vw', vc, rfl, h2, h3, h4, h5, h6⟩ := hst'
  have hfvl : ((fv.length : Nat) : Int) = (first.length : Int) := by rw [hfv.length]
  have hu1 : A.in1.units < cLine := by show A.units + 1 < cLine; omega
  refine SeqAt.eq_tupleAt (e := fun _ => true) (tup_is (F₁₉.view _ _ h2)) (tup_is (F₁₉.get (.head _))) (by omega) (fun j j1 j2 => ?_) ?_
  · have hj3 : j < 3 := by simpa using j1
    have hj : j = 0 ∨ j = 1 ∨ j = 2 := by omega
    rcases hj with rfl | rfl | rfl
    · exact eqIntsAt (h3.keeps F₁₉.view).isList ⟨_, F₁₉.get (a := e3) (o := lst [] 0) (.tail _ (.tail _ (.head _))), rfl, 0, rfl⟩ h4 .nil hu1
    · exact eqIntsAt (h5.keeps F₁₉.view).isList ⟨_, F₁₉.get (a := e4) (o := lst iv ki) (.tail _ (.head _)), rfl, ki, rfl⟩ h6 hiv hu1
    · show SeqAt.EqAt A.in1 _ (.int (first.length : Int) tn) (.int (fv.length : Int) t₁₈) true
      rw [hfvl]
      have := (MeetsSeq.EqGives.int (first.length : Int) (first.length : Int) tn t₁₈).at A.in1
      simpa using this _
  · exact h _ F₁₉.keep0 F₁₉.os F₁₉.bare
end
end Mine

namespace Mine
/-- what the law asks, in plain words -/
structure LawOk (ab : List Int) (ks : List (List Nat × Int)) (bs cs : List Nat) : Prop where
  chk : ChkOk ab ks bs cs
  c1 : c3F 100 (waysF (bs.map (nodeF ks)) (endsF ab ks bs cs) bs.length) = some (bs.map (nodeF ks))
  c2 : c3F 100 ((waysF (bs.map (nodeF ks)) (endsF ab ks bs cs) bs.length).map List.reverse) = some (cs.map (nodeF ks))
  mem : ∀ b ∈ cs.map (nodeF ks), b ∈ bs.map (nodeF ks)
  left : (stripL (ks.map (·.1)).flatten).length ≤ 1000
  sig : (signsF ks).foldl stepF ([], [], 0) = ([], (cs.map (nodeF ks)).map (fun b => Int.ofNat ((bs.map (nodeF ks)).idxOf b)), ((bs.map (nodeF ks)).length : Int))
section
variable {w : World} {A : Around} {os₀ : OsState} {b0 base : Heap} {ex : List Addr} {L : Addr} {m : Str → Option Value} {led l1 l2 : List (Addr × Obj)} {s s₂ : Shared} {env : Env} {E : Value → Shared → Prop}
theorem law_all {fa : Addr} {cd : Value} {l : Addr} {sv : List Value} {ns : List Int} {o1 o2 o3 o4 : Obj} {Q : Flow → Shared → Prop} (hh : A.handled = none) (hroom : A.depth + 10 < recursionLimit) (hu : A.units + 64 < cLine) (F : Fm w os₀ b0 base [] L m (cells4 L o1 o2 o3 o4) s)
    (d1 : o1.data = .cell none) (d2 : o2.data = .cell none) (d3 : o3.data = .cell none) (d4 : o4.data = .cell none) (hm : m (Str.ofString "script") = some (.ref l)) (hl : base.IsList l sv.toArray) (hi : IntsAre sv ns) (hn : ns.length ≤ 63)
    (plain : ∀ ps ab hi, Tree ps ab hi → LawOk ab (writeF ab hi 6 0) (idxF [40] (writeF ab hi 6 0) (writeF ab hi 6 0).length) (idxF [41] (writeF ab hi 6 0) (writeF ab hi 6 0).length))
    (h : ∀ s', (∀ b o, b0.get? b = some o → s'.heap.get? b = some o) → s'.os = os₀ → AllBare s'.gens → Q (.ret (.bool true)) s') :
    wpAny (model PR w) A (execs (bodyAt w.params 68) (lEnv w.params L fa cd)) Q NE s := by
  refine law1 hh F hm hl hi hn fun m₁ la lh va vh na nh ps ab hid s₁ F₁ cA cH hva hvh T => ?_
  have P := plain ps ab hid T
  refine law2 hh (by omega) F₁ d1 d2 d3 d4 cA cH hva hvh T (by have := P.chk.big; omega) fun B₂ X₂ m₂ lr rv bl bv cl cv o1' s₂ F₂ d1' cA₂ vA₂ vL₂ vR₂ cB₂ vB₂ hbv cC₂ vC₂ hcv => ?_
  have habl := T.ablen
  have hfew := T.few
  generalize writeF ab hid 6 0 = ks at P vR₂ hbv hcv
  generalize idxF [40] ks ks.length = bs at P hbv
  generalize idxF [41] ks ks.length = cs at P hcv
  refine law3 hh (by omega) F₂ d1' d2 ⟨cA₂, cB₂, cC₂⟩ vA₂ hva vL₂ vR₂ vB₂ hbv vC₂ hcv P.chk (by omega) fun B₃ X₃ m₃ le ev o2' s₃ F₃ d2' N₃ up₃ vE₃ hev => ?_
  have hbig := P.chk.big
  have hbb := P.chk.bbig
  have hcb := P.chk.cbig
  refine law4 hh F₃ d1' d2' d3 d4 N₃ (vL₂.keeps up₃) (vR₂.keeps up₃) (vB₂.keeps up₃) hbv (vC₂.keeps up₃) hcv vE₃ hev hbig hbb hcb (fun b hb => (P.chk.node b (.inl hb)).1) (fun b hb => (P.chk.node b (.inr hb)).1) (by simp [endsF])
    fun B₄ X₄ m₄ lf fv lz zv lw wv o3' o4' tk s₄ F₄ d3' d4' up₄ vF₄ hfv cZ₄ vZ₄ hzv cW₄ vW₄ hwv => ?_
  have lf1 : (bs.map (nodeF ks)).length ≤ 1000 := by rw [List.length_map]; omega
  have lz1 : (cs.map (nodeF ks)).length ≤ 1000 := by rw [List.length_map]; omega
  refine law5 hh (by omega) hu F₄ d3' vF₄ hfv cZ₄ vZ₄ hzv cW₄ vW₄ hwv (by simp only [waysF, List.length_map, List.length_range]; omega) (fun x hx => ?_) P.c1 P.c2 lf1 lz1 fun s₅ F₅ => ?_
  · obtain ⟨k, hk, rfl⟩ := List.mem_map.mp hx
    have := wayF_len (bs.map (nodeF ks)) (endsF ab ks bs cs) k (k + 1)
    rw [List.mem_range] at hk
    omega
  exact law6 hh (by omega) hu F₅ d1' d2' d3' d4' ((vL₂.keeps up₃).keeps up₄) ((vR₂.keeps up₃).keeps up₄) vF₄ hfv cZ₄ vZ₄ hzv hbig P.chk.short lf1 lz1 P.mem P.left P.sig h
end
end Mine

namespace Mine
theorem ends (plain : ∀ ps ab hi, Tree ps ab hi → LawOk ab (writeF ab hi 6 0) (idxF [40] (writeF ab hi 6 0) (writeF ab hi 6 0).length) (idxF [41] (writeF ab hi 6 0) (writeF ab hi 6 0).length)) : PySem.Challenge.rw_nb0123_01.Holds := by
  refine hd ?_
  k_fill
  intro w s₀ s₁ mg mb G Y fa o pm cd doc dV kV ho hd hcd hD hmg hg args vals as hpre hlay hrd hwl hlo
  have KX := kIn_of Y
  refine Ground.open G ?_
  intro T B D TE TW
  clear hmg
  wrow_args hpre hlay hrd hwl hlo
  refine enter_call ?_
  w_top on
  w_call any ho hd hcd hD T F
  rename_i h₁ tk₁ oK oF oE oR dK dF dE dR N0 X0
  rename Heap.IsList _ _ _ => hList
  rename IntsAre _ _ => hInts
  have top : TopOk w s₁.heap := ⟨KX, ⟨mg, T.g⟩, ⟨mb, T.b, T.builtins⟩, T.nolimit⟩
  have new : ∀ a, s₁.heap.objs.size ≤ a → s₁.heap.get? a = none := fun a ha => by
    cases e : s₁.heap.get? a with
    | none => rfl
    | some o' => exact absurd (Heap.lt_size e) (Nat.not_lt.mpr ha)
  have sepA : ∀ a ∈ s₁.heap.objs.size :: (cells4 s₁.heap.objs.size oR oE oF oK).map (·.1), s₁.heap.get? a = none := fun a ha => by
    refine new a ?_
    simp only [List.map_cons, List.map_nil, List.mem_cons, List.not_mem_nil, or_false] at ha
    rcases ha with rfl | rfl | rfl | rfl | rfl
    · exact Nat.le_refl _
    · exact Nat.le_add_right _ _
    · exact Nat.le_add_right _ _
    · exact Nat.le_add_right _ _
    · exact Nat.le_add_right _ _
  have FM : Fm w s₁.os s₁.heap s₁.heap [] s₁.heap.objs.size _ (cells4 s₁.heap.objs.size oR oE oF oK) { s₁ with heap := h₁, toks := tk₁ } := ⟨top, F.keep, fun b o e _ => F.keep b o e, sepA, fun a ha => .inl (sepA a ha), F.ns, fun p hp => by
      simp only [List.mem_cons, List.not_mem_nil, or_false] at hp
      rcases hp with rfl | rfl | rfl | rfl
      · exact (N0 _ (.tail _ (.tail _ (.tail _ (.head _))))).1
      · exact (N0 _ (.tail _ (.tail _ (.head _)))).1
      · exact (N0 _ (.tail _ (.head _))).1
      · exact (N0 _ (.head _)).1, by
      simp only [List.map_cons, List.map_nil, List.nodup_cons, List.mem_cons, List.not_mem_nil, or_false, not_or, List.nodup_nil, and_true, not_false_eq_true]
      refine ⟨⟨?_, ?_, ?_, ?_⟩, ⟨?_, ?_, ?_⟩, ⟨?_, ?_⟩, ?_⟩ <;> intro (e : @Eq Nat _ _) <;> omega, rfl, .of_eq hg⟩
  refine wpAny_mono (law_all (fa := fa) (cd := cd) rfl (show callerA.depth + 1 + 10 < recursionLimit by decide) (show callerA.units + 3 + 64 < cLine by decide) FM dR dE dF dK rfl hList hInts (by omega) plain fun s' hk hos hb => ?_) (fun _ _ q => q) fun _ _ q => q.elim
  refine ⟨.inl ⟨_, _, [], rfl, fun _ => rfl, ReadsW.bool true, ?_, fun _ => ⟨List.nodup_nil, fun _ hm => (nomatch hm)⟩⟩, .of_keep hk, hos, hb⟩
  first | rfl | wrow_post
end Mine

namespace Mine
def Pcs (p : List Nat) : Prop := p = [40] ∨ p = [41] ∨ p ∈ kindsL
def notQ (p : List Nat) : Bool := !(p.head? == some 34)
def isB (p : List Nat) : Bool := p == [40] || p == [41]
def chkP : Int → List (List Nat) → Bool
  | n, [] => n == 0
  | n, x :: r => if x = [40] then chkP (n + 1) r else if x = [41] then (if n - 1 < 0 then false else chkP (n - 1) r) else chkP n r
theorem Pcs.cases {p : List Nat} (h : Pcs p) : p = [40] ∨ p = [41] ∨ p = [97, 92, 92] ∨ p = [92, 40] ∨ p = [92, 41] ∨ p = [92, 34] ∨ p = [34, 40, 34] ∨ p = [34, 92, 34, 41, 34] := by
  rcases h with h | h | h
  · exact .inl h
  · exact .inr (.inl h)
  · simp only [kindsL, List.mem_cons, List.not_mem_nil, or_false] at h
    exact .inr (.inr h)
theorem esc_app {p : List Nat} (h : Pcs p) (pos : Nat) (r : List Nat) : escItems pos false (p ++ r) = escItems pos false p ++ escItems (pos + p.length) false r := by
  rcases h.cases with rfl | rfl | rfl | rfl | rfl | rfl | rfl | rfl <;> simp [escItems]
theorem chk_eq : ∀ (items : List Item) (n : Int), chk n items = chkP n (items.map (·.2))
  | [], n => rfl
  | x :: r, n => by
    simp only [chk, chkP, List.map_cons, chk_eq r]
def br (l : List (List Nat)) : List (List Nat) := l.filter isB
theorem chk_br : ∀ (l : List (List Nat)) (n : Int), chkP n l = chkP n (br l)
  | [], n => rfl
  | x :: r, n => by
    by_cases h1 : x = [40]
    · have : br (x :: r) = x :: br r := by simp [br, isB, h1]
      rw [this]; simp only [chkP, h1, if_true, chk_br r]
    · by_cases h2 : x = [41]
      · have : br (x :: r) = x :: br r := by simp [br, isB, h2]
        rw [this]; simp only [chkP, h2, if_true, chk_br r]
      · have : br (x :: r) = br r := by simp [br, isB, h1, h2]
        rw [this]; simp only [chkP, h1, h2, if_false, chk_br r]
theorem step_br : ∀ (l : List (List Nat)) (st : List Int × List Int × Int), l.foldl stepF st = (br l).foldl stepF st
  | [], st => rfl
  | x :: r, st => by
    by_cases h1 : x = [40]
    · have : br (x :: r) = x :: br r := by simp [br, isB, h1]
      rw [this]; simp only [List.foldl_cons, step_br r]
    · by_cases h2 : x = [41]
      · have : br (x :: r) = x :: br r := by simp [br, isB, h2]
        rw [this]; simp only [List.foldl_cons, step_br r]
      · have : br (x :: r) = br r := by simp [br, isB, h1, h2]
        rw [this, List.foldl_cons, step_br r]
        congr 1
        simp [stepF, h1, h2]
theorem br_app (a b : List (List Nat)) : br (a ++ b) = br a ++ br b := List.filter_append ..
theorem br_one {p : List Nat} (h : Pcs p) (hq : notQ p = true) (pos : Nat) : br ((escItems pos false p).map (·.2)) = br [p] := by
  rcases h.cases with rfl | rfl | rfl | rfl | rfl | rfl | rfl | rfl
  · rfl
  · rfl
  · rfl
  · rfl
  · rfl
  · rfl
  · cases hq
  · cases hq
theorem br_iter : ∀ (toks : List (List Nat)), (∀ p ∈ toks, Pcs p ∧ notQ p = true) → ∀ pos, br ((escItems pos false toks.flatten).map (·.2)) = br toks
  | [], _, pos => rfl
  | p :: r, h, pos => by
    have hp := h p (.head _)
    rw [List.flatten_cons, esc_app hp.1, List.map_append, br_app, br_one hp.1 hp.2, br_iter r (fun q hq => h q (.tail _ hq)), ← br_app]; rfl
theorem br_notQ : ∀ toks : List (List Nat), br (toks.filter notQ) = br toks
  | [] => rfl
  | p :: r => by
    have ih := br_notQ r
    unfold br at ih ⊢
    by_cases hq : notQ p = true
    · rw [List.filter_cons, if_pos hq, List.filter_cons, List.filter_cons, ih]
    · have hb : isB p = false := by
        cases hb : isB p with
        | false => rfl
        | true =>
          simp only [isB, Bool.or_eq_true, beq_iff_eq] at hb
          rcases hb with rfl | rfl <;> exact absurd rfl hq
      rw [List.filter_cons, if_neg hq, List.filter_cons, hb, ih]; rfl
/-- what the walk over the quotation marks keeps -/
theorem strip_go : ∀ (toks : List (List Nat)), (∀ p ∈ toks, Pcs p) → ∀ (cs pre : List Nat) (start : Nat) (acc : List (List Nat)) (out : List Nat), cs = pre ++ toks.flatten → start ≤ pre.length → acc.flatten ++ pre.drop start = out →
    stEnd cs ((escItems pre.length false toks.flatten).foldl (stStep cs) (start, none, acc)) = out ++ (toks.filter notQ).flatten
  | [], _, cs, pre, start, acc, out, hcs, hs, ho => by
    have e : cs = pre := by simpa using hcs
    subst e
    simp only [List.flatten_nil, escItems, List.foldl_nil, List.filter_nil, List.append_nil]
    unfold stEnd
    by_cases h : start < cs.length
    · rw [if_pos h, List.flatten_append, ← ho]; simp
    · rw [if_neg h, ← ho, List.drop_eq_nil_of_le (by omega)]; simp
  | p :: r, hp, cs, pre, start, acc, out, hcs, hs, ho => by
    have hpp := hp p (.head _)
    rw [List.flatten_cons, esc_app hpp, List.foldl_append]
    have hcs' : cs = (pre ++ p) ++ r.flatten := by rw [hcs, List.flatten_cons, List.append_assoc]
    have ih := strip_go r (fun q hq => hp q (.tail _ hq)) cs (pre ++ p)
    rw [List.length_append] at ih
    by_cases hq : notQ p = true
    · have same : (escItems pre.length false p).foldl (stStep cs) (start, none, acc) = (start, none, acc) := by
        rcases hpp.cases with rfl | rfl | rfl | rfl | rfl | rfl | rfl | rfl
        · rfl
        · rfl
        · rfl
        · rfl
        · rfl
        · rfl
        · cases hq
        · cases hq
      rw [same, ih start acc (out ++ p) hcs' (by omega) (by rw [List.drop_append_of_le_length hs, ← List.append_assoc, ho]), List.filter_cons, if_pos hq, List.flatten_cons, List.append_assoc]
    · have htake : cs.take pre.length = pre := by rw [hcs]; simp
      have quo : (escItems pre.length false p).foldl (stStep cs) (start, none, acc) = (pre.length + p.length, none, if start ≠ pre.length then acc ++ [pre.drop start] else acc) := by
        rcases hpp.cases with rfl | rfl | rfl | rfl | rfl | rfl | rfl | rfl
        · exact absurd rfl hq
        · exact absurd rfl hq
        · exact absurd rfl hq
        · exact absurd rfl hq
        · exact absurd rfl hq
        · exact absurd rfl hq
        · show (pre.length + 3, none, if start ≠ pre.length then acc ++ [(cs.take pre.length).drop start] else acc) = _
          rw [htake]; rfl
        · show (pre.length + 5, none, if start ≠ pre.length then acc ++ [(cs.take pre.length).drop start] else acc) = _
          rw [htake]; rfl
      rw [quo, ih (pre.length + p.length) _ out hcs' (by omega) ?_, List.filter_cons, if_neg hq]
      rw [show (pre ++ p).drop (pre.length + p.length) = [] from List.drop_eq_nil_of_le (by simp), List.append_nil, ← ho]
      by_cases hst : start = pre.length
      · rw [if_neg (by simpa using hst), hst]; simp
      · rw [if_pos hst, List.flatten_append]; simp
theorem strip_toks {toks : List (List Nat)} (h : ∀ p ∈ toks, Pcs p) : stripL toks.flatten = (toks.filter notQ).flatten := by
  unfold stripL
  by_cases h34 : 34 ∈ toks.flatten
  · rw [if_pos h34]
    have := strip_go toks h toks.flatten [] 0 [] [] rfl (Nat.le_refl _) rfl
    simpa using this
  · rw [if_neg h34, List.filter_eq_self.mpr fun p hp => ?_]
    have hn : 34 ∉ p := fun hm => h34 (List.mem_flatten.mpr ⟨p, hp, hm⟩)
    cases p with
    | nil => rfl
    | cons a l =>
      have : a ≠ 34 := fun e => hn (by rw [e]; exact .head _)
      simp [notQ, this]
theorem check_toks {toks : List (List Nat)} (h : ∀ p ∈ toks, Pcs p) : checkL toks.flatten = chkP 0 toks := by
  unfold checkL
  rw [strip_toks h, chk_eq, chk_br, br_iter _ (fun p hp => ⟨h p (List.mem_filter.mp hp).1, (List.mem_filter.mp hp).2⟩), br_notQ, ← chk_br]
theorem sign_toks {toks : List (List Nat)} (h : ∀ p ∈ toks, Pcs p) (st : List Int × List Int × Int) : ((escItems 0 false (stripL toks.flatten)).map (·.2)).foldl stepF st = toks.foldl stepF st := by
  rw [strip_toks h, step_br, br_iter _ (fun p hp => ⟨h p (List.mem_filter.mp hp).1, (List.mem_filter.mp hp).2⟩), br_notQ, ← step_br]
end Mine

namespace Mine
def abF (ps : List Nat) : List Int := -1 :: ps.map Int.ofNat
def ksF (ps : List Nat) : List (List Nat × Int) := writeF (abF ps) (List.replicate (ps.length + 1) [97]) 6 0
/-- all that is asked of a shape -/
def okB (ps : List Nat) : Bool :=
  let ab := abF ps
  let ks := ksF ps
  let bs := idxF [40] ks ks.length
  let cs := idxF [41] ks ks.length
  let first := bs.map (nodeF ks)
  let last := cs.map (nodeF ks)
  let ways := waysF first (endsF ab ks bs cs) bs.length
  bs.all (fun i => cs.all fun j => !decide (i < j) || (chkP 0 (((ks.drop i).take (min (j + 1) ks.length - i)).map (·.1)) == sameF ab ks i j)) &&
  bs.all (fun i => !(foundF ab ks cs i).isEmpty) &&
  (bs ++ cs).all (fun i => decide (i < ks.length) && decide (0 ≤ nodeF ks i) && decide ((nodeF ks i).toNat < ab.length)) &&
  decide (ks.length ≤ 100) && decide (bs.length ≤ 100) && decide (cs.length ≤ 100) &&
  (c3F 100 ways == some first) && (c3F 100 (ways.map List.reverse) == some last) && last.all (fun b => first.contains b) &&
  ((ks.map (·.1)).foldl stepF ([], [], 0) == ([], last.map (fun b => Int.ofNat (first.idxOf b)), (first.length : Int)))
/-- the shapes of n + 1 nodes -/
def shapes : Nat → List (List Nat)
  | 0 => [[]]
  | n + 1 => (shapes n).flatMap fun ps => (List.range (n + 1)).map fun p => ps ++ [p]
theorem ok0 : (shapes 0).all okB = true := by decide +kernel
theorem ok1 : (shapes 1).all okB = true := by decide +kernel
theorem ok2 : (shapes 2).all okB = true := by decide +kernel
theorem ok3 : (shapes 3).all okB = true := by decide +kernel
/-- all, piece by piece -/
theorem chunks {α : Type} {p : α → Bool} {l : List α} {c n : Nat} (hc : 0 < c) (hl : l.length ≤ c * n) (h : ∀ k, k < n → ((l.drop (c * k)).take c).all p = true) : l.all p = true := by
  rw [List.all_eq_true]
  intro x hx
  obtain ⟨i, hi, e⟩ := List.getElem_of_mem hx
  have hk : i / c < n := Nat.div_lt_of_lt_mul (Nat.lt_of_lt_of_le hi hl)
  have hd : c * (i / c) + i % c = i := Nat.div_add_mod i c
  have hm : i % c < c := Nat.mod_lt i hc
  refine List.all_eq_true.mp (h (i / c) hk) x (List.mem_of_getElem? (i := i % c) ?_)
  rw [List.getElem?_take_of_lt hm, List.getElem?_drop, hd, List.getElem?_eq_getElem hi, e]
theorem ok4n0 : (((shapes 4).drop (6 * 0)).take 6).all okB = true := by decide +kernel
theorem ok4n1 : (((shapes 4).drop (6 * 1)).take 6).all okB = true := by decide +kernel
theorem ok4n2 : (((shapes 4).drop (6 * 2)).take 6).all okB = true := by decide +kernel
theorem ok4n3 : (((shapes 4).drop (6 * 3)).take 6).all okB = true := by decide +kernel
theorem ok4 : (shapes 4).all okB = true := chunks (c := 6) (n := 4) (by decide) (by decide +kernel) fun k hk => by
  match k, hk with
  | 0, _ => exact ok4n0
  | 1, _ => exact ok4n1
  | 2, _ => exact ok4n2
  | 3, _ => exact ok4n3
theorem ok5n0 : (((shapes 5).drop (6 * 0)).take 6).all okB = true := by decide +kernel
theorem ok5n1 : (((shapes 5).drop (6 * 1)).take 6).all okB = true := by decide +kernel
theorem ok5n2 : (((shapes 5).drop (6 * 2)).take 6).all okB = true := by decide +kernel
theorem ok5n3 : (((shapes 5).drop (6 * 3)).take 6).all okB = true := by decide +kernel
theorem ok5n4 : (((shapes 5).drop (6 * 4)).take 6).all okB = true := by decide +kernel
theorem ok5n5 : (((shapes 5).drop (6 * 5)).take 6).all okB = true := by decide +kernel
theorem ok5n6 : (((shapes 5).drop (6 * 6)).take 6).all okB = true := by decide +kernel
theorem ok5n7 : (((shapes 5).drop (6 * 7)).take 6).all okB = true := by decide +kernel
theorem ok5n8 : (((shapes 5).drop (6 * 8)).take 6).all okB = true := by decide +kernel
theorem ok5n9 : (((shapes 5).drop (6 * 9)).take 6).all okB = true := by decide +kernel
theorem ok5n10 : (((shapes 5).drop (6 * 10)).take 6).all okB = true := by decide +kernel
theorem ok5n11 : (((shapes 5).drop (6 * 11)).take 6).all okB = true := by decide +kernel
theorem ok5n12 : (((shapes 5).drop (6 * 12)).take 6).all okB = true := by decide +kernel
theorem ok5n13 : (((shapes 5).drop (6 * 13)).take 6).all okB = true := by decide +kernel
theorem ok5n14 : (((shapes 5).drop (6 * 14)).take 6).all okB = true := by decide +kernel
theorem ok5n15 : (((shapes 5).drop (6 * 15)).take 6).all okB = true := by decide +kernel
theorem ok5n16 : (((shapes 5).drop (6 * 16)).take 6).all okB = true := by decide +kernel
theorem ok5n17 : (((shapes 5).drop (6 * 17)).take 6).all okB = true := by decide +kernel
theorem ok5n18 : (((shapes 5).drop (6 * 18)).take 6).all okB = true := by decide +kernel
theorem ok5n19 : (((shapes 5).drop (6 * 19)).take 6).all okB = true := by decide +kernel
theorem ok5 : (shapes 5).all okB = true := chunks (c := 6) (n := 20) (by decide) (by decide +kernel) fun k hk => by
  match k, hk with
  | 0, _ => exact ok5n0
  | 1, _ => exact ok5n1
  | 2, _ => exact ok5n2
  | 3, _ => exact ok5n3
  | 4, _ => exact ok5n4
  | 5, _ => exact ok5n5
  | 6, _ => exact ok5n6
  | 7, _ => exact ok5n7
  | 8, _ => exact ok5n8
  | 9, _ => exact ok5n9
  | 10, _ => exact ok5n10
  | 11, _ => exact ok5n11
  | 12, _ => exact ok5n12
  | 13, _ => exact ok5n13
  | 14, _ => exact ok5n14
  | 15, _ => exact ok5n15
  | 16, _ => exact ok5n16
  | 17, _ => exact ok5n17
  | 18, _ => exact ok5n18
  | 19, _ => exact ok5n19
  | j + 20, hj => exact absurd hj (by omega)
theorem shapes_mem : ∀ (n : Nat) (ps : List Nat), ps.length = n → (∀ (i p : Nat), ps[i]? = some p → p ≤ i) → ps ∈ shapes n
  | 0, ps, hl, _ => by rw [List.length_eq_zero_iff.mp hl]; exact .head _
  | n + 1, ps, hl, hp => by
    have hne : ps ≠ [] := fun e => by rw [e] at hl; cases hl
    have e := List.dropLast_concat_getLast hne
    have hl' : ps.dropLast.length = n := by rw [List.length_dropLast, hl]; rfl
    have hin := shapes_mem n ps.dropLast hl' fun i p hi => hp i p (by
      have hlt : i < ps.dropLast.length := (List.getElem?_eq_some_iff.mp hi).1
      rw [← e, List.getElem?_append_left hlt]; exact hi)
    have hlast : ps.getLast hne ≤ n := hp n _ (by
      rw [List.getLast_eq_getElem, List.getElem?_eq_getElem (by omega)]
      congr 1
      congr 1
      omega)
    exact List.mem_flatMap.mpr ⟨ps.dropLast, hin, List.mem_map.mpr ⟨ps.getLast hne, List.mem_range.mpr (by omega), e⟩⟩
theorem ok_all {ps : List Nat} (hl : ps.length ≤ 5) (hp : ∀ (i p : Nat), ps[i]? = some p → p ≤ i) : okB ps = true := by
  have h := shapes_mem ps.length ps rfl hp
  have h5 : ps.length = 0 ∨ ps.length = 1 ∨ ps.length = 2 ∨ ps.length = 3 ∨ ps.length = 4 ∨ ps.length = 5 := by omega
  rcases h5 with e | e | e | e | e | e <;> rw [e] at h
  · exact List.all_eq_true.mp ok0 ps h
  · exact List.all_eq_true.mp ok1 ps h
  · exact List.all_eq_true.mp ok2 ps h
  · exact List.all_eq_true.mp ok3 ps h
  · exact List.all_eq_true.mp ok4 ps h
  · exact List.all_eq_true.mp ok5 ps h
end Mine

namespace Mine
def nrm (p : List Nat) : List Nat := if p = [40] then p else if p = [41] then p else [97]
def nrmK (k : List Nat × Int) : List Nat × Int := (nrm k.1, k.2)
theorem nrm_eq {p c : List Nat} (hc : c = [40] ∨ c = [41]) : nrm p = c ↔ p = c := by
  unfold nrm
  rcases hc with rfl | rfl
  · by_cases h1 : p = [40]
    · simp [h1]
    · by_cases h2 : p = [41] <;> simp [h1, h2]
  · by_cases h1 : p = [40]
    · simp [h1]
    · by_cases h2 : p = [41] <;> simp [h1, h2]
theorem nrm_kind {p : List Nat} (h : p ∈ kindsL) : nrm p = [97] := by
  simp only [kindsL, List.mem_cons, List.not_mem_nil, or_false] at h
  rcases h with rfl | rfl | rfl | rfl | rfl | rfl <;> rfl
theorem chkP_nrm : ∀ (l : List (List Nat)) (n : Int), chkP n (l.map nrm) = chkP n l
  | [], n => rfl
  | x :: r, n => by
    simp only [List.map_cons, chkP, nrm_eq (p := x) (.inl rfl), nrm_eq (p := x) (.inr rfl), chkP_nrm r]
theorem stepF_nrm (st : List Int × List Int × Int) (x : List Nat) : stepF st (nrm x) = stepF st x := by
  simp only [stepF, nrm_eq (p := x) (.inl rfl), nrm_eq (p := x) (.inr rfl)]
theorem fold_nrm : ∀ (l : List (List Nat)) (st : List Int × List Int × Int), (l.map nrm).foldl stepF st = l.foldl stepF st
  | [], st => rfl
  | x :: r, st => by simp only [List.map_cons, List.foldl_cons, stepF_nrm, fold_nrm r]
theorem getD_nrm (ks : List (List Nat × Int)) (i : Nat) : ((ks.map nrmK).getD i ([], 0)).2 = (ks.getD i ([], 0)).2 ∧ ∀ c, c = [40] ∨ c = [41] → (((ks.map nrmK).getD i ([], 0)).1 = c ↔ (ks.getD i ([], 0)).1 = c) := by
  by_cases h : i < ks.length
  · have e1 : (ks.map nrmK).getD i ([], 0) = nrmK ks[i] := by simp [List.getD, h]
    have e2 : ks.getD i ([], 0) = ks[i] := by simp [List.getD, h]
    rw [e1, e2]
    exact ⟨rfl, fun c hc => nrm_eq hc⟩
  · have e1 : (ks.map nrmK).getD i ([], 0) = ([], 0) := by simp [List.getD, h]
    have e2 : ks.getD i ([], 0) = ([], 0) := by simp [List.getD, h]
    rw [e1, e2]
    exact ⟨rfl, fun c _ => Iff.rfl⟩
theorem nodeF_nrm (ks : List (List Nat × Int)) : nodeF (ks.map nrmK) = nodeF ks := funext fun i => (getD_nrm ks i).1
theorem idxF_nrm (ks : List (List Nat × Int)) (c : List Nat) (hc : c = [40] ∨ c = [41]) (n : Nat) : idxF c (ks.map nrmK) n = idxF c ks n := by
  unfold idxF
  congr 1
  funext j
  exact decide_eq_decide.mpr ((getD_nrm ks j).2 c hc)
theorem sameF_nrm (ab : List Int) (ks : List (List Nat × Int)) (i j : Nat) : sameF ab (ks.map nrmK) i j = sameF ab ks i j := by unfold sameF; rw [nodeF_nrm]
theorem foundF_nrm (ab : List Int) (ks : List (List Nat × Int)) (cs : List Nat) (i : Nat) : foundF ab (ks.map nrmK) cs i = foundF ab ks cs i := by
  unfold foundF; simp only [sameF_nrm]
theorem endsF_nrm (ab : List Int) (ks : List (List Nat × Int)) (bs cs : List Nat) : endsF ab (ks.map nrmK) bs cs = endsF ab ks bs cs := by
  unfold endsF; simp only [foundF_nrm]
theorem seg_nrm (ks : List (List Nat × Int)) (i n : Nat) : (((ks.map nrmK).drop i).take n).map (·.1) = (((ks.drop i).take n).map (·.1)).map nrm := by
  rw [← List.map_drop, ← List.map_take, List.map_map, List.map_map]; rfl
theorem flat_congr {α : Type} {f g : Nat → List α} : ∀ (l : List Nat), (∀ k ∈ l, f k = g k) → l.flatMap f = l.flatMap g
  | [], _ => rfl
  | k :: r, h => by rw [List.flatMap_cons, List.flatMap_cons, h k (.head _), flat_congr r fun j hj => h j (.tail _ hj)]
theorem write_nrm {ab : List Int} {hi : List (List Nat)} (hl : hi.length = ab.length) (hk : ∀ h ∈ hi, h ∈ kindsL) : ∀ (f node : Nat), node < ab.length → (writeF ab hi f node).map nrmK = writeF ab (List.replicate ab.length [97]) f node
  | 0, _, _ => rfl
  | f + 1, node, hn => by
    have e1 : nrm (hi.getD node []) = [97] := nrm_kind (hk _ (by
      rw [show hi.getD node [] = hi[node]'(by omega) by simp [List.getD, hl, hn]]; exact List.getElem_mem _))
    have e2 : (List.replicate ab.length ([97] : List Nat)).getD node [] = [97] := by simp [List.getD, hn]
    simp only [writeF, List.map_append, List.map_cons, List.map_nil, List.map_flatMap, e2]
    congr 1
    congr 1
    · show [nrmK ([40], (node : Int)), (nrm (hi.getD node []), -1)] = _
      rw [e1]; rfl
    · refine flat_congr _ fun k hk' => ?_
      split
      · exact write_nrm hl hk f k (List.mem_range.mp hk')
      · rfl
theorem write_pcs {ab : List Int} {hi : List (List Nat)} (hl : hi.length = ab.length) (hk : ∀ h ∈ hi, h ∈ kindsL) : ∀ (f node : Nat), node < ab.length → ∀ k ∈ writeF ab hi f node, Pcs k.1
  | 0, _, _, k, h => by cases h
  | f + 1, node, hn, k, h => by
    simp only [writeF] at h
    rcases List.mem_append.mp h with h | h
    · rcases List.mem_append.mp h with h | h
      · simp only [List.mem_cons, List.not_mem_nil, or_false] at h
        rcases h with rfl | rfl
        · exact .inl rfl
        · refine .inr (.inr (hk _ ?_))
          show hi.getD node [] ∈ hi
          rw [show hi.getD node [] = hi[node]'(by omega) by simp [List.getD, hl, hn]]; exact List.getElem_mem _
      · obtain ⟨j, hj, h⟩ := List.mem_flatMap.mp h
        split at h
        · exact write_pcs hl hk f j (List.mem_range.mp hj) k h
        · cases h
    · rw [List.mem_singleton.mp h]; exact .inr (.inl rfl)
theorem Pcs.short {p : List Nat} (h : Pcs p) : p.length ≤ 5 := by
  rcases h.cases with rfl | rfl | rfl | rfl | rfl | rfl | rfl | rfl <;> decide
theorem plain (ps : List Nat) (ab : List Int) (hi : List (List Nat)) (T : Tree ps ab hi) : LawOk ab (writeF ab hi 6 0) (idxF [40] (writeF ab hi 6 0) (writeF ab hi 6 0).length) (idxF [41] (writeF ab hi 6 0) (writeF ab hi 6 0).length) := by
  have hal := T.ablen
  have hok := ok_all T.few T.par
  have hks : ksF ps = (writeF ab hi 6 0).map nrmK := by
    rw [write_nrm T.len T.kind 6 0 (by omega)]
    unfold ksF abF
    rw [← T.abs, hal]
  have hpcs := write_pcs T.len T.kind 6 0 (by omega)
  generalize writeF ab hi 6 0 = ks at hks hpcs
  unfold okB at hok
  rw [hks] at hok
  have hab : abF ps = ab := T.abs.symm
  rw [hab] at hok
  simp only [List.length_map, idxF_nrm ks [40] (.inl rfl), idxF_nrm ks [41] (.inr rfl), nodeF_nrm, sameF_nrm, foundF_nrm, endsF_nrm, seg_nrm, chkP_nrm] at hok
  generalize idxF [40] ks ks.length = bs at hok
  generalize idxF [41] ks ks.length = cs at hok
  simp only [Bool.and_eq_true] at hok
  obtain ⟨⟨⟨⟨⟨⟨⟨⟨⟨h1, h2⟩, h3⟩, h4⟩, h5⟩, h6⟩, h7⟩, h8⟩, h9⟩, h10⟩ := hok
  rw [List.all_eq_true] at h1 h2 h3 h9
  have hfst : ∀ p ∈ ks.map (·.1), Pcs p := fun p hp => by
    obtain ⟨k, hk, rfl⟩ := List.mem_map.mp hp
    exact hpcs k hk
  have big : ks.length ≤ 100 := of_decide_eq_true h4
  refine ⟨⟨fun i hi' j hj hij => ?_, fun i hi' e => ?_, fun i hi' => ?_, big, of_decide_eq_true h5, of_decide_eq_true h6, fun k hk => (hpcs k hk).short⟩, ?_, ?_, ?_, ?_, ?_⟩
  · have h := List.all_eq_true.mp (h1 i hi') j hj
    rw [Bool.or_eq_true] at h
    rcases h with h | h
    · simp [hij] at h
    · rw [← eq_of_beq h]
      unfold segF
      exact check_toks fun p hp => by
        obtain ⟨k, hk, rfl⟩ := List.mem_map.mp hp
        exact hpcs k (List.mem_of_mem_drop (List.mem_of_mem_take hk))
  · have h := h2 i hi'
    rw [e] at h; cases h
  · have h := h3 i (by rcases hi' with h | h; exact List.mem_append.mpr (.inl h); exact List.mem_append.mpr (.inr h))
    simp only [Bool.and_eq_true, decide_eq_true_eq] at h
    exact ⟨h.1.1, h.1.2, h.2⟩
  · exact eq_of_beq h7
  · exact eq_of_beq h8
  · intro b hb
    have h := h9 b hb
    simpa using h
  · rw [strip_toks hfst]
    refine Nat.le_trans (flat_short (B := 5) fun p hp => (hfst p (List.mem_filter.mp hp).1).short) ?_
    have := List.length_filter_le notQ (ks.map (·.1))
    rw [List.length_map] at this
    omega
  · unfold signsF
    rw [sign_toks hfst]
    have e : (ks.map nrmK).map (·.1) = (ks.map (·.1)).map nrm := by rw [List.map_map, List.map_map]; rfl
    have h := eq_of_beq h10
    rw [e, fold_nrm] at h
    rw [List.length_map]
    exact h
theorem holds : PySem.Challenge.rw_nb0123_01.Holds := ends plain
end Mine
theorem PySem.Challenge.cw_nb0123_01_holds : PySem.Challenge.rw_nb0123_01.Holds :=
  Mine.holds
