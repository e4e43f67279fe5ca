import PyProof.Rows.All
import Wide.All
import OpenK.AllK
import Wide.FinOn
import PySem.Challenge.RW_un0005_01
set_option Elab.async false
section
open PySem PySem.W PyProof.Rows
set_option maxRecDepth 100000
set_option maxHeartbeats 8000000
namespace Mine
open_top hd for PySem.Challenge.rw_un0005_01
end Mine
end
section
open PySem PySem.W PyProof.Rows
namespace Mine
noncomputable abbrev lo : List Str := looseW hd.view_39 [Str.ofString "_filemode_table", Str.ofString "_twin_re_1", Str.ofString "_twin_re_2"]
end Mine
end
section
open PySem PySem.W PyProof.Rows PySem.Calls
set_option maxRecDepth 100000
set_option maxHeartbeats 400000
namespace Mine

theorem news_none {G h : Heap} {L b : Addr} {m : Str → Option Value} (F : Fr G L h m) (hn : h.get? b = none) : G.get? b = none := by
  cases q : G.get? b with
  | none => rfl
  | some o => rw [F.keep b o q] at hn; cases hn
theorem fr_there {G h : Heap} {L : Addr} {m : Str → Option Value} (F : Fr G L h m) : ∃ o es ep, h.get? L = some o ∧ o.data = .dict es ep := by
  obtain ⟨o, es, ep, ho, hd, _⟩ := F.ns
  exact ⟨o, es, ep, ho, hd⟩
theorem fr_base {G h : Heap} {L : Addr} {m : Str → Option Value} (F : Fr G L h m) : G.get? L = none := kts_self F
theorem ns_slots {h h' : Heap} {L : Addr} {m : Str → Option Value} (hn : h.Ns L m) (hs : ∀ o, h.get? L = some o → ∃ sl, h'.get? L = some { o with slots := sl }) : h'.Ns L m := by
  obtain ⟨o, es, ep, ho, hd, r⟩ := hn
  obtain ⟨sl, e⟩ := hs o ho
  exact ⟨_, es, ep, e, hd, r⟩

abbrev fsOf (l : List Env) : List Addr := l.filterMap (·.frame)

/-- the heap may turn: the callers' frames by their slots, the objects of X at will; the base follows -/
theorem turn_base {base G h h' : Heap} {l : List Env} {L : Addr} {m : Str → Option Value} {own : List (Addr × Obj)} {X : List Addr}
    (B0 : base.StaysIn G) (BF : G.FunFrames base l) (F : Fr G L h m) (N : News G L h own)
    (hX : ∀ x ∈ X, G.get? x = none ∧ x ≠ L) (hk : ∀ b o, b ∉ L :: fsOf l → b ∉ X → h.get? b = some o → h'.get? b = some o)
    (hs : ∀ b o, b ∈ L :: fsOf l → h.get? b = some o → ∃ sl, h'.get? b = some { o with slots := sl }) :
    ∃ G', KtsTurn (fsOf l) G G' ∧ base.StaysIn G' ∧ G'.FunFrames base l ∧ Fr G' L h' m ∧ ∀ p ∈ own, p.1 ∉ X → h'.get? p.1 = some p.2 ∧ p.1 ≠ L ∧ G'.get? p.1 = none := by
  have hL : G.get? L = none := fr_base F
  have hfs : ∀ b ∈ fsOf l, ∃ o, G.get? b = some o := fun b hb => by
    obtain ⟨_, o, ho, _⟩ := BF.mem hb
    exact ⟨o, ho⟩
  obtain ⟨T, S⟩ := kts_turn_at (h := h') (fs := fsOf l) (g := G) hfs
    (fun b o e nm => hk b o (fun hm => by
        rcases List.mem_cons.mp hm with z | z
        · rw [z, hL] at e; cases e
        · exact nm z) (fun hx => by rw [(hX b hx).1] at e; cases e) (F.keep b o e))
    (fun b o e hm => hs b o (List.mem_cons_of_mem _ hm) (F.keep b o e))
  refine ⟨_, T, fun b o e => T.other b o (B0 b o e) (fun hm => by rw [(BF.mem hm).1] at e; cases e), BF.of_keeps (fun b o e _ => ?_), ⟨ns_slots F.ns (fun o ho => hs L o (List.mem_cons_self ..) ho), S, by rw [T.size]; exact F.above⟩, fun p hp hx => ?_⟩
  · obtain ⟨sl, hs⟩ := T.up e
    exact ⟨_, hs, rfl⟩
  · obtain ⟨p1, p2, p3⟩ := N p hp
    refine ⟨hk p.1 p.2 (fun hm => ?_) hx p1, p2, T.none_ _ p3⟩
    rcases List.mem_cons.mp hm with z | z
    · exact p2 z
    · obtain ⟨o, ho⟩ := hfs _ z
      rw [p3] at ho; cases ho

/-- what is known of a held exception: e its object, T its head entry, c its context -/
structure ExcO (oe oT : Obj) (T : Addr) (c fl : Value) : Prop where
  cls : oe.cls = .type "IndexError"
  flds : ∃ ve, oe.data = .fields ve ∧ ve[1]? = some (.ref T) ∧ ve[2]? = some c
  tb : ∃ vt, oT.data = .fields vt ∧ vt[3]? = some fl

section
variable {M : Model} {A : Around} {E : Value → Shared → Prop} {s : Shared} {base G : Heap} {env : Env} {l : List Env} {L e : Addr} {m : Str → Option Value} {own : List (Addr × Obj)} {oe : Obj} {Q : Unit → Shared → Prop}

theorem note_new {ve : Array Value} {c : Value} (hA : A.frames = some (env :: l)) (hf : env.frame = some L) (hkm : env.scope.kind ≠ .module)
    (B0 : base.StaysIn G) (BF : G.FunFrames base l) (F : Fr G L s.heap m) (N : News G L s.heap ((e, oe) :: own)) (hne : ∀ p ∈ own, p.1 ≠ e)
    (hcls : oe.cls = .type "IndexError") (hd : oe.data = .fields ve) (h1 : ve[1]? = some .none) (h2 : ve[2]? = some c)
    (k : ∀ G' h' T oT oe', KtsTurn (fsOf l) G G' → base.StaysIn G' → G'.FunFrames base l → Fr G' L h' m → ExcO oe' oT T c (rawInt L) →
      News G' L h' ((T, oT) :: (e, oe') :: own) → (∀ p ∈ (e, oe') :: own, p.1 ≠ T) → Q () { s with heap := h' }) :
    wpAny M A (noteFrame (.ref e) env) Q E s := by
  have he := (N _ (List.mem_cons_self ..)).1
  have heL := (N _ (List.mem_cons_self ..)).2.1
  have heG := (N _ (List.mem_cons_self ..)).2.2
  have hsz : 1 < ve.size := (Array.getElem?_eq_some_iff.mp h1).1
  obtain ⟨oL, esL, epL, hL, hLd, _⟩ := F.ns
  have hbL : base.get? L = none := by
    cases q : base.get? L with
    | none => rfl
    | some o => have := B0 L o q; rw [fr_base F] at this; cases this
  have hl : s.heap.FunFrames base (env :: l) := ⟨hkm, ⟨L, oL, hf, hbL, hL, fun vs q => by rw [hLd] at q; cases q⟩, BF.of_keeps fun b o hb _ => ⟨o, F.keep b o hb, rfl⟩⟩
  have hfsL : (env :: l).filterMap (·.frame) = L :: fsOf l := by rw [List.filterMap_cons, hf]
  have hene : e ∉ L :: fsOf l := fun hm => by
    rw [← hfsL] at hm
    obtain ⟨_, o, ho, hnf⟩ := hl.mem hm
    rw [he] at ho; injection ho with ho; subst ho; exact hnf ve hd
  unfold noteFrame
  simp only [hf]
  refine wpAny_bind (wpAny_field he hd (x := .none) h1 ?_)
  rw [if_neg (by decide)]
  refine wpAny_bind (wpAny_frameOf_fun hA hl hf fun h₁ hs₁ => ?_)
  rw [hfsL] at hs₁
  refine wpAny_bind (wpAny_entryPlaceOf fun pl hpl => ?_)
  unfold EntryCells.newEntry newFields
  refine wpAny_bind (wpAny_newObj_type ?_ (hpl.sizeOk5 _ _ _ _ _))
  have he₁ : h₁.get? e = some oe := (hs₁.2.1 e hene).trans he
  have he₂ := Heap.get?_push_of_some (h := h₁) { cls := .type "traceback", dict := none, data := .fields ([Value.none, .ref L, .none, rawInt L, .none] ++ (if pl.isEmpty then List.replicate 6 Value.none else pl)).toArray } he₁
  refine wpAny_setField he₂ hd hsz ?_
  have hTe : h₁.objs.size ≠ e := Nat.ne_of_gt (Heap.lt_size he₁)
  have hd₃ := Obj.data_mapFields hd (·.setIfInBounds 1 (Value.ref h₁.objs.size))
  have he₃ := Heap.get?_update_self (Obj.mapFields (·.setIfInBounds 1 (Value.ref h₁.objs.size))) he₂ (Obj.isFreed_of_fields hd₃)
  have hT₃ := (Heap.get?_update_other (h₁.push { cls := .type "traceback", dict := none, data := .fields ([Value.none, .ref L, .none, rawInt L, .none] ++ (if pl.isEmpty then List.replicate 6 Value.none else pl)).toArray })
    (Obj.mapFields (·.setIfInBounds 1 (Value.ref h₁.objs.size))) (Ne.symm hTe)).trans (Heap.get?_push_size h₁ rfl)
  have keep : ∀ b o, b ≠ e → h₁.get? b = some o →
      ((h₁.push { cls := .type "traceback", dict := none, data := .fields ([Value.none, .ref L, .none, rawInt L, .none] ++ (if pl.isEmpty then List.replicate 6 Value.none else pl)).toArray }).update e (Obj.mapFields (·.setIfInBounds 1 (Value.ref h₁.objs.size)))).get? b = some o :=
    fun b o hbe hb => by
      rw [Heap.get?_update_other _ _ (Ne.symm hbe)]
      exact Heap.get?_push_of_some _ hb
  obtain ⟨G', T', S', BF', F', NN⟩ := turn_base (h' := (h₁.push { cls := .type "traceback", dict := none, data := .fields ([Value.none, .ref L, .none, rawInt L, .none] ++ (if pl.isEmpty then List.replicate 6 Value.none else pl)).toArray }).update e (Obj.mapFields (·.setIfInBounds 1 (Value.ref h₁.objs.size)))) (X := [e]) B0 BF F N
    (fun x hx => by rw [List.mem_singleton.mp hx]; exact ⟨heG, heL⟩)
    (fun b o h1 h2 hb => keep b o (fun q => h2 (by rw [q]; exact List.mem_cons_self ..)) ((hs₁.2.1 b h1).trans hb))
    (fun b o h1 hb => by
      obtain ⟨sl, hsl⟩ := hs₁.2.2 b o hb
      exact ⟨sl, keep b _ (fun q => hene (q ▸ h1)) hsl⟩)
  have hTG : G'.get? h₁.objs.size = none := by
    refine T'.none_ _ (news_none F ?_)
    exact Heap.get?_none_of_le (Nat.le_of_eq hs₁.1.symm)
  have hTL : h₁.objs.size ≠ L := by
    rw [hs₁.1]; exact Nat.ne_of_gt (Heap.lt_size hL)
  have hvt : ([Value.none, .ref L, .none, rawInt L, .none] ++ (if pl.isEmpty then List.replicate 6 Value.none else pl)).toArray[3]? = some (rawInt L) := rfl
  refine k G' _ h₁.objs.size { cls := .type "traceback", dict := none, data := .fields ([Value.none, .ref L, .none, rawInt L, .none] ++ (if pl.isEmpty then List.replicate 6 Value.none else pl)).toArray } (oe.mapFields (·.setIfInBounds 1 (Value.ref h₁.objs.size))) T' S' BF' F' ⟨?_, ⟨_, hd₃, by simp [hsz], by rw [Array.getElem?_setIfInBounds_ne (by decide)]; exact h2⟩, ⟨_, rfl, hvt⟩⟩ (fun p hp => ?_) (fun p hp => ?_)
  · rw [Obj.cls_mapFields]; exact hcls
  · rcases List.mem_cons.mp hp with rfl | hp
    · exact ⟨hT₃, hTL, hTG⟩
    · rcases List.mem_cons.mp hp with rfl | hp
      · exact ⟨he₃, heL, T'.none_ _ heG⟩
      · exact NN p (List.mem_cons_of_mem _ hp) (fun hx => hne p hp (List.mem_singleton.mp hx))
  · rcases List.mem_cons.mp hp with rfl | hp
    · exact Ne.symm hTe
    · intro q
      have := (N p (List.mem_cons_of_mem _ hp)).1
      rw [q, Heap.get?_none_of_le (Nat.le_of_eq hs₁.1.symm)] at this
      cases this

theorem upd_at {G h : Heap} {L T : Addr} {m : Str → Option Value} {own : List (Addr × Obj)} {oT : Obj} {f : Obj → Obj} (F : Fr G L h m) (N : News G L h ((T, oT) :: own)) (hf : (f oT).isFreed = false) (hne : ∀ p ∈ own, p.1 ≠ T) :
    Fr G L (h.update T f) m ∧ News G L (h.update T f) ((T, f oT) :: own) := by
  obtain ⟨t1, t2, t3⟩ := N _ (List.mem_cons_self ..)
  refine ⟨⟨?_, fun b o e => ?_, F.above⟩, fun p hp => ?_⟩
  · obtain ⟨o, es, ep, ho, r⟩ := F.ns
    exact ⟨o, es, ep, by rw [Heap.get?_update_other _ _ t2]; exact ho, r⟩
  · rw [Heap.get?_update_other _ _ (fun q => by rw [q] at t3; rw [e] at t3; cases t3)]
    exact F.keep b o e
  · rcases List.mem_cons.mp hp with rfl | hp
    · exact ⟨Heap.get?_update_self f t1 hf, t2, t3⟩
    · obtain ⟨p1, p2, p3⟩ := N p (List.mem_cons_of_mem _ hp)
      exact ⟨by rw [Heap.get?_update_other _ _ (Ne.symm (hne p hp))]; exact p1, p2, p3⟩

theorem flight {oT : Obj} {T : Addr} {c fl : Value} {fr : Option Addr} (F : Fr G L s.heap m) (X : ExcO oe oT T c fl) (N : News G L s.heap ((T, oT) :: (e, oe) :: own)) (hne : ∀ p ∈ (e, oe) :: own, p.1 ≠ T)
    (k : ∀ h' oT', ExcO oe oT' T c (fr.elim .none fun f => rawInt f) → Fr G L h' m → News G L h' ((T, oT') :: (e, oe) :: own) → Q () { s with heap := h' }) :
    wpAny M A (setFlight (.ref e) fr) Q E s := by
  obtain ⟨hc, ⟨ve, hd, h1, h2⟩, ⟨vt, ht, h3⟩⟩ := X
  have he := (N _ (List.mem_cons_of_mem _ (List.mem_cons_self ..))).1
  have hT := (N _ (List.mem_cons_self ..)).1
  have hsz : 3 < vt.size := (Array.getElem?_eq_some_iff.mp h3).1
  unfold setFlight
  refine wpAny_bind (wpAny_field he hd h1 ?_)
  rw [if_pos (by simp)]
  refine wpAny_setField hT ht hsz ?_
  have hd₃ := Obj.data_mapFields ht (·.setIfInBounds 3 (fr.elim .none fun f => rawInt f))
  obtain ⟨F', N'⟩ := upd_at (f := Obj.mapFields (·.setIfInBounds 3 (fr.elim .none fun f => rawInt f))) F N (Obj.isFreed_of_fields hd₃) hne
  exact k _ _ ⟨hc, ⟨ve, hd, h1, h2⟩, ⟨_, hd₃, by simp [hsz]⟩⟩ F' N'

theorem note_again {oT : Obj} {T : Addr} {c : Value} (hf : env.frame = some L) (X : ExcO oe oT T c (rawInt L)) (N : News G L s.heap ((T, oT) :: (e, oe) :: own)) (k : Q () s) :
    wpAny M A (noteFrame (.ref e) env) Q E s := by
  obtain ⟨hc, ⟨ve, hd, h1, h2⟩, ⟨vt, ht, h3⟩⟩ := X
  have he := (N _ (List.mem_cons_of_mem _ (List.mem_cons_self ..))).1
  have hT := (N _ (List.mem_cons_self ..)).1
  unfold noteFrame
  simp only [hf]
  refine wpAny_bind (wpAny_field he hd h1 ?_)
  rw [if_pos (by simp)]
  refine wpAny_bind (wpAny_field hT ht h3 ?_)
  rw [if_pos (by simp)]
  exact wpAny_pure k

theorem pass_on {oT : Obj} {T : Addr} {c fl : Value} {α : Type} {what : String} {Q : α → Shared → Prop} (hf : env.frame = some L) (F : Fr G L s.heap m) (X : ExcO oe oT T c fl) (N : News G L s.heap ((T, oT) :: (e, oe) :: own)) (hne : ∀ p ∈ (e, oe) :: own, p.1 ≠ T)
    (k : ∀ h' oT', ExcO oe oT' T c (rawInt L) → Fr G L h' m → News G L h' ((T, oT') :: (e, oe) :: own) → E (.ref e) { s with heap := h' }) :
    wpAny M A (PySem.passOn what (.ref e) env : Sem α) Q E s := by
  obtain ⟨ve, hd, h1, h2⟩ := X.flds
  have he := (N _ (List.mem_cons_of_mem _ (List.mem_cons_self ..))).1
  unfold PySem.passOn
  refine wpAny_bind (wpAny_field he hd h1 ?_)
  rw [if_neg (show ¬ ((Value.ref T == Value.none) = true) from by simp)]
  have h := flight (M := M) (A := A) (E := E) (Q := fun _ s' => E (.ref e) s') (fr := env.frame) F X N hne (fun h' oT' X' F' N' => by
    rw [hf] at X'
    exact k h' oT' X' F' N')
  first
    | exact wpAny_bind (wpAny_pure (wpAny_bind (wpAny_mono h (fun _ _ x => wpAny_throw x) fun _ _ x => x)))
    | exact wpAny_bind (wpAny_mono h (fun _ _ x => wpAny_throw x) fun _ _ x => x)

theorem came_back {oT : Obj} {T : Addr} {c fl : Value} (hf : env.frame = some L) (F : Fr G L s.heap m) (X : ExcO oe oT T c fl) (N : News G L s.heap ((T, oT) :: (e, oe) :: own)) (hne : ∀ p ∈ (e, oe) :: own, p.1 ≠ T)
    (k : ∀ h' oT', ExcO oe oT' T c (rawInt L) → Fr G L h' m → News G L h' ((T, oT') :: (e, oe) :: own) → E (.ref e) { s with heap := h' }) :
    cameBackBy M A env E (.ref e) s := by
  obtain ⟨ve, hd, h1, h2⟩ := X.flds
  have he := (N _ (List.mem_cons_of_mem _ (List.mem_cons_self ..))).1
  unfold cameBackBy
  refine wpAny_bind (wpAny_field he hd h1 ?_)
  rw [if_neg (show ¬ ((Value.ref T == Value.none) = true) from by simp)]
  have h := flight (M := M) (A := A) (E := E) (Q := fun _ s' => E (.ref e) s') (fr := env.frame) F X N hne (fun h' oT' X' F' N' => by
    rw [hf] at X'
    exact k h' oT' X' F' N')
  first
    | exact h
    | exact wpAny_bind (wpAny_pure h)
    | exact wpAny_bind h
end

section
variable {prog : Program} {w : World} {A : Around} {E : Value → Shared → Prop} {s : Shared} {G : Heap} {name : Str} {scope : Scope} {cd : Value} {L a e : Addr} {m : Str → Option Value} {own : List (Addr × Obj)} {oe oT : Obj} {T : Addr} {c fl : Value} {Q : Flow → Shared → Prop}
  {p : Program} {loose : List Str} {mean : ExcName → Option Value} {mg mb : Str → Option Value} {np pos : Pos} {b₀ : Stmt} {suite : List Stmt} {rest : List ExceptHandler}

theorem name_index (F : Fr G L s.heap m) (TT : Top p loose mean mg mb G) (t1 : Str.ofString "IndexError" ∉ startupNames) (t2 : Str.ofString "IndexError" ∉ loose) (t3 : Str.ofString "IndexError" ∉ (recsOf p).map (·.name)) (t4 : Str.ofString "IndexError" ∉ (litsOf p).map (·.1)) (t5 : Str.ofString "IndexError" ∉ (clssOf p loose).map (·.name))
    (hk : scope.kind = .function) (hxk : (envOf name scope L a cd).kindOf (Str.ofString "IndexError") = some .globalImplicit) {A : Around} {Q : Value → Shared → Prop} (h : Q (.type "IndexError") s) :
    wpAny (model prog w) A (eval (.Name (Str.ofString "IndexError") np) (envOf name scope L a cd)) Q E s :=
  PyProof.Rows.TT.class_top (prog := prog) (w := w) F TT t1 t2 t3 t4 t5 (by decide +kernel) h (by decide) hk hxk (by decide)

theorem clause (F : Fr G L s.heap m) (X : ExcO oe oT T c fl) (N : News G L s.heap ((T, oT) :: (e, oe) :: own)) (hne : ∀ p ∈ (e, oe) :: own, p.1 ≠ T)
    (hname : ∀ {A : Around} {E : Value → Shared → Prop} {Q : Value → Shared → Prop}, Q (.type "IndexError") s → wpAny (model prog w) A (eval (.Name (Str.ofString "IndexError") np) (envOf name scope L a cd)) Q E s)
    (k : ∀ h', Fr G L h' m → News G L h' own → wpAny (model prog w) (A.mark (some (.ref e))) (execs (b₀ :: suite) (envOf name scope L a cd)) Q (fun _ _ => False) { s with heap := h' }) :
    wpAny (model prog w) A (handleBy (.ref e) (envOf name scope L a cd) (.ExceptHandler (some (.Name (Str.ofString "IndexError") np)) none (b₀ :: suite) pos :: rest)) Q E s := by
  refine wpAny_handleBy_builtin (X := "IndexError") (T := "IndexError") (b := true) (isSubtype_of_subB (by decide +kernel)) (isSubtype_of_subB (by decide +kernel)) (isSubtype_of_subB (by decide +kernel)) (hname ⟨rfl, ?_, ?_⟩)
  · have he := (N _ (List.mem_cons_of_mem _ (List.mem_cons_self ..))).1
    exact ⟨oe, he, X.cls⟩
  · rw [if_pos rfl]
    refine flight F X N hne fun h' oT' X' F' N' => ?_
    refine wpAny_mono (k h' F' fun p hp => N' p (List.mem_cons_of_mem _ (List.mem_cons_of_mem _ hp))) (fun _ _ x => x) fun _ _ x => x.elim
end
end Mine
end
section
open PySem PySem.W PyProof.Rows PySem.Calls
set_option maxRecDepth 100000
set_option maxHeartbeats 400000
namespace Mine

structure NewI (h h' : Heap) (e : Addr) (c : Value) : Prop where
  keeps : ∀ b o, h.get? b = some o → h'.get? b = some o
  new : h.get? e = none
  there : ∃ ob t, h'.get? e = some ob ∧ ob.cls = .type "IndexError" ∧ ob.data = .fields #[t, .none, c, .none, .bool false, .none]

/-- how a raise stands: nothing is handled, or an exception whose chain ends at once -/
def Stands (A : Around) (h : Heap) (c : Value) : Prop :=
  (A.handled = none ∧ c = .none) ∨ ∃ e1 o1 v1, A.handled = some (.ref e1) ∧ h.get? e1 = some o1 ∧ o1.data = .fields v1 ∧ v1[2]? = some .none ∧ c = .ref e1

theorem entry_unchain : entryFor table "proto.unchain" = some Builtin.«proto.unchain» := entryFor_of_tree (by kernel_rfl)

section
variable {α : Type} {prog : Program} {w : World} {A : Around} {E : Value → Shared → Prop} {s : Shared} {c : Value}

theorem raise_marked {e1 a : Addr} {o1 oa : Obj} {v1 va : Array Value} {Q : α → Shared → Prop} (hh : A.handled = some (.ref e1)) (ho : s.heap.get? e1 = some o1) (hd : o1.data = .fields v1) (h2 : v1[2]? = some .none) (hne : e1 ≠ a)
    (ha : s.heap.get? a = some oa) (hda : oa.data = .fields va) (hsz : 2 < va.size) (h : E (.ref a) { s with heap := s.heap.update a (Obj.mapFields (·.setIfInBounds 2 (.ref e1))) }) :
    wpAny (model prog w) A (raiseNew (.ref a) : Sem α) Q E s := by
  unfold raiseNew
  refine wpAny_bind (wpAny_handled ?_)
  rw [hh]
  have hne' : ((Value.ref e1 != Value.ref a) = true) := by
    simp only [bne_iff_ne, ne_eq, Value.ref.injEq]
    exact hne
  show wpAny _ _ (if (Value.ref e1 != Value.ref a) = true then _ else _) _ _ _
  rw [if_pos hne']
  refine wpAny_bind (wpAny_holding (wpAny_runValue (codeAny_builtin entry_unchain ?_)))
  show wpAny _ _ (field (.ref e1) 2 >>= _) _ _ _
  refine wpAny_bind (wpAny_field ho hd h2 ?_)
  rw [if_pos (by decide)]
  refine wpAny_bind (wpAny_pure (wpAny_pure ?_))
  refine wpAny_bind (wpAny_setField (a := a) (i := 2) (x := .ref e1) ha hda hsz ?_)
  exact wpAny_throw h

theorem raise_words {msg : String} {Q : α → Shared → Prop} (hS : Stands A s.heap c) (h : ∀ h' tk e, NewI s.heap h' e c → E (.ref e) { s with heap := h', toks := tk }) :
    wpAny (model prog w) A (raiseErrorWords "IndexError" msg : Sem α) Q E s := by
  unfold raiseErrorWords
  refine wpAny_bind (wpAny_mkText (wpAny_bind ?_))
  unfold newExc newTuple
  refine wpAny_bind (wpAny_newObj_type ?_)
  refine wpAny_bind (m := firstArgMember _ _) (wpAny_of_eq (a := Value.none) (by simp only [firstArgMember, plainExc_IndexError.first]; rfl) ?_)
  rw [plainExc_IndexError.own]
  refine wpAny_newObj_type ?_
  rcases hS with ⟨hh, rfl⟩ | ⟨e1, o1, v1, hh, ho, hd, h2, rfl⟩
  · unfold raiseNew
    refine wpAny_bind (wpAny_handled ?_)
    rw [hh]
    first
      | refine wpAny_throw ?_
      | refine wpAny_bind (wpAny_pure (wpAny_throw ?_))
    exact h _ _ _ ⟨fun b o hb => Heap.get?_push_of_some _ (Heap.get?_push_of_some _ hb), Heap.get?_none_of_le (by simp), _, .ref s.heap.objs.size, Heap.get?_push_size _ rfl, rfl, by simp⟩
  · refine raise_marked hh (Heap.get?_push_of_some _ (Heap.get?_push_of_some _ ho)) hd h2 (fun q => ?_) (Heap.get?_push_size _ rfl) rfl (by simp) (h _ _ _ ⟨fun b o hb => ?_, Heap.get?_none_of_le (by simp), _, .ref s.heap.objs.size, Heap.get?_update_self _ (Heap.get?_push_size _ rfl) rfl, rfl, rfl⟩)
    · have := Heap.lt_size ho
      rw [q] at this
      simp at this
      exact Nat.lt_irrefl _ (Nat.lt_of_succ_lt this)
    · have hlt := Heap.lt_size hb
      rw [Heap.get?_update_other _ _ (fun q => by rw [← q] at hlt; simp at hlt; exact Nat.lt_irrefl _ (Nat.lt_of_succ_lt hlt))]
      exact Heap.get?_push_of_some _ (Heap.get?_push_of_some _ hb)
end

section
variable {prog : Program} {w : World} {A : Around} {E : Value → Shared → Prop} {s : Shared} {c : Value}
theorem getItem_out {l : Addr} {items : Array Value} {n : Nat} {k : Int} {t : Tok} {Q : Value → Shared → Prop} (hS : Stands A s.heap c) (hl : s.heap.IsList l items)
    (hk : k = (n : Int)) (hout : items.size ≤ n) (hhi : k < 2 ^ 63)
    (hE : ∀ h' tk e, NewI s.heap h' e c → E (.ref e) { s with heap := h', toks := tk }) :
    wpAny (model prog w) A (getItem (.ref l) (.int k t)) Q E s := by
  obtain ⟨o, ho, hc, ne, hd⟩ := id hl
  unfold getItem
  try with_reducible refine wpAny_holding ?_
  first | refine wpAny_bind (wpAny_pure ?_) | skip
  refine wpAny_bind (wpAny_sequenceKey hl.typeIs (by decide) ?_)
  refine wpAny_bind (wpAny_callSpecial?_slot (name := Str.ofString "__getitem__") hl.typeIs slot_list_getitem
    (wpAny_call_entry slot_list_getitem hl.typeIs entry_list_getitem ?_ (args_list_getitem _ _)))
  show wpAny _ _ (Builtin.List.listSubscript? (.int k t) >>= _) _ _ s
  refine wpAny_bind (wpAny_listSubscript_int (fitsIndex_both (by omega) hhi) ?_)
  clear hhi
  subst hk
  have hx : items[n]? = none := Array.getElem?_eq_none hout
  show wpAny _ _ ((seqItemAt l n >>= fun r => pure (r.map (n, ·))) >>= _) _ _ s
  refine wpAny_bind (wpAny_bind (wpAny_seqItemAt ho hd (wpAny_pure ?_)))
  rw [hx]
  first
    | exact wpAny_bind (wpAny_rule (raise_words hS hE))
    | exact wpAny_bind (wpAny_rule (wpAny_bind (raise_words hS hE)))
    | exact wpAny_bind (wpAny_bind (wpAny_rule (raise_words hS hE)))
    | exact wpAny_rule (raise_words hS hE)
end
end Mine
end
section
open PySem PySem.W PyProof.Rows PySem.Calls
set_option maxRecDepth 100000
set_option maxHeartbeats 400000
namespace Mine

/-- the call's way back: what the callee has made (own), the callers' frames turned by their slots -/
def Back (base h₀ : Heap) (l : List Env) (L : Addr) (m : Str → Option Value) (news : List (Addr × Obj)) (g : Heap) (L' : Addr) (Q : Value → Shared → Prop) (v : Value) (s' : Shared) : Prop :=
  ∃ G' m' own, KtsTurn (L :: fsOf l) g G' ∧ Fr G' L' s'.heap m' ∧ News G' L' s'.heap own ∧
    ∀ h₀', KtsTurn (fsOf l) h₀ h₀' → base.StaysIn h₀' → h₀'.FunFrames base l → Fr h₀' L s'.heap m → News h₀' L s'.heap (own ++ news) → (∀ p ∈ own, ∀ q ∈ news, p.1 ≠ q.1) → Q v s'

theorem enter {prog : Program} {w : World} {A : Around} {E : Value → Shared → Prop} {s : Shared} {base h₀ : Heap} {l : List Env} {envC : Env} {L : Addr} {m : Str → Option Value} {news : List (Addr × Obj)} {K : Frag} {Q : Value → Shared → Prop}
    {name qual : Str} {params : Arguments} {body : List Stmt} {scope : Scope} {dV kV doc pm cdv ct oc : Value} {an od : Option Addr} {osl : Array (Option Value)} {f : Addr} {args : List Value} {binds : List (Str × Value)}
    (B0 : base.StaysIn h₀) (BF : h₀.FunFrames base l) (hfC : envC.frame = some L) (hkC : envC.scope.kind ≠ .module)
    (F : Fr h₀ L s.heap m) (N : News h₀ L s.heap news) (X : K.In base) (lim : base.NoLimit)
    (ho : K.lookup f = some ⟨oc, od, .func (fnOf name qual params body scope dV kV doc pm an cdv ct), osl⟩) (hcd : codeIn K cdv qual = true) (hroom : A.depth < recursionLimit)
    (hbind : BindsTo s (fnOf name qual params body scope dV kV doc pm an cdv ct) ⟨args, []⟩ binds) (hloc : ∀ y ∈ binds, scope.names.lookup y.1 = some .local)
    (h : ∀ h₁, base.StaysIn s.heap → s.heap.FunFrames base (envC :: l) → Fr s.heap s.heap.objs.size h₁ (fun y => binds.reverse.lookup y) →
      wpAny (model prog w) (A.deeper (envOf qual scope s.heap.objs.size f cdv)) (execs body (envOf qual scope s.heap.objs.size f cdv))
        (fun fl s' => Back base h₀ l L m news s.heap s.heap.objs.size Q (match fl with | .ret v => v | _ => .none) s') (fun _ _ => False)
        { s with heap := h₁, toks := s.toks + binds.length })
    (hco : scope.isCoroutine = false) (hgen : scope.isGenerator = false) (hk : scope.kind = .function) (hcell : ∀ x ∈ scope.names, x.2 ≠ .cell) :
    wpAny (model prog w) A (call (.ref f) args) Q E s := by
  have st : base.StaysIn s.heap := fun b o e => F.keep b o (B0 b o e)
  refine wpAny_call ?_
  refine codeAny_call_def (fd := fnOf name qual params body scope dV kV doc pm an cdv ct) (body := body) (binds := binds) hroom ((X.keeps st) _ _ ho) rfl (lim.keeps st) (codeRec_of (X.keeps st) hcd) rfl hbind hcell hloc (fun h₁ hns hk₁ => ?_) hco hgen hk
  obtain ⟨oL, esL, epL, hL, hLd, _⟩ := F.ns
  have hbL : base.get? L = none := by
    cases q : base.get? L with
    | none => rfl
    | some o => have := B0 L o q; rw [fr_base F] at this; cases this
  have BF' : s.heap.FunFrames base (envC :: l) := ⟨hkC, ⟨L, oL, hfC, hbL, hL, fun vs q => by rw [hLd] at q; cases q⟩, BF.of_keeps fun b o hb _ => ⟨o, F.keep b o hb, rfl⟩⟩
  refine wpAny_mono (h h₁ st BF' ⟨hns, hk₁, Nat.le_refl _⟩) (fun fl s' hb => ?_) fun _ _ x => x.elim
  obtain ⟨G', m', own, T, F', N', k⟩ := hb
  have up : ∀ b o, s.heap.get? b = some o → ∃ sl, s'.heap.get? b = some { o with slots := sl } := fun b o e => by
    obtain ⟨sl, hs⟩ := T.up e
    exact ⟨sl, F'.keep _ _ hs⟩
  obtain ⟨h₀', T₀, S₀, BF₀, F₀, NN⟩ := turn_base (h' := s'.heap) (X := []) B0 BF F N (fun x hx => nomatch hx)
    (fun b o h1 _ hb => F'.keep b o (T.other b o hb h1)) (fun b o _ hb => up b o hb)
  have fresh : ∀ p ∈ own, s.heap.get? p.1 = none := fun p hp => by
    cases q : s.heap.get? p.1 with
    | none => rfl
    | some o =>
      obtain ⟨sl, hs⟩ := T.up q
      rw [(N' p hp).2.2] at hs
      cases hs
  refine k h₀' T₀ S₀ BF₀ F₀ (fun p hp => ?_) (fun p hp q hq e => ?_)
  · rcases List.mem_append.mp hp with hp | hp
    · refine ⟨(N' p hp).1, fun e => ?_, T₀.none_ _ (news_none F (fresh p hp))⟩
      have := fresh p hp
      rw [e, hL] at this
      cases this
    · exact NN p hp (fun hx => nomatch hx)
  · have h1 := fresh p hp
    rw [e, (N q hq).1] at h1
    cases h1

section
variable {prog : Program} {w : World} {A : Around} {E : Value → Shared → Prop} {s : Shared} {G : Heap} {L : Addr} {m : Str → Option Value} {own : List (Addr × Obj)} {c : Value}
theorem item_str {value slice : Expr} {xs : List Str} {vs : List Value} {l : Addr} {n : Nat} {k : Int} {u : Tok} {Q : Value → Shared → Prop} (F : Fr G L s.heap m) (N : News G L s.heap own) (hl : s.heap.IsList l vs.toArray) (hS : StrsAre vs xs) (hk : k = (n : Int)) (hhi : k < 2 ^ 63) (hSt : Stands A s.heap c)
    (hin : ∀ x t, xs[n]? = some x → Q (.str x t) s)
    (hout : xs.length ≤ n → ∀ h' tk e oe ve, Fr G L h' m → oe.cls = .type "IndexError" → oe.data = .fields ve → ve[1]? = some .none → ve[2]? = some c → News G L h' ((e, oe) :: own) → (∀ p ∈ own, p.1 ≠ e) → E (.ref e) { s with heap := h', toks := tk })
    (hs : subscripted slice false (.ref l) (.int k u) = operate [.ref l, .int k u] (getItem (.ref l) (.int k u)) := by with_unfolding_all rfl) :
    wpAny (model prog w) A (subscriptTail value slice (.ref l) (.int k u)) Q E s := by
  have hlen := hS.len_eq
  refine tail_any hl.typeIs slot_list_getitem.lookup ?_ hs
  by_cases hn : n < xs.length
  · obtain ⟨x, hx⟩ : ∃ x, xs[n]? = some x := ⟨xs[n], by simp [hn]⟩
    obtain ⟨t, ht⟩ := hS.get n x hx
    have hkn : k.toNat = n := by omega
    exact wpAny_getItem_list hl (by omega) hhi (by rw [hkn]; simpa using ht) (hin x t hx)
  · refine getItem_out hSt hl hk (by simpa [hlen] using hn) hhi fun h' tk e x => ?_
    obtain ⟨ob, t, he, hc, hd⟩ := x.there
    obtain ⟨oL, esL, epL, hL, r⟩ := F.ns
    refine hout (by omega) h' tk e ob _ ⟨⟨oL, esL, epL, x.keeps _ _ hL, r⟩, fun b o e => x.keeps _ _ (F.keep b o e), F.above⟩ hc hd rfl rfl (fun p hp => ?_) (fun p hp q => ?_)
    · rcases List.mem_cons.mp hp with rfl | hp
      · refine ⟨he, fun q => ?_, news_none F x.new⟩
        have q' : e = L := q
        have := x.new
        rw [q', hL] at this
        cases this
      · exact ⟨x.keeps _ _ (N p hp).1, (N p hp).2⟩
    · have := (N p hp).1
      rw [q, x.new] at this
      cases this
end
end Mine
end
section
open PySem PySem.W PyProof.Rows PySem.Calls
set_option maxRecDepth 100000
set_option maxHeartbeats 400000
namespace Mine
section
variable {prog : Program} {w : World} {A : Around} {E : Value → Shared → Prop} {s : Shared} {G : Heap} {L : Addr} {m : Str → Option Value} {own : List (Addr × Obj)} {c : Value}
theorem item_k {value slice : Expr} {xs : List Str} {vs : List Value} {l : Addr} {k : Int} {u : Tok} {Q : Value → Shared → Prop} (F : Fr G L s.heap m) (N : News G L s.heap own) (hl : s.heap.IsList l vs.toArray) (hS : StrsAre vs xs) (hk : 0 ≤ k) (hhi : k < 2 ^ 63) (hSt : Stands A s.heap c)
    (hin : ∀ x t, xs[k.toNat]? = some x → Q (.str x t) s)
    (hout : (xs.length : Int) ≤ k → ∀ h' tk e oe ve, Fr G L h' m → oe.cls = .type "IndexError" → oe.data = .fields ve → ve[1]? = some .none → ve[2]? = some c → News G L h' ((e, oe) :: own) → (∀ p ∈ own, p.1 ≠ e) → E (.ref e) { s with heap := h', toks := tk })
    (hs : subscripted slice false (.ref l) (.int k u) = operate [.ref l, .int k u] (getItem (.ref l) (.int k u)) := by with_unfolding_all rfl) :
    wpAny (model prog w) A (subscriptTail value slice (.ref l) (.int k u)) Q E s :=
  item_str F N hl hS (Int.toNat_of_nonneg hk).symm hhi hSt hin (fun h => hout (by omega)) hs
end
def Hold (P : Prop) : Prop := P
theorem hold {P : Prop} (h : Hold P) : P := h

section
variable {prog : Program} {w : World} {A : Around} {E : Value → Shared → Prop} {env : Env} {test : PySem.Expr} {body orelse : List Stmt} {Q : Flow → Shared → Prop}
theorem whl_ind {α : Type} (I : α → Shared → Prop) (μ : α → Nat) (hE : PassesOwn (model prog w) A env E)
    (step : ∀ x s, I x s → (∀ y s', μ y < μ x → I y s' → WhlRest prog w A E env test body orelse Q 0 s') →
      wpAny (model prog w) A (isTrue test env (eval test env)) (fun b s₂ => WhlIf b (wpAny (model prog w) A (execs body env) (WhlPost prog w A E env test body orelse Q 0) E s₂) (wpAny (model prog w) A (execs orelse env) Q E s₂)) E s) :
    ∀ x s, I x s → WhlRest prog w A E env test body orelse Q 0 s := by
  have key : ∀ n x s, μ x ≤ n → I x s → WhlRest prog w A E env test body orelse Q 0 s := by
    intro n
    induction n with
    | zero =>
      intro x s hx hI
      exact whl_turn (k := 0) hE (step x s hI fun y s' hy _ => absurd (Nat.lt_of_lt_of_le hy hx) (Nat.not_lt_zero _))
    | succ n ih =>
      intro x s hx hI
      exact whl_turn (k := 0) hE (step x s hI fun y s' hy hI' => ih y s' (Nat.le_of_lt_succ (Nat.lt_of_lt_of_le hy hx)) hI')
  exact fun x s hI => key _ x s (Nat.le_refl _) hI
end

theorem isList_turn {fs : List Addr} {G G' : Heap} {a : Addr} {its : Array Value} (T : KtsTurn fs G G') (h : G.IsList a its) : G'.IsList a its := by
  obtain ⟨o, ho, hc, n, hd⟩ := h
  obtain ⟨sl, hs⟩ := T.up ho
  exact ⟨_, hs, hc, n, hd⟩
theorem isList_up {G h : Heap} {L a : Addr} {m : Str → Option Value} {its : Array Value} (F : Fr G L h m) (x : G.IsList a its) : h.IsList a its := by
  obtain ⟨o, ho, r⟩ := x
  exact ⟨o, F.keep _ _ ho, r⟩

/-- the words of sorted_list_difference: the base G, turned from G0 -/
structure Cx (K : Frag) (p : Program) (loose : List Str) (mean : ExcName → Option Value) (mg mb : Str → Option Value) (base G0 G : Heap) (l : List Env) (la lb : Addr) (va vb : List Value) : Prop where
  turn : KtsTurn (fsOf l) G0 G
  stays : base.StaysIn G
  ff : G.FunFrames base l
  isa : G.IsList la va.toArray
  isb : G.IsList lb vb.toArray
  XB : K.In base
  TB : Top p loose mean mg mb base
section
variable {K : Frag} {p : Program} {loose : List Str} {mean : ExcName → Option Value} {mg mb : Str → Option Value} {base G0 G G' : Heap} {l : List Env} {la lb : Addr} {va vb : List Value}
theorem Cx.next (C : Cx K p loose mean mg mb base G0 G l la lb va vb) (T : KtsTurn (fsOf l) G G') (S : base.StaysIn G') (B : G'.FunFrames base l) : Cx K p loose mean mg mb base G0 G' l la lb va vb :=
  ⟨C.turn.trans T, S, B, isList_turn T C.isa, isList_turn T C.isb, C.XB, C.TB⟩
theorem Cx.X (C : Cx K p loose mean mg mb base G0 G l la lb va vb) : K.In G := C.XB.keeps C.stays
theorem Cx.T (C : Cx K p loose mean mg mb base G0 G l la lb va vb) : Top p loose mean mg mb G := C.TB.keeps C.stays
end

theorem stands0 {A : Around} {h : Heap} (hh : A.handled = none) : Stands A h .none := .inl ⟨hh, rfl⟩
theorem stands1 {A : Around} {G h : Heap} {L e T : Addr} {oe oT : Obj} {fl : Value} {own : List (Addr × Obj)} (hh : A.handled = some (.ref e)) (N : News G L h ((T, oT) :: (e, oe) :: own)) (X : ExcO oe oT T .none fl) : Stands A h (.ref e) := by
  obtain ⟨ve, hd, _, h2⟩ := X.flds
  exact .inr ⟨e, oe, ve, hh, (N _ (List.mem_cons_of_mem _ (List.mem_cons_self ..))).1, hd, h2, rfl⟩

/-- strictly rising -/
abbrev Rising (xs : List Str) : Prop := xs.Pairwise (fun x y => x.cps.toList < y.cps.toList)
theorem str_ext {x y : Str} (h : x.cps.toList = y.cps.toList) : x = y := by
  obtain ⟨⟨l⟩⟩ := x
  obtain ⟨⟨k⟩⟩ := y
  simp only at h
  rw [h]
theorem lt_irr (x : List Nat) : ¬ x < x := List.lt_irrefl x
theorem rising_lt {xs : List Str} (h : Rising xs) {i j : Nat} (hij : i < j) {x y : Str} (hx : xs[i]? = some x) (hy : xs[j]? = some y) : x.cps.toList < y.cps.toList := by
  obtain ⟨hi, rfl⟩ := List.getElem?_eq_some_iff.mp hx
  obtain ⟨hj, rfl⟩ := List.getElem?_eq_some_iff.mp hy
  exact List.pairwise_iff_getElem.mp h i j hi hj hij
theorem rising_ne {xs : List Str} (h : Rising xs) {i j : Int} (h0 : 0 ≤ i) (hij : i < j) {x y : Str} (hx : xs[i.toNat]? = some x) (hy : xs[j.toNat]? = some y) : y ≠ x := by
  intro e
  have := rising_lt h (show i.toNat < j.toNat by omega) hx hy
  rw [e] at this
  exact lt_irr _ this
theorem eq_no {prog : Program} {w : World} {A : Around} {E : Value → Shared → Prop} {s : Shared} {x y : Str} {t u : Tok} {Q : Value → Shared → Prop} (hne : x ≠ y) (h : Q (.bool false) s) : wpAny (model prog w) A (compareOp .Eq (.str x t) (.str y u)) Q E s := by
  refine eq_str ?_
  have : (x == y) = false := by simpa using hne
  rw [this]
  exact h
theorem pick_from (vs : List Value) {x : Int} (h : 0 ≤ x) : slicePick vs.toArray (some x) none none = (vs.drop x.toNat).toArray := by
  have e : sliceBounds (some x) none none vs.toArray.size = (((min x.toNat vs.toArray.size : Nat) : Int), ((vs.toArray.size : Nat) : Int), 1) := by
    simp only [sliceBounds, Option.getD_none, show (1 : Int) > 0 by decide, if_true, if_neg (show ¬ (x < 0) by omega)]
    congr 1
    omega
  rw [kmk_pick_nat _ e]
  show ((vs.drop (min x.toNat vs.toArray.size)).take (vs.toArray.size - min x.toNat vs.toArray.size)).toArray = _
  rw [List.size_toArray, kmk_drop_min, List.take_of_length_le (by rw [List.length_drop]; omega)]

section
variable {prog : Program} {w : World} {A : Around} {E : Value → Shared → Prop} {s : Shared} {h₀ : Heap} {L l : Addr} {m : Str → Option Value} {news : List (Addr × Obj)} {value slice : PySem.Expr} {vs : List Value} {x : Int} {t : Tok} {Q : Value → Shared → Prop}
theorem slice_from (F : Fr h₀ L s.heap m) (N : News h₀ L s.heap news) (hl : s.heap.IsList l vs.toArray) (h0 : 0 ≤ x) (hz : vs.length ≤ sizeLine)
    (h : ∀ D h', Fr h₀ L h' m → News h₀ L h' ((D, PySem.W.listOf (vs.drop x.toNat).toArray 0) :: news) → (∀ p ∈ news, p.1 < D) → Q (.ref D) { s with heap := h' })
    (hs : subscripted slice false (.ref l) (.ref s.heap.objs.size) = operate [.ref s.heap.objs.size, .ref l] (getItem (.ref l) (.ref s.heap.objs.size))) (ht : ∀ r, letTemporaryGo value (.ref l) r = pure ()) :
    wpAny (model prog w) A (subscriptTail value slice (.ref l) (.ref s.heap.objs.size)) Q E { s with heap := s.heap.push { cls := .type "slice", data := .fields #[.int x t, .none, .none] } } := by
  refine kmk_slice F N hl (.int x t) .none (fun D h' F' N' lt => h D h' F' ?_ lt) hs ht (by simpa using hz)
  rw [pick_from vs h0] at N'
  exact N'
theorem extend_any {D b : Addr} {its its2 : Array Value} {n n2 : Nat} {g : Obj → List (Addr × Obj)} {Q : Value → Shared → Prop} (F : Fr h₀ L s.heap m) (N : News h₀ L s.heap news) (hb : (b, PySem.W.listOf its2 n2) ∈ news) (U : UpdF D (PySem.W.listOf its n) news g)
    (hz : its.size + its2.size ≤ 10000) (h : ∀ h' c', Fr h₀ L h' m → News h₀ L h' (g (PySem.W.listOf (its ++ its2) c')) → Q .none { s with heap := h' }) :
    wpAny (model prog w) A (call (.builtin "list.extend") [.ref D, .ref b]) Q E s := by
  obtain ⟨pre, post, e1, e2, a, c⟩ := U.split
  have hd : ¬(!its.isEmpty && Builtin.List.listTooLong (its.size + its2.size)) = true := extend_door (by rw [sizeLine_eq]; omega)
  have up : ∀ o', PySem.W.Upd D (PySem.W.listOf its n) o' news (g o') := fun o' => by
    rw [e1, e2 o']
    clear e1 e2 U N hb
    induction pre with
    | nil => exact .head c
    | cons p r ih => exact .tail (a p (List.mem_cons_self ..)) (ih fun q hq => a q (List.mem_cons_of_mem _ hq))
  by_cases e0 : its2.toList = []
  · have e : its2 = #[] := Array.toList_inj.mp (by rw [e0])
    have e3 : g (PySem.W.listOf its n) = news := by rw [e1, e2]
    have u := up (PySem.W.listOf its n)
    rw [e3] at u
    refine kxn_extend F N hb e0 u hd (by rw [sizeLine_eq, Array.length_toList]; omega) (by rw [sizeLine_eq]; omega) fun h' F' N' => h h' n F' ?_
    rw [e, Array.append_empty, e3]
    exact N'
  · refine kl_extend F N hb (l := its.toList ++ its2.toList) rfl (by simpa using e0) (up _) hd (by rw [sizeLine_eq, Array.length_toList]; omega) (by rw [sizeLine_eq]; omega) fun h' F' N' => h h' (n + 1) F' ?_
    have : (its.toList ++ its2.toList).toArray = its ++ its2 := by apply Array.toList_inj.mp; simp
    rw [this] at N'
    exact N'
end
/-- six names, the rest as it lies -/
theorem chain6 {G h : Heap} {L : Addr} {m : Str → Option Value} {n1 n2 n3 n4 n5 n6 : Str} {v1 v2 v3 v4 v5 v6 : Option Value} (F : Fr G L h m) (h1 : m n1 = v1) (h2 : m n2 = v2) (h3 : m n3 = v3) (h4 : m n4 = v4) (h5 : m n5 = v5) (h6 : m n6 = v6) :
    Fr G L h (fun y => if y = n1 then v1 else if y = n2 then v2 else if y = n3 then v3 else if y = n4 then v4 else if y = n5 then v5 else if y = n6 then v6 else m y) := by
  have e : (fun y => if y = n1 then v1 else if y = n2 then v2 else if y = n3 then v3 else if y = n4 then v4 else if y = n5 then v5 else if y = n6 then v6 else m y) = m := by
    funext y
    by_cases q1 : y = n1
    · simp [q1, h1]
    by_cases q2 : y = n2
    · subst q2; simp [q1, h2]
    by_cases q3 : y = n3
    · subst q3; simp [q1, q2, h3]
    by_cases q4 : y = n4
    · subst q4; simp [q1, q2, q3, h4]
    by_cases q5 : y = n5
    · subst q5; simp [q1, q2, q3, q4, h5]
    by_cases q6 : y = n6
    · subst q6; simp [q1, q2, q3, q4, q5, h6]
    simp [q1, q2, q3, q4, q5, q6]
  rw [e]
  exact F
end Mine
end
section
open PySem PySem.W PyProof.Rows PySem.Calls
set_option maxRecDepth 100000
set_option maxHeartbeats 400000
namespace Mine
/-- E minus A, as the function gives it -/
abbrev lacks (xs ys : List Str) : List Str := xs.filter fun x => decide (x ∉ ys)

structure SInv (xs ys : List Str) (i j : Int) (vm vu : Array Value) : Prop where
  i0 : 0 ≤ i
  i1 : i ≤ xs.length
  j0 : 0 ≤ j
  j1 : j ≤ ys.length
  hm : StrsAre vm.toList (lacks (xs.take i.toNat) ys)
  hu : StrsAre vu.toList (lacks (ys.take j.toNat) xs)
  s1 : ∀ x ∈ xs.take i.toNat, ∀ y ∈ ys.drop j.toNat, x.cps.toList < y.cps.toList
  s2 : ∀ y ∈ ys.take j.toNat, ∀ x ∈ xs.drop i.toNat, y.cps.toList < x.cps.toList

theorem lt_tr {a b c : List Nat} (h : a < b) (k : b < c) : a < c := List.lt_trans h k
theorem eq_of_not {a b : List Nat} (h : ¬ a < b) (k : ¬ b < a) : a = b := List.le_antisymm (List.not_lt.mp k) (List.not_lt.mp h)

section
variable {xs ys : List Str} {i j : Int} {vm vu : Array Value}
theorem SInv.swap (I : SInv xs ys i j vm vu) : SInv ys xs j i vu vm := ⟨I.j0, I.j1, I.i0, I.i1, I.hu, I.hm, I.s2, I.s1⟩
theorem SInv.start : SInv xs ys 0 0 #[] #[] := ⟨Int.le_refl _, by omega, Int.le_refl _, by omega, .nil, .nil, fun _ h => (nomatch h), fun _ h => (nomatch h)⟩
theorem SInv.zm (I : SInv xs ys i j vm vu) (h : xs.length < 1000) : vm.size ≤ 1000 := by
  have := I.hm.len_eq
  rw [Array.length_toList] at this
  have h2 : (lacks (xs.take i.toNat) ys).length ≤ (xs.take i.toNat).length := List.length_filter_le _ _
  rw [List.length_take] at h2
  omega
theorem SInv.zu (I : SInv xs ys i j vm vu) (h : ys.length < 1000) : vu.size ≤ 1000 := I.swap.zm h
theorem toNat_succ {i : Int} (h : 0 ≤ i) : (i + 1).toNat = i.toNat + 1 := by omega
theorem mem_take_succ {xs : List Str} {n : Nat} {e x : Str} (he : xs[n]? = some e) : x ∈ xs.take (n + 1) ↔ x ∈ xs.take n ∨ x = e := by
  rw [List.take_add_one, he]
  simp
theorem drop_mem {xs : List Str} {n : Nat} {x : Str} (h : x ∈ xs.drop (n + 1)) : x ∈ xs.drop n := by
  rw [← List.drop_drop] at h
  exact List.mem_of_mem_drop h
theorem drop_head {xs : List Str} {n : Nat} {e : Str} (he : xs[n]? = some e) : e ∈ xs.drop n := by
  rw [List.mem_iff_getElem?]
  exact ⟨0, by simpa using he⟩
theorem rising_drop (h : Rising xs) {n : Nat} {e x : Str} (he : xs[n]? = some e) (hx : x ∈ xs.drop (n + 1)) : e.cps.toList < x.cps.toList := by
  obtain ⟨k, hk⟩ := List.mem_iff_getElem?.mp hx
  rw [List.getElem?_drop] at hk
  exact rising_lt h (by omega) he hk
theorem drop_cases {n : Nat} {e x : Str} (he : xs[n]? = some e) (hx : x ∈ xs.drop n) : x = e ∨ x ∈ xs.drop (n + 1) := by
  obtain ⟨hn, rfl⟩ := List.getElem?_eq_some_iff.mp he
  rw [List.drop_eq_getElem_cons hn] at hx
  exact List.mem_cons.mp hx
theorem mem_split (n : Nat) {x : Str} (h : x ∈ xs) : x ∈ xs.take n ∨ x ∈ xs.drop n := by
  rw [← List.take_append_drop n xs] at h
  exact List.mem_append.mp h
theorem fits {n : Int} {e : Str} (h0 : 0 ≤ n) (he : xs[n.toNat]? = some e) : n + 1 ≤ xs.length := by
  obtain ⟨hn, _⟩ := List.getElem?_eq_some_iff.mp he
  omega

theorem SInv.lt (I : SInv xs ys i j vm vu) (hx : Rising xs) (hy : Rising ys) {e a : Str} {t : Tok} (he : xs[i.toNat]? = some e) (ha : ys[j.toNat]? = some a) (h : e.cps.toList < a.cps.toList) :
    SInv xs ys (i + 1) j (vm.push (.str e t)) vu := by
  have hlt : ∀ y ∈ ys.drop j.toNat, e.cps.toList < y.cps.toList := fun y hy' => by
    rcases drop_cases ha hy' with rfl | hy'
    · exact h
    · exact lt_tr h (rising_drop hy ha hy')
  have hno : e ∉ ys := fun hm => by
    rcases mem_split j.toNat hm with q | q
    · exact lt_irr _ (I.s2 e q e (drop_head he))
    · exact lt_irr _ (hlt e q)
  refine ⟨by have := I.i0; omega, fits I.i0 he, I.j0, I.j1, ?_, I.hu, fun x hx' y hy' => ?_, fun y hy' x hx' => ?_⟩
  · rw [toNat_succ I.i0, List.take_add_one, he]
    show StrsAre _ ((xs.take i.toNat ++ [e]).filter _)
    rw [List.filter_append, List.filter_cons_of_pos (by simpa using hno), List.filter_nil, Array.toList_push]
    exact I.hm.append' (.cons e t .nil)
  · rw [toNat_succ I.i0] at hx'
    rcases (mem_take_succ he).mp hx' with q | rfl
    · exact I.s1 x q y hy'
    · exact hlt y hy'
  · rw [toNat_succ I.i0] at hx'
    exact I.s2 y hy' x (drop_mem hx')
theorem SInv.gt (I : SInv xs ys i j vm vu) (hx : Rising xs) (hy : Rising ys) {e a : Str} {t : Tok} (he : xs[i.toNat]? = some e) (ha : ys[j.toNat]? = some a) (h : a.cps.toList < e.cps.toList) :
    SInv xs ys i (j + 1) vm (vu.push (.str a t)) := (I.swap.lt hy hx ha he h).swap
theorem SInv.eq (I : SInv xs ys i j vm vu) (hx : Rising xs) (hy : Rising ys) {e a : Str} (he : xs[i.toNat]? = some e) (ha : ys[j.toNat]? = some a) (h1 : ¬ e.cps.toList < a.cps.toList) (h2 : ¬ a.cps.toList < e.cps.toList) :
    SInv xs ys (i + 1) (j + 1) vm vu := by
  obtain rfl : e = a := str_ext (eq_of_not h1 h2)
  have hxin : e ∈ xs := List.mem_of_getElem? he
  have hyin : e ∈ ys := List.mem_of_getElem? ha
  refine ⟨by have := I.i0; omega, fits I.i0 he, by have := I.j0; omega, fits I.j0 ha, ?_, ?_, fun x hx' y hy' => ?_, fun y hy' x hx' => ?_⟩
  · rw [toNat_succ I.i0, List.take_add_one, he]
    show StrsAre _ ((xs.take i.toNat ++ [e]).filter _)
    rw [List.filter_append, List.filter_cons_of_neg (by simpa using hyin), List.filter_nil, List.append_nil]
    exact I.hm
  · rw [toNat_succ I.j0, List.take_add_one, ha]
    show StrsAre _ ((ys.take j.toNat ++ [e]).filter _)
    rw [List.filter_append, List.filter_cons_of_neg (by simpa using hxin), List.filter_nil, List.append_nil]
    exact I.hu
  · rw [toNat_succ I.i0] at hx'
    rw [toNat_succ I.j0] at hy'
    rcases (mem_take_succ he).mp hx' with q | rfl
    · exact I.s1 x q y (drop_mem hy')
    · exact rising_drop hy ha hy'
  · rw [toNat_succ I.j0] at hy'
    rw [toNat_succ I.i0] at hx'
    rcases (mem_take_succ ha).mp hy' with q | rfl
    · exact I.s2 y q x (drop_mem hx')
    · exact rising_drop hx he hx'

theorem StrsAre.dropK {vs : List Value} {ss : List Str} (h : StrsAre vs ss) (k : Nat) : StrsAre (vs.drop k) (ss.drop k) := h.drop' k
theorem SInv.endm (I : SInv xs ys i j vm vu) {va : List Value} (ha : StrsAre va xs) (h : (xs.length : Int) ≤ i ∨ (ys.length : Int) ≤ j) :
    StrsAre (vm ++ (va.drop i.toNat).toArray).toList (lacks xs ys) := by
  have e : lacks xs ys = lacks (xs.take i.toNat) ys ++ xs.drop i.toNat := by
    conv => lhs; rw [← List.take_append_drop i.toNat xs]
    show (xs.take i.toNat ++ xs.drop i.toNat).filter _ = _
    rw [List.filter_append]
    congr 1
    rw [List.filter_eq_self]
    intro x hx
    simp only [decide_eq_true_eq]
    intro hy
    have hi := I.i0
    have hj := I.j0
    rcases h with h | h
    · rw [List.drop_of_length_le (by omega)] at hx
      cases hx
    · rcases mem_split j.toNat hy with q | q
      · exact lt_irr _ (I.s2 x q x hx)
      · rw [List.drop_of_length_le (by omega)] at q
        cases q
  rw [e, Array.toList_append]
  exact I.hm.append' (ha.drop' _)
theorem SInv.endu (I : SInv xs ys i j vm vu) {vb : List Value} (hb : StrsAre vb ys) (h : (xs.length : Int) ≤ i ∨ (ys.length : Int) ≤ j) :
    StrsAre (vu ++ (vb.drop j.toNat).toArray).toList (lacks ys xs) := I.swap.endm hb h.symm
end

/-- a handler's suite, proved once -/
def HandKey (prog : Program) (w : World) (A : Around) (env : Env) (suite : List Stmt) (Q : Flow → Shared → Prop) (J : Int → Int → Shared → Prop) : Prop :=
  ∀ (e : Addr) (i j : Int) (s' : Shared), J i j s' → wpAny (model prog w) (A.mark (some (.ref e))) (execs suite env) Q (fun _ _ => False) s'
theorem HandKey.at {prog : Program} {w : World} {A : Around} {env : Env} {suite : List Stmt} {Q : Flow → Shared → Prop} {J : Int → Int → Shared → Prop} (H : HandKey prog w A env suite Q J) (e : Addr) (i j : Int) {s' : Shared} (h : J i j s') :
    Hold (wpAny (model prog w) (A.mark (some (.ref e))) (execs suite env) Q (fun _ _ => False) s') := H e i j s' h

/-- the loop's state -/
def LoopSt (K : Frag) (p : Program) (loose : List Str) (mean : ExcName → Option Value) (mg mb : Str → Option Value) (base G0 : Heap) (l : List Env) (la lb : Addr) (va vb : List Value) (xs ys : List Str) (L ms un : Addr) (s : Shared) (i j : Int) (s' : Shared) : Prop :=
  ∃ G h tk m ti tj vm vu cm cu, s' = { s with heap := h, toks := tk } ∧ Cx K p loose mean mg mb base G0 G l la lb va vb ∧ Fr G L h m ∧ News G L h [(un, PySem.W.listOf vu cu), (ms, PySem.W.listOf vm cm)] ∧ SInv xs ys i j vm vu ∧
    m (Str.ofString "i") = some (.int i ti) ∧ m (Str.ofString "j") = some (.int j tj) ∧ m (Str.ofString "missing") = some (.ref ms) ∧ m (Str.ofString "unexpected") = some (.ref un) ∧ m (Str.ofString "expected") = some (.ref la) ∧ m (Str.ofString "actual") = some (.ref lb)
section
variable {K : Frag} {p : Program} {loose : List Str} {mean : ExcName → Option Value} {mg mb : Str → Option Value} {base G0 G : Heap} {l : List Env} {la lb : Addr} {va vb : List Value} {xs ys : List Str} {L ms un : Addr} {s : Shared} {i j : Int}
theorem loopSt {h : Heap} {tk : Nat} {m : Str → Option Value} {ti tj : Tok} {vm vu : Array Value} {cm cu : Nat} (C : Cx K p loose mean mg mb base G0 G l la lb va vb) (F : Fr G L h m) (N : News G L h [(un, PySem.W.listOf vu cu), (ms, PySem.W.listOf vm cm)]) (I : SInv xs ys i j vm vu)
    (h1 : m (Str.ofString "i") = some (.int i ti)) (h2 : m (Str.ofString "j") = some (.int j tj)) (h3 : m (Str.ofString "missing") = some (.ref ms)) (h4 : m (Str.ofString "unexpected") = some (.ref un)) (h5 : m (Str.ofString "expected") = some (.ref la)) (h6 : m (Str.ofString "actual") = some (.ref lb)) :
    LoopSt K p loose mean mg mb base G0 l la lb va vb xs ys L ms un s i j { s with heap := h, toks := tk } := ⟨G, h, tk, m, ti, tj, vm, vu, cm, cu, rfl, C, F, N, I, h1, h2, h3, h4, h5, h6⟩
end
end Mine
end
section
open PySem PySem.W PyProof.Rows PySem.Calls
set_option maxRecDepth 100000
set_option maxHeartbeats 8000000
namespace Mine
theorem name_ix {w : World} {mean : ExcName → Option Value} {mg mb : Str → Option Value} {G : Heap} {L a : Addr} {s : Shared} {m : Str → Option Value} {name : Str} {scope : Scope} {cd : Value} {np : Pos} (F : Fr G L s.heap m) (TT : Top hd.view_39 lo mean mg mb G) (hk : scope.kind = .function) (hxk : (envOf name scope L a cd).kindOf (Str.ofString "IndexError") = some .globalImplicit)
   {A : Around} {E : Value → Shared → Prop} {Q : Value → Shared → Prop} (h : Q (.type "IndexError") s) : wpAny (model PySem.Challenge.rw_un0005_01.row.prog w) A (eval (.Name (Str.ofString "IndexError") np) (envOf name scope L a cd)) Q E s :=
  name_index F TT (by decide +kernel) (by decide +kernel) (by decide +kernel) (by decide +kernel) (by decide +kernel) hk hxk h

local macro_rules | `(tactic| walk_at "exec While") => `(tactic| ((with_reducible show wpAny _ _ (exec (Stmt.While (Expr.Constant _ _ _) _ _ _) _) _ _ _); refine hold ?_))
local macro_rules | `(tactic| walk_at "exec While Compare cons nil") => `(tactic| refine whl_start 1 ?_)
local macro_rules | `(tactic| walk_at "WhlRest") => `(tactic| first | ((with_reducible show WhlRest _ _ _ _ _ _ _ _ _ 0 _); refine hold ?_) | (refine whl_turn (k := 0) ?hE ?_; (case hE => passes_own)))
local macro_rules | `(tactic| walk_at "subscriptTail Name Name ref int") => `(tactic| (k_here; (with_reducible rename Cx _ _ _ _ _ _ _ _ _ _ _ _ _ _ => hCx); refine' item_k ?hF ?hN ?hl ?hS ?hk ?hhi ?hSt ?_ ?_; (case hF => assumption); (case hN => assumption); (case hl => first | exact isList_up (by assumption) (Cx.isa hCx) | exact isList_up (by assumption) (Cx.isb hCx)); (case hS => assumption); (case hk => omega); (case hhi => omega); (case hSt => first | exact stands0 rfl | exact stands1 rfl (by assumption) (by assumption)); (all_goals (repeat' intro))))
local macro_rules | `(tactic| walk_at "subscriptTail Name Slice ref ref") => `(tactic| (k_here; (with_reducible rename Cx _ _ _ _ _ _ _ _ _ _ _ _ _ _ => hCx); refine' slice_from ?hF ?hN ?hl ?h0 ?hz ?_ ?hs ?ht; (case hF => k_asm); (case hN => k_asm); (case hl => first | exact isList_up (by k_asm) (Cx.isa hCx) | exact isList_up (by k_asm) (Cx.isb hCx)); (case h0 => assumption); (case hz => assumption); (case hs => with_unfolding_all rfl); (case ht => kmk_pure); intro D9 h9 F9 N9 l1; (try k_lt l1)))
local macro_rules | `(tactic| walk_at "noteFrame ref") => `(tactic| first
  | (refine' note_again rfl ?hX ?hN ?_; (case hX => assumption); (case hN => assumption))
  | ((with_reducible rename Cx _ _ _ _ _ _ _ _ _ _ _ _ _ _ => hCx); refine' note_new ?hA ?hf ?hkm (Cx.stays hCx) (Cx.ff hCx) ?hF ?hN ?hne ?hc ?hd ?h1 ?h2 ?_; (case hA => exact rfl); (case hf => exact rfl); (case hkm => exact fun q => nomatch q); (case hF => assumption); (case hN => assumption); (case hne => assumption); (case hc => assumption); (case hd => assumption); (case h1 => assumption); (case h2 => assumption); intro G9 h9 T9 oT9 oe9 tT9 S9 BF9 F9 X9 N9 ne9; have C9 := Cx.next hCx tT9 S9 BF9; clear hCx; have XK9 := Cx.X C9; have TT9 := Cx.T C9))
local macro_rules | `(tactic| walk_at "setFlight ref") => `(tactic| (refine' flight ?hF ?hX ?hN ?hne ?_; (case hF => assumption); (case hX => assumption); (case hN => assumption); (case hne => assumption); intro h9 oT9 X9 F9 N9; (try dsimp only [Option.elim] at X9)))
local macro_rules | `(tactic| walk_at "compareOp Eq str str") => `(tactic| (refine' eq_no ?hne ?_; (case hne => first | (refine' rising_ne ?h ?h0 ?hij ?hx ?hy; (case hx => assumption); (case hy => assumption); (case h => assumption); (case h0 => omega); (case hij => omega)) | (refine' Ne.symm (rising_ne ?h ?h0 ?hij ?hx ?hy); (case hx => assumption); (case hy => assumption); (case h => assumption); (case h0 => omega); (case hij => omega)))))
local macro_rules | `(tactic| walk_at "passOn") => `(tactic| (refine' pass_on ?hf ?hF ?hX ?hN ?hne ?_; (case hf => exact rfl); (case hF => assumption); (case hX => assumption); (case hN => assumption); (case hne => assumption); intro h9 oT9 X9 F9 N9))
local macro_rules | `(tactic| walk_at "notedBy") => `(tactic| (delta PySem.notedBy; dsimp only))
local macro_rules | `(tactic| walk_at "cameBackBy") => `(tactic| (refine' came_back ?hf ?hF ?hX ?hN ?hne ?_; (case hf => exact rfl); (case hF => assumption); (case hX => assumption); (case hN => assumption); (case hne => assumption); intro h9 oT9 X9 F9 N9; dsimp only))
local macro_rules | `(tactic| walk_at "handleBy") => `(tactic| (refine' clause ?hF ?hX ?hN ?hne ?hname ?_; (case hF => assumption); (case hX => assumption); (case hN => assumption); (case hne => assumption); (case hname => intro A E Q h; exact name_ix (by assumption) (by assumption) rfl rfl h); intro h9 F9 N9; refine hold ?_))
local macro_rules | `(tactic| walk_at "call builtin:list.append") => `(tactic| (k_here; refine' append_K ?k1 ?k2 ?k3 ?_ ?z; (case k1 => k_asm); (case k2 => k_asm); (case k3 => k_upd); (case z => first | assumption | size_fits); intro h9 F9 N9))
local macro_rules | `(tactic| walk_at "call builtin:list.extend") => `(tactic| (k_here; refine' extend_any ?k1 ?k2 ?kb ?kU ?kz ?_; (case k1 => k_asm); (case k2 => k_asm); (case kb => k_mem); (case kU => k_updF); (case kz => first | assumption | (simp only [List.size_toArray, List.length_drop, Array.size_append]; omega)); intro h9 c9 F9 N9; (try dsimp only at N9)))
theorem sld_spec (w : World) (mean : ExcName → Option Value) (mg mb : Str → Option Value) (dp un : Nat) (gd : Option (List Code)) (envC : Env) (l : List Env) (base h₀ : Heap) (L : Addr) (m : Str → Option Value) (s : Shared) (Q E : Value → Shared → Prop) (news : List (Addr × Obj))
   (la lb : Addr) (va vb : List Value) (xs ys : List Str)
   (B0 : base.StaysIn h₀) (BF : h₀.FunFrames base l) (hfC : envC.frame = some L) (hkC : envC.scope.kind ≠ .module)
   (F : Fr h₀ L s.heap m) (N : News h₀ L s.heap news) (X : (hd.heap_39 w.params).In base) (T : Top hd.view_39 lo mean mg mb base)
   (ha : s.heap.IsList la va.toArray) (hsa : StrsAre va xs) (hb : s.heap.IsList lb vb.toArray) (hsb : StrsAre vb ys) (hrx : Rising xs) (hry : Rising ys) (hlx : xs.length < 1000) (hly : ys.length < 1000)
   (hroom : dp + 1 < recursionLimit) (hun : un + 8 < cLine)
   (hret : ∀ h₀' h' tk tup ms un vm vu cm cu, KtsTurn (fsOf l) h₀ h₀' → base.StaysIn h₀' → h₀'.FunFrames base l → Fr h₀' L h' m →
      News h₀' L h' ((tup, { cls := .type "tuple", data := .seq [Value.ref ms, Value.ref un].toArray }) :: (un, PySem.W.listOf vu cu) :: (ms, PySem.W.listOf vm cm) :: news) → @LT.lt Nat _ ms un → @LT.lt Nat _ un tup → (∀ q ∈ news, q.1 ≠ ms ∧ q.1 ≠ un ∧ q.1 ≠ tup) →
      StrsAre vm.toList (lacks xs ys) → StrsAre vu.toList (lacks ys xs) → Q (.ref tup) { s with heap := h', toks := tk }) : wpAny (model PySem.Challenge.rw_un0005_01.row.prog w) { handled := none, depth := dp, frames := some (envC :: l), guards := gd, units := un } (call (.ref 102) [.ref la, .ref lb]) Q E s := by
  w_top off
  revert X; k_fill; intro X
  k_dflt (refine' enter B0 BF hfC hkC F N X T.nolimit ?k6 ?k7 ?k8 ?k9 ?kB ?_ ?c2 ?c3 ?c4 ?c5; (case k6 => k_is); (case k7 => k_is); (case k8 => exact Nat.lt_of_succ_lt hroom); (case k9 => first | exact binds_K (by k_in) rfl (by k_is) rfl rfl rfl | exact BindsTo.of_eq rfl); (case kB => exact locs rfl); (case c2 => exact rfl); (case c3 => exact rfl); (case c4 => exact rfl); (case c5 => decide); k_whole)
  intro h₁ B1 BF1 F1
  have X1 := X.keeps B1
  have T1 := T.keeps B1
  have N1 : News s.heap s.heap.objs.size h₁ [] := News.nil
  have C1 : Cx (hd.heap_39 w.params) hd.view_39 lo mean mg mb base s.heap s.heap (envC :: l) la lb va vb := ⟨KtsTurn.refl, B1, BF1, ha, hb, X, T⟩
  have zva : va.length ≤ sizeLine := by rw [sizeLine_eq, hsa.len_eq]; omega
  have zvb : vb.length ≤ sizeLine := by rw [sizeLine_eq, hsb.len_eq]; omega
  have lva := hsa.len_eq
  have lvb := hsb.len_eq
  generalize hG : s.heap = G at *
  generalize hL' : G.objs.size = L' at *
  k_steps
  rename_i _ _ ms _ _ _ _ un' _ lt1 hh F3 N3
  show wpAny _ _ _ _ _ _
  refine whl_start 0 ?_
  have lt2 : ms < un' := lt1
  have st := fun tk => loopSt (s := s) (tk := tk) (ti := _) (tj := _) (xs := xs) (ys := ys) C1 F3 N3 SInv.start rfl rfl rfl rfl rfl rfl
  clear C1 T1 X1 F3 N3
  refine' (fun (key : HandKey PySem.Challenge.rw_un0005_01.row.prog w _ _ _ _ (fun i j s' => LoopSt (hd.heap_39 w.params) hd.view_39 lo mean mg mb base G (envC :: l) la lb va vb xs ys L' ms un' s i j s' ∧ ((xs.length : Int) ≤ i ∨ (ys.length : Int) ≤ j))) => ?_) ?key
  rotate_left 4
  · refine whl_ind (α := Int × Int) (I := fun x s' => LoopSt (hd.heap_39 w.params) hd.view_39 lo mean mg mb base G (envC :: l) la lb va vb xs ys L' ms un' s x.1 x.2 s') (fun x => (xs.length - x.1).toNat + (ys.length - x.2).toNat) ?_ ?_ (0, 0) _ ?_
    · exact PassesOwn.never
    · rintro ⟨i, j⟩ s' ⟨G', h, tk, m0, ti, tj, vm, vu, cm, cu, rfl, C2, F20, N2, I2, q1, q2, q3, q4, q5, q6⟩ ih
      have F2 := chain6 F20 q1 q2 q3 q4 q5 q6
      clear F20 q1 q2 q3 q4 q5 q6
      have X2 := C2.X
      have T2 := C2.T
      have i0 := I2.i0
      have i1 := I2.i1
      have j0 := I2.j0
      have j1 := I2.j1
      have zm : vm.size ≤ sizeLine := by have := I2.zm hlx; rw [sizeLine_eq]; omega
      have zu : vu.size ≤ sizeLine := by have := I2.zu hly; rw [sizeLine_eq]; omega
      dsimp only at F2 I2 i0 i1 j0 j1
      k_steps
      all_goals first
        | (refine' HandKey.at key _ _ _ ⟨loopSt ?C ?F ?N ?I ?h1 ?h2 ?h3 ?h4 ?h5 ?h6, ?cond⟩
           (case C => assumption)
           (case F => assumption)
           (case N => first | assumption | exact fun p hp => (by assumption : News _ _ _ (_ :: _ :: _)) p (List.mem_cons_of_mem _ (List.mem_cons_of_mem _ hp)))
           (case h1 => exact rfl)
           (case h2 => exact rfl)
           (case h3 => exact rfl)
           (case h4 => exact rfl)
           (case h5 => exact rfl)
           (case h6 => exact rfl)
           (case I => first
             | exact I2
             | (refine' SInv.lt I2 hrx hry ?he ?ha ?lt
                (case he => assumption)
                (case ha => assumption)
                (case lt => assumption))
             | (refine' SInv.gt I2 hrx hry ?he ?ha ?lt
                (case he => assumption)
                (case ha => assumption)
                (case lt => assumption))
             | (refine' SInv.eq I2 hrx hry ?he ?ha ?lt ?gt
                (case he => assumption)
                (case ha => assumption)
                (case lt => assumption)
                (case gt => assumption)))
           (case cond => first | omega | exact .inl (by assumption) | exact .inr (by assumption)))
        | (refine' ih (_, _) _ ?mu (loopSt ?C ?F ?N ?I ?h1 ?h2 ?h3 ?h4 ?h5 ?h6)
           (case C => assumption)
           (case F => assumption)
           (case N => first | assumption | exact fun p hp => (by assumption : News _ _ _ (_ :: _ :: _)) p (List.mem_cons_of_mem _ (List.mem_cons_of_mem _ hp)))
           (case h1 => exact rfl)
           (case h2 => exact rfl)
           (case h3 => exact rfl)
           (case h4 => exact rfl)
           (case h5 => exact rfl)
           (case h6 => exact rfl)
           (case I => first
             | (refine' SInv.lt I2 hrx hry ?he ?ha ?lt
                (case he => assumption)
                (case ha => assumption)
                (case lt => assumption))
             | (refine' SInv.gt I2 hrx hry ?he ?ha ?lt
                (case he => assumption)
                (case ha => assumption)
                (case lt => assumption))
             | (refine' SInv.eq I2 hrx hry ?he ?ha ?lt ?gt
                (case he => assumption)
                (case ha => assumption)
                (case lt => assumption)
                (case gt => assumption)))
           (case mu =>
             have f1 := fits i0 (by assumption)
             have f2 := fits j0 (by assumption)
             dsimp only
             omega))
        | trace_state
    · exact st _
  · intro e i j s' hJ
    obtain ⟨hJ, hcond⟩ := hJ
    try dsimp only at hJ hcond
    obtain ⟨G', h, tk, m0, ti, tj, vm, vu, cm, cu, rfl, C2, F20, N2, I2, q1, q2, q3, q4, q5, q6⟩ := hJ
    have F2 := chain6 F20 q1 q2 q3 q4 q5 q6
    clear F20 q1 q2 q3 q4 q5 q6
    have X2 := C2.X
    have T2 := C2.T
    have i0 := I2.i0
    have j0 := I2.j0
    have zm := I2.zm hlx
    have zu := I2.zu hly
    have ct := C2.turn
    k_steps
    rename_i D1 _ lt3 _ c1 _ D2 _ lt4 _ c2 tup h5 F5 N5 lt5
    have hfs : fsOf (envC :: l) = L :: fsOf l := by show List.filterMap _ (envC :: l) = _; rw [List.filterMap_cons, hfC]
    refine ⟨G', _, [(tup, { cls := .type "tuple", data := .seq [Value.ref ms, Value.ref un'].toArray }), (un', PySem.W.listOf (vu ++ (vb.drop j.toNat).toArray) c2), (ms, PySem.W.listOf (vm ++ (va.drop i.toNat).toArray) c1)], hfs ▸ ct, F5, fun p hp => N5 p ?_, fun h₀' T₀ S₀ BF₀ F₀ N₀ ne => ?_⟩
    · simp only [List.mem_cons, List.not_mem_nil, or_false] at hp ⊢
      rcases hp with rfl | rfl | rfl
      · exact .inl rfl
      · exact .inr (.inr (.inr (.inl rfl)))
      · exact .inr (.inr (.inr (.inr rfl)))
    · refine hret h₀' _ _ tup ms un' _ _ _ _ T₀ S₀ BF₀ F₀ N₀ lt2 lt5.2.2.1 (fun q hq => ⟨fun z => ?_, fun z => ?_, fun z => ?_⟩) (I2.endm hsa hcond) (I2.endu hsb hcond)
      · exact ne (ms, _) (List.mem_cons_of_mem _ (List.mem_cons_of_mem _ (List.mem_cons_self ..))) q hq z.symm
      · exact ne (un', _) (List.mem_cons_of_mem _ (List.mem_cons_self ..)) q hq z.symm
      · exact ne (tup, _) (List.mem_cons_self ..) q hq z.symm
end Mine
end
section
open PySem PySem.W PyProof.Rows PySem.Calls
set_option maxRecDepth 100000
set_option maxHeartbeats 4000000
namespace Mine
open AutoSeq1 (wpAny_loadPart')
section
variable {prog : Program} {w : World} {A : Around} {E : Value → Shared → Prop} {s : Shared}
theorem nextOf_tup {it t : Addr} {i : Nat} {items : Array Value} {x : Value} {Q : Value → Shared → Prop} (hit : s.heap.IsTupleIter it t i) (ht : s.heap.IsTuple t items) (hx : items[i]? = some x)
    (hQ : ∀ h', h'.IsTupleIter it t (i + 1) → Heap.SameBut it s.heap h' → Q x { s with heap := h' }) : wpAny (model prog w) A (Builtin.SmallTypes.nextOf (.ref it)) Q E s := by
  obtain ⟨o, ho, hc, hd⟩ := id hit
  obtain ⟨ol, hol, _, nl, hdl⟩ := ht
  unfold Builtin.SmallTypes.nextOf
  refine wpAny_bind (wpAny_callSpecial?_slot (name := Str.ofString "__next__") hit.typeIs F.slot_tuple_iterator_next
    (wpAny_call_entry F.slot_tuple_iterator_next hit.typeIs F.entry_tuple_iterator_next ?_ (F.args_tuple_iterator_next_1 _)))
  show wpAny _ _ (field (.ref it) 0 >>= _) _ _ s
  refine wpAny_bind (wpAny_field ho hd (x := .ref t) rfl ?_)
  show wpAny _ _ (if (Value.ref t == Value.none) = true then _ else _) _ _ s
  rw [if_neg (show ¬ ((Value.ref t == Value.none) = true) from Bool.false_ne_true)]
  show wpAny _ _ (field (.ref it) 1 >>= _) _ _ s
  refine wpAny_bind (wpAny_field ho hd (x := .int i 0) rfl ?_)
  show wpAny _ _ (seqItems? (.ref t) >>= _) _ _ s
  refine wpAny_bind (wpAny_seqItems hol hdl ?_)
  simp only [Int.toNat_natCast, hx]
  refine wpAny_bind (wpAny_setField ho hd (by simp) (wpAny_pure ⟨x, rfl, wpAny_pure (hQ _ ?_ (Heap.SameBut.update ..))⟩))
  exact ⟨_, Heap.get?_update_self _ ho (Obj.isFreed_of_fields (Obj.data_mapFields hd _)), (Obj.cls_mapFields ..).trans hc, by
    rw [Obj.data_mapFields hd]; simp [rawInt]⟩
theorem nextOf_tup_end {it t : Addr} {i : Nat} {items : Array Value} {Q : Value → Shared → Prop} (hh : A.handled = none) (hit : s.heap.IsTupleIter it t i) (ht : s.heap.IsTuple t items) (hx : items[i]? = none)
    (hE : ∀ h' e, Heap.ExtBut it s.heap h' → (∃ o, h'.get? e = some o ∧ o.cls = .type "StopIteration") → E (.ref e) { s with heap := h' }) : wpAny (model prog w) A (Builtin.SmallTypes.nextOf (.ref it)) Q E s := by
  obtain ⟨o, ho, hc, hd⟩ := id hit
  obtain ⟨ol, hol, _, nl, hdl⟩ := ht
  unfold Builtin.SmallTypes.nextOf
  refine wpAny_bind (wpAny_callSpecial?_slot (name := Str.ofString "__next__") hit.typeIs F.slot_tuple_iterator_next
    (wpAny_call_entry F.slot_tuple_iterator_next hit.typeIs F.entry_tuple_iterator_next ?_ (F.args_tuple_iterator_next_1 _)))
  show wpAny _ _ (field (.ref it) 0 >>= _) _ _ s
  refine wpAny_bind (wpAny_field ho hd (x := .ref t) rfl ?_)
  show wpAny _ _ (if (Value.ref t == Value.none) = true then _ else _) _ _ s
  rw [if_neg (show ¬ ((Value.ref t == Value.none) = true) from Bool.false_ne_true)]
  show wpAny _ _ (field (.ref it) 1 >>= _) _ _ s
  refine wpAny_bind (wpAny_field ho hd (x := .int i 0) rfl ?_)
  show wpAny _ _ (seqItems? (.ref t) >>= _) _ _ s
  refine wpAny_bind (wpAny_seqItems hol hdl ?_)
  simp only [Int.toNat_natCast, hx]
  refine wpAny_bind (wpAny_rule (wpAny_bind (wpAny_setField ho hd (by simp) ?_)))
  show wpAny _ _ (newExc (.type "StopIteration") [] >>= _) _ _ _
  refine wpAny_bind ?_
  simp only [newExc, newTuple]
  refine wpAny_bind (wpAny_newObj_type ?_ (by size_fits))
  refine wpAny_bind (m := firstArgMember _ _) (wpAny_of_eq (a := Value.none) (by first | rfl | (simp only [firstArgMember]; rfl)) ?_)
  refine wpAny_newObj_type ?_ (by size_fits)
  simp only [raiseNew]
  refine wpAny_bind (wpAny_handled ?_)
  first | rw [show A.in1.handled = none from hh] | rw [hh]
  refine wpAny_bind (wpAny_pure (wpAny_throw ?_))
  exact hE _ _ (((Heap.SameBut.update ..).extBut.push _).push _) ⟨_, Heap.get?_push_size _ rfl, rfl⟩
theorem drawsTup (hh : A.handled = none) (it t : Addr) (hne : t ≠ it) (items : Array Value) :
    Draws prog w A it [it, t] items.size (fun i v => items[i]? = some v) (fun i h => h.IsTupleIter it t i ∧ h.IsTuple t items) where
  live := fun _ _ st => let ⟨o, ho, _⟩ := st.1; ⟨o, ho⟩
  frame := fun _ _ _ st hk => ⟨st.1.at fun o e => hk it (by simp) o e, st.2.at fun o e => hk t (by simp) o e⟩
  item := fun i s Q E hi st hQ => by
    refine nextOf_tup st.1 st.2 (x := items[i]) (by simp [hi]) fun h' hit' hs' => ?_
    exact hQ _ h' s.toks (by simp [hi]) ⟨hit', st.2.extBut hs'.extBut hne⟩ hs'
  done := fun s Q E st hE => nextOf_tup_end hh st.1 st.2 (by simp) hE
end
theorem enum_new_tup (l : Addr) (items : Array Value) (n : Nat) (dct : Option Addr) (sl : Array (Option Value)) :
    Meets (Builtin.«enumerate.__new__» ⟨[.type "enumerate", .ref l], []⟩) (fun _ R s => s.heap.get? l = some { cls := .type "tuple", dict := dct, data := .seq items n, slots := sl } ∧
      R (.ok (.ret (.ref (s.heap.push { cls := .type "tuple_iterator", data := .fields #[.ref l, .int 0 0] }).objs.size)))
        { s with heap := (s.heap.push { cls := .type "tuple_iterator", data := .fields #[.ref l, .int 0 0] }).push { cls := .type "enumerate", data := .fields #[.none, .bool false, .ref s.heap.objs.size, rawInt 0, .none, .none] } }) :=
  .of_wp fun prog w A R s h => by
    obtain ⟨hp, g, d, tk, os⟩ := s; obtain ⟨hl, h⟩ := h
    have hsub := sub_enumerate
    have hL : Heap.IsTuple (Shared.heap ⟨hp, g, d, tk, os⟩) l items := ⟨_, hl, rfl, n, rfl⟩
    wp_walk
    refine wpAny_stack_any fun st => wpAny_pure ?_
    split
    · rename_i c _ _ _ _ _
      cases (c == Value.type "enumerate")
      · wp_walk using wpAny_pyIter_tuple hL
        exact ⟨_, rfl, h⟩
      · wp_walk using wpAny_pyIter_tuple hL
        exact ⟨_, rfl, h⟩
    · wp_walk using wpAny_pyIter_tuple hL
      exact ⟨_, rfl, h⟩
section
variable {prog : Program} {w : World} {A : Around} {E : Value → Shared → Prop} {s : Shared}
theorem call_enum_tup {l : Addr} {items : Array Value} {Q : Value → Shared → Prop} (hL : s.heap.IsTuple l items)
    (h : ∀ h', IsEnum h' (s.heap.objs.size + 1) s.heap.objs.size 0 .none → h'.IsTupleIter s.heap.objs.size l 0 → h'.objs.size = s.heap.objs.size + 2 →
      (∀ b o, s.heap.get? b = some o → h'.get? b = some o) → Q (.ref (s.heap.objs.size + 1)) { s with heap := h' }) :
    wpAny (model prog w) A (call (.type "enumerate") [.ref l]) Q E s := by
  obtain ⟨⟨c, dct, dt, sl⟩, hl, hc, n, hd⟩ := hL
  replace hc : c = .type "tuple" := hc
  replace hd : dt = .seq items n := hd
  subst hc hd
  refine callType_new F.called_enumerate (by decide) (F.typeCall_enumerate_1 _) (F.newCall_enumerate_1 _) (fun obj => F.args_object_init_2 obj _) F.entry_enumerate_new
    (enum_new_tup l items n dct sl) ⟨hl, ?_⟩
  have hz : (s.heap.push { cls := .type "tuple_iterator", data := .fields #[.ref l, .int 0 0] }).objs.size = s.heap.objs.size + 1 := Heap.size_push ..
  show _ ∧ _
  rw [hz]
  have he : IsEnum ((s.heap.push { cls := .type "tuple_iterator", data := .fields #[.ref l, .int 0 0] }).push
      { cls := .type "enumerate", data := .fields #[.none, .bool false, .ref s.heap.objs.size, rawInt 0, .none, .none] }) (s.heap.objs.size + 1) s.heap.objs.size 0 .none := by
    have := Heap.get?_push_size (s.heap.push { cls := .type "tuple_iterator", data := .fields #[.ref l, .int 0 0] })
      (o := { cls := .type "enumerate", data := .fields #[.none, .bool false, .ref s.heap.objs.size, rawInt 0, .none, .none] }) rfl
    rw [hz] at this; exact this
  refine ⟨⟨_, he, rfl⟩, h _ he ⟨_, Heap.get?_push_of_some _ (Heap.get?_push_size _ rfl), rfl, rfl⟩ (by rw [Heap.size_push, hz]) fun b o x => Heap.get?_push_of_some _ (Heap.get?_push_of_some _ x)⟩
end
section
variable {prog : Program} {w : World} {A : Around} {E : Value → Shared → Prop} {s : Shared} {env : Env} {h₀ : Heap} {body : List Stmt} {Q : Flow → Shared → Prop}
/-- The turns of a loop over enumerate(T), T a tuple that the callers' heap holds. -/
theorem enumK {elts : List Expr} {k : Nat} {pos : Pos} {l : Addr} {lo : Obj} {vs : List Value} {n : Nat} {m₀ : Str → Option Value} {news : List (Addr × Obj)}
    (hh : A.handled = none) (F : Fr h₀ env.locals s.heap m₀) (N : News h₀ env.locals s.heap news) {K : Frag} (X₀ : K.In h₀) (hlk : K.lookup l = some lo) (hc : lo.cls = .type "tuple") (hd : lo.data = .seq vs.toArray n)
    (rest₀ : ∀ I : Addr, (∀ p ∈ news, p.1 < I) → ItemsRest prog w A E h₀ env (.Tuple elts k pos) body Q s [(I + 1, "enumerate"), (I, "tuple_iterator")] [] (enumItems 0 vs) m₀ news) :
    wpAny (model prog w) A (call (.type "enumerate") [.ref l]) (fun xv s₁ => wpAny (model prog w) A (pyIter xv) (fun it s₂ => TurnsAt prog w A h₀ env (.Tuple elts k pos) body Q E it s₂) E s₁) E s := by
  have hg : h₀.get? l = some lo := X₀ _ _ hlk
  have hax : s.heap.get? l = some lo := F.keep _ _ hg
  have hl : s.heap.IsTuple l vs.toArray := ⟨lo, hax, hc, n, hd⟩
  have hlt : l < s.heap.objs.size := Heap.lt_size hax
  have hLs : env.locals < s.heap.objs.size := F.ns.lt
  refine call_enum_tup hl fun h' hE hI hsz hk => ?_
  refine wpAny_pyIter_enum hE ?_
  refine ktg_core (tk0 := s.toks) (keep := []) (KTurns.ofWalksU (WalksT.enumerateD (drawsTup (show A.in1.handled = none from hh) s.heap.objs.size l (Nat.ne_of_lt hlt) vs.toArray) (s.heap.objs.size + 1) (Nat.succ_ne_self _) ?hef (by simp)).toU) (by simp [enumItems_length]) ?_ ?_ ?_ ?_ ?_ ?_ ?_ ?_ (F.keeps hk) (N.grown hk) trivial (rest₀ _ fun p hp => Heap.lt_size (N p hp).1)
  case hef =>
    intro hx
    have hx' : s.heap.objs.size + 1 = s.heap.objs.size ∨ s.heap.objs.size + 1 = l := by simpa using hx
    rcases hx' with e | e
    · exact Nat.succ_ne_self _ e
    · exact ktu_ne 1 hlt e.symm
  · rintro i v h ⟨T, vals, rfl, ⟨t, x, hx, rfl⟩, hT⟩
    refine ⟨_, enumItems_get vs 0 i (v := x) (by simpa using hx), T, t, rfl, ?_⟩
    show IsTup h T #[.int ((0 + i : Nat) : Int) t, x]
    rw [Nat.zero_add]
    exact hT
  · rintro i h ⟨⟨old, he⟩, ⟨oi, hoi, hic, _⟩, _⟩
    have he' : ∃ oe : Obj, h.get? (s.heap.objs.size + 1) = some oe ∧ oe.cls = .type "enumerate" := ⟨_, he, rfl⟩
    obtain ⟨oe, h1, h2⟩ := he'
    refine ⟨[(s.heap.objs.size + 1, oe), (s.heap.objs.size, oi)], ⟨⟨rfl, h2⟩, ⟨rfl, hic⟩, trivial⟩, fun p hp => ?_⟩
    rcases List.mem_cons.mp hp with rfl | hp
    · exact h1
    · rw [List.mem_singleton.mp hp]; exact hoi
  · intro b hb
    have hb' : b = s.heap.objs.size + 1 ∨ b = s.heap.objs.size := by simpa using hb
    rcases hb' with rfl | rfl
    · exact ⟨by simp, ktu_new F (Nat.le_add_right _ _)⟩
    · exact ⟨by simp, ktu_new F (Nat.le_refl _)⟩
  · intro b hb
    simpa using hb
  · intro b hb
    have hb' : b = s.heap.objs.size + 1 ∨ b = s.heap.objs.size ∨ b = l := by simpa using hb
    rcases hb' with rfl | rfl | rfl
    · exact .inl (by simp)
    · exact .inl (by simp)
    · exact .inr (.inr ⟨lo, hg⟩)
  · intro hI'
    have hb' : env.locals = s.heap.objs.size + 1 ∨ env.locals = s.heap.objs.size ∨ env.locals = l := by simpa using hI'
    rcases hb' with e | e | e
    · exact ktu_ne 1 hLs e
    · exact Nat.ne_of_lt hLs e
    · exact absurd (Heap.lt_size hg) (Nat.not_lt.mpr (e ▸ F.above))
  · intro p hp hI'
    have hb' : p.1 = s.heap.objs.size + 1 ∨ p.1 = s.heap.objs.size := by simpa using hI'
    have hlp := Heap.lt_size (N p hp).1
    rcases hb' with e | e
    · exact ktu_ne 1 hlp e
    · exact Nat.ne_of_lt hlp e
  · exact ⟨⟨.none, hE⟩, hI, hl.at fun o e => hk l o e⟩
end
end Mine
namespace Mine
section
variable {prog : Program} {w : World} {A : Around} {E : Value → Shared → Prop} {s : Shared} {env : Env} {h₀ : Heap} {target : Expr} {body : List Stmt} {Q : Flow → Shared → Prop}
def OneTurn (prog : Program) (w : World) (A : Around) (E : Value → Shared → Prop) (h₀ : Heap) (env : Env) (target : Expr) (body : List Stmt) (Q : Flow → Shared → Prop) (s : Shared) (ws : List (Addr × String)) (a : Itm) (m : Str → Option Value) (news : List (Addr × Obj)) (next : (Str → Option Value) → List (Addr × Obj) → Prop) : Prop :=
  ∀ v h tk, a.Is v h → Fr h₀ env.locals h m → AllObj ws (fun its => News h₀ env.locals h (its ++ news) →
      wpAny (model prog w) A (assign target env v) (fun _ s₂ => wpAny (model prog w) A (execs body env) (UnrPostW h₀ env.locals { s with heap := h, toks := tk } its (fun m' n' => SubL [] n' ∧ next m' n') Q) E s₂) E { s with heap := h, toks := tk })
theorem allObj_mono : ∀ {ws : List (Addr × String)} {k k' : List (Addr × Obj) → Prop}, (∀ its, k its → k' its) → AllObj ws k → AllObj ws k'
  | [], _, _, h, x => h _ x
  | _ :: _, _, _, h, x => fun o ho => allObj_mono (fun its => h _) (x o ho)
theorem unrPost_mono {L : Addr} {s₁ : Shared} {its : List (Addr × Obj)} {r r' : (Str → Option Value) → List (Addr × Obj) → Prop} (hr : ∀ m n, r m n → r' m n) {f : Flow} {s₂ : Shared} (h : UnrPostW h₀ L s₁ its r Q f s₂) : UnrPostW h₀ L s₁ its r' Q f s₂ := by
  cases f with
  | ret v => exact h
  | brk => exact h
  | next => obtain ⟨h', tk, m', n', e, F, N, a, x⟩ := h; exact ⟨h', tk, m', n', e, F, N, a, hr _ _ x⟩
  | cont => obtain ⟨h', tk, m', n', e, F, N, a, x⟩ := h; exact ⟨h', tk, m', n', e, F, N, a, hr _ _ x⟩
/-- The turns of a loop by an invariant that joins the ways of each turn. -/
theorem itemsJ {ws : List (Addr × String)} (J : Nat → (Str → Option Value) → List (Addr × Obj) → Prop) (xs : List Itm)
    (turn : ∀ i a m news, xs[i]? = some a → J i m news → OneTurn prog w A E h₀ env target body Q s ws a m news (J (i + 1)))
    (fin : ∀ m news, J xs.length m news → ∀ h tk, Fr h₀ env.locals h m → News h₀ env.locals h news → Q .next { s with heap := h, toks := tk }) :
    ∀ (k i : Nat) (m : Str → Option Value) (news : List (Addr × Obj)), k + i = xs.length → J i m news → ItemsRest prog w A E h₀ env target body Q s ws [] (xs.drop i) m news
  | 0, i, m, news, hk, hJ => by
    have e : xs.drop i = [] := List.drop_eq_nil_of_le (by omega)
    rw [e]
    have hi : i = xs.length := by omega
    exact fin m news (hi ▸ hJ)
  | k + 1, i, m, news, hk, hJ => by
    have hlt : i < xs.length := by omega
    rw [List.drop_eq_getElem_cons hlt]
    intro v h tk hv F
    refine allObj_mono (fun _ hx N => ?_) (turn i xs[i] m news (List.getElem?_eq_getElem hlt) hJ v h tk hv F)
    refine wpAny_mono (hx N) (fun _ s₂ y => wpAny_mono y (fun f s₃ z => unrPost_mono (fun m' n' q => ⟨q.1, itemsJ J xs turn fin k (i + 1) m' n' (by omega) q.2⟩) z) fun _ _ e => e) fun _ _ e => e
theorem OneTurn.pair {ws : List (Addr × String)} {f : Tok → Value} {x : Value} {m : Str → Option Value} {news : List (Addr × Obj)} {next : (Str → Option Value) → List (Addr × Obj) → Prop}
    (h : ∀ T t h tk, IsTup h T #[f t, x] → Fr h₀ env.locals h m → AllObj ws (fun its => News h₀ env.locals h (its ++ news) →
      wpAny (model prog w) A (assign target env (.ref T)) (fun _ s₂ => wpAny (model prog w) A (execs body env) (UnrPostW h₀ env.locals { s with heap := h, toks := tk } its (fun m' n' => SubL [] n' ∧ next m' n') Q) E s₂) E { s with heap := h, toks := tk })) :
    OneTurn prog w A E h₀ env target body Q s ws (.pair f x) m news next := by
  intro u h' tk e F
  obtain ⟨T, t, e, ht⟩ := e
  subst e
  exact h T t h' tk ht F
theorem OneTurn.val {ws : List (Addr × String)} {x : Value} {m : Str → Option Value} {news : List (Addr × Obj)} {next : (Str → Option Value) → List (Addr × Obj) → Prop}
    (h : ∀ h tk, Fr h₀ env.locals h m → AllObj ws (fun its => News h₀ env.locals h (its ++ news) →
      wpAny (model prog w) A (assign target env x) (fun _ s₂ => wpAny (model prog w) A (execs body env) (UnrPostW h₀ env.locals { s with heap := h, toks := tk } its (fun m' n' => SubL [] n' ∧ next m' n') Q) E s₂) E { s with heap := h, toks := tk })) :
    OneTurn prog w A E h₀ env target body Q s ws (.val x) m news next := by
  intro u h' tk e F
  have e' : u = x := e
  subst e'
  exact h h' tk F
end
/-- The ten signs of filemode for a regular file with the rights b. -/
def sg (b : Int) (k : Int) (c : Nat) : Nat := if Builtin.bitAnd (32768 + b) k = k then c else 45
def signs (b : Int) : List Str := [⟨#[45]⟩, ⟨#[45]⟩, ⟨#[45]⟩, ⟨#[45]⟩, ⟨#[sg b 32 114]⟩, ⟨#[sg b 16 119]⟩, ⟨#[sg b 8 120]⟩, ⟨#[sg b 4 114]⟩, ⟨#[sg b 2 119]⟩, ⟨#[sg b 1 120]⟩]
def row10 (b : Int) : Str := ⟨#[45, 45, 45, 45, sg b 32 114, sg b 16 119, sg b 8 120, sg b 4 114, sg b 2 119, sg b 1 120]⟩
theorem sg_yes {b k : Int} {c : Nat} (h : Builtin.bitAnd (32768 + b) k = k) : sg b k c = c := if_pos h
theorem sg_no {b k : Int} {c : Nat} (h : Builtin.bitAnd (32768 + b) k ≠ k) : sg b k c = 45 := if_neg h
theorem join_row (b : Int) : Txt.join (Str.ofString "") (signs b) = row10 b := rfl
theorem signs_weight (b : Int) : ((signs b).map (·.length)).sum + (signs b).length ≤ 1048576 := by
  show 20 ≤ 1048576
  decide
structure NB (k : Int) : Prop where
  n1 : Builtin.bitAnd k 256 ≠ 256
  n2 : Builtin.bitAnd k 128 ≠ 128
  n3 : Builtin.bitAnd k 2112 ≠ 2112
  n4 : Builtin.bitAnd k 2048 ≠ 2048
  n5 : Builtin.bitAnd k 64 ≠ 64
  n6 : Builtin.bitAnd k 1032 ≠ 1032
  n7 : Builtin.bitAnd k 1024 ≠ 1024
  n8 : Builtin.bitAnd k 513 ≠ 513
  n9 : Builtin.bitAnd k 512 ≠ 512
  n0 : Builtin.bitAnd k 61440 = 32768
theorem noBits : ∀ n : Fin 64, Builtin.bitAnd (32768 + (n.val : Int)) 256 ≠ 256 ∧ Builtin.bitAnd (32768 + (n.val : Int)) 128 ≠ 128 ∧ Builtin.bitAnd (32768 + (n.val : Int)) 2112 ≠ 2112 ∧ Builtin.bitAnd (32768 + (n.val : Int)) 2048 ≠ 2048 ∧ Builtin.bitAnd (32768 + (n.val : Int)) 64 ≠ 64 ∧ Builtin.bitAnd (32768 + (n.val : Int)) 1032 ≠ 1032 ∧ Builtin.bitAnd (32768 + (n.val : Int)) 1024 ≠ 1024 ∧ Builtin.bitAnd (32768 + (n.val : Int)) 513 ≠ 513 ∧ Builtin.bitAnd (32768 + (n.val : Int)) 512 ≠ 512 ∧ Builtin.bitAnd (32768 + (n.val : Int)) 61440 = 32768 := by decide +kernel
theorem noBit {b : Int} (h0 : 0 ≤ b) (h1 : b < 64) : NB (32768 + b) := by
  have h := noBits ⟨b.toNat, by omega⟩
  rw [show ((⟨b.toNat, by omega⟩ : Fin 64).val : Int) = b from Int.toNat_of_nonneg h0] at h
  obtain ⟨a1, a2, a3, a4, a5, a6, a7, a8, a9, a0⟩ := h
  exact ⟨a1, a2, a3, a4, a5, a6, a7, a8, a9, a0⟩
theorem NB.clash {k : Int} (B : NB k) {P : Prop} {x : Int} (h : Builtin.bitAnd k x = x) (hx : x = 256 ∨ x = 128 ∨ x = 2112 ∨ x = 2048 ∨ x = 64 ∨ x = 1032 ∨ x = 1024 ∨ x = 513 ∨ x = 512) : P := by
  rcases hx with rfl | rfl | rfl | rfl | rfl | rfl | rfl | rfl | rfl
  · exact absurd h B.n1
  · exact absurd h B.n2
  · exact absurd h B.n3
  · exact absurd h B.n4
  · exact absurd h B.n5
  · exact absurd h B.n6
  · exact absurd h B.n7
  · exact absurd h B.n8
  · exact absurd h B.n9
/-- The state of filemode's outer loop: the list holds the first i signs. -/
structure FmJ (k : Int) (t : Tok) (p : Addr) (b : Int) (i : Nat) (m : Str → Option Value) (n : List (Addr × Obj)) : Prop where
  mode : m (Str.ofString "mode") = some (.int k t)
  perm : m (Str.ofString "perm") = some (.ref p)
  list : ∃ vm c, (p, PySem.W.listOf vm c) ∈ n ∧ StrsAre vm.toList ((signs b).take i)
theorem strsAre_push {vm : Array Value} {xs : List Str} {y : Str} {t : Tok} (h : StrsAre vm.toList xs) : StrsAre (vm.push (.str y t)).toList (xs ++ [y]) := by
  rw [Array.toList_push]
  generalize vm.toList = l at h
  induction h with
  | nil => exact .cons y t .nil
  | cons z u _ ih => exact .cons z u ih
theorem FmJ.push {k : Int} {t : Tok} {p : Addr} {b : Int} {i : Nat} {m : Str → Option Value} {n : List (Addr × Obj)} {vm : Array Value} {c : Nat} {y : Str} {u : Tok} (hs : StrsAre vm.toList ((signs b).take i)) (h1 : m (Str.ofString "mode") = some (.int k t)) (h2 : m (Str.ofString "perm") = some (.ref p))
    (h3 : (p, PySem.W.listOf (vm.push (.str y u)) c) ∈ n) (h4 : (signs b)[i]? = some y) : FmJ k t p b (i + 1) m n :=
  ⟨h1, h2, _, _, h3, by rw [List.take_add_one, h4]; exact strsAre_push hs⟩
end Mine
namespace Mine
theorem itemsJ0 {prog : Program} {w : World} {A : Around} {E : Value → Shared → Prop} {s : Shared} {env : Env} {h₀ : Heap} {target : Expr} {body : List Stmt} {Q : Flow → Shared → Prop} {ws : List (Addr × String)} (J : Nat → (Str → Option Value) → List (Addr × Obj) → Prop) {xs : List Itm} {m : Str → Option Value} {news : List (Addr × Obj)}
    (turn : ∀ i a m news, xs[i]? = some a → J i m news → OneTurn prog w A E h₀ env target body Q s ws a m news (J (i + 1)))
    (fin : ∀ m news, J xs.length m news → ∀ h tk, Fr h₀ env.locals h m → News h₀ env.locals h news → Q .next { s with heap := h, toks := tk })
    (h0 : J 0 m news) : ItemsRest prog w A E h₀ env target body Q s ws [] xs m news := by
  have := itemsJ J xs turn fin xs.length 0 m news (Nat.add_zero _) h0
  rwa [List.drop_zero] at this
end Mine
namespace Mine
theorem chain2 {G h : Heap} {L : Addr} {m : Str → Option Value} {n1 n2 : Str} {v1 v2 : Option Value} (F : Fr G L h m) (h1 : m n1 = v1) (h2 : m n2 = v2) :
    Fr G L h (fun y => if y = n1 then v1 else if y = n2 then v2 else m y) := by
  have e : (fun y => if y = n1 then v1 else if y = n2 then v2 else m y) = m := by
    funext y
    by_cases q1 : y = n1
    · simp [q1, h1]
    by_cases q2 : y = n2
    · subst q2; simp [q1, h2]
    simp [q1, q2]
  rw [e]; exact F
end Mine
namespace Mine
def Back0 (h₀ : Heap) (L : Addr) (m : Str → Option Value) (news : List (Addr × Obj)) (g : Heap) (L' : Addr) (Q : Value → Shared → Prop) (v : Value) (s' : Shared) : Prop :=
  ∃ m' own, Fr g L' s'.heap m' ∧ News g L' s'.heap own ∧ (Fr h₀ L s'.heap m → News h₀ L s'.heap (own ++ news) → (∀ p ∈ own, ∀ q ∈ news, p.1 ≠ q.1) → Q v s')
/-- A call of a def whose body marks no frame of its callers. -/
theorem enter0 {prog : Program} {w : World} {A : Around} {E : Value → Shared → Prop} {s : Shared} {base h₀ : Heap} {l : List Env} {envC : Env} {L : Addr} {m : Str → Option Value} {news : List (Addr × Obj)} {K : Frag} {Q : Value → Shared → Prop}
    {name qual : Str} {params : Arguments} {body : List Stmt} {scope : Scope} {dV kV doc pm cdv ct oc : Value} {an od : Option Addr} {osl : Array (Option Value)} {f : Addr} {args : List Value} {binds : List (Str × Value)}
    (B0 : base.StaysIn h₀) (BF : h₀.FunFrames base l) (hfC : envC.frame = some L) (hkC : envC.scope.kind ≠ .module)
    (F : Fr h₀ L s.heap m) (N : News h₀ L s.heap news) (X : K.In base) (lim : base.NoLimit)
    (ho : K.lookup f = some ⟨oc, od, .func (fnOf name qual params body scope dV kV doc pm an cdv ct), osl⟩) (hcd : codeIn K cdv qual = true) (hroom : A.depth < recursionLimit)
    (hbind : BindsTo s (fnOf name qual params body scope dV kV doc pm an cdv ct) ⟨args, []⟩ binds) (hloc : ∀ y ∈ binds, scope.names.lookup y.1 = some .local)
    (h : ∀ h₁, base.StaysIn s.heap → s.heap.FunFrames base (envC :: l) → Fr s.heap s.heap.objs.size h₁ (fun y => binds.reverse.lookup y) →
      wpAny (model prog w) (A.deeper (envOf qual scope s.heap.objs.size f cdv)) (execs body (envOf qual scope s.heap.objs.size f cdv))
        (fun fl s' => Back0 h₀ L m news s.heap s.heap.objs.size Q (match fl with | .ret v => v | _ => .none) s') (fun _ _ => False)
        { s with heap := h₁, toks := s.toks + binds.length })
    (hco : scope.isCoroutine = false) (hgen : scope.isGenerator = false) (hk : scope.kind = .function) (hcell : ∀ x ∈ scope.names, x.2 ≠ .cell) :
    wpAny (model prog w) A (call (.ref f) args) Q E s := by
  refine enter B0 BF hfC hkC F N X lim ho hcd hroom hbind hloc (fun h₁ B1 BF1 F1 => wpAny_mono (h h₁ B1 BF1 F1) (fun fl s' b => ?_) fun _ _ x => x) hco hgen hk hcell
  obtain ⟨m', own, F', N', k⟩ := b
  have hk : ∀ b o, s.heap.get? b = some o → s'.heap.get? b = some o := F'.keep
  refine ⟨s.heap, m', own, KtsTurn.refl, F', N', fun h₀' _ _ _ _ _ ne => k (F.keeps hk) (fun p hp => ?_) ne⟩
  rcases List.mem_append.mp hp with hp | hp
  · have hN := N' p hp
    refine ⟨hN.1, fun e => ?_, ?_⟩
    · have := hN.2.2
      obtain ⟨_, _, _, hL, _⟩ := F.ns
      rw [e, hL] at this
      exact nomatch this
    · cases q : h₀.get? p.1 with
      | none => rfl
      | some o => have := F.keep _ _ q; rw [hN.2.2] at this; exact nomatch this
  · exact N.grown hk p hp
end Mine
end
section
open PySem PySem.W PyProof.Rows PySem.Calls
set_option maxRecDepth 100000
set_option maxHeartbeats 4000000
namespace Mine
/-- What is left of a for loop with an else clause: the items to come, then the clause. -/
noncomputable def ElseRest (prog : Program) (w : World) (A : Around) (E : Value → Shared → Prop) (h₀ : Heap) (env : Env) (target : Expr) (body orelse : List Stmt) (Q : Flow → Shared → Prop) (s : Shared) (I : Addr) : List Value → (Str → Option Value) → List (Addr × Obj) → Prop
  | [], m, news => ∀ h tk, Fr h₀ env.locals h m → News h₀ env.locals h news → wpAny (model prog w) A (execs orelse env) Q E { s with heap := h, toks := tk }
  | v :: r, m, news => ∀ h tk (o : Obj), o.cls = .type "tuple_iterator" → Fr h₀ env.locals h m → News h₀ env.locals h ((I, o) :: news) →
      wpAny (model prog w) A (assign target env v) (fun _ s₂ => wpAny (model prog w) A (execs body env) (UnrPostW h₀ env.locals { s with heap := h, toks := tk } [(I, o)] (fun m' n' => SubL [] n' ∧ ElseRest prog w A E h₀ env target body orelse Q s I r m' n') Q) E s₂) E { s with heap := h, toks := tk }
section
variable {prog : Program} {w : World} {A : Around} {E : Value → Shared → Prop} {s : Shared} {env : Env} {h₀ : Heap} {target : Expr} {body orelse : List Stmt} {Q : Flow → Shared → Prop} {I : Addr}
theorem ElseRest.nil {m : Str → Option Value} {news : List (Addr × Obj)} (h : ∀ h tk, Fr h₀ env.locals h m → News h₀ env.locals h news → wpAny (model prog w) A (execs orelse env) Q E { s with heap := h, toks := tk }) : ElseRest prog w A E h₀ env target body orelse Q s I [] m news := h
theorem ElseRest.cons {v : Value} {r : List Value} {m : Str → Option Value} {news : List (Addr × Obj)} (h : ∀ h tk (o : Obj), o.cls = .type "tuple_iterator" → Fr h₀ env.locals h m → News h₀ env.locals h ((I, o) :: news) →
      wpAny (model prog w) A (assign target env v) (fun _ s₂ => wpAny (model prog w) A (execs body env) (UnrPostW h₀ env.locals { s with heap := h, toks := tk } [(I, o)] (fun m' n' => SubL [] n' ∧ ElseRest prog w A E h₀ env target body orelse Q s I r m' n') Q) E s₂) E { s with heap := h, toks := tk }) : ElseRest prog w A E h₀ env target body orelse Q s I (v :: r) m news := h
def ElseAt (prog : Program) (w : World) (A : Around) (E : Value → Shared → Prop) (h₀ : Heap) (env : Env) (target : Expr) (body orelse : List Stmt) (Q : Flow → Shared → Prop) (it : Value) (s : Shared) : Prop :=
  ∃ (I t : Addr) (vs : List Value) (m : Str → Option Value) (news : List (Addr × Obj)), it = .ref I ∧ s.heap.IsTupleIter I t 0 ∧ (∃ o, h₀.get? t = some o ∧ o.cls = .type "tuple" ∧ ∃ n, o.data = .seq vs.toArray n) ∧ h₀.get? I = none ∧ env.locals ≠ I ∧ Fr h₀ env.locals s.heap m ∧ News h₀ env.locals s.heap news ∧ (∀ p ∈ news, p.1 ≠ I) ∧ ElseRest prog w A E h₀ env target body orelse Q s I vs m news
theorem for_else {iter : Expr} {pos : Pos} {m : Str → Option Value} (_F : Fr h₀ env.locals s.heap m) (hh : A.handled = none)
    (h : wpAny (model prog w) A (eval iter env) (fun xv s₁ => wpAny (model prog w) A (pyIter xv) (fun it s₂ => ElseAt prog w A E h₀ env target body orelse Q it s₂) E s₁) E s)
    (hs : ∀ x, foldedSetIterable iter env x = pure x := by intro _; rfl)
    (hE : PassesOwn (model prog w) A env E := by passes_own) :
    wpAny (model prog w) A (exec (.For target iter body orelse pos) env) Q E s := by
  refine wpAny_For (wpAny_mono h (fun xv s₁ h₁ => wpAny_mono h₁ (fun it s₂ h₂ => ?_) fun _ _ e => e) fun _ _ e => e) hs
  obtain ⟨I, t, vs, m, news, rfl, hit, ⟨lo, hg, hc, nn, hd⟩, hI, hLI, F, N, hnI, rest⟩ := h₂
  have htI : t ≠ I := fun e => by rw [e, hI] at hg; exact nomatch hg
  refine codeAny_forLoop_any (fun k s' => ∃ i h' tk m' news', s' = { s₂ with heap := h', toks := tk } ∧ h'.IsTupleIter I t i ∧ Fr h₀ env.locals h' m' ∧ News h₀ env.locals h' news' ∧ (∀ p ∈ news', p.1 ≠ I) ∧ ElseRest prog w A E h₀ env target body orelse Q s₂ I (vs.drop i) m' news' ∧ i ≤ vs.length ∧ k = vs.length - i) ?_ vs.length
    ⟨0, s₂.heap, s₂.toks, m, news, rfl, hit, F, N, hnI, by rw [List.drop_zero]; exact rest, Nat.zero_le _, rfl⟩
  rintro k s' ⟨i, h', tk, m', news', rfl, hit', F', N', hn', rest', hi, rfl⟩
  have hT : h'.IsTuple t vs.toArray := ⟨lo, F'.keep _ _ hg, hc, nn, hd⟩
  by_cases hlt : i < vs.length
  · refine wpAny_pyNext_tuple_item hit' hT (x := vs[i]) (by simp [hlt]) fun h₁ hit₁ hk₁ => ?_
    have F₁ : Fr h₀ env.locals h₁ m' := ⟨F'.ns.at' fun o e => (hk₁.2 _ hLI).trans e, fun b o e => (hk₁.2 b fun q => by rw [q, hI] at e; exact nomatch e).trans (F'.keep b o e), F'.above⟩
    obtain ⟨oI, hoI, hcI, hdI⟩ := id hit₁
    have N₁ : News h₀ env.locals h₁ ((I, oI) :: news') := fun p hp => by
      rcases List.mem_cons.mp hp with rfl | hp
      · exact ⟨hoI, Ne.symm hLI, hI⟩
      · exact ⟨(hk₁.2 _ (hn' p hp)).trans (N' p hp).1, (N' p hp).2⟩
    refine letGo_tupleiter hit₁ ?_
    have hdrop : vs.drop i = vs[i] :: vs.drop (i + 1) := List.drop_eq_getElem_cons hlt
    rw [hdrop] at rest'
    refine wpAny_mono (rest' h₁ tk oI hcI F₁ N₁) (fun _ s₃ h₃ => wpAny_mono h₃ (fun f s₄ h₄ => ?_) fun _ _ e => hE _ _ e) fun _ _ e => hE _ _ e
    have go : UnrEndW h₀ env.locals { s₂ with heap := h₁, toks := tk } [(I, oI)] (fun m' n' => SubL [] n' ∧ ElseRest prog w A E h₀ env target body orelse Q s₂ I (vs.drop (i + 1)) m' n') s₄ → ∃ m, m < vs.length - i ∧ ∃ i h' tk m' news', s₄ = { s₂ with heap := h', toks := tk } ∧ h'.IsTupleIter I t i ∧ Fr h₀ env.locals h' m' ∧ News h₀ env.locals h' news' ∧ (∀ p ∈ news', p.1 ≠ I) ∧ ElseRest prog w A E h₀ env target body orelse Q s₂ I (vs.drop i) m' news' ∧ i ≤ vs.length ∧ m = vs.length - i := by
      rintro ⟨h₂, tk₂, m₂, n₂, rfl, F₂, N₂, ne₂, _, r₂⟩
      exact ⟨vs.length - (i + 1), by omega, i + 1, h₂, tk₂, m₂, n₂, rfl, ⟨oI, (N₂ _ (List.mem_cons_self ..)).1, hcI, hdI⟩, F₂, fun p hp => N₂ p (List.mem_cons_of_mem _ hp), fun p hp => ne₂ p hp (I, oI) (List.mem_cons_self ..), r₂, hlt, rfl⟩
    cases f with
    | ret v => exact h₄
    | brk => exact h₄
    | next => exact go h₄
    | cont => exact go h₄
  · have hin : i = vs.length := by omega
    subst hin
    refine wpAny_pyNext_tuple_end hh hit' hT (by simp) fun h₁ hk₁ => ?_
    have F₁ : Fr h₀ env.locals h₁ m' := ⟨F'.ns.at' fun o e => hk₁ _ o hLI e, fun b o e => hk₁ b o (fun q => by rw [q, hI] at e; exact nomatch e) (F'.keep b o e), F'.above⟩
    have N₁ : News h₀ env.locals h₁ news' := fun p hp => ⟨hk₁ _ _ (hn' p hp) (N' p hp).1, (N' p hp).2⟩
    rw [List.drop_eq_nil_of_le (Nat.le_refl _)] at rest'
    exact wpAny_mono (rest' h₁ tk F₁ N₁) (fun _ _ x => x) fun _ _ e => hE _ _ e
theorem iterElse {ax : Addr} {lo : Obj} {vs : List Value} {n : Nat} {m₀ : Str → Option Value} {news : List (Addr × Obj)} {K : Frag} (F : Fr h₀ env.locals s.heap m₀) (N : News h₀ env.locals s.heap news) (X₀ : K.In h₀) (hk : K.lookup ax = some lo) (hc : lo.cls = .type "tuple") (hd : lo.data = .seq vs.toArray n)
    (rest₀ : ∀ I : Addr, (∀ p ∈ news, p.1 < I) → ElseRest prog w A E h₀ env target body orelse Q { s with heap := s.heap.push { cls := .type "tuple_iterator", data := .fields #[.ref ax, .int 0 0] } } I vs m₀ news) :
    wpAny (model prog w) A (pyIter (.ref ax)) (fun it s₂ => ElseAt prog w A E h₀ env target body orelse Q it s₂) E s := by
  have hg : h₀.get? ax = some lo := X₀ _ _ hk
  have hax : s.heap.get? ax = some lo := F.keep _ _ hg
  refine wpAny_pyIter_tuple ⟨lo, hax, hc, n, hd⟩ ?_
  exact ⟨s.heap.objs.size, ax, vs, m₀, news, rfl, ⟨_, Heap.get?_push_size _ rfl, rfl, rfl⟩, ⟨lo, hg, hc, n, hd⟩, ktu_new F (Nat.le_refl _), Nat.ne_of_lt F.ns.lt, F.push _, fun p hp => ⟨Heap.get?_push_of_some _ (N p hp).1, (N p hp).2⟩, fun p hp => Nat.ne_of_lt (Heap.lt_size (N p hp).1), rest₀ _ fun p hp => Heap.lt_size (N p hp).1⟩
end
end Mine
end
section
open PySem PySem.W PyProof.Rows PySem.Calls
set_option maxRecDepth 100000
set_option maxHeartbeats 8000000
namespace Mine
local macro_rules | `(tactic| walk_at "exec For Tuple Call cons nil") => `(tactic| (k_here; (with_reducible rename Fr _ _ _ _ => lF'); (with_unfolding_all refine' For_turns lF' ?_; k_whole)))
local macro_rules | `(tactic| walk_at "exec For Tuple Name cons nil") => `(tactic| (k_here; (with_reducible rename Fr _ _ _ _ => lF'); (with_unfolding_all refine' For_turns lF' ?_; k_whole)))
local macro_rules | `(tactic| walk_at "call type:enumerate") => `(tactic| (k_here; (with_unfolding_all refine' enumK ?h ?F ?N ?X ?k ?c ?d ?_; (case h => with_unfolding_all rfl); (case F => k_asm); (case N => k_asm); (case X => k_asm); (case k => k_is); (case c => exact rfl); (case d => exact rfl); k_whole); refine hold ?_))
local macro_rules | `(tactic| walk_at "exec For Tuple Name cons cons") => `(tactic| (k_here; (with_reducible rename Fr _ _ _ _ => lF'); (with_unfolding_all refine' for_else lF' ?hh ?_; (case hh => with_unfolding_all rfl); k_whole)))
local macro_rules | `(tactic| walk_at "pyIter ref") => `(tactic| (k_here; (with_reducible show wpAny _ _ (pyIter (Value.ref _)) (fun it s₂ => ElseAt _ _ _ _ _ _ _ _ _ _ it s₂) _ _); (with_unfolding_all refine' iterElse ?F ?N ?X ?k ?c ?d ?_; (case F => k_asm); (case N => k_asm); (case X => k_asm); (case k => k_is); (case c => exact rfl); (case d => exact rfl); k_whole); intro i' l1; (try k_lt l1)))
local macro_rules | `(tactic| walk_at "call builtin:list.append") => `(tactic| (k_here; refine' append_K ?k1 ?k2 ?k3 ?_ ?z; (case k1 => k_asm); (case k2 => k_asm); (case k3 => k_upd); (case z => first | assumption | size_fits); intro h9 F9 N9))
local macro_rules | `(tactic| walk_at "ElseRest") => `(tactic| first
  | ((with_unfolding_all refine ElseRest.cons (fun h' tk' o' hc' F' N' => ?_)))
  | (with_unfolding_all refine ElseRest.nil (fun h' tk' F' N' => ?_)))
theorem sifmt_spec (w : World) (mean : ExcName → Option Value) (mg mb : Str → Option Value) (dp un : Nat) (gd : Option (List Code)) (envC : Env) (l : List Env) (base h₀ : Heap) (L : Addr) (m : Str → Option Value) (s : Shared) (Q E : Value → Shared → Prop) (news : List (Addr × Obj))
   (k : Int) (t : Tok) (v : Int) (hv : Builtin.bitAnd k 61440 = v)
   (B0 : base.StaysIn h₀) (BF : h₀.FunFrames base l) (hfC : envC.frame = some L) (hkC : envC.scope.kind ≠ .module)
   (F : Fr h₀ L s.heap m) (N : News h₀ L s.heap news) (X : (hd.heap_39 w.params).In base) (T : Top hd.view_39 lo mean mg mb base)
   (hroom0 : dp < recursionLimit)
   (hret : ∀ h' tk t', Fr h₀ L h' m → News h₀ L h' news → Q (.int v t') { s with heap := h', toks := tk }) : wpAny (model PySem.Challenge.rw_un0005_01.row.prog w) { handled := none, depth := dp, frames := some (envC :: l), guards := gd, units := un } (call (.ref 38) [.int k t]) Q E s := by
  w_top off
  revert X; k_fill; intro X
  k_dflt (refine' enter0 B0 BF hfC hkC F N X T.nolimit ?k6 ?k7 ?k8 ?k9 ?kB ?_ ?c2 ?c3 ?c4 ?c5; (case k6 => k_is); (case k7 => k_is); (case k8 => exact hroom0); (case k9 => first | exact binds_K (by k_in) rfl (by k_is) rfl rfl rfl | exact BindsTo.of_eq rfl); (case kB => exact locs rfl); (case c2 => exact rfl); (case c3 => exact rfl); (case c4 => exact rfl); (case c5 => decide); k_whole)
  intro h₁ B1 BF1 F1
  have X1 := X.keeps B1
  have T1 := T.keeps B1
  have N1 : News s.heap s.heap.objs.size h₁ [] := News.nil
  generalize hG : s.heap = G at *
  generalize hL' : G.objs.size = L' at *
  k_steps
  exact ⟨_, [], by assumption, News.nil, fun F₀ N₀ _ => by rw [hv]; exact hret _ _ _ F₀ N₀⟩
local macro_rules | `(tactic| walk_at "call ref") => `(tactic| (k_here; (with_reducible rename NB _ => nb'); (with_unfolding_all refine' sifmt_spec _ _ _ _ _ _ _ _ _ _ _ _ _ _ _ _ _ _ _ _ (NB.n0 nb') ?B0 ?BF ?hfC ?hkC ?F ?N ?X ?T ?h0 ?_); (case B0 => k_asm); (case BF => k_asm); (case hfC => exact rfl); (case hkC => exact fun q => nomatch q); (case F => k_asm); (case N => k_asm); (case X => k_asm); (case T => k_asm); (case h0 => assumption); intro h9 tk9 t9 F9 N9))
theorem fm_spec (w : World) (mean : ExcName → Option Value) (mg mb : Str → Option Value) (dp un : Nat) (gd : Option (List Code)) (envC : Env) (l : List Env) (base h₀ : Heap) (L : Addr) (m : Str → Option Value) (s : Shared) (Q E : Value → Shared → Prop) (news : List (Addr × Obj))
   (b : Int) (t : Tok) (hb0 : 0 ≤ b) (hb1 : b < 64)
   (B0 : base.StaysIn h₀) (BF : h₀.FunFrames base l) (hfC : envC.frame = some L) (hkC : envC.scope.kind ≠ .module)
   (F : Fr h₀ L s.heap m) (N : News h₀ L s.heap news) (X : (hd.heap_39 w.params).In base) (T : Top hd.view_39 lo mean mg mb base)
   (hroom : dp + 1 < recursionLimit)
   (hret : ∀ h' tk t', Fr h₀ L h' m → News h₀ L h' news → Q (.str (row10 b) t') { s with heap := h', toks := tk }) : wpAny (model PySem.Challenge.rw_un0005_01.row.prog w) { handled := none, depth := dp, frames := some (envC :: l), guards := gd, units := un } (call (.ref 78) [.int (32768 + b) t]) Q E s := by
  have hroom0 : dp < recursionLimit := by omega
  have nb := noBit hb0 hb1
  w_top off
  revert X; k_fill; intro X
  k_dflt (refine' enter0 B0 BF hfC hkC F N X T.nolimit ?k6 ?k7 ?k8 ?k9 ?kB ?_ ?c2 ?c3 ?c4 ?c5; (case k6 => k_is); (case k7 => k_is); (case k8 => exact hroom0); (case k9 => first | exact binds_K (by k_in) rfl (by k_is) rfl rfl rfl | exact BindsTo.of_eq rfl); (case kB => exact locs rfl); (case c2 => exact rfl); (case c3 => exact rfl); (case c4 => exact rfl); (case c5 => decide); k_whole)
  intro h₁ B1 BF1 F1
  have X1 := X.keeps B1
  have T1 := T.keeps B1
  have N1 : News s.heap s.heap.objs.size h₁ [] := News.nil
  generalize hG : s.heap = G at *
  generalize hL' : G.objs.size = L' at *
  generalize hk : 32768 + b = k at *
  k_steps
  intro I lI
  rename_i p _ h2 F2 N2 lp 
  refine itemsJ0 (FmJ k t p b) ?turn ?fin ?start
  case start => exact ⟨rfl, rfl, #[], 0, .head _, .nil⟩
  case turn =>
    rintro i a m3 n3 ha ⟨j1, j2, vm, c, hin, hs⟩
    have lp' : @LT.lt Nat _ p I := lI _ (List.mem_cons_self ..)
    have zl := hs.len_eq
    rw [List.length_take] at zl
    have zm : vm.size ≤ sizeLine := by rw [sizeLine_eq, ← Array.length_toList, zl]; have : (signs b).length = 10 := rfl; omega
    clear zl
    match i, ha with
    | 0, ha =>
      obtain rfl := Option.some.inj ha
      refine OneTurn.pair fun T t' h' tk hT F' => ?_
      ktu_objs
      rename_i o1 c1 o2 c2 N'
      have F3 := chain2 (show Fr G L' _ _ from F') j1 j2
      replace N' : News G L' h' [(I + 1, o1), (I, o2), (p, PySem.W.listOf vm c)] := fun q hq => by
        rcases List.mem_cons.mp hq with rfl | hq
        · exact N' _ (.head _)
        rcases List.mem_cons.mp hq with rfl | hq
        · exact N' _ (.tail _ (.head _))
        rw [List.mem_singleton.mp hq]
        exact N' _ (.tail _ (.tail _ hin))
      clear F' hin
      k_steps
      all_goals first
        | exact NB.clash nb (by assumption) (by decide)
        | (refine' FmJ.push hs rfl rfl ?mem ?sg
           (case mem => k_mem)
           (case sg => (with_reducible show _ = some _); first | exact rfl | (exact congrArg (fun c : Nat => some (Str.mk #[c])) (sg_yes (by rw [hk]; assumption))) | (exact congrArg (fun c : Nat => some (Str.mk #[c])) (sg_no (by rw [hk]; assumption)))))
        | trace_state
    | 1, ha =>
      obtain rfl := Option.some.inj ha
      refine OneTurn.pair fun T t' h' tk hT F' => ?_
      ktu_objs
      rename_i o1 c1 o2 c2 N'
      have F3 := chain2 (show Fr G L' _ _ from F') j1 j2
      replace N' : News G L' h' [(I + 1, o1), (I, o2), (p, PySem.W.listOf vm c)] := fun q hq => by
        rcases List.mem_cons.mp hq with rfl | hq
        · exact N' _ (.head _)
        rcases List.mem_cons.mp hq with rfl | hq
        · exact N' _ (.tail _ (.head _))
        rw [List.mem_singleton.mp hq]
        exact N' _ (.tail _ (.tail _ hin))
      clear F' hin
      k_steps
      all_goals first
        | exact NB.clash nb (by assumption) (by decide)
        | (refine' FmJ.push hs rfl rfl ?mem ?sg
           (case mem => k_mem)
           (case sg => (with_reducible show _ = some _); first | exact rfl | (exact congrArg (fun c : Nat => some (Str.mk #[c])) (sg_yes (by rw [hk]; assumption))) | (exact congrArg (fun c : Nat => some (Str.mk #[c])) (sg_no (by rw [hk]; assumption)))))
        | trace_state
    | 2, ha =>
      obtain rfl := Option.some.inj ha
      refine OneTurn.pair fun T t' h' tk hT F' => ?_
      ktu_objs
      rename_i o1 c1 o2 c2 N'
      have F3 := chain2 (show Fr G L' _ _ from F') j1 j2
      replace N' : News G L' h' [(I + 1, o1), (I, o2), (p, PySem.W.listOf vm c)] := fun q hq => by
        rcases List.mem_cons.mp hq with rfl | hq
        · exact N' _ (.head _)
        rcases List.mem_cons.mp hq with rfl | hq
        · exact N' _ (.tail _ (.head _))
        rw [List.mem_singleton.mp hq]
        exact N' _ (.tail _ (.tail _ hin))
      clear F' hin
      k_steps
      all_goals first
        | exact NB.clash nb (by assumption) (by decide)
        | (refine' FmJ.push hs rfl rfl ?mem ?sg
           (case mem => k_mem)
           (case sg => (with_reducible show _ = some _); first | exact rfl | (exact congrArg (fun c : Nat => some (Str.mk #[c])) (sg_yes (by rw [hk]; assumption))) | (exact congrArg (fun c : Nat => some (Str.mk #[c])) (sg_no (by rw [hk]; assumption)))))
        | trace_state
    | 3, ha =>
      obtain rfl := Option.some.inj ha
      refine OneTurn.pair fun T t' h' tk hT F' => ?_
      ktu_objs
      rename_i o1 c1 o2 c2 N'
      have F3 := chain2 (show Fr G L' _ _ from F') j1 j2
      replace N' : News G L' h' [(I + 1, o1), (I, o2), (p, PySem.W.listOf vm c)] := fun q hq => by
        rcases List.mem_cons.mp hq with rfl | hq
        · exact N' _ (.head _)
        rcases List.mem_cons.mp hq with rfl | hq
        · exact N' _ (.tail _ (.head _))
        rw [List.mem_singleton.mp hq]
        exact N' _ (.tail _ (.tail _ hin))
      clear F' hin
      k_steps
      all_goals first
        | exact NB.clash nb (by assumption) (by decide)
        | (refine' FmJ.push hs rfl rfl ?mem ?sg
           (case mem => k_mem)
           (case sg => (with_reducible show _ = some _); first | exact rfl | (exact congrArg (fun c : Nat => some (Str.mk #[c])) (sg_yes (by rw [hk]; assumption))) | (exact congrArg (fun c : Nat => some (Str.mk #[c])) (sg_no (by rw [hk]; assumption)))))
        | trace_state
    | 4, ha =>
      obtain rfl := Option.some.inj ha
      refine OneTurn.pair fun T t' h' tk hT F' => ?_
      ktu_objs
      rename_i o1 c1 o2 c2 N'
      have F3 := chain2 (show Fr G L' _ _ from F') j1 j2
      replace N' : News G L' h' [(I + 1, o1), (I, o2), (p, PySem.W.listOf vm c)] := fun q hq => by
        rcases List.mem_cons.mp hq with rfl | hq
        · exact N' _ (.head _)
        rcases List.mem_cons.mp hq with rfl | hq
        · exact N' _ (.tail _ (.head _))
        rw [List.mem_singleton.mp hq]
        exact N' _ (.tail _ (.tail _ hin))
      clear F' hin
      k_steps
      all_goals first
        | exact NB.clash nb (by assumption) (by decide)
        | (refine' FmJ.push hs rfl rfl ?mem ?sg
           (case mem => k_mem)
           (case sg => (with_reducible show _ = some _); first | exact rfl | (exact congrArg (fun c : Nat => some (Str.mk #[c])) (sg_yes (by rw [hk]; assumption))) | (exact congrArg (fun c : Nat => some (Str.mk #[c])) (sg_no (by rw [hk]; assumption)))))
        | trace_state
    | 5, ha =>
      obtain rfl := Option.some.inj ha
      refine OneTurn.pair fun T t' h' tk hT F' => ?_
      ktu_objs
      rename_i o1 c1 o2 c2 N'
      have F3 := chain2 (show Fr G L' _ _ from F') j1 j2
      replace N' : News G L' h' [(I + 1, o1), (I, o2), (p, PySem.W.listOf vm c)] := fun q hq => by
        rcases List.mem_cons.mp hq with rfl | hq
        · exact N' _ (.head _)
        rcases List.mem_cons.mp hq with rfl | hq
        · exact N' _ (.tail _ (.head _))
        rw [List.mem_singleton.mp hq]
        exact N' _ (.tail _ (.tail _ hin))
      clear F' hin
      k_steps
      all_goals first
        | exact NB.clash nb (by assumption) (by decide)
        | (refine' FmJ.push hs rfl rfl ?mem ?sg
           (case mem => k_mem)
           (case sg => (with_reducible show _ = some _); first | exact rfl | (exact congrArg (fun c : Nat => some (Str.mk #[c])) (sg_yes (by rw [hk]; assumption))) | (exact congrArg (fun c : Nat => some (Str.mk #[c])) (sg_no (by rw [hk]; assumption)))))
        | trace_state
    | 6, ha =>
      obtain rfl := Option.some.inj ha
      refine OneTurn.pair fun T t' h' tk hT F' => ?_
      ktu_objs
      rename_i o1 c1 o2 c2 N'
      have F3 := chain2 (show Fr G L' _ _ from F') j1 j2
      replace N' : News G L' h' [(I + 1, o1), (I, o2), (p, PySem.W.listOf vm c)] := fun q hq => by
        rcases List.mem_cons.mp hq with rfl | hq
        · exact N' _ (.head _)
        rcases List.mem_cons.mp hq with rfl | hq
        · exact N' _ (.tail _ (.head _))
        rw [List.mem_singleton.mp hq]
        exact N' _ (.tail _ (.tail _ hin))
      clear F' hin
      k_steps
      all_goals first
        | exact NB.clash nb (by assumption) (by decide)
        | (refine' FmJ.push hs rfl rfl ?mem ?sg
           (case mem => k_mem)
           (case sg => (with_reducible show _ = some _); first | exact rfl | (exact congrArg (fun c : Nat => some (Str.mk #[c])) (sg_yes (by rw [hk]; assumption))) | (exact congrArg (fun c : Nat => some (Str.mk #[c])) (sg_no (by rw [hk]; assumption)))))
        | trace_state
    | 7, ha =>
      obtain rfl := Option.some.inj ha
      refine OneTurn.pair fun T t' h' tk hT F' => ?_
      ktu_objs
      rename_i o1 c1 o2 c2 N'
      have F3 := chain2 (show Fr G L' _ _ from F') j1 j2
      replace N' : News G L' h' [(I + 1, o1), (I, o2), (p, PySem.W.listOf vm c)] := fun q hq => by
        rcases List.mem_cons.mp hq with rfl | hq
        · exact N' _ (.head _)
        rcases List.mem_cons.mp hq with rfl | hq
        · exact N' _ (.tail _ (.head _))
        rw [List.mem_singleton.mp hq]
        exact N' _ (.tail _ (.tail _ hin))
      clear F' hin
      k_steps
      all_goals first
        | exact NB.clash nb (by assumption) (by decide)
        | (refine' FmJ.push hs rfl rfl ?mem ?sg
           (case mem => k_mem)
           (case sg => (with_reducible show _ = some _); first | exact rfl | (exact congrArg (fun c : Nat => some (Str.mk #[c])) (sg_yes (by rw [hk]; assumption))) | (exact congrArg (fun c : Nat => some (Str.mk #[c])) (sg_no (by rw [hk]; assumption)))))
        | trace_state
    | 8, ha =>
      obtain rfl := Option.some.inj ha
      refine OneTurn.pair fun T t' h' tk hT F' => ?_
      ktu_objs
      rename_i o1 c1 o2 c2 N'
      have F3 := chain2 (show Fr G L' _ _ from F') j1 j2
      replace N' : News G L' h' [(I + 1, o1), (I, o2), (p, PySem.W.listOf vm c)] := fun q hq => by
        rcases List.mem_cons.mp hq with rfl | hq
        · exact N' _ (.head _)
        rcases List.mem_cons.mp hq with rfl | hq
        · exact N' _ (.tail _ (.head _))
        rw [List.mem_singleton.mp hq]
        exact N' _ (.tail _ (.tail _ hin))
      clear F' hin
      k_steps
      all_goals first
        | exact NB.clash nb (by assumption) (by decide)
        | (refine' FmJ.push hs rfl rfl ?mem ?sg
           (case mem => k_mem)
           (case sg => (with_reducible show _ = some _); first | exact rfl | (exact congrArg (fun c : Nat => some (Str.mk #[c])) (sg_yes (by rw [hk]; assumption))) | (exact congrArg (fun c : Nat => some (Str.mk #[c])) (sg_no (by rw [hk]; assumption)))))
        | trace_state
    | 9, ha =>
      obtain rfl := Option.some.inj ha
      refine OneTurn.pair fun T t' h' tk hT F' => ?_
      ktu_objs
      rename_i o1 c1 o2 c2 N'
      have F3 := chain2 (show Fr G L' _ _ from F') j1 j2
      replace N' : News G L' h' [(I + 1, o1), (I, o2), (p, PySem.W.listOf vm c)] := fun q hq => by
        rcases List.mem_cons.mp hq with rfl | hq
        · exact N' _ (.head _)
        rcases List.mem_cons.mp hq with rfl | hq
        · exact N' _ (.tail _ (.head _))
        rw [List.mem_singleton.mp hq]
        exact N' _ (.tail _ (.tail _ hin))
      clear F' hin
      k_steps
      all_goals first
        | exact NB.clash nb (by assumption) (by decide)
        | (refine' FmJ.push hs rfl rfl ?mem ?sg
           (case mem => k_mem)
           (case sg => (with_reducible show _ = some _); first | exact rfl | (exact congrArg (fun c : Nat => some (Str.mk #[c])) (sg_yes (by rw [hk]; assumption))) | (exact congrArg (fun c : Nat => some (Str.mk #[c])) (sg_no (by rw [hk]; assumption)))))
        | trace_state
    | n + 10, ha =>
      exact nomatch ha
  case fin => 
    rintro m3 n3 ⟨j1, j2, vm, c, hin, hs⟩ h' tk F' N'
    have F3 := chain2 (show Fr G L' _ _ from F') j1 j2
    change News G L' _ _ at N'
    replace N' : News G L' h' [(p, PySem.W.listOf vm c)] := fun q hq => by rw [List.mem_singleton.mp hq]; exact N' _ hin
    clear F' hin
    k_steps
    refine join_listW (ys := signs b) (N'.isList (.head _)) hs (by decide) (signs_weight b) fun t9 k9 => ?_
    exact ⟨_, [], by assumption, News.nil, fun F₀ N₀ _ => hret _ _ _ F₀ N₀⟩
end Mine
end
section
open PySem PySem.W PyProof.Rows PySem.Calls
open Sem (wp)
open PySem.Builtin PySem.Builtin.Re
set_option maxRecDepth 100000
set_option maxHeartbeats 4000000
namespace Mine
theorem slot_re_sub : Slot "re.Pattern" "sub" "re.Pattern.sub" :=
  .of (owner := "re.Pattern") (n := "sub") (by rw [typeLookup_type, builtinLookup_eq_fast]; kernel_rfl) (by decide +kernel) (by decide +kernel) (by decide +kernel)
    (by first | exact .inl (by decide +kernel) | exact .inr (by decide +kernel)) (by rw [isSubtype_type]; kernel_rfl)
theorem type_re_sub : typeOf (.builtin "re.Pattern.sub") = pure (.type "method_descriptor") := by show builtinType _ = _; rw [builtinType_eq_fast]; kernel_rfl
theorem entry_re_sub : entryFor table "re.Pattern.sub" = some Builtin.«re.Pattern.sub» := entryFor_of_fast (by kernel_rfl)
theorem entry_re_sub_loop : entryFor table "re.Pattern.sub.loop" = some Builtin.«re.Pattern.sub.loop» := entryFor_of_fast (by kernel_rfl)
theorem plain_re_sub_loop : plainId "re.Pattern.sub.loop" = true := by decide +kernel
theorem plain_re_sub : plainId "re.Pattern.sub" = true := by decide +kernel
theorem args_re_sub (a b c : Value) : argsOk "re.Pattern.sub" ⟨[a, b, c], []⟩ := by
  unfold argsOk
  rw [signature?_of (id := "re.Pattern.sub") (n := ['b', 'u', 's']) (o := ['n', 'r', 'e', 't', 't', 'a', 'P', '.', 'e', 'r']) (by kernel_rfl) rfl]; kernel_rfl
/-- The machine's turns without the ledger of rules. -/
noncomputable def drive : Nat → Sre.M → Option Sre.M
  | 0, _ => none
  | n + 1, m => if (m.runFor reTurnSteps).outcome.isSome then some (m.runFor reTurnSteps) else drive n (m.runFor reTurnSteps)
section
variable {prog : Program} {w : World} {A : Around} {E : Value → Shared → Prop} {s : Shared}
theorem drive_sem {Q : Sre.M → Shared → Prop} {m' : Sre.M} (hQ : Q m' s) : ∀ (n turns : Nat) (m : Sre.M), drive n m = some m' → n ≤ turns → wpAny (model prog w) A (reDrive turns m) Q E s
  | 0, _, _, h, _ => nomatch h
  | n + 1, 0, _, _, hle => absurd hle (by omega)
  | n + 1, t + 1, m, h, hle => by
    unfold reDrive
    unfold drive at h
    cases ho : (m.runFor reTurnSteps).outcome.isSome with
    | true =>
      rw [ho] at h
      simp only [ho, if_true]
      have e : m.runFor reTurnSteps = m' := Option.some.inj h
      rw [e]
      exact wpAny_pure hQ
    | false =>
      rw [ho] at h
      simp only [ho, Bool.false_eq_true, if_false] at h ⊢
      exact wpAny_bind (wpAny_rule (drive_sem hQ n t _ h (by omega)))
theorem skim {g : Nat → PUnit → Sem (ForInStep PUnit)} {Q : PUnit → Shared → Prop} (hg : ∀ i (Q : ForInStep PUnit → Shared → Prop), Q (.yield ⟨⟩) s → wpAny (model prog w) A (g i ⟨⟩) Q E s) : ∀ (l : List Nat) , Q ⟨⟩ s → wpAny (model prog w) A (forIn l ⟨⟩ g) Q E s
  | [], h => wpAny_pure h
  | a :: l, h => by
    rw [List.forIn_cons]
    exact wpAny_bind (hg a _ (skim hg l h))
noncomputable def ends (m : Sre.M) : Option (Option Sre.M) :=
  match drive 4000 m with
  | none => none
  | some m => match m.outcome with
    | some .matched => some (some m)
    | some .failed => some none
    | _ => none
theorem runToEnd_sem {Q : Option Sre.M → Shared → Prop} {m : Sre.M} {r : Option Sre.M} (h : ends m = some r) (hQ : Q r s) : wpAny (model prog w) A (reRunToEnd m) Q E s := by
  unfold ends at h
  cases hd : drive 4000 m with
  | none => rw [hd] at h; exact nomatch h
  | some m' =>
    rw [hd] at h
    dsimp only at h
    unfold reRunToEnd
    refine wpAny_bind (drive_sem ?_ 4000 (2 ^ 64) m hd (by decide))
    refine wpAny_bind (skim (fun i Q hq => ?_) _ ?_)
    · cases m'.seen.has i with
      | true => exact wpAny_bind (wpAny_rule (wpAny_pure hq))
      | false => exact wpAny_pure hq
    · cases ho : m'.outcome with
      | none => rw [ho] at h; exact nomatch h
      | some o =>
        rw [ho] at h
        cases o with
        | matched =>
          obtain rfl := Option.some.inj h
          exact wpAny_pure hQ
        | failed =>
          obtain rfl := Option.some.inj h
          exact wpAny_pure hQ
        | stuck why => exact nomatch h
end
/-- A compiled pattern object: its fields, and its code. -/
structure PatAt (h : Heap) (pa ca : Addr) (fs codeV : Array Value) : Prop where
  obj : ∃ o, h.get? pa = some o ∧ o.cls = .type "re.Pattern" ∧ o.data = .fields fs
  code : ∃ o n, h.get? ca = some o ∧ o.data = .seq codeV n
  at5 : fs.getD 5 .none = .ref ca
  at6 : reRawNat (fs.getD 6 .none) ≠ 1
def codeOf (codeV : Array Value) : Array Nat := (codeV.map reRawOf).map (·.toNat)
theorem PatAt.at {h h' : Heap} {pa ca : Addr} {fs codeV : Array Value} (P : PatAt h pa ca fs codeV) {L : Addr} (h1 : pa ≠ L) (h2 : ca ≠ L) (k : ∀ b o, b ≠ L → h.get? b = some o → h'.get? b = some o) : PatAt h' pa ca fs codeV :=
  ⟨let ⟨o, a, b⟩ := P.obj; ⟨o, k _ _ h1 a, b⟩, let ⟨o, n, a, b⟩ := P.code; ⟨o, n, k _ _ h2 a, b⟩, P.at5, P.at6⟩
section
variable {prog : Program} {w : World} {A : Around} {E : Value → Shared → Prop} {s : Shared}
theorem fieldsOf_sem {a : Addr} {o : Obj} {fs : Array Value} {Q : Array Value → Shared → Prop} (ho : s.heap.get? a = some o) (hd : o.data = .fields fs) (h : Q fs s) : wpAny (model prog w) A (fieldsOf (.ref a)) Q E s := by
  unfold fieldsOf
  refine wpAny_bind (wpAny_load ho ?_)
  rw [hd]
  exact wpAny_pure h
theorem whole_sem {pa ca : Addr} {fs codeV : Array Value} {x : Str} {tx : Tok} {Q : ReTarget → Shared → Prop} (P : PatAt s.heap pa ca fs codeV)
    (h : Q { pattern := .ref pa, string := .str x tx, code := codeOf codeV, text := x.cps, kind := 0, groups := reRawNat (fs.getD 2 .none), pos := 0, lim := x.cps.size } s) :
    wpAny (model prog w) A (reWholeTarget (.ref pa) (.str x tx)) Q E s := by
  obtain ⟨o, ho, _, hd⟩ := P.obj
  obtain ⟨oc, n, hoc, hdc⟩ := P.code
  unfold reWholeTarget
  refine wpAny_bind (fieldsOf_sem ho hd ?_)
  have e : reTextOf (.str x tx) = pure (x.cps, 0) := rfl
  rw [e]
  refine wpAny_bind (wpAny_pure ?_)
  have h6 := P.at6
  dsimp only
  have c1 : ((reRawNat (fs.getD 6 .none) == 0 && (0 : Nat) == 1) = true) = False := by simp
  have c2 : ((reRawNat (fs.getD 6 .none) == 1 && (0 : Nat) == 0) = true) = False := by rw [beq_false_of_ne h6]; simp
  simp only [c1, c2, if_false]
  refine wpAny_bind (wpAny_of_eq (a := ()) rfl ?_)
  refine wpAny_bind ?_
  rw [P.at5]
  unfold reRawItems
  exact wpAny_bind (wpAny_seqItems hoc hdc (wpAny_pure (wpAny_pure h)))
end
/-- What sub gathers, without the heap. -/
noncomputable def subGo (code text : Array Nat) (groups : Nat) (repl : Str) : Nat → Nat → Nat → Bool → List Str → Option (List Str)
  | 0, _, _, _, _ => none
  | n + 1, done, start, must, ps => match ends (Sre.forSearch code text groups start text.size must) with
    | none => none
    | some none => some (if done < text.size then ps ++ [⟨text.extract done text.size⟩] else ps)
    | some (some m) => subGo code text groups repl n m.handed m.handed (m.handed == m.start) ((if done < m.start then ps ++ [⟨text.extract done m.start⟩] else ps) ++ [repl])
def LoopList (h : Heap) (L : Addr) (ps : List Str) : Prop := ∃ vm c, h.get? L = some (PySem.W.listOf vm c) ∧ StrsAre vm.toList ps
section
variable {prog : Program} {w : World} {A : Around} {E : Value → Shared → Prop} {s : Shared}
theorem strsAre_snoc {vm : Array Value} {xs : List Str} {y : Str} {t : Tok} (h : StrsAre vm.toList xs) : StrsAre (vm.push (.str y t)).toList (xs ++ [y]) := by
  rw [Array.toList_push]
  generalize vm.toList = l at h
  induction h with
  | nil => exact .cons y t .nil
  | cons z u _ ih => exact .cons z u ih
theorem push_sem {L : Addr} {ps : List Str} {y : Str} {t : Tok} {Q : Unit → Shared → Prop} (hL : LoopList s.heap L ps) (hz : ps.length ≤ 1000)
    (h : ∀ h', LoopList h' L (ps ++ [y]) → (∀ b o, b ≠ L → s.heap.get? b = some o → h'.get? b = some o) → Q () { s with heap := h' }) : wpAny (model prog w) A (updateSeq L (·.push (.str y t))) Q E s := by
  obtain ⟨vm, c, hg, hs⟩ := hL
  have zl := hs.len_eq
  rw [Array.length_toList] at zl
  have z1 : vm.size ≤ sizeLine := by rw [sizeLine_eq]; omega
  refine wpAny_updateSeq hg rfl (h _ ⟨vm.push (.str y t), _, Heap.get?_update_self _ hg rfl, strsAre_snoc hs⟩ fun b o hb e => ?_) z1
  exact (Heap.SameBut.update ..).extBut b o hb e
theorem slice_sem {text : Array Nat} {b e : Nat} {Q : Value → Shared → Prop} (hz : text.size ≤ 1000) (h : ∀ t, Q (.str ⟨text.extract b e⟩ t) { s with toks := s.toks + 1 }) : wpAny (model prog w) A (reSlice text 0 b e) Q E s := by
  unfold reSlice
  rw [if_pos (show ((0 : Nat) == 0) = true from rfl)]
  refine wpAny_mkStr (h _) ?_
  show (text.extract b e).size ≤ sizeLine
  rw [Array.size_extract, sizeLine_eq]
  omega
end
def subTail (cps : Array Nat) (L : Addr) : Sem Fin := do
  let joiner ← reSlice cps 0 0 0
  let v ← seqItems? (Value.ref L)
  if (v.getD #[]).isEmpty = true then do
    let text ← pure joiner
    ret text
  else do
    let text ← call (Value.builtin "str.join") [joiner, Value.ref L]
    ret text
def subAgain (pa L : Addr) (x repl : Str) (tx tr : Tok) (n : Int) (m : Sre.M) : Sem Fin :=
  again (Code.builtin "re.Pattern.sub.loop" { pos := [Value.ref pa, Value.str x tx, Value.str repl tr, Value.int 0 0, Value.int 0 0, Value.int (n + 1) 0, Value.int (m.handed : Int) 0, Value.int (m.handed : Int) 0, Value.bool (m.handed == m.start), Value.ref L, Value.bool false] })
def subNext (pa L : Addr) (x repl : Str) (tx tr : Tok) (n : Int) (m : Sre.M) : Sem Fin := do
  let item ← pure (Value.str repl tr)
  if (item != Value.none) = true then do
    updateSeq L fun x => x.push item
    subAgain pa L x repl tx tr n m
  else subAgain pa L x repl tx tr n m
theorem sub_loop (pa ca L : Addr) (fs codeV : Array Value) (x repl : Str) (tx tr : Tok) (hz : x.cps.size ≤ 1000) (h1 : pa ≠ L) (h2 : ca ≠ L) (out : List Str) (hne : out ≠ []) (hw : (out.map (·.length)).sum + out.length ≤ 1048576) (k : Nat) :
    ∀ (n : Int) (done start : Nat) (must : Bool) (ps : List Str), subGo (codeOf codeV) x.cps (reRawNat (fs.getD 2 .none)) repl k done start must ps = some out → ps.length + 2 * k ≤ 900 →
     Meets (Builtin.«re.Pattern.sub.loop» ⟨[.ref pa, .str x tx, .str repl tr, rawInt 0, rawInt 0, rawInt n, rawInt done, rawInt start, .bool must, .ref L, .bool false], []⟩)
      (fun _ R s => PatAt s.heap pa ca fs codeV ∧ LoopList s.heap L ps ∧ ∀ h' tk t', (∀ b o, b ≠ L → s.heap.get? b = some o → h'.get? b = some o) → R (.ok (.ret (.str (Txt.join ⟨#[]⟩ out) t'))) { s with heap := h', toks := tk }) := by
  induction k with
  | zero => intro n done start must ps h; exact nomatch h
  | succ k ih =>
    intro n done start must ps h hlen prog w A R s ⟨P, hL, hR⟩
    show wpAny _ _ (reWholeTarget (.ref pa) (.str x tx) >>= _) _ _ s
    refine wpAny_bind (whole_sem P ?_)
    dsimp only
    have e0 : (((0 : Int) == 0) = true) = True := by simp
    simp only [rawInt, e0, if_true]
    refine wpAny_bind (m := reLiteralCannotBeTurned _) (wpAny_of_eq (a := ()) rfl ?_)
    have e1 : (((0 : Int) != 0 && decide (n ≥ 0)) = true) = False := by simp
    have e2 : ((0 : Nat) == 0) = true := rfl
    simp only [e1, if_false, Int.toNat_natCast, Bool.false_eq_true, e2, if_true]
    refine wpAny_bind (m := reNextFound _ _ _) ?_
    unfold reNextFound
    dsimp only
    unfold subGo at h
    have fin : ∀ (s' : Shared), LoopList s'.heap L out → (∀ b o, b ≠ L → s.heap.get? b = some o → s'.heap.get? b = some o) → s'.gens = s.gens → s'.drawn = s.drawn → s'.os = s.os → wpAny (model prog w) A.in1 (subTail x.cps L) (fun fin s' =>
      match fin with
      | Fin.done f => R (Except.ok f) s'
      | Fin.again c' => c'.quiet = true ∧ codeAny (model prog w) A c' R s') (fun e s' => R (Except.error e) s') s' := by
      intro s' hL' hk' g1 g2 g3
      refine wpAny_bind (slice_sem hz fun t9 => ?_)
      obtain ⟨vm, c, hg, hs⟩ := hL'
      refine wpAny_bind (wpAny_seqItems hg rfl ?_)
      have ne : (Option.getD (some vm) #[]).isEmpty = false := by
        cases hs' : vm.toList with
        | nil =>
          rw [hs'] at hs
          have := hs.len_eq
          cases out with
          | nil => exact absurd rfl hne
          | cons _ _ => exact nomatch this
        | cons a l =>
          show vm.isEmpty = false
          rw [Array.isEmpty_eq_false_iff]
          intro e
          rw [e] at hs'
          exact nomatch hs'
      rw [ne]
      simp only [Bool.false_eq_true, if_false]
      have ej : (⟨x.cps.extract 0 0⟩ : Str) = ⟨#[]⟩ := by simp
      rw [ej]
      refine wpAny_bind (join_listW ⟨_, hg, rfl, c, rfl⟩ hs (by decide) hw fun t' k' => ?_)
      refine wpAny_pure ?_
      have := hR s'.heap k' t' hk'
      rw [← g1, ← g2, ← g3] at this
      exact this
    cases he : ends (Sre.forSearch (codeOf codeV) x.cps (reRawNat (fs.getD 2 .none)) start x.cps.size must) with
    | none => rw [he] at h; exact nomatch h
    | some r =>
      rw [he] at h
      cases r with
      | none =>
        dsimp only at h
        have ho := Option.some.inj h
        refine runToEnd_sem he ?_
        dsimp only
        by_cases hd : done < x.cps.size
        · rw [if_pos hd] at ho
          rw [if_pos hd]
          refine wpAny_bind (slice_sem hz fun t9 => ?_)
          refine wpAny_bind (push_sem (s := { s with toks := s.toks + 1 }) hL (by omega) fun h' hL' hk' => ?_)
          rw [ho] at hL'
          exact fin _ hL' hk' rfl rfl rfl
        · rw [if_neg hd] at ho
          rw [if_neg hd]
          exact fin s (ho ▸ hL) (fun b o _ e => e) rfl rfl rfl
      | some mm =>
        dsimp only at h
        refine runToEnd_sem he ?_
        dsimp only
        have fin2 : ∀ (s' : Shared) (ps' : List Str), LoopList s'.heap L ps' → ps'.length ≤ ps.length + 1 → subGo (codeOf codeV) x.cps (reRawNat (fs.getD 2 .none)) repl k mm.handed mm.handed (mm.handed == mm.start) (ps' ++ [repl]) = some out → (∀ b o, b ≠ L → s.heap.get? b = some o → s'.heap.get? b = some o) → s'.gens = s.gens → s'.drawn = s.drawn → s'.os = s.os → wpAny (model prog w) A.in1 (subNext pa L x repl tx tr n mm) (fun fin s' =>
      match fin with
      | Fin.done f => R (Except.ok f) s'
      | Fin.again c' => c'.quiet = true ∧ codeAny (model prog w) A c' R s') (fun e s' => R (Except.error e) s') s' := by
          intro s' ps' hL' hlen' hgo hk' g1 g2 g3
          refine wpAny_bind (wpAny_pure ?_)
          rw [if_pos (show (Value.str repl tr != Value.none) = true from rfl)]
          refine wpAny_bind (push_sem hL' (by omega) fun h' hL2 hk2 => ?_)
          have hkk : ∀ b o, b ≠ L → s.heap.get? b = some o → h'.get? b = some o := fun b o hb e => hk2 b o hb (hk' b o hb e)
          refine wpAny_pure ⟨plainId_quiet plain_re_sub_loop _, codeAny_builtin entry_re_sub_loop ?_⟩
          rw [Around.under_plainId plain_re_sub_loop _]
          refine ih (n + 1) mm.handed mm.handed (mm.handed == mm.start) (ps' ++ [repl]) hgo ?_ prog w A R _ ⟨P.at h1 h2 hkk, hL2, fun h2' tk t' hk3 => ?_⟩
          · rw [List.length_append]; simp only [List.length_cons, List.length_nil]; omega
          · have := hR h2' tk t' fun b o hb e => hk3 b o hb (hkk b o hb e)
            rw [← g1, ← g2, ← g3] at this
            exact this
        by_cases hd : done < mm.start
        · rw [if_pos hd] at h
          rw [if_pos hd]
          refine wpAny_bind (slice_sem hz fun t9 => ?_)
          refine wpAny_bind (push_sem (s := { s with toks := s.toks + 1 }) hL (by omega) fun h' hL' hk' => ?_)
          exact fin2 _ _ hL' (by simp) h hk' rfl rfl rfl
        · rw [if_neg hd] at h
          rw [if_neg hd]
          exact fin2 s _ hL (by omega) h (fun b o _ e => e) rfl rfl rfl
end Mine
end
section
open PySem PySem.W PyProof.Rows PySem.Calls
open Sem (wp)
open PySem.Builtin PySem.Builtin.Re
set_option maxRecDepth 100000
set_option maxHeartbeats 4000000
namespace Mine
theorem named_sub (a b : Value) : reNamed "re.Pattern.sub" "sub" ["repl", "string", "count"] 2 [a, b] [] = pure [some a, some b, none] := by rfl
theorem no_call_str : typeLookup (.type "str") (Str.ofString "__call__") = pure none := by rw [typeLookup_type, builtinLookup_eq_fast]; kernel_rfl
theorem meets_sub (pa ca : Addr) (fs codeV : Array Value) (x repl : Str) (tx tr : Tok) (hz : x.cps.size ≤ 1000) (out : List Str) (hne : out ≠ []) (hw : (out.map (·.length)).sum + out.length ≤ 1048576) (hr : repl.cps.contains 92 = false)
    (h : subGo (codeOf codeV) x.cps (reRawNat (fs.getD 2 .none)) repl 400 0 0 false [] = some out) :
     Meets (Builtin.«re.Pattern.sub» ⟨[.ref pa, .str repl tr, .str x tx], []⟩)
      (fun _ R s => PatAt s.heap pa ca fs codeV ∧ ∀ h' tk t', (∀ b o, s.heap.get? b = some o → h'.get? b = some o) → R (.ok (.ret (.str (Txt.join ⟨#[]⟩ out) t'))) { s with heap := h', toks := tk }) := by
  intro prog w A R s ⟨P, hR⟩
  show wpAny _ _ (reNamed "re.Pattern.sub" "sub" ["repl", "string", "count"] 2 [.str repl tr, .str x tx] [] >>= _) _ _ s
  rw [named_sub]
  refine wpAny_bind (wpAny_pure ?_)
  dsimp only
  refine wpAny_bind (wpAny_pure ?_)
  refine wpAny_bind (wpAny_specialOf_val (T := "str") rfl no_call_str ?_)
  simp only [Option.isSome_none, Bool.false_eq_true, if_false]
  refine wpAny_bind (wpAny_of_eq (a := some repl) rfl ?_)
  dsimp only
  rw [hr]
  refine wpAny_bind (wpAny_pure ?_)
  rw [if_pos (show (!false) = true from rfl)]
  refine wpAny_bind (wpAny_pure ?_)
  dsimp only
  refine wpAny_bind (wpAny_holding (whole_sem P ?_))
  rw [if_neg (show ¬ (((0 : Int) == 1) = true) from by decide)]
  refine wpAny_bind (wpAny_newList ?_ (by simp))
  refine wpAny_pure ⟨plainId_quiet plain_re_sub_loop _, codeAny_builtin entry_re_sub_loop ?_⟩
  rw [Around.under_plainId plain_re_sub_loop _]
  obtain ⟨o, ho, hc, hd⟩ := id P.obj
  obtain ⟨oc, nc, hoc, hdc⟩ := id P.code
  have l1 : pa ≠ s.heap.objs.size := Nat.ne_of_lt (Heap.lt_size ho)
  have l2 : ca ≠ s.heap.objs.size := Nat.ne_of_lt (Heap.lt_size hoc)
  have hk : ∀ b o, s.heap.get? b = some o → (s.heap.push { cls := .type "list", data := .seq (#[] : Array Value) }).get? b = some o := fun b o e => Heap.get?_push_of_some _ e
  exact sub_loop pa ca s.heap.objs.size fs codeV x repl tx tr hz l1 l2 out hne hw 400 0 0 0 false [] h (by decide) prog w A R _ ⟨⟨⟨o, hk _ _ ho, hc, hd⟩, ⟨oc, nc, hk _ _ hoc, hdc⟩, P.at5, P.at6⟩, ⟨#[], 0, Heap.get?_push_size _ rfl, .nil⟩, fun h' tk t' hk' => hR h' tk t' fun b o e => hk' b o (Nat.ne_of_lt (Heap.lt_size e)) (hk _ _ e)⟩
theorem call_sub {prog : Program} {w : World} {A : Around} {E : Value → Shared → Prop} {s : Shared} {Q : Value → Shared → Prop} {pa ca : Addr} {fs codeV : Array Value} {x repl : Str} {tx tr : Tok} (P : PatAt s.heap pa ca fs codeV) (hz : x.cps.size ≤ 1000) {out : List Str} (h : subGo (codeOf codeV) x.cps (reRawNat (fs.getD 2 .none)) repl 400 0 0 false [] = some out) (hne : out ≠ []) (hw : (out.map (·.length)).sum + out.length ≤ 1048576) (hr : repl.cps.contains 92 = false)
    (hQ : ∀ h' tk t', (∀ b o, s.heap.get? b = some o → h'.get? b = some o) → Q (.str (Txt.join ⟨#[]⟩ out) t') { s with heap := h', toks := tk }) :
    wpAny (model prog w) A (call (.builtin "re.Pattern.sub") [.ref pa, .str repl tr, .str x tx]) Q E s := by
  obtain ⟨o, ho, hc, hd⟩ := P.obj
  exact call_meets slot_re_sub ⟨o, ho, hc⟩ entry_re_sub (args_re_sub _ _ _) (meets_sub pa ca fs codeV x repl tx tr hz out hne hw hr h) ⟨P, hQ⟩
theorem plain_pattern : PlainAttrs "re.Pattern" :=
  ⟨⟨"object.__getattribute__", by rw [typeLookup_type, builtinLookup_eq_fast]; kernel_rfl, by decide +kernel⟩, by rw [typeLookup_type, builtinLookup_eq_fast]; kernel_rfl⟩
/-- The call of sub at the pattern object pa, that the callers' heap holds. -/
theorem sub_K {prog : Program} {w : World} {A : Around} {E : Value → Shared → Prop} {s : Shared} {K : Frag} {h₀ : Heap} {L pa ca : Addr} {m : Str → Option Value} {news : List (Addr × Obj)} {o oc : Obj} {fs codeV : Array Value} {nc : Nat} {cd : Array Nat} {x repl : Str} {tx tr : Tok} {out : List Str} {Q : Value → Shared → Prop} (F : Fr h₀ L s.heap m) (N : News h₀ L s.heap news) (X : K.In h₀)
    (hk : K.lookup pa = some o) (hc : o.cls = .type "re.Pattern") (hd : o.data = .fields fs) (h5 : fs.getD 5 .none = .ref ca) (h6 : reRawNat (fs.getD 6 .none) ≠ 1) (h2 : reRawNat (fs.getD 2 .none) = 0) (hkc : K.lookup ca = some oc) (hdc : oc.data = .seq codeV nc) (hcd : codeOf codeV = cd)
    (hz : x.cps.size ≤ 1000) (h : subGo cd x.cps 0 repl 400 0 0 false [] = some out) (hne : out ≠ []) (hw : (out.map (·.length)).sum + out.length ≤ 1048576) (hr : repl.cps.contains 92 = false)
    (hQ : ∀ h' tk t', Fr h₀ L h' m → News h₀ L h' news → Q (.str (Txt.join ⟨#[]⟩ out) t') { s with heap := h', toks := tk }) :
    wpAny (model prog w) A (call (.builtin "re.Pattern.sub") [.ref pa, .str repl tr, .str x tx]) Q E s :=
  have ho := F.keep _ _ (X _ _ hk)
  have hoc := F.keep _ _ (X _ _ hkc)
  call_sub (ca := ca) (fs := fs) (codeV := codeV) ⟨⟨o, ho, hc, hd⟩, ⟨oc, nc, hoc, hdc⟩, h5, h6⟩ hz (by rw [h2, hcd]; exact h) hne hw hr fun h' tk t' k => hQ h' tk t' (F.keeps k) (N.grown k)
theorem method_sub {prog : Program} {w : World} {A : Around} {E : Value → Shared → Prop} {s : Shared} {a : Addr} {o : Obj} {K : Frag} {h₀ : Heap} {L : Addr} {m : Str → Option Value} {pl : Sem Bool} {Q : Value × List Value → Shared → Prop} (F : Fr h₀ L s.heap m) (X : K.In h₀) (hk : K.lookup a = some o) (hc : o.cls = .type "re.Pattern") (hd : o.dict = none)
    (h : Q (.builtin "re.Pattern.sub", [.ref a]) s) : wpAny (model prog w) A (getMethod (.ref a) (Str.ofString "sub") pl) Q E s :=
  have ho := F.keep _ _ (X _ _ hk)
  getMethod_builtin ⟨o, ho, hc⟩ plain_pattern slot_re_sub type_re_sub (fun b e => by cases e; exact ⟨o, ho, hd⟩) h
end Mine
end
section
open PySem PySem.W PyProof.Rows PySem.Calls
open Sem (wp)
open PySem.Builtin PySem.Builtin.Re
set_option maxRecDepth 100000
set_option maxHeartbeats 4000000
namespace Mine
def bitSet (p i : Nat) : Bool := p / 2 ^ i % 2 == 1
/-- What is written of file i: its sign and its name. -/
def wrt (c p i : Nat) : Str := ⟨#[if bitSet p i then c else 46, 97 + i]⟩
def wrts (c p : Nat) : List Str := [wrt c p 0, wrt c p 1, wrt c p 2, wrt c p 3]
/-- What is sent of file i: the dot doubled. -/
def snt (c p i : Nat) : Str := if bitSet p i then ⟨#[c, 97 + i]⟩ else ⟨#[46, 46, 97 + i]⟩
def snts (c p : Nat) : List Str := [snt c p 0, snt c p 1, snt c p 2, snt c p 3]
def code1 : Array Nat := #[14, 4, 0, 1, 1, 6, 1, 16, 46, 1]
def code2 : Array Nat := #[14, 9, 4, 1, 2, 16, 10, 16, 13, 0, 7, 7, 16, 13, 16, 10, 15, 18, 5, 16, 10, 15, 13, 11, 16, 13, 5, 5, 0, 16, 10, 1, 15, 2, 0, 1]
def crlf : Str := ⟨#[13, 10]⟩
def body (c p : Nat) : Str := Txt.join ⟨#[10]⟩ (wrts c p)
def small (o : List Str) : Bool := !o.isEmpty && decide ((o.map (·.length)).sum + o.length ≤ 1048576)
noncomputable def chk (c p : Nat) : Bool :=
  match subGo code2 (body c p).cps 0 crlf 400 0 0 false [] with
  | none => false
  | some o1 => small o1 && decide ((body c p).cps.size ≤ 1000) && decide ((Txt.join ⟨#[]⟩ o1).cps.size ≤ 1000) &&
    match subGo code1 (Txt.join ⟨#[]⟩ o1).cps 0 ⟨#[46, 46]⟩ 400 0 0 false [] with
    | none => false
    | some o2 => small o2 && (Txt.join ⟨#[]⟩ o2 == Txt.join crlf (snts c p))
theorem chk_r : ∀ p, p < 16 → chk 114 p = true
  | 0, _ => by decide +kernel
  | 1, _ => by decide +kernel
  | 2, _ => by decide +kernel
  | 3, _ => by decide +kernel
  | 4, _ => by decide +kernel
  | 5, _ => by decide +kernel
  | 6, _ => by decide +kernel
  | 7, _ => by decide +kernel
  | 8, _ => by decide +kernel
  | 9, _ => by decide +kernel
  | 10, _ => by decide +kernel
  | 11, _ => by decide +kernel
  | 12, _ => by decide +kernel
  | 13, _ => by decide +kernel
  | 14, _ => by decide +kernel
  | 15, _ => by decide +kernel
  | n + 16, h => absurd h (by omega)
theorem chk_w : ∀ p, p < 16 → chk 119 p = true
  | 0, _ => by decide +kernel
  | 1, _ => by decide +kernel
  | 2, _ => by decide +kernel
  | 3, _ => by decide +kernel
  | 4, _ => by decide +kernel
  | 5, _ => by decide +kernel
  | 6, _ => by decide +kernel
  | 7, _ => by decide +kernel
  | 8, _ => by decide +kernel
  | 9, _ => by decide +kernel
  | 10, _ => by decide +kernel
  | 11, _ => by decide +kernel
  | 12, _ => by decide +kernel
  | 13, _ => by decide +kernel
  | 14, _ => by decide +kernel
  | 15, _ => by decide +kernel
  | n + 16, h => absurd h (by omega)
theorem chk_x : ∀ p, p < 16 → chk 120 p = true
  | 0, _ => by decide +kernel
  | 1, _ => by decide +kernel
  | 2, _ => by decide +kernel
  | 3, _ => by decide +kernel
  | 4, _ => by decide +kernel
  | 5, _ => by decide +kernel
  | 6, _ => by decide +kernel
  | 7, _ => by decide +kernel
  | 8, _ => by decide +kernel
  | 9, _ => by decide +kernel
  | 10, _ => by decide +kernel
  | 11, _ => by decide +kernel
  | 12, _ => by decide +kernel
  | 13, _ => by decide +kernel
  | 14, _ => by decide +kernel
  | 15, _ => by decide +kernel
  | n + 16, h => absurd h (by omega)
theorem split_r : ∀ p : Fin 16, Txt.split (Txt.join crlf (snts 114 p.val)) crlf = snts 114 p.val := by decide +kernel
theorem split_w : ∀ p : Fin 16, Txt.split (Txt.join crlf (snts 119 p.val)) crlf = snts 119 p.val := by decide +kernel
theorem split_x : ∀ p : Fin 16, Txt.split (Txt.join crlf (snts 120 p.val)) crlf = snts 120 p.val := by decide +kernel
def Letter (c : Nat) : Prop := c = 114 ∨ c = 119 ∨ c = 120
theorem chk_of {c p : Nat} (hc : Letter c) (hp : p < 16) : chk c p = true := by
  rcases hc with rfl | rfl | rfl
  · exact chk_r p hp
  · exact chk_w p hp
  · exact chk_x p hp
theorem split_of {c p : Nat} (hc : Letter c) (hp : p < 16) : Txt.split (Txt.join crlf (snts c p)) crlf = snts c p := by
  rcases hc with rfl | rfl | rfl
  · exact split_r ⟨p, hp⟩
  · exact split_w ⟨p, hp⟩
  · exact split_x ⟨p, hp⟩
/-- The two substitutions, one after the other. -/
theorem chk_open {c p : Nat} (h : chk c p = true) : ∃ o1 o2, subGo code2 (body c p).cps 0 crlf 400 0 0 false [] = some o1 ∧ o1 ≠ [] ∧ (o1.map (·.length)).sum + o1.length ≤ 1048576 ∧ (body c p).cps.size ≤ 1000 ∧ (Txt.join ⟨#[]⟩ o1).cps.size ≤ 1000 ∧
    subGo code1 (Txt.join ⟨#[]⟩ o1).cps 0 ⟨#[46, 46]⟩ 400 0 0 false [] = some o2 ∧ o2 ≠ [] ∧ (o2.map (·.length)).sum + o2.length ≤ 1048576 ∧ Txt.join ⟨#[]⟩ o2 = Txt.join crlf (snts c p) := by
  unfold chk at h
  cases h1 : subGo code2 (body c p).cps 0 crlf 400 0 0 false [] with
  | none => rw [h1] at h; exact nomatch h
  | some o1 =>
    rw [h1] at h
    dsimp only at h
    cases h2 : subGo code1 (Txt.join ⟨#[]⟩ o1).cps 0 ⟨#[46, 46]⟩ 400 0 0 false [] with
    | none => rw [h2] at h; simp at h
    | some o2 =>
      rw [h2] at h
      simp only [Bool.and_eq_true, decide_eq_true_eq, small, Bool.not_eq_true', beq_iff_eq] at h
      obtain ⟨⟨⟨⟨a1, a2⟩, a3⟩, a4⟩, ⟨a5, a6⟩, a7⟩ := h
      refine ⟨o1, o2, rfl, fun e => ?_, a2, a3, a4, h2, fun e => ?_, a6, a7⟩
      · rw [e] at a1; exact nomatch a1
      · rw [e] at a5; exact nomatch a5
end Mine
end
section
open PySem PySem.W PyProof.Rows PySem.Calls
set_option maxRecDepth 100000
set_option maxHeartbeats 8000000
namespace Mine
local macro_rules | `(tactic| walk_at "getMethod ref") => `(tactic| (k_here; (with_unfolding_all refine' method_sub ?F ?X ?k ?c ?d ?_; (case F => k_asm); (case X => k_asm); (case k => k_is); (case c => exact rfl); (case d => exact rfl); k_whole)))
theorem quote_spec (w : World) (mean : ExcName → Option Value) (mg mb : Str → Option Value) (dp un : Nat) (gd : Option (List Code)) (envC : Env) (l : List Env) (base h₀ : Heap) (L : Addr) (m : Str → Option Value) (s : Shared) (Q E : Value → Shared → Prop) (news : List (Addr × Obj))
   (c p : Nat) (hc : Letter c) (hp : p < 16) (t : Tok)
   (B0 : base.StaysIn h₀) (BF : h₀.FunFrames base l) (hfC : envC.frame = some L) (hkC : envC.scope.kind ≠ .module)
   (F : Fr h₀ L s.heap m) (N : News h₀ L s.heap news) (X : (hd.heap_39 w.params).In base) (T : Top hd.view_39 lo mean mg mb base)
   (hroom0 : dp < recursionLimit)
   (hret : ∀ h' tk t', Fr h₀ L h' m → News h₀ L h' news → Q (.str (Txt.join crlf (snts c p)) t') { s with heap := h', toks := tk }) : wpAny (model PySem.Challenge.rw_un0005_01.row.prog w) { handled := none, depth := dp, frames := some (envC :: l), guards := gd, units := un } (call (.ref 95) [.str (body c p) t]) Q E s := by
  obtain ⟨o1, o2, q1, q2, q3, q4, q5, q6, q7, q8, q9⟩ := chk_open (chk_of hc hp)
  w_top off
  revert X; k_fill; intro X
  k_dflt (refine' enter0 B0 BF hfC hkC F N X T.nolimit ?k6 ?k7 ?k8 ?k9 ?kB ?_ ?c2 ?c3 ?c4 ?c5; (case k6 => k_is); (case k7 => k_is); (case k8 => exact hroom0); (case k9 => first | exact binds_K (by k_in) rfl (by k_is) rfl rfl rfl | exact BindsTo.of_eq rfl); (case kB => exact locs rfl); (case c2 => exact rfl); (case c3 => exact rfl); (case c4 => exact rfl); (case c5 => decide); k_whole)
  intro h₁ B1 BF1 F1
  have X1 := X.keeps B1
  have T1 := T.keeps B1
  have N1 : News s.heap s.heap.objs.size h₁ [] := News.nil
  generalize hG : s.heap = G at *
  generalize hL' : G.objs.size = L' at *
  have r1 : subGo code2 (body c p).cps 0 (Str.ofString "\r\n") 400 0 0 false [] = some o1 := q1
  have r2 : subGo code1 (Txt.join ⟨#[]⟩ o1).cps 0 (Str.ofString "..") 400 0 0 false [] = some o2 := q6
  k_steps
  with_unfolding_all refine' sub_K ?F ?N ?X ?k ?c ?d ?h5 ?h6 ?h2 ?kc ?dc ?cd q4 r1 q2 q3 ?hr ?_
  case F => k_asm
  case N => k_asm
  case X => k_asm
  case k => k_is
  case c => exact rfl
  case d => exact rfl
  case h5 => exact rfl
  case h6 => decide
  case h2 => exact rfl
  case kc => k_is
  case dc => exact rfl
  case cd => decide +kernel
  case hr => decide +kernel
  intro h9 tk9 t9 F9 N9
  k_steps
  with_unfolding_all refine' sub_K ?F ?N ?X ?k ?c ?d ?h5 ?h6 ?h2 ?kc ?dc ?cd q5 r2 q7 q8 ?hr ?_
  case F => k_asm
  case N => k_asm
  case X => k_asm
  case k => k_is
  case c => exact rfl
  case d => exact rfl
  case h5 => exact rfl
  case h6 => decide
  case h2 => exact rfl
  case kc => k_is
  case dc => exact rfl
  case cd => decide +kernel
  case hr => decide +kernel
  intro h8 tk8 t8 F8 N8
  exact ⟨_, [], by assumption, News.nil, fun F₀ N₀ _ => by rw [q9]; exact hret _ _ _ F₀ N₀⟩
end Mine
end
section
open PySem PySem.W PyProof.Rows PySem.Calls
set_option maxRecDepth 100000
set_option maxHeartbeats 4000000
namespace Mine
/-- A call of a def with cells, whose body marks no frame of its callers. -/
theorem enterC {prog : Program} {w : World} {A : Around} {E : Value → Shared → Prop} {s : Shared} {base h₀ : Heap} {l : List Env} {envC : Env} {L : Addr} {m : Str → Option Value} {news : List (Addr × Obj)} {K : Frag} {Q : Value → Shared → Prop}
    {name qual : Str} {params : Arguments} {body : List Stmt} {scope : Scope} {dV kV doc pm cdv ct oc : Value} {an od : Option Addr} {osl : Array (Option Value)} {f : Addr} {args : List Value} {binds : List (Str × Value)}
    (B0 : base.StaysIn h₀) (BF : h₀.FunFrames base l) (hfC : envC.frame = some L) (hkC : envC.scope.kind ≠ .module)
    (F : Fr h₀ L s.heap m) (N : News h₀ L s.heap news) (X : K.In base) (lim : base.NoLimit)
    (ho : K.lookup f = some ⟨oc, od, .func (fnOf name qual params body scope dV kV doc pm an cdv ct), osl⟩) (hcd : codeIn K cdv qual = true) (hroom : A.depth < recursionLimit)
    (hbind : BindsTo s (fnOf name qual params body scope dV kV doc pm an cdv ct) ⟨args, []⟩ binds) (hkind : (binds.all fun y => scope.names.lookup y.1 == some .local || scope.names.lookup y.1 == some .cell) = true)
    (hnd : ((cellsFrom 0 scope.names []).map (·.1)).Nodup)
    (h : ∀ h₁ tk cells, base.StaysIn s.heap → s.heap.FunFrames base (envC :: l) → Fr s.heap s.heap.objs.size h₁ (bindL (envOfC qual scope s.heap.objs.size f cdv).kindOf binds fun _ => none) → News s.heap s.heap.objs.size h₁ cells →
      CellsAre (bindC (envOfC qual scope s.heap.objs.size f cdv).kindOf binds fun _ => none) (cellsFrom (s.heap.objs.size + 1) scope.names []) cells →
      wpAny (model prog w) (A.deeper (envOfC qual scope s.heap.objs.size f cdv)) (execs body (envOfC qual scope s.heap.objs.size f cdv))
        (fun fl s' => Back0 h₀ L m news s.heap s.heap.objs.size Q (match fl with | .ret v => v | _ => .none) s') (fun _ _ => False)
        { s with heap := h₁, toks := tk })
    (hco : scope.isCoroutine = false) (hgen : scope.isGenerator = false) (hk : scope.kind = .function) :
    wpAny (model prog w) A (call (.ref f) args) Q E s := by
  have st : base.StaysIn s.heap := fun b o e => F.keep b o (B0 b o e)
  refine wpAny_call ?_
  obtain ⟨oL, esL, epL, hL, hLd, _⟩ := F.ns
  have hbL : base.get? L = none := by
    cases q : base.get? L with
    | none => rfl
    | some o => have := B0 L o q; rw [fr_base F] at this; cases this
  have BF' : s.heap.FunFrames base (envC :: l) := ⟨hkC, ⟨L, oL, hfC, hbL, hL, fun vs q => by rw [hLd] at q; cases q⟩, BF.of_keeps fun b o hb _ => ⟨o, F.keep b o hb, rfl⟩⟩
  refine codeAny_call_function hroom ((X.keeps st) _ _ ho) rfl hco hgen rfl (codeRec_of (X.keeps st) hcd) (hbind _ _ _ _ ?_)
  refine wpAny_newFunctionEnv_cells hk (kindsX hkind _) fun env' he s' x => ?_
  subst he
  refine ⟨(lim.keeps st).keeps x.toInCall.keep, codeAny_func ?_⟩
  obtain ⟨h₁, tk, rfl, _⟩ := x.done
  have hk₁ := x.toInCall.keep
  obtain ⟨cells, NC, Y⟩ := Cl.news (h₀ := s.heap) (Nat.le_refl _) fun n c hm => ⟨x.cell n c (lookup_of_mem_nodup (cellsFrom_names scope.names 0 (s.heap.objs.size + 1) [] [] rfl ▸ hnd) hm), x.above n c hm⟩
  refine wpAny_mono (h h₁ tk cells st BF' ⟨x.toInCall.ns, hk₁, Nat.le_refl _⟩ NC Y) (fun fl s' b => ?_) fun _ _ y => y.elim
  obtain ⟨m', own, F', N', k⟩ := b
  have hkk : ∀ b o, s.heap.get? b = some o → s'.heap.get? b = some o := F'.keep
  refine k (F.keeps hkk) (fun p hp => ?_) (fun p hp q hq e => ?_)
  · rcases List.mem_append.mp hp with hp | hp
    · have hN := N' p hp
      refine ⟨hN.1, fun e => ?_, ?_⟩
      · have := hN.2.2
        rw [e, hL] at this
        exact nomatch this
      · cases q : h₀.get? p.1 with
        | none => rfl
        | some o => have := F.keep _ _ q; rw [hN.2.2] at this; exact nomatch this
    · exact N.grown hkk p hp
  · have h1 := (N' p hp).2.2
    rw [e, (N q hq).1] at h1
    exact nomatch h1
end Mine
end
section
open PySem PySem.W PyProof.Rows PySem.Calls
open PyProof.Rows.LCg (lst lst_snoc NsObj ns_obj)
set_option maxRecDepth 100000
set_option maxHeartbeats 4000000
namespace Mine
/-- The block's own namespace, where the loop's variable is a cell. -/
def envKC (scope : Scope) (x : Str) (Kc : Addr) (cl : List (Str × Addr)) (C : Addr) (env : Env) : Env :=
  { scope := relabel scope env, locals := C, globals := env.globals, cells := (x, Kc) :: cl, qual := env.qual, func := none, code := env.code, frame := env.frame, builtins := env.builtins }
def KYield (h₀ : Heap) (L : Addr) (m : Str → Option Value) (s₁ : Shared) (own news : List (Addr × Obj)) (J : Value → Prop) (y : Value) (s₂ : Shared) : Prop :=
  ∃ h' tk, s₂ = { s₁ with heap := h', toks := tk } ∧ Fr h₀ L h' m ∧ News h₀ L h' (own ++ news) ∧ J y
section
variable {prog : Program} {w : World} {A : Around} {E : Value → Shared → Prop} {s : Shared} {h₀ : Heap} {L : Addr} {m : Str → Option Value} {env : Env}
theorem newEnvCell {scope : Scope} {cl : List (Str × Addr)} {x : Str} {Q : Env → Shared → Prop} (hcells : ∀ n, cellsFrom n scope.names cl = (x, n) :: cl) (hpush : ∀ h, pushCells h scope.names = h.push { cls := .type "cell", data := .cell none })
    (hQ : Q { envKC scope x (s.heap.objs.size + 1) cl s.heap.objs.size env with scope := scope } { s with heap := (s.heap.push { cls := .type "dict", data := .dict #[] }).push { cls := .type "cell", data := .cell none } }) :
    wpAny (model prog w) A (newFunctionEnv scope env.globals cl [] env.qual none .none (some env)) Q E s := by
  simp only [newFunctionEnv, Option.isSome_some, if_true]
  refine wpAny_bind (wpAny_alloc ?_)
  refine wpAny_bind (wpAny_layCells _ (fun name kind cells => by cases hkc : kind == NameKind.cell <;> simp) _ _ _ _ ?_)
  rw [hcells, hpush]
  rw [show ({ s with heap := s.heap.push { cls := .type "dict", data := .dict #[] } } : Shared).heap.objs.size = s.heap.objs.size + 1 from Heap.size_push ..]
  refine wpAny_bind (wpAny_pure ?_)
  exact wpAny_pure hQ
end
def CellSrc (prog : Program) (w : World) (A : Around) (h₀ : Heap) (L : Addr) (m : Str → Option Value) (env : Env) (elt : Expr) (x : Str) (scope : Scope) (cl : List (Str × Addr)) (Q : Value → Shared → Prop) (n : Nat) (a b : Int) (news : List (Addr × Obj)) (J : Nat → List Value → Prop) (xv : Value) (s₁ : Shared) : Prop :=
  ∃ r t u v, xv = .ref r ∧ Fr h₀ L s₁.heap m ∧ News h₀ L s₁.heap news ∧ IsRange s₁.heap r a b 1 t u v ∧
      (∀ i ys tt I oI C oC D Kc oK h tk (E' : Value → Shared → Prop), i < n → J i ys → oK.data = .cell (some (.int (a + (i : Int)) tt)) → Fr h₀ L h m → News h₀ L h ((Kc, oK) :: (I, oI) :: (C, oC) :: (D, lst ys) :: news) →
        (∀ p ∈ news, @LT.lt Nat _ p.1 I) → @LT.lt Nat _ I D → @LT.lt Nat _ D C → @LT.lt Nat _ C Kc →
        wpAny (model prog w) A (eval elt (envKC scope x Kc cl C env)) (KYield h₀ L m { s₁ with heap := h, toks := tk } [(Kc, oK), (I, oI), (C, oC), (D, lst ys)] news (fun y => J (i + 1) (ys ++ [y]))) E' { s₁ with heap := h, toks := tk }) ∧
      (∀ D h tk ys, J n ys → Fr h₀ L h m → News h₀ L h ((D, lst ys) :: news) → (∀ p ∈ news, @LT.lt Nat _ p.1 D) → Q (.ref D) { s₁ with heap := h, toks := tk })
section
variable {prog : Program} {w : World} {A : Around} {E : Value → Shared → Prop} {s : Shared} {h₀ : Heap} {L : Addr} {m : Str → Option Value} {env : Env}
/-- A list comprehension over a range whose variable is a cell (an inner comprehension reads it). -/
theorem cellComp {elt iter : Expr} {x : Str} {px : Pos} {scope : Scope} {cl : List (Str × Addr)} {pos : Pos} {Q : Value → Shared → Prop} {n : Nat} {a b : Int} {news : List (Addr × Obj)} (J : Nat → List Value → Prop)
    (_F₀ : Fr h₀ L s.heap m) (_N₀ : News h₀ L s.heap news) (hh : A.handled = none) (hclos : closureFor scope env = pure cl) (hkind : scope.kind = .function)
    (hnames : ∀ y ∈ scope.names, y.2 = .local → scope.names.lookup y.1 = some .local)
    (hcells : ∀ n, cellsFrom n scope.names cl = (x, n) :: cl) (hpush : ∀ h, pushCells h scope.names = h.push { cls := .type "cell", data := .cell none }) (hxk : (relabel scope env).names.lookup x = some .cell)
    (hsm : Builtin.Range.small a b 1 = true) (hn : Builtin.Range.rangeSize a b 1 = ((n : Nat) : Int)) (hsz : n ≤ sizeLine) (h0 : J 0 [])
    (h : wpAny (model prog w) A (eval iter env) (fun xv s₁ => CellSrc prog w A h₀ L m env elt x scope cl Q n a b news J xv s₁) E s)
    (hs : ∀ x, foldedSetIterable iter env x = pure x := by intro _; rfl) :
    wpAny (model prog w) A (eval (.ListComp elt [⟨.Name x px, iter, [], 0⟩] scope pos) env) Q E s := by
  rw [eval_ListComp]
  refine wpAny_comprehension_free (use := none) rfl hs hclos hkind hnames (wpAny_mono h (fun xv s₁ h₁ => ?_) fun _ _ e => e)
  obtain ⟨r, t, u, v, rfl, F, N, hr, turn, fin⟩ := h₁
  refine wpAny_pyIter_range hr hsm ?_
  refine wpAny_newObj_type (newEnvCell hcells hpush ?_)
  dsimp only
  have sz : ∀ (h : Heap) (o : Obj), (h.push o).objs.size = h.objs.size + 1 := fun h o => Heap.size_push ..
  simp only [sz]
  generalize hH : (((s₁.heap.push { cls := .type "range_iterator", data := .fields _ }).push { cls := .type "list", dict := none, data := .seq ([] : List Value).toArray }).push { cls := .type "dict", data := .dict #[] }).push { cls := .type "cell", data := .cell none } = H
  have up1 : ∀ (h : Heap) (o : Obj) b x, h.get? b = some x → (h.push o).get? b = some x := fun h o b x e => Heap.get?_push_of_some _ e
  have keep : ∀ b o, s₁.heap.get? b = some o → H.get? b = some o := fun b o e => hH ▸ up1 _ _ _ _ (up1 _ _ _ _ (up1 _ _ _ _ (up1 _ _ _ _ e)))
  generalize hI : s₁.heap.objs.size = I at *
  have gI : IsRangeIter H I (a + ((0 : Nat) : Int) * 1) ((n : Int) - ((0 : Nat) : Int)) 1 := by
    show H.get? I = _
    have e : (s₁.heap.push { cls := .type "range_iterator", data := .fields #[rawInt a, rawInt (Builtin.Range.rangeSize a b 1), rawInt 1] }).get? I = some { cls := .type "range_iterator", data := .fields #[rawInt a, rawInt (Builtin.Range.rangeSize a b 1), rawInt 1] } := hI ▸ Heap.get?_push_size _ rfl
    rw [← hH, up1 _ _ _ _ (up1 _ _ _ _ (up1 _ _ _ _ e)), hn]
    simp
  have gD : H.get? (I + 1) = some (lst []) := by
    rw [← hH]
    refine up1 _ _ _ _ (up1 _ _ _ _ ?_)
    have := Heap.get?_push_size (s₁.heap.push { cls := .type "range_iterator", data := .fields #[rawInt a, rawInt (Builtin.Range.rangeSize a b 1), rawInt 1] }) (o := { cls := .type "list", data := .seq #[] }) rfl
    rwa [sz, hI] at this
  have gC : ∃ oC mC, H.get? (I + 1 + 1) = some oC ∧ NsObj oC mC := by
    have q := Heap.Ns.new ((s₁.heap.push { cls := .type "range_iterator", data := .fields #[rawInt a, rawInt (Builtin.Range.rangeSize a b 1), rawInt 1] }).push { cls := .type "list", data := .seq #[] }) (.type "dict")
    rw [sz, sz, hI] at q
    obtain ⟨o, e, r⟩ := ns_obj q
    exact ⟨o, _, hH ▸ up1 _ _ _ _ e, r⟩
  have gK : ∃ oK vv, H.get? (I + 1 + 1 + 1) = some oK ∧ oK.data = .cell vv := by
    have := Heap.get?_push_size (((s₁.heap.push { cls := .type "range_iterator", data := .fields #[rawInt a, rawInt (Builtin.Range.rangeSize a b 1), rawInt 1] }).push { cls := .type "list", data := .seq #[] }).push { cls := .type "dict", data := .dict #[] }) (o := { cls := .type "cell", data := .cell none }) rfl
    rw [sz, sz, sz, hI] at this
    exact ⟨_, _, hH ▸ this, rfl⟩
  have fresh₀ : ∀ a, I ≤ a → h₀.get? a = none := fun a ha => ktu_new F (hI ▸ ha)
  have hLI : @LT.lt Nat _ L I := hI ▸ F.ns.lt
  have hLn : ∀ a, I ≤ a → L ≠ a := fun a ha => Nat.ne_of_lt (Nat.lt_of_lt_of_le hLI ha)
  have hnl : ∀ p ∈ news, @LT.lt Nat _ p.1 I := fun p hp => hI ▸ Heap.lt_size (N p hp).1
  generalize hD : I + 1 = D at *
  generalize hC : D + 1 = C at *
  generalize hK : C + 1 = Kc at *
  have iD : @LT.lt Nat _ I D := by rw [← hD]; exact Nat.lt_succ_self _
  have iC : @LT.lt Nat _ D C := by rw [← hC]; exact Nat.lt_succ_self _
  have iK : @LT.lt Nat _ C Kc := by rw [← hK]; exact Nat.lt_succ_self _
  clear hH hI hD hC hK sz up1
  have W := LCg.range_walks (prog := prog) (w := w) (A := A) (I := I) hh a n
  have loop : codeAny (model prog w) A (.compLoop (.ListComp elt [⟨.Name x px, iter, [], 0⟩] scope pos) 0 (.ref I) (.ref D) (envKC scope x Kc cl C env)) (compPost (model prog w) A E none Q (.ref D) C) { s₁ with heap := H } := by
    refine codeAny_compLoop_tests (fun k s' => ∃ i ys h' tk, s' = { s₁ with heap := h', toks := tk } ∧ i ≤ n ∧ k = n + 1 - i ∧ ys.length = i ∧ IsRangeIter h' I (a + (i : Nat) * 1) ((n : Int) - (i : Nat)) 1 ∧ Fr h₀ L h' m ∧ News h₀ L h' ((D, lst ys) :: news) ∧
      (∃ oC mC, h'.get? C = some oC ∧ NsObj oC mC) ∧ (∃ oK vv, h'.get? Kc = some oK ∧ oK.data = .cell vv) ∧ J i ys) ?_ (n + 1)
      ⟨0, [], H, s₁.toks, rfl, Nat.zero_le _, rfl, rfl, gI, F.keeps keep, fun p hp => ?_, gC, gK, h0⟩
    · rintro k s' ⟨i, ys, h', tk, rfl, hi, rfl, hyl, it, F', N', ⟨oC, mC, gC', nC⟩, ⟨oK, vv, gK', dK⟩, hJ⟩
      by_cases hlt : i < n
      · refine W.item i _ _ _ hlt it fun v h₂ tk₂ hPv it₂ hk₂ => ?_
        obtain ⟨tt, rfl⟩ := hPv
        have hk2 : ∀ b o, b ≠ I → h'.get? b = some o → h₂.get? b = some o := fun b o hb e => hk₂ b o (by simpa using hb) e
        refine wpAny_assign_Name (wpAny_storeName_cell (c := Kc) (v₀ := vv) hkind hxk (by show List.lookup x ((x, Kc) :: cl) = _; rw [List.lookup_cons]; simp) ⟨oK, hk2 _ _ (Nat.ne_of_gt (Nat.lt_trans iD (Nat.lt_trans iC iK))) gK', dK⟩ fun h₃ hc₃ hs₃ => ?_)
        refine wpAny_tests_nil ?_
        simp only [if_true]
        have hk3 : ∀ b o, b ≠ I → b ≠ Kc → h'.get? b = some o → h₃.get? b = some o := fun b o h1 h2 e => hs₃.extBut b o h2 (hk2 b o h1 e)
        obtain ⟨oK3, gK3, dK3⟩ := hc₃
        have gI3 : h₃.get? I = some _ := hs₃.extBut _ _ (Nat.ne_of_lt (Nat.lt_trans iD (Nat.lt_trans iC iK))) it₂
        have gC3 := hk3 _ _ (Nat.ne_of_gt (Nat.lt_trans iD iC)) (Nat.ne_of_lt iK) gC'
        have nI : ∀ b o, h₀.get? b = some o → b ≠ I := fun b o e q => by rw [q, fresh₀ I (Nat.le_refl _)] at e; exact nomatch e
        have nK : ∀ b o, h₀.get? b = some o → b ≠ Kc := fun b o e q => by rw [q, fresh₀ Kc (Nat.le_of_lt (Nat.lt_trans iD (Nat.lt_trans iC iK)))] at e; exact nomatch e
        have F3 : Fr h₀ L h₃ m := ⟨F'.ns.at' fun o e => hk3 L o (hLn I (Nat.le_refl _)) (hLn Kc (Nat.le_of_lt (Nat.lt_trans iD (Nat.lt_trans iC iK)))) e, fun b o e => hk3 b o (nI b o e) (nK b o e) (F'.keep b o e), F'.above⟩
        have N3 : News h₀ L h₃ ((Kc, oK3) :: (I, _) :: (C, oC) :: (D, lst ys) :: news) := fun p hp => by
          rcases List.mem_cons.mp hp with rfl | hp
          · exact ⟨gK3, Ne.symm (hLn _ (Nat.le_of_lt (Nat.lt_trans iD (Nat.lt_trans iC iK)))), fresh₀ _ (Nat.le_of_lt (Nat.lt_trans iD (Nat.lt_trans iC iK)))⟩
          rcases List.mem_cons.mp hp with rfl | hp
          · exact ⟨gI3, Ne.symm (hLn _ (Nat.le_refl _)), fresh₀ _ (Nat.le_refl _)⟩
          rcases List.mem_cons.mp hp with rfl | hp
          · exact ⟨gC3, Ne.symm (hLn _ (Nat.le_of_lt (Nat.lt_trans iD iC))), fresh₀ _ (Nat.le_of_lt (Nat.lt_trans iD iC))⟩
          refine ⟨hk3 _ _ ?_ ?_ (N' p hp).1, (N' p hp).2⟩
          · rcases List.mem_cons.mp hp with rfl | hp
            · exact Nat.ne_of_gt iD
            · exact Nat.ne_of_lt (hnl p hp)
          · rcases List.mem_cons.mp hp with rfl | hp
            · exact Nat.ne_of_lt (Nat.lt_trans iC iK)
            · exact Nat.ne_of_lt (Nat.lt_trans (hnl p hp) (Nat.lt_trans iD (Nat.lt_trans iC iK)))
        refine wpAny_mono (turn i ys tt I _ C oC D Kc oK3 h₃ tk₂ _ hlt hJ dK3 F3 N3 hnl iD iC iK) (fun y s₄ h₄ => ?_) fun _ _ e => e
        obtain ⟨h₄, tk₄, rfl, F₄, N₄, J₄⟩ := h₄
        have zK := (N₄ (Kc, oK3) (.head _)).1
        have zI := (N₄ (I, _) (.tail _ (.head _))).1
        have zC := (N₄ (C, oC) (.tail _ (.tail _ (.head _)))).1
        have zD := (N₄ (D, lst ys) (.tail _ (.tail _ (.tail _ (.head _))))).1
        refine append_at (hsz := by show ys.toArray.size ≤ sizeLine; rw [List.size_toArray, hyl]; exact Nat.le_trans hi hsz) zD fun h₅ hs₅ hD₅ => ?_
        have hk5 : ∀ b o, b ≠ D → h₄.get? b = some o → h₅.get? b = some o := fun b o hb e => hs₅.extBut b o hb e
        refine ⟨n + 1 - (i + 1), by omega, i + 1, ys ++ [y], h₅, tk₄, rfl, hlt, rfl, by rw [List.length_append, List.length_singleton, hyl], hk5 _ _ (Nat.ne_of_lt iD) zI, F₄.change hs₅ (Ne.symm (hLn _ (Nat.le_of_lt iD))) (fresh₀ _ (Nat.le_of_lt iD)), fun p hp => ?_, ⟨oC, mC, hk5 _ _ (Nat.ne_of_gt iC) zC, nC⟩, ⟨oK3, _, hk5 _ _ (Nat.ne_of_gt (Nat.lt_trans iC iK)) zK, dK3⟩, J₄⟩
        rcases List.mem_cons.mp hp with rfl | hp
        · exact ⟨hD₅.trans (congrArg some (lst_snoc ys y)), Ne.symm (hLn _ (Nat.le_of_lt iD)), fresh₀ _ (Nat.le_of_lt iD)⟩
        · have z := N₄ p (.tail _ (.tail _ (.tail _ (.tail _ hp))))
          exact ⟨hk5 _ _ (Nat.ne_of_lt (Nat.lt_trans (hnl p hp) iD)) z.1, z.2⟩
      · obtain rfl : i = n := Nat.le_antisymm hi (Nat.not_lt.mp hlt)
        refine W.done _ _ _ it fun h₂ tk₂ hk₂ => ?_
        have hk2 : ∀ b o, b ≠ I → h'.get? b = some o → h₂.get? b = some o := fun b o hb e => hk₂ b o (by simpa using hb) e
        have gC2 := hk2 _ _ (Nat.ne_of_gt (Nat.lt_trans iD iC)) gC'
        refine ⟨mC, nC.ns gC2, fun h₆ hs₆ => ?_⟩
        have hk6 : ∀ b o, b ≠ I → b ≠ C → h'.get? b = some o → h₆.get? b = some o := fun b o h1 h2 e => hs₆.extBut b o h2 (hk2 b o h1 e)
        have nI : ∀ b o, h₀.get? b = some o → b ≠ I := fun b o e q => by rw [q, fresh₀ I (Nat.le_refl _)] at e; exact nomatch e
        have nC' : ∀ b o, h₀.get? b = some o → b ≠ C := fun b o e q => by rw [q, fresh₀ C (Nat.le_of_lt (Nat.lt_trans iD iC))] at e; exact nomatch e
        refine fin D h₆ tk₂ ys hJ ⟨F'.ns.at' fun o e => hk6 L o (hLn I (Nat.le_refl _)) (hLn C (Nat.le_of_lt (Nat.lt_trans iD iC))) e, fun b o e => hk6 b o (nI b o e) (nC' b o e) (F'.keep b o e), F'.above⟩ (fun p hp => ⟨hk6 _ _ ?_ ?_ (N' p hp).1, (N' p hp).2⟩) fun p hp => Nat.lt_trans (hnl p hp) iD
        · rcases List.mem_cons.mp hp with rfl | hp
          · exact Nat.ne_of_gt iD
          · exact Nat.ne_of_lt (hnl p hp)
        · rcases List.mem_cons.mp hp with rfl | hp
          · exact Nat.ne_of_lt iC
          · exact Nat.ne_of_lt (Nat.lt_trans (hnl p hp) (Nat.lt_trans iD iC))
    · rcases List.mem_cons.mp hp with rfl | hp
      · exact ⟨gD, Ne.symm (hLn _ (Nat.le_of_lt iD)), fresh₀ _ (Nat.le_of_lt iD)⟩
      · exact ⟨keep _ _ (N p hp).1, (N p hp).2⟩
  exact codeAny_compStart_list loop (wpAny_pyIter_rangeiter gI loop)
end
end Mine
end
section
open PySem PySem.W PyProof.Rows PySem.Calls
open PyProof.Rows.LCg (lst lst_snoc NsObj ns_obj CompRest CompEnd Off3)
open PyProof.Rows.LCt (CompRestT)
set_option maxRecDepth 100000
set_option maxHeartbeats 4000000
namespace Mine
section
variable {prog : Program} {w : World} {A : Around} {s : Shared} {h₀ : Heap} {L : Addr} {m : Str → Option Value} {env : Env}
/-- A comprehension's turns by an invariant over what it has gathered. -/
theorem restJ {elt : Expr} {x : Str} {scope : Scope} {cl : List (Str × Addr)} {S : List (Addr × Obj) → Prop} {P : Nat → Value → Prop} {Fin : List Value → List (Addr × Obj) → Prop} {news : List (Addr × Obj)} {n : Nat} (J : Nat → List Value → Prop) (hS : S news)
    (turn : ∀ i v ys I oI C oC D m₂ h tk (E' : Value → Shared → Prop), P i v → i < n → J i ys → NsObj oC m₂ → m₂ x = some v → Fr h₀ L h m → News h₀ L h ((I, oI) :: (C, oC) :: (D, lst ys) :: news) → Off3 I C D news → ((@Ne Nat I C) ∧ (@Ne Nat I D) ∧ (@Ne Nat C D)) →
      wpAny (model prog w) A (eval elt (compEnvC scope cl C env)) (KYield h₀ L m { s with heap := h, toks := tk } [(I, oI), (C, oC), (D, lst ys)] news (fun y => J (i + 1) (ys ++ [y]))) E' { s with heap := h, toks := tk })
    (fin : ∀ ys, J n ys → Fin ys news) : ∀ (k i : Nat) (ys : List Value), k + i = n → J i ys → CompRest prog w A h₀ L m env elt x scope cl s S P Fin k i ys news
  | 0, i, ys, hk, hJ => by
    have e : i = n := by omega
    exact fin ys (e ▸ hJ)
  | k + 1, i, ys, hk, hJ => by
    intro v I oI C oC D m₂ h tk E' hP hC hx F N off ne
    refine wpAny_mono (turn i v ys I oI C oC D m₂ h tk E' hP (by omega) hJ hC hx F N off ne) (fun y s₂ hy => ?_) fun _ _ e => e
    obtain ⟨h', tk', rfl, F', N', hJ'⟩ := hy
    exact ⟨h', tk', news, rfl, F', N', off, hS, restJ J hS turn fin k (i + 1) (ys ++ [y]) (by omega) hJ'⟩
theorem restTJ {ct elt : Expr} {x : Str} {scope : Scope} {cl : List (Str × Addr)} {S : List (Addr × Obj) → Prop} {P : Nat → Value → Prop} {Fin : List Value → List (Addr × Obj) → Prop} {news : List (Addr × Obj)} {n : Nat} (J : Nat → List Value → Prop) (hS : S news)
    (turn : ∀ i v ys I oI C oC D m₂ h tk (E' : Value → Shared → Prop), P i v → i < n → J i ys → NsObj oC m₂ → m₂ x = some v → Fr h₀ L h m → News h₀ L h ((I, oI) :: (C, oC) :: (D, lst ys) :: news) → Off3 I C D news → ((@Ne Nat I C) ∧ (@Ne Nat I D) ∧ (@Ne Nat C D)) →
      wpAny (model prog w) A (isTrue ct (compEnvC scope cl C env) (eval ct (compEnvC scope cl C env))) (fun ok s' => if ok = true then
        wpAny (model prog w) A (eval elt (compEnvC scope cl C env)) (KYield h₀ L m { s with heap := h, toks := tk } [(I, oI), (C, oC), (D, lst ys)] news (fun y => J (i + 1) (ys ++ [y]))) E' s'
        else KYield h₀ L m { s with heap := h, toks := tk } [(I, oI), (C, oC), (D, lst ys)] news (fun _ => J (i + 1) ys) Value.none s') E' { s with heap := h, toks := tk })
    (fin : ∀ ys, J n ys → Fin ys news) : ∀ (k i : Nat) (ys : List Value), k + i = n → J i ys → CompRestT prog w A h₀ L m env ct elt x scope cl s S P Fin k i ys news
  | 0, i, ys, hk, hJ => by
    have e : i = n := by omega
    exact fin ys (e ▸ hJ)
  | k + 1, i, ys, hk, hJ => by
    intro v I oI C oC D m₂ h tk E' hP hC hx F N off ne
    refine wpAny_mono (turn i v ys I oI C oC D m₂ h tk E' hP (by omega) hJ hC hx F N off ne) (fun ok s₂ hy => ?_) fun _ _ e => e
    cases ok with
    | true =>
      rw [if_pos rfl] at hy ⊢
      refine wpAny_mono hy (fun y s₃ hz => ?_) fun _ _ e => e
      obtain ⟨h', tk', rfl, F', N', hJ'⟩ := hz
      exact ⟨h', tk', news, rfl, F', N', off, hS, restTJ J hS turn fin k (i + 1) (ys ++ [y]) (by omega) hJ'⟩
    | false =>
      rw [if_neg Bool.false_ne_true] at hy ⊢
      obtain ⟨h', tk', rfl, F', N', hJ'⟩ := hy
      exact ⟨h', tk', news, rfl, F', N', off, hS, restTJ J hS turn fin k (i + 1) ys (by omega) hJ'⟩
end
/-- A list of lists of strs. -/
def Lists (h : Heap) (la : Addr) (ls : List (List Str)) : Prop := ∃ lv : List Value, h.IsList la lv.toArray ∧ lv.length = ls.length ∧ ∀ (i : Nat) (l : List Str), ls[i]? = some l → ∃ (a : Addr) (vs : List Value), lv[i]? = some (Value.ref a) ∧ h.IsList a vs.toArray ∧ StrsAre vs l
def letter (i : Nat) : Nat := ([114, 119, 120, 114, 119, 120] : List Nat).getD i 0
/-- The sign at right i of the row of a cut xs, where ls tells who lacks each right. -/
def rsig (xs : List Str) (ls : List (List Str)) (i : Nat) : Str := if xs.any (fun x => (ls.getD i []).any (· == x)) then ⟨#[45]⟩ else ⟨#[letter i]⟩
def rowT (xs : List Str) (ls : List (List Str)) : Str := Txt.join (Str.ofString "") ((List.range 6).map (rsig xs ls))
end Mine
end
section
open PySem PySem.W PyProof.Rows PySem.Calls
set_option maxRecDepth 100000
set_option maxHeartbeats 4000000
namespace Mine
section
variable {prog : Program} {w : World} {A : Around} {E : Value → Shared → Prop} {s : Shared} {h₀ : Heap} {L : Addr} {m : Str → Option Value} {news : List (Addr × Obj)}
theorem item_in {value slice : Expr} {l : Addr} {items : Array Value} {k : Int} {u : Tok} {x : Value} {Q : Value → Shared → Prop} (hl : s.heap.IsList l items) (h0 : 0 ≤ k) (hfit : k < 2 ^ 63) (hx : items[k.toNat]? = some x) (h : Q x s)
    (hs : subscripted slice false (.ref l) (.int k u) = operate [.ref l, .int k u] (getItem (.ref l) (.int k u)) := by with_unfolding_all rfl) :
    wpAny (model prog w) A (subscriptTail value slice (.ref l) (.int k u)) Q E s :=
  tail_any hl.typeIs slot_list_getitem.lookup (wpAny_getItem_list hl h0 hfit hx h) hs
theorem lists_item {value slice : Expr} {la : Addr} {ls : List (List Str)} {n : Nat} {k : Int} {u : Tok} {Q : Value → Shared → Prop} (F : Fr h₀ L s.heap m) (hl : Lists h₀ la ls) (hk : k = (n : Int)) (hn : n < ls.length) (hz : ls.length < 1000)
    (h : ∀ (a : Addr) (vs : List Value), h₀.IsList a vs.toArray → StrsAre vs (ls.getD n []) → Q (.ref a) s)
    (hs : subscripted slice false (.ref la) (.int k u) = operate [.ref la, .int k u] (getItem (.ref la) (.int k u)) := by with_unfolding_all rfl) :
    wpAny (model prog w) A (subscriptTail value slice (.ref la) (.int k u)) Q E s := by
  obtain ⟨lv, hlv, hlen, hi⟩ := hl
  obtain ⟨a, vs, e1, e2, e3⟩ := hi n ls[n] (List.getElem?_eq_getElem hn)
  have hl' : s.heap.IsList la lv.toArray := hlv.at fun _ e => F.keep _ _ e
  refine item_in hl' (by omega) (by omega) (x := .ref a) (by rw [show k.toNat = n by omega]; simpa using e1) (h a vs e2 ?_) hs
  rwa [List.getD_eq_getElem?_getD, List.getElem?_eq_getElem hn]
theorem in_base_strs {l : Addr} {vs : List Value} {ys : List Str} {x : Str} {u : Tok} {Q : Value → Shared → Prop} (F : Fr h₀ L s.heap m) (hl : h₀.IsList l vs.toArray) (hi : StrsAre vs ys) (h : Q (.bool (ys.any (· == x))) s) : wpAny (model prog w) A (compareOp .In (.str x u) (.ref l)) Q E s :=
  in_list_strs (hl.at fun _ e => F.keep _ _ e) hi h
theorem name_kc {env : Env} {x : Str} {pos : Pos} {c : Addr} {o : Obj} {v : Value} {Q : Value → Shared → Prop} (N : News h₀ L s.heap news) (hc : env.cells.lookup x = some c) (hm : (c, o) ∈ news) (hd : o.data = .cell (some v)) (h : Q v s)
    (hk : env.scope.kind = .function) (hx : env.kindOf x = some .cell) (hb : (x == ("__debug__" : Str)) = false := by decide) :
    wpAny (model prog w) A (eval (.Name x pos) env) Q E s := wpAny_Name (wpAny_loadName_cell hk hx hc ⟨o, N.get hm, hd⟩ h) hb
theorem truthy_lst {D : Addr} {zs : List Value} {Q : Bool → Shared → Prop} (N : News h₀ L s.heap news) (hm : (D, LCg.lst zs) ∈ news) (hz : zs.length < 2 ^ 62) (h : Q (!zs.isEmpty) { s with toks := s.toks + 1 + 1 }) : wpAny (model prog w) A (truthy (.ref D)) Q E s := by
  refine wpAny_truthy_list ⟨_, N.get hm, rfl, zs.length, rfl⟩ (by rw [List.size_toArray]; omega) ?_
  rwa [show zs.toArray.isEmpty = zs.isEmpty by simp]
theorem any_snoc {xs : List Str} {j : Nat} (hj : j < xs.length) (p : Str → Bool) : (xs.take (j + 1)).any p = ((xs.take j).any p || p xs[j]) := by
  rw [List.take_add_one, List.getElem?_eq_getElem hj, List.any_append]
  simp
theorem strs_end {ys : List Value} {ss : List Str} {y : Str} {t : Tok} (h : StrsAre ys ss) : StrsAre (ys ++ [.str y t]) (ss ++ [y]) := by
  induction h with
  | nil => exact .cons y t .nil
  | cons z u _ ih => exact .cons z u ih
theorem row_next {xs : List Str} {ls : List (List Str)} {i : Nat} {ys : List Value} {y : Str} {t : Tok} (h : StrsAre ys ((List.range i).map (rsig xs ls))) (e : rsig xs ls i = y) : StrsAre (ys ++ [.str y t]) ((List.range (i + 1)).map (rsig xs ls)) := by
  rw [List.range_succ, List.map_append]
  subst e
  exact strs_end h
theorem item_letter {i : Nat} (hi : i < 6) : Txt.item (Str.ofString "rwxrwx") (0 + (i : Int)) = ⟨#[letter i]⟩ := by
  match i, hi with
  | 0, _ => rfl
  | 1, _ => rfl
  | 2, _ => rfl
  | 3, _ => rfl
  | 4, _ => rfl
  | 5, _ => rfl
theorem item_rwx {value slice : Expr} {i : Nat} {t u : Tok} {Q : Value → Shared → Prop} (hi : i < 6) (h : ∀ k t', Q (.str ⟨#[letter i]⟩ t') { s with toks := k })
    (hs : subscripted slice false (.str (Str.ofString "rwxrwx") t) (.int (0 + (i : Int)) u) = operate [.str (Str.ofString "rwxrwx") t, .int (0 + (i : Int)) u] (getItem (.str (Str.ofString "rwxrwx") t) (.int (0 + (i : Int)) u)) := by with_unfolding_all rfl)
    (ht : ∀ r, letTemporaryGo value (.str (Str.ofString "rwxrwx") t) r = pure () := by intro _; with_unfolding_all rfl) :
    wpAny (model prog w) A (subscriptTail value slice (.str (Str.ofString "rwxrwx") t) (.int (0 + (i : Int)) u)) Q E s := by
  have z : (Str.ofString "rwxrwx").length = 6 := rfl
  refine PyProof.Rows.item_str (fitsSsize_of (N := 9223372036854775808) (by omega) (by omega) (Int.le_refl _)) (by omega) (by omega) (fun _ => ?_) hs ht
  rw [item_letter hi]
  exact h _ _
theorem row_weight (xs : List Str) (ls : List (List Str)) : (((List.range 6).map (rsig xs ls)).map (·.length)).sum + ((List.range 6).map (rsig xs ls)).length ≤ 1048576 := by
  have h1 : ∀ i, (rsig xs ls i).length = 1 := fun i => by
    unfold rsig
    split <;> rfl
  have e : ((List.range 6).map (rsig xs ls)).map (·.length) = (List.range 6).map (fun _ => 1) := by
    rw [List.map_map]
    exact List.map_congr_left fun i _ => h1 i
  rw [e, List.length_map]
  decide
end
end Mine
end
section
open PySem PySem.W PyProof.Rows PySem.Calls
set_option maxRecDepth 100000
set_option maxHeartbeats 8000000
namespace Mine
local macro_rules | `(tactic| walk_at "eval ListComp") => `(tactic| (refine hold ?_))
local macro_rules | `(tactic| walk_at "eval Name") => `(tactic| (k_here; (with_reducible show wpAny _ _ (eval (Expr.Name _ _) (envKC _ _ _ _ _ _)) _ _ _); k_dflt (refine' name_kc ?N ?c ?m ?d ?_ ?a ?b; (case a => rfl); (case b => rfl); (case N => k_asm); (case c => rfl); (case m => k_mem); (case d => k_asm); k_whole)))
local macro_rules | `(tactic| walk_at "CompSrcT") => `(tactic| (refine hold ?_))
local macro_rules | `(tactic| walk_at "subscriptTail Name Name ref int") => `(tactic| (k_here; (with_reducible rename Lists _ _ _ => hLi); (refine' lists_item ?hF hLi ?hk ?hn ?hz ?_ ?hs; (case hF => k_asm); (case hk => first | rfl | exact Int.zero_add _ | omega); (case hn => omega); (case hz => omega); (case hs => with_unfolding_all rfl)); intro a9 vs9 hl9 hs9))
local macro_rules | `(tactic| walk_at "compareOp In str ref") => `(tactic| (k_here; (refine' in_base_strs ?hF ?hl ?hi ?_; (case hF => k_asm); (case hl => assumption); (case hi => assumption))))
local macro_rules | `(tactic| walk_at "truthy ref") => `(tactic| (k_here; (refine' truthy_lst ?hN ?hm ?hz ?_; (case hN => k_asm); (case hm => k_mem); (case hz => omega))))
local macro_rules | `(tactic| walk_at "subscriptTail Constant Name str int") => `(tactic| (k_here; (refine' item_rwx ?hi ?_ ?hs ?ht; (case hi => assumption); (case hs => with_unfolding_all rfl); (case ht => intro _; with_unfolding_all rfl)); intro k9 t9))
theorem row_spec (w : World) (mean : ExcName → Option Value) (mg mb : Str → Option Value) (dp un : Nat) (gd : Option (List Code)) (envC : Env) (l : List Env) (base h₀ : Heap) (L : Addr) (m : Str → Option Value) (s : Shared) (Q E : Value → Shared → Prop) (news : List (Addr × Obj))
   (ca la : Addr) (vc : List Value) (xs : List Str) (ls : List (List Str))
   (B0 : base.StaysIn h₀) (BF : h₀.FunFrames base l) (hfC : envC.frame = some L) (hkC : envC.scope.kind ≠ .module)
   (F : Fr h₀ L s.heap m) (N : News h₀ L s.heap news) (X : (hd.heap_39 w.params).In base) (T : Top hd.view_39 lo mean mg mb base)
   (hroom0 : dp < recursionLimit)
   (hxl : xs.length < 1000) (hc : s.heap.IsList ca vc.toArray) (hcs : StrsAre vc xs) (hl : Lists s.heap la ls) (hll : ls.length = 6)
   (hret : ∀ h' tk t', Fr h₀ L h' m → News h₀ L h' news → Q (.str (rowT xs ls) t') { s with heap := h', toks := tk }) : wpAny (model PySem.Challenge.rw_un0005_01.row.prog w) { handled := none, depth := dp, frames := some (envC :: l), guards := gd, units := un } (call (.ref 121) [.ref ca, .ref la]) Q E s := by
  w_top off
  revert X; k_fill; intro X
  k_dflt (refine' enterC B0 BF hfC hkC F N X T.nolimit ?k6 ?k7 ?k8 ?k9 ?kB ?kD ?_ ?c2 ?c3 ?c4; (case k6 => k_is); (case k7 => k_is); (case k8 => exact hroom0); (case k9 => first | exact binds_K (by k_in) rfl (by k_is) rfl rfl rfl | exact BindsTo.of_eq rfl); (case kB => exact rfl); (case kD => decide +kernel); (case c2 => exact rfl); (case c3 => exact rfl); (case c4 => exact rfl); k_whole)
  intro h₁ tk₁ cells B1 BF1 F1 N1 Y1
  have X1 := X.keeps B1
  have T1 := T.keeps B1
  generalize hG : s.heap = G at *
  generalize hL' : G.objs.size = L' at *
  k_cells Y1
  rename_i o1 o2 d1 d2
  have e1 : o1.data = .cell (some (.ref la)) := d1
  have e2 : o2.data = .cell (some (.ref ca)) := d2
  clear d1 d2
  k_steps
  with_unfolding_all refine' cellComp (n := 6) (a := 0) (b := 6) (fun i ys => StrsAre ys ((List.range i).map (rsig xs ls))) F1 N1 ?hh ?hclos ?hkind ?hnames ?hcells ?hpush ?hxk ?hsm ?hn ?hsz ?h0 ?_
  case hh => rfl
  case hclos => rfl
  case hkind => rfl
  case hnames => decide
  case hcells => intro n; rfl
  case hpush => intro h; rfl
  case hxk => rfl
  case hsm => decide
  case hn => rfl
  case hsz => decide
  case h0 => exact .nil
  k_steps
  refine ⟨_, _, _, _, rfl, by assumption, by assumption, by assumption, ?turn, ?fin⟩
  case turn =>
    intro i ys tt I oI C oC D Kc oK h tk E' hi hJ hd Fh Nh l1 l2 l3 l4
    have zl1 := l1 (L' + 1 + 1, o1) (.head _)
    have zl2 := l1 (L' + 1, o2) (.tail _ (.head _))
    clear l1
    k_steps
    with_unfolding_all refine' LCt.ListComp_T (F₀ := Fh) ?hclos ?hcell ?hkind ?hnames ?hx ?_ ?hs
    case hclos => rfl
    case hcell => decide
    case hkind => rfl
    case hnames => decide
    case hx => rfl
    case hs => intro _; rfl
    k_steps
    have zv : vc.toArray.size ≤ sizeLine := by rw [sizeLine_eq, List.size_toArray, hcs.len_eq]; omega
    refine LCt.CompSrcT.base rfl (by assumption) (by assumption) hc zv fun g => ?_
    refine restTJ (n := vc.toArray.size) (fun j zs => zs.length ≤ j ∧ zs.isEmpty = !((xs.take j).any (fun x => (ls.getD i []).any (· == x)))) (Or.inl hc) ?it ?ifin vc.toArray.size 0 [] rfl ⟨Nat.le_refl _, rfl⟩
    case it =>
      intro j v zs I2 oI2 C2 oC2 D2 m2 h2 tk2 E2 hP hj hJ2 hC2 hx2 F2 N2 off2 ne2
      have hxj : j < xs.length := by rw [← hcs.len_eq]; simpa using hj
      obtain ⟨tj, htj⟩ := hcs.get j xs[j] (List.getElem?_eq_getElem hxj)
      have hv : v = .str xs[j] tj := by
        have := hP.symm.trans (show vc.toArray[j]? = some _ by simpa using htj)
        exact Option.some.inj this
      subst hv
      k_steps
      all_goals (refine ⟨_, _, rfl, by assumption, by assumption, ?_⟩; have zj := hJ2.1; have ej := hJ2.2)
      · refine ⟨by rw [List.length_append, List.length_singleton]; omega, ?_⟩
        rw [any_snoc hxj]
        rename_i ha
        rw [show (ls.getD i []).any (fun x => x == xs[j]) = true from ha]
        simp
      · refine ⟨by omega, ?_⟩
        rw [any_snoc hxj]
        rename_i ha
        rw [show (ls.getD i []).any (fun x => x == xs[j]) = false by simpa using ha]
        simpa using ej
    case ifin =>
      intro zs hJ2
      have zj := hJ2.1
      have ej := hJ2.2
      rw [List.size_toArray, hcs.len_eq] at zj ej
      rw [List.take_of_length_le (Nat.le_refl _)] at ej
      k_steps
      all_goals refine ⟨_, _, rfl, by assumption, fun q hq => (by assumption : News G L' _ (_ :: _ :: _ :: _ :: _ :: _)) q (List.mem_cons_of_mem _ hq), row_next hJ ?_⟩
      all_goals (rename_i hz9; unfold rsig)
      · rename_i hz8
        rw [hz8] at ej
        rw [if_neg (by simpa using ej.symm), item_letter hi]
      · rw [hz9] at ej
        rw [if_pos (by simpa using ej.symm)]
        rfl
  case fin =>
    intro D h tk ys hJ Fh Nh lD
    k_steps
    refine join_listW (ys := (List.range 6).map (rsig xs ls)) ⟨_, Nh.get (.head _), rfl, ys.length, rfl⟩ (by simpa using hJ) (by decide) (row_weight xs ls) fun t9 k9 => ?_
    exact ⟨_, _, by assumption, Nh, fun F₀ N₀ _ => hret _ _ _ F₀ (fun p hp => N₀ p (List.mem_append_right _ hp))⟩
end Mine
end
section
open PySem PySem.W PyProof.Rows PySem.Calls
set_option maxRecDepth 100000
set_option maxHeartbeats 4000000
namespace Mine
section
variable {prog : Program} {w : World} {A : Around} {E : Value → Shared → Prop} {s : Shared} {env : Env} {h₀ : Heap} {x : Str} {body : List Stmt} {Q : Flow → Shared → Prop}
theorem unr_mono {L I : Addr} {s₁ : Shared} {it : Obj} {r r' : (Str → Option Value) → List (Addr × Obj) → Prop} (hr : ∀ m n, r m n → r' m n) {f : Flow} {s₂ : Shared} (h : UnrPost h₀ L s₁ I it r Q f s₂) : UnrPost h₀ L s₁ I it r' Q f s₂ := by
  cases f with
  | ret v => exact h
  | brk => exact h
  | next => obtain ⟨h', tk, m', n', e, F, N, a, x⟩ := h; exact ⟨h', tk, m', n', e, F, N, a, hr _ _ x⟩
  | cont => obtain ⟨h', tk, m', n', e, F, N, a, x⟩ := h; exact ⟨h', tk, m', n', e, F, N, a, hr _ _ x⟩
/-- The turns of a loop over a range by an invariant that joins the ways of each turn. -/
theorem rangeJ {I : Addr} {a : Int} {n : Nat} (J : Nat → (Str → Option Value) → List (Addr × Obj) → Prop)
    (turn : ∀ i m nx t h tk, i < n → J i m nx → Fr h₀ env.locals h (fun y => if y = x then some (.int (a + (i : Int)) t) else m y) →
      News h₀ env.locals h ((I, itR (a + ((i + 1 : Nat) : Int)) ((n : Int) - ((i + 1 : Nat) : Int))) :: nx) →
      wpAny (model prog w) A (execs body env) (UnrPost h₀ env.locals { s with heap := h, toks := tk } I (itR (a + ((i + 1 : Nat) : Int)) ((n : Int) - ((i + 1 : Nat) : Int))) (J (i + 1)) Q) E { s with heap := h, toks := tk })
    (fin : ∀ m nx h tk, J n m nx → Fr h₀ env.locals h m → News h₀ env.locals h nx → Q .next { s with heap := h, toks := tk }) :
    ∀ (k i : Nat) (m : Str → Option Value) (nx : List (Addr × Obj)), k + i = n → J i m nx → RangeRest prog w A E h₀ env x body Q s I a n k i m nx
  | 0, i, m, nx, hk, hJ => by
    have e : i = n := by omega
    intro h tk F N
    exact fin m nx h tk (e ▸ hJ) F N
  | k + 1, i, m, nx, hk, hJ => by
    intro t h tk F N
    exact wpAny_mono (turn i m nx t h tk (by omega) hJ F N) (fun f s₂ p => unr_mono (fun m' n' q => rangeJ J turn fin k (i + 1) m' n' (by omega) q) p) fun _ _ e => e
theorem rangeJ0 {I : Addr} {a : Int} {n : Nat} {m : Str → Option Value} {nx : List (Addr × Obj)} (J : Nat → (Str → Option Value) → List (Addr × Obj) → Prop)
    (turn : ∀ i m nx t h tk, i < n → J i m nx → Fr h₀ env.locals h (fun y => if y = x then some (.int (a + (i : Int)) t) else m y) →
      News h₀ env.locals h ((I, itR (a + ((i + 1 : Nat) : Int)) ((n : Int) - ((i + 1 : Nat) : Int))) :: nx) →
      wpAny (model prog w) A (execs body env) (UnrPost h₀ env.locals { s with heap := h, toks := tk } I (itR (a + ((i + 1 : Nat) : Int)) ((n : Int) - ((i + 1 : Nat) : Int))) (J (i + 1)) Q) E { s with heap := h, toks := tk })
    (fin : ∀ m nx h tk, J n m nx → Fr h₀ env.locals h m → News h₀ env.locals h nx → Q .next { s with heap := h, toks := tk }) (h0 : J 0 m nx) : RangeRest prog w A E h₀ env x body Q s I a n n 0 m nx := rangeJ J turn fin n 0 m nx (Nat.add_zero _) h0
end
/-- The bits that all modes of the set p have. -/
noncomputable def bitsOf (ms : List Int) (p : Nat) : Nat → Int
  | 0 => 63
  | k + 1 => if p / 2 ^ k % 2 = 1 then Builtin.bitAnd (bitsOf ms p k) (ms.getD k 0) else bitsOf ms p k
noncomputable def sharedL (ms : List Int) : Nat → List Int
  | 0 => []
  | n + 1 => if bitsOf ms n 4 ∈ sharedL ms n then sharedL ms n else sharedL ms n ++ [bitsOf ms n 4]
/-- The outer loop's state in _law_shared: the list holds what the first i sets give. -/
structure ShJ (ma D : Addr) (ms : List Int) (i : Nat) (m : Str → Option Value) (n : List (Addr × Obj)) : Prop where
  modes : m (Str.ofString "modes") = some (.ref ma)
  shared : m (Str.ofString "shared") = some (.ref D)
  list : ∃ vs c, (D, PySem.W.listOf vs c) ∈ n ∧ IntsAre vs.toList (sharedL ms i)
structure BiJ (ma D I : Addr) (ms : List Int) (p : Nat) (tp : Tok) (o oI : Obj) (i : Nat) (m : Str → Option Value) (n : List (Addr × Obj)) : Prop where
  modes : m (Str.ofString "modes") = some (.ref ma)
  shared : m (Str.ofString "shared") = some (.ref D)
  number : m (Str.ofString "number") = some (.int (0 + (p : Int)) tp)
  bits : ∃ t, m (Str.ofString "bits") = some (.int (bitsOf ms p i) t)
  list : (D, o) ∈ n
  iter : (I, oI) ∈ n
section
variable {prog : Program} {w : World} {A : Around} {E : Value → Shared → Prop} {s : Shared} {h₀ : Heap} {L : Addr} {m : Str → Option Value}
theorem ints_item {value slice : Expr} {l : Addr} {vs : List Value} {ns : List Int} {n : Nat} {k : Int} {u : Tok} {Q : Value → Shared → Prop} (F : Fr h₀ L s.heap m) (hl : h₀.IsList l vs.toArray) (hi : IntsAre vs ns) (hk : k = (n : Int)) (hn : n < ns.length) (hz : ns.length < 1000)
    (h : ∀ t, Q (.int (ns.getD n 0) t) s)
    (hs : subscripted slice false (.ref l) (.int k u) = operate [.ref l, .int k u] (getItem (.ref l) (.int k u)) := by with_unfolding_all rfl) :
    wpAny (model prog w) A (subscriptTail value slice (.ref l) (.int k u)) Q E s := by
  have hl' : s.heap.IsList l vs.toArray := hl.at fun _ e => F.keep _ _ e
  have hlen : vs.length = ns.length := by have := hi.sizeZ; simp at this; omega
  have hv : vs[n]? = some vs[n] := List.getElem?_eq_getElem (by omega)
  obtain ⟨t, ht⟩ := hi.int_at n _ hv
  rw [ht] at hv
  exact tail_any hl'.typeIs slot_list_getitem.lookup (wpAny_getItem_list hl' (by omega) (by omega) (by rw [show k.toNat = n by omega]; simpa using hv) (h t)) hs
end
/-- three names, the rest as it lies -/
theorem chain3 {G h : Heap} {L : Addr} {m : Str → Option Value} {n1 n2 n3 : Str} {v1 v2 v3 : Option Value} (F : Fr G L h m) (h1 : m n1 = v1) (h2 : m n2 = v2) (h3 : m n3 = v3) :
    Fr G L h (fun y => if y = n1 then v1 else if y = n2 then v2 else if y = n3 then v3 else m y) := by
  have e : (fun y => if y = n1 then v1 else if y = n2 then v2 else if y = n3 then v3 else m y) = m := by
    funext y
    by_cases q1 : y = n1
    · simp [q1, h1]
    by_cases q2 : y = n2
    · subst q2; simp [q1, h2]
    by_cases q3 : y = n3
    · subst q3; simp [q1, q2, h3]
    simp [q1, q2, q3]
  rw [e]; exact F
theorem intsAre_push {vm : Array Value} {xs : List Int} {y : Int} {t : Tok} (h : IntsAre vm.toList xs) : IntsAre (vm.push (.int y t)).toList (xs ++ [y]) := by
  rw [Array.toList_push]
  generalize vm.toList = l at h
  induction h with
  | nil => exact .cons y t .nil
  | cons z u _ ih => exact .cons z u ih
theorem unrEnd_of {h₀ : Heap} {L I : Addr} {it : Obj} {rest : (Str → Option Value) → List (Addr × Obj) → Prop} {s₁ : Shared} {h' : Heap} {tk : Nat} {m' : Str → Option Value} {news' : List (Addr × Obj)} (F : Fr h₀ L h' m') (N : News h₀ L h' ((I, it) :: news')) (off : ∀ p ∈ news', p.1 ≠ I) (r : rest m' news') : UnrEnd h₀ L s₁ I it rest { s₁ with heap := h', toks := tk } := ⟨h', tk, m', news', rfl, F, N, off, r⟩
theorem sharedL_length (ms : List Int) : ∀ n, (sharedL ms n).length ≤ n
  | 0 => Nat.le_refl _
  | n + 1 => by
    unfold sharedL
    have := sharedL_length ms n
    split
    · omega
    · rw [List.length_append, List.length_singleton]; omega
theorem bit_cond0 : ∀ p : Fin 16, ∀ k : Fin 4, (Builtin.bitAnd ((0 + (p.val : Int)).fdiv (2 ^ (0 + (k.val : Int)).toNat)) 1 = 0 ↔ ¬ p.val / 2 ^ k.val % 2 = 1) := by decide +kernel
theorem bit_cond {p k : Nat} (hp : p < 16) (hk : k < 4) : Builtin.bitAnd ((0 + (p : Int)).fdiv (2 ^ (0 + (k : Int)).toNat)) 1 = 0 ↔ ¬ p / 2 ^ k % 2 = 1 := bit_cond0 ⟨p, hp⟩ ⟨k, hk⟩
theorem bits_yes {ms : List Int} {p k : Nat} (h : p / 2 ^ k % 2 = 1) : bitsOf ms p (k + 1) = Builtin.bitAnd (bitsOf ms p k) (ms.getD k 0) := by
  conv => lhs; unfold bitsOf
  rw [if_pos h]
theorem bits_no {ms : List Int} {p k : Nat} (h : ¬ p / 2 ^ k % 2 = 1) : bitsOf ms p (k + 1) = bitsOf ms p k := by
  conv => lhs; unfold bitsOf
  rw [if_neg h]
theorem shared_yes {ms : List Int} {n : Nat} (h : (sharedL ms n).any (fun x => x == bitsOf ms n 4) = true) : sharedL ms (n + 1) = sharedL ms n := by
  conv => lhs; unfold sharedL
  rw [if_pos]
  obtain ⟨x, hx, e⟩ := List.any_eq_true.mp h
  rwa [← beq_iff_eq.mp e]
theorem shared_no {ms : List Int} {n : Nat} (h : (sharedL ms n).any (fun x => x == bitsOf ms n 4) = false) : sharedL ms (n + 1) = sharedL ms n ++ [bitsOf ms n 4] := by
  conv => lhs; unfold sharedL
  rw [if_neg]
  intro hx
  rw [List.any_eq_false] at h
  exact h _ hx (by simp)
end Mine
end
section
open PySem PySem.W PyProof.Rows PySem.Calls
set_option maxRecDepth 100000
set_option maxHeartbeats 8000000
namespace Mine
local macro_rules | `(tactic| walk_at "pyIter ref") => `(tactic| (k_here; (with_reducible show wpAny _ _ (pyIter (Value.ref _)) (fun it s₂ => LoopAtV _ _ _ _ _ _ _ _ _ it s₂) _ _); (with_unfolding_all refine' iter_rangeUnr ?hh ?hr ?hs ?hn ?F ?N ?_; (case hh => with_unfolding_all rfl); (case hr => assumption); (case hs => decide); (case hn => with_unfolding_all rfl); (case F => k_asm); (case N => k_asm)); refine hold ?_))
local macro_rules | `(tactic| walk_at "subscriptTail Name Name ref int") => `(tactic| (k_here; (with_reducible rename IntsAre _ _ => hLi); (refine' ints_item ?hF ?hl hLi ?hk ?hn ?hz ?_ ?hs; (case hF => k_asm); (case hl => assumption); (case hk => first | rfl | exact Int.zero_add _ | omega); (case hn => omega); (case hz => omega); (case hs => with_unfolding_all rfl)); intro t9))
local macro_rules | `(tactic| walk_at "call builtin:list.append") => `(tactic| (k_here; refine' append_K ?k1 ?k2 ?k3 ?_ ?z; (case k1 => k_asm); (case k2 => k_asm); (case k3 => k_upd); (case z => first | assumption | size_fits); intro h9 F9 N9))
local macro_rules | `(tactic| walk_at "UnrEnd") => `(tactic| (refine' unrEnd_of ?F ?N ?off ?_; (case F => k_asm); (case N => k_asm); (case off => k_all)))
theorem shared_spec (w : World) (mean : ExcName → Option Value) (mg mb : Str → Option Value) (dp un : Nat) (gd : Option (List Code)) (envC : Env) (l : List Env) (base h₀ : Heap) (L : Addr) (m : Str → Option Value) (s : Shared) (Q E : Value → Shared → Prop) (news : List (Addr × Obj))
   (ma : Addr) (vm : List Value) (ms : List Int)
   (B0 : base.StaysIn h₀) (BF : h₀.FunFrames base l) (hfC : envC.frame = some L) (hkC : envC.scope.kind ≠ .module)
   (F : Fr h₀ L s.heap m) (N : News h₀ L s.heap news) (X : (hd.heap_39 w.params).In base) (T : Top hd.view_39 lo mean mg mb base)
   (hroom0 : dp < recursionLimit) (hm : s.heap.IsList ma vm.toArray) (hi : IntsAre vm ms) (hml : ms.length = 4)
   (hret : ∀ h' tk D vs c, Fr h₀ L h' m → News h₀ L h' ((D, PySem.W.listOf vs c) :: news) → (∀ q ∈ news, q.1 ≠ D) → IntsAre vs.toList (sharedL ms 16) → Q (.ref D) { s with heap := h', toks := tk }) : wpAny (model PySem.Challenge.rw_un0005_01.row.prog w) { handled := none, depth := dp, frames := some (envC :: l), guards := gd, units := un } (call (.ref 116) [.ref ma]) Q E s := by
  w_top off
  revert X; k_fill; intro X
  k_dflt (refine' enter0 B0 BF hfC hkC F N X T.nolimit ?k6 ?k7 ?k8 ?k9 ?kB ?_ ?c2 ?c3 ?c4 ?c5; (case k6 => k_is); (case k7 => k_is); (case k8 => exact hroom0); (case k9 => first | exact binds_K (by k_in) rfl (by k_is) rfl rfl rfl | exact BindsTo.of_eq rfl); (case kB => exact locs rfl); (case c2 => exact rfl); (case c3 => exact rfl); (case c4 => exact rfl); (case c5 => decide); k_whole)
  intro h₁ B1 BF1 F1
  have X1 := X.keeps B1
  have T1 := T.keeps B1
  have N1 : News s.heap s.heap.objs.size h₁ [] := News.nil
  generalize hG : s.heap = G at *
  generalize hL' : G.objs.size = L' at *
  k_steps
  intro I lI
  rename_i D _ _ _ _ _ _ _ _ _ _ _ _ _ _
  change RangeRest _ _ _ _ _ _ _ _ _ _ _ _ 16 16 0 _ _
  refine rangeJ0 (ShJ ma D ms) ?turn ?fin ⟨rfl, rfl, #[], 0, .head _, .nil⟩
  case turn =>
    rintro p m3 nx tp h3 tk3 hp ⟨j1, j2, vs, c, hin, hs⟩ F' N'
    have F3 := chain3 (n1 := Str.ofString "modes") (n2 := Str.ofString "shared") (n3 := Str.ofString "number") (v1 := some (.ref ma)) (v2 := some (.ref D)) (v3 := some (.int (0 + (p : Int)) tp)) (show Fr G L' _ _ from F') ((if_neg (by decide)).trans j1) ((if_neg (by decide)).trans j2) (if_pos rfl)
    replace N' : News G L' h3 [(I, _), (D, PySem.W.listOf vs c)] := fun q hq => by
      rcases List.mem_cons.mp hq with rfl | hq
      · exact N' _ (.head _)
      rw [List.mem_singleton.mp hq]
      exact N' _ (.tail _ hin)
    clear F' hin
    have lD : @LT.lt Nat _ D I := lI _ (.head _)
    k_steps
    intro I2 lI2
    have lD2 : @LT.lt Nat _ D I2 := lI2 _ (.tail _ (.head _))
    have lI3 : @LT.lt Nat _ I I2 := lI2 _ (.head _)
    clear lI2
    change RangeRest _ _ _ _ _ _ _ _ _ _ _ _ 4 4 0 _ _
    refine rangeJ0 (BiJ ma D I ms p tp _ _) ?turn2 ?fin2 ⟨rfl, rfl, rfl, ⟨_, rfl⟩, .tail _ (.head _), .head _⟩
    case turn2 =>
      rintro k m4 nx4 tk' h4 tk4 hk ⟨i1, i2, i3, ⟨tb, i4⟩, hin4, hit4⟩ F4 N4
      have F5 := chain6 (n1 := Str.ofString "k") (n2 := Str.ofString "modes") (n3 := Str.ofString "shared") (n4 := Str.ofString "number") (n5 := Str.ofString "bits") (n6 := Str.ofString "bits") (v1 := some (.int (0 + (k : Int)) tk')) (v2 := some (.ref ma)) (v3 := some (.ref D)) (v4 := some (.int (0 + (p : Int)) tp)) (v5 := some (.int (bitsOf ms p k) tb)) (v6 := some (.int (bitsOf ms p k) tb)) (show Fr G L' _ _ from F4) (if_pos rfl) ((if_neg (by decide)).trans i1) ((if_neg (by decide)).trans i2) ((if_neg (by decide)).trans i3) ((if_neg (by decide)).trans i4) ((if_neg (by decide)).trans i4)
      replace N4 : News G L' h4 [(I2, _), (I, _), (D, _)] := fun q hq => by
        rcases List.mem_cons.mp hq with rfl | hq
        · exact N4 _ (.head _)
        rcases List.mem_cons.mp hq with rfl | hq
        · exact N4 _ (.tail _ hit4)
        rw [List.mem_singleton.mp hq]
        exact N4 _ (.tail _ hin4)
      clear F4 hin4 hit4
      k_steps
      · have hb : Builtin.bitAnd ((0 + (p : Int)).fdiv (2 ^ (0 + (k : Int)).toNat)) 1 ≠ 0 := by assumption
        refine ⟨rfl, rfl, rfl, ⟨_, (if_pos rfl).trans (congrArg (fun z => some (Value.int z _)) (by rw [show (0 + (k : Int)).toNat = k by omega]; exact (bits_yes (Decidable.not_not.mp fun q => hb ((bit_cond hp hk).mpr q))).symm))⟩, .tail _ (.head _), .head _⟩
      · have hb : Builtin.bitAnd ((0 + (p : Int)).fdiv (2 ^ (0 + (k : Int)).toNat)) 1 = 0 := by assumption
        refine ⟨rfl, rfl, rfl, ⟨tb, (congrArg (fun z => some (Value.int z tb)) (bits_no ((bit_cond hp hk).mp hb)).symm)⟩, .tail _ (.head _), .head _⟩
    case fin2 =>
      rintro m4 nx4 h4 tk4 ⟨i1, i2, i3, ⟨tb, i4⟩, hin4, hit4⟩ F4 N4
      have F5 := chain6 (n1 := Str.ofString "bits") (n2 := Str.ofString "modes") (n3 := Str.ofString "shared") (n4 := Str.ofString "number") (n5 := Str.ofString "bits") (n6 := Str.ofString "bits") (v1 := some (.int (bitsOf ms p 4) tb)) (v2 := some (.ref ma)) (v3 := some (.ref D)) (v4 := some (.int (0 + (p : Int)) tp)) (v5 := some (.int (bitsOf ms p 4) tb)) (v6 := some (.int (bitsOf ms p 4) tb)) (show Fr G L' _ _ from F4) i4 i1 i2 i3 i4 i4
      replace N4 : News G L' h4 [(I, _), (D, _)] := fun q hq => by
        rcases List.mem_cons.mp hq with rfl | hq
        · exact N4 _ hit4
        rw [List.mem_singleton.mp hq]
        exact N4 _ hin4
      clear F4 hin4 hit4
      have zm : vs.size ≤ sizeLine := by
        have z1 := hs.sizeZ
        have z2 := sharedL_length ms p
        rw [sizeLine_eq, ← Array.length_toList]
        simp at z1
        rw [Array.length_toList]
        omega
      k_steps
      · have ha : (sharedL ms p).any (fun x => x == bitsOf ms p 4) = true := by assumption
        exact ⟨rfl, rfl, vs, c, .head _, by rw [shared_yes ha]; exact hs⟩
      · have ha : (sharedL ms p).any (fun x => x == bitsOf ms p 4) = false := by assumption
        exact ⟨rfl, rfl, _, _, .head _, by rw [shared_no ha]; exact intsAre_push hs⟩
  case fin =>
    rintro m3 nx h3 tk3 ⟨j1, j2, vs, c, hin, hs⟩ F' N'
    have F3 := chain2 (n1 := Str.ofString "modes") (n2 := Str.ofString "shared") (show Fr G L' _ _ from F') j1 j2
    replace N' : News G L' h3 [(D, PySem.W.listOf vs c)] := fun q hq => by
      rw [List.mem_singleton.mp hq]
      exact N' _ hin
    clear F' hin
    k_steps
    exact ⟨_, _, by assumption, by assumption, fun F₀ N₀ ne => hret _ _ _ _ _ F₀ N₀ (fun q hq e => ne _ (.head _) q hq e.symm) hs⟩
end Mine
end
section
open PySem PySem.W PyProof.Rows PySem.Calls
open PySem.SeqAt
set_option maxRecDepth 100000
set_option maxHeartbeats 4000000
namespace Mine
theorem eqvAll_strs : ∀ xs ys : List Str, PyData.eqvAll (xs.map PyData.str) (ys.map PyData.str) = decide (xs = ys)
  | [], [] => by simp [PyData.eqvAll]
  | [], _ :: _ => by simp [PyData.eqvAll]
  | _ :: _, [] => by simp [PyData.eqvAll]
  | x :: xs, y :: ys => by
    simp only [List.map_cons, PyData.eqvAll, PyData.eqv, eqvAll_strs xs ys]
    by_cases h : x = y <;> simp [h]
theorem eqv_strs (xs ys : List Str) : PyData.eqv (.list (xs.map .str)) (.list (ys.map .str)) = decide (xs = ys) := by
  simp only [PyData.eqv]
  exact eqvAll_strs xs ys
def Oks (xs : List Str) : Prop := ∀ x ∈ xs, PyData.strOk x = true
theorem canLay_strs : ∀ xs : List Str, Oks xs → PyData.canLayAll0 (xs.map PyData.str) = true
  | [], _ => by simp [PyData.canLayAll0]
  | x :: r, h => by simp [PyData.canLayAll0, PyData.canLay0, canLay_strs r (fun y hy => h y (List.mem_cons_of_mem _ hy)), h x (List.mem_cons_self ..)]
theorem depth_strs : ∀ xs : List Str, PyData.depthAll (xs.map PyData.str) ≤ 1
  | [] => by simp [PyData.depthAll]
  | x :: r => by
    have := depth_strs r
    simp only [List.map_cons, PyData.depthAll, PyData.depth]
    omega
theorem canLay_lists : ∀ ls : List (List Str), (∀ l ∈ ls, Oks l) → PyData.canLayAll0 (ls.map fun l => PyData.list (l.map PyData.str)) = true
  | [], _ => by simp [PyData.canLayAll0]
  | l :: r, h => by simp [PyData.canLayAll0, PyData.canLay0, canLay_lists r (fun y hy => h y (List.mem_cons_of_mem _ hy)), canLay_strs l (h l (List.mem_cons_self ..))]
def ListsV (h : Heap) (lv : List Value) (ls : List (List Str)) : Prop := lv.length = ls.length ∧ ∀ (i : Nat) (l : List Str), ls[i]? = some l → ∃ (a : Addr) (vs : List Value), lv[i]? = some (Value.ref a) ∧ h.IsList a vs.toArray ∧ StrsAre vs l
theorem reads_strs {h : Heap} {a : Addr} {vs : List Value} {xs : List Str} (hl : h.IsList a vs.toArray) (hs : StrsAre vs xs) : Reads h (.ref a) (.list (xs.map .str)) [a] := by
  obtain ⟨o, ho, hc, n, hd⟩ := hl
  exact Reads.list ho hc hd (by simpa using hs.reads h)
theorem reads_lists {h : Heap} : ∀ {lv : List Value} {ls : List (List Str)}, ListsV h lv ls → ∃ as, ReadsAll h lv (ls.map fun l => PyData.list (l.map PyData.str)) as
  | [], [], _ => ⟨_, .nil⟩
  | [], _ :: _, x => nomatch x.1
  | _ :: _, [], x => nomatch x.1
  | v :: lv, l :: ls, x => by
    obtain ⟨a, vs, e, hl, hs⟩ := x.2 0 l rfl
    have e' : v = .ref a := by simpa using e
    subst e'
    obtain ⟨as, ra⟩ := reads_lists (lv := lv) (ls := ls) ⟨by simpa using x.1, fun i l' hi => by
      obtain ⟨a', vs', e', r⟩ := x.2 (i + 1) l' (by simpa using hi)
      exact ⟨a', vs', by simpa using e', r⟩⟩
    exact ⟨_, .cons (reads_strs hl hs) ra⟩
section
variable {prog : Program} {w : World} {A : Around} {E : Value → Shared → Prop} {s : Shared}
theorem notin_lists {D k : Addr} {lv : List Value} {vs : List Value} {ls : List (List Str)} {xs : List Str} {Q : Value → Shared → Prop} (hD : s.heap.IsList D lv.toArray) (hl : ListsV s.heap lv ls) (hk : s.heap.IsList k vs.toArray) (hs : StrsAre vs xs) (ho : Oks xs) (hos : ∀ l ∈ ls, Oks l) (hu : A.units + 4 < cLine)
    (h : Q (.bool (!decide (xs ∈ ls))) s) : wpAny (model prog w) A (compareOp .NotIn (.ref k) (.ref D)) Q E s := by
  obtain ⟨as, ra⟩ := reads_lists hl
  obtain ⟨o, hoo, hc, n, hd⟩ := hD
  have rc : Reads s.heap (.ref D) (.list (ls.map fun l => PyData.list (l.map PyData.str))) (D :: as) := Reads.list hoo hc hd (by simpa using ra)
  have hdep : PyData.depth (.list (xs.map PyData.str)) ≤ 2 := by
    have := depth_strs xs
    simp only [PyData.depth]
    omega
  refine notIn_list_reads rc (reads_strs hk hs) (canLay_lists ls hos) (by simp only [PyData.canLay0]; exact canLay_strs xs ho) ?_ ?_
  · have := Nat.min_le_right (PyData.depthAll (ls.map fun l => PyData.list (l.map PyData.str))) (PyData.depth (.list (xs.map PyData.str)))
    omega
  · have e : ((ls.map fun l => PyData.list (l.map PyData.str)).any fun y => PyData.eqv y (.list (xs.map .str))) = decide (xs ∈ ls) := by
      rw [List.any_map, Bool.eq_iff_iff, List.any_eq_true, decide_eq_true_iff]
      constructor
      · rintro ⟨l, hl, e⟩
        have e' : PyData.eqv (.list (l.map .str)) (.list (xs.map .str)) = true := e
        rw [eqv_strs, decide_eq_true_iff] at e'
        exact e' ▸ hl
      · intro hx
        exact ⟨xs, hx, by show PyData.eqv (.list (xs.map .str)) (.list (xs.map .str)) = true; rw [eqv_strs]; simp⟩
    rw [e]
    exact h
end
end Mine
end
section
open PySem PySem.W PyProof.Rows PySem.Calls
set_option maxRecDepth 100000
set_option maxHeartbeats 4000000
namespace Mine
def FlowSt (St : Shared → Prop) (Q : Flow → Shared → Prop) (f : Flow) (s : Shared) : Prop :=
  match f with
  | .next => St s
  | .cont => St s
  | .brk => Q .next s
  | .ret v => Q (.ret v) s
structure ForSt (prog : Program) (w : World) (A : Around) (E : Value → Shared → Prop) (env : Env) (x : Str) (px : Pos) (body : List Stmt) (Q : Flow → Shared → Prop) (I ax : Addr) (items : Array Value) (St : Nat → Shared → Prop) : Prop where
  here : ∀ i s, St i s → s.heap.IsListIter I ax i ∧ s.heap.IsList ax items
  turn : ∀ i s v, St i s → items[i]? = some v → ∀ h₂, h₂.IsListIter I ax (i + 1) → Heap.SameBut I s.heap h₂ → wpAny (model prog w) A (assign (.Name x px) env v) (fun _ s₂ => wpAny (model prog w) A (execs body env) (FlowSt (St (i + 1)) Q) E s₂) E { s with heap := h₂ }
  done : ∀ s, St items.size s → ∀ h₂, Heap.ExtBut I s.heap h₂ → Q .next { s with heap := h₂ }
def ForAt (prog : Program) (w : World) (A : Around) (E : Value → Shared → Prop) (env : Env) (x : Str) (px : Pos) (body : List Stmt) (Q : Flow → Shared → Prop) (it : Value) (s : Shared) : Prop :=
  ∃ I ax items St, it = .ref I ∧ ForSt prog w A E env x px body Q I ax items St ∧ St 0 s
section
variable {prog : Program} {w : World} {A : Around} {E : Value → Shared → Prop} {s : Shared} {env : Env}
theorem for_list {x : Str} {px : Pos} {iter : Expr} {body : List Stmt} {pos : Pos} {Q : Flow → Shared → Prop} (hh : A.handled = none)
    (h : wpAny (model prog w) A (eval iter env) (fun xv s₁ => wpAny (model prog w) A (pyIter xv) (fun it s₂ => ForAt prog w A E env x px body Q it s₂) E s₁) E s)
    (hs : ∀ x, foldedSetIterable iter env x = pure x := by intro _; rfl)
    (hE : PassesOwn (model prog w) A env E := by passes_own) :
    wpAny (model prog w) A (exec (.For (.Name x px) iter body [] pos) env) Q E s := by
  refine wpAny_For (wpAny_mono h (fun xv s₁ h₁ => wpAny_mono h₁ (fun it s₂ h₂ => ?_) fun _ _ e => e) fun _ _ e => e) hs
  obtain ⟨I, ax, items, St, rfl, F, st0⟩ := h₂
  refine codeAny_forLoop_any (fun k s' => ∃ i, St i s' ∧ i ≤ items.size ∧ k = items.size - i) ?_ items.size ⟨0, st0, Nat.zero_le _, rfl⟩
  rintro k s' ⟨i, st, hi, rfl⟩
  obtain ⟨hit, hl⟩ := F.here i s' st
  by_cases hlt : i < items.size
  · refine wpAny_pyNext_list_item hit hl (x := items[i]) (by simp [hlt]) fun h₂ hit₂ hk₂ => ?_
    refine letGo_listiter hit₂ ?_
    refine wpAny_mono (F.turn i s' items[i] st (by simp [hlt]) h₂ hit₂ hk₂) (fun _ s₃ h₃ => wpAny_mono h₃ (fun f s₄ h₄ => ?_) fun _ _ e => hE _ _ e) fun _ _ e => hE _ _ e
    cases f with
    | ret v => exact h₄
    | brk => exact h₄
    | next => exact ⟨items.size - (i + 1), by omega, i + 1, h₄, hlt, rfl⟩
    | cont => exact ⟨items.size - (i + 1), by omega, i + 1, h₄, hlt, rfl⟩
  · have hin : i = items.size := by omega
    subst hin
    refine wpAny_pyNext_list_end hh hit hl (by simp) fun h₂ hk₂ => ?_
    exact wpAny_execs_nil (F.done s' st h₂ hk₂)
end
/-- The cuts, as _law_cuts gathers them. -/
def cutStep (names : List Str) (cs : List (List Str)) (cut : List Str) : List (List Str) := if lacks cut names ∈ cs then cs else cs ++ [lacks cut names]
def cutTurn (names : List Str) (cs : List (List Str)) : List (List Str) := cs.foldl (cutStep names) cs
def abcd : List Str := [⟨#[97]⟩, ⟨#[98]⟩, ⟨#[99]⟩, ⟨#[100]⟩]
def cutsOf (ls : List (List Str)) : List (List Str) := ls.foldl (fun cs names => cutTurn names cs) [abcd]
theorem cutStep_len (names : List Str) (cs : List (List Str)) (c : List Str) : (cutStep names cs c).length ≤ cs.length + 1 := by
  unfold cutStep
  split
  · omega
  · rw [List.length_append, List.length_singleton]; omega
theorem cutFold_len (names : List Str) : ∀ (l cs : List (List Str)), (l.foldl (cutStep names) cs).length ≤ cs.length + l.length
  | [], cs => by simp
  | c :: l, cs => by
    have h1 := cutFold_len names l (cutStep names cs c)
    have h2 := cutStep_len names cs c
    simp only [List.foldl_cons, List.length_cons]
    omega
def upTo (ls : List (List Str)) (i : Nat) : List (List Str) := (ls.take i).foldl (fun cs names => cutTurn names cs) [abcd]
theorem upTo_succ {ls : List (List Str)} {i : Nat} (hi : i < ls.length) : upTo ls (i + 1) = cutTurn ls[i] (upTo ls i) := by
  unfold upTo
  rw [List.take_add_one, List.getElem?_eq_getElem hi, List.foldl_append]
  rfl
theorem upTo_len (ls : List (List Str)) : ∀ i, i ≤ ls.length → (upTo ls i).length ≤ 2 ^ i
  | 0, _ => by simp [upTo]
  | i + 1, h => by
    rw [upTo_succ (show i < ls.length by omega)]
    have h1 := upTo_len ls i (by omega)
    have h2 := cutFold_len ls[i] (upTo ls i) (upTo ls i)
    unfold cutTurn
    rw [Nat.pow_succ]
    omega
theorem upTo_all (ls : List (List Str)) : upTo ls ls.length = cutsOf ls := by
  unfold upTo cutsOf
  rw [List.take_of_length_le (Nat.le_refl _)]
def Sub4 (cs : List (List Str)) : Prop := ∀ x ∈ cs, x.Sublist abcd
theorem cutStep_sub {names : List Str} {cs : List (List Str)} {c : List Str} (h : Sub4 cs) (hc : c.Sublist abcd) : Sub4 (cutStep names cs c) := by
  unfold cutStep
  split
  · exact h
  · intro x hx
    rcases List.mem_append.mp hx with hx | hx
    · exact h x hx
    · rw [List.mem_singleton.mp hx]
      exact List.Sublist.trans List.filter_sublist hc
theorem cutFold_sub {names : List Str} : ∀ {l cs : List (List Str)}, Sub4 cs → Sub4 l → Sub4 (l.foldl (cutStep names) cs)
  | [], _, h, _ => h
  | c :: l, cs, h, hl => cutFold_sub (l := l) (cutStep_sub h (hl c (List.mem_cons_self ..))) fun x hx => hl x (List.mem_cons_of_mem _ hx)
theorem upTo_sub (ls : List (List Str)) : ∀ i, i ≤ ls.length → Sub4 (upTo ls i)
  | 0, _ => fun x hx => by
    have : x = abcd := by simpa [upTo] using hx
    rw [this]; exact List.Sublist.refl _
  | i + 1, h => by
    rw [upTo_succ (show i < ls.length by omega)]
    exact cutFold_sub (upTo_sub ls i (by omega)) (upTo_sub ls i (by omega))
theorem sub4_rising {x : List Str} (h : x.Sublist abcd) : Rising x := List.Pairwise.sublist h (by decide)
theorem sub4_len {x : List Str} (h : x.Sublist abcd) : x.length ≤ 4 := h.length_le
theorem sub4_oks {x : List Str} (h : x.Sublist abcd) : Oks x := fun y hy => by
  have hy' := h.subset hy
  have : ∀ y ∈ abcd, PyData.strOk y = true := by decide +kernel
  exact this y hy'
/-- The kept lists lie in the ledger's tail. -/
def KeptIn (extra : List (Addr × Obj)) (lv : List Value) (cs : List (List Str)) : Prop := lv.length = cs.length ∧ ∀ (i : Nat) (l : List Str), cs[i]? = some l → ∃ (a : Addr) (us : Array Value) (c : Nat), lv[i]? = some (Value.ref a) ∧ (a, PySem.W.listOf us c) ∈ extra ∧ StrsAre us.toList l
theorem KeptIn.more {extra : List (Addr × Obj)} {lv : List Value} {cs : List (List Str)} (h : KeptIn extra lv cs) (p : Addr × Obj) : KeptIn (p :: extra) lv cs :=
  ⟨h.1, fun i l hi => let ⟨a, us, c, e, m, s⟩ := h.2 i l hi; ⟨a, us, c, e, List.mem_cons_of_mem _ m, s⟩⟩
theorem KeptIn.push {extra : List (Addr × Obj)} {lv : Array Value} {cs : List (List Str)} (h : KeptIn extra lv.toList cs) {a : Addr} {us : Array Value} {c : Nat} {l : List Str} (hm : (a, PySem.W.listOf us c) ∈ extra) (hs : StrsAre us.toList l) : KeptIn extra (lv.push (.ref a)).toList (cs ++ [l]) := by
  rw [Array.toList_push]
  have hl := h.1
  refine ⟨by rw [List.length_append, List.length_append, hl]; rfl, fun i x hx => ?_⟩
  by_cases hi : i < cs.length
  · rw [List.getElem?_append_left hi] at hx
    obtain ⟨a', us', c', e, m, s⟩ := h.2 i x hx
    exact ⟨a', us', c', by rw [List.getElem?_append_left (by omega)]; exact e, m, s⟩
  · rw [List.getElem?_append_right (by omega)] at hx
    have h0 : i - cs.length = 0 := by
      cases q : i - cs.length with
      | zero => rfl
      | succ n => rw [q] at hx; simp at hx
    rw [h0] at hx
    have hx' : l = x := by simpa using hx
    subst hx'
    exact ⟨a, us, c, by rw [List.getElem?_append_right (by omega), hl, h0]; rfl, hm, hs⟩
theorem isListM {h₀ h : Heap} {L a : Addr} {us : Array Value} {c : Nat} {news : List (Addr × Obj)} (N : News h₀ L h news) (hm : (a, PySem.W.listOf us c) ∈ news) : h.IsList a us.toList.toArray := ⟨_, N.get hm, rfl, c, by simp⟩
theorem KeptIn.lists {h₀ h : Heap} {L : Addr} {extra news : List (Addr × Obj)} {lv : List Value} {cs : List (List Str)} (k : KeptIn extra lv cs) (N : News h₀ L h news) (sub : ∀ p ∈ extra, p ∈ news) : ListsV h lv cs :=
  ⟨k.1, fun i l hi => let ⟨a, us, _, e, m, s⟩ := k.2 i l hi; ⟨a, us.toList, e, isListM N (sub _ m), s⟩⟩
/-- The state of the loops of _law_cuts: the callers' heap turned, the frame, the ledger. -/
structure CS (base G : Heap) (lE : List Env) (L' D la : Addr) (cs : List (List Str)) (own : List (Addr × Obj)) (G' h : Heap) (m : Str → Option Value) (vs : Array Value) (c : Nat) (extra : List (Addr × Obj)) : Prop where
  turn : KtsTurn (fsOf lE) G G'
  stays : base.StaysIn G'
  ff : G'.FunFrames base lE
  fr : Fr G' L' h m
  ns : News G' L' h (own ++ (D, PySem.W.listOf vs c) :: extra)
  offX : ∀ p ∈ extra, p.1 ≠ D ∧ ∀ q ∈ own, p.1 ≠ q.1
  offD : ∀ q ∈ own, q.1 ≠ D
  kept : KeptIn extra vs.toList cs
  nl : m (Str.ofString "lacking") = some (.ref la)
  nc : m (Str.ofString "cuts") = some (.ref D)
theorem CS.iter {base G : Heap} {lE : List Env} {L' D la J : Addr} {cs : List (List Str)} {own : List (Addr × Obj)} {G' h h₂ : Heap} {m : Str → Option Value} {vs : Array Value} {c : Nat} {extra : List (Addr × Obj)} {oJ oJ' : Obj}
    (C : CS base G lE L' D la cs ((J, oJ) :: own) G' h m vs c extra) (hn : ∀ q ∈ own, q.1 ≠ J) (hk : Heap.ExtBut J h h₂) (hJ : h₂.get? J = some oJ') : CS base G lE L' D la cs ((J, oJ') :: own) G' h₂ m vs c extra := by
  have NJ := C.ns (J, oJ) (.head _)
  have hL : L' ≠ J := Ne.symm NJ.2.1
  refine ⟨C.turn, C.stays, C.ff, ⟨C.fr.ns.at' fun o e => hk _ _ hL e, fun b o e => hk _ _ (fun q => ?_) (C.fr.keep b o e), C.fr.above⟩, fun p hp => ?_, fun p hp => ⟨(C.offX p hp).1, fun q hq => ?_⟩, fun q hq => ?_, C.kept, C.nl, C.nc⟩
  · have := NJ.2.2
    rw [← q, e] at this
    exact nomatch this
  · rcases List.mem_cons.mp hp with rfl | hp
    · exact ⟨hJ, NJ.2⟩
    · have z := C.ns p (.tail _ hp)
      refine ⟨hk _ _ ?_ z.1, z.2⟩
      rcases List.mem_append.mp hp with hp | hp
      · exact hn p hp
      · rcases List.mem_cons.mp hp with rfl | hp
        · exact Ne.symm (C.offD (J, oJ) (.head _))
        · exact (C.offX p hp).2 (J, oJ) (.head _)
  · rcases List.mem_cons.mp hq with rfl | hq
    · exact (C.offX p hp).2 (J, oJ) (.head _)
    · exact (C.offX p hp).2 q (.tail _ hq)
  · rcases List.mem_cons.mp hq with rfl | hq
    · exact C.offD (J, oJ) (.head _)
    · exact C.offD q (.tail _ hq)
/-- A list iterator's object. -/
def IterObj (o : Obj) (ax : Addr) (i : Nat) : Prop := o.cls = .type "list_iterator" ∧ o.data = .fields #[.ref ax, .int i 0]
theorem iterObj_of {h : Heap} {I ax : Addr} {i : Nat} (x : h.IsListIter I ax i) : ∃ o, h.get? I = some o ∧ IterObj o ax i := let ⟨o, e, a, b⟩ := x; ⟨o, e, a, b⟩
theorem IterObj.here {h : Heap} {I ax : Addr} {o : Obj} {i : Nat} (x : IterObj o ax i) (e : h.get? I = some o) : h.IsListIter I ax i := ⟨o, e, x.1, x.2⟩
def OutSt (base G : Heap) (lE : List Env) (L' D la I : Addr) (ls : List (List Str)) (s : Shared) (i : Nat) (s' : Shared) : Prop :=
  ∃ G' h tk m vs c extra oI, s' = { s with heap := h, toks := tk } ∧ IterObj oI la i ∧ i ≤ ls.length ∧ CS base G lE L' D la (upTo ls i) [(I, oI)] G' h m vs c extra
def InSt (base G : Heap) (lE : List Env) (L' D la I Cp J na : Addr) (oI : Obj) (vcp : Array Value) (cc : Nat) (cs0 : List (List Str)) (names : List Str) (s : Shared) (j : Nat) (s' : Shared) : Prop :=
  ∃ G' h tk m vs c extra oJ, s' = { s with heap := h, toks := tk } ∧ IterObj oJ Cp j ∧ m (Str.ofString "names") = some (.ref na) ∧ KeptIn extra vcp.toList cs0 ∧
    CS base G lE L' D la ((cs0.take j).foldl (cutStep names) cs0) [(J, oJ), (Cp, PySem.W.listOf vcp cc), (I, oI)] G' h m vs c extra
theorem cutFold_succ {names : List Str} {cs0 : List (List Str)} {j : Nat} (hj : j < cs0.length) : (cs0.take (j + 1)).foldl (cutStep names) cs0 = cutStep names ((cs0.take j).foldl (cutStep names) cs0) cs0[j] := by
  rw [List.take_add_one, List.getElem?_eq_getElem hj, List.foldl_append]
  rfl
theorem cutStep_mem {names : List Str} {cs : List (List Str)} {c : List Str} (h : lacks c names ∈ cs) : cutStep names cs c = cs := if_pos h
theorem cutStep_new {names : List Str} {cs : List (List Str)} {c : List Str} (h : ¬ lacks c names ∈ cs) : cutStep names cs c = cs ++ [lacks c names] := if_neg h
theorem allLt_mem {d : Addr} : ∀ {l : List (Addr × Obj)}, AllLt d l → ∀ p ∈ l, p.1 ≠ d
  | [], _, _, hp => nomatch hp
  | _ :: _, h, _, hp => by
    rcases List.mem_cons.mp hp with rfl | hp
    · exact Nat.ne_of_lt h.1
    · exact allLt_mem h.2 _ hp
end Mine
end
section
open PySem PySem.W PyProof.Rows PySem.Calls
set_option maxRecDepth 100000
set_option maxHeartbeats 8000000
namespace Mine
local macro_rules | `(tactic| walk_at "exec For Name Name cons nil") => `(tactic| (k_here; (with_unfolding_all refine' for_list ?hh ?_; (case hh => with_unfolding_all rfl); k_whole)))
local macro_rules | `(tactic| walk_at "exec For Name Call cons nil") => `(tactic| (k_here; (with_unfolding_all refine' for_list ?hh ?_; (case hh => with_unfolding_all rfl); k_whole)))
local macro_rules | `(tactic| walk_at "pyIter ref") => `(tactic| (refine hold ?_))
local macro_rules | `(tactic| walk_at "call ref") => `(tactic| (refine hold ?_))
local macro_rules | `(tactic| walk_at "compareOp NotIn ref ref") => `(tactic| (refine hold ?_))
local macro_rules | `(tactic| walk_at "call builtin:list.append") => `(tactic| (k_here; refine' append_K ?k1 ?k2 ?k3 ?_ ?z; (case k1 => k_asm); (case k2 => k_asm); (case k3 => assumption); (case z => first | assumption | size_fits); intro h9 F9 N9))
local macro_rules | `(tactic| walk_at "call type:list") => `(tactic| (k_here; (refine' list_copyK ?k1 ?k2 ?k3 ?_ ?z; (case k1 => k_asm); (case k2 => k_asm); (case k3 => exact ⟨_, News.get (by k_asm) (by k_mem), rfl, _, rfl⟩); (case z => assumption)); intro D9 c9 h9 F9 N9 l9))
theorem cuts_spec (w : World) (mean : ExcName → Option Value) (mg mb : Str → Option Value) (dp un : Nat) (gd : Option (List Code)) (envC : Env) (l : List Env) (base h₀ : Heap) (L : Addr) (m : Str → Option Value) (s : Shared) (Q E : Value → Shared → Prop) (news : List (Addr × Obj))
   (la : Addr) (lv : List Value) (ls : List (List Str))
   (B0 : base.StaysIn h₀) (BF : h₀.FunFrames base l) (hfC : envC.frame = some L) (hkC : envC.scope.kind ≠ .module)
   (F : Fr h₀ L s.heap m) (N : News h₀ L s.heap news) (X : (hd.heap_39 w.params).In base) (T : Top hd.view_39 lo mean mg mb base)
   (hroom : dp + 2 < recursionLimit) (hun : un + 16 < cLine) (hl : s.heap.IsList la lv.toArray) (hlv : ListsV s.heap lv ls) (hls : ls.length ≤ 6) (hr : ∀ x ∈ ls, Rising x ∧ x.length < 1000)
   (hret : ∀ h₀' h' tk D vs c extra, KtsTurn (fsOf l) h₀ h₀' → base.StaysIn h₀' → h₀'.FunFrames base l → Fr h₀' L h' m → News h₀' L h' ((D, PySem.W.listOf vs c) :: extra ++ news) → (∀ q ∈ news, q.1 ≠ D) → KeptIn extra vs.toList (cutsOf ls) → (∀ p ∈ extra, p.1 ≠ D ∧ ∀ q ∈ news, p.1 ≠ q.1) → Q (.ref D) { s with heap := h', toks := tk }) : wpAny (model PySem.Challenge.rw_un0005_01.row.prog w) { handled := none, depth := dp, frames := some (envC :: l), guards := gd, units := un } (call (.ref 109) [.ref la]) Q E s := by
  have hroom0 : dp < recursionLimit := by omega
  w_top off
  revert X; k_fill; intro X
  k_dflt (refine' enter B0 BF hfC hkC F N X T.nolimit ?k6 ?k7 ?k8 ?k9 ?kB ?_ ?c2 ?c3 ?c4 ?c5; (case k6 => k_is); (case k7 => k_is); (case k8 => exact hroom0); (case k9 => first | exact binds_K (by k_in) rfl (by k_is) rfl rfl rfl | exact BindsTo.of_eq rfl); (case kB => exact locs rfl); (case c2 => exact rfl); (case c3 => exact rfl); (case c4 => exact rfl); (case c5 => decide); k_whole)
  intro h₁ B1 BF1 F1
  have X1 := X.keeps B1
  have T1 := T.keeps B1
  have N1 : News s.heap s.heap.objs.size h₁ [] := News.nil
  generalize hG : s.heap = G at *
  generalize hL' : G.objs.size = L' at *
  k_steps
  rename_i a0 _ _ D _ lD h2 F2 N2
  refine wpAny_pyIter_list (isList_up F2 hl) ?_
  obtain ⟨us0, k0, N20, hs0⟩ : ∃ us k, News G L' h2 [(D, PySem.W.listOf #[.ref a0] 0), (a0, PySem.W.listOf us k)] ∧ StrsAre us.toList abcd := ⟨_, _, N2, .cons _ _ (.cons _ _ (.cons _ _ (.cons _ _ .nil)))⟩
  clear N2
  have N2 := N20
  have all2 : ∀ p ∈ ([(D, PySem.W.listOf #[.ref a0] 0), (a0, PySem.W.listOf us0 k0)] : List (Addr × Obj)), p.1 ≠ h2.objs.size := fun p hp => Nat.ne_of_lt (Heap.lt_size (N2 p hp).1)
  have newI : G.get? h2.objs.size = none := ktu_new F2 (Nat.le_refl _)
  have nLI : h2.objs.size ≠ L' := Nat.ne_of_gt F2.ns.lt
  have getI : (h2.push { cls := .type "list_iterator", data := .fields #[.ref la, .int 0 0] }).get? h2.objs.size = some { cls := .type "list_iterator", data := .fields #[.ref la, .int 0 0] } := Heap.get?_push_size _ rfl
  generalize hI : h2.objs.size = I at *
  refine ⟨I, la, lv.toArray, OutSt base G (envC :: l) L' D la I ls { s with heap := h2, toks := tk }, by rw [← hI], ⟨?here, ?turn, ?done⟩, ?start⟩
  case here =>
    rintro i s' ⟨G', h, tk', m', vs, c, extra, oI, rfl, iI, hi, C⟩
    exact ⟨iI.here (C.ns.get (.head _)), isList_up C.fr (isList_turn C.turn hl)⟩
  case start =>
    refine ⟨G, _, _, _, #[.ref a0], 0, [(a0, PySem.W.listOf us0 k0)], { cls := .type "list_iterator", data := .fields #[.ref la, .int 0 0] }, rfl, ⟨rfl, rfl⟩, Nat.zero_le _, KtsTurn.refl, B1, BF1, F2.push _, fun p hp => ?_, fun p hp => ?_, fun q hq => ?_, ?_, rfl, rfl⟩
    · rcases List.mem_cons.mp hp with rfl | hp
      · exact ⟨getI, nLI, newI⟩
      · exact ⟨Heap.get?_push_of_some _ (N2 p hp).1, (N2 p hp).2⟩
    · rw [List.mem_singleton.mp hp]
      refine ⟨Nat.ne_of_lt lD, fun q hq => ?_⟩
      rw [List.mem_singleton.mp hq]
      exact all2 _ (.tail _ (.head _))
    · rw [List.mem_singleton.mp hq]
      exact Ne.symm (all2 _ (.head _))
    · refine ⟨rfl, fun i x hx => ?_⟩
      match i, hx with
      | 0, hx =>
        obtain rfl := Option.some.inj hx
        exact ⟨a0, us0, k0, rfl, .head _, hs0⟩
  case done =>
    rintro s' ⟨G', h, tk', m', vs, c, extra, oI, rfl, iI, hi, C⟩ h₂ hk
    have hk6 : ∀ b o, b ≠ I → h.get? b = some o → h₂.get? b = some o := fun b o hb e => hk b o hb e
    have NI := C.ns (I, oI) (.head _)
    have F6 : Fr G' L' h₂ m' := ⟨C.fr.ns.at' fun o e => hk6 _ _ (Ne.symm NI.2.1) e, fun b o e => hk6 _ _ (fun q => by have := NI.2.2; rw [← q, e] at this; exact nomatch this) (C.fr.keep b o e), C.fr.above⟩
    have F7 := chain2 F6 C.nl C.nc
    have cs6 := C.kept
    rw [show lv.toArray.size = ls.length by rw [List.size_toArray]; exact hlv.1, upTo_all] at cs6
    k_steps
    have hfs : fsOf (envC :: l) = L :: fsOf l := by show List.filterMap _ (envC :: l) = _; rw [List.filterMap_cons, hfC]
    refine ⟨G', _, (D, PySem.W.listOf vs c) :: extra, hfs ▸ C.turn, by assumption, fun p hp => ?_, fun h₀' T₀ S₀ BF₀ F₀ N₀ ne => ?_⟩
    · have z := C.ns p (.tail _ hp)
      refine ⟨hk6 _ _ ?_ z.1, z.2⟩
      rcases List.mem_cons.mp hp with rfl | hp
      · exact Ne.symm (C.offD (I, oI) (.head _))
      · exact (C.offX p hp).2 (I, oI) (.head _)
    · exact hret h₀' _ _ D vs c extra T₀ S₀ BF₀ F₀ N₀ (fun q hq e => ne _ (.head _) q hq e.symm) cs6 fun p hp => ⟨(C.offX p hp).1, fun q hq => ne p (.tail _ hp) q hq⟩
  case turn =>
    rintro i s' v ⟨G', h, tk', m', vs, c, extra, oI, rfl, iI, hi, C⟩ hv h₂ hit hk
    obtain ⟨oI', gI, iI'⟩ := iterObj_of hit
    have C2 := C.iter (fun q hq => nomatch hq) hk.extBut gI
    have hil : i < ls.length := by
      rw [← hlv.1]
      have := (Array.getElem?_eq_some_iff.mp hv).1
      simpa using this
    obtain ⟨na, vn, e1, hna, hns⟩ := hlv.2 i ls[i] (List.getElem?_eq_getElem hil)
    obtain rfl : v = .ref na := by
      have : lv.toArray[i]? = some (Value.ref na) := by simpa using e1
      exact Option.some.inj (hv.symm.trans this)
    have F5 := chain2 C2.fr C2.nl C2.nc
    have N5 := C2.ns
    simp only [List.cons_append, List.nil_append] at N5
    have X2 := X.keeps C2.stays
    have T2 := T.keeps C2.stays
    have zc : vs.size ≤ sizeLine := by
      have z1 := C2.kept.1
      have z2 := upTo_len ls i hi
      have z3 : 2 ^ i ≤ 2 ^ 6 := Nat.pow_le_pow_right (by decide) (by omega)
      rw [Array.length_toList] at z1
      rw [sizeLine_eq]
      omega
    k_steps
    rename_i h3 _ _ Cp cc h4 F4 N4 lCp
    refine wpAny_pyIter_list (items := vs) ⟨_, N4.get (.head _), rfl, cc, rfl⟩ ?_
    have all4 : ∀ p ∈ ((Cp, PySem.W.listOf vs cc) :: (I, oI') :: (D, PySem.W.listOf vs c) :: extra : List (Addr × Obj)), p.1 ≠ h4.objs.size := fun p hp => Nat.ne_of_lt (Heap.lt_size (N4 p hp).1)
    have newJ : G'.get? h4.objs.size = none := ktu_new F4 (Nat.le_refl _)
    have nLJ : h4.objs.size ≠ L' := Nat.ne_of_gt F4.ns.lt
    have getJ : (h4.push { cls := .type "list_iterator", data := .fields #[.ref Cp, .int 0 0] }).get? h4.objs.size = some { cls := .type "list_iterator", data := .fields #[.ref Cp, .int 0 0] } := Heap.get?_push_size _ rfl
    generalize hJ : h4.objs.size = J at *
    refine ⟨J, Cp, vs, InSt base G (envC :: l) L' D la I Cp J na oI' vs cc (upTo ls i) ls[i] { s with heap := h4, toks := tk }, by rw [← hJ], ⟨?here2, ?turn2, ?done2⟩, ?start2⟩
    case here2 =>
      rintro j s' ⟨G5, h, tk5, m5, vs5, c5, extra5, oJ, rfl, iJ, hn, hkp, C⟩
      exact ⟨iJ.here (C.ns.get (.head _)), ⟨_, C.ns.get (.tail _ (.head _)), rfl, cc, rfl⟩⟩
    case start2 =>
      refine ⟨G', _, _, _, vs, c, extra, { cls := .type "list_iterator", data := .fields #[.ref Cp, .int 0 0] }, rfl, ⟨rfl, rfl⟩, rfl, C2.kept, C2.turn, C2.stays, C2.ff, F4.push _, fun p hp => ?_, fun p hp => ⟨(C2.offX p hp).1, fun q hq => ?_⟩, fun q hq => ?_, C2.kept, rfl, rfl⟩
      · rcases List.mem_cons.mp hp with rfl | hp
        · exact ⟨getJ, nLJ, newJ⟩
        · exact ⟨Heap.get?_push_of_some _ (N4 p hp).1, (N4 p hp).2⟩
      · rcases List.mem_cons.mp hq with rfl | hq
        · exact all4 p (.tail _ (.tail _ (.tail _ hp)))
        rcases List.mem_cons.mp hq with rfl | hq
        · exact allLt_mem lCp.2.2 p hp
        · exact (C2.offX p hp).2 q hq
      · rcases List.mem_cons.mp hq with rfl | hq
        · exact Ne.symm (all4 (D, _) (.tail _ (.tail _ (.head _))))
        rcases List.mem_cons.mp hq with rfl | hq
        · exact Nat.ne_of_gt lCp.2.1
        · exact C2.offD q hq
    case done2 =>
      rintro s' ⟨G5, h, tk5, m5, vs5, c5, extra5, oJ, rfl, iJ, hn, hkp, C⟩ h5 hk5
      have hk6 : ∀ b o, b ≠ J → h.get? b = some o → h5.get? b = some o := fun b o hb e => hk5 b o hb e
      have NJ := C.ns (J, oJ) (.head _)
      have F6 : Fr G5 L' h5 m5 := ⟨C.fr.ns.at' fun o e => hk6 _ _ (Ne.symm NJ.2.1) e, fun b o e => hk6 _ _ (fun q => by have := NJ.2.2; rw [← q, e] at this; exact nomatch this) (C.fr.keep b o e), C.fr.above⟩
      have cs6 := C.kept
      rw [List.take_of_length_le (show (upTo ls i).length ≤ vs.size by have z1 := C2.kept.1; rw [Array.length_toList] at z1; omega)] at cs6
      k_steps
      refine ⟨G5, h5, tk5, m5, vs5, c5, extra5, oI', rfl, iI', hil, C.turn, C.stays, C.ff, F6, fun p hp => ?_, fun p hp => ⟨(C.offX p hp).1, fun q hq => (C.offX p hp).2 q (.tail _ (.tail _ hq))⟩, fun q hq => C.offD q (.tail _ (.tail _ hq)), by rw [upTo_succ hil]; exact cs6, C.nl, C.nc⟩
      have z := C.ns p (.tail _ (.tail _ hp))
      refine ⟨hk6 _ _ ?_ z.1, z.2⟩
      rcases List.mem_cons.mp hp with rfl | hp
      · exact all4 _ (.tail _ (.head _))
      rcases List.mem_cons.mp hp with rfl | hp
      · exact Ne.symm (C.offD (J, oJ) (.head _))
      · exact (C.offX p hp).2 (J, oJ) (.head _)
    case turn2 =>
      rintro j s' v ⟨G5, h5, tk5, m5, vs5, c5, extra5, oJ, rfl, iJ, hn, hkp, C⟩ hv5 h6 hit6 hk6
      obtain ⟨oJ', gJ, iJ'⟩ := iterObj_of hit6
      have C6 := C.iter (fun q hq => by
        rcases List.mem_cons.mp hq with rfl | hq
        · exact all4 _ (.head _)
        · rw [List.mem_singleton.mp hq]; exact all4 _ (.tail _ (.head _))) hk6.extBut gJ
      have hjl : j < (upTo ls i).length := by
        have z1 := C2.kept.1
        rw [Array.length_toList] at z1
        rw [← z1]
        exact (Array.getElem?_eq_some_iff.mp hv5).1
      obtain ⟨ka, us, ku, e5, hmem, hus⟩ := hkp.2 j (upTo ls i)[j] (List.getElem?_eq_getElem hjl)
      obtain rfl : v = .ref ka := by
        have : vs[j]? = some (Value.ref ka) := by simpa using e5
        exact Option.some.inj (hv5.symm.trans this)
      have F7 := chain3 C6.fr C6.nl C6.nc hn
      have N7 := C6.ns
      simp only [List.cons_append, List.nil_append] at N7
      have X7 := X.keeps C6.stays
      have T7 := T.keeps C6.stays
      have sub6 : (upTo ls i)[j].Sublist abcd := upTo_sub ls i hi _ (List.getElem_mem hjl)
      have rls := hr _ (List.getElem_mem hil)
      k_steps
      rename_i h7 F8 N8
      with_unfolding_all refine' sld_spec _ _ _ _ _ _ _ _ _ _ _ _ _ _ _ _ _ _ _ _ _ _ _ C6.stays C6.ff rfl (fun q => nomatch q) F8 N8 X T (isListM N8 (.tail _ (.tail _ (.tail _ (.tail _ hmem))))) hus (isList_up F8 (isList_turn C6.turn hna)) hns (sub4_rising sub6) rls.1 ?l1 rls.2 ?l2 ?l3 ?_
      case l1 =>
        have := sub4_len sub6
        omega
      case l2 =>
        show dp + 1 + 1 < recursionLimit
        omega
      case l3 =>
        show un + 3 + 8 < cLine
        omega
      intro G8 h8 tk8 tup ms un' vm vu cm cu T8 S8 BF8 F9 N9 lt8 lt9 ne8 hkeep hoth
      have X8 := X.keeps S8
      have T9 := T.keeps S8
      clear F8 N8 X7 T7
      k_steps
      rename_i _ _ h10 F10 N10
      have subx : ∀ p ∈ extra5, p ∈ ((tup, { cls := .type "tuple", data := .seq [Value.ref ms, Value.ref un'].toArray }) :: (un', PySem.W.listOf vu cu) :: (ms, PySem.W.listOf vm cm) :: (J, oJ') :: (Cp, PySem.W.listOf vs cc) :: (I, oI') :: (D, PySem.W.listOf vs5 c5) :: extra5 : List (Addr × Obj)) := fun p hp => .tail _ (.tail _ (.tail _ (.tail _ (.tail _ (.tail _ (.tail _ hp))))))
      have subc : Sub4 (List.foldl (cutStep ls[i]) (upTo ls i) (List.take j (upTo ls i))) := cutFold_sub (upTo_sub ls i hi) fun x hx => upTo_sub ls i hi x (List.mem_of_mem_take hx)
      refine notin_lists (isListM N10 (.tail _ (.tail _ (.tail _ (.tail _ (.tail _ (.tail _ (.head _)))))))) (C6.kept.lists N10 subx) (isListM N10 (.tail _ (.tail _ (.head _)))) hkeep (sub4_oks (List.Sublist.trans List.filter_sublist sub6)) (fun l hl => sub4_oks (subc l hl)) ?hu ?_
      case hu =>
        show un + 3 + 4 < cLine
        omega
      have offm : ∀ p ∈ extra5, p.1 ≠ D := fun p hp => (C6.offX p hp).1
      have updD := Upd.tail (d := D) (o := PySem.W.listOf vs5 c5) (o' := PySem.W.listOf (vs5.push (.ref ms)) (c5 + 1)) (p := (tup, { cls := .type "tuple", data := .seq [Value.ref ms, Value.ref un'].toArray })) (Ne.symm (ne8 (D, _) (.tail _ (.tail _ (.tail _ (.head _))))).2.2) (Upd.tail (p := (un', PySem.W.listOf vu cu)) (Ne.symm (ne8 (D, _) (.tail _ (.tail _ (.tail _ (.head _))))).2.1) (Upd.tail (p := (ms, PySem.W.listOf vm cm)) (Ne.symm (ne8 (D, _) (.tail _ (.tail _ (.tail _ (.head _))))).1) (Upd.tail (p := (J, oJ')) (C6.offD _ (.head _)) (Upd.tail (p := (Cp, PySem.W.listOf vs cc)) (C6.offD _ (.tail _ (.head _))) (Upd.tail (p := (I, oI')) (C6.offD _ (.tail _ (.tail _ (.head _)))) (Upd.head offm))))))
      have z5 : vs5.size ≤ sizeLine := by
        have z1 := C6.kept.1
        have z2 := upTo_len ls i hi
        have z3 : 2 ^ i ≤ 2 ^ 6 := Nat.pow_le_pow_right (by decide) (by omega)
        have z4 := cutFold_len ls[i] (List.take j (upTo ls i)) (upTo ls i)
        rw [List.length_take] at z4
        rw [Array.length_toList] at z1
        rw [sizeLine_eq]
        omega
      k_steps
      · have hm : lacks (upTo ls i)[j] ls[i] ∈ List.foldl (cutStep ls[i]) (upTo ls i) (List.take j (upTo ls i)) := by assumption
        refine ⟨G8, _, _, _, vs5, c5, extra5, oJ', rfl, iJ', rfl, hkp, C6.turn.trans T8, S8, BF8, by assumption, fun p hp => N10 p (.tail _ (.tail _ (.tail _ hp))), C6.offX, C6.offD, ?_, rfl, rfl⟩
        rw [cutFold_succ hjl, cutStep_mem hm]
        exact C6.kept
      · have hm : ¬ lacks (upTo ls i)[j] ls[i] ∈ List.foldl (cutStep ls[i]) (upTo ls i) (List.take j (upTo ls i)) := by assumption
        rename_i h12 F12 N12
        refine ⟨G8, _, _, _, vs5.push (.ref ms), c5 + 1, (ms, PySem.W.listOf vm cm) :: extra5, oJ', rfl, iJ', rfl, hkp.more _, C6.turn.trans T8, S8, BF8, by assumption, fun p hp => ?_, fun p hp => ?_, C6.offD, ?_, rfl, rfl⟩
        · simp only [List.cons_append, List.nil_append] at hp
          rcases List.mem_cons.mp hp with rfl | hp
          · exact N12 _ (.tail _ (.tail _ (.tail _ (.head _))))
          rcases List.mem_cons.mp hp with rfl | hp
          · exact N12 _ (.tail _ (.tail _ (.tail _ (.tail _ (.head _)))))
          rcases List.mem_cons.mp hp with rfl | hp
          · exact N12 _ (.tail _ (.tail _ (.tail _ (.tail _ (.tail _ (.head _))))))
          rcases List.mem_cons.mp hp with rfl | hp
          · exact N12 _ (.tail _ (.tail _ (.tail _ (.tail _ (.tail _ (.tail _ (.head _)))))))
          rcases List.mem_cons.mp hp with rfl | hp
          · exact N12 _ (.tail _ (.tail _ (.head _)))
          · exact N12 _ (.tail _ (.tail _ (.tail _ (.tail _ (.tail _ (.tail _ (.tail _ hp)))))))
        · rcases List.mem_cons.mp hp with rfl | hp
          · refine ⟨Ne.symm (ne8 (D, _) (.tail _ (.tail _ (.tail _ (.head _))))).1, fun q hq => ?_⟩
            refine Ne.symm (ne8 q ?_).1
            rcases List.mem_cons.mp hq with rfl | hq
            · exact .head _
            rcases List.mem_cons.mp hq with rfl | hq
            · exact .tail _ (.head _)
            rw [List.mem_singleton.mp hq]
            exact .tail _ (.tail _ (.head _))
          · exact C6.offX p hp
        · rw [cutFold_succ hjl, cutStep_new hm]
          exact (C6.kept.more _).push (.head _) hkeep
end Mine
end
section
open PySem PyProof.Rows
set_option maxRecDepth 100000
namespace Mine
def nm (i : Nat) : Str := ⟨#[97 + i]⟩
/-- The names of a set of files, by its mask. -/
def cutN (c : Nat) : List Str := ((List.range 4).filter (bitSet c)).map nm
def lackN (p : Nat) : List Str := ((List.range 4).filter (fun i => !bitSet p i)).map nm
theorem lacks_cut0 : ∀ c p : Fin 16, lacks (cutN c.val) (lackN p.val) = cutN (c.val &&& p.val) := by decide +kernel
theorem cutN_inj0 : ∀ c d : Fin 16, cutN c.val = cutN d.val → c = d := by decide +kernel
theorem abcd_cut : abcd = cutN 15 := by decide +kernel
theorem any_lack0 : ∀ c p : Fin 16, ((cutN c.val).any (fun x => (lackN p.val).any (· == x))) = !(c.val &&& p.val == c.val) := by decide +kernel
def mStep (p : Nat) (cs : List Nat) (c : Nat) : List Nat := if c &&& p ∈ cs then cs else cs ++ [c &&& p]
def mTurn (p : Nat) (cs : List Nat) : List Nat := cs.foldl (mStep p) cs
def masks (ps : List Nat) : List Nat := ps.foldl (fun cs p => mTurn p cs) [15]
theorem cutN_inj {c d : Nat} (hc : c < 16) (hd : d < 16) (h : cutN c = cutN d) : c = d := by
  have := cutN_inj0 ⟨c, hc⟩ ⟨d, hd⟩ h
  exact congrArg Fin.val this
theorem lacks_cut {c p : Nat} (hc : c < 16) (hp : p < 16) : lacks (cutN c) (lackN p) = cutN (c &&& p) := lacks_cut0 ⟨c, hc⟩ ⟨p, hp⟩
theorem and_lt {c p : Nat} (hc : c < 16) : c &&& p < 16 := Nat.lt_of_le_of_lt Nat.and_le_left hc
def All16 (cs : List Nat) : Prop := ∀ c ∈ cs, c < 16
theorem mStep_all {p c : Nat} {cs : List Nat} (h : All16 cs) (hc : c < 16) : All16 (mStep p cs c) := by
  unfold mStep
  split
  · exact h
  · intro x hx
    rcases List.mem_append.mp hx with hx | hx
    · exact h x hx
    · rw [List.mem_singleton.mp hx]; exact and_lt hc
theorem step_map {p c : Nat} {cs : List Nat} (h : All16 cs) (hc : c < 16) (hp : p < 16) : cutStep (lackN p) (cs.map cutN) (cutN c) = (mStep p cs c).map cutN := by
  unfold cutStep mStep
  rw [lacks_cut hc hp]
  have e : cutN (c &&& p) ∈ cs.map cutN ↔ c &&& p ∈ cs := by
    constructor
    · intro hx
      obtain ⟨d, hd, e⟩ := List.mem_map.mp hx
      rw [← cutN_inj (h d hd) (and_lt hc) e]
      exact hd
    · exact fun hx => List.mem_map_of_mem hx
  by_cases hx : c &&& p ∈ cs
  · rw [if_pos hx, if_pos (e.mpr hx)]
  · rw [if_neg hx, if_neg (fun q => hx (e.mp q)), List.map_append]
    rfl
theorem fold_map {p : Nat} (hp : p < 16) : ∀ (l cs : List Nat), All16 l → All16 cs → (l.map cutN).foldl (cutStep (lackN p)) (cs.map cutN) = (l.foldl (mStep p) cs).map cutN ∧ All16 (l.foldl (mStep p) cs)
  | [], cs, _, h => ⟨rfl, h⟩
  | c :: l, cs, hl, h => by
    have hc := hl c (List.mem_cons_self ..)
    rw [List.map_cons, List.foldl_cons, List.foldl_cons, step_map h hc hp]
    exact fold_map hp l (mStep p cs c) (fun x hx => hl x (List.mem_cons_of_mem _ hx)) (mStep_all h hc)
theorem cuts_masks : ∀ (ps cs : List Nat), All16 ps → All16 cs → (ps.map lackN).foldl (fun cs names => cutTurn names cs) (cs.map cutN) = (ps.foldl (fun cs p => mTurn p cs) cs).map cutN ∧ All16 (ps.foldl (fun cs p => mTurn p cs) cs)
  | [], cs, _, h => ⟨rfl, h⟩
  | p :: ps, cs, hp, h => by
    have h1 := fold_map (hp p (List.mem_cons_self ..)) cs cs h h
    rw [List.map_cons, List.foldl_cons, List.foldl_cons]
    unfold cutTurn mTurn
    rw [h1.1]
    exact cuts_masks ps _ (fun x hx => hp x (List.mem_cons_of_mem _ hx)) h1.2
theorem cutsOf_masks {ps : List Nat} (hp : All16 ps) : cutsOf (ps.map lackN) = (masks ps).map cutN ∧ All16 (masks ps) := by
  have h := cuts_masks ps [15] hp (fun x hx => by rw [List.mem_singleton.mp hx]; decide)
  unfold cutsOf masks
  rw [abcd_cut]
  exact h
end Mine
end
section
open PySem PyProof.Rows
set_option maxRecDepth 100000
namespace Mine
/-- a lies in b, as masks -/
abbrev sub (a b : Nat) : Prop := a &&& b = a
theorem sub_and {x a b : Nat} (h1 : sub x a) (h2 : sub x b) : sub x (a &&& b) := by unfold sub at *; rw [← Nat.and_assoc, h1, h2]
theorem sub_trans {a b c : Nat} (h1 : sub a b) (h2 : sub b c) : sub a c := by
  unfold sub at *
  calc a &&& c = (a &&& b) &&& c := by rw [h1]
    _ = a &&& (b &&& c) := Nat.and_assoc ..
    _ = a := by rw [h2, h1]
theorem sub_left (a b : Nat) : sub (a &&& b) a := by unfold sub; rw [Nat.and_comm (a &&& b) a, ← Nat.and_assoc, Nat.and_self]
theorem sub_right (a b : Nat) : sub (a &&& b) b := by unfold sub; rw [Nat.and_assoc, Nat.and_self]
theorem sub_anti {a b : Nat} (h1 : sub a b) (h2 : sub b a) : a = b := by unfold sub at *; rw [← h1, Nat.and_comm, h2]
theorem sub_refl (a : Nat) : sub a a := Nat.and_self a
theorem and_mono {a b : Nat} (p : Nat) (h : sub a b) : sub (a &&& p) (b &&& p) := sub_and (sub_trans (sub_left a p) h) (sub_right a p)
def meetFrom (a : Nat) (ps : List Nat) (n : Nat) : Nat := ps.foldl (fun a p => if sub n p then a &&& p else a) a
def meet (ps : List Nat) (n : Nat) : Nat := meetFrom 15 ps n
theorem meet_snoc (ps : List Nat) (p n : Nat) : meet (ps ++ [p]) n = if sub n p then meet ps n &&& p else meet ps n := by
  unfold meet meetFrom
  rw [List.foldl_append]
  rfl
theorem sub15 : ∀ n : Nat, n < 16 → sub n 15 := by
  intro n hn
  have h : ∀ m : Fin 16, m.val &&& 15 = m.val := by decide
  exact h ⟨n, hn⟩
structure Gal (ps cs : List Nat) : Prop where
  fix : ∀ c ∈ cs, c = meet ps c
  all : ∀ n, n < 16 → meet ps n ∈ cs
  nodup : cs.Nodup
  lt : All16 cs
  up : ∀ n, n < 16 → sub n (meet ps n)
  mono : ∀ a b, a < 16 → sub a b → sub (meet ps a) (meet ps b)
theorem fold_mem {p : Nat} : ∀ (l cs : List Nat) (x : Nat), x ∈ l.foldl (mStep p) cs ↔ x ∈ cs ∨ ∃ c ∈ l, x = c &&& p
  | [], cs, x => by simp
  | c :: l, cs, x => by
    rw [List.foldl_cons, fold_mem l (mStep p cs c) x]
    have e : x ∈ mStep p cs c ↔ x ∈ cs ∨ x = c &&& p := by
      unfold mStep
      split
      · rename_i h
        constructor
        · exact .inl
        · rintro (h' | rfl)
          · exact h'
          · exact h
      · simp [List.mem_append]
    rw [e]
    constructor
    · rintro ((h | h) | ⟨d, hd, h⟩)
      · exact .inl h
      · exact .inr ⟨c, List.mem_cons_self .., h⟩
      · exact .inr ⟨d, List.mem_cons_of_mem _ hd, h⟩
    · rintro (h | ⟨d, hd, h⟩)
      · exact .inl (.inl h)
      · rcases List.mem_cons.mp hd with rfl | hd
        · exact .inl (.inr h)
        · exact .inr ⟨d, hd, h⟩
theorem fold_nodup {p : Nat} : ∀ (l cs : List Nat), cs.Nodup → (l.foldl (mStep p) cs).Nodup
  | [], _, h => h
  | c :: l, cs, h => by
    rw [List.foldl_cons]
    refine fold_nodup l _ ?_
    unfold mStep
    split
    · exact h
    · rename_i hn
      rw [List.nodup_append]
      exact ⟨h, by simp, fun a ha b hb e => hn (by rw [List.mem_singleton.mp hb] at e; exact e ▸ ha)⟩
theorem Gal.step {ps cs : List Nat} (G : Gal ps cs) {p : Nat} (hp : p < 16) : Gal (ps ++ [p]) (mTurn p cs) where
  fix := fun x hx => by
    rw [meet_snoc]
    rcases (fold_mem cs cs x).mp hx with hx | ⟨c, hc, rfl⟩
    · have h := G.fix x hx
      split
      · rename_i hs
        rw [← h]
        exact hs.symm
      · exact h
    · rw [if_pos (sub_right c p)]
      have hlt : c &&& p < 16 := and_lt (G.lt c hc)
      have h1 : sub (c &&& p) (meet ps (c &&& p)) := G.up _ hlt
      have h2 : sub (meet ps (c &&& p)) c := by have := G.mono (c &&& p) c hlt (sub_left c p); rwa [← G.fix c hc] at this
      exact sub_anti (sub_and h1 (sub_right c p)) (and_mono p h2)
  all := fun n hn => by
    rw [meet_snoc]
    have h := G.all n hn
    split
    · exact (fold_mem cs cs _).mpr (.inr ⟨_, h, rfl⟩)
    · exact (fold_mem cs cs _).mpr (.inl h)
  nodup := fold_nodup cs cs G.nodup
  lt := fun x hx => by
    rcases (fold_mem cs cs x).mp hx with hx | ⟨c, hc, rfl⟩
    · exact G.lt x hx
    · exact and_lt (G.lt c hc)
  up := fun n hn => by
    rw [meet_snoc]
    split
    · rename_i hs
      exact sub_and (G.up n hn) hs
    · exact G.up n hn
  mono := fun a b ha h => by
    rw [meet_snoc, meet_snoc]
    have hm := G.mono a b ha h
    by_cases hb : sub b p
    · rw [if_pos hb, if_pos (sub_trans h hb)]
      exact and_mono p hm
    · rw [if_neg hb]
      split
      · exact sub_trans (sub_left _ _) hm
      · exact hm
theorem gal_fold : ∀ (qs ps cs : List Nat), All16 qs → Gal ps cs → Gal (ps ++ qs) (qs.foldl (fun cs p => mTurn p cs) cs)
  | [], ps, cs, _, G => by rw [List.append_nil]; exact G
  | q :: qs, ps, cs, hq, G => by
    have h := gal_fold qs (ps ++ [q]) (mTurn q cs) (fun x hx => hq x (List.mem_cons_of_mem _ hx)) (G.step (hq q (List.mem_cons_self ..)))
    rw [List.append_assoc] at h
    exact h
theorem gal {ps : List Nat} (hp : All16 ps) : Gal ps (masks ps) := by
  have h0 : Gal [] [15] := ⟨fun c hc => by rw [List.mem_singleton.mp hc]; rfl, fun n hn => List.mem_singleton.mpr rfl, by simp, fun c hc => by rw [List.mem_singleton.mp hc]; decide, fun n hn => sub15 n hn, fun a b _ _ => sub_refl _⟩
  have h := gal_fold ps [] [15] hp h0
  rw [List.nil_append] at h
  exact h
end Mine
end
section
open PySem PyProof.Rows
set_option maxRecDepth 100000
namespace Mine
def msig (ps : List Nat) (c r : Nat) : Str := if sub c (ps.getD r 0) then ⟨#[letter r]⟩ else ⟨#[45]⟩
theorem rsig_mask {ps : List Nat} {c r : Nat} (hc : c < 16) (hp : All16 ps) (hr : r < ps.length) : rsig (cutN c) (ps.map lackN) r = msig ps c r := by
  unfold rsig msig
  have e : (ps.map lackN).getD r [] = lackN (ps.getD r 0) := by
    rw [List.getD_eq_getElem?_getD, List.getD_eq_getElem?_getD, List.getElem?_map, List.getElem?_eq_getElem hr]
    rfl
  have hlt : ps.getD r 0 < 16 := by
    rw [List.getD_eq_getElem?_getD, List.getElem?_eq_getElem hr]
    exact hp _ (List.getElem_mem hr)
  rw [e]
  have h := any_lack0 ⟨c, hc⟩ ⟨ps.getD r 0, hlt⟩
  dsimp only at h
  rw [h]
  by_cases q : sub c (ps.getD r 0)
  · have q' : c &&& ps.getD r 0 = c := q
    rw [if_pos q, if_neg (by rw [q']; simp)]
  · have q' : ¬ c &&& ps.getD r 0 = c := q
    rw [if_neg q, if_pos (by rw [beq_false_of_ne q']; rfl)]
def rowM (ps : List Nat) (c : Nat) : Str := Txt.join (Str.ofString "") ((List.range 6).map (msig ps c))
theorem rowT_mask {ps : List Nat} {c : Nat} (hc : c < 16) (hp : All16 ps) (hl : ps.length = 6) : rowT (cutN c) (ps.map lackN) = rowM ps c := by
  unfold rowT rowM
  congr 1
  exact List.map_congr_left fun r hr => rsig_mask hc hp (by rw [hl]; exact List.mem_range.mp hr)
end Mine
end
section
open PySem PyProof.Rows
set_option maxRecDepth 100000
namespace Mine
def val (r : Nat) : Int := ([32, 16, 8, 4, 2, 1] : List Int).getD r 0
/-- b has the right r. -/
def has (b : Int) (r : Nat) : Bool := decide (Builtin.bitAnd (32768 + b) (val r) = val r)
theorem bitAnd_nat (x y : Nat) : Builtin.bitAnd (x : Int) (y : Int) = ((x &&& y : Nat) : Int) := by
  unfold Builtin.bitAnd
  rw [decide_eq_true (Int.natCast_nonneg x), decide_eq_true (Int.natCast_nonneg y)]
  rfl
theorem has_bit : ∀ x : Fin 64, ∀ r : Fin 6, has x.val r.val = x.val.testBit (5 - r.val) := by decide +kernel
theorem has_and0 (x y : Fin 64) : (0 ≤ Builtin.bitAnd (x.val : Int) (y.val : Int) ∧ Builtin.bitAnd (x.val : Int) (y.val : Int) < 64) ∧ ∀ r : Fin 6, has (Builtin.bitAnd (x.val : Int) (y.val : Int)) r.val = (has x.val r.val && has y.val r.val) := by
  have h : x.val &&& y.val < 2 ^ 6 := Nat.and_lt_two_pow _ y.isLt
  rw [bitAnd_nat]
  refine ⟨⟨Int.natCast_nonneg _, by omega⟩, fun r => ?_⟩
  have e := has_bit ⟨x.val &&& y.val, h⟩ r
  dsimp only at e
  rw [e, has_bit x r, has_bit y r, Nat.testBit_and]
theorem has_all0 : ∀ r : Fin 6, has 63 r.val = true := by decide +kernel
end Mine
namespace Mine
def In64 (x : Int) : Prop := 0 ≤ x ∧ x < 64
theorem has_and {x y : Int} (hx : In64 x) (hy : In64 y) : In64 (Builtin.bitAnd x y) ∧ ∀ r, r < 6 → has (Builtin.bitAnd x y) r = (has x r && has y r) := by
  have h := has_and0 ⟨x.toNat, by have := hx.1; have := hx.2; omega⟩ ⟨y.toNat, by have := hy.1; have := hy.2; omega⟩
  dsimp only at h
  rw [Int.toNat_of_nonneg hx.1, Int.toNat_of_nonneg hy.1] at h
  exact ⟨h.1, fun r hr => h.2 ⟨r, hr⟩⟩
theorem has_all {r : Nat} (hr : r < 6) : has 63 r = true := has_all0 ⟨r, hr⟩
end Mine
end
section
open PySem PyProof.Rows
set_option maxRecDepth 100000
namespace Mine
theorem bits_has {ms : List Int} (hm : ∀ i, i < 4 → In64 (ms.getD i 0)) (n : Nat) : ∀ k, k ≤ 4 → In64 (bitsOf ms n k) ∧ ∀ r, r < 6 → (has (bitsOf ms n k) r = true ↔ ∀ i, i < k → n / 2 ^ i % 2 = 1 → has (ms.getD i 0) r = true)
  | 0, _ => ⟨(show In64 63 from ⟨by decide, by decide⟩), fun r hr => ⟨fun _ i hi => absurd hi (Nat.not_lt_zero i), fun _ => has_all hr⟩⟩
  | k + 1, hk => by
    obtain ⟨h1, h2⟩ := bits_has hm n k (by omega)
    by_cases hb : n / 2 ^ k % 2 = 1
    · rw [bits_yes hb]
      obtain ⟨a1, a2⟩ := has_and h1 (hm k (by omega))
      refine ⟨a1, fun r hr => ?_⟩
      rw [a2 r hr, Bool.and_eq_true, h2 r hr]
      constructor
      · rintro ⟨q1, q2⟩ i hi hn
        by_cases e : i = k
        · subst e; exact q2
        · exact q1 i (by omega) hn
      · intro q
        exact ⟨fun i hi hn => q i (by omega) hn, q k (by omega) hb⟩
    · rw [bits_no hb]
      refine ⟨h1, fun r hr => ?_⟩
      rw [h2 r hr]
      constructor
      · intro q i hi hn
        by_cases e : i = k
        · subst e; exact absurd hn hb
        · exact q i (by omega) hn
      · exact fun q i hi hn => q i (by omega) hn
end Mine
end
section
open PySem PyProof.Rows
set_option maxRecDepth 100000
namespace Mine
/-- The mask of the files that have the right r. -/
def pat (ms : List Int) (r : Nat) : Nat := (if has (ms.getD 0 0) r then 1 else 0) + (if has (ms.getD 1 0) r then 2 else 0) + (if has (ms.getD 2 0) r then 4 else 0) + (if has (ms.getD 3 0) r then 8 else 0)
theorem sub_pat0 : ∀ n : Fin 16, ∀ a b c d : Bool, sub n.val ((if a then 1 else 0) + (if b then 2 else 0) + (if c then 4 else 0) + (if d then 8 else 0)) ↔ (n.val / 2 ^ 0 % 2 = 1 → a = true) ∧ (n.val / 2 ^ 1 % 2 = 1 → b = true) ∧ (n.val / 2 ^ 2 % 2 = 1 → c = true) ∧ (n.val / 2 ^ 3 % 2 = 1 → d = true) := by decide +kernel
theorem sub_pat {ms : List Int} {n r : Nat} (hn : n < 16) : sub n (pat ms r) ↔ ∀ i, i < 4 → n / 2 ^ i % 2 = 1 → has (ms.getD i 0) r = true := by
  have h := sub_pat0 ⟨n, hn⟩ (has (ms.getD 0 0) r) (has (ms.getD 1 0) r) (has (ms.getD 2 0) r) (has (ms.getD 3 0) r)
  unfold pat
  rw [h]
  constructor
  · rintro ⟨h0, h1, h2, h3⟩ i hi
    match i, hi with
    | 0, _ => exact h0
    | 1, _ => exact h1
    | 2, _ => exact h2
    | 3, _ => exact h3
  · exact fun q => ⟨q 0 (by decide), q 1 (by decide), q 2 (by decide), q 3 (by decide)⟩
theorem pat_lt (ms : List Int) (r : Nat) : pat ms r < 16 := by
  unfold pat
  split <;> split <;> split <;> split <;> decide
theorem has_sub {ms : List Int} (hm : ∀ i, i < 4 → In64 (ms.getD i 0)) {n r : Nat} (hn : n < 16) (hr : r < 6) : has (bitsOf ms n 4) r = true ↔ sub n (pat ms r) := by
  rw [(bits_has hm n 4 (Nat.le_refl _)).2 r hr, sub_pat hn]
end Mine
end
section
open PySem PyProof.Rows
set_option maxRecDepth 100000
namespace Mine
theorem shared_mem {ms : List Int} {x : Int} : ∀ n, x ∈ sharedL ms n ↔ ∃ k, k < n ∧ x = bitsOf ms k 4
  | 0 => by simp [sharedL]
  | n + 1 => by
    have ih := shared_mem (ms := ms) (x := x) n
    unfold sharedL
    have e : (x ∈ if bitsOf ms n 4 ∈ sharedL ms n then sharedL ms n else sharedL ms n ++ [bitsOf ms n 4]) ↔ x ∈ sharedL ms n ∨ x = bitsOf ms n 4 := by
      split
      · rename_i h
        exact ⟨.inl, fun q => q.elim id fun e => e ▸ h⟩
      · simp [List.mem_append]
    rw [e, ih]
    constructor
    · rintro (⟨k, hk, h⟩ | h)
      · exact ⟨k, by omega, h⟩
      · exact ⟨n, by omega, h⟩
    · rintro ⟨k, hk, h⟩
      by_cases q : k = n
      · subst q; exact .inr h
      · exact .inl ⟨k, by omega, h⟩
theorem shared_nodup (ms : List Int) : ∀ n, (sharedL ms n).Nodup
  | 0 => by simp [sharedL]
  | n + 1 => by
    have ih := shared_nodup ms n
    unfold sharedL
    split
    · exact ih
    · rename_i hn
      rw [List.nodup_append]
      exact ⟨ih, by simp, fun a ha b hb e => hn (by rw [List.mem_singleton.mp hb] at e; exact e ▸ ha)⟩
end Mine
end
section
open PySem PyProof.Rows
set_option maxRecDepth 100000
namespace Mine
theorem meet_congr {n m : Nat} : ∀ (ps : List Nat) (a : Nat), (∀ p ∈ ps, sub n p ↔ sub m p) → meetFrom a ps n = meetFrom a ps m
  | [], _, _ => rfl
  | p :: ps, a, h => by
    have hp := h p (List.mem_cons_self ..)
    unfold meetFrom
    rw [List.foldl_cons, List.foldl_cons]
    have e : (if sub n p then a &&& p else a) = (if sub m p then a &&& p else a) := by
      by_cases q : sub n p
      · rw [if_pos q, if_pos (hp.mp q)]
      · rw [if_neg q, if_neg (fun x => q (hp.mpr x))]
    rw [e]
    exact meet_congr ps _ fun q hq => h q (List.mem_cons_of_mem _ hq)
end Mine
namespace Mine
def six (f : Nat → Bool) : Str := ⟨#[if f 0 then 114 else 45, if f 1 then 119 else 45, if f 2 then 120 else 45, if f 3 then 114 else 45, if f 4 then 119 else 45, if f 5 then 120 else 45]⟩
theorem six_inj0 : ∀ a b c d e f a' b' c' d' e' f' : Bool, (#[if a then 114 else 45, if b then 119 else 45, if c then 120 else 45, if d then 114 else 45, if e then 119 else 45, if f then 120 else 45] : Array Nat) = #[if a' then 114 else 45, if b' then 119 else 45, if c' then 120 else 45, if d' then 114 else 45, if e' then 119 else 45, if f' then 120 else 45] → a = a' ∧ b = b' ∧ c = c' ∧ d = d' ∧ e = e' ∧ f = f' := by
  intro a b c d e f a' b' c' d' e' f' h
  simp only [Array.mk.injEq, List.cons.injEq] at h
  obtain ⟨h0, h1, h2, h3, h4, h5, _⟩ := h
  refine ⟨?_, ?_, ?_, ?_, ?_, ?_⟩
  · revert h0; cases a <;> cases a' <;> simp
  · revert h1; cases b <;> cases b' <;> simp
  · revert h2; cases c <;> cases c' <;> simp
  · revert h3; cases d <;> cases d' <;> simp
  · revert h4; cases e <;> cases e' <;> simp
  · revert h5; cases f <;> cases f' <;> simp
theorem six_inj {f g : Nat → Bool} (h : six f = six g) : ∀ r, r < 6 → f r = g r := by
  have h' := six_inj0 _ _ _ _ _ _ _ _ _ _ _ _ (Str.mk.inj h)
  obtain ⟨h0, h1, h2, h3, h4, h5⟩ := h'
  intro r hr
  match r, hr with
  | 0, _ => exact h0
  | 1, _ => exact h1
  | 2, _ => exact h2
  | 3, _ => exact h3
  | 4, _ => exact h4
  | 5, _ => exact h5
end Mine
namespace Mine
theorem msig_eq (ps : List Nat) (c r : Nat) (k : Nat) (hk : letter r = k) : msig ps c r = ⟨#[if decide (sub c (ps.getD r 0)) then k else 45]⟩ := by
  unfold msig
  rw [hk]
  by_cases h : sub c (ps.getD r 0)
  · rw [if_pos h, if_pos (by simpa using h)]
  · rw [if_neg h, if_neg (by simpa using h)]
theorem rowM_six (ps : List Nat) (c : Nat) : rowM ps c = six (fun r => decide (sub c (ps.getD r 0))) := by
  unfold rowM
  have e : (List.range 6).map (msig ps c) = [msig ps c 0, msig ps c 1, msig ps c 2, msig ps c 3, msig ps c 4, msig ps c 5] := rfl
  rw [e, msig_eq ps c 0 114 rfl, msig_eq ps c 1 119 rfl, msig_eq ps c 2 120 rfl, msig_eq ps c 3 114 rfl, msig_eq ps c 4 119 rfl, msig_eq ps c 5 120 rfl]
  rfl
end Mine
end
section
open PySem PyProof.Rows
set_option maxRecDepth 100000
namespace Mine
theorem six_congr {f g : Nat → Bool} (h : ∀ r, r < 6 → f r = g r) : six f = six g := by
  unfold six
  simp only [h 0 (by decide), h 1 (by decide), h 2 (by decide), h 3 (by decide), h 4 (by decide), h 5 (by decide)]
def pats (ms : List Int) : List Nat := (List.range 6).map (pat ms)
theorem pats_len (ms : List Int) : (pats ms).length = 6 := by simp [pats]
theorem pats_all (ms : List Int) : All16 (pats ms) := fun x hx => by
  obtain ⟨r, _, rfl⟩ := List.mem_map.mp hx
  exact pat_lt ms r
theorem pats_get {ms : List Int} {r : Nat} (hr : r < 6) : (pats ms).getD r 0 = pat ms r := by
  unfold pats
  rw [List.getD_eq_getElem?_getD, List.getElem?_map, List.getElem?_range hr]
  rfl
theorem rowM_bits {ms : List Int} (hm : ∀ i, i < 4 → In64 (ms.getD i 0)) {n : Nat} (hn : n < 16) : rowM (pats ms) n = six (has (bitsOf ms n 4)) := by
  rw [rowM_six]
  have e : ∀ r, r < 6 → decide (sub n ((pats ms).getD r 0)) = has (bitsOf ms n 4) r := fun r hr => by
    rw [pats_get hr, Bool.eq_iff_iff, decide_eq_true_iff]
    exact (has_sub hm hn hr).symm
  exact six_congr e
end Mine
end
section
open PySem PyProof.Rows
set_option maxRecDepth 100000
namespace Mine
theorem nodup_map {α β : Type} {f : α → β} : ∀ {l : List α}, (∀ x ∈ l, ∀ y ∈ l, f x = f y → x = y) → l.Nodup → (l.map f).Nodup
  | [], _, _ => by simp
  | a :: l, h, hn => by
    rw [List.nodup_cons] at hn
    rw [List.map_cons, List.nodup_cons]
    refine ⟨fun hm => ?_, nodup_map (fun x hx y hy => h x (List.mem_cons_of_mem _ hx) y (List.mem_cons_of_mem _ hy)) hn.2⟩
    obtain ⟨b, hb, e⟩ := List.mem_map.mp hm
    have := h b (List.mem_cons_of_mem _ hb) a (List.mem_cons_self ..) e
    exact hn.1 (this ▸ hb)
theorem has_inj0 (x y : Fin 64) (h : ∀ r : Fin 6, has (x.val : Int) r.val = has (y.val : Int) r.val) : x = y := by
  refine Fin.ext (Nat.eq_of_testBit_eq fun i => ?_)
  by_cases hi : i < 6
  · have e := h ⟨5 - i, by omega⟩
    rw [has_bit, has_bit] at e
    dsimp only at e
    rwa [show 5 - (5 - i) = i by omega] at e
  · have k : 2 ^ 6 ≤ 2 ^ i := Nat.pow_le_pow_right (by decide) (by omega)
    rw [Nat.testBit_lt_two_pow (Nat.lt_of_lt_of_le x.isLt k), Nat.testBit_lt_two_pow (Nat.lt_of_lt_of_le y.isLt k)]
theorem has_inj {x y : Int} (hx : In64 x) (hy : In64 y) (h : ∀ r, r < 6 → has x r = has y r) : x = y := by
  have k := has_inj0 ⟨x.toNat, by have := hx.1; have := hx.2; omega⟩ ⟨y.toNat, by have := hy.1; have := hy.2; omega⟩
  dsimp only at k
  rw [Int.toNat_of_nonneg hx.1, Int.toNat_of_nonneg hy.1] at k
  have e := congrArg Fin.val (k fun r => h r.val r.isLt)
  dsimp only at e
  have := hx.1
  have := hy.1
  omega
/-- The row of a cut tells the cut: it is the meet of the patterns above it. -/
theorem meet_rowM {ps : List Nat} (hl : ps.length = 6) {c d : Nat} (h : rowM ps c = rowM ps d) : meet ps c = meet ps d := by
  rw [rowM_six, rowM_six] at h
  have k := six_inj h
  refine meet_congr ps 15 fun p hp => ?_
  obtain ⟨r, hr, e⟩ := List.getElem_of_mem hp
  have kr := k r (by omega)
  have e' : ps.getD r 0 = p := by rw [List.getD_eq_getElem?_getD, List.getElem?_eq_getElem hr]; exact e
  rw [e'] at kr
  simpa using kr
theorem rowM_inj {ps cs : List Nat} (G : Gal ps cs) (hl : ps.length = 6) {c d : Nat} (hc : c ∈ cs) (hd : d ∈ cs) (h : rowM ps c = rowM ps d) : c = d := by
  rw [G.fix c hc, G.fix d hd, meet_rowM hl h]
theorem sub_meetFrom {n : Nat} : ∀ (ps : List Nat) (a p : Nat), p ∈ ps → sub n p → sub (meetFrom a ps n) p
  | q :: ps, a, p, hp, h => by
    unfold meetFrom
    rw [List.foldl_cons]
    rcases List.mem_cons.mp hp with rfl | hp
    · rw [if_pos h]
      have low : ∀ (qs : List Nat) (b : Nat), sub (meetFrom b qs n) b := fun qs => by
        induction qs with
        | nil => exact fun b => sub_refl b
        | cons x qs ih =>
          intro b
          unfold meetFrom
          rw [List.foldl_cons]
          split
          · exact sub_trans (ih _) (sub_left _ _)
          · exact ih _
      exact sub_trans (low ps _) (sub_right _ _)
    · exact sub_meetFrom ps _ p hp h
theorem rowM_meet {ps cs : List Nat} (G : Gal ps cs) (hl : ps.length = 6) {n : Nat} (hn : n < 16) : rowM ps (meet ps n) = rowM ps n := by
  rw [rowM_six, rowM_six]
  refine six_congr fun r hr => ?_
  rw [Bool.eq_iff_iff, decide_eq_true_iff, decide_eq_true_iff]
  have hp : ps.getD r 0 ∈ ps := by
    rw [List.getD_eq_getElem?_getD, List.getElem?_eq_getElem (by omega)]
    exact List.getElem_mem _
  exact ⟨fun h => sub_trans (G.up n hn) h, fun h => sub_meetFrom ps 15 _ hp h⟩
theorem rows_perm {ms : List Int} (hm : ∀ i, i < 4 → In64 (ms.getD i 0)) : ((masks (pats ms)).map (rowM (pats ms))).Perm ((sharedL ms 16).map (fun x => six (has x))) := by
  have G := gal (pats_all ms)
  have hl := pats_len ms
  have i64 : ∀ x ∈ sharedL ms 16, In64 x := fun x hx => by
    obtain ⟨k, hk, rfl⟩ := (shared_mem 16).mp hx
    exact (bits_has hm k 4 (Nat.le_refl _)).1
  refine (List.perm_ext_iff_of_nodup (nodup_map (fun x hx y hy => rowM_inj G hl hx hy) G.nodup) (nodup_map (fun x hx y hy e => has_inj (i64 x hx) (i64 y hy) (six_inj e)) (shared_nodup ms 16))).mpr fun a => ?_
  rw [List.mem_map, List.mem_map]
  constructor
  · rintro ⟨c, hc, rfl⟩
    refine ⟨bitsOf ms c 4, (shared_mem 16).mpr ⟨c, G.lt c hc, rfl⟩, (rowM_bits hm (G.lt c hc)).symm⟩
  · rintro ⟨x, hx, rfl⟩
    obtain ⟨k, hk, rfl⟩ := (shared_mem 16).mp hx
    exact ⟨meet (pats ms) k, G.all k hk, by rw [rowM_meet G hl hk, rowM_bits hm hk]⟩
end Mine
end
section
open PySem PySem.W PyProof.Rows PySem.Calls
set_option maxRecDepth 100000
set_option maxHeartbeats 8000000
namespace Mine
theorem same_body {K : Frag} {prog : Program} {w : World} {A : Around} {E : Value → Shared → Prop} {s : Shared} {Q : Flow → Shared → Prop} {L fa a : Addr}
    {name qual : Str} {params : Arguments} {body : List Stmt} {scope : Scope} {dV kV doc pm cdv ct oc : Value} {an od : Option Addr} {osl : Array (Option Value)}
    {name' qual' : Str} {params' : Arguments} {body' : List Stmt} {scope' : Scope} {dV' kV' doc' pm' cdv' ct' oc' : Value} {an' od' : Option Addr} {osl' : Array (Option Value)} {c : Value}
    (ho : K.lookup a = some ⟨oc, od, .func (fnOf name qual params body scope dV kV doc pm an cdv ct), osl⟩)
    (ho' : K.lookup a = some ⟨oc', od', .func (fnOf name' qual' params' body' scope' dV' kV' doc' pm' an' cdv' ct'), osl'⟩)
    (h : wpAny (model prog w) (A.deeper (envOfC qual' scope' L fa c)) (execs body' (envOfC qual' scope' L fa c)) Q E s) :
    wpAny (model prog w) (A.deeper (envOfC qual scope L fa c)) (execs body (envOfC qual scope L fa c)) Q E s := by
  have e := Option.some.inj (ho.symm.trans ho')
  simp only [Obj.mk.injEq, Data.func.injEq, fnOf] at e
  simp at e
  obtain ⟨_, _, e, _⟩ := e
  simp [e]
  exact h
end Mine
end
section
open PySem PySem.W PyProof.Rows PySem.Calls
set_option maxRecDepth 100000
set_option maxHeartbeats 4000000
namespace Mine
section
variable {prog : Program} {w : World} {A : Around} {E : Value → Shared → Prop} {s : Shared} {h₀ : Heap} {L l : Addr} {m : Str → Option Value} {news : List (Addr × Obj)} {value slice : PySem.Expr} {vs : List Value} {ns : List Int} {x : Int} {t : Tok} {Q : Value → Shared → Prop}
theorem intsAre_drop : ∀ {vs : List Value} {ns : List Int} (n : Nat), IntsAre vs ns → IntsAre (vs.drop n) (ns.drop n)
  | _, _, 0, h => by simpa using h
  | _, _, n + 1, .nil => .nil
  | _, _, n + 1, .cons _ _ h => intsAre_drop n h
theorem slice_ints (F : Fr h₀ L s.heap m) (N : News h₀ L s.heap news) (hl : s.heap.IsList l vs.toArray) (hi : IntsAre vs ns) (h0 : 0 ≤ x) (hz : vs.length ≤ sizeLine)
    (h : ∀ D h' ws, Fr h₀ L h' m → News h₀ L h' ((D, PySem.W.listOf ws.toArray 0) :: news) → (∀ p ∈ news, p.1 < D) → IntsAre ws (ns.drop x.toNat) → Q (.ref D) { s with heap := h' })
    (hs : subscripted slice false (.ref l) (.ref s.heap.objs.size) = operate [.ref s.heap.objs.size, .ref l] (getItem (.ref l) (.ref s.heap.objs.size))) (ht : ∀ r, letTemporaryGo value (.ref l) r = pure ()) :
    wpAny (model prog w) A (subscriptTail value slice (.ref l) (.ref s.heap.objs.size)) Q E { s with heap := s.heap.push { cls := .type "slice", data := .fields #[.int x t, .none, .none] } } :=
  slice_from F N hl h0 hz (fun D h' F' N' lt => h D h' _ F' N' lt (intsAre_drop _ hi)) hs ht
end
section
variable {prog : Program} {w : World} {A : Around} {E : Value → Shared → Prop} {s : Shared} {h₀ : Heap} {L l : Addr} {m : Str → Option Value} {news : List (Addr × Obj)} {value slice : PySem.Expr} {its : Array Value} {k : Nat} {ns : List Int} {x : Int} {t : Tok} {Q : Value → Shared → Prop}
theorem slice_ints2 (F : Fr h₀ L s.heap m) (N : News h₀ L s.heap news) (hm : (l, PySem.W.listOf its k) ∈ news) (hi : IntsAre its.toList ns) (h0 : 0 ≤ x) (hz : its.size ≤ sizeLine)
    (h : ∀ D h' ws, Fr h₀ L h' m → News h₀ L h' ((D, PySem.W.listOf ws.toArray 0) :: news) → (∀ p ∈ news, p.1 < D) → IntsAre ws (ns.drop x.toNat) → Q (.ref D) { s with heap := h' })
    (hs : subscripted slice false (.ref l) (.ref s.heap.objs.size) = operate [.ref s.heap.objs.size, .ref l] (getItem (.ref l) (.ref s.heap.objs.size))) (ht : ∀ r, letTemporaryGo value (.ref l) r = pure ()) :
    wpAny (model prog w) A (subscriptTail value slice (.ref l) (.ref s.heap.objs.size)) Q E { s with heap := s.heap.push { cls := .type "slice", data := .fields #[.int x t, .none, .none] } } :=
  slice_ints F N (isListM N hm) hi h0 (by simpa using hz) h hs ht
end
theorem isl {h₀ h : Heap} {L a : Addr} {vs : List Value} {c : Nat} {news : List (Addr × Obj)} (N : News h₀ L h news) (hm : (a, PySem.W.listOf (List.toArray vs) c) ∈ news) : h.IsList a vs.toArray := ⟨_, N.get hm, rfl, c, rfl⟩
theorem ints_snoc {ys : List Value} {xs : List Int} {y : Int} {t : Tok} (h : IntsAre ys xs) : IntsAre (ys ++ [.int y t]) (xs ++ [y]) := by
  induction h with
  | nil => exact .cons y t .nil
  | cons z u _ ih => exact .cons z u ih
/-- The first four numbers, filled up. -/
def four (ns : List Int) : List Int := ns.take 4 ++ ([6, 35, 7, 18] : List Int).drop ns.length
theorem four_len (ns : List Int) : (four ns).length = 4 := by
  unfold four
  rw [List.length_append, List.length_take, List.length_drop]
  simp
  omega
def modes (ns : List Int) : List Int := (four ns).map (fun v => v.fmod 64)
theorem modes_len (ns : List Int) : (modes ns).length = 4 := by rw [modes, List.length_map, four_len]
theorem modes_in (ns : List Int) : ∀ i, i < 4 → In64 ((modes ns).getD i 0) := by
  intro i hi
  have h : (modes ns)[i]? = some ((four ns)[i]'(by rw [four_len]; exact hi) |>.fmod 64) := by
    unfold modes
    rw [List.getElem?_map, List.getElem?_eq_getElem (by rw [four_len]; exact hi)]
    rfl
  rw [List.getD_eq_getElem?_getD, h]
  exact ⟨Int.fmod_nonneg_of_pos _ (by decide), Int.fmod_lt_of_pos _ (by decide)⟩
end Mine
namespace Mine
theorem sizeLine_small {n : Nat} (h : n ≤ 1000) : n ≤ sizeLine := by rw [sizeLine_eq]; omega
theorem ints_take_snoc {ys : List Value} {xs : List Int} {i : Nat} {y : Int} {t : Tok} (h : IntsAre ys (xs.take i)) (hi : xs[i]? = some y) : IntsAre (ys ++ [.int y t]) (xs.take (i + 1)) := by
  rw [List.take_add_one, hi]
  exact ints_snoc h
theorem strs_take_snoc {ys : List Value} {xs : List Str} {i : Nat} {y : Str} {t : Tok} (h : StrsAre ys (xs.take i)) (hi : xs[i]? = some y) : StrsAre (ys ++ [.str y t]) (xs.take (i + 1)) := by
  rw [List.take_add_one, hi]
  exact strs_end h
theorem modes_get {ns : List Int} {i : Nat} {v : Int} (h : (four ns)[i]? = some v) : (modes ns)[i]? = some (v.fmod 64) := by
  unfold modes
  rw [List.getElem?_map, h]
  rfl
theorem ints_get : ∀ {vs : List Value} {ns : List Int} {i : Nat} {v : Value}, IntsAre vs ns → vs[i]? = some v → ∃ n t, ns[i]? = some n ∧ v = .int n t
  | _, _, 0, v, .cons n t _, e => ⟨n, t, rfl, (Option.some.inj e).symm⟩
  | _, _, i + 1, v, .cons n t r, e => ints_get r (i := i) (by simpa using e)
theorem four_eq (ns : List Int) : ns.take 4 ++ ([6, 35, 7, 18] : List Int).drop ((ns.length : Int)).toNat = four ns := by rw [Int.toNat_natCast]; rfl
theorem ints_len {vs : List Value} {ns : List Int} (h : IntsAre vs ns) : vs.length = ns.length := by
  induction h with
  | nil => rfl
  | cons _ _ _ ih => simp [ih]
end Mine
namespace Mine
theorem sg_has {b k : Int} {c r : Nat} (hk : val r = k) : sg b k c = if has b r then c else 45 := by
  subst hk
  unfold sg has
  by_cases h : Builtin.bitAnd (32768 + b) (val r) = val r
  · rw [if_pos h, if_pos (by simpa using h)]
  · rw [if_neg h, if_neg (by simpa using h)]
theorem slice4a (b : Int) : Txt.slice (row10 b) (some 4) none = ⟨#[sg b 32 114, sg b 16 119, sg b 8 120, sg b 4 114, sg b 2 119, sg b 1 120]⟩ := by
  have e : Builtin.Str.strSliceIndices (some 4) none 1 10 = [4, 5, 6, 7, 8, 9] := by decide
  have l : (row10 b).length = 10 := rfl
  unfold Txt.slice
  rw [l, e]
  rfl
theorem slice1 (x y : Nat) : Txt.slice ⟨#[x, y]⟩ (some 1) none = ⟨#[y]⟩ := by
  have e : Builtin.Str.strSliceIndices (some 1) none 1 2 = [1] := by decide
  have l : (⟨#[x, y]⟩ : Str).length = 2 := rfl
  unfold Txt.slice
  rw [l, e]
  rfl
theorem slice4 (b : Int) : Txt.slice (row10 b) (some 4) none = six (has b) := by
  rw [slice4a, sg_has (r := 0) (k := 32) rfl, sg_has (r := 1) (k := 16) rfl, sg_has (r := 2) (k := 8) rfl, sg_has (r := 3) (k := 4) rfl, sg_has (r := 4) (k := 2) rfl, sg_has (r := 5) (k := 1) rfl]
  rfl
end Mine
namespace Mine
theorem modes_in' {ns : List Int} {i : Nat} {v : Int} (h : (modes ns)[i]? = some v) : In64 v := by
  have hi : i < (modes ns).length := (List.getElem?_eq_some_iff.mp h).1
  rw [modes_len] at hi
  have := modes_in ns i hi
  rwa [List.getD_eq_getElem?_getD, h] at this
end Mine
end
section
open PySem PySem.W PyProof.Rows PySem.Calls
set_option maxRecDepth 100000
set_option maxHeartbeats 4000000
namespace Mine
/-- The addresses of a zip over a list and a str lie apart. -/
structure ZA (z TI TO i1 i2 l1 : Addr) : Prop where
  TIz : TI ≠ z
  TOz : TO ≠ z
  i1z : i1 ≠ z
  i2z : i2 ≠ z
  TITO : TI ≠ TO
  TIi1 : TI ≠ i1
  TIi2 : TI ≠ i2
  TOi1 : TO ≠ i1
  TOi2 : TO ≠ i2
  i12 : i1 ≠ i2
  l1z : l1 ≠ z
  l1TO : l1 ≠ TO
  l1i1 : l1 ≠ i1
  l1i2 : l1 ≠ i2
abbrev AscIter (h : Heap) (i : Addr) (x : Str) (t : Tok) (k : Nat) : Prop := h.IsStrIter i "str_ascii_iterator" x t k
/-- A zip that stands before its k-th pair. -/
structure ZS (h : Heap) (z TI TO i1 i2 l1 : Addr) (xs : Array Value) (S : Str) (u : Tok) (k : Nat) (f0 : Value) : Prop where
  z : IsZip h z TI TO f0
  ti : IsPair h TI (.ref i1) (.ref i2)
  to : ∃ a b, IsPair h TO a b
  i1 : h.IsListIter i1 l1 k
  i2 : AscIter h i2 S u k
  l : h.IsList l1 xs
theorem ZS.at {h h' : Heap} {z TI TO i1 i2 l1 : Addr} {xs : Array Value} {S : Str} {u : Tok} {k : Nat} {f0 : Value} (Z : ZS h z TI TO i1 i2 l1 xs S u k f0)
    (hk : ∀ b, b = z ∨ b = TI ∨ b = TO ∨ b = i1 ∨ b = i2 ∨ b = l1 → ∀ o, h.get? b = some o → h'.get? b = some o) : ZS h' z TI TO i1 i2 l1 xs S u k f0 := by
  obtain ⟨a, b, hTO⟩ := Z.to
  obtain ⟨o2, e2, r2⟩ := Z.i2
  exact ⟨hk z (by simp) _ Z.z, hk TI (by simp) _ Z.ti, ⟨a, b, hk TO (by simp) _ hTO⟩, Z.i1.at fun o e => hk i1 (by simp) o e, ⟨o2, hk i2 (by simp) o2 e2, r2⟩, Z.l.at fun o e => hk l1 (by simp) o e⟩
section
variable {prog : Program} {w : World} {A : Around} {E : Value → Shared → Prop} {s : Shared} {z TI TO i1 i2 l1 : Addr} {xs : Array Value} {S : Str} {u : Tok} {k : Nat}
theorem asc_ext {h h' : Heap} {i j : Addr} (x : AscIter h i S u k) (e : Heap.ExtBut j h h') (hne : i ≠ j) : AscIter h' i S u k := by
  obtain ⟨o, ho, r⟩ := x
  exact ⟨o, e _ _ hne ho, r⟩
theorem zs_next {x : Value} {c : Nat} {Q : Option Value → Shared → Prop} (D : ZA z TI TO i1 i2 l1) (Z : ZS s.heap z TI TO i1 i2 l1 xs S u k .none) (hx : xs[k]? = some x) (hc : S.cps[k]? = some c)
    (hQ : ∀ h' t, ZS h' z TI TO i1 i2 l1 xs S u (k + 1) (rawInt s.heap.objs.size) → IsPair h' s.heap.objs.size x (.str ⟨#[c]⟩ t) →
      (∀ b o, b ≠ z → b ≠ TO → b ≠ i1 → b ≠ i2 → s.heap.get? b = some o → h'.get? b = some o) → Q (some (.ref s.heap.objs.size)) { s with heap := h', toks := s.toks + 1 }) :
    wpAny (model prog w) A (pyNext (.ref z)) Q E s := by
  have hz := Z.z
  have hTI := Z.ti
  obtain ⟨a, b, hTO⟩ := Z.to
  have hT : s.TypeIs (.ref z) "zip" := ⟨_, hz, rfl⟩
  unfold pyNext
  refine wpAny_bind (wpAny_attempt (wpAny_callSpecial?_slot (name := Str.ofString "__next__") hT F.slot_zip_next (wpAny_call_entry F.slot_zip_next hT F.entry_zip_next ?_ (F.args_zip_next_1 _))))
  show wpAny _ _ (field (.ref z) 2 >>= _) _ _ _
  refine wpAny_bind (wpAny_field hz rfl (x := .bool false) rfl ?_)
  show wpAny _ _ (field (.ref z) 3 >>= _) _ _ _
  refine wpAny_bind (wpAny_field hz rfl (x := .ref TI) rfl ?_)
  refine wpAny_bind (wpAny_seqItems hTI rfl ?_)
  show wpAny _ _ (Builtin.SmallTypes.ownedTupleIsFree (.ref z) >>= _) _ _ _
  refine wpAny_bind ?_
  unfold Builtin.SmallTypes.ownedTupleIsFree
  refine wpAny_bind (wpAny_field hz rfl (x := .none) rfl (wpAny_pure ?_))
  simp only [if_true]
  refine wpAny_bind (wpAny_rule ?_)
  refine wpAny_bind (wpAny_field hz rfl (x := .ref TO) rfl ?_)
  refine wpAny_bind (wpAny_setField_rec hz (by simp) fun h₁ hz₁ hs₁ => ?_)
  replace hz₁ : IsZip h₁ z TI TO .ellipsis := hz₁
  refine wpAny_bind ?_
  simp only [List.zipIdx_cons, List.zipIdx_nil, List.forIn_cons, List.forIn_nil]
  refine wpAny_bind (wpAny_bind (wpAny_onRaise ?_))
  show wpAny _ _ (Builtin.SmallTypes.nextOf (.ref i1) >>= _) _ _ _
  refine wpAny_bind (wpAny_nextOf_list_item (Z.i1.extBut hs₁.extBut D.i1z) (Z.l.extBut hs₁.extBut D.l1z) hx fun h₂ h1₂ hs₂ => wpAny_pure ?_)
  have hTO₂ : IsPair h₂ TO a b := hs₂.extBut _ _ D.TOi1 (hs₁.extBut _ _ D.TOz hTO)
  refine wpAny_bind (wpAny_seqItems hTO₂ rfl ?_)
  refine wpAny_bind (wpAny_updateSeq_pair hTO₂ fun h₃ hTO₃ hs₃ => ?_)
  replace hTO₃ : IsPair h₃ TO x b := hTO₃
  refine wpAny_bind (wpAny_letGo (wpAny_pure ?_))
  refine wpAny_bind (wpAny_bind (wpAny_onRaise ?_))
  show wpAny _ _ (Builtin.SmallTypes.nextOf (.ref i2) >>= _) _ _ _
  refine wpAny_bind (wpAny_nextOf_ascii_item (x := S) (t := u) (i := k) (c := c) (asc_ext (asc_ext (asc_ext Z.i2 hs₁.extBut D.i2z) hs₂.extBut D.i12.symm) hs₃.extBut D.TOi2.symm) hc fun h₄ h2₄ hs₄ => wpAny_pure ?_)
  have hTO₄ : IsPair h₄ TO x b := hs₄.extBut _ _ D.TOi2 hTO₃
  refine wpAny_bind (wpAny_seqItems hTO₄ rfl ?_)
  refine wpAny_bind (wpAny_updateSeq_pair hTO₄ fun h₅ hTO₅ hs₅ => ?_)
  replace hTO₅ : IsPair h₅ TO x (.str ⟨#[c]⟩ s.toks) := hTO₅
  refine wpAny_bind (wpAny_letGo (wpAny_pure (wpAny_pure ?_)))
  refine wpAny_bind (wpAny_seqItems hTO₅ rfl ?_)
  refine wpAny_bind (wpAny_newTuple ?_)
  have hsz : h₅.objs.size = s.heap.objs.size := by rw [hs₅.1, hs₄.1, hs₃.1, hs₂.1, hs₁.1]
  have hz₅ : IsZip h₅ z TI TO .ellipsis := hs₅.extBut _ _ D.TOz.symm (hs₄.extBut _ _ D.i2z.symm (hs₃.extBut _ _ D.TOz.symm (hs₂.extBut _ _ D.i1z.symm hz₁)))
  have hk₅ : ∀ c o, c ≠ z → c ≠ TO → c ≠ i1 → c ≠ i2 → s.heap.get? c = some o → h₅.get? c = some o := fun c o c1 c2 c3 c4 e =>
    hs₅.extBut _ _ c2 (hs₄.extBut _ _ c4 (hs₃.extBut _ _ c2 (hs₂.extBut _ _ c3 (hs₁.extBut _ _ c1 e))))
  have h1₅ : h₅.IsListIter i1 l1 (k + 1) := ((h1₂.extBut hs₃.extBut D.TOi1.symm).extBut hs₄.extBut D.i12).extBut hs₅.extBut D.TOi1.symm
  have h2₅ : AscIter h₅ i2 S u (k + 1) := asc_ext h2₄ hs₅.extBut D.TOi2.symm
  have hzlt : z < h₅.objs.size := Heap.lt_size hz₅
  show wpAny _ _ (Builtin.SmallTypes.ownedTupleHandOut (.ref z) (.ref h₅.objs.size) >>= _) _ _ _
  refine wpAny_bind ?_
  unfold Builtin.SmallTypes.ownedTupleHandOut
  have hz₆ : IsZip (h₅.push { cls := .type "tuple", data := .seq #[x, .str ⟨#[c]⟩ s.toks] }) z TI TO .ellipsis := Heap.get?_push_of_some _ hz₅
  refine wpAny_bind (wpAny_setField_rec hz₆ (by simp) fun h₇ hz₇ hs₇ => ?_)
  replace hz₇ : IsZip h₇ z TI TO (rawInt h₅.objs.size) := hz₇
  refine wpAny_setField_rec hz₇ (by simp) fun h₈ hz₈ hs₈ => ?_
  replace hz₈ : IsZip h₈ z TI TO (rawInt h₅.objs.size) := hz₈
  have up : ∀ c o, c ≠ z → h₅.get? c = some o → h₈.get? c = some o := fun c o c1 e => hs₈.extBut _ _ c1 (hs₇.extBut _ _ c1 (Heap.get?_push_of_some _ e))
  have hT₈ : IsPair h₈ h₅.objs.size x (.str ⟨#[c]⟩ s.toks) := hs₈.extBut _ _ (Nat.ne_of_gt hzlt) (hs₇.extBut _ _ (Nat.ne_of_gt hzlt) (Heap.get?_push_size _ rfl))
  rw [hsz] at hz₈ hT₈
  refine wpAny_pure ⟨_, rfl, ?_⟩
  show wpAny _ _ _ _ _ _
  rw [hsz]
  refine wpAny_pure (hQ h₈ s.toks ⟨hz₈, up _ _ D.TIz (hk₅ _ _ D.TIz D.TITO D.TIi1 D.TIi2 hTI), ⟨_, _, up _ _ D.TOz hTO₅⟩, h1₅.at fun o e => up _ o D.i1z e, ?_, Z.l.at fun o e => up _ o D.l1z (hk₅ _ o D.l1z D.l1TO D.l1i1 D.l1i2 e)⟩ hT₈ fun c o c1 c2 c3 c4 e => up c o c1 (hk₅ c o c1 c2 c3 c4 e))
  obtain ⟨o2, e2, r2⟩ := h2₅
  exact ⟨o2, up _ _ D.i2z e2, r2⟩
theorem zs_end {Q : Option Value → Shared → Prop} (hh : A.handled = none) (D : ZA z TI TO i1 i2 l1) (Z : ZS s.heap z TI TO i1 i2 l1 xs S u k .none) (hx : xs[k]? = none)
    (hQ : ∀ h', (∀ b o, b ≠ z → b ≠ TO → b ≠ i1 → b ≠ i2 → s.heap.get? b = some o → h'.get? b = some o) → Q none { s with heap := h' }) :
    wpAny (model prog w) A (pyNext (.ref z)) Q E s := by
  have hz := Z.z
  have hTI := Z.ti
  have hT : s.TypeIs (.ref z) "zip" := ⟨_, hz, rfl⟩
  unfold pyNext
  refine wpAny_bind (wpAny_attempt (wpAny_callSpecial?_slot (name := Str.ofString "__next__") hT F.slot_zip_next (wpAny_call_entry F.slot_zip_next hT F.entry_zip_next ?_ (F.args_zip_next_1 _))))
  show wpAny _ _ (field (.ref z) 2 >>= _) _ _ _
  refine wpAny_bind (wpAny_field hz rfl (x := .bool false) rfl ?_)
  show wpAny _ _ (field (.ref z) 3 >>= _) _ _ _
  refine wpAny_bind (wpAny_field hz rfl (x := .ref TI) rfl ?_)
  refine wpAny_bind (wpAny_seqItems hTI rfl ?_)
  show wpAny _ _ (Builtin.SmallTypes.ownedTupleIsFree (.ref z) >>= _) _ _ _
  refine wpAny_bind ?_
  unfold Builtin.SmallTypes.ownedTupleIsFree
  refine wpAny_bind (wpAny_field hz rfl (x := .none) rfl (wpAny_pure ?_))
  simp only [if_true]
  refine wpAny_bind (wpAny_rule ?_)
  refine wpAny_bind (wpAny_field hz rfl (x := .ref TO) rfl ?_)
  refine wpAny_bind (wpAny_setField_rec hz (by simp) fun h₁ hz₁ hs₁ => ?_)
  replace hz₁ : IsZip h₁ z TI TO .ellipsis := hz₁
  refine wpAny_bind ?_
  simp only [List.zipIdx_cons, List.zipIdx_nil, List.forIn_cons, List.forIn_nil]
  refine wpAny_bind (wpAny_bind (wpAny_onRaise ?_))
  show wpAny _ _ (Builtin.SmallTypes.nextOf (.ref i1) >>= _) _ _ _
  refine wpAny_bind (wpAny_nextOf_list_end hh (Z.i1.extBut hs₁.extBut D.i1z) (Z.l.extBut hs₁.extBut D.l1z) hx fun h₂ e hs₂ he => ?_)
  obtain ⟨oe, hoe, hce⟩ := he
  have hz₂ : IsZip h₂ z TI TO .ellipsis := hs₂ _ _ D.i1z.symm hz₁
  have hez : e ≠ z := fun x => by subst x; rw [hz₂] at hoe; cases hoe; simp at hce
  refine wpAny_setField_rec hz₂ (by simp) fun h₃ _ hs₃ => ?_
  refine wpAny_bind (wpAny_isInstance (T := "StopIteration") (b := true) ⟨oe, hs₃.extBut _ _ hez hoe, hce⟩ isSubtype_stop ?_)
  exact wpAny_pure (hQ _ fun c o c1 _ c3 _ x => hs₃.extBut _ _ c1 (hs₂ _ _ c3 (hs₁.extBut _ _ c1 x)))
end
section
abbrev zsH1 (h : Heap) (l1 : Addr) : Heap := h.push { cls := .type "list_iterator", data := .fields #[.ref l1, .int 0 0] }
abbrev zsH2 (h : Heap) (l1 : Addr) (S : Str) (u : Tok) : Heap := (zsH1 h l1).push { cls := .type (strIterType S), data := .fields #[.str S u, .int 0 0] }
abbrev zsH3 (h : Heap) (l1 : Addr) (S : Str) (u : Tok) : Heap := (zsH2 h l1 S u).push { cls := .type "tuple", data := .seq #[.ref h.objs.size, .ref (zsH1 h l1).objs.size] }
abbrev zsH4 (h : Heap) (l1 : Addr) (S : Str) (u : Tok) : Heap := (zsH3 h l1 S u).push { cls := .type "tuple", data := .seq #[.none, .none] }
abbrev zsH5 (h : Heap) (l1 : Addr) (S : Str) (u : Tok) : Heap := (zsH4 h l1 S u).push { cls := .type "zip", data := .fields #[.none, .bool false, .bool false, .ref (zsH2 h l1 S u).objs.size, .ref (zsH3 h l1 S u).objs.size] }
theorem zs_new (l1 : Addr) (S : Str) (u : Tok) (xs : Array Value) :
    Meets (Builtin.«zip.__new__» ⟨[.type "zip", .ref l1, .str S u], []⟩) (fun _ R s => s.heap.IsList l1 xs ∧
      R (.ok (.ret (.ref (zsH4 s.heap l1 S u).objs.size))) { s with heap := zsH5 s.heap l1 S u }) :=
  .of_wp fun prog w A R s h => by
    obtain ⟨hp, g, d, tk, os⟩ := s; obtain ⟨hl1, h⟩ := h
    have hsub := sub_zip
    have hL1 : Heap.IsList (Shared.heap ⟨hp, g, d, tk, os⟩) l1 xs := hl1
    wp_walk using wpAny_pyIter_list hL1, wpAny_pyIter_strU
    exact ⟨_, rfl, h⟩
end
section
variable {prog : Program} {w : World} {A : Around} {E : Value → Shared → Prop} {s : Shared}
theorem za_new (n l1 : Nat) (h : l1 < n) : ZA (n + 4) (n + 2) (n + 3) n (n + 1) l1 := by
  constructor <;> (show @Ne Nat _ _) <;> omega
theorem call_zs {l1 : Addr} {S : Str} {u : Tok} {xs : Array Value} {Q : Value → Shared → Prop} (hl1 : s.heap.IsList l1 xs) (hS : strIterType S = "str_ascii_iterator")
    (h : ∀ h', ZS h' (s.heap.objs.size + 4) (s.heap.objs.size + 2) (s.heap.objs.size + 3) s.heap.objs.size (s.heap.objs.size + 1) l1 xs S u 0 .none → h'.objs.size = s.heap.objs.size + 5 →
      (∀ c o, s.heap.get? c = some o → h'.get? c = some o) → Q (.ref (s.heap.objs.size + 4)) { s with heap := h' }) :
    wpAny (model prog w) A (call (.type "zip") [.ref l1, .str S u]) Q E s := by
  refine callType_new F.called_zip (by decide) (F.typeCall_zip_2 _ _) (F.newCall_zip_2 _ _) (fun obj => F.args_object_init_3 obj _ _) F.entry_zip_new
    (zs_new l1 S u xs) ⟨hl1, ?_⟩
  have z1 : (zsH1 s.heap l1).objs.size = s.heap.objs.size + 1 := Heap.size_push ..
  have z2 : (zsH2 s.heap l1 S u).objs.size = s.heap.objs.size + 2 := by rw [Heap.size_push, z1]
  have z3 : (zsH3 s.heap l1 S u).objs.size = s.heap.objs.size + 3 := by rw [Heap.size_push, z2]
  have z4 : (zsH4 s.heap l1 S u).objs.size = s.heap.objs.size + 4 := by rw [Heap.size_push, z3]
  have z5 : (zsH5 s.heap l1 S u).objs.size = s.heap.objs.size + 5 := by rw [Heap.size_push, z4]
  have g5 : (zsH5 s.heap l1 S u).get? (zsH4 s.heap l1 S u).objs.size = some _ := Heap.get?_push_size _ rfl
  have g4 : (zsH5 s.heap l1 S u).get? (zsH3 s.heap l1 S u).objs.size = some _ := Heap.get?_push_of_some _ (Heap.get?_push_size _ rfl)
  have g3 : (zsH5 s.heap l1 S u).get? (zsH2 s.heap l1 S u).objs.size = some _ := Heap.get?_push_of_some _ (Heap.get?_push_of_some _ (Heap.get?_push_size _ rfl))
  have g2 : (zsH5 s.heap l1 S u).get? (zsH1 s.heap l1).objs.size = some _ := Heap.get?_push_of_some _ (Heap.get?_push_of_some _ (Heap.get?_push_of_some _ (Heap.get?_push_size _ rfl)))
  have g1 : (zsH5 s.heap l1 S u).get? s.heap.objs.size = some _ := Heap.get?_push_of_some _ (Heap.get?_push_of_some _ (Heap.get?_push_of_some _ (Heap.get?_push_of_some _ (Heap.get?_push_size _ rfl))))
  show _ ∧ _
  rw [z2, z3, z4] at g5
  rw [z1, z2] at g3
  rw [z3] at g4
  rw [z1] at g2
  rw [z4]
  have up : ∀ c o, s.heap.get? c = some o → (zsH5 s.heap l1 S u).get? c = some o := fun c o x =>
    Heap.get?_push_of_some _ (Heap.get?_push_of_some _ (Heap.get?_push_of_some _ (Heap.get?_push_of_some _ (Heap.get?_push_of_some _ x))))
  exact ⟨⟨_, g5, rfl⟩, h _ ⟨g5, g3, ⟨_, _, g4⟩, ⟨_, g1, rfl, rfl⟩, ⟨_, g2, by rw [hS], rfl⟩, hl1.at fun o e => up _ _ e⟩ z5 up⟩
end
end Mine
end
section
open PySem PySem.W PyProof.Rows PySem.Calls
open PyProof.Rows.LCg (lst lst_snoc NsObj ns_obj)
set_option maxRecDepth 100000
set_option maxHeartbeats 4000000
namespace Mine
/-- The source of a comprehension over zip(list, str), and its turns by an invariant. -/
def ZipSrc (prog : Program) (w : World) (A : Around) (h₀ : Heap) (L : Addr) (m : Str → Option Value) (env : Env) (elt : Expr) (x x₂ : Str) (scope : Scope) (cl : List (Str × Addr)) (y : Str) (Q : Flow → Shared → Prop) (news : List (Addr × Obj)) (J : Nat → List Value → Prop) (xv : Value) (s₁ : Shared) : Prop :=
  ∃ z TI TO i1 i2 l1 xs S u, xv = .ref z ∧ ZS s₁.heap z TI TO i1 i2 l1 xs S u 0 .none ∧ ZA z TI TO i1 i2 l1 ∧ S.cps.size = xs.size ∧ xs.size ≤ sizeLine ∧ Fr h₀ L s₁.heap m ∧ News h₀ L s₁.heap news ∧
    (∀ b, b = z ∨ b = TO ∨ b = i1 ∨ b = i2 → h₀.get? b = none ∧ b ≠ L ∧ ∀ p ∈ news, p.1 ≠ b) ∧ J 0 [] ∧
    (∀ i v c t ys C oC h tk mC (E' : Value → Shared → Prop), xs[i]? = some v → S.cps[i]? = some c → J i ys → Fr h₀ L h m → News h₀ L h ((C, oC) :: news) → NsObj oC mC → mC x = some v → mC x₂ = some (.str ⟨#[c]⟩ t) →
      wpAny (model prog w) A (eval elt (compEnvC scope cl C env)) (fun y s₂ => ∃ tk', s₂ = { s₁ with heap := h, toks := tk' } ∧ J (i + 1) (ys ++ [y])) E' { s₁ with heap := h, toks := tk }) ∧
    (∀ D h tk ys, J xs.size ys → Fr h₀ L h (fun z => if z = y then some (.ref D) else m z) → News h₀ L h ((D, lst ys) :: news) → (∀ p ∈ news, @LT.lt Nat _ p.1 D) → Q .next { s₁ with heap := h, toks := tk })
section
variable {prog : Program} {w : World} {A : Around} {E : Value → Shared → Prop} {s : Shared} {h₀ : Heap} {L : Addr} {m : Str → Option Value} {env : Env}
theorem assign_zip {elt iter : Expr} {x x₂ y : Str} {px px₂ tp py : Pos} {tkn} {scope : Scope} {cl : List (Str × Addr)} {pos spos : Pos} {Q : Flow → Shared → Prop} {news : List (Addr × Obj)} (J : Nat → List Value → Prop) (_F₀ : Fr h₀ L s.heap m) (_N₀ : News h₀ L s.heap news) (hLe : env.locals = L) (hh : A.handled = none)
    (hsw : swapsWith (.ListComp elt [⟨.Tuple [.Name x px, .Name x₂ px₂] tkn tp, iter, [], 0⟩] scope pos) (some (.Name y py)) spos.line env = pure true)
    (hclos : closureFor scope env = pure cl) (hcell : ∀ z ∈ scope.names, z.2 ≠ .cell) (hkind : scope.kind = .function)
    (hnames : ∀ z ∈ scope.names, z.2 = .local → scope.names.lookup z.1 = some .local) (hx : scope.names.lookup x = some .local) (hx₂ : scope.names.lookup x₂ = some .local) (hxx : x ≠ x₂)
    (hy : env.kindOf y = some .local) (hp : (env.scope.kind == .class || (env.scope.kind == .module && env.locals != env.globals)) = false)
    (h : wpAny (model prog w) A (eval iter env) (fun xv s₁ => ZipSrc prog w A h₀ L m env elt x x₂ scope cl y Q news J xv s₁) E s)
    (hs : ∀ x, foldedSetIterable iter env x = pure x := by intro _; rfl) :
    wpAny (model prog w) A (exec (.Assign [.Name y py] (.ListComp elt [⟨.Tuple [.Name x px, .Name x₂ px₂] tkn tp, iter, [], 0⟩] scope pos) spos) env) Q E s := by
  subst hLe
  rw [exec_Assign_Name_used _ _ _ _ hsw]
  refine wpAny_bind (wpAny_standAt (wpAny_bind ?_))
  show wpAny _ A (do let _ ← comprehension (.ListComp elt [⟨.Tuple [.Name x px, .Name x₂ px₂] tkn tp, iter, [], 0⟩] scope pos) scope env _ (newList []) false (eval iter env) (some (assign (.Name y py) env))) _ _ s
  refine wpAny_bind (wpAny_mono (wpAny_comprehension_free (use := some (assign (.Name y py) env)) (Q := fun _ s' => Q .next s') rfl hs hclos hkind hnames
    (wpAny_mono h (fun xv s₁ h₁ => ?_) fun _ _ e => e)) (fun _ s' hq => wpAny_pure (wpAny_pure hq)) fun _ _ e => e)
  obtain ⟨z, TI, TO, i1, i2, l1, xs, S, u, rfl, Z, D, hSx, hsz, F, N, off, h0, turn, fin⟩ := h₁
  refine wpAny_pyIter_zip Z.z ?_
  refine wpAny_newObj_type (wpAny_newFunctionEnv hcell (by intro y hy; simp at hy) (fun h₁ hns₁ hsb₁ => ?_) hkind)
  dsimp only at hns₁ hsb₁ ⊢
  generalize hH2 : s₁.heap.push { cls := .type "list", dict := none, data := .seq ([] : List Value).toArray } = H2 at hns₁ hsb₁ ⊢
  have hC : H2.objs.size = s₁.heap.objs.size + 1 := by rw [← hH2, Heap.size_push]
  have fresh₀ : ∀ a, s₁.heap.objs.size ≤ a → h₀.get? a = none := fun a ha => ktu_new F ha
  have old : ∀ b o, s₁.heap.get? b = some o → h₁.get? b = some o := fun b o e => hsb₁.extBut b o (by rw [hC]; exact Nat.ne_of_lt (Nat.lt_succ_of_lt (Heap.lt_size e))) (Heap.get?_push_of_some _ (hH2 ▸ Heap.get?_push_of_some _ e))
  generalize hD : s₁.heap.objs.size = Dl at *
  generalize hCe : H2.objs.size = C at *
  have lt1 : ∀ b o, s₁.heap.get? b = some o → @LT.lt Nat _ b Dl := fun b o e => hD ▸ Heap.lt_size e
  have iC : @LT.lt Nat _ Dl C := by rw [hC]; exact Nat.lt_succ_self _
  have hacc : h₁.get? Dl = some (lst []) := hsb₁.extBut _ _ (Nat.ne_of_lt iC) (Heap.get?_push_of_some _ (by rw [← hH2, ← hD]; exact Heap.get?_push_size _ rfl))
  have hLD : @LT.lt Nat _ env.locals Dl := hD ▸ F.ns.lt
  have hD₀ : h₀.get? Dl = none := fresh₀ _ (Nat.le_refl _)
  have hC₀ : h₀.get? C = none := fresh₀ _ (Nat.le_of_lt iC)
  have hnl : ∀ p ∈ news, @LT.lt Nat _ p.1 Dl := fun p hp => lt1 _ _ (N p hp).1
  have zlt : ∀ b, b = z ∨ b = TI ∨ b = TO ∨ b = i1 ∨ b = i2 ∨ b = l1 → @LT.lt Nat _ b Dl := by
    rintro b (rfl | rfl | rfl | rfl | rfl | rfl)
    · exact lt1 _ _ Z.z
    · exact lt1 _ _ Z.ti
    · obtain ⟨_, _, e⟩ := Z.to; exact lt1 _ _ e
    · obtain ⟨_, e, _⟩ := Z.i1; exact lt1 _ _ e
    · obtain ⟨_, e, _⟩ := Z.i2; exact lt1 _ _ e
    · obtain ⟨_, e, _⟩ := Z.l; exact lt1 _ _ e
  have zlt4 : ∀ b, b = z ∨ b = TO ∨ b = i1 ∨ b = i2 → @LT.lt Nat _ b Dl := fun b hb => zlt b (by rcases hb with rfl | rfl | rfl | rfl <;> simp)
  have loop : codeAny (model prog w) A (.compLoop (.ListComp elt [⟨.Tuple [.Name x px, .Name x₂ px₂] tkn tp, iter, [], 0⟩] scope pos) 0 (.ref z) (.ref Dl) (compEnvC scope cl C env))
      (compPost (model prog w) A E (some (assign (.Name y py) env)) (fun _ s' => Q .next s') (.ref Dl) C) { s₁ with heap := h₁, toks := s₁.toks + ([] : List (Str × Value)).length } := by
    refine LCp.codeAny_compLoop_pair
      (fun k s' => ∃ h' tk i ys mC, s' = { s₁ with heap := h', toks := tk } ∧ i ≤ xs.size ∧ k = xs.size + 1 - i ∧ ys.length = i ∧ ZS h' z TI TO i1 i2 l1 xs S u i .none ∧ Fr h₀ env.locals h' m ∧ h'.Ns C mC ∧ News h₀ env.locals h' ((Dl, lst ys) :: news) ∧ J i ys) ?_ (xs.size + 1)
      ⟨h₁, _, 0, [], _, rfl, Nat.zero_le _, rfl, rfl, Z.at fun b _ o e => old b o e, F.keeps old, hns₁, fun p hp => ?_, h0⟩
    · rintro k s' ⟨h', tk, i, ys, mC, rfl, hi, rfl, hyl, Z', F', hn', N', hJ⟩
      by_cases hlt : i < xs.size
      · refine zs_next D Z' (x := xs[i]) (c := S.cps[i]) (by simp [hlt]) (by simp [show i < S.cps.size by omega]) fun h₂ t Z₂ hT₂ hk₂ => ?_
        generalize hTn : ({ s₁ with heap := h', toks := tk } : Shared).heap.objs.size = T at *
        have hTn' : h'.objs.size = T := hTn
        have hTl : @LT.lt Nat _ C T := hTn' ▸ hn'.lt
        have hT4 : ∀ b, b = z ∨ b = TI ∨ b = TO ∨ b = i1 ∨ b = i2 ∨ b = l1 → b ≠ T := fun b hb => Nat.ne_of_lt (Nat.lt_trans (zlt b hb) (Nat.lt_trans iC hTl))
        refine wpAny_letOwnedTupleGo_zip (T := T) Z₂.z fun h₃ hz₃ hs₃ => ?_
        have hT₃ : IsPair h₃ T xs[i] (.str ⟨#[S.cps[i]]⟩ t) := hs₃.extBut _ _ (Ne.symm (hT4 z (by simp))) hT₂
        have Z₃ : ZS h₃ z TI TO i1 i2 l1 xs S u (i + 1) .none := ⟨hz₃, hs₃.extBut _ _ D.TIz Z₂.ti, let ⟨a, b, e⟩ := Z₂.to; ⟨a, b, hs₃.extBut _ _ D.TOz e⟩, Z₂.i1.extBut hs₃.extBut D.i1z, asc_ext Z₂.i2 hs₃.extBut D.i2z, Z₂.l.extBut hs₃.extBut D.l1z⟩
        refine assign_Tuple_tuple hh ⟨_, hT₃, rfl, _, rfl⟩ rfl rfl fun h₅ he => ?_
        have he' : ∀ b o, h₃.get? b = some o → h₅.get? b = some o := fun b o e => he b o (Nat.ne_of_lt (Heap.lt_size e)) e
        have k5 : ∀ b o, b ≠ z → b ≠ TO → b ≠ i1 → b ≠ i2 → h'.get? b = some o → h₅.get? b = some o := fun b o c1 c2 c3 c4 e => he' _ _ (hs₃.extBut _ _ c1 (hk₂ b o c1 c2 c3 c4 e))
        have cne : ∀ b, b = z ∨ b = TO ∨ b = i1 ∨ b = i2 → C ≠ b := fun b hb => Nat.ne_of_gt (Nat.lt_trans (zlt4 b hb) iC)
        refine assignInOrder_cons (wpAny_assign_Name (wpAny_storeName_local (lookup_relabel_local hx) (hn'.at' fun o e => k5 _ _ (cne z (by simp)) (cne TO (by simp)) (cne i1 (by simp)) (cne i2 (by simp)) e) (fun h₆ hn₆ hs₆ => ?_) (by simp [compEnvC, relabel, hkind])))
        refine assignInOrder_cons (wpAny_assign_Name (wpAny_storeName_local (lookup_relabel_local hx₂) hn₆ (fun h₇ hn₇ hs₇ => ?_) (by simp [compEnvC, relabel, hkind])))
        refine assignInOrder_nil ?_
        have old7 : ∀ b o, b ≠ C → h₃.get? b = some o → h₇.get? b = some o := fun b o hb e => hs₇.extBut b o hb (hs₆.extBut b o hb (he' b o e))
        have k7 : ∀ b o, b ≠ C → b ≠ z → b ≠ TO → b ≠ i1 → b ≠ i2 → h'.get? b = some o → h₇.get? b = some o := fun b o c0 c1 c2 c3 c4 e => old7 _ _ c0 (hs₃.extBut _ _ c1 (hk₂ b o c1 c2 c3 c4 e))
        have Z₇ : ZS h₇ z TI TO i1 i2 l1 xs S u (i + 1) .none := Z₃.at fun b hb o e => old7 b o (Nat.ne_of_lt (Nat.lt_trans (zlt b hb) iC)) e
        have off0 : ∀ b o, h₀.get? b = some o → b ≠ C ∧ b ≠ z ∧ b ≠ TO ∧ b ≠ i1 ∧ b ≠ i2 := fun b o e => by
          refine ⟨fun q => ?_, fun q => ?_, fun q => ?_, fun q => ?_, fun q => ?_⟩
          · rw [q, hC₀] at e; exact nomatch e
          · rw [q, (off z (by simp)).1] at e; exact nomatch e
          · rw [q, (off TO (by simp)).1] at e; exact nomatch e
          · rw [q, (off i1 (by simp)).1] at e; exact nomatch e
          · rw [q, (off i2 (by simp)).1] at e; exact nomatch e
        have F₇ : Fr h₀ env.locals h₇ m := ⟨F'.ns.at' fun o e => k7 _ _ (Nat.ne_of_lt (Nat.lt_trans hLD iC)) (Ne.symm (off z (by simp)).2.1) (Ne.symm (off TO (by simp)).2.1) (Ne.symm (off i1 (by simp)).2.1) (Ne.symm (off i2 (by simp)).2.1) e,
          fun b o e => let q := off0 b o e; k7 b o q.1 q.2.1 q.2.2.1 q.2.2.2.1 q.2.2.2.2 (F'.keep b o e), F'.above⟩
        have N₇ : News h₀ env.locals h₇ ((Dl, lst ys) :: news) := fun p hp => by
          have zp := N' p hp
          refine ⟨k7 _ _ ?_ ?_ ?_ ?_ ?_ zp.1, zp.2⟩
          · rcases List.mem_cons.mp hp with rfl | hp
            · exact Nat.ne_of_lt iC
            · exact Nat.ne_of_lt (Nat.lt_trans (hnl p hp) iC)
          all_goals
            rcases List.mem_cons.mp hp with rfl | hp
            · exact Nat.ne_of_gt (zlt4 _ (by simp))
            · exact (off _ (by simp)).2.2 p hp
        obtain ⟨oC, heC, hoC⟩ := ns_obj hn₇
        refine wpAny_mono (turn i xs[i] S.cps[i] t ys C oC h₇ _ _ _ (by simp [hlt]) (by simp [show i < S.cps.size by omega]) hJ F₇ (fun p hp => by
          rcases List.mem_cons.mp hp with rfl | hp
          · exact ⟨heC, Nat.ne_of_gt (Nat.lt_trans hLD iC), hC₀⟩
          · exact N₇ p (List.mem_cons_of_mem _ hp)) hoC (by simp [hxx]) (by simp)) (fun yv s₄ h₄ => ?_) fun _ _ e => e
        obtain ⟨tk₄, rfl, hJ₄⟩ := h₄
        refine append_at (hsz := by show ys.toArray.size ≤ sizeLine; rw [List.size_toArray, hyl]; exact Nat.le_trans hi hsz) (N₇ (Dl, lst ys) (.head _)).1 fun h₈ hs₈ hD₈ => ?_
        refine ⟨xs.size + 1 - (i + 1), by omega, h₈, tk₄, i + 1, ys ++ [yv], _, rfl, hlt, rfl, by rw [List.length_append, List.length_singleton, hyl], Z₇.at fun b hb o e => hs₈.extBut b o (Nat.ne_of_lt (zlt b hb)) e, F₇.change hs₈ (Nat.ne_of_gt hLD) hD₀, hn₇.sameBut hs₈ (Nat.ne_of_gt iC), fun p hp => ?_, hJ₄⟩
        rcases List.mem_cons.mp hp with rfl | hp
        · exact ⟨hD₈.trans (congrArg some (lst_snoc ys yv)), Nat.ne_of_gt hLD, hD₀⟩
        · exact ⟨hs₈.extBut _ _ (Nat.ne_of_lt (hnl p hp)) (N₇ p (.tail _ hp)).1, (N₇ p (.tail _ hp)).2⟩
      · obtain rfl : i = xs.size := Nat.le_antisymm hi (Nat.not_lt.mp hlt)
        refine zs_end hh D Z' (by simp) fun h₂ hk₂ => ?_
        have k2 : ∀ b o, h'.get? b = some o → (∀ c, c = z ∨ c = TO ∨ c = i1 ∨ c = i2 → b ≠ c) → h₂.get? b = some o := fun b o e q => hk₂ b o (q z (by simp)) (q TO (by simp)) (q i1 (by simp)) (q i2 (by simp)) e
        have F₂ : Fr h₀ env.locals h₂ m := ⟨F'.ns.at' fun o e => k2 _ _ e fun c hc => Ne.symm (off c hc).2.1, fun b o e => k2 b o (F'.keep b o e) fun c hc q => by rw [q, (off c hc).1] at e; exact (nomatch e), F'.above⟩
        have N₂ : News h₀ env.locals h₂ ((Dl, lst ys) :: news) := fun p hp => by
          refine ⟨k2 _ _ (N' p hp).1 fun c hc => ?_, (N' p hp).2⟩
          rcases List.mem_cons.mp hp with rfl | hp
          · exact Nat.ne_of_gt (zlt4 c hc)
          · exact (off c hc).2.2 p hp
        have hn₂ : h₂.Ns C mC := hn'.at' fun o e => k2 _ _ e fun c hc => Nat.ne_of_gt (Nat.lt_trans (zlt4 c hc) iC)
        show wpAny _ A (assign (.Name y py) env (.ref Dl)) _ _ _
        refine wpAny_assign_Name (wpAny_storeName_local hy F₂.ns (fun h₃ hn₃ hs₃ => ?_) hp)
        have hL₀ : h₀.get? env.locals = none := Heap.get?_none_of_le F₂.above
        have hCL : C ≠ env.locals := Nat.ne_of_gt (Nat.lt_trans hLD iC)
        have F₃ : Fr h₀ env.locals h₃ (fun z => if z = y then some (.ref Dl) else m z) := ⟨hn₃, fun b o e => hs₃.extBut b o (fun q => by rw [q, hL₀] at e; cases e) (F₂.keep b o e), F₂.above⟩
        refine ⟨mC, hn₂.sameBut hs₃ hCL, fun h'' hs'' => fin Dl h'' _ ys hJ (F₃.change hs'' hCL hC₀) (fun p hp => ?_) hnl⟩
        have zp : h₃.get? p.1 = some p.2 := hs₃.extBut _ _ (N₂ p hp).2.1 (N₂ p hp).1
        refine ⟨hs''.extBut _ _ ?_ zp, (N₂ p hp).2⟩
        rcases List.mem_cons.mp hp with rfl | hp
        · exact Nat.ne_of_lt iC
        · exact Nat.ne_of_lt (Nat.lt_trans (hnl p hp) iC)
    · rcases List.mem_cons.mp hp with rfl | hp
      · exact ⟨hacc, Nat.ne_of_gt hLD, hD₀⟩
      · exact ⟨old _ _ (N p hp).1, (N p hp).2⟩
  exact codeAny_compStart_list loop (wpAny_pyIter_zip (Z.at fun b _ o e => old b o e).z loop)
end
end Mine
end
section
open PySem PySem.W PyProof.Rows PySem.Calls
set_option maxRecDepth 100000
set_option maxHeartbeats 4000000
namespace Mine
structure RanSt (prog : Program) (w : World) (A : Around) (E : Value → Shared → Prop) (env : Env) (x : Str) (px : Pos) (body : List Stmt) (Q : Flow → Shared → Prop) (I : Addr) (a : Int) (n : Nat) (St : Nat → Shared → Prop) : Prop where
  here : ∀ i s, St i s → IsRangeIter s.heap I (a + (i : Nat) * 1) ((n : Int) - (i : Nat)) 1
  turn : ∀ i s t tk, St i s → i < n → ∀ h₂, IsRangeIter h₂ I (a + ((i + 1 : Nat) : Nat) * 1) ((n : Int) - ((i + 1 : Nat) : Nat)) 1 → (∀ b o, b ≠ I → s.heap.get? b = some o → h₂.get? b = some o) → wpAny (model prog w) A (assign (.Name x px) env (.int (a + (i : Int)) t)) (fun _ s₂ => wpAny (model prog w) A (execs body env) (FlowSt (St (i + 1)) Q) E s₂) E { s with heap := h₂, toks := tk }
  done : ∀ s, St n s → ∀ h₂ tk, (∀ b o, b ≠ I → s.heap.get? b = some o → h₂.get? b = some o) → Q .next { s with heap := h₂, toks := tk }
def RanAt (prog : Program) (w : World) (A : Around) (E : Value → Shared → Prop) (env : Env) (x : Str) (px : Pos) (body : List Stmt) (Q : Flow → Shared → Prop) (it : Value) (s : Shared) : Prop :=
  ∃ I a n St, it = .ref I ∧ RanSt prog w A E env x px body Q I a n St ∧ St 0 s
section
variable {prog : Program} {w : World} {A : Around} {E : Value → Shared → Prop} {s : Shared} {env : Env}
theorem for_range {x : Str} {px : Pos} {iter : Expr} {body : List Stmt} {pos : Pos} {Q : Flow → Shared → Prop} (hh : A.handled = none)
    (h : wpAny (model prog w) A (eval iter env) (fun xv s₁ => wpAny (model prog w) A (pyIter xv) (fun it s₂ => RanAt prog w A E env x px body Q it s₂) E s₁) E s)
    (hs : ∀ x, foldedSetIterable iter env x = pure x := by intro _; rfl)
    (hE : PassesOwn (model prog w) A env E := by passes_own) :
    wpAny (model prog w) A (exec (.For (.Name x px) iter body [] pos) env) Q E s := by
  refine wpAny_For (wpAny_mono h (fun xv s₁ h₁ => wpAny_mono h₁ (fun it s₂ h₂ => ?_) fun _ _ e => e) fun _ _ e => e) hs
  obtain ⟨I, a, n, St, rfl, F, st0⟩ := h₂
  have W := LCg.range_walks (prog := prog) (w := w) (A := A) (I := I) hh a n
  refine codeAny_forLoop_any (fun k s' => ∃ i, St i s' ∧ i ≤ n ∧ k = n - i) ?_ n ⟨0, st0, Nat.zero_le _, rfl⟩
  rintro k s' ⟨i, st, hi, rfl⟩
  have hit := F.here i s' st
  by_cases hlt : i < n
  · refine W.item i _ _ _ hlt hit fun v h₂ tk₂ hPv hit₂ hk₂ => ?_
    obtain ⟨t, rfl⟩ := hPv
    refine wpAny_of_eq (a := ()) rfl ?_
    refine wpAny_mono (F.turn i s' t tk₂ st hlt h₂ hit₂ fun b o hb e => hk₂ b o (by simpa using hb) e) (fun _ s₃ h₃ => wpAny_mono h₃ (fun f s₄ h₄ => ?_) fun _ _ e => hE _ _ e) fun _ _ e => hE _ _ e
    cases f with
    | ret v => exact h₄
    | brk => exact h₄
    | next => exact ⟨n - (i + 1), by omega, i + 1, h₄, hlt, rfl⟩
    | cont => exact ⟨n - (i + 1), by omega, i + 1, h₄, hlt, rfl⟩
  · have hin : i = n := by omega
    subst hin
    refine W.done _ _ _ hit fun h₂ tk₂ hk₂ => ?_
    exact wpAny_execs_nil (F.done s' st h₂ tk₂ fun b o hb e => hk₂ b o (by simpa using hb) e)
end
/-- What the ledger says when one object of it has been changed. -/
theorem news_upd {h₀ h h' : Heap} {L c : Addr} {o o' : Obj} {news new : List (Addr × Obj)} (N : News h₀ L h news) (hm : (c, o) ∈ news) (ho : h'.get? c = some o') (hk : ∀ b ob, b ≠ c → h.get? b = some ob → h'.get? b = some ob)
    (hn : ∀ p ∈ new, p = (c, o') ∨ (p ∈ news ∧ p.1 ≠ c)) : News h₀ L h' new := fun p hp => by
  rcases hn p hp with rfl | ⟨hp', hne⟩
  · exact ⟨ho, (N _ hm).2⟩
  · exact ⟨hk _ _ hne (N p hp').1, (N p hp').2⟩
theorem fr_upd {h₀ h h' : Heap} {L c : Addr} {o : Obj} {m : Str → Option Value} {news : List (Addr × Obj)} (F : Fr h₀ L h m) (N : News h₀ L h news) (hm : (c, o) ∈ news) (hk : ∀ b ob, b ≠ c → h.get? b = some ob → h'.get? b = some ob) : Fr h₀ L h' m := by
  have z := N _ hm
  refine ⟨F.ns.at' fun o e => hk _ _ (Ne.symm z.2.1) e, fun b ob e => hk _ _ (fun q => ?_) (F.keep b ob e), F.above⟩
  have z2 := z.2.2
  rw [← q, e] at z2
  exact nomatch z2
/-- At the law's own level no caller's frame turns: the base heap stays. -/
theorem fr_back {h₀ h₀' h h' : Heap} {L : Addr} {m m' : Str → Option Value} (T : KtsTurn [] h₀ h₀') (F : Fr h₀ L h m) (F' : Fr h₀' L h' m') : Fr h₀ L h' m' :=
  ⟨F'.ns, fun b o e => F'.keep b o (T.other b o e (by simp)), F.above⟩
theorem news_back {h₀ h₀' h' : Heap} {L : Addr} {news : List (Addr × Obj)} (T : KtsTurn [] h₀ h₀') (N : News h₀' L h' news) : News h₀ L h' news := fun p hp => by
  have z := N p hp
  refine ⟨z.1, z.2.1, ?_⟩
  cases q : h₀.get? p.1 with
  | none => rfl
  | some o => have := T.other _ _ q (by simp); rw [z.2.2] at this; exact nomatch this
end Mine
end
section
open PySem PySem.W PyProof.Rows PySem.Calls
set_option maxRecDepth 100000
set_option maxHeartbeats 4000000
namespace Mine
/-- The fixed addresses of the law's loop lie apart. -/
structure AD (I L D R M : Addr) : Prop where
  i2 : @Ne Nat I (L + 1 + 1)
  i1 : @Ne Nat I (L + 1)
  iD : @Ne Nat I D
  iR : @Ne Nat I R
  iM : @Ne Nat I M
  d2 : @Ne Nat D (L + 1 + 1)
  d1 : @Ne Nat D (L + 1)
  dR : @Ne Nat D R
  dM : @Ne Nat D M
  r2 : @Ne Nat R (L + 1 + 1)
  r1 : @Ne Nat R (L + 1)
  rM : @Ne Nat R M
  m2 : @Ne Nat M (L + 1 + 1)
  m1 : @Ne Nat M (L + 1)
/-- The state of the law's loop. -/
structure LW (base : Heap) (L I D R M : Addr) (ms rs : List Value) (ls : List (List Str)) (h : Heap) (m : Str → Option Value) (vs : Array Value) (c : Nat) (oI oR oL : Obj) (extra : List (Addr × Obj)) : Prop where
  fr : Fr base L h m
  ns : News base L h ((I, oI) :: (L + 1 + 1, oR) :: (L + 1, oL) :: (D, PySem.W.listOf vs c) :: (R, LCg.lst rs) :: (M, LCg.lst ms) :: extra)
  ex : ∀ p ∈ extra, @Ne Nat p.1 I ∧ @Ne Nat p.1 (L + 1 + 1) ∧ @Ne Nat p.1 (L + 1) ∧ @Ne Nat p.1 D ∧ @Ne Nat p.1 R ∧ @Ne Nat p.1 M
  dR : ∃ v, oR.data = .cell v
  dL : oL.data = .cell (some (.ref D))
  kept : KeptIn extra vs.toList ls
  mr : m (Str.ofString "rows") = some (.ref R)
  mm : m (Str.ofString "modes") = some (.ref M)
abbrev ranI (i : Nat) : Obj := { cls := .type "range_iterator", dict := none, data := .fields #[rawInt ((0 : Int) + (i : Nat) * 1), rawInt (((6 : Nat) : Int) - (i : Nat)), rawInt 1], slots := #[] }
section
variable {base : Heap} {L I D R M : Addr} {ms rs : List Value} {ls : List (List Str)} {h h₂ : Heap} {m : Str → Option Value} {vs : Array Value} {c : Nat} {oI oI' oR oR' oL : Obj} {extra : List (Addr × Obj)}
theorem LW.iter (C : LW base L I D R M ms rs ls h m vs c oI oR oL extra) (A : AD I L D R M) (gI : h₂.get? I = some oI') (hk : ∀ b o, b ≠ I → h.get? b = some o → h₂.get? b = some o) : LW base L I D R M ms rs ls h₂ m vs c oI' oR oL extra := by
  refine ⟨fr_upd C.fr C.ns (.head _) hk, news_upd C.ns (.head _) gI hk fun p hp => ?_, C.ex, C.dR, C.dL, C.kept, C.mr, C.mm⟩
  rcases List.mem_cons.mp hp with rfl | hp'
  · exact .inl rfl
  · refine .inr ⟨.tail _ hp', ?_⟩
    rcases List.mem_cons.mp hp' with rfl | hp'
    · exact Ne.symm A.i2
    rcases List.mem_cons.mp hp' with rfl | hp'
    · exact Ne.symm A.i1
    rcases List.mem_cons.mp hp' with rfl | hp'
    · exact Ne.symm A.iD
    rcases List.mem_cons.mp hp' with rfl | hp'
    · exact Ne.symm A.iR
    rcases List.mem_cons.mp hp' with rfl | hp'
    · exact Ne.symm A.iM
    · exact (C.ex p hp').1
theorem LW.right (C : LW base L I D R M ms rs ls h m vs c oI oR oL extra) (A : AD I L D R M) (gR : h₂.get? (L + 1 + 1) = some oR') (dR : ∃ v, oR'.data = .cell v) (hk : ∀ b o, b ≠ L + 1 + 1 → h.get? b = some o → h₂.get? b = some o) : LW base L I D R M ms rs ls h₂ m vs c oI oR' oL extra := by
  refine ⟨fr_upd C.fr C.ns (.tail _ (.head _)) hk, news_upd C.ns (.tail _ (.head _)) gR hk fun p hp => ?_, C.ex, dR, C.dL, C.kept, C.mr, C.mm⟩
  rcases List.mem_cons.mp hp with rfl | hp'
  · exact .inr ⟨.head _, A.i2⟩
  rcases List.mem_cons.mp hp' with rfl | hp'
  · exact .inl rfl
  rcases List.mem_cons.mp hp' with rfl | hp'
  · exact .inr ⟨.tail _ (.tail _ (.head _)), Nat.ne_of_lt (Nat.lt_succ_self _)⟩
  rcases List.mem_cons.mp hp' with rfl | hp'
  · exact .inr ⟨.tail _ (.tail _ (.tail _ (.head _))), A.d2⟩
  rcases List.mem_cons.mp hp' with rfl | hp'
  · exact .inr ⟨.tail _ (.tail _ (.tail _ (.tail _ (.head _)))), A.r2⟩
  rcases List.mem_cons.mp hp' with rfl | hp'
  · exact .inr ⟨.tail _ (.tail _ (.tail _ (.tail _ (.tail _ (.head _))))), A.m2⟩
  · exact .inr ⟨.tail _ (.tail _ (.tail _ (.tail _ (.tail _ (.tail _ hp'))))), (C.ex p hp').2.1⟩
end
def LawSt (base : Heap) (L I D R M : Addr) (ms rs : List Value) (ps : List Nat) (s : Shared) (i : Nat) (s' : Shared) : Prop :=
  ∃ h tk m vs c oR oL extra, s' = { s with heap := h, toks := tk } ∧ LW base L I D R M ms rs ((ps.take i).map lackN) h m vs c (ranI i) oR oL extra
end Mine
end
section
open PySem PySem.W PyProof.Rows PySem.Calls
set_option maxRecDepth 100000
set_option maxHeartbeats 4000000
namespace Mine
def sixAt (f : Nat → Bool) (i : Nat) : Str := ⟨#[if f i then letter i else 45]⟩
theorem item_six0 (f : Nat → Bool) {i : Nat} (hi : i < 6) : Txt.item (six f) (0 + (i : Int)) = sixAt f i := by
  match i, hi with
  | 0, _ => rfl
  | 1, _ => rfl
  | 2, _ => rfl
  | 3, _ => rfl
  | 4, _ => rfl
  | 5, _ => rfl
section
variable {prog : Program} {w : World} {A : Around} {E : Value → Shared → Prop} {s : Shared}
theorem item_six {value slice : Expr} {f : Nat → Bool} {i : Nat} {t u : Tok} {Q : Value → Shared → Prop} (hi : i < 6) (h : ∀ k t', Q (.str (sixAt f i) t') { s with toks := k })
    (hs : subscripted slice false (.str (six f) t) (.int (0 + (i : Int)) u) = operate [.str (six f) t, .int (0 + (i : Int)) u] (getItem (.str (six f) t) (.int (0 + (i : Int)) u)) := by with_unfolding_all rfl)
    (ht : ∀ r, letTemporaryGo value (.str (six f) t) r = pure () := by intro _; with_unfolding_all rfl) :
    wpAny (model prog w) A (subscriptTail value slice (.str (six f) t) (.int (0 + (i : Int)) u)) Q E s := by
  have z : (six f).length = 6 := rfl
  refine PyProof.Rows.item_str (fitsSsize_of (N := 9223372036854775808) (by omega) (by omega) (Int.le_refl _)) (by omega) (by omega) (fun _ => ?_) hs ht
  rw [item_six0 f hi]
  exact h _ _
end
theorem bit_pat0 : ∀ a b c d : Bool, bitSet ((if a then 1 else 0) + (if b then 2 else 0) + (if c then 4 else 0) + (if d then 8 else 0)) 0 = a ∧ bitSet ((if a then 1 else 0) + (if b then 2 else 0) + (if c then 4 else 0) + (if d then 8 else 0)) 1 = b ∧ bitSet ((if a then 1 else 0) + (if b then 2 else 0) + (if c then 4 else 0) + (if d then 8 else 0)) 2 = c ∧ bitSet ((if a then 1 else 0) + (if b then 2 else 0) + (if c then 4 else 0) + (if d then 8 else 0)) 3 = d := by decide
theorem bit_pat (ms : List Int) (r : Nat) {j : Nat} (hj : j < 4) : bitSet (pat ms r) j = has (ms.getD j 0) r := by
  have h := bit_pat0 (has (ms.getD 0 0) r) (has (ms.getD 1 0) r) (has (ms.getD 2 0) r) (has (ms.getD 3 0) r)
  unfold pat
  match j, hj with
  | 0, _ => exact h.1
  | 1, _ => exact h.2.1
  | 2, _ => exact h.2.2.1
  | 3, _ => exact h.2.2.2
theorem letter_of {i : Nat} (hi : i < 6) : Letter (letter i) := by
  match i, hi with
  | 0, _ => exact .inl rfl
  | 1, _ => exact .inr (.inl rfl)
  | 2, _ => exact .inr (.inr rfl)
  | 3, _ => exact .inl rfl
  | 4, _ => exact .inr (.inl rfl)
  | 5, _ => exact .inr (.inr rfl)
theorem abcd_iter : strIterType (Str.ofString "abcd") = "str_ascii_iterator" := if_pos (by decide +kernel)
theorem abcd_get {j c : Nat} (h : (Str.ofString "abcd").cps[j]? = some c) : c = 97 + j := by
  match j with
  | 0 => exact (Option.some.inj h).symm
  | 1 => exact (Option.some.inj h).symm
  | 2 => exact (Option.some.inj h).symm
  | 3 => exact (Option.some.inj h).symm
  | n + 4 =>
    have : (Str.ofString "abcd").cps[n + 4]? = none := by
      rw [Array.getElem?_eq_none]
      show 4 ≤ n + 4
      omega
    rw [this] at h
    exact nomatch h
theorem strs_get : ∀ {vs : List Value} {ss : List Str} {i : Nat} {v : Value}, StrsAre vs ss → vs[i]? = some v → ∃ x t, ss[i]? = some x ∧ v = .str x t
  | _, _, 0, v, .cons n t _, e => ⟨n, t, rfl, (Option.some.inj e).symm⟩
  | _, _, i + 1, v, .cons n t r, e => strs_get r (i := i) (by simpa using e)
end Mine
namespace Mine
theorem strs_range_snoc {ys : List Value} {f : Nat → Str} {j : Nat} {y : Str} {t : Tok} (h : StrsAre ys ((List.range j).map f)) (e : y = f j) : StrsAre (ys ++ [.str y t]) ((List.range (j + 1)).map f) := by
  rw [List.range_succ, List.map_append]
  subst e
  exact strs_end h
theorem letter_ne {i : Nat} (hi : i < 6) : letter i ≠ 45 := by
  rcases letter_of hi with h | h | h <;> rw [h] <;> decide
theorem six_hyph {f : Nat → Bool} {i : Nat} (hi : i < 6) (h : (sixAt f i == Str.ofString "-") = true) : f i = false := by
  cases hf : f i with
  | false => rfl
  | true =>
    have e : sixAt f i = Str.ofString "-" := by simpa using h
    unfold sixAt at e
    rw [hf] at e
    have e2 : (#[letter i] : Array Nat) = #[45] := congrArg Str.cps e
    have e3 : letter i = 45 := by simpa using e2
    exact absurd e3 (letter_ne hi)
theorem six_let {f : Nat → Bool} {i : Nat} (h : (sixAt f i == Str.ofString "-") = false) : f i = true := by
  cases hf : f i with
  | true => rfl
  | false =>
    exfalso
    have e : sixAt f i = Str.ofString "-" := by unfold sixAt; rw [hf]; rfl
    rw [e] at h
    simp at h
theorem wrt_no {ms : List Int} {i j : Nat} (hi : i < 6) (hj : j < 4) (h : (sixAt (has (ms.getD j 0)) i == Str.ofString "-") = true) : Str.ofString "." ++ ⟨#[97 + j]⟩ = wrt (letter i) (pat ms i) j := by
  unfold wrt
  rw [bit_pat ms i hj, six_hyph hi h]
  rfl
theorem wrt_yes {ms : List Int} {i j : Nat} (hj : j < 4) (h : (sixAt (has (ms.getD j 0)) i == Str.ofString "-") = false) : sixAt (has (ms.getD j 0)) i ++ ⟨#[97 + j]⟩ = wrt (letter i) (pat ms i) j := by
  unfold wrt sixAt
  rw [bit_pat ms i hj, six_let h]
  rfl
theorem wrts_range (c p : Nat) : (List.range 4).map (wrt c p) = wrts c p := rfl
end Mine
end
section
open PySem PySem.W PyProof.Rows PySem.Calls
set_option maxRecDepth 100000
set_option maxHeartbeats 4000000
namespace Mine
theorem rising_pw : ∀ (l : List Str) (p : Str), risingS p l = true → (p :: l).Pairwise (fun a b => ¬ b.cps.toList < a.cps.toList)
  | [], p, _ => by simp
  | x :: r, p, h => by
    have h' : (!Spec.ltCps x.cps.toList p.cps.toList && risingS x r) = true := h
    rw [Bool.and_eq_true, Bool.not_eq_true', ltCps_eq, decide_eq_false_iff_not] at h'
    have ih := rising_pw r x h'.2
    refine List.pairwise_cons.mpr ⟨fun y hy => ?_, ih⟩
    rcases List.mem_cons.mp hy with rfl | hy
    · exact h'.1
    · exact List.not_lt.mpr (List.le_trans (List.not_lt.mp h'.1) (List.not_lt.mp (List.rel_of_pairwise_cons ih hy)))
theorem sortedS_pw : ∀ {l : List Str}, sortedS l = true → l.Pairwise (fun a b => ¬ b.cps.toList < a.cps.toList)
  | [], _ => .nil
  | x :: r, h => rising_pw r x h
theorem sorted_uniq {a b : List Str} (ha : sortedS a = true) (hb : sortedS b = true) (hp : a.Perm b) : a = b :=
  List.Perm.eq_of_pairwise (fun _ _ _ _ h1 h2 => str_ext (eq_of_not h2 h1)) (sortedS_pw ha) (sortedS_pw hb) hp
def unset (p : Nat) : List Nat := (List.range 4).filter (fun i => !bitSet p i)
def srtW (c p : Nat) : List Str := (unset p).map (fun i => (⟨#[46, 97 + i]⟩ : Str)) ++ ((List.range 4).filter (bitSet p)).map (fun i => ⟨#[c, 97 + i]⟩)
def srtS (c p : Nat) : List Str := (unset p).map (fun i => (⟨#[46, 46, 97 + i]⟩ : Str)) ++ ((List.range 4).filter (bitSet p)).map (fun i => ⟨#[c, 97 + i]⟩)
def dot1 (p : Nat) : List Str := (unset p).map (fun i => (⟨#[46, 97 + i]⟩ : Str))
def dot2 (p : Nat) : List Str := (unset p).map (fun i => (⟨#[46, 46, 97 + i]⟩ : Str))
def turnOk (c p : Nat) : Bool := decide ((srtW c p).Perm (wrts c p)) && sortedS (srtW c p) && decide ((srtS c p).Perm (snts c p)) && sortedS (srtS c p) && decide (Rising (srtW c p)) && decide (Rising (srtS c p)) && decide (lacks (srtW c p) (srtS c p) = dot1 p) && decide (lacks (srtS c p) (srtW c p) = dot2 p) && decide ((Txt.join crlf (snts c p)).length ≤ 900)
theorem turn_all : ∀ c : Fin 3, ∀ p : Fin 16, turnOk (#[114, 119, 120][c.val]!) p.val = true := by decide +kernel
structure TurnF (c p : Nat) : Prop where
  pw : (srtW c p).Perm (wrts c p)
  sw : sortedS (srtW c p) = true
  ps : (srtS c p).Perm (snts c p)
  ss : sortedS (srtS c p) = true
  rw_ : Rising (srtW c p)
  rs_ : Rising (srtS c p)
  l1 : lacks (srtW c p) (srtS c p) = dot1 p
  l2 : lacks (srtS c p) (srtW c p) = dot2 p
  len : (Txt.join crlf (snts c p)).length ≤ 900
theorem turn_of {c p : Nat} (hc : Letter c) (hp : p < 16) : TurnF c p := by
  have h : turnOk c p = true := by
    rcases hc with rfl | rfl | rfl
    · exact turn_all 0 ⟨p, hp⟩
    · exact turn_all 1 ⟨p, hp⟩
    · exact turn_all 2 ⟨p, hp⟩
  unfold turnOk at h
  simp only [Bool.and_eq_true, decide_eq_true_iff] at h
  obtain ⟨⟨⟨⟨⟨⟨⟨⟨a, b⟩, c1⟩, d⟩, e⟩, f⟩, g⟩, i⟩, j⟩ := h
  exact ⟨a, b, c1, d, e, f, g, i, j⟩
theorem dot2_of (p : Nat) : dot2 p = (dot1 p).map (fun r => Str.ofString "." ++ r) := by
  unfold dot2 dot1
  rw [List.map_map]
  rfl
theorem lackN_of (p : Nat) : lackN p = (dot1 p).map (fun r => Txt.slice r (some 1) none) := by
  unfold lackN dot1 unset
  rw [List.map_map]
  refine List.map_congr_left fun i _ => ?_
  exact (slice1 46 (97 + i)).symm
theorem dot1_len (p : Nat) : (dot1 p).length ≤ 4 := by
  unfold dot1 unset
  rw [List.length_map]
  exact Nat.le_trans (List.length_filter_le _ _) (by simp)
theorem lackN_ok0 : ∀ p : Fin 16, Rising (lackN p.val) ∧ (lackN p.val).length < 1000 := by decide +kernel
theorem lackN_ok {p : Nat} (hp : p < 16) : Rising (lackN p) ∧ (lackN p).length < 1000 := lackN_ok0 ⟨p, hp⟩
section
variable {prog : Program} {w : World} {A : Around} {E : Value → Shared → Prop} {s : Shared} {h₀ : Heap} {L : Addr} {m : Str → Option Value} {news : List (Addr × Obj)}
theorem splitK {c p : Nat} {t u : Tok} {Q : Value → Shared → Prop} (hc : Letter c) (hp : p < 16) (F : Fr h₀ L s.heap m) (N : News h₀ L s.heap news)
    (h : ∀ D vs h' k, Fr h₀ L h' m → News h₀ L h' ((D, PySem.W.listOf vs.toArray 0) :: news) → (∀ q ∈ news, @LT.lt Nat _ q.1 D) → StrsAre vs (snts c p) → Q (.ref D) { s with heap := h', toks := k }) :
    wpAny (model prog w) A (call (.builtin "str.split") [.str (Txt.join crlf (snts c p)) t, .str (Str.ofString "\r\n") u]) Q E s := by
  have e : Str.ofString "\r\n" = crlf := by decide +kernel
  rw [e]
  refine splitN1 F N rfl (fun l h' k hl F' N' => ?_) (sizeLine_small (by have := (turn_of hc hp).len; omega))
  have e2 := split_of hc hp
  refine h _ (strValues l) h' k F' N' (fun q hq => Heap.lt_size (N q hq).1) ?_
  have := strsAre_of_values l
  rwa [hl, e2] at this
end
end Mine
namespace Mine
theorem shaped_strs {xs : List Str} (h : Oks xs) : SeqAt.shaped (.list (xs.map .str)) = true := by
  unfold SeqAt.shaped
  rw [Bool.and_eq_true, decide_eq_true_iff]
  refine ⟨by simp only [PyData.canLay0]; exact canLay_strs xs h, ?_⟩
  have := depth_strs xs
  simp only [PyData.depth]
  omega
section
variable {prog : Program} {w : World} {A : Around} {E : Value → Shared → Prop} {s : Shared}
theorem eq_strs {a b : Addr} {va vb : List Value} {xs ys : List Str} {Q : Value → Shared → Prop} (ha : s.heap.IsList a va.toArray) (hb : s.heap.IsList b vb.toArray) (hx : StrsAre va xs) (hy : StrsAre vb ys) (ox : Oks xs) (oy : Oks ys) (hu : A.units + 64 < cLine)
    (h : Q (.bool (decide (xs = ys))) s) : wpAny (model prog w) A (compareOp .Eq (.ref a) (.ref b)) Q E s := by
  refine eq_dataH (reads_strs ha hx) (reads_strs hb hy) (shaped_strs ox) (shaped_strs oy) hu ?_
  rw [eqv_strs]
  exact h
theorem ne_strs {a b : Addr} {va vb : List Value} {xs ys : List Str} {Q : Value → Shared → Prop} (ha : s.heap.IsList a va.toArray) (hb : s.heap.IsList b vb.toArray) (hx : StrsAre va xs) (hy : StrsAre vb ys) (ox : Oks xs) (oy : Oks ys) (hu : A.units + 64 < cLine)
    (h : Q (.bool (!decide (xs = ys))) s) : wpAny (model prog w) A (compareOp .NotEq (.ref a) (.ref b)) Q E s := by
  refine ne_dataH (reads_strs ha hx) (reads_strs hb hy) (shaped_strs ox) (shaped_strs oy) hu ?_
  rw [eqv_strs]
  exact h
end
theorem dot2_ok0 : ∀ p : Fin 16, ∀ x ∈ dot2 p.val, PyData.strOk x = true := by decide +kernel
theorem dot2_ok {p : Nat} (hp : p < 16) : Oks (dot2 p) := dot2_ok0 ⟨p, hp⟩
theorem six_ok0 : ∀ a b c d e f : Bool, PyData.strOk ⟨#[if a then 114 else 45, if b then 119 else 45, if c then 120 else 45, if d then 114 else 45, if e then 119 else 45, if f then 120 else 45]⟩ = true := by decide +kernel
theorem six_ok (f : Nat → Bool) : PyData.strOk (six f) = true := six_ok0 _ _ _ _ _ _
end Mine
namespace Mine
section
variable {prog : Program} {w : World} {A : Around} {E : Value → Shared → Prop} {s : Shared} {h₀ : Heap} {L : Addr} {m : Str → Option Value} {news : List (Addr × Obj)}
theorem sortK {l : Addr} {vs : List Value} {ss tt : List Str} {Q : Value → Shared → Prop} (F : Fr h₀ L s.heap m) (N : News h₀ L s.heap news) (hl : s.heap.IsList l vs.toArray) (hS : StrsAre vs ss) (h64 : ss.length < 64) (ht : sortedS tt = true) (hp : tt.Perm ss)
    (h : ∀ D vs' k h', Fr h₀ L h' m → News h₀ L h' ((D, PySem.W.listOf (List.toArray vs') k) :: news) → (∀ q ∈ news, @LT.lt Nat _ q.1 D) → StrsAre vs' tt → Q (.ref D) { s with heap := h' }) : wpAny (model prog w) A (call (.builtin "sorted") [.ref l]) Q E s := by
  refine sorted_N_str F N hl hS (by rw [hS.len_eq]; exact h64) fun h' vs' ss' e F' N' hs' p' o' => ?_
  obtain rfl := sorted_uniq o' ht (p'.trans hp.symm)
  exact h _ vs' e h' F' N' (fun q hq => Nat.lt_succ_of_lt (Heap.lt_size (N q hq).1)) hs'
end
end Mine
namespace Mine
theorem dot1_get {p j : Nat} {x : Str} (h : (dot1 p)[j]? = some x) : ∃ k, x = ⟨#[46, 97 + k]⟩ := by
  unfold dot1 at h
  rw [List.getElem?_map] at h
  cases e : (unset p)[j]? with
  | none => rw [e] at h; exact nomatch h
  | some k => rw [e] at h; exact ⟨k, (Option.some.inj h).symm⟩
end Mine
namespace Mine
theorem lack_succ {ms : List Int} {i : Nat} (hi : i < 6) : ((pats ms).take (i + 1)).map lackN = ((pats ms).take i).map lackN ++ [lackN (pat ms i)] := by
  have e : (pats ms)[i]? = some (pat ms i) := by
    unfold pats
    rw [List.getElem?_map, List.getElem?_range hi]
    rfl
  rw [List.take_add_one, e, List.map_append]
  rfl
end Mine
namespace Mine
section
variable {prog : Program} {w : World} {A : Around} {E : Value → Shared → Prop} {s : Shared} {h₀ : Heap} {L : Addr} {m : Str → Option Value} {news : List (Addr × Obj)}
theorem sortK2 {l : Addr} {vs : List Value} {ss : List Str} {Q : Value → Shared → Prop} (F : Fr h₀ L s.heap m) (N : News h₀ L s.heap news) (hl : s.heap.IsList l vs.toArray) (hS : StrsAre vs ss) (h64 : ss.length < 64)
    (h : ∀ D vs' k tt h', Fr h₀ L h' m → News h₀ L h' ((D, PySem.W.listOf (List.toArray vs') k) :: news) → (∀ q ∈ news, @LT.lt Nat _ q.1 D) → StrsAre vs' tt → tt.Perm ss → sortedS tt = true → Q (.ref D) { s with heap := h' }) : wpAny (model prog w) A (call (.builtin "sorted") [.ref l]) Q E s :=
  sorted_N_str F N hl hS (by rw [hS.len_eq]; exact h64) fun h' vs' ss' e F' N' hs' p' o' => h _ vs' e ss' h' F' N' (fun q hq => Nat.lt_succ_of_lt (Heap.lt_size (N q hq).1)) hs' p' o'
end
theorem mem_mid {α : Type} {p d : α} {e n1 n2 : List α} (h : p ∈ d :: (n1 ++ (e ++ n2))) : p ∈ d :: (e ++ (n1 ++ n2)) := by
  simp only [List.mem_cons, List.mem_append] at h ⊢
  rcases h with h | h | h | h
  · exact .inl h
  · exact .inr (.inr (.inl h))
  · exact .inr (.inl h)
  · exact .inr (.inr (.inr h))
theorem lists_of {h : Heap} {a : Addr} {lv : List Value} {ls : List (List Str)} (hl : h.IsList a lv.toArray) (x : ListsV h lv ls) : Lists h a ls := ⟨lv, hl, x.1, x.2⟩
theorem lack_all (ms : List Int) : ∀ x ∈ (pats ms).map lackN, Rising x ∧ x.length < 1000 := fun x hx => by
  obtain ⟨p, hp, rfl⟩ := List.mem_map.mp hx
  exact lackN_ok (pats_all ms p hp)
theorem cuts_eq (ms : List Int) : cutsOf ((pats ms).map lackN) = (masks (pats ms)).map cutN := (cutsOf_masks (pats_all ms)).1
theorem cutN_len (c : Nat) : (cutN c).length ≤ 4 := by
  unfold cutN
  rw [List.length_map]
  exact Nat.le_trans (List.length_filter_le _ _) (by simp)
theorem row_get {ms : List Int} {j : Nat} {x : List Str} (h : ((masks (pats ms)).map cutN)[j]? = some x) : x.length < 1000 ∧ ((masks (pats ms)).map (rowM (pats ms)))[j]? = some (rowT x ((pats ms).map lackN)) := by
  rw [List.getElem?_map] at h ⊢
  cases e : (masks (pats ms))[j]? with
  | none => rw [e] at h; exact nomatch h
  | some k =>
    rw [e] at h
    have hx : cutN k = x := Option.some.inj h
    subst hx
    have hk : k < 16 := (cutsOf_masks (pats_all ms)).2 k (List.mem_of_getElem? e)
    refine ⟨Nat.lt_of_le_of_lt (cutN_len k) (by decide), ?_⟩
    rw [rowT_mask hk (pats_all ms) (pats_len ms)]
    rfl
theorem shared_in {ms : List Int} (hm : ∀ i, i < 4 → In64 (ms.getD i 0)) {x : Int} (h : x ∈ sharedL ms 16) : In64 x := by
  obtain ⟨k, _, rfl⟩ := (shared_mem 16).mp h
  exact (bits_has hm k 4 (Nat.le_refl _)).1
theorem oks_rows {ms : List Int} {tt : List Str} (h : tt.Perm ((sharedL ms 16).map (fun x => six (has x)))) : Oks tt := fun x hx => by
  obtain ⟨b, _, rfl⟩ := List.mem_map.mp (h.mem_iff.mp hx)
  exact six_ok _
end Mine
namespace Mine
theorem oks_six {l : List Int} {tt : List Str} (h : tt.Perm (l.map (fun x => six (has x)))) : Oks tt := fun x hx => by
  obtain ⟨b, _, rfl⟩ := List.mem_map.mp (h.mem_iff.mp hx)
  exact six_ok _
end Mine
end
section
open PySem PySem.W PyProof.Rows PySem.Calls
set_option maxRecDepth 100000
set_option maxHeartbeats 8000000
namespace Mine
local macro_rules | `(tactic| walk_at "exec Assign cons ListComp") => `(tactic| (refine hold ?_))
local macro_rules | `(tactic| walk_at "eval ListComp") => `(tactic| (refine hold ?_))
local macro_rules | `(tactic| walk_at "CompSrc") => `(tactic| (refine hold ?_))
local macro_rules | `(tactic| walk_at "exec For Name Call cons nil") => `(tactic| (k_here; (with_unfolding_all refine' for_range ?hh ?_; (case hh => with_unfolding_all rfl); k_whole)))
local macro_rules | `(tactic| walk_at "pyIter ref") => `(tactic| (refine hold ?_))
local macro_rules | `(tactic| walk_at "call type:zip") => `(tactic| (refine hold ?_))
local macro_rules | `(tactic| walk_at "subscriptTail Name Name str int") => `(tactic| (k_here; (refine' item_six ?hi ?_ ?hs ?ht; (case hi => assumption); (case hs => with_unfolding_all rfl); (case ht => intro _; with_unfolding_all rfl)); intro k9 t9))
local macro_rules | `(tactic| walk_at "call builtin:str.split") => `(tactic| (refine hold ?_))
local macro_rules | `(tactic| walk_at "call builtin:sorted") => `(tactic| (refine hold ?_))
local macro_rules | `(tactic| walk_at "compareOp NotEq ref ref") => `(tactic| (refine hold ?_))
local macro_rules | `(tactic| walk_at "call builtin:list.append") => `(tactic| (refine hold ?_))
local macro_rules | `(tactic| walk_at "compareOp Eq ref ref") => `(tactic| (refine hold ?_))
local macro_rules | `(tactic| walk_at "call ref") => `(tactic| (refine hold ?_))
local macro_rules | `(tactic| walk_at "subscriptTail Name Slice ref ref") => `(tactic| (k_here; k_dflt (refine' slice_ints2 ?hF ?hN ?hm ?hi ?h0 ?hz ?_ ?hs ?ht; (case hF => k_asm); (case hN => k_asm); (case hm => k_mem); (case hi => exact .cons _ _ (.cons _ _ (.cons _ _ (.cons _ _ .nil)))); (case h0 => exact Int.natCast_nonneg _); (case hz => exact Nat.le_of_ble_eq_true rfl); (case hs => with_unfolding_all rfl); (case ht => kmk_pure)); intro D9 h9 ws9 F9 N9 l9 i9; (try k_lt l9)))
theorem law_main (w : World) (dp un : Nat) (gd : Option (List Code)) (mean : ExcName → Option Value) (mg mb : Str → Option Value) (base : Heap) (s : Shared) (ns : List Int) (la : Addr) (lv : List Value) (L fa : Addr) (c : Value) (o1 o2 : Obj) (Q : Flow → Shared → Prop)
    {name qual : Str} {params : Arguments} {body : List Stmt} {scope : Scope} {dV kV doc pm cdv ct oc : Value} {an od : Option Addr} {osl : Array (Option Value)}
    (hroom : dp + 8 < recursionLimit) (hun : un + 100 < cLine)
    (X : (hd.heap_39 w.params).In base) (T : Top hd.view_39 lo mean mg mb base)
    (ho : (hd.heap_39 w.params).lookup 126 = some ⟨oc, od, .func (fnOf name qual params body scope dV kV doc pm an cdv ct), osl⟩)
    (F : Fr base L s.heap (fun y => if y = Str.ofString "script" then some (.ref la) else none))
    (N : News base L s.heap [(L + 1 + 1, o2), (L + 1, o1)]) (d1 : o1.data = .cell none) (d2 : o2.data = .cell none)
    (hla : base.IsList la lv.toArray) (hI : IntsAre lv ns) (hlen : ns.length ≤ 63)
    (hret : ∀ h' tk, (∀ b o, base.get? b = some o → h'.get? b = some o) → Q (.ret (.bool true)) { s with heap := h', toks := tk }) :
    wpAny (model PySem.Challenge.rw_un0005_01.row.prog w) (Around.deeper { handled := none, depth := dp, frames := some [], guards := gd, units := un } (envOfC qual scope L fa c)) (execs body (envOfC qual scope L fa c)) Q (fun _ _ => False) s := by
  w_top off
  revert X ho; k_fill; intro X ho
  refine' same_body ho ?k6 ?_; (case k6 => k_is)
  clear ho
  have B0 : base.StaysIn base := fun _ _ e => e
  have BF : base.FunFrames base [] := trivial
  k_steps
  refine LCg.Assign_ListComp_U (F₀ := by k_asm) (by rfl) (by with_unfolding_all rfl) (by with_unfolding_all rfl) (by decide) (by rfl) (by decide) (by rfl) (by rfl) (by rfl) ?_
  k_steps
  rename_i D9 ws9 h9 i9 c9 z9 la9 l9 h8 l8 D8 h7 ws8 i8 l7 D1 ws1 h1 F1 N1 i1 l1
  have N1' : News base L h1 [(D1, PySem.W.listOf ws1.toArray 0), (L + 1 + 1, o2), (L + 1, o1)] := fun p hp => N1 p (by
    rcases List.mem_cons.mp hp with rfl | hp
    · exact .head _
    · exact .tail _ (.tail _ (.tail _ (.tail _ hp))))
  have fi : IntsAre ws1 (four ns) := four_eq ns ▸ i1
  have fl : ws1.length = 4 := (ints_len fi).trans (four_len ns)
  clear N1 i1 l1 l7 i8 l8 z9 c9 i9 la9
  refine LCg.CompSrc.ledger (its := ws1.toArray) (k := 0) rfl F1 N1' (.head _) (sizeLine_small (by rw [List.size_toArray]; omega)) fun g => ?_
  refine restJ (n := ws1.toArray.size) (fun i ys => IntsAre ys ((modes ns).take i)) (Or.inr ⟨_, .head _, rfl, _, rfl⟩) ?turn ?fin ws1.toArray.size 0 [] rfl .nil
  case turn =>
    intro i v ys I oI C oC D m2 h tk E' hP hi hJ hC hx F2 N2 off ne
    obtain ⟨v4, t4, e4, rfl⟩ := ints_get fi (show ws1[i]? = some v by simpa using hP)
    k_steps
    exact ⟨_, _, rfl, by assumption, by assumption, ints_take_snoc hJ (modes_get e4)⟩
  case fin =>
    intro ms hJ
    rw [show ws1.toArray.size = (modes ns).length by rw [List.size_toArray, fl, modes_len], List.take_of_length_le (Nat.le_refl _)] at hJ
    intro D2 h2 tk2 F2 N2 o12
    have N2' : News base L h2 [(D2, LCg.lst ms), (L + 1 + 1, o2), (L + 1, o1)] := fun p hp => N2 p (by
      rcases List.mem_cons.mp hp with rfl | hp
      · exact .head _
      · exact .tail _ (.tail _ hp))
    have lD2 := o12
    clear N2 o12
    dsimp only
    k_steps
    refine LCg.Assign_ListComp_U (F₀ := F2) (by rfl) (by with_unfolding_all rfl) (by with_unfolding_all rfl) (by decide) (by rfl) (by decide) (by rfl) (by rfl) (by rfl) ?_
    k_steps
    have ml : ms.length = 4 := (ints_len hJ).trans (modes_len ns)
    refine LCg.CompSrc.ledger (its := ms.toArray) rfl F2 N2' (.head _) (sizeLine_small (by rw [List.size_toArray]; omega)) fun g2 => ?_
    refine restJ (n := ms.toArray.size) (fun i ys => StrsAre ys (((modes ns).map fun b => six (has b)).take i)) (Or.inr ⟨_, .head _, rfl, _, rfl⟩) ?turn2 ?fin2 ms.toArray.size 0 [] rfl .nil
    case turn2 =>
      intro i v ys I oI C oC D m2 h tk E' hP hi hJ2 hC hx F3 N3 off ne
      obtain ⟨v4, t4, e4, rfl⟩ := ints_get hJ (show ms[i]? = some v by simpa using hP)
      have hb : In64 v4 := modes_in' e4
      k_steps
      with_unfolding_all refine' fm_spec _ _ _ _ _ _ _ _ _ _ _ _ _ _ _ _ _ v4 _ hb.1 hb.2 B0 BF rfl (fun q => nomatch q) F3 N3 X T ?room ?_
      case room =>
        show dp + 1 + 1 < recursionLimit
        omega
      intro h5 tk5 t5 F5 N5
      k_steps
      refine ⟨_, _, rfl, by assumption, by assumption, ?_⟩
      rw [slice4]
      exact strs_take_snoc hJ2 (by rw [List.getElem?_map, e4]; rfl)
    case fin2 =>
      intro rs hJ2
      rw [show ms.toArray.size = ((modes ns).map fun b => six (has b)).length by rw [List.size_toArray, ml, List.length_map, modes_len], List.take_of_length_le (Nat.le_refl _)] at hJ2
      intro D3 h3 tk3 F3 N3 o13
      have a1 : @Ne Nat D2 D3 := o13.1
      have a2 : @Ne Nat (L + 1 + 1) D3 := o13.2.1
      have a3 : @Ne Nat (L + 1) D3 := o13.2.2.1
      have a4 : @Ne Nat (L + 1 + 1) D2 := lD2.2.1
      have a5 : @Ne Nat (L + 1) D2 := lD2.2.2.1
      clear o13 lD2
      dsimp only
      k_steps
      rename_i D4 h4 l4 h5 oL F5 N5 dL h6 tk6 t6 u6 v6 hR6 F6 N6 k6
      have b1 : @LT.lt Nat _ D3 D4 := l4.1
      have b2 : @LT.lt Nat _ D2 D4 := l4.2.1
      have b3 : @LT.lt Nat _ (L + 1 + 1) D4 := l4.2.2.1
      have b4 : @LT.lt Nat _ (L + 1) D4 := l4.2.2.2
      clear l4 F5 N5 k6
      refine wpAny_pyIter_range hR6 (by decide) ?_
      have lI : ∀ p ∈ ([(D4, PySem.W.listOf #[] 0), (D3, LCg.lst rs), (D2, LCg.lst ms), (L + 1 + 1, o2), (L + 1, oL)] : List (Addr × Obj)), @LT.lt Nat _ p.1 h6.objs.size := fun p hp => Heap.lt_size (N6 p hp).1
      have newI : base.get? h6.objs.size = none := ktu_new F6 (Nat.le_refl _)
      have nLI : h6.objs.size ≠ L := Nat.ne_of_gt F6.ns.lt
      have F7 := F6.push { cls := .type "range_iterator", data := .fields #[rawInt 0, rawInt (Builtin.Range.rangeSize 0 6 1), rawInt 1] }
      have up7 : ∀ b o, h6.get? b = some o → (h6.push { cls := .type "range_iterator", data := .fields #[rawInt 0, rawInt (Builtin.Range.rangeSize 0 6 1), rawInt 1] }).get? b = some o := fun b o e => Heap.get?_push_of_some _ e
      have gI : (h6.push { cls := .type "range_iterator", data := .fields #[rawInt 0, rawInt (Builtin.Range.rangeSize 0 6 1), rawInt 1] }).get? h6.objs.size = some (ranI 0) := Heap.get?_push_size _ rfl
      dsimp only
      generalize h6.push { cls := .type "range_iterator", data := .fields #[rawInt 0, rawInt (Builtin.Range.rangeSize 0 6 1), rawInt 1] } = h7 at *
      generalize h6.objs.size = I at *
      have c1 : @LT.lt Nat _ D4 I := lI _ (.head _)
      have ad : AD I L D4 D3 D2 := by
        constructor <;> omega
      clear lI
      refine ⟨_, 0, 6, LawSt base L I D4 D3 D2 ms rs (pats (modes ns)) s, rfl, ⟨?here, ?turn3, ?done⟩, ?start⟩
      case here =>
        rintro i s' ⟨h, tk, m, vs, c, oR, oL, extra, rfl, C⟩
        exact (C.ns _ (.head _)).1
      case start =>
        refine ⟨_, _, _, #[], 0, o2, oL, [], rfl, F7, fun p hp => ?_, fun p hp => (nomatch hp), ⟨_, d2⟩, dL, ⟨rfl, fun i l hl => ?_⟩, rfl, rfl⟩
        · rcases List.mem_cons.mp hp with rfl | hp
          · exact ⟨gI, nLI, newI⟩
          · have z := N6 p (by
              simp only [List.mem_cons, List.not_mem_nil, or_false] at hp ⊢
              rcases hp with rfl | rfl | rfl | rfl | rfl
              · exact .inr (.inr (.inr (.inl rfl)))
              · exact .inr (.inr (.inr (.inr rfl)))
              · exact .inl rfl
              · exact .inr (.inl rfl)
              · exact .inr (.inr (.inl rfl)))
            exact ⟨up7 _ _ z.1, z.2⟩
        · rw [List.take_zero] at hl
          exact nomatch hl
      case done =>
        rintro s' ⟨h, tk, m, vs, c, oR, oL, extra, rfl, C⟩ h8 tk8 hk8
        have lsE : ((pats (modes ns)).take 6).map lackN = (pats (modes ns)).map lackN := by rw [List.take_of_length_le (by rw [pats_len]; decide)]
        have hkept := C.kept
        rw [lsE] at hkept
        have kl : ((pats (modes ns)).map lackN).length = 6 := by rw [List.length_map, pats_len]
        have N8 : News base L h8 ((L + 1 + 1, oR) :: (L + 1, oL) :: (D4, PySem.W.listOf vs c) :: (D3, LCg.lst rs) :: (D2, LCg.lst ms) :: extra) := fun p hp => by
          have z := C.ns p (.tail _ hp)
          refine ⟨hk8 _ _ ?_ z.1, z.2⟩
          rcases List.mem_cons.mp hp with rfl | hp
          · exact Ne.symm ad.i2
          rcases List.mem_cons.mp hp with rfl | hp
          · exact Ne.symm ad.i1
          rcases List.mem_cons.mp hp with rfl | hp
          · exact Ne.symm ad.iD
          rcases List.mem_cons.mp hp with rfl | hp
          · exact Ne.symm ad.iR
          rcases List.mem_cons.mp hp with rfl | hp
          · exact Ne.symm ad.iM
          · exact (C.ex p hp).1
        have F8 := chain2 (fr_upd C.fr C.ns (.head _) hk8) C.mr C.mm
        have e1 := C.dL
        clear C
        dsimp only
        k_steps
        refine LCg.Assign_ListComp_U (F₀ := F8) (by rfl) (by with_unfolding_all rfl) (by with_unfolding_all rfl) (by decide) (by rfl) (by decide) (by rfl) (by rfl) (by rfl) ?_
        k_steps
        with_unfolding_all refine' cuts_spec _ _ _ _ _ _ _ _ _ _ _ _ _ _ _ _ _ _ vs.toList _ B0 BF rfl (fun q => nomatch q) F8 N8 X T ?ro ?uo (isListM N8 (.tail _ (.tail _ (.head _)))) (hkept.lists N8 fun p hp => .tail _ (.tail _ (.tail _ (.tail _ (.tail _ hp))))) ?six (lack_all (modes ns)) ?_
        case ro =>
          show dp + 1 + 2 < recursionLimit
          omega
        case uo =>
          show un + 3 + 16 < cLine
          omega
        case six => omega
        intro G9 h9 tk9 DC vc cc ex9 T9 _ _ F9 N9 ne9 k9 off9
        replace F9 := fr_back (show KtsTurn [] base G9 from T9) F8 F9
        replace N9 := news_back (show KtsTurn [] base G9 from T9) N9
        rw [cuts_eq] at k9
        have N10 : News base L h9 ((DC, PySem.W.listOf vc cc) :: (L + 1 + 1, oR) :: (L + 1, oL) :: (D4, PySem.W.listOf vs c) :: (D3, LCg.lst rs) :: (D2, LCg.lst ms) :: (ex9 ++ extra)) := fun p hp => N9 p (mem_mid (n1 := [(L + 1 + 1, oR), (L + 1, oL), (D4, PySem.W.listOf vs c), (D3, LCg.lst rs), (D2, LCg.lst ms)]) hp)
        have ml : (masks (pats (modes ns))).length ≤ 16 := by
          have := (rows_perm (modes_in ns)).length_eq
          rw [List.length_map, List.length_map] at this
          rw [this]
          exact sharedL_length _ 16
        have vl : vc.size = (masks (pats (modes ns))).length := by
          have := k9.1
          rwa [Array.length_toList, List.length_map] at this
        clear T9 N9 ne9 off9
        dsimp only
        refine LCg.CompSrc.ledger (its := vc) rfl F9 N10 (.head _) (sizeLine_small (by omega)) fun g10 => ?_
        refine restJ (n := vc.size) (fun j zs => StrsAre zs (((masks (pats (modes ns))).map (rowM (pats (modes ns)))).take j)) (Or.inr ⟨_, .head _, rfl, _, rfl⟩) ?turn7 ?fin7 vc.size 0 [] rfl .nil
        case turn7 =>
          intro j v zs I5 oI5 C5 oC5 D5 m5 h5 tk5 E5 hP5 hj5 hJ5 hC5 hx5 F11 N11 off5 ne5
          have hjl : j < ((masks (pats (modes ns))).map cutN).length := by rw [List.length_map, ← vl]; exact hj5
          obtain ⟨ka, us, ku, e5, m5', s5⟩ := k9.2 j _ (List.getElem?_eq_getElem hjl)
          obtain ⟨gl, gr⟩ := row_get (List.getElem?_eq_getElem hjl)
          obtain rfl : v = .ref ka := by
            have : vc[j]? = some (Value.ref ka) := by simpa using e5
            exact Option.some.inj (hP5.symm.trans this)
          have mem9 : ∀ p, p ∈ ex9 ++ extra → p ∈ ((I5, oI5) :: (C5, oC5) :: (D5, LCg.lst zs) :: (DC, PySem.W.listOf vc cc) :: (L + 1 + 1, oR) :: (L + 1, oL) :: (D4, PySem.W.listOf vs c) :: (D3, LCg.lst rs) :: (D2, LCg.lst ms) :: (ex9 ++ extra) : List (Addr × Obj)) := fun p hp => .tail _ (.tail _ (.tail _ (.tail _ (.tail _ (.tail _ (.tail _ (.tail _ (.tail _ (hp)))))))))
          k_steps
          with_unfolding_all refine' row_spec _ _ _ _ _ _ _ _ _ _ _ _ _ _ _ _ _ _ _ us.toList _ _ B0 BF rfl (fun q => nomatch q) F11 N11 X T ?rr gl (isListM N11 (mem9 _ (List.mem_append_left _ m5'))) s5 (lists_of (isListM N11 (.tail _ (.tail _ (.tail _ (.tail _ (.tail _ (.tail _ (.head _)))))))) (hkept.lists N11 fun p hp => mem9 _ (List.mem_append_right _ hp))) kl ?_
          case rr =>
            show dp + 1 < recursionLimit
            omega
          intro h12 tk12 t12 F12 N12
          k_steps
          exact ⟨_, _, rfl, by assumption, by assumption, strs_take_snoc hJ5 gr⟩
        case fin7 =>
          intro zt hJ7
          rw [vl, show (masks (pats (modes ns))).length = ((masks (pats (modes ns))).map (rowM (pats (modes ns)))).length by rw [List.length_map], List.take_of_length_le (Nat.le_refl _)] at hJ7
          intro DT h13 tk13 F13 N13 oDT
          have N14 : News base L h13 ((DT, LCg.lst zt) :: (D2, LCg.lst ms) :: []) := fun p hp => N13 p (by
            rcases List.mem_cons.mp hp with rfl | hp
            · exact .head _
            · rw [List.mem_singleton.mp hp]
              exact .tail _ (.tail _ (.tail _ (.tail _ (.tail _ (.tail _ (.head _)))))))
          clear oDT N13
          dsimp only
          k_steps
          have tl : ((masks (pats (modes ns))).map (rowM (pats (modes ns)))).length < 64 := by rw [List.length_map]; omega
          refine sortK2 F13 N14 ⟨_, (N14 _ (.head _)).1, rfl, zt.length, rfl⟩ (show StrsAre zt _ from hJ7) tl fun DU wu ku tu h15 F15 N15 lDU hwu pu ou => ?_
          have hpu := pu.trans (rows_perm (modes_in ns))
          dsimp only
          k_steps
          refine LCg.ListComp_U (F₀ := F15) (by with_unfolding_all rfl) (by decide) (by rfl) (by decide) (by rfl) ?_
          k_steps
          with_unfolding_all refine' shared_spec _ _ _ _ _ _ _ _ _ _ _ _ _ _ _ _ _ _ ms (modes ns) B0 BF rfl (fun q => nomatch q) F15 N15 X T ?rs ⟨_, (N15 (D2, LCg.lst ms) (by simp)).1, rfl, ms.length, rfl⟩ hJ (modes_len ns) ?_
          case rs =>
            show dp + 1 < recursionLimit
            omega
          intro h16 tk16 DS vq cq F16 N16 ne16 hq
          have ql : vq.size = (sharedL (modes ns) 16).length := by rw [← ints_len hq, Array.length_toList]
          have q16 := sharedL_length (modes ns) 16
          have qin : ∀ x ∈ sharedL (modes ns) 16, In64 x := fun x hx => shared_in (modes_in ns) hx
          generalize sharedL (modes ns) 16 = SL at *
          dsimp only
          refine LCg.CompSrc.ledger (its := vq) rfl F16 N16 (.head _) (sizeLine_small (by omega)) fun g16 => ?_
          refine restJ (n := vq.size) (fun j zs => StrsAre zs (((SL).map (fun x => six (has x))).take j)) (Or.inr ⟨_, .head _, rfl, _, rfl⟩) ?turn8 ?fin8 vq.size 0 [] rfl .nil
          case turn8 =>
            intro j v zs I5 oI5 C5 oC5 D5 m5 h5 tk5 E5 hP5 hj5 hJ5 hC5 hx5 F17 N17 off5 ne5
            obtain ⟨b5, t5, eb, rfl⟩ := ints_get hq (show vq.toList[j]? = some v by simpa using hP5)
            have hb := qin _ (List.mem_of_getElem? eb)
            k_steps
            with_unfolding_all refine' fm_spec _ _ _ _ _ _ _ _ _ _ _ _ _ _ _ _ _ b5 _ hb.1 hb.2 B0 BF rfl (fun q => nomatch q) F17 N17 X T ?room8 ?_
            case room8 =>
              show dp + 1 + 1 < recursionLimit
              omega
            intro h18 tk18 t18 F18 N18
            k_steps
            refine ⟨_, _, rfl, by assumption, by assumption, ?_⟩
            rw [slice4]
            exact strs_take_snoc hJ5 (by rw [List.getElem?_map, eb]; rfl)
          case fin8 =>
            intro zq hJ8
            rw [ql, show (SL).length = ((SL).map (fun x => six (has x))).length by rw [List.length_map], List.take_of_length_le (Nat.le_refl _)] at hJ8
            intro DQ h19 tk19 F19 N19 oDQ
            dsimp only
            k_steps
            refine sortK2 F19 N19 ⟨_, (N19 _ (.head _)).1, rfl, zq.length, rfl⟩ (show StrsAre zq _ from hJ8) (by rw [List.length_map]; omega) fun DV wv kv tv h20 F20 N20 lDV hwv pv ov => ?_
            dsimp only
            k_steps
            obtain rfl : tu = tv := sorted_uniq ou ov (hpu.trans pv.symm)
            refine eq_strs ⟨_, (N20 _ (.tail _ (.tail _ (.tail _ (.head _))))).1, rfl, ku, rfl⟩ ⟨_, (N20 _ (.head _)).1, rfl, kv, rfl⟩ hwu hwv (oks_six hpu) (oks_six pv) (by show un + 3 + 64 < cLine; omega) ?_
            rw [show decide (tu = tu) = true by simp]
            exact hret h20 _ fun b o e => F20.keep b o e
      case turn3 =>
        rintro i s' t tk ⟨h, tk0, m, vs, c, oR, oL, extra, rfl, C0⟩ hi h8 hit8 hk8
        have C1 := C0.iter ad hit8 hk8
        refine wpAny_assign_Name (wpAny_storeName_cell rfl rfl rfl ⟨oR, (C1.ns (L + 1 + 1, oR) (.tail _ (.head _))).1, C1.dR.choose_spec⟩ fun h9 hv9 hs9 => ?_)
        obtain ⟨oR9, gR9, dR9⟩ := hv9
        have C := C1.right ad gR9 ⟨_, dR9⟩ (fun b o hb e => hs9.extBut b o hb e)
        have F9 := chain2 C.fr C.mr C.mm
        have N9 := C.ns
        have e1 := C.dL
        clear C0 C1 hs9 gR9 hit8 hk8
        dsimp only
        k_steps
        have rl : rs.length = 4 := by rw [hJ2.len_eq, List.length_map, modes_len]
        refine assign_zip (fun j ys => StrsAre ys ((List.range j).map (wrt (letter i) (pat (modes ns) i)))) F9 N9 (by rfl) (by rfl) (by with_unfolding_all rfl) (by with_unfolding_all rfl) (by decide) (by rfl) (by decide) (by rfl) (by rfl) (by decide) (by rfl) (by rfl) ?_
        k_steps
        refine call_zs (xs := rs.toArray) ⟨_, (N9 (D3, LCg.lst rs) (by simp)).1, rfl, _, rfl⟩ abcd_iter fun h10 Z10 z10 k10 => ?_
        have lR : @LT.lt Nat _ D3 h9.objs.size := Heap.lt_size (N9 (D3, LCg.lst rs) (by simp)).1
        refine ⟨_, _, _, _, _, D3, rs.toArray, _, _, rfl, Z10, za_new _ _ lR, ((show 4 = rs.toArray.size by rw [List.size_toArray, rl])), sizeLine_small (by rw [List.size_toArray, rl]; decide), F9.keeps k10, N9.grown k10, fun b hb => ?_, .nil, ?turn4, ?fin4⟩
        · have hb' : @LE.le Nat _ h9.objs.size b := by
            rcases hb with rfl | rfl | rfl | rfl
            · exact Nat.le_add_right _ _
            · exact Nat.le_add_right _ _
            · exact Nat.le_refl _
            · exact Nat.le_add_right _ _
          exact ⟨ktu_new F9 hb', Nat.ne_of_gt (Nat.lt_of_lt_of_le F9.ns.lt hb'), fun p hp => Nat.ne_of_lt (Nat.lt_of_lt_of_le (Heap.lt_size (N9 p hp).1) hb')⟩
        case turn4 =>
          intro j v cc tt ys C' oC h11 tk11 mC E' hv hcc hJ4 F11 N11 hC' hx1 hx2
          obtain ⟨x, tx, ex, rfl⟩ := strs_get hJ2 (show rs[j]? = some v by simpa using hv)
          have hj : j < 4 := by
            have := (Array.getElem?_eq_some_iff.mp hv).1
            rwa [List.size_toArray, rl] at this
          rw [abcd_get hcc] at hx2
          have hxx : x = six (has ((modes ns).getD j 0)) := by
            rw [List.getElem?_map, List.getElem?_eq_getElem (by rw [modes_len]; exact hj)] at ex
            rw [List.getD_eq_getElem?_getD, List.getElem?_eq_getElem (by rw [modes_len]; exact hj)]
            exact (Option.some.inj ex).symm
          subst hxx
          k_steps
          · exact strs_range_snoc hJ4 (wrt_no hi hj (by assumption))
          · exact strs_range_snoc hJ4 (wrt_yes hj (by assumption))
        case fin4 =>
          intro W h11 tk11 ys hJ4 F11 N11 lW
          rw [show rs.toArray.size = 4 by rw [List.size_toArray, rl], wrts_range] at hJ4
          dsimp only
          k_steps
          refine join_listW (ys := wrts (letter i) (pat (modes ns) i)) ⟨_, (N11 _ (.head _)).1, rfl, ys.length, rfl⟩ (by simpa using hJ4) (by decide) (by exact Nat.le_of_ble_eq_true rfl) fun t12 k12 => ?_
          k_steps
          with_unfolding_all refine' quote_spec _ _ _ _ _ _ _ _ _ _ _ _ _ _ _ _ _ (letter i) (pat (modes ns) i) (letter_of hi) (pat_lt _ _) _ B0 BF rfl (fun q => nomatch q) F11 N11 X T ?room2 ?_
          case room2 =>
            show dp + 1 < recursionLimit
            omega
          intro h12 tk12 t13 F12 N12
          dsimp only
          k_steps
          have tf := turn_of (letter_of hi) (pat_lt (modes ns) i)
          refine splitK (letter_of hi) (pat_lt _ _) F12 N12 fun S sp h13 tk13 F13 N13 lS hS => ?_
          dsimp only
          k_steps
          rename_i h14 F14 N14
          refine sortK F14 N14 (l := W) (vs := ys) ⟨_, (N14 (W, LCg.lst ys) (by simp)).1, rfl, _, rfl⟩ hJ4 (by show 4 < 64; decide) tf.sw tf.pw fun WS ws kw h15 F15 N15 lWS hws => ?_
          dsimp only
          k_steps
          refine sortK F15 N15 (l := S) (vs := sp) ⟨_, (N15 (S, PySem.W.listOf sp.toArray 0) (by simp)).1, rfl, _, rfl⟩ hS (by show 4 < 64; decide) tf.ss tf.ps fun SS sv kv h16 F16 N16 lSS hsv => ?_
          dsimp only
          k_steps
          with_unfolding_all refine' sld_spec _ _ _ _ _ _ _ _ _ _ _ _ _ _ _ _ _ _ _ _ _ _ _ B0 BF rfl (fun q => nomatch q) F16 N16 X T ⟨_, (N16 (WS, PySem.W.listOf ws.toArray kw) (by simp)).1, rfl, _, rfl⟩ hws ⟨_, (N16 (SS, PySem.W.listOf sv.toArray kv) (by simp)).1, rfl, _, rfl⟩ hsv tf.rw_ tf.rs_ ?sl1 ?sl2 ?sl3 ?sl4 ?_
          case sl1 =>
            rw [tf.pw.length_eq]
            show 4 < 1000
            decide
          case sl2 =>
            rw [tf.ps.length_eq]
            show 4 < 1000
            decide
          case sl3 =>
            show dp + 1 + 1 < recursionLimit
            omega
          case sl4 =>
            show un + 3 + 8 < cLine
            omega
          intro G17 h17 tk17 tup mA unA vm vu cm cu T17 _ _ F17 N17 lt17 lt18 ne17 hm17 hu17
          rw [tf.l1] at hm17
          rw [tf.l2] at hu17
          replace F17 := fr_back (show KtsTurn [] base G17 from T17) F16 F17
          replace N17 := news_back (show KtsTurn [] base G17 from T17) N17
          clear T17
          dsimp only
          k_steps
          rename_i h18 h19 h20 F20 N20
          have N21 : News base L h20 ((unA, PySem.W.listOf vu cu) :: (mA, PySem.W.listOf vm cm) :: (I, ranI (i + 1)) :: (L + 1 + 1, oR9) :: (L + 1, oL) :: (D4, PySem.W.listOf vs c) :: (D3, LCg.lst rs) :: (D2, LCg.lst ms) :: extra) := fun p hp => N20 p (by
            rcases List.mem_cons.mp hp with rfl | hp
            · exact .tail _ (.head _)
            rcases List.mem_cons.mp hp with rfl | hp
            · exact .tail _ (.tail _ (.head _))
            · exact .tail _ (.tail _ (.tail _ (.tail _ (.tail _ (.tail _ (.tail _ hp)))))))
          have w1 : @Ne Nat D4 mA := (ne17 (D4, PySem.W.listOf vs c) (by simp)).1
          have w2 : @Ne Nat D4 unA := (ne17 (D4, PySem.W.listOf vs c) (by simp)).2.1
          have zm : vm.size = (dot1 (pat (modes ns) i)).length := by rw [← hm17.len_eq, Array.length_toList]
          have zm4 := dot1_len (pat (modes ns) i)
          clear ne17 lSS lWS lS N20
          refine LCg.ListComp_U (F₀ := F20) (by with_unfolding_all rfl) (by decide) (by rfl) (by decide) (by rfl) ?_
          k_steps
          refine LCg.CompSrc.ledger (its := vm) rfl F20 N21 (.tail _ (.head _)) (sizeLine_small (by omega)) fun g21 => ?_
          refine restJ (n := vm.size) (fun j zs => StrsAre zs (((dot1 (pat (modes ns) i)).map (fun r => Str.ofString "." ++ r)).take j)) (Or.inr ⟨_, .tail _ (.head _), rfl, _, rfl⟩) ?turn5 ?fin5 vm.size 0 [] rfl .nil
          case turn5 =>
            intro j v zs I5 oI5 C5 oC5 D5 m5 h5 tk5 E5 hP5 hj5 hJ5 hC5 hx5 F22 N22 off5 ne5
            obtain ⟨x5, t5, ex5, rfl⟩ := strs_get hm17 (show vm.toList[j]? = some v by simpa using hP5)
            obtain ⟨k5, rfl⟩ := dot1_get ex5
            k_steps
            exact ⟨_, _, rfl, by assumption, by assumption, strs_take_snoc hJ5 (by rw [List.getElem?_map, ex5]; rfl)⟩
          case fin5 =>
            intro zs hJ5
            rw [zm, show (dot1 (pat (modes ns) i)).length = ((dot1 (pat (modes ns) i)).map (fun r => Str.ofString "." ++ r)).length by rw [List.length_map], List.take_of_length_le (Nat.le_refl _), ← dot2_of] at hJ5
            intro DB h22 tk22 F22 N22 oDB
            dsimp only
            k_steps
            refine ne_strs (isListM N22 (.tail _ (.head _))) ⟨_, (N22 _ (.head _)).1, rfl, zs.length, rfl⟩ hu17 (by simpa using hJ5) (dot2_ok (pat_lt _ _)) (dot2_ok (pat_lt _ _)) (by show un + 3 + 64 < cLine; omega) ?_
            rw [show (!decide (dot2 (pat (modes ns) i) = dot2 (pat (modes ns) i))) = false by simp]
            k_steps
            have N23 : News base L h22 ((mA, PySem.W.listOf vm cm) :: (I, ranI (i + 1)) :: (L + 1 + 1, oR9) :: (L + 1, oL) :: (D4, PySem.W.listOf vs c) :: (D3, LCg.lst rs) :: (D2, LCg.lst ms) :: extra) := fun p hp => N22 p (.tail _ (.tail _ hp))
            clear oDB N21
            refine LCg.ListComp_U (F₀ := F22) (by with_unfolding_all rfl) (by decide) (by rfl) (by decide) (by rfl) ?_
            k_steps
            refine LCg.CompSrc.ledger (its := vm) rfl F22 N23 (.head _) (sizeLine_small (by omega)) fun g23 => ?_
            refine restJ (n := vm.size) (fun j zs => StrsAre zs ((lackN (pat (modes ns) i)).take j)) (Or.inr ⟨_, .head _, rfl, _, rfl⟩) ?turn6 ?fin6 vm.size 0 [] rfl .nil
            case turn6 =>
              intro j v zs I5 oI5 C5 oC5 D5 m5 h5 tk5 E5 hP5 hj5 hJ5 hC5 hx5 F24 N24 off5 ne5
              obtain ⟨x5, t5, ex5, rfl⟩ := strs_get hm17 (show vm.toList[j]? = some v by simpa using hP5)
              obtain ⟨k5, rfl⟩ := dot1_get ex5
              k_steps
              exact ⟨_, _, rfl, by assumption, by assumption, strs_take_snoc hJ5 (by rw [lackN_of, List.getElem?_map, ex5]; rfl)⟩
            case fin6 =>
              intro zk hJ6
              rw [zm, show (dot1 (pat (modes ns) i)).length = (lackN (pat (modes ns) i)).length by rw [lackN_of, List.length_map], List.take_of_length_le (Nat.le_refl _)] at hJ6
              intro DK h24 tk24 F24 N24 oDK
              dsimp only
              k_steps
              have zvs : vs.size ≤ sizeLine := sizeLine_small (by
                have := C.kept.1
                rw [Array.length_toList, List.length_map, List.length_take] at this
                omega)
              have v1 : @Ne Nat I DK := oDK.2.1
              have v2 : @Ne Nat (L + 1 + 1) DK := oDK.2.2.1
              have v3 : @Ne Nat (L + 1) DK := oDK.2.2.2.1
              have v4 : @Ne Nat D4 DK := oDK.2.2.2.2.1
              have v5 : @Ne Nat D3 DK := oDK.2.2.2.2.2.1
              have v6 : @Ne Nat D2 DK := oDK.2.2.2.2.2.2.1
              have updD := Upd.tail (d := D4) (o := PySem.W.listOf vs c) (o' := PySem.W.listOf (vs.push (.ref DK)) (c + 1)) (p := (DK, LCg.lst zk)) (Ne.symm v4) (Upd.tail (p := (mA, PySem.W.listOf vm cm)) (Ne.symm w1) (Upd.tail (p := (I, ranI (i + 1))) ad.iD (Upd.tail (p := (L + 1 + 1, oR9)) (Ne.symm ad.d2) (Upd.tail (p := (L + 1, oL)) (Ne.symm ad.d1) (Upd.head (r := (D3, LCg.lst rs) :: (D2, LCg.lst ms) :: extra) fun p hp => by
                rcases List.mem_cons.mp hp with rfl | hp
                · exact Ne.symm ad.dR
                rcases List.mem_cons.mp hp with rfl | hp
                · exact Ne.symm ad.dM
                · exact (C.ex p hp).2.2.2.1)))))
              refine append_K F24 N24 updD (fun h25 F25 N25 => ?_) zvs
              dsimp only
              k_steps
              refine ⟨h25, _, _, vs.push (.ref DK), c + 1, oR9, oL, (DK, LCg.lst zk) :: extra, rfl, by assumption, fun p hp => N25 p ?_, fun p hp => ?_, ⟨_, dR9⟩, C.dL, ?_, rfl, rfl⟩
              · rcases List.mem_cons.mp hp with rfl | hp
                · exact .tail _ (.tail _ (.head _))
                rcases List.mem_cons.mp hp with rfl | hp
                · exact .tail _ (.tail _ (.tail _ (.head _)))
                rcases List.mem_cons.mp hp with rfl | hp
                · exact .tail _ (.tail _ (.tail _ (.tail _ (.head _))))
                rcases List.mem_cons.mp hp with rfl | hp
                · exact .tail _ (.tail _ (.tail _ (.tail _ (.tail _ (.head _)))))
                rcases List.mem_cons.mp hp with rfl | hp
                · exact .tail _ (.tail _ (.tail _ (.tail _ (.tail _ (.tail _ (.head _))))))
                rcases List.mem_cons.mp hp with rfl | hp
                · exact .tail _ (.tail _ (.tail _ (.tail _ (.tail _ (.tail _ (.tail _ (.head _)))))))
                rcases List.mem_cons.mp hp with rfl | hp
                · exact .head _
                · exact .tail _ (.tail _ (.tail _ (.tail _ (.tail _ (.tail _ (.tail _ (.tail _ hp)))))))
              · rcases List.mem_cons.mp hp with rfl | hp
                · exact ⟨Ne.symm v1, Ne.symm v2, Ne.symm v3, Ne.symm v4, Ne.symm v5, Ne.symm v6⟩
                · exact C.ex p hp
              · rw [lack_succ hi]
                exact (C.kept.more (DK, LCg.lst zk)).push (us := zk.toArray) (c := zk.length) (.head _) (by simpa using hJ6)
end Mine
end
section
open PySem PySem.W PyProof.Rows PySem.Calls
set_option maxRecDepth 100000
set_option maxHeartbeats 8000000
namespace Mine
theorem g0 : PySem.Challenge.rw_un0005_01.Holds := hd (by
  w_top off
  k_go0
  rename_i w s₀ s₁ mg mb hG hY fa o pm doc ho hg X hX2 hV hGL T hB hTE hTW b11 b10 hM cdv b8 hcd ns hs hlay0 hL1 hr1 hl2 a6 a5 la lv a2 hla ra w1 r0 hI hr hc1 hc2 hK0 hD h₁ tk₁ F o2 o1 d2 d1 N Y
  clear hG hY ho hX2 hV hGL hB hTE hTW hM hcd hD hs hlay0 hL1 hr1 hl2 ra w1 r0 hr hK0 
  refine' wpAny_mono (law_main w _ _ _ _ mg mb s₁.heap _ ns la lv _ fa _ o1 o2 (fun fl s' => fl = .ret (.bool true) ∧ ∃ h' tk, s' = { s₁ with heap := h', toks := tk } ∧ ∀ b o, s₁.heap.get? b = some o → h'.get? b = some o) ?hroom ?hun X T ?hlook ?hF ?hN ?hd1 ?hd2 hla hI ?hlen ?hret) ?hpost (fun _ _ q => q.elim)
  case hlook => k_is
  case hroom => decide +kernel
  case hun => decide +kernel
  case hlen => omega
  case hd1 => exact d1
  case hd2 => exact d2
  case hN => exact N
  case hret => exact fun h' tk k => ⟨rfl, h', tk, rfl, k⟩
  case hF => exact F
  case hpost =>
    rintro f s' ⟨rfl, h', tk, rfl, k⟩
    refine ⟨.inl ⟨.bool true, .bool true, [], rfl, ?p1, ?p2, ?p3, ?p4⟩, k, rfl, hg⟩
    case p1 => exact raisesW_false (by wrow_none_raised)
    case p2 => exact .bool _
    case p3 => wrow_post
    case p4 => exact fun _ => ⟨List.nodup_nil, fun a q => nomatch q⟩)
end Mine
end
theorem PySem.Challenge.cw_un0005_01_holds : PySem.Challenge.rw_un0005_01.Holds := by
  exact Mine.g0
