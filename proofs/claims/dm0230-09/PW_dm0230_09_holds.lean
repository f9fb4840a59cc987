import PyProof.Rows.All
import Wide.All
import OpenK.AllK
import Wide.FinOn
import PySem.Challenge.RW_dm0230_09
open PySem PySem.W PyProof.Rows
set_option Elab.async false
set_option maxRecDepth 100000
set_option maxHeartbeats 8000000
namespace Mine
open_top hd for PySem.Challenge.rw_dm0230_09
abbrev prg : Program := PySem.Challenge.rw_dm0230_09.row.prog
open PySem.Calls PySem.Spec
/-! ## an exception that flies -/
section
/-- an exception's object by its traceback's place -/
structure ExcOb (ob : Value → Obj) : Prop where
  data : ∀ v, ∃ vs, (ob v).data = .fields vs ∧ vs[1]? = some v
  set : ∀ v u, (ob v).mapFields (·.setIfInBounds 1 u) = ob u

/-- e flies: B stays, the frames l stand, e has a traceback of its own at rest; hr: the heap of the raise -/
structure Fly (hr B : Heap) (l : List Env) (e : Addr) (ob : Value → Obj) (fl : Value) (h : Heap) : Prop where
  stays : B.StaysIn h
  new : B.get? e = none
  frames : h.FunFrames B l
  ups : hr.UpToSlots h
  obj : ∃ T oT ts, h.get? e = some (ob (.ref T)) ∧ B.get? T = none ∧ T ≠ e ∧ h.get? T = some oT ∧ oT.data = .fields ts ∧ ts[3]? = some fl

variable {M : Model} {A : Around} {E : Value → Shared → Prop} {s : Shared} {hr B : Heap} {env : Env} {outer l : List Env} {L e : Addr} {ob : Value → Obj} {fl : Value} {Q : Unit → Shared → Prop}

theorem ups_trans_keep {h h' : Heap} (x : hr.UpToSlots h) (k : ∀ b o, h.get? b = some o → (∀ vs, o.data ≠ .fields vs) → ∃ sl, h'.get? b = some { o with slots := sl }) : hr.UpToSlots h' :=
  x.trans k

/-- a new entry of the traceback -/
theorem fly_entry {head : Value} {hadNext : Bool} (hfr : A.frames = some (env :: outer)) (hf : env.frame = some L) (O : ExcOb ob) (hl : s.heap.FunFrames B (env :: outer)) (he : s.heap.get? e = some (ob head))
    (hkb : B.StaysIn s.heap) (hen : B.get? e = none) (hup : hr.UpToSlots s.heap)
    (h : ∀ h', Fly hr B (env :: outer) e ob (rawInt L) h' → Q () { s with heap := h' }) :
    wpAny M A (do let a ← frameOf env; let pl ← entryPlaceOf L hadNext; let b ← EntryCells.newEntry head a .none (rawInt L) .none pl; setField (.ref e) 1 b) Q E s := by
  obtain ⟨vs, hd, h1⟩ := O.data head
  have hsz : 1 < vs.size := (Array.getElem?_eq_some_iff.mp h1).1
  have hene : e ∉ (env :: outer).filterMap (·.frame) := fun hm => by
    obtain ⟨_, o, ho, hnf⟩ := hl.mem hm
    rw [he] at ho; injection ho with ho; subst ho; exact hnf vs hd
  refine wpAny_bind (wpAny_frameOf_fun hfr hl hf fun h₁ hs₁ => ?_)
  refine wpAny_bind (wpAny_entryPlaceOf fun pl hpl => ?_)
  unfold EntryCells.newEntry newFields
  refine wpAny_bind (wpAny_newObj_type ?_ (hpl.sizeOk5 _ _ _ _ _))
  have he₁ : h₁.get? e = some (ob head) := (hs₁.2.1 e hene).trans he
  have kb₁ : B.StaysIn h₁ := fun b o hbo => (hs₁.2.1 b fun hm => by rw [(hl.mem hm).1] at hbo; cases hbo).trans (hkb b o hbo)
  generalize hT : ({ cls := .type "traceback", dict := none, data := .fields ([head, .ref L, .none, rawInt L, .none] ++ (if pl.isEmpty then List.replicate 6 Value.none else pl)).toArray } : Obj) = oT
  have hTd : oT.data = .fields ([head, .ref L, .none, rawInt L, .none] ++ (if pl.isEmpty then List.replicate 6 Value.none else pl)).toArray := by rw [← hT]
  have hTf : oT.isFreed = false := by rw [← hT]; rfl
  have he₂ := Heap.get?_push_of_some (h := h₁) oT he₁
  refine wpAny_setField he₂ hd hsz (h _ ?_)
  have hTe : h₁.objs.size ≠ e := Nat.ne_of_gt (Heap.lt_size he₁)
  have hset := O.set head (.ref h₁.objs.size)
  obtain ⟨vs', hd', _⟩ := O.data (.ref h₁.objs.size)
  have he₃ := Heap.get?_update_self (Obj.mapFields (·.setIfInBounds 1 (Value.ref h₁.objs.size))) he₂ (by rw [hset]; exact Obj.isFreed_of_fields hd')
  rw [hset] at he₃
  have hT₃ := (Heap.get?_update_other (h₁.push oT) (Obj.mapFields (·.setIfInBounds 1 (Value.ref h₁.objs.size))) (Ne.symm hTe)).trans (Heap.get?_push_size h₁ hTf)
  have keep : ∀ b o, b ≠ e → h₁.get? b = some o → ((h₁.push oT).update e (Obj.mapFields (·.setIfInBounds 1 (Value.ref h₁.objs.size)))).get? b = some o := fun b o hbe hb => by
    rw [Heap.get?_update_other _ _ (Ne.symm hbe)]
    exact Heap.get?_push_of_some _ hb
  have noRecord : ∀ b o, s.heap.get? b = some o → (∀ vs, o.data ≠ .fields vs) → b ≠ e := fun b o hb hnf q => by
    rw [q, he] at hb; injection hb with hb; subst hb; exact hnf vs hd
  have kk : ∀ b o, s.heap.get? b = some o → (∀ vs, o.data ≠ .fields vs) → ∃ sl, ((h₁.push oT).update e (Obj.mapFields (·.setIfInBounds 1 (Value.ref h₁.objs.size)))).get? b = some { o with slots := sl } := fun b o hb hnf => by
    obtain ⟨sl, hs⟩ := hs₁.2.2 b o hb
    exact ⟨sl, keep b _ (noRecord b o hb hnf) hs⟩
  refine ⟨fun b o hbo => keep b o (fun q => by rw [q, hen] at hbo; cases hbo) (kb₁ b o hbo), hen, hl.of_keeps fun b o hb hnf => ?_, hup.trans kk, ?_⟩
  · obtain ⟨sl, hs⟩ := kk b o hb hnf
    exact ⟨_, hs, rfl⟩
  · exact ⟨h₁.objs.size, oT, _, he₃, kb₁.fresh, hTe, hT₃, hTd, by first | (simp; done) | (rcases hpl with rfl | ⟨_, _, _, _, _, _, _, rfl⟩ <;> simp)⟩

/-- at rest: its entry's flight is none -/
theorem fly_set (O : ExcOb ob) (F : Fly hr B l e ob fl s.heap) (h : ∀ h', Fly hr B l e ob .none h' → Q () { s with heap := h' }) : wpAny M A (setFlight (.ref e) none) Q E s := by
  obtain ⟨hkb, hen, hl, hup, T, oT, ts, he, hnT, hTe, hT, hdT, h3⟩ := F
  obtain ⟨vs, hd, h1⟩ := O.data (.ref T)
  have hsz3 : 3 < ts.size := (Array.getElem?_eq_some_iff.mp h3).1
  have other : ∀ b, b ≠ T → (s.heap.update T (Obj.mapFields (·.setIfInBounds 3 ((none : Option Addr).elim Value.none fun f => rawInt f)))).get? b = s.heap.get? b :=
    fun b hb => Heap.get?_update_other _ _ (Ne.symm hb)
  have noRecord : ∀ b o, s.heap.get? b = some o → (∀ vs, o.data ≠ .fields vs) → b ≠ T := fun b o hb hnf q => by
    rw [q, hT] at hb; injection hb with hb; subst hb; exact hnf ts hdT
  unfold setFlight
  refine wpAny_bind (wpAny_field he hd h1 ?_)
  rw [if_pos (show (Value.ref T != Value.none) = true from by simp)]
  refine wpAny_setField hT hdT hsz3 (h _ ⟨fun b o hbo => (other b fun q => by rw [q, hnT] at hbo; cases hbo).trans (hkb b o hbo), hen,
    hl.of_keeps fun b o hb hnf => ⟨o, (other b (noRecord b o hb hnf)).trans hb, rfl⟩, hup.trans fun b o hb hnf => ⟨o.slots, (other b (noRecord b o hb hnf)).trans hb⟩, ?_⟩)
  exact ⟨T, _, _, (other e (Ne.symm hTe)).trans he, hnT, hTe, Heap.get?_update_self _ hT (Obj.isFreed_of_fields (Obj.data_mapFields hdT _)), Obj.data_mapFields hdT _, by simp [hsz3]⟩

/-- the frame is noted, from an entry at rest -/
theorem fly_note (O : ExcOb ob) (hfr : A.frames = some (env :: outer)) (hf : env.frame = some L) (F : Fly hr B (env :: outer) e ob .none s.heap)
    (h : ∀ h', Fly hr B (env :: outer) e ob (rawInt L) h' → Q () { s with heap := h' }) : wpAny M A (noteFrame (.ref e) env) Q E s := by
  obtain ⟨hkb, hen, hl, hup, T, oT, ts, he, hnT, hTe, hT, hdT, h3⟩ := F
  obtain ⟨vs, hd, h1⟩ := O.data (.ref T)
  unfold noteFrame
  simp only [hf]
  refine wpAny_bind (wpAny_field he hd h1 ?_)
  rw [if_pos (show (Value.ref T != Value.none) = true from by simp)]
  refine wpAny_bind (wpAny_field hT hdT h3 ?_)
  rw [if_neg (show ¬ ((Value.none == rawInt L) = true) from by simp [rawInt])]
  refine wpAny_bind (wpAny_setField hT hdT (Array.getElem?_eq_some_iff.mp h3).1 ?_)
  have other : ∀ b, b ≠ T → (s.heap.update T (Obj.mapFields (·.setIfInBounds 3 Value.none))).get? b = s.heap.get? b := fun b hb => Heap.get?_update_other _ _ (Ne.symm hb)
  have noRecord : ∀ b o, s.heap.get? b = some o → (∀ vs, o.data ≠ .fields vs) → b ≠ T := fun b o hb hnf q => by
    rw [q, hT] at hb; injection hb with hb; subst hb; exact hnf ts hdT
  exact fly_entry hfr hf O (hl.of_keeps fun b o hb hnf => ⟨o, (other b (noRecord b o hb hnf)).trans hb, rfl⟩) ((other e (Ne.symm hTe)).trans he)
    (fun b o hbo => (other b fun q => by rw [q, hnT] at hbo; cases hbo).trans (hkb b o hbo)) hen (hup.trans fun b o hb hnf => ⟨o.slots, (other b (noRecord b o hb hnf)).trans hb⟩) h

/-- the first frame that it leaves: no traceback yet -/
theorem fly_first (O : ExcOb ob) (hfr : A.frames = some (env :: outer)) (hf : env.frame = some L) (hl : s.heap.FunFrames B (env :: outer)) (he : s.heap.get? e = some (ob .none))
    (hkb : B.StaysIn s.heap) (hen : B.get? e = none) (hup : hr.UpToSlots s.heap)
    (h : ∀ h', Fly hr B outer e ob .none h' → Q () { s with heap := h' }) : wpAny M A (leaving env (.ref e)) Q E s := by
  obtain ⟨vs, hd, h1⟩ := O.data .none
  unfold leaving noteFrame
  simp only [hf]
  refine wpAny_bind (wpAny_bind (wpAny_field he hd h1 ?_))
  rw [if_neg (by decide)]
  refine fly_entry (hr := hr) hfr hf O hl he hkb hen hup fun h₁ F₁ => ?_
  refine fly_set O F₁ fun h₂ F₂ => h h₂ ?_
  exact { F₂ with frames := F₂.frames.2.2 }

/-- a further frame that it leaves -/
theorem fly_next (O : ExcOb ob) (hfr : A.frames = some (env :: outer)) (hf : env.frame = some L) (F : Fly hr B (env :: outer) e ob .none s.heap)
    (h : ∀ h', Fly hr B outer e ob .none h' → Q () { s with heap := h' }) : wpAny M A (leaving env (.ref e)) Q E s := by
  unfold leaving
  refine wpAny_bind (fly_note O hfr hf F fun h₁ F₁ => ?_)
  refine fly_set O F₁ fun h₂ F₂ => h h₂ ?_
  exact { F₂ with frames := F₂.frames.2.2 }
end
/-! ## a def of the text is called -/
section
variable {w : World} {p : Program} {loose : List PySem.Str} {mean : ExcName → Option Value} {mg mb : PySem.Str → Option Value} {g : Heap} {A : Around} {l : List Env} {s : Shared} {R : Result → Shared → Prop} {K : Frag}
    {name qual : PySem.Str} {params : Arguments} {body : List Stmt} {scope : Scope} {dV kV doc pm cdv ct oc : Value} {an od : Option Addr} {osl : Array (Option Value)} {f : Addr} {args : Args} {binds : List (PySem.Str × Value)}

/-- the ground that a frame stands on: the text's own objects, the top -/
structure Gnd (w : World) (p : Program) (loose : List PySem.Str) (mean : ExcName → Option Value) (mg mb : PySem.Str → Option Value) (g : Heap) : Prop where
  X : (hd.heap_39 w.params).In g
  T : Top p loose mean mg mb g

theorem Gnd.keeps {g' : Heap} (G : Gnd w p loose mean mg mb g) (k : g.StaysIn g') : Gnd w p loose mean mg mb g' := ⟨G.X.keeps k, G.T.keeps k⟩

/-- what binding the arguments does -/
def Bound (s : Shared) (fd : FuncData) (args : Args) (P : List (PySem.Str × Value) → Prop) : Prop :=
  ∀ (M : Model) (A : Around) (E : Value → Shared → Prop) (Q : List (PySem.Str × Value) → Shared → Prop), (∀ binds h₁ tk, P binds → (∀ b o, s.heap.get? b = some o → h₁.get? b = some o) → s.heap.objs.size ≤ h₁.objs.size → Q binds { s with heap := h₁, toks := tk }) → wpAny M A (bindArgs fd args) Q E s

theorem Bound.of_eq {fd : FuncData} (h : bindArgs fd args = pure binds) : Bound s fd args (· = binds) :=
  fun _ _ _ _ hq => h ▸ wpAny_pure (hq binds s.heap s.toks rfl (fun _ _ e => e) (Nat.le_refl _))

theorem enterG {P : List (PySem.Str × Value) → Prop} (G : Gnd w p loose mean mg mb g) (B : Below A g l s.heap) (hsz : g.objs.size ≤ s.heap.objs.size)
    (ho : (hd.heap_39 w.params).lookup f = some ⟨oc, od, .func (fnOf name qual params body scope dV kV doc pm an cdv ct), osl⟩) (hcd : codeIn (hd.heap_39 w.params) cdv qual = true) (hroom : A.depth < recursionLimit)
    (hbind : Bound s (fnOf name qual params body scope dV kV doc pm an cdv ct) args P) (hloc : ∀ binds, P binds → ∀ y ∈ binds, scope.names.lookup y.1 = some .local)
    (h : ∀ L h₁ tk binds, P binds → Fr g L h₁ (fun y => binds.reverse.lookup y) → Below (A.deeper (envOf qual scope L f cdv)) g (envOf qual scope L f cdv :: l) h₁ → (∀ b o, s.heap.get? b = some o → h₁.get? b = some o) → s.heap.get? L = none →
      wpAny (model prg w) (A.deeper (envOf qual scope L f cdv)) (execs body (envOf qual scope L f cdv))
        (fun fl s' => R (.ok (.ret (match fl with | .ret v => v | _ => .none))) s')
        (fun e s' => wpAny (model prg w) (A.deeper (envOf qual scope L f cdv)) (leaving (envOf qual scope L f cdv) e) (fun _ s'' => R (.error e) s'') (fun e' s'' => R (.error e') s'') s')
        { s with heap := h₁, toks := tk })
    (hco : scope.isCoroutine = false) (hgen : scope.isGenerator = false) (hk : scope.kind = .function)
    (hcell : ∀ x ∈ scope.names, x.2 ≠ .cell) : codeAny (model prg w) A (.call (.ref f) args) R s := by
  have hgs := B.stays
  refine codeAny_call_function (fd := fnOf name qual params body scope dV kV doc pm an cdv ct) hroom (hgs _ _ (G.X _ _ ho)) rfl hco hgen rfl ((codeRec_of G.X hcd).keeps hgs) (hbind _ _ _ _ fun binds h₁ tk hP hk₁ hle => ?_)
  refine wpAny_newFunctionEnv hcell (hloc binds hP) (fun h₂ hns hsb => ⟨(((G.T.nolimit.keeps hgs).keeps hk₁).fresh _ hsb), codeAny_func ?_⟩) hk
  have hk₂ : ∀ b o, h₁.get? b = some o → h₂.get? b = some o := fun b o e => hsb.extBut b o (Nat.ne_of_lt (Heap.lt_size e)) (Heap.get?_push_of_some _ e)
  have hk₃ : ∀ b o, s.heap.get? b = some o → h₂.get? b = some o := fun b o e => hk₂ b o (hk₁ b o e)
  have F : Fr g h₁.objs.size h₂ (fun y => binds.reverse.lookup y) := ⟨hns, fun b o e => hk₃ b o (hgs b o e), Nat.le_trans hsz hle⟩
  have F₀ : Fr s.heap h₁.objs.size h₂ (fun y => binds.reverse.lookup y) := ⟨hns, hk₃, hle⟩
  refine h h₁.objs.size h₂ _ binds hP F (B.push F₀ hk) hk₃ ?_
  cases q : s.heap.get? h₁.objs.size with
  | none => rfl
  | some o => exact absurd (Nat.lt_of_lt_of_le (Heap.lt_size q) hle) (Nat.lt_irrefl _)
end
/-! ## fields of an exception of the text's class -/
section
open Builtin Builtin.ObjectAttr
abbrev umN : PySem.Str := Str.ofString "_unsupported_msg"
/-- the exception's object: its dict, its arguments, its traceback -/
abbrev uo (d : Option Addr) (t : Addr) (tb : Value) : Obj := { cls := .ref 31, dict := d, data := .fields #[.ref t, tb, .none, .none, .bool false, .none] }
theorem uo_ob (d : Option Addr) (t : Addr) : ExcOb (uo d t) := ⟨fun _ => ⟨_, rfl, rfl⟩, fun _ _ => rfl⟩

variable {w : World} {g : Heap} {A : Around} {E : Value → Shared → Prop} {s : Shared} {e d t : Addr} {tb v : Value} {hs : Int} {tk : Tok} {n : Nat}

theorem uo_typeOf {M : Model} {h : Heap} {dd : Option Addr} (he : h.get? e = some (uo dd t tb)) : Looks M h (typeOf (.ref e)) (.ref 31) := (Looks.ld he).andThen .now

theorem uo_find {M : Model} {h : Heap} (X : (hd.heap_39 w.params).In h) (he : h.get? e = some (uo (some d) t tb)) (hd' : h.get? d = some (dictOf [⟨hs, .str umN tk, v⟩] n)) :
    Looks M h (find (.ref e) (.ref 31) umN) (.value v) := by
  refine looks_find X (ox := uo (some d) t tb) (C := 31) (od := some (dictOf [⟨hs, .str umN tk, v⟩] n)) ⟨he, rfl, rfl, hd'⟩ (by kernel_rfl)
theorem uo_miss {M : Model} {h : Heap} (X : (hd.heap_39 w.params).In h) (he : h.get? e = some (uo none t tb)) :
    Looks M h (find (.ref e) (.ref 31) umN) .missing := by
  refine looks_find X (ox := uo none t tb) (C := 31) (od := none) ⟨he, rfl, rfl, trivial⟩ (by kernel_rfl)
end
section
open Builtin Builtin.ObjectAttr
variable {w : World} {g : Heap} {A : Around} {E : Value → Shared → Prop} {s : Shared} {e d t : Addr} {tb v : Value} {hs : Int} {tk : Tok} {n : Nat} {dd : Option Addr}

theorem uo_isExc {M : Model} {h : Heap} (X : (hd.heap_39 w.params).In h) (he : h.get? e = some (uo dd t tb)) : Looks M h (isInstance (.ref e) (.type "BaseException")) true :=
  (uo_typeOf he).andThen (looks_mroIn X (by kernel_rfl))

theorem uo_check {M : Model} {nameV : Value} {Q : Unit → Shared → Prop} (X : (hd.heap_39 w.params).In s.heap) (he : s.heap.get? e = some (uo dd t tb)) (hq : Q () s) :
    wpAny M A (checkBuiltinCall "BaseException.__getattribute__" ⟨[.ref e, nameV], []⟩) Q E s := by
  have hk : builtinKind "BaseException.__getattribute__" = some .slot := by decide +kernel
  have hsplit : splitId "BaseException.__getattribute__" = some ("BaseException", "__getattribute__") := by decide +kernel
  have ha := F.args_bexc_ga (.ref e) nameV
  obtain ⟨h, gg, dr, tt, os⟩ := s
  simp only [checkBuiltinCall, hk, hsplit]
  refine wpAny_bind ((uo_isExc X he).at ?_)
  repeat (any_goals (first | assumption | wp_step))

theorem uo_ga {nameV : Value} {R : Result → Shared → Prop} (X : (hd.heap_39 w.params).In s.heap) (he : s.heap.get? e = some (uo dd t tb))
    (h : wpAny (model prg w) A.in1 (Builtin.«object.__getattribute__» ⟨[.ref e, nameV], []⟩) (fun fin s' => match fin with | .done f => R (.ok f) s' | .again c' => c'.quiet = true ∧ codeAny (model prg w) A c' R s') (fun x s' => R (.error x) s') s) :
    codeAny (model prg w) A (.call (.builtin "BaseException.__getattribute__") ⟨[.ref e, nameV], []⟩) R s :=
  codeAny_call_builtin F.attr_NotImplementedError.ga.plain F.entry_bexc_ga (uo_check X he h)

/-- the field out of the exception's own dict -/
theorem uo_by {expr : Bool} {Q : Value → Shared → Prop} {tn : Tok} (X : (hd.heap_39 w.params).In s.heap) (he : s.heap.get? e = some (uo (some d) t tb)) (hd' : s.heap.get? d = some (dictOf [⟨hs, .str umN tk, v⟩] n)) (hv : handedOut v = pure v) (hq : Q v s) :
    wpAny (model prg w) A (getAttrBy (.ref e) (.str umN tn) true expr) Q E s := by
  have LT := uo_typeOf (M := model prg w) he
  have LG : Looks (model prg w) s.heap (typeLookup (.ref 31) "__getattribute__") (some (.builtin "BaseException.__getattribute__")) := looks_findIn X (by kernel_rfl)
  have LA : Looks (model prg w) s.heap (typeLookup (.ref 31) "__getattr__") none := looks_findIn X (by kernel_rfl)
  have LF := uo_find (M := model prg w) X he hd'
  have f3 := F.attr_NotImplementedError.ga.bind (.ref e)
  have hx0 : (expr && onTheHeap (Value.builtin "BaseException.__getattribute__")) = false := by cases expr <;> rfl
  have hx2 : (Value.builtin "BaseException.__getattribute__" == Value.builtin "object.__getattribute__") = false := by decide +kernel
  have hx1 : (onTheHeap (Value.ref 31) && Value.builtin "BaseException.__getattribute__" == Value.builtin "object.__getattribute__") = false := by rw [hx2]; rfl
  unfold getAttrBy
  refine wpAny_holding (wpAny_bind (LT.here (wpAny_bind (LG.here ?_))))
  simp only [hx1, Bool.false_eq_true, if_false]
  unfold getAttrByItsOwn hookBefore
  refine wpAny_bind ?_
  rw [if_pos (show onTheHeap (Value.ref 31) = true from rfl)]
  refine LA.here ?_
  refine wpAny_bind (wpAny_attempt (wpAny_holding ?_))
  unfold callGetattribute
  rw [hx0]
  simp only [Bool.false_eq_true, if_false]
  unfold boundAndCalled
  rw [f3]
  refine wpAny_bind (wpAny_pure ?_)
  refine wpAny_call (uo_ga X he ?_)
  unfold Builtin.«object.__getattribute__»
  rw [show slotArgs "__getattribute__" 1 ⟨[Value.ref e, Value.str umN tn], []⟩ = pure (.ref e, [.str umN tn]) from by kernel_rfl]
  refine wpAny_bind (wpAny_pure ?_)
  dsimp only
  rw [show attrName (Value.str umN tn) = pure umN from rfl]
  refine wpAny_bind (wpAny_pure (wpAny_bind (LT.here (wpAny_bind (LF.here ?_)))))
  dsimp only
  refine wpAny_pure ?_
  dsimp only
  rw [hv]
  exact wpAny_pure hq

/-- the look-up of its maker, where it has one -/
theorem uo_method {pl : Sem Bool} {Q : Value × List Value → Shared → Prop} (X : (hd.heap_39 w.params).In s.heap) (he : s.heap.get? e = some (uo (some d) t tb)) (hd' : s.heap.get? d = some (dictOf [⟨hs, .str umN tk, v⟩] n)) (hv : handedOut v = pure v)
    (hq : Q (v, []) { s with toks := s.toks + 1 }) : wpAny (model prg w) A (getMethod (.ref e) umN pl) Q E s := by
  have LT := uo_typeOf (M := model prg w) he
  have LG : Looks (model prg w) s.heap (specialOf (.ref e) "__getattribute__") (some (.builtin "BaseException.__getattribute__")) := LT.andThen (looks_findIn X (by kernel_rfl))
  have LA : Looks (model prg w) s.heap (specialOf (.ref e) "__getattr__") none := LT.andThen (looks_findIn X (by kernel_rfl))
  have LN : Looks (model prg w) s.heap (specialOf (.ref e) umN) none := LT.andThen (looks_findIn X (by kernel_rfl))
  have usual : wpAny (model prg w) A (do return (← getAttr (.ref e) umN, [])) Q E s := by
    unfold getAttr mkText
    refine wpAny_bind (wpAny_bind (wpAny_bind (wpAny_fresh (wpAny_pure ?_))))
    exact uo_by (s := { s with toks := s.toks + 1 }) X he hd' hv (wpAny_pure hq)
  unfold getMethod
  refine wpAny_bind (LG.here ?_)
  dsimp only
  by_cases hc : (Manifest.canonical "BaseException.__getattribute__" != "object.__getattribute__") = true
  · rw [if_pos hc]; exact usual
  · rw [if_neg hc]
    refine wpAny_bind (LA.here ?_)
    rw [if_neg (by decide)]
    refine wpAny_bind (LN.here ?_)
    exact usual
end
/-! ## a field that is not there -/
section
open Builtin Builtin.ObjectAttr
variable {w : World} {g : Heap} {A : Around} {E : Value → Shared → Prop} {s : Shared} {e d t : Addr} {tb v : Value} {tk : Tok}

theorem umN_size : umN.length + 100 ≤ sizeLine := by decide +kernel

theorem uo_by_miss {expr : Bool} {Q : Value → Shared → Prop} {tn : Tok} (X : (hd.heap_39 w.params).In s.heap) (hA : A.handled = none) (he : s.heap.get? e = some (uo none t tb))
    (hq : ∀ h' tk' x, Heap.NewAttrErr s.heap h' x (.ref e) umN → E (.ref x) { s with heap := h', toks := tk' }) :
    wpAny (model prg w) A (getAttrBy (.ref e) (.str umN tn) true expr) Q E s := by
  have LT := uo_typeOf (M := model prg w) he
  have LG : Looks (model prg w) s.heap (typeLookup (.ref 31) "__getattribute__") (some (.builtin "BaseException.__getattribute__")) := looks_findIn X (by kernel_rfl)
  have LA : Looks (model prg w) s.heap (typeLookup (.ref 31) "__getattr__") none := looks_findIn X (by kernel_rfl)
  have LF := uo_miss (M := model prg w) X he
  have f3 := F.attr_NotImplementedError.ga.bind (.ref e)
  have hx0 : (expr && onTheHeap (Value.builtin "BaseException.__getattribute__")) = false := by cases expr <;> rfl
  have hx2 : (Value.builtin "BaseException.__getattribute__" == Value.builtin "object.__getattribute__") = false := by decide +kernel
  have hx1 : (onTheHeap (Value.ref 31) && Value.builtin "BaseException.__getattribute__" == Value.builtin "object.__getattribute__") = false := by rw [hx2]; rfl
  unfold getAttrBy
  refine wpAny_holding (wpAny_bind (LT.here (wpAny_bind (LG.here ?_))))
  simp only [hx1, Bool.false_eq_true, if_false]
  unfold getAttrByItsOwn hookBefore
  refine wpAny_bind ?_
  rw [if_pos (show onTheHeap (Value.ref 31) = true from rfl)]
  refine LA.here ?_
  refine wpAny_bind (wpAny_attempt (wpAny_holding ?_))
  unfold callGetattribute
  rw [hx0]
  simp only [Bool.false_eq_true, if_false]
  unfold boundAndCalled
  rw [f3]
  refine wpAny_bind (wpAny_pure ?_)
  refine wpAny_call (uo_ga X he ?_)
  unfold Builtin.«object.__getattribute__»
  rw [show slotArgs "__getattribute__" 1 ⟨[Value.ref e, Value.str umN tn], []⟩ = pure (.ref e, [.str umN tn]) from by kernel_rfl]
  refine wpAny_bind (wpAny_pure ?_)
  dsimp only
  rw [show attrName (Value.str umN tn) = pure umN from rfl]
  refine wpAny_bind (wpAny_pure (wpAny_bind (LT.here (wpAny_bind (LF.here ?_)))))
  dsimp only
  rw [if_neg (show ¬ ((Value.ref 31 == Value.type "module") = true) from by decide), if_neg (show ¬ ((Value.ref 31 == Value.type "type") = true) from by decide)]
  unfold noSuchAttribute
  have LS : Looks (model prg w) s.heap (shownTypeOf (.ref e)) (.ref 31) := by
    unfold shownTypeOf
    exact LT.andThen .now
  have LC : Looks (model prg w) s.heap (typeNameCut 100 (.ref 31)) "UnsupportedOperation" := .of_peek X (by kernel_rfl)
  refine wpAny_bind ((LS.andThen LC).here ?_)
  refine wpAny_raiseAttrError hA (fun h' tk' x hx => ?_) (attrMsg_fits (by decide +kernel) umN_size)
  obtain ⟨t', u', hx'⟩ := hx.there
  have L1 : Looks (model prg w) h' (isInstance (.ref x) (.type "AttributeError")) true := ((Looks.ld hx').andThen .now : Looks (model prg w) h' (typeOf (.ref x)) (.type "AttributeError")).andThen (.of_pure sub_AttributeError)
  have L2 : Looks (model prg w) h' (lacksNameAndObj (.ref x)) false := by
    unfold lacksNameAndObj
    exact L1.andThen ((Looks.ld (part := none) hx').andThen .now)
  unfold getattributeRaised hookBehind
  refine wpAny_bind (L1.here ?_)
  rw [if_pos rfl]
  refine wpAny_bind (wpAny_pure ?_)
  show wpAny _ _ (hookOrError _ _ _ _ _ none) _ _ _
  unfold hookOrError attributeErrorLeaves
  have hnote : ∀ {Q' : Value → Shared → Prop}, wpAny (model prg w) A (do noteAttr (.ref x) (.ref e) (.str umN tn); throw (.ref x)) Q' E { s with heap := h', toks := tk' } := by
    intro Q'
    unfold noteAttr
    refine wpAny_bind (wpAny_bind (L2.here ?_))
    exact wpAny_pure (wpAny_throw (hq h' tk' x hx))
  cases expr with
  | false => exact hnote
  | true =>
    refine wpAny_bind (L2.here ?_)
    exact hnote

/-- the look-up of its maker, where it has none -/
theorem uo_method_miss {pl : Sem Bool} {Q : Value × List Value → Shared → Prop} (X : (hd.heap_39 w.params).In s.heap) (hA : A.handled = none) (he : s.heap.get? e = some (uo none t tb))
    (hq : ∀ h' tk' x, Heap.NewAttrErr s.heap h' x (.ref e) umN → E (.ref x) { s with heap := h', toks := tk' }) : wpAny (model prg w) A (getMethod (.ref e) umN pl) Q E s := by
  have LT := uo_typeOf (M := model prg w) he
  have LG : Looks (model prg w) s.heap (specialOf (.ref e) "__getattribute__") (some (.builtin "BaseException.__getattribute__")) := LT.andThen (looks_findIn X (by kernel_rfl))
  have LA : Looks (model prg w) s.heap (specialOf (.ref e) "__getattr__") none := LT.andThen (looks_findIn X (by kernel_rfl))
  have LN : Looks (model prg w) s.heap (specialOf (.ref e) umN) none := LT.andThen (looks_findIn X (by kernel_rfl))
  have usual : wpAny (model prg w) A (do return (← getAttr (.ref e) umN, [])) Q E s := by
    unfold getAttr mkText
    refine wpAny_bind (wpAny_bind (wpAny_bind (wpAny_fresh (wpAny_pure ?_))))
    exact uo_by_miss (s := { s with toks := s.toks + 1 }) X hA he hq
  unfold getMethod
  refine wpAny_bind (LG.here ?_)
  dsimp only
  by_cases hc : (Manifest.canonical "BaseException.__getattribute__" != "object.__getattribute__") = true
  · rw [if_pos hc]; exact usual
  · rw [if_neg hc]
    refine wpAny_bind (LA.here ?_)
    rw [if_neg (by decide)]
    refine wpAny_bind (LN.here ?_)
    exact usual
end
section
open Builtin Builtin.ObjectAttr
variable {w : World} {A : Around} {E : Value → Shared → Prop} {s : Shared} {x : PySem.Str} {t : Tok}
theorem str_um : typeLookup (.type "str") umN = pure none := am_miss_of_fast (by decide +kernel)

theorem str_by_miss {Q : Value → Shared → Prop} {tn : Tok} (hA : A.handled = none)
    (hq : ∀ h' tk' e, Heap.NewAttrErr s.heap h' e (.str x t) umN → E (.ref e) { s with heap := h', toks := tk' }) : wpAny (model prg w) A (getAttrBy (.str x t) (.str umN tn) true false) Q E s := by
  have fT : typeOf (.str x t) = pure (.type "str") := rfl
  have f3 := F.slot_str_getattribute.lookup
  have f4 := F.slot_str_getattribute.bind (.str x t)
  have f5 := am_str_getattr_none
  unfold getAttrBy
  rw [fT]
  refine wpAny_holding (wpAny_bind (wpAny_pure ?_))
  rw [f3]
  refine wpAny_bind (wpAny_pure ?_)
  dsimp only
  rw [if_neg (show ¬ ((onTheHeap (Value.type "str") && Value.builtin "object.__getattribute__" == Value.builtin "object.__getattribute__") = true) from by simp [onTheHeap])]
  unfold getAttrByItsOwn hookBefore
  rw [if_neg (show ¬ (onTheHeap (Value.type "str") = true) from by simp [onTheHeap])]
  refine wpAny_bind (wpAny_pure (wpAny_bind (wpAny_attempt (wpAny_holding ?_))))
  unfold callGetattribute
  rw [if_neg (by simp)]
  unfold boundAndCalled
  rw [f4]
  refine wpAny_bind (wpAny_pure ?_)
  have hT : s.TypeIs (.str x t) "str" := rfl
  refine call_meets F.slot_str_getattribute hT F.entry_object_getattribute (F.args_object_getattribute_2 _ _) (meets_getattribute_miss_str x t umN _ str_um umN_size) ⟨hA, fun h' tk' e hx => ?_⟩
  obtain ⟨t', u', hx'⟩ := hx.there
  have L1 : Looks (model prg w) h' (isInstance (.ref e) (.type "AttributeError")) true := ((Looks.ld hx').andThen .now : Looks (model prg w) h' (typeOf (.ref e)) (.type "AttributeError")).andThen (.of_pure sub_AttributeError)
  have L2 : Looks (model prg w) h' (lacksNameAndObj (.ref e)) false := by
    unfold lacksNameAndObj
    exact L1.andThen ((Looks.ld (part := none) hx').andThen .now)
  show wpAny _ _ (getattributeRaised _ _ _ _ _ _ _) _ _ _
  unfold getattributeRaised hookBehind
  refine wpAny_bind (L1.here ?_)
  rw [if_pos rfl, if_neg (show ¬ (onTheHeap (Value.type "str") = true) from by simp [onTheHeap]), f5]
  refine wpAny_bind (wpAny_pure ?_)
  show wpAny _ _ (hookOrError _ _ _ _ _ none) _ _ _
  unfold hookOrError attributeErrorLeaves noteAttr
  refine wpAny_bind (wpAny_bind (L2.here ?_))
  exact wpAny_pure (wpAny_throw (hq h' tk' e hx))

/-- a text has no maker -/
theorem str_method_miss {pl : Sem Bool} {Q : Value × List Value → Shared → Prop} (hA : A.handled = none)
    (hq : ∀ h' tk' e, Heap.NewAttrErr s.heap h' e (.str x t) umN → E (.ref e) { s with heap := h', toks := tk' }) : wpAny (model prg w) A (getMethod (.str x t) umN pl) Q E s := by
  have usual : wpAny (model prg w) A (do return (← getAttr (.str x t) umN, [])) Q E s := by
    unfold getAttr mkText
    refine wpAny_bind (wpAny_bind (wpAny_bind (wpAny_fresh (wpAny_pure ?_))))
    exact str_by_miss (s := { s with toks := s.toks + 1 }) hA hq
  have fT : typeOf (.str x t) = pure (.type "str") := rfl
  have hg := F.slot_str_getattribute.lookup
  have fn : typeLookup (.type "str") "__getattr__" = pure none := am_str_getattr_none
  have hu := str_um
  unfold getMethod specialOf
  rw [fT]
  refine wpAny_bind (wpAny_bind (wpAny_pure ?_))
  rw [hg]
  refine wpAny_pure ?_
  dsimp only
  split
  · exact usual
  · refine wpAny_bind (wpAny_bind (wpAny_pure ?_))
    rw [fn]
    refine wpAny_pure ?_
    rw [if_neg (by decide)]
    refine wpAny_bind (wpAny_bind (wpAny_pure ?_))
    rw [hu]
    exact wpAny_pure usual
end
/-! ## the class's own maker, bound -/
section
open Builtin Builtin.ObjectAttr
variable {w : World} {A : Around} {E : Value → Shared → Prop} {s : Shared} {q d e t : Addr} {n : Nat} {tb v : Value} {hs : Int} {tk : Tok}
abbrev bm : Obj := methodObj (.ref 48) (.ref 97)
theorem p_attr {expr : Bool} {Q : Value → Shared → Prop} (X : (hd.heap_39 w.params).In s.heap) (hq : s.heap.get? q = some (instObj 97 d)) (hd' : s.heap.get? d = some (dictOf [] n))
    (h : Q (.ref s.heap.objs.size) { s with heap := s.heap.push bm, toks := s.toks + 1 }) : wpAny (model prg w) A (getAttr (.ref q) umN expr) Q E s :=
  get_bind (g := .builtin "classmethod.__get__") (a := .ref 50) X (ox := instObj 97 d) (od := some (dictOf [] n)) ⟨hq, rfl, rfl, hd'⟩ (by kernel_rfl) (by kernel_rfl) (by kernel_rfl)
    (wpAny_call (cm_get (s := { s with toks := s.toks + 1 }) (f := .ref 48) (rest := [.bool false]) X (by kernel_rfl) (handed_on rfl h)))
theorem p_method {pl : Sem Bool} {Q : Value × List Value → Shared → Prop} (X : (hd.heap_39 w.params).In s.heap) (hq : s.heap.get? q = some (instObj 97 d)) (hd' : s.heap.get? d = some (dictOf [] n))
    (h : Q (.ref s.heap.objs.size, []) { s with heap := s.heap.push bm, toks := s.toks + 1 }) : wpAny (model prg w) A (getMethod (.ref q) umN pl) Q E s :=
  method_usual (r := some (.ref 50)) X (ox := instObj 97 d) (od := some (dictOf [] n)) ⟨hq, rfl, rfl, hd'⟩ (by kernel_rfl) (by kernel_rfl) (by kernel_rfl) (by kernel_rfl) (p_attr X hq hd' h)
theorem c_attr {expr : Bool} {Q : Value → Shared → Prop} (X : (hd.heap_39 w.params).In s.heap)
    (h : Q (.ref s.heap.objs.size) { s with heap := s.heap.push bm, toks := s.toks + 1 }) : wpAny (model prg w) A (getAttr (.ref 97) umN expr) Q E s :=
  cls_bind (mc := .type "type") (g := .builtin "classmethod.__get__") (a := .ref 50) (obj := .none) (tp := .ref 97) X (by kernel_rfl) (by kernel_rfl)
    (wpAny_call (cm_get (s := { s with toks := s.toks + 1 }) (f := .ref 48) (rest := [.bool false]) X (by kernel_rfl) (handed_on rfl h)))
theorem c_method {pl : Sem Bool} {Q : Value × List Value → Shared → Prop} (X : (hd.heap_39 w.params).In s.heap)
    (h : Q (.ref s.heap.objs.size, []) { s with heap := s.heap.push bm, toks := s.toks + 1 }) : wpAny (model prg w) A (getMethod (.ref 97) umN pl) Q E s :=
  method_cls X (by kernel_rfl) (c_attr X h)
theorem uo_attr {expr : Bool} {Q : Value → Shared → Prop} (X : (hd.heap_39 w.params).In s.heap) (he : s.heap.get? e = some (uo (some d) t tb)) (hd' : s.heap.get? d = some (dictOf [⟨hs, .str umN tk, v⟩] n)) (hv : handedOut v = pure v)
    (hq : Q v { s with toks := s.toks + 1 }) : wpAny (model prg w) A (getAttr (.ref e) umN expr) Q E s := by
  unfold getAttr mkText
  refine wpAny_bind (wpAny_bind (wpAny_fresh (wpAny_pure ?_)))
  exact uo_by (s := { s with toks := s.toks + 1 }) X he hd' hv hq
end
/-! ## the makers: lambdas of the law -/
section
abbrev wordN : PySem.Str := Str.ofString "word"
abbrev tN : PySem.Str := Str.ofString "t"
abbrev eN : PySem.Str := Str.ofString "e"
abbrev qTag : PySem.Str := Str.ofString "_law_tag.<locals>.<lambda>"
abbrev qCarry : PySem.Str := Str.ofString "_law_carry.<locals>.<lambda>"
abbrev qAgain : PySem.Str := Str.ofString "_law_again.<locals>.<lambda>"
/-- one parameter, a word -/
abbrev oneArg (p : Pos) : Arguments := ⟨[], [⟨wordN, none, p⟩], none, [], [], none, []⟩
abbrev lamScope (more : List (PySem.Str × NameKind)) : Scope := { kind := .function, names := (wordN, .local) :: more, isGenerator := false, isCoroutine := false }
abbrev lamObj (qual : PySem.Str) (p : Pos) (body : PySem.Expr) (more : List (PySem.Str × NameKind)) (x : PySem.Str) (c : Addr) (pm : Value) (c' : Addr) (ctv : Value) : Obj :=
  kla_obj (Str.ofString "<lambda>") qual (oneArg p) body (lamScope more) [(x, c)] pm c' ctv
abbrev cellObj (v : Value) : Obj := { cls := .type "cell", data := .cell (some v) }

variable {w : World} {p : Program} {loose : List PySem.Str} {mean : ExcName → Option Value} {mg mb : PySem.Str → Option Value} {g : Heap} {A : Around} {l : List Env} {s : Shared} {R : Result → Shared → Prop}
  {qual x : PySem.Str} {c c' f : Addr} {pm ctv v : Value} {body : PySem.Expr} {more : List (PySem.Str × NameKind)} {pp : Pos}

theorem below_push {env : Env} {h₀ h : Heap} {L : Addr} {m : PySem.Str → Option Value} (B : Below A g l h₀) (hf : env.frame = some L) (hk : env.scope.kind = .function) (F : Fr h₀ L h m) : Below (A.deeper env) g (env :: l) h := by
  have hnew : g.get? L = none := by
    cases hq : g.get? L with
    | none => rfl
    | some o => exact absurd (Nat.lt_of_lt_of_le (Heap.lt_size (B.stays L o hq)) F.above) (Nat.lt_irrefl _)
  exact ⟨Around.frames_deeper B.stack, fun b o e => F.keep b o (B.stays b o e), .cons (by rw [hk]; decide) hf F.ns hnew (B.frames.of_keeps fun b o e _ => ⟨o, F.keep b o e, rfl⟩)⟩

/-- a lambda of the law is called with one argument -/
theorem lam_call (G : Gnd w p loose mean mg mb g) (B : Below A g l s.heap) (hsz : g.objs.size ≤ s.heap.objs.size) (hroom : A.depth < recursionLimit)
    (ho : s.heap.get? f = some (lamObj qual pp body more x c pm c' ctv)) (hcd : s.heap.CodeRec (.ref c') qual) (hcell : ∀ z ∈ (lamScope more).names, z.2 ≠ .cell)
    (h : ∀ L h₁ tk, Fr g L h₁ (fun z => if z = wordN then some v else none) → Below (A.deeper (envX qual (lamScope more) L f (.ref c') [(x, c)])) g (envX qual (lamScope more) L f (.ref c') [(x, c)] :: l) h₁ →
      (∀ b o, s.heap.get? b = some o → h₁.get? b = some o) → s.heap.get? L = none →
      wpAny (model prg w) (A.deeper (envX qual (lamScope more) L f (.ref c') [(x, c)])) (eval body (envX qual (lamScope more) L f (.ref c') [(x, c)])) (fun v s' => R (.ok (.ret v)) s')
        (fun e' s' => wpAny (model prg w) (A.deeper (envX qual (lamScope more) L f (.ref c') [(x, c)])) (leaving (envX qual (lamScope more) L f (.ref c') [(x, c)]) e') (fun _ s'' => R (.error e') s'') (fun e'' s'' => R (.error e'') s'') s')
        { s with heap := h₁, toks := tk }) :
    codeAny (model prg w) A (.call (.ref f) ⟨[v], []⟩) R s := by
  have hgs := B.stays
  refine kla_callFunE hroom ho rfl rfl rfl rfl hcd ?_
  rw [show bindArgs (kla_fn (Str.ofString "<lambda>") qual (oneArg pp) body (lamScope more) [(x, c)] pm (.ref c') ctv) ⟨[v], []⟩ = pure [(wordN, v)] from rfl]
  refine wpAny_pure (wpAny_newFunctionEnv hcell (fun z hz => ?_) (fun h₁ hns hsb => ⟨((G.T.nolimit).keeps hgs).fresh _ hsb, ?_⟩) rfl)
  · rcases List.mem_singleton.mp hz with rfl; rfl
  show codeAny _ _ (.expr body (envX qual (lamScope more) s.heap.objs.size f (.ref c') [(x, c)])) _ _
  have hk₁ : ∀ b o, s.heap.get? b = some o → h₁.get? b = some o := fun b o e => hsb.extBut b o (Nat.ne_of_lt (Heap.lt_size e)) (Heap.get?_push_of_some _ e)
  have hm : (fun z => ([(wordN, v)] : List (PySem.Str × Value)).reverse.lookup z) = fun z => if z = wordN then some v else none := by
    funext z
    by_cases hz : z = wordN
    · subst hz; rfl
    · have : (z == wordN) = false := by simp [hz]
      simp [List.lookup, this, hz]
  rw [hm] at hns
  have F₀ : Fr s.heap s.heap.objs.size h₁ (fun z => if z = wordN then some v else none) := ⟨hns, hk₁, Nat.le_refl _⟩
  exact kla_codeExpr (h s.heap.objs.size h₁ _ ⟨hns, fun b o e => hk₁ b o (hgs b o e), hsz⟩ (below_push B rfl rfl F₀) hk₁ (Heap.get?_none_of_le (Nat.le_refl _)))
end

section
variable {w : World} {p : Program} {loose : List PySem.Str} {mean : ExcName → Option Value} {mg mb : PySem.Str → Option Value} {g : Heap} {A : Around} {l : List Env} {s : Shared} {R : Result → Shared → Prop}
  {c c' f : Addr} {pm ctv : Value} {p1 p2 p3 p4 p5 p6 p7 : Pos}

theorem fresh_at {h₀ h₁ : Heap} (hk : ∀ b o, h₀.get? b = some o → h₁.get? b = some o) : h₀.get? h₁.objs.size = none := by
  cases q : h₀.get? h₁.objs.size with
  | none => rfl
  | some o => exact absurd (Heap.lt_size (hk _ _ q)) (Nat.lt_irrefl _)

theorem tag_call {word : PySem.Str} {tw tt : Tok} {t : Int} (G : Gnd w p loose mean mg mb g) (B : Below A g l s.heap) (hsz : g.objs.size ≤ s.heap.objs.size) (hroom : A.depth < recursionLimit)
    (ho : s.heap.get? f = some (lamObj qTag p1 (.List [.Name tN p2, .Name wordN p3] p4) [(tN, .free)] tN c pm c' ctv)) (hcd : s.heap.CodeRec (.ref c') qTag) (hc : s.heap.IsCell c (some (.int t tt)))
    (hR : ∀ r h' tk' n, (∀ b o, s.heap.get? b = some o → h'.get? b = some o) → s.heap.get? r = none → h'.get? r = some (listOf #[.int t tt, .str word tw] n) → R (.ok (.ret (.ref r))) { s with heap := h', toks := tk' }) :
    codeAny (model prg w) A (.call (.ref f) ⟨[.str word tw], []⟩) R s := by
  refine lam_call G B hsz hroom ho hcd (by decide) (fun L h₁ tk F B' hk hL => ?_)
  refine List_ (spliced_more ?_)
  refine wpAny_Name (wpAny_loadName_free rfl rfl rfl (hc.keeps hk) ?_ (by decide)) (by decide)
  refine spliced_more ?_
  refine wpAny_Name (wpAny_loadName_local rfl rfl F.ns (if_pos rfl) ?_) (by decide)
  refine spliced_none ?_
  refine wpAny_newObj_type (hR _ _ _ 0 (fun b o e => Heap.get?_push_of_some _ (hk b o e)) (fresh_at hk) (Heap.get?_push_size _ rfl)) (by size_fits)
end
section
variable {w : World} {A : Around} {E : Value → Shared → Prop} {s : Shared} {e t : Addr} {tb : Value} {dd : Option Addr}
abbrev argsN : PySem.Str := Str.ofString "args"
abbrev uoMro : List Value := [.type "NotImplementedError", .type "RuntimeError", .type "Exception", .type "BaseException", .type "object"]
theorem uo_cls {h : Heap} (X : (hd.heap_39 w.params).In h) : h.get? 31 = some (excClassObj (Str.ofString "UnsupportedOperation") (Str.ofString "UnsupportedOperation") 31 30 [.type "NotImplementedError"] uoMro true [] [] false none none
    (some (.ref 22)) none (some (.str (Str.ofString "UnsupportedOperation") 196)) (some (.str (Str.ofString "UnsupportedOperation") 204)) (some (.bool true)) "NotImplementedError.__new__") := X _ _ (by kernel_rfl)
/-- the arguments of an exception -/
theorem uo_args {expr : Bool} {Q : Value → Shared → Prop} (X : (hd.heap_39 w.params).In s.heap) (he : s.heap.get? e = some (uo dd t tb)) (hq : Q (.ref t) { s with toks := s.toks + 1 }) :
    wpAny (model prg w) A (getAttr (.ref e) argsN expr) Q E s := by
  have hN : s.heap.Ns 30 (s.heap.nsMap 30) := .of_isNs (isNs_of_in X (by kernel_rfl))
  have hmN : ∀ n ∈ quietNames, s.heap.nsMap 30 n = none := by
    intro n hn
    simp only [quietNames, List.mem_cons, List.not_mem_nil, or_false] at hn
    rcases hn with rfl | rfl | rfl | rfl <;> exact nsMap_none_of_in X (by kernel_rfl) (by kernel_rfl)
  obtain ⟨h, g, d, tk, os⟩ := s
  exact args_attr_own F.attrBase_NotImplementedError (uo_cls X) hN hmN .base he rfl rfl rfl hq
end
section
variable {w : World} {p : Program} {loose : List PySem.Str} {mean : ExcName → Option Value} {mg mb : PySem.Str → Option Value} {g : Heap} {A : Around} {l : List Env} {s : Shared} {R : Result → Shared → Prop}
  {c c' f e t : Addr} {pm ctv v tb : Value} {p1 p2 p3 p4 p5 p6 p7 : Pos} {dd : Option Addr} {n : Nat}
abbrev tupOf (its : Array Value) (n : Nat) : Obj := { cls := .type "tuple", data := .seq its n }
theorem carry_call {word : PySem.Str} {tw : Tok} (G : Gnd w p loose mean mg mb g) (B : Below A g l s.heap) (hsz : g.objs.size ≤ s.heap.objs.size) (hroom : A.depth < recursionLimit)
    (ho : s.heap.get? f = some (lamObj qCarry p1 (.List [.Name wordN p2, .Subscript (.Attribute (.Name eN p3) argsN p4) (.Constant (.int 0) 0 p5) p6] p7) [(eN, .free)] eN c pm c' ctv)) (hcd : s.heap.CodeRec (.ref c') qCarry) (hc : s.heap.IsCell c (some (.ref e)))
    (he : s.heap.get? e = some (uo dd t tb)) (ht : s.heap.get? t = some (tupOf #[v] n))
    (hR : ∀ r h' tk' n, (∀ b o, s.heap.get? b = some o → h'.get? b = some o) → s.heap.get? r = none → h'.get? r = some (listOf #[.str word tw, v] n) → R (.ok (.ret (.ref r))) { s with heap := h', toks := tk' }) :
    codeAny (model prg w) A (.call (.ref f) ⟨[.str word tw], []⟩) R s := by
  refine lam_call G B hsz hroom ho hcd (by decide) (fun L h₁ tk F B' hk hL => ?_)
  refine List_ (spliced_more ?_)
  refine wpAny_Name (wpAny_loadName_local rfl rfl F.ns (if_pos rfl) ?_) (by decide)
  refine spliced_more ?_
  refine Subscript_ (Attribute_Name_ ?_ ?_)
  · refine wpAny_Name (wpAny_loadName_free rfl rfl rfl (hc.keeps hk) ?_ (by decide)) (by decide)
    refine uo_args (G.X.keeps F.keep) (hk _ _ he) ?_
    refine wpAny_Constant_int ?_
    refine item_tupleT (l := [v]) (j := 0) ⟨_, hk _ _ ht, rfl, _, rfl⟩ (by decide) (by decide) rfl rfl ?_
    refine spliced_none ?_
    refine wpAny_newObj_type (hR _ _ _ 0 (fun b o e => Heap.get?_push_of_some _ (hk b o e)) ?_ (Heap.get?_push_size _ rfl)) (by size_fits)
    exact fresh_at hk
  · with_unfolding_all rfl
end
/-! ## the class's own word -/
section
open Builtin Builtin.ObjectAttr Builtin.Getset_descriptor
variable {w : World} {A : Around} {E : Value → Shared → Prop} {s : Shared} {R : Result → Shared → Prop}
theorem c_name_get {tp : Value} (X : (hd.heap_39 w.params).In s.heap) (h : R (.ok (.ret (.str (Str.ofString "ParserBase") 216))) s) :
    codeAny (model prg w) A (.call (.builtin "getset_descriptor.__get__") ⟨[.builtin "type.__name__", .ref 97, tp], []⟩) R s := by
  have LT : Looks (model prg w) s.heap (typeOf (.ref 97)) (.type "type") := looks_typeIn X (by kernel_rfl)
  have L1 : Looks (model prg w) s.heap (isSubtype (.type "type") (.type "type")) true := Looks.of_pure (by rw [isSubtype_type]; kernel_rfl)
  have LN : Looks (model prg w) s.heap (Builtin.«type.__name__» ⟨[.ref 97], []⟩) (.done (.ret (.str (Str.ofString "ParserBase") 216))) := .of_peek X (by kernel_rfl)
  obtain ⟨hh, g, dr, t, os⟩ := s
  refine codeAny_call_builtin KF.slot_gs.plain KF.entry_gs (KF.slot_gs.check _ _ _ _ _ _ _ _ ktyn_type (KF.args_gs _ _ _) ?_)
  unfold Builtin.«getset_descriptor.__get__» descrGet
  rw [show descrGetArgs ⟨[.builtin "type.__name__", .ref 97, tp], []⟩ = pure (.builtin "type.__name__", some (.ref 97), given tp) from by kernel_rfl]
  refine wpAny_bind (wpAny_pure ?_)
  unfold descrGetter descrCheckInstance descrNameAndClass isInstance
  simp only [ktyn_owner]
  repeat lk
  refine ⟨Code.quiet_builtin _ (by decide +kernel), codeAny_builtin ktyn_entry ?_⟩
  exact LN.here h
theorem c_name {expr : Bool} {Q : Value → Shared → Prop} (X : (hd.heap_39 w.params).In s.heap) (h : Q (.str (Str.ofString "ParserBase") 216) { s with toks := s.toks + 1 }) :
    wpAny (model prg w) A (getAttr (.ref 97) (Str.ofString "__name__") expr) Q E s :=
  cls_bind (mc := .type "type") (g := .builtin "getset_descriptor.__get__") (a := .builtin "type.__name__") (obj := .ref 97) (tp := .type "type") X (by kernel_rfl) (by kernel_rfl)
    (wpAny_call (c_name_get (s := { s with toks := s.toks + 1 }) X (handed_on rfl h)))
end
section
variable {w : World} {p : Program} {loose : List PySem.Str} {mean : ExcName → Option Value} {mg mb : PySem.Str → Option Value} {g : Heap} {A : Around} {l : List Env} {s : Shared} {R : Result → Shared → Prop}
abbrev clsN : PySem.Str := Str.ofString "cls"
abbrev attrN : PySem.Str := Str.ofString "attribute"
/-- what the class says of a word -/
def says (word : PySem.Str) : PySem.Str := Str.ofString "ParserBase." ++ word ++ Str.ofString " is unsupported"
theorem umsg {word : PySem.Str} {tw : Tok} (G : Gnd w p loose mean mg mb g) (B : Below A g l s.heap) (hsz : g.objs.size ≤ s.heap.objs.size) (hroom : A.depth < recursionLimit) (hwl : word.length ≤ 20)
   (hR : ∀ tv h' tk', (∀ b o, s.heap.get? b = some o → h'.get? b = some o) → R (.ok (.ret (.str (says word) tv))) { s with heap := h', toks := tk' }) :
   codeAny (model prg w) A (.call (.ref 48) ⟨[.ref 97, .str word tw], []⟩) R s := by
  refine' enterG G B hsz ?k6 ?k7 hroom (Bound.of_eq (binds := [(clsN, .ref 97), (attrN, .str word tw)]) ?k9) ?kB ?_ ?c2 ?c3 ?c4 ?c5
  case k6 => k_is
  case k7 => k_is
  case k9 => exact rfl
  case kB => rintro _ rfl; exact locs rfl
  case c2 => exact rfl
  case c3 => exact rfl
  case c4 => exact rfl
  case c5 => decide
  rintro L h₁ tk _ rfl F B' hk hL
  have N : News g L h₁ [] := News.nil
  iterate 7 walk1
  refine c_name (G.X.keeps F.keep) ?_
  dsimp only
  repeat (first | walk1 | (dsimp only; walk1))
  have hs : Str.empty ++ Str.ofString "ParserBase" ++ Str.ofString "." ++ word ++ Str.ofString " is unsupported" = says word := by
    unfold says
    rw [Str.empty_append, show Str.ofString "ParserBase" ++ Str.ofString "." = Str.ofString "ParserBase." from by decide]
  rw [hs]
  exact hR _ _ _ hk
end
section
variable {w : World} {p : Program} {loose : List PySem.Str} {mean : ExcName → Option Value} {mg mb : PySem.Str → Option Value} {g : Heap} {A : Around} {l : List Env} {s : Shared} {R : Result → Shared → Prop} {E : Value → Shared → Prop} {Q : Value → Shared → Prop}
  {env : Env} {fv : Value} {word : PySem.Str} {k : Nat} {pos p4 : Pos}
/-- a callable is called with a written word -/
theorem callWith_word (hk : ∃ k, (k = Keeper.frame ∨ k = Keeper.machine ∨ k = Keeper.boundFrame) ∧ Looks (model prg w) s.heap (keeperOf fv) k)
    (h : ∀ tw tk, wpAny (model prg w) A (call fv [.str word tw]) Q E { s with toks := tk }) :
    wpAny (model prg w) A (callWith pos fv [] (backTo pos (starEach [.Constant (.str word) k p4] env)) []) Q E s := by
  refine callWith_of (P := (· = s.heap)) rfl (fun h e => by subst e; exact hk) ?_
  refine evalArgs_plain ?_
  refine spliced_more (wpAny_Constant_str (spliced_none ⟨rfl, h _ _⟩))
theorem keeper_fn {M : Model} {h : Heap} {f : Addr} {fd : FuncData} {oc : Value} {od : Option Addr} {sl : Array (Option Value)} (ho : h.get? f = some ⟨oc, od, .func fd, sl⟩) : ∃ k, (k = Keeper.frame ∨ k = Keeper.machine ∨ k = Keeper.boundFrame) ∧ Looks M h (keeperOf (.ref f)) k :=
  ⟨.frame, .inl rfl, (Looks.ld (part := none) ho).andThen .now⟩
theorem keeper_bm {M : Model} {h : Heap} {q : Addr} (X : (hd.heap_39 w.params).In h) (ho : h.get? q = some bm) : ∃ k, (k = Keeper.frame ∨ k = Keeper.machine ∨ k = Keeper.boundFrame) ∧ Looks M h (keeperOf (.ref q)) k :=
  keeps_M (K := hd.heap_39 w.params) (f := 48) (self := .ref 97) (by kernel_rfl) h ⟨ho, X⟩
/-- the class's maker, bound, is called -/
theorem bm_call {q : Addr} {tw : Tok} (G : Gnd w p loose mean mg mb g) (B : Below A g l s.heap) (hsz : g.objs.size ≤ s.heap.objs.size) (hroom : A.depth < recursionLimit) (hwl : word.length ≤ 20) (hq : s.heap.get? q = some bm)
   (hR : ∀ tv h' tk', (∀ b o, s.heap.get? b = some o → h'.get? b = some o) → Q (.str (says word) tv) { s with heap := h', toks := tk' }) :
   wpAny (model prg w) A (call (.ref q) [.str word tw]) Q E s :=
  wpAny_call (method_call hq (umsg G B hsz hroom hwl hR))
end
/-! ## what a self's maker gives -/
section
/-- the maker of self, asked for a word, gives a value of V and only makes new objects -/
def Mk (w : World) (A : Around) (s : Shared) (self : Value) (word : PySem.Str) (V : Heap → Value → Prop) : Prop :=
  ∀ (env : Env) (pos p4 : Pos) (k : Nat) (pl : Sem Bool) (Q E : Value → Shared → Prop), (∀ v h' tk', (∀ b o, s.heap.get? b = some o → h'.get? b = some o) → V h' v → Q v { s with heap := h', toks := tk' }) →
    wpAny (model prg w) A (getMethod self umN pl) (fun fx s₂ => wpAny (model prg w) A (callWith pos fx.1 fx.2 (backTo pos (starEach [.Constant (.str word) k p4] env)) []) Q E s₂) E s
/-- self has no maker -/
def MkMiss (w : World) (A : Around) (s : Shared) (self : Value) (word : PySem.Str) : Prop :=
  ∀ (env : Env) (pos p4 : Pos) (k : Nat) (pl : Sem Bool) (Q E : Value → Shared → Prop), (∀ h' tk' x, Heap.NewAttrErr s.heap h' x self umN → E (.ref x) { s with heap := h', toks := tk' }) →
    wpAny (model prg w) A (getMethod self umN pl) (fun fx s₂ => wpAny (model prg w) A (callWith pos fx.1 fx.2 (backTo pos (starEach [.Constant (.str word) k p4] env)) []) Q E s₂) E s

variable {w : World} {p : Program} {loose : List PySem.Str} {mean : ExcName → Option Value} {mg mb : PySem.Str → Option Value} {g : Heap} {A : Around} {l : List Env} {s : Shared}
  {word : PySem.Str} {q d e t f c c' e₁ t₁ : Addr} {n : Nat} {tb tb₁ pm ctv v : Value} {hs : Int} {tk : Tok} {p1 p2 p3 p4 p5 p6 p7 : Pos} {dd : Option Addr}

theorem keeps_push {h : Heap} (o : Obj) : ∀ b ob, h.get? b = some ob → (h.push o).get? b = some ob := fun _ _ e => Heap.get?_push_of_some _ e

theorem below_push0 (B : Below A g l s.heap) (o : Obj) : Below A g l (s.heap.push o) :=
  ⟨B.stack, fun b ob e => Heap.get?_push_of_some _ (B.stays b ob e), B.frames.of_keeps fun b ob e _ => ⟨ob, Heap.get?_push_of_some _ e, rfl⟩⟩

abbrev SaysV (word : PySem.Str) : Heap → Value → Prop := fun _ v => ∃ tv, v = .str (says word) tv

theorem mk_p (G : Gnd w p loose mean mg mb g) (B : Below A g l s.heap) (hsz : g.objs.size ≤ s.heap.objs.size) (hroom : A.depth < recursionLimit) (hwl : word.length ≤ 20) (hq : s.heap.get? q = some (instObj 97 d)) (hd' : s.heap.get? d = some (dictOf [] n)) :
    Mk w A s (.ref q) word (SaysV word) := by
  intro env pos p4 k pl Q E hQ
  have X := G.X.keeps B.stays
  refine p_method X hq hd' ?_
  refine callWith_word (keeper_bm (G.X.keeps (below_push0 B bm).stays) (Heap.get?_push_size _ rfl)) fun tw tk => ?_
  exact bm_call (s := { s with heap := s.heap.push bm, toks := tk }) G (below_push0 B bm) (Nat.le_trans hsz (by simp)) hroom hwl (Heap.get?_push_size _ rfl) fun tv h' tk' hk => hQ _ _ _ (fun b o e => hk b o (keeps_push bm b o e)) ⟨tv, rfl⟩
theorem mk_c (G : Gnd w p loose mean mg mb g) (B : Below A g l s.heap) (hsz : g.objs.size ≤ s.heap.objs.size) (hroom : A.depth < recursionLimit) (hwl : word.length ≤ 20) :
    Mk w A s (.ref 97) word (SaysV word) := by
  intro env pos p4 k pl Q E hQ
  have X := G.X.keeps B.stays
  refine c_method X ?_
  refine callWith_word (keeper_bm (G.X.keeps (below_push0 B bm).stays) (Heap.get?_push_size _ rfl)) fun tw tk => ?_
  exact bm_call (s := { s with heap := s.heap.push bm, toks := tk }) G (below_push0 B bm) (Nat.le_trans hsz (by simp)) hroom hwl (Heap.get?_push_size _ rfl) fun tv h' tk' hk => hQ _ _ _ (fun b o e => hk b o (keeps_push bm b o e)) ⟨tv, rfl⟩
theorem mk_bm (G : Gnd w p loose mean mg mb g) (B : Below A g l s.heap) (hsz : g.objs.size ≤ s.heap.objs.size) (hroom : A.depth < recursionLimit) (hwl : word.length ≤ 20)
    (he : s.heap.get? e = some (uo (some d) t tb)) (hd' : s.heap.get? d = some (dictOf [⟨hs, .str umN tk, .ref q⟩] n)) (hq : s.heap.get? q = some bm) :
    Mk w A s (.ref e) word (SaysV word) := by
  intro env pos p4 k pl Q E hQ
  have X := G.X.keeps B.stays
  refine uo_method X he hd' rfl ?_
  refine callWith_word (keeper_bm X hq) fun tw tk => ?_
  exact bm_call (s := { s with toks := tk }) G B hsz hroom hwl hq fun tv h' tk' hk => hQ _ _ _ hk ⟨tv, rfl⟩
abbrev TagV (h₀ : Heap) (t : Int) (word : PySem.Str) : Heap → Value → Prop := fun h v => ∃ r tt tw n, v = .ref r ∧ h₀.get? r = none ∧ h.get? r = some (listOf #[.int t tt, .str word tw] n)
abbrev CarryV (h₀ : Heap) (x : Value) (word : PySem.Str) : Heap → Value → Prop := fun h v => ∃ r tw n, v = .ref r ∧ h₀.get? r = none ∧ h.get? r = some (listOf #[.str word tw, x] n)
theorem mk_tag {ti : Int} {tt : Tok} (G : Gnd w p loose mean mg mb g) (B : Below A g l s.heap) (hsz : g.objs.size ≤ s.heap.objs.size) (hroom : A.depth < recursionLimit)
    (he : s.heap.get? e = some (uo (some d) t tb)) (hd' : s.heap.get? d = some (dictOf [⟨hs, .str umN tk, .ref f⟩] n))
    (ho : s.heap.get? f = some (lamObj qTag p1 (.List [.Name tN p2, .Name wordN p3] p4) [(tN, .free)] tN c pm c' ctv)) (hcd : s.heap.CodeRec (.ref c') qTag) (hc : s.heap.IsCell c (some (.int ti tt))) :
    Mk w A s (.ref e) word (TagV s.heap ti word) := by
  intro env pos p4 k pl Q E hQ
  refine uo_method (G.X.keeps B.stays) he hd' rfl ?_
  refine callWith_word (keeper_fn ho) fun tw tk => wpAny_call ?_
  exact tag_call (s := { s with toks := tk }) G B hsz hroom ho hcd hc fun r h' tk' n hk hr hl => hQ _ _ _ hk ⟨r, tt, tw, n, rfl, hr, hl⟩
theorem mk_carry {n₁ : Nat} (G : Gnd w p loose mean mg mb g) (B : Below A g l s.heap) (hsz : g.objs.size ≤ s.heap.objs.size) (hroom : A.depth < recursionLimit)
    (he : s.heap.get? e = some (uo (some d) t tb)) (hd' : s.heap.get? d = some (dictOf [⟨hs, .str umN tk, .ref f⟩] n))
    (ho : s.heap.get? f = some (lamObj qCarry p1 (.List [.Name wordN p2, .Subscript (.Attribute (.Name eN p3) argsN p4) (.Constant (.int 0) 0 p5) p6] p7) [(eN, .free)] eN c pm c' ctv)) (hcd : s.heap.CodeRec (.ref c') qCarry) (hc : s.heap.IsCell c (some (.ref e₁)))
    (he₁ : s.heap.get? e₁ = some (uo dd t₁ tb₁)) (ht₁ : s.heap.get? t₁ = some (tupOf #[v] n₁)) :
    Mk w A s (.ref e) word (CarryV s.heap v word) := by
  intro env pos p4 k pl Q E hQ
  refine uo_method (G.X.keeps B.stays) he hd' rfl ?_
  refine callWith_word (keeper_fn ho) fun tw tk => wpAny_call ?_
  exact carry_call (s := { s with toks := tk }) G B hsz hroom ho hcd hc he₁ ht₁ fun r h' tk' n hk hr hl => hQ _ _ _ hk ⟨r, tw, n, rfl, hr, hl⟩
theorem mk_str {x : PySem.Str} {tx : Tok} (hA : A.handled = none) : MkMiss w A s (.str x tx) word := fun _ _ _ _ _ _ _ hE => str_method_miss hA hE
theorem mk_none (G : Gnd w p loose mean mg mb g) (B : Below A g l s.heap) (hA : A.handled = none) (he : s.heap.get? e = some (uo none t tb)) : MkMiss w A s (.ref e) word :=
  fun _ _ _ _ _ _ _ hE => uo_method_miss (G.X.keeps B.stays) hA he hE
end
/-! ## a part of the class is called: it raises -/
section
abbrev selfN : PySem.Str := Str.ofString "self"
abbrev uoN : PySem.Str := Str.ofString "UnsupportedOperation"
abbrev framesOf (l : List Env) : List Addr := l.filterMap (·.frame)
/-- a part's body: raise the error with what self's maker says of a word -/
abbrev mbody (word : PySem.Str) (k : Nat) (p1 p2 p3 p4 p5 p6 p7 : Pos) : List Stmt :=
  [.Raise (some (.Call (.Name uoN p1) [.Call (.Attribute (.Name selfN p2) umN p3) [.Constant (.str word) k p4] [] p5] [] p6)) none p7]

/-- e has been thrown out of a call made at h₀, the frames l below: B is what stays for sure -/
structure Thrown (h₀ : Heap) (X : List Addr) (l : List Env) (e : Addr) (ob : Value → Obj) (B h : Heap) : Prop where
  ob_ : ExcOb ob
  kept : ∀ b o, h₀.get? b = some o → b ∉ framesOf l → b ∉ X → B.get? b = some o
  fly : Fly h₀ B l e ob .none h

theorem Fly.mono {hr hr' B : Heap} {l : List Env} {e : Addr} {ob : Value → Obj} {fl : Value} {h : Heap} (F : Fly hr B l e ob fl h) (k : hr'.UpToSlots hr) : Fly hr' B l e ob fl h := { F with ups := k.trans F.ups }

variable {w : World} {p : Program} {loose : List PySem.Str} {mean : ExcName → Option Value} {mg mb : PySem.Str → Option Value} {g : Heap} {A : Around} {l : List Env} {s : Shared} {R : Result → Shared → Prop}
  {name qual : PySem.Str} {params : Arguments} {scope : Scope} {dV kV doc pm cdv ct oc : Value} {an od : Option Addr} {osl : Array (Option Value)} {f : Addr} {args : Args} {word : PySem.Str} {kk : Nat} {p1 p2 p3 p4 p5 p6 p7 : Pos} {self : Value}
  {P : List (PySem.Str × Value) → Prop}

/-- a method's call, written on one line -/
theorem mcall {M : Model} {E : Value → Shared → Prop} {env : Env} {x nm : PySem.Str} {xp apos pos cp : Pos} {c : Const} {Q : Value → Shared → Prop} (hline : (apos.endLine == pos.line) = true)
    (h : wpAny M A (eval (.Name x xp) env) (fun ov s₁ => ∀ pl, wpAny M A (getMethod ov nm pl) (fun fx s₂ => wpAny M A (callWith pos fx.1 fx.2 (backTo pos (starEach [.Constant c kk cp] env)) []) Q E s₂) E s₁) E s) :
    wpAny M A (eval (.Call (.Attribute (.Name x xp) nm apos) [.Constant c kk cp] [] pos) env) Q E s := by
  show wpAny M A (do
    let ov ← eval (.Name x xp) env
    standAt apos.atName
    methodCall (.Name x xp) nm apos pos env ov 1 (backTo pos (starEach [.Constant c kk cp] env)) (backToKw pos (keywordEach [] env))) Q E s
  refine wpAny_bind (wpAny_mono h (fun ov s₁ h₁ => wpAny_bind (wpAny_standAt ?_)) fun _ _ x => x)
  unfold methodCall calleeOf methodCallPos
  rw [if_pos (show methodCallForm 1 (backTo pos (starEach [.Constant c kk cp] env)) (backToKw pos (keywordEach [] env)) = true from rfl), hline, Bool.or_true, if_pos rfl]
  refine wpAny_bind (wpAny_holding (wpAny_mono (h₁ _) (fun fx s₂ h₂ => ?_) fun _ _ x => x))
  exact wpAny_bind (wpAny_pure h₂)

theorem uo_own (G : Gnd w p loose mean mg mb g) : OwnCls uoN 31 uoMro "NotImplementedError.__new__" mg g :=
  own_of_in (K := hd.heap_39 w.params) G.X (topRead_of G.T) (by kernel_rfl) (by kernel_rfl)

/-- a new exception leaves the frame in which it was raised -/
theorem new_leaves {M : Model} {E : Value → Shared → Prop} {env : Env} {L : Addr} {Q : Unit → Shared → Prop} {h₀ : Heap} {ob : Value → Obj} {e : Addr} (O : ExcOb ob) (hL : h₀.get? L = none) (hf : env.frame = some L) (B : Below A g (env :: l) s.heap) (hk : ∀ b o, h₀.get? b = some o → s.heap.get? b = some o)
    (he : s.heap.get? e = some (ob .none)) (hen : h₀.get? e = none)
    (h : ∀ B h', (∀ b o, s.heap.get? b = some o → b ≠ e → b ∉ L :: framesOf l → B.get? b = some o) → Thrown h₀ [] l e ob B h' → Q () { s with heap := h' }) : wpAny M A (leaving env (.ref e)) Q E s := by
  have hfr : framesOf (env :: l) = L :: framesOf l := by unfold framesOf; rw [List.filterMap_cons, hf]
  have hB : ∀ b o, s.heap.get? b = some o → b ≠ e → b ∉ L :: framesOf l → (hideAll s.heap (e :: L :: framesOf l)).get? b = some o := fun b o hb hbe hbf =>
    hideAll_get _ hb fun hm => (List.mem_cons.mp hm).elim hbe hbf
  refine fly_first (hr := h₀) (B := hideAll s.heap (e :: L :: framesOf l)) O B.stack hf (funFrames_hide B.frames fun env' he' a ha => List.mem_cons_of_mem _ ?_) he (fun b o q => of_hideAll _ q) (hideAll_none _ (.head _)) (Heap.UpToSlots.of_keeps hk) fun h' F => h _ h' hB ⟨O, fun b o hb hbl _ => ?_, F⟩
  · rw [← hfr]; exact List.mem_filterMap.mpr ⟨env', he', ha⟩
  · refine hB b o (hk b o hb) (fun q => by rw [q, hen] at hb; cases hb) fun hm => ?_
    rcases List.mem_cons.mp hm with q | q
    · rw [q, hL] at hb; cases hb
    · exact hbl q

/-- what is known of an error that a maker's value was put into -/
structure NewUO (h₀ : Heap) (l : List Env) (VF : Heap → Value → Prop) (e : Addr) (B h : Heap) : Prop where
  thrown : ∃ t, Thrown h₀ [] l e (uo none t) B h ∧ h₀.get? t = none ∧ ∃ v, B.get? t = some (tupOf #[v] 0) ∧ VF B v
  new : h₀.get? e = none

theorem meth_val {V : Heap → Heap → Value → Prop} {VF : Heap → Value → Prop} (G : Gnd w p loose mean mg mb g) (B : Below A g l s.heap) (hsz : g.objs.size ≤ s.heap.objs.size) (hroom : A.depth < recursionLimit) (hh : A.handled = none)
    (ho : (hd.heap_39 w.params).lookup f = some ⟨oc, od, .func (fnOf name qual params (mbody word kk p1 p2 p3 p4 p5 p6 p7) scope dV kV doc pm an cdv ct), osl⟩) (hcd : codeIn (hd.heap_39 w.params) cdv qual = true)
    (hbind : Bound s (fnOf name qual params (mbody word kk p1 p2 p3 p4 p5 p6 p7) scope dV kV doc pm an cdv ct) args P) (hloc : ∀ binds, P binds → ∀ y ∈ binds, scope.names.lookup y.1 = some .local)
    (hself : ∀ binds, P binds → binds.reverse.lookup selfN = some self) (hks : scope.names.lookup selfN = some .local) (hku : scope.names.lookup uoN = some .globalImplicit)
    (hline : (p3.endLine == p5.line) = true)
    (hco : scope.isCoroutine = false) (hgen : scope.isGenerator = false) (hk : scope.kind = .function) (hcell : ∀ x ∈ scope.names, x.2 ≠ .cell)
    (hmk : ∀ L h₁ tk, (∀ b o, s.heap.get? b = some o → h₁.get? b = some o) → g.objs.size ≤ h₁.objs.size → Below (A.deeper (envOf qual scope L f cdv)) g (envOf qual scope L f cdv :: l) h₁ → Mk w (A.deeper (envOf qual scope L f cdv)) { s with heap := h₁, toks := tk } self word (V h₁))
    (hV : ∀ h₁ h₂ B v, (∀ b o, s.heap.get? b = some o → h₁.get? b = some o) → V h₁ h₂ v → (∀ b o, h₁.get? b = none → h₂.get? b = some o → B.get? b = some o) → (∀ b o, s.heap.get? b = some o → b ∉ framesOf l → B.get? b = some o) → VF B v)
    (hR : ∀ e B h' tk', NewUO s.heap l VF e B h' → R (.error (.ref e)) { s with heap := h', toks := tk' }) :
    codeAny (model prg w) A (.call (.ref f) args) R s := by
  refine enterG G B hsz ho hcd hroom hbind hloc (fun L h₁ tk binds hP F B' hk₁ hL => ?_) hco hgen hk hcell
  have hLl : L ∉ framesOf l := fun hm => by
    obtain ⟨_, o, ho', _⟩ := B.frames.mem hm
    rw [hL] at ho'; cases ho'
  refine wpAny_execs_cons (Raise_own F G.T.g (uo_own G) PySem.F.excBase_NotImplementedError hh (spliced_more ?_) rfl rfl hk (by exact hku) (by decide))
  refine mcall hline (ld F (hself binds hP) (fun pl => ?_) hk (by exact hks))
  refine hmk L h₁ tk hk₁ (Nat.le_of_lt (Nat.lt_of_le_of_lt F.above F.ns.lt)) B' _ _ _ _ _ _ _ fun v h₂ tk₂ hk₂ hv => ?_
  refine spliced_none ⟨(by show 1 ≤ sizeLine; decide +kernel), fun b o e => hk₂ b o (F.keep b o e), fun h₃ e hx => ?_⟩
  obtain ⟨t, he, htn, ht⟩ := hx.there
  have hk₃ : ∀ b o, s.heap.get? b = some o → h₃.get? b = some o := fun b o q => hx.keeps b o (hk₂ b o (hk₁ b o q))
  have hkL : ∀ b o, h₁.get? b = some o → h₃.get? b = some o := fun b o q => hx.keeps b o (hk₂ b o q)
  have none_of : ∀ {b}, h₂.get? b = none → h₁.get? b = none := fun {b} q => by
    cases z : h₁.get? b with
    | none => rfl
    | some o => rw [hk₂ b o z] at q; cases q
  have none_of₀ : ∀ {b}, h₂.get? b = none → s.heap.get? b = none := fun {b} q => by
    cases z : s.heap.get? b with
    | none => rfl
    | some o => rw [hk₂ b o (hk₁ b o z)] at q; cases q
  have B₃ : Below (A.deeper (envOf qual scope L f cdv)) g (envOf qual scope L f cdv :: l) h₃ := ⟨B'.stack, fun b o q => hkL b o (B'.stays b o q), B'.frames.of_keeps fun b o q _ => ⟨o, hkL b o q, rfl⟩⟩
  refine new_leaves (h₀ := s.heap) (s := { s with heap := h₃, toks := tk₂ }) (uo_ob none t) hL rfl B₃ hk₃ he (none_of₀ hx.new) fun B₄ h₄ hB hT => ?_
  have fresh_in : ∀ b o, h₁.get? b = none → h₃.get? b = some o → b ≠ e → B₄.get? b = some o := fun b o hb hbo hbe => hB b o hbo hbe fun hm => by
    rcases List.mem_cons.mp hm with q | q
    · obtain ⟨oL, _, _, hoL, _⟩ := F.ns
      rw [q, hoL] at hb; cases hb
    · obtain ⟨_, o', ho', _⟩ := B.frames.mem q
      rw [hk₁ _ _ ho'] at hb; cases hb
  refine hR e B₄ h₄ _ ⟨⟨t, hT, none_of₀ htn, v, fresh_in t _ (none_of htn) ht (fun q => by rw [q, he] at ht; cases ht), ?_⟩, none_of₀ hx.new⟩
  refine hV h₁ h₂ B₄ v hk₁ hv (fun b o hb hbo => fresh_in b o hb (hx.keeps b o hbo) fun q => by rw [q, hx.new] at hbo; cases hbo) fun b o hb hbl => hT.kept b o hb hbl (by simp)

/-- the error of a missing field, by its traceback -/
abbrev ae (t o : Value) (u : Tok) (tb : Value) : Obj := { cls := .type "AttributeError", data := .fields #[t, tb, .none, .none, .bool false, .none, .str umN u, o] }
theorem ae_ob (t o : Value) (u : Tok) : ExcOb (ae t o u) := ⟨fun _ => ⟨_, rfl, rfl⟩, fun _ _ => rfl⟩

theorem meth_miss (G : Gnd w p loose mean mg mb g) (B : Below A g l s.heap) (hsz : g.objs.size ≤ s.heap.objs.size) (hroom : A.depth < recursionLimit) (hh : A.handled = none)
    (ho : (hd.heap_39 w.params).lookup f = some ⟨oc, od, .func (fnOf name qual params (mbody word kk p1 p2 p3 p4 p5 p6 p7) scope dV kV doc pm an cdv ct), osl⟩) (hcd : codeIn (hd.heap_39 w.params) cdv qual = true)
    (hbind : Bound s (fnOf name qual params (mbody word kk p1 p2 p3 p4 p5 p6 p7) scope dV kV doc pm an cdv ct) args P) (hloc : ∀ binds, P binds → ∀ y ∈ binds, scope.names.lookup y.1 = some .local)
    (hself : ∀ binds, P binds → binds.reverse.lookup selfN = some self) (hks : scope.names.lookup selfN = some .local) (hku : scope.names.lookup uoN = some .globalImplicit)
    (hline : (p3.endLine == p5.line) = true)
    (hco : scope.isCoroutine = false) (hgen : scope.isGenerator = false) (hk : scope.kind = .function) (hcell : ∀ x ∈ scope.names, x.2 ≠ .cell)
    (hmk : ∀ L h₁ tk, (∀ b o, s.heap.get? b = some o → h₁.get? b = some o) → g.objs.size ≤ h₁.objs.size → Below (A.deeper (envOf qual scope L f cdv)) g (envOf qual scope L f cdv :: l) h₁ → MkMiss w (A.deeper (envOf qual scope L f cdv)) { s with heap := h₁, toks := tk } self word)
    (hR : ∀ e t u B h' tk', Thrown s.heap [] l e (ae t self u) B h' → R (.error (.ref e)) { s with heap := h', toks := tk' }) :
    codeAny (model prg w) A (.call (.ref f) args) R s := by
  refine enterG G B hsz ho hcd hroom hbind hloc (fun L h₁ tk binds hP F B' hk₁ hL => ?_) hco hgen hk hcell
  refine wpAny_execs_cons (Raise_own F G.T.g (uo_own G) PySem.F.excBase_NotImplementedError hh (spliced_more ?_) rfl rfl hk (by exact hku) (by decide))
  refine mcall hline (ld F (hself binds hP) (fun pl => ?_) hk (by exact hks))
  refine hmk L h₁ tk hk₁ (Nat.le_of_lt (Nat.lt_of_le_of_lt F.above F.ns.lt)) B' _ _ _ _ _ _ _ fun h₃ tk₂ e hx => ?_
  obtain ⟨t, u, he⟩ := hx.there
  have hk₃ : ∀ b o, s.heap.get? b = some o → h₃.get? b = some o := fun b o q => hx.keeps b o (hk₁ b o q)
  have B₃ : Below (A.deeper (envOf qual scope L f cdv)) g (envOf qual scope L f cdv :: l) h₃ := ⟨B'.stack, fun b o q => hx.keeps b o (B'.stays b o q), B'.frames.of_keeps fun b o q _ => ⟨o, hx.keeps b o q, rfl⟩⟩
  have hen : s.heap.get? e = none := by
    cases z : s.heap.get? e with
    | none => rfl
    | some o => have := hx.new; rw [hk₁ e o z] at this; cases this
  exact new_leaves (h₀ := s.heap) (s := { s with heap := h₃, toks := tk₂ }) (ae_ob t self u) hL rfl B₃ hk₃ he hen fun B₄ h₄ _ hT => hR e t u B₄ h₄ _ hT
end
/-! ## the five parts -/
section
abbrev pathN : PySem.Str := Str.ofString "path"
abbrev pathsN : PySem.Str := Str.ofString "paths"
/-- a part's place and its word -/
def partAt : Nat → Addr
  | 0 => 66 | 1 => 73 | 2 => 80 | 3 => 87 | _ => 94
def wordOf : Nat → PySem.Str
  | 0 => Str.ofString "join()" | 1 => Str.ofString "split()" | 2 => Str.ofString "splitdrive()" | 3 => Str.ofString "normcase()" | _ => Str.ofString "isabs()"
theorem wordOf_len (a : Nat) : (wordOf a).length ≤ 20 := by
  unfold wordOf; split <;> decide

variable {w : World} {p : Program} {loose : List PySem.Str} {mean : ExcName → Option Value} {mg mb : PySem.Str → Option Value} {g : Heap} {A : Around} {l : List Env} {s : Shared} {R : Result → Shared → Prop} {self : Value} {x : PySem.Str} {tx : Tok}

/-- join's third place takes what is left: an empty tuple -/
theorem bound_join {name qual : PySem.Str} {body : List Stmt} {scope : Scope} {doc pm cdv ct : Value} {an : Option Addr} {q1 q2 q3 : Pos} :
    Bound s (fnOf name qual ⟨[], [⟨selfN, none, q1⟩, ⟨pathN, none, q2⟩], some ⟨pathsN, none, q3⟩, [], [], none, []⟩ body scope .none .none doc pm an cdv ct) ⟨[self, .str x tx], []⟩ (fun binds => ∃ tv, binds = [(selfN, self), (pathN, .str x tx), (pathsN, tv)]) := by
  intro M A E Q hq
  show wpAny M A (do let t ← newTuple []; pure [(selfN, self), (pathN, .str x tx), (pathsN, t)]) Q E s
  refine wpAny_bind (wpAny_newObj_type (wpAny_pure ?_) (by size_fits))
  exact hq _ _ s.toks ⟨_, rfl⟩ (keeps_push _) (by simp)

theorem part_val {V : Heap → Heap → Value → Prop} {VF : Heap → Value → Prop} (a : Nat) (ha : a < 5) (G : Gnd w p loose mean mg mb g) (B : Below A g l s.heap) (hsz : g.objs.size ≤ s.heap.objs.size) (hroom : A.depth < recursionLimit) (hh : A.handled = none)
    (hmk : ∀ env h₁ tk, (∀ b o, s.heap.get? b = some o → h₁.get? b = some o) → g.objs.size ≤ h₁.objs.size → Below (A.deeper env) g (env :: l) h₁ → Mk w (A.deeper env) { s with heap := h₁, toks := tk } self (wordOf a) (V h₁))
    (hV : ∀ h₁ h₂ B v, (∀ b o, s.heap.get? b = some o → h₁.get? b = some o) → V h₁ h₂ v → (∀ b o, h₁.get? b = none → h₂.get? b = some o → B.get? b = some o) → (∀ b o, s.heap.get? b = some o → b ∉ framesOf l → B.get? b = some o) → VF B v)
    (hR : ∀ e B h' tk', NewUO s.heap l VF e B h' → R (.error (.ref e)) { s with heap := h', toks := tk' }) :
    codeAny (model prg w) A (.call (.ref (partAt a)) ⟨[self, .str x tx], []⟩) R s := by
  rcases a with _ | _ | _ | _ | _ | a
  · refine' meth_val (word := Str.ofString "join()") G B hsz hroom hh ?ho ?hcd bound_join ?hl ?hs ?ks ?ku ?hn ?c2 ?c3 ?c4 ?c5 (fun L h₁ tk => hmk _ h₁ tk) hV hR
    case ho => k_is
    case hcd => k_is
    case hl => rintro _ ⟨tv, rfl⟩; exact locs rfl
    case hs => rintro _ ⟨tv, rfl⟩; exact rfl
    case ks => exact rfl
    case ku => exact rfl
    case hn => exact rfl
    case c2 => exact rfl
    case c3 => exact rfl
    case c4 => exact rfl
    case c5 => decide
  · refine' meth_val (word := Str.ofString "split()") G B hsz hroom hh ?ho ?hcd (Bound.of_eq (binds := [(selfN, self), (pathN, .str x tx)]) ?hb) ?hl ?hs ?ks ?ku ?hn ?c2 ?c3 ?c4 ?c5 (fun L h₁ tk => hmk _ h₁ tk) hV hR
    case ho => k_is
    case hcd => k_is
    case hb => exact rfl
    case hl => rintro _ rfl; exact locs rfl
    case hs => rintro _ rfl; exact rfl
    case ks => exact rfl
    case ku => exact rfl
    case hn => exact rfl
    case c2 => exact rfl
    case c3 => exact rfl
    case c4 => exact rfl
    case c5 => decide
  · refine' meth_val (word := Str.ofString "splitdrive()") G B hsz hroom hh ?ho ?hcd (Bound.of_eq (binds := [(selfN, self), (pathN, .str x tx)]) ?hb) ?hl ?hs ?ks ?ku ?hn ?c2 ?c3 ?c4 ?c5 (fun L h₁ tk => hmk _ h₁ tk) hV hR
    case ho => k_is
    case hcd => k_is
    case hb => exact rfl
    case hl => rintro _ rfl; exact locs rfl
    case hs => rintro _ rfl; exact rfl
    case ks => exact rfl
    case ku => exact rfl
    case hn => exact rfl
    case c2 => exact rfl
    case c3 => exact rfl
    case c4 => exact rfl
    case c5 => decide
  · refine' meth_val (word := Str.ofString "normcase()") G B hsz hroom hh ?ho ?hcd (Bound.of_eq (binds := [(selfN, self), (pathN, .str x tx)]) ?hb) ?hl ?hs ?ks ?ku ?hn ?c2 ?c3 ?c4 ?c5 (fun L h₁ tk => hmk _ h₁ tk) hV hR
    case ho => k_is
    case hcd => k_is
    case hb => exact rfl
    case hl => rintro _ rfl; exact locs rfl
    case hs => rintro _ rfl; exact rfl
    case ks => exact rfl
    case ku => exact rfl
    case hn => exact rfl
    case c2 => exact rfl
    case c3 => exact rfl
    case c4 => exact rfl
    case c5 => decide
  · refine' meth_val (word := Str.ofString "isabs()") G B hsz hroom hh ?ho ?hcd (Bound.of_eq (binds := [(selfN, self), (pathN, .str x tx)]) ?hb) ?hl ?hs ?ks ?ku ?hn ?c2 ?c3 ?c4 ?c5 (fun L h₁ tk => hmk _ h₁ tk) hV hR
    case ho => k_is
    case hcd => k_is
    case hb => exact rfl
    case hl => rintro _ rfl; exact locs rfl
    case hs => rintro _ rfl; exact rfl
    case ks => exact rfl
    case ku => exact rfl
    case hn => exact rfl
    case c2 => exact rfl
    case c3 => exact rfl
    case c4 => exact rfl
    case c5 => decide
  · omega

theorem part_miss (a : Nat) (ha : a < 5) (G : Gnd w p loose mean mg mb g) (B : Below A g l s.heap) (hsz : g.objs.size ≤ s.heap.objs.size) (hroom : A.depth < recursionLimit) (hh : A.handled = none)
    (hmk : ∀ env h₁ tk, (∀ b o, s.heap.get? b = some o → h₁.get? b = some o) → g.objs.size ≤ h₁.objs.size → Below (A.deeper env) g (env :: l) h₁ → MkMiss w (A.deeper env) { s with heap := h₁, toks := tk } self (wordOf a))
    (hR : ∀ e t u B h' tk', Thrown s.heap [] l e (ae t self u) B h' → R (.error (.ref e)) { s with heap := h', toks := tk' }) :
    codeAny (model prg w) A (.call (.ref (partAt a)) ⟨[self, .str x tx], []⟩) R s := by
  rcases a with _ | _ | _ | _ | _ | a
  · refine' meth_miss (word := Str.ofString "join()") G B hsz hroom hh ?ho ?hcd bound_join ?hl ?hs ?ks ?ku ?hn ?c2 ?c3 ?c4 ?c5 (fun L h₁ tk => hmk _ h₁ tk) hR
    case ho => k_is
    case hcd => k_is
    case hl => rintro _ ⟨tv, rfl⟩; exact locs rfl
    case hs => rintro _ ⟨tv, rfl⟩; exact rfl
    case ks => exact rfl
    case ku => exact rfl
    case hn => exact rfl
    case c2 => exact rfl
    case c3 => exact rfl
    case c4 => exact rfl
    case c5 => decide
  · refine' meth_miss (word := Str.ofString "split()") G B hsz hroom hh ?ho ?hcd (Bound.of_eq (binds := [(selfN, self), (pathN, .str x tx)]) ?hb) ?hl ?hs ?ks ?ku ?hn ?c2 ?c3 ?c4 ?c5 (fun L h₁ tk => hmk _ h₁ tk) hR
    case ho => k_is
    case hcd => k_is
    case hb => exact rfl
    case hl => rintro _ rfl; exact locs rfl
    case hs => rintro _ rfl; exact rfl
    case ks => exact rfl
    case ku => exact rfl
    case hn => exact rfl
    case c2 => exact rfl
    case c3 => exact rfl
    case c4 => exact rfl
    case c5 => decide
  · refine' meth_miss (word := Str.ofString "splitdrive()") G B hsz hroom hh ?ho ?hcd (Bound.of_eq (binds := [(selfN, self), (pathN, .str x tx)]) ?hb) ?hl ?hs ?ks ?ku ?hn ?c2 ?c3 ?c4 ?c5 (fun L h₁ tk => hmk _ h₁ tk) hR
    case ho => k_is
    case hcd => k_is
    case hb => exact rfl
    case hl => rintro _ rfl; exact locs rfl
    case hs => rintro _ rfl; exact rfl
    case ks => exact rfl
    case ku => exact rfl
    case hn => exact rfl
    case c2 => exact rfl
    case c3 => exact rfl
    case c4 => exact rfl
    case c5 => decide
  · refine' meth_miss (word := Str.ofString "normcase()") G B hsz hroom hh ?ho ?hcd (Bound.of_eq (binds := [(selfN, self), (pathN, .str x tx)]) ?hb) ?hl ?hs ?ks ?ku ?hn ?c2 ?c3 ?c4 ?c5 (fun L h₁ tk => hmk _ h₁ tk) hR
    case ho => k_is
    case hcd => k_is
    case hb => exact rfl
    case hl => rintro _ rfl; exact locs rfl
    case hs => rintro _ rfl; exact rfl
    case ks => exact rfl
    case ku => exact rfl
    case hn => exact rfl
    case c2 => exact rfl
    case c3 => exact rfl
    case c4 => exact rfl
    case c5 => decide
  · refine' meth_miss (word := Str.ofString "isabs()") G B hsz hroom hh ?ho ?hcd (Bound.of_eq (binds := [(selfN, self), (pathN, .str x tx)]) ?hb) ?hl ?hs ?ks ?ku ?hn ?c2 ?c3 ?c4 ?c5 (fun L h₁ tk => hmk _ h₁ tk) hR
    case ho => k_is
    case hcd => k_is
    case hb => exact rfl
    case hl => rintro _ rfl; exact locs rfl
    case hs => rintro _ rfl; exact rfl
    case ks => exact rfl
    case ku => exact rfl
    case hn => exact rfl
    case c2 => exact rfl
    case c3 => exact rfl
    case c4 => exact rfl
    case c5 => decide
  · omega
end
/-! ## an error that is raised again -/
section
variable {w : World} {p : Program} {loose : List PySem.Str} {mean : ExcName → Option Value} {mg mb : PySem.Str → Option Value} {g hr B₀ : Heap} {A : Around} {l : List Env} {s : Shared} {R : Result → Shared → Prop} {E : Value → Shared → Prop}
  {e t : Addr} {dd : Option Addr} {tb : Value}

theorem uo_isType {M : Model} {h : Heap} (X : (hd.heap_39 w.params).In h) (he : h.get? e = some (uo dd t tb)) : Looks M h (isType (.ref e)) false := by
  unfold isType
  exact (Looks.ld he).andThen .now

/-- raise e, where e is an error that has been caught -/
theorem raise_again {env : Env} {x : PySem.Str} {np pos : Pos} {Q : Flow → Shared → Prop} (X : (hd.heap_39 w.params).In s.heap) (hh : A.handled = none) (hx : ∀ Q' E', Q' (.ref e) s → wpAny (model prg w) A (eval (.Name x np) env) Q' E' s)
    (F : Fly hr B₀ l e (uo dd t) .none s.heap) (h : ∀ h', Fly hr B₀ l e (uo dd t) .none h' → E (.ref e) { s with heap := h' }) :
    wpAny (model prg w) A (exec (.Raise (some (.Name x np)) none pos) env) Q E s := by
  obtain ⟨T, oT, ts, he, _⟩ := F.obj
  have LT := uo_typeOf (M := model prg w) he
  have L1 := uo_isType (M := model prg w) X he
  have L2 := uo_isExc (M := model prg w) X he
  have L3 : Looks (model prg w) s.heap (typeOf (.ref 31)) (.type "type") := looks_typeIn X (by kernel_rfl)
  rw [arm_exec_Raise]
  refine wpAny_bind (wpAny_standAt ?_)
  unfold raiseStmt
  refine wpAny_bind (wpAny_bind (hx _ _ (wpAny_bind (wpAny_standAt (wpAny_pure ?_)))))
  refine wpAny_bind (wpAny_pure (wpAny_bind (wpAny_holding ?_)))
  unfold excFromValue isExcClass
  refine wpAny_bind (wpAny_bind (L1.here ?_))
  rw [if_neg (by decide)]
  refine wpAny_pure ?_
  rw [if_neg (by decide)]
  refine wpAny_bind (L2.here ?_)
  rw [if_pos rfl]
  refine wpAny_pure ?_
  refine wpAny_bind (L1.here ?_)
  rw [if_neg (by decide)]
  unfold raisedInstance
  refine wpAny_bind (wpAny_bind (LT.here (wpAny_bind (L3.here ?_))))
  rw [if_pos (by decide)]
  refine wpAny_pure ?_
  refine wpAny_bind (fly_set (uo_ob dd t) F fun h' F' => ?_)
  exact wpAny_raiseNew_none hh (h h' F')
end

section
variable {w : World} {p : Program} {loose : List PySem.Str} {mean : ExcName → Option Value} {mg mb : PySem.Str → Option Value} {g hr B₀ : Heap} {A : Around} {l : List Env} {s : Shared} {R : Result → Shared → Prop} {E : Value → Shared → Prop}
  {e t : Addr} {dd : Option Addr} {tb : Value}
theorem Fly.more {fl : Value} {h h' : Heap} {ob : Value → Obj} (F : Fly hr B₀ l e ob fl h) (hk : ∀ b o, h.get? b = some o → h'.get? b = some o) : Fly hr B₀ l e ob fl h' := by
  obtain ⟨T, oT, ts, a1, a2, a3, a4, a5⟩ := F.obj
  exact ⟨fun b o q => hk b o (F.stays b o q), F.new, F.frames.of_keeps fun b o q _ => ⟨o, hk b o q, rfl⟩, F.ups.trans (Heap.UpToSlots.of_keeps hk), T, oT, ts, hk _ _ a1, a2, a3, hk _ _ a4, a5⟩
theorem Fly.push {fl : Value} {h : Heap} {ob : Value → Obj} {env : Env} {L : Addr} {m : PySem.Str → Option Value} (F : Fly hr B₀ l e ob fl h) (hf : env.frame = some L) (hk : env.scope.kind = .function) (hL : B₀.get? L = none) (hn : h.Ns L m) : Fly hr B₀ (env :: l) e ob fl h :=
  { F with frames := .cons (by rw [hk]; decide) hf hn hL F.frames }

/-- _law_raise(e) -/
theorem raise_call (G : Gnd w p loose mean mg mb g) (B : Below A g l s.heap) (hsz : g.objs.size ≤ s.heap.objs.size) (hroom : A.depth < recursionLimit) (hh : A.handled = none) (hBs : B₀.StaysIn s.heap)
    (F : Fly hr B₀ l e (uo dd t) .none s.heap) (hR : ∀ h' tk', Fly hr B₀ l e (uo dd t) .none h' → R (.error (.ref e)) { s with heap := h', toks := tk' }) :
    codeAny (model prg w) A (.call (.ref 136) ⟨[.ref e], []⟩) R s := by
  refine' enterG G B hsz ?k6 ?k7 hroom (Bound.of_eq (binds := [(eN, .ref e)]) ?k9) ?kB ?_ ?c2 ?c3 ?c4 ?c5
  case k6 => k_is
  case k7 => k_is
  case k9 => exact rfl
  case kB => rintro _ rfl; exact locs rfl
  case c2 => exact rfl
  case c3 => exact rfl
  case c4 => exact rfl
  case c5 => decide
  rintro L h₁ tk _ rfl F₁ B' hk hL
  have hL₀ : B₀.get? L = none := by
    cases q : B₀.get? L with
    | none => rfl
    | some o => have := hBs L o q; rw [hL] at this; cases this
  refine wpAny_execs_cons (raise_again (G.X.keeps F₁.keep) hh (fun Q' E' hq => ld F₁ rfl hq) ?F fun h₂ F₂ => fly_next (uo_ob dd t) B'.stack rfl F₂ fun h₃ F₃ => hR h₃ _ F₃)
  exact (F.more hk).push rfl rfl hL₀ F₁.ns

abbrev raiseN : PySem.Str := Str.ofString "_law_raise"
/-- the lambda that raises it again -/
theorem again_call {f c c' : Addr} {pm ctv : Value} {p1 p2 p3 p4 : Pos} {word : PySem.Str} {tw : Tok} (G : Gnd w p loose mean mg mb g) (B : Below A g l s.heap) (hsz : g.objs.size ≤ s.heap.objs.size) (hroom : A.depth + 1 < recursionLimit) (hh : A.handled = none) (hBs : B₀.StaysIn s.heap)
    (ho : s.heap.get? f = some (lamObj qAgain p1 (.Call (.Name raiseN p2) [.Name eN p3] [] p4) [(eN, .free), (raiseN, .globalImplicit)] eN c pm c' ctv)) (hcd : s.heap.CodeRec (.ref c') qAgain) (hc : s.heap.IsCell c (some (.ref e)))
    (F : Fly hr B₀ l e (uo dd t) .none s.heap) (hR : ∀ h' tk', Fly hr B₀ l e (uo dd t) .none h' → R (.error (.ref e)) { s with heap := h', toks := tk' }) :
    codeAny (model prg w) A (.call (.ref f) ⟨[.str word tw], []⟩) R s := by
  refine lam_call G B hsz (Nat.lt_of_succ_lt hroom) ho hcd (by decide) (fun L h₁ tk F₁ B' hk hL => ?_)
  have hL₀ : B₀.get? L = none := by
    cases q : B₀.get? L with
    | none => rfl
    | some o => have := hBs L o q; rw [hL] at this; cases this
  have hX := G.X.keeps F₁.keep
  refine wpAny_Call_ofName (nameX_K F₁ G.X (topRead_of G.T) (v := .ref 136) (by kernel_rfl) ?_)
  refine callWith_K (K := hd.heap_39 w.params) G.X (by kernel_rfl) (spliced_more ?_)
  refine wpAny_Name (wpAny_loadName_free rfl rfl rfl (hc.keeps hk) ?_ (by decide)) (by decide)
  refine spliced_none ⟨hX, wpAny_call ?_⟩
  refine raise_call G B' (Nat.le_of_lt (Nat.lt_of_le_of_lt F₁.above F₁.ns.lt)) (by exact hroom) hh (fun b o q => hk b o (hBs b o q)) ((F.more hk).push rfl rfl hL₀ F₁.ns) fun h₂ tk₂ F₂ => ?_
  exact fly_next (uo_ob dd t) B'.stack rfl F₂ fun h₃ F₃ => hR h₃ _ F₃

/-- self's maker raises an error again -/
def MkAgain (w : World) (A : Around) (s : Shared) (self : Value) (word : PySem.Str) (hr B₀ : Heap) (l : List Env) (e : Addr) (ob : Value → Obj) : Prop :=
  ∀ (env : Env) (pos p4 : Pos) (k : Nat) (pl : Sem Bool) (Q E : Value → Shared → Prop), (∀ h' tk', Fly hr B₀ l e ob .none h' → E (.ref e) { s with heap := h', toks := tk' }) →
    wpAny (model prg w) A (getMethod self umN pl) (fun fx s₂ => wpAny (model prg w) A (callWith pos fx.1 fx.2 (backTo pos (starEach [.Constant (.str word) k p4] env)) []) Q E s₂) E s
theorem mk_again {f c c' d e₂ t₂ : Addr} {pm ctv tb₂ : Value} {p1 p2 p3 p4 : Pos} {word : PySem.Str} {hs : Int} {tk : Tok} {n : Nat} (G : Gnd w p loose mean mg mb g) (B : Below A g l s.heap) (hsz : g.objs.size ≤ s.heap.objs.size) (hroom : A.depth + 1 < recursionLimit) (hh : A.handled = none) (hBs : B₀.StaysIn s.heap)
    (he : s.heap.get? e₂ = some (uo (some d) t₂ tb₂)) (hd' : s.heap.get? d = some (dictOf [⟨hs, .str umN tk, .ref f⟩] n))
    (ho : s.heap.get? f = some (lamObj qAgain p1 (.Call (.Name raiseN p2) [.Name eN p3] [] p4) [(eN, .free), (raiseN, .globalImplicit)] eN c pm c' ctv)) (hcd : s.heap.CodeRec (.ref c') qAgain) (hc : s.heap.IsCell c (some (.ref e)))
    (F : Fly hr B₀ l e (uo dd t) .none s.heap) : MkAgain w A s (.ref e₂) word hr B₀ l e (uo dd t) := by
  intro env pos p4 k pl Q E hE
  refine uo_method (G.X.keeps B.stays) he hd' rfl ?_
  refine callWith_word (keeper_fn ho) fun tw tk => wpAny_call ?_
  exact again_call (s := { s with toks := tk }) G B hsz hroom hh hBs ho hcd hc F hE
end

section
variable {w : World} {p : Program} {loose : List PySem.Str} {mean : ExcName → Option Value} {mg mb : PySem.Str → Option Value} {g : Heap} {A : Around} {l : List Env} {s : Shared} {R : Result → Shared → Prop}
  {name qual : PySem.Str} {params : Arguments} {scope : Scope} {dV kV doc pm cdv ct oc : Value} {an od : Option Addr} {osl : Array (Option Value)} {f : Addr} {args : Args} {word : PySem.Str} {kk : Nat} {p1 p2 p3 p4 p5 p6 p7 : Pos} {self : Value}
  {P : List (PySem.Str × Value) → Prop} {e t T : Addr} {dd : Option Addr} {oT : Obj} {ts : Array Value}

/-- an error that was caught lies at rest -/
theorem rest_fly (B : Below A g l s.heap) (he : s.heap.get? e = some (uo dd t (.ref T))) (hT : s.heap.get? T = some oT) (hTd : oT.data = .fields ts) (h3 : ts[3]? = some .none) (hTe : T ≠ e) :
    Fly s.heap (hideAll s.heap (e :: T :: framesOf l)) l e (uo dd t) .none s.heap :=
  ⟨fun b o q => of_hideAll _ q, hideAll_none _ (.head _), funFrames_hide B.frames fun env' he' a ha => List.mem_cons_of_mem _ (List.mem_cons_of_mem _ (List.mem_filterMap.mpr ⟨env', he', ha⟩)), Heap.UpToSlots.refl _,
    T, oT, ts, he, hideAll_none _ (.tail _ (.head _)), hTe, hT, hTd, h3⟩

theorem meth_again (G : Gnd w p loose mean mg mb g) (B : Below A g l s.heap) (hsz : g.objs.size ≤ s.heap.objs.size) (hroom : A.depth < recursionLimit) (hh : A.handled = none)
    (ho : (hd.heap_39 w.params).lookup f = some ⟨oc, od, .func (fnOf name qual params (mbody word kk p1 p2 p3 p4 p5 p6 p7) scope dV kV doc pm an cdv ct), osl⟩) (hcd : codeIn (hd.heap_39 w.params) cdv qual = true)
    (hbind : Bound s (fnOf name qual params (mbody word kk p1 p2 p3 p4 p5 p6 p7) scope dV kV doc pm an cdv ct) args P) (hloc : ∀ binds, P binds → ∀ y ∈ binds, scope.names.lookup y.1 = some .local)
    (hself : ∀ binds, P binds → binds.reverse.lookup selfN = some self) (hks : scope.names.lookup selfN = some .local) (hku : scope.names.lookup uoN = some .globalImplicit)
    (hline : (p3.endLine == p5.line) = true)
    (hco : scope.isCoroutine = false) (hgen : scope.isGenerator = false) (hk : scope.kind = .function) (hcell : ∀ x ∈ scope.names, x.2 ≠ .cell)
    (he : s.heap.get? e = some (uo dd t (.ref T))) (hT : s.heap.get? T = some oT) (hTd : oT.data = .fields ts) (h3 : ts[3]? = some .none) (hTe : T ≠ e)
    (hmk : ∀ env h₁ tk (B₀ : Heap), (∀ b o, s.heap.get? b = some o → h₁.get? b = some o) → g.objs.size ≤ h₁.objs.size → Below (A.deeper env) g (env :: l) h₁ → B₀.StaysIn h₁ → Fly s.heap B₀ (env :: l) e (uo dd t) .none h₁ →
      MkAgain w (A.deeper env) { s with heap := h₁, toks := tk } self word s.heap B₀ (env :: l) e (uo dd t))
    (hR : ∀ B h' tk', Thrown s.heap [e, T] l e (uo dd t) B h' → R (.error (.ref e)) { s with heap := h', toks := tk' }) :
    codeAny (model prg w) A (.call (.ref f) args) R s := by
  have F₀ := rest_fly B he hT hTd h3 hTe
  refine enterG G B hsz ho hcd hroom hbind hloc (fun L h₁ tk binds hP F B' hk₁ hL => ?_) hco hgen hk hcell
  have hL₀ : (hideAll s.heap (e :: T :: framesOf l)).get? L = none := by
    cases q : (hideAll s.heap (e :: T :: framesOf l)).get? L with
    | none => rfl
    | some o => have := of_hideAll _ q; rw [hL] at this; cases this
  refine wpAny_execs_cons (Raise_own F G.T.g (uo_own G) PySem.F.excBase_NotImplementedError hh (spliced_more ?_) rfl rfl hk (by exact hku) (by decide))
  refine mcall hline (ld F (hself binds hP) (fun pl => ?_) hk (by exact hks))
  have F₁ := (F₀.more hk₁).push (env := envOf qual scope L f cdv) rfl hk hL₀ F.ns
  refine hmk _ h₁ tk _ hk₁ (Nat.le_of_lt (Nat.lt_of_le_of_lt F.above F.ns.lt)) B' (fun b o q => hk₁ b o (of_hideAll _ q)) F₁ _ _ _ _ _ _ _ fun h₂ tk₂ F₂ => ?_
  refine fly_next (uo_ob dd t) B'.stack rfl F₂ fun h₃ F₃ => hR _ h₃ _ ⟨uo_ob dd t, fun b o hb hbl hbx => hideAll_get _ hb fun hm => ?_, F₃⟩
  rcases List.mem_cons.mp hm with q | hm
  · exact hbx (by simp [q])
  · rcases List.mem_cons.mp hm with q | hm
    · exact hbx (by simp [q])
    · exact hbl hm
end
section
variable {w : World} {p : Program} {loose : List PySem.Str} {mean : ExcName → Option Value} {mg mb : PySem.Str → Option Value} {g : Heap} {A : Around} {l : List Env} {s : Shared} {R : Result → Shared → Prop} {self : Value} {x : PySem.Str} {tx : Tok} {e t T : Addr} {dd : Option Addr} {oT : Obj} {ts : Array Value}
theorem part_again (a : Nat) (ha : a < 5) (G : Gnd w p loose mean mg mb g) (B : Below A g l s.heap) (hsz : g.objs.size ≤ s.heap.objs.size) (hroom : A.depth < recursionLimit) (hh : A.handled = none)
    (he : s.heap.get? e = some (uo dd t (.ref T))) (hT : s.heap.get? T = some oT) (hTd : oT.data = .fields ts) (h3 : ts[3]? = some .none) (hTe : T ≠ e)
    (hmk : ∀ env h₁ tk (B₀ : Heap), (∀ b o, s.heap.get? b = some o → h₁.get? b = some o) → g.objs.size ≤ h₁.objs.size → Below (A.deeper env) g (env :: l) h₁ → B₀.StaysIn h₁ → Fly s.heap B₀ (env :: l) e (uo dd t) .none h₁ →
      MkAgain w (A.deeper env) { s with heap := h₁, toks := tk } self (wordOf a) s.heap B₀ (env :: l) e (uo dd t))
    (hR : ∀ B h' tk', Thrown s.heap [e, T] l e (uo dd t) B h' → R (.error (.ref e)) { s with heap := h', toks := tk' }) :
    codeAny (model prg w) A (.call (.ref (partAt a)) ⟨[self, .str x tx], []⟩) R s := by
  rcases a with _ | _ | _ | _ | _ | a
  · refine' meth_again (word := Str.ofString "join()") G B hsz hroom hh ?ho ?hcd bound_join ?hl ?hs ?ks ?ku ?hn ?c2 ?c3 ?c4 ?c5 he hT hTd h3 hTe (fun env h₁ tk => hmk env h₁ tk) hR
    case ho => k_is
    case hcd => k_is
    case hl => rintro _ ⟨tv, rfl⟩; exact locs rfl
    case hs => rintro _ ⟨tv, rfl⟩; exact rfl
    case ks => exact rfl
    case ku => exact rfl
    case hn => exact rfl
    case c2 => exact rfl
    case c3 => exact rfl
    case c4 => exact rfl
    case c5 => decide
  · refine' meth_again (word := Str.ofString "split()") G B hsz hroom hh ?ho ?hcd (Bound.of_eq (binds := [(selfN, self), (pathN, .str x tx)]) ?hb) ?hl ?hs ?ks ?ku ?hn ?c2 ?c3 ?c4 ?c5 he hT hTd h3 hTe (fun env h₁ tk => hmk env h₁ tk) hR
    case ho => k_is
    case hcd => k_is
    case hb => exact rfl
    case hl => rintro _ rfl; exact locs rfl
    case hs => rintro _ rfl; exact rfl
    case ks => exact rfl
    case ku => exact rfl
    case hn => exact rfl
    case c2 => exact rfl
    case c3 => exact rfl
    case c4 => exact rfl
    case c5 => decide
  · refine' meth_again (word := Str.ofString "splitdrive()") G B hsz hroom hh ?ho ?hcd (Bound.of_eq (binds := [(selfN, self), (pathN, .str x tx)]) ?hb) ?hl ?hs ?ks ?ku ?hn ?c2 ?c3 ?c4 ?c5 he hT hTd h3 hTe (fun env h₁ tk => hmk env h₁ tk) hR
    case ho => k_is
    case hcd => k_is
    case hb => exact rfl
    case hl => rintro _ rfl; exact locs rfl
    case hs => rintro _ rfl; exact rfl
    case ks => exact rfl
    case ku => exact rfl
    case hn => exact rfl
    case c2 => exact rfl
    case c3 => exact rfl
    case c4 => exact rfl
    case c5 => decide
  · refine' meth_again (word := Str.ofString "normcase()") G B hsz hroom hh ?ho ?hcd (Bound.of_eq (binds := [(selfN, self), (pathN, .str x tx)]) ?hb) ?hl ?hs ?ks ?ku ?hn ?c2 ?c3 ?c4 ?c5 he hT hTd h3 hTe (fun env h₁ tk => hmk env h₁ tk) hR
    case ho => k_is
    case hcd => k_is
    case hb => exact rfl
    case hl => rintro _ rfl; exact locs rfl
    case hs => rintro _ rfl; exact rfl
    case ks => exact rfl
    case ku => exact rfl
    case hn => exact rfl
    case c2 => exact rfl
    case c3 => exact rfl
    case c4 => exact rfl
    case c5 => decide
  · refine' meth_again (word := Str.ofString "isabs()") G B hsz hroom hh ?ho ?hcd (Bound.of_eq (binds := [(selfN, self), (pathN, .str x tx)]) ?hb) ?hl ?hs ?ks ?ku ?hn ?c2 ?c3 ?c4 ?c5 he hT hTd h3 hTe (fun env h₁ tk => hmk env h₁ tk) hR
    case ho => k_is
    case hcd => k_is
    case hb => exact rfl
    case hl => rintro _ rfl; exact locs rfl
    case hs => rintro _ rfl; exact rfl
    case ks => exact rfl
    case ku => exact rfl
    case hn => exact rfl
    case c2 => exact rfl
    case c3 => exact rfl
    case c4 => exact rfl
    case c5 => decide
  · omega
end
/-! ## _law_ask -/
section
abbrev aN : PySem.Str := Str.ofString "a"
abbrev sN : PySem.Str := Str.ofString "s"
abbrev pbN : PySem.Str := Str.ofString "ParserBase"
variable {w : World} {p : Program} {loose : List PySem.Str} {mean : ExcName → Option Value} {mg mb : PySem.Str → Option Value} {g : Heap} {A : Around} {l : List Env} {s : Shared} {R : Result → Shared → Prop} {self : Value} {ta : Tok} {X : List Addr}

/-- a method's call on one line, its arguments plain -/
theorem mcallN {M : Model} {E : Value → Shared → Prop} {env : Env} {x nm : PySem.Str} {xp apos pos : Pos} {args : List PySem.Expr} {Q : Value → Shared → Prop} (hline : (apos.endLine == pos.line) = true)
    (hform : methodCallForm (args.length + 0) (backTo pos (starEach args env)) (backToKw pos (keywordEach [] env)) = true)
    (h : wpAny M A (eval (.Name x xp) env) (fun ov s₁ => ∀ pl, wpAny M A (getMethod ov nm pl) (fun fx s₂ => wpAny M A (callWith pos fx.1 fx.2 (backTo pos (starEach args env)) []) Q E s₂) E s₁) E s) :
    wpAny M A (eval (.Call (.Attribute (.Name x xp) nm apos) args [] pos) env) Q E s := by
  show wpAny M A (do
    let ov ← eval (.Name x xp) env
    standAt apos.atName
    methodCall (.Name x xp) nm apos pos env ov (args.length + 0) (backTo pos (starEach args env)) (backToKw pos (keywordEach [] env))) Q E s
  refine wpAny_bind (wpAny_mono h (fun ov s₁ h₁ => wpAny_bind (wpAny_standAt ?_)) fun _ _ x => x)
  unfold methodCall calleeOf methodCallPos
  rw [if_pos hform, hline, Bool.or_true, if_pos rfl]
  refine wpAny_bind (wpAny_holding (wpAny_mono (h₁ _) (fun fx s₂ h₂ => ?_) fun _ _ x => x))
  exact wpAny_bind (wpAny_pure h₂)

/-- return ParserBase.part(s, 'x') -/
theorem ask_tail {nm : PySem.Str} {f : Addr} {L ff : Addr} {m : PySem.Str → Option Value} {cn : PySem.Str} {cs : Scope} {ccd : Value} {p1 p2 p3 p4 p5 p6 : Pos} {k : Nat} {E : Value → Shared → Prop} {Q : Flow → Shared → Prop} (G : Gnd w p loose mean mg mb g) (F : Fr g L s.heap m) (hself : m sN = some self)
    (hnm : findCls (hd.heap_39 w.params) (.ref 97) (.type "type") nm = some (.val (.ref f))) (hkp : keepIn (hd.heap_39 w.params) (.ref f) = true) (hline : (p2.endLine == p5.line) = true) (hk : cs.kind = .function) (hks : cs.names.lookup sN = some .local) (hkp' : cs.names.lookup pbN = some .globalImplicit)
    (h : ∀ tx tk, wpAny (model prg w) A (call (.ref f) [self, .str (Str.ofString "x") tx]) (fun v s' => Q (.ret v) s') E { s with toks := tk }) :
    wpAny (model prg w) A (execs [.Return (some (.Call (.Attribute (.Name pbN p1) nm p2) [.Name sN p3, .Constant (.str (Str.ofString "x")) k p4] [] p5)) p6] (envOf cn cs L ff ccd)) Q E s := by
  have X := G.X.keeps F.keep
  refine wpAny_execs_cons (wpAny_Return_some ?_)
  refine mcallN hline rfl (name_K F G.X (topRead_of G.T) (v := .ref 97) (by kernel_rfl) (fun pl => ?_) hk (by exact hkp') (by decide))
  refine method_cls X (by kernel_rfl) (cls_value X (mc := .type "type") (by kernel_rfl) hnm rfl ?_)
  refine callWith_K (K := hd.heap_39 w.params) G.X hkp (spliced_more (ld (s := { s with toks := s.toks + 1 }) F hself ?_ hk (by exact hks) (by decide)))
  refine spliced_more (wpAny_Constant_str (spliced_none ⟨X, ?_⟩))
  exact h _ _

/-- it leaves a frame -/
theorem thrown_leaves {M : Model} {E : Value → Shared → Prop} {env : Env} {L e : Addr} {ob : Value → Obj} {B h₀ h₁ : Heap} {Q : Unit → Shared → Prop} (T : Thrown h₁ X (env :: l) e ob B s.heap) (hf : env.frame = some L) (hA : A.frames = some (env :: l))
    (hk : ∀ b o, h₀.get? b = some o → h₁.get? b = some o) (hL : h₀.get? L = none) (h : ∀ h', Thrown h₀ X l e ob B h' → Q () { s with heap := h' }) : wpAny M A (leaving env (.ref e)) Q E s := by
  refine fly_next T.ob_ hA hf T.fly fun h' F => h h' ⟨T.ob_, fun b o hb hbl hbx => T.kept b o (hk b o hb) (fun hm => ?_) hbx, F.mono (Heap.UpToSlots.of_keeps hk)⟩
  have hfr : framesOf (env :: l) = L :: framesOf l := by unfold framesOf; rw [List.filterMap_cons, hf]
  rw [hfr] at hm
  rcases List.mem_cons.mp hm with q | q
  · rw [q, hL] at hb; cases hb
  · exact hbl q

/-- what a part does when it is called from the heap h₀ on -/
def PartThrows (w : World) (A : Around) (g : Heap) (l : List Env) (s : Shared) (X : List Addr) (EX : Heap → Addr → (Value → Obj) → Heap → Prop) (c : Code) : Prop :=
  ∀ env (h₁ : Heap) tk (R : Result → Shared → Prop), (∀ b o, s.heap.get? b = some o → h₁.get? b = some o) → g.objs.size ≤ h₁.objs.size → Below (A.deeper env) g (env :: l) h₁ →
    (∀ e ob B h' tk', Thrown h₁ X (env :: l) e ob B h' → EX h₁ e ob B → R (.error (.ref e)) { s with heap := h', toks := tk' }) → codeAny (model prg w) (A.deeper env) c R { s with heap := h₁, toks := tk }

theorem ask_call {EX : Heap → Addr → (Value → Obj) → Heap → Prop} (hEX : ∀ {h h' : Heap} {e ob B}, (∀ b o, h.get? b = some o → h'.get? b = some o) → EX h' e ob B → EX h e ob B) (a : Nat) (ha : a < 5) (G : Gnd w p loose mean mg mb g) (B : Below A g l s.heap) (hsz : g.objs.size ≤ s.heap.objs.size) (hroom : A.depth < recursionLimit)
    (hpart : ∀ tx, PartThrows w A g l s X EX (.call (.ref (partAt a)) ⟨[self, .str (Str.ofString "x") tx], []⟩))
    (hR : ∀ e ob B h' tk', Thrown s.heap X l e ob B h' → EX s.heap e ob B → R (.error (.ref e)) { s with heap := h', toks := tk' }) :
    codeAny (model prg w) A (.call (.ref 108) ⟨[.int a ta, self], []⟩) R s := by
  refine' enterG G B hsz ?k6 ?k7 hroom (Bound.of_eq (binds := [(aN, .int a ta), (sN, self)]) ?k9) ?kB ?_ ?c2 ?c3 ?c4 ?c5
  case k6 => k_is
  case k7 => k_is
  case k9 => exact rfl
  case kB => rintro _ rfl; exact locs rfl
  case c2 => exact rfl
  case c3 => exact rfl
  case c4 => exact rfl
  case c5 => decide
  rintro L h₁ tk _ rfl F B' hk hL
  have N : News g L h₁ [] := News.nil
  have X := G.X
  have T := G.T
  have hsz' := Nat.le_of_lt (Nat.lt_of_le_of_lt F.above F.ns.lt)
  rcases a with _ | _ | _ | _ | _ | a
  · iterate 8 (first | walk1 | (dsimp only; walk1))
    dsimp only
    refine ask_tail (f := 66) (nm := Str.ofString "join") G F rfl (by kernel_rfl) (by kernel_rfl) rfl rfl rfl rfl fun tx tk' => wpAny_call ?_
    exact hpart tx _ h₁ tk' _ hk hsz' B' fun e ob B₂ h₂ tk₂ T₂ X₂ => thrown_leaves (s := { s with heap := h₂, toks := tk₂ }) T₂ rfl B'.stack hk hL fun h₃ T₃ => hR e ob B₂ h₃ tk₂ T₃ (hEX hk X₂)
  · iterate 18 (first | walk1 | (dsimp only; walk1))
    dsimp only
    refine ask_tail (f := 73) (nm := Str.ofString "split") G F rfl (by kernel_rfl) (by kernel_rfl) rfl rfl rfl rfl fun tx tk' => wpAny_call ?_
    exact hpart tx _ h₁ tk' _ hk hsz' B' fun e ob B₂ h₂ tk₂ T₂ X₂ => thrown_leaves (s := { s with heap := h₂, toks := tk₂ }) T₂ rfl B'.stack hk hL fun h₃ T₃ => hR e ob B₂ h₃ tk₂ T₃ (hEX hk X₂)
  · iterate 28 (first | walk1 | (dsimp only; walk1))
    dsimp only
    refine ask_tail (f := 80) (nm := Str.ofString "splitdrive") G F rfl (by kernel_rfl) (by kernel_rfl) rfl rfl rfl rfl fun tx tk' => wpAny_call ?_
    exact hpart tx _ h₁ tk' _ hk hsz' B' fun e ob B₂ h₂ tk₂ T₂ X₂ => thrown_leaves (s := { s with heap := h₂, toks := tk₂ }) T₂ rfl B'.stack hk hL fun h₃ T₃ => hR e ob B₂ h₃ tk₂ T₃ (hEX hk X₂)
  · iterate 38 (first | walk1 | (dsimp only; walk1))
    dsimp only
    refine ask_tail (f := 87) (nm := Str.ofString "normcase") G F rfl (by kernel_rfl) (by kernel_rfl) rfl rfl rfl rfl fun tx tk' => wpAny_call ?_
    exact hpart tx _ h₁ tk' _ hk hsz' B' fun e ob B₂ h₂ tk₂ T₂ X₂ => thrown_leaves (s := { s with heap := h₂, toks := tk₂ }) T₂ rfl B'.stack hk hL fun h₃ T₃ => hR e ob B₂ h₃ tk₂ T₃ (hEX hk X₂)
  · iterate 40 (first | walk1 | (dsimp only; walk1))
    dsimp only
    refine ask_tail (f := 94) (nm := Str.ofString "isabs") G F rfl (by kernel_rfl) (by kernel_rfl) rfl rfl rfl rfl fun tx tk' => wpAny_call ?_
    exact hpart tx _ h₁ tk' _ hk hsz' B' fun e ob B₂ h₂ tk₂ T₂ X₂ => thrown_leaves (s := { s with heap := h₂, toks := tk₂ }) T₂ rfl B'.stack hk hL fun h₃ T₃ => hR e ob B₂ h₃ tk₂ T₃ (hEX hk X₂)
  · omega
end
/-! ## _law_caught -/
section
/-- e was caught below the frames l: what stays, and e itself at rest -/
structure Caught (h₀ : Heap) (X : List Addr) (l : List Env) (e : Addr) (ob : Value → Obj) (B h : Heap) : Prop where
  kept : ∀ b o, h₀.get? b = some o → b ∉ framesOf l → b ∉ X → B.get? b = some o
  stays : B.StaysIn h
  ups : h₀.UpToSlots h
  obj : ∃ T oT ts, h.get? e = some (ob (.ref T)) ∧ B.get? T = none ∧ T ≠ e ∧ h.get? T = some oT ∧ oT.data = .fields ts ∧ ts[3]? = some .none

theorem Caught.sameBut {h₀ h h' h₁ : Heap} {X : List Addr} {l : List Env} {env : Env} {L e : Addr} {ob : Value → Obj} {B : Heap} (T : Thrown h₁ X (env :: l) e ob B h) (hf : env.frame = some L) (hk : ∀ b o, h₀.get? b = some o → h₁.get? b = some o) (hL : h₀.get? L = none) (O : ∃ o, h₁.get? L = some o ∧ ∀ vs, o.data ≠ .fields vs)
    (hs : Heap.SameBut L h h') : Caught h₀ X l e ob B h' := by
  obtain ⟨Tb, oT, ts, he, hT0, hTe, hT, hTd, h3⟩ := T.fly.obj
  obtain ⟨oL, hoL, hnf⟩ := O
  obtain ⟨sl, hLh⟩ := T.fly.ups L oL hoL hnf
  have hfr : framesOf (env :: l) = L :: framesOf l := by unfold framesOf; rw [List.filterMap_cons, hf]
  have hBL : B.get? L = none := (T.fly.frames.mem (b := L) (by show L ∈ framesOf (env :: l); rw [hfr]; exact .head _)).1
  have hne : ∀ {b o}, h.get? b = some o → (∃ vs, o.data = .fields vs) → b ≠ L := fun {b o} hb hv q => by
    obtain ⟨vs, hv⟩ := hv
    rw [q, hLh] at hb; cases hb; exact hnf vs hv
  obtain ⟨vs, hvd, _⟩ := T.ob_.data (.ref Tb)
  refine ⟨fun b o hb hbl hbx => T.kept b o (hk b o hb) (fun hm => ?_) hbx, fun b o hb => (hs.2 b fun q => by rw [q, hBL] at hb; cases hb).trans (T.fly.stays b o hb), fun b o hb hnf' => ?_, Tb, oT, ts,
    (hs.2 e (hne he ⟨vs, hvd⟩)).trans he, hT0, hTe, (hs.2 Tb (hne hT ⟨ts, hTd⟩)).trans hT, hTd, h3⟩
  · rw [hfr] at hm
    rcases List.mem_cons.mp hm with q | q
    · rw [q, hL] at hb; cases hb
    · exact hbl q
  · obtain ⟨sl', hs'⟩ := T.fly.ups b o (hk b o hb) hnf'
    exact ⟨sl', (hs.2 b fun q => by rw [q, hL] at hb; cases hb).trans hs'⟩

variable {w : World} {p : Program} {loose : List PySem.Str} {mean : ExcName → Option Value} {mg mb : PySem.Str → Option Value} {g : Heap} {A : Around} {l : List Env} {s : Shared} {R : Result → Shared → Prop} {self : Value} {ta : Tok} {X : List Addr}
abbrev askN : PySem.Str := Str.ofString "_law_ask"

theorem thrown_ground {h₁ : Heap} {e : Addr} {ob : Value → Obj} {B₂ h : Heap} (B : Below A g l h₁) (hXg : ∀ b ∈ X, g.get? b = none) (T : Thrown h₁ X l e ob B₂ h) : g.StaysIn B₂ := fun b o hb =>
  T.kept b o (B.stays b o hb) (fun hm => by rw [(B.frames.mem hm).1] at hb; cases hb) fun hm => by rw [hXg b hm] at hb; cases hb

theorem caught_uo {EX : Heap → Addr → (Value → Obj) → Heap → Prop} (hEX : ∀ {h h' : Heap} {e ob B}, (∀ b o, h.get? b = some o → h'.get? b = some o) → EX h' e ob B → EX h e ob B) (hob : ∀ {h e ob B}, EX h e ob B → ∃ dd t, ob = uo dd t)
    (a : Nat) (ha : a < 5) (G : Gnd w p loose mean mg mb g) (B : Below A g l s.heap) (hsz : g.objs.size ≤ s.heap.objs.size) (hroom : A.depth + 1 < recursionLimit) (hh : A.handled = none) (hXg : ∀ b ∈ X, g.get? b = none)
    (hpart : ∀ env (h₁ : Heap) tk, (∀ b o, s.heap.get? b = some o → h₁.get? b = some o) → g.objs.size ≤ h₁.objs.size → Below (A.deeper env) g (env :: l) h₁ → ∀ tx, PartThrows w (A.deeper env) g (env :: l) { s with heap := h₁, toks := tk } X EX (.call (.ref (partAt a)) ⟨[self, .str (Str.ofString "x") tx], []⟩))
    (hR : ∀ e ob B h' tk', Caught s.heap X l e ob B h' → EX s.heap e ob B → R (.ok (.ret (.ref e))) { s with heap := h', toks := tk' }) :
    codeAny (model prg w) A (.call (.ref 115) ⟨[.int a ta, self], []⟩) R s := by
  refine' enterG G B hsz ?k6 ?k7 (Nat.lt_of_succ_lt hroom) (Bound.of_eq (binds := [(aN, .int a ta), (sN, self)]) ?k9) ?kB ?_ ?c2 ?c3 ?c4 ?c5
  case k6 => k_is
  case k7 => k_is
  case k9 => exact rfl
  case kB => rintro _ rfl; exact locs rfl
  case c2 => exact rfl
  case c3 => exact rfl
  case c4 => exact rfl
  case c5 => decide
  rintro L h₁ tk _ rfl F B' hk hL
  have N : News g L h₁ [] := News.nil
  have X' := G.X
  have T' := G.T
  have hsz' := Nat.le_of_lt (Nat.lt_of_le_of_lt F.above F.ns.lt)
  iterate 12 (first | walk1 | (dsimp only; walk1))
  refine ⟨G.X.keeps F.keep, wpAny_call ?_⟩
  refine ask_call (EX := EX) (X := X) @hEX a ha G B' hsz' (by exact hroom) (hpart _ h₁ _ hk hsz' B') fun e ob B₂ h₂ tk₂ T₂ X₂ => ?_
  obtain ⟨dd, t, rfl⟩ := hob X₂
  refine fly_note T₂.ob_ B'.stack rfl T₂.fly fun h₃ F₃ => ?_
  refine fly_set T₂.ob_ F₃ fun h₄ F₄ => ?_
  have st₄ : g.StaysIn h₄ := fun b o q => F₄.stays b o (thrown_ground B' hXg T₂ b o q)
  have hK₄ := G.X.keeps st₄
  have F₄' : Fr g L h₄ _ := ⟨F₄.ups.ns F.ns, st₄, F.above⟩
  obtain ⟨Tb, oT, ts, he, _⟩ := id F₄.obj
  refine wpAny_handleBy_cons (codeAny_handlers_test (name_K F₄' G.X (topRead_of G.T) (v := .ref 31) (by kernel_rfl) ?_)) (by intro q; cases q)
  refine wpAny_excMatches_sub_self (uo_cls hK₄) he rfl rfl ?_
  refine codeAny_handlers_suite_as (fly_set T₂.ob_ F₄ fun h₅ F₅ => ?_)
  have T₅ : Thrown h₁ X _ e (uo dd t) B₂ h₅ := { T₂ with fly := F₅ }
  refine wpAny_storeName_local rfl (F₅.ups.ns F.ns) (fun h₆ hn₆ hs₆ => ?_)
  refine wpAny_execs_cons (wpAny_Return_some (wpAny_Name (wpAny_loadName_local rfl rfl hn₆ (if_pos rfl) ?_)))
  refine wpAny_nameGoes_keeps rfl hn₆ rfl fun h₇ v hn₇ hs₇ => ?_
  obtain ⟨oL, _, _, hoL, hdL, _⟩ := F.ns
  refine hR e _ B₂ h₇ _ (Caught.sameBut T₅ rfl hk hL ⟨oL, hoL, fun vs q => by rw [hdL] at q; cases q⟩ (hs₆.trans hs₇)) (hEX hk X₂)

/-- after a missing field: what stays -/
structure Lacked (h₀ : Heap) (l : List Env) (B h : Heap) : Prop where
  kept : ∀ b o, h₀.get? b = some o → b ∉ framesOf l → B.get? b = some o
  stays : B.StaysIn h
  ups : h₀.UpToSlots h

theorem caught_ae (a : Nat) (ha : a < 5) (G : Gnd w p loose mean mg mb g) (B : Below A g l s.heap) (hsz : g.objs.size ≤ s.heap.objs.size) (hroom : A.depth + 1 < recursionLimit) (hh : A.handled = none)
    (hpart : ∀ env (h₁ : Heap) tk, (∀ b o, s.heap.get? b = some o → h₁.get? b = some o) → g.objs.size ≤ h₁.objs.size → Below (A.deeper env) g (env :: l) h₁ → ∀ tx, PartThrows w (A.deeper env) g (env :: l) { s with heap := h₁, toks := tk } [] (fun _ _ ob _ => ∃ t o u, ob = ae t o u) (.call (.ref (partAt a)) ⟨[self, .str (Str.ofString "x") tx], []⟩))
    (hR : ∀ tl B h' tk', Lacked s.heap l B h' → R (.ok (.ret (.str (Str.ofString "lacking") tl))) { s with heap := h', toks := tk' }) :
    codeAny (model prg w) A (.call (.ref 115) ⟨[.int a ta, self], []⟩) R s := by
  refine' enterG G B hsz ?k6 ?k7 (Nat.lt_of_succ_lt hroom) (Bound.of_eq (binds := [(aN, .int a ta), (sN, self)]) ?k9) ?kB ?_ ?c2 ?c3 ?c4 ?c5
  case k6 => k_is
  case k7 => k_is
  case k9 => exact rfl
  case kB => rintro _ rfl; exact locs rfl
  case c2 => exact rfl
  case c3 => exact rfl
  case c4 => exact rfl
  case c5 => decide
  rintro L h₁ tk _ rfl F B' hk hL
  have N : News g L h₁ [] := News.nil
  have X' := G.X
  have T' := G.T
  have hsz' := Nat.le_of_lt (Nat.lt_of_le_of_lt F.above F.ns.lt)
  iterate 12 (first | walk1 | (dsimp only; walk1))
  refine ⟨G.X.keeps F.keep, wpAny_call ?_⟩
  refine ask_call (EX := fun _ _ ob _ => ∃ t o u, ob = ae t o u) (X := []) (fun _ h => h) a ha G B' hsz' (by exact hroom) (hpart _ h₁ _ hk hsz' B') fun e ob B₂ h₂ tk₂ T₂ X₂ => ?_
  obtain ⟨t, o, u, rfl⟩ := X₂
  refine fly_note T₂.ob_ B'.stack rfl T₂.fly fun h₃ F₃ => ?_
  refine fly_set T₂.ob_ F₃ fun h₄ F₄ => ?_
  have st₄ : g.StaysIn h₄ := fun b o q => F₄.stays b o (thrown_ground B' (X := []) (by simp) T₂ b o q)
  have hK₄ := G.X.keeps st₄
  have F₄' : Fr g L h₄ _ := ⟨F₄.ups.ns F.ns, st₄, F.above⟩
  obtain ⟨Tb, oT, ts, he, _⟩ := id F₄.obj
  have LT : Looks (model prg w) h₄ (typeOf (.ref e)) (.type "AttributeError") := (Looks.ld he).andThen .now
  refine wpAny_handleBy_cons (codeAny_handlers_test (name_K F₄' G.X (topRead_of G.T) (v := .ref 31) (by kernel_rfl) ?_)) (by intro q; cases q)
  refine (exm_one hK₄ LT (c := .ref 31) (b := false) (by kernel_rfl)).here ?_
  refine wpAny_handleBy_cons (codeAny_handlers_test (name_B F₄' G.X (topRead_of G.T) (v := .type "AttributeError") (by kernel_rfl) (by decide +kernel) (by decide) ?_)) (by intro q; cases q)
  refine (exm_one hK₄ LT (c := .type "AttributeError") (b := true) (by kernel_rfl)).here ?_
  refine codeAny_handlers_suite (fly_set T₂.ob_ F₄ fun h₅ F₅ => ?_)
  refine wpAny_execs_cons (wpAny_Return_some (wpAny_Constant_str ?_))
  refine hR _ B₂ h₅ _ ⟨fun b o hb hbl => T₂.kept b o (hk b o hb) (fun hm => ?_) (by simp), F₅.stays, (Heap.UpToSlots.of_keeps hk).trans F₅.ups⟩
  rcases List.mem_cons.mp hm with q | q
  · rw [q, hL] at hb; cases hb
  · exact hbl q
end
section
variable {w : World} {p : Program} {loose : List PySem.Str} {mean : ExcName → Option Value} {mg mb : PySem.Str → Option Value} {g : Heap} {A : Around} {s : Shared} {R : Result → Shared → Prop} {K : Frag}
    {name qual : PySem.Str} {params : Arguments} {body : List Stmt} {scope : Scope} {dV kV doc pm cdv ct oc : Value} {an od : Option Addr} {osl : Array (Option Value)} {f : Addr} {args : Args} {binds : List (PySem.Str × Value)}
/-- a def of the text is called: its frame over a base g that stays -/
theorem enterK (X : K.In g) (T : Top p loose mean mg mb g) (hgs : ∀ b o, g.get? b = some o → s.heap.get? b = some o) (hsz : g.objs.size ≤ s.heap.objs.size)
    (ho : K.lookup f = some ⟨oc, od, .func (fnOf name qual params body scope dV kV doc pm an cdv ct), osl⟩) (hcd : codeIn K cdv qual = true) (hroom : A.depth < recursionLimit)
    (hbind : BindsTo s (fnOf name qual params body scope dV kV doc pm an cdv ct) args binds) (hloc : ∀ y ∈ binds, scope.names.lookup y.1 = some .local)
    (h : ∀ h₁, Fr g s.heap.objs.size h₁ (fun y => binds.reverse.lookup y) → (∀ b o, s.heap.get? b = some o → h₁.get? b = some o) →
      wpAny (model prg w) (A.deeper (envOf qual scope s.heap.objs.size f cdv)) (execs body (envOf qual scope s.heap.objs.size f cdv))
        (fun fl s' => R (.ok (.ret (match fl with | .ret v => v | _ => .none))) s')
        (fun e s' => wpAny (model prg w) (A.deeper (envOf qual scope s.heap.objs.size f cdv)) (leaving (envOf qual scope s.heap.objs.size f cdv) e) (fun _ s'' => R (.error e) s'') (fun e' s'' => R (.error e') s'') s')
        { s with heap := h₁, toks := s.toks + binds.length })
    (hco : scope.isCoroutine = false) (hgen : scope.isGenerator = false) (hk : scope.kind = .function)
    (hcell : ∀ x ∈ scope.names, x.2 ≠ .cell) : codeAny (model prg w) A (.call (.ref f) args) R s :=
  codeAny_call_def (fd := fnOf name qual params body scope dV kV doc pm an cdv ct) hroom (hgs _ _ (X _ _ ho)) rfl (T.nolimit.keeps hgs) ((codeRec_of X hcd).keeps hgs) rfl hbind hcell hloc
    (fun h₁ hns hk₁ => h h₁ ⟨hns, fun b o e => hk₁ b o (hgs b o e), hsz⟩ hk₁) hco hgen hk
end
/-! ## _law_right -/
section
abbrev gotN : PySem.Str := Str.ofString "got"
abbrev kN : PySem.Str := Str.ofString "k"
abbrev familyN : PySem.Str := Str.ofString "family"
abbrev makersN : PySem.Str := Str.ofString "makers"
abbrev thingsN : PySem.Str := Str.ofString "things"
variable {w : World} {p : Program} {loose : List PySem.Str} {mean : ExcName → Option Value} {mg mb : PySem.Str → Option Value} {g : Heap} {A : Around} {dp un : Nat} {fr : Option (List Env)} {gd : Option (List Code)} {s : Shared} {R : Result → Shared → Prop}
  {E : Value → Shared → Prop} {Q : Value → Shared → Prop}

/-- an item of a list at a place in it -/
theorem item_at {value slice : PySem.Expr} {l : Addr} {vs : List Value} {n : Nat} {k : Int} {u : Tok} {v : Value} (hl : s.heap.get? l = some (listOf vs.toArray n)) (h0 : 0 ≤ k) (hhi : k < 2 ^ 63) (hx : vs[k.toNat]? = some v) (h : Q v s)
    (hs : subscripted slice false (.ref l) (.int k u) = operate [.ref l, .int k u] (getItem (.ref l) (.int k u)) := by with_unfolding_all rfl) :
    wpAny (model prg w) A (subscriptTail value slice (.ref l) (.int k u)) Q E s := by
  have hL : s.heap.IsList l vs.toArray := ⟨_, hl, rfl, n, rfl⟩
  exact tail_any hL.typeIs slot_list_getitem.lookup (wpAny_getItem_list hL h0 hhi (by simpa using hx) h) hs

theorem right_none {ma mt fa th : Addr} {mks : List Value} {n1 n2 : Nat} {k a i : Int} {tk ta t1 t2 tg : Tok} (G : Gnd w p loose mean mg mb g) (hgs : g.StaysIn s.heap) (hroom : dp < recursionLimit)
    (hma : s.heap.get? ma = some (listOf mks.toArray n1)) (h0 : 0 ≤ k) (hhi : k < 2 ^ 63) (hk : mks[k.toNat]? = some (.ref mt)) (hmt : s.heap.get? mt = some (tupOf #[.str (Str.ofString "none") t1, .int i t2] n2))
    (hR : ∀ h' tk', (∀ b o, s.heap.get? b = some o → h'.get? b = some o) → R (.ok (.ret (.bool true))) { s with heap := h', toks := tk' }) :
    codeAny (model prg w) ⟨none, dp, fr, gd, un⟩ (.call (.ref 150) ⟨[.str (Str.ofString "lacking") tg, .int a ta, .int k tk, .ref fa, .ref ma, .ref th], []⟩) R s := by
  have X := G.X.keeps hgs
  have T := G.T.keeps hgs
  have hst : ∀ b o, s.heap.get? b = some o → s.heap.get? b = some o := fun _ _ e => e
  refine' enterK (g := s.heap) X T hst (Nat.le_refl _) ?k6 ?k7 (by exact hroom) (binds := [(gotN, .str (Str.ofString "lacking") tg), (aN, .int a ta), (kN, .int k tk), (familyN, .ref fa), (makersN, .ref ma), (thingsN, .ref th)]) (BindsTo.of_eq ?k9) ?kB ?_ ?c2 ?c3 ?c4 ?c5
  case k6 => k_is
  case k7 => k_is
  case k9 => exact rfl
  case kB => exact locs rfl
  case c2 => exact rfl
  case c3 => exact rfl
  case c4 => exact rfl
  case c5 => decide
  intro h₁ F hk₁
  have N : News s.heap s.heap.objs.size h₁ [] := News.nil
  have hmt' : IsTup s.heap mt [.str (Str.ofString "none") t1, .int i t2].toArray := ⟨_, hmt, rfl, _, rfl⟩
  iterate 5 (first | walk1 | (dsimp only; walk1))
  refine item_at (F.keep _ _ hma) h0 hhi hk ?_
  repeat (first | walk1 | (dsimp only; walk1))
  rename Fr _ _ _ _ => F₉
  dsimp only
  rw [show (Str.ofString "lacking" == Str.ofString "lacking") = true from by decide]
  exact hR _ _ F₉.keep
end
/-! ## what an error carries -/
section
inductive Due where
  | msg (a : Nat)
  | tag (t : Int) (a : Nat)
  | carry (a : Nat) (d : Due)
def Due.deep : Due → Nat
  | .msg _ => 0
  | .tag _ _ => 1
  | .carry _ d => d.deep + 1
def Due.dat : Due → PyData
  | .msg a => .str (says (wordOf a))
  | .tag t a => .list [.int t, .str (wordOf a)]
  | .carry a d => .list [.str (wordOf a), d.dat]
/-- the value v holds the datum d -/
def Rep (h : Heap) : Due → Value → Prop
  | .msg a, v => ∃ t, v = .str (says (wordOf a)) t
  | .tag t a, v => ∃ r tt tw n, v = .ref r ∧ h.get? r = some (listOf #[.int t tt, .str (wordOf a) tw] n)
  | .carry a d, v => ∃ r tw x n, v = .ref r ∧ h.get? r = some (listOf #[.str (wordOf a) tw, x] n) ∧ Rep h d x
theorem Rep.keeps {h h' : Heap} (k : ∀ b x y n, h.get? b = some (listOf #[x, y] n) → h'.get? b = some (listOf #[x, y] n)) : ∀ {d : Due} {v : Value}, Rep h d v → Rep h' d v
  | .msg _, _, ⟨t, e⟩ => ⟨t, e⟩
  | .tag _ _, _, ⟨r, tt, tw, n, e, hr⟩ => ⟨r, tt, tw, n, e, k _ _ _ _ hr⟩
  | .carry _ _, _, ⟨r, tw, x, n, e, hr, q⟩ => ⟨r, tw, x, n, e, k _ _ _ _ hr, Rep.keeps k q⟩
theorem Rep.reads {h : Heap} : ∀ {d : Due} {v : Value}, Rep h d v → ∃ as, Reads h v d.dat as
  | .msg _, _, ⟨t, rfl⟩ => ⟨_, Reads.str _ t⟩
  | .tag _ _, _, ⟨_, _, _, _, rfl, hr⟩ => ⟨_, Reads.list hr rfl rfl (.cons (.int _ _) (.cons (.str _ _) .nil))⟩
  | .carry _ _, _, ⟨_, _, _, _, rfl, hr, q⟩ =>
    let ⟨_, ra⟩ := Rep.reads q
    ⟨_, Reads.list hr rfl rfl (.cons (.str _ _) (.cons ra .nil))⟩
theorem Due.eqv : ∀ d : Due, PyData.eqv d.dat d.dat = true
  | .msg a => by show (says (wordOf a) == says (wordOf a)) = true; simp
  | .tag t a => by show ((t == t) && ((wordOf a == wordOf a) && true)) = true; simp
  | .carry a d => by show ((wordOf a == wordOf a) && (PyData.eqv d.dat d.dat && true)) = true; rw [Due.eqv d]; simp
theorem word_ok (a : Nat) : PyData.strOk (wordOf a) = true := by unfold wordOf; split <;> decide +kernel
theorem says_ok (a : Nat) : PyData.strOk (says (wordOf a)) = true := by unfold wordOf; split <;> decide +kernel
theorem Due.canLay : ∀ d : Due, d.dat.canLay0 = true
  | .msg a => says_ok a
  | .tag t a => by show (true && (PyData.strOk (wordOf a) && true)) = true; rw [word_ok]; rfl
  | .carry a d => by show (PyData.strOk (wordOf a) && (d.dat.canLay0 && true)) = true; rw [word_ok, Due.canLay d]; rfl
theorem Due.depth : ∀ d : Due, d.dat.depth = d.deep
  | .msg a => rfl
  | .tag t a => rfl
  | .carry a d => by
    show max 0 (max d.dat.depth 0) + 1 = d.deep + 1
    rw [Due.depth d]; omega
variable {w : World} {A : Around} {E : Value → Shared → Prop} {s : Shared} {Q : Value → Shared → Prop} {t t' : Addr} {v v' : Value} {n n' : Nat} {d : Due}
/-- two argument tuples that hold the same are equal -/
theorem args_eq (ht : s.heap.get? t = some (tupOf #[v] n)) (ht' : s.heap.get? t' = some (tupOf #[v'] n')) (r : Rep s.heap d v) (r' : Rep s.heap d v') (hd : d.deep ≤ 60) (hu : A.units + 64 < cLine) (h : Q (.bool true) s) :
    wpAny (model prg w) A (compareOp .Eq (.ref t) (.ref t')) Q E s := by
  obtain ⟨as, ra⟩ := r.reads
  obtain ⟨bs, rb⟩ := r'.reads
  have hs : SeqAt.shaped (.tuple [d.dat]) = true := by
    unfold SeqAt.shaped
    have h1 : (PyData.tuple [d.dat]).canLay0 = true := by show (d.dat.canLay0 && true) = true; rw [d.canLay]; rfl
    have h2 : (PyData.tuple [d.dat]).depth ≤ 64 := by show max d.dat.depth 0 + 1 ≤ 64; rw [d.depth]; omega
    rw [h1, decide_eq_true h2]; rfl
  refine SeqAt.compareEq_shaped (Reads.tuple ht rfl rfl (.cons ra .nil)) (Reads.tuple ht' rfl rfl (.cons rb .nil)) hs hs hu ?_
  have : PyData.eqv (.tuple [d.dat]) (.tuple [d.dat]) = true := by show (PyData.eqv d.dat d.dat && true) = true; rw [d.eqv]; rfl
  rw [this]; exact h
/-- and they are not unlike -/
theorem args_ne (ht : s.heap.get? t = some (tupOf #[v] n)) (ht' : s.heap.get? t' = some (tupOf #[v'] n')) (r : Rep s.heap d v) (r' : Rep s.heap d v') (hd : d.deep ≤ 60) (hu : A.units + 64 < cLine) (h : Q (.bool false) s) :
    wpAny (model prg w) A (compareOp .NotEq (.ref t) (.ref t')) Q E s := by
  obtain ⟨as, ra⟩ := r.reads
  obtain ⟨bs, rb⟩ := r'.reads
  have hs : SeqAt.shaped (.tuple [d.dat]) = true := by
    unfold SeqAt.shaped
    have h1 : (PyData.tuple [d.dat]).canLay0 = true := by show (d.dat.canLay0 && true) = true; rw [d.canLay]; rfl
    have h2 : (PyData.tuple [d.dat]).depth ≤ 64 := by show max d.dat.depth 0 + 1 ≤ 64; rw [d.depth]; omega
    rw [h1, decide_eq_true h2]; rfl
  refine SeqAt.compareNe_shaped (Reads.tuple ht rfl rfl (.cons ra .nil)) (Reads.tuple ht' rfl rfl (.cons rb .nil)) hs hs hu ?_
  have : PyData.eqv (.tuple [d.dat]) (.tuple [d.dat]) = true := by show (PyData.eqv d.dat d.dat && true) = true; rw [d.eqv]; rfl
  rw [this]; exact h
end
section
variable {w : World} {p : Program} {loose : List PySem.Str} {mean : ExcName → Option Value} {mg mb : PySem.Str → Option Value} {g : Heap} {A : Around} {dp un : Nat} {fr : Option (List Env)} {gd : Option (List Code)} {s : Shared} {R : Result → Shared → Prop}
  {E : Value → Shared → Prop} {Q : Value → Shared → Prop} {ma mt fa th e t : Addr} {mks fam tvs : List Value} {n1 n2 n3 n4 n5 : Nat} {k a i : Int} {tk ta t1 t2 tg : Tok} {dd : Option Addr} {tb v tv : Value} {d : Due}

theorem right_again (G : Gnd w p loose mean mg mb g) (hgs : g.StaysIn s.heap) (hroom : dp < recursionLimit) (hu : un + 100 < cLine)
    (hma : s.heap.get? ma = some (listOf mks.toArray n1)) (h0 : 0 ≤ k) (hhi : k < 2 ^ 63) (hk : mks[k.toNat]? = some (.ref mt)) (hmt : s.heap.get? mt = some (tupOf #[.str (Str.ofString "again") t1, .int i t2] n2))
    (hi0 : 0 ≤ i) (hihi : i < 2 ^ 63) (hfa : s.heap.get? fa = some (listOf fam.toArray n3)) (hfi : fam[i.toNat]? = some (.ref e)) (hth : s.heap.get? th = some (listOf tvs.toArray n4)) (hti : tvs[i.toNat]? = some tv)
    (he : s.heap.get? e = some (uo dd t tb)) (ht : s.heap.get? t = some (tupOf #[v] n5)) (r : Rep s.heap d v) (r' : Rep s.heap d tv) (hd' : d.deep ≤ 60)
    (hR : ∀ h' tk', (∀ b o, s.heap.get? b = some o → h'.get? b = some o) → R (.ok (.ret (.bool true))) { s with heap := h', toks := tk' }) :
    codeAny (model prg w) ⟨none, dp, fr, gd, un⟩ (.call (.ref 150) ⟨[.ref e, .int a ta, .int k tk, .ref fa, .ref ma, .ref th], []⟩) R s := by
  have X := G.X.keeps hgs
  have T := G.T.keeps hgs
  have hst : ∀ b o, s.heap.get? b = some o → s.heap.get? b = some o := fun _ _ e => e
  refine' enterK (g := s.heap) X T hst (Nat.le_refl _) ?k6 ?k7 (by exact hroom) (binds := [(gotN, .ref e), (aN, .int a ta), (kN, .int k tk), (familyN, .ref fa), (makersN, .ref ma), (thingsN, .ref th)]) (BindsTo.of_eq ?k9) ?kB ?_ ?c2 ?c3 ?c4 ?c5
  case k6 => k_is
  case k7 => k_is
  case k9 => exact rfl
  case kB => exact locs rfl
  case c2 => exact rfl
  case c3 => exact rfl
  case c4 => exact rfl
  case c5 => decide
  intro h₁ F hk₁
  have N : News s.heap s.heap.objs.size h₁ [] := News.nil
  have hmt' : IsTup s.heap mt [.str (Str.ofString "again") t1, .int i t2].toArray := ⟨_, hmt, rfl, _, rfl⟩
  iterate 5 (first | walk1 | (dsimp only; walk1))
  refine item_at (F.keep _ _ hma) h0 hhi hk ?_
  iterate 35 (first | walk1 | (dsimp only; walk1))
  rename Fr _ _ _ _ => F₂
  refine item_at (F₂.keep _ _ hfa) hi0 hihi hfi ?_
  iterate 7 (first | walk1 | (dsimp only; walk1))
  refine uo_args (X.keeps F₂.keep) (F₂.keep _ _ he) ?_
  iterate 5 (first | walk1 | (dsimp only; walk1))
  refine item_at (F₂.keep _ _ hth) hi0 hihi hti ?_
  iterate 2 (first | walk1 | (dsimp only; walk1))
  rename Fr _ _ _ _ => F₃
  rename News _ _ _ _ => N₃
  have k2 : ∀ b x y n, s.heap.get? b = some (listOf #[x, y] n) → _ := fun b x y n q => F₃.keep b _ q
  refine args_eq (F₃.keep _ _ ht) (N₃ _ (.head _)).1 (r.keeps k2) (r'.keeps k2) hd' (by show un + 3 + 64 < cLine; omega) ?_
  repeat (first | walk1 | (dsimp only; walk1))
  dsimp only
  exact hR _ _ F₃.keep
end
section
variable {w : World} {p : Program} {loose : List PySem.Str} {mean : ExcName → Option Value} {mg mb : PySem.Str → Option Value} {g : Heap} {A : Around} {dp un : Nat} {fr : Option (List Env)} {gd : Option (List Code)} {s : Shared} {R : Result → Shared → Prop}
  {E : Value → Shared → Prop} {Q : Value → Shared → Prop} {ma mt fa th e t : Addr} {mks fam tvs : List Value} {n1 n2 n3 n4 n5 : Nat} {k i : Int} {a : Nat} {tk ta t1 t2 tg : Tok} {dd : Option Addr} {tb v tv : Value} {d : Due}

theorem word_item {t0 t1 t2 t3 t4 : Tok} (ha : a < 5) : ∃ tw, ([.str (Str.ofString "join()") t0, .str (Str.ofString "split()") t1, .str (Str.ofString "splitdrive()") t2, .str (Str.ofString "normcase()") t3, .str (Str.ofString "isabs()") t4] : List Value)[((a : Nat) : Int).toNat]? = some (.str (wordOf a) tw) := by
  rcases a with _ | _ | _ | _ | _ | a
  · exact ⟨t0, rfl⟩
  · exact ⟨t1, rfl⟩
  · exact ⟨t2, rfl⟩
  · exact ⟨t3, rfl⟩
  · exact ⟨t4, rfl⟩
  · omega

abbrev dueN : PySem.Str := Str.ofString "due"
/-- the kinds that make a new error: what the maker's tuple says, what is due -/
def KindDue (g : Heap) (tvs : List Value) (a : Nat) (kn : PySem.Str) (i : Int) (D : Due) : Prop :=
  (kn = Str.ofString "class" ∧ D = .msg a) ∨ (kn = Str.ofString "tag" ∧ D = .tag i a) ∨ (kn = Str.ofString "carry" ∧ 0 ≤ i ∧ i < 2 ^ 63 ∧ ∃ d x, D = .carry a d ∧ tvs[i.toNat]? = some x ∧ Rep g d x)

def RDone (g gb : Heap) (s : Shared) (th : Addr) (tvs : List Value) (n4 : Nat) (D : Due) (M₀ : PySem.Str → Option Value) (f : Flow) (s' : Shared) : Prop :=
  f = .next ∧ ∃ h' tk' dv own, s' = { s with heap := h', toks := tk' } ∧ Fr g s.heap.objs.size h' (fun y => if y = dueN then some dv else M₀ y) ∧ News g s.heap.objs.size h' ((th, listOf tvs.toArray n4) :: own) ∧
      (∀ q ∈ own, q.1 ≠ th) ∧ ∀ h'', gb.StaysIn h'' → (∀ q ∈ own, h''.get? q.1 = some q.2) → Rep h'' D dv

def AnyKind : ItemKind Value := ⟨fun a v => v = a, some, fun _ _ h => by rw [h]⟩
theorem any_of : ∀ vs : List Value, AreOf AnyKind vs vs := by
  intro vs
  induction vs with
  | nil => constructor
  | cons v vs ih => exact .cons rfl ih

theorem is_fam {oe : Obj} {x : Value} (he : s.heap.get? e = some oe) (ht : oe.cls ≠ .type "tuple") (h : (∃ b o, x = .ref b ∧ s.heap.get? b = some o ∧ b ≠ e) ∨ ∃ y t, x = .str y t) (hq : Q (.bool false) s) :
    wpAny (model prg w) A (compareOp .Is (.ref e) x) Q E s := by
  rcases h with ⟨b, o, rfl, hb, hbe⟩ | ⟨y, ty, rfl⟩
  · exact wpAny_is_ref_other (Ne.symm hbe) he hb ht hq
  · exact wpAny_is_other rfl (by intro h; cases h) hq

theorem right_val {gb : Heap} {kn : PySem.Str} {D : Due} (G : Gnd w p loose mean mg mb g) (hgs : g.StaysIn s.heap) (hsz : g.objs.size ≤ s.heap.objs.size) (hroom : dp < recursionLimit) (hu : un + 100 < cLine) (ha : a < 5)
    (hma : g.get? ma = some (listOf mks.toArray n1)) (h0 : 0 ≤ k) (hhi : k < 2 ^ 63) (hk : mks[k.toNat]? = some (.ref mt)) (hmt : g.get? mt = some (tupOf #[.str kn t1, .int i t2] n2)) (hkd : KindDue gb tvs a kn i D) (hgb : gb.StaysIn g) (hgall : ∀ b o, s.heap.get? b = some o → b ≠ th → g.get? b = some o)
    (hfa : g.get? fa = some (listOf fam.toArray n3)) (hth : s.heap.get? th = some (listOf tvs.toArray n4)) (hth0 : g.get? th = none) (htl : tvs.length ≤ 100) (hne : ∀ x ∈ fam, (∃ b o, x = .ref b ∧ g.get? b = some o ∧ b ≠ e) ∨ ∃ y t, x = .str y t)
    (he : g.get? e = some (uo dd t tb)) (ht : g.get? t = some (tupOf #[v] n5)) (r : Rep g D v) (hdeep : D.deep ≤ 60)
    (hR : ∀ h' tk' dv, g.StaysIn h' → h'.get? th = some (listOf (tvs ++ [dv]).toArray (n4 + 1)) → (∀ g'', gb.StaysIn g'' → (∀ b o, h'.get? b = some o → s.heap.get? b = none → g''.get? b = some o) → Rep g'' D dv) → R (.ok (.ret (.bool true))) { s with heap := h', toks := tk' }) :
    codeAny (model prg w) ⟨none, dp, fr, gd, un⟩ (.call (.ref 150) ⟨[.ref e, .int a ta, .int k tk, .ref fa, .ref ma, .ref th], []⟩) R s := by
  have X := G.X
  have T := G.T
  refine' enterK (g := g) X T hgs hsz ?k6 ?k7 (by exact hroom) (binds := [(gotN, .ref e), (aN, .int a ta), (kN, .int k tk), (familyN, .ref fa), (makersN, .ref ma), (thingsN, .ref th)]) (BindsTo.of_eq ?k9) ?kB ?_ ?c2 ?c3 ?c4 ?c5
  case k6 => k_is
  case k7 => k_is
  case k9 => exact rfl
  case kB => exact locs rfl
  case c2 => exact rfl
  case c3 => exact rfl
  case c4 => exact rfl
  case c5 => decide
  intro h₁ F hk₁
  have N : News g s.heap.objs.size h₁ [(th, listOf tvs.toArray n4)] := by
    intro q hq
    rcases List.mem_singleton.mp hq with rfl
    exact ⟨hk₁ _ _ hth, Nat.ne_of_lt (Heap.lt_size hth), hth0⟩
  have hmt' : IsTup g mt [.str kn t1, .int i t2].toArray := ⟨_, hmt, rfl, _, rfl⟩
  have hn1 : (kn == Str.ofString "none") = false := by rcases hkd with ⟨rfl, _⟩ | ⟨rfl, _⟩ | ⟨rfl, _⟩ <;> decide
  have hn2 : (kn == Str.ofString "again") = false := by rcases hkd with ⟨rfl, _⟩ | ⟨rfl, _⟩ | ⟨rfl, _⟩ <;> decide
  iterate 5 (first | walk1 | (dsimp only; walk1))
  refine item_at (F.keep _ _ hma) h0 hhi hk ?_
  iterate 15 (first | walk1 | (dsimp only; walk1))
  rw [hn1]
  iterate 10 (first | walk1 | (dsimp only; walk1))
  rw [hn2]
  iterate 20 (first | walk1 | (dsimp only; walk1))
  rename News _ _ _ _ => N₂
  obtain ⟨tw, hw⟩ := word_item (a := a) ha
  refine item_at (N₂ _ (.head _)).1 (Int.natCast_nonneg a) (by omega) hw ?_
  have hwl := wordOf_len a
  iterate 2 (first | walk1 | (dsimp only; walk1))
  rename Fr _ _ _ _ => F₃
  rename News _ _ _ _ => N₃
  obtain ⟨M₀, hM₀, F₄⟩ : ∃ M₀, M₀ = _ ∧ Fr g s.heap.objs.size _ M₀ := ⟨_, rfl, F₃⟩
  have N₄ : News g s.heap.objs.size _ [(th, listOf tvs.toArray n4)] := fun q hq => N₃ q (by rcases List.mem_singleton.mp hq with rfl; simp)
  refine wpAny_execs_cons (wpAny_mono (Q := RDone g gb s th tvs n4 D M₀) ?ifp ?tl (fun _ _ x => x))
  case ifp =>
    clear F₃ N₃
    subst hM₀
    rcases hkd with ⟨rfl, rfl⟩ | ⟨rfl, rfl⟩ | ⟨rfl, hi0, hi1, d, x, rfl, hx, hrx⟩
    · repeat (first | walk1 | (dsimp only; walk1))
      rename Fr _ _ _ _ => F₅
      rename News _ _ _ _ => N₅
      exact ⟨rfl, _, _, _, [], rfl, F₅, N₅, by simp, fun h'' _ _ => ⟨_, rfl⟩⟩
    · repeat (first | walk1 | (dsimp only; walk1))
      rename Fr _ _ _ _ => F₅
      rename News _ _ _ _ => N₅
      rename _ < _ => hlt
      exact ⟨rfl, _, _, _, [(_, _)], rfl, F₅, fun q hq => N₅ q (by simpa [or_comm] using hq), fun q hq => by rcases List.mem_singleton.mp hq with rfl; exact Nat.ne_of_gt hlt, fun h'' hst hq => ⟨_, _, _, _, rfl, hq _ (.head _)⟩⟩
    · iterate 26 (first | walk1 | (dsimp only; walk1))
      rename Fr _ _ _ _ => F₆
      rename News _ _ _ _ => N₆
      refine item_at (N₆ _ (.head _)).1 hi0 hi1 hx ?_
      repeat (first | walk1 | (dsimp only; walk1))
      rename Fr _ _ _ _ => F₅
      rename News _ _ _ _ => N₅
      rename _ < _ => hlt
      exact ⟨rfl, _, _, _, [(_, _)], rfl, F₅, fun q hq => N₅ q (by simpa [or_comm] using hq), fun q hq => by rcases List.mem_singleton.mp hq with rfl; exact Nat.ne_of_gt hlt, fun h'' hst hq => ⟨_, _, _, _, rfl, hq _ (.head _), hrx.keeps (fun b x y n q => hst _ _ q)⟩⟩
  case tl =>
    clear F₃ N₃ F₄ N₄
    rintro f s' ⟨rfl, h', tk', dv, own, rfl, F₅, N₅, hth5, hrep⟩
    subst hM₀
    iterate 9 (first | walk1 | (dsimp only; walk1))
    refine append_at (hsz := by show tvs.toArray.size ≤ sizeLine; rw [List.size_toArray]; exact Nat.le_trans htl (by decide)) (N₅ _ (.head _)).1 fun h₆ hs₆ ho₆ => ?_
    have F₆ := F₅.change hs₆ (N₅ _ (.head _)).2.1 (N₅ _ (.head _)).2.2
    have N₆ := N₅.setHead hth5 hs₆ ho₆
    clear F₅ N₅
    iterate 2 (first | walk1 | (dsimp only; walk1))
    case hE => passes_own
    rename Fr _ _ _ _ => F₇
    refine Iter_list_leave (K := AnyKind) (pz := fun _ => false) rfl ⟨_, F₇.keep _ _ hfa |> fun _ => hfa, rfl, _, rfl⟩ (any_of fam) F₇ N₆ ?g1 (fun _ _ _ _ _ _ h => nomatch h) ?g3
    case g1 =>
      rintro v₁ _ s₁ own₁ hv₁ rfl F₈ N₈
      iterate 3 (first | walk1 | (dsimp only; walk1))
      refine is_fam (F₈.keep _ _ he) (by intro h; cases h) ((hne _ hv₁).imp (fun ⟨b, o, q, hb, hbe⟩ => ⟨b, o, q, F₈.keep _ _ hb, hbe⟩) id) ?_
      walk1
      exact ⟨rfl, _, _, rfl, fun _ _ h => h⟩
    case g3 =>
      intro h₈ tk₈ vl F₈ N₈ _
      iterate 10 (first | walk1 | (dsimp only; walk1))
      refine call_type_obj (F₈.keep _ _ he) rfl ?_
      iterate 2 (first | walk1 | (dsimp only; walk1))
      iterate 6 (first | walk1 | (dsimp only; walk1))
      refine uo_args (X.keeps F₈.keep) (F₈.keep _ _ he) ?_
      iterate 5 (first | walk1 | (dsimp only; walk1))
      rename Fr _ _ _ _ => F₉
      rename News _ _ _ _ => N₉
      have hr9 : Rep _ D dv := hrep _ (fun b o q => F₉.keep b o (hgb b o q)) fun q hq => (N₉ q (.tail _ (.tail _ hq))).1
      refine args_eq (F₉.keep _ _ ht) (N₉ _ (.head _)).1 (r.keeps fun b x y n q => F₉.keep b _ q) hr9 hdeep (by show un + 3 + 64 < cLine; omega) ?_
      repeat (first | walk1 | (dsimp only; walk1))
      dsimp only
      refine hR _ _ dv F₉.keep (by rw [(N₉ _ (.tail _ (.head _))).1]; simp) fun g'' hg1 hg2 => hrep _ hg1 fun q hq => hg2 _ _ (N₉ q (.tail _ (.tail _ hq))).1 ?_
      cases z : s.heap.get? q.1 with
      | none => rfl
      | some o => have := hgall _ _ z (hth5 q hq); rw [(N₉ q (.tail _ (.tail _ hq))).2.2] at this; cases this
end
/-! ## making a lambda -/
section
variable {w : World} {p : Program} {loose : List PySem.Str} {mean : ExcName → Option Value} {mg mb : PySem.Str → Option Value} {g gb : Heap} {A : Around} {s : Shared} {R : Result → Shared → Prop}
  {name qual x : PySem.Str} {c P fnA : Addr} {pm v : Value} {lb : PySem.Expr} {more : List (PySem.Str × NameKind)} {pp p1 lp rp : Pos}

/-- the table of inner codes of a maker: empty, or with the code of its lambda -/
def TabSt (gb h : Heap) (P : Addr) (lp : Pos) (q : PySem.Str) : Prop :=
  h.get? P = some (tabObj #[]) ∨ ∃ c', h.get? P = some (tabObj #[rawInt lp.line, rawInt lp.col, .ref c']) ∧ gb.CodeRec (.ref c') q
/-- g' knows what g knew, and what is new from h to h' -/
def Grew (g h h' g' : Heap) : Prop := g.StaysIn g' ∧ ∀ b o, h'.get? b = some o → h.get? b = none → g'.get? b = some o

abbrev mkScope (x : PySem.Str) : Scope := { kind := .function, names := [(x, .cell)], isGenerator := false, isCoroutine := false }
abbrev mkFn (name x : PySem.Str) (pp : Pos) (body : List Stmt) (pm : Value) (c : Addr) : FuncData := fnOf name name ⟨[], [⟨x, none, pp⟩], none, [], [], none, []⟩ body (mkScope x) .none .none .none pm none (.ref c) .none

theorem maker (G : Gnd w p loose mean mg mb g) (hgs : g.StaysIn s.heap) (hroom : A.depth < recursionLimit) (hP0 : g.get? P = none) (C : CodeHd g c P) (hT : TabSt gb s.heap P lp qual)
    (ho : (hd.heap_39 w.params).lookup fnA = some { cls := .type "function", data := .func (mkFn name x pp [.Return (some (.Lambda (oneArg p1) lb (lamScope more) lp)) rp] pm c) }) (hcd : codeIn (hd.heap_39 w.params) (.ref c) name = true)
    (hq : qual = name ++ Str.ofString ".<locals>." ++ Str.ofString "<lambda>")
    (hbind : bindArgs (mkFn name x pp [.Return (some (.Lambda (oneArg p1) lb (lamScope more) lp)) rp] pm c) ⟨[v], []⟩ = pure [(x, v)])
    (hcl : ∀ L, closureFor (lamScope more) (callEnvC (mkFn name x pp [.Return (some (.Lambda (oneArg p1) lb (lamScope more) lp)) rp] pm c) L fnA) = pure [(x, L + 1)])
    (hdef : ∀ env, defaultsOf (oneArg p1) env = ([], []))
    (hR : ∀ f h' tk', (∀ b o, s.heap.get? b = some o → b ≠ P → h'.get? b = some o) → s.heap.get? f = none → (∀ g', Grew gb s.heap h' g' → (∃ k pm' c' ctv, g'.get? f = some (lamObj qual p1 lb more x k pm' c' ctv) ∧ g'.CodeRec (.ref c') qual ∧ g'.IsCell k (some v)) ∧ TabSt g' h' P lp qual) →
      R (.ok (.ret (.ref f))) { s with heap := h', toks := tk' }) :
    codeAny (model prg w) A (.call (.ref fnA) ⟨[v], []⟩) R s := by
  refine codeAny_call_cells hroom (hgs _ _ (G.X _ _ ho)) rfl (G.T.nolimit.keeps hgs) ((codeRec_of G.X hcd).keeps hgs) rfl hbind rfl ?_ ?_
  · intro y hy
    rcases List.mem_singleton.mp hy with rfl
    right
    simp [cellsFrom, List.lookup]
  rintro s₁ ⟨⟨⟨h₁, tk₁, rfl⟩, hns, hk, hfr⟩, hcell, _, _⟩
  subst hq
  have hcell' := hcell x (s.heap.objs.size + 1) (by show List.lookup x [(x, s.heap.objs.size + 1)] = _; simp [List.lookup])
  have hko : (callEnvC (mkFn name x pp [.Return (some (.Lambda (oneArg p1) lb (lamScope more) lp)) rp] pm c) s.heap.objs.size fnA).kindOf x = some .cell := by show List.lookup x [(x, NameKind.cell)] = _; simp [List.lookup]
  have hcv : h₁.IsCell (s.heap.objs.size + 1) (some v) := by
    unfold bindC at hcell'
    rw [hko, if_neg (by decide)] at hcell'
    unfold bindC at hcell'
    simpa using hcell'
  have hkn : s.heap.get? (s.heap.objs.size + 1) = none := Heap.get?_none_of_le (Nat.le_succ _)
  have hgs₁ : g.StaysIn h₁ := fun b o e => hk b o (hgs b o e)
  have hg' : h₁.Ns mainGlobals mg := G.T.g.keeps hgs₁
  have hPg : ∀ b o, g.get? b = some o → b ≠ P := fun b o e q => by rw [q, hP0] at e; cases e
  obtain ⟨bm, ob, b1, b2, b3, b4, b5, b6⟩ := G.T.bmain
  have hgP : mainGlobals ≠ P := fun q => by
    obtain ⟨o, es, ep, e, hd, _⟩ := G.T.g
    exact hPg _ _ e q
  have hbG : bm ≠ mainGlobals := fun q => by
    obtain ⟨o, es, ep, e, hd, _⟩ := G.T.g
    rw [q, e] at b3; cases b3; rw [hd] at b6; cases b6
  have hb : h₁.BuiltinsAt mg P := ⟨bm, ob, b1, b2, hbG, hPg _ _ b3, hgs₁ _ _ b3, b4, b5, b6⟩
  have hle : s.heap.objs.size ≤ h₁.objs.size := Nat.le_of_lt (Nat.lt_of_le_of_lt hfr (hns.lt))
  refine wpAny_execs_cons (wpAny_Return_some (kla_eval (hdef _) ?_))
  rcases hT with hT | ⟨c', hT, hrec⟩
  · refine kla_makeFunction (mg := mg) (hcl _) rfl hg' rfl (C.keeps hgs₁) (hk _ _ hT) trivial rfl hgP hb fun c' ctv h' tk hx hge hlt hrec htb => ?_
    have hsz' : h₁.objs.size ≤ h'.objs.size := Nat.le_trans hge (Nat.le_of_lt hlt)
    have hPk : s.heap.objs.size + 1 ≠ P := fun q => by rw [q, hT] at hkn; cases hkn
    have hfn : s.heap.get? h'.objs.size = none := Heap.get?_none_of_le (Nat.le_trans hle hsz')
    refine hR h'.objs.size _ tk (fun b o e q => Heap.get?_push_of_some _ (hx b o q (hk b o e))) hfn fun g' gr => ?_
    have hrec' : g'.CodeRec (.ref c') (name ++ Str.ofString ".<locals>." ++ Str.ofString "<lambda>") := by
      obtain ⟨c₂, oc, vs, t, e2, hoc, hd, hv⟩ := hrec
      cases e2
      exact ⟨_, oc, vs, t, rfl, gr.2 _ _ (Heap.get?_push_of_some _ hoc) (Heap.get?_none_of_le (Nat.le_trans hle hge)), hd, hv⟩
    refine ⟨⟨s.heap.objs.size + 1, _, c', ctv, gr.2 _ _ (Heap.get?_push_size _ rfl) hfn, hrec', ?_⟩, .inr ⟨c', Heap.get?_push_of_some _ (by simpa using htb), hrec'⟩⟩
    obtain ⟨oc, e1, e2⟩ := hcv
    exact ⟨oc, gr.2 _ _ (Heap.get?_push_of_some _ (hx _ _ hPk e1)) hkn, e2⟩
  · refine kla_makeFunctionHit (mg := mg) (cv := .ref c') (hcl _) rfl hg' rfl (C.keeps hgs₁) (hk _ _ hT) trivial (by simp [codeAmong, rawInt]) hb fun ctv h' tk hx hsz' => ?_
    have hk' : ∀ b o, s.heap.get? b = some o → (h'.push (lamObj (name ++ Str.ofString ".<locals>." ++ Str.ofString "<lambda>") p1 lb more x (s.heap.objs.size + 1) ((mg "__name__").getD .none) c' ctv)).get? b = some o := fun b o e => Heap.get?_push_of_some _ (hx b o (hk b o e))
    have hfn : s.heap.get? h'.objs.size = none := Heap.get?_none_of_le (Nat.le_trans hle hsz')
    refine hR h'.objs.size _ tk (fun b o e _ => hk' b o e) hfn fun g' gr => ⟨⟨s.heap.objs.size + 1, _, c', ctv, gr.2 _ _ (Heap.get?_push_size _ rfl) hfn, hrec.keeps gr.1, ?_⟩, .inr ⟨c', hk' _ _ hT, hrec.keeps gr.1⟩⟩
    obtain ⟨oc, e1, e2⟩ := hcv
    exact ⟨oc, gr.2 _ _ (Heap.get?_push_of_some _ (hx _ _ e1)) hkn, e2⟩
end
section
variable {w : World} {p : Program} {loose : List PySem.Str} {mean : ExcName → Option Value} {mg mb : PySem.Str → Option Value} {g gb : Heap} {A : Around} {s : Shared} {R : Result → Shared → Prop}
  {v : Value} {e : Addr} {t : Int} {tt : Tok}
/-- v is a lambda that tags, carries, raises again -/
def TagOf (h : Heap) (v : Value) (t : Int) : Prop := ∃ f k pm c' ctv tt p1 p2 p3 p4, v = .ref f ∧ h.get? f = some (lamObj qTag p1 (.List [.Name tN p2, .Name wordN p3] p4) [(tN, .free)] tN k pm c' ctv) ∧ h.CodeRec (.ref c') qTag ∧ h.IsCell k (some (.int t tt))
def CarryOf (h : Heap) (v : Value) (e : Addr) : Prop := ∃ f k pm c' ctv p1 p2 p3 p4 p5 p6 p7, v = .ref f ∧ h.get? f = some (lamObj qCarry p1 (.List [.Name wordN p2, .Subscript (.Attribute (.Name eN p3) argsN p4) (.Constant (.int 0) 0 p5) p6] p7) [(eN, .free)] eN k pm c' ctv) ∧
  h.CodeRec (.ref c') qCarry ∧ h.IsCell k (some (.ref e))
def AgainOf (h : Heap) (v : Value) (e : Addr) : Prop := ∃ f k pm c' ctv p1 p2 p3 p4, v = .ref f ∧ h.get? f = some (lamObj qAgain p1 (.Call (.Name raiseN p2) [.Name eN p3] [] p4) [(eN, .free), (raiseN, .globalImplicit)] eN k pm c' ctv) ∧
  h.CodeRec (.ref c') qAgain ∧ h.IsCell k (some (.ref e))
theorem TagOf.keeps {h h' : Heap} (x : TagOf h v t) (k : h.StaysIn h') : TagOf h' v t :=
  let ⟨f, c, pm, c', ctv, tt, p1, p2, p3, p4, e, ho, hc, hl⟩ := x; ⟨f, c, pm, c', ctv, tt, p1, p2, p3, p4, e, k _ _ ho, hc.keeps k, hl.keeps k⟩
theorem CarryOf.keeps {h h' : Heap} (x : CarryOf h v e) (k : h.StaysIn h') : CarryOf h' v e :=
  let ⟨f, c, pm, c', ctv, p1, p2, p3, p4, p5, p6, p7, e, ho, hc, hl⟩ := x; ⟨f, c, pm, c', ctv, p1, p2, p3, p4, p5, p6, p7, e, k _ _ ho, hc.keeps k, hl.keeps k⟩
theorem AgainOf.keeps {h h' : Heap} (x : AgainOf h v e) (k : h.StaysIn h') : AgainOf h' v e :=
  let ⟨f, c, pm, c', ctv, p1, p2, p3, p4, e, ho, hc, hl⟩ := x; ⟨f, c, pm, c', ctv, p1, p2, p3, p4, e, k _ _ ho, hc.keeps k, hl.keeps k⟩

abbrev tagLp : Pos := ⟨51, 11, 51, 33⟩
abbrev carryLp : Pos := ⟨53, 11, 53, 41⟩
abbrev againLp : Pos := ⟨57, 11, 57, 37⟩
theorem tag_make (G : Gnd w p loose mean mg mb g) (hgs : g.StaysIn s.heap) (hroom : A.depth < recursionLimit) (hP0 : g.get? 117 = none) (C : CodeHd g 121 117) (hT : TabSt gb s.heap 117 tagLp qTag)
    (hR : ∀ f h' tk', (∀ b o, s.heap.get? b = some o → b ≠ 117 → h'.get? b = some o) → s.heap.get? f = none → (∀ g', Grew gb s.heap h' g' → TagOf g' (.ref f) t ∧ TabSt g' h' 117 tagLp qTag) →
      R (.ok (.ret (.ref f))) { s with heap := h', toks := tk' }) :
    codeAny (model prg w) A (.call (.ref 122) ⟨[.int t tt], []⟩) R s := by
  refine' maker (fnA := 122) (x := tN) (qual := qTag) G hgs hroom hP0 C hT ?k6 ?k7 ?k8 ?k9 ?kA ?kB fun f h' tk' hk hf hg' => ?_
  case k6 => k_is
  case k7 => k_is
  case k8 => exact rfl
  case k9 => exact rfl
  case kA => exact fun _ => rfl
  case kB => exact fun _ => rfl
  exact hR f h' tk' hk hf fun g' gr => let ⟨⟨k, pm', c', ctv, ho, hrec, hc⟩, hT'⟩ := hg' g' gr; ⟨⟨f, k, pm', c', ctv, tt, _, _, _, _, rfl, ho, hrec, hc⟩, hT'⟩
theorem carry_make (G : Gnd w p loose mean mg mb g) (hgs : g.StaysIn s.heap) (hroom : A.depth < recursionLimit) (hP0 : g.get? 124 = none) (C : CodeHd g 128 124) (hT : TabSt gb s.heap 124 carryLp qCarry)
    (hR : ∀ f h' tk', (∀ b o, s.heap.get? b = some o → b ≠ 124 → h'.get? b = some o) → s.heap.get? f = none → (∀ g', Grew gb s.heap h' g' → CarryOf g' (.ref f) e ∧ TabSt g' h' 124 carryLp qCarry) →
      R (.ok (.ret (.ref f))) { s with heap := h', toks := tk' }) :
    codeAny (model prg w) A (.call (.ref 129) ⟨[.ref e], []⟩) R s := by
  refine' maker (fnA := 129) (x := eN) (qual := qCarry) G hgs hroom hP0 C hT ?k6 ?k7 ?k8 ?k9 ?kA ?kB fun f h' tk' hk hf hg' => ?_
  case k6 => k_is
  case k7 => k_is
  case k8 => exact rfl
  case k9 => exact rfl
  case kA => exact fun _ => rfl
  case kB => exact fun _ => rfl
  exact hR f h' tk' hk hf fun g' gr => let ⟨⟨k, pm', c', ctv, ho, hrec, hc⟩, hT'⟩ := hg' g' gr; ⟨⟨f, k, pm', c', ctv, _, _, _, _, _, _, _, rfl, ho, hrec, hc⟩, hT'⟩
theorem again_make (G : Gnd w p loose mean mg mb g) (hgs : g.StaysIn s.heap) (hroom : A.depth < recursionLimit) (hP0 : g.get? 138 = none) (C : CodeHd g 142 138) (hT : TabSt gb s.heap 138 againLp qAgain)
    (hR : ∀ f h' tk', (∀ b o, s.heap.get? b = some o → b ≠ 138 → h'.get? b = some o) → s.heap.get? f = none → (∀ g', Grew gb s.heap h' g' → AgainOf g' (.ref f) e ∧ TabSt g' h' 138 againLp qAgain) →
      R (.ok (.ret (.ref f))) { s with heap := h', toks := tk' }) :
    codeAny (model prg w) A (.call (.ref 143) ⟨[.ref e], []⟩) R s := by
  refine' maker (fnA := 143) (x := eN) (qual := qAgain) G hgs hroom hP0 C hT ?k6 ?k7 ?k8 ?k9 ?kA ?kB fun f h' tk' hk hf hg' => ?_
  case k6 => k_is
  case k7 => k_is
  case k8 => exact rfl
  case k9 => exact rfl
  case kA => exact fun _ => rfl
  case kB => exact fun _ => rfl
  exact hR f h' tk' hk hf fun g' gr => let ⟨⟨k, pm', c', ctv, ho, hrec, hc⟩, hT'⟩ := hg' g' gr; ⟨⟨f, k, pm', c', ctv, _, _, _, _, rfl, ho, hrec, hc⟩, hT'⟩
end
/-! ## a field is stored on an error -/
section
open Builtin Builtin.ObjectAttr
variable {w : World} {g : Heap} {A : Around} {E : Value → Shared → Prop} {s : Shared} {e t : Addr} {tb v : Value}
theorem uo_passes (self : Value) : refuseLoop self "__setattr__" (.ref 31 :: uoMro) = pure () := by
  rw [refuseLoop_ref]
  kernel_rfl
theorem uo_osa {R : Result → Shared → Prop} {tk₀ : Tok} (X : (hd.heap_39 w.params).In s.heap) (he : s.heap.get? e = some (uo none t tb))
    (h : ∀ h' d hs tk tk', (∀ b o, s.heap.get? b = some o → b ≠ e → h'.get? b = some o) → s.heap.get? d = none → h'.get? e = some (uo (some d) t tb) → h'.get? d = some (dictOf [⟨hs, .str umN tk, v⟩] 1) → R (.ok (.ret .none)) { s with heap := h', toks := tk' }) :
    codeAny (model prg w) A (.call (.builtin "object.__setattr__") ⟨[.ref e, .str umN tk₀, v], []⟩) R s := by
  have I : InstAt s.heap e (uo none t tb) 31 none := ⟨he, rfl, rfl, trivial⟩
  have SF := PySem.F.store_object
  have IT := I.type (M := model prg w)
  have sub : Looks (model prg w) s.heap (isInstance (.ref e) (.type "object")) true := IT.andThen (looks_mroIn X (by kernel_rfl))
  refine codeAny_call_builtin SF.slot.plain SF.entry (@check_slot (model prg w) _ _ _ "object.__setattr__" "object" "__setattr__" (.ref e) [.str umN _, v] [] _ SF.kind SF.split sub (SF.args (.ref e) (.str umN _) v) ?_)
  obtain ⟨cd, hc, hb⟩ := any_some (show (clsIn (hd.heap_39 w.params) 31).any (fun cd => cd.mro == (.ref 31 :: uoMro) && cd.hasDict) = true by kernel_rfl)
  obtain ⟨hb1, hb2⟩ := Bool.and_eq_true_iff.mp hb
  have hm : Looks (model prg w) s.heap (mroOf (.ref 31)) (.ref 31 :: uoMro) := by
    have := (looks_clsIn (M := model prg w) X hc).andThen (f := fun c => pure c.mro) .now
    rw [beq_iff_eq.mp hb1] at this
    exact this
  have ha : Looks (model prg w) s.heap (typeLookup (.ref 31) umN) none := looks_findIn X (by kernel_rfl)
  rw [osa_eq, refuse_eq]
  refine wpAny_bind (wpAny_bind (IT.here (wpAny_bind (hm.here ?_))))
  rw [uo_passes]
  refine wpAny_pure (wpAny_bind (IT.here (wpAny_bind (ha.here (wpAny_bind (wpAny_pure ?_))))))
  dsimp only
  refine wpAny_bind (wpAny_pure (wpAny_bind (wpAny_bind (wpAny_loadPart he (wpAny_bind ((looks_clsIn X hc).here ?_))))))
  rw [hb2]
  have hes : e ≠ s.heap.objs.size := Nat.ne_of_lt (Heap.lt_size he)
  have hx₁ : (s.heap.push (dictOf [] 0)).get? e = some (uo none t tb) := Heap.get?_push_of_some _ he
  refine wpAny_bind (wpAny_alloc ?_)
  refine wpAny_bind (wpAny_update hx₁ ?_)
  refine wpAny_pure ?_
  generalize hH : (s.heap.push (dictOf [] 0)).update e (fun o => { cls := o.cls, dict := some s.heap.objs.size, data := o.data, slots := o.slots }) = H
  have hHe : H.get? e = some (uo (some s.heap.objs.size) t tb) := by rw [← hH]; exact Heap.get?_update_self _ hx₁ rfl
  have hHd : H.get? s.heap.objs.size = some (dictOf [] 0) := by rw [← hH]; exact (Heap.get?_update_ne _ _ _ _ hes.symm).trans (Heap.get?_push_size _ rfl)
  have hHk : ∀ b o, s.heap.get? b = some o → b ≠ e → H.get? b = some o := fun b o hb hbe => by rw [← hH]; exact (Heap.get?_update_ne _ _ _ _ hbe).trans (Heap.get?_push_of_some _ hb)
  show wpAny _ _ (storeInDict s.heap.objs.size (.str umN tk₀) umN v) _ _ { s with heap := H }
  unfold storeInDict newKeyGuard
  refine wpAny_bind (wpAny_pure (wpAny_bind ?_))
  unfold nsSet
  refine wpAny_bind (wpAny_bind (wpAny_askSetting (wpAny_pure (wpAny_bind (wpAny_mkText (wpAny_bind (wpAny_loadPart hHd ?_)))))))
  dsimp only
  rw [show aRefKeyMayBeTheName umN ([] : List DictEntry).toArray = false from by rw [aRefKeyMayBeTheName_at]; simp]
  rw [if_neg (by decide)]
  refine wpAny_updatePart hHd ?_
  have hD : ∀ hs tk, (H.update s.heap.objs.size (Obj.putName umN hs (.str umN tk) v)).get? s.heap.objs.size = some (dictOf [⟨hs, .str umN tk, v⟩] 1) := fun hs tk => by
    rw [Heap.get?_update_self _ hHd (by rw [putName_dict]; rfl), putName_dict]; rfl
  refine wpAny_bind (wpAny_lookBehind (hD _ _) (by exact pastItsLine_dict (by show 1 ≤ sizeLine + 1; rw [sizeLine_eq]; omega)) ?_)
  refine wpAny_pure (h _ s.heap.objs.size _ _ _ (fun b o hb hbe => ?_) (Heap.get?_none_of_le (Nat.le_refl _)) ?_ (hD _ _))
  · exact (Heap.get?_update_ne _ _ _ _ (Nat.ne_of_lt (Heap.lt_size hb))).trans (hHk b o hb hbe)
  · exact (Heap.get?_update_ne _ _ _ _ hes).trans hHe
theorem uo_store {Q : Unit → Shared → Prop} (X : (hd.heap_39 w.params).In s.heap) (he : s.heap.get? e = some (uo none t tb))
    (h : ∀ h' d hs tk tk', (∀ b o, s.heap.get? b = some o → b ≠ e → h'.get? b = some o) → s.heap.get? d = none → h'.get? e = some (uo (some d) t tb) → h'.get? d = some (dictOf [⟨hs, .str umN tk, v⟩] 1) → Q () { s with heap := h', toks := tk' }) :
    wpAny (model prg w) A (setAttr (.ref e) umN v) Q E s :=
  set_plain X (⟨he, rfl, rfl, trivial⟩ : InstAt s.heap e (uo none t tb) 31 none) (by kernel_rfl) (uo_osa (s := { s with toks := s.toks + 1 }) X he h)
end
/-! ## _law_caught by kind -/
section
inductive Kd where
  | none_
  | cls
  | tag (t : Int)
  | carry (i : Nat)
  | again (i : Nat)
/-- what a maker of a kind gives for the word of a part -/
def GotV (h₀ : Heap) (a : Nat) (k : Kd) (x : Value) (B : Heap) (v : Value) : Prop := match k with
  | .cls => ∃ t, v = .str (says (wordOf a)) t
  | .tag t => TagV h₀ t (wordOf a) B v
  | .carry _ => CarryV h₀ x (wordOf a) B v
  | _ => False
theorem GotV.mono {h h' B : Heap} {a : Nat} {k : Kd} {x v : Value} (hk : ∀ b o, h.get? b = some o → h'.get? b = some o) (y : GotV h' a k x B v) : GotV h a k x B v := by
  have hn : ∀ r, h'.get? r = none → h.get? r = none := fun r hr => by
    cases q : h.get? r with
    | none => rfl
    | some o => rw [hk _ _ q] at hr; cases hr
  cases k with
  | cls => exact y
  | tag t => obtain ⟨r, tt, tw, n, e, h1, h2⟩ := y; exact ⟨r, tt, tw, n, e, hn r h1, h2⟩
  | carry i => obtain ⟨r, tw, n, e, h1, h2⟩ := y; exact ⟨r, tw, n, e, hn r h1, h2⟩
  | none_ => exact y
  | again i => exact y
theorem GotV.to {h₁ h₂ B : Heap} {a : Nat} {k : Kd} {x v : Value} (y : GotV h₁ a k x h₂ v) (hB : ∀ b o, h₁.get? b = none → h₂.get? b = some o → B.get? b = some o) : GotV h₁ a k x B v := by
  cases k with
  | cls => exact y
  | tag t => obtain ⟨r, tt, tw, n, e, h1, h2⟩ := y; exact ⟨r, tt, tw, n, e, h1, hB _ _ h1 h2⟩
  | carry i => obtain ⟨r, tw, n, e, h1, h2⟩ := y; exact ⟨r, tw, n, e, h1, hB _ _ h1 h2⟩
  | none_ => exact y
  | again i => exact y

def ExV (a : Nat) (k : Kd) (x : Value) (h₀ : Heap) (e : Addr) (ob : Value → Obj) (B : Heap) : Prop :=
  ∃ t v, ob = uo none t ∧ h₀.get? e = none ∧ h₀.get? t = none ∧ B.get? t = some (tupOf #[v] 0) ∧ GotV h₀ a k x B v
theorem ExV.mono {h h' B : Heap} {a : Nat} {k : Kd} {x : Value} {e : Addr} {ob : Value → Obj} (hk : ∀ b o, h.get? b = some o → h'.get? b = some o) (y : ExV a k x h' e ob B) : ExV a k x h e ob B := by
  have hn : ∀ r, h'.get? r = none → h.get? r = none := fun r hr => by
    cases q : h.get? r with
    | none => rfl
    | some o => rw [hk _ _ q] at hr; cases hr
  obtain ⟨t, v, e1, e2, e3, e4, e5⟩ := y
  exact ⟨t, v, e1, hn _ e2, hn _ e3, e4, e5.mono hk⟩

variable {w : World} {p : Program} {loose : List PySem.Str} {mean : ExcName → Option Value} {mg mb : PySem.Str → Option Value} {g : Heap} {A : Around} {l : List Env} {s : Shared} {R : Result → Shared → Prop} {self x : Value} {ta : Tok} {k : Kd}

theorem caught_val (a : Nat) (ha : a < 5) (G : Gnd w p loose mean mg mb g) (B : Below A g l s.heap) (hsz : g.objs.size ≤ s.heap.objs.size) (hroom : A.depth + 10 < recursionLimit) (hh : A.handled = none)
    (hself : ∀ A' l' h₁ tk, (∀ b o, s.heap.get? b = some o → h₁.get? b = some o) → g.objs.size ≤ h₁.objs.size → Below A' g l' h₁ → A'.depth ≤ A.depth + 5 → A'.handled = none → Mk w A' { s with heap := h₁, toks := tk } self (wordOf a) (GotV h₁ a k x))
    (hR : ∀ e t v B h' tk', Caught s.heap [] l e (uo none t) B h' → s.heap.get? e = none → s.heap.get? t = none → B.get? t = some (tupOf #[v] 0) → GotV s.heap a k x B v → R (.ok (.ret (.ref e))) { s with heap := h', toks := tk' }) :
    codeAny (model prg w) A (.call (.ref 115) ⟨[.int a ta, self], []⟩) R s := by
  refine caught_uo (EX := ExV a k x) (X := []) (fun hk y => y.mono hk) (fun ⟨t, _, e, _⟩ => ⟨none, t, e⟩) a ha G B hsz (by omega) hh (by simp) ?_ ?_
  · intro env h₁ tk hk₁ hsz₁ B₁ tx env₂ h₂ tk₂ R₂ hk₂ hsz₂ B₂ hE
    refine part_val (s := { s with heap := h₂, toks := tk₂ }) (V := fun h₃ => GotV h₃ a k x) (VF := GotV h₂ a k x) a ha G B₂ hsz₂ (by show A.depth + 1 + 1 < _; omega) hh ?_ ?_ ?_
    · intro env₃ h₃ tk₃ hk₃ hsz₃ B₃
      exact hself _ _ h₃ tk₃ (fun b o q => hk₃ b o (hk₂ b o (hk₁ b o q))) hsz₃ B₃ (by show A.depth + 1 + 1 + 1 ≤ _; omega) hh
    · intro h₃ h₄ B₄ v hk₃ hv hB _
      exact (hv.to hB).mono hk₃
    · rintro e B₄ h' tk' ⟨⟨t, hT, ht, v, hv, hg⟩, he⟩
      exact hE e _ B₄ h' tk' hT ⟨t, v, rfl, he, ht, hv, hg⟩
  · rintro e ob B₄ h' tk' C ⟨t, v, rfl, he, ht, hv, hg⟩
    exact hR e t v B₄ h' tk' C he ht hv hg

theorem caught_miss (a : Nat) (ha : a < 5) (G : Gnd w p loose mean mg mb g) (B : Below A g l s.heap) (hsz : g.objs.size ≤ s.heap.objs.size) (hroom : A.depth + 10 < recursionLimit) (hh : A.handled = none)
    (hself : ∀ A' l' h₁ tk, (∀ b o, s.heap.get? b = some o → h₁.get? b = some o) → g.objs.size ≤ h₁.objs.size → Below A' g l' h₁ → A'.handled = none → MkMiss w A' { s with heap := h₁, toks := tk } self (wordOf a))
    (hR : ∀ tl B h' tk', Lacked s.heap l B h' → R (.ok (.ret (.str (Str.ofString "lacking") tl))) { s with heap := h', toks := tk' }) :
    codeAny (model prg w) A (.call (.ref 115) ⟨[.int a ta, self], []⟩) R s := by
  refine caught_ae a ha G B hsz (by omega) hh ?_ hR
  intro env h₁ tk hk₁ hsz₁ B₁ tx env₂ h₂ tk₂ R₂ hk₂ hsz₂ B₂ hE
  refine part_miss (s := { s with heap := h₂, toks := tk₂ }) a ha G B₂ hsz₂ (by show A.depth + 1 + 1 < _; omega) hh ?_ ?_
  · intro env₃ h₃ tk₃ hk₃ hsz₃ B₃
    exact hself _ _ h₃ tk₃ (fun b o q => hk₃ b o (hk₂ b o (hk₁ b o q))) hsz₃ B₃ hh
  · rintro e t u B₄ h' tk' hT
    exact hE e _ B₄ h' tk' hT ⟨t, _, u, rfl⟩

theorem caught_again {e t T : Addr} {dd : Option Addr} {oT : Obj} {ts : Array Value} (a : Nat) (ha : a < 5) (G : Gnd w p loose mean mg mb g) (B : Below A g l s.heap) (hsz : g.objs.size ≤ s.heap.objs.size) (hroom : A.depth + 10 < recursionLimit) (hh : A.handled = none)
    (he : s.heap.get? e = some (uo dd t (.ref T))) (hT : s.heap.get? T = some oT) (hTd : oT.data = .fields ts) (h3 : ts[3]? = some .none) (hTe : T ≠ e) (hge : g.get? e = none) (hgT : g.get? T = none)
    (hself : ∀ A' l' h₁ tk (hr B₀ : Heap), (∀ b o, s.heap.get? b = some o → h₁.get? b = some o) → g.objs.size ≤ h₁.objs.size → Below A' g l' h₁ → A'.depth ≤ A.depth + 5 → A'.handled = none → B₀.StaysIn h₁ → Fly hr B₀ l' e (uo dd t) .none h₁ →
      MkAgain w A' { s with heap := h₁, toks := tk } self (wordOf a) hr B₀ l' e (uo dd t))
    (hR : ∀ B h' tk', Caught s.heap [e, T] l e (uo dd t) B h' → R (.ok (.ret (.ref e))) { s with heap := h', toks := tk' }) :
    codeAny (model prg w) A (.call (.ref 115) ⟨[.int a ta, self], []⟩) R s := by
  refine caught_uo (EX := fun _ e' ob _ => e' = e ∧ ob = uo dd t) (X := [e, T]) (fun _ y => y) (fun ⟨_, q⟩ => ⟨dd, t, q⟩) a ha G B hsz (by omega) hh (by simp [hge, hgT]) ?_ ?_
  · intro env h₁ tk hk₁ hsz₁ B₁ tx env₂ h₂ tk₂ R₂ hk₂ hsz₂ B₂ hE
    have hk : ∀ b o, s.heap.get? b = some o → h₂.get? b = some o := fun b o q => hk₂ b o (hk₁ b o q)
    refine part_again (s := { s with heap := h₂, toks := tk₂ }) a ha G B₂ hsz₂ (by show A.depth + 1 + 1 < _; omega) hh (hk _ _ he) (hk _ _ hT) hTd h3 hTe ?_ ?_
    · intro env₃ h₃ tk₃ B₀ hk₃ hsz₃ B₃ hB₀ F₃
      exact hself _ _ h₃ tk₃ _ B₀ (fun b o q => hk₃ b o (hk b o q)) hsz₃ B₃ (by show A.depth + 1 + 1 + 1 ≤ _; omega) hh hB₀ F₃
    · rintro B₄ h' tk' hT
      exact hE e _ B₄ h' tk' hT ⟨rfl, rfl⟩
  · rintro e' ob B₄ h' tk' C ⟨rfl, rfl⟩
    exact hR B₄ h' tk' C
end
/-! ## the book: what is known of the errors of a family -/
section
structure Er where
  e : Addr
  t : Addr
  k : Kd
  D : Due
def MkOf (g : Heap) (es : List Er) : Kd → Value → Prop
  | .none_, _ => False
  | .cls, v => ∃ q, v = .ref q ∧ g.get? q = some bm
  | .tag t, v => TagOf g v t
  | .carry i, v => ∃ j : Nat, ∃ x, i = j + 3 ∧ es[j]? = some x ∧ CarryOf g v x.e
  | .again i, v => ∃ j : Nat, ∃ x, i = j + 3 ∧ es[j]? = some x ∧ AgainOf g v x.e
def DictIs (g : Heap) (es : List Er) (k : Kd) (dd : Option Addr) : Prop :=
  (k = .none_ ∧ dd = none) ∨ ∃ d hs tk n v, dd = some d ∧ g.get? d = some (dictOf [⟨hs, .str umN tk, v⟩] n) ∧ MkOf g es k v
structure ErAt (g h : Heap) (es : List Er) (x : Er) (T : Addr) (dd : Option Addr) (v : Value) : Prop where
  obj : h.get? x.e = some (uo dd x.t (.ref T))
  tb : ∃ oT ts, h.get? T = some oT ∧ oT.data = .fields ts ∧ ts[3]? = some .none
  arg : ∃ n, g.get? x.t = some (tupOf #[v] n)
  rep : Rep g x.D v
  dic : DictIs g es x.k dd
structure Book (g₀ g h : Heap) (fs mu : List Addr) (es : List Er) (tbs : List Addr) : Prop where
  base : g₀.StaysIn g
  stays : g.StaysIn h
  off : ∀ b ∈ mu ++ tbs, g.get? b = none
  live : ∀ b ∈ mu ++ tbs, ∃ o, h.get? b = some o
  frm : ∀ b ∈ fs, b ∈ mu ∧ ∃ o es n, h.get? b = some o ∧ o.data = .dict es n
  len : tbs.length = es.length
  nodup : (es.map (·.e) ++ tbs).Nodup
  mem : ∀ b ∈ es.map (·.e), b ∈ mu
  apart : ∀ b ∈ tbs, b ∉ mu
  at_ : ∀ (j : Nat) x T, es[j]? = some x → tbs[j]? = some T → ∃ dd v, ErAt g h es x T dd v

variable {g₀ g g' h h' : Heap} {fs mu : List Addr} {es : List Er} {tbs : List Addr} {k : Kd} {v : Value} {x : Er} {T : Addr} {dd : Option Addr}

theorem MkOf.keeps (y : MkOf g es k v) (hk : g.StaysIn g') : MkOf g' es k v := by
  cases k with
  | none_ => exact y
  | cls => obtain ⟨q, e, ho⟩ := y; exact ⟨q, e, hk _ _ ho⟩
  | tag t => exact TagOf.keeps y hk
  | carry i => obtain ⟨j, x, e, hx, c⟩ := y; exact ⟨j, x, e, hx, c.keeps hk⟩
  | again i => obtain ⟨j, x, e, hx, c⟩ := y; exact ⟨j, x, e, hx, c.keeps hk⟩
theorem DictIs.keeps (y : DictIs g es k dd) (hk : g.StaysIn g') : DictIs g' es k dd := by
  rcases y with y | ⟨d, hs, tk, n, v, e, ho, m⟩
  · exact .inl y
  · exact .inr ⟨d, hs, tk, n, v, e, hk _ _ ho, m.keeps hk⟩
theorem ErAt.keeps (y : ErAt g h es x T dd v) (hk : g.StaysIn g') (he : ∀ o, h.get? x.e = some o → h'.get? x.e = some o) (hT : ∀ o, h.get? T = some o → h'.get? T = some o) : ErAt g' h' es x T dd v :=
  ⟨he _ y.obj, let ⟨oT, ts, a, b, c⟩ := y.tb; ⟨oT, ts, hT _ a, b, c⟩, let ⟨n, a⟩ := y.arg; ⟨n, hk _ _ a⟩, y.rep.keeps fun b _ _ _ q => hk b _ q, y.dic.keeps hk⟩

theorem Book.tb_of (K : Book g₀ g h fs mu es tbs) {j : Nat} (hx : es[j]? = some x) : ∃ T dd v, tbs[j]? = some T ∧ ErAt g h es x T dd v := by
  have hj : j < es.length := (List.getElem?_eq_some_iff.mp hx).1
  have hj' : j < tbs.length := by rw [K.len]; exact hj
  obtain ⟨dd, v, q⟩ := K.at_ j x _ hx (List.getElem?_eq_getElem hj')
  exact ⟨_, dd, v, List.getElem?_eq_getElem hj', q⟩

theorem Book.step (K : Book g₀ g h fs mu es tbs) (S new : List Addr) (hk : ∀ b o, h.get? b = some o → b ∉ S → h'.get? b = some o) (hS : ∀ b ∈ S, b ∈ mu ∧ b ∉ es.map (·.e) ++ tbs ∧ ∃ o, h'.get? b = some o)
    (hf : ∀ b ∈ fs, ∃ o es n, h'.get? b = some o ∧ o.data = .dict es n) (hn : ∀ b ∈ new, g.get? b = none ∧ b ∉ tbs ∧ ∃ o, h'.get? b = some o) :
    Book g₀ (hideAll h' (new ++ (mu ++ tbs))) h' fs (new ++ mu) es tbs ∧ g.StaysIn (hideAll h' (new ++ (mu ++ tbs))) := by
  have st : g.StaysIn (hideAll h' (new ++ (mu ++ tbs))) := fun b o q => by
    have h1 : b ∉ mu ++ tbs := fun hm => by rw [K.off b hm] at q; cases q
    refine hideAll_get _ (hk b o (K.stays b o q) fun hm => h1 (List.mem_append_left _ (hS b hm).1)) fun hm => ?_
    rcases List.mem_append.mp hm with hm | hm
    · rw [(hn b hm).1] at q; cases q
    · exact h1 hm
  have lv : ∀ b ∈ mu ++ tbs, ∃ o, h'.get? b = some o := fun b hm => by
    by_cases hs : b ∈ S
    · exact (hS b hs).2.2
    · obtain ⟨o, q⟩ := K.live b hm; exact ⟨o, hk b o q hs⟩
  have kp : ∀ b ∈ es.map (·.e) ++ tbs, ∀ o, h.get? b = some o → h'.get? b = some o := fun b hb o q => hk b o q fun hs => (hS b hs).2.1 hb
  refine ⟨⟨fun b o q => st b o (K.base b o q), fun b o q => of_hideAll _ q, fun b hb => hideAll_none _ (by rw [← List.append_assoc]; exact hb), fun b hb => ?_, fun b hb => ⟨List.mem_append_right _ (K.frm b hb).1, hf b hb⟩, K.len, K.nodup, fun b hb => List.mem_append_right _ (K.mem b hb), fun b hb hm => (List.mem_append.mp hm).elim (fun q => (hn b q).2.1 hb) (K.apart b hb), fun j x T hx hT => ?_⟩, st⟩
  · rw [List.append_assoc] at hb
    rcases List.mem_append.mp hb with hb | hb
    · exact (hn b hb).2.2
    · exact lv b hb
  · obtain ⟨dd, v, q⟩ := K.at_ j x T hx hT
    refine ⟨dd, v, q.keeps st (kp _ (List.mem_append_left _ (List.mem_map_of_mem (List.mem_of_getElem? hx)))) (kp _ (List.mem_append_right _ (List.mem_of_getElem? hT)))⟩

/-- the objects of the book that are no frames -/
theorem Book.not_frame (K : Book g₀ g h fs mu es tbs) {b : Addr} (hb : b ∈ es.map (·.e) ++ tbs) : b ∉ fs := fun hf => by
  obtain ⟨_, o, ds, n, ho, hd⟩ := K.frm b hf
  rcases List.mem_append.mp hb with hb | hb
  · obtain ⟨x, hx, rfl⟩ := List.mem_map.mp hb
    obtain ⟨j, hj⟩ := List.mem_iff_getElem?.mp hx
    obtain ⟨T, dd, v, _, q⟩ := K.tb_of hj
    rw [q.obj] at ho; cases ho; cases hd
  · obtain ⟨j, hj⟩ := List.mem_iff_getElem?.mp hb
    have hj' : j < es.length := by rw [← K.len]; exact (List.getElem?_eq_some_iff.mp hj).1
    obtain ⟨dd, v, q⟩ := K.at_ j _ b (List.getElem?_eq_getElem hj') hj
    obtain ⟨oT, ts, h1, h2, _⟩ := q.tb
    rw [h1] at ho; cases ho; rw [h2] at hd; cases hd
theorem Book.new_off (K : Book g₀ g h fs mu es tbs) {b : Addr} (hb : h.get? b = none) : b ∉ mu ++ tbs ∧ g.get? b = none := by
  refine ⟨fun hm => ?_, ?_⟩
  · obtain ⟨o, q⟩ := K.live b hm
    rw [hb] at q; cases q
  · cases q : g.get? b with
    | none => rfl
    | some o => rw [K.stays _ _ q] at hb; cases hb
/-- fewer marks -/
theorem Book.shrink {mu' : List Addr} (K : Book g₀ g h fs mu es tbs) (hs : ∀ b ∈ mu', b ∈ mu) (hf : ∀ b ∈ fs, b ∈ mu') (he : ∀ b ∈ es.map (·.e), b ∈ mu') : Book g₀ g h fs mu' es tbs :=
  { K with
    off := fun b hb => K.off b ((List.mem_append.mp hb).elim (fun q => List.mem_append_left _ (hs b q)) fun q => List.mem_append_right _ q)
    live := fun b hb => K.live b ((List.mem_append.mp hb).elim (fun q => List.mem_append_left _ (hs b q)) fun q => List.mem_append_right _ q)
    frm := fun b hb => ⟨hf b hb, (K.frm b hb).2⟩
    mem := he
    apart := fun b hb hm => K.apart b hb (hs b hm) }
theorem Book.marks (K : Book g₀ g h fs mu es tbs) {b : Addr} (hb : b ∈ es.map (·.e) ++ tbs) : b ∈ mu ++ tbs := (List.mem_append.mp hb).elim (fun q => List.mem_append_left _ (K.mem b q)) fun q => List.mem_append_right _ q
end
/-! ## asking a member of the family -/
section
def SelfOk (g : Heap) (es : List Er) (self : Value) (k : Kd) : Prop :=
  (k = .cls ∧ self = .ref 97) ∨ (k = .cls ∧ ∃ p d n, self = .ref p ∧ g.get? p = some (instObj 97 d) ∧ g.get? d = some (dictOf [] n)) ∨ (k = .none_ ∧ ∃ y t, self = .str y t) ∨ ∃ j : Nat, ∃ x, es[j]? = some x ∧ self = .ref x.e ∧ k = x.k
def KdDue (es : List Er) (a : Nat) (k : Kd) (D : Due) : Prop := match k with
  | .cls => D = .msg a
  | .tag t => D = .tag t a
  | .carry i => ∃ j : Nat, ∃ x, i = j + 3 ∧ es[j]? = some x ∧ D = .carry a x.D
  | _ => False
variable {w : World} {p : Program} {loose : List PySem.Str} {mean : ExcName → Option Value} {mg mb : PySem.Str → Option Value} {g₀ g : Heap} {A : Around} {l : List Env} {s : Shared} {R : Result → Shared → Prop} {self : Value} {ta : Tok} {k : Kd}
  {fs mu : List Addr} {es : List Er} {tbs : List Addr} {a : Nat} {D : Due}

theorem nodup_set : ∀ {l : List Addr} {n : Nat} {a : Addr}, l.Nodup → (∀ (i : Nat) b, l[i]? = some b → i ≠ n → b ≠ a) → (l.set n a).Nodup
  | [], _, _, h, _ => h
  | x :: r, 0, a, h, ha => List.nodup_cons.mpr ⟨fun hm => by
      obtain ⟨i, hi⟩ := List.mem_iff_getElem?.mp hm
      exact ha (i + 1) a (by simpa using hi) (Nat.succ_ne_zero i) rfl, (List.nodup_cons.mp h).2⟩
  | x :: r, n + 1, a, h, ha => List.nodup_cons.mpr ⟨fun hm => by
      rcases List.mem_or_eq_of_mem_set hm with hm | hm
      · exact (List.nodup_cons.mp h).1 hm
      · exact ha 0 x rfl (Ne.symm (Nat.succ_ne_zero n)) hm, nodup_set (List.nodup_cons.mp h).2 fun i b hi hn => ha (i + 1) b (by simpa using hi) (fun e => hn (Nat.succ.inj e))⟩
theorem idx_inj {α : Type} : ∀ {l : List α} {i j : Nat} {a : α}, l.Nodup → l[i]? = some a → l[j]? = some a → i = j
  | [], i, _, _, _, h, _ => by simp at h
  | x :: r, 0, 0, _, _, _, _ => rfl
  | x :: r, 0, j + 1, a, h, h1, h2 => by
    have : x = a := by simpa using h1
    subst this
    exact absurd (List.mem_of_getElem? (by simpa using h2)) (List.nodup_cons.mp h).1
  | x :: r, i + 1, 0, a, h, h1, h2 => by
    have : x = a := by simpa using h2
    subst this
    exact absurd (List.mem_of_getElem? (by simpa using h1)) (List.nodup_cons.mp h).1
  | x :: r, i + 1, j + 1, a, h, h1, h2 => congrArg Nat.succ (idx_inj (List.nodup_cons.mp h).2 (by simpa using h1) (by simpa using h2))

theorem val_self (G : Gnd w p loose mean mg mb g₀) (K : Book g₀ g s.heap fs mu es tbs) (hS : SelfOk g es self k) (hD : KdDue es a k D) :
    ∃ xv, (∀ A' l' h₁ tk, (∀ b o, s.heap.get? b = some o → h₁.get? b = some o) → g₀.objs.size ≤ h₁.objs.size → Below A' g₀ l' h₁ → A'.depth < recursionLimit → Mk w A' { s with heap := h₁, toks := tk } self (wordOf a) (GotV h₁ a k xv)) ∧
      (∀ h₀ g' B v, g.StaysIn g' → GotV h₀ a k xv B v → (∀ r x y n, h₀.get? r = none → B.get? r = some (listOf #[x, y] n) → g'.get? r = some (listOf #[x, y] n)) → Rep g' D v) := by
  have hwl := wordOf_len a
  cases k with
  | none_ => exact hD.elim
  | again i => exact hD.elim
  | cls =>
    cases hD
    refine ⟨.none, ?_, fun h₀ g' B v _ y _ => y⟩
    intro A' l' h₁ tk hk hsz B hroom
    rcases hS with ⟨_, rfl⟩ | ⟨_, q, d, n, rfl, h1, h2⟩ | ⟨h, _⟩ | ⟨j, x, hx, rfl, hk'⟩
    · exact mk_c (s := { s with heap := h₁, toks := tk }) G B hsz hroom hwl
    · exact mk_p (s := { s with heap := h₁, toks := tk }) G B hsz hroom hwl (hk _ _ (K.stays _ _ h1)) (hk _ _ (K.stays _ _ h2))
    · cases h
    · obtain ⟨T, dd, v, hT, q⟩ := K.tb_of hx
      rcases q.dic with ⟨h, _⟩ | ⟨d, hs, tk', n, v', rfl, hd', hm⟩
      · rw [h] at hk'; cases hk'
      · rw [← hk'] at hm
        obtain ⟨qb, rfl, hb⟩ := hm
        exact mk_bm (s := { s with heap := h₁, toks := tk }) G B hsz hroom hwl (hk _ _ q.obj) (hk _ _ (K.stays _ _ hd')) (hk _ _ (K.stays _ _ hb))
  | tag t =>
    cases hD
    refine ⟨.none, ?_, fun h₀ g' B v _ y hg => ?_⟩
    · intro A' l' h₁ tk hk hsz B hroom
      rcases hS with ⟨h, _⟩ | ⟨h, _⟩ | ⟨h, _⟩ | ⟨j, x, hx, rfl, hk'⟩
      · cases h
      · cases h
      · cases h
      · obtain ⟨T, dd, v, hT, q⟩ := K.tb_of hx
        rcases q.dic with ⟨h, _⟩ | ⟨d, hs, tk', n, v', rfl, hd', hm⟩
        · rw [h] at hk'; cases hk'
        · rw [← hk'] at hm
          obtain ⟨f, c, pm, c', ctv, tt, p1, p2, p3, p4, rfl, ho, hcd, hc⟩ := hm.keeps K.stays
          exact mk_tag (s := { s with heap := h₁, toks := tk }) G B hsz hroom (hk _ _ q.obj) (hk _ _ (K.stays _ _ hd')) (hk _ _ ho) (hcd.keeps hk) (hc.keeps hk)
    · obtain ⟨r, tt, tw, n, rfl, h1, h2⟩ := y
      exact ⟨r, tt, tw, n, rfl, hg _ _ _ _ h1 h2⟩
  | carry i =>
    obtain ⟨j, x, rfl, hx, rfl⟩ := hD
    obtain ⟨T, dd, v, hT, q⟩ := K.tb_of hx
    obtain ⟨n₁, hn₁⟩ := q.arg
    refine ⟨v, ?_, fun h₀ g' B v' hg' y hg => ?_⟩
    · intro A' l' h₁ tk hk hsz B hroom
      rcases hS with ⟨h, _⟩ | ⟨h, _⟩ | ⟨h, _⟩ | ⟨j₂, x₂, hx₂, rfl, hk'⟩
      · cases h
      · cases h
      · cases h
      · obtain ⟨T₂, dd₂, v₂, hT₂, q₂⟩ := K.tb_of hx₂
        rcases q₂.dic with ⟨h, _⟩ | ⟨d, hs, tk', n, v', rfl, hd', hm⟩
        · rw [h] at hk'; cases hk'
        · rw [← hk'] at hm
          obtain ⟨j₃, x₃, e3, hx₃, hm⟩ := hm
          have : j₃ = j := by omega
          subst this
          rw [hx] at hx₃; cases hx₃
          obtain ⟨f, c, pm, c', ctv, p1, p2, p3, p4, p5, p6, p7, rfl, ho, hcd, hc⟩ := hm.keeps K.stays
          exact mk_carry (s := { s with heap := h₁, toks := tk }) G B hsz hroom (hk _ _ q₂.obj) (hk _ _ (K.stays _ _ hd')) (hk _ _ ho) (hcd.keeps hk) (hc.keeps hk) (hk _ _ q.obj) (hk _ _ (K.stays _ _ hn₁))
    · obtain ⟨r, tw, n, rfl, h1, h2⟩ := y
      exact ⟨r, tw, v, n, rfl, hg _ _ _ _ h1 h2, q.rep.keeps fun b _ _ _ z => hg' b _ z⟩

/-- a new error, not yet of the family -/
structure NewEr (g h : Heap) (es : List Er) (tbs : List Addr) (e t T : Addr) (D : Due) (v : Value) : Prop where
  obj : h.get? e = some (uo none t (.ref T))
  tb : ∃ oT ts, h.get? T = some oT ∧ oT.data = .fields ts ∧ ts[3]? = some .none
  arg : g.get? t = some (tupOf #[v] 0)
  rep : Rep g D v
  ne : T ≠ e
  offE : e ∉ es.map (·.e) ++ tbs
  offT : T ∉ es.map (·.e) ++ tbs

theorem ups_frm {h h' : Heap} (K : Book g₀ g h fs mu es tbs) (u : h.UpToSlots h') : ∀ b ∈ fs, ∃ o es n, h'.get? b = some o ∧ o.data = .dict es n := fun b hb => by
  obtain ⟨_, o, ds, n, ho, hd⟩ := K.frm b hb
  obtain ⟨sl, q⟩ := u b o ho (fun vs q => by rw [hd] at q; cases q)
  exact ⟨_, ds, n, q, hd⟩

theorem ck_val (ha : a < 5) (G : Gnd w p loose mean mg mb g₀) (B : Below A g₀ l s.heap) (hsz : g₀.objs.size ≤ s.heap.objs.size) (hroom : A.depth + 10 < recursionLimit) (hh : A.handled = none)
    (K : Book g₀ g s.heap (framesOf l) mu es tbs) (hS : SelfOk g es self k) (hD : KdDue es a k D)
    (hR : ∀ e t T v g' h' tk', Book g₀ g' h' (framesOf l) (e :: T :: mu) es tbs → g.StaysIn g' → (∀ b o, s.heap.get? b = some o → b ∉ framesOf l → h'.get? b = some o) → s.heap.UpToSlots h' → s.heap.get? e = none → s.heap.get? T = none → NewEr g' h' es tbs e t T D v →
      (∀ b o, h'.get? b = some o → s.heap.get? b = none → b ≠ e → b ≠ T → g'.get? b = some o) → R (.ok (.ret (.ref e))) { s with heap := h', toks := tk' }) :
    codeAny (model prg w) A (.call (.ref 115) ⟨[.int a ta, self], []⟩) R s := by
  obtain ⟨xv, hmk, hrep⟩ := val_self G K hS hD
  refine caught_val (k := k) (x := xv) a ha G B hsz hroom hh (fun A' l' h₁ tk hk hs B' hd _ => hmk A' l' h₁ tk hk hs B' (by omega)) fun e t v B₁ h' tk' C he ht hv hg => ?_
  obtain ⟨T, oT, ts, ho, hT0, hTe, hT, hTd, h3⟩ := C.obj
  have hfr := ups_frm K C.ups
  have hTs : s.heap.get? T = none := by
    cases q : s.heap.get? T with
    | none => rfl
    | some o =>
      by_cases hf : T ∈ framesOf l
      · obtain ⟨o', ds, n, h1, h2⟩ := hfr T hf
        rw [hT] at h1; cases h1; rw [hTd] at h2; cases h2
      · rw [C.kept T o q hf (by simp)] at hT0; cases hT0
  have kp : ∀ b o, s.heap.get? b = some o → b ∉ framesOf l → h'.get? b = some o := fun b o q hf => C.stays b o (C.kept b o q hf (by simp))
  obtain ⟨K', st⟩ := K.step (h' := h') (framesOf l) [e, T] kp (fun b hb => ⟨(K.frm b hb).1, fun hm => K.not_frame hm hb, let ⟨o, _, _, q, _⟩ := hfr b hb; ⟨o, q⟩⟩) hfr
    (fun b hb => by
      rcases List.mem_cons.mp hb with rfl | hb
      · exact ⟨(K.new_off he).2, fun hm => (K.new_off he).1 (List.mem_append_right _ hm), _, ho⟩
      · rcases List.mem_singleton.mp hb with rfl
        exact ⟨(K.new_off hTs).2, fun hm => (K.new_off hTs).1 (List.mem_append_right _ hm), _, hT⟩)
  have hnew : ∀ r o, s.heap.get? r = none → B₁.get? r = some o → (∀ dd t tb, o ≠ uo dd t tb) → (hideAll h' ([e, T] ++ (mu ++ tbs))).get? r = some o := fun r o hr hB hne => by
    refine hideAll_get _ (C.stays _ _ hB) fun hm => ?_
    rcases List.mem_append.mp hm with hm | hm
    · rcases List.mem_cons.mp hm with rfl | hm
      · rw [C.stays _ _ hB] at ho; cases ho; exact hne _ _ _ rfl
      · rcases List.mem_singleton.mp hm with rfl
        rw [hT0] at hB; cases hB
    · exact (K.new_off hr).1 hm
  refine hR e t T v _ h' tk' K' st kp C.ups he hTs ⟨ho, ⟨oT, ts, hT, hTd, h3⟩, hnew t _ ht hv (by intro dd t tb q; cases q), hrep _ _ _ _ st hg (fun r x y n hr hB => hnew r _ hr hB (by intro dd t tb q; cases q)), hTe, fun hm => (K.new_off he).1 (K.marks hm), fun hm => (K.new_off hTs).1 (K.marks hm)⟩ fun b o q hb hbe hbT => hideAll_get _ q fun hm => ?_
  rcases List.mem_append.mp hm with hm | hm
  · rcases List.mem_cons.mp hm with rfl | hm
    · exact hbe rfl
    · exact hbT (List.mem_singleton.mp hm)
  · exact (K.new_off hb).1 hm

theorem ck_miss (ha : a < 5) (G : Gnd w p loose mean mg mb g₀) (B : Below A g₀ l s.heap) (hsz : g₀.objs.size ≤ s.heap.objs.size) (hroom : A.depth + 10 < recursionLimit) (hh : A.handled = none)
    (K : Book g₀ g s.heap (framesOf l) mu es tbs) (hS : SelfOk g es self .none_)
    (hR : ∀ tl g' h' tk', Book g₀ g' h' (framesOf l) mu es tbs → g.StaysIn g' → (∀ b o, s.heap.get? b = some o → b ∉ framesOf l → h'.get? b = some o) → s.heap.UpToSlots h' → R (.ok (.ret (.str (Str.ofString "lacking") tl))) { s with heap := h', toks := tk' }) :
    codeAny (model prg w) A (.call (.ref 115) ⟨[.int a ta, self], []⟩) R s := by
  refine caught_miss a ha G B hsz hroom hh ?_ ?_
  · intro A' l' h₁ tk hk hsz₁ B₁ hh'
    rcases hS with ⟨h, _⟩ | ⟨h, _⟩ | ⟨_, y, t, rfl⟩ | ⟨j, x, hx, rfl, hk'⟩
    · cases h
    · cases h
    · exact mk_str hh'
    · obtain ⟨T, dd, v, hT, q⟩ := K.tb_of hx
      rcases q.dic with ⟨_, rfl⟩ | ⟨d, hs, tk', n, v', rfl, hd', hm⟩
      · exact mk_none (s := { s with heap := h₁, toks := tk }) G B₁ hh' (hk _ _ q.obj)
      · rw [← hk'] at hm; exact hm.elim
  · rintro tl B₁ h' tk' C
    have hfr := ups_frm K C.ups
    have kp : ∀ b o, s.heap.get? b = some o → b ∉ framesOf l → h'.get? b = some o := fun b o q hf => C.stays b o (C.kept b o q hf)
    obtain ⟨K', st⟩ := K.step (h' := h') (framesOf l) [] kp (fun b hb => ⟨(K.frm b hb).1, fun hm => K.not_frame hm hb, let ⟨o, _, _, q, _⟩ := hfr b hb; ⟨o, q⟩⟩) hfr (by simp)
    exact hR tl _ h' tk' K' st kp C.ups

theorem ck_again {i : Nat} (ha : a < 5) (G : Gnd w p loose mean mg mb g₀) (B : Below A g₀ l s.heap) (hsz : g₀.objs.size ≤ s.heap.objs.size) (hroom : A.depth + 10 < recursionLimit) (hh : A.handled = none)
    (K : Book g₀ g s.heap (framesOf l) mu es tbs) (hS : SelfOk g es self (.again i))
    (hR : ∀ (j : Nat) x g' tbs' h' tk', i = j + 3 → es[j]? = some x → Book g₀ g' h' (framesOf l) mu es tbs' → (∀ b ∈ tbs', b ∈ tbs ∨ s.heap.get? b = none) → g.StaysIn g' → (∀ b o, s.heap.get? b = some o → b ∉ framesOf l → b ∉ es.map (·.e) ++ tbs → h'.get? b = some o) → s.heap.UpToSlots h' → R (.ok (.ret (.ref x.e))) { s with heap := h', toks := tk' }) :
    codeAny (model prg w) A (.call (.ref 115) ⟨[.int a ta, self], []⟩) R s := by
  rcases hS with ⟨h, _⟩ | ⟨h, _⟩ | ⟨h, _⟩ | ⟨j₂, x₂, hx₂, rfl, hk'⟩
  · cases h
  · cases h
  · cases h
  obtain ⟨T₂, dd₂, v₂, hT₂, q₂⟩ := K.tb_of hx₂
  rcases q₂.dic with ⟨h, _⟩ | ⟨d, hs, tk', n, v', rfl, hd', hm⟩
  · rw [h] at hk'; cases hk'
  rw [← hk'] at hm
  obtain ⟨j, x, rfl, hx, hm⟩ := hm
  obtain ⟨T, dd, v, hT, q⟩ := K.tb_of hx
  obtain ⟨oT, ts, hTo, hTd, h3⟩ := q.tb
  have hmx : x.e ∈ es.map (·.e) := List.mem_map_of_mem (List.mem_of_getElem? hx)
  have hmT : T ∈ tbs := List.mem_of_getElem? hT
  have hTe : T ≠ x.e := fun e => (List.nodup_append.mp K.nodup).2.2 _ hmx _ hmT e.symm
  have hb0 : ∀ b, b ∈ mu ++ tbs → g₀.get? b = none := fun b hb => by
    cases z : g₀.get? b with
    | none => rfl
    | some o => have := K.base _ _ z; rw [K.off b hb] at this; cases this
  refine caught_again (dd := dd) (t := x.t) (T := T) a ha G B hsz hroom hh q.obj hTo hTd h3 hTe (hb0 _ (List.mem_append_left _ (K.mem _ hmx))) (hb0 _ (List.mem_append_right _ hmT)) ?_ ?_
  · intro A' l' h₁ tk hr B₀ hk hsz₁ B₁ hd hh' hB₀ F
    obtain ⟨f, c, pm, c', ctv, p1, p2, p3, p4, rfl, ho, hcd, hc⟩ := hm.keeps K.stays
    exact mk_again (s := { s with heap := h₁, toks := tk }) G B₁ hsz₁ (by omega) hh' hB₀ (hk _ _ q₂.obj) (hk _ _ (K.stays _ _ hd')) (hk _ _ ho) (hcd.keeps hk) (hc.keeps hk) F
  · intro B₁ h' tk₁ C
    obtain ⟨T', oT', ts', ho, hT0, hTe', hT', hTd', h3'⟩ := C.obj
    have hfr := ups_frm K C.ups
    have kp : ∀ b o, s.heap.get? b = some o → b ∉ framesOf l → b ∉ [x.e, T] → h'.get? b = some o := fun b o z hf hX => C.stays b o (C.kept b o z hf hX)
    have hT'n : T' ∉ framesOf l := fun hf => by
      obtain ⟨o', ds, n, h1, h2⟩ := hfr T' hf
      rw [hT'] at h1; cases h1; rw [hTd'] at h2; cases h2
    have hT's : T' = T ∨ s.heap.get? T' = none := by
      cases z : s.heap.get? T' with
      | none => exact .inr rfl
      | some o =>
        by_cases hX : T' ∈ [x.e, T]
        · rcases List.mem_cons.mp hX with e | hX
          · exact absurd e hTe'
          · exact .inl (List.mem_singleton.mp hX)
        · rw [C.kept T' o z hT'n hX] at hT0; cases hT0
    have hgT' : g.get? T' = none := hT's.elim (fun e => by rw [e]; exact K.off _ (List.mem_append_right _ hmT)) fun e => (K.new_off e).2
    have hT'e : T' ∉ es.map (·.e) := hT's.elim (fun e hm => (List.nodup_append.mp K.nodup).2.2 _ hm _ hmT e) fun e hm => (K.new_off e).1 (List.mem_append_left _ (K.mem _ hm))
    have hT'm : T' ∉ mu := hT's.elim (fun e => by rw [e]; exact K.apart _ hmT) fun e hm => (K.new_off e).1 (List.mem_append_left _ hm)
    have hone : ∀ (i : Nat) b, tbs[i]? = some b → i ≠ j → b ≠ T := fun i b hi hij e => by
      subst e
      exact hij (idx_inj (List.nodup_append.mp K.nodup).2.1 hi hT)
    have hT'i : ∀ (i : Nat) b, tbs[i]? = some b → i ≠ j → b ≠ T' := fun i b hi hij e => hT's.elim (fun e' => hone i b hi hij (e.trans e')) fun e' => (K.new_off e').1 (List.mem_append_right _ (e ▸ List.mem_of_getElem? hi))
    have hset : ∀ b, b ∈ tbs.set j T' → b ∈ tbs ∨ b = T' := fun b hb => List.mem_or_eq_of_mem_set hb
    have st : g.StaysIn (hideAll h' (mu ++ tbs.set j T')) := fun b o z => by
      have h1 : b ∉ mu ++ tbs := fun hm => by rw [K.off b hm] at z; cases z
      refine hideAll_get _ (kp b o (K.stays b o z) (fun hm => h1 (List.mem_append_left _ (K.frm b hm).1)) fun hm => ?_) fun hm => ?_
      · rcases List.mem_cons.mp hm with rfl | hm
        · exact h1 (List.mem_append_left _ (K.mem _ hmx))
        · rcases List.mem_singleton.mp hm with rfl
          exact h1 (List.mem_append_right _ hmT)
      · rcases List.mem_append.mp hm with hm | hm
        · exact h1 (List.mem_append_left _ hm)
        · rcases hset b hm with hm | rfl
          · exact h1 (List.mem_append_right _ hm)
          · rw [hgT'] at z; cases z
    have kpm : ∀ b o, b ∈ mu ++ tbs → b ∉ framesOf l → b ≠ x.e → b ≠ T → s.heap.get? b = some o → h'.get? b = some o := fun b o _ hf h1 h2 z => kp b o z hf (by simp [h1, h2])
    refine hR j x (hideAll h' (mu ++ tbs.set j T')) (tbs.set j T') h' tk₁ rfl hx ⟨fun b o z => st b o (K.base b o z), fun b o z => of_hideAll _ z, fun b hb => hideAll_none _ hb, fun b hb => ?_, fun b hb => ⟨(K.frm b hb).1, hfr b hb⟩, by rw [List.length_set]; exact K.len,
      List.nodup_append.mpr ⟨(List.nodup_append.mp K.nodup).1, nodup_set (List.nodup_append.mp K.nodup).2.1 hT'i, fun b hb c hc e => ?_⟩, K.mem, fun b hb hm => ?_, fun i y U hy hU => ?_⟩ (fun b hb => (hset b hb).elim .inl fun z => hT's.elim (fun y => .inl (z.trans y ▸ hmT)) fun y => .inr (z ▸ y)) st (fun b o z hf hX => kp b o z hf fun hm => hX ?_) C.ups
    · by_cases hf : b ∈ framesOf l
      · obtain ⟨o, _, _, z, _⟩ := hfr b hf; exact ⟨o, z⟩
      · rcases List.mem_append.mp hb with hb | hb
        · by_cases h1 : b = x.e
          · rw [h1]; exact ⟨_, ho⟩
          · obtain ⟨o, z⟩ := K.live b (List.mem_append_left _ hb)
            exact ⟨o, kpm b o (List.mem_append_left _ hb) hf h1 (fun e => K.apart T hmT (e ▸ hb)) z⟩
        · obtain ⟨i, hi⟩ := List.mem_iff_getElem?.mp hb
          by_cases hij : i = j
          · subst hij
            have : b = T' := by
              have hj : i < tbs.length := (List.getElem?_eq_some_iff.mp hT).1
              rw [List.getElem?_set_self hj] at hi; exact (Option.some.inj hi).symm
            rw [this]; exact ⟨_, hT'⟩
          · rw [List.getElem?_set_ne (Ne.symm hij)] at hi
            have hbm : b ∈ tbs := List.mem_of_getElem? hi
            obtain ⟨o, z⟩ := K.live b (List.mem_append_right _ hbm)
            exact ⟨o, kpm b o (List.mem_append_right _ hbm) hf (fun e => (List.nodup_append.mp K.nodup).2.2 _ hmx _ hbm e.symm) (hone i b hi hij) z⟩
    · subst e
      rcases hset b hc with hc | rfl
      · exact (List.nodup_append.mp K.nodup).2.2 _ hb _ hc rfl
      · exact hT'e hb
    · rcases hset b hb with hb | rfl
      · exact K.apart b hb hm
      · exact hT'm hm
    · by_cases hij : i = j
      · subst hij
        have hj : i < tbs.length := (List.getElem?_eq_some_iff.mp hT).1
        rw [List.getElem?_set_self hj] at hU; cases hU
        rw [hx] at hy; cases hy
        exact ⟨dd, v, ho, ⟨oT', ts', hT', hTd', h3'⟩, let ⟨n, z⟩ := q.arg; ⟨n, st _ _ z⟩, q.rep.keeps fun b _ _ _ z => st b _ z, q.dic.keeps st⟩
      · rw [List.getElem?_set_ne (Ne.symm hij)] at hU
        obtain ⟨dd₁, v₁, q₁⟩ := K.at_ i y U hy hU
        have hye : y.e ∈ es.map (·.e) := List.mem_map_of_mem (List.mem_of_getElem? hy)
        have hUm : U ∈ tbs := List.mem_of_getElem? hU
        refine ⟨dd₁, v₁, q₁.keeps st (fun o z => kpm _ o (List.mem_append_left _ (K.mem _ hye)) (K.not_frame (List.mem_append_left _ hye)) (fun e => hij ?_) (fun e => (List.nodup_append.mp K.nodup).2.2 _ hye _ hmT e) z)
          (fun o z => kpm _ o (List.mem_append_right _ hUm) (K.not_frame (List.mem_append_right _ hUm)) (fun e => (List.nodup_append.mp K.nodup).2.2 _ hmx _ hUm e.symm) (hone i U hU hij) z)⟩
        exact idx_inj (List.nodup_append.mp K.nodup).1 (by rw [List.getElem?_map, hy]; rfl) (by rw [List.getElem?_map, hx]; exact congrArg some e.symm)
    · rcases List.mem_cons.mp hm with rfl | hm
      · exact List.mem_append_left _ hmx
      · rcases List.mem_singleton.mp hm with rfl
        exact List.mem_append_right _ hmT
end
/-! ## _law_right by kind -/
section
def Kd.name : Kd → PySem.Str
  | .none_ => Str.ofString "none"
  | .cls => Str.ofString "class"
  | .tag _ => Str.ofString "tag"
  | .carry _ => Str.ofString "carry"
  | .again _ => Str.ofString "again"
def Kd.arg : Kd → Int
  | .none_ => 0
  | .cls => 0
  | .tag t => t
  | .carry i => i
  | .again i => i
/-- the makers' list says the kinds -/
def MksOk (g : Heap) (mks : List Value) (ks : List Kd) : Prop :=
  mks.length = ks.length ∧ ∀ (i : Nat) k, ks[i]? = some k → ∃ mt t1 t2 n, mks[i]? = some (.ref mt) ∧ g.get? mt = some (tupOf #[.str k.name t1, .int k.arg t2] n)
/-- the list of things holds what the errors carry -/
def ThOk (g : Heap) (tvs : List Value) (es : List Er) : Prop :=
  ∀ (j : Nat) x, es[j]? = some x → ∃ v, tvs[j + 3]? = some v ∧ Rep g x.D v
abbrev famOf (q : Addr) (x : PySem.Str) (tx : Tok) (es : List Er) : List Value := .ref q :: .ref 97 :: .str x tx :: es.map fun y => .ref y.e
abbrev kdsOf (es : List Er) : List Kd := .cls :: .cls :: .none_ :: es.map (·.k)
theorem MksOk.keeps {g g' : Heap} {mks : List Value} {ks : List Kd} (y : MksOk g mks ks) (hk : g.StaysIn g') : MksOk g' mks ks :=
  ⟨y.1, fun i k h => let ⟨mt, t1, t2, n, a, b⟩ := y.2 i k h; ⟨mt, t1, t2, n, a, hk _ _ b⟩⟩
theorem ThOk.keeps {g g' : Heap} {tvs : List Value} {es : List Er} (y : ThOk g tvs es) (hk : g.StaysIn g') : ThOk g' tvs es :=
  fun j x h => let ⟨v, a, b⟩ := y j x h; ⟨v, a, b.keeps fun b _ _ _ z => hk b _ z⟩

variable {w : World} {p : Program} {loose : List PySem.Str} {mean : ExcName → Option Value} {mg mb : PySem.Str → Option Value} {g₀ g : Heap} {A : Around} {dp un : Nat} {fr : Option (List Env)} {gd : Option (List Code)} {l : List Env} {s : Shared} {R : Result → Shared → Prop} {kd : Kd}
  {fs mu : List Addr} {es : List Er} {tbs : List Addr} {D : Due} {fa ma th q : Addr} {mks tvs : List Value} {n1 n3 n4 : Nat} {x : PySem.Str} {tx ta tk : Tok} {a k : Nat}

theorem rk_none {tg : Tok} (G : Gnd w p loose mean mg mb g₀) (hroom : dp < recursionLimit) (K : Book g₀ g s.heap fs mu es tbs) (hma : s.heap.get? ma = some (listOf mks.toArray n1)) (hM : MksOk g mks (kdsOf es)) (hk : (kdsOf es)[k]? = some .none_) (hkl : k < 100)
    (hR : ∀ h' tk', (∀ b o, s.heap.get? b = some o → h'.get? b = some o) → R (.ok (.ret (.bool true))) { s with heap := h', toks := tk' }) :
    codeAny (model prg w) ⟨none, dp, fr, gd, un⟩ (.call (.ref 150) ⟨[.str (Str.ofString "lacking") tg, .int a ta, .int k tk, .ref fa, .ref ma, .ref th], []⟩) R s := by
  obtain ⟨mt, t1, t2, n, h1, h2⟩ := hM.2 k _ hk
  exact right_none (mt := mt) (k := k) (i := 0) G (fun b o z => K.stays b o (K.base b o z)) hroom hma (by omega) (by omega) (by simpa using h1) (K.stays _ _ h2) hR

theorem rk_again {i : Nat} (G : Gnd w p loose mean mg mb g₀) (hroom : dp < recursionLimit) (hu : un + 100 < cLine) (K : Book g₀ g s.heap fs mu es tbs) (hma : s.heap.get? ma = some (listOf mks.toArray n1)) (hM : MksOk g mks (kdsOf es)) (hfa : s.heap.get? fa = some (listOf (famOf q x tx es).toArray n3))
    (hth : s.heap.get? th = some (listOf tvs.toArray n4)) (hT : ThOk g tvs es) (hk : (kdsOf es)[k]? = some (.again i)) (hkl : k < 100) {j : Nat} {y : Er} (hi : i = j + 3) (hy : es[j]? = some y) (hjl : j < 100) (hd : y.D.deep ≤ 60)
    (hR : ∀ h' tk', (∀ b o, s.heap.get? b = some o → h'.get? b = some o) → R (.ok (.ret (.bool true))) { s with heap := h', toks := tk' }) :
    codeAny (model prg w) ⟨none, dp, fr, gd, un⟩ (.call (.ref 150) ⟨[.ref y.e, .int a ta, .int k tk, .ref fa, .ref ma, .ref th], []⟩) R s := by
  obtain ⟨mt, t1, t2, n, h1, h2⟩ := hM.2 k _ hk
  obtain ⟨T, dd, v, hT', er⟩ := K.tb_of hy
  obtain ⟨n₁, ha⟩ := er.arg
  obtain ⟨tv, ht1, ht2⟩ := hT j y hy
  subst hi
  have hst : ∀ b x y n, g.get? b = some (listOf #[x, y] n) → s.heap.get? b = some (listOf #[x, y] n) := fun b _ _ _ z => K.stays b _ z
  refine right_again (mt := mt) (k := k) (i := ((j + 3 : Nat) : Int)) (d := y.D) G (fun b o z => K.stays b o (K.base b o z)) hroom hu hma (by omega) (by omega) (by simpa using h1) (K.stays _ _ h2) (by omega) (by omega) hfa ?_ hth ?_ er.obj (K.stays _ _ ha) (er.rep.keeps hst) (ht2.keeps hst) hd hR
  · show (famOf q x tx es)[j + 3]? = _
    simp [famOf, hy]
  · show tvs[j + 3]? = _
    exact ht1

theorem rk_val {e t T : Addr} {v : Value} (G : Gnd w p loose mean mg mb g₀) (hroom : dp < recursionLimit) (hu : un + 100 < cLine) (ha : a < 5) (K : Book g₀ g s.heap fs mu es tbs) (hma : s.heap.get? ma = some (listOf mks.toArray n1)) (hM : MksOk g mks (kdsOf es)) (hfa : s.heap.get? fa = some (listOf (famOf q x tx es).toArray n3))
    (hth : s.heap.get? th = some (listOf tvs.toArray n4)) (hT : ThOk g tvs es) (htl : tvs.length ≤ 100) (hk : (kdsOf es)[k]? = some kd) (hkl : k < 100) (hel : es.length ≤ 90) (hD : KdDue es a kd D) (hN : NewEr g s.heap es tbs e t T D v) (hd : D.deep ≤ 60)
    (hmth : th ∈ mu) (hme : e ∈ mu) (hma' : ma ≠ th) (hfa' : fa ≠ th) (hq : ∃ o, g.get? q = some o) 
    (hR : ∀ h' tk' dv, (∀ b o, s.heap.get? b = some o → b ≠ th → h'.get? b = some o) → h'.get? th = some (listOf (tvs ++ [dv]).toArray (n4 + 1)) → (∀ g'', Grew g s.heap h' g'' → Rep g'' D dv) → R (.ok (.ret (.bool true))) { s with heap := h', toks := tk' }) :
    codeAny (model prg w) ⟨none, dp, fr, gd, un⟩ (.call (.ref 150) ⟨[.ref e, .int a ta, .int k tk, .ref fa, .ref ma, .ref th], []⟩) R s := by
  obtain ⟨mt, t1, t2, n, h1, h2⟩ := hM.2 k _ hk
  have hall : ∀ b o, s.heap.get? b = some o → b ≠ th → (hideAll s.heap [th]).get? b = some o := fun b o z hb => hideAll_get _ z (by simpa using hb)
  have hgg : g.StaysIn (hideAll s.heap [th]) := fun b o z => hall b o (K.stays b o z) fun hb => by rw [hb, K.off th (List.mem_append_left _ hmth)] at z; cases z
  have hst : ∀ b x y n, g.get? b = some (listOf #[x, y] n) → (hideAll s.heap [th]).get? b = some (listOf #[x, y] n) := fun b _ _ _ z => hgg b _ z
  have heth : e ≠ th := fun z => by have := hN.obj; rw [z, hth] at this; cases this
  refine right_val (g := hideAll s.heap [th]) (gb := g) (mt := mt) (k := k) (i := kd.arg) (kn := kd.name) (D := D) (n5 := 0) (G.keeps fun b o z => hgg b o (K.base b o z)) (fun b o z => of_hideAll _ z) (Nat.le_of_eq (hideAll_size _ _)) hroom hu ha (hall _ _ hma hma') (by omega) (by omega) (by simpa using h1) (hgg _ _ h2) ?_ hgg hall (hall _ _ hfa hfa') hth
    (hideAll_none _ (.head _)) htl ?_ (hall _ _ hN.obj heth) (hgg _ _ hN.arg) (hN.rep.keeps hst) hd fun h' tk' dv hk' hth' hrep => hR h' tk' dv (fun b o z hb => hk' b o (hall b o z hb)) hth' fun g'' gr => hrep g'' gr.1 gr.2
  · cases kd with
    | none_ => exact hD.elim
    | again i => exact hD.elim
    | cls => exact .inl ⟨rfl, hD⟩
    | tag t => exact .inr (.inl ⟨rfl, hD⟩)
    | carry i =>
      obtain ⟨j, y, rfl, hy, rfl⟩ := hD
      obtain ⟨tv, ht1, ht2⟩ := hT j y hy
      have hj : j < es.length := (List.getElem?_eq_some_iff.mp hy).1
      exact .inr (.inr ⟨rfl, by show (0 : Int) ≤ ((j + 3 : Nat) : Int); omega, by show ((j + 3 : Nat) : Int) < 2 ^ 63; omega, y.D, tv, rfl, by show tvs[(j + 3 : Nat)]? = _; exact ht1, ht2⟩)
  · intro z hz
    rcases List.mem_cons.mp hz with rfl | hz
    · obtain ⟨o, ho⟩ := hq
      exact .inl ⟨q, o, rfl, hgg _ _ ho, fun z => by rw [z, K.off e (List.mem_append_left _ hme)] at ho; cases ho⟩
    · rcases List.mem_cons.mp hz with rfl | hz
      · obtain ⟨o, ho⟩ := Option.isSome_iff_exists.mp (show ((Mine.hd.heap_39 w.params).lookup 97).isSome = true by kernel_rfl)
        replace ho := K.base _ _ (G.X 97 _ ho)
        exact .inl ⟨97, o, rfl, hgg _ _ ho, fun z => by rw [z, K.off e (List.mem_append_left _ hme)] at ho; cases ho⟩
      · rcases List.mem_cons.mp hz with rfl | hz
        · exact .inr ⟨_, _, rfl⟩
        · obtain ⟨y, hy, rfl⟩ := List.mem_map.mp hz
          obtain ⟨j, hj⟩ := List.mem_iff_getElem?.mp hy
          obtain ⟨T', dd, v', hT', er⟩ := K.tb_of hj
          refine .inl ⟨y.e, _, rfl, hall _ _ er.obj fun z => ?_, fun z => hN.offE (List.mem_append_left _ (z ▸ List.mem_map_of_mem hy))⟩
          have := er.obj; rw [z, hth] at this; cases this
end
/-! ## a loop with an invariant of one's own -/
section
variable {w : World} {A : Around} {E : Value → Shared → Prop} {s : Shared} {env : Env} {target : PySem.Expr} {body : List Stmt} {Q : Flow → Shared → Prop}
def LoopJ (w : World) (A : Around) (env : Env) (target : PySem.Expr) (body : List Stmt) (Q : Flow → Shared → Prop) (E : Value → Shared → Prop) (it : Value) (s₂ : Shared) : Prop :=
  ∃ (I : Addr) (fp wr : List Addr) (n : Nat) (P Md : Nat → Value → Heap → Prop) (St : Nat → Heap → Prop) (J : Nat → Shared → Prop), it = .ref I ∧ KTurns prg w A target I fp wr n P Md St ∧ J 0 s₂ ∧ (∀ i s, J i s → St i s.heap) ∧
    (∀ i v s h₁ tk₁, i < n → J i s → P i v h₁ → St (i + 1) h₁ → (∀ b o, b ∉ wr → s.heap.get? b = some o → h₁.get? b = some o) →
      wpAny (model prg w) A (assign target env v) (fun _ s₃ => wpAny (model prg w) A (execs body env) (fun f s₄ => match f with | .next | .cont => J (i + 1) s₄ | .brk => Q .next s₄ | .ret v => Q (.ret v) s₄) E s₃) E { s with heap := h₁, toks := tk₁ }) ∧
    (∀ s h₁ tk₁, J n s → (∀ b o, b ∉ wr → s.heap.get? b = some o → h₁.get? b = some o) → Q .next { s with heap := h₁, toks := tk₁ })

theorem for_J {iter : PySem.Expr} {pos : Pos}
    (h : wpAny (model prg w) A (eval iter env) (fun xv s₁ => wpAny (model prg w) A (pyIter xv) (fun it s₂ => LoopJ w A env target body Q E it s₂) E s₁) E s)
    (hs : ∀ x, foldedSetIterable iter env x = pure x := by intro _; rfl) (hE : PassesOwn (model prg w) A env E := by passes_own) :
    wpAny (model prg w) A (exec (.For target iter body [] pos) env) Q E s := by
  refine wpAny_For (wpAny_mono h (fun xv s₁ h₁ => wpAny_mono h₁ (fun it s₂ h₂ => ?_) fun _ _ e => e) fun _ _ e => e) hs
  obtain ⟨I, fp, wr, n, P, Md, St, J, rfl, W, h0, hJ, step, hQ⟩ := h₂
  refine codeAny_forLoop_any (R := fun r s' => match r with | .ok f => Q f s' | .error e => cameBackBy (model prg w) A env E e s') (fun k s' => ∃ i, J i s' ∧ i ≤ n ∧ k = n + 1 - i) ?_ (n + 1) ⟨0, h0, Nat.zero_le _, rfl⟩
  rintro k s' ⟨i, hi, hin, rfl⟩
  by_cases hlt : i < n
  · refine W.item i _ _ _ hlt (hJ i s' hi) fun v h₁ tk₁ hMd hk₁ => ?_
    refine W.go i v _ _ _ hMd fun h₂ hP hst₂ hk₂ => ?_
    refine wpAny_mono (step i v s' h₂ tk₁ hlt hi hP hst₂ fun b o hb x => hk₂ b o hb (hk₁ b o hb x)) (fun _ s₃ h₃ => wpAny_passesOwn hE (wpAny_mono h₃ (fun f s₄ h₄ => ?_) fun _ _ e => e)) hE
    cases f with
    | ret v => exact h₄
    | brk => exact h₄
    | cont => exact ⟨n + 1 - (i + 1), by omega, i + 1, h₄, hlt, rfl⟩
    | next => exact ⟨n + 1 - (i + 1), by omega, i + 1, h₄, hlt, rfl⟩
  · have : i = n := by omega
    subst this
    exact W.done _ _ _ (hJ _ _ hi) fun h₁ tk₁ hk₁ => wpAny_execs_nil (hQ s' h₁ tk₁ hi hk₁)

theorem frames_of {g₀ h₁ h : Heap} : ∀ {l : List Env}, h₁.FunFrames g₀ l → (∀ b ∈ framesOf l, ∃ o es n, h.get? b = some o ∧ o.data = .dict es n) → h.FunFrames g₀ l
  | [], _, _ => trivial
  | env :: l, ⟨h1, ⟨L, o, hf, h0, ho, _⟩, hr⟩, hd => by
    have hfr : framesOf (env :: l) = L :: framesOf l := by unfold framesOf; rw [List.filterMap_cons, hf]
    rw [hfr] at hd
    obtain ⟨o', es, n, ho', hd'⟩ := hd L (.head _)
    exact ⟨h1, ⟨L, o', hf, h0, ho', fun vs q => by rw [hd'] at q; cases q⟩, frames_of hr fun b hb => hd b (.tail _ hb)⟩
theorem Book.below {g₀ g h₁ h : Heap} {l : List Env} {mu : List Addr} {es : List Er} {tbs : List Addr} (B : Below A g₀ l h₁) (K : Book g₀ g h (framesOf l) mu es tbs) : Below A g₀ l h :=
  ⟨B.stack, fun b o z => K.stays b o (K.base b o z), frames_of B.frames fun b hb => (K.frm b hb).2⟩
end
/-! ## the invariant of _law_sixteen -/
section
def Tabs (g h : Heap) : Prop := TabSt g h 117 tagLp qTag ∧ TabSt g h 124 carryLp qCarry ∧ TabSt g h 138 againLp qAgain
abbrev tabAt : List Addr := [117, 124, 138]
structure Inv (g₀ hI : Heap) (fl fs xs : List Addr) (q fa ma th : Addr) (tx : Tok) (i : Nat) (h g : Heap) (mu : List Addr) (es : List Er) (tbs : List Addr) (mks tvs : List Value) : Prop where
  bk : Book g₀ g h fs mu es tbs
  xmu : ∀ b ∈ xs, b ∈ mu
  kept : ∀ b o, hI.get? b = some o → b ∉ xs → h.get? b = some o
  frs : ∀ b ∈ fl, ∀ o, hI.get? b = some o → ∃ sl, h.get? b = some { o with slots := sl }
  esn : ∀ b ∈ es.map (·.e) ++ tbs, hI.get? b = none
  fam : ∃ n, h.get? fa = some (listOf (famOf q (Str.ofString "x") tx es).toArray n)
  mak : ∃ n, h.get? ma = some (listOf mks.toArray n)
  mok : MksOk g mks (kdsOf es)
  thi : ∃ n, h.get? th = some (listOf tvs.toArray n)
  tok : ThOk g tvs es
  len : es.length ≤ i
  dep : ∀ (j : Nat) x, es[j]? = some x → x.D.deep ≤ j + 1
  tab : Tabs g h
  pob : ∃ d n, g.get? q = some (instObj 97 d) ∧ g.get? d = some (dictOf [] n)

variable {g₀ g g' h h' hI : Heap} {fl fs xs mu : List Addr} {es : List Er} {tbs : List Addr} {q fa ma th : Addr} {tx : Tok} {i k a : Nat} {mks tvs : List Value} {kd : Kd} {self : Value}

theorem TabSt.keeps {P : Addr} {lp : Pos} {qn : PySem.Str} (t : TabSt g h P lp qn) (hg : g.StaysIn g') (hP : ∀ o, h.get? P = some o → h'.get? P = some o) : TabSt g' h' P lp qn :=
  t.elim (fun z => .inl (hP _ z)) fun ⟨c, z, y⟩ => .inr ⟨c, hP _ z, y.keeps hg⟩
theorem Tabs.keeps (t : Tabs g h) (hg : g.StaysIn g') (hP : ∀ b ∈ tabAt, ∀ o, h.get? b = some o → h'.get? b = some o) : Tabs g' h' :=
  ⟨t.1.keeps hg (hP _ (by simp)), t.2.1.keeps hg (hP _ (by simp)), t.2.2.keeps hg (hP _ (by simp))⟩

theorem Inv.selfOk (V : Inv g₀ hI fl fs xs q fa ma th tx i h g mu es tbs mks tvs) (hk : (kdsOf es)[k]? = some kd) (hs : (famOf q (Str.ofString "x") tx es)[k]? = some self) : SelfOk g es self kd := by
  rcases k with _ | _ | _ | k
  · simp at hk hs; subst hk; subst hs
    obtain ⟨d, n, h1, h2⟩ := V.pob
    exact .inr (.inl ⟨rfl, q, d, n, rfl, h1, h2⟩)
  · simp at hk hs; subst hk; subst hs
    exact .inl ⟨rfl, rfl⟩
  · simp at hk hs; subst hk; subst hs
    exact .inr (.inr (.inl ⟨rfl, _, _, rfl⟩))
  · have hk' : (es.map (·.k))[k]? = some kd := hk
    have hs' : (es.map fun y => Value.ref y.e)[k]? = some self := hs
    rw [List.getElem?_map] at hk' hs'
    cases hx : es[k]? with
    | none => rw [hx] at hk'; cases hk'
    | some x =>
      rw [hx] at hk' hs'
      exact .inr (.inr (.inr ⟨k, x, hx, (Option.some.inj hs').symm, (Option.some.inj hk').symm⟩))

/-- a kind of the family that makes an error: what is due, and how deep -/
theorem Inv.due (V : Inv g₀ hI fl fs xs q fa ma th tx i h g mu es tbs mks tvs) (hk : (kdsOf es)[k]? = some kd) (h1 : kd ≠ .none_) (h2 : ∀ i, kd ≠ .again i) : ∃ D, KdDue es a kd D ∧ D.deep ≤ es.length + 1 := by
  cases kd with
  | none_ => exact absurd rfl h1
  | again i => exact absurd rfl (h2 i)
  | cls => exact ⟨.msg a, rfl, Nat.zero_le _⟩
  | tag t => exact ⟨.tag t a, rfl, Nat.le_add_left 1 _⟩
  | carry i =>
    rcases k with _ | _ | _ | k
    · simp at hk
    · simp at hk
    · simp at hk
    · have hk' : (es.map (·.k))[k]? = some (.carry i) := hk
      rw [List.getElem?_map] at hk'
      cases hx : es[k]? with
      | none => rw [hx] at hk'; cases hk'
      | some x =>
        rw [hx] at hk'
        obtain ⟨T, dd, v, _, er⟩ := V.bk.tb_of hx
        have hkk : x.k = .carry i := Option.some.inj hk'
        rcases er.dic with ⟨z, _⟩ | ⟨d, hs, tk', n, v', rfl, hd', hm⟩
        · rw [hkk] at z; cases z
        · rw [hkk] at hm
          obtain ⟨j, y, rfl, hy, _⟩ := hm
          have hj : j < es.length := (List.getElem?_eq_some_iff.mp hy).1
          exact ⟨.carry a y.D, ⟨j, y, rfl, hy, rfl⟩, by show y.D.deep + 1 ≤ _; have := V.dep j y hy; omega⟩

theorem kind_at (hk : k < es.length + 3) : ∃ kd self, (kdsOf es)[k]? = some kd ∧ (famOf q (Str.ofString "x") tx es)[k]? = some self := by
  have h1 : k < (kdsOf es).length := by simp [kdsOf]; omega
  have h2 : k < (famOf q (Str.ofString "x") tx es).length := by simp [famOf]; omega
  exact ⟨_, _, List.getElem?_eq_getElem h1, List.getElem?_eq_getElem h2⟩

/-- only things of no concern change -/
theorem Inv.other {S : List Addr} (V : Inv g₀ hI fl fs xs q fa ma th tx i h g mu es tbs mks tvs) (hk : ∀ b o, h.get? b = some o → b ∉ S → h'.get? b = some o) (hS : ∀ b ∈ S, b ∈ xs ∧ b ∉ es.map (·.e) ++ tbs ∧ b ∉ fl ∧ b ∉ [fa, ma, th] ++ tabAt ∧ ∃ o, h'.get? b = some o)
    (hf : ∀ b ∈ fs, ∃ o es n, h'.get? b = some o ∧ o.data = .dict es n) : ∃ g', g.StaysIn g' ∧ Inv g₀ hI fl fs xs q fa ma th tx i h' g' mu es tbs mks tvs := by
  obtain ⟨K', st⟩ := V.bk.step (h' := h') S [] hk (fun b hb => ⟨V.xmu b (hS b hb).1, (hS b hb).2.1, (hS b hb).2.2.2.2⟩) hf (by simp)
  have kp : ∀ b ∈ [fa, ma, th] ++ tabAt, ∀ o, h.get? b = some o → h'.get? b = some o := fun b hb o z => hk b o z fun hs => (hS b hs).2.2.2.1 hb
  refine ⟨_, st, K', V.xmu, fun b o z hx => hk b o (V.kept b o z hx) fun hs => hx (hS b hs).1, fun b hb o z => ?_, V.esn, ?_, ?_, V.mok.keeps st, ?_, V.tok.keeps st, V.len, V.dep, V.tab.keeps st fun b hb => kp b (List.mem_append_right _ hb), ?_⟩
  · obtain ⟨sl, y⟩ := V.frs b hb o z
    exact ⟨sl, hk b _ y fun hs => (hS b hs).2.2.1 hb⟩
  · obtain ⟨n, z⟩ := V.fam; exact ⟨n, kp _ (by simp) _ z⟩
  · obtain ⟨n, z⟩ := V.mak; exact ⟨n, kp _ (by simp) _ z⟩
  · obtain ⟨n, z⟩ := V.thi; exact ⟨n, kp _ (by simp) _ z⟩
  · obtain ⟨d, n, z1, z2⟩ := V.pob; exact ⟨d, n, st _ _ z1, st _ _ z2⟩

structure Stat (hI : Heap) (fl fs xs : List Addr) (fa ma th : Addr) : Prop where
  fx : ∀ b ∈ fs, b ∈ xs
  lf : ∀ b ∈ fl, b ∈ fs
  xl : ∀ b ∈ xs, ∃ o, hI.get? b = some o
  inx : ∀ b ∈ [fa, ma, th] ++ tabAt, b ∈ xs ∧ b ∉ fs
  n1 : fa ≠ ma
  n2 : fa ≠ th
  n3 : ma ≠ th
  n4 : ∀ b ∈ tabAt, b ∉ [fa, ma, th]

variable {mu' : List Addr} {tbs' : List Addr}
theorem Inv.fresh (V : Inv g₀ hI fl fs xs q fa ma th tx i h g mu es tbs mks tvs) {b : Addr} (hb : h.get? b = none) : hI.get? b = none := by
  cases z : hI.get? b with
  | none => rfl
  | some o =>
    by_cases hx : b ∈ xs
    · obtain ⟨o', y⟩ := V.bk.live b (List.mem_append_left _ (V.xmu b hx))
      rw [hb] at y; cases y
    · rw [V.kept b o z hx] at hb; cases hb
theorem Inv.asked (S : Stat hI fl fs xs fa ma th) (V : Inv g₀ hI fl fs xs q fa ma th tx i h g mu es tbs mks tvs) (K' : Book g₀ g' h' fs mu' es tbs') (st : g.StaysIn g') (hm : ∀ b ∈ mu, b ∈ mu')
    (kp : ∀ b o, h.get? b = some o → b ∉ fs → b ∉ es.map (·.e) ++ tbs → h'.get? b = some o) (ups : h.UpToSlots h') (hn : ∀ b ∈ tbs', b ∈ tbs ∨ h.get? b = none) : Inv g₀ hI fl fs xs q fa ma th tx i h' g' mu' es tbs' mks tvs := by
  have hx : ∀ b ∈ xs, b ∉ es.map (·.e) ++ tbs := fun b hb hm => by
    obtain ⟨o, z⟩ := S.xl b hb
    rw [V.esn b hm] at z; cases z
  have kx : ∀ b ∈ [fa, ma, th] ++ tabAt, ∀ o, h.get? b = some o → h'.get? b = some o := fun b hb o z => kp b o z (S.inx b hb).2 (hx b (S.inx b hb).1)
  refine ⟨K', fun b hb => hm b (V.xmu b hb), fun b o z hx' => kp b o (V.kept b o z hx') (fun hf => hx' (S.fx b hf)) fun hm => ?_, fun b hb o z => ?_, fun b hb => ?_, ?_, ?_, V.mok.keeps st, ?_, V.tok.keeps st, V.len, V.dep, V.tab.keeps st fun b hb => kx b (List.mem_append_right _ hb), ?_⟩
  · rw [V.esn b hm] at z; cases z
  · obtain ⟨sl, y⟩ := V.frs b hb o z
    obtain ⟨_, o', ds, n, y', hd⟩ := V.bk.frm b (S.lf b hb)
    obtain ⟨sl', y''⟩ := ups b _ y (fun vs e => by rw [y] at y'; cases y'; rw [hd] at e; cases e)
    exact ⟨sl', y''⟩
  · rcases List.mem_append.mp hb with hb | hb
    · exact V.esn b (List.mem_append_left _ hb)
    · rcases hn b hb with hb | hb
      · exact V.esn b (List.mem_append_right _ hb)
      · exact V.fresh hb
  · obtain ⟨n, z⟩ := V.fam; exact ⟨n, kx _ (by simp) _ z⟩
  · obtain ⟨n, z⟩ := V.mak; exact ⟨n, kx _ (by simp) _ z⟩
  · obtain ⟨n, z⟩ := V.thi; exact ⟨n, kx _ (by simp) _ z⟩
  · obtain ⟨d, n, z1, z2⟩ := V.pob; exact ⟨d, n, st _ _ z1, st _ _ z2⟩

/-- what asking gave -/
def Asked (hI g h : Heap) (mu : List Addr) (es : List Er) (tbs : List Addr) (a : Nat) (kd : Kd) (got : Value) : Prop :=
  (kd = .none_ ∧ ∃ tl, got = .str (Str.ofString "lacking") tl) ∨ (∃ j : Nat, ∃ y, kd = .again (j + 3) ∧ es[j]? = some y ∧ got = .ref y.e) ∨
    ∃ e t T v D, got = .ref e ∧ KdDue es a kd D ∧ D.deep ≤ es.length + 1 ∧ NewEr g h es tbs e t T D v ∧ e ∈ mu ∧ T ∈ mu ∧ hI.get? e = none ∧ hI.get? T = none

variable {w : World} {p : Program} {loose : List PySem.Str} {mean : ExcName → Option Value} {mg mb : PySem.Str → Option Value} {A : Around} {l : List Env} {s : Shared} {R : Result → Shared → Prop} {ta : Tok}
theorem inv_ask (ha : a < 5) (G : Gnd w p loose mean mg mb g₀) (B : Below A g₀ l s.heap) (hsz : g₀.objs.size ≤ s.heap.objs.size) (hroom : A.depth + 10 < recursionLimit) (hh : A.handled = none)
    (S : Stat hI fl (framesOf l) xs fa ma th) (V : Inv g₀ hI fl (framesOf l) xs q fa ma th tx i s.heap g mu es tbs mks tvs) (hk : (kdsOf es)[k]? = some kd) (hs : (famOf q (Str.ofString "x") tx es)[k]? = some self)
    (hR : ∀ got h' tk' g' mu' tbs', Inv g₀ hI fl (framesOf l) xs q fa ma th tx i h' g' mu' es tbs' mks tvs → Asked hI g' h' mu' es tbs' a kd got → (∀ b ∈ mu, b ∈ mu') → (∀ b o, s.heap.get? b = some o → b ∉ framesOf l → b ∉ es.map (·.e) ++ tbs → h'.get? b = some o) → s.heap.UpToSlots h' → R (.ok (.ret got)) { s with heap := h', toks := tk' }) :
    codeAny (model prg w) A (.call (.ref 115) ⟨[.int a ta, self], []⟩) R s := by
  have hS := V.selfOk hk hs
  by_cases h1 : kd = .none_
  · subst h1
    refine ck_miss ha G B hsz hroom hh V.bk hS fun tl g' h' tk' K' st kp ups => ?_
    exact hR _ h' tk' g' mu tbs (V.asked S K' st (fun _ z => z) (fun b o z hf _ => kp b o z hf) ups fun b hb => .inl hb) (.inl ⟨rfl, tl, rfl⟩) (fun _ z => z) (fun b o z hf _ => kp b o z hf) ups
  · by_cases h2 : ∃ i, kd = .again i
    · obtain ⟨i', rfl⟩ := h2
      refine ck_again ha G B hsz hroom hh V.bk hS fun j y g' tbs' h' tk' hi hy K' hn st kp ups => ?_
      subst hi
      exact hR _ h' tk' g' mu tbs' (V.asked S K' st (fun _ z => z) kp ups hn) (.inr (.inl ⟨j, y, rfl, hy, rfl⟩)) (fun _ z => z) kp ups
    · obtain ⟨D, hD, hd⟩ := V.due (a := a) hk h1 (fun i e => h2 ⟨i, e⟩)
      refine ck_val ha G B hsz hroom hh V.bk hS hD fun e t T v g' h' tk' K' st kp ups he hT hN _ => ?_
      exact hR _ h' tk' g' _ tbs (V.asked S K' st (fun b hb => .tail _ (.tail _ hb)) (fun b o z hf _ => kp b o z hf) ups fun b hb => .inl hb) (.inr (.inr ⟨e, t, T, v, D, rfl, hD, hd, hN, .head _, .tail _ (.head _), V.fresh he, V.fresh hT⟩)) (fun b hb => .tail _ (.tail _ hb)) (fun b o z hf _ => kp b o z hf) ups

theorem Asked.keeps {got : Value} (y : Asked hI g h mu es tbs a kd got) (st : g.StaysIn g') (hm : ∀ b ∈ mu, b ∈ mu') (hk : ∀ b o, h.get? b = some o → hI.get? b = none → h'.get? b = some o) : Asked hI g' h' mu' es tbs a kd got := by
  rcases y with y | y | ⟨e, t, T, v, D, h1, h2, h3, h4, h5, h6, h7, h8⟩
  · exact .inl y
  · exact .inr (.inl y)
  · exact .inr (.inr ⟨e, t, T, v, D, h1, h2, h3, ⟨hk _ _ h4.obj h7, let ⟨oT, ts, z1, z2, z3⟩ := h4.tb; ⟨oT, ts, hk _ _ z1 h8, z2, z3⟩, st _ _ h4.arg, h4.rep.keeps fun b _ _ _ z => st b _ z, h4.ne, h4.offE, h4.offT⟩, hm _ h5, hm _ h6, h7, h8⟩)

theorem inv_right {dp un : Nat} {fr : Option (List Env)} {gd : Option (List Code)} {got : Value} {th' : Addr} {tvs' : List Value} {n : Nat} {tk : Tok} (ha : a < 5) (G : Gnd w p loose mean mg mb g₀) (hroom : dp < recursionLimit) (hu : un + 100 < cLine) (V : Inv g₀ hI fl fs xs q fa ma th tx i s.heap g mu es tbs mks tvs) (hi : i ≤ 16)
    (Y : Asked hI g s.heap mu es tbs a kd got) (hk : (kdsOf es)[k]? = some kd) (hth : s.heap.get? th' = some (listOf tvs'.toArray n)) (hT : ThOk g tvs' es) (htl : tvs'.length ≤ 100) (hm : th' ∈ mu) (h1 : ma ≠ th') (h2 : fa ≠ th')
    (hR : ∀ h' tk', (∀ b o, s.heap.get? b = some o → b ≠ th' → h'.get? b = some o) → ((h'.get? th' = some (listOf tvs'.toArray n) ∧ ((∃ tl, got = .str (Str.ofString "lacking") tl) ∨ ∃ j : Nat, ∃ y, es[j]? = some y ∧ got = .ref y.e)) ∨
        ∃ e t T v D dv, got = .ref e ∧ D.deep ≤ es.length + 1 ∧ NewEr g s.heap es tbs e t T D v ∧ e ∈ mu ∧ T ∈ mu ∧ hI.get? e = none ∧ hI.get? T = none ∧ h'.get? th' = some (listOf (tvs' ++ [dv]).toArray (n + 1)) ∧ (∀ g'', Grew g s.heap h' g'' → Rep g'' D dv) ∧ (kd ≠ .none_ ∧ ∀ i, kd ≠ .again i)) →
      R (.ok (.ret (.bool true))) { s with heap := h', toks := tk' }) :
    codeAny (model prg w) ⟨none, dp, fr, gd, un⟩ (.call (.ref 150) ⟨[got, .int a ta, .int k tk, .ref fa, .ref ma, .ref th'], []⟩) R s := by
  have hkl : k < es.length + 3 := by
    have := (List.getElem?_eq_some_iff.mp hk).1
    simpa [kdsOf] using this
  have hel := V.len
  obtain ⟨n3, hfa⟩ := V.fam
  obtain ⟨n1, hma⟩ := V.mak
  rcases Y with ⟨rfl, tl, rfl⟩ | ⟨j, y, rfl, hy, rfl⟩ | ⟨e, t, T, v, D, rfl, hD, hd, hN, he, hT', h7, h8⟩
  · exact rk_none G hroom V.bk hma V.mok hk (by omega) fun h' tk' hk' => hR h' tk' (fun b o z _ => hk' b o z) (.inl ⟨hk' _ _ hth, .inl ⟨tl, rfl⟩⟩)
  · have hj : j < es.length := (List.getElem?_eq_some_iff.mp hy).1
    refine rk_again G hroom hu V.bk hma V.mok hfa hth hT hk (by omega) rfl hy (by omega) (by have := V.dep j y hy; omega) fun h' tk' hk' => hR h' tk' (fun b o z _ => hk' b o z) (.inl ⟨hk' _ _ hth, .inr ⟨j, y, hy, rfl⟩⟩)
  · obtain ⟨d, nd, hq1, _⟩ := V.pob
    refine rk_val G hroom hu ha V.bk hma V.mok hfa hth hT htl hk (by omega) (by omega) hD hN (by omega) hm he h1 h2 ⟨_, hq1⟩ fun h' tk' dv hk' hth' hrep => hR h' tk' hk' (.inr ⟨e, t, T, v, D, dv, rfl, hd, hN, he, hT', h7, h8, hth', hrep, ?_, ?_⟩)
    · intro z; subst z; exact hD.elim
    · intro i z; subst z; exact hD.elim
end
section
/-- all that lies on a heap beside a ground -/
def restOf (g h : Heap) : List (Addr × Obj) := (List.range h.objs.size).filterMap fun b => match g.get? b, h.get? b with | none, some o => some (b, o) | _, _ => none
theorem mem_restOf {g h : Heap} {b : Addr} {o : Obj} : (b, o) ∈ restOf g h ↔ g.get? b = none ∧ h.get? b = some o := by
  unfold restOf
  rw [List.mem_filterMap]
  constructor
  · rintro ⟨c, _, hc⟩
    cases h1 : g.get? c <;> cases h2 : h.get? c <;> rw [h1, h2] at hc <;> cases hc
    exact ⟨h1, h2⟩
  · rintro ⟨h1, h2⟩
    exact ⟨b, List.mem_range.mpr (Heap.lt_size h2), by rw [h1, h2]⟩

end
section
variable {g₀ gT hS hA hI : Heap} {A : Around} {l : List Env} {L d q fa m1 m2 m3 ma th : Nat} {m : PySem.Str → Option Value} {nw : List (Addr × Obj)} {tx t1 t2 t3 t4 t5 t6 : Tok}
abbrev xsOf (L : Addr) (l : List Env) (fa ma th I : Addr) : List Addr := (L :: framesOf l) ++ (tabAt ++ [fa, ma, th, I + 1, I])
theorem inv_start (B : Below A g₀ l hS) (hfd : ∀ b ∈ framesOf l, ∃ o es n, hS.get? b = some o ∧ o.data = .dict es n) (hT : Tabs gT hS) (hgT : gT.StaysIn hS) (hoff : ∀ b ∈ framesOf l ++ tabAt, gT.get? b = none) (hP0 : ∀ b ∈ tabAt, g₀.get? b = none) (hgg : g₀.StaysIn gT)
    (hnw : nw = restOf g₀ hS) (hL : hS.get? L = none) (FA : Fr g₀ L hA m)
    (NA : News g₀ L hA ((th, listOf #[.none, .none, .none] 0) :: (ma, listOf #[.ref m1, .ref m2, .ref m3] 0) :: (m3, tupOf #[.str (Str.ofString "none") t5, .int 0 t6] 0) :: (m2, tupOf #[.str (Str.ofString "class") t3, .int 0 t4] 0) :: (m1, tupOf #[.str (Str.ofString "class") t1, .int 0 t2] 0) ::
      (fa, listOf #[.ref q, .ref 97, .str (Str.ofString "x") tx] 0) :: (q, instObj 97 d) :: (d, dictOf [] 0) :: nw))
    (o1 : ∀ p ∈ nw, (p.1 : Nat) < d) (o2 : d < q) (o3 : q < fa) (o4 : fa < m1) (o5 : m1 < m2) (o6 : m2 < m3) (o7 : m3 < ma) (o8 : ma < th)
    (hkI : ∀ b o, hA.get? b = some o → hI.get? b = some o) (hE : ∃ o, hI.get? (hA.objs.size + 1) = some o) (hIt : ∃ o, hI.get? hA.objs.size = some o) :
    ∃ g, (∀ b : Nat, b ∈ (L :: framesOf l) ++ ([fa, ma, th] ++ tabAt) → b < hA.objs.size) ∧ gT.StaysIn g ∧ Stat hI (framesOf l) (L :: framesOf l) (xsOf L l fa ma th hA.objs.size) fa ma th ∧
      Inv g₀ hI (framesOf l) (L :: framesOf l) (xsOf L l fa ma th hA.objs.size) q fa ma th tx 0 hI g (xsOf L l fa ma th hA.objs.size) [] [] [.ref m1, .ref m2, .ref m3] [.none, .none, .none] := by
  have hSA : ∀ b o, hS.get? b = some o → hA.get? b = some o := fun b o z => by
    cases y : g₀.get? b with
    | some o' =>
      have := B.stays _ _ y; rw [z] at this; cases this
      exact FA.keep _ _ y
    | none =>
      have hmem : (b, o) ∈ nw := hnw ▸ mem_restOf.mpr ⟨y, z⟩
      exact (NA (b, o) (.tail _ (.tail _ (.tail _ (.tail _ (.tail _ (.tail _ (.tail _ (.tail _ hmem))))))))).1
  have old : ∀ (b : Nat) o, hS.get? b = some o → g₀.get? b = none → b < d := fun b o z y => o1 (b, o) (hnw ▸ mem_restOf.mpr ⟨y, z⟩)
  have hfro : ∀ b : Nat, b ∈ framesOf l → b < d := fun b hb => by
    obtain ⟨o, _, _, z, _⟩ := hfd b hb
    exact old b o z (B.frames.mem hb).1
  have htab : ∀ b ∈ tabAt, ∃ o, hS.get? b = some o ∧ ∀ es n, o.data ≠ .dict es n := fun b hb => by
    simp only [tabAt, List.mem_cons, List.not_mem_nil, or_false] at hb
    rcases hb with rfl | rfl | rfl
    · rcases hT.1 with z | ⟨c, z, _⟩ <;> exact ⟨_, z, fun es n e => by cases e⟩
    · rcases hT.2.1 with z | ⟨c, z, _⟩ <;> exact ⟨_, z, fun es n e => by cases e⟩
    · rcases hT.2.2 with z | ⟨c, z, _⟩ <;> exact ⟨_, z, fun es n e => by cases e⟩
  have htao : ∀ b : Nat, b ∈ tabAt → b < d := fun b hb => let ⟨o, z, _⟩ := htab b hb; old b o z (hP0 b hb)
  have nth := NA (th, _) (.head _)
  have nma := NA (ma, _) (.tail _ (.head _))
  have nm3 := NA (m3, _) (.tail _ (.tail _ (.head _)))
  have nm2 := NA (m2, _) (.tail _ (.tail _ (.tail _ (.head _))))
  have nm1 := NA (m1, _) (.tail _ (.tail _ (.tail _ (.tail _ (.head _)))))
  have nfa := NA (fa, _) (.tail _ (.tail _ (.tail _ (.tail _ (.tail _ (.head _))))))
  have nq := NA (q, _) (.tail _ (.tail _ (.tail _ (.tail _ (.tail _ (.tail _ (.head _)))))))
  have nd := NA (d, _) (.tail _ (.tail _ (.tail _ (.tail _ (.tail _ (.tail _ (.tail _ (.head _))))))))
  have hth : (th : Nat) < hA.objs.size := Heap.lt_size nth.1
  have hLs : (L : Nat) < hA.objs.size := FA.ns.lt
  have hfL : ∀ b ∈ framesOf l, b ≠ L := fun b hb e => by
    obtain ⟨o, _, _, z, _⟩ := hfd b hb
    rw [e, hL] at z; cases z
  have htL : ∀ b ∈ tabAt, b ≠ L := fun b hb e => by
    obtain ⟨o, z, _⟩ := htab b hb
    rw [e, hL] at z; cases z
  have mem : ∀ b : Nat, b ∈ xsOf L l fa ma th hA.objs.size → b = L ∨ b ∈ framesOf l ∨ b ∈ tabAt ∨ b = fa ∨ b = ma ∨ b = th ∨ b = hA.objs.size + 1 ∨ b = hA.objs.size := fun b hb => by
    rcases List.mem_append.mp hb with hb | hb
    · rcases List.mem_cons.mp hb with hb | hb
      · exact .inl hb
      · exact .inr (.inl hb)
    · rcases List.mem_append.mp hb with hb | hb
      · exact .inr (.inr (.inl hb))
      · simp only [List.mem_cons, List.not_mem_nil, or_false] at hb
        exact .inr (.inr (.inr hb))
  have mL : ∀ b, b = L → b ∈ xsOf L l fa ma th hA.objs.size := fun b e => List.mem_append_left _ (e ▸ .head _)
  have mf : ∀ b ∈ framesOf l, b ∈ xsOf L l fa ma th hA.objs.size := fun b hb => List.mem_append_left _ (.tail _ hb)
  have mt : ∀ b ∈ tabAt, b ∈ xsOf L l fa ma th hA.objs.size := fun b hb => List.mem_append_right _ (List.mem_append_left _ hb)
  have ml : ∀ b ∈ [fa, ma, th, hA.objs.size + 1, hA.objs.size], b ∈ xsOf L l fa ma th hA.objs.size := fun b hb => List.mem_append_right _ (List.mem_append_right _ hb)
  have g0n : ∀ b ∈ xsOf L l fa ma th hA.objs.size, g₀.get? b = none := fun b hb => by
    rcases mem b hb with rfl | hb | hb | rfl | rfl | rfl | rfl | rfl
    · exact Heap.get?_none_of_le FA.above
    · exact (B.frames.mem hb).1
    · exact hP0 b hb
    · exact nfa.2.2
    · exact nma.2.2
    · exact nth.2.2
    · exact Heap.get?_none_of_le (Nat.le_trans FA.above (by show L ≤ hA.objs.size + 1; omega))
    · exact Heap.get?_none_of_le (Nat.le_trans FA.above (by show L ≤ hA.objs.size; omega))
  have lv : ∀ b ∈ xsOf L l fa ma th hA.objs.size, ∃ o, hI.get? b = some o := fun b hb => by
    rcases mem b hb with rfl | hb | hb | rfl | rfl | rfl | rfl | rfl
    · obtain ⟨o, _, _, z, _⟩ := FA.ns; exact ⟨o, hkI _ _ z⟩
    · obtain ⟨o, _, _, z, _⟩ := hfd b hb; exact ⟨o, hkI _ _ (hSA _ _ z)⟩
    · obtain ⟨o, z, _⟩ := htab b hb; exact ⟨o, hkI _ _ (hSA _ _ z)⟩
    · exact ⟨_, hkI _ _ nfa.1⟩
    · exact ⟨_, hkI _ _ nma.1⟩
    · exact ⟨_, hkI _ _ nth.1⟩
    · exact hE
    · exact hIt
  have fd : ∀ b ∈ L :: framesOf l, ∃ o es n, hI.get? b = some o ∧ o.data = .dict es n := fun b hb => by
    rcases List.mem_cons.mp hb with rfl | hb
    · obtain ⟨o, es, n, z, y, _⟩ := FA.ns; exact ⟨o, es, n, hkI _ _ z, y⟩
    · obtain ⟨o, es, n, z, y⟩ := hfd b hb; exact ⟨o, es, n, hkI _ _ (hSA _ _ z), y⟩
  have inG : ∀ (b : Nat) o, hA.get? b = some o → b ≠ L → d ≤ b → b ≠ fa → b ≠ ma → b ≠ th → (hideAll hI (xsOf L l fa ma th hA.objs.size)).get? b = some o := fun b o z h1 h2 h3 h4 h5 => hideAll_get _ (hkI _ _ z) fun hb => by
    have hs : (b : Nat) < hA.objs.size := Heap.lt_size z
    rcases mem b hb with hb | hb | hb | hb | hb | hb | hb | hb
    · exact h1 hb
    · exact absurd (hfro b hb) (Nat.not_lt.mpr h2)
    · exact absurd (htao b hb) (Nat.not_lt.mpr h2)
    · exact h3 hb
    · exact h4 hb
    · exact h5 hb
    · omega
    · omega
  have stT : ∀ (b : Nat) o, gT.get? b = some o → (hideAll hI (xsOf L l fa ma th hA.objs.size)).get? b = some o := fun b o z => by
    have zS := hgT b o z
    refine hideAll_get _ (hkI _ _ (hSA _ _ zS)) fun hb => ?_
    have hs : (b : Nat) < hA.objs.size := Heap.lt_size (hSA _ _ zS)
    rcases mem b hb with hb | hb | hb | hb | hb | hb | hb | hb
    · rw [hb, hL] at zS; cases zS
    · rw [hoff b (List.mem_append_left _ hb)] at z; cases z
    · rw [hoff b (List.mem_append_right _ hb)] at z; cases z
    · have := old b o zS (hb ▸ nfa.2.2); omega
    · have := old b o zS (hb ▸ nma.2.2); omega
    · have := old b o zS (hb ▸ nth.2.2); omega
    · omega
    · omega
  have tne : ∀ b ∈ tabAt, b ∉ L :: framesOf l := fun b hb hm => by
    rcases List.mem_cons.mp hm with e | hm
    · exact htL b hb e
    · obtain ⟨o, z, y⟩ := htab b hb
      obtain ⟨o', es, n, z', y'⟩ := hfd b hm
      rw [z] at z'; cases z'; exact y _ _ y'
  have toEq : ∀ b : Nat, b ∈ ([fa, ma, th] : List Nat) → b = fa ∨ b = ma ∨ b = th := by intro b h; simpa using h
  have key : ∀ b : Nat, b ∈ ([fa, ma, th] : List Nat) → d < b := by intro b h; rcases toEq b h with h | h | h <;> omega
  refine ⟨_, fun b hb => ?_, stT, ⟨fun b hb => List.mem_append_left _ hb, fun b hb => .tail _ hb, lv, fun b hb => ?_, Nat.ne_of_lt (show fa < ma by omega), Nat.ne_of_lt (show fa < th by omega), Nat.ne_of_lt (show ma < th by omega), fun b hb hm => ?_⟩,
    ⟨⟨fun b o z => stT b o (hgg b o z), fun b o z => of_hideAll _ z, fun b hb => hideAll_none _ (by simpa using hb), fun b hb => lv b (by simpa using hb), fun b hb => ⟨List.mem_append_left _ hb, fd b hb⟩, rfl, List.nodup_nil, by simp, by simp, by simp⟩,
      fun _ z => z, fun _ _ z _ => z, fun b hb o z => ⟨o.slots, z⟩, by simp, ⟨0, hkI _ _ nfa.1⟩, ⟨0, hkI _ _ nma.1⟩, ⟨rfl, fun i k hk => ?_⟩, ⟨0, hkI _ _ nth.1⟩, by intro j x hx; simp at hx, Nat.le_refl _, by intro j x hx; simp at hx,
      hT.keeps stT fun b hb o z => hkI _ _ (hSA _ _ z), ⟨d, 0, inG _ _ nq.1 nq.2.1 (by omega) (by omega) (by omega) (by omega), inG _ _ nd.1 nd.2.1 (by omega) (by omega) (by omega) (by omega)⟩⟩⟩
  · rcases List.mem_append.mp hb with hb | hb
    · rcases List.mem_cons.mp hb with hb | hb
      · rw [hb]; exact hLs
      · have := hfro b hb; omega
    · rcases List.mem_append.mp hb with hb | hb
      · rcases toEq b hb with h | h | h <;> omega
      · have := htao b hb; omega
  · rcases List.mem_append.mp hb with hb | hb
    · have hb' := toEq b hb
      refine ⟨ml b (by rcases hb' with h | h | h <;> simp [h]), fun hm => ?_⟩
      have hbL : b ≠ L := by
        rcases hb' with h | h | h
        · rw [h]; exact nfa.2.1
        · rw [h]; exact nma.2.1
        · rw [h]; exact nth.2.1
      rcases List.mem_cons.mp hm with e | hm
      · exact hbL e
      · exact absurd (hfro b hm) (Nat.not_lt.mpr (Nat.le_of_lt (key b hb)))
    · exact ⟨mt b hb, tne b hb⟩
  · exact absurd (htao b hb) (Nat.not_lt.mpr (Nat.le_of_lt (key b hm)))
  · rcases i with _ | _ | _ | i
    · simp at hk; subst hk
      exact ⟨m1, t1, t2, 0, rfl, inG _ _ nm1.1 nm1.2.1 (by omega) (by omega) (by omega) (by omega)⟩
    · simp at hk; subst hk
      exact ⟨m2, t3, t4, 0, rfl, inG _ _ nm2.1 nm2.2.1 (by omega) (by omega) (by omega) (by omega)⟩
    · simp at hk; subst hk
      exact ⟨m3, t5, t6, 0, rfl, inG _ _ nm3.1 nm3.2.1 (by omega) (by omega) (by omega) (by omega)⟩
    · simp at hk
end
/-! ## _law_sixteen: helpers -/
section
abbrev scriptN : PySem.Str := Str.ofString "script"
abbrev st16 : List PySem.Str := [Str.ofString "t", Str.ofString "n", Str.ofString "v", Str.ofString "a", Str.ofString "mode", Str.ofString "k", Str.ofString "got"]
variable {w : World} {p : Program} {loose : List PySem.Str} {mean : ExcName → Option Value} {mg mb : PySem.Str → Option Value} {g₀ g₁ gT : Heap} {dp un : Nat} {fr : Option (List Env)} {gd : Option (List Code)} {l : List Env} {s : Shared} {R : Result → Shared → Prop}
  {sl : Addr} {vs : List Value} {ns : List Int} {nl : Nat}

/-- the state between two turns of the first loop -/
def J1 (g₀ hI : Heap) (s : Shared) (L : Addr) (m₀ : PySem.Str → Option Value) (fl fs xs : List Addr) (q fa ma th : Addr) (tx : Tok) (St : Nat → Heap → Prop) (i : Nat) (s' : Shared) : Prop :=
  ∃ (h : Heap) (tk : Nat) (u : PySem.Str → Option Value) (g : Heap) (mu : List Addr) (es : List Er) (tbs : List Addr) (mks tvs : List Value), s' = { s with heap := h, toks := tk } ∧ Inv g₀ hI fl fs xs q fa ma th tx i h g mu es tbs mks tvs ∧ tvs.length = es.length + 3 ∧ Fr g₀ L h (fun y => if st16.contains y then u y else m₀ y) ∧ St i h

theorem fmod_nat (x : Int) (m : Nat) (h : 0 < m) : ∃ k : Nat, x.fmod (m : Int) = (k : Int) ∧ k < m := by
  have h1 : (0 : Int) ≤ x.fmod (m : Int) := Int.fmod_nonneg_of_pos x (by omega)
  have h2 : x.fmod (m : Int) < (m : Int) := Int.fmod_lt_of_pos x (by omega)
  exact ⟨(x.fmod m).toNat, by omega, by omega⟩
theorem rest_news {L : Addr} {h h' : Heap} (hk : ∀ b o, h.get? b = some o → h'.get? b = some o) : News g₀ L h' ((restOf g₀ h).filter (fun z => z.1 != L)) := by
  rintro ⟨b, o⟩ hb
  obtain ⟨h1, h2⟩ := List.mem_filter.mp hb
  obtain ⟨h3, h4⟩ := mem_restOf.mp h1
  exact ⟨hk _ _ h4, by simpa using h2, h3⟩
theorem rest_keep {L : Addr} {h h' : Heap} {m : PySem.Str → Option Value} {nw : List (Addr × Obj)} (hg : g₀.StaysIn h) (F : Fr g₀ L h' m) (N : News g₀ L h' nw) (hn : ∀ z ∈ (restOf g₀ h).filter (fun z => z.1 != L), z ∈ nw) : ∀ b o, h.get? b = some o → b ≠ L → h'.get? b = some o := fun b o z hb => by
  cases y : g₀.get? b with
  | some o' => have := hg _ _ y; rw [z] at this; cases this; exact F.keep _ _ y
  | none => exact (N (b, o) (hn _ (List.mem_filter.mpr ⟨mem_restOf.mpr ⟨y, z⟩, by simpa using hb⟩))).1
theorem ints_at : ∀ {vs : List Value} {ns : List Int} {i : Nat} {x : Value}, IntsAre vs ns → vs[i]? = some x → ∃ n t, x = .int n t := by
  intro vs ns i x hi hx
  have hl : i < ns.length := by rw [← hi.length]; exact (List.getElem?_eq_some_iff.mp hx).1
  obtain ⟨t, ht⟩ := hi.get i ns[i] (by simp [hl])
  rw [hx] at ht
  exact ⟨_, t, Option.some.inj ht⟩
section
variable {hI h h₁ g : Heap} {fl xs mu : List Addr} {L I q fa ma th : Addr} {tx : Tok} {i j : Nat} {es : List Er} {tbs : List Addr} {mks tvs : List Value} {m : PySem.Str → Option Value}
theorem inv_wr (S : Stat hI fl (L :: fl) xs fa ma th) (V : Inv g₀ hI fl (L :: fl) xs q fa ma th tx i h g mu es tbs mks tvs) (hx : I + 1 ∈ xs ∧ I ∈ xs) (hlt : ∀ b : Nat, b ∈ (L :: fl) ++ ([fa, ma, th] ++ tabAt) → b < (I : Nat)) (hk : ∀ b o, b ∉ [I + 1, I] → h.get? b = some o → h₁.get? b = some o) (hE : ∃ o, h₁.get? (I + 1) = some o) (hIt : ∃ o, h₁.get? I = some o) :
    ∃ g', g.StaysIn g' ∧ Inv g₀ hI fl (L :: fl) xs q fa ma th tx i h₁ g' mu es tbs mks tvs := by
  have hne : ∀ b : Nat, b ∈ (L :: fl) ++ ([fa, ma, th] ++ tabAt) → b ∉ ([I + 1, I] : List Addr) := fun b hb hm => by
    have := hlt b hb
    have hm' : b = (I : Nat) + 1 ∨ b = (I : Nat) := by simpa using hm
    omega
  refine V.other (S := [I + 1, I]) (fun b o z hb => hk b o hb z) (fun b hb => ?_) fun b hb => ?_
  · have hbx : b ∈ xs := by
      rcases List.mem_cons.mp hb with rfl | hb
      · exact hx.1
      · rcases List.mem_singleton.mp hb with rfl; exact hx.2
    refine ⟨hbx, fun hm => ?_, fun hm => hne b (List.mem_append_left _ (.tail _ hm)) hb, fun hm => hne b (List.mem_append_right _ hm) hb, ?_⟩
    · obtain ⟨o, z⟩ := S.xl b hbx
      rw [V.esn b hm] at z; cases z
    · rcases List.mem_cons.mp hb with rfl | hb
      · exact hE
      · rcases List.mem_singleton.mp hb with rfl; exact hIt
  · obtain ⟨_, o, ds, n, z, y⟩ := V.bk.frm b hb
    exact ⟨o, ds, n, hk b o (hne b (List.mem_append_left _ hb)) z, y⟩
theorem g0_none (V : Inv g₀ hI fl (L :: fl) xs q fa ma th tx i h g mu es tbs mks tvs) {b : Addr} (hb : b ∈ xs) : g₀.get? b = none := by
  cases z : g₀.get? b with
  | none => rfl
  | some o => have h1 := V.bk.base _ _ z; rw [V.bk.off b (List.mem_append_left _ (V.xmu b hb))] at h1; cases h1
theorem inv_L (S : Stat hI fl (L :: fl) xs fa ma th) (V : Inv g₀ hI fl (L :: fl) xs q fa ma th tx i h g mu es tbs mks tvs) (F : Fr g₀ L h₁ m) (hLf : L ∉ fl) (hk : ∀ b o, h.get? b = some o → b ≠ L → h₁.get? b = some o) :
    ∃ g', g.StaysIn g' ∧ Inv g₀ hI fl (L :: fl) xs q fa ma th tx i h₁ g' mu es tbs mks tvs := by
  obtain ⟨oL, dsL, nL, zL, yL, _⟩ := F.ns
  refine V.other (S := [L]) (fun b o z hb => hk b o z (by simpa using hb)) (fun b hb => ?_) fun b hb => ?_
  · rcases List.mem_singleton.mp hb with rfl
    have hbx : b ∈ xs := S.fx b (.head _)
    refine ⟨hbx, fun hm => ?_, hLf, fun hm => (S.inx b hm).2 (.head _), ⟨oL, zL⟩⟩
    obtain ⟨o, z⟩ := S.xl b hbx
    rw [V.esn b hm] at z; cases z
  · by_cases hbL : b = L
    · subst hbL; exact ⟨oL, dsL, nL, zL, yL⟩
    · obtain ⟨_, o, ds, n, z, y⟩ := V.bk.frm b hb
      exact ⟨o, ds, n, hk b o z hbL, y⟩
theorem inv_th {tvs' : List Value} {n' : Nat} (S : Stat hI fl (L :: fl) xs fa ma th) (V : Inv g₀ hI fl (L :: fl) xs q fa ma th tx i h g mu es tbs mks tvs) (hk : ∀ b o, h.get? b = some o → b ≠ th → h₁.get? b = some o) (hth : h₁.get? th = some (listOf tvs'.toArray n')) (hr : ∃ r, tvs' = tvs ++ r) :
    ∃ g', Grew g h h₁ g' ∧ Inv g₀ hI fl (L :: fl) xs q fa ma th tx i h₁ g' mu es tbs mks tvs' := by
  have hx := S.inx th (by simp)
  have hes : ∀ b ∈ xs, b ∉ es.map (·.e) ++ tbs := fun b hb hm => by
    obtain ⟨o, z⟩ := S.xl b hb
    rw [V.esn b hm] at z; cases z
  obtain ⟨K', st⟩ := V.bk.step (h' := h₁) [th] [] (fun b o z hb => hk b o z (by simpa using hb)) (fun b hb => by
      rcases List.mem_singleton.mp hb with rfl
      exact ⟨V.xmu _ hx.1, hes _ hx.1, _, hth⟩)
    (fun b hb => by
      obtain ⟨_, o, ds, n, z, y⟩ := V.bk.frm b hb
      exact ⟨o, ds, n, hk b o z fun e => hx.2 (e ▸ hb), y⟩) (by simp)
  obtain ⟨r, rfl⟩ := hr
  refine ⟨_, ⟨st, fun b o z y => hideAll_get _ z (V.bk.new_off y).1⟩, K', V.xmu, fun b o z hb => hk b o (V.kept b o z hb) fun e => hb (e ▸ hx.1), fun b hb o z => ?_, V.esn, ?_, ?_, V.mok.keeps st, ⟨n', hth⟩, fun j x hj => ?_, V.len, V.dep, V.tab.keeps st fun b hb o z => hk b o z fun e => S.n4 b hb (by simp [e]), ?_⟩
  · obtain ⟨sl, y⟩ := V.frs b hb o z
    exact ⟨sl, hk b _ y fun e => hx.2 (e ▸ S.lf b hb)⟩
  · obtain ⟨n, z⟩ := V.fam; exact ⟨n, hk _ _ z S.n2⟩
  · obtain ⟨n, z⟩ := V.mak; exact ⟨n, hk _ _ z S.n3⟩
  · obtain ⟨v, z1, z2⟩ := V.tok j x hj
    exact ⟨v, by rw [List.getElem?_append_left (List.getElem?_eq_some_iff.mp z1).1]; exact z1, z2.keeps fun b _ _ _ z => st b _ z⟩
  · obtain ⟨d, n, z1, z2⟩ := V.pob; exact ⟨d, n, st _ _ z1, st _ _ z2⟩
theorem fr_norm {m₀ : PySem.Str → Option Value} (F : Fr g₀ L h m) (hm : ∀ y, st16.contains y = false → m y = m₀ y) : Fr g₀ L h (fun y => if st16.contains y then m y else m₀ y) := by
  have : (fun y => if st16.contains y then m y else m₀ y) = m := by
    funext y
    cases hy : st16.contains y with
    | true => simp
    | false => simp only [Bool.false_eq_true, if_false]; exact (hm y hy).symm
  rw [this]; exact F
theorem not_st {y : PySem.Str} (hy : st16.contains y = false) : y ≠ Str.ofString "t" ∧ y ≠ Str.ofString "n" ∧ y ≠ Str.ofString "v" ∧ y ≠ Str.ofString "a" ∧ y ≠ Str.ofString "mode" ∧ y ≠ Str.ofString "k" ∧ y ≠ Str.ofString "got" := by
  have h : ¬ y ∈ st16 := fun hm => by rw [List.contains_iff_mem.mpr hm] at hy; cases hy
  simpa [st16] using h
theorem Inv.off_es (S : Stat hI fl (L :: fl) xs fa ma th) (V : Inv g₀ hI fl (L :: fl) xs q fa ma th tx i h g mu es tbs mks tvs) {b : Addr} (hb : b ∈ xs) : b ∉ es.map (·.e) ++ tbs := fun hm => by
  obtain ⟨o, z⟩ := S.xl b hb
  rw [V.esn b hm] at z; cases z
theorem Inv.next (V : Inv g₀ hI fl (L :: fl) xs q fa ma th tx i h g mu es tbs mks tvs) : Inv g₀ hI fl (L :: fl) xs q fa ma th tx (i + 1) h g mu es tbs mks tvs := { V with len := Nat.le_succ_of_le V.len }
theorem fr_wr (F : Fr g₀ L h m) (V : Inv g₀ hI fl (L :: fl) xs q fa ma th tx i h g mu es tbs mks tvs) (hx : I + 1 ∈ xs ∧ I ∈ xs) (hlt : ∀ b : Nat, b ∈ (L :: fl) ++ ([fa, ma, th] ++ tabAt) → b < (I : Nat)) (hk : ∀ b o, b ∉ [I + 1, I] → h.get? b = some o → h₁.get? b = some o) : Fr g₀ L h₁ m := by
  have hL : (L : Nat) < I := hlt L (.head _)
  have hLn : L ∉ ([I + 1, I] : List Addr) := fun hm => by
    have hm' : (L : Nat) = (I : Nat) + 1 ∨ (L : Nat) = (I : Nat) := by simpa using hm
    have : (L : Nat) < (I : Nat) := hL
    rcases hm' with h | h
    · exact absurd (h ▸ this) (by simp)
    · exact absurd (h ▸ this) (by simp)
  refine ⟨F.ns.at' fun o e => hk _ o hLn e, fun b o z => hk b o (fun hm => ?_) (F.keep b o z), F.above⟩
  have hbx : b ∈ xs := by
    rcases List.mem_cons.mp hm with rfl | hm
    · exact hx.1
    · rcases List.mem_singleton.mp hm with rfl; exact hx.2
  have h1 := V.bk.base _ _ z
  rw [V.bk.off b (List.mem_append_left _ (V.xmu b hbx))] at h1; cases h1
end

end
section
variable {g₀ hI h h₁ g : Heap} {fl xs mu : List Addr} {L I q fa ma th e t T mt : Addr} {tx : Tok} {i j n3 n1 : Nat} {es : List Er} {tbs : List Addr} {mks tvs : List Value} {m : PySem.Str → Option Value} {v dv : Value} {D : Due} {kd : Kd} {dd : Option Addr} {t1 t2 : Tok} {nt : Nat}
theorem MkOf.app {x : Er} (y : MkOf g es kd v) : MkOf g (es ++ [x]) kd v := by
  have up : ∀ (j : Nat) z, es[j]? = some z → (es ++ [x])[j]? = some z := fun j z hz => by rw [List.getElem?_append_left (List.getElem?_eq_some_iff.mp hz).1]; exact hz
  cases kd with
  | none_ => exact y
  | cls => exact y
  | tag t => exact y
  | carry i => obtain ⟨j, z, e, hz, c⟩ := y; exact ⟨j, z, e, up j z hz, c⟩
  | again i => obtain ⟨j, z, e, hz, c⟩ := y; exact ⟨j, z, e, up j z hz, c⟩
theorem DictIs.app {x : Er} (y : DictIs g es kd dd) : DictIs g (es ++ [x]) kd dd := by
  rcases y with y | ⟨d, hs, tk, n, v, e, ho, m⟩
  · exact .inl y
  · exact .inr ⟨d, hs, tk, n, v, e, ho, m.app⟩
theorem app_cases {α : Type} {l : List α} {a b : α} {j : Nat} (h : (l ++ [a])[j]? = some b) : l[j]? = some b ∨ (j = l.length ∧ b = a) := by
  by_cases hj : j < l.length
  · rw [List.getElem?_append_left hj] at h; exact .inl h
  · have hlt := (List.getElem?_eq_some_iff.mp h).1
    rw [List.length_append, List.length_singleton] at hlt
    have : j = l.length := by omega
    subst this
    rw [List.getElem?_append_right (Nat.le_refl _), Nat.sub_self] at h
    exact .inr ⟨rfl, (Option.some.inj h).symm⟩
/-- the new error joins the family -/
theorem inv_add (S : Stat hI fl (L :: fl) xs fa ma th) (V : Inv g₀ hI fl (L :: fl) xs q fa ma th tx i h g mu es tbs mks (tvs ++ [dv])) (htl : tvs.length = es.length + 3) (hi : es.length ≤ i)
    (hN : NewEr g h es tbs e t T D v) (hem : e ∈ mu) (hTm : T ∈ mu) (heI : hI.get? e = none) (hTI : hI.get? T = none) (hDd : D.deep ≤ es.length + 1) (hdv : Rep g D dv) (hLf : L ∉ fl)
    (hk : ∀ b o, h.get? b = some o → b ∉ [L, ma, fa, e] ++ tabAt → h₁.get? b = some o) (hL : ∃ o ds n, h₁.get? L = some o ∧ o.data = .dict ds n) (he : h₁.get? e = some (uo dd t (.ref T)))
    (hfa : h₁.get? fa = some (listOf (famOf q (Str.ofString "x") tx es ++ [Value.ref e]).toArray n3)) (hma : h₁.get? ma = some (listOf (mks ++ [Value.ref mt]).toArray n1))
    (hg : ∀ g', Grew g h h₁ g' → g'.get? mt = some (tupOf #[.str kd.name t1, .int kd.arg t2] nt) ∧ Tabs g' h₁ ∧ DictIs g' (es ++ [⟨e, t, kd, D⟩]) kd dd) :
    ∃ g' mu', g.StaysIn g' ∧ Inv g₀ hI fl (L :: fl) xs q fa ma th tx (i + 1) h₁ g' mu' (es ++ [⟨e, t, kd, D⟩]) (tbs ++ [T]) (mks ++ [.ref mt]) (tvs ++ [dv]) := by
  have hxe : ∀ b ∈ xs, b ≠ e := fun b hb z => by obtain ⟨o, y⟩ := S.xl b hb; rw [z, heI] at y; cases y
  have hxT : ∀ b ∈ xs, b ≠ T := fun b hb z => by obtain ⟨o, y⟩ := S.xl b hb; rw [z, hTI] at y; cases y
  have hxs : ∀ b ∈ xs, b ∉ es.map (·.e) ++ tbs := fun b hb => V.off_es S hb
  have inx : ∀ b ∈ [L, ma, fa] ++ tabAt, b ∈ xs := fun b hb => by
    rcases List.mem_append.mp hb with hb | hb
    · simp only [List.mem_cons, List.not_mem_nil, or_false] at hb
      rcases hb with rfl | rfl | rfl
      · exact S.fx _ (.head _)
      · exact (S.inx _ (by simp)).1
      · exact (S.inx _ (by simp)).1
    · exact (S.inx _ (List.mem_append_right _ hb)).1
  have nin : ∀ b, b ∉ [L, ma, fa] ++ tabAt → b ≠ e → b ∉ [L, ma, fa, e] ++ tabAt := fun b h1 h2 hm => by
    rcases List.mem_append.mp hm with hm | hm
    · simp only [List.mem_cons, List.not_mem_nil, or_false] at hm
      rcases hm with z | z | z | z
      · exact h1 (by simp [z])
      · exact h1 (by simp [z])
      · exact h1 (by simp [z])
      · exact h2 z
    · exact h1 (List.mem_append_right _ hm)
  -- what lies in the old ghost stays
  have gk : ∀ b o, g.get? b = some o → h₁.get? b = some o := fun b o z => hk b o (V.bk.stays _ _ z) (nin b (fun hm => by rw [V.bk.off b (List.mem_append_left _ (V.xmu b (inx b hm)))] at z; cases z) fun y => by rw [y, V.bk.off e (List.mem_append_left _ hem)] at z; cases z)
  have st : g.StaysIn (hideAll h₁ (mu ++ tbs)) := fun b o z => hideAll_get _ (gk b o z) fun hm => by rw [V.bk.off b hm] at z; cases z
  have gr : Grew g h h₁ (hideAll h₁ (mu ++ tbs)) := ⟨st, fun b o z y => hideAll_get _ z (V.bk.new_off y).1⟩
  obtain ⟨hmt, htabs, hdic⟩ := hg _ gr
  have hT1 : h₁.get? T ≠ none ∧ ∀ o, h.get? T = some o → h₁.get? T = some o := by
    obtain ⟨oT, ts, z, _⟩ := hN.tb
    have k : ∀ o, h.get? T = some o → h₁.get? T = some o := fun o z => hk T o z (nin T (fun hm => hxT T (inx T hm) rfl) hN.ne)
    exact ⟨fun y => (by rw [k _ z] at y; cases y), k⟩
  have ke : ∀ b ∈ es.map (·.e) ++ tbs, ∀ o, h.get? b = some o → h₁.get? b = some o := fun b hb o z => hk b o z (nin b (fun hm => hxs b (inx b hm) hb) fun y => hN.offE (y ▸ hb))
  have live : ∀ b ∈ mu ++ tbs, ∃ o, h₁.get? b = some o := fun b hb => by
    by_cases h1 : b ∈ [L, ma, fa, e] ++ tabAt
    · rcases List.mem_append.mp h1 with h1 | h1
      · simp only [List.mem_cons, List.not_mem_nil, or_false] at h1
        rcases h1 with rfl | rfl | rfl | rfl
        · obtain ⟨o, _, _, z, _⟩ := hL; exact ⟨o, z⟩
        · exact ⟨_, hma⟩
        · exact ⟨_, hfa⟩
        · exact ⟨_, he⟩
      · simp only [tabAt, List.mem_cons, List.not_mem_nil, or_false] at h1
        rcases h1 with rfl | rfl | rfl
        · rcases htabs.1 with z | ⟨c, z, _⟩ <;> exact ⟨_, z⟩
        · rcases htabs.2.1 with z | ⟨c, z, _⟩ <;> exact ⟨_, z⟩
        · rcases htabs.2.2 with z | ⟨c, z, _⟩ <;> exact ⟨_, z⟩
    · obtain ⟨o, z⟩ := V.bk.live b hb; exact ⟨o, hk b o z h1⟩
  have sub : ∀ b ∈ mu.filter (fun b => b != T) ++ (tbs ++ [T]), b ∈ mu ++ tbs := fun b hb => by
    rcases List.mem_append.mp hb with hb | hb
    · exact List.mem_append_left _ (List.mem_filter.mp hb).1
    · rcases List.mem_append.mp hb with hb | hb
      · exact List.mem_append_right _ hb
      · exact List.mem_append_left _ (List.mem_singleton.mp hb ▸ hTm)
  have inm : ∀ b ∈ mu, b ≠ T → b ∈ mu.filter (fun b => b != T) := fun b hb hne => List.mem_filter.mpr ⟨hb, by simpa using hne⟩
  have fsx : ∀ b ∈ L :: fl, b ≠ L → b ∉ [L, ma, fa, e] ++ tabAt := fun b hb hbL => nin b (fun hm => by
    rcases List.mem_append.mp hm with hm | hm
    · simp only [List.mem_cons, List.not_mem_nil, or_false] at hm
      rcases hm with z | z | z
      · exact hbL z
      · exact (S.inx ma (by simp)).2 (z ▸ hb)
      · exact (S.inx fa (by simp)).2 (z ▸ hb)
    · exact (S.inx b (List.mem_append_right _ hm)).2 hb) (hxe b (S.fx b hb))
  have thx : th ∉ [L, ma, fa, e] ++ tabAt := by
    have hx := S.inx th (by simp)
    refine nin th (fun hm => ?_) (hxe th hx.1)
    rcases List.mem_append.mp hm with hm | hm
    · simp only [List.mem_cons, List.not_mem_nil, or_false] at hm
      rcases hm with z | z | z
      · exact hx.2 (z ▸ .head _)
      · exact S.n3 z.symm
      · exact S.n2 z.symm
    · exact S.n4 th hm (by simp)
  have nd := List.nodup_append.mp V.bk.nodup
  refine ⟨_, mu.filter (fun b => b != T), st, ⟨⟨fun b o z => st b o (V.bk.base b o z), fun b o z => of_hideAll _ z, fun b hb => hideAll_none _ (sub b hb), fun b hb => live b (sub b hb), fun b hb => ⟨inm b (V.bk.frm b hb).1 (hxT b (S.fx b hb)), ?_⟩, by simp [V.bk.len], ?_, fun b hb => ?_, fun b hb hm => ?_, fun j y U hy hU => ?_⟩,
    fun b hb => inm b (V.xmu b hb) (hxT b hb), fun b o z hb => hk b o (V.kept b o z hb) (nin b (fun hm => hb (inx b hm)) fun y => by rw [y, heI] at z; cases z), fun b hb o z => ?_, fun b hb => ?_, ⟨n3, ?_⟩, ⟨n1, hma⟩, ?_, ?_, fun j y hy => ?_, ?_, fun j y hy => ?_, htabs, ?_⟩⟩
  · by_cases hbL : b = L
    · rw [hbL]; exact hL
    · obtain ⟨_, o, ds, n, z, y⟩ := V.bk.frm b hb
      exact ⟨o, ds, n, hk b o z (fsx b hb hbL), y⟩
  · rw [List.map_append]
    refine List.nodup_append.mpr ⟨List.nodup_append.mpr ⟨nd.1, by simp, fun a ha b hb z => ?_⟩, List.nodup_append.mpr ⟨nd.2.1, by simp, fun a ha b hb z => ?_⟩, fun a ha b hb z => ?_⟩
    · have hb' : b = e := by simpa using hb
      exact hN.offE (List.mem_append_left _ (by rw [← hb', ← z]; exact ha))
    · have hb' : b = T := by simpa using hb
      exact hN.offT (List.mem_append_right _ (by rw [← hb', ← z]; exact ha))
    · subst z
      rcases List.mem_append.mp ha with ha | ha <;> rcases List.mem_append.mp hb with hb | hb
      · exact nd.2.2 _ ha _ hb rfl
      · have hb' : a = T := by simpa using hb
        exact hN.offT (List.mem_append_left _ (hb' ▸ ha))
      · have ha' : a = e := by simpa using ha
        exact hN.offE (List.mem_append_right _ (ha' ▸ hb))
      · have ha' : a = e := by simpa using ha
        have hb' : a = T := by simpa using hb
        exact hN.ne (hb'.symm.trans ha')
  · rw [List.map_append] at hb
    rcases List.mem_append.mp hb with hb | hb
    · exact inm b (V.bk.mem b hb) fun z => hN.offT (List.mem_append_left _ (z ▸ hb))
    · have hb' : b = e := by simpa using hb
      exact hb' ▸ inm e hem hN.ne.symm
  · obtain ⟨h1, h2⟩ := List.mem_filter.mp hm
    rcases List.mem_append.mp hb with hb | hb
    · exact V.bk.apart b hb h1
    · rw [List.mem_singleton.mp hb] at h2; simp at h2
  · rcases app_cases hy with hy | ⟨rfl, rfl⟩
    · have hj : j < tbs.length := by rw [V.bk.len]; exact (List.getElem?_eq_some_iff.mp hy).1
      rw [List.getElem?_append_left hj] at hU
      obtain ⟨dd₁, v₁, er⟩ := V.bk.at_ j y U hy hU
      have er' := er.keeps (h' := h₁) st (ke _ (List.mem_append_left _ (List.mem_map_of_mem (List.mem_of_getElem? hy)))) (ke _ (List.mem_append_right _ (List.mem_of_getElem? hU)))
      exact ⟨dd₁, v₁, er'.obj, er'.tb, er'.arg, er'.rep, er'.dic.app⟩
    · rw [← V.bk.len] at hU
      rcases app_cases hU with hU | ⟨_, rfl⟩
      · exact absurd (List.getElem?_eq_some_iff.mp hU).1 (Nat.lt_irrefl _)
      · obtain ⟨oT, ts, z1, z2, z3⟩ := hN.tb
        exact ⟨dd, v, he, ⟨oT, ts, hT1.2 _ z1, z2, z3⟩, ⟨0, st _ _ hN.arg⟩, hN.rep.keeps fun b _ _ _ z => st b _ z, hdic⟩
  · obtain ⟨sl, y⟩ := V.frs b hb o z
    exact ⟨sl, hk b _ y (fsx b (.tail _ hb) fun e => hLf (e ▸ hb))⟩
  · rw [List.map_append] at hb
    rcases List.mem_append.mp hb with hb | hb <;> rcases List.mem_append.mp hb with hb | hb
    · exact V.esn b (List.mem_append_left _ hb)
    · have hb' : b = e := by simpa using hb
      rw [hb']; exact heI
    · exact V.esn b (List.mem_append_right _ hb)
    · rw [List.mem_singleton.mp hb]; exact hTI
  · have : famOf q (Str.ofString "x") tx (es ++ [⟨e, t, kd, D⟩]) = famOf q (Str.ofString "x") tx es ++ [Value.ref e] := by simp [famOf]
    rw [this]; exact hfa
  · have hkd : kdsOf (es ++ [⟨e, t, kd, D⟩]) = kdsOf es ++ [kd] := by simp [kdsOf]
    rw [hkd]
    refine ⟨by rw [List.length_append, List.length_append, V.mok.1]; rfl, fun j k hj => ?_⟩
    rcases app_cases hj with hj | ⟨rfl, rfl⟩
    · obtain ⟨mt', t1', t2', n', z1, z2⟩ := V.mok.2 j k hj
      exact ⟨mt', t1', t2', n', by rw [List.getElem?_append_left (List.getElem?_eq_some_iff.mp z1).1]; exact z1, st _ _ z2⟩
    · exact ⟨mt, t1, t2, nt, by rw [← V.mok.1, List.getElem?_append_right (Nat.le_refl _), Nat.sub_self]; rfl, hmt⟩
  · obtain ⟨n, z⟩ := V.thi; exact ⟨n, hk _ _ z thx⟩
  · rcases app_cases hy with hy | ⟨rfl, rfl⟩
    · obtain ⟨v', z1, z2⟩ := V.tok j y hy
      exact ⟨v', z1, z2.keeps fun b _ _ _ z => st b _ z⟩
    · exact ⟨dv, by rw [← htl, List.getElem?_append_right (Nat.le_refl _), Nat.sub_self]; rfl, hdv.keeps fun b _ _ _ z => st b _ z⟩
  · rw [List.length_append]; exact Nat.succ_le_succ hi
  · rcases app_cases hy with hy | ⟨rfl, rfl⟩
    · exact V.dep j y hy
    · exact hDd
  · obtain ⟨d, n, z1, z2⟩ := V.pob; exact ⟨d, n, st _ _ z1, st _ _ z2⟩

/-- the state when a new error has got its maker -/
def Moded (g₀ h g : Heap) (s : Shared) (L ma e t T : Addr) (M : PySem.Str → Option Value) (mks : List Value) (es : List Er) (D : Due) (s' : Shared) : Prop :=
  ∃ (h' : Heap) (tk' : Nat) (dd : Option Addr) (mt : Addr) (t1 t2 : Tok) (nt n1 : Nat) (kd : Kd), s' = { s with heap := h', toks := tk' } ∧ Fr g₀ L h' M ∧ (∀ b o, h.get? b = some o → b ∉ [L, ma, e] ++ tabAt → h'.get? b = some o) ∧ h'.get? e = some (uo dd t (.ref T)) ∧
    h'.get? ma = some (listOf (mks ++ [Value.ref mt]).toArray n1) ∧ ∀ g', Grew g h h' g' → g'.get? mt = some (tupOf #[.str kd.name t1, .int kd.arg t2] nt) ∧ Tabs g' h' ∧ DictIs g' (es ++ [⟨e, t, kd, D⟩]) kd dd
end
section
variable {g₀ hI hA h h₁ g : Heap} {fl fs xs xs' mu : List Addr} {L q fa ma th : Addr} {tx : Tok} {i : Nat} {es : List Er} {tbs : List Addr} {mks tvs : List Value}
/-- some marked things change, some new ones are marked -/
theorem Inv.step (V : Inv g₀ hI fl fs xs q fa ma th tx i h g mu es tbs mks tvs) (S new : List Addr) (hk : ∀ b o, h.get? b = some o → b ∉ S → h₁.get? b = some o)
    (hS : ∀ b ∈ S, b ∈ mu ∧ (b ∈ xs ∨ hI.get? b = none) ∧ b ∉ es.map (·.e) ++ tbs ∧ b ∉ fl ∧ b ∉ [fa, ma, th] ++ tabAt ∧ ∃ o, h₁.get? b = some o)
    (hf : ∀ b ∈ fs, ∃ o es n, h₁.get? b = some o ∧ o.data = .dict es n) (hn : ∀ b ∈ new, h.get? b = none ∧ ∃ o, h₁.get? b = some o) :
    ∃ g', g.StaysIn g' ∧ Inv g₀ hI fl fs xs q fa ma th tx i h₁ g' (new ++ mu) es tbs mks tvs := by
  obtain ⟨K', st⟩ := V.bk.step (h' := h₁) S new hk (fun b hb => ⟨(hS b hb).1, (hS b hb).2.2.1, (hS b hb).2.2.2.2.2⟩) hf fun b hb => ⟨(V.bk.new_off (hn b hb).1).2, fun hm => (V.bk.new_off (hn b hb).1).1 (List.mem_append_right _ hm), (hn b hb).2⟩
  have kp : ∀ b ∈ [fa, ma, th] ++ tabAt, ∀ o, h.get? b = some o → h₁.get? b = some o := fun b hb o z => hk b o z fun hs => (hS b hs).2.2.2.2.1 hb
  refine ⟨_, st, K', fun b hb => List.mem_append_right _ (V.xmu b hb), fun b o z hx => hk b o (V.kept b o z hx) fun hs => (hS b hs).2.1.elim hx fun y => (by rw [y] at z; cases z), fun b hb o z => ?_, V.esn, ?_, ?_, V.mok.keeps st, ?_, V.tok.keeps st, V.len, V.dep, V.tab.keeps st fun b hb => kp b (List.mem_append_right _ hb), ?_⟩
  · obtain ⟨sl, y⟩ := V.frs b hb o z
    exact ⟨sl, hk b _ y fun hs => (hS b hs).2.2.2.1 hb⟩
  · obtain ⟨n, z⟩ := V.fam; exact ⟨n, kp _ (by simp) _ z⟩
  · obtain ⟨n, z⟩ := V.mak; exact ⟨n, kp _ (by simp) _ z⟩
  · obtain ⟨n, z⟩ := V.thi; exact ⟨n, kp _ (by simp) _ z⟩
  · obtain ⟨d, n, z1, z2⟩ := V.pob; exact ⟨d, n, st _ _ z1, st _ _ z2⟩
/-- marked things are given up -/
theorem Inv.drop (V : Inv g₀ hI fl fs xs q fa ma th tx i h g mu es tbs mks tvs) (S : List Addr) (hlf : ∀ b ∈ fl, b ∈ fs) (hkA : ∀ b o, hA.get? b = some o → hI.get? b = some o) (hk : ∀ b o, b ∉ S → h.get? b = some o → h₁.get? b = some o)
    (hx : ∀ b ∈ xs, b ∈ xs' ∨ b ∈ S) (hx' : ∀ b ∈ xs', b ∈ xs) (hS : ∀ b ∈ S, b ∈ mu ∧ b ∉ es.map (·.e) ∧ b ∉ fs ∧ b ∉ [fa, ma, th] ++ tabAt ∧ hA.get? b = none ∧ b ∉ xs') :
    ∃ mu', Inv g₀ hA fl fs xs' q fa ma th tx i h₁ g mu' es tbs mks tvs := by
  have inm : ∀ b ∈ mu, b ∉ S → b ∈ mu.filter (fun b => !S.contains b) := fun b hb hs => List.mem_filter.mpr ⟨hb, by simpa using hs⟩
  have ouT : ∀ b ∈ tbs, b ∉ S := fun b hb hs => V.bk.apart b hb (hS b hs).1
  have sub : ∀ b ∈ mu.filter (fun b => !S.contains b) ++ tbs, b ∈ mu ++ tbs ∧ b ∉ S := fun b hb => by
    rcases List.mem_append.mp hb with hb | hb
    · obtain ⟨h1, h2⟩ := List.mem_filter.mp hb
      exact ⟨List.mem_append_left _ h1, by simpa using h2⟩
    · exact ⟨List.mem_append_right _ hb, ouT b hb⟩
  have ouE : ∀ b ∈ es.map (·.e), b ∉ S := fun b hb hs => (hS b hs).2.1 hb
  have gS : ∀ b o, g.get? b = some o → b ∉ S := fun b o z hs => by rw [V.bk.off b (List.mem_append_left _ (hS b hs).1)] at z; cases z
  have kp : ∀ b ∈ [fa, ma, th] ++ tabAt, ∀ o, h.get? b = some o → h₁.get? b = some o := fun b hb o z => hk b o (fun hs => (hS b hs).2.2.2.1 hb) z
  refine ⟨mu.filter (fun b => !S.contains b), ⟨V.bk.base, fun b o z => hk b o (gS b o z) (V.bk.stays b o z), fun b hb => V.bk.off b (sub b hb).1, fun b hb => ?_, fun b hb => ⟨inm b (V.bk.frm b hb).1 fun hs => (hS b hs).2.2.1 hb, ?_⟩, V.bk.len, V.bk.nodup, fun b hb => inm b (V.bk.mem b hb) (ouE b hb), fun b hb hm => V.bk.apart b hb (List.mem_filter.mp hm).1, fun j x T hx hT => ?_⟩,
    fun b hb => inm b (V.xmu b (hx' b hb)) fun hs => (hS b hs).2.2.2.2.2 hb, fun b o z hb => ?_, fun b hb o z => ?_, fun b hb => ?_, ?_, ?_, V.mok, ?_, V.tok, V.len, V.dep, V.tab.keeps (fun _ _ z => z) fun b hb => kp b (List.mem_append_right _ hb), V.pob⟩
  · obtain ⟨o, z⟩ := V.bk.live b (sub b hb).1
    exact ⟨o, hk b o (sub b hb).2 z⟩
  · obtain ⟨_, o, ds, n, z, y⟩ := V.bk.frm b hb
    exact ⟨o, ds, n, hk b o (fun hs => (hS b hs).2.2.1 hb) z, y⟩
  · obtain ⟨dd, v, q⟩ := V.bk.at_ j x T hx hT
    exact ⟨dd, v, q.keeps (fun _ _ z => z) (fun o z => hk _ o (ouE _ (List.mem_map_of_mem (List.mem_of_getElem? hx))) z) fun o z => hk _ o (ouT _ (List.mem_of_getElem? hT)) z⟩
  · have hbS : b ∉ S := fun hs => by rw [(hS b hs).2.2.2.2.1] at z; cases z
    exact hk b o hbS (V.kept b o (hkA b o z) fun hm => (hx b hm).elim hb hbS)
  · obtain ⟨sl, y⟩ := V.frs b hb o (hkA b o z)
    exact ⟨sl, hk b _ (fun hs => (hS b hs).2.2.1 (hlf b hb)) y⟩
  · cases z : hA.get? b with
    | none => rfl
    | some o => have := hkA b o z; rw [V.esn b hb] at this; cases this
  · obtain ⟨n, z⟩ := V.fam; exact ⟨n, kp _ (by simp) _ z⟩
  · obtain ⟨n, z⟩ := V.mak; exact ⟨n, kp _ (by simp) _ z⟩
  · obtain ⟨n, z⟩ := V.thi; exact ⟨n, kp _ (by simp) _ z⟩
end
section
variable {g₀ h g h₈ h₉ : Heap} {s : Shared} {L ma fa th e t T mt : Addr} {M : PySem.Str → Option Value} {mks : List Value} {es : List Er} {D : Due} {n1 nt : Nat} {dd : Option Addr} {t1 t2 : Tok} {kd : Kd}
theorem moded_app (F : Fr g₀ L h₈ M) (hs : Heap.SameBut ma h₈ h₉) (ho : h₉.get? ma = some (listOf (mks.toArray.push (.ref mt)) n1)) (kp : ∀ b o, h.get? b = some o → b ∉ [L, e] ++ tabAt → h₈.get? b = some o) (hmL : ma ≠ L) (hme : ma ≠ e) (hg0 : g₀.get? ma = none) (hmt : ma ∉ tabAt) (hm7 : h.get? ma ≠ none)
    (he : h₈.get? e = some (uo dd t (.ref T))) (hD : ∀ g', Grew g h h₈ g' → g'.get? mt = some (tupOf #[.str kd.name t1, .int kd.arg t2] nt) ∧ Tabs g' h₈ ∧ DictIs g' (es ++ [⟨e, t, kd, D⟩]) kd dd) (tk : Nat) :
    Moded g₀ h g s L ma e t T M mks es D { s with heap := h₉, toks := tk } := by
  refine ⟨h₉, tk, dd, mt, t1, t2, nt, n1, kd, rfl, ⟨F.ns.at' fun o z => (hs.2 L (Ne.symm hmL)).trans z, fun b o z => (hs.2 b fun y => by rw [y, hg0] at z; cases z).trans (F.keep b o z), F.above⟩, fun b o z hb => ?_, (hs.2 e (Ne.symm hme)).trans he, ?_, fun g' gr => ?_⟩
  · rw [hs.2 b fun y => hb (by simp [y])]
    refine kp b o z fun hm => hb ?_
    rcases List.mem_append.mp hm with hm | hm
    · exact List.mem_append_left _ (by simp only [List.mem_cons, List.not_mem_nil, or_false] at hm ⊢; rcases hm with hm | hm <;> simp [hm])
    · exact List.mem_append_right _ hm
  · rw [ho]; simp
  · obtain ⟨h1, h2, h3⟩ := hD g' ⟨gr.1, fun b o z y => gr.2 b o ((hs.2 b fun e => hm7 (e ▸ y)).trans z) y⟩
    exact ⟨h1, h2.keeps (fun _ _ z => z) (fun b hb o z => (hs.2 b fun e => hmt (e ▸ hb)).trans z), h3⟩
/-- what lies on no heap before a segment -/
theorem fresh_of {nw : List (Addr × Obj)} {b : Nat} (hnw : nw = (restOf g₀ h).filter (fun z => z.1 != L)) (hlt : AllLt b nw) (hb : b ≠ L) (hg : g₀.get? b = none) : h.get? b = none := by
  cases z : h.get? b with
  | none => rfl
  | some o =>
    have hm : (b, o) ∈ nw := by rw [hnw]; exact List.mem_filter.mpr ⟨mem_restOf.mpr ⟨hg, z⟩, by simpa using hb⟩
    exact absurd (kst_ltOf hlt _ hm) (Nat.lt_irrefl _)
end
section
variable {g₀ h g ha hb h₈ h₉ : Heap} {s : Shared} {L ma fa th e t T mt f d P : Addr} {M : PySem.Str → Option Value} {mks : List Value} {es : List Er} {D : Due} {n1 nt : Nat} {t1 t2 tu : Tok} {kd : Kd} {oe : Obj} {hs : Int}
theorem tabs_live (hT : Tabs g h) {b : Addr} (hb : b ∈ tabAt) : ∃ o, h.get? b = some o := by
  simp only [tabAt, List.mem_cons, List.not_mem_nil, or_false] at hb
  rcases hb with rfl | rfl | rfl
  · rcases hT.1 with z | ⟨c, z, _⟩ <;> exact ⟨_, z⟩
  · rcases hT.2.1 with z | ⟨c, z, _⟩ <;> exact ⟨_, z⟩
  · rcases hT.2.2 with z | ⟨c, z, _⟩ <;> exact ⟨_, z⟩
theorem made_none (hP : P ∈ tabAt) (hgP : g.get? P = none) (hgh : g.StaysIn h) (k1 : ∀ b o, h.get? b = some o → b ≠ P → ha.get? b = some o) (k2 : ∀ b o, ha.get? b = some o → b ≠ e → hb.get? b = some o) (heT : e ∉ tabAt)
    (mk : ∀ g', Grew g h ha g' → Tabs g' ha) (heb : hb.get? e ≠ none) {b : Addr} (hn : hb.get? b = none) : h.get? b = none := by
  cases z : h.get? b with
  | none => rfl
  | some o =>
    have hbe : b ≠ e := fun y => heb (y ▸ hn)
    have : ∃ o', ha.get? b = some o' := by
      by_cases hbP : b = P
      · rw [hbP]; exact tabs_live (mk ha ⟨fun c o q => k1 c o (hgh c o q) (fun y => by rw [y, hgP] at q; cases q), fun _ _ q _ => q⟩) hP
      · exact ⟨o, k1 b o z hbP⟩
    obtain ⟨o', z'⟩ := this
    rw [k2 b o' z' hbe] at hn; cases hn
theorem moded_made (hP : P ∈ tabAt) (k1 : ∀ b o, h.get? b = some o → b ≠ P → ha.get? b = some o) (k2 : ∀ b o, ha.get? b = some o → b ≠ e → hb.get? b = some o) (k3 : ∀ b o, hb.get? b = some o → b ≠ L → h₈.get? b = some o)
    (mk : ∀ g', Grew g h ha g' → MkOf g' (es ++ [⟨e, t, kd, D⟩]) kd (.ref f) ∧ Tabs g' ha) (hdn : h.get? d = none) (heb : hb.get? e = some (uo (some d) t (.ref T))) (hdb : hb.get? d = some (dictOf [⟨hs, .str umN tu, .ref f⟩] 1)) (he7 : h.get? e = some oe) (hLT : L ∉ tabAt) (hLh : h.get? L ≠ none) (heL : e ≠ L) (heT : e ∉ tabAt)
    (hmt : ∀ g', Grew g h h₈ g' → g'.get? mt = some (tupOf #[.str kd.name t1, .int kd.arg t2] nt))
    (F : Fr g₀ L h₈ M) (hs : Heap.SameBut ma h₈ h₉) (ho : h₉.get? ma = some (listOf (mks.toArray.push (.ref mt)) n1)) (hmL : ma ≠ L) (hme : ma ≠ e) (hg0 : g₀.get? ma = none) (hmT : ma ∉ tabAt) (hm7 : h.get? ma ≠ none) (tk : Nat) :
    Moded g₀ h g s L ma e t T M mks es D { s with heap := h₉, toks := tk } := by
  refine moded_app (kd := kd) (t1 := t1) (t2 := t2) (nt := nt) F hs ho (fun b o z hb => ?_) hmL hme hg0 hmT hm7 (k3 _ _ heb heL) (fun g' gr => ?_) tk
  · have h1 : b ≠ L := fun y => hb (by simp [y])
    have h2 : b ≠ e := fun y => hb (by simp [y])
    exact k3 b o (k2 b o (k1 b o z fun y => hb (List.mem_append_right _ (y ▸ hP))) h2) h1
  · have gr' : Grew g h ha g' := ⟨gr.1, fun b o z y => gr.2 b o (k3 b o (k2 b o z fun q => by rw [q, he7] at y; cases y) fun q => hLh (q ▸ y)) y⟩
    obtain ⟨m1, m2⟩ := mk g' gr'
    refine ⟨hmt g' gr, m2.keeps (fun _ _ z => z) fun b hb o z => k3 b o (k2 b o z fun q => heT (q ▸ hb)) fun q => hLT (q ▸ hb), .inr ⟨d, _, _, _, _, rfl, gr.2 d _ (k3 _ _ hdb fun q => hLh (q ▸ hdn)) hdn, m1⟩⟩
end
section
theorem fr_but {g₀ h h' : Heap} {L P : Addr} {M : PySem.Str → Option Value} (F : Fr g₀ L h M) (k : ∀ b o, h.get? b = some o → b ≠ P → h'.get? b = some o) (hL : L ≠ P) (hP : g₀.get? P = none) : Fr g₀ L h' M :=
  ⟨F.ns.at' fun o z => k L o z hL, fun b o z => k b o (F.keep b o z) (fun y => by rw [y, hP] at z; cases z), F.above⟩
theorem news_cons {g₀ h : Heap} {L a : Addr} {o : Obj} {nw : List (Addr × Obj)} (ha : h.get? a = some o) (h1 : a ≠ L) (h2 : g₀.get? a = none) (N : News g₀ L h nw) : News g₀ L h ((a, o) :: nw) := by
  intro z hz
  rcases List.mem_cons.mp hz with rfl | hz
  · exact ⟨ha, h1, h2⟩
  · exact N z hz
end
section
abbrev st17 : List PySem.Str := Str.ofString "more" :: st16
variable {g₀ h h₁ g hI : Heap} {fl fs xs mu : List Addr} {L I q fa ma th : Addr} {m m₀ : PySem.Str → Option Value} {tx : Tok} {i : Nat} {es : List Er} {tbs : List Addr} {mks tvs : List Value}
/-- the state between two turns of the second loop -/
def J2 (g₀ hA : Heap) (s : Shared) (L : Addr) (m₀ : PySem.Str → Option Value) (fl fs xs : List Addr) (q fa ma th : Addr) (tx : Tok) (n0 : Nat) (es : List Er) (mks tvs : List Value) (I : Addr) (St : Nat → Heap → Prop) (i : Nat) (s' : Shared) : Prop :=
  ∃ (h : Heap) (tk : Nat) (u : PySem.Str → Option Value) (g : Heap) (mu : List Addr) (tbs : List Addr), s' = { s with heap := h, toks := tk } ∧ Inv g₀ hA fl fs xs q fa ma th tx n0 h g mu es tbs mks tvs ∧ Fr g₀ L h (fun y => if st17.contains y then u y else m₀ y) ∧ I ∈ mu ∧ St i h
theorem fr_norm2 (F : Fr g₀ L h m) (hm : ∀ y, st17.contains y = false → m y = m₀ y) : Fr g₀ L h (fun y => if st17.contains y then m y else m₀ y) := by
  have : (fun y => if st17.contains y then m y else m₀ y) = m := by
    funext y
    cases hy : st17.contains y with
    | true => simp
    | false => simp only [Bool.false_eq_true, if_false]; exact (hm y hy).symm
  rw [this]; exact F
theorem not_st2 {y : PySem.Str} (hy : st17.contains y = false) : y ≠ Str.ofString "more" ∧ st16.contains y = false ∧ y ≠ Str.ofString "a" ∧ y ≠ Str.ofString "k" := by
  have h : ¬ y ∈ st17 := fun hm => by rw [List.contains_iff_mem.mpr hm] at hy; cases hy
  have h' : ¬ y ∈ st16 := fun hm => h (.tail _ hm)
  have h2 : st16.contains y = false := by
    cases hz : st16.contains y with
    | false => rfl
    | true => exact absurd (List.contains_iff_mem.mp hz) h'
  obtain ⟨y1, y2, y3, y4, y5, y6, y7⟩ := not_st h2
  exact ⟨fun e => h (e ▸ .head _), h2, y4, y6⟩
theorem Inv.frames_in (V : Inv g₀ hI fl fs xs q fa ma th tx i h g mu es tbs mks tvs) (hk : ∀ b o, h.get? b = some o → b ∈ fs → h₁.get? b = some o) : ∀ b ∈ fs, ∃ o es n, h₁.get? b = some o ∧ o.data = .dict es n := fun b hb => by
  obtain ⟨_, o, ds, n, z, y⟩ := V.bk.frm b hb
  exact ⟨o, ds, n, hk b o z hb, y⟩
/-- what was not there is none of the known things -/
theorem Inv.new_ne (S : Stat hI fl fs xs fa ma th) (V : Inv g₀ hI fl fs xs q fa ma th tx i h g mu es tbs mks tvs) {b : Addr} (hb : h.get? b = none) :
    b ∉ mu ∧ b ∉ es.map (·.e) ++ tbs ∧ b ∉ fs ∧ b ∉ fl ∧ b ∉ [fa, ma, th] ++ tabAt ∧ b ∉ xs ∧ hI.get? b = none ∧ g₀.get? b = none := by
  obtain ⟨n1, n2⟩ := V.bk.new_off hb
  have hx : b ∉ xs := fun hm => n1 (List.mem_append_left _ (V.xmu b hm))
  refine ⟨fun hm => n1 (List.mem_append_left _ hm), fun hm => n1 (V.bk.marks hm), fun hm => hx (S.fx b hm), fun hm => hx (S.fx b (S.lf b hm)), fun hm => hx (S.inx b hm).1, hx, V.fresh hb, ?_⟩
  cases z : g₀.get? b with
  | none => rfl
  | some o => have y := V.bk.stays _ _ (V.bk.base _ _ z); rw [hb] at y; cases y
end
/-! ## _law_sixteen -/
section
variable {w : World} {p : Program} {loose : List PySem.Str} {mean : ExcName → Option Value} {mg mb : PySem.Str → Option Value} {g₀ g₁ gT : Heap} {dp un : Nat} {fr : Option (List Env)} {gd : Option (List Code)} {l : List Env} {s : Shared} {R : Result → Shared → Prop}
  {sl : Addr} {vs : List Value} {ns : List Int} {nl : Nat}

abbrev xsA (L : Addr) (l : List Env) (fa ma th : Addr) : List Addr := (L :: framesOf l) ++ (tabAt ++ [fa, ma, th])
theorem tab_list {h : Heap} {b : Addr} {its : Array Value} {n : Nat} (hT : Tabs gT h) (hm : b ∈ tabAt) (hb : h.get? b = some (listOf its n)) : False := by
  simp only [tabAt, List.mem_cons, List.not_mem_nil, or_false] at hm
  rcases hm with rfl | rfl | rfl
  · rcases hT.1 with z | ⟨c, z, _⟩ <;> (rw [hb] at z; cases z)
  · rcases hT.2.1 with z | ⟨c, z, _⟩ <;> (rw [hb] at z; cases z)
  · rcases hT.2.2 with z | ⟨c, z, _⟩ <;> (rw [hb] at z; cases z)
theorem sixteen_call (G : Gnd w p loose mean mg mb g₀) (B : Below ⟨none, dp, fr, gd, un⟩ g₀ l s.heap) (hsz : g₀.objs.size ≤ s.heap.objs.size) (hroom : dp + 20 < recursionLimit) (hu : un + 200 < cLine)
    (hsl : s.heap.get? sl = some (listOf vs.toArray nl)) (hi : IntsAre vs ns) (hlen : vs.length ≤ 16)
    (hC1 : CodeHd g₀ 121 117) (hC2 : CodeHd g₀ 128 124) (hC3 : CodeHd g₀ 142 138) (hP0 : ∀ b ∈ tabAt, g₀.get? b = none)
    (hfd : ∀ b ∈ framesOf l, ∃ o es n, s.heap.get? b = some o ∧ o.data = .dict es n) (hT : Tabs gT s.heap) (hgT : gT.StaysIn s.heap) (hoff : ∀ b ∈ framesOf l ++ tabAt, gT.get? b = none) (hgg : g₀.StaysIn gT)
    (hR : ∀ h' tk' gT', (∀ b o, s.heap.get? b = some o → b ∉ framesOf l → b ∉ tabAt → h'.get? b = some o) → (∀ b ∈ framesOf l, ∀ o, s.heap.get? b = some o → ∃ sl, h'.get? b = some { o with slots := sl }) → Tabs gT' h' → gT'.StaysIn h' → (∀ b ∈ framesOf l ++ tabAt, gT'.get? b = none) → g₀.StaysIn gT' →
      R (.ok (.ret (.bool true))) { s with heap := h', toks := tk' }) :
    codeAny (model prg w) ⟨none, dp, fr, gd, un⟩ (.call (.ref 157) ⟨[.ref sl], []⟩) R s := by
  refine' enterG G B hsz ?k6 ?k7 (by show dp < _; omega) (Bound.of_eq (binds := [(scriptN, .ref sl)]) ?k9) ?kB ?_ ?c2 ?c3 ?c4 ?c5
  case k6 => k_is
  case k7 => k_is
  case k9 => exact rfl
  case kB => rintro _ rfl; exact locs rfl
  case c2 => exact rfl
  case c3 => exact rfl
  case c4 => exact rfl
  case c5 => decide
  rintro L h₁ tk _ rfl F B₁ hk hL
  have hLf : L ∉ framesOf l := fun hm => by
    obtain ⟨o, _, _, z, _⟩ := hfd L hm
    rw [hL] at z; cases z
  have X := G.X
  have T := G.T
  obtain ⟨nw, hnw⟩ : ∃ nw, nw = restOf g₀ s.heap := ⟨_, rfl⟩
  have N : News g₀ L h₁ nw := by
    rintro ⟨b, o⟩ hb
    rw [hnw] at hb
    obtain ⟨h1, h2⟩ := mem_restOf.mp hb
    refine ⟨hk _ _ h2, fun z => ?_, h1⟩
    have z' : b = L := z
    rw [z', hL] at h2; cases h2
  iterate 64 (first | walk1 | (dsimp only; walk1))
  rename_i q d _ o1 o2 _ fa _ o3 _ _ m1 _ o4 m2 _ o5 m3 _ o6 ma _ o7 _ _ th _ o8 hA FA NA
  obtain ⟨m₀, hm₀⟩ : ∃ m₀ : PySem.Str → Option Value, m₀ = fun y => if y = Str.ofString "things" then some (.ref th) else if y = Str.ofString "makers" then some (.ref ma) else if y = Str.ofString "family" then some (.ref fa) else if y = Str.ofString "p" then some (.ref q) else List.lookup y [(scriptN, .ref sl)].reverse := ⟨_, rfl⟩
  have hSA : ∀ b o, s.heap.get? b = some o → hA.get? b = some o := fun b o z => by
    cases y : g₀.get? b with
    | some o' => have := B.stays _ _ y; rw [z] at this; cases this; exact FA.keep _ _ y
    | none => exact (NA (b, _) (.tail _ (.tail _ (.tail _ (.tail _ (.tail _ (.tail _ (.tail _ (.tail _ (hnw ▸ mem_restOf.mpr ⟨y, z⟩)))))))))).1
  have hslA : hA.get? sl = some (listOf vs.toArray nl) := hSA _ _ hsl
  have hsx : ∀ (b : Nat) o, s.heap.get? b = some o → b ∉ framesOf l → b ∉ tabAt → b ∉ xsOf L l fa ma th hA.objs.size := fun b o z hf ht hm => by
    have hsd : ∀ c : Nat, Nat.lt d c → g₀.get? c = none → b ≠ c := fun c hc hn e => by
      subst e
      exact Nat.lt_asymm (o1 (b, o) (hnw ▸ mem_restOf.mpr ⟨hn, z⟩)) hc
    have hbs : b < hA.objs.size := Heap.lt_size (hSA _ _ z)
    have f1 := Nat.lt_trans o2 o3.1
    have f2 := Nat.lt_trans (Nat.lt_trans (Nat.lt_trans (Nat.lt_trans f1 o4.1) o5.1) o6.1) o7.1
    have f3 := Nat.lt_trans f2 o8.1
    rcases List.mem_append.mp hm with hm | hm
    · rcases List.mem_cons.mp hm with e | hm
      · rw [e, hL] at z; cases z
      · exact hf hm
    · rcases List.mem_append.mp hm with hm | hm
      · exact ht hm
      · have hm' : b = fa ∨ b = ma ∨ b = th ∨ b = hA.objs.size + 1 ∨ b = hA.objs.size := by simpa using hm
        rcases hm' with e | e | e | e | e
        · exact hsd fa f1 (NA (fa, _) (.tail _ (.tail _ (.tail _ (.tail _ (.tail _ (.head _))))))).2.2 e
        · exact hsd ma f2 (NA (ma, _) (.tail _ (.head _))).2.2 e
        · exact hsd th f3 (NA (th, _) (.head _)).2.2 e
        · omega
        · omega
  refine wpAny_execs_cons (wpAny_mono (Q := fun f s' => f = .next ∧ ∃ tx, Stat hA (framesOf l) (L :: framesOf l) (xsA L l fa ma th) fa ma th ∧ J1 g₀ hA s L m₀ (framesOf l) (L :: framesOf l) (xsA L l fa ma th) q fa ma th tx (fun _ _ => True) vs.length s') ?loop ?rest (fun _ _ x => x))
  case loop =>
    refine for_J ?_
    iterate 6 (first | walk1 | (dsimp only; walk1))
    refine call_enumerate_list ⟨_, hslA, rfl, nl, rfl⟩ fun hI hE hIt hszI hkI => ?_
    dsimp only at hE hIt hszI hkI ⊢
    have hslI : hI.get? sl = some (listOf vs.toArray nl) := hkI _ _ hslA
    have hslt : (sl : Nat) < hA.objs.size := Heap.lt_size hslA
    obtain ⟨g, hlt, hgT', S, V⟩ := inv_start B hfd hT hgT hoff hP0 hgg hnw hL FA NA o1 o2 o3.1 o4.1 o5.1 o6.1 o7.1 o8.1 hkI ⟨_, hE⟩ (let ⟨o, z, _⟩ := hIt; ⟨o, z⟩)
    obtain ⟨tx, V⟩ : ∃ tx, Inv g₀ hI (framesOf l) (L :: framesOf l) (xsOf L l fa ma th hA.objs.size) q fa ma th tx 0 hI g (xsOf L l fa ma th hA.objs.size) [] [] [.ref m1, .ref m2, .ref m3] [.none, .none, .none] := ⟨_, V⟩
    have hxI : hA.objs.size + 1 ∈ xsOf L l fa ma th hA.objs.size ∧ hA.objs.size ∈ xsOf L l fa ma th hA.objs.size := ⟨List.mem_append_right _ (List.mem_append_right _ (by simp)), List.mem_append_right _ (List.mem_append_right _ (by simp))⟩
    have hslx : sl ∉ xsOf L l fa ma th hA.objs.size := hsx sl _ hsl (fun hm => by obtain ⟨o, _, _, z, y⟩ := hfd sl hm; rw [hsl] at z; cases z; cases y) fun hm => tab_list hT hm hsl
    have FI : Fr g₀ L hI m₀ := by
      rw [hm₀]
      exact ⟨FA.ns.keeps hkI, fun b o z => hkI _ _ (FA.keep _ _ z), FA.above⟩
    have W := fun (A' : Around) (hA' : A'.handled = none) => (WalksT.enumerate (prog := prg) (w := w) (A := A') hA' (hA.objs.size + 1) hA.objs.size sl (Nat.succ_ne_self _) (Nat.ne_of_lt (Nat.lt_succ_of_lt hslt)) (Nat.ne_of_lt hslt) vs.toArray).toU
    refine (W _ rfl).self 0 _ _ _ ⟨⟨_, hE⟩, hIt, ⟨_, hslI, rfl, nl, rfl⟩⟩ ?_
    refine ⟨_, _, _, _, _, _, _, J1 g₀ hI s L m₀ (framesOf l) (L :: framesOf l) (xsOf L l fa ma th hA.objs.size) q fa ma th tx (fun i h => (∃ old, IsEnum h (hA.objs.size + 1) hA.objs.size i old) ∧ h.IsListIter hA.objs.size sl i ∧ h.IsList sl vs.toArray), rfl, KTurns.ofWalksU (W _ rfl), ?_, fun i s' hJ => ?_, fun i v s' h₁ tk₁ hin hJ hP hSt hkw => ?_, fun s' h₁ tk₁ hJ hkw => ?_⟩
    · refine ⟨hI, _, m₀, g, _, [], [], _, _, rfl, V, rfl, ?_, ⟨⟨_, hE⟩, hIt, ⟨_, hslI, rfl, nl, rfl⟩⟩⟩
      simpa using FI
    · obtain ⟨h, tk, u, g, mu, es, tbs, mks, tvs, rfl, _, _, _, st⟩ := hJ
      exact st
    · obtain ⟨h, tk, u, g, mu, es, tbs, mks, tvs, rfl, V, hl, F, st⟩ := hJ
      obtain ⟨g', hgg', V'⟩ := inv_wr S V hxI hlt hkw ⟨_, hSt.1.choose_spec⟩ (let ⟨o, z, _⟩ := hSt.2.1; ⟨o, z⟩)
      have F' := fr_wr F V hxI hlt hkw
      obtain ⟨T, vals, rfl, ⟨tt, x, hx, rfl⟩, hTup⟩ := hP
      obtain ⟨nx, tn, rfl⟩ := ints_at hi (by simpa using hx)
      refine wpAny_assign_Tuple rfl hTup rfl rfl fun h₂ hk₂ => ?_
      dsimp only at hk₂
      have hk₂' : ∀ b o, h₁.get? b = some o → h₂.get? b = some o := fun b o z => hk₂ b o (Nat.ne_of_lt (Heap.lt_size z)) z
      have hg₁ : g₀.StaysIn h₁ := F'.keep
      obtain ⟨nw₂, hnw₂⟩ : ∃ nw, nw = (restOf g₀ h₁).filter (fun z => z.1 != L) := ⟨_, rfl⟩
      have F₂ : Fr g₀ L h₂ _ := ⟨F'.ns.keeps hk₂', fun b o z => hk₂' _ _ (F'.keep _ _ z), F'.above⟩
      have N₂ : News g₀ L h₂ nw₂ := by rw [hnw₂]; exact rest_news hk₂'
      obtain ⟨n3, hfa₁⟩ := V'.fam
      have hfaN : News g₀ L h₂ ((fa, listOf (famOf q (Str.ofString "x") tx es).toArray n3) :: nw₂) := by
        intro z hz
        rcases List.mem_cons.mp hz with rfl | hz
        · exact ⟨hk₂' _ _ hfa₁, fun e => (S.inx fa (by simp)).2 (by rw [show fa = L from e]; exact .head _), g0_none V' (S.inx fa (by simp)).1⟩
        · exact N₂ z hz
      clear N₂
      subst hm₀
      iterate 61 (first | walk1 | (dsimp only; walk1))
      rename Fr _ _ _ _ => F₃
      rename News _ _ _ _ => N₃
      have hin' : i < vs.length := by simpa using hin
      have hel : es.length ≤ 16 := Nat.le_trans V'.len (Nat.le_trans (Nat.le_of_lt hin') hlen)
      have hfl : (famOf q (Str.ofString "x") tx es).toArray.size = es.length + 3 := by simp [famOf]
      refine call_len_list ⟨_, (N₃ (fa, listOf (famOf q (Str.ofString "x") tx es).toArray n3) (by k_mem)).1, rfl, n3, rfl⟩ (by rw [hfl]; omega) ?_
      rw [hfl]
      dsimp only
      obtain ⟨a0, ha0, ha5⟩ : ∃ a0 : Nat, (nx.fmod 1000000).fmod 5 = (a0 : Int) ∧ a0 < 5 := fmod_nat _ 5 (by decide)
      obtain ⟨mo, hmo, hmo5⟩ : ∃ mo : Nat, ((nx.fmod 1000000).fdiv 5).fmod 5 = (mo : Int) ∧ mo < 5 := fmod_nat _ 5 (by decide)
      obtain ⟨k0, hk0, hk1⟩ : ∃ k0 : Nat, (((nx.fmod 1000000).fdiv 5).fdiv 5).fmod ((es.length + 3 : Nat) : Int) = (k0 : Int) ∧ k0 < es.length + 3 := fmod_nat _ (es.length + 3) (by omega)
      rw [ha0, hmo] at F₃
      walk1
      rw [hk0]
      iterate 13 (first | walk1 | (dsimp only; walk1))
      obtain ⟨kd, self, hkd, hself⟩ := kind_at (q := q) (tx := tx) hk1
      rename Fr _ _ _ _ => F₄
      rename News _ _ _ _ => N₄
      refine item_at (N₄ (fa, listOf (famOf q (Str.ofString "x") tx es).toArray n3) (by k_mem)).1 (by omega) (by omega) (by simpa using hself) ?_
      walk1
      refine ⟨G.X.keeps F₄.keep, wpAny_call ?_⟩
      have kp₄ := rest_keep hg₁ F₄ N₄ (fun z hz => by rw [← hnw₂] at hz; repeat (first | exact hz | apply List.mem_cons_of_mem))
      obtain ⟨g₄, hg₄, V₄⟩ := inv_L S V' F₄ hLf kp₄
      refine inv_ask (l := _ :: l) ha5 G (Book.below B₁ V₄.bk) (Nat.le_of_lt (Nat.lt_of_le_of_lt F₄.above F₄.ns.lt)) (by show dp + 1 + 10 < _; omega) rfl S V₄ hkd hself fun got h₅ tk₅ g₅ mu₅ tbs₅ V₅ Y₅ hm₅ kp₅ ups₅ => ?_
      dsimp only
      have F₅ : Fr g₀ L h₅ _ := ⟨ups₅.ns F₄.ns, fun b o z => V₅.bk.stays _ _ (V₅.bk.base _ _ z), F₄.above⟩
      obtain ⟨nw₅, hnw₅⟩ : ∃ nw, nw = (restOf g₀ h₅).filter (fun z => z.1 != L) := ⟨_, rfl⟩
      have N₅ : News g₀ L h₅ nw₅ := by rw [hnw₅]; exact rest_news fun _ _ z => z
      clear F₄ N₄
      iterate 22 (first | walk1 | (dsimp only; walk1))
      rename Fr _ _ _ _ => F₆
      rename News _ _ _ _ => N₆
      refine ⟨G.X.keeps F₆.keep, wpAny_call ?_⟩
      have hg₅ : g₀.StaysIn h₅ := fun b o z => V₅.bk.stays _ _ (V₅.bk.base _ _ z)
      have kp₆ := rest_keep hg₅ F₆ N₆ (fun z hz => by rw [← hnw₅] at hz; repeat (first | exact hz | apply List.mem_cons_of_mem))
      obtain ⟨g₆, hg₆, V₆⟩ := inv_L S V₅ F₆ hLf kp₆
      have hLI : hI.get? L ≠ none := fun z => by obtain ⟨o, y⟩ := S.xl L (S.fx L (.head _)); rw [z] at y; cases y
      have Y₆ := Y₅.keeps hg₆ (fun _ z => z) (fun b o z hb => kp₆ b o z fun e => hLI (e ▸ hb))
      obtain ⟨n4, hth₆⟩ := V₆.thi
      have hi16 : i ≤ 16 := Nat.le_trans (Nat.le_of_lt hin') hlen
      refine inv_right ha5 G (by show dp + 1 < _; omega) (by show un + 3 + 100 < _; omega) V₆ hi16 Y₆ hkd hth₆ V₆.tok (by omega) (V₆.xmu _ (S.inx th (by simp)).1) S.n3 S.n2 fun h₇ tk₇ hk₇ hcase => ?_
      dsimp only
      have hL₇ : L ≠ th := fun e => (S.inx th (by simp)).2 (e ▸ .head _)
      have F₇ : Fr g₀ L h₇ _ := ⟨F₆.ns.at' fun o z => hk₇ _ o z hL₇, fun b o z => hk₇ b o (F₆.keep b o z) (fun e => by rw [e, g0_none V₆ (S.inx th (by simp)).1] at z; cases z), F₆.above⟩
      obtain ⟨nw₇, hnw₇⟩ : ∃ nw, nw = (restOf g₀ h₇).filter (fun z => z.1 != L) := ⟨_, rfl⟩
      have N₇ : News g₀ L h₇ nw₇ := by rw [hnw₇]; exact rest_news fun _ _ z => z
      have hg₇₀ : g₀.StaysIn h₇ := F₇.keep
      clear F₆ N₆
      have kx : ∀ b ∈ xsOf L l fa ma th hA.objs.size, b ∉ L :: framesOf l → b ≠ th → ∀ o, h₁.get? b = some o → h₇.get? b = some o := fun b hb hf ht o z =>
        have hbL : b ≠ L := fun e => hf (e ▸ .head _)
        hk₇ b o (kp₆ b o (kp₅ b o (kp₄ b o z hbL) hf (V₄.off_es S hb)) hbL) ht
      rcases hcase with ⟨hth₇, _⟩ | ⟨e, t, T, v, D, dv, rfl, hDd, hN, hem, hTm, heI, hTI, hth₇, hrep, hkd1, hkd2⟩
      · obtain ⟨g₇, hg₇, V₇⟩ := inv_th S V₆ hk₇ hth₇ ⟨[], by simp⟩
        obtain ⟨n3', hfa₇⟩ := V₇.fam
        iterate 12 (first | walk1 | (dsimp only; walk1))
        refine call_len_list ⟨_, hth₇, rfl, n4, rfl⟩ (by rw [List.size_toArray, hl]; omega) ?_
        iterate 6 (first | walk1 | (dsimp only; walk1))
        refine call_len_list ⟨_, hfa₇, rfl, n3', rfl⟩ (by rw [hfl]; omega) ?_
        rw [hfl, List.size_toArray, hl]
        rename Fr _ _ _ _ => F₈
        iterate 3 (first | walk1 | (dsimp only; walk1))
        refine wpAny_execs_nil (wpAny_execs_nil ?_)
        dsimp only
        refine ⟨h₇, _, _, g₇, mu₅, es, tbs₅, mks, tvs, rfl, V₇.next, hl, fr_norm F₈ ?_, ?_⟩
        · intro y hy
          obtain ⟨y1, y2, y3, y4, y5, y6, y7⟩ := not_st hy
          simp [y1, y2, y3, y4, y5, y6, y7, hy]
        · have hb1 : ∀ b : Nat, hA.objs.size ≤ b → b ∉ L :: framesOf l ∧ b ≠ th := fun b hb => ⟨fun hm => absurd (hlt b (List.mem_append_left _ hm)) (Nat.not_lt.mpr hb), fun e => absurd (hlt b (List.mem_append_right _ (List.mem_append_left _ (by rw [e]; simp)))) (Nat.not_lt.mpr hb)⟩
          have n1 := hb1 (hA.objs.size + 1) (Nat.le_succ _)
          have n2 := hb1 hA.objs.size (Nat.le_refl _)
          obtain ⟨⟨old, y1⟩, ⟨oI, y2, y3⟩, _⟩ := hSt
          exact ⟨⟨old, kx _ hxI.1 n1.1 n1.2 _ y1⟩, ⟨oI, kx _ hxI.2 n2.1 n2.2 _ y2, y3⟩, ⟨_, V₇.kept _ _ hslI hslx, rfl, nl, rfl⟩⟩
      · obtain ⟨g₇, hg₇, V₇⟩ := inv_th S V₆ hk₇ hth₇ ⟨[dv], rfl⟩
        obtain ⟨n3', hfa₇⟩ := V₇.fam
        iterate 12 (first | walk1 | (dsimp only; walk1))
        refine call_len_list ⟨_, hth₇, rfl, n4 + 1, rfl⟩ (by rw [List.size_toArray, List.length_append, hl]; simp; omega) ?_
        iterate 6 (first | walk1 | (dsimp only; walk1))
        refine call_len_list ⟨_, hfa₇, rfl, n3', rfl⟩ (by rw [hfl]; omega) ?_
        rw [hfl, List.size_toArray, List.length_append, hl]
        iterate 3 (first | walk1 | (dsimp only; walk1))
        rotate_left
        · exfalso
          rename ¬ ((_ : Int) < _) => hf
          exact hf (by simp; omega)
        rename Fr _ _ _ _ => F₈
        obtain ⟨M₀, hM₀, F₉⟩ : ∃ M₀, M₀ = _ ∧ Fr g₀ L h₇ M₀ := ⟨_, rfl, F₈⟩
        obtain ⟨n1, hma₇⟩ := V₇.mak
        have hxm := S.inx ma (by simp)
        have Nm : News g₀ L h₇ ((ma, listOf mks.toArray n1) :: nw₇) := by
          intro z hz
          rcases List.mem_cons.mp hz with rfl | hz
          · exact ⟨hma₇, fun e => hxm.2 (by rw [show ma = L from e]; exact .head _), g0_none V₇ hxm.1⟩
          · exact N₇ z hz
        have hxl : ∀ b ∈ xsOf L l fa ma th hA.objs.size, b ≠ e := fun b hb z => by obtain ⟨o, y⟩ := S.xl b hb; rw [z, heI] at y; cases y
        have hme : ma ≠ e := hxl ma hxm.1
        have hmL : ma ≠ L := fun z => hxm.2 (z ▸ .head _)
        have hmt : ma ∉ tabAt := fun hm => S.n4 ma hm (by simp)
        have hg0m : g₀.get? ma = none := g0_none V₇ hxm.1
        have hm7 : h₇.get? ma ≠ none := fun z => by rw [hma₇] at z; cases z
        have he₇ : h₇.get? e = some (uo none t (.ref T)) := hk₇ e _ hN.obj (Ne.symm (hxl th (S.inx th (by simp)).1))
        have heL : e ≠ L := fun z => hxl L (S.fx L (.head _)) z.symm
        have hmsz : mks.toArray.size ≤ sizeLine := by
          have h1 := V₇.mok.1
          rw [List.size_toArray, h1]
          simp only [kdsOf, List.length_cons, List.length_map]
          exact Nat.le_trans (show es.length + 1 + 1 + 1 ≤ 100 by omega) (by decide)
        have heT : e ∉ tabAt := fun hm => hxl e (S.inx e (List.mem_append_right _ hm)).1 rfl
        have hLT : L ∉ tabAt := fun hm => (S.inx L (List.mem_append_right _ hm)).2 (.head _)
        have hL7 : h₇.get? L ≠ none := fun z => by obtain ⟨o, y⟩ := V₇.bk.live L (List.mem_append_left _ (V₇.xmu L (S.fx L (.head _)))); rw [z] at y; cases y
        have hg0e : g₀.get? e = none := by
          cases z : g₀.get? e with
          | none => rfl
          | some o => have y := V₇.bk.base _ _ z; rw [V₇.bk.off e (List.mem_append_left _ hem)] at y; cases y
        have hgP : ∀ b ∈ tabAt, g₇.get? b = none := fun b hb => V₇.bk.off b (List.mem_append_left _ (V₇.xmu b (S.inx b (List.mem_append_right _ hb)).1))
        have hgh : g₇.StaysIn h₇ := V₇.bk.stays
        have hxf := S.inx fa (by simp)
        have hfe : fa ≠ e := hxl fa hxf.1
        have hfL : fa ≠ L := fun z => hxf.2 (z ▸ .head _)
        have hfT : fa ∉ tabAt := fun hm => S.n4 fa hm (by simp)
        have hg0f : g₀.get? fa = none := g0_none V₇ hxf.1
        have hlast : ∀ x : Er, (es ++ [x])[es.length]? = some x := fun x => by simp
        refine wpAny_execs_cons (wpAny_mono (Q := fun f s' => f = .next ∧ Moded g₀ h₇ g₇ s L ma e t T M₀ mks es D s') ?modes ?tail (fun _ _ x => x))
        case modes =>
          clear F₈ N₇
          have hmo' : (mo : Int) = 0 ∨ (mo : Int) = 1 ∨ (mo : Int) = 2 ∨ (mo : Int) = 3 ∨ (mo : Int) = 4 := by omega
          rcases hmo' with hmo' | hmo' | hmo' | hmo' | hmo'
          · rw [hmo'] at hM₀
            subst hM₀
            iterate 23 (first | walk1 | (dsimp only; walk1))
            rename Fr _ _ _ _ => F₁
            rename News _ _ _ _ => N₁
            rename (_ : Nat) < _ ∧ AllLt _ _ => l₁
            have kp₁ := rest_keep hg₇₀ F₁ N₁ (fun z hz => by rw [← hnw₇] at hz; exact .tail _ (.tail _ hz))
            refine append_at (hsz := hmsz) (N₁ _ (.tail _ (.head _))).1 fun h₂ hs₂ ho₂ => ?_
            refine wpAny_execs_nil ⟨rfl, moded_app (kd := .none_) F₁ hs₂ ho₂ (fun b o z hb => kp₁ b o z fun y => hb (by simp [y])) hmL hme hg0m hmt hm7 (kp₁ _ _ he₇ heL) (fun g' gr => ⟨gr.2 _ _ (N₁ _ (.head _)).1 (fresh_of hnw₇ l₁.2 (N₁ _ (.head _)).2.1 (N₁ _ (.head _)).2.2), ?_, .inl ⟨rfl, rfl⟩⟩) _⟩
            exact V₇.tab.keeps gr.1 fun b hb o z => kp₁ b o z fun y => (S.inx b (List.mem_append_right _ hb)).2 (y ▸ .head _)
          · rw [hmo'] at hM₀
            subst hM₀
            iterate 25 (first | walk1 | (dsimp only; walk1))
            refine ⟨G.X.keeps F₉.keep, wpAny_call ?_⟩
            refine tag_make G F₉.keep (by show dp + 1 < _; omega) (hP0 117 (by simp)) hC1 V₇.tab.1 fun f ha tka k1 hf mk₀ => ?_
            dsimp only
            have Fa := fr_but F₉ k1 (fun y => hLT (by rw [y]; simp)) (hP0 117 (by simp))
            dsimp only at Fa k1
            clear F₉ Nm
            iterate 1 (first | walk1 | (dsimp only; walk1))
            refine uo_store (G.X.keeps Fa.keep) (k1 _ _ he₇ fun y => heT (by rw [y]; simp)) fun hb d hs tu tkb k2 hd0 heb hdb => ?_
            dsimp only at k2 hd0
            have Fb := fr_but Fa k2 (Ne.symm heL) hg0e
            clear Fa
            have hgb₀ : g₀.StaysIn hb := Fb.keep
            obtain ⟨nw₁, hnw₁⟩ : ∃ nw, nw = (restOf g₀ hb).filter (fun z => z.1 != L) := ⟨_, rfl⟩
            have hma₁ := k2 _ _ (k1 _ _ hma₇ fun y => hmt (by rw [y]; simp)) hme
            have N₁ : News g₀ L hb ((ma, listOf mks.toArray n1) :: nw₁) := news_cons hma₁ hmL hg0m (by rw [hnw₁]; exact rest_news fun _ _ z => z)
            iterate 15 (first | walk1 | (dsimp only; walk1))
            rename Fr _ _ _ _ => F₁
            rename News _ _ _ _ => N₂
            rename (_ : Nat) < _ ∧ AllLt _ _ => l₁
            have kp₁ := rest_keep hgb₀ F₁ N₂ (fun z hz => by rw [← hnw₁] at hz; exact .tail _ (.tail _ hz))
            have mk : ∀ g', Grew g₇ h₇ ha g' → MkOf g' (es ++ [⟨e, t, .tag i, D⟩]) (.tag i) (.ref f) ∧ Tabs g' ha := fun g' gr => by
              obtain ⟨m1, m2⟩ := mk₀ g' gr
              exact ⟨m1, m2, V₇.tab.2.1.keeps gr.1 fun o z => k1 _ o z (by decide), V₇.tab.2.2.keeps gr.1 fun o z => k1 _ o z (by decide)⟩
            have hn : ∀ {b}, hb.get? b = none → h₇.get? b = none := made_none (P := 117) (by simp) (hgP _ (by simp)) hgh k1 k2 heT (fun g' gr => (mk g' gr).2) (by rw [heb]; simp)
            have hd7 : h₇.get? d = none := by
              cases z : h₇.get? d with
              | none => rfl
              | some o => by_cases y : d = 117
                          · obtain ⟨o', z'⟩ := tabs_live (mk ha ⟨fun c o q => k1 c o (hgh c o q) (fun y => by rw [y, hgP 117 (by simp)] at q; cases q), fun _ _ q _ => q⟩).2 (b := 117) (by simp)
                            rw [← y, hd0] at z'; cases z'
                          · rw [k1 d o z y] at hd0; cases hd0
            refine append_at (hsz := hmsz) (N₂ _ (.tail _ (.head _))).1 fun h₂ hs₂ ho₂ => ?_
            refine wpAny_execs_nil (wpAny_execs_nil ⟨rfl, moded_made (P := 117) (kd := .tag i) (by simp) k1 k2 kp₁ mk hd7 heb hdb he₇ hLT hL7 heL heT (fun g' gr => gr.2 _ _ (N₂ _ (.head _)).1 (hn (fresh_of hnw₁ l₁.2 (N₂ _ (.head _)).2.1 (N₂ _ (.head _)).2.2))) F₁ hs₂ ho₂ hmL hme hg0m hmt hm7 _⟩)
          · have hfaN : News g₀ L h₇ ((fa, listOf (famOf q (Str.ofString "x") tx es).toArray n3') :: (ma, listOf mks.toArray n1) :: nw₇) := news_cons hfa₇ hfL hg0f Nm
            clear Nm
            rw [hmo'] at hM₀
            subst hM₀
            iterate 32 (first | walk1 | (dsimp only; walk1))
            refine item_at hfa₇ (by omega) (by omega) (by simpa using hself) ?_
            have hS := V₇.selfOk hkd hself
            refine wpAny_mono (Q := fun v s' => ∃ ha tka f, v = .ref f ∧ s' = { s with heap := ha, toks := tka } ∧ (∀ b o, h₇.get? b = some o → ha.get? b = some o) ∧ ∀ g', Grew g₇ h₇ ha g' → MkOf g' es kd (.ref f)) ?attr ?more (fun _ _ x => x)
            case attr =>
              have fresh : h₇.get? h₇.objs.size = none := Heap.get?_none_of_le (Nat.le_refl _)
              rcases hS with ⟨rfl, rfl⟩ | ⟨rfl, p', d', n', rfl, h1, h2⟩ | ⟨rfl, _⟩ | ⟨j, x, hx, rfl, rfl⟩
              · exact c_attr (G.X.keeps F₉.keep) ⟨_, _, _, rfl, rfl, fun b o z => Heap.get?_push_of_some _ z, fun g' gr => ⟨_, rfl, gr.2 _ _ (Heap.get?_push_size _ rfl) fresh⟩⟩
              · exact p_attr (G.X.keeps F₉.keep) (hgh _ _ h1) (hgh _ _ h2) ⟨_, _, _, rfl, rfl, fun b o z => Heap.get?_push_of_some _ z, fun g' gr => ⟨_, rfl, gr.2 _ _ (Heap.get?_push_size _ rfl) fresh⟩⟩
              · exact absurd rfl hkd1
              · obtain ⟨T', dd', v', _, er⟩ := V₇.bk.tb_of hx
                rcases er.dic with ⟨z, _⟩ | ⟨d', hs', tk', n', v₂, rfl, hd', hm⟩
                · exact absurd z hkd1
                · have hv : ∃ f, v₂ = .ref f := by
                    revert hm hkd1 hkd2
                    cases x.k with
                    | none_ => intro h; exact absurd rfl h
                    | cls => rintro _ _ ⟨q', e', _⟩; exact ⟨q', e'⟩
                    | tag t' => rintro _ _ ⟨f', _, _, _, _, _, _, _, _, _, e', _⟩; exact ⟨f', e'⟩
                    | carry i' => rintro _ _ ⟨_, _, _, _, f', _, _, _, _, _, _, _, _, _, _, _, e', _⟩; exact ⟨f', e'⟩
                    | again i' => intro _ h; exact absurd rfl (h i')
                  obtain ⟨f, rfl⟩ := hv
                  exact uo_attr (G.X.keeps F₉.keep) er.obj (hgh _ _ hd') rfl ⟨_, _, f, rfl, rfl, fun _ _ z => z, fun g' gr => hm.keeps gr.1⟩
            case more =>
              rintro _ _ ⟨ha, tka, f, rfl, rfl, k0', mkf⟩
              have k1 : ∀ b o, h₇.get? b = some o → b ≠ 117 → ha.get? b = some o := fun b o z _ => k0' b o z
              have Fa := fr_but F₉ k1 (fun y => hLT (by rw [y]; simp)) (hP0 117 (by simp))
              clear F₉ hfaN
              iterate 1 (first | walk1 | (dsimp only; walk1))
              refine uo_store (G.X.keeps Fa.keep) (k0' _ _ he₇) fun hb d hs tu tkb k2 hd0 heb hdb => ?_
              dsimp only at k2 hd0
              have Fb := fr_but Fa k2 (Ne.symm heL) hg0e
              clear Fa
              have hgb₀ : g₀.StaysIn hb := Fb.keep
              obtain ⟨nw₁, hnw₁⟩ : ∃ nw, nw = (restOf g₀ hb).filter (fun z => z.1 != L) := ⟨_, rfl⟩
              have hma₁ := k2 _ _ (k0' _ _ hma₇) hme
              have N₁ : News g₀ L hb ((ma, listOf mks.toArray n1) :: nw₁) := news_cons hma₁ hmL hg0m (by rw [hnw₁]; exact rest_news fun _ _ z => z)
              iterate 10 (first | walk1 | (dsimp only; walk1))
              obtain ⟨mt, t1, t2, nt, hmk, hmt₇⟩ := V₇.mok.2 k0 kd hkd
              refine item_at hma₁ (by omega) (by omega) (by simpa using hmk) ?_
              iterate 1 (first | walk1 | (dsimp only; walk1))
              have mk : ∀ g', Grew g₇ h₇ ha g' → MkOf g' (es ++ [⟨e, t, kd, D⟩]) kd (.ref f) ∧ Tabs g' ha := fun g' gr => ⟨(mkf g' gr).app, V₇.tab.keeps gr.1 fun b _ o z => k0' b o z⟩
              have hd7 : h₇.get? d = none := by
                cases z : h₇.get? d with
                | none => rfl
                | some o => rw [k0' d o z] at hd0; cases hd0
              refine append_at (hsz := hmsz) hma₁ fun h₂ hs₂ ho₂ => ?_
              refine wpAny_execs_nil (wpAny_execs_nil (wpAny_execs_nil ⟨rfl, moded_made (P := 117) (kd := kd) (by simp) k1 k2 (fun _ _ z _ => z) mk hd7 heb hdb he₇ hLT hL7 heL heT (fun g' gr => gr.1 _ _ hmt₇) Fb hs₂ ho₂ hmL hme hg0m hmt hm7 _⟩))
          · rw [hmo'] at hM₀
            subst hM₀
            iterate 43 (first | walk1 | (dsimp only; walk1))
            refine ⟨G.X.keeps F₉.keep, wpAny_call ?_⟩
            refine carry_make G F₉.keep (by show dp + 1 < _; omega) (hP0 124 (by simp)) hC2 V₇.tab.2.1 fun f ha tka k1 hf mk₀ => ?_
            dsimp only
            have Fa := fr_but F₉ k1 (fun y => hLT (by rw [y]; simp)) (hP0 124 (by simp))
            dsimp only at Fa k1
            clear F₉ Nm
            iterate 1 (first | walk1 | (dsimp only; walk1))
            refine uo_store (G.X.keeps Fa.keep) (k1 _ _ he₇ fun y => heT (by rw [y]; simp)) fun hb d hs tu tkb k2 hd0 heb hdb => ?_
            dsimp only at k2 hd0
            have Fb := fr_but Fa k2 (Ne.symm heL) hg0e
            clear Fa
            have hgb₀ : g₀.StaysIn hb := Fb.keep
            obtain ⟨nw₁, hnw₁⟩ : ∃ nw, nw = (restOf g₀ hb).filter (fun z => z.1 != L) := ⟨_, rfl⟩
            have hma₁ := k2 _ _ (k1 _ _ hma₇ fun y => hmt (by rw [y]; simp)) hme
            have N₁ : News g₀ L hb ((ma, listOf mks.toArray n1) :: nw₁) := news_cons hma₁ hmL hg0m (by rw [hnw₁]; exact rest_news fun _ _ z => z)
            have hfaN : News g₀ L hb ((fa, listOf (famOf q (Str.ofString "x") tx es).toArray n3') :: (ma, listOf mks.toArray n1) :: nw₁) := news_cons (k2 _ _ (k1 _ _ hfa₇ (fun y => hfT (by rw [y]; simp))) hfe) hfL hg0f N₁
            clear N₁
            iterate 17 (first | walk1 | (dsimp only; walk1))
            refine call_len_list ⟨_, (hfaN _ (.head _)).1, rfl, n3', rfl⟩ (by rw [hfl]; omega) ?_
            rw [hfl]
            iterate 3 (first | walk1 | (dsimp only; walk1))
            rename Fr _ _ _ _ => F₁
            rename News _ _ _ _ => N₂
            rename (_ : Nat) < _ ∧ (_ : Nat) < _ ∧ AllLt _ _ => l₁
            have kp₁ := rest_keep hgb₀ F₁ N₂ (fun z hz => by rw [← hnw₁] at hz; exact .tail _ (.tail _ (.tail _ hz)))
            have mk : ∀ g', Grew g₇ h₇ ha g' → MkOf g' (es ++ [⟨e, t, .carry (es.length + 3), D⟩]) (.carry (es.length + 3)) (.ref f) ∧ Tabs g' ha := fun g' gr => by
              obtain ⟨m1, m2⟩ := mk₀ g' gr
              exact ⟨⟨es.length, _, rfl, hlast _, m1⟩, V₇.tab.1.keeps gr.1 fun o z => k1 _ o z (by decide), m2, V₇.tab.2.2.keeps gr.1 fun o z => k1 _ o z (by decide)⟩
            have hn : ∀ {b}, hb.get? b = none → h₇.get? b = none := made_none (P := 124) (by simp) (hgP _ (by simp)) hgh k1 k2 heT (fun g' gr => (mk g' gr).2) (by rw [heb]; simp)
            have hd7 : h₇.get? d = none := by
              cases z : h₇.get? d with
              | none => rfl
              | some o => by_cases y : d = 124
                          · obtain ⟨o', z'⟩ := tabs_live (mk ha ⟨fun c o q => k1 c o (hgh c o q) (fun y => by rw [y, hgP 124 (by simp)] at q; cases q), fun _ _ q _ => q⟩).2 (b := 124) (by simp)
                            rw [← y, hd0] at z'; cases z'
                          · rw [k1 d o z y] at hd0; cases hd0
            refine append_at (hsz := hmsz) (N₂ _ (.tail _ (.tail _ (.head _)))).1 fun h₂ hs₂ ho₂ => ?_
            refine wpAny_execs_nil (wpAny_execs_nil (wpAny_execs_nil (wpAny_execs_nil ⟨rfl, moded_made (P := 124) (kd := .carry (es.length + 3)) (by simp) k1 k2 kp₁ mk hd7 heb hdb he₇ hLT hL7 heL heT (fun g' gr => gr.2 _ _ (N₂ _ (.head _)).1 (hn (fresh_of hnw₁ l₁.2.2 (N₂ _ (.head _)).2.1 (N₂ _ (.head _)).2.2))) F₁ hs₂ ho₂ hmL hme hg0m hmt hm7 _⟩)))
          · rw [hmo'] at hM₀
            subst hM₀
            iterate 43 (first | walk1 | (dsimp only; walk1))
            refine ⟨G.X.keeps F₉.keep, wpAny_call ?_⟩
            refine again_make G F₉.keep (by show dp + 1 < _; omega) (hP0 138 (by simp)) hC3 V₇.tab.2.2 fun f ha tka k1 hf mk₀ => ?_
            dsimp only
            have Fa := fr_but F₉ k1 (fun y => hLT (by rw [y]; simp)) (hP0 138 (by simp))
            dsimp only at Fa k1
            clear F₉ Nm
            iterate 1 (first | walk1 | (dsimp only; walk1))
            refine uo_store (G.X.keeps Fa.keep) (k1 _ _ he₇ fun y => heT (by rw [y]; simp)) fun hb d hs tu tkb k2 hd0 heb hdb => ?_
            dsimp only at k2 hd0
            have Fb := fr_but Fa k2 (Ne.symm heL) hg0e
            clear Fa
            have hgb₀ : g₀.StaysIn hb := Fb.keep
            obtain ⟨nw₁, hnw₁⟩ : ∃ nw, nw = (restOf g₀ hb).filter (fun z => z.1 != L) := ⟨_, rfl⟩
            have hma₁ := k2 _ _ (k1 _ _ hma₇ fun y => hmt (by rw [y]; simp)) hme
            have N₁ : News g₀ L hb ((ma, listOf mks.toArray n1) :: nw₁) := news_cons hma₁ hmL hg0m (by rw [hnw₁]; exact rest_news fun _ _ z => z)
            have hfaN : News g₀ L hb ((fa, listOf (famOf q (Str.ofString "x") tx es).toArray n3') :: (ma, listOf mks.toArray n1) :: nw₁) := news_cons (k2 _ _ (k1 _ _ hfa₇ (fun y => hfT (by rw [y]; simp))) hfe) hfL hg0f N₁
            clear N₁
            iterate 17 (first | walk1 | (dsimp only; walk1))
            refine call_len_list ⟨_, (hfaN _ (.head _)).1, rfl, n3', rfl⟩ (by rw [hfl]; omega) ?_
            rw [hfl]
            iterate 3 (first | walk1 | (dsimp only; walk1))
            rename Fr _ _ _ _ => F₁
            rename News _ _ _ _ => N₂
            rename (_ : Nat) < _ ∧ (_ : Nat) < _ ∧ AllLt _ _ => l₁
            have kp₁ := rest_keep hgb₀ F₁ N₂ (fun z hz => by rw [← hnw₁] at hz; exact .tail _ (.tail _ (.tail _ hz)))
            have mk : ∀ g', Grew g₇ h₇ ha g' → MkOf g' (es ++ [⟨e, t, .again (es.length + 3), D⟩]) (.again (es.length + 3)) (.ref f) ∧ Tabs g' ha := fun g' gr => by
              obtain ⟨m1, m2⟩ := mk₀ g' gr
              exact ⟨⟨es.length, _, rfl, hlast _, m1⟩, V₇.tab.1.keeps gr.1 fun o z => k1 _ o z (by decide), V₇.tab.2.1.keeps gr.1 fun o z => k1 _ o z (by decide), m2⟩
            have hn : ∀ {b}, hb.get? b = none → h₇.get? b = none := made_none (P := 138) (by simp) (hgP _ (by simp)) hgh k1 k2 heT (fun g' gr => (mk g' gr).2) (by rw [heb]; simp)
            have hd7 : h₇.get? d = none := by
              cases z : h₇.get? d with
              | none => rfl
              | some o => by_cases y : d = 138
                          · obtain ⟨o', z'⟩ := tabs_live (mk ha ⟨fun c o q => k1 c o (hgh c o q) (fun y => by rw [y, hgP 138 (by simp)] at q; cases q), fun _ _ q _ => q⟩).2 (b := 138) (by simp)
                            rw [← y, hd0] at z'; cases z'
                          · rw [k1 d o z y] at hd0; cases hd0
            refine append_at (hsz := hmsz) (N₂ _ (.tail _ (.tail _ (.head _)))).1 fun h₂ hs₂ ho₂ => ?_
            refine wpAny_execs_nil (wpAny_execs_nil (wpAny_execs_nil (wpAny_execs_nil ⟨rfl, moded_made (P := 138) (kd := .again (es.length + 3)) (by simp) k1 k2 kp₁ mk hd7 heb hdb he₇ hLT hL7 heL heT (fun g' gr => gr.2 _ _ (N₂ _ (.head _)).1 (hn (fresh_of hnw₁ l₁.2.2 (N₂ _ (.head _)).2.1 (N₂ _ (.head _)).2.2))) F₁ hs₂ ho₂ hmL hme hg0m hmt hm7 _⟩)))
        case tail =>
          clear F₈ F₉ N₇ Nm
          rintro _ _ ⟨rfl, h₈, tk₈, dd, mt, t1, t2, nt, n2, kd₁, rfl, Fm, km, hem', hma₈, hgm⟩
          have hfa₈ : h₈.get? fa = some (listOf (famOf q (Str.ofString "x") tx es).toArray n3') := km _ _ hfa₇ fun hm => by
            rcases List.mem_append.mp hm with hm | hm
            · simp only [List.mem_cons, List.not_mem_nil, or_false] at hm
              rcases hm with y | y | y
              · exact hfL y
              · exact S.n1 y
              · exact hfe y
            · exact hfT hm
          have Nf : News g₀ L h₈ [(fa, listOf (famOf q (Str.ofString "x") tx es).toArray n3')] := news_cons hfa₈ hfL hg0f News.nil
          subst hM₀
          iterate 9 (first | walk1 | (dsimp only; walk1))
          refine append_at (hsz := by rw [hfl]; exact Nat.le_trans (show es.length + 3 ≤ 100 by omega) (by decide)) hfa₈ fun h₉ hs₉ ho₉ => ?_
          refine wpAny_execs_nil (wpAny_execs_nil ?_)
          dsimp only
          have hTx : T ≠ th := fun y => by
            obtain ⟨o, z⟩ := S.xl th (S.inx th (by simp)).1
            rw [← y, hTI] at z; cases z
          have hN₇ : NewEr g₇ h₇ es tbs₅ e t T D v := ⟨he₇, let ⟨oT, ts, z1, z2, z3⟩ := hN.tb; ⟨oT, ts, hk₇ _ _ z1 hTx, z2, z3⟩, hg₇.1 _ _ hN.arg, hN.rep.keeps fun b _ _ _ z => hg₇.1 b _ z, hN.ne, hN.offE, hN.offT⟩
          have k9 : ∀ b o, h₇.get? b = some o → b ∉ [L, ma, fa, e] ++ tabAt → h₉.get? b = some o := fun b o z hb => by
            rw [hs₉.2 b fun y => hb (by simp [y])]
            refine km b o z fun hm => hb ?_
            rcases List.mem_append.mp hm with hm | hm
            · exact List.mem_append_left _ (by simp only [List.mem_cons, List.not_mem_nil, or_false] at hm ⊢; rcases hm with y | y | y <;> simp [y])
            · exact List.mem_append_right _ hm
          have F₁ := Fm.change hs₉ hfL hg0f
          obtain ⟨oL, dsL, nL, zL, yL, _⟩ := F₁.ns
          obtain ⟨g', mu', st', V'⟩ := inv_add (n3 := n3' + 1) (kd := kd₁) S V₇ hl V₇.len hN₇ hem hTm heI hTI hDd (hrep g₇ hg₇) hLf k9 ⟨oL, dsL, nL, zL, yL⟩ ((hs₉.2 e (Ne.symm hfe)).trans hem') (by rw [ho₉]; simp) ((hs₉.2 ma (Ne.symm S.n1)).trans hma₈) fun g' gr => by
            obtain ⟨x1, x2, x3⟩ := hgm g' ⟨gr.1, fun b o z y => gr.2 b o ((hs₉.2 b fun q => by rw [q, hfa₇] at y; cases y).trans z) y⟩
            exact ⟨x1, x2.keeps (fun _ _ z => z) fun b hb o z => (hs₉.2 b fun q => hfT (q ▸ hb)).trans z, x3⟩
          refine ⟨h₉, _, _, g', mu', _, _, _, _, rfl, V', by simp [hl], fr_norm F₁ ?_, ?_⟩
          · intro y hy
            obtain ⟨y1, y2, y3, y4, y5, y6, y7⟩ := not_st hy
            simp [y1, y2, y3, y4, y5, y6, y7]
          · have hb1 : ∀ b : Nat, hA.objs.size ≤ b → b ∉ L :: framesOf l ∧ b ≠ th := fun b hb => ⟨fun hm => absurd (hlt b (List.mem_append_left _ hm)) (Nat.not_lt.mpr hb), fun e => absurd (hlt b (List.mem_append_right _ (List.mem_append_left _ (by rw [e]; simp)))) (Nat.not_lt.mpr hb)⟩
            have k99 : ∀ b : Nat, hA.objs.size ≤ b → b ∈ xsOf L l fa ma th hA.objs.size → ∀ o, h₁.get? b = some o → h₉.get? b = some o := fun b hb hx o z => by
              have n1 := hb1 b hb
              refine k9 b o (kx b hx n1.1 n1.2 o z) fun hm => ?_
              rcases List.mem_append.mp hm with hm | hm
              · simp only [List.mem_cons, List.not_mem_nil, or_false] at hm
                rcases hm with y | y | y | y
                · exact n1.1 (y ▸ .head _)
                · exact absurd (hlt b (List.mem_append_right _ (List.mem_append_left _ (by rw [y]; simp)))) (Nat.not_lt.mpr hb)
                · exact absurd (hlt b (List.mem_append_right _ (List.mem_append_left _ (by rw [y]; simp)))) (Nat.not_lt.mpr hb)
                · exact hxl b hx y
              · exact absurd (hlt b (List.mem_append_right _ (List.mem_append_right _ hm))) (Nat.not_lt.mpr hb)
            obtain ⟨⟨old, y1⟩, ⟨oI, y2, y3⟩, _⟩ := hSt
            exact ⟨⟨old, k99 _ (Nat.le_succ _) hxI.1 _ y1⟩, ⟨oI, k99 _ (Nat.le_refl _) hxI.2 _ y2, y3⟩, ⟨_, V'.kept _ _ hslI hslx, rfl, nl, rfl⟩⟩
    · obtain ⟨h, tk, u, g, mu, es, tbs, mks, tvs, rfl, V, hl, F, st⟩ := hJ
      have F' := fr_wr F V hxI hlt hkw
      have big : ∀ b : Nat, b ∈ ([hA.objs.size + 1, hA.objs.size] : List Nat) → hA.objs.size ≤ b := fun b hb => by
        have hb' : b = hA.objs.size + 1 ∨ b = hA.objs.size := by simpa using hb
        omega
      have inxA : ∀ b ∈ xsA L l fa ma th, b ∈ (L :: framesOf l) ++ ([fa, ma, th] ++ tabAt) := fun b hb => by
        rcases List.mem_append.mp hb with hb | hb
        · exact List.mem_append_left _ hb
        · rcases List.mem_append.mp hb with hb | hb
          · exact List.mem_append_right _ (List.mem_append_right _ hb)
          · exact List.mem_append_right _ (List.mem_append_left _ hb)
      have SA : Stat hA (framesOf l) (L :: framesOf l) (xsA L l fa ma th) fa ma th := by
        refine ⟨fun b hb => List.mem_append_left _ hb, S.lf, fun b hb => ?_, fun b hb => ⟨?_, (S.inx b hb).2⟩, S.n1, S.n2, S.n3, S.n4⟩
        · rcases List.mem_append.mp hb with hb | hb
          · rcases List.mem_cons.mp hb with rfl | hb
            · obtain ⟨o, _, _, z, _⟩ := FA.ns; exact ⟨o, z⟩
            · obtain ⟨o, _, _, z, _⟩ := hfd b hb; exact ⟨o, hSA _ _ z⟩
          · rcases List.mem_append.mp hb with hb | hb
            · simp only [tabAt, List.mem_cons, List.not_mem_nil, or_false] at hb
              rcases hb with rfl | rfl | rfl
              · rcases hT.1 with z | ⟨c, z, _⟩ <;> exact ⟨_, hSA _ _ z⟩
              · rcases hT.2.1 with z | ⟨c, z, _⟩ <;> exact ⟨_, hSA _ _ z⟩
              · rcases hT.2.2 with z | ⟨c, z, _⟩ <;> exact ⟨_, hSA _ _ z⟩
            · simp only [List.mem_cons, List.not_mem_nil, or_false] at hb
              rcases hb with rfl | rfl | rfl
              · exact ⟨_, (NA (_, _) (.tail _ (.tail _ (.tail _ (.tail _ (.tail _ (.head _))))))).1⟩
              · exact ⟨_, (NA (_, _) (.tail _ (.head _))).1⟩
              · exact ⟨_, (NA (_, _) (.head _)).1⟩
        · rcases List.mem_append.mp hb with hb | hb
          · exact List.mem_append_right _ (List.mem_append_right _ hb)
          · exact List.mem_append_right _ (List.mem_append_left _ hb)
      have Vd := V.drop (hA := hA) (h₁ := h₁) (xs' := xsA L l fa ma th) [hA.objs.size + 1, hA.objs.size] S.lf hkI hkw
      suffices hh : ∃ mu', Inv g₀ hA (framesOf l) (L :: framesOf l) (xsA L l fa ma th) q fa ma th tx vs.toArray.size h₁ g mu' es tbs mks tvs by
        obtain ⟨mu', V'⟩ := hh
        refine ⟨rfl, tx, SA, h₁, tk₁, u, g, mu', es, tbs, mks, tvs, rfl, ?_, hl, F', trivial⟩
        rw [List.size_toArray] at V'; exact V'
      refine Vd (fun b hb => ?_) (fun b hb => ?_) fun b hb => ?_
      · rcases List.mem_append.mp hb with hb | hb
        · exact .inl (List.mem_append_left _ hb)
        · rcases List.mem_append.mp hb with hb | hb
          · exact .inl (List.mem_append_right _ (List.mem_append_left _ hb))
          · have hb' : b ∈ [fa, ma, th] ++ [hA.objs.size + 1, hA.objs.size] := hb
            rcases List.mem_append.mp hb' with hb | hb
            · exact .inl (List.mem_append_right _ (List.mem_append_right _ hb))
            · exact .inr hb
      · rcases List.mem_append.mp hb with hb | hb
        · exact List.mem_append_left _ hb
        · rcases List.mem_append.mp hb with hb | hb
          · exact List.mem_append_right _ (List.mem_append_left _ hb)
          · exact List.mem_append_right _ (List.mem_append_right _ (List.mem_append_left (bs := [hA.objs.size + 1, hA.objs.size]) (as := [fa, ma, th]) hb))
      · have hge := big b hb
        have hxs : b ∈ xsOf L l fa ma th hA.objs.size := List.mem_append_right _ (List.mem_append_right _ (List.mem_append_right [fa, ma, th] hb))
        refine ⟨V.xmu b hxs, fun hm => V.off_es S hxs (List.mem_append_left _ hm), fun hm => absurd (hlt b (List.mem_append_left _ hm)) (Nat.not_lt.mpr hge), fun hm => absurd (hlt b (List.mem_append_right _ hm)) (Nat.not_lt.mpr hge), Heap.get?_none_of_le hge, fun hm => absurd (hlt b (inxA b hm)) (Nat.not_lt.mpr hge)⟩
  case rest =>
    rintro _ s' ⟨rfl, tx, SA, hJ⟩
    obtain ⟨h, tk₁, u, g, mu, es, tbs, mks, tvs, rfl, V, hl, F, _⟩ := hJ
    dsimp only
    have nn : ∀ b ∈ [fa, ma, th], b ≠ L ∧ g₀.get? b = none := fun b hb => ⟨fun e => (SA.inx b (List.mem_append_left _ hb)).2 (e ▸ .head _), g0_none V (SA.inx b (List.mem_append_left _ hb)).1⟩
    obtain ⟨n3, hfa⟩ := V.fam
    have hfl : (famOf q (Str.ofString "x") tx es).toArray.size = es.length + 3 := by simp [famOf]
    have hel : es.length ≤ 16 := Nat.le_trans V.len hlen
    clear FA NA
    refine wpAny_execs_cons (wpAny_mono (Q := fun f s' => f = .next ∧ ∃ h' tk' g' mu' tbs', s' = { s with heap := h', toks := tk' } ∧ Inv g₀ hA (framesOf l) (L :: framesOf l) (xsA L l fa ma th) q fa ma th tx vs.length h' g' mu' es tbs' mks tvs) ?loop2 ?rest2 (fun _ _ x => x))
    case rest2 =>
      rintro _ _ ⟨rfl, h', tk', g', mu', tbs', rfl, V'⟩
      dsimp only
      iterate 2 (first | walk1 | (dsimp only; walk1))
      refine wpAny_Constant_bool ?_
      dsimp only
      have hsub : ∀ b ∈ xsA L l fa ma th, b ∈ xsOf L l fa ma th hA.objs.size := fun b hb => by
        rcases List.mem_append.mp hb with hb | hb
        · exact List.mem_append_left _ hb
        · rcases List.mem_append.mp hb with hb | hb
          · exact List.mem_append_right _ (List.mem_append_left _ hb)
          · exact List.mem_append_right _ (List.mem_append_right _ (List.mem_append_left (bs := [hA.objs.size + 1, hA.objs.size]) (as := [fa, ma, th]) hb))
      refine hR h' _ g' (fun b o z hf ht => V'.kept b o (hSA b o z) fun hm => hsx b o z hf ht (hsub b hm)) (fun b hb o z => V'.frs b hb o (hSA b o z)) V'.tab V'.bk.stays (fun b hb => V'.bk.off b (List.mem_append_left _ (V'.xmu b ?_))) V'.bk.base
      rcases List.mem_append.mp hb with hb | hb
      · exact SA.fx b (SA.lf b hb)
      · exact (SA.inx b (List.mem_append_right _ hb)).1
    case loop2 =>
      refine for_J ?_
      obtain ⟨m₁, e₁⟩ : ∃ m₁, m₁ = m₀ := ⟨_, rfl⟩
      subst hm₀
      iterate 10 (first | walk1 | (dsimp only; walk1))
      refine call_len_list ⟨_, hfa, rfl, n3, rfl⟩ (by rw [hfl]; omega) ?_
      rw [hfl]
      iterate 1 (first | walk1 | (dsimp only; walk1))
      refine call_range_1 ?_
      dsimp only
      refine wpAny_pyIter_range (IsRange.new ..) (small_one (by decide) (by decide) (by omega) (by omega)) ?_
      have hrs : Builtin.Range.rangeSize 0 ((es.length + 3 : Nat) : Int) 1 = ((es.length + 3 : Nat) : Int) := by rw [rangeSize_one, if_pos (by omega)]; omega
      rw [hrs]
      generalize hR0 : h.push { cls := Value.type "range", data := Data.fields #[Value.int 0 (tk₁ + 1 + 1), Value.int ((es.length + 3 : Nat) : Int) (tk₁ + 1), Value.int 1 (tk₁ + 1 + 1 + 1)] } = hR1
      have k1 : ∀ b o, h.get? b = some o → hR1.get? b = some o := fun b o z => by rw [← hR0]; exact Heap.get?_push_of_some _ z
      have zI : IsRangeIter (hR1.push { cls := .type "range_iterator", data := .fields #[rawInt 0, rawInt ((es.length + 3 : Nat) : Int), rawInt 1] }) hR1.objs.size 0 ((es.length + 3 : Nat) : Int) 1 := Heap.get?_push_size _ rfl
      generalize hR2 : hR1.push { cls := .type "range_iterator", data := .fields #[rawInt 0, rawInt ((es.length + 3 : Nat) : Int), rawInt 1] } = hJ at zI ⊢
      have kJ : ∀ b o, h.get? b = some o → hJ.get? b = some o := fun b o z => by rw [← hR2]; exact Heap.get?_push_of_some _ (k1 b o z)
      have nI : h.get? hR1.objs.size = none := fresh_at k1
      generalize hR1.objs.size = I at zI nI ⊢
      obtain ⟨i1, i2, i3, i4, i5, i6, i7, i8⟩ := V.new_ne SA nI
      refine ⟨I, [I], [I], es.length + 3, _, _, _, J2 g₀ hA s L m₁ (framesOf l) (L :: framesOf l) (xsA L l fa ma th) q fa ma th tx vs.length es mks tvs I (fun i h => IsRangeIter h I (0 + (i : Nat) * 1) (((es.length + 3 : Nat) : Int) - (i : Nat)) 1), rfl, KTurns.ofWalks (Walks.range rfl I 0 1 (es.length + 3)) (fun i v s Q E _ q => wpAny_pure q), ?_, fun i s' hJ => ?_, fun i v s' h₁ tk₂ hin hJ hP hSt hkw => ?_, fun s' h₁ tk₂ hJ hkw => ?_⟩
      · obtain ⟨g', st', V'⟩ := V.step (h₁ := hJ) [] [I] (fun b o z _ => kJ b o z) (by simp) (V.frames_in fun b o z _ => kJ b o z) fun b hb => by
          rcases List.mem_singleton.mp hb with rfl
          exact ⟨nI, _, zI⟩
        refine ⟨hJ, _, _, g', _, tbs, rfl, V', fr_norm2 ⟨F.ns.keeps kJ, fun b o z => kJ _ _ (F.keep _ _ z), F.above⟩ ?_, List.mem_append_left _ (.head _), ?_⟩
        · intro y hy
          obtain ⟨_, y2, _⟩ := not_st2 hy
          simp only [y2, Bool.false_eq_true, if_false, e₁]
        · simpa using zI
      · obtain ⟨h, tk, u, g, mu, tbs, rfl, _, _, _, st⟩ := hJ
        exact st
      · obtain ⟨h₀, tk₀, u, g₁, mu₁, tbs₁, rfl, V₁, F₁, hIm, _⟩ := hJ
        have hIt : ∀ {b}, b ∈ tbs₁ → b ≠ I := fun hm e => V₁.bk.apart _ hm (e ▸ hIm)
        obtain ⟨g₂, st₂, V₂⟩ := V₁.step (h₁ := h₁) [I] [] (fun b o z hb => hkw b o hb z) (fun b hb => by
            rcases List.mem_singleton.mp hb with rfl
            exact ⟨hIm, .inr i7, fun hm => (List.mem_append.mp hm).elim (fun hm => i2 (List.mem_append_left _ hm)) fun hm => hIt hm rfl, i4, i5, _, hSt⟩)
          (V₁.frames_in fun b o z hb => hkw b o (fun hm => i3 (List.mem_singleton.mp hm ▸ hb)) z) (by simp)
        have F₂ := fr_but F₁ (fun b o z hb => hkw b o (by simpa using hb) z) (fun e => i3 (e ▸ .head _)) i8
        clear F₁
        obtain ⟨tv, rfl⟩ := hP
        rw [show (0 + (i : Int) * 1) = (i : Int) by omega]
        obtain ⟨nw₂, hnw₂⟩ : ∃ nw, nw = (restOf g₀ h₁).filter (fun z => z.1 != L) := ⟨_, rfl⟩
        obtain ⟨n3, hfa₂⟩ := V₂.fam
        obtain ⟨n4, hth₂⟩ := V₂.thi
        have N₂ : News g₀ L h₁ ((fa, listOf (famOf q (Str.ofString "x") tx es).toArray n3) :: (th, listOf tvs.toArray n4) :: nw₂) := news_cons hfa₂ (nn _ (by simp)).1 (nn _ (by simp)).2 (news_cons hth₂ (nn _ (by simp)).1 (nn _ (by simp)).2 (by rw [hnw₂]; exact rest_news fun _ _ z => z))
        have hg₂ : g₀.StaysIn h₁ := F₂.keep
        rw [e₁] at F₂
        iterate 14 (first | walk1 | (dsimp only; walk1))
        rename Fr _ _ _ _ => F₃
        rename News _ _ _ _ => N₃
        have hslx : sl ∉ xsOf L l fa ma th hA.objs.size := hsx sl _ hsl (fun hm => by obtain ⟨o, _, _, z, y⟩ := hfd sl hm; rw [hsl] at z; cases z; cases y) fun hm => tab_list hT hm hsl
        have hslx' : sl ∉ xsA L l fa ma th := fun hm => by
          rcases List.mem_append.mp hm with hb | hb
          · exact hslx (List.mem_append_left _ hb)
          · rcases List.mem_append.mp hb with hb | hb
            · exact hslx (List.mem_append_right _ (List.mem_append_left _ hb))
            · exact hslx (List.mem_append_right _ (List.mem_append_right _ (List.mem_append_left (bs := [hA.objs.size + 1, hA.objs.size]) (as := [fa, ma, th]) hb)))
        have hslL : sl ≠ L := fun e => hslx' (e ▸ SA.fx L (.head _))
        have kp₃ := rest_keep hg₂ F₃ N₃ (fun z hz => by rw [← hnw₂] at hz; exact .tail _ (.tail _ hz))
        refine call_len_list ⟨_, kp₃ sl _ (V₂.kept sl _ hslA hslx') hslL, rfl, nl, rfl⟩ (by rw [List.size_toArray]; omega) ?_
        rw [List.size_toArray]
        iterate 15 (first | walk1 | (dsimp only; walk1))
        rename Fr _ _ _ _ => F₄
        rename News _ _ _ _ => N₄
        rename (_ : Nat) < _ ∧ (_ : Nat) < _ ∧ AllLt _ _ => l₄
        rename_i mo c4 hx4 h₄
        obtain ⟨a0, ha0, ha5⟩ : ∃ a0 : Nat, ((i : Int) + (vs.length : Int)).fmod 5 = (a0 : Int) ∧ a0 < 5 := fmod_nat _ 5 (by decide)
        rw [ha0] at F₄
        obtain ⟨kd, self, hkd, hself⟩ := kind_at (q := q) (tx := tx) hin
        iterate 18 (first | walk1 | (dsimp only; walk1))
        refine item_at (N₄ _ (.tail _ (.head _))).1 (by omega) (by omega) (by simpa using hself) ?_
        walk1
        refine ⟨G.X.keeps F₄.keep, wpAny_call ?_⟩
        have kp₄ := rest_keep hg₂ F₄ N₄ (fun z hz => by rw [← hnw₂] at hz; exact .tail _ (.tail _ (.tail _ hz)))
        have hmo₄ : h₄.get? mo = some (listOf tvs.toArray c4) := (N₄ _ (.head _)).1
        have hmoL : mo ≠ L := (N₄ _ (.head _)).2.1
        have hmo1 : h₁.get? mo = none := fresh_of hnw₂ l₄.2.2 hmoL (N₄ _ (.head _)).2.2
        obtain ⟨oL, dsL, nL, zL, yL, _⟩ := F₄.ns
        have fr₄ : ∀ b ∈ L :: framesOf l, ∃ o es n, h₄.get? b = some o ∧ o.data = .dict es n := fun b hb => by
          by_cases hbL : b = L
          · subst hbL; exact ⟨oL, dsL, nL, zL, yL⟩
          · obtain ⟨_, o, ds, n, z, y⟩ := V₂.bk.frm b hb
            exact ⟨o, ds, n, kp₄ b o z hbL, y⟩
        obtain ⟨g₄, st₄, V₄⟩ := V₂.step (h₁ := h₄) [L] [mo] (fun b o z hb => kp₄ b o z (by simpa using hb)) (fun b hb => by
            rcases List.mem_singleton.mp hb with rfl
            exact ⟨V₂.xmu _ (SA.fx _ (.head _)), .inl (SA.fx _ (.head _)), V₂.off_es SA (SA.fx _ (.head _)), hLf, fun hm => (SA.inx _ hm).2 (.head _), oL, zL⟩) fr₄ fun b hb => by
            rcases List.mem_singleton.mp hb with rfl
            exact ⟨hmo1, _, hmo₄⟩
        refine inv_ask (l := _ :: l) ha5 G (Book.below B₁ V₄.bk) (Nat.le_of_lt (Nat.lt_of_le_of_lt F₄.above F₄.ns.lt)) (by show dp + 1 + 10 < _; omega) rfl SA V₄ hkd hself fun got h₅ tk₅ g₅ mu₅ tbs₅ V₅ Y₅ hm₅ kp₅ ups₅ => ?_
        dsimp only
        have F₅ : Fr g₀ L h₅ _ := ⟨ups₅.ns F₄.ns, fun b o z => V₅.bk.stays _ _ (V₅.bk.base _ _ z), F₄.above⟩
        clear F₄ N₄
        iterate 11 (first | walk1 | (dsimp only; walk1))
        refine ⟨G.X.keeps F₅.keep, wpAny_call ?_⟩
        obtain ⟨_, x2, x3, x4, x5, x6, x7, x8⟩ := V₂.new_ne SA hmo1
        have hmo₅ : h₅.get? mo = some (listOf tvs.toArray c4) := kp₅ _ _ hmo₄ x3 x2
        have hmm : mo ∈ mu₅ := hm₅ _ (.head _)
        have x2' : mo ∉ es.map (·.e) ++ tbs₅ := fun hm => (List.mem_append.mp hm).elim (fun hm => x2 (List.mem_append_left _ hm)) fun hm => V₅.bk.apart _ hm hmm
        refine inv_right ha5 G (by show dp + 1 < _; omega) (by show un + 3 + 100 < _; omega) V₅ hlen Y₅ hkd hmo₅ V₅.tok (by omega) hmm (fun e => x5 (by simp [← e])) (fun e => x5 (by simp [← e])) fun h₇ tk₇ hk₇ hcase => ?_
        dsimp only
        have hmo₇ : ∃ o, h₇.get? mo = some o := by
          rcases hcase with ⟨z, _⟩ | ⟨_, _, _, _, _, _, _, _, _, _, _, _, _, z, _⟩ <;> exact ⟨_, z⟩
        clear hcase
        obtain ⟨g₇, st₇, V₇⟩ := V₅.step (h₁ := h₇) [mo] [] (fun b o z hb => hk₇ b o z (by simpa using hb)) (fun b hb => by
            rcases List.mem_singleton.mp hb with rfl
            exact ⟨hmm, .inr x7, x2', x4, x5, hmo₇⟩) (V₅.frames_in fun b o z hb => hk₇ b o z fun e => x3 (e ▸ hb)) (by simp)
        have F₇ := fr_but F₅ hk₇ (fun e => x3 (e ▸ .head _)) x8
        have hIL : I ≠ L := fun e => i3 (e ▸ .head _)
        have hSt₇ : h₇.get? I = _ := hk₇ _ _ (kp₅ _ _ (kp₄ _ _ hSt hIL) i3 fun hm => (List.mem_append.mp hm).elim (fun hm => i2 (List.mem_append_left _ hm)) fun hm => hIt hm rfl) fun e => by rw [← e, hSt] at hmo1; cases hmo1
        have hI₇ : I ∈ [] ++ mu₅ := hm₅ _ (.tail _ hIm)
        clear F₅
        obtain ⟨n5, hfa₇⟩ := V₇.fam
        obtain ⟨n6, hth₇⟩ := V₇.thi
        have fin : ∀ h₈ tk₈ M, Fr g₀ L h₈ M → (∀ y, st17.contains y = false → M y = m₁ y) → (∀ b o, h₇.get? b = some o → b ≠ L → h₈.get? b = some o) → J2 g₀ hA s L m₁ (framesOf l) (L :: framesOf l) (xsA L l fa ma th) q fa ma th tx vs.length es mks tvs I (fun i h => IsRangeIter h I (0 + (i : Nat) * 1) (((es.length + 3 : Nat) : Int) - (i : Nat)) 1) (i + 1) { s with heap := h₈, toks := tk₈ } := fun h₈ tk₈ M F₈ hM hk => by
          obtain ⟨oL', dsL', nL', zL', yL', _⟩ := F₈.ns
          obtain ⟨g₈, _, V₈⟩ := V₇.step (h₁ := h₈) [L] [] (fun b o z hb => hk b o z (by simpa using hb)) (fun b hb => by
              rcases List.mem_singleton.mp hb with rfl
              exact ⟨V₇.xmu _ (SA.fx _ (.head _)), .inl (SA.fx _ (.head _)), V₇.off_es SA (SA.fx _ (.head _)), hLf, fun hm => (SA.inx _ hm).2 (.head _), oL', zL'⟩) (fun b hb => by
              by_cases hbL : b = L
              · subst hbL; exact ⟨oL', dsL', nL', zL', yL'⟩
              · obtain ⟨_, o, ds, n, z, y⟩ := V₇.bk.frm b hb
                exact ⟨o, ds, n, hk b o z hbL, y⟩) (by simp)
          exact ⟨h₈, tk₈, _, g₈, _, tbs₅, rfl, V₈, fr_norm2 F₈ hM, hI₇, hk _ _ hSt₇ hIL⟩
        obtain ⟨nw₇, hnw₇⟩ : ∃ nw, nw = (restOf g₀ h₇).filter (fun z => z.1 != L) := ⟨_, rfl⟩
        have hg₇ : g₀.StaysIn h₇ := F₇.keep
        have N₇ : News g₀ L h₇ ((fa, listOf (famOf q (Str.ofString "x") tx es).toArray n5) :: (th, listOf tvs.toArray n6) :: nw₇) := news_cons hfa₇ (nn _ (by simp)).1 (nn _ (by simp)).2 (news_cons hth₇ (nn _ (by simp)).1 (nn _ (by simp)).2 (by rw [hnw₇]; exact rest_news fun _ _ z => z))
        iterate 12 (first | walk1 | (dsimp only; walk1))
        · rename (2 : Int) < _ => hgt
          obtain ⟨j, rfl⟩ : ∃ j, i = j + 3 := ⟨i - 3, by omega⟩
          have hj : j < es.length := by omega
          have hx : es[j]? = some es[j] := List.getElem?_eq_getElem hj
          have hse : self = .ref es[j].e := by
            have hs' : (es.map fun y => Value.ref y.e)[j]? = some self := hself
            rw [List.getElem?_map, hx] at hs'
            exact (Option.some.inj hs').symm
          subst hse
          obtain ⟨T₁, dd₁, v₁, _, er⟩ := V₇.bk.tb_of hx
          obtain ⟨v₂, hv₂, hr₂⟩ := V₇.tok j _ hx
          iterate 10 (first | walk1 | (dsimp only; walk1))
          refine item_at (v := .ref es[j].e) hfa₇ (by omega) (by omega) (by rw [Int.toNat_natCast]; exact hself) ?_
          iterate 1 (first | walk1 | (dsimp only; walk1))
          refine call_type_obj er.obj rfl ?_
          iterate 10 (first | walk1 | (dsimp only; walk1))
          refine item_at (v := .ref es[j].e) hfa₇ (by omega) (by omega) (by rw [Int.toNat_natCast]; exact hself) ?_
          refine uo_args (G.X.keeps F₇.keep) er.obj ?_
          iterate 5 (first | walk1 | (dsimp only; walk1))
          refine item_at (v := v₂) hth₇ (by omega) (by omega) (by rw [Int.toNat_natCast]; exact hv₂) ?_
          iterate 2 (first | walk1 | (dsimp only; walk1))
          rename Fr _ _ _ _ => F₈
          rename News _ _ _ _ => N₈
          have kp₈ := rest_keep hg₇ F₈ N₈ (fun z hz => by rw [← hnw₇] at hz; exact .tail _ (.tail _ (.tail _ hz)))
          have gL : ∀ b o, g₇.get? b = some o → _ := fun b o z => kp₈ b o (V₇.bk.stays b o z) fun e => by rw [e, V₇.bk.off L (List.mem_append_left _ (V₇.xmu _ (SA.fx _ (.head _))))] at z; cases z
          obtain ⟨na, harg⟩ := er.arg
          have hdp := V₇.dep j _ hx
          refine args_ne (gL _ _ harg) (N₈ _ (.head _)).1 (er.rep.keeps fun b _ _ _ z => gL b _ z) (hr₂.keeps fun b _ _ _ z => gL b _ z) (by omega) (by show un + 3 + 64 < cLine; omega) ?_
          iterate 4 (first | walk1 | (dsimp only; walk1))
          rw [if_neg (by decide)]
          refine wpAny_execs_nil (wpAny_execs_nil ?_)
          refine fin _ _ _ F₈ ?_ kp₈
          intro y hy
          obtain ⟨y1, y2, y3, y4⟩ := not_st2 hy
          obtain ⟨z1, z2, z3, z4, z5, z6, z7⟩ := not_st y2
          simp [y1, z1, z2, z3, z4, z5, z6, z7, e₁]
        · rw [if_neg (by decide)]
          refine wpAny_execs_nil ?_
          refine wpAny_execs_nil ?_
          refine fin _ _ _ F₇ ?_ fun _ _ z _ => z
          intro y hy
          obtain ⟨y1, y2, y3, y4⟩ := not_st2 hy
          obtain ⟨z1, z2, z3, z4, z5, z6, z7⟩ := not_st y2
          simp [y1, z1, z2, z3, z4, z5, z6, z7, e₁]
      · obtain ⟨h', tk', u', g', mu', tbs', rfl, V', F', hIm, st⟩ := hJ
        obtain ⟨mu₂, V₂⟩ := V'.drop (hA := hA) (xs' := xsA L l fa ma th) [I] SA.lf (fun _ _ z => z) hkw (fun b hb => .inl hb) (fun b hb => hb) fun b hb => by
          rcases List.mem_singleton.mp hb with rfl
          exact ⟨hIm, fun hm => i2 (List.mem_append_left _ hm), i3, i5, i7, i6⟩
        exact ⟨rfl, h₁, tk₂, g', mu₂, tbs', rfl, V₂⟩
end
/-! ## law -/
section
theorem rs16 {b : Nat} (h1 : 1 ≤ b) (h2 : b ≤ 32) : Builtin.Range.small 0 (b : Int) 16 = true ∧ Builtin.Range.rangeSize 0 (b : Int) 16 = (((b + 15) / 16 : Nat) : Int) := by
  have h : ∀ c : Fin 33, 1 ≤ c.val → Builtin.Range.small 0 (c.val : Int) 16 = true ∧ Builtin.Range.rangeSize 0 (c.val : Int) 16 = (((c.val + 15) / 16 : Nat) : Int) := by decide +kernel
  exact h ⟨b, by omega⟩ h1
abbrev atN : PySem.Str := Str.ofString "at"
/-- the state between two turns of the law's loop -/
def J3 (g₀ : Heap) (s : Shared) (L D I : Addr) (m₀ : PySem.Str → Option Value) (ws : List Value) (St : Nat → Heap → Prop) (i : Nat) (s' : Shared) : Prop :=
  ∃ (h : Heap) (tk : Nat) (u : Option Value) (gT : Heap), s' = { s with heap := h, toks := tk } ∧ Fr g₀ L h (fun y => if y = atN then u else m₀ y) ∧ h.get? D = some (listOf ws.toArray 0) ∧ Tabs gT h ∧ gT.StaysIn h ∧ (∀ b ∈ [L, I] ++ tabAt, gT.get? b = none) ∧ g₀.StaysIn gT ∧ St i h
end
theorem law_post (a : List WData) : Challenge.rw_dm0230_09.row.claim.post a (.bool true) a = true := by
  first | with_unfolding_all rfl | kernel_rfl
theorem tabs_hide {gT h : Heap} {I : Addr} {x left step : Int} (hT : Tabs gT h) (hg : gT.StaysIn h) (hI : IsRangeIter h I x left step) : Tabs (hideAll gT [I]) h := by
  have one : ∀ {P lp qn}, TabSt gT h P lp qn → TabSt (hideAll gT [I]) h P lp qn := fun z => by
    rcases z with z | ⟨c, z, c', o, vs, t, e, hc, hd, hv⟩
    · exact .inl z
    · refine .inr ⟨c, z, c', o, vs, t, e, hideAll_get _ hc fun hm => ?_, hd, hv⟩
      rw [List.mem_singleton.mp hm] at hc
      have h1 := hg _ _ hc
      rw [hI] at h1
      cases h1
      cases hd
      simp [rawInt] at hv
  exact ⟨one hT.1, one hT.2.1, one hT.2.2⟩
theorem law_turn {g₀ gT₅ h₄ h₅ : Heap} {L D I : Addr} {m m₁ : PySem.Str → Option Value} {v : Value} {ws : List Value} {x left step : Int} {oL : Obj} {eL : Array DictEntry} {pL : Nat} {s : Shared} {tk : Nat}
    (kp₅ : ∀ b o, h₄.get? b = some o → b ∉ [L] → b ∉ tabAt → h₅.get? b = some o) (fr₅ : ∀ b ∈ [L], ∀ o, h₄.get? b = some o → ∃ sl, h₅.get? b = some { o with slots := sl }) (hT₅ : Tabs gT₅ h₅) (hgT₅ : gT₅.StaysIn h₅) (hoff₅ : ∀ b ∈ [L] ++ tabAt, gT₅.get? b = none) (hgg₅ : g₀.StaysIn gT₅)
    (zL : h₄.get? L = some oL) (dL : oL.data = .dict eL pL) (rL : StrKeys eL ∧ ∀ name, nsFind eL name = m name) (F₄ : Fr g₀ L h₄ m) (hSt : IsRangeIter h₄ I x left step) (nIL : I ≠ L) (nIg : g₀.get? I = none) (nIt : I ∉ tabAt) (hD : h₄.get? D = some (listOf ws.toArray 0)) (nDL : D ≠ L) (nDt : D ∉ tabAt) (gtab : ∀ b ∈ tabAt, g₀.get? b = none) (gL : g₀.get? L = none)
    (hm : ∀ y, m y = if y = atN then some v else m₁ y) (St : Nat → Heap → Prop) (i : Nat) (st : St i h₅ := by assumption) : J3 g₀ s L D I m₁ ws St i { s with heap := h₅, toks := tk } := by
  obtain ⟨sl, zL'⟩ := fr₅ L (.head _) oL zL
  have hSt₅ : IsRangeIter h₅ I x left step := kp₅ I _ hSt (fun hm => nIL (List.mem_singleton.mp hm)) nIt
  refine ⟨h₅, tk, some v, hideAll gT₅ [I], rfl, ⟨⟨_, eL, pL, zL', dL, rL.1, fun y => (rL.2 y).trans (hm y)⟩, fun b o z => kp₅ b o (F₄.keep b o z) (fun hb => ?_) (fun hb => ?_), F₄.above⟩, kp₅ _ _ hD (fun hb => nDL (List.mem_singleton.mp hb)) nDt, tabs_hide hT₅ hgT₅ hSt₅, fun b o z => hgT₅ b o (of_hideAll _ z), fun b hb => ?_, fun b o z => hideAll_get _ (hgg₅ b o z) fun hb => ?_, st⟩
  · rw [List.mem_singleton.mp hb, gL] at z; cases z
  · rw [gtab b hb] at z; cases z
  · by_cases hbI : b = I
    · rw [hbI]; exact hideAll_none _ (.head _)
    · have : gT₅.get? b = none := by
        rcases List.mem_append.mp hb with hb | hb
        · simp only [List.mem_cons, List.not_mem_nil, or_false] at hb
          rcases hb with rfl | rfl
          · exact hoff₅ _ (.head _)
          · exact absurd rfl hbI
        · exact hoff₅ b (List.mem_append_right _ hb)
      cases z : (hideAll gT₅ [I]).get? b with
      | none => rfl
      | some o => rw [of_hideAll _ z] at this; cases this
  · rw [List.mem_singleton.mp hb, nIg] at z; cases z
/-! ## the law holds -/
theorem law_holds : PySem.Challenge.rw_dm0230_09.Holds := by
  refine hd ?_
  k_go0
  iterate 11 (first | walk1 | (dsimp only; walk1))
  rename_i w s₀ s₁ mg mb G₀ Y fn ofn pm cd doc kV ho hcd hgens X₀ V₀ T₀ B₀ TE TW ns hs hlay0 hLy hr hl2 as1 as2 sc vs0 as3 hLs ra wl r0 hI hr2 hcond hcond2 hD h₁ X T K cH3 cH2 l0 D ws hx hI' hC' hL' l1 hy F N
  clear Y hs hlay0 hLy hl2 ra wl r0 X₀ V₀ B₀
  clear T₀ TE TW hT9 hr as1 as3 hI hr2 hD lifted hLs
  generalize hg₀ : ghostOf s₁.heap [(142, 138), (128, 124), (121, 117)] = g₀ at X T K F N cH3 cH2 codeHd
  generalize hL0 : s₁.heap.objs.size = L at F N l0 ⊢
  have G : Gnd w _ _ _ mg mb g₀ := ⟨X, T⟩
  have nD := N _ (.head _)
  have n138 := N _ (.tail _ (.head _))
  have n124 := N _ (.tail _ (.tail _ (.head _)))
  have n117 := N _ (.tail _ (.tail _ (.tail _ (.head _))))
  have gtab : ∀ b ∈ tabAt, g₀.get? b = none := fun b hb => by
    simp only [tabAt, List.mem_cons, List.not_mem_nil, or_false] at hb
    rcases hb with rfl | rfl | rfl
    · exact n117.2.2
    · exact n124.2.2
    · exact n138.2.2
  have gL : g₀.get? L = none := Heap.get?_none_of_le F.above
  have hnl : (List.take 32 ns).length ≤ 32 := by omega
  obtain ⟨m₁, e₁, F₁⟩ : ∃ m₁, m₁ = _ ∧ Fr g₀ L hy m₁ := ⟨_, rfl, F⟩
  clear F₁
  refine wpAny_execs_cons (wpAny_mono (Q := fun f s' => f = .next ∧ ∃ h tk gT m, s' = { s₁ with heap := h, toks := tk } ∧ Fr g₀ L h m ∧ Tabs gT h) ?loop ?rest (fun _ _ x => x))
  case rest =>
    rintro _ _ ⟨rfl, h, tk, gT, m, rfl, Fh, hTb⟩
    clear F N
    dsimp only
    iterate 2 (first | walk1 | (dsimp only; walk1))
    refine wpAny_Constant_bool ?_
    dsimp only
    refine ⟨goodW_bool Fh hgens (fun _ => rfl) (law_post _), ?_⟩
    · have ga : ∀ {P lp qn}, TabSt gT h P lp qn → GrownAt P h := fun z => z.elim (fun z => ⟨_, z⟩) fun ⟨_, z, _⟩ => ⟨_, z⟩
      exact ⟨ga hTb.2.2, ga hTb.2.1, ga hTb.1, trivial⟩
  case loop =>
    refine for_J ?_
    iterate 24 (first | walk1 | (dsimp only; walk1))
    rename Fr _ _ _ _ => F₁
    rename News _ _ _ _ => N₁
    rename_i hz tkz
    obtain ⟨b0, hb0, hb1, hb2⟩ : ∃ b0 : Nat, (if ((List.take 32 ns).length : Int) > 1 then ((List.take 32 ns).length : Int) else 1) = (b0 : Int) ∧ 1 ≤ b0 ∧ b0 ≤ 32 := ⟨max 1 (List.take 32 ns).length, by split <;> omega, by omega, by omega⟩
    rw [hb0]
    obtain ⟨hsm, hrs⟩ := rs16 hb1 hb2
    refine call_range_3 (by decide) ?_
    dsimp only
    refine wpAny_pyIter_range (IsRange.new ..) hsm ?_
    rw [hrs]
    generalize hR1 : hz.push { cls := Value.type "range", data := Data.fields _ } = hr1
    have k1 : ∀ b o, hz.get? b = some o → hr1.get? b = some o := fun b o z => by rw [← hR1]; exact Heap.get?_push_of_some _ z
    have zI : IsRangeIter (hr1.push { cls := .type "range_iterator", data := .fields #[rawInt 0, rawInt (((b0 + 15) / 16 : Nat) : Int), rawInt 16] }) hr1.objs.size 0 (((b0 + 15) / 16 : Nat) : Int) 16 := Heap.get?_push_size _ rfl
    generalize hR2 : hr1.push { cls := .type "range_iterator", data := .fields #[rawInt 0, rawInt (((b0 + 15) / 16 : Nat) : Int), rawInt 16] } = hJ at zI ⊢
    have kJ : ∀ b o, hz.get? b = some o → hJ.get? b = some o := fun b o z => by rw [← hR2]; exact Heap.get?_push_of_some _ (k1 b o z)
    have nI : hz.get? hr1.objs.size = none := fresh_at k1
    generalize hr1.objs.size = I at zI nI ⊢
    have nIL : I ≠ L := fun e => by obtain ⟨o, _, _, z, _⟩ := F₁.ns; rw [← e, nI] at z; cases z
    have nIg : g₀.get? I = none := by
      cases z : g₀.get? I with
      | none => rfl
      | some o => have y := F₁.keep _ _ z; rw [nI] at y; cases y
    have nID : I ≠ D := fun e => by have z := (N₁ _ (.head _)).1; rw [← e, nI] at z; cases z
    have nIt : I ∉ tabAt := fun hm => by
      simp only [tabAt, List.mem_cons, List.not_mem_nil, or_false] at hm
      rcases hm with rfl | rfl | rfl
      · have z := (N₁ _ (.tail _ (.tail _ (.tail _ (.head _))))).1; rw [nI] at z; cases z
      · have z := (N₁ _ (.tail _ (.tail _ (.head _)))).1; rw [nI] at z; cases z
      · have z := (N₁ _ (.tail _ (.head _))).1; rw [nI] at z; cases z
    refine ⟨I, [I], [I], (b0 + 15) / 16, _, _, _, J3 g₀ s₁ L D I m₁ ws (fun i h => IsRangeIter h I (0 + (i : Nat) * 16) ((((b0 + 15) / 16 : Nat) : Int) - (i : Nat)) 16), rfl, KTurns.ofWalks (Walks.range rfl I 0 16 ((b0 + 15) / 16)) (fun i v s Q E _ q => wpAny_pure q), ?_, fun i s' hJ => ?_, fun i v s' h₁ tk₂ hin hJ hP hSt hkw => ?_, fun s' h₁ tk₂ hJ hkw => ?_⟩
    · refine ⟨hJ, _, none, g₀, rfl, ⟨F₁.ns.keeps kJ |> fun z => ?_, fun b o z => kJ _ _ (F₁.keep _ _ z), F₁.above⟩, kJ _ _ (N₁ _ (.head _)).1, ⟨.inl (kJ _ _ (N₁ _ (.tail _ (.tail _ (.tail _ (.head _))))).1), .inl (kJ _ _ (N₁ _ (.tail _ (.tail _ (.head _)))).1), .inl (kJ _ _ (N₁ _ (.tail _ (.head _))).1)⟩, fun b o z => kJ _ _ (F₁.keep _ _ z), fun b hb => ?_, fun _ _ z => z, by simpa using zI⟩
      · have : (fun y => if y = atN then none else m₁ y) = m₁ := by
          funext y
          by_cases hy : y = atN
          · subst hy; rw [e₁]; rfl
          · rw [if_neg hy]
        rw [this, e₁]; exact z
      · rcases List.mem_append.mp hb with hb | hb
        · simp only [List.mem_cons, List.not_mem_nil, or_false] at hb
          rcases hb with rfl | rfl
          · exact gL
          · exact nIg
        · exact gtab b hb
    · obtain ⟨h, tk, u, gT, rfl, _, _, _, _, _, _, st⟩ := hJ
      exact st
    · obtain ⟨h, tk, u, gT, rfl, F₂, hD, hTb, hgT, hoff, hgg, _⟩ := hJ
      have kw : ∀ b o, h.get? b = some o → b ≠ I → h₁.get? b = some o := fun b o z hb => hkw b o (by simpa using hb) z
      have F₃ := fr_but F₂ kw (Ne.symm nIL) nIg
      have hD₁ := kw _ _ hD (Ne.symm nID)
      have hTb₁ : Tabs gT h₁ := hTb.keeps (fun _ _ z => z) fun b hb o z => kw b o z fun e => nIt (e ▸ hb)
      have hgT₁ : gT.StaysIn h₁ := fun b o z => kw b o (hgT b o z) fun e => by rw [e, hoff I (by simp)] at z; cases z
      clear F F₁ F₂ N₁
      obtain ⟨tv, rfl⟩ := hP
      obtain ⟨nw₁, hnw₁⟩ : ∃ nw, nw = (restOf g₀ h₁).filter (fun z => z.1 != L) := ⟨_, rfl⟩
      have N₃ : News g₀ L h₁ ((D, listOf ws.toArray 0) :: nw₁) := news_cons hD₁ nD.2.1 nD.2.2 (by rw [hnw₁]; exact rest_news fun _ _ z => z)
      have hi2 : i = 0 ∨ i = 1 := by omega
      have hg₁ : g₀.StaysIn h₁ := F₃.keep
      rw [e₁] at F₃
      have hLt : L ∉ tabAt := fun hm => by
        have y := gtab L hm
        simp only [tabAt, List.mem_cons, List.not_mem_nil, or_false] at hm
        rcases hm with e | e | e
        · exact n117.2.1 e.symm
        · exact n124.2.1 e.symm
        · exact n138.2.1 e.symm
      have hDt : D ∉ tabAt := fun hm => by
        simp only [tabAt, List.mem_cons, List.not_mem_nil, or_false] at hm
        have z := nD.1
        rcases hm with rfl | rfl | rfl
        · rw [n117.1] at z; cases z
        · rw [n124.1] at z; cases z
        · rw [n138.1] at z; cases z
      rcases hi2 with rfl | rfl
      · rw [show (0 + ((0 : Nat) : Int) * 16) = 0 from rfl]
        iterate 24 (first | walk1 | (dsimp only; walk1))
        rename Fr _ _ _ _ => F₄
        rename News _ _ _ _ => N₄
        rename IntsAre _ (List.take (0 + 16 : Int).toNat _) => hI₄
        rename_i sl₄ vs₄ h₄ _ _ _
        refine ⟨X.keeps F₄.keep, wpAny_call ?_⟩
        have kp₄ := rest_keep hg₁ F₄ N₄ (fun z hz => by rw [← hnw₁] at hz; exact .tail _ (.tail _ hz))
        have hTb₄ : Tabs gT h₄ := hTb₁.keeps (fun _ _ z => z) fun b hb o z => kp₄ b o z fun e => hLt (e ▸ hb)
        have hgT₄ : gT.StaysIn h₄ := fun b o z => kp₄ b o (hgT₁ b o z) fun e => by rw [e, hoff L (by simp)] at z; cases z
        obtain ⟨oL, eL, pL, zL, dL, rL⟩ := F₄.ns
        refine sixteen_call G (below_push K rfl rfl F₄) (Nat.le_of_lt (Nat.lt_of_le_of_lt F₄.above F₄.ns.lt)) (by decide) (by decide) (N₄ _ (.head _)).1 hI₄ (by rw [hI₄.length]; omega) codeHd cH2 cH3 gtab (fun b hb => ?fd) hTb₄ hgT₄ (fun b hb => ?off) hgg fun h₅ tk₅ gT₅ kp₅ fr₅ hT₅ hgT₅ hoff₅ hgg₅ => ?_
        case fd => rcases List.mem_singleton.mp hb with rfl; exact ⟨oL, eL, pL, zL, dL⟩
        case off =>
          rcases List.mem_append.mp hb with hb | hb
          · rcases List.mem_singleton.mp hb with rfl; exact hoff _ (by simp)
          · exact hoff b (List.mem_append_right _ hb)
        dsimp only
        iterate 2 (first | walk1 | (dsimp only; walk1))
        refine wpAny_execs_nil (wpAny_execs_nil ?_)
        exact law_turn (v := .int 0 tv) (m₁ := m₁) kp₅ fr₅ hT₅ hgT₅ hoff₅ hgg₅ zL dL rL F₄ (kp₄ _ _ hSt nIL) nIL nIg nIt (kp₄ _ _ hD₁ nD.2.1) nD.2.1 hDt gtab gL (fun y => by rw [e₁]; by_cases hy : y = atN <;> simp [hy]) _ _ (kp₅ I _ (kp₄ _ _ hSt nIL) (fun hm => nIL (List.mem_singleton.mp hm)) nIt)
      · rw [show (0 + ((1 : Nat) : Int) * 16) = 16 from rfl]
        iterate 24 (first | walk1 | (dsimp only; walk1))
        rename Fr _ _ _ _ => F₄
        rename News _ _ _ _ => N₄
        rename IntsAre _ (List.take (min (16 + 16 : Int).toNat _ - 16) _) => hI₄
        rename_i sl₄ vs₄ h₄ _ _ _
        refine ⟨X.keeps F₄.keep, wpAny_call ?_⟩
        have kp₄ := rest_keep hg₁ F₄ N₄ (fun z hz => by rw [← hnw₁] at hz; exact .tail _ (.tail _ hz))
        have hTb₄ : Tabs gT h₄ := hTb₁.keeps (fun _ _ z => z) fun b hb o z => kp₄ b o z fun e => hLt (e ▸ hb)
        have hgT₄ : gT.StaysIn h₄ := fun b o z => kp₄ b o (hgT₁ b o z) fun e => by rw [e, hoff L (by simp)] at z; cases z
        obtain ⟨oL, eL, pL, zL, dL, rL⟩ := F₄.ns
        refine sixteen_call G (below_push K rfl rfl F₄) (Nat.le_of_lt (Nat.lt_of_le_of_lt F₄.above F₄.ns.lt)) (by decide) (by decide) (N₄ _ (.head _)).1 hI₄ (by rw [hI₄.length]; omega) codeHd cH2 cH3 gtab (fun b hb => ?fd) hTb₄ hgT₄ (fun b hb => ?off) hgg fun h₅ tk₅ gT₅ kp₅ fr₅ hT₅ hgT₅ hoff₅ hgg₅ => ?_
        case fd => rcases List.mem_singleton.mp hb with rfl; exact ⟨oL, eL, pL, zL, dL⟩
        case off =>
          rcases List.mem_append.mp hb with hb | hb
          · rcases List.mem_singleton.mp hb with rfl; exact hoff _ (by simp)
          · exact hoff b (List.mem_append_right _ hb)
        dsimp only
        iterate 2 (first | walk1 | (dsimp only; walk1))
        refine wpAny_execs_nil (wpAny_execs_nil ?_)
        exact law_turn (v := .int 16 tv) (m₁ := m₁) kp₅ fr₅ hT₅ hgT₅ hoff₅ hgg₅ zL dL rL F₄ (kp₄ _ _ hSt nIL) nIL nIg nIt (kp₄ _ _ hD₁ nD.2.1) nD.2.1 hDt gtab gL (fun y => by rw [e₁]; by_cases hy : y = atN <;> simp [hy]) _ _ (kp₅ I _ (kp₄ _ _ hSt nIL) (fun hm => nIL (List.mem_singleton.mp hm)) nIt)
    · obtain ⟨h, tk, u, gT, rfl, F₂, _, hTb, _, _, _, _⟩ := hJ
      have kw : ∀ b o, h.get? b = some o → b ≠ I → h₁.get? b = some o := fun b o z hb => hkw b o (by simpa using hb) z
      exact ⟨rfl, h₁, tk₂, gT, _, rfl, fr_but F₂ kw (Ne.symm nIL) nIg, hTb.keeps (fun _ _ z => z) fun b hb o z => kw b o z fun e => nIt (e ▸ hb)⟩
end Mine

theorem PySem.Challenge.cw_dm0230_09_holds : PySem.Challenge.rw_dm0230_09.Holds :=
  Mine.law_holds
