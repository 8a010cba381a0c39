import PyProof.Rows.All
import Wide.All
import OpenK.AllK
import Wide.FinOn
import Lean
import PySem.Challenge.RW_bb0045_01
open PySem PySem.W PyProof.Rows PySem.Calls
set_option Elab.async false
set_option linter.unusedVariables false
set_option maxRecDepth 100000
set_option rowWalk.seconds 0
/- the head: the run of the text's top -/
namespace Mine
section TopXsec
local macro_rules | `(tactic| k_head) => `(tactic| x_head)
set_option maxRecDepth 100000 in
set_option maxHeartbeats 8000000 in
open_top hd for PySem.Challenge.rw_bb0045_01

end TopXsec
end Mine
/- rules for classes with __getattr__; weakening of a contract; a caught own exception -/
namespace Mine
section B1sec
theorem weaken {α : Type} {M : Model} {A A' : Around} {t : Sem α} {Q : α → Shared → Prop} {E : Value → Shared → Prop} {s : Shared} (h : wpAny M A' t Q E s)
    (hh : A.handled = A'.handled) (hf : A'.frames = A.frames) (hg : A'.guards = A.guards) (hd : A.depth ≤ A'.depth) (hu : A.units ≤ A'.units) : wpAny M A t Q E s :=
  fun Γ p hΓ => h Γ p ⟨hΓ.1.trans hh, Nat.le_trans hΓ.2.1 hd, fun l hl => hΓ.2.2.1 l (hf ▸ hl), fun g hl => hΓ.2.2.2.1 g (hg ▸ hl), Nat.le_trans hΓ.2.2.2.2 hu⟩

section
variable {prog : Program} {w : World} {A : Around} {E : Value → Shared → Prop} {s : Shared} {K : Frag} {x C p L : Addr} {h₀ : Heap} {m : Str → Option Value} {ox : Obj} {od : Option Obj} {name : Str} {expr : Bool} {Q : Value → Shared → Prop}

theorem get_bindH {g a fh : Value} (X : K.In s.heap) (I : InstAt s.heap x ox C od) (hga : findIn K (.ref C) "__getattribute__" = some (some (.builtin "object.__getattribute__")))
    (hf : findObj K C od name = some (.bind g a)) (hk : findIn K (.ref C) "__getattr__" = some (some fh))
    (h : wpAny (model prog w) A.in1 (call g [a, .ref x, .ref C]) (fun v s' => wpAny (model prog w) A (handedOut v) Q E s') (fun _ _ => False) { s with toks := s.toks + 1 }) :
    wpAny (model prog w) A (getAttr (.ref x) name expr) Q E s := by
  refine get_open X I hga ?_
  obtain ⟨hh', gg, d, t, os⟩ := s
  have L0 := I.type (M := model prog w)
  have L1 := looks_find (M := model prog w) X I hf
  have L2 := looks_findIn (M := model prog w) X hk
  refine wpAny_bind (wpAny_pure (wpAny_bind (L0.at (wpAny_bind (L1.at (wpAny_bind (L2.at ?_)))))))
  show wpAny _ _ ((holding [fh] (holding [a] (call g [a, .ref x, .ref C]) >>= ret)).attempt >>= _) _ _ _
  refine wpAny_bind (wpAny_attempt (wpAny_holding (wpAny_bind (wpAny_holding (wpAny_mono h (fun v s' z => wpAny_pure (wpAny_pure z)) fun _ _ z => z.elim)))))

/-- a slot of an object whose class has __getattr__ -/
theorem get_slotH {v fh : Value} {i : Nat} {od : Obj} (F : Fr h₀ L s.heap m) (X₀ : K.In h₀) (I : InstAt s.heap x ox C (some od)) (hga : findIn K (.ref C) "__getattribute__" = some (some (.builtin "object.__getattribute__"))) (hk : findIn K (.ref C) "__getattr__" = some (some fh))
    (hc : isClsIn K C = true) (ha : findIn K (.ref C) name = some (some (.ref p))) (hn : specialIn K (.ref p) "__get__" = some (some (.builtin "member_descriptor.__get__"))) (ht : takesIn K (.ref p) = some true) (hp : slotIn K p C = some i)
    (hv : (ox.slots[i]?).join = some v) (hh : handedIn v = true) (h : Q v { s with toks := s.toks + 1 }) : wpAny (model prog w) A (getAttr (.ref x) name expr) Q E s :=
  get_bindH (X₀.keeps F.keep) I hga (findObj_data hc ha hn ht) hk (wpAny_call (slot_get (s := { s with toks := s.toks + 1 }) (X₀.keeps F.keep) I hp hv (handed_on hh h)))

/-- a property of an object whose class has __getattr__; its getter raises nothing -/
theorem get_propH {fh : Value} {od : Obj} {fget : Addr} {rest : List Value} (F : Fr h₀ L s.heap m) (X₀ : K.In h₀) (I : InstAt s.heap x ox C (some od)) (hga : findIn K (.ref C) "__getattribute__" = some (some (.builtin "object.__getattribute__"))) (hk : findIn K (.ref C) "__getattr__" = some (some fh))
    (hc : isClsIn K C = true) (ha : findIn K (.ref C) name = some (some (.ref p))) (hn : specialIn K (.ref p) "__get__" = some (some (.builtin "property.__get__"))) (ht : takesIn K (.ref p) = some true) (hp : recIn K p "property" = some (.ref fget :: rest))
    (h : codeAny (model prog w) A.in1 (.call (.ref fget) ⟨[.ref x], []⟩) (fun r s' => match r with | .ok (.ret v) => wpAny (model prog w) A (handedOut v) Q E s' | .ok _ => False | .error e => False) { s with toks := s.toks + 1 }) :
    wpAny (model prog w) A (getAttr (.ref x) name expr) Q E s :=
  get_bindH (X₀.keeps F.keep) I hga (findObj_data hc ha hn ht) hk (wpAny_call (prop_get (s := { s with toks := s.toks + 1 }) (X₀.keeps F.keep) hp h))

/-- a method call's reading where the class has __getattr__: the attribute is read as usual -/
theorem get_methodH {pl : Sem Bool} {fh : Value} {Q : Value × List Value → Shared → Prop} (F : Fr h₀ L s.heap m) (X₀ : K.In h₀) (I : InstAt s.heap x ox C od) (hga : findIn K (.ref C) "__getattribute__" = some (some (.builtin "object.__getattribute__")))
    (hk : findIn K (.ref C) "__getattr__" = some (some fh)) (h : wpAny (model prog w) A (getAttr (.ref x) name false) (fun v => Q (v, [])) E s) : wpAny (model prog w) A (getMethod (.ref x) name pl) Q E s := by
  have X := X₀.keeps F.keep
  obtain ⟨hh', gg, d, t, os⟩ := s
  have L0 := I.type (M := model prog w)
  have L1 := looks_findIn (M := model prog w) X hga
  have L2 := looks_findIn (M := model prog w) X hk
  unfold getMethod specialOf
  refine wpAny_bind (wpAny_bind (L0.at (L1.at ?_)))
  dsimp only
  have e : ¬ ((Manifest.canonical "object.__getattribute__" != "object.__getattribute__") = true) := by decide +kernel
  rw [if_neg e]
  refine wpAny_bind (wpAny_bind (L0.at (L2.at ?_)))
  rw [if_pos (by rfl)]
  exact wpAny_bind (wpAny_mono h (fun _ _ z => wpAny_pure z) fun _ _ z => z)
end

section
variable {M : Model} {A : Around} {E : Value → Shared → Prop} {s : Shared} {env : Env}
variable {nm q : Str} {C N : Addr} {bs bm : List Value} {hdct : Bool} {sn : List Str} {sub : List Value} {ab : Bool} {col : Option Bool} {dd : Option Addr} {k0 k1 k2 k3 k5 : Option Value} {newId : String}
/-- raise of an object that the expression gives -/
theorem raise_inst {x : PySem.Expr} {pos : Pos} {Q : Flow → Shared → Prop} (hbase : bm.contains (.type "BaseException") = true) (hh : A.handled = none)
    (h : wpAny M A (eval x env) (fun v s₁ => ∃ e t, v = .ref e ∧ s₁.heap.get? C = some (excClassObj nm q C N bs bm hdct sn sub ab col dd k0 k1 k2 k3 k5 newId) ∧
      s₁.heap.get? e = some { cls := .ref C, data := .fields #[.ref t, .none, .none, .none, .bool false, .none] } ∧ E (.ref e) s₁) E s) :
    wpAny M A (exec (.Raise (some x) none pos) env) Q E s := by
  rw [arm_exec_Raise]
  refine wpAny_bind (wpAny_standAt (wpAny_raiseStmt_made_sub (C := C) (nm := nm) (q := q) (N := N) (bs := bs) (bm := bm) (hdct := hdct) (sn := sn) (sub := sub) (ab := ab) (col := col) (dd := dd) (k0 := k0) (k1 := k1) (k2 := k2) (k3 := k3) (k5 := k5) (newId := newId) hbase hh ?_))
  refine wpAny_bind (wpAny_mono h (fun v s₁ hv => wpAny_bind (wpAny_standAt (wpAny_pure hv))) fun _ _ z => z)
end

section
variable {prog : Program} {w : World} {A₀ : Around} {E : Value → Shared → Prop} {s' : Shared} {h₀ h : Heap} {outer : List Env} {L a e t : Addr} {m : Str → Option Value} {name : Str} {scope : Scope} {cd : Value}
  {vs : List Value} {b₀ : Stmt} {suite : List Stmt} {pos np : Pos} {rest : List ExceptHandler} {Q : Flow → Shared → Prop} {news : List (Addr × Obj)} {KF : Frag}
  {p : Program} {loose : List Str} {mg mb : Str → Option Value} {x : Str}
  {nm q : Str} {C N : Addr} {bs bm : List Value} {hdct : Bool} {sn : List Str} {sub : List Value} {ab : Bool} {col : Option Bool} {dd : Option Addr} {k0 k1 k2 k3 k5 : Option Value} {newId : String}
/-- an own exception caught by its class's name, whatever its __init__ -/
theorem caughtC (K : Below A₀ h₀ outer h₀) (F : Fr h₀ L h m) (hsm : h.UpToSlots s'.heap) (R : RaisedK h₀ (envOf name scope L a cd :: outer) e (.ref C) t vs news s'.heap)
    (X : KF.In h₀) (T : TopRead p loose mg mb h₀) (ex : nsIn KF mainGlobals x = some (some (.ref C))) (hCl : h₀.get? C = some (excClassObj nm q C N bs bm hdct sn sub ab col dd k0 k1 k2 k3 k5 newId)) (hbase : bm.contains (.type "BaseException") = true)
    (k : ∀ h' news₂, Fr h₀ L h' m → News h₀ L h' news₂ → Got news₂ e t (.ref C) vs → News h₀ L h' news →
      wpAny (model prog w) ((A₀.deeper (envOf name scope L a cd)).mark (some (.ref e))) (execs (b₀ :: suite) (envOf name scope L a cd)) Q E { s' with heap := h' })
    (hk : scope.kind = .function := by rfl) (hx : (envOf name scope L a cd).kindOf x = some .globalImplicit := by rfl) (hd : (x == ("__debug__" : Str)) = false := by decide)
    (hE : PassesOwnAt (model prog w) ((A₀.deeper (envOf name scope L a cd)).mark (some (.ref e))) (A₀.deeper (envOf name scope L a cd)) (envOf name scope L a cd) E := by passes_own) :
    wpAny (model prog w) (A₀.deeper (envOf name scope L a cd)) (noteFrame (.ref e) (envOf name scope L a cd))
      (fun _ s₂ => wpAny (model prog w) (A₀.deeper (envOf name scope L a cd)) (setFlight (.ref e) none) (fun _ s₃ =>
        wpAny (model prog w) (A₀.deeper (envOf name scope L a cd)) (handleBy (.ref e) (envOf name scope L a cd) (.ExceptHandler (some (.Name x np)) none (b₀ :: suite) pos :: rest)) Q E s₃) E s₂) E s' := by
  obtain ⟨⟨B, hB, hl, hfl, hnew⟩, htup⟩ := R
  have hL : B.get? L = none := by
    obtain ⟨_, ⟨L', _, hf, hn', _⟩, _⟩ := hfl.2.2.1
    obtain rfl : L = L' := Option.some.inj hf
    exact hn'
  refine wpAny_looks_onW (Around.frames_deeper K.stack) rfl hfl fun h₄ hheld₄ hsm₄ => ?_
  refine wpAny_landsW hheld₄ fun h₅ hheld hsm₅' => ?_
  have hsm₅ := hsm₄.trans hsm₅'
  have hheld' := flyingW_base hB hheld
  have F₅ := F.of_stays hheld'.1 (hsm.trans hsm₅)
  obtain ⟨ob, hob, hobc⟩ := hheld'.there
  refine wpAny_handleBy_cons (codeAny_handlers_test (name_K F₅ X T ex ?_ hk hx hd)) (by intro q; cases q)
  refine wpAny_excMatches_sub_self (F₅.keep _ _ hCl) hob hobc hbase (codeAny_handlers_suite ?_)
  refine lands_againW hheld fun h₆ hfl₆ hsm₆ => ?_
  have hfl₆' := flyingW_base hB hfl₆
  have F₆ := F.of_stays hfl₆'.1 ((hsm.trans hsm₅).trans hsm₆)
  obtain ⟨oe, ws, hoe, hoec, hoed, hoe0⟩ := hfl₆'.first
  obtain ⟨ot, nt, hot, hotc, hotd⟩ := (htup.of_slots hsm₅).of_slots hsm₆
  have N₆ := News.more F₆ (News.more F₆ News.nil hot (fun es n q => by rw [hotd] at q; cases q) (fresh_of_stays hB hnew)) hoe (fun es n q => by rw [hoed] at q; cases q) hfl₆'.2.1
  exact wpAny_passesOwnAt hE (k h₆ _ F₆ N₆ ⟨oe, ot, ws, nt, .head _, .tail _ (.head _), hoec, hoed, hoe0, hotc, hotd⟩ fun q hq => ⟨hfl₆.1 _ _ (hl q hq).1, (fun z => by have := (hl q hq).1; rw [z, hL] at this; cases this), (hl q hq).2⟩)
end

end B1sec
end Mine
/- super of a made error -/
namespace Mine
section B2sec
theorem slot_wd_get : Slot "wrapper_descriptor" "__get__" "wrapper_descriptor.__get__" := .of (owner := "wrapper_descriptor") (n := "__get__") (by rw [typeLookup_type, builtinLookup_eq_fast]; kernel_rfl) (by decide +kernel) (by decide +kernel) (by decide +kernel)
  (by first | exact .inl (by decide +kernel) | exact .inr (by decide +kernel)) (by rw [isSubtype_type]; kernel_rfl)
theorem entry_wd_get : entryFor table "wrapper_descriptor.__get__" = some Builtin.«wrapper_descriptor.__get__» := entryFor_of_tree (by kernel_rfl)
theorem args_wd_get (a b c : Value) : argsOk "wrapper_descriptor.__get__" ⟨[a, b, c], []⟩ := by unfold argsOk; kernel_rfl
theorem type_ei : typeOf (.builtin "Exception.__init__") = pure (.type "wrapper_descriptor") := by kernel_rfl

section
variable {prog : Program} {w : World} {A : Around} {E : Value → Shared → Prop} {h : Heap} {g : Array GenState} {d : Drawn} {t : Nat} {os : OsState}
variable {nm q : Str} {C N : Addr} {bs bm : List Value} {hdct : Bool} {sn : List Str} {sub : List Value} {ab : Bool} {col : Option Bool} {dd : Option Addr} {k0 k1 k2 k3 k5 : Option Value} {newId : String}

theorem wd_get {x : Addr} {ox : Obj} {Q : Value → Shared → Prop} (hx : h.get? x = some ox) (hxc : ox.cls = .ref C)
    (hC : h.get? C = some (excClassObj nm q C N bs bm hdct sn sub ab col dd k0 k1 k2 k3 k5 newId)) (hb : bm.contains (.type "Exception") = true)
    (hq : Q (.ref h.objs.size) ⟨h.push { cls := .type "method-wrapper", data := .fields #[.builtin "Exception.__init__", .ref x] }, g, d, t, os⟩) :
    wpAny (model prog w) A (call (.builtin "wrapper_descriptor.__get__") [.builtin "Exception.__init__", .ref x, .ref C]) Q E ⟨h, g, d, t, os⟩ := by
  have hcB : (Value.ref C :: bm).contains (.type "Exception") = true := by rw [List.contains_cons, hb, Bool.or_true]
  have hnm : ".".intercalate ("Exception.__init__".cutAt '.').dropLast = "Exception" := by decide +kernel
  refine wpAny_call_entry slot_wd_get type_ei entry_wd_get ?_ (args_wd_get _ _ _)
  unfold Builtin.«wrapper_descriptor.__get__»
  repeat (first | (with_reducible refine wpAny_loadPart_at hx ?_; rw [hxc]) | ((with_reducible show wpAny _ _ (isSubtype _ _) _ _ _); rw [hnm]; refine wpAny_isSubtype_exc hC ?_; rw [hcB]) | wp_step)
  exact ⟨_, rfl, hq⟩

theorem super_gaB {so D x : Addr} {id : String} {l₀ l : List Value} {K : Frag} {name : Str} {tk : Tok} {Q : Fin → Shared → Prop}
    (hso : h.get? so = some { cls := .type "super", dict := none, data := .fields #[.ref D, .ref x, .ref C], slots := #[] }) (hno : Looks (model prog w) h (opaqueClassAbove (.ref C)) none)
    (hC : Looks (model prog w) h (mroOf (.ref C)) l₀) (hl : (l₀.dropWhile (· != .ref D)).drop 1 = l) (X : K.In h)
    (hf : alongIn K name l = some (some (.builtin id))) (hty : typeOf (.builtin id) = pure (.type "wrapper_descriptor")) (hxC : x ≠ C) (hn : (name == ("__class__" : Str)) = false)
    (hwd : wpAny (model prog w) A (call (.builtin "wrapper_descriptor.__get__") [.builtin id, .ref x, .ref C]) (fun v s' => Q (.done (.ret v)) s') E ⟨h, g, d, t, os⟩) :
    wpAny (model prog w) A (Builtin.«super.__getattribute__» ⟨[.ref so, .str name tk], []⟩) Q E ⟨h, g, d, t, os⟩ := by
  have hlk := slot_wd_get.lookup
  have hne : (Value.ref x == Value.ref C) = false := by simp [hxC]
  have hdt : ({ cls := .type "super", dict := none, data := .fields #[.ref D, .ref x, .ref C], slots := #[] } : Obj).data = .fields #[.ref D, .ref x, .ref C] := rfl
  have f0 : (#[.ref D, .ref x, .ref C] : Array Value)[0]? = some (.ref D) := rfl
  have f1 : (#[.ref D, .ref x, .ref C] : Array Value)[1]? = some (.ref x) := rfl
  have f2 : (#[.ref D, .ref x, .ref C] : Array Value)[2]? = some (.ref C) := rfl
  unfold Builtin.«super.__getattribute__»
  repeat (first
    | (with_reducible refine wpAny_mono hwd (fun v s' hv => ?_) (fun _ _ z => z))
    | (with_reducible refine wpAny_field hso hdt f0 ?_) | (with_reducible refine wpAny_field hso hdt f1 ?_) | (with_reducible refine wpAny_field hso hdt f2 ?_)
    | (with_reducible refine ks_wpAny_notOpaque hno ?_)
    | (with_reducible refine Looks.at hC ?_; rw [hl])
    | (refine ks_forIn_along X (fun _ _ => rfl) rfl ?_ hf)
    | (with_reducible refine wpAny_of_eq hty ?_)
    | (simp only [hn, hne, Bool.or_false, Bool.false_eq_true, if_false])
    | wp_step
    | dsimp only)
  all_goals exact hv
end

end B2sec
end Mine
/- an own exception made by an inherited __init__ -/
namespace Mine
section B3sec
abbrev mwObj (x : Addr) : Obj := { cls := .type "method-wrapper", dict := none, data := .fields #[.builtin "Exception.__init__", .ref x], slots := #[] }
abbrev excObj (C t : Addr) : Obj := { cls := .ref C, dict := none, data := .fields #[.ref t, .none, .none, .none, .bool false, .none], slots := #[] }
abbrev tupObj (vs : List Value) : Obj := { cls := .type "tuple", dict := none, data := .seq vs.toArray 0, slots := #[] }

section
variable {prog : Program} {w : World} {A : Around} {E : Value → Shared → Prop} {h : Heap} {g : Array GenState} {d : Drawn} {t : Nat} {os : OsState}
variable {nm q : Str} {C N : Addr} {bs bm : List Value} {hdct : Bool} {sn : List Str} {sub : List Value} {ab : Bool} {col : Option Bool} {dd : Option Addr} {k0 k1 k2 k3 k5 : Option Value} {newId : String}

theorem getMethod_superB {so D x : Addr} {ox : Obj} {l₀ l : List Value} {K : Frag} {name : Str} {pl : Sem Bool} {Q : Value × List Value → Shared → Prop}
    (hso : h.get? so = some { cls := .type "super", dict := none, data := .fields #[.ref D, .ref x, .ref C], slots := #[] }) (hno : Looks (model prog w) h (opaqueClassAbove (.ref C)) none)
    (hC : Looks (model prog w) h (mroOf (.ref C)) l₀) (hl : (l₀.dropWhile (· != .ref D)).drop 1 = l) (X : K.In h)
    (hf : alongIn K name l = some (some (.builtin "Exception.__init__"))) (hx : h.get? x = some ox) (hxc : ox.cls = .ref C)
    (hCl : h.get? C = some (excClassObj nm q C N bs bm hdct sn sub ab col dd k0 k1 k2 k3 k5 newId)) (hb : bm.contains (.type "Exception") = true) (hxC : x ≠ C) (hn : (name == ("__class__" : Str)) = false)
    (hq : Q (.ref h.objs.size, []) ⟨h.push (mwObj x), g, d, t + 1, os⟩) :
    wpAny (model prog w) A (getMethod (.ref so) name pl) Q E ⟨h, g, d, t, os⟩ := by
  have hlk := F.ks_slot_super_ga.lookup
  have hcan := F.ks_canon_super_ga
  have hT : ∀ t', (⟨h, g, d, t', os⟩ : Shared).TypeIs (.ref so) "super" := fun _ => ⟨_, hso, rfl⟩
  unfold getMethod
  refine wpAny_bind (wpAny_specialOf (hT _) hlk ?_)
  show wpAny _ _ (if (Manifest.canonical "super.__getattribute__" != "object.__getattribute__") = true then _ else _) _ _ _
  rw [if_pos hcan]
  unfold getAttr getAttrBy
  refine wpAny_bind (wpAny_bind (wpAny_mkText (wpAny_holding (wpAny_bind (wpAny_typeOf (hT _) (wpAny_bind (wpAny_of_eq hlk ?_)))))))
  show wpAny _ _ (getAttrByItsOwn (.ref so) (.str name t) (.type "super") (.builtin "super.__getattribute__") true false) _ _ _
  unfold getAttrByItsOwn hookBefore callGetattribute boundAndCalled
  refine wpAny_bind (wpAny_of_eq (show (if onTheHeap (.type "super") then typeLookup (.type "super") "__getattr__" else pure none) = pure none from rfl) ?_)
  refine wpAny_bind (wpAny_attempt (wpAny_holding ?_))
  show wpAny _ _ (bindSpecial (.builtin "super.__getattribute__") (.ref so) >>= _) _ _ _
  refine wpAny_bind (wpAny_of_eq (F.ks_slot_super_ga.bind _) ?_)
  refine wpAny_mono (Q := fun v s' => v = .ref h.objs.size ∧ s' = ⟨h.push (mwObj x), g, d, t + 1, os⟩) (E := fun _ _ => False)
    (wpAny_call_entry F.ks_slot_super_ga (hT _) F.ks_entry_super_ga (super_gaB hso hno hC hl X hf type_ei hxC hn (wd_get hx hxc hCl hb ⟨_, rfl, rfl, rfl⟩)) (F.ks_gaArgs_super _ _)) (fun v s' hv => ?_) fun _ _ z => z.elim
  obtain ⟨rfl, rfl⟩ := hv
  exact wpAny_pure (wpAny_pure hq)

/-- the bound Exception.__init__ called with one thing: the exception's args are that thing -/
theorem mw_call {mw x t₀ : Addr} {v : Value} {Q : Value → Shared → Prop} (hmw : h.get? mw = some (mwObj x)) (hx : h.get? x = some (excObj C t₀))
    (hCl : h.get? C = some (excClassObj nm q C N bs bm hdct sn sub ab col dd k0 k1 k2 k3 k5 newId)) (hb : bm.contains (.type "Exception") = true)
    (hq : Q .none ⟨(h.push (tupObj [v])).update x (Obj.mapFields fun y => y.setIfInBounds 0 (.ref h.objs.size)), g, d, t, os⟩) :
    wpAny (model prog w) A (call (.ref mw) [v]) Q E ⟨h, g, d, t, os⟩ := by
  have F := PySem.F.excBase_Exception
  have hcB : (Value.ref C :: bm).contains (.type "Exception") = true := by rw [List.contains_cons, hb, Bool.or_true]
  refine wpAny_call (codeAny_of_tree ?_)
  show wpAny _ _ (callAny (.ref mw) _) _ _ _
  refine nd_load hmw ?_
  show wpAny _ _ (checkBoundCall "Exception.__init__" ⟨[.ref x, v], []⟩ >>= fun _ => again (.builtin "Exception.__init__" ⟨[.ref x, v], []⟩)) _ _ _
  refine wpAny_bind ?_
  simp only [checkBoundCall, F.initRow, F.initKind]
  rw [if_pos (by decide)]
  have hshort := F.noStar
  repeat (first | (with_reducible refine wpAny_loadPart_at hx ?_) | with_reducible refine wpAny_loadPart_at hCl ?_ | (with_reducible refine wpAny_isSubtype_exc hCl ?_; rw [hcB]) | wp_step)
  refine ⟨Code.quiet_builtin _ (by decide +kernel), ?_⟩
  refine codeAny_builtin F.initEntry ?_
  unfold Builtin.«BaseException.__init__»
  repeat (first | wp_step)
  exact hq
end

section
variable {h : Heap} {g : Array GenState} {d : Drawn} {t : Nat} {os : OsState}
variable {nm q : Str} {C N : Addr} {bs bm : List Value} {hdct : Bool} {sn : List Str} {sub : List Value} {ab : Bool} {col : Option Bool} {dd : Option Addr} {k0 k1 k2 k3 k5 : Option Value} {newId : String}
theorem check_newX {M : Model} {A : Around} {E : Value → Shared → Prop} {rest : List Value} {Q : Unit → Shared → Prop} (hC : h.get? C = some (excClassObj nm q C N bs bm hdct sn sub ab col dd k0 k1 k2 k3 k5 "Exception.__new__"))
    (hcont : (Value.ref C :: bm).contains (.type "Exception") = true) (hq : Q () ⟨h, g, d, t, os⟩) : wpAny M A (checkBuiltinCall "Exception.__new__" ⟨.ref C :: rest, []⟩) Q E ⟨h, g, d, t, os⟩ := by
  have Fn := PySem.F.excBase_Exception
  have hstar := Fn.noStar
  simp only [checkBuiltinCall, Fn.newKind, Fn.newSplit, Fn.newRow]
  repeat (first | refine wpAny_loadPart_at hC ?_ | (refine wpAny_isSubtype_exc hC ?_; rw [hcont]) | refine wpAny_staticBase_exc hC ?_ | refine wpAny_madeBy_exc hC ?_ | simp only [bne_self_eq_false, Bool.false_eq_true, if_false] | wp_step)
  exact hq

theorem code_newX {prog : Program} {w : World} {A : Around} {R : Result → Shared → Prop} {rest : List Value} (hC : h.get? C = some (excClassObj nm q C N bs bm hdct sn sub ab col dd k0 k1 k2 k3 k5 "Exception.__new__"))
    (hcB : (Value.ref C :: bm).contains (.type "Exception") = true) (hcA : (Value.ref C :: bm).contains (.type "AttributeError") = false) (hcN : (Value.ref C :: bm).contains (.type "NameError") = false)
    (hq : R (.ok (.ret (.ref (h.objs.size + 1)))) ⟨(h.push { cls := .type "tuple", data := .seq rest.toArray }).push
      { cls := .ref C, data := .fields #[.ref h.objs.size, .none, .none, .none, .bool false, .none] }, g, d, t, os⟩) (hrest : rest.length ≤ sizeLine := by size_fits) :
    codeAny (model prog w) A (.builtin "Exception.__new__" ⟨.ref C :: rest, []⟩) R ⟨h, g, d, t, os⟩ := by
  have Fn := PySem.F.excBase_Exception
  have hends := Fn.ends
  refine codeAny_builtinAt Fn.entry ?_
  unfold Builtin.«BaseException.__new__»
  refine _root_.PySem.wpAt_bind ?_
  show _root_.PySem.wpAt _ _ _ (stack >>= _) _ _ _
  refine _root_.PySem.wpAt_bind (_root_.PySem.wpAt_stack fun p below => _root_.PySem.wpAt_of_wpAny ?_)
  wp_walk
  refine _root_.PySem.wpAt_of_wpAny ?_
  rw [Fn.owner]
  repeat (first | with_reducible refine wpAny_madeHere_exc Fn.canon hC ?_ | with_reducible refine wpAny_loadPart_at hC ?_ | (with_reducible refine wpAny_isSubtype_exc hC ?_; first | rw [hcB] | rw [hcA] | rw [hcN]) | wp_step)
  show R _ _
  rw [Heap.size_push]
  exact hq
end

section
variable {prog : Program} {w : World} {A : Around} {E : Value → Shared → Prop} {s : Shared} {K : Frag} {x C L so D mw t₀ fI : Addr} {h₀ : Heap} {m : Str → Option Value} {news : List (Addr × Obj)} {ox : Obj} {odx : Option Obj}
variable {nm q : Str} {N : Addr} {bs bm : List Value} {hdct : Bool} {sn : List Str} {sub : List Value} {ab : Bool} {col : Option Bool} {dd : Option Addr} {k0 k1 k2 k3 k5 : Option Value} {newId : String}

theorem inst_exc {sl : Array (Option Value)} {fs : Array Value} {h : Heap} (N : News h₀ L h news) (h1 : (x, (⟨.ref C, none, .fields fs, sl⟩ : Obj)) ∈ news) : InstAt h x ⟨.ref C, none, .fields fs, sl⟩ C none := ⟨(N _ h1).1, rfl, rfl, trivial⟩

theorem getMethod_superK {name : Str} {pl : Sem Bool} {Q : Value × List Value → Shared → Prop} (F : Fr h₀ L s.heap m) (X₀ : K.In h₀) (Nn : News h₀ L s.heap news) (hso : (so, ks_superObj D x C) ∈ news) (I : InstAt s.heap x ox C odx) (ho : nsIn K cStatics "thirdparty.any" = some none)
    (hm : ks_superIn K C D name = some (some (.builtin "Exception.__init__"))) (hCl : K.lookup C = some (excClassObj nm q C N bs bm hdct sn sub ab col dd k0 k1 k2 k3 k5 newId)) (hb : bm.contains (.type "Exception") = true) (hn : (name == ("__class__" : Str)) = false)
    (h : ∀ q' h', Fr h₀ L h' m → News h₀ L h' ((q', mwObj x) :: news) → (∀ p ∈ news, p.1 < q') → Q (.ref q', []) { s with heap := h', toks := s.toks + 1 }) : wpAny (model prog w) A (getMethod (.ref so) name pl) Q E s := by
  have X : K.In s.heap := X₀.keeps F.keep
  obtain ⟨hh, g, d, t, os⟩ := s
  cases hc : clsIn K C with
  | none => unfold ks_superIn at hm; rw [hc] at hm; cases hm
  | some cd =>
    unfold ks_superIn at hm
    rw [hc] at hm
    refine getMethod_superB (Nn _ hso).1 (looks_opaque X ho) (l₀ := cd.mro) ?_ rfl X hm I.at_ I.cls (X _ _ hCl) hb (ks_ne X I hc) hn ?_
    · exact fun A Q E s k q => wpAny_bind ((looks_clsIn X hc) A _ E s k (wpAny_pure q))
    · obtain ⟨F', N', l'⟩ := ks_newsPush (s := ⟨hh, g, d, t, os⟩) (o := mwObj x) F Nn rfl (Heap.get?_push_at rfl rfl) (fun b o e => Heap.get?_push_of_some _ e)
      exact h _ _ F' N' l'

theorem mw_callK {v : Value} {news' : Addr → List (Addr × Obj)} {Q : Value → Shared → Prop} (F : Fr h₀ L s.heap m) (X₀ : K.In h₀) (Nn : News h₀ L s.heap news) (hmw : (mw, mwObj x) ∈ news)
    (hCl : K.lookup C = some (excClassObj nm q C N bs bm hdct sn sub ab col dd k0 k1 k2 k3 k5 newId)) (hb : bm.contains (.type "Exception") = true)
    (U : ∀ t₁, Upd x (excObj C t₀) (excObj C t₁) news (news' t₁))
    (h : ∀ t₁ h', Fr h₀ L h' m → News h₀ L h' ((t₁, tupObj [v]) :: news' t₁) → (∀ p ∈ news, p.1 < t₁) → (∀ p ∈ news, p.1 ≠ t₁) → Q .none { s with heap := h' }) : wpAny (model prog w) A (call (.ref mw) [v]) Q E s := by
  have X : K.In s.heap := X₀.keeps F.keep
  obtain ⟨hh, g, d, t, os⟩ := s
  dsimp only at *
  obtain ⟨pre, post, e1, e2, a, b⟩ := (U hh.objs.size).split
  have hxm : (x, excObj C t₀) ∈ news := by rw [e1]; exact List.mem_append.mpr (.inr (.head _))
  have zx := Nn _ hxm
  have lx : x < hh.objs.size := Heap.lt_size zx.1
  refine mw_call (Nn _ hmw).1 zx.1 (X _ _ hCl) hb ?_
  have F1 : Fr h₀ L (hh.push (tupObj [v])) m := F.push _
  have N1 : News h₀ L (hh.push (tupObj [v])) ((hh.objs.size, tupObj [v]) :: news) := Nn.push F _
  have hs : Heap.SameBut x (hh.push (tupObj [v])) ((hh.push (tupObj [v])).update x (Obj.mapFields fun y => y.setIfInBounds 0 (.ref hh.objs.size))) := Heap.SameBut.update ..
  have hx1 : (hh.push (tupObj [v])).get? x = some (excObj C t₀) := Heap.get?_push_of_some _ zx.1
  have ho' : ((hh.push (tupObj [v])).update x (Obj.mapFields fun y => y.setIfInBounds 0 (.ref hh.objs.size))).get? x = some (excObj C hh.objs.size) := Heap.get?_update_self _ hx1 rfl
  refine h hh.objs.size _ (F1.change hs zx.2.1 zx.2.2) ?_ (fun p hp => Heap.lt_size (Nn p hp).1) (fun p hp => Nat.ne_of_lt (Heap.lt_size (Nn p hp).1))
  rw [e2]
  rw [e1] at N1
  refine news_set (pre := (hh.objs.size, tupObj [v]) :: pre) (post := post) N1 (fun p hp => ?_) b hs ho'
  rcases List.mem_cons.mp hp with rfl | hp
  · exact Nat.ne_of_gt lx
  · exact a p hp

/-- a class of exceptions whose __init__ is a def of the text's, called -/
theorem exc_callK {rest : List Value} {Q : Value → Shared → Prop} (F : Fr h₀ L s.heap m) (X₀ : K.In h₀) (Nn : News h₀ L s.heap news)
    (hCl : K.lookup C = some (excClassObj nm q C N bs bm hdct sn sub ab col dd k0 k1 k2 k3 k5 "Exception.__new__"))
    (hb : bm.contains (.type "Exception") = true) (hA : bm.contains (.type "AttributeError") = false) (hNm : bm.contains (.type "NameError") = false)
    (hi : findIn K (.ref C) "__init__" = some (some (.ref fI))) (hf : typeIn K (.ref fI) = some (.type "function"))
    (h : ∀ t e h', Fr h₀ L h' m → News h₀ L h' ((e, excObj C t) :: (t, tupObj rest) :: news) → (∀ p ∈ news, p.1 < t) → t < e → (∀ p ∈ ((t, tupObj rest) :: news), p.1 ≠ e) →
      wpAny (model prog w) (A.under (.builtin "type.__call__" ⟨.ref C :: rest, []⟩)) (call (.ref fI) (.ref e :: rest)) (fun r s' => r = .none ∧ Q (.ref e) s') E { s with heap := h' })
    (hrest : rest.length ≤ sizeLine := by size_fits) : wpAny (model prog w) A (call (.ref C) rest) Q E s := by
  have X : K.In s.heap := X₀.keeps F.keep
  have Fn := PySem.F.excBase_Exception
  obtain ⟨hh, g, d, t, os⟩ := s
  have hC := X _ _ hCl
  dsimp only at *
  have f1 := tc_lookup
  have f2 := tc_bind (.ref C)
  have hT : (⟨hh, g, d, t, os⟩ : Shared).TypeIs (.ref C) "type" := ⟨_, hC, rfl⟩
  have hcB : (Value.ref C :: bm).contains (.type "Exception") = true := by rw [List.contains_cons, hb, Bool.or_true]
  have hcA : (Value.ref C :: bm).contains (.type "AttributeError") = false := by rw [List.contains_cons, hA]; rfl
  have hcN : (Value.ref C :: bm).contains (.type "NameError") = false := by rw [List.contains_cons, hNm]; rfl
  refine wpAny_call (codeAny_of_tree ?_)
  show wpAny _ _ (callAny (.ref C) _) _ _ _
  repeat (any_goals (first | assumption | with_reducible refine wpAny_loadPart_at hC ?_ | wp_step))
  refine ⟨rfl, ?_⟩
  refine codeAny_call_builtin_at (Code.quiet_builtin _ (by decide +kernel)) entry_typeCall (wpAny_check_type_call_sub hC ?_)
  repeat (first | with_reducible refine wpAny_loadPart_at hC ?_ | with_reducible refine wpAny_madeBy_exc hC ?_ | wp_step)
  refine codeAny_call_builtin_code (Code.quiet_builtin _ Fn.quiet) ?_
  refine check_newX hC hcB ?_
  refine code_newX hC hcB hcA hcN ?_ hrest
  show wpAny _ _ _ _ _ _
  have F1 := F.push (tupObj rest)
  have N1 := Nn.push F (tupObj rest)
  have F2 := F1.push (excObj C hh.objs.size)
  have N2 := N1.push F1 (excObj C hh.objs.size)
  rw [Heap.size_push] at N2
  have X2 : K.In ((hh.push (tupObj rest)).push (excObj C hh.objs.size)) := X₀.keeps F2.keep
  have hC2 := X2 _ _ hCl
  have he : ((hh.push (tupObj rest)).push (excObj C hh.objs.size)).get? (hh.objs.size + 1) = some (excObj C hh.objs.size) := (N2 _ (.head _)).1
  have hcC : (Value.ref C :: bm).contains (.ref C) = true := by simp
  have tl : Looks (model prog w) ((hh.push (tupObj rest)).push (excObj C hh.objs.size)) (typeLookup (.ref C) "__init__") (some (.ref fI)) := looks_findIn X2 hi
  unfold isInstance
  repeat (first | with_reducible refine wpAny_loadPart_at he ?_ | ((with_reducible show wpAny _ _ (isSubtype (Obj.cls _) _) _ _ _); refine wpAny_isSubtype_exc (C := C) hC2 ?_; rw [hcC]) | wp_step)
  show wpAny _ _ (typeLookup (.ref C) _) _ _ _
  refine tl.at ?_
  have bf : Looks (model prog w) ((hh.push (tupObj rest)).push (excObj C hh.objs.size)) (bindSpecial (.ref fI) (.ref (hh.objs.size + 1))) (.ref fI, [.ref (hh.objs.size + 1)]) := bind_fn X2 _ hf
  refine wpAny_holding (wpAny_bind (bf.at ?_))
  refine wpAny_bind (wpAny_mono (h hh.objs.size (hh.objs.size + 1) _ F2 N2 (fun p hp => Heap.lt_size (Nn p hp).1) (Nat.lt_succ_self _) (fun p hp => ?_)) (fun r s' hr => ?_) fun _ _ z => z)
  · rcases List.mem_cons.mp hp with rfl | hp
    · exact Nat.ne_of_lt (Nat.lt_succ_self _)
    · exact Nat.ne_of_lt (Nat.lt_succ_of_lt (Heap.lt_size (Nn p hp).1))
  obtain ⟨rfl, hQ⟩ := hr
  wp_walk
  exact hQ
end

end B3sec
end Mine
/- the data of the law: hints, things, names, messages; what is asked of the four classes -/
namespace Mine
section B4sec
/-- what the slot _undefined_obj may hold -/
inductive Th where | no | num | txt
/-- the names -/
inductive Nm where | user | three | ab | els
def hintS : Bool → Str
  | true => "it is not here"
  | false => ""
def Th.slot (t : Tok) : Th → Value
  | .no => .ref 92
  | .num => .int 7 t
  | .txt => .str "text" t
def Nm.val (t : Tok) : Nm → Value
  | .user => .str "user" t
  | .three => .int 3 t
  | .ab => .str "a b" t
  | .els => .str "else" t
def msgS : Bool → Th → Nm → Str
  | true, _, _ => "it is not here"
  | false, .no, .user => "'user' is undefined"
  | false, .no, .three => "3 is undefined"
  | false, .no, .ab => "'a b' is undefined"
  | false, .no, .els => "'else' is undefined"
  | false, .num, .user => "'int object' has no attribute 'user'"
  | false, .num, .three => "int object has no element 3"
  | false, .num, .ab => "'int object' has no attribute 'a b'"
  | false, .num, .els => "'int object' has no attribute 'else'"
  | false, .txt, .user => "'str object' has no attribute 'user'"
  | false, .txt, .three => "str object has no element 3"
  | false, .txt, .ab => "'str object' has no attribute 'a b'"
  | false, .txt, .els => "'str object' has no attribute 'else'"
/-- an object of one of the four kinds -/
abbrev uo (C dx : Addr) (h n o : Value) : Obj := ⟨.ref C, some dx, .plain, #[some (.ref 67), some h, some n, some o]⟩

/-- what is asked of the class C of an undefined one -/
structure Kd (K : Frag) (C : Addr) : Prop where
  ga : findIn K (.ref C) "__getattribute__" = some (some (.builtin "object.__getattribute__"))
  hook : ∃ fh, findIn K (.ref C) "__getattr__" = some (some fh)
  cls : isClsIn K C = true
  exc : findIn K (.ref C) "_undefined_exception" = some (some (.ref 198)) ∧ slotIn K 198 C = some 0
  hint : findIn K (.ref C) "_undefined_hint" = some (some (.ref 199)) ∧ slotIn K 199 C = some 1
  name : findIn K (.ref C) "_undefined_name" = some (some (.ref 200)) ∧ slotIn K 200 C = some 2
  obj : findIn K (.ref C) "_undefined_obj" = some (some (.ref 201)) ∧ slotIn K 201 C = some 3
  prop : findIn K (.ref C) "_undefined_message" = some (some (.ref 123))
/-- what is asked of the slots and the property -/
structure Sd (K : Frag) : Prop where
  s198 : specialIn K (.ref 198) "__get__" = some (some (.builtin "member_descriptor.__get__")) ∧ takesIn K (.ref 198) = some true
  s199 : specialIn K (.ref 199) "__get__" = some (some (.builtin "member_descriptor.__get__")) ∧ takesIn K (.ref 199) = some true
  s200 : specialIn K (.ref 200) "__get__" = some (some (.builtin "member_descriptor.__get__")) ∧ takesIn K (.ref 200) = some true
  s201 : specialIn K (.ref 201) "__get__" = some (some (.builtin "member_descriptor.__get__")) ∧ takesIn K (.ref 201) = some true
  prop : specialIn K (.ref 123) "__get__" = some (some (.builtin "property.__get__")) ∧ takesIn K (.ref 123) = some true
theorem fillK (h : PySem.Challenge.rw_bb0045_01.Holds → ∀ P, Mine.hd.heap_39 P = Mine.hd.heap_39 P) : True := by revert h; k_fill; intro _; trivial
set_option maxHeartbeats 0 in
theorem kd (w : World) (C : Addr) (hC : C = 197 ∨ C = 229 ∨ C = 250 ∨ C = 264) : Kd (Mine.hd.heap_39 w.params) C := by
  rcases hC with rfl | rfl | rfl | rfl
  all_goals exact ⟨by k_is, ⟨_, by k_is⟩, by k_is, ⟨by k_is, by k_is⟩, ⟨by k_is, by k_is⟩, ⟨by k_is, by k_is⟩, ⟨by k_is, by k_is⟩, by k_is⟩
set_option maxHeartbeats 0 in
theorem sd (w : World) : Sd (Mine.hd.heap_39 w.params) := by
  exact ⟨⟨by k_is, by k_is⟩, ⟨by k_is, by k_is⟩, ⟨by k_is, by k_is⟩, ⟨by k_is, by k_is⟩, ⟨by k_is, by k_is⟩⟩

section
variable {M : Model} {A : Around} {E : Value → Shared → Prop} {s : Shared} {Q : Value → Shared → Prop}
theorem is_int_ref {i : Int} {t : Tok} {a : Addr} (h : Q (.bool false) s) : wpAny M A (compareOp .Is (.int i t) (.ref a)) Q E s := by
  unfold compareOp
  repeat wp_step
  exact h
theorem is_str_ref {i : Str} {t : Tok} {a : Addr} (h : Q (.bool false) s) : wpAny M A (compareOp .Is (.str i t) (.ref a)) Q E s := by
  unfold compareOp
  repeat wp_step
  exact h
end

end B4sec
end Mine
/- the message property, called -/
namespace Mine
section B5sec

theorem repr_lit {prog : Program} {w : World} {A : Around} {E : Value → Shared → Prop} {s : Shared} {x y : Str} {t : Tok} {Q : Value → Shared → Prop} (e : reprText x = y) (hz : (reprText x).length ≤ sizeLine) (h : Q (.str y s.toks) { s with toks := s.toks + 1 }) :
    wpAny (model prog w) A (pyReprObj (.str x t)) Q E s := wpAny_pyReprObj_str (by rw [e]; exact h) hz
local macro_rules | `(tactic| walk_at "getAttr ref") => `(tactic| (k_here; (rename Kd _ _ => kf'); (rename Sd _ => sf'); k_dflt (first
  | (refine' get_slotH ?k1 ?k2 ?k3 (Kd.ga (by assumption)) (Exists.choose_spec (Kd.hook (by assumption))) (Kd.cls (by assumption)) (Kd.hint (by assumption)).1 sf'.s199.1 sf'.s199.2 (Kd.hint (by assumption)).2 ?kv ?kh ?_; (case k1 => k_asm); (case k2 => k_asm); (case k3 => k_inst); (case kv => k_slotget); (case kh => k_handed); k_whole)
  | (refine' get_slotH ?k1 ?k2 ?k3 (Kd.ga (by assumption)) (Exists.choose_spec (Kd.hook (by assumption))) (Kd.cls (by assumption)) (Kd.name (by assumption)).1 sf'.s200.1 sf'.s200.2 (Kd.name (by assumption)).2 ?kv ?kh ?_; (case k1 => k_asm); (case k2 => k_asm); (case k3 => k_inst); (case kv => k_slotget); (case kh => k_handed); k_whole)
  | (refine' get_slotH ?k1 ?k2 ?k3 (Kd.ga (by assumption)) (Exists.choose_spec (Kd.hook (by assumption))) (Kd.cls (by assumption)) (Kd.obj (by assumption)).1 sf'.s201.1 sf'.s201.2 (Kd.obj (by assumption)).2 ?kv ?kh ?_; (case k1 => k_asm); (case k2 => k_asm); (case k3 => k_inst); (case kv => k_slotget); (case kh => k_handed); k_whole)
  | (refine' get_slotH ?k1 ?k2 ?k3 (Kd.ga (by assumption)) (Exists.choose_spec (Kd.hook (by assumption))) (Kd.cls (by assumption)) (Kd.exc (by assumption)).1 sf'.s198.1 sf'.s198.2 (Kd.exc (by assumption)).2 ?kv ?kh ?_; (case k1 => k_asm); (case k2 => k_asm); (case k3 => k_inst); (case kv => k_slotget); (case kh => k_handed); k_whole))))
local macro_rules | `(tactic| walk_at "getMethod ref") => `(tactic| (k_here; (rename Kd _ _ => kf'); k_dflt (refine' get_methodH ?k1 ?k2 ?k3 (Kd.ga (by assumption)) (Exists.choose_spec (Kd.hook (by assumption))) ?_; (case k1 => k_asm); (case k2 => k_asm); (case k3 => k_inst); k_whole)))
local macro_rules | `(tactic| walk_at "compareOp Is") => `(tactic| (k_here; first | refine is_int_ref ?_ | refine is_str_ref ?_))
local macro_rules | `(tactic| walk_at "pyReprObj str") => `(tactic| (k_here; first
  | refine repr_lit (y := "'user'") (by decide +kernel) (by decide +kernel) ?_
  | refine repr_lit (y := "'else'") (by decide +kernel) (by decide +kernel) ?_
  | refine repr_lit (y := "'a b'") (by decide +kernel) (by decide +kernel) ?_
  | refine repr_lit (y := "'int object'") (by decide +kernel) (by decide +kernel) ?_
  | refine repr_lit (y := "'str object'") (by decide +kernel) (by decide +kernel) ?_))

set_option maxHeartbeats 0 in
theorem msg_call (w : World) (p : Program) (loose : List Str) (mean : ExcName → Option Value) (mg mb : Str → Option Value)
  (gd : Option (List Code)) (cn : Str) (nms : List (Str × NameKind)) (ig ic : Bool) (mo : List (Str × Const)) (a : Addr) (ccd : Value) (cl : List (Str × Addr)) (outer : List Env) (A₀ : Around) (base h₀ : Heap) (L : Addr) (m : Str → Option Value) (s : Shared) (R : Result → Shared → Prop)
  (B : Below A₀ base outer h₀) (F : Fr h₀ L s.heap m) (X : (Mine.hd.heap_39 w.params).In h₀) (T : Top p loose mean mg mb h₀)
  (C x dx : Addr) (kf : Kd (Mine.hd.heap_39 w.params) C) (sf : Sd (Mine.hd.heap_39 w.params)) (hi : Bool) (th : Th) (nm : Nm) (t1 t2 t3 : Tok) (rest : List (Addr × Obj))
  (N : News h₀ L s.heap ((x, uo C dx (.str (hintS hi) t1) (nm.val t2) (th.slot t3)) :: (dx, dictOf [] 0) :: rest))
  (hret : ∀ u t h' tk', u = msgS hi th nm → Fr h₀ L h' m → News h₀ L h' ((x, uo C dx (.str (hintS hi) t1) (nm.val t2) (th.slot t3)) :: (dx, dictOf [] 0) :: rest) → R (.ok (.ret (.str u t))) { s with heap := h', toks := tk' }) :
  codeAny (model PySem.Challenge.rw_bb0045_01.row.prog w) (PySem.W.ktrTop 430 180 gd cn ⟨.function, nms, ig, ic, mo⟩ L a ccd cl outer)
    (.call (.ref 122) ⟨[.ref x], []⟩) R s := by
  w_on; w_top on
  cases hi with
  | true =>
    generalize nm.val t2 = vn at N hret
    generalize th.slot t3 = vo at N hret
    dsimp only [uo, hintS] at N hret
    w_strict (k_dflt k_enter; k_steps)
    all_goals exact hret _ _ _ _ rfl (by assumption) (by assumption)
  | false =>
    cases th <;> cases nm <;> (dsimp only [uo, hintS, Nm.val, Th.slot] at N hret; w_strict (k_dflt k_enter; k_steps); all_goals exact hret _ _ _ _ (by decide +kernel) (by assumption) (by assumption))

end B5sec
end Mine
/- the message read from outside; rules for raise -/
namespace Mine
section B6sec

theorem weakenC {M : Model} {A A' : Around} {c : Code} {R : Result → Shared → Prop} {s : Shared} (h : codeAny M A' c R s)
    (hh : A.handled = A'.handled) (hf : A'.frames = A.frames) (hg : A'.guards = A.guards) (hd : Nat.ble A.depth A'.depth = true) (hu : Nat.ble A.units A'.units = true) : codeAny M A c R s :=
  fun Γ p hc hΓ => h Γ p hc ⟨hΓ.1.trans hh, Nat.le_trans hΓ.2.1 (Nat.le_of_ble_eq_true hd), fun l hl => hΓ.2.2.1 l (hf ▸ hl), fun g hl => hΓ.2.2.2.1 g (hg ▸ hl), Nat.le_trans hΓ.2.2.2.2 (Nat.le_of_ble_eq_true hu)⟩
theorem weakenW {α : Type} {M : Model} {A A' : Around} {t : Sem α} {Q : α → Shared → Prop} {E : Value → Shared → Prop} {s : Shared} (h : wpAny M A' t Q E s)
    (hh : A.handled = A'.handled) (hf : A'.frames = A.frames) (hg : A'.guards = A.guards) (hd : Nat.ble A.depth A'.depth = true) (hu : Nat.ble A.units A'.units = true) : wpAny M A t Q E s :=
  weaken h hh hf hg (Nat.le_of_ble_eq_true hd) (Nat.le_of_ble_eq_true hu)

/-- what raise asks of the expression's value -/
def RaisedInst (h₀ : Heap) (C : Addr) (E : Value → Shared → Prop) (v : Value) (s₁ : Shared) : Prop :=
  ∃ e t, v = .ref e ∧ (∀ b o, h₀.get? b = some o → s₁.heap.get? b = some o) ∧ s₁.heap.get? e = some (excObj C t) ∧ E (.ref e) s₁
section
variable {M : Model} {A : Around} {E : Value → Shared → Prop} {s : Shared} {env : Env} {K : Frag} {h₀ : Heap} {L : Addr} {m : Str → Option Value} {outer : List Env} {base g h : Heap} {e t : Addr} {name : Str} {scope : Scope} {a : Addr} {cd : Value} {news news' : List (Addr × Obj)} {vs : List Value}
variable {nm q : Str} {C N : Addr} {bs bm : List Value} {hdct : Bool} {sn : List Str} {sub : List Value} {ab : Bool} {col : Option Bool} {dd : Option Addr} {k0 k1 k2 k3 k5 : Option Value} {newId : String}
theorem raise_instK {x : PySem.Expr} {pos : Pos} {Q : Flow → Shared → Prop} (X₀ : K.In h₀) (hCl : K.lookup C = some (excClassObj nm q C N bs bm hdct sn sub ab col dd k0 k1 k2 k3 k5 newId)) (hbase : bm.contains (.type "BaseException") = true) (hh : A.handled = none)
    (h : wpAny M A (eval x env) (RaisedInst h₀ C E) E s) : wpAny M A (exec (.Raise (some x) none pos) env) Q E s :=
  raise_inst hbase hh (wpAny_mono h (fun v s₁ ⟨e, t, hv, hk, he, hE⟩ => ⟨e, t, hv, hk _ _ (X₀ _ _ hCl), he, hE⟩) fun _ _ z => z)

theorem leave_excK {A : Around} {E : Value → Shared → Prop} {s' : Shared} {Q : Unit → Shared → Prop} (K : Below A base outer g) (F : Fr g L s'.heap m) (N : News g L s'.heap news') (he : (e, excObj C t) ∈ news') (ht : (t, tupObj vs) ∈ news')
    (hs : ∀ q ∈ news, q ∈ news' ∧ q.1 ≠ e ∧ q.1 ≠ t)
    (hQ : ∀ h' t, RaisedS base g outer e (.ref C) t vs news h' → RaisedK base outer e (.ref C) t vs news h' → g.UpToSlots h' → Q () { s' with heap := h' }) (hk : scope.kind = .function := by rfl) :
    wpAny M (A.deeper (envOf name scope L a cd)) (leaving (envOf name scope L a cd) (.ref e)) Q E s' := by
  have ze := N _ he
  have zt := N _ ht
  have ne : ∀ b o, g.get? b = some o → b ∉ [e, t] := fun b o q hm => by
    rcases List.mem_cons.mp hm with rfl | hm
    · rw [ze.2.2] at q; cases q
    · rcases List.mem_cons.mp hm with rfl | hm
      · rw [zt.2.2] at q; cases q
      · cases hm
  obtain ⟨oL, es, ep, hL, r⟩ := F.ns
  have hLn : L ∉ [e, t] := fun hm => by
    rcases List.mem_cons.mp hm with rfl | hm
    · exact ze.2.1 rfl
    · rcases List.mem_cons.mp hm with rfl | hm
      · exact zt.2.1 rfl
      · cases hm
  have F1 : Fr g L (hideAll s'.heap [e, t]) m := ⟨⟨oL, es, ep, hideAll_get _ hL hLn, r⟩, fun b o q => hideAll_get _ (F.keep b o q) (ne b o q), F.above⟩
  have N1 : News g L (hideAll s'.heap [e, t]) news := fun q hq => by
    obtain ⟨h1, h2, h3⟩ := hs q hq
    have z := N q h1
    refine ⟨hideAll_get _ z.1 fun hm => ?_, z.2⟩
    rcases List.mem_cons.mp hm with h | hm
    · exact h2 h
    · rcases List.mem_cons.mp hm with h | hm
      · exact h3 h
      · cases hm
  have hx : Heap.MadeExcOf (hideAll s'.heap [e, t]) s'.heap e (.ref C) vs := ⟨fun b o q => of_hideAll _ q, hideAll_none _ (.head _), t, ze.1, hideAll_none _ (.tail _ (.head _)), zt.1⟩
  exact leave_raiseS K hx F1 N1 hQ hk
end


def MwP (q x : Addr) (h : Heap) : Prop := h.get? q = some (mwObj x)
theorem and_mw {P : Prop} {h₀ : Heap} {L q x : Addr} {h : Heap} {news : List (Addr × Obj)} (N : News h₀ L h news) (hq : (q, mwObj x) ∈ news) (p : P) : MwP q x h ∧ P := ⟨(N _ hq).1, p⟩
theorem keeps_mw {M : Model} {q x : Addr} (h : Heap) (X : MwP q x h) : ∃ k, (k = Keeper.frame ∨ k = Keeper.machine ∨ k = Keeper.boundFrame) ∧ Looks M h (keeperOf (.ref q)) k :=
  ⟨.machine, .inr (.inl rfl), (Looks.ld (part := none) X).andThen .now⟩
theorem callWith_mw {M : Model} {A : Around} {E : Value → Shared → Prop} {s : Shared} {env : Env} {pos : Pos} {first : List Value} {Q : Value → Shared → Prop} {h₀ : Heap} {L : Addr} {news : List (Addr × Obj)} {q x : Addr} {e : PySem.Expr} {rest : List PySem.Expr} (_N : News h₀ L s.heap news) (_q : (q, mwObj x) ∈ news)
    (h : wpAny M A (spliced (backTo pos (starEach (e :: rest) env))) (fun vs s₁ => MwP q x s₁.heap ∧ wpAny M A (call (.ref q) (first ++ vs)) Q E s₁) E s)
    (he : starEach (e :: rest) env = (false, eval e env) :: starEach rest env := by rfl) (hplain : (backTo pos (starEach rest env)).any (·.1) = false := by rfl) :
    wpAny M A (callWith pos (.ref q) first (backTo pos (starEach (e :: rest) env)) []) Q E s := by
  rw [he] at h ⊢
  exact callWith_of (by show ((false || (backTo pos (starEach rest env)).any (·.1)) || false) = false; rw [hplain]; rfl) keeps_mw (evalArgs_plain h)

/-- the message read from outside -/
theorem msg_get (w : World) (p : Program) (loose : List Str) (mean : ExcName → Option Value) (mg mb : Str → Option Value)
  (gd : Option (List Code)) (cn : Str) (nms : List (Str × NameKind)) (ig ic : Bool) (mo : List (Str × Const)) (a : Addr) (ccd : Value) (cl : List (Str × Addr)) (outer : List Env) (A₀ : Around) (base h₀ : Heap) (L : Addr) (m : Str → Option Value) (s : Shared) (Q E : Value → Shared → Prop)
  (B : Below A₀ base outer h₀) (F : Fr h₀ L s.heap m) (X : (Mine.hd.heap_39 w.params).In h₀) (T : Top p loose mean mg mb h₀)
  (C x dx : Addr) (kf : Kd (Mine.hd.heap_39 w.params) C) (sf : Sd (Mine.hd.heap_39 w.params)) (hi : Bool) (th : Th) (nm : Nm) (t1 t2 t3 : Tok) (news : List (Addr × Obj)) (ex : Bool)
  (N : News h₀ L s.heap news) (hx : (x, uo C dx (.str (hintS hi) t1) (nm.val t2) (th.slot t3)) ∈ news) (hdx : (dx, dictOf [] 0) ∈ news)
  (hret : ∀ t h' tk', Fr h₀ L h' m → News h₀ L h' news → Q (.str (msgS hi th nm) t) { s with heap := h', toks := tk' }) :
  wpAny (model PySem.Challenge.rw_bb0045_01.row.prog w) (PySem.W.ktrTop 420 170 gd cn ⟨.function, nms, ig, ic, mo⟩ L a ccd cl outer)
    (getAttr (.ref x) "_undefined_message" ex) Q E s := by
  have I : InstAt s.heap x (uo C dx (.str (hintS hi) t1) (nm.val t2) (th.slot t3)) C (some (dictOf [] 0)) := ⟨(N _ hx).1, rfl, rfl, (N _ hdx).1⟩
  obtain ⟨fh, hk⟩ := kf.hook
  refine get_propH F X I kf.ga hk kf.cls kf.prop sf.prop.1 sf.prop.2 (by k_is) ?_
  refine weakenC (msg_call w p loose mean mg mb gd cn nms ig ic mo a ccd cl outer A₀ base h₀ L m { s with toks := s.toks + 1 } _ B F X T C x dx kf sf hi th nm t1 t2 t3 news (fun q hq => ?_) ?_) rfl rfl rfl rfl rfl
  · rcases List.mem_cons.mp hq with rfl | hq
    · exact N _ hx
    · rcases List.mem_cons.mp hq with rfl | hq
      · exact N _ hdx
      · exact N _ hq
  · rintro u t h' tk' rfl F' N'
    exact wpAny_pure (hret t h' tk' F' (fun q hq => N' q (.tail _ (.tail _ hq))))

end B6sec
end Mine
/- _fail_with_undefined_error, walked -/
namespace Mine
section B7sec
local macro_rules | `(tactic| walk_at "getAttr ref") => `(tactic| (k_here; (rename Kd _ _ => kf'); (rename Sd _ => sf'); k_dflt (first
  | (refine' get_slotH ?k1 ?k2 ?k3 (Kd.ga (by assumption)) (Exists.choose_spec (Kd.hook (by assumption))) (Kd.cls (by assumption)) (Kd.hint (by assumption)).1 sf'.s199.1 sf'.s199.2 (Kd.hint (by assumption)).2 ?kv ?kh ?_; (case k1 => k_asm); (case k2 => k_asm); (case k3 => k_inst); (case kv => k_slotget); (case kh => k_handed); k_whole)
  | (refine' get_slotH ?k1 ?k2 ?k3 (Kd.ga (by assumption)) (Exists.choose_spec (Kd.hook (by assumption))) (Kd.cls (by assumption)) (Kd.name (by assumption)).1 sf'.s200.1 sf'.s200.2 (Kd.name (by assumption)).2 ?kv ?kh ?_; (case k1 => k_asm); (case k2 => k_asm); (case k3 => k_inst); (case kv => k_slotget); (case kh => k_handed); k_whole)
  | (refine' get_slotH ?k1 ?k2 ?k3 (Kd.ga (by assumption)) (Exists.choose_spec (Kd.hook (by assumption))) (Kd.cls (by assumption)) (Kd.obj (by assumption)).1 sf'.s201.1 sf'.s201.2 (Kd.obj (by assumption)).2 ?kv ?kh ?_; (case k1 => k_asm); (case k2 => k_asm); (case k3 => k_inst); (case kv => k_slotget); (case kh => k_handed); k_whole)
  | (refine' get_slotH ?k1 ?k2 ?k3 (Kd.ga (by assumption)) (Exists.choose_spec (Kd.hook (by assumption))) (Kd.cls (by assumption)) (Kd.exc (by assumption)).1 sf'.s198.1 sf'.s198.2 (Kd.exc (by assumption)).2 ?kv ?kh ?_; (case k1 => k_asm); (case k2 => k_asm); (case k3 => k_inst); (case kv => k_slotget); (case kh => k_handed); k_whole))))
local macro_rules | `(tactic| walk_at "getMethod ref") => `(tactic| (k_here; (rename Kd _ _ => kf'); k_dflt (refine' get_methodH ?k1 ?k2 ?k3 (Kd.ga (by assumption)) (Exists.choose_spec (Kd.hook (by assumption))) ?_; (case k1 => k_asm); (case k2 => k_asm); (case k3 => k_inst); k_whole)))
local macro_rules | `(tactic| walk_at "compareOp Is") => `(tactic| (k_here; first | refine is_int_ref ?_ | refine is_str_ref ?_))
local macro_rules | `(tactic| walk_at "pyReprObj str") => `(tactic| (k_here; first
  | refine repr_lit (y := "'user'") (by decide +kernel) (by decide +kernel) ?_
  | refine repr_lit (y := "'else'") (by decide +kernel) (by decide +kernel) ?_
  | refine repr_lit (y := "'a b'") (by decide +kernel) (by decide +kernel) ?_
  | refine repr_lit (y := "'int object'") (by decide +kernel) (by decide +kernel) ?_
  | refine repr_lit (y := "'str object'") (by decide +kernel) (by decide +kernel) ?_))
local macro_rules | `(tactic| k_inst) => `(tactic| (refine' inst_exc ?N ?h1; (case N => k_asm); (case h1 => k_mem)))
local macro_rules | `(tactic| walk_at "getMethod ref") => `(tactic| (k_here; k_dflt (refine' getMethod_superK ?k1 ?k2 ?k3 ?k4 ?k5 ?k6 ?k7 ?k8 ?k9 ?k10 ?_; (case k1 => k_asm); (case k2 => k_asm); (case k3 => k_asm); (case k4 => k_mem); (case k5 => k_inst); (case k6 => k_is); (case k7 => ks_is); (case k8 => k_is); (case k9 => decide +kernel); (case k10 => decide); intro q' h' F' N' l1; (try k_lt l1))))
local macro_rules | `(tactic| walk_at "getAttr ref") => `(tactic| (k_here; (with_reducible show wpAny _ _ (getAttr _ ("_undefined_message" : Str) _) _ _ _); k_dflt (refine' weakenW (msg_get _ _ _ _ _ _ _ _ _ _ _ _ _ _ _ _ _ _ _ _ _ _ _ _ ?k1 ?k2 ?k3 ?k4 _ _ _ ?k5 ?k6 _ _ _ _ _ _ _ _ ?k7 ?k8 ?k9 ?_) rfl rfl rfl rfl rfl; (case k1 => k_asm); (case k2 => k_asm); (case k3 => k_asm); (case k4 => k_asm); (case k5 => assumption); (case k6 => assumption); (case k7 => k_asm); (case k8 => k_mem); (case k9 => k_mem)); intro t' h' tk' F' N'; (try dsimp only); (try k_fold)))
local macro_rules | `(tactic| walk_at "exec Raise some none") => `(tactic| (k_here; k_dflt (refine' raise_instK (C := 67) ?k1 ?k2 ?k3 ?k4 ?_; (case k1 => k_asm); (case k2 => k_is); (case k3 => decide +kernel); (case k4 => exact rfl))))
local macro_rules | `(tactic| walk_at "call ref") => `(tactic| (k_here; k_dflt (first
  | (refine' exc_callK ?k1 ?k2 ?k3 ?k4 ?k5 ?k6 ?k7 ?k8 ?k9 ?_ ?kz; (case k1 => k_asm); (case k2 => k_asm); (case k3 => k_asm); (case k4 => k_is); (case k5 => decide +kernel); (case k6 => decide +kernel); (case k7 => decide +kernel); (case k8 => k_is); (case k9 => k_is); (case kz => size_fits); intro t' e' h' F' N' l1 l2 l3; (try k_lt l1); (try k_lt2 l2))
  | (refine' mw_callK (C := 67) ?k1 ?k2 ?k3 ?k4 ?k5 ?k6 ?k7 ?_; (case k1 => k_asm); (case k2 => k_asm); (case k3 => k_asm); (case k4 => k_mem); (case k5 => k_is); (case k6 => decide +kernel); (case k7 => (intro t₁; k_upd)); intro t' h' F' N' l1 l2; (try k_lt l1))
  | (refine wpAny_call ?_; (refine' ks_code_super ?k1 ?k2 ?k3 ?k4 ?k5 ?kA ?kF ?kK ?k6 ?k7 ?k8 ?k9 ?kB ?_ ?c1 ?c2 ?c3 ?c4; (case kA => exact rfl); (case kF => exact rfl); (case kK => exact rfl); (case k1 => k_asm); (case k2 => k_asm); (case k3 => k_asm); (case k4 => k_asm); (case k5 => k_asm); (case k6 => k_is); (case k7 => k_is); (case k8 => k_room); (case k9 => exact binds_K (by k_in) rfl (by k_is) rfl rfl rfl); (case kB => exact locs rfl); (case c1 => decide); (case c2 => exact rfl); (case c3 => exact rfl); (case c4 => exact rfl); intro g' L' h' FG' F' N' B' X' T' l1; (try k_lt l1); (try dsimp only); (try k_lift B'))))))
local macro_rules | `(tactic| walk_at "callWith ref") => `(tactic| (k_here; (try dsimp only); k_dflt (refine' callWith_mw ?k1 ?k2 ?_; (case k1 => k_asm); (case k2 => k_mem); k_whole)))
local macro_rules | `(tactic| walk_at "And") => `(tactic| ((with_reducible show MwP _ _ _ ∧ _); k_dflt (refine' and_mw ?k1 ?k2 ?_; (case k1 => k_asm); (case k2 => k_mem)); try dsimp only [List.nil_append, List.cons_append]))
local macro_rules | `(tactic| k_all) => `(tactic| assumption)

set_option maxHeartbeats 0 in
theorem fail_call1 (w : World) (p : Program) (loose : List Str) (mean : ExcName → Option Value) (mg mb : Str → Option Value)
  (gd : Option (List Code)) (cn : Str) (nms : List (Str × NameKind)) (ig ic : Bool) (mo : List (Str × Const)) (a : Addr) (ccd : Value) (cl : List (Str × Addr)) (outer : List Env) (A₀ : Around) (base h₀ : Heap) (L : Addr) (m : Str → Option Value) (s : Shared) (R : Result → Shared → Prop)
  (B : Below A₀ base outer h₀) (F : Fr h₀ L s.heap m) (X : (Mine.hd.heap_39 w.params).In h₀) (T : Top p loose mean mg mb h₀)
  (C x dx : Addr) (kf : Kd (Mine.hd.heap_39 w.params) C) (sf : Sd (Mine.hd.heap_39 w.params)) (hi : Bool) (th : Th) (nm : Nm) (t1 t2 t3 : Tok) (rest : List (Addr × Obj)) (v : Value)
  (N : News h₀ L s.heap ((x, uo C dx (.str (hintS hi) t1) (nm.val t2) (th.slot t3)) :: (dx, dictOf [] 0) :: rest))
  (hE : ∀ g e t tok h' tk', Fr h₀ L g m → g.UpToSlots h' → RaisedS base g (envX cn ⟨.function, nms, ig, ic, mo⟩ L a ccd cl :: outer) e (.ref 67) t [.str (msgS hi th nm) tok] ((x, uo C dx (.str (hintS hi) t1) (nm.val t2) (th.slot t3)) :: (dx, dictOf [] 0) :: rest) h' → R (.error (.ref e)) { s with heap := h', toks := tk' }) :
  codeAny (model PySem.Challenge.rw_bb0045_01.row.prog w) (PySem.W.ktrTop 400 150 gd cn ⟨.function, nms, ig, ic, mo⟩ L a ccd cl outer)
    (.call (.ref 130) ⟨[.ref x, v], []⟩) R s := by
  w_on; w_top on
  w_strict (k_dflt k_enter; k_steps)
  all_goals (
    refine ⟨_, _, rfl, Fr.keep (by assumption), News.get (by assumption) (by k_mem), ?_⟩
    refine leave_excK (news := (x, uo C dx (.str (hintS hi) t1) (nm.val t2) (th.slot t3)) :: (dx, dictOf [] 0) :: rest) (by assumption) (by assumption) (by assumption) (by k_mem) (by k_mem) (fun q hq => ⟨?_, ?_, ?_⟩) (fun h'' t'' R' _ U' => hE _ _ _ _ _ _ (by assumption) U' R')
    · repeat (first | exact hq | apply List.mem_cons_of_mem)
    · (rename ∀ p ∈ (_, tupObj _) :: (_ : List (Addr × Obj)), p.1 ≠ _ => l3)
      refine l3 q ?_
      repeat (first | exact hq | apply List.mem_cons_of_mem)
    · (rename ∀ p ∈ (_, mwObj _) :: (_ : List (Addr × Obj)), p.1 ≠ _ => l4)
      refine l4 q ?_
      repeat (first | exact hq | apply List.mem_cons_of_mem))
set_option maxHeartbeats 0 in
theorem fail_call0 (w : World) (p : Program) (loose : List Str) (mean : ExcName → Option Value) (mg mb : Str → Option Value)
  (gd : Option (List Code)) (cn : Str) (nms : List (Str × NameKind)) (ig ic : Bool) (mo : List (Str × Const)) (a : Addr) (ccd : Value) (cl : List (Str × Addr)) (outer : List Env) (A₀ : Around) (base h₀ : Heap) (L : Addr) (m : Str → Option Value) (s : Shared) (R : Result → Shared → Prop)
  (B : Below A₀ base outer h₀) (F : Fr h₀ L s.heap m) (X : (Mine.hd.heap_39 w.params).In h₀) (T : Top p loose mean mg mb h₀)
  (C x dx : Addr) (kf : Kd (Mine.hd.heap_39 w.params) C) (sf : Sd (Mine.hd.heap_39 w.params)) (hi : Bool) (th : Th) (nm : Nm) (t1 t2 t3 : Tok) (rest : List (Addr × Obj))
  (N : News h₀ L s.heap ((x, uo C dx (.str (hintS hi) t1) (nm.val t2) (th.slot t3)) :: (dx, dictOf [] 0) :: rest))
  (hE : ∀ g e t tok h' tk', Fr h₀ L g m → g.UpToSlots h' → RaisedS base g (envX cn ⟨.function, nms, ig, ic, mo⟩ L a ccd cl :: outer) e (.ref 67) t [.str (msgS hi th nm) tok] ((x, uo C dx (.str (hintS hi) t1) (nm.val t2) (th.slot t3)) :: (dx, dictOf [] 0) :: rest) h' → R (.error (.ref e)) { s with heap := h', toks := tk' }) :
  codeAny (model PySem.Challenge.rw_bb0045_01.row.prog w) (PySem.W.ktrTop 400 150 gd cn ⟨.function, nms, ig, ic, mo⟩ L a ccd cl outer)
    (.call (.ref 130) ⟨[.ref x], []⟩) R s := by
  w_on; w_top on
  w_strict (k_dflt k_enter; k_steps)
  all_goals (
    refine ⟨_, _, rfl, Fr.keep (by assumption), News.get (by assumption) (by k_mem), ?_⟩
    refine leave_excK (news := (x, uo C dx (.str (hintS hi) t1) (nm.val t2) (th.slot t3)) :: (dx, dictOf [] 0) :: rest) (by assumption) (by assumption) (by assumption) (by k_mem) (by k_mem) (fun q hq => ⟨?_, ?_, ?_⟩) (fun h'' t'' R' _ U' => hE _ _ _ _ _ _ (by assumption) U' R')
    · repeat (first | exact hq | apply List.mem_cons_of_mem)
    · (rename ∀ p ∈ (_, tupObj _) :: (_ : List (Addr × Obj)), p.1 ≠ _ => l3)
      refine l3 q ?_
      repeat (first | exact hq | apply List.mem_cons_of_mem)
    · (rename ∀ p ∈ (_, mwObj _) :: (_ : List (Addr × Obj)), p.1 ≠ _ => l4)
      refine l4 q ?_
      repeat (first | exact hq | apply List.mem_cons_of_mem))

end B7sec
end Mine
/- its contract: it raises -/
namespace Mine
section B8sec
theorem raisedS_sub {base G : Heap} {l : List Env} {e t : Addr} {cls : Value} {vs : List Value} {n₁ n₂ : List (Addr × Obj)} {h : Heap} (R : RaisedS base G l e cls t vs n₁ h) (hs : ∀ q ∈ n₂, q ∈ n₁) : RaisedS base G l e cls t vs n₂ h := by
  obtain ⟨⟨B, hB, hG, hl, hfl, hnew⟩, htup⟩ := R
  exact ⟨⟨B, hB, hG, fun q hq => hl q (hs q hq), hfl, hnew⟩, htup⟩
theorem fail_K0 (w : World) (p : Program) (loose : List Str) (mean : ExcName → Option Value) (mg mb : Str → Option Value)
  (gd : Option (List Code)) (cn : Str) (nms : List (Str × NameKind)) (ig ic : Bool) (mo : List (Str × Const)) (a : Addr) (ccd : Value) (cl : List (Str × Addr)) (outer : List Env) (A₀ : Around) (base h₀ : Heap) (L : Addr) (m : Str → Option Value) (s : Shared) (R : Result → Shared → Prop)
  (B : Below A₀ base outer h₀) (F : Fr h₀ L s.heap m) (X : (Mine.hd.heap_39 w.params).In h₀) (T : Top p loose mean mg mb h₀)
  (C x dx : Addr) (kf : Kd (Mine.hd.heap_39 w.params) C) (sf : Sd (Mine.hd.heap_39 w.params)) (hi : Bool) (th : Th) (nm : Nm) (t1 t2 t3 : Tok) (news : List (Addr × Obj))
  (N : News h₀ L s.heap news) (hx : (x, uo C dx (.str (hintS hi) t1) (nm.val t2) (th.slot t3)) ∈ news) (hdx : (dx, dictOf [] 0) ∈ news)
  (hE : ∀ g e t tok h' tk', Fr h₀ L g m → g.UpToSlots h' → RaisedS base g (envX cn ⟨.function, nms, ig, ic, mo⟩ L a ccd cl :: outer) e (.ref 67) t [.str (msgS hi th nm) tok] news h' → R (.error (.ref e)) { s with heap := h', toks := tk' }) :
  codeAny (model PySem.Challenge.rw_bb0045_01.row.prog w) (PySem.W.ktrTop 400 150 gd cn ⟨.function, nms, ig, ic, mo⟩ L a ccd cl outer)
    (.call (.ref 130) ⟨[.ref x], []⟩) R s :=
  fail_call0 w p loose mean mg mb gd cn nms ig ic mo a ccd cl outer A₀ base h₀ L m s R B F X T C x dx kf sf hi th nm t1 t2 t3 news
    (fun q hq => by
      rcases List.mem_cons.mp hq with rfl | hq
      · exact N _ hx
      · rcases List.mem_cons.mp hq with rfl | hq
        · exact N _ hdx
        · exact N _ hq)
    (fun g e t tok h' tk' F' U' R' => hE g e t tok h' tk' F' U' (raisedS_sub R' fun q hq => .tail _ (.tail _ hq)))
theorem fail_K1 (w : World) (p : Program) (loose : List Str) (mean : ExcName → Option Value) (mg mb : Str → Option Value)
  (gd : Option (List Code)) (cn : Str) (nms : List (Str × NameKind)) (ig ic : Bool) (mo : List (Str × Const)) (a : Addr) (ccd : Value) (cl : List (Str × Addr)) (outer : List Env) (A₀ : Around) (base h₀ : Heap) (L : Addr) (m : Str → Option Value) (s : Shared) (R : Result → Shared → Prop)
  (B : Below A₀ base outer h₀) (F : Fr h₀ L s.heap m) (X : (Mine.hd.heap_39 w.params).In h₀) (T : Top p loose mean mg mb h₀)
  (C x dx : Addr) (kf : Kd (Mine.hd.heap_39 w.params) C) (sf : Sd (Mine.hd.heap_39 w.params)) (hi : Bool) (th : Th) (nm : Nm) (t1 t2 t3 : Tok) (news : List (Addr × Obj)) (v : Value)
  (N : News h₀ L s.heap news) (hx : (x, uo C dx (.str (hintS hi) t1) (nm.val t2) (th.slot t3)) ∈ news) (hdx : (dx, dictOf [] 0) ∈ news)
  (hE : ∀ g e t tok h' tk', Fr h₀ L g m → g.UpToSlots h' → RaisedS base g (envX cn ⟨.function, nms, ig, ic, mo⟩ L a ccd cl :: outer) e (.ref 67) t [.str (msgS hi th nm) tok] news h' → R (.error (.ref e)) { s with heap := h', toks := tk' }) :
  codeAny (model PySem.Challenge.rw_bb0045_01.row.prog w) (PySem.W.ktrTop 400 150 gd cn ⟨.function, nms, ig, ic, mo⟩ L a ccd cl outer)
    (.call (.ref 130) ⟨[.ref x, v], []⟩) R s :=
  fail_call1 w p loose mean mg mb gd cn nms ig ic mo a ccd cl outer A₀ base h₀ L m s R B F X T C x dx kf sf hi th nm t1 t2 t3 news v
    (fun q hq => by
      rcases List.mem_cons.mp hq with rfl | hq
      · exact N _ hx
      · rcases List.mem_cons.mp hq with rfl | hq
        · exact N _ hdx
        · exact N _ hq)
    (fun g e t tok h' tk' F' U' R' => hE g e t tok h' tk' F' U' (raisedS_sub R' fun q hq => .tail _ (.tail _ hq)))

end B8sec
end Mine
/- the four kinds; bool(x) and int(x) -/
namespace Mine
section B9sec
inductive Kn where | pl | ch | db | st
def Kn.cls : Kn → Addr
  | .pl => 197
  | .ch => 229
  | .db => 250
  | .st => 264
def Kn.num : Kn → Int
  | .pl => 0
  | .ch => 1
  | .db => 2
  | .st => 3
theorem kdn (w : World) (kn : Kn) : Kd (Mine.hd.heap_39 w.params) kn.cls := kd w _ (by cases kn <;> decide)

section
variable {prog : Program} {w : World} {A : Around} {E : Value → Shared → Prop} {s : Shared} {K : Frag} {x C L f : Addr} {h₀ : Heap} {m : Str → Option Value} {ox : Obj} {od : Option Obj} {Q : Value → Shared → Prop} {t : Tok} {n : Int}
theorem call_bool_K (X : K.In s.heap) (I : InstAt s.heap x ox C od) (hs : findIn K (.ref C) "__bool__" = some (some (.ref f))) (hf : isFn K (.ref f) = true)
    (h : wpAny (model prog w) A.in1.in1 (call (.ref f) [.ref x]) (PySem.W.BoolBack (fun b s' => Q (.bool b) s')) E s) : wpAny (model prog w) A (call (.type "bool") [.ref x]) Q E s := by
  have ht : wpAny (model prog w) A.in1.in1 (truthy (.ref x)) (fun b s' => Q (.bool b) s') E s := by
    unfold truthy
    refine wpAny_bind (m := callSpecial? (.ref x) (Str.ofString "__bool__")) (special_fn X I hs (beq_iff_eq.mp hf) (wpAny_mono h (fun r s' hr => ?_) fun _ _ y => y))
    cases r <;> first | exact hr.elim | skip
    exact wpAny_pure hr
  refine callType_codes (T := "bool") (Bi := Builtin.«object.__init__») (Q₁ := fun r s₁ => ∃ b, r = .bool b ∧ Q r s₁) PySem.F.called_bool (PySem.F.typeCall_bool_1 _) PySem.F.entry_object_init ?_ ?_
  · refine codeAny_of_tree ?_
    show wpAny _ A.in1.in1 (do checkBuiltinCall "bool.__new__" ⟨[.type "bool", .ref x], []⟩; again (.builtin "bool.__new__" ⟨[.type "bool", .ref x], []⟩)) _ _ s
    refine wpAny_bind (wpAny_of_eq (PySem.F.newCall_bool_1 _) (wpAny_pure ⟨plainId_quiet (by decide +kernel) _, codeAny_builtin PySem.F.entry_bool_new ?_⟩))
    rw [Around.under_plainId (by decide +kernel) _]
    have f1 := PySem.F.conv_sub_bool
    clear hs hf I X h
    unfold Builtin.«bool.__new__»
    obtain ⟨hp, g, d, tk, os⟩ := s
    repeat (any_goals (first | assumption | (refine wpAny_mono ht ?_ (fun _ _ z => z); intro b s' hb) | wp_step))
    all_goals exact ⟨_, rfl, hb⟩
  · rintro obj s₁ ⟨b, rfl, hq⟩
    exact ⟨PySem.typeIs_bool _ _, PySem.F.args_object_init_2 _ _, object_init_meets PySem.F.called_bool.init.lookup PySem.F.called_bool.made (by decide) prog w A.in1 _ s₁ ⟨PySem.typeIs_bool _ _, rfl, hq⟩⟩
theorem call_int_K (X : K.In s.heap) (I : InstAt s.heap x ox C od) (hs : findIn K (.ref C) "__int__" = some (some (.ref f))) (hf : isFn K (.ref f) = true)
    (h : ∀ Q', wpAny (model prog w) A.in1.in1 (call (.ref f) [.ref x]) Q' E s) : wpAny (model prog w) A (call (.type "int") [.ref x]) Q E s := by
  have ht : ∀ Q', wpAny (model prog w) A.in1.in1 (callSpecial? (.ref x) (Str.ofString "__int__")) Q' E s := fun Q' => special_fn X I hs (beq_iff_eq.mp hf) (h _)
  refine callType_codes (T := "int") (Bi := Builtin.«object.__init__») (Q₁ := fun _ _ => False) PySem.F.called_int (PySem.F.typeCall_int_1 _) PySem.F.entry_object_init ?_ ?_
  · refine codeAny_of_tree ?_
    show wpAny _ A.in1.in1 (do checkBuiltinCall "int.__new__" ⟨[.type "int", .ref x], []⟩; again (.builtin "int.__new__" ⟨[.type "int", .ref x], []⟩)) _ _ s
    refine wpAny_bind (wpAny_of_eq (PySem.F.newCall_int_1 _) (wpAny_pure ⟨plainId_quiet (by decide +kernel) _, codeAny_builtin PySem.F.entry_int_new ?_⟩))
    rw [Around.under_plainId (by decide +kernel) _]
    have f1 := PySem.F.conv_sub_int
    have f2 := PySem.F.madeHere_int
    clear hs hf I X h
    unfold Builtin.«int.__new__»
    obtain ⟨hp, g, d, tk, os⟩ := s
    repeat (any_goals (first | assumption | exact ht _ | wp_step))
  · intro obj s₁ q
    exact q.elim
end

end B9sec
end Mine
/- 2 - x, attributes by __getattr__, reflected comparisons -/
namespace Mine
section B10sec
section
variable {prog : Program} {w : World} {A : Around} {E : Value → Shared → Prop} {s : Shared} {K : Frag} {x C L f g dx : Addr} {h₀ : Heap} {m : Str → Option Value} {ox : Obj} {od : Option Obj} {Q : Value → Shared → Prop} {t : Tok} {n : Int} {name : Str} {expr : Bool}
theorem int_sub_declines {sl : Array (Option Value)} {c : Value} {d : Option Addr} (hx : s.heap.get? x = some ⟨c, d, .plain, sl⟩) : wpAny (model prog w) A (call (.builtin "int.__sub__") [.int n t, .ref x]) (fun v s' => v = .notImplemented ∧ s' = s) E s := by
  obtain ⟨hh, gg, dr, tk, os⟩ := s
  refine wpAny_call (codeAny_call_builtin SiftDown.slot_int_sub.plain SiftDown.entry_int_sub (SiftDown.slot_int_sub.check _ _ _ _ (.int n t) [.ref x] [] _ (typeIs_int _ n t) (SiftDown.args_int_sub (.int n t) (.ref x)) ?_))
  unfold Builtin.«int.__sub__»
  repeat (first | wp_step | (refine wpAny_bind (wpAny_load hx ?_)) | (refine wpAny_load hx ?_))
  all_goals exact ⟨rfl, rfl⟩
set_option maxHeartbeats 1000000 in
theorem rsub_K {sl : Array (Option Value)} {c : Value} {d : Option Addr} (F : Fr h₀ L s.heap m) (X₀ : K.In h₀) (I : InstAt s.heap x ox C od) (hx : s.heap.get? x = some ⟨c, d, .plain, sl⟩) (hc : selfFirst K C = true) (hs : findIn K (.ref C) (PySem.dunder "sub") = some (some (.ref g))) (hr : findIn K (.ref C) (dunderR "sub") = some (some (.ref f))) (hf : isFn K (.ref f) = true)
    (hsub : subIn K (.ref C) (.type "int") = some false) (h : ∀ Q', wpAny (model prog w) A (call (.ref f) [.ref x, .int n t]) Q' E s) : wpAny (model prog w) A (binaryOp .Sub (.int n t) (.ref x)) Q E s := by
  have X := X₀.keeps F.keep
  obtain ⟨cd, rest, hcd, hm⟩ := ksp_first hc
  have two : wpAny (model prog w) A (tryMethod (.ref x) (dunderR "sub") (.int n t)) (fun _ _ => False) E s := by
    unfold tryMethod
    refine wpAny_bind (special_fn X I hr (beq_iff_eq.mp hf) (wpAny_mono (h (fun _ _ => False)) (fun v s' hv => hv.elim) fun _ _ e => e))
  have one : wpAny (model prog w) A (tryMethod (.int n t) (PySem.dunder "sub") (.ref x)) (fun r s' => r = none ∧ s' = s) E s := by
    refine @wpAny_tryMethod_declines (model prog w) A E s (.int n t) (.ref x) "int" (PySem.dunder "sub") "int.__sub__" (fun r s' => r = none ∧ s' = s) ?_ ?_ ?_
    · exact PySem.typeIs_int s n t
    · exact SiftDown.slot_int_sub
    · refine wpAny_mono (int_sub_declines (prog := prog) (w := w) (A := A) (E := E) (n := n) (t := t) hx) ?_ ?_
      · intro v s' z
        exact And.intro z.1 (And.intro (Eq.refl _) z.2)
      · intro _ _ z; exact z
  obtain ⟨hh, gg, dr, tk, os⟩ := s
  have L1 : Looks (model prog w) hh (typeOf (.int n t)) (.type "int") := Looks.of_pure rfl
  have L2 : Looks (model prog w) hh (typeOf (.ref x)) (.ref C) := I.type
  have L3 : Looks (model prog w) hh (fillsNumberSlot (.type "int") "sub") true := Looks.of_pure SiftDown.fills_int_sub
  have L4 : Looks (model prog w) hh (fillsNumberSlot (.ref C) "sub") true := fills_K X hcd hm hs
  have L5 : Looks (model prog w) hh (isSubtype (.ref C) (.type "int")) false := looks_subIn X hsub
  have L7 : Looks (model prog w) hh (numberSlotInPython (.type "int") "sub") false := Looks.of_pure rfl
  have hne : (Value.type "int" == Value.ref C) = false := Bool.eq_false_iff.mpr fun q => by cases beq_iff_eq.mp q
  have e : Operator.info .Sub = ("-", "sub") := rfl
  simp only [binaryOp, e]
  refine wpAny_holding (wpAny_bind ?_)
  unfold binaryOp1
  refine wpAny_bind (L1.at (wpAny_bind (L2.at (wpAny_bind (L3.at ?_)))))
  simp only [hne, Bool.false_eq_true, if_false]
  refine wpAny_bind (L4.at ?_)
  simp only [Bool.and_self, if_true]
  refine wpAny_bind (L5.at ?_)
  simp only [Bool.false_eq_true, if_false, pure_bind, Bool.not_false, Bool.and_self, if_true]
  refine wpAny_bind (L7.at ?_)
  simp only [Bool.false_eq_true, if_false, pure_bind, Bool.not_false, Bool.and_self, if_true]
  refine wpAny_bind (wpAny_mono one ?_ fun _ _ z => z)
  rintro _ _ ⟨rfl, rfl⟩
  dsimp only
  refine wpAny_bind (wpAny_mono two ?_ fun _ _ z => z)
  intro _ _ z; exact z.elim

theorem get_hookH (X : K.In s.heap) (I : InstAt s.heap x ox C od) (hga : findIn K (.ref C) "__getattribute__" = some (some (.builtin "object.__getattribute__")))
    (hm : findObj K C od name = some .missing) (hk : findIn K (.ref C) "__getattr__" = some (some (.ref f))) (hf : isFn K (.ref f) = true)
    (h : wpAny (model prog w) A.in1 (call (.ref f) [.ref x, .str name s.toks]) (fun v s' => wpAny (model prog w) A (handedOut v) Q E s') (fun e s' => wpAny (model prog w) A (noteIf true (.ref x) (.str name s.toks) e) (fun _ s'' => E e s'') E s') { s with toks := s.toks + 1 }) :
    wpAny (model prog w) A (getAttr (.ref x) name expr) Q E s := by
  refine get_open X I hga ?_
  obtain ⟨hh', gg, d, t, os⟩ := s
  have L0 := I.type (M := model prog w)
  have L1 := looks_find (M := model prog w) X I hm
  have L2 := looks_findIn (M := model prog w) X hk
  have L3 := bind_fn (M := model prog w) X (.ref x) (beq_iff_eq.mp hf)
  refine wpAny_bind (wpAny_pure (wpAny_bind (L0.at (wpAny_bind (L1.at (wpAny_bind (L2.at ?_)))))))
  show wpAny _ _ (Builtin.ObjectAttr.byHook _ _ _) _ _ _
  unfold Builtin.ObjectAttr.byHook
  refine wpAny_bind (L3.at ?_)
  refine wpAny_bind (wpAny_mono h (fun v s' z => ?_) fun _ _ z => z)
  exact wpAny_bind (wpAny_rule (wpAny_pure z))

theorem cmp_refl {op : CmpOp} {y D : Addr} {oy : Obj} {od' : Option Obj} (hu : A.units < cLine) (F : Fr h₀ L s.heap m) (X₀ : K.In h₀) (I : InstAt s.heap x ox C od) (J : InstAt s.heap y oy D od') (hne : (C == D) = false) (hsub : subIn K (.ref D) (.ref C) = some true)
    (hs : findIn K (.ref D) (cmpInfo op).2.2 = some (some (.ref f))) (hf : isFn K (.ref f) = true) (h : wpAny (model prog w) A (call (.ref f) [.ref y, .ref x]) (PySem.W.CmpBack Q) E s) : wpAny (model prog w) A (richCompare op (.ref x) (.ref y)) Q E s := by
  have X := X₀.keeps F.keep
  have one : wpAny (model prog w) A (tryCompare (.ref y) (cmpInfo op).2.2 (.ref x)) (fun r s' => ∃ v, r = some v ∧ Q v s') E s := by
    unfold tryCompare
    refine wpAny_bind (ifBound_K X J hs hf (wpAny_mono h (fun v s' hv => ?_) fun _ _ e => e))
    cases v <;> first | exact hv.elim | exact wpAny_pure ⟨_, rfl, hv⟩
  have hcd : (Value.ref C != Value.ref D) = true := by
    show (!(Value.ref C == Value.ref D)) = true
    cases q : (Value.ref C == Value.ref D) with
    | false => rfl
    | true =>
      have := beq_iff_eq.mp q
      cases this
      simp at hne
  unfold richCompare
  simp only [oneThing_ref]
  refine wpAny_holding (wpAny_bind (wpAny_cRoomFor hu ?_))
  refine wpAny_bind (I.type.here (wpAny_bind (J.type.here ?_)))
  rw [if_pos hcd]
  refine wpAny_bind ((looks_subIn X hsub).here ?_)
  simp only [if_true]
  refine wpAny_bind (wpAny_mono one (fun r s' z => ?_) fun _ _ e => e)
  obtain ⟨v, rfl, hq⟩ := z
  exact wpAny_bind (wpAny_rule (wpAny_pure hq))

theorem findObj_fnN {gv : Value} {ob : Obj} (hh : hasDictIn K C = false) (hc' : isClsIn K C = true) (ha : findIn K (.ref C) name = some (some (.ref f))) (hg : specialIn K (.ref f) "__get__" = some (some gv)) (ht : takesIn K (.ref f) = some false) (hc : copiedNames.contains name = false) :
    findObj K C (some ob) name = some (.bind gv (.ref f)) := by
  obtain ⟨cd, hcd⟩ : ∃ cd, clsIn K C = some cd := Option.isSome_iff_exists.mp hc'
  have hd : cd.hasDict = false := by unfold hasDictIn at hh; rw [hcd] at hh; simpa using hh
  unfold findObj
  have ho : PySem.W.ownOf cd (some ob) name = some none := by unfold PySem.W.ownOf; rw [hd]; rfl
  rw [hcd, Option.bind_some, ha, Option.bind_some]
  simp only [hg, ht, Option.bind_some, ho, hc, Bool.false_and, Bool.false_eq_true, if_false]
theorem findObj_missN {ob : Obj} (hh : hasDictIn K C = false) (hc' : isClsIn K C = true) (ha : findIn K (.ref C) name = some none) (hc : copiedNames.contains name = false) :
    findObj K C (some ob) name = some .missing := by
  obtain ⟨cd, hcd⟩ : ∃ cd, clsIn K C = some cd := Option.isSome_iff_exists.mp hc'
  have hd : cd.hasDict = false := by unfold hasDictIn at hh; rw [hcd] at hh; simpa using hh
  unfold findObj
  have ho : PySem.W.ownOf cd (some ob) name = some none := by unfold PySem.W.ownOf; rw [hd]; rfl
  rw [hcd, Option.bind_some, ha, Option.bind_some]
  simp only [Option.bind_some, ho, hc, Bool.false_and, Bool.false_eq_true, if_false]

/-- a method of a class with __getattr__ and without a dict, read -/
theorem get_fnH {fh : Value} {ob : Obj} {news : List (Addr × Obj)} (F : Fr h₀ L s.heap m) (X₀ : K.In h₀) (N : News h₀ L s.heap news) (I : InstAt s.heap x ox C (some ob)) (hga : findIn K (.ref C) "__getattribute__" = some (some (.builtin "object.__getattribute__"))) (hk : findIn K (.ref C) "__getattr__" = some (some fh))
    (hh : hasDictIn K C = false) (hc' : isClsIn K C = true) (ha : findIn K (.ref C) name = some (some (.ref f))) (hf : isFn K (.ref f) = true)
    (hgf : specialIn K (.ref f) "__get__" = some (some (.builtin "function.__get__"))) (ht : takesIn K (.ref f) = some false) (hc : copiedNames.contains name = false)
    (h : ∀ q h', Fr h₀ L h' m → News h₀ L h' ((q, methodObj (.ref f) (.ref x)) :: news) → (∀ p ∈ news, p.1 < q) → Q (.ref q) { s with heap := h', toks := s.toks + 1 }) : wpAny (model prog w) A (getAttr (.ref x) name expr) Q E s :=
  get_bindH (X₀.keeps F.keep) I hga (findObj_fnN hh hc' ha hgf ht hc) hk
    (wpAny_call (fn_get (s := { s with toks := s.toks + 1 }) (X₀.keeps F.keep) (beq_iff_eq.mp hf) (handed_on rfl (h s.heap.objs.size _ (F.push _) (N.push F _) fun p hp => Heap.lt_size (N p hp).1))))
end
section
variable {prog : Program} {w : World} {A : Around} {E : Value → Shared → Prop} {s : Shared} {K : Frag} {e t C : Addr} {Q : Unit → Shared → Prop} {base G : Heap} {l : List Env} {vs : List Value} {news : List (Addr × Obj)} {o nm : Value}
theorem noteIf_no (R : RaisedS base G l e (.ref C) t vs news s.heap) (XB : K.In base) (hsub : subIn K (.ref C) (.type "AttributeError") = some false) (h : Q () s) : wpAny (model prog w) A (noteIf true o nm (.ref e)) Q E s := by
  have X : K.In s.heap := by
    obtain ⟨⟨B, hB, _, _, hfl, _⟩, _⟩ := R
    exact fun a o q => hfl.1 _ _ (hB _ _ (XB a o q))
  have L1 : Looks (model prog w) s.heap (typeOf (.ref e)) (.ref C) := R.toSN.ty
  have L2 : Looks (model prog w) s.heap (isSubtype (.ref C) (.type "AttributeError")) false := looks_subIn X hsub
  unfold noteIf
  rw [if_pos rfl]
  unfold noteAttr lacksNameAndObj isInstance
  dsimp only
  refine wpAny_bind (wpAny_bind (wpAny_bind (L1.here (L2.here ?_))))
  refine wpAny_pure ?_
  rw [if_neg Bool.false_ne_true]
  exact wpAny_pure h
end

end B10sec
end Mine
/- iter(()) and a comprehension over nothing -/
namespace Mine
section B11sec
abbrev itO (T : Addr) : Obj := { cls := .type "tuple_iterator", data := .fields #[.ref T, .int 0 0] }
section
variable {prog : Program} {w : World} {A : Around} {E : Value → Shared → Prop} {s : Shared} {K : Frag} {I T L : Addr} {h₀ : Heap} {m : Str → Option Value} {Q : Value → Shared → Prop} {news : List (Addr × Obj)} {oT : Obj}
theorem iter_tupK {its : Array Value} {c : Nat} (F : Fr h₀ L s.heap m) (N : News h₀ L s.heap news) (hT : (T, oT) ∈ news) (hc : oT.cls = .type "tuple") (hd : oT.data = .seq its c)
    (h : ∀ I h', Fr h₀ L h' m → News h₀ L h' ((I, itO T) :: news) → (∀ p ∈ news, p.1 < I) → Q (.ref I) { s with heap := h' }) : wpAny (model prog w) A (call (.builtin "iter") [.ref T]) Q E s := by
  refine call_function_entry (by decide +kernel) (by decide +kernel) kdk_entry_iter (kdk_args_iter _) ?_
  unfold Builtin.«iter»
  refine wpAny_bind (m := someArgs "iter" 1 2 _) (wpAny_of_eq (a := [Value.ref T]) (by first | rfl | kernel_rfl!) ?_)
  show wpAny _ _ (pyIter (.ref T) >>= _) _ _ _
  refine wpAny_bind (iter_tuple (items := its) ⟨oT, (N _ hT).1, hc, c, hd⟩ ?_)
  exact wpAny_pure ⟨_, rfl, h _ _ (F.push _) (News.push F N _ rfl) (fun q hq => Heap.lt_size (N q hq).1)⟩
theorem owit_tup {A' : Around} (N : News h₀ L s.heap news) (hI : (I, itO T) ∈ news) (h : Q (.ref I) s) : OwitIt (model prog w) A' Q E (.ref I) s := by
  unfold OwitIt
  exact wpAny_specialOf (name := Str.ofString "__next__") (T := "tuple_iterator") ⟨_, (N _ hI).1, rfl⟩ slot_tupleiter_next.lookup h
theorem comp0 {env : Env} {scope : Scope} {x : Str} {ifs : List PySem.Expr} {elt : PySem.Expr} {c : Nat} (hh : A.handled = none) (F : Fr h₀ L s.heap m) (N : News h₀ L s.heap news) (hI : (I, itO T) ∈ news) (hT : (T, oT) ∈ news) (hc : oT.cls = .type "tuple") (hd : oT.data = .seq #[] c)
    {news₂ : List (Addr × Obj)} (hs : ∀ q ∈ news₂, q ∈ news ∧ q.1 ≠ I)
    (h : ∀ D h' tk c', Fr h₀ L h' m → News h₀ L h' ((D, listOf #[] c') :: news₂) → Q (.ref D) { s with heap := h', toks := tk }) : CompPost prog w A env scope x ifs elt Q (.ref I) s := by
  have hne : T ≠ I := by
    rintro rfl
    have q := congrArg Obj.cls (Option.some.inj ((N _ hI).1.symm.trans (N _ hT).1))
    rw [hc] at q
    have q' : ("tuple_iterator" : String) = "tuple" := Value.type.inj q
    exact absurd q' (by decide)
  refine ⟨fun _ => true, fun _ _ => True, I, [I, T], [I], 0, _, _, rfl, Walks.tuple hh I T hne #[], Nat.zero_le _, ⟨⟨_, (N _ hI).1, rfl, rfl⟩, ⟨oT, (N _ hT).1, hc, c, hd⟩⟩, ?_, ?_, ?_⟩
  · intro b hb
    simp only [List.mem_cons, List.not_mem_nil, or_false] at hb
    rcases hb with rfl | rfl
    · exact Heap.lt_size (N _ hI).1
    · exact Heap.lt_size (N _ hT).1
  · exact ⟨fun _ _ _ _ _ _ hp => by simp at hp, fun _ _ _ _ _ _ hp => by simp at hp⟩
  · intro D h' tk ys vs hD hl hp hn hv hpa hk
    have hv0 : vs = [] := List.eq_nil_of_length_eq_zero hn
    subst hv0
    have hy : ys = #[] := by
      cases hys : ys.toList with
      | nil => exact Array.toList_eq_nil_iff.mp hys
      | cons a b => rw [hys] at hpa; cases hpa
    subst hy
    obtain ⟨c', hDc⟩ := hp
    have hLI : L ≠ I := fun e => (N _ hI).2.1 e.symm
    have keep : ∀ b o, h₀.get? b = some o → h'.get? b = some o := fun b o e => hk b o (fun hb => by
      simp only [List.mem_singleton] at hb
      subst hb
      rw [(N _ hI).2.2] at e; cases e) (F.keep b o e)
    refine h D h' tk c' ⟨?_, keep, F.above⟩ ?_
    · obtain ⟨oL, es, ep, hL, r⟩ := F.ns
      exact ⟨oL, es, ep, hk _ _ (by simp [hLI]) hL, r⟩
    · intro q hq
      rcases List.mem_cons.mp hq with rfl | hq
      · refine ⟨hDc, ?_, ?_⟩
        · rintro rfl
          obtain ⟨oL, es, ep, hL, r⟩ := F.ns
          rw [hL] at hD; cases hD
        · cases e : h₀.get? D with
          | none => rfl
          | some o => rw [F.keep _ _ e] at hD; cases hD
      · obtain ⟨h1, h2⟩ := hs q hq
        exact ⟨hk _ _ (by simp [h2]) (N q h1).1, (N q h1).2⟩
end

end B11sec
end Mine
/- contracts of fourteen operations for any kind -/
namespace Mine
section B12sec

local macro_rules | `(tactic| walk_at "getAttr ref") => `(tactic| (k_here; first
  | ((with_reducible show wpAny _ _ (getAttr _ ("_undefined_hint" : Str) _) _ _ _); (rename Kd _ _ => kf'); (rename Sd _ => sf'); k_dflt (refine' get_slotH ?k1 ?k2 ?k3 (Kd.ga (by assumption)) (Exists.choose_spec (Kd.hook (by assumption))) (Kd.cls (by assumption)) (Kd.hint (by assumption)).1 sf'.s199.1 sf'.s199.2 (Kd.hint (by assumption)).2 ?kv ?kh ?_; (case k1 => k_asm); (case k2 => k_asm); (case k3 => k_inst); (case kv => k_slotget); (case kh => k_handed); k_whole))
  | ((with_reducible show wpAny _ _ (getAttr _ ("_undefined_name" : Str) _) _ _ _); (rename Kd _ _ => kf'); (rename Sd _ => sf'); k_dflt (refine' get_slotH ?k1 ?k2 ?k3 (Kd.ga (by assumption)) (Exists.choose_spec (Kd.hook (by assumption))) (Kd.cls (by assumption)) (Kd.name (by assumption)).1 sf'.s200.1 sf'.s200.2 (Kd.name (by assumption)).2 ?kv ?kh ?_; (case k1 => k_asm); (case k2 => k_asm); (case k3 => k_inst); (case kv => k_slotget); (case kh => k_handed); k_whole))
  | ((with_reducible show wpAny _ _ (getAttr _ ("_undefined_obj" : Str) _) _ _ _); (rename Kd _ _ => kf'); (rename Sd _ => sf'); k_dflt (refine' get_slotH ?k1 ?k2 ?k3 (Kd.ga (by assumption)) (Exists.choose_spec (Kd.hook (by assumption))) (Kd.cls (by assumption)) (Kd.obj (by assumption)).1 sf'.s201.1 sf'.s201.2 (Kd.obj (by assumption)).2 ?kv ?kh ?_; (case k1 => k_asm); (case k2 => k_asm); (case k3 => k_inst); (case kv => k_slotget); (case kh => k_handed); k_whole))
  | ((with_reducible show wpAny _ _ (getAttr _ ("_undefined_exception" : Str) _) _ _ _); (rename Kd _ _ => kf'); (rename Sd _ => sf'); k_dflt (refine' get_slotH ?k1 ?k2 ?k3 (Kd.ga (by assumption)) (Exists.choose_spec (Kd.hook (by assumption))) (Kd.cls (by assumption)) (Kd.exc (by assumption)).1 sf'.s198.1 sf'.s198.2 (Kd.exc (by assumption)).2 ?kv ?kh ?_; (case k1 => k_asm); (case k2 => k_asm); (case k3 => k_inst); (case kv => k_slotget); (case kh => k_handed); k_whole))
  | (k_dflt (refine' get_fnH ?k1 ?k2 ?k3 ?k4 ?k5 ?k6 ?k7 ?k8 ?k9 ?k10 ?k11 ?k12 ?k13 ?_; (case k1 => k_asm); (case k2 => k_asm); (case k3 => k_asm); (case k4 => k_inst); (case k5 => k_is); (case k6 => k_is); (case k7 => k_is); (case k8 => k_is); (case k9 => k_is); (case k10 => k_is); (case k11 => k_is); (case k12 => k_is); (case k13 => decide); intro q' h' F' N' l1; (try k_lt l1)))))
local macro_rules | `(tactic| walk_at "getMethod ref") => `(tactic| (k_here; k_dflt (refine' get_methodH ?k1 ?k2 ?k3 ?k4 ?k5 ?_; (case k1 => k_asm); (case k2 => k_asm); (case k3 => k_inst); (case k4 => k_is); (case k5 => k_is); k_whole)))
local macro_rules | `(tactic| walk_at "compareOp Is") => `(tactic| (k_here; first | refine is_int_ref ?_ | refine is_str_ref ?_))
local macro_rules | `(tactic| walk_at "pyReprObj str") => `(tactic| (k_here; first
  | refine repr_lit (y := "'user'") (by decide +kernel) (by decide +kernel) ?_
  | refine repr_lit (y := "'else'") (by decide +kernel) (by decide +kernel) ?_
  | refine repr_lit (y := "'a b'") (by decide +kernel) (by decide +kernel) ?_
  | refine repr_lit (y := "'int object'") (by decide +kernel) (by decide +kernel) ?_
  | refine repr_lit (y := "'str object'") (by decide +kernel) (by decide +kernel) ?_))
local macro_rules | `(tactic| walk_at "call type:bool") => `(tactic| (k_here; (with_reducible show wpAny _ _ (call _ [Value.ref _]) _ _ _); k_dflt (refine' call_bool_K ?k1 ?k2 ?k3 ?k4 ?_; (case k1 => k_in); (case k2 => k_inst); (case k3 => k_is); (case k4 => k_is); k_whole)))
local macro_rules | `(tactic| walk_at "call type:int") => `(tactic| (k_here; (with_reducible show wpAny _ _ (call _ [Value.ref _]) _ _ _); k_dflt (refine' call_int_K ?k1 ?k2 ?k3 ?k4 ?_; (case k1 => k_in); (case k2 => k_inst); (case k3 => k_is); (case k4 => k_is); k_whole); intro Q'))
local macro_rules | `(tactic| walk_at "binaryOp Sub int ref") => `(tactic| (k_here; k_dflt (refine' rsub_K ?k1 ?k2 ?k3 ?k4 ?k5 ?k6 ?k7 ?k8 ?k9 ?_; (case k1 => k_asm); (case k2 => k_asm); (case k3 => k_inst); (case k4 => exact (News.get (by assumption) (by k_mem))); (case k5 => k_is); (case k6 => k_is); (case k7 => k_is); (case k8 => k_is); (case k9 => k_is); k_whole); intro Q'))
local macro_rules | `(tactic| walk_at "richCompare") => `(tactic| (k_here; k_dflt (refine' cmp_refl ?k1 ?k2 ?k3 ?k4 ?k5 ?k6 ?k7 ?k8 ?k9 ?_; (case k1 => k_units); (case k2 => k_asm); (case k3 => k_asm); (case k4 => k_inst); (case k5 => k_inst); (case k6 => decide); (case k7 => k_is); (case k8 => k_is); (case k9 => k_is); k_whole)))
local macro_rules | `(tactic| walk_at "compareOp Eq ref ref") => `(tactic| (k_here; (refine cmp_ofEq ?_); k_dflt (refine' cmp_refl ?k1 ?k2 ?k3 ?k4 ?k5 ?k6 ?k7 ?k8 ?k9 ?_; (case k1 => k_units); (case k2 => k_asm); (case k3 => k_asm); (case k4 => k_inst); (case k5 => k_inst); (case k6 => decide); (case k7 => k_is); (case k8 => k_is); (case k9 => k_is); k_whole)))
local macro_rules | `(tactic| walk_at "compareOp NotEq ref ref") => `(tactic| (k_here; (refine cmp_ofNotEq ?_); k_dflt (refine' cmp_refl ?k1 ?k2 ?k3 ?k4 ?k5 ?k6 ?k7 ?k8 ?k9 ?_; (case k1 => k_units); (case k2 => k_asm); (case k3 => k_asm); (case k4 => k_inst); (case k5 => k_inst); (case k6 => decide); (case k7 => k_is); (case k8 => k_is); (case k9 => k_is); k_whole)))
local macro_rules | `(tactic| walk_at "compareOp GtE ref ref") => `(tactic| (k_here; (refine cmp_ofGtE ?_); k_dflt (refine' cmp_refl ?k1 ?k2 ?k3 ?k4 ?k5 ?k6 ?k7 ?k8 ?k9 ?_; (case k1 => k_units); (case k2 => k_asm); (case k3 => k_asm); (case k4 => k_inst); (case k5 => k_inst); (case k6 => decide); (case k7 => k_is); (case k8 => k_is); (case k9 => k_is); k_whole)))
local macro_rules | `(tactic| walk_at "pyIter ref") => `(tactic| (k_here; k_dflt (refine' owit_iter ?F ?X ?I ?hs ?hf ?_; (case F => k_asm); (case X => k_asm); (case I => k_inst); (case hs => k_is); (case hf => k_is); k_whole)))
local macro_rules | `(tactic| walk_at "call builtin:iter") => `(tactic| (k_here; k_dflt (refine' iter_tupK ?k1 ?k2 ?k3 ?k4 ?k5 ?_; (case k1 => k_asm); (case k2 => k_asm); (case k3 => k_mem); (case k4 => exact rfl); (case k5 => exact rfl); intro I' h' F' N' l1; (try k_lt l1))))
local macro_rules | `(tactic| walk_at "OwitIt") => `(tactic| (k_dflt (refine' owit_tup ?k1 ?k2 ?_; (case k1 => k_asm); (case k2 => k_mem); k_whole)))

local macro_rules | `(tactic| walk_at "call ref") => `(tactic| (k_here; k_dflt (refine wpAny_call ?_; first
  | (refine' weakenC (fail_K1 _ _ _ _ _ _ _ _ _ _ _ _ _ _ _ _ _ _ _ _ _ _ _ ?k1 ?k2 ?k3 ?k4 _ _ _ ?k5 ?k6 _ _ _ _ _ _ _ _ ?k7 ?k8 ?k9 ?_) rfl rfl rfl rfl rfl; (case k1 => k_asm); (case k2 => k_asm); (case k3 => k_asm); (case k4 => k_asm); (case k6 => assumption); (case k7 => k_asm); (case k8 => k_mem); (case k9 => k_mem); (case k5 => assumption))
  | (refine' weakenC (fail_K0 _ _ _ _ _ _ _ _ _ _ _ _ _ _ _ _ _ _ _ _ _ _ _ ?k1 ?k2 ?k3 ?k4 _ _ _ ?k5 ?k6 _ _ _ _ _ _ _ ?k7 ?k8 ?k9 ?_) rfl rfl rfl rfl rfl; (case k1 => k_asm); (case k2 => k_asm); (case k3 => k_asm); (case k4 => k_asm); (case k6 => assumption); (case k7 => k_asm); (case k8 => k_mem); (case k9 => k_mem); (case k5 => assumption))); intro g' e' t' tok' h' tk' F' U' R'; (try dsimp only)))
local macro_rules | `(tactic| k_enter) => `(tactic| ((first
  | (refine' weakenC (fail_K1 _ _ _ _ _ _ _ _ _ _ _ _ _ _ _ _ _ _ _ _ _ _ _ ?k1 ?k2 ?k3 ?k4 _ _ _ ?k5 ?k6 _ _ _ _ _ _ _ _ ?k7 ?k8 ?k9 ?_) rfl rfl rfl rfl rfl; (case k1 => k_asm); (case k2 => k_asm); (case k3 => k_asm); (case k4 => k_asm); (case k6 => assumption); (case k7 => k_asm); (case k8 => k_mem); (case k9 => k_mem); (case k5 => assumption))
  | (refine' weakenC (fail_K0 _ _ _ _ _ _ _ _ _ _ _ _ _ _ _ _ _ _ _ _ _ _ _ ?k1 ?k2 ?k3 ?k4 _ _ _ ?k5 ?k6 _ _ _ _ _ _ _ ?k7 ?k8 ?k9 ?_) rfl rfl rfl rfl rfl; (case k1 => k_asm); (case k2 => k_asm); (case k3 => k_asm); (case k4 => k_asm); (case k6 => assumption); (case k7 => k_asm); (case k8 => k_mem); (case k9 => k_mem); (case k5 => assumption))); intro g' e' t' tok' h' tk' F' U' R'; (try dsimp only)))

set_option maxHeartbeats 0 in
theorem op_bool (w : World) (p : Program) (loose : List Str) (mean : ExcName → Option Value) (mg mb : Str → Option Value)
  (gd : Option (List Code)) (cn : Str) (nms : List (Str × NameKind)) (ig ic : Bool) (mo : List (Str × Const)) (a : Addr) (ccd : Value) (cl : List (Str × Addr)) (outer : List Env) (A₀ : Around) (base h₀ : Heap) (L : Addr) (m : Str → Option Value) (s : Shared) (Q E : Value → Shared → Prop)
  (B : Below A₀ base outer h₀) (F : Fr h₀ L s.heap m) (X : (Mine.hd.heap_39 w.params).In h₀) (T : Top p loose mean mg mb h₀)
  (kn : Kn) (x dx : Addr) (kf : Kd (Mine.hd.heap_39 w.params) kn.cls) (sf : Sd (Mine.hd.heap_39 w.params)) (hi : Bool) (th : Th) (nm : Nm) (t1 t2 t3 : Tok) (rest : List (Addr × Obj)) 
  (N : News h₀ L s.heap ((x, uo kn.cls dx (.str (hintS hi) t1) (nm.val t2) (th.slot t3)) :: (dx, dictOf [] 0) :: rest))
  (hq : ∀ (t : Tok) h' tk', kn ≠ .st → Fr h₀ L h' m → News h₀ L h' ((x, uo kn.cls dx (.str (hintS hi) t1) (nm.val t2) (th.slot t3)) :: (dx, dictOf [] 0) :: rest) → Q (.bool false) { s with heap := h', toks := tk' })
  (hE : ∀ g e t vs h' tk', kn = .st → Fr h₀ L g m → g.UpToSlots h' → RaisedS base g (envX cn ⟨.function, nms, ig, ic, mo⟩ L a ccd cl :: outer) e (.ref 67) t vs ((x, uo kn.cls dx (.str (hintS hi) t1) (nm.val t2) (th.slot t3)) :: (dx, dictOf [] 0) :: rest) h' → E (.ref e) { s with heap := h', toks := tk' }) :
  wpAny (model PySem.Challenge.rw_bb0045_01.row.prog w) (PySem.W.ktrTop 370 130 gd cn ⟨.function, nms, ig, ic, mo⟩ L a ccd cl outer) (call (.type "bool") [.ref x]) Q E s := by
  walk_say "OP bool"
  w_on; w_top on
  cases kn <;> (dsimp only [Kn.cls] at kf N hE hq; w_top on; w_strict k_steps; all_goals (first | exact hq _ _ _ (fun z => by cases z) (by assumption) (by assumption) | exact hq 0 _ _ (fun z => by cases z) (by assumption) (by assumption) | exact hE _ _ _ _ _ _ rfl (by assumption) (by assumption) (by assumption)))

set_option maxHeartbeats 0 in
theorem op_len (w : World) (p : Program) (loose : List Str) (mean : ExcName → Option Value) (mg mb : Str → Option Value)
  (gd : Option (List Code)) (cn : Str) (nms : List (Str × NameKind)) (ig ic : Bool) (mo : List (Str × Const)) (a : Addr) (ccd : Value) (cl : List (Str × Addr)) (outer : List Env) (A₀ : Around) (base h₀ : Heap) (L : Addr) (m : Str → Option Value) (s : Shared) (Q E : Value → Shared → Prop)
  (B : Below A₀ base outer h₀) (F : Fr h₀ L s.heap m) (X : (Mine.hd.heap_39 w.params).In h₀) (T : Top p loose mean mg mb h₀)
  (kn : Kn) (x dx : Addr) (kf : Kd (Mine.hd.heap_39 w.params) kn.cls) (sf : Sd (Mine.hd.heap_39 w.params)) (hi : Bool) (th : Th) (nm : Nm) (t1 t2 t3 : Tok) (rest : List (Addr × Obj)) 
  (N : News h₀ L s.heap ((x, uo kn.cls dx (.str (hintS hi) t1) (nm.val t2) (th.slot t3)) :: (dx, dictOf [] 0) :: rest))
  (hq : ∀ (t : Tok) h' tk', kn ≠ .st → Fr h₀ L h' m → News h₀ L h' ((x, uo kn.cls dx (.str (hintS hi) t1) (nm.val t2) (th.slot t3)) :: (dx, dictOf [] 0) :: rest) → Q (.int 0 t) { s with heap := h', toks := tk' })
  (hE : ∀ g e t vs h' tk', kn = .st → Fr h₀ L g m → g.UpToSlots h' → RaisedS base g (envX cn ⟨.function, nms, ig, ic, mo⟩ L a ccd cl :: outer) e (.ref 67) t vs ((x, uo kn.cls dx (.str (hintS hi) t1) (nm.val t2) (th.slot t3)) :: (dx, dictOf [] 0) :: rest) h' → E (.ref e) { s with heap := h', toks := tk' }) :
  wpAny (model PySem.Challenge.rw_bb0045_01.row.prog w) (PySem.W.ktrTop 370 130 gd cn ⟨.function, nms, ig, ic, mo⟩ L a ccd cl outer) (call (.builtin "len") [.ref x]) Q E s := by
  walk_say "OP len"
  w_on; w_top on
  cases kn <;> (dsimp only [Kn.cls] at kf N hE hq; w_top on; w_strict k_steps; all_goals (first | exact hq _ _ _ (fun z => by cases z) (by assumption) (by assumption) | exact hq 0 _ _ (fun z => by cases z) (by assumption) (by assumption) | exact hE _ _ _ _ _ _ rfl (by assumption) (by assumption) (by assumption)))

set_option maxHeartbeats 0 in
theorem op_iter (w : World) (p : Program) (loose : List Str) (mean : ExcName → Option Value) (mg mb : Str → Option Value)
  (gd : Option (List Code)) (cn : Str) (nms : List (Str × NameKind)) (ig ic : Bool) (mo : List (Str × Const)) (a : Addr) (ccd : Value) (cl : List (Str × Addr)) (outer : List Env) (A₀ : Around) (base h₀ : Heap) (L : Addr) (m : Str → Option Value) (s : Shared) (Q E : Value → Shared → Prop)
  (B : Below A₀ base outer h₀) (F : Fr h₀ L s.heap m) (X : (Mine.hd.heap_39 w.params).In h₀) (T : Top p loose mean mg mb h₀)
  (kn : Kn) (x dx : Addr) (kf : Kd (Mine.hd.heap_39 w.params) kn.cls) (sf : Sd (Mine.hd.heap_39 w.params)) (hi : Bool) (th : Th) (nm : Nm) (t1 t2 t3 : Tok) (rest : List (Addr × Obj)) 
  (N : News h₀ L s.heap ((x, uo kn.cls dx (.str (hintS hi) t1) (nm.val t2) (th.slot t3)) :: (dx, dictOf [] 0) :: rest))
  (hq : ∀ I D h' tk', kn ≠ .st → Fr h₀ L h' m → News h₀ L h' ((I, itO D) :: (D, ({ cls := .type "tuple", data := .seq ([] : List Value).toArray } : Obj)) :: ((x, uo kn.cls dx (.str (hintS hi) t1) (nm.val t2) (th.slot t3)) :: (dx, dictOf [] 0) :: rest)) → Q (.ref I) { s with heap := h', toks := tk' })
  (hE : ∀ g e t vs h' tk', kn = .st → Fr h₀ L g m → g.UpToSlots h' → RaisedS base g (envX cn ⟨.function, nms, ig, ic, mo⟩ L a ccd cl :: outer) e (.ref 67) t vs ((x, uo kn.cls dx (.str (hintS hi) t1) (nm.val t2) (th.slot t3)) :: (dx, dictOf [] 0) :: rest) h' → E (.ref e) { s with heap := h', toks := tk' }) :
  wpAny (model PySem.Challenge.rw_bb0045_01.row.prog w) (PySem.W.ktrTop 370 130 gd cn ⟨.function, nms, ig, ic, mo⟩ L a ccd cl outer) (pyIter (.ref x)) Q E s := by
  walk_say "OP iter"
  w_on; w_top on
  cases kn <;> (dsimp only [Kn.cls] at kf N hE hq; w_top on; w_strict k_steps; all_goals (first | exact hq _ _ _ _ (fun z => by cases z) (by assumption) (by assumption) | exact hE _ _ _ _ _ _ rfl (by assumption) (by assumption) (by assumption)))

set_option maxHeartbeats 0 in
theorem op_add (w : World) (p : Program) (loose : List Str) (mean : ExcName → Option Value) (mg mb : Str → Option Value)
  (gd : Option (List Code)) (cn : Str) (nms : List (Str × NameKind)) (ig ic : Bool) (mo : List (Str × Const)) (a : Addr) (ccd : Value) (cl : List (Str × Addr)) (outer : List Env) (A₀ : Around) (base h₀ : Heap) (L : Addr) (m : Str → Option Value) (s : Shared) (Q E : Value → Shared → Prop)
  (B : Below A₀ base outer h₀) (F : Fr h₀ L s.heap m) (X : (Mine.hd.heap_39 w.params).In h₀) (T : Top p loose mean mg mb h₀)
  (kn : Kn) (x dx : Addr) (kf : Kd (Mine.hd.heap_39 w.params) kn.cls) (sf : Sd (Mine.hd.heap_39 w.params)) (hi : Bool) (th : Th) (nm : Nm) (t1 t2 t3 : Tok) (rest : List (Addr × Obj)) (t4 : Tok)
  (N : News h₀ L s.heap ((x, uo kn.cls dx (.str (hintS hi) t1) (nm.val t2) (th.slot t3)) :: (dx, dictOf [] 0) :: rest))
  
  (hE : ∀ g e t vs h' tk', Fr h₀ L g m → g.UpToSlots h' → RaisedS base g (envX cn ⟨.function, nms, ig, ic, mo⟩ L a ccd cl :: outer) e (.ref 67) t vs ((x, uo kn.cls dx (.str (hintS hi) t1) (nm.val t2) (th.slot t3)) :: (dx, dictOf [] 0) :: rest) h' → E (.ref e) { s with heap := h', toks := tk' }) :
  wpAny (model PySem.Challenge.rw_bb0045_01.row.prog w) (PySem.W.ktrTop 370 130 gd cn ⟨.function, nms, ig, ic, mo⟩ L a ccd cl outer) (binaryOp .Add (.ref x) (.int 1 t4)) Q E s := by
  walk_say "OP add"
  w_on; w_top on
  cases kn <;> (dsimp only [Kn.cls] at kf N hE; w_top on; w_strict k_steps; all_goals (first | exact hE _ _ _ _ _ _ (by assumption) (by assumption) (by assumption)))

set_option maxHeartbeats 0 in
theorem op_rsub (w : World) (p : Program) (loose : List Str) (mean : ExcName → Option Value) (mg mb : Str → Option Value)
  (gd : Option (List Code)) (cn : Str) (nms : List (Str × NameKind)) (ig ic : Bool) (mo : List (Str × Const)) (a : Addr) (ccd : Value) (cl : List (Str × Addr)) (outer : List Env) (A₀ : Around) (base h₀ : Heap) (L : Addr) (m : Str → Option Value) (s : Shared) (Q E : Value → Shared → Prop)
  (B : Below A₀ base outer h₀) (F : Fr h₀ L s.heap m) (X : (Mine.hd.heap_39 w.params).In h₀) (T : Top p loose mean mg mb h₀)
  (kn : Kn) (x dx : Addr) (kf : Kd (Mine.hd.heap_39 w.params) kn.cls) (sf : Sd (Mine.hd.heap_39 w.params)) (hi : Bool) (th : Th) (nm : Nm) (t1 t2 t3 : Tok) (rest : List (Addr × Obj)) (t4 : Tok)
  (N : News h₀ L s.heap ((x, uo kn.cls dx (.str (hintS hi) t1) (nm.val t2) (th.slot t3)) :: (dx, dictOf [] 0) :: rest))
  
  (hE : ∀ g e t vs h' tk', Fr h₀ L g m → g.UpToSlots h' → RaisedS base g (envX cn ⟨.function, nms, ig, ic, mo⟩ L a ccd cl :: outer) e (.ref 67) t vs ((x, uo kn.cls dx (.str (hintS hi) t1) (nm.val t2) (th.slot t3)) :: (dx, dictOf [] 0) :: rest) h' → E (.ref e) { s with heap := h', toks := tk' }) :
  wpAny (model PySem.Challenge.rw_bb0045_01.row.prog w) (PySem.W.ktrTop 370 130 gd cn ⟨.function, nms, ig, ic, mo⟩ L a ccd cl outer) (binaryOp .Sub (.int 2 t4) (.ref x)) Q E s := by
  walk_say "OP rsub"
  w_on; w_top on
  cases kn <;> (dsimp only [Kn.cls] at kf N hE; w_top on; w_strict k_steps; all_goals (first | exact hE _ _ _ _ _ _ (by assumption) (by assumption) (by assumption)))

set_option maxHeartbeats 0 in
theorem op_mul (w : World) (p : Program) (loose : List Str) (mean : ExcName → Option Value) (mg mb : Str → Option Value)
  (gd : Option (List Code)) (cn : Str) (nms : List (Str × NameKind)) (ig ic : Bool) (mo : List (Str × Const)) (a : Addr) (ccd : Value) (cl : List (Str × Addr)) (outer : List Env) (A₀ : Around) (base h₀ : Heap) (L : Addr) (m : Str → Option Value) (s : Shared) (Q E : Value → Shared → Prop)
  (B : Below A₀ base outer h₀) (F : Fr h₀ L s.heap m) (X : (Mine.hd.heap_39 w.params).In h₀) (T : Top p loose mean mg mb h₀)
  (kn : Kn) (x dx : Addr) (kf : Kd (Mine.hd.heap_39 w.params) kn.cls) (sf : Sd (Mine.hd.heap_39 w.params)) (hi : Bool) (th : Th) (nm : Nm) (t1 t2 t3 : Tok) (rest : List (Addr × Obj)) (t4 : Tok)
  (N : News h₀ L s.heap ((x, uo kn.cls dx (.str (hintS hi) t1) (nm.val t2) (th.slot t3)) :: (dx, dictOf [] 0) :: rest))
  
  (hE : ∀ g e t vs h' tk', Fr h₀ L g m → g.UpToSlots h' → RaisedS base g (envX cn ⟨.function, nms, ig, ic, mo⟩ L a ccd cl :: outer) e (.ref 67) t vs ((x, uo kn.cls dx (.str (hintS hi) t1) (nm.val t2) (th.slot t3)) :: (dx, dictOf [] 0) :: rest) h' → E (.ref e) { s with heap := h', toks := tk' }) :
  wpAny (model PySem.Challenge.rw_bb0045_01.row.prog w) (PySem.W.ktrTop 370 130 gd cn ⟨.function, nms, ig, ic, mo⟩ L a ccd cl outer) (binaryOp .Mult (.ref x) (.int 3 t4)) Q E s := by
  walk_say "OP mul"
  w_on; w_top on
  cases kn <;> (dsimp only [Kn.cls] at kf N hE; w_top on; w_strict k_steps; all_goals (first | exact hE _ _ _ _ _ _ (by assumption) (by assumption) (by assumption)))

set_option maxHeartbeats 0 in
theorem op_le (w : World) (p : Program) (loose : List Str) (mean : ExcName → Option Value) (mg mb : Str → Option Value)
  (gd : Option (List Code)) (cn : Str) (nms : List (Str × NameKind)) (ig ic : Bool) (mo : List (Str × Const)) (a : Addr) (ccd : Value) (cl : List (Str × Addr)) (outer : List Env) (A₀ : Around) (base h₀ : Heap) (L : Addr) (m : Str → Option Value) (s : Shared) (Q E : Value → Shared → Prop)
  (B : Below A₀ base outer h₀) (F : Fr h₀ L s.heap m) (X : (Mine.hd.heap_39 w.params).In h₀) (T : Top p loose mean mg mb h₀)
  (kn : Kn) (x dx : Addr) (kf : Kd (Mine.hd.heap_39 w.params) kn.cls) (sf : Sd (Mine.hd.heap_39 w.params)) (hi : Bool) (th : Th) (nm : Nm) (t1 t2 t3 : Tok) (rest : List (Addr × Obj)) (t4 : Tok)
  (N : News h₀ L s.heap ((x, uo kn.cls dx (.str (hintS hi) t1) (nm.val t2) (th.slot t3)) :: (dx, dictOf [] 0) :: rest))
  
  (hE : ∀ g e t vs h' tk', Fr h₀ L g m → g.UpToSlots h' → RaisedS base g (envX cn ⟨.function, nms, ig, ic, mo⟩ L a ccd cl :: outer) e (.ref 67) t vs ((x, uo kn.cls dx (.str (hintS hi) t1) (nm.val t2) (th.slot t3)) :: (dx, dictOf [] 0) :: rest) h' → E (.ref e) { s with heap := h', toks := tk' }) :
  wpAny (model PySem.Challenge.rw_bb0045_01.row.prog w) (PySem.W.ktrTop 370 130 gd cn ⟨.function, nms, ig, ic, mo⟩ L a ccd cl outer) (compareOp .LtE (.ref x) (.int 3 t4)) Q E s := by
  walk_say "OP le"
  w_on; w_top on
  cases kn <;> (dsimp only [Kn.cls] at kf N hE; w_top on; w_strict k_steps; all_goals (first | exact hE _ _ _ _ _ _ (by assumption) (by assumption) (by assumption)))

set_option maxHeartbeats 0 in
theorem op_fdiv (w : World) (p : Program) (loose : List Str) (mean : ExcName → Option Value) (mg mb : Str → Option Value)
  (gd : Option (List Code)) (cn : Str) (nms : List (Str × NameKind)) (ig ic : Bool) (mo : List (Str × Const)) (a : Addr) (ccd : Value) (cl : List (Str × Addr)) (outer : List Env) (A₀ : Around) (base h₀ : Heap) (L : Addr) (m : Str → Option Value) (s : Shared) (Q E : Value → Shared → Prop)
  (B : Below A₀ base outer h₀) (F : Fr h₀ L s.heap m) (X : (Mine.hd.heap_39 w.params).In h₀) (T : Top p loose mean mg mb h₀)
  (kn : Kn) (x dx : Addr) (kf : Kd (Mine.hd.heap_39 w.params) kn.cls) (sf : Sd (Mine.hd.heap_39 w.params)) (hi : Bool) (th : Th) (nm : Nm) (t1 t2 t3 : Tok) (rest : List (Addr × Obj)) (t4 : Tok)
  (N : News h₀ L s.heap ((x, uo kn.cls dx (.str (hintS hi) t1) (nm.val t2) (th.slot t3)) :: (dx, dictOf [] 0) :: rest))
  
  (hE : ∀ g e t vs h' tk', Fr h₀ L g m → g.UpToSlots h' → RaisedS base g (envX cn ⟨.function, nms, ig, ic, mo⟩ L a ccd cl :: outer) e (.ref 67) t vs ((x, uo kn.cls dx (.str (hintS hi) t1) (nm.val t2) (th.slot t3)) :: (dx, dictOf [] 0) :: rest) h' → E (.ref e) { s with heap := h', toks := tk' }) :
  wpAny (model PySem.Challenge.rw_bb0045_01.row.prog w) (PySem.W.ktrTop 370 130 gd cn ⟨.function, nms, ig, ic, mo⟩ L a ccd cl outer) (binaryOp .FloorDiv (.ref x) (.int 2 t4)) Q E s := by
  walk_say "OP fdiv"
  w_on; w_top on
  cases kn <;> (dsimp only [Kn.cls] at kf N hE; w_top on; w_strict k_steps; all_goals (first | exact hE _ _ _ _ _ _ (by assumption) (by assumption) (by assumption)))

set_option maxHeartbeats 0 in
theorem op_mod (w : World) (p : Program) (loose : List Str) (mean : ExcName → Option Value) (mg mb : Str → Option Value)
  (gd : Option (List Code)) (cn : Str) (nms : List (Str × NameKind)) (ig ic : Bool) (mo : List (Str × Const)) (a : Addr) (ccd : Value) (cl : List (Str × Addr)) (outer : List Env) (A₀ : Around) (base h₀ : Heap) (L : Addr) (m : Str → Option Value) (s : Shared) (Q E : Value → Shared → Prop)
  (B : Below A₀ base outer h₀) (F : Fr h₀ L s.heap m) (X : (Mine.hd.heap_39 w.params).In h₀) (T : Top p loose mean mg mb h₀)
  (kn : Kn) (x dx : Addr) (kf : Kd (Mine.hd.heap_39 w.params) kn.cls) (sf : Sd (Mine.hd.heap_39 w.params)) (hi : Bool) (th : Th) (nm : Nm) (t1 t2 t3 : Tok) (rest : List (Addr × Obj)) (t4 : Tok)
  (N : News h₀ L s.heap ((x, uo kn.cls dx (.str (hintS hi) t1) (nm.val t2) (th.slot t3)) :: (dx, dictOf [] 0) :: rest))
  
  (hE : ∀ g e t vs h' tk', Fr h₀ L g m → g.UpToSlots h' → RaisedS base g (envX cn ⟨.function, nms, ig, ic, mo⟩ L a ccd cl :: outer) e (.ref 67) t vs ((x, uo kn.cls dx (.str (hintS hi) t1) (nm.val t2) (th.slot t3)) :: (dx, dictOf [] 0) :: rest) h' → E (.ref e) { s with heap := h', toks := tk' }) :
  wpAny (model PySem.Challenge.rw_bb0045_01.row.prog w) (PySem.W.ktrTop 370 130 gd cn ⟨.function, nms, ig, ic, mo⟩ L a ccd cl outer) (binaryOp .Mod (.ref x) (.int 2 t4)) Q E s := by
  walk_say "OP mod"
  w_on; w_top on
  cases kn <;> (dsimp only [Kn.cls] at kf N hE; w_top on; w_strict k_steps; all_goals (first | exact hE _ _ _ _ _ _ (by assumption) (by assumption) (by assumption)))

set_option maxHeartbeats 0 in
theorem op_neg (w : World) (p : Program) (loose : List Str) (mean : ExcName → Option Value) (mg mb : Str → Option Value)
  (gd : Option (List Code)) (cn : Str) (nms : List (Str × NameKind)) (ig ic : Bool) (mo : List (Str × Const)) (a : Addr) (ccd : Value) (cl : List (Str × Addr)) (outer : List Env) (A₀ : Around) (base h₀ : Heap) (L : Addr) (m : Str → Option Value) (s : Shared) (Q E : Value → Shared → Prop)
  (B : Below A₀ base outer h₀) (F : Fr h₀ L s.heap m) (X : (Mine.hd.heap_39 w.params).In h₀) (T : Top p loose mean mg mb h₀)
  (kn : Kn) (x dx : Addr) (kf : Kd (Mine.hd.heap_39 w.params) kn.cls) (sf : Sd (Mine.hd.heap_39 w.params)) (hi : Bool) (th : Th) (nm : Nm) (t1 t2 t3 : Tok) (rest : List (Addr × Obj)) 
  (N : News h₀ L s.heap ((x, uo kn.cls dx (.str (hintS hi) t1) (nm.val t2) (th.slot t3)) :: (dx, dictOf [] 0) :: rest))
  
  (hE : ∀ g e t vs h' tk', Fr h₀ L g m → g.UpToSlots h' → RaisedS base g (envX cn ⟨.function, nms, ig, ic, mo⟩ L a ccd cl :: outer) e (.ref 67) t vs ((x, uo kn.cls dx (.str (hintS hi) t1) (nm.val t2) (th.slot t3)) :: (dx, dictOf [] 0) :: rest) h' → E (.ref e) { s with heap := h', toks := tk' }) :
  wpAny (model PySem.Challenge.rw_bb0045_01.row.prog w) (PySem.W.ktrTop 370 130 gd cn ⟨.function, nms, ig, ic, mo⟩ L a ccd cl outer) (unaryOp .USub (.ref x)) Q E s := by
  walk_say "OP neg"
  w_on; w_top on
  cases kn <;> (dsimp only [Kn.cls] at kf N hE; w_top on; w_strict k_steps; all_goals (first | exact hE _ _ _ _ _ _ (by assumption) (by assumption) (by assumption)))

set_option maxHeartbeats 0 in
theorem op_lt (w : World) (p : Program) (loose : List Str) (mean : ExcName → Option Value) (mg mb : Str → Option Value)
  (gd : Option (List Code)) (cn : Str) (nms : List (Str × NameKind)) (ig ic : Bool) (mo : List (Str × Const)) (a : Addr) (ccd : Value) (cl : List (Str × Addr)) (outer : List Env) (A₀ : Around) (base h₀ : Heap) (L : Addr) (m : Str → Option Value) (s : Shared) (Q E : Value → Shared → Prop)
  (B : Below A₀ base outer h₀) (F : Fr h₀ L s.heap m) (X : (Mine.hd.heap_39 w.params).In h₀) (T : Top p loose mean mg mb h₀)
  (kn : Kn) (x dx : Addr) (kf : Kd (Mine.hd.heap_39 w.params) kn.cls) (sf : Sd (Mine.hd.heap_39 w.params)) (hi : Bool) (th : Th) (nm : Nm) (t1 t2 t3 : Tok) (rest : List (Addr × Obj)) (t4 : Tok)
  (N : News h₀ L s.heap ((x, uo kn.cls dx (.str (hintS hi) t1) (nm.val t2) (th.slot t3)) :: (dx, dictOf [] 0) :: rest))
  
  (hE : ∀ g e t vs h' tk', Fr h₀ L g m → g.UpToSlots h' → RaisedS base g (envX cn ⟨.function, nms, ig, ic, mo⟩ L a ccd cl :: outer) e (.ref 67) t vs ((x, uo kn.cls dx (.str (hintS hi) t1) (nm.val t2) (th.slot t3)) :: (dx, dictOf [] 0) :: rest) h' → E (.ref e) { s with heap := h', toks := tk' }) :
  wpAny (model PySem.Challenge.rw_bb0045_01.row.prog w) (PySem.W.ktrTop 370 130 gd cn ⟨.function, nms, ig, ic, mo⟩ L a ccd cl outer) (compareOp .Lt (.ref x) (.int 4 t4)) Q E s := by
  walk_say "OP lt"
  w_on; w_top on
  cases kn <;> (dsimp only [Kn.cls] at kf N hE; w_top on; w_strict k_steps; all_goals (first | exact hE _ _ _ _ _ _ (by assumption) (by assumption) (by assumption)))

set_option maxHeartbeats 0 in
theorem op_int (w : World) (p : Program) (loose : List Str) (mean : ExcName → Option Value) (mg mb : Str → Option Value)
  (gd : Option (List Code)) (cn : Str) (nms : List (Str × NameKind)) (ig ic : Bool) (mo : List (Str × Const)) (a : Addr) (ccd : Value) (cl : List (Str × Addr)) (outer : List Env) (A₀ : Around) (base h₀ : Heap) (L : Addr) (m : Str → Option Value) (s : Shared) (Q E : Value → Shared → Prop)
  (B : Below A₀ base outer h₀) (F : Fr h₀ L s.heap m) (X : (Mine.hd.heap_39 w.params).In h₀) (T : Top p loose mean mg mb h₀)
  (kn : Kn) (x dx : Addr) (kf : Kd (Mine.hd.heap_39 w.params) kn.cls) (sf : Sd (Mine.hd.heap_39 w.params)) (hi : Bool) (th : Th) (nm : Nm) (t1 t2 t3 : Tok) (rest : List (Addr × Obj)) 
  (N : News h₀ L s.heap ((x, uo kn.cls dx (.str (hintS hi) t1) (nm.val t2) (th.slot t3)) :: (dx, dictOf [] 0) :: rest))
  
  (hE : ∀ g e t vs h' tk', Fr h₀ L g m → g.UpToSlots h' → RaisedS base g (envX cn ⟨.function, nms, ig, ic, mo⟩ L a ccd cl :: outer) e (.ref 67) t vs ((x, uo kn.cls dx (.str (hintS hi) t1) (nm.val t2) (th.slot t3)) :: (dx, dictOf [] 0) :: rest) h' → E (.ref e) { s with heap := h', toks := tk' }) :
  wpAny (model PySem.Challenge.rw_bb0045_01.row.prog w) (PySem.W.ktrTop 370 130 gd cn ⟨.function, nms, ig, ic, mo⟩ L a ccd cl outer) (call (.type "int") [.ref x]) Q E s := by
  walk_say "OP int"
  w_on; w_top on
  cases kn <;> (dsimp only [Kn.cls] at kf N hE; w_top on; w_strict k_steps; all_goals (first | exact hE _ _ _ _ _ _ (by assumption) (by assumption) (by assumption)))

set_option maxHeartbeats 0 in
theorem op_call (w : World) (p : Program) (loose : List Str) (mean : ExcName → Option Value) (mg mb : Str → Option Value)
  (gd : Option (List Code)) (cn : Str) (nms : List (Str × NameKind)) (ig ic : Bool) (mo : List (Str × Const)) (a : Addr) (ccd : Value) (cl : List (Str × Addr)) (outer : List Env) (A₀ : Around) (base h₀ : Heap) (L : Addr) (m : Str → Option Value) (s : Shared) (Q E : Value → Shared → Prop)
  (B : Below A₀ base outer h₀) (F : Fr h₀ L s.heap m) (X : (Mine.hd.heap_39 w.params).In h₀) (T : Top p loose mean mg mb h₀)
  (kn : Kn) (x dx : Addr) (kf : Kd (Mine.hd.heap_39 w.params) kn.cls) (sf : Sd (Mine.hd.heap_39 w.params)) (hi : Bool) (th : Th) (nm : Nm) (t1 t2 t3 : Tok) (rest : List (Addr × Obj)) (t4 : Tok)
  (N : News h₀ L s.heap ((x, uo kn.cls dx (.str (hintS hi) t1) (nm.val t2) (th.slot t3)) :: (dx, dictOf [] 0) :: rest))
  
  (hE : ∀ g e t vs h' tk', Fr h₀ L g m → g.UpToSlots h' → RaisedS base g (envX cn ⟨.function, nms, ig, ic, mo⟩ L a ccd cl :: outer) e (.ref 67) t vs ((x, uo kn.cls dx (.str (hintS hi) t1) (nm.val t2) (th.slot t3)) :: (dx, dictOf [] 0) :: rest) h' → E (.ref e) { s with heap := h', toks := tk' }) :
  wpAny (model PySem.Challenge.rw_bb0045_01.row.prog w) (PySem.W.ktrTop 370 130 gd cn ⟨.function, nms, ig, ic, mo⟩ L a ccd cl outer) (call (.ref x) [.int 5 t4]) Q E s := by
  walk_say "OP call"
  w_on; w_top on
  cases kn <;> (dsimp only [Kn.cls] at kf N hE; w_top on; w_strict k_steps; all_goals (first | exact hE _ _ _ _ _ _ (by assumption) (by assumption) (by assumption)))

set_option maxHeartbeats 0 in
theorem op_pow (w : World) (p : Program) (loose : List Str) (mean : ExcName → Option Value) (mg mb : Str → Option Value)
  (gd : Option (List Code)) (cn : Str) (nms : List (Str × NameKind)) (ig ic : Bool) (mo : List (Str × Const)) (a : Addr) (ccd : Value) (cl : List (Str × Addr)) (outer : List Env) (A₀ : Around) (base h₀ : Heap) (L : Addr) (m : Str → Option Value) (s : Shared) (Q E : Value → Shared → Prop)
  (B : Below A₀ base outer h₀) (F : Fr h₀ L s.heap m) (X : (Mine.hd.heap_39 w.params).In h₀) (T : Top p loose mean mg mb h₀)
  (kn : Kn) (x dx : Addr) (kf : Kd (Mine.hd.heap_39 w.params) kn.cls) (sf : Sd (Mine.hd.heap_39 w.params)) (hi : Bool) (th : Th) (nm : Nm) (t1 t2 t3 : Tok) (rest : List (Addr × Obj)) (t4 : Tok)
  (N : News h₀ L s.heap ((x, uo kn.cls dx (.str (hintS hi) t1) (nm.val t2) (th.slot t3)) :: (dx, dictOf [] 0) :: rest))
  
  (hE : ∀ g e t vs h' tk', Fr h₀ L g m → g.UpToSlots h' → RaisedS base g (envX cn ⟨.function, nms, ig, ic, mo⟩ L a ccd cl :: outer) e (.ref 67) t vs ((x, uo kn.cls dx (.str (hintS hi) t1) (nm.val t2) (th.slot t3)) :: (dx, dictOf [] 0) :: rest) h' → E (.ref e) { s with heap := h', toks := tk' }) :
  wpAny (model PySem.Challenge.rw_bb0045_01.row.prog w) (PySem.W.ktrTop 370 130 gd cn ⟨.function, nms, ig, ic, mo⟩ L a ccd cl outer) (binaryOp .Pow (.ref x) (.int 2 t4)) Q E s := by
  walk_say "OP pow"
  w_on; w_top on
  cases kn <;> (dsimp only [Kn.cls] at kf N hE; w_top on; w_strict k_steps; all_goals (first | exact hE _ _ _ _ _ _ (by assumption) (by assumption) (by assumption)))


end B12sec
end Mine
/- ==, != and >= of two undefined ones -/
namespace Mine
section B13sec

local macro_rules | `(tactic| walk_at "getAttr ref") => `(tactic| (k_here; first
  | ((with_reducible show wpAny _ _ (getAttr _ ("_undefined_hint" : Str) _) _ _ _); (rename Kd _ _ => kf'); (rename Sd _ => sf'); k_dflt (refine' get_slotH ?k1 ?k2 ?k3 (Kd.ga (by assumption)) (Exists.choose_spec (Kd.hook (by assumption))) (Kd.cls (by assumption)) (Kd.hint (by assumption)).1 sf'.s199.1 sf'.s199.2 (Kd.hint (by assumption)).2 ?kv ?kh ?_; (case k1 => k_asm); (case k2 => k_asm); (case k3 => k_inst); (case kv => k_slotget); (case kh => k_handed); k_whole))
  | ((with_reducible show wpAny _ _ (getAttr _ ("_undefined_name" : Str) _) _ _ _); (rename Kd _ _ => kf'); (rename Sd _ => sf'); k_dflt (refine' get_slotH ?k1 ?k2 ?k3 (Kd.ga (by assumption)) (Exists.choose_spec (Kd.hook (by assumption))) (Kd.cls (by assumption)) (Kd.name (by assumption)).1 sf'.s200.1 sf'.s200.2 (Kd.name (by assumption)).2 ?kv ?kh ?_; (case k1 => k_asm); (case k2 => k_asm); (case k3 => k_inst); (case kv => k_slotget); (case kh => k_handed); k_whole))
  | ((with_reducible show wpAny _ _ (getAttr _ ("_undefined_obj" : Str) _) _ _ _); (rename Kd _ _ => kf'); (rename Sd _ => sf'); k_dflt (refine' get_slotH ?k1 ?k2 ?k3 (Kd.ga (by assumption)) (Exists.choose_spec (Kd.hook (by assumption))) (Kd.cls (by assumption)) (Kd.obj (by assumption)).1 sf'.s201.1 sf'.s201.2 (Kd.obj (by assumption)).2 ?kv ?kh ?_; (case k1 => k_asm); (case k2 => k_asm); (case k3 => k_inst); (case kv => k_slotget); (case kh => k_handed); k_whole))
  | ((with_reducible show wpAny _ _ (getAttr _ ("_undefined_exception" : Str) _) _ _ _); (rename Kd _ _ => kf'); (rename Sd _ => sf'); k_dflt (refine' get_slotH ?k1 ?k2 ?k3 (Kd.ga (by assumption)) (Exists.choose_spec (Kd.hook (by assumption))) (Kd.cls (by assumption)) (Kd.exc (by assumption)).1 sf'.s198.1 sf'.s198.2 (Kd.exc (by assumption)).2 ?kv ?kh ?_; (case k1 => k_asm); (case k2 => k_asm); (case k3 => k_inst); (case kv => k_slotget); (case kh => k_handed); k_whole))
  | (k_dflt (refine' get_fnH ?k1 ?k2 ?k3 ?k4 ?k5 ?k6 ?k7 ?k8 ?k9 ?k10 ?k11 ?k12 ?k13 ?_; (case k1 => k_asm); (case k2 => k_asm); (case k3 => k_asm); (case k4 => k_inst); (case k5 => k_is); (case k6 => k_is); (case k7 => k_is); (case k8 => k_is); (case k9 => k_is); (case k10 => k_is); (case k11 => k_is); (case k12 => k_is); (case k13 => decide); intro q' h' F' N' l1; (try k_lt l1)))))
local macro_rules | `(tactic| walk_at "getMethod ref") => `(tactic| (k_here; k_dflt (refine' get_methodH ?k1 ?k2 ?k3 ?k4 ?k5 ?_; (case k1 => k_asm); (case k2 => k_asm); (case k3 => k_inst); (case k4 => k_is); (case k5 => k_is); k_whole)))
local macro_rules | `(tactic| walk_at "compareOp Is") => `(tactic| (k_here; first | refine is_int_ref ?_ | refine is_str_ref ?_))
local macro_rules | `(tactic| walk_at "pyReprObj str") => `(tactic| (k_here; first
  | refine repr_lit (y := "'user'") (by decide +kernel) (by decide +kernel) ?_
  | refine repr_lit (y := "'else'") (by decide +kernel) (by decide +kernel) ?_
  | refine repr_lit (y := "'a b'") (by decide +kernel) (by decide +kernel) ?_
  | refine repr_lit (y := "'int object'") (by decide +kernel) (by decide +kernel) ?_
  | refine repr_lit (y := "'str object'") (by decide +kernel) (by decide +kernel) ?_))
local macro_rules | `(tactic| walk_at "call type:bool") => `(tactic| (k_here; (with_reducible show wpAny _ _ (call _ [Value.ref _]) _ _ _); k_dflt (refine' call_bool_K ?k1 ?k2 ?k3 ?k4 ?_; (case k1 => k_in); (case k2 => k_inst); (case k3 => k_is); (case k4 => k_is); k_whole)))
local macro_rules | `(tactic| walk_at "call type:int") => `(tactic| (k_here; (with_reducible show wpAny _ _ (call _ [Value.ref _]) _ _ _); k_dflt (refine' call_int_K ?k1 ?k2 ?k3 ?k4 ?_; (case k1 => k_in); (case k2 => k_inst); (case k3 => k_is); (case k4 => k_is); k_whole); intro Q'))
local macro_rules | `(tactic| walk_at "binaryOp Sub int ref") => `(tactic| (k_here; k_dflt (refine' rsub_K ?k1 ?k2 ?k3 ?k4 ?k5 ?k6 ?k7 ?k8 ?k9 ?_; (case k1 => k_asm); (case k2 => k_asm); (case k3 => k_inst); (case k4 => exact (News.get (by assumption) (by k_mem))); (case k5 => k_is); (case k6 => k_is); (case k7 => k_is); (case k8 => k_is); (case k9 => k_is); k_whole); intro Q'))
local macro_rules | `(tactic| walk_at "richCompare") => `(tactic| (k_here; k_dflt (refine' cmp_refl ?k1 ?k2 ?k3 ?k4 ?k5 ?k6 ?k7 ?k8 ?k9 ?_; (case k1 => k_units); (case k2 => k_asm); (case k3 => k_asm); (case k4 => k_inst); (case k5 => k_inst); (case k6 => decide); (case k7 => k_is); (case k8 => k_is); (case k9 => k_is); k_whole)))
local macro_rules | `(tactic| walk_at "compareOp Eq ref ref") => `(tactic| (k_here; (refine cmp_ofEq ?_); k_dflt (refine' cmp_refl ?k1 ?k2 ?k3 ?k4 ?k5 ?k6 ?k7 ?k8 ?k9 ?_; (case k1 => k_units); (case k2 => k_asm); (case k3 => k_asm); (case k4 => k_inst); (case k5 => k_inst); (case k6 => decide); (case k7 => k_is); (case k8 => k_is); (case k9 => k_is); k_whole)))
local macro_rules | `(tactic| walk_at "compareOp NotEq ref ref") => `(tactic| (k_here; (refine cmp_ofNotEq ?_); k_dflt (refine' cmp_refl ?k1 ?k2 ?k3 ?k4 ?k5 ?k6 ?k7 ?k8 ?k9 ?_; (case k1 => k_units); (case k2 => k_asm); (case k3 => k_asm); (case k4 => k_inst); (case k5 => k_inst); (case k6 => decide); (case k7 => k_is); (case k8 => k_is); (case k9 => k_is); k_whole)))
local macro_rules | `(tactic| walk_at "compareOp GtE ref ref") => `(tactic| (k_here; (refine cmp_ofGtE ?_); k_dflt (refine' cmp_refl ?k1 ?k2 ?k3 ?k4 ?k5 ?k6 ?k7 ?k8 ?k9 ?_; (case k1 => k_units); (case k2 => k_asm); (case k3 => k_asm); (case k4 => k_inst); (case k5 => k_inst); (case k6 => decide); (case k7 => k_is); (case k8 => k_is); (case k9 => k_is); k_whole)))
local macro_rules | `(tactic| walk_at "pyIter ref") => `(tactic| (k_here; k_dflt (refine' owit_iter ?F ?X ?I ?hs ?hf ?_; (case F => k_asm); (case X => k_asm); (case I => k_inst); (case hs => k_is); (case hf => k_is); k_whole)))
local macro_rules | `(tactic| walk_at "call builtin:iter") => `(tactic| (k_here; k_dflt (refine' iter_tupK ?k1 ?k2 ?k3 ?k4 ?k5 ?_; (case k1 => k_asm); (case k2 => k_asm); (case k3 => k_mem); (case k4 => exact rfl); (case k5 => exact rfl); intro I' h' F' N' l1; (try k_lt l1))))
local macro_rules | `(tactic| walk_at "OwitIt") => `(tactic| (k_dflt (refine' owit_tup ?k1 ?k2 ?_; (case k1 => k_asm); (case k2 => k_mem); k_whole)))

local macro_rules | `(tactic| walk_at "call ref") => `(tactic| (k_here; k_dflt (refine wpAny_call ?_; first
  | (refine' weakenC (fail_K1 _ _ _ _ _ _ _ _ _ _ _ _ _ _ _ _ _ _ _ _ _ _ _ ?k1 ?k2 ?k3 ?k4 _ _ _ ?k5 ?k6 _ _ _ _ _ _ _ _ ?k7 ?k8 ?k9 ?_) rfl rfl rfl rfl rfl; (case k1 => k_asm); (case k2 => k_asm); (case k3 => k_asm); (case k4 => k_asm); (case k6 => assumption); (case k7 => k_asm); (case k8 => k_mem); (case k9 => k_mem); (case k5 => assumption))
  | (refine' weakenC (fail_K0 _ _ _ _ _ _ _ _ _ _ _ _ _ _ _ _ _ _ _ _ _ _ _ ?k1 ?k2 ?k3 ?k4 _ _ _ ?k5 ?k6 _ _ _ _ _ _ _ ?k7 ?k8 ?k9 ?_) rfl rfl rfl rfl rfl; (case k1 => k_asm); (case k2 => k_asm); (case k3 => k_asm); (case k4 => k_asm); (case k6 => assumption); (case k7 => k_asm); (case k8 => k_mem); (case k9 => k_mem); (case k5 => assumption))); intro g' e' t' tok' h' tk' F' U' R'; (try dsimp only)))
local macro_rules | `(tactic| k_enter) => `(tactic| ((first
  | (refine' weakenC (fail_K1 _ _ _ _ _ _ _ _ _ _ _ _ _ _ _ _ _ _ _ _ _ _ _ ?k1 ?k2 ?k3 ?k4 _ _ _ ?k5 ?k6 _ _ _ _ _ _ _ _ ?k7 ?k8 ?k9 ?_) rfl rfl rfl rfl rfl; (case k1 => k_asm); (case k2 => k_asm); (case k3 => k_asm); (case k4 => k_asm); (case k6 => assumption); (case k7 => k_asm); (case k8 => k_mem); (case k9 => k_mem); (case k5 => assumption))
  | (refine' weakenC (fail_K0 _ _ _ _ _ _ _ _ _ _ _ _ _ _ _ _ _ _ _ _ _ _ _ ?k1 ?k2 ?k3 ?k4 _ _ _ ?k5 ?k6 _ _ _ _ _ _ _ ?k7 ?k8 ?k9 ?_) rfl rfl rfl rfl rfl; (case k1 => k_asm); (case k2 => k_asm); (case k3 => k_asm); (case k4 => k_asm); (case k6 => assumption); (case k7 => k_asm); (case k8 => k_mem); (case k9 => k_mem); (case k5 => assumption))); intro g' e' t' tok' h' tk' F' U' R'; (try dsimp only)))

def Kn.eqb : Kn → Kn → Bool
  | .pl, .pl => true
  | .ch, .ch => true
  | .db, .db => true
  | .st, .st => true
  | _, _ => false
set_option maxHeartbeats 0 in
theorem op_eq (w : World) (p : Program) (loose : List Str) (mean : ExcName → Option Value) (mg mb : Str → Option Value)
  (gd : Option (List Code)) (cn : Str) (nms : List (Str × NameKind)) (ig ic : Bool) (mo : List (Str × Const)) (a : Addr) (ccd : Value) (cl : List (Str × Addr)) (outer : List Env) (A₀ : Around) (base h₀ : Heap) (L : Addr) (m : Str → Option Value) (s : Shared) (Q E : Value → Shared → Prop)
  (B : Below A₀ base outer h₀) (F : Fr h₀ L s.heap m) (X : (Mine.hd.heap_39 w.params).In h₀) (T : Top p loose mean mg mb h₀)
  (kn : Kn) (x dx : Addr) (kf : Kd (Mine.hd.heap_39 w.params) kn.cls) (sf : Sd (Mine.hd.heap_39 w.params)) (hi : Bool) (th : Th) (nm : Nm) (t1 t2 t3 : Tok) (kn' : Kn) (y dy : Addr) (kf' : Kd (Mine.hd.heap_39 w.params) kn'.cls) (t4 t5 t6 : Tok) (hk : kn ≠ .st → kn' ≠ .st) (rest : List (Addr × Obj))
  (N : News h₀ L s.heap ((x, uo kn.cls dx (.str (hintS hi) t1) (nm.val t2) (th.slot t3)) :: (dx, dictOf [] 0) :: (y, uo kn'.cls dy (.str (hintS false) t4) (Nm.els.val t5) (Th.no.slot t6)) :: (dy, dictOf [] 0) :: rest))
  (hq : ∀ h' tk', kn ≠ .st → Fr h₀ L h' m → News h₀ L h' ((x, uo kn.cls dx (.str (hintS hi) t1) (nm.val t2) (th.slot t3)) :: (dx, dictOf [] 0) :: (y, uo kn'.cls dy (.str (hintS false) t4) (Nm.els.val t5) (Th.no.slot t6)) :: (dy, dictOf [] 0) :: rest) → Q (.bool (kn.eqb kn')) { s with heap := h', toks := tk' })
  (hE : ∀ g e t vs h' tk', kn = .st → Fr h₀ L g m → g.UpToSlots h' → RaisedS base g (envX cn ⟨.function, nms, ig, ic, mo⟩ L a ccd cl :: outer) e (.ref 67) t vs ((x, uo kn.cls dx (.str (hintS hi) t1) (nm.val t2) (th.slot t3)) :: (dx, dictOf [] 0) :: (y, uo kn'.cls dy (.str (hintS false) t4) (Nm.els.val t5) (Th.no.slot t6)) :: (dy, dictOf [] 0) :: rest) h' → E (.ref e) { s with heap := h', toks := tk' }) :
  wpAny (model PySem.Challenge.rw_bb0045_01.row.prog w) (PySem.W.ktrTop 370 130 gd cn ⟨.function, nms, ig, ic, mo⟩ L a ccd cl outer) (compareOp .Eq (.ref x) (.ref y)) Q E s := by
  walk_say "OP eq"
  w_on; w_top on
  cases kn <;> cases kn' <;> first
    | exact absurd rfl (hk Kn.noConfusion)
    | (dsimp only [Kn.cls] at kf kf' N hE hq; w_top on; w_strict k_steps; all_goals (first | exact hq _ _ Kn.noConfusion (by assumption) (by assumption) | ((rename News _ _ _ ((_, methodObj _ _) :: _) => N1); exact hq _ _ Kn.noConfusion (by assumption) (fun q hq => N1 q (.tail _ hq))) | exact hE _ _ _ _ _ _ rfl (by assumption) (by assumption) (by assumption)))

set_option maxHeartbeats 0 in
theorem op_ne (w : World) (p : Program) (loose : List Str) (mean : ExcName → Option Value) (mg mb : Str → Option Value)
  (gd : Option (List Code)) (cn : Str) (nms : List (Str × NameKind)) (ig ic : Bool) (mo : List (Str × Const)) (a : Addr) (ccd : Value) (cl : List (Str × Addr)) (outer : List Env) (A₀ : Around) (base h₀ : Heap) (L : Addr) (m : Str → Option Value) (s : Shared) (Q E : Value → Shared → Prop)
  (B : Below A₀ base outer h₀) (F : Fr h₀ L s.heap m) (X : (Mine.hd.heap_39 w.params).In h₀) (T : Top p loose mean mg mb h₀)
  (kn : Kn) (x dx : Addr) (kf : Kd (Mine.hd.heap_39 w.params) kn.cls) (sf : Sd (Mine.hd.heap_39 w.params)) (hi : Bool) (th : Th) (nm : Nm) (t1 t2 t3 : Tok) (kn' : Kn) (y dy : Addr) (kf' : Kd (Mine.hd.heap_39 w.params) kn'.cls) (t4 t5 t6 : Tok) (hk : kn ≠ .st → kn' ≠ .st) (rest : List (Addr × Obj))
  (N : News h₀ L s.heap ((x, uo kn.cls dx (.str (hintS hi) t1) (nm.val t2) (th.slot t3)) :: (dx, dictOf [] 0) :: (y, uo kn'.cls dy (.str (hintS false) t4) (Nm.els.val t5) (Th.no.slot t6)) :: (dy, dictOf [] 0) :: rest))
  (hq : ∀ h' tk', kn ≠ .st → Fr h₀ L h' m → News h₀ L h' ((x, uo kn.cls dx (.str (hintS hi) t1) (nm.val t2) (th.slot t3)) :: (dx, dictOf [] 0) :: (y, uo kn'.cls dy (.str (hintS false) t4) (Nm.els.val t5) (Th.no.slot t6)) :: (dy, dictOf [] 0) :: rest) → Q (.bool (!kn.eqb kn')) { s with heap := h', toks := tk' })
  (hE : ∀ g e t vs h' tk', kn = .st → Fr h₀ L g m → g.UpToSlots h' → RaisedS base g (envX cn ⟨.function, nms, ig, ic, mo⟩ L a ccd cl :: outer) e (.ref 67) t vs ((x, uo kn.cls dx (.str (hintS hi) t1) (nm.val t2) (th.slot t3)) :: (dx, dictOf [] 0) :: (y, uo kn'.cls dy (.str (hintS false) t4) (Nm.els.val t5) (Th.no.slot t6)) :: (dy, dictOf [] 0) :: rest) h' → E (.ref e) { s with heap := h', toks := tk' }) :
  wpAny (model PySem.Challenge.rw_bb0045_01.row.prog w) (PySem.W.ktrTop 370 130 gd cn ⟨.function, nms, ig, ic, mo⟩ L a ccd cl outer) (compareOp .NotEq (.ref x) (.ref y)) Q E s := by
  walk_say "OP ne"
  w_on; w_top on
  cases kn <;> cases kn' <;> first
    | exact absurd rfl (hk Kn.noConfusion)
    | (dsimp only [Kn.cls] at kf kf' N hE hq; w_top on; w_strict k_steps; all_goals (first | exact hq _ _ Kn.noConfusion (by assumption) (by assumption) | ((rename News _ _ _ ((_, methodObj _ _) :: _) => N1); exact hq _ _ Kn.noConfusion (by assumption) (fun q hq => N1 q (.tail _ hq))) | exact hE _ _ _ _ _ _ rfl (by assumption) (by assumption) (by assumption)))

set_option maxHeartbeats 0 in
theorem op_ge (w : World) (p : Program) (loose : List Str) (mean : ExcName → Option Value) (mg mb : Str → Option Value)
  (gd : Option (List Code)) (cn : Str) (nms : List (Str × NameKind)) (ig ic : Bool) (mo : List (Str × Const)) (a : Addr) (ccd : Value) (cl : List (Str × Addr)) (outer : List Env) (A₀ : Around) (base h₀ : Heap) (L : Addr) (m : Str → Option Value) (s : Shared) (Q E : Value → Shared → Prop)
  (B : Below A₀ base outer h₀) (F : Fr h₀ L s.heap m) (X : (Mine.hd.heap_39 w.params).In h₀) (T : Top p loose mean mg mb h₀)
  (kn : Kn) (x dx : Addr) (kf : Kd (Mine.hd.heap_39 w.params) kn.cls) (sf : Sd (Mine.hd.heap_39 w.params)) (hi : Bool) (th : Th) (nm : Nm) (t1 t2 t3 : Tok) (kn' : Kn) (y dy : Addr) (kf' : Kd (Mine.hd.heap_39 w.params) kn'.cls) (t4 t5 t6 : Tok) (hk : kn ≠ .st → kn' ≠ .st) (rest : List (Addr × Obj))
  (N : News h₀ L s.heap ((x, uo kn.cls dx (.str (hintS hi) t1) (nm.val t2) (th.slot t3)) :: (dx, dictOf [] 0) :: (y, uo kn'.cls dy (.str (hintS false) t4) (Nm.els.val t5) (Th.no.slot t6)) :: (dy, dictOf [] 0) :: rest))
  
  (hE : ∀ g e t vs h' tk', Fr h₀ L g m → g.UpToSlots h' → RaisedS base g (envX cn ⟨.function, nms, ig, ic, mo⟩ L a ccd cl :: outer) e (.ref 67) t vs ((x, uo kn.cls dx (.str (hintS hi) t1) (nm.val t2) (th.slot t3)) :: (dx, dictOf [] 0) :: (y, uo kn'.cls dy (.str (hintS false) t4) (Nm.els.val t5) (Th.no.slot t6)) :: (dy, dictOf [] 0) :: rest) h' → E (.ref e) { s with heap := h', toks := tk' }) :
  wpAny (model PySem.Challenge.rw_bb0045_01.row.prog w) (PySem.W.ktrTop 370 130 gd cn ⟨.function, nms, ig, ic, mo⟩ L a ccd cl outer) (compareOp .GtE (.ref x) (.ref y)) Q E s := by
  walk_say "OP ge"
  w_on; w_top on
  cases kn <;> cases kn' <;> first
    | exact absurd rfl (hk Kn.noConfusion)
    | (dsimp only [Kn.cls] at kf kf' N hE; w_top on; w_strict k_steps; all_goals (first | exact hE _ _ _ _ _ _ (by assumption) (by assumption) (by assumption)))

set_option maxHeartbeats 0 in
theorem op_eqs (w : World) (p : Program) (loose : List Str) (mean : ExcName → Option Value) (mg mb : Str → Option Value)
  (gd : Option (List Code)) (cn : Str) (nms : List (Str × NameKind)) (ig ic : Bool) (mo : List (Str × Const)) (a : Addr) (ccd : Value) (cl : List (Str × Addr)) (outer : List Env) (A₀ : Around) (base h₀ : Heap) (L : Addr) (m : Str → Option Value) (s : Shared) (Q E : Value → Shared → Prop)
  (B : Below A₀ base outer h₀) (F : Fr h₀ L s.heap m) (X : (Mine.hd.heap_39 w.params).In h₀) (T : Top p loose mean mg mb h₀)
  (kn : Kn) (x dx : Addr) (kf : Kd (Mine.hd.heap_39 w.params) kn.cls) (sf : Sd (Mine.hd.heap_39 w.params)) (hi : Bool) (th : Th) (nm : Nm) (t1 t2 t3 : Tok) (rest : List (Addr × Obj))
  (N : News h₀ L s.heap ((x, uo kn.cls dx (.str (hintS hi) t1) (nm.val t2) (th.slot t3)) :: (dx, dictOf [] 0) :: rest))
  (hq : ∀ h' tk', kn ≠ .st → Fr h₀ L h' m → News h₀ L h' ((x, uo kn.cls dx (.str (hintS hi) t1) (nm.val t2) (th.slot t3)) :: (dx, dictOf [] 0) :: rest) → Q (.bool true) { s with heap := h', toks := tk' })
  (hE : ∀ g e t vs h' tk', kn = .st → Fr h₀ L g m → g.UpToSlots h' → RaisedS base g (envX cn ⟨.function, nms, ig, ic, mo⟩ L a ccd cl :: outer) e (.ref 67) t vs ((x, uo kn.cls dx (.str (hintS hi) t1) (nm.val t2) (th.slot t3)) :: (dx, dictOf [] 0) :: rest) h' → E (.ref e) { s with heap := h', toks := tk' }) :
  wpAny (model PySem.Challenge.rw_bb0045_01.row.prog w) (PySem.W.ktrTop 370 130 gd cn ⟨.function, nms, ig, ic, mo⟩ L a ccd cl outer) (compareOp .Eq (.ref x) (.ref x)) Q E s := by
  walk_say "OP eqs"
  w_on; w_top on
  cases kn <;> (dsimp only [Kn.cls] at kf N hE hq; w_top on; w_strict k_steps; all_goals (first | exact hq _ _ Kn.noConfusion (by assumption) (by assumption) | ((rename News _ _ _ ((_, methodObj _ _) :: _) => N1); exact hq _ _ Kn.noConfusion (by assumption) (fun q hq => N1 q (.tail _ hq))) | exact hE _ _ _ _ _ _ rfl (by assumption) (by assumption) (by assumption)))

set_option maxHeartbeats 0 in
theorem op_nes (w : World) (p : Program) (loose : List Str) (mean : ExcName → Option Value) (mg mb : Str → Option Value)
  (gd : Option (List Code)) (cn : Str) (nms : List (Str × NameKind)) (ig ic : Bool) (mo : List (Str × Const)) (a : Addr) (ccd : Value) (cl : List (Str × Addr)) (outer : List Env) (A₀ : Around) (base h₀ : Heap) (L : Addr) (m : Str → Option Value) (s : Shared) (Q E : Value → Shared → Prop)
  (B : Below A₀ base outer h₀) (F : Fr h₀ L s.heap m) (X : (Mine.hd.heap_39 w.params).In h₀) (T : Top p loose mean mg mb h₀)
  (kn : Kn) (x dx : Addr) (kf : Kd (Mine.hd.heap_39 w.params) kn.cls) (sf : Sd (Mine.hd.heap_39 w.params)) (hi : Bool) (th : Th) (nm : Nm) (t1 t2 t3 : Tok) (rest : List (Addr × Obj))
  (N : News h₀ L s.heap ((x, uo kn.cls dx (.str (hintS hi) t1) (nm.val t2) (th.slot t3)) :: (dx, dictOf [] 0) :: rest))
  (hq : ∀ h' tk', kn ≠ .st → Fr h₀ L h' m → News h₀ L h' ((x, uo kn.cls dx (.str (hintS hi) t1) (nm.val t2) (th.slot t3)) :: (dx, dictOf [] 0) :: rest) → Q (.bool false) { s with heap := h', toks := tk' })
  (hE : ∀ g e t vs h' tk', kn = .st → Fr h₀ L g m → g.UpToSlots h' → RaisedS base g (envX cn ⟨.function, nms, ig, ic, mo⟩ L a ccd cl :: outer) e (.ref 67) t vs ((x, uo kn.cls dx (.str (hintS hi) t1) (nm.val t2) (th.slot t3)) :: (dx, dictOf [] 0) :: rest) h' → E (.ref e) { s with heap := h', toks := tk' }) :
  wpAny (model PySem.Challenge.rw_bb0045_01.row.prog w) (PySem.W.ktrTop 370 130 gd cn ⟨.function, nms, ig, ic, mo⟩ L a ccd cl outer) (compareOp .NotEq (.ref x) (.ref x)) Q E s := by
  walk_say "OP nes"
  w_on; w_top on
  cases kn <;> (dsimp only [Kn.cls] at kf N hE hq; w_top on; w_strict k_steps; all_goals (first | exact hq _ _ Kn.noConfusion (by assumption) (by assumption) | ((rename News _ _ _ ((_, methodObj _ _) :: _) => N1); exact hq _ _ Kn.noConfusion (by assumption) (fun q hq => N1 q (.tail _ hq))) | exact hE _ _ _ _ _ _ rfl (by assumption) (by assumption) (by assumption)))


end B13sec
end Mine
/- the text of the kind for looking -/
namespace Mine
section B14sec

local macro_rules | `(tactic| walk_at "getAttr ref") => `(tactic| (k_here; (rename Kd _ _ => kf'); (rename Sd _ => sf'); k_dflt (first
  | (refine' get_slotH ?k1 ?k2 ?k3 (Kd.ga (by assumption)) (Exists.choose_spec (Kd.hook (by assumption))) (Kd.cls (by assumption)) (Kd.hint (by assumption)).1 sf'.s199.1 sf'.s199.2 (Kd.hint (by assumption)).2 ?kv ?kh ?_; (case k1 => k_asm); (case k2 => k_asm); (case k3 => k_inst); (case kv => k_slotget); (case kh => k_handed); k_whole)
  | (refine' get_slotH ?k1 ?k2 ?k3 (Kd.ga (by assumption)) (Exists.choose_spec (Kd.hook (by assumption))) (Kd.cls (by assumption)) (Kd.name (by assumption)).1 sf'.s200.1 sf'.s200.2 (Kd.name (by assumption)).2 ?kv ?kh ?_; (case k1 => k_asm); (case k2 => k_asm); (case k3 => k_inst); (case kv => k_slotget); (case kh => k_handed); k_whole)
  | (refine' get_slotH ?k1 ?k2 ?k3 (Kd.ga (by assumption)) (Exists.choose_spec (Kd.hook (by assumption))) (Kd.cls (by assumption)) (Kd.obj (by assumption)).1 sf'.s201.1 sf'.s201.2 (Kd.obj (by assumption)).2 ?kv ?kh ?_; (case k1 => k_asm); (case k2 => k_asm); (case k3 => k_inst); (case kv => k_slotget); (case kh => k_handed); k_whole)
  | (refine' get_slotH ?k1 ?k2 ?k3 (Kd.ga (by assumption)) (Exists.choose_spec (Kd.hook (by assumption))) (Kd.cls (by assumption)) (Kd.exc (by assumption)).1 sf'.s198.1 sf'.s198.2 (Kd.exc (by assumption)).2 ?kv ?kh ?_; (case k1 => k_asm); (case k2 => k_asm); (case k3 => k_inst); (case kv => k_slotget); (case kh => k_handed); k_whole))))
local macro_rules | `(tactic| walk_at "getMethod ref") => `(tactic| (k_here; (rename Kd _ _ => kf'); k_dflt (refine' get_methodH ?k1 ?k2 ?k3 (Kd.ga (by assumption)) (Exists.choose_spec (Kd.hook (by assumption))) ?_; (case k1 => k_asm); (case k2 => k_asm); (case k3 => k_inst); k_whole)))
local macro_rules | `(tactic| walk_at "compareOp Is") => `(tactic| (k_here; first | refine is_int_ref ?_ | refine is_str_ref ?_))
local macro_rules | `(tactic| walk_at "pyReprObj str") => `(tactic| (k_here; first
  | refine repr_lit (y := "'user'") (by decide +kernel) (by decide +kernel) ?_
  | refine repr_lit (y := "'else'") (by decide +kernel) (by decide +kernel) ?_
  | refine repr_lit (y := "'a b'") (by decide +kernel) (by decide +kernel) ?_
  | refine repr_lit (y := "'int object'") (by decide +kernel) (by decide +kernel) ?_
  | refine repr_lit (y := "'str object'") (by decide +kernel) (by decide +kernel) ?_))

local macro_rules | `(tactic| walk_at "execs nil") => `(tactic| refine wpAny_execs_nil ?_)
def txtD : Bool → Th → Nm → Str
  | true, _, _ => "{{ undefined value printed: it is not here }}"
  | false, .no, .user => "{{ user }}"
  | false, .no, .three => "{{ 3 }}"
  | false, .no, .ab => "{{ a b }}"
  | false, .no, .els => "{{ else }}"
  | false, .num, .user => "{{ no such element: int object['user'] }}"
  | false, .num, .three => "{{ no such element: int object[3] }}"
  | false, .num, .ab => "{{ no such element: int object['a b'] }}"
  | false, .num, .els => "{{ no such element: int object['else'] }}"
  | false, .txt, .user => "{{ no such element: str object['user'] }}"
  | false, .txt, .three => "{{ no such element: str object[3] }}"
  | false, .txt, .ab => "{{ no such element: str object['a b'] }}"
  | false, .txt, .els => "{{ no such element: str object['else'] }}"
def txtS : Kn → Bool → Th → Nm → Str
  | .db, hi, th, nm => txtD hi th nm
  | _, _, _, _ => ""

set_option maxHeartbeats 0 in
theorem dbg_call (w : World) (p : Program) (loose : List Str) (mean : ExcName → Option Value) (mg mb : Str → Option Value)
  (gd : Option (List Code)) (cn : Str) (nms : List (Str × NameKind)) (ig ic : Bool) (mo : List (Str × Const)) (a : Addr) (ccd : Value) (cl : List (Str × Addr)) (outer : List Env) (A₀ : Around) (base h₀ : Heap) (L : Addr) (m : Str → Option Value) (s : Shared) (R : Result → Shared → Prop)
  (B : Below A₀ base outer h₀) (F : Fr h₀ L s.heap m) (X : (Mine.hd.heap_39 w.params).In h₀) (T : Top p loose mean mg mb h₀)
  (C x dx : Addr) (kf : Kd (Mine.hd.heap_39 w.params) C) (sf : Sd (Mine.hd.heap_39 w.params)) (hi : Bool) (th : Th) (nm : Nm) (hnm : nm ≠ .els) (t1 t2 t3 : Tok) (rest : List (Addr × Obj))
  (N : News h₀ L s.heap ((x, uo C dx (.str (hintS hi) t1) (nm.val t2) (th.slot t3)) :: (dx, dictOf [] 0) :: rest))
  (hret : ∀ u t h' tk', u = txtD hi th nm → Fr h₀ L h' m → News h₀ L h' ((x, uo C dx (.str (hintS hi) t1) (nm.val t2) (th.slot t3)) :: (dx, dictOf [] 0) :: rest) → R (.ok (.ret (.str u t))) { s with heap := h', toks := tk' }) :
  codeAny (model PySem.Challenge.rw_bb0045_01.row.prog w) (PySem.W.ktrTop 430 180 gd cn ⟨.function, nms, ig, ic, mo⟩ L a ccd cl outer)
    (.call (.ref 246) ⟨[.ref x], []⟩) R s := by
  w_on; w_top on
  cases hi with
  | true =>
    generalize nm.val t2 = vn at N hret
    generalize th.slot t3 = vo at N hret
    dsimp only [uo, hintS] at N hret
    w_top on
    w_strict (k_dflt k_enter; k_steps)
    all_goals exact hret _ _ _ _ rfl (by assumption) (by assumption)
  | false =>
    cases th <;> cases nm <;> first | exact absurd rfl hnm | (dsimp only [uo, hintS, Nm.val, Th.slot] at N hret; w_top on; w_strict (k_dflt k_enter; k_steps); all_goals exact hret _ _ _ _ (by decide +kernel) (by assumption) (by assumption))

end B14sec
end Mine
/- str(x) -/
namespace Mine
section B14ssec

local macro_rules | `(tactic| walk_at "getAttr ref") => `(tactic| (k_here; first
  | ((with_reducible show wpAny _ _ (getAttr _ ("_undefined_hint" : Str) _) _ _ _); (rename Kd _ _ => kf'); (rename Sd _ => sf'); k_dflt (refine' get_slotH ?k1 ?k2 ?k3 (Kd.ga (by assumption)) (Exists.choose_spec (Kd.hook (by assumption))) (Kd.cls (by assumption)) (Kd.hint (by assumption)).1 sf'.s199.1 sf'.s199.2 (Kd.hint (by assumption)).2 ?kv ?kh ?_; (case k1 => k_asm); (case k2 => k_asm); (case k3 => k_inst); (case kv => k_slotget); (case kh => k_handed); k_whole))
  | ((with_reducible show wpAny _ _ (getAttr _ ("_undefined_name" : Str) _) _ _ _); (rename Kd _ _ => kf'); (rename Sd _ => sf'); k_dflt (refine' get_slotH ?k1 ?k2 ?k3 (Kd.ga (by assumption)) (Exists.choose_spec (Kd.hook (by assumption))) (Kd.cls (by assumption)) (Kd.name (by assumption)).1 sf'.s200.1 sf'.s200.2 (Kd.name (by assumption)).2 ?kv ?kh ?_; (case k1 => k_asm); (case k2 => k_asm); (case k3 => k_inst); (case kv => k_slotget); (case kh => k_handed); k_whole))
  | ((with_reducible show wpAny _ _ (getAttr _ ("_undefined_obj" : Str) _) _ _ _); (rename Kd _ _ => kf'); (rename Sd _ => sf'); k_dflt (refine' get_slotH ?k1 ?k2 ?k3 (Kd.ga (by assumption)) (Exists.choose_spec (Kd.hook (by assumption))) (Kd.cls (by assumption)) (Kd.obj (by assumption)).1 sf'.s201.1 sf'.s201.2 (Kd.obj (by assumption)).2 ?kv ?kh ?_; (case k1 => k_asm); (case k2 => k_asm); (case k3 => k_inst); (case kv => k_slotget); (case kh => k_handed); k_whole))
  | ((with_reducible show wpAny _ _ (getAttr _ ("_undefined_exception" : Str) _) _ _ _); (rename Kd _ _ => kf'); (rename Sd _ => sf'); k_dflt (refine' get_slotH ?k1 ?k2 ?k3 (Kd.ga (by assumption)) (Exists.choose_spec (Kd.hook (by assumption))) (Kd.cls (by assumption)) (Kd.exc (by assumption)).1 sf'.s198.1 sf'.s198.2 (Kd.exc (by assumption)).2 ?kv ?kh ?_; (case k1 => k_asm); (case k2 => k_asm); (case k3 => k_inst); (case kv => k_slotget); (case kh => k_handed); k_whole))
  | (k_dflt (refine' get_fnH ?k1 ?k2 ?k3 ?k4 ?k5 ?k6 ?k7 ?k8 ?k9 ?k10 ?k11 ?k12 ?k13 ?_; (case k1 => k_asm); (case k2 => k_asm); (case k3 => k_asm); (case k4 => k_inst); (case k5 => k_is); (case k6 => k_is); (case k7 => k_is); (case k8 => k_is); (case k9 => k_is); (case k10 => k_is); (case k11 => k_is); (case k12 => k_is); (case k13 => decide); intro q' h' F' N' l1; (try k_lt l1)))))
local macro_rules | `(tactic| walk_at "getMethod ref") => `(tactic| (k_here; k_dflt (refine' get_methodH ?k1 ?k2 ?k3 ?k4 ?k5 ?_; (case k1 => k_asm); (case k2 => k_asm); (case k3 => k_inst); (case k4 => k_is); (case k5 => k_is); k_whole)))
local macro_rules | `(tactic| walk_at "compareOp Is") => `(tactic| (k_here; first | refine is_int_ref ?_ | refine is_str_ref ?_))
local macro_rules | `(tactic| walk_at "pyReprObj str") => `(tactic| (k_here; first
  | refine repr_lit (y := "'user'") (by decide +kernel) (by decide +kernel) ?_
  | refine repr_lit (y := "'else'") (by decide +kernel) (by decide +kernel) ?_
  | refine repr_lit (y := "'a b'") (by decide +kernel) (by decide +kernel) ?_
  | refine repr_lit (y := "'int object'") (by decide +kernel) (by decide +kernel) ?_
  | refine repr_lit (y := "'str object'") (by decide +kernel) (by decide +kernel) ?_))
local macro_rules | `(tactic| walk_at "call type:bool") => `(tactic| (k_here; (with_reducible show wpAny _ _ (call _ [Value.ref _]) _ _ _); k_dflt (refine' call_bool_K ?k1 ?k2 ?k3 ?k4 ?_; (case k1 => k_in); (case k2 => k_inst); (case k3 => k_is); (case k4 => k_is); k_whole)))
local macro_rules | `(tactic| walk_at "call type:int") => `(tactic| (k_here; (with_reducible show wpAny _ _ (call _ [Value.ref _]) _ _ _); k_dflt (refine' call_int_K ?k1 ?k2 ?k3 ?k4 ?_; (case k1 => k_in); (case k2 => k_inst); (case k3 => k_is); (case k4 => k_is); k_whole); intro Q'))
local macro_rules | `(tactic| walk_at "binaryOp Sub int ref") => `(tactic| (k_here; k_dflt (refine' rsub_K ?k1 ?k2 ?k3 ?k4 ?k5 ?k6 ?k7 ?k8 ?k9 ?_; (case k1 => k_asm); (case k2 => k_asm); (case k3 => k_inst); (case k4 => exact (News.get (by assumption) (by k_mem))); (case k5 => k_is); (case k6 => k_is); (case k7 => k_is); (case k8 => k_is); (case k9 => k_is); k_whole); intro Q'))
local macro_rules | `(tactic| walk_at "richCompare") => `(tactic| (k_here; k_dflt (refine' cmp_refl ?k1 ?k2 ?k3 ?k4 ?k5 ?k6 ?k7 ?k8 ?k9 ?_; (case k1 => k_units); (case k2 => k_asm); (case k3 => k_asm); (case k4 => k_inst); (case k5 => k_inst); (case k6 => decide); (case k7 => k_is); (case k8 => k_is); (case k9 => k_is); k_whole)))
local macro_rules | `(tactic| walk_at "compareOp Eq ref ref") => `(tactic| (k_here; (refine cmp_ofEq ?_); k_dflt (refine' cmp_refl ?k1 ?k2 ?k3 ?k4 ?k5 ?k6 ?k7 ?k8 ?k9 ?_; (case k1 => k_units); (case k2 => k_asm); (case k3 => k_asm); (case k4 => k_inst); (case k5 => k_inst); (case k6 => decide); (case k7 => k_is); (case k8 => k_is); (case k9 => k_is); k_whole)))
local macro_rules | `(tactic| walk_at "compareOp NotEq ref ref") => `(tactic| (k_here; (refine cmp_ofNotEq ?_); k_dflt (refine' cmp_refl ?k1 ?k2 ?k3 ?k4 ?k5 ?k6 ?k7 ?k8 ?k9 ?_; (case k1 => k_units); (case k2 => k_asm); (case k3 => k_asm); (case k4 => k_inst); (case k5 => k_inst); (case k6 => decide); (case k7 => k_is); (case k8 => k_is); (case k9 => k_is); k_whole)))
local macro_rules | `(tactic| walk_at "compareOp GtE ref ref") => `(tactic| (k_here; (refine cmp_ofGtE ?_); k_dflt (refine' cmp_refl ?k1 ?k2 ?k3 ?k4 ?k5 ?k6 ?k7 ?k8 ?k9 ?_; (case k1 => k_units); (case k2 => k_asm); (case k3 => k_asm); (case k4 => k_inst); (case k5 => k_inst); (case k6 => decide); (case k7 => k_is); (case k8 => k_is); (case k9 => k_is); k_whole)))
local macro_rules | `(tactic| walk_at "pyIter ref") => `(tactic| (k_here; k_dflt (refine' owit_iter ?F ?X ?I ?hs ?hf ?_; (case F => k_asm); (case X => k_asm); (case I => k_inst); (case hs => k_is); (case hf => k_is); k_whole)))
local macro_rules | `(tactic| walk_at "call builtin:iter") => `(tactic| (k_here; k_dflt (refine' iter_tupK ?k1 ?k2 ?k3 ?k4 ?k5 ?_; (case k1 => k_asm); (case k2 => k_asm); (case k3 => k_mem); (case k4 => exact rfl); (case k5 => exact rfl); intro I' h' F' N' l1; (try k_lt l1))))
local macro_rules | `(tactic| walk_at "OwitIt") => `(tactic| (k_dflt (refine' owit_tup ?k1 ?k2 ?_; (case k1 => k_asm); (case k2 => k_mem); k_whole)))
local macro_rules | `(tactic| walk_at "getAttr ref") => `(tactic| (k_here; k_dflt (refine' get_hookK ?k1 ?k2 ?k3 ?k4 ?k5 ?k6 ?k7 ?k8 ?k9 ?_; (case k1 => k_asm); (case k2 => k_asm); (case k3 => k_inst); (case k4 => k_is); (case k5 => k_is); (case k6 => k_is); (case k7 => k_is); (case k8 => decide); (case k9 => exact ⟨by k_is, by k_is⟩); k_whole)))
local macro_rules | `(tactic| walk_at "noteIf") => `(tactic| (k_dflt (refine' noteIf_no ?k1 ?k2 ?k3 ?_; (case k1 => assumption); (case k2 => first | assumption | k_asm); (case k3 => k_is))))
local macro_rules | `(tactic| walk_at "And") => `(tactic| ((with_reducible show handedIn _ = true ∧ _); refine And.intro rfl ?_))

local macro_rules | `(tactic| walk_at "call ref") => `(tactic| (k_here; k_dflt (refine wpAny_call ?_; first
  | (refine' weakenC (fail_K1 _ _ _ _ _ _ _ _ _ _ _ _ _ _ _ _ _ _ _ _ _ _ _ ?k1 ?k2 ?k3 ?k4 _ _ _ ?k5 ?k6 _ _ _ _ _ _ _ _ ?k7 ?k8 ?k9 ?_) rfl rfl rfl rfl rfl; (case k1 => k_asm); (case k2 => k_asm); (case k3 => k_asm); (case k4 => k_asm); (case k6 => assumption); (case k7 => k_asm); (case k8 => k_mem); (case k9 => k_mem); (case k5 => assumption))
  | (refine' weakenC (fail_K0 _ _ _ _ _ _ _ _ _ _ _ _ _ _ _ _ _ _ _ _ _ _ _ ?k1 ?k2 ?k3 ?k4 _ _ _ ?k5 ?k6 _ _ _ _ _ _ _ ?k7 ?k8 ?k9 ?_) rfl rfl rfl rfl rfl; (case k1 => k_asm); (case k2 => k_asm); (case k3 => k_asm); (case k4 => k_asm); (case k6 => assumption); (case k7 => k_asm); (case k8 => k_mem); (case k9 => k_mem); (case k5 => assumption))); intro g' e' t' tok' h' tk' F' U' R'; (try dsimp only)))
local macro_rules | `(tactic| k_enter) => `(tactic| ((first
  | (refine' weakenC (fail_K1 _ _ _ _ _ _ _ _ _ _ _ _ _ _ _ _ _ _ _ _ _ _ _ ?k1 ?k2 ?k3 ?k4 _ _ _ ?k5 ?k6 _ _ _ _ _ _ _ _ ?k7 ?k8 ?k9 ?_) rfl rfl rfl rfl rfl; (case k1 => k_asm); (case k2 => k_asm); (case k3 => k_asm); (case k4 => k_asm); (case k6 => assumption); (case k7 => k_asm); (case k8 => k_mem); (case k9 => k_mem); (case k5 => assumption))
  | (refine' weakenC (fail_K0 _ _ _ _ _ _ _ _ _ _ _ _ _ _ _ _ _ _ _ _ _ _ _ ?k1 ?k2 ?k3 ?k4 _ _ _ ?k5 ?k6 _ _ _ _ _ _ _ ?k7 ?k8 ?k9 ?_) rfl rfl rfl rfl rfl; (case k1 => k_asm); (case k2 => k_asm); (case k3 => k_asm); (case k4 => k_asm); (case k6 => assumption); (case k7 => k_asm); (case k8 => k_mem); (case k9 => k_mem); (case k5 => assumption))); intro g' e' t' tok' h' tk' F' U' R'; (try dsimp only)))

local macro_rules | `(tactic| walk_at "call ref") => `(tactic| (k_here; k_dflt (refine wpAny_call ?_; (refine' weakenC (dbg_call _ _ _ _ _ _ _ _ _ _ _ _ _ _ _ _ _ _ _ _ _ _ _ ?k1 ?k2 ?k3 ?k4 _ _ _ ?k5 ?k6 _ _ _ ?kz _ _ _ _ ?k7 ?_) rfl rfl rfl rfl rfl; (case k1 => k_asm); (case k2 => k_asm); (case k3 => k_asm); (case k4 => k_asm); (case k7 => assumption); (case kz => assumption); (case k6 => assumption); (case k5 => assumption))); intro u' t' h' tk' e' F' N'; (try dsimp only)))
set_option maxHeartbeats 0 in
theorem op_str (w : World) (p : Program) (loose : List Str) (mean : ExcName → Option Value) (mg mb : Str → Option Value)
  (gd : Option (List Code)) (cn : Str) (nms : List (Str × NameKind)) (ig ic : Bool) (mo : List (Str × Const)) (a : Addr) (ccd : Value) (cl : List (Str × Addr)) (outer : List Env) (A₀ : Around) (base h₀ : Heap) (L : Addr) (m : Str → Option Value) (s : Shared) (Q E : Value → Shared → Prop)
  (B : Below A₀ base outer h₀) (F : Fr h₀ L s.heap m) (X : (Mine.hd.heap_39 w.params).In h₀) (T : Top p loose mean mg mb h₀)
  (kn : Kn) (x dx : Addr) (kf : Kd (Mine.hd.heap_39 w.params) kn.cls) (sf : Sd (Mine.hd.heap_39 w.params)) (hi : Bool) (th : Th) (nm : Nm) (t1 t2 t3 : Tok) (rest : List (Addr × Obj)) (hnm : nm ≠ .els)
  (N : News h₀ L s.heap ((x, uo kn.cls dx (.str (hintS hi) t1) (nm.val t2) (th.slot t3)) :: (dx, dictOf [] 0) :: rest))
  (hq : ∀ u (t : Tok) h' tk', u = txtS kn hi th nm → kn ≠ .st → Fr h₀ L h' m → News h₀ L h' ((x, uo kn.cls dx (.str (hintS hi) t1) (nm.val t2) (th.slot t3)) :: (dx, dictOf [] 0) :: rest) → Q (.str u t) { s with heap := h', toks := tk' })
  (hE : ∀ g e t vs h' tk', kn = .st → Fr h₀ L g m → g.UpToSlots h' → RaisedS base g (envX cn ⟨.function, nms, ig, ic, mo⟩ L a ccd cl :: outer) e (.ref 67) t vs ((x, uo kn.cls dx (.str (hintS hi) t1) (nm.val t2) (th.slot t3)) :: (dx, dictOf [] 0) :: rest) h' → E (.ref e) { s with heap := h', toks := tk' }) :
  wpAny (model PySem.Challenge.rw_bb0045_01.row.prog w) (PySem.W.ktrTop 370 130 gd cn ⟨.function, nms, ig, ic, mo⟩ L a ccd cl outer) (call (.type "str") [.ref x]) Q E s := by
  walk_say "OP str"
  w_on; w_top on
  cases kn <;> (dsimp only [Kn.cls] at kf N hE hq; w_top on; w_strict k_steps; all_goals (first | exact hq _ _ _ _ (by assumption) Kn.noConfusion (by assumption) (by assumption) | exact hq _ _ _ _ rfl Kn.noConfusion (by assumption) (by assumption) | exact hE _ _ _ _ _ _ rfl (by assumption) (by assumption) (by assumption)))


end B14ssec
end Mine
/- attributes parts and first -/
namespace Mine
section B15sec

section
variable {prog : Program} {w : World} {A : Around} {E : Value → Shared → Prop} {s : Shared} {K : Frag} {x C L f : Addr} {h₀ : Heap} {m : Str → Option Value} {ox ob : Obj} {Q : Value → Shared → Prop} {name : Str} {expr : Bool}
theorem get_hookK (F : Fr h₀ L s.heap m) (X₀ : K.In h₀) (I : InstAt s.heap x ox C (some ob)) (hga : findIn K (.ref C) "__getattribute__" = some (some (.builtin "object.__getattribute__")))
    (hh : hasDictIn K C = false) (hc' : isClsIn K C = true) (ha : findIn K (.ref C) name = some none) (hc : copiedNames.contains name = false) (hk : findIn K (.ref C) "__getattr__" = some (some (.ref f)) ∧ isFn K (.ref f) = true)
    (h : wpAny (model prog w) A.in1 (call (.ref f) [.ref x, .str name s.toks]) (fun v s' => handedIn v = true ∧ Q v s') (fun e s' => wpAny (model prog w) A (noteIf true (.ref x) (.str name s.toks) e) (fun _ s'' => E e s'') E s') { s with toks := s.toks + 1 }) :
    wpAny (model prog w) A (getAttr (.ref x) name expr) Q E s :=
  get_hookH (X₀.keeps F.keep) I hga (findObj_missN hh hc' ha hc) hk.1 hk.2 (wpAny_mono h (fun v s' z => by rw [handedOut_of z.1]; exact wpAny_pure z.2) fun _ _ z => z)
end

local macro_rules | `(tactic| walk_at "getAttr ref") => `(tactic| (k_here; first
  | ((with_reducible show wpAny _ _ (getAttr _ ("_undefined_hint" : Str) _) _ _ _); (rename Kd _ _ => kf'); (rename Sd _ => sf'); k_dflt (refine' get_slotH ?k1 ?k2 ?k3 (Kd.ga (by assumption)) (Exists.choose_spec (Kd.hook (by assumption))) (Kd.cls (by assumption)) (Kd.hint (by assumption)).1 sf'.s199.1 sf'.s199.2 (Kd.hint (by assumption)).2 ?kv ?kh ?_; (case k1 => k_asm); (case k2 => k_asm); (case k3 => k_inst); (case kv => k_slotget); (case kh => k_handed); k_whole))
  | ((with_reducible show wpAny _ _ (getAttr _ ("_undefined_name" : Str) _) _ _ _); (rename Kd _ _ => kf'); (rename Sd _ => sf'); k_dflt (refine' get_slotH ?k1 ?k2 ?k3 (Kd.ga (by assumption)) (Exists.choose_spec (Kd.hook (by assumption))) (Kd.cls (by assumption)) (Kd.name (by assumption)).1 sf'.s200.1 sf'.s200.2 (Kd.name (by assumption)).2 ?kv ?kh ?_; (case k1 => k_asm); (case k2 => k_asm); (case k3 => k_inst); (case kv => k_slotget); (case kh => k_handed); k_whole))
  | ((with_reducible show wpAny _ _ (getAttr _ ("_undefined_obj" : Str) _) _ _ _); (rename Kd _ _ => kf'); (rename Sd _ => sf'); k_dflt (refine' get_slotH ?k1 ?k2 ?k3 (Kd.ga (by assumption)) (Exists.choose_spec (Kd.hook (by assumption))) (Kd.cls (by assumption)) (Kd.obj (by assumption)).1 sf'.s201.1 sf'.s201.2 (Kd.obj (by assumption)).2 ?kv ?kh ?_; (case k1 => k_asm); (case k2 => k_asm); (case k3 => k_inst); (case kv => k_slotget); (case kh => k_handed); k_whole))
  | ((with_reducible show wpAny _ _ (getAttr _ ("_undefined_exception" : Str) _) _ _ _); (rename Kd _ _ => kf'); (rename Sd _ => sf'); k_dflt (refine' get_slotH ?k1 ?k2 ?k3 (Kd.ga (by assumption)) (Exists.choose_spec (Kd.hook (by assumption))) (Kd.cls (by assumption)) (Kd.exc (by assumption)).1 sf'.s198.1 sf'.s198.2 (Kd.exc (by assumption)).2 ?kv ?kh ?_; (case k1 => k_asm); (case k2 => k_asm); (case k3 => k_inst); (case kv => k_slotget); (case kh => k_handed); k_whole))
  | (k_dflt (refine' get_fnH ?k1 ?k2 ?k3 ?k4 ?k5 ?k6 ?k7 ?k8 ?k9 ?k10 ?k11 ?k12 ?k13 ?_; (case k1 => k_asm); (case k2 => k_asm); (case k3 => k_asm); (case k4 => k_inst); (case k5 => k_is); (case k6 => k_is); (case k7 => k_is); (case k8 => k_is); (case k9 => k_is); (case k10 => k_is); (case k11 => k_is); (case k12 => k_is); (case k13 => decide); intro q' h' F' N' l1; (try k_lt l1)))))
local macro_rules | `(tactic| walk_at "getMethod ref") => `(tactic| (k_here; k_dflt (refine' get_methodH ?k1 ?k2 ?k3 ?k4 ?k5 ?_; (case k1 => k_asm); (case k2 => k_asm); (case k3 => k_inst); (case k4 => k_is); (case k5 => k_is); k_whole)))
local macro_rules | `(tactic| walk_at "compareOp Is") => `(tactic| (k_here; first | refine is_int_ref ?_ | refine is_str_ref ?_))
local macro_rules | `(tactic| walk_at "pyReprObj str") => `(tactic| (k_here; first
  | refine repr_lit (y := "'user'") (by decide +kernel) (by decide +kernel) ?_
  | refine repr_lit (y := "'else'") (by decide +kernel) (by decide +kernel) ?_
  | refine repr_lit (y := "'a b'") (by decide +kernel) (by decide +kernel) ?_
  | refine repr_lit (y := "'int object'") (by decide +kernel) (by decide +kernel) ?_
  | refine repr_lit (y := "'str object'") (by decide +kernel) (by decide +kernel) ?_))
local macro_rules | `(tactic| walk_at "call type:bool") => `(tactic| (k_here; (with_reducible show wpAny _ _ (call _ [Value.ref _]) _ _ _); k_dflt (refine' call_bool_K ?k1 ?k2 ?k3 ?k4 ?_; (case k1 => k_in); (case k2 => k_inst); (case k3 => k_is); (case k4 => k_is); k_whole)))
local macro_rules | `(tactic| walk_at "call type:int") => `(tactic| (k_here; (with_reducible show wpAny _ _ (call _ [Value.ref _]) _ _ _); k_dflt (refine' call_int_K ?k1 ?k2 ?k3 ?k4 ?_; (case k1 => k_in); (case k2 => k_inst); (case k3 => k_is); (case k4 => k_is); k_whole); intro Q'))
local macro_rules | `(tactic| walk_at "binaryOp Sub int ref") => `(tactic| (k_here; k_dflt (refine' rsub_K ?k1 ?k2 ?k3 ?k4 ?k5 ?k6 ?k7 ?k8 ?k9 ?_; (case k1 => k_asm); (case k2 => k_asm); (case k3 => k_inst); (case k4 => exact (News.get (by assumption) (by k_mem))); (case k5 => k_is); (case k6 => k_is); (case k7 => k_is); (case k8 => k_is); (case k9 => k_is); k_whole); intro Q'))
local macro_rules | `(tactic| walk_at "richCompare") => `(tactic| (k_here; k_dflt (refine' cmp_refl ?k1 ?k2 ?k3 ?k4 ?k5 ?k6 ?k7 ?k8 ?k9 ?_; (case k1 => k_units); (case k2 => k_asm); (case k3 => k_asm); (case k4 => k_inst); (case k5 => k_inst); (case k6 => decide); (case k7 => k_is); (case k8 => k_is); (case k9 => k_is); k_whole)))
local macro_rules | `(tactic| walk_at "compareOp Eq ref ref") => `(tactic| (k_here; (refine cmp_ofEq ?_); k_dflt (refine' cmp_refl ?k1 ?k2 ?k3 ?k4 ?k5 ?k6 ?k7 ?k8 ?k9 ?_; (case k1 => k_units); (case k2 => k_asm); (case k3 => k_asm); (case k4 => k_inst); (case k5 => k_inst); (case k6 => decide); (case k7 => k_is); (case k8 => k_is); (case k9 => k_is); k_whole)))
local macro_rules | `(tactic| walk_at "compareOp NotEq ref ref") => `(tactic| (k_here; (refine cmp_ofNotEq ?_); k_dflt (refine' cmp_refl ?k1 ?k2 ?k3 ?k4 ?k5 ?k6 ?k7 ?k8 ?k9 ?_; (case k1 => k_units); (case k2 => k_asm); (case k3 => k_asm); (case k4 => k_inst); (case k5 => k_inst); (case k6 => decide); (case k7 => k_is); (case k8 => k_is); (case k9 => k_is); k_whole)))
local macro_rules | `(tactic| walk_at "compareOp GtE ref ref") => `(tactic| (k_here; (refine cmp_ofGtE ?_); k_dflt (refine' cmp_refl ?k1 ?k2 ?k3 ?k4 ?k5 ?k6 ?k7 ?k8 ?k9 ?_; (case k1 => k_units); (case k2 => k_asm); (case k3 => k_asm); (case k4 => k_inst); (case k5 => k_inst); (case k6 => decide); (case k7 => k_is); (case k8 => k_is); (case k9 => k_is); k_whole)))
local macro_rules | `(tactic| walk_at "pyIter ref") => `(tactic| (k_here; k_dflt (refine' owit_iter ?F ?X ?I ?hs ?hf ?_; (case F => k_asm); (case X => k_asm); (case I => k_inst); (case hs => k_is); (case hf => k_is); k_whole)))
local macro_rules | `(tactic| walk_at "call builtin:iter") => `(tactic| (k_here; k_dflt (refine' iter_tupK ?k1 ?k2 ?k3 ?k4 ?k5 ?_; (case k1 => k_asm); (case k2 => k_asm); (case k3 => k_mem); (case k4 => exact rfl); (case k5 => exact rfl); intro I' h' F' N' l1; (try k_lt l1))))
local macro_rules | `(tactic| walk_at "OwitIt") => `(tactic| (k_dflt (refine' owit_tup ?k1 ?k2 ?_; (case k1 => k_asm); (case k2 => k_mem); k_whole)))
local macro_rules | `(tactic| walk_at "getAttr ref") => `(tactic| (k_here; k_dflt (refine' get_hookK ?k1 ?k2 ?k3 ?k4 ?k5 ?k6 ?k7 ?k8 ?k9 ?_; (case k1 => k_asm); (case k2 => k_asm); (case k3 => k_inst); (case k4 => k_is); (case k5 => k_is); (case k6 => k_is); (case k7 => k_is); (case k8 => decide); (case k9 => exact ⟨by k_is, by k_is⟩); k_whole)))
local macro_rules | `(tactic| walk_at "noteIf") => `(tactic| (k_dflt (refine' noteIf_no ?k1 ?k2 ?k3 ?_; (case k1 => assumption); (case k2 => first | assumption | k_asm); (case k3 => k_is))))
local macro_rules | `(tactic| walk_at "And") => `(tactic| ((with_reducible show handedIn _ = true ∧ _); refine And.intro rfl ?_))

local macro_rules | `(tactic| walk_at "call ref") => `(tactic| (k_here; k_dflt (refine wpAny_call ?_; first
  | (refine' weakenC (fail_K1 _ _ _ _ _ _ _ _ _ _ _ _ _ _ _ _ _ _ _ _ _ _ _ ?k1 ?k2 ?k3 ?k4 _ _ _ ?k5 ?k6 _ _ _ _ _ _ _ _ ?k7 ?k8 ?k9 ?_) rfl rfl rfl rfl rfl; (case k1 => k_asm); (case k2 => k_asm); (case k3 => k_asm); (case k4 => k_asm); (case k6 => assumption); (case k7 => k_asm); (case k8 => k_mem); (case k9 => k_mem); (case k5 => assumption))
  | (refine' weakenC (fail_K0 _ _ _ _ _ _ _ _ _ _ _ _ _ _ _ _ _ _ _ _ _ _ _ ?k1 ?k2 ?k3 ?k4 _ _ _ ?k5 ?k6 _ _ _ _ _ _ _ ?k7 ?k8 ?k9 ?_) rfl rfl rfl rfl rfl; (case k1 => k_asm); (case k2 => k_asm); (case k3 => k_asm); (case k4 => k_asm); (case k6 => assumption); (case k7 => k_asm); (case k8 => k_mem); (case k9 => k_mem); (case k5 => assumption))); intro g' e' t' tok' h' tk' F' U' R'; (try dsimp only)))
local macro_rules | `(tactic| k_enter) => `(tactic| ((first
  | (refine' weakenC (fail_K1 _ _ _ _ _ _ _ _ _ _ _ _ _ _ _ _ _ _ _ _ _ _ _ ?k1 ?k2 ?k3 ?k4 _ _ _ ?k5 ?k6 _ _ _ _ _ _ _ _ ?k7 ?k8 ?k9 ?_) rfl rfl rfl rfl rfl; (case k1 => k_asm); (case k2 => k_asm); (case k3 => k_asm); (case k4 => k_asm); (case k6 => assumption); (case k7 => k_asm); (case k8 => k_mem); (case k9 => k_mem); (case k5 => assumption))
  | (refine' weakenC (fail_K0 _ _ _ _ _ _ _ _ _ _ _ _ _ _ _ _ _ _ _ _ _ _ _ ?k1 ?k2 ?k3 ?k4 _ _ _ ?k5 ?k6 _ _ _ _ _ _ _ ?k7 ?k8 ?k9 ?_) rfl rfl rfl rfl rfl; (case k1 => k_asm); (case k2 => k_asm); (case k3 => k_asm); (case k4 => k_asm); (case k6 => assumption); (case k7 => k_asm); (case k8 => k_mem); (case k9 => k_mem); (case k5 => assumption))); intro g' e' t' tok' h' tk' F' U' R'; (try dsimp only)))

set_option maxHeartbeats 0 in
theorem op_attr_parts (w : World) (p : Program) (loose : List Str) (mean : ExcName → Option Value) (mg mb : Str → Option Value)
  (gd : Option (List Code)) (cn : Str) (nms : List (Str × NameKind)) (ig ic : Bool) (mo : List (Str × Const)) (a : Addr) (ccd : Value) (cl : List (Str × Addr)) (outer : List Env) (A₀ : Around) (base h₀ : Heap) (L : Addr) (m : Str → Option Value) (s : Shared) (Q E : Value → Shared → Prop)
  (XB : (Mine.hd.heap_39 w.params).In base) (B : Below A₀ base outer h₀) (F : Fr h₀ L s.heap m) (X : (Mine.hd.heap_39 w.params).In h₀) (T : Top p loose mean mg mb h₀)
  (kn : Kn) (x dx : Addr) (kf : Kd (Mine.hd.heap_39 w.params) kn.cls) (sf : Sd (Mine.hd.heap_39 w.params)) (hi : Bool) (th : Th) (nm : Nm) (t1 t2 t3 : Tok) (rest : List (Addr × Obj))
  (N : News h₀ L s.heap ((x, uo kn.cls dx (.str (hintS hi) t1) (nm.val t2) (th.slot t3)) :: (dx, dictOf [] 0) :: rest))
  (hq : ∀ h' tk', kn = .ch → Fr h₀ L h' m → News h₀ L h' ((x, uo kn.cls dx (.str (hintS hi) t1) (nm.val t2) (th.slot t3)) :: (dx, dictOf [] 0) :: rest) → Q (.ref x) { s with heap := h', toks := tk' })
  (hE : ∀ g e t vs h' tk', kn ≠ .ch → Fr h₀ L g m → g.UpToSlots h' → RaisedS base g (envX cn ⟨.function, nms, ig, ic, mo⟩ L a ccd cl :: outer) e (.ref 67) t vs ((x, uo kn.cls dx (.str (hintS hi) t1) (nm.val t2) (th.slot t3)) :: (dx, dictOf [] 0) :: rest) h' → E (.ref e) { s with heap := h', toks := tk' }) :
  wpAny (model PySem.Challenge.rw_bb0045_01.row.prog w) (PySem.W.ktrTop 370 130 gd cn ⟨.function, nms, ig, ic, mo⟩ L a ccd cl outer) (getAttr (.ref x) "parts" true) Q E s := by
  walk_say "OP attr parts"
  w_on; w_top on
  cases kn <;> (dsimp only [Kn.cls] at kf N hE hq; w_top on; w_strict k_steps; all_goals (first | exact hq _ _ rfl (by assumption) (by assumption) | (refine leave_onS (by assumption) (by assumption) (by assumption) (by assumption) (fun h'' R2 _ U2 => ?_); refine noteIf_no R2 XB (by k_is) ?_; exact hE _ _ _ _ _ _ Kn.noConfusion (by assumption) U2 (raisedS_sub R2 fun q hq => .tail _ hq))))

set_option maxHeartbeats 0 in
theorem op_attr_first (w : World) (p : Program) (loose : List Str) (mean : ExcName → Option Value) (mg mb : Str → Option Value)
  (gd : Option (List Code)) (cn : Str) (nms : List (Str × NameKind)) (ig ic : Bool) (mo : List (Str × Const)) (a : Addr) (ccd : Value) (cl : List (Str × Addr)) (outer : List Env) (A₀ : Around) (base h₀ : Heap) (L : Addr) (m : Str → Option Value) (s : Shared) (Q E : Value → Shared → Prop)
  (XB : (Mine.hd.heap_39 w.params).In base) (B : Below A₀ base outer h₀) (F : Fr h₀ L s.heap m) (X : (Mine.hd.heap_39 w.params).In h₀) (T : Top p loose mean mg mb h₀)
  (kn : Kn) (x dx : Addr) (kf : Kd (Mine.hd.heap_39 w.params) kn.cls) (sf : Sd (Mine.hd.heap_39 w.params)) (hi : Bool) (th : Th) (nm : Nm) (t1 t2 t3 : Tok) (rest : List (Addr × Obj))
  (N : News h₀ L s.heap ((x, uo kn.cls dx (.str (hintS hi) t1) (nm.val t2) (th.slot t3)) :: (dx, dictOf [] 0) :: rest))
  (hq : ∀ h' tk', kn = .ch → Fr h₀ L h' m → News h₀ L h' ((x, uo kn.cls dx (.str (hintS hi) t1) (nm.val t2) (th.slot t3)) :: (dx, dictOf [] 0) :: rest) → Q (.ref x) { s with heap := h', toks := tk' })
  (hE : ∀ g e t vs h' tk', kn ≠ .ch → Fr h₀ L g m → g.UpToSlots h' → RaisedS base g (envX cn ⟨.function, nms, ig, ic, mo⟩ L a ccd cl :: outer) e (.ref 67) t vs ((x, uo kn.cls dx (.str (hintS hi) t1) (nm.val t2) (th.slot t3)) :: (dx, dictOf [] 0) :: rest) h' → E (.ref e) { s with heap := h', toks := tk' }) :
  wpAny (model PySem.Challenge.rw_bb0045_01.row.prog w) (PySem.W.ktrTop 370 130 gd cn ⟨.function, nms, ig, ic, mo⟩ L a ccd cl outer) (getAttr (.ref x) "first" true) Q E s := by
  walk_say "OP attr first"
  w_on; w_top on
  cases kn <;> (dsimp only [Kn.cls] at kf N hE hq; w_top on; w_strict k_steps; all_goals (first | exact hq _ _ rfl (by assumption) (by assumption) | (refine leave_onS (by assumption) (by assumption) (by assumption) (by assumption) (fun h'' R2 _ U2 => ?_); refine noteIf_no R2 XB (by k_is) ?_; exact hE _ _ _ _ _ _ Kn.noConfusion (by assumption) U2 (raisedS_sub R2 fun q hq => .tail _ hq))))


end B15sec
end Mine
/- attribute second -/
namespace Mine
section B15bsec
local macro_rules | `(tactic| walk_at "pad") => `(tactic| skip)


local macro_rules | `(tactic| walk_at "getAttr ref") => `(tactic| (k_here; first
  | ((with_reducible show wpAny _ _ (getAttr _ ("_undefined_hint" : Str) _) _ _ _); (rename Kd _ _ => kf'); (rename Sd _ => sf'); k_dflt (refine' get_slotH ?k1 ?k2 ?k3 (Kd.ga (by assumption)) (Exists.choose_spec (Kd.hook (by assumption))) (Kd.cls (by assumption)) (Kd.hint (by assumption)).1 sf'.s199.1 sf'.s199.2 (Kd.hint (by assumption)).2 ?kv ?kh ?_; (case k1 => k_asm); (case k2 => k_asm); (case k3 => k_inst); (case kv => k_slotget); (case kh => k_handed); k_whole))
  | ((with_reducible show wpAny _ _ (getAttr _ ("_undefined_name" : Str) _) _ _ _); (rename Kd _ _ => kf'); (rename Sd _ => sf'); k_dflt (refine' get_slotH ?k1 ?k2 ?k3 (Kd.ga (by assumption)) (Exists.choose_spec (Kd.hook (by assumption))) (Kd.cls (by assumption)) (Kd.name (by assumption)).1 sf'.s200.1 sf'.s200.2 (Kd.name (by assumption)).2 ?kv ?kh ?_; (case k1 => k_asm); (case k2 => k_asm); (case k3 => k_inst); (case kv => k_slotget); (case kh => k_handed); k_whole))
  | ((with_reducible show wpAny _ _ (getAttr _ ("_undefined_obj" : Str) _) _ _ _); (rename Kd _ _ => kf'); (rename Sd _ => sf'); k_dflt (refine' get_slotH ?k1 ?k2 ?k3 (Kd.ga (by assumption)) (Exists.choose_spec (Kd.hook (by assumption))) (Kd.cls (by assumption)) (Kd.obj (by assumption)).1 sf'.s201.1 sf'.s201.2 (Kd.obj (by assumption)).2 ?kv ?kh ?_; (case k1 => k_asm); (case k2 => k_asm); (case k3 => k_inst); (case kv => k_slotget); (case kh => k_handed); k_whole))
  | ((with_reducible show wpAny _ _ (getAttr _ ("_undefined_exception" : Str) _) _ _ _); (rename Kd _ _ => kf'); (rename Sd _ => sf'); k_dflt (refine' get_slotH ?k1 ?k2 ?k3 (Kd.ga (by assumption)) (Exists.choose_spec (Kd.hook (by assumption))) (Kd.cls (by assumption)) (Kd.exc (by assumption)).1 sf'.s198.1 sf'.s198.2 (Kd.exc (by assumption)).2 ?kv ?kh ?_; (case k1 => k_asm); (case k2 => k_asm); (case k3 => k_inst); (case kv => k_slotget); (case kh => k_handed); k_whole))
  | (k_dflt (refine' get_fnH ?k1 ?k2 ?k3 ?k4 ?k5 ?k6 ?k7 ?k8 ?k9 ?k10 ?k11 ?k12 ?k13 ?_; (case k1 => k_asm); (case k2 => k_asm); (case k3 => k_asm); (case k4 => k_inst); (case k5 => k_is); (case k6 => k_is); (case k7 => k_is); (case k8 => k_is); (case k9 => k_is); (case k10 => k_is); (case k11 => k_is); (case k12 => k_is); (case k13 => decide); intro q' h' F' N' l1; (try k_lt l1)))))
local macro_rules | `(tactic| walk_at "getMethod ref") => `(tactic| (k_here; k_dflt (refine' get_methodH ?k1 ?k2 ?k3 ?k4 ?k5 ?_; (case k1 => k_asm); (case k2 => k_asm); (case k3 => k_inst); (case k4 => k_is); (case k5 => k_is); k_whole)))
local macro_rules | `(tactic| walk_at "compareOp Is") => `(tactic| (k_here; first | refine is_int_ref ?_ | refine is_str_ref ?_))
local macro_rules | `(tactic| walk_at "pyReprObj str") => `(tactic| (k_here; first
  | refine repr_lit (y := "'user'") (by decide +kernel) (by decide +kernel) ?_
  | refine repr_lit (y := "'else'") (by decide +kernel) (by decide +kernel) ?_
  | refine repr_lit (y := "'a b'") (by decide +kernel) (by decide +kernel) ?_
  | refine repr_lit (y := "'int object'") (by decide +kernel) (by decide +kernel) ?_
  | refine repr_lit (y := "'str object'") (by decide +kernel) (by decide +kernel) ?_))
local macro_rules | `(tactic| walk_at "call type:bool") => `(tactic| (k_here; (with_reducible show wpAny _ _ (call _ [Value.ref _]) _ _ _); k_dflt (refine' call_bool_K ?k1 ?k2 ?k3 ?k4 ?_; (case k1 => k_in); (case k2 => k_inst); (case k3 => k_is); (case k4 => k_is); k_whole)))
local macro_rules | `(tactic| walk_at "call type:int") => `(tactic| (k_here; (with_reducible show wpAny _ _ (call _ [Value.ref _]) _ _ _); k_dflt (refine' call_int_K ?k1 ?k2 ?k3 ?k4 ?_; (case k1 => k_in); (case k2 => k_inst); (case k3 => k_is); (case k4 => k_is); k_whole); intro Q'))
local macro_rules | `(tactic| walk_at "binaryOp Sub int ref") => `(tactic| (k_here; k_dflt (refine' rsub_K ?k1 ?k2 ?k3 ?k4 ?k5 ?k6 ?k7 ?k8 ?k9 ?_; (case k1 => k_asm); (case k2 => k_asm); (case k3 => k_inst); (case k4 => exact (News.get (by assumption) (by k_mem))); (case k5 => k_is); (case k6 => k_is); (case k7 => k_is); (case k8 => k_is); (case k9 => k_is); k_whole); intro Q'))
local macro_rules | `(tactic| walk_at "richCompare") => `(tactic| (k_here; k_dflt (refine' cmp_refl ?k1 ?k2 ?k3 ?k4 ?k5 ?k6 ?k7 ?k8 ?k9 ?_; (case k1 => k_units); (case k2 => k_asm); (case k3 => k_asm); (case k4 => k_inst); (case k5 => k_inst); (case k6 => decide); (case k7 => k_is); (case k8 => k_is); (case k9 => k_is); k_whole)))
local macro_rules | `(tactic| walk_at "compareOp Eq ref ref") => `(tactic| (k_here; (refine cmp_ofEq ?_); k_dflt (refine' cmp_refl ?k1 ?k2 ?k3 ?k4 ?k5 ?k6 ?k7 ?k8 ?k9 ?_; (case k1 => k_units); (case k2 => k_asm); (case k3 => k_asm); (case k4 => k_inst); (case k5 => k_inst); (case k6 => decide); (case k7 => k_is); (case k8 => k_is); (case k9 => k_is); k_whole)))
local macro_rules | `(tactic| walk_at "compareOp NotEq ref ref") => `(tactic| (k_here; (refine cmp_ofNotEq ?_); k_dflt (refine' cmp_refl ?k1 ?k2 ?k3 ?k4 ?k5 ?k6 ?k7 ?k8 ?k9 ?_; (case k1 => k_units); (case k2 => k_asm); (case k3 => k_asm); (case k4 => k_inst); (case k5 => k_inst); (case k6 => decide); (case k7 => k_is); (case k8 => k_is); (case k9 => k_is); k_whole)))
local macro_rules | `(tactic| walk_at "compareOp GtE ref ref") => `(tactic| (k_here; (refine cmp_ofGtE ?_); k_dflt (refine' cmp_refl ?k1 ?k2 ?k3 ?k4 ?k5 ?k6 ?k7 ?k8 ?k9 ?_; (case k1 => k_units); (case k2 => k_asm); (case k3 => k_asm); (case k4 => k_inst); (case k5 => k_inst); (case k6 => decide); (case k7 => k_is); (case k8 => k_is); (case k9 => k_is); k_whole)))
local macro_rules | `(tactic| walk_at "pyIter ref") => `(tactic| (k_here; k_dflt (refine' owit_iter ?F ?X ?I ?hs ?hf ?_; (case F => k_asm); (case X => k_asm); (case I => k_inst); (case hs => k_is); (case hf => k_is); k_whole)))
local macro_rules | `(tactic| walk_at "call builtin:iter") => `(tactic| (k_here; k_dflt (refine' iter_tupK ?k1 ?k2 ?k3 ?k4 ?k5 ?_; (case k1 => k_asm); (case k2 => k_asm); (case k3 => k_mem); (case k4 => exact rfl); (case k5 => exact rfl); intro I' h' F' N' l1)))
local macro_rules | `(tactic| walk_at "OwitIt") => `(tactic| (k_dflt (refine' owit_tup ?k1 ?k2 ?_; (case k1 => k_asm); (case k2 => k_mem); k_whole)))
local macro_rules | `(tactic| walk_at "getAttr ref") => `(tactic| (k_here; k_dflt (refine' get_hookK ?k1 ?k2 ?k3 ?k4 ?k5 ?k6 ?k7 ?k8 ?k9 ?_; (case k1 => k_asm); (case k2 => k_asm); (case k3 => k_inst); (case k4 => k_is); (case k5 => k_is); (case k6 => k_is); (case k7 => k_is); (case k8 => decide); (case k9 => exact ⟨by k_is, by k_is⟩); k_whole)))
local macro_rules | `(tactic| walk_at "noteIf") => `(tactic| (k_dflt (refine' noteIf_no ?k1 ?k2 ?k3 ?_; (case k1 => assumption); (case k2 => first | assumption | k_asm); (case k3 => k_is))))
local macro_rules | `(tactic| walk_at "And") => `(tactic| ((with_reducible show handedIn _ = true ∧ _); refine And.intro rfl ?_))

local macro_rules | `(tactic| walk_at "call ref") => `(tactic| (k_here; k_dflt (refine wpAny_call ?_; first
  | (refine' weakenC (fail_K1 _ _ _ _ _ _ _ _ _ _ _ _ _ _ _ _ _ _ _ _ _ _ _ ?k1 ?k2 ?k3 ?k4 _ _ _ ?k5 ?k6 _ _ _ _ _ _ _ _ ?k7 ?k8 ?k9 ?_) rfl rfl rfl rfl rfl; (case k1 => k_asm); (case k2 => k_asm); (case k3 => k_asm); (case k4 => k_asm); (case k6 => assumption); (case k7 => k_asm); (case k8 => k_mem); (case k9 => k_mem); (case k5 => assumption))
  | (refine' weakenC (fail_K0 _ _ _ _ _ _ _ _ _ _ _ _ _ _ _ _ _ _ _ _ _ _ _ ?k1 ?k2 ?k3 ?k4 _ _ _ ?k5 ?k6 _ _ _ _ _ _ _ ?k7 ?k8 ?k9 ?_) rfl rfl rfl rfl rfl; (case k1 => k_asm); (case k2 => k_asm); (case k3 => k_asm); (case k4 => k_asm); (case k6 => assumption); (case k7 => k_asm); (case k8 => k_mem); (case k9 => k_mem); (case k5 => assumption))); intro g' e' t' tok' h' tk' F' U' R'; (try dsimp only)))
local macro_rules | `(tactic| k_enter) => `(tactic| ((first
  | (refine' weakenC (fail_K1 _ _ _ _ _ _ _ _ _ _ _ _ _ _ _ _ _ _ _ _ _ _ _ ?k1 ?k2 ?k3 ?k4 _ _ _ ?k5 ?k6 _ _ _ _ _ _ _ _ ?k7 ?k8 ?k9 ?_) rfl rfl rfl rfl rfl; (case k1 => k_asm); (case k2 => k_asm); (case k3 => k_asm); (case k4 => k_asm); (case k6 => assumption); (case k7 => k_asm); (case k8 => k_mem); (case k9 => k_mem); (case k5 => assumption))
  | (refine' weakenC (fail_K0 _ _ _ _ _ _ _ _ _ _ _ _ _ _ _ _ _ _ _ _ _ _ _ ?k1 ?k2 ?k3 ?k4 _ _ _ ?k5 ?k6 _ _ _ _ _ _ _ ?k7 ?k8 ?k9 ?_) rfl rfl rfl rfl rfl; (case k1 => k_asm); (case k2 => k_asm); (case k3 => k_asm); (case k4 => k_asm); (case k6 => assumption); (case k7 => k_asm); (case k8 => k_mem); (case k9 => k_mem); (case k5 => assumption))); intro g' e' t' tok' h' tk' F' U' R'; (try dsimp only)))

set_option maxHeartbeats 0 in
theorem op_attr_second (w : World) (p : Program) (loose : List Str) (mean : ExcName → Option Value) (mg mb : Str → Option Value)
  (gd : Option (List Code)) (cn : Str) (nms : List (Str × NameKind)) (ig ic : Bool) (mo : List (Str × Const)) (a : Addr) (ccd : Value) (cl : List (Str × Addr)) (outer : List Env) (A₀ : Around) (base h₀ : Heap) (L : Addr) (m : Str → Option Value) (s : Shared) (Q E : Value → Shared → Prop)
  (XB : (Mine.hd.heap_39 w.params).In base) (B : Below A₀ base outer h₀) (F : Fr h₀ L s.heap m) (X : (Mine.hd.heap_39 w.params).In h₀) (T : Top p loose mean mg mb h₀)
  (kn : Kn) (x dx : Addr) (kf : Kd (Mine.hd.heap_39 w.params) kn.cls) (sf : Sd (Mine.hd.heap_39 w.params)) (hi : Bool) (th : Th) (nm : Nm) (t1 t2 t3 : Tok) (rest : List (Addr × Obj))
  (N : News h₀ L s.heap ((x, uo kn.cls dx (.str (hintS hi) t1) (nm.val t2) (th.slot t3)) :: (dx, dictOf [] 0) :: rest))
  (hq : ∀ h' tk', kn = .ch → Fr h₀ L h' m → News h₀ L h' ((x, uo kn.cls dx (.str (hintS hi) t1) (nm.val t2) (th.slot t3)) :: (dx, dictOf [] 0) :: rest) → Q (.ref x) { s with heap := h', toks := tk' })
  (hE : ∀ g e t vs h' tk', kn ≠ .ch → Fr h₀ L g m → g.UpToSlots h' → RaisedS base g (envX cn ⟨.function, nms, ig, ic, mo⟩ L a ccd cl :: outer) e (.ref 67) t vs ((x, uo kn.cls dx (.str (hintS hi) t1) (nm.val t2) (th.slot t3)) :: (dx, dictOf [] 0) :: rest) h' → E (.ref e) { s with heap := h', toks := tk' }) :
  wpAny (model PySem.Challenge.rw_bb0045_01.row.prog w) (PySem.W.ktrTop 370 130 gd cn ⟨.function, nms, ig, ic, mo⟩ L a ccd cl outer) (getAttr (.ref x) "second" true) Q E s := by
  walk_say "OP attr second"
  w_on; w_top on
  cases kn <;> (dsimp only [Kn.cls] at kf N hE hq; w_top on; w_strict k_steps; all_goals (first | exact hq _ _ rfl (by assumption) (by assumption) | (refine leave_onS (by assumption) (by assumption) (by assumption) (by assumption) (fun h'' R2 _ U2 => ?_); refine noteIf_no R2 XB (by k_is) ?_; exact hE _ _ _ _ _ _ Kn.noConfusion (by assumption) U2 (raisedS_sub R2 fun q hq => .tail _ hq))))


end B15bsec
end Mine
/- _law_same -/
namespace Mine
section B16sec

section
variable {prog : Program} {w : World} {A : Around} {E : Value → Shared → Prop} {s : Shared} {Q : Value → Shared → Prop}
theorem eq_same_str {z : Str} {t t' : Tok} (h : Q (.bool true) s) : wpAny (model prog w) A (compareOp .Eq (.str z t) (.str z t')) Q E s := PyProof.Rows.eq_str (by simpa using h)
end
local macro_rules | `(tactic| walk_at "compareOp Eq ref ref") => `(tactic| (k_here; k_dflt ((refine' weakenW (op_eqs _ _ _ _ _ _ _ _ _ _ _ _ _ _ _ _ _ _ _ _ _ _ _ _ ?k1 ?k2 ?k3 ?k4 _ _ _ ?k5 ?k6 _ _ _ _ _ _ _ ?k7 ?q ?e) rfl rfl rfl rfl rfl; (case k1 => k_asm); (case k2 => k_asm); (case k3 => k_asm); (case k4 => k_asm); (case k7 => k_asm); (case k6 => assumption); (case k5 => first | assumption | exact kdn _ _))); all_goals (intros; (try dsimp only))))
local macro_rules | `(tactic| walk_at "getAttr ref") => `(tactic| (k_here; (with_reducible show wpAny _ _ (getAttr _ ("_undefined_message" : Str) _) _ _ _); k_dflt (refine' weakenW (msg_get _ _ _ _ _ _ _ _ _ _ _ _ _ _ _ _ _ _ _ _ _ _ _ _ ?k1 ?k2 ?k3 ?k4 _ _ _ ?k5 ?k6 _ _ _ _ _ _ _ _ ?k7 ?k8 ?k9 ?_) rfl rfl rfl rfl rfl; (case k1 => k_asm); (case k2 => k_asm); (case k3 => k_asm); (case k4 => k_asm); (case k5 => assumption); (case k6 => assumption); (case k7 => k_asm); (case k8 => k_mem); (case k9 => k_mem)); intro t' h' tk' F' N'; (try dsimp only); (try k_fold)))
local macro_rules | `(tactic| walk_at "compareOp Eq str str") => `(tactic| refine eq_same_str ?_)

set_option maxHeartbeats 0 in
theorem same_call (w : World) (p : Program) (loose : List Str) (mean : ExcName → Option Value) (mg mb : Str → Option Value)
  (gd : Option (List Code)) (cn : Str) (nms : List (Str × NameKind)) (ig ic : Bool) (mo : List (Str × Const)) (a : Addr) (ccd : Value) (cl : List (Str × Addr)) (outer : List Env) (A₀ : Around) (base h₀ : Heap) (L : Addr) (m : Str → Option Value) (s : Shared) (R : Result → Shared → Prop)
  (B : Below A₀ base outer h₀) (F : Fr h₀ L s.heap m) (X : (Mine.hd.heap_39 w.params).In h₀) (T : Top p loose mean mg mb h₀)
  (kn : Kn) (hkn : kn ≠ .st) (x dx : Addr) (kf : Kd (Mine.hd.heap_39 w.params) kn.cls) (sf : Sd (Mine.hd.heap_39 w.params)) (hi : Bool) (th : Th) (nm : Nm) (t1 t2 t3 : Tok) (rest : List (Addr × Obj))
  (N : News h₀ L s.heap ((x, uo kn.cls dx (.str (hintS hi) t1) (nm.val t2) (th.slot t3)) :: (dx, dictOf [] 0) :: rest))
  (hret : ∀ u (t : Tok) h' tk', u = ("same" : Str) → Fr h₀ L h' m → News h₀ L h' ((x, uo kn.cls dx (.str (hintS hi) t1) (nm.val t2) (th.slot t3)) :: (dx, dictOf [] 0) :: rest) → R (.ok (.ret (.str u t))) { s with heap := h', toks := tk' }) :
  codeAny (model PySem.Challenge.rw_bb0045_01.row.prog w) (PySem.W.ktrTop 365 125 gd cn ⟨.function, nms, ig, ic, mo⟩ L a ccd cl outer)
    (.call (.ref 308) ⟨[.ref x, .ref x], []⟩) R s := by
  w_on; w_top on
  w_strict (k_dflt k_enter; k_steps)
  all_goals (first | contradiction | exact hret _ _ _ _ rfl (by assumption) (by assumption))

end B16sec
end Mine
/- iteration in the frame of _law_done -/
namespace Mine
section B17isec

section
local macro_rules | `(tactic| walk_at "getAttr ref") => `(tactic| (k_here; first
  | ((with_reducible show wpAny _ _ (getAttr _ ("_undefined_hint" : Str) _) _ _ _); (rename Kd _ _ => kf'); (rename Sd _ => sf'); k_dflt (refine' get_slotH ?k1 ?k2 ?k3 (Kd.ga (by assumption)) (Exists.choose_spec (Kd.hook (by assumption))) (Kd.cls (by assumption)) (Kd.hint (by assumption)).1 sf'.s199.1 sf'.s199.2 (Kd.hint (by assumption)).2 ?kv ?kh ?_; (case k1 => k_asm); (case k2 => k_asm); (case k3 => k_inst); (case kv => k_slotget); (case kh => k_handed); k_whole))
  | ((with_reducible show wpAny _ _ (getAttr _ ("_undefined_name" : Str) _) _ _ _); (rename Kd _ _ => kf'); (rename Sd _ => sf'); k_dflt (refine' get_slotH ?k1 ?k2 ?k3 (Kd.ga (by assumption)) (Exists.choose_spec (Kd.hook (by assumption))) (Kd.cls (by assumption)) (Kd.name (by assumption)).1 sf'.s200.1 sf'.s200.2 (Kd.name (by assumption)).2 ?kv ?kh ?_; (case k1 => k_asm); (case k2 => k_asm); (case k3 => k_inst); (case kv => k_slotget); (case kh => k_handed); k_whole))
  | ((with_reducible show wpAny _ _ (getAttr _ ("_undefined_obj" : Str) _) _ _ _); (rename Kd _ _ => kf'); (rename Sd _ => sf'); k_dflt (refine' get_slotH ?k1 ?k2 ?k3 (Kd.ga (by assumption)) (Exists.choose_spec (Kd.hook (by assumption))) (Kd.cls (by assumption)) (Kd.obj (by assumption)).1 sf'.s201.1 sf'.s201.2 (Kd.obj (by assumption)).2 ?kv ?kh ?_; (case k1 => k_asm); (case k2 => k_asm); (case k3 => k_inst); (case kv => k_slotget); (case kh => k_handed); k_whole))
  | ((with_reducible show wpAny _ _ (getAttr _ ("_undefined_exception" : Str) _) _ _ _); (rename Kd _ _ => kf'); (rename Sd _ => sf'); k_dflt (refine' get_slotH ?k1 ?k2 ?k3 (Kd.ga (by assumption)) (Exists.choose_spec (Kd.hook (by assumption))) (Kd.cls (by assumption)) (Kd.exc (by assumption)).1 sf'.s198.1 sf'.s198.2 (Kd.exc (by assumption)).2 ?kv ?kh ?_; (case k1 => k_asm); (case k2 => k_asm); (case k3 => k_inst); (case kv => k_slotget); (case kh => k_handed); k_whole))
  | (k_dflt (refine' get_fnH ?k1 ?k2 ?k3 ?k4 ?k5 ?k6 ?k7 ?k8 ?k9 ?k10 ?k11 ?k12 ?k13 ?_; (case k1 => k_asm); (case k2 => k_asm); (case k3 => k_asm); (case k4 => k_inst); (case k5 => k_is); (case k6 => k_is); (case k7 => k_is); (case k8 => k_is); (case k9 => k_is); (case k10 => k_is); (case k11 => k_is); (case k12 => k_is); (case k13 => decide); intro q' h' F' N' l1; (try k_lt l1)))))
local macro_rules | `(tactic| walk_at "getMethod ref") => `(tactic| (k_here; k_dflt (refine' get_methodH ?k1 ?k2 ?k3 ?k4 ?k5 ?_; (case k1 => k_asm); (case k2 => k_asm); (case k3 => k_inst); (case k4 => k_is); (case k5 => k_is); k_whole)))
local macro_rules | `(tactic| walk_at "compareOp Is") => `(tactic| (k_here; first | refine is_int_ref ?_ | refine is_str_ref ?_))
local macro_rules | `(tactic| walk_at "pyReprObj str") => `(tactic| (k_here; first
  | refine repr_lit (y := "'user'") (by decide +kernel) (by decide +kernel) ?_
  | refine repr_lit (y := "'else'") (by decide +kernel) (by decide +kernel) ?_
  | refine repr_lit (y := "'a b'") (by decide +kernel) (by decide +kernel) ?_
  | refine repr_lit (y := "'int object'") (by decide +kernel) (by decide +kernel) ?_
  | refine repr_lit (y := "'str object'") (by decide +kernel) (by decide +kernel) ?_))
local macro_rules | `(tactic| walk_at "call type:bool") => `(tactic| (k_here; (with_reducible show wpAny _ _ (call _ [Value.ref _]) _ _ _); k_dflt (refine' call_bool_K ?k1 ?k2 ?k3 ?k4 ?_; (case k1 => k_in); (case k2 => k_inst); (case k3 => k_is); (case k4 => k_is); k_whole)))
local macro_rules | `(tactic| walk_at "call type:int") => `(tactic| (k_here; (with_reducible show wpAny _ _ (call _ [Value.ref _]) _ _ _); k_dflt (refine' call_int_K ?k1 ?k2 ?k3 ?k4 ?_; (case k1 => k_in); (case k2 => k_inst); (case k3 => k_is); (case k4 => k_is); k_whole); intro Q'))
local macro_rules | `(tactic| walk_at "binaryOp Sub int ref") => `(tactic| (k_here; k_dflt (refine' rsub_K ?k1 ?k2 ?k3 ?k4 ?k5 ?k6 ?k7 ?k8 ?k9 ?_; (case k1 => k_asm); (case k2 => k_asm); (case k3 => k_inst); (case k4 => exact (News.get (by assumption) (by k_mem))); (case k5 => k_is); (case k6 => k_is); (case k7 => k_is); (case k8 => k_is); (case k9 => k_is); k_whole); intro Q'))
local macro_rules | `(tactic| walk_at "richCompare") => `(tactic| (k_here; k_dflt (refine' cmp_refl ?k1 ?k2 ?k3 ?k4 ?k5 ?k6 ?k7 ?k8 ?k9 ?_; (case k1 => k_units); (case k2 => k_asm); (case k3 => k_asm); (case k4 => k_inst); (case k5 => k_inst); (case k6 => decide); (case k7 => k_is); (case k8 => k_is); (case k9 => k_is); k_whole)))
local macro_rules | `(tactic| walk_at "compareOp Eq ref ref") => `(tactic| (k_here; (refine cmp_ofEq ?_); k_dflt (refine' cmp_refl ?k1 ?k2 ?k3 ?k4 ?k5 ?k6 ?k7 ?k8 ?k9 ?_; (case k1 => k_units); (case k2 => k_asm); (case k3 => k_asm); (case k4 => k_inst); (case k5 => k_inst); (case k6 => decide); (case k7 => k_is); (case k8 => k_is); (case k9 => k_is); k_whole)))
local macro_rules | `(tactic| walk_at "compareOp NotEq ref ref") => `(tactic| (k_here; (refine cmp_ofNotEq ?_); k_dflt (refine' cmp_refl ?k1 ?k2 ?k3 ?k4 ?k5 ?k6 ?k7 ?k8 ?k9 ?_; (case k1 => k_units); (case k2 => k_asm); (case k3 => k_asm); (case k4 => k_inst); (case k5 => k_inst); (case k6 => decide); (case k7 => k_is); (case k8 => k_is); (case k9 => k_is); k_whole)))
local macro_rules | `(tactic| walk_at "compareOp GtE ref ref") => `(tactic| (k_here; (refine cmp_ofGtE ?_); k_dflt (refine' cmp_refl ?k1 ?k2 ?k3 ?k4 ?k5 ?k6 ?k7 ?k8 ?k9 ?_; (case k1 => k_units); (case k2 => k_asm); (case k3 => k_asm); (case k4 => k_inst); (case k5 => k_inst); (case k6 => decide); (case k7 => k_is); (case k8 => k_is); (case k9 => k_is); k_whole)))
local macro_rules | `(tactic| walk_at "pyIter ref") => `(tactic| (k_here; k_dflt (refine' owit_iter ?F ?X ?I ?hs ?hf ?_; (case F => k_asm); (case X => k_asm); (case I => k_inst); (case hs => k_is); (case hf => k_is); k_whole)))
local macro_rules | `(tactic| walk_at "call builtin:iter") => `(tactic| (k_here; k_dflt (refine' iter_tupK ?k1 ?k2 ?k3 ?k4 ?k5 ?_; (case k1 => k_asm); (case k2 => k_asm); (case k3 => k_mem); (case k4 => exact rfl); (case k5 => exact rfl); intro I' h' F' N' l1)))
local macro_rules | `(tactic| walk_at "OwitIt") => `(tactic| (k_dflt (refine' owit_tup ?k1 ?k2 ?_; (case k1 => k_asm); (case k2 => k_mem); k_whole)))
local macro_rules | `(tactic| walk_at "getAttr ref") => `(tactic| (k_here; k_dflt (refine' get_hookK ?k1 ?k2 ?k3 ?k4 ?k5 ?k6 ?k7 ?k8 ?k9 ?_; (case k1 => k_asm); (case k2 => k_asm); (case k3 => k_inst); (case k4 => k_is); (case k5 => k_is); (case k6 => k_is); (case k7 => k_is); (case k8 => decide); (case k9 => exact ⟨by k_is, by k_is⟩); k_whole)))
local macro_rules | `(tactic| walk_at "noteIf") => `(tactic| (k_dflt (refine' noteIf_no ?k1 ?k2 ?k3 ?_; (case k1 => assumption); (case k2 => first | assumption | k_asm); (case k3 => k_is))))
local macro_rules | `(tactic| walk_at "And") => `(tactic| ((with_reducible show handedIn _ = true ∧ _); refine And.intro rfl ?_))

local macro_rules | `(tactic| walk_at "call ref") => `(tactic| (k_here; k_dflt (refine wpAny_call ?_; first
  | (refine' weakenC (fail_K1 _ _ _ _ _ _ _ _ _ _ _ _ _ _ _ _ _ _ _ _ _ _ _ ?k1 ?k2 ?k3 ?k4 _ _ _ ?k5 ?k6 _ _ _ _ _ _ _ _ ?k7 ?k8 ?k9 ?_) rfl rfl rfl rfl rfl; (case k1 => k_asm); (case k2 => k_asm); (case k3 => k_asm); (case k4 => k_asm); (case k6 => assumption); (case k7 => k_asm); (case k8 => k_mem); (case k9 => k_mem); (case k5 => assumption))
  | (refine' weakenC (fail_K0 _ _ _ _ _ _ _ _ _ _ _ _ _ _ _ _ _ _ _ _ _ _ _ ?k1 ?k2 ?k3 ?k4 _ _ _ ?k5 ?k6 _ _ _ _ _ _ _ ?k7 ?k8 ?k9 ?_) rfl rfl rfl rfl rfl; (case k1 => k_asm); (case k2 => k_asm); (case k3 => k_asm); (case k4 => k_asm); (case k6 => assumption); (case k7 => k_asm); (case k8 => k_mem); (case k9 => k_mem); (case k5 => assumption))); intro g' e' t' tok' h' tk' F' U' R'; (try dsimp only)))
local macro_rules | `(tactic| k_enter) => `(tactic| ((first
  | (refine' weakenC (fail_K1 _ _ _ _ _ _ _ _ _ _ _ _ _ _ _ _ _ _ _ _ _ _ _ ?k1 ?k2 ?k3 ?k4 _ _ _ ?k5 ?k6 _ _ _ _ _ _ _ _ ?k7 ?k8 ?k9 ?_) rfl rfl rfl rfl rfl; (case k1 => k_asm); (case k2 => k_asm); (case k3 => k_asm); (case k4 => k_asm); (case k6 => assumption); (case k7 => k_asm); (case k8 => k_mem); (case k9 => k_mem); (case k5 => assumption))
  | (refine' weakenC (fail_K0 _ _ _ _ _ _ _ _ _ _ _ _ _ _ _ _ _ _ _ _ _ _ _ ?k1 ?k2 ?k3 ?k4 _ _ _ ?k5 ?k6 _ _ _ _ _ _ _ ?k7 ?k8 ?k9 ?_) rfl rfl rfl rfl rfl; (case k1 => k_asm); (case k2 => k_asm); (case k3 => k_asm); (case k4 => k_asm); (case k6 => assumption); (case k7 => k_asm); (case k8 => k_mem); (case k9 => k_mem); (case k5 => assumption))); intro g' e' t' tok' h' tk' F' U' R'; (try dsimp only)))

set_option maxHeartbeats 0 in
theorem op_iter2 (w : World) (p : Program) (loose : List Str) (mean : ExcName → Option Value) (mg mb : Str → Option Value)
  (gd : Option (List Code)) (cn : Str) (nms : List (Str × NameKind)) (ig ic : Bool) (mo : List (Str × Const)) (a : Addr) (ccd : Value) (cl : List (Str × Addr)) (outer : List Env) (A₀ : Around) (base h₀ : Heap) (L : Addr) (m : Str → Option Value) (s : Shared) (Q E : Value → Shared → Prop)
  (B : Below A₀ base outer h₀) (F : Fr h₀ L s.heap m) (X : (Mine.hd.heap_39 w.params).In h₀) (T : Top p loose mean mg mb h₀)
  (kn : Kn) (x dx : Addr) (kf : Kd (Mine.hd.heap_39 w.params) kn.cls) (sf : Sd (Mine.hd.heap_39 w.params)) (hi : Bool) (th : Th) (nm : Nm) (t1 t2 t3 : Tok) (rest : List (Addr × Obj))
  (N : News h₀ L s.heap ((x, uo kn.cls dx (.str (hintS hi) t1) (nm.val t2) (th.slot t3)) :: (dx, dictOf [] 0) :: rest))
  (hq : ∀ I D h' tk', kn ≠ .st → (∀ p ∈ ((x, uo kn.cls dx (.str (hintS hi) t1) (nm.val t2) (th.slot t3)) :: (dx, dictOf [] 0) :: rest), p.1 ≠ I) → Fr h₀ L h' m → News h₀ L h' ((I, itO D) :: (D, ({ cls := .type "tuple", data := .seq ([] : List Value).toArray } : Obj)) :: ((x, uo kn.cls dx (.str (hintS hi) t1) (nm.val t2) (th.slot t3)) :: (dx, dictOf [] 0) :: rest)) → Q (.ref I) { s with heap := h', toks := tk' })
  (hE : ∀ g e t vs h' tk', kn = .st → Fr h₀ L g m → g.UpToSlots h' → RaisedS base g (envX cn ⟨.function, nms, ig, ic, mo⟩ L a ccd cl :: outer) e (.ref 67) t vs ((x, uo kn.cls dx (.str (hintS hi) t1) (nm.val t2) (th.slot t3)) :: (dx, dictOf [] 0) :: rest) h' → E (.ref e) { s with heap := h', toks := tk' }) :
  wpAny (model PySem.Challenge.rw_bb0045_01.row.prog w) (PySem.W.ktrTop 370 130 gd cn ⟨.function, nms, ig, ic, mo⟩ L a ccd cl outer) (pyIter (.ref x)) Q E s := by
  walk_say "OP iter2"
  w_on; w_top on
  cases kn <;> (dsimp only [Kn.cls] at kf N hE hq; w_top on; w_strict k_steps; all_goals (first | exact hE _ _ _ _ _ _ rfl (by assumption) (by assumption) (by assumption) | ((rename ∀ p ∈ (_ : List (Addr × Obj)), p.1 < _ => l1); exact hq _ _ _ _ Kn.noConfusion (fun p hp => Nat.ne_of_lt (l1 p (.tail _ hp))) (by assumption) (by assumption))))

end

end B17isec
end Mine
/- the answers, and the contract of _law_done for two objects -/
namespace Mine
section B17sec

inductive Ans where | b (v : Bool) | s (z : Str) | i0 | nil
def Ans.okV : Ans → Value → List (Addr × Obj) → Prop
  | .b v, u, l => u = .bool v ∧ l = []
  | .s z, u, l => (∃ t, u = .str z t) ∧ l = []
  | .i0, u, l => (∃ t, u = .int 0 t) ∧ l = []
  | .nil, u, l => ∃ D c, u = .ref D ∧ l = [(D, listOf #[] c)]
def ansOf (kn : Kn) (n : Int) (txt : Str) (same : Bool) : Ans := match kn with
  | .st => .s "refused"
  | kn => if n = 0 then .b false else if n = 1 then .s txt else if n = 2 then .i0 else if n = 3 then .nil else if n = 4 then .b same else if n = 5 then .b (!same)
    else if n < 18 then .s "refused" else match kn with | .ch => .s "same" | _ => .s "refused"
theorem ans_ref {kn : Kn} {n : Int} {txt : Str} {same : Bool} {tk : Tok} (h : kn = .st ∨ (6 ≤ n ∧ (n < 18 ∨ kn ≠ .ch))) : (ansOf kn n txt same).okV (.str "refused" tk) [] := by
  have e : ansOf kn n txt same = .s "refused" := by
    cases kn with
    | st => rfl
    | _ =>
      rcases h with h | ⟨h6, h⟩
      · cases h
      · unfold ansOf
        dsimp only
        rw [if_neg (by omega), if_neg (by omega), if_neg (by omega), if_neg (by omega), if_neg (by omega), if_neg (by omega)]
        split
        · rfl
        · first
          | rfl
          | (rcases h with h | h
             · contradiction
             · exact absurd rfl h)
  rw [e]; exact ⟨⟨_, rfl⟩, rfl⟩
theorem ans_same {n : Int} {txt : Str} {same : Bool} {tk : Tok} (h : 18 ≤ n) : (ansOf .ch n txt same).okV (.str "same" tk) [] := by
  have e : ansOf .ch n txt same = .s "same" := by
    unfold ansOf
    dsimp only
    rw [if_neg (by omega), if_neg (by omega), if_neg (by omega), if_neg (by omega), if_neg (by omega), if_neg (by omega), if_neg (by omega)]
  rw [e]; exact ⟨⟨_, rfl⟩, rfl⟩
theorem ans_0 {kn : Kn} {txt : Str} {same : Bool} (h : kn ≠ .st) : (ansOf kn 0 txt same).okV (.bool false) [] := by cases kn <;> first | exact absurd rfl h | exact ⟨rfl, rfl⟩
theorem ans_1 {kn : Kn} {txt : Str} {same : Bool} {tk : Tok} (h : kn ≠ .st) : (ansOf kn 1 txt same).okV (.str txt tk) [] := by cases kn <;> first | exact absurd rfl h | exact ⟨⟨_, rfl⟩, rfl⟩
theorem ans_2 {kn : Kn} {txt : Str} {same : Bool} {tk : Tok} (h : kn ≠ .st) : (ansOf kn 2 txt same).okV (.int 0 tk) [] := by cases kn <;> first | exact absurd rfl h | exact ⟨⟨_, rfl⟩, rfl⟩
theorem ans_3 {kn : Kn} {txt : Str} {same : Bool} {D : Addr} {c : Nat} (h : kn ≠ .st) : (ansOf kn 3 txt same).okV (.ref D) [(D, listOf #[] c)] := by cases kn <;> first | exact absurd rfl h | exact ⟨D, c, rfl, rfl⟩
theorem ans_4 {kn : Kn} {txt : Str} {same : Bool} (h : kn ≠ .st) : (ansOf kn 4 txt same).okV (.bool same) [] := by cases kn <;> first | exact absurd rfl h | exact ⟨rfl, rfl⟩
theorem ans_5 {kn : Kn} {txt : Str} {same : Bool} (h : kn ≠ .st) : (ansOf kn 5 txt same).okV (.bool (!same)) [] := by cases kn <;> first | exact absurd rfl h | exact ⟨rfl, rfl⟩
theorem news_nil {h₀ h : Heap} {L : Addr} {l : List (Addr × Obj)} (N : News h₀ L h l) : News h₀ L h ([] ++ l) := N

local macro_rules | `(tactic| walk_at "call ref") => `(tactic| (k_here; k_dflt (refine wpAny_call ?_; first
  | (refine' weakenC (fail_K1 _ _ _ _ _ _ _ _ _ _ _ _ _ _ _ _ _ _ _ _ _ _ _ ?k1 ?k2 ?k3 ?k4 _ _ _ ?k5 ?k6 _ _ _ _ _ _ _ _ ?k7 ?k8 ?k9 ?_) rfl rfl rfl rfl rfl; (case k1 => k_asm); (case k2 => k_asm); (case k3 => k_asm); (case k4 => k_asm); (case k6 => assumption); (case k7 => k_asm); (case k8 => k_mem); (case k9 => k_mem); (case k5 => assumption))
  | (refine' weakenC (fail_K0 _ _ _ _ _ _ _ _ _ _ _ _ _ _ _ _ _ _ _ _ _ _ _ ?k1 ?k2 ?k3 ?k4 _ _ _ ?k5 ?k6 _ _ _ _ _ _ _ ?k7 ?k8 ?k9 ?_) rfl rfl rfl rfl rfl; (case k1 => k_asm); (case k2 => k_asm); (case k3 => k_asm); (case k4 => k_asm); (case k6 => assumption); (case k7 => k_asm); (case k8 => k_mem); (case k9 => k_mem); (case k5 => assumption))); intro g' e' t' tok' h' tk' F' U' R'; (try dsimp only)))
local macro_rules | `(tactic| k_enter) => `(tactic| ((first
  | (refine' weakenC (fail_K1 _ _ _ _ _ _ _ _ _ _ _ _ _ _ _ _ _ _ _ _ _ _ _ ?k1 ?k2 ?k3 ?k4 _ _ _ ?k5 ?k6 _ _ _ _ _ _ _ _ ?k7 ?k8 ?k9 ?_) rfl rfl rfl rfl rfl; (case k1 => k_asm); (case k2 => k_asm); (case k3 => k_asm); (case k4 => k_asm); (case k6 => assumption); (case k7 => k_asm); (case k8 => k_mem); (case k9 => k_mem); (case k5 => assumption))
  | (refine' weakenC (fail_K0 _ _ _ _ _ _ _ _ _ _ _ _ _ _ _ _ _ _ _ _ _ _ _ ?k1 ?k2 ?k3 ?k4 _ _ _ ?k5 ?k6 _ _ _ _ _ _ _ ?k7 ?k8 ?k9 ?_) rfl rfl rfl rfl rfl; (case k1 => k_asm); (case k2 => k_asm); (case k3 => k_asm); (case k4 => k_asm); (case k6 => assumption); (case k7 => k_asm); (case k8 => k_mem); (case k9 => k_mem); (case k5 => assumption))); intro g' e' t' tok' h' tk' F' U' R'; (try dsimp only)))

local macro_rules | `(tactic| walk_at "subscriptTail") => `(tactic| (k_here; (with_reducible show wpAny _ _ (subscriptTail _ _ (Value.ref _) _) _ _ _); k_dflt (refine' sub_K ?k1 ?k2 ?k3 ?k4 ?k5 ?k6 ?_; (case k1 => k_asm); (case k2 => k_asm); (case k3 => k_inst); (case k4 => k_is); (case k5 => k_is); (case k6 => k_is); k_whole)))
local macro_rules | `(tactic| walk_at "execs nil") => `(tactic| refine wpAny_execs_nil ?_)
local macro_rules | `(tactic| walk_at "call type:bool") => `(tactic| (k_here; k_dflt ((refine' weakenW (op_bool _ _ _ _ _ _ _ _ _ _ _ _ _ _ _ _ _ _ _ _ _ _ _ _ ?k1 ?k2 ?k3 ?k4 _ _ _ ?k5 ?k6 _ _ _ _ _ _ _ ?k7 ?_ ?_) rfl rfl rfl rfl rfl; (case k1 => k_asm); (case k2 => k_asm); (case k3 => k_asm); (case k4 => k_asm); (case k7 => k_asm); (case k6 => assumption); (case k5 => first | assumption | exact kdn _ _))); all_goals (intros; (try dsimp only))))
local macro_rules | `(tactic| walk_at "call builtin:len") => `(tactic| (k_here; k_dflt ((refine' weakenW (op_len _ _ _ _ _ _ _ _ _ _ _ _ _ _ _ _ _ _ _ _ _ _ _ _ ?k1 ?k2 ?k3 ?k4 _ _ _ ?k5 ?k6 _ _ _ _ _ _ _ ?k7 ?_ ?_) rfl rfl rfl rfl rfl; (case k1 => k_asm); (case k2 => k_asm); (case k3 => k_asm); (case k4 => k_asm); (case k7 => k_asm); (case k6 => assumption); (case k5 => first | assumption | exact kdn _ _))); all_goals (intros; (try dsimp only))))
local macro_rules | `(tactic| walk_at "pyIter ref") => `(tactic| (k_here; k_dflt ((refine' weakenW (op_iter2 _ _ _ _ _ _ _ _ _ _ _ _ _ _ _ _ _ _ _ _ _ _ _ _ ?k1 ?k2 ?k3 ?k4 _ _ _ ?k5 ?k6 _ _ _ _ _ _ _ ?k7 ?_ ?_) rfl rfl rfl rfl rfl; (case k1 => k_asm); (case k2 => k_asm); (case k3 => k_asm); (case k4 => k_asm); (case k7 => k_asm); (case k6 => assumption); (case k5 => first | assumption | exact kdn _ _))); all_goals (intros; (try dsimp only))))
local macro_rules | `(tactic| walk_at "binaryOp Add ref") => `(tactic| (k_here; k_dflt ((refine' weakenW (op_add _ _ _ _ _ _ _ _ _ _ _ _ _ _ _ _ _ _ _ _ _ _ _ _ ?k1 ?k2 ?k3 ?k4 _ _ _ ?k5 ?k6 _ _ _ _ _ _ _ _ ?k7 ?_) rfl rfl rfl rfl rfl; (case k1 => k_asm); (case k2 => k_asm); (case k3 => k_asm); (case k4 => k_asm); (case k7 => k_asm); (case k6 => assumption); (case k5 => first | assumption | exact kdn _ _))); all_goals (intros; (try dsimp only))))
local macro_rules | `(tactic| walk_at "binaryOp Sub int ref") => `(tactic| (k_here; k_dflt ((refine' weakenW (op_rsub _ _ _ _ _ _ _ _ _ _ _ _ _ _ _ _ _ _ _ _ _ _ _ _ ?k1 ?k2 ?k3 ?k4 _ _ _ ?k5 ?k6 _ _ _ _ _ _ _ _ ?k7 ?_) rfl rfl rfl rfl rfl; (case k1 => k_asm); (case k2 => k_asm); (case k3 => k_asm); (case k4 => k_asm); (case k7 => k_asm); (case k6 => assumption); (case k5 => first | assumption | exact kdn _ _))); all_goals (intros; (try dsimp only))))
local macro_rules | `(tactic| walk_at "binaryOp Mult ref") => `(tactic| (k_here; k_dflt ((refine' weakenW (op_mul _ _ _ _ _ _ _ _ _ _ _ _ _ _ _ _ _ _ _ _ _ _ _ _ ?k1 ?k2 ?k3 ?k4 _ _ _ ?k5 ?k6 _ _ _ _ _ _ _ _ ?k7 ?_) rfl rfl rfl rfl rfl; (case k1 => k_asm); (case k2 => k_asm); (case k3 => k_asm); (case k4 => k_asm); (case k7 => k_asm); (case k6 => assumption); (case k5 => first | assumption | exact kdn _ _))); all_goals (intros; (try dsimp only))))
local macro_rules | `(tactic| walk_at "binaryOp FloorDiv ref") => `(tactic| (k_here; k_dflt ((refine' weakenW (op_fdiv _ _ _ _ _ _ _ _ _ _ _ _ _ _ _ _ _ _ _ _ _ _ _ _ ?k1 ?k2 ?k3 ?k4 _ _ _ ?k5 ?k6 _ _ _ _ _ _ _ _ ?k7 ?_) rfl rfl rfl rfl rfl; (case k1 => k_asm); (case k2 => k_asm); (case k3 => k_asm); (case k4 => k_asm); (case k7 => k_asm); (case k6 => assumption); (case k5 => first | assumption | exact kdn _ _))); all_goals (intros; (try dsimp only))))
local macro_rules | `(tactic| walk_at "binaryOp Mod ref") => `(tactic| (k_here; k_dflt ((refine' weakenW (op_mod _ _ _ _ _ _ _ _ _ _ _ _ _ _ _ _ _ _ _ _ _ _ _ _ ?k1 ?k2 ?k3 ?k4 _ _ _ ?k5 ?k6 _ _ _ _ _ _ _ _ ?k7 ?_) rfl rfl rfl rfl rfl; (case k1 => k_asm); (case k2 => k_asm); (case k3 => k_asm); (case k4 => k_asm); (case k7 => k_asm); (case k6 => assumption); (case k5 => first | assumption | exact kdn _ _))); all_goals (intros; (try dsimp only))))
local macro_rules | `(tactic| walk_at "binaryOp Pow ref") => `(tactic| (k_here; k_dflt ((refine' weakenW (op_pow _ _ _ _ _ _ _ _ _ _ _ _ _ _ _ _ _ _ _ _ _ _ _ _ ?k1 ?k2 ?k3 ?k4 _ _ _ ?k5 ?k6 _ _ _ _ _ _ _ _ ?k7 ?_) rfl rfl rfl rfl rfl; (case k1 => k_asm); (case k2 => k_asm); (case k3 => k_asm); (case k4 => k_asm); (case k7 => k_asm); (case k6 => assumption); (case k5 => first | assumption | exact kdn _ _))); all_goals (intros; (try dsimp only))))
local macro_rules | `(tactic| walk_at "compareOp LtE ref") => `(tactic| (k_here; k_dflt ((refine' weakenW (op_le _ _ _ _ _ _ _ _ _ _ _ _ _ _ _ _ _ _ _ _ _ _ _ _ ?k1 ?k2 ?k3 ?k4 _ _ _ ?k5 ?k6 _ _ _ _ _ _ _ _ ?k7 ?_) rfl rfl rfl rfl rfl; (case k1 => k_asm); (case k2 => k_asm); (case k3 => k_asm); (case k4 => k_asm); (case k7 => k_asm); (case k6 => assumption); (case k5 => first | assumption | exact kdn _ _))); all_goals (intros; (try dsimp only))))
local macro_rules | `(tactic| walk_at "compareOp Lt ref") => `(tactic| (k_here; k_dflt ((refine' weakenW (op_lt _ _ _ _ _ _ _ _ _ _ _ _ _ _ _ _ _ _ _ _ _ _ _ _ ?k1 ?k2 ?k3 ?k4 _ _ _ ?k5 ?k6 _ _ _ _ _ _ _ _ ?k7 ?_) rfl rfl rfl rfl rfl; (case k1 => k_asm); (case k2 => k_asm); (case k3 => k_asm); (case k4 => k_asm); (case k7 => k_asm); (case k6 => assumption); (case k5 => first | assumption | exact kdn _ _))); all_goals (intros; (try dsimp only))))
local macro_rules | `(tactic| walk_at "unaryOp USub") => `(tactic| (k_here; k_dflt ((refine' weakenW (op_neg _ _ _ _ _ _ _ _ _ _ _ _ _ _ _ _ _ _ _ _ _ _ _ _ ?k1 ?k2 ?k3 ?k4 _ _ _ ?k5 ?k6 _ _ _ _ _ _ _ ?k7 ?_) rfl rfl rfl rfl rfl; (case k1 => k_asm); (case k2 => k_asm); (case k3 => k_asm); (case k4 => k_asm); (case k7 => k_asm); (case k6 => assumption); (case k5 => first | assumption | exact kdn _ _))); all_goals (intros; (try dsimp only))))
local macro_rules | `(tactic| walk_at "call type:int") => `(tactic| (k_here; k_dflt ((refine' weakenW (op_int _ _ _ _ _ _ _ _ _ _ _ _ _ _ _ _ _ _ _ _ _ _ _ _ ?k1 ?k2 ?k3 ?k4 _ _ _ ?k5 ?k6 _ _ _ _ _ _ _ ?k7 ?_) rfl rfl rfl rfl rfl; (case k1 => k_asm); (case k2 => k_asm); (case k3 => k_asm); (case k4 => k_asm); (case k7 => k_asm); (case k6 => assumption); (case k5 => first | assumption | exact kdn _ _))); all_goals (intros; (try dsimp only))))
local macro_rules | `(tactic| walk_at "call type:str") => `(tactic| (k_here; k_dflt ((refine' weakenW (op_str _ _ _ _ _ _ _ _ _ _ _ _ _ _ _ _ _ _ _ _ _ _ _ _ ?k1 ?k2 ?k3 ?k4 _ _ _ ?k5 ?k6 _ _ _ _ _ _ _ ?kz ?k7 ?_ ?_) rfl rfl rfl rfl rfl; (case k1 => k_asm); (case k2 => k_asm); (case k3 => k_asm); (case k4 => k_asm); (case k7 => k_asm); (case kz => assumption); (case k6 => assumption); (case k5 => assumption))); all_goals (intros; (try dsimp only))))
local macro_rules | `(tactic| walk_at "compareOp Eq ref ref") => `(tactic| (k_here; k_dflt ((refine' weakenW (op_eq _ _ _ _ _ _ _ _ _ _ _ _ _ _ _ _ _ _ _ _ _ _ _ _ ?k1 ?k2 ?k3 ?k4 _ _ _ ?k5 ?k6 _ _ _ _ _ _ _ _ _ ?k8 _ _ _ ?k9 _ ?k7 ?_ ?_) rfl rfl rfl rfl rfl; (case k1 => k_asm); (case k2 => k_asm); (case k3 => k_asm); (case k4 => k_asm); (case k7 => k_asm); (case k9 => assumption); (case k6 => assumption); (case k5 => assumption); (case k8 => assumption))); all_goals (intros; (try dsimp only))))
local macro_rules | `(tactic| walk_at "compareOp NotEq ref ref") => `(tactic| (k_here; k_dflt ((refine' weakenW (op_ne _ _ _ _ _ _ _ _ _ _ _ _ _ _ _ _ _ _ _ _ _ _ _ _ ?k1 ?k2 ?k3 ?k4 _ _ _ ?k5 ?k6 _ _ _ _ _ _ _ _ _ ?k8 _ _ _ ?k9 _ ?k7 ?_ ?_) rfl rfl rfl rfl rfl; (case k1 => k_asm); (case k2 => k_asm); (case k3 => k_asm); (case k4 => k_asm); (case k7 => k_asm); (case k9 => assumption); (case k6 => assumption); (case k5 => assumption); (case k8 => assumption))); all_goals (intros; (try dsimp only))))
local macro_rules | `(tactic| walk_at "compareOp GtE ref ref") => `(tactic| (k_here; k_dflt ((refine' weakenW (op_ge _ _ _ _ _ _ _ _ _ _ _ _ _ _ _ _ _ _ _ _ _ _ _ _ ?k1 ?k2 ?k3 ?k4 _ _ _ ?k5 ?k6 _ _ _ _ _ _ _ _ _ ?k8 _ _ _ ?k9 _ ?k7 ?_) rfl rfl rfl rfl rfl; (case k1 => k_asm); (case k2 => k_asm); (case k3 => k_asm); (case k4 => k_asm); (case k7 => k_asm); (case k9 => assumption); (case k6 => assumption); (case k5 => assumption); (case k8 => assumption))); all_goals (intros; (try dsimp only))))
local macro_rules | `(tactic| walk_at "getAttr ref") => `(tactic| (k_here; (with_reducible show wpAny _ _ (getAttr _ ("parts" : Str) _) _ _ _); k_dflt ((refine' weakenW (op_attr_parts _ _ _ _ _ _ _ _ _ _ _ _ _ _ _ _ _ _ _ _ _ _ _ _ ?xb ?k1 ?k2 ?k3 ?k4 _ _ _ ?k5 ?k6 _ _ _ _ _ _ _ ?k7 ?_ ?_) rfl rfl rfl rfl rfl; (case k1 => k_asm); (case k2 => k_asm); (case k3 => k_asm); (case k4 => k_asm); (case k7 => k_asm); (case k6 => assumption); (case k5 => first | assumption | exact kdn _ _); (case xb => assumption))); all_goals (intros; (try dsimp only))))
local macro_rules | `(tactic| walk_at "getAttr ref") => `(tactic| (k_here; (with_reducible show wpAny _ _ (getAttr _ ("first" : Str) _) _ _ _); k_dflt ((refine' weakenW (op_attr_first _ _ _ _ _ _ _ _ _ _ _ _ _ _ _ _ _ _ _ _ _ _ _ _ ?xb ?k1 ?k2 ?k3 ?k4 _ _ _ ?k5 ?k6 _ _ _ _ _ _ _ ?k7 ?_ ?_) rfl rfl rfl rfl rfl; (case k1 => k_asm); (case k2 => k_asm); (case k3 => k_asm); (case k4 => k_asm); (case k7 => k_asm); (case k6 => assumption); (case k5 => first | assumption | exact kdn _ _); (case xb => assumption))); all_goals (intros; (try dsimp only))))
local macro_rules | `(tactic| walk_at "getAttr ref") => `(tactic| (k_here; (with_reducible show wpAny _ _ (getAttr _ ("second" : Str) _) _ _ _); k_dflt ((refine' weakenW (op_attr_second _ _ _ _ _ _ _ _ _ _ _ _ _ _ _ _ _ _ _ _ _ _ _ _ ?xb ?k1 ?k2 ?k3 ?k4 _ _ _ ?k5 ?k6 _ _ _ _ _ _ _ ?k7 ?_ ?_) rfl rfl rfl rfl rfl; (case k1 => k_asm); (case k2 => k_asm); (case k3 => k_asm); (case k4 => k_asm); (case k7 => k_asm); (case k6 => assumption); (case k5 => first | assumption | exact kdn _ _); (case xb => assumption))); all_goals (intros; (try dsimp only))))
local macro_rules | `(tactic| walk_at "call ref") => `(tactic| (k_here; k_dflt (first | (refine' weakenW (op_call _ _ _ _ _ _ _ _ _ _ _ _ _ _ _ _ _ _ _ _ _ _ _ _ ?k1 ?k2 ?k3 ?k4 .pl _ _ ?k5 ?k6 _ _ _ _ _ _ _ _ ?k7 ?_) rfl rfl rfl rfl rfl; (case k1 => k_asm); (case k2 => k_asm); (case k3 => k_asm); (case k4 => k_asm); (case k7 => k_asm); (case k6 => assumption); (case k5 => first | assumption | exact kdn _ _)) | (refine' weakenW (op_call _ _ _ _ _ _ _ _ _ _ _ _ _ _ _ _ _ _ _ _ _ _ _ _ ?k1 ?k2 ?k3 ?k4 .ch _ _ ?k5 ?k6 _ _ _ _ _ _ _ _ ?k7 ?_) rfl rfl rfl rfl rfl; (case k1 => k_asm); (case k2 => k_asm); (case k3 => k_asm); (case k4 => k_asm); (case k7 => k_asm); (case k6 => assumption); (case k5 => first | assumption | exact kdn _ _)) | (refine' weakenW (op_call _ _ _ _ _ _ _ _ _ _ _ _ _ _ _ _ _ _ _ _ _ _ _ _ ?k1 ?k2 ?k3 ?k4 .db _ _ ?k5 ?k6 _ _ _ _ _ _ _ _ ?k7 ?_) rfl rfl rfl rfl rfl; (case k1 => k_asm); (case k2 => k_asm); (case k3 => k_asm); (case k4 => k_asm); (case k7 => k_asm); (case k6 => assumption); (case k5 => first | assumption | exact kdn _ _)) | (refine' weakenW (op_call _ _ _ _ _ _ _ _ _ _ _ _ _ _ _ _ _ _ _ _ _ _ _ _ ?k1 ?k2 ?k3 ?k4 .st _ _ ?k5 ?k6 _ _ _ _ _ _ _ _ ?k7 ?_) rfl rfl rfl rfl rfl; (case k1 => k_asm); (case k2 => k_asm); (case k3 => k_asm); (case k4 => k_asm); (case k7 => k_asm); (case k6 => assumption); (case k5 => first | assumption | exact kdn _ _))); all_goals (intros; (try dsimp only))))
local macro_rules | `(tactic| walk_at "call ref") => `(tactic| (k_here; k_dflt (refine wpAny_call ?_; (refine' weakenC (same_call _ _ _ _ _ _ _ _ _ _ _ _ _ _ _ _ _ _ _ _ _ _ _ ?k1 ?k2 ?k3 ?k4 _ ?kz _ _ ?k5 ?k6 _ _ _ _ _ _ _ ?k7 ?_) rfl rfl rfl rfl rfl; (case k1 => k_asm); (case k2 => k_asm); (case k3 => k_asm); (case k4 => k_asm); (case k7 => k_asm); (case kz => first | exact Kn.noConfusion | ((rename _ = Kn.ch => ez); exact fun z => Kn.noConfusion (ez.symm.trans z))); (case k6 => assumption); (case k5 => assumption))); intro u' t' h' tk' e' F' N'; (try dsimp only)))
local macro_rules | `(tactic| walk_at "CompPost") => `(tactic| (k_dflt (refine' comp0 ?hh ?F ?N ?I ?T rfl rfl ?hs ?_; (case hh => exact rfl); (case F => k_asm); (case N => k_asm); (case I => k_mem); (case T => k_mem); (case hs => exact fun q hq => ⟨.tail _ (.tail _ hq), (by assumption : ∀ p ∈ _, p.1 ≠ _) q hq⟩)); intro D' h' tk' c' F' N'))
set_option maxHeartbeats 0 in
theorem done_sym (w : World) (p : Program) (loose : List Str) (mean : ExcName → Option Value) (mg mb : Str → Option Value)
  (gd : Option (List Code)) (cn : Str) (nms : List (Str × NameKind)) (ig ic : Bool) (mo : List (Str × Const)) (a : Addr) (ccd : Value) (A₀ : Around) (h₀ : Heap) (L : Addr) (m : Str → Option Value) (s : Shared) (R : Result → Shared → Prop)
  (B : Below A₀ h₀ [] h₀) (F : Fr h₀ L s.heap m) (X : (Mine.hd.heap_39 w.params).In h₀) (T : Top p loose mean mg mb h₀)
  (kn : Kn) (x dx : Addr) (kf : Kd (Mine.hd.heap_39 w.params) kn.cls) (sf : Sd (Mine.hd.heap_39 w.params)) (hi : Bool) (th : Th) (nm : Nm) (hnm : nm ≠ .els) (t1 t2 t3 : Tok)
  (kn' : Kn) (y dy : Addr) (kf' : Kd (Mine.hd.heap_39 w.params) kn'.cls) (t4 t5 t6 : Tok) (hk : kn ≠ .st → kn' ≠ .st) (rest : List (Addr × Obj)) (n : Int) (hn0 : 0 ≤ n) (hn1 : n < 21) (tn : Tok)
  (N : News h₀ L s.heap ((x, uo kn.cls dx (.str (hintS hi) t1) (nm.val t2) (th.slot t3)) :: (dx, dictOf [] 0) :: (y, uo kn'.cls dy (.str (hintS false) t4) (Nm.els.val t5) (Th.no.slot t6)) :: (dy, dictOf [] 0) :: rest))
  (hret : ∀ u n₂ h' tk', (ansOf kn n (txtS kn hi th nm) (kn.eqb kn')).okV u n₂ → Fr h₀ L h' m → News h₀ L h' (n₂ ++ ((x, uo kn.cls dx (.str (hintS hi) t1) (nm.val t2) (th.slot t3)) :: (dx, dictOf [] 0) :: (y, uo kn'.cls dy (.str (hintS false) t4) (Nm.els.val t5) (Th.no.slot t6)) :: (dy, dictOf [] 0) :: rest)) → R (.ok (.ret u)) { s with heap := h', toks := tk' }) :
  codeAny (model PySem.Challenge.rw_bb0045_01.row.prog w) (PySem.W.ktrTop 350 100 gd cn ⟨.function, nms, ig, ic, mo⟩ L a ccd [] [])
    (.call (.ref 313) ⟨[.ref x, .int n tn, .ref y], []⟩) R s := by
  w_on; w_top on
  w_strict (k_dflt k_enter; k_steps)
  all_goals (try (first
    | (refine hret _ [] _ _ (ans_ref ?_) (by assumption) (news_nil (by assumption)); first | exact .inl (by assumption) | exact .inr ⟨by omega, .inl (by omega)⟩)
    | (subst n; refine hret _ [] _ _ (ans_0 (by assumption)) (by assumption) (news_nil (by assumption)))
    | (subst n; (rename _ = txtS _ _ _ _ => eu); subst eu; refine hret _ [] _ _ (ans_1 (by assumption)) (by assumption) (news_nil (by assumption)))
    | (subst n; refine hret _ [] _ _ (ans_2 (by assumption)) (by assumption) (news_nil (by assumption)))
    | (subst n; refine hret _ [] _ _ (ans_4 (by assumption)) (by assumption) (news_nil (by assumption)))
    | (subst n; refine hret _ [] _ _ (ans_5 (by assumption)) (by assumption) (news_nil (by assumption)))
    | ((rename ∀ p ∈ (_ : List (Addr × Obj)), p.1 ≠ _ => hI); refine comp0 rfl (by assumption) (by assumption) (List.Mem.head _) (List.Mem.tail _ (List.Mem.head _)) rfl rfl (fun q hq => ⟨List.Mem.tail _ (List.Mem.tail _ hq), hI q hq⟩) ?_; intro D' h' tk' c' F' N')))
  all_goals (try (w_strict k_steps))
  all_goals (try (subst n; refine hret _ [_] _ _ (ans_3 (by assumption)) (by assumption) (by assumption)))
  walk_say "LEAVES"
  all_goals (cases kn <;> first | contradiction | (w_top on; w_strict k_steps))
  all_goals (try (exact (envOf cn ⟨.function, nms, ig, ic, mo⟩ L a ccd)))
  all_goals (first
    | contradiction
    | (refine hret _ [] _ _ (ans_ref ?_) (by assumption) (news_nil (by assumption)); first | exact .inl (by assumption) | exact .inl rfl | exact .inr ⟨by omega, .inl (by omega)⟩ | exact .inr ⟨by omega, .inr (by assumption)⟩ | exact .inr ⟨by omega, .inr Kn.noConfusion⟩)
    | ((rename _ = ("same" : Str) => eu); subst eu; refine hret _ [] _ _ (ans_same (by omega)) (by assumption) (news_nil (by assumption)))
    | skip)


end B17sec
end Mine
/- _law_take -/
namespace Mine
section C1sec
section
variable {prog : Program} {w : World} {A : Around} {E : Value → Shared → Prop} {s : Shared} {h₀ h : Heap} {L D : Addr} {m : Str → Option Value} {news news' : List (Addr × Obj)} {n : Nat}
theorem pop0 {u : Tok} {q : List Value} {y : Value} {Q : Value → Shared → Prop} (F : Fr h₀ L s.heap m) (N : News h₀ L s.heap news)
    (U : Upd D (listOf (y :: q).toArray n) (listOf q.toArray (n + 1)) news news')
    (hz : q.length < 8) (h : ∀ h', Fr h₀ L h' m → News h₀ L h' news' → Q y { s with heap := h' }) : wpAny (model prog w) A (call (.builtin "list.pop") [.ref D, .int 0 u]) Q E s := by
  have hs : (y :: q).toArray.size = q.length + 1 := by simp
  refine kl_popAt (p := []) (q := q) (y := y) (k := 0) F N (by decide) ?_ rfl U ?_ h
  · rw [hs]; unfold seqIndex?; simp
  · have : (8 : Nat) ≤ sizeLine := by decide +kernel
    simp; omega
theorem set0 {t : Tok} {v x y : Value} {Q : Unit → Shared → Prop} (F : Fr h₀ L s.heap m) (N : News h₀ L s.heap news) (U : Upd D (listOf #[x, y] n) (listOf #[v, y] n) news news')
    (h : ∀ h', Fr h₀ L h' m → News h₀ L h' news' → Q () { s with heap := h' }) : wpAny (model prog w) A (setItem (.ref D) (.int 0 t) v) Q E s := ki_set F N (by decide) (by decide) rfl U h
end
local macro_rules | `(tactic| walk_at "setItem ref int") => `(tactic| (k_here; k_dflt (refine' set0 ?F ?N ?U ?_; (case F => k_asm); (case N => k_asm); (case U => k_upd)); intro h' F' N'; (try dsimp only [List.nil_append, List.cons_append] at N')))
local macro_rules | `(tactic| walk_at "call builtin:list.pop") => `(tactic| (k_here; k_dflt (refine' pop0 ?F ?N ?U ?z ?_; (case F => k_asm); (case N => k_asm); (case U => k_upd); (case z => assumption)); intro h' F' N'; (try dsimp only [List.nil_append, List.cons_append] at N')))
local macro_rules | `(tactic| k_all) => `(tactic| assumption)
def InR (ns : List Int) : Prop := ∀ v ∈ ns, 0 ≤ v ∧ v < 10 ^ 15
theorem fm {n k : Int} (h0 : 0 ≤ n) (h1 : n < 10 ^ 15) (hk : 0 < k) : 0 ≤ n.fmod k ∧ n.fmod k < k ∧ 0 ≤ n.fdiv k ∧ n.fdiv k < 10 ^ 15 := by
  have a := Int.emod_nonneg n (Int.ne_of_gt hk)
  have b := Int.emod_lt_of_pos n hk
  have c := Int.ediv_nonneg h0 (Int.le_of_lt hk)
  have d := Int.ediv_le_self k h0
  rw [Int.fmod_eq_emod_of_nonneg n (Int.le_of_lt hk), Int.fdiv_eq_ediv_of_nonneg n (Int.le_of_lt hk)]
  omega
theorem news_tail {h₀ h : Heap} {L : Addr} {p : Addr × Obj} {l : List (Addr × Obj)} (N : News h₀ L h (p :: l)) : News h₀ L h l := fun q hq => N q (.tail _ hq)
set_option maxHeartbeats 0 in
theorem take_call (w : World) (p : Program) (loose : List Str) (mean : ExcName → Option Value) (mg mb : Str → Option Value)
  (gd : Option (List Code)) (cn : Str) (nms : List (Str × NameKind)) (ig ic : Bool) (mo : List (Str × Const)) (a : Addr) (ccd : Value) (cl : List (Str × Addr)) (outer : List Env) (A₀ : Around) (base h₀ : Heap) (L : Addr) (m : Str → Option Value) (s : Shared) (R : Result → Shared → Prop)
  (B : Below A₀ base outer h₀) (F : Fr h₀ L s.heap m) (X : (Mine.hd.heap_39 w.params).In h₀) (T : Top p loose mean mg mb h₀)
  (dr D : Addr) (n : Int) (tn : Tok) (c1 c2 : Nat) (vs : List Value) (ns : List Int) (hv : IntsAre vs ns) (hr : InR ns) (h0 : 0 ≤ n) (h1 : n < 10 ^ 15)
  (k : Int) (tk : Tok) (hk : 0 < k) (hk2 : k ≤ 21) (rest : List (Addr × Obj)) (hlen : vs.length ≤ 8) (hdD : @Ne Nat dr D) (hrd : ∀ p ∈ rest, p.1 ≠ dr) (hrD : ∀ p ∈ rest, p.1 ≠ D)
  (N : News h₀ L s.heap ((dr, listOf #[.int n tn, .ref D] c1) :: (D, listOf vs.toArray c2) :: rest))
  (hret : ∀ i t n' tn' c1' c2' vs' ns' h' tk', 0 ≤ i → i < k → IntsAre vs' ns' → InR ns' → vs'.length ≤ 8 → 0 ≤ n' → n' < 10 ^ 15 → Fr h₀ L h' m → News h₀ L h' ((dr, listOf #[.int n' tn', .ref D] c1') :: (D, listOf (List.toArray vs') c2') :: rest) → R (.ok (.ret (.int i t))) { s with heap := h', toks := tk' }) :
  codeAny (model PySem.Challenge.rw_bb0045_01.row.prog w) (PySem.W.ktrTop 350 100 gd cn ⟨.function, nms, ig, ic, mo⟩ L a ccd cl outer)
    (.call (.ref 273) ⟨[.ref dr, .int k tk], []⟩) R s := by
  w_on; w_top on
  cases hv with
  | nil =>
    w_top on
    w_strict (k_dflt k_enter; k_steps)
    all_goals (obtain ⟨e1, e2, e3, e4⟩ := fm h0 h1 hk; refine' hret _ _ _ _ _ _ _ _ _ _ e1 e2 ?iv ?ir ?hl e3 e4 (by assumption) ?N; (case N => first | assumption | exact news_tail (by assumption)); (case iv => exact IntsAre.nil); (case ir => exact hr); (case hl => exact hlen))
  | cons kk t hv' =>
    rename_i vs ns
    have hl : vs.length < 8 := by simp at hlen; omega
    obtain ⟨g0, g1⟩ := hr kk (List.Mem.head _)
    have hr' : InR ns := fun v hv => hr v (List.Mem.tail _ hv)
    w_top on
    w_strict (k_dflt k_enter; k_steps)
    all_goals (first
      | (obtain ⟨e1, e2, e3, e4⟩ := fm h0 h1 hk; refine' hret _ _ _ _ _ _ _ _ _ _ e1 e2 ?iv ?ir ?hl e3 e4 (by assumption) ?N; (case N => first | assumption | exact news_tail (by assumption)); (case iv => exact IntsAre.cons _ _ hv'); (case ir => exact hr); (case hl => exact hlen))
      | (obtain ⟨e1, e2, e3, e4⟩ := fm g0 g1 hk; refine' hret _ _ _ _ _ _ _ _ _ _ e1 e2 ?iv ?ir ?hl e3 e4 (by assumption) ?N; (case N => first | assumption | exact news_tail (by assumption)); (case iv => exact hv'); (case ir => exact hr'); (case hl => omega)))

end C1sec
end Mine
/- _law_made -/
namespace Mine
section C2sec
def Th.arg (t : Tok) : Th → Value
  | .no => .none
  | .num => .int 7 t
  | .txt => .str "text" t
theorem all_ne {l : List (Addr × Obj)} {d : Addr} (h : ∀ p ∈ l, p.1 < d) : ∀ p ∈ l, p.1 ≠ d := fun p hp => Nat.ne_of_lt (h p hp)
theorem all_ne2 {l : List (Addr × Obj)} {d x : Addr} (h : ∀ p ∈ l, p.1 < d) (h2 : @LT.lt Nat _ d x) : ∀ p ∈ l, p.1 ≠ x := fun p hp => Nat.ne_of_lt (Nat.lt_trans (h p hp) h2)
local macro_rules | `(tactic| k_all) => `(tactic| first | exact all_ne (by assumption) | exact all_ne2 (by assumption) (by assumption))
set_option maxHeartbeats 0 in
theorem made_call (w : World) (p : Program) (loose : List Str) (mean : ExcName → Option Value) (mg mb : Str → Option Value)
  (gd : Option (List Code)) (cn : Str) (nms : List (Str × NameKind)) (ig ic : Bool) (mo : List (Str × Const)) (a : Addr) (ccd : Value) (cl : List (Str × Addr)) (outer : List Env) (A₀ : Around) (base h₀ : Heap) (L : Addr) (m : Str → Option Value) (s : Shared) (R : Result → Shared → Prop)
  (B : Below A₀ base outer h₀) (F : Fr h₀ L s.heap m) (X : (Mine.hd.heap_39 w.params).In h₀) (T : Top p loose mean mg mb h₀)
  (kn : Kn) (th : Th) (hv nv : Value) (hh : handedIn hv = true) (hn : handedIn nv = true) (tk t3 : Tok) (news : List (Addr × Obj))
  (N : News h₀ L s.heap news)
  (hret : ∀ x dx t3' h' tk', (∀ p ∈ news, p.1 < dx) → @LT.lt Nat _ dx x → Fr h₀ L h' m → News h₀ L h' ((x, uo kn.cls dx hv nv (th.slot t3')) :: (dx, dictOf [] 0) :: news) → R (.ok (.ret (.ref x))) { s with heap := h', toks := tk' }) :
  codeAny (model PySem.Challenge.rw_bb0045_01.row.prog w) (PySem.W.ktrTop 350 100 gd cn ⟨.function, nms, ig, ic, mo⟩ L a ccd cl outer)
    (.call (.ref 280) ⟨[.int kn.num tk, hv, th.arg t3, nv], []⟩) R s := by
  w_on; w_top on
  cases kn <;> cases th
  all_goals (dsimp only [Kn.num, Kn.cls, Th.arg, Th.slot] at hret ⊢; w_top on; w_strict (k_dflt k_enter; k_steps))
  all_goals ((rename ∀ p ∈ (_ : List (Addr × Obj)), p.1 < _ => l1); (rename @LT.lt Nat _ _ _ => l2); refine' hret _ _ _ _ _ l1 l2 (by assumption) (by assumption))
  all_goals exact t3

end C2sec
end Mine
/- _law_message -/
namespace Mine
section C3sec
set_option maxHeartbeats 0 in
theorem lmsg_call (w : World) (p : Program) (loose : List Str) (mean : ExcName → Option Value) (mg mb : Str → Option Value)
  (gd : Option (List Code)) (cn : Str) (nms : List (Str × NameKind)) (ig ic : Bool) (mo : List (Str × Const)) (a : Addr) (ccd : Value) (cl : List (Str × Addr)) (outer : List Env) (A₀ : Around) (base h₀ : Heap) (L : Addr) (m : Str → Option Value) (s : Shared) (R : Result → Shared → Prop)
  (B : Below A₀ base outer h₀) (F : Fr h₀ L s.heap m) (X : (Mine.hd.heap_39 w.params).In h₀) (T : Top p loose mean mg mb h₀)
  (hi : Bool) (th : Th) (nm : Nm) (hnm : nm ≠ .els) (t1 t2 t3 : Tok) (news : List (Addr × Obj)) (N : News h₀ L s.heap news)
  (hret : ∀ u t h' tk', u = msgS hi th nm → Fr h₀ L h' m → News h₀ L h' news → R (.ok (.ret (.str u t))) { s with heap := h', toks := tk' }) :
  codeAny (model PySem.Challenge.rw_bb0045_01.row.prog w) (PySem.W.ktrTop 350 100 gd cn ⟨.function, nms, ig, ic, mo⟩ L a ccd cl outer)
    (.call (.ref 294) ⟨[.str (hintS hi) t1, th.arg t3, nm.val t2], []⟩) R s := by
  w_on; w_top on
  cases hi with
  | true =>
    generalize nm.val t2 = vn
    generalize th.arg t3 = vo
    dsimp only [hintS] at hret ⊢
    w_top on
    w_strict (k_dflt k_enter; k_steps)
    all_goals exact hret _ _ _ _ rfl (by assumption) (by assumption)
  | false =>
    cases th <;> cases nm <;> first | exact absurd rfl hnm | (dsimp only [hintS, Nm.val, Th.arg] at hret ⊢; w_top on; w_strict (k_dflt k_enter; k_steps); all_goals exact hret _ _ _ _ (by decide +kernel) (by assumption) (by assumption))

end C3sec
end Mine
/- _law_text -/
namespace Mine
section C4sec
set_option maxHeartbeats 0 in
theorem ltext_call (w : World) (p : Program) (loose : List Str) (mean : ExcName → Option Value) (mg mb : Str → Option Value)
  (gd : Option (List Code)) (cn : Str) (nms : List (Str × NameKind)) (ig ic : Bool) (mo : List (Str × Const)) (a : Addr) (ccd : Value) (cl : List (Str × Addr)) (outer : List Env) (A₀ : Around) (base h₀ : Heap) (L : Addr) (m : Str → Option Value) (s : Shared) (R : Result → Shared → Prop)
  (B : Below A₀ base outer h₀) (F : Fr h₀ L s.heap m) (X : (Mine.hd.heap_39 w.params).In h₀) (T : Top p loose mean mg mb h₀)
  (kn : Kn) (hi : Bool) (th : Th) (nm : Nm) (hnm : nm ≠ .els) (tk t1 t2 t3 : Tok) (news : List (Addr × Obj)) (N : News h₀ L s.heap news)
  (hret : ∀ u t h' tk', u = txtS kn hi th nm → Fr h₀ L h' m → News h₀ L h' news → R (.ok (.ret (.str u t))) { s with heap := h', toks := tk' }) :
  codeAny (model PySem.Challenge.rw_bb0045_01.row.prog w) (PySem.W.ktrTop 350 100 gd cn ⟨.function, nms, ig, ic, mo⟩ L a ccd cl outer)
    (.call (.ref 301) ⟨[.int kn.num tk, .str (hintS hi) t1, th.arg t3, nm.val t2], []⟩) R s := by
  w_on; w_top on
  by_cases hk : kn = .db
  · subst hk
    cases hi with
    | true =>
      generalize nm.val t2 = vn
      generalize th.arg t3 = vo
      dsimp only [hintS, Kn.num] at hret ⊢
      w_top on
      w_strict (k_dflt k_enter; k_steps)
      all_goals exact hret _ _ _ _ (by show _ = Str.ofString "{{ undefined value printed: it is not here }}"; decide +kernel) (by assumption) (by assumption)
    | false =>
      cases th <;> cases nm <;> first | exact absurd rfl hnm | (dsimp only [hintS, Kn.num, Nm.val, Th.arg] at hret ⊢; w_top on; w_strict (k_dflt k_enter; k_steps); all_goals exact hret _ _ _ _ (by decide +kernel) (by assumption) (by assumption))
  · have hn : kn.num ≠ 2 := by cases kn <;> first | decide | exact absurd rfl hk
    have he : txtS kn hi th nm = "" := by cases kn <;> first | rfl | exact absurd rfl hk
    generalize kn.num = k at hn
    generalize nm.val t2 = vn
    generalize th.arg t3 = vo
    generalize hintS hi = vh
    w_top on
    w_strict (k_dflt k_enter; k_steps)
    all_goals first | exact hret _ _ _ _ he.symm (by assumption) (by assumption) | (exfalso; omega) | contradiction

end C4sec
end Mine
/- _law_due -/
namespace Mine
section C5sec
theorem ans_refN {kn : Kn} {n : Int} {txt : Str} {same : Bool} {tk : Tok} (h : 6 ≤ n) (h' : n < 18 ∨ kn.num ≠ 1) : (ansOf kn n txt same).okV (.str "refused" tk) [] :=
  ans_ref (.inr ⟨h, h'.imp id fun z e => z (e ▸ rfl)⟩)
set_option maxHeartbeats 0 in
theorem due_call (w : World) (p : Program) (loose : List Str) (mean : ExcName → Option Value) (mg mb : Str → Option Value)
  (gd : Option (List Code)) (cn : Str) (nms : List (Str × NameKind)) (ig ic : Bool) (mo : List (Str × Const)) (a : Addr) (ccd : Value) (cl : List (Str × Addr)) (outer : List Env) (A₀ : Around) (base h₀ : Heap) (L : Addr) (m : Str → Option Value) (s : Shared) (R : Result → Shared → Prop)
  (B : Below A₀ base outer h₀) (F : Fr h₀ L s.heap m) (X : (Mine.hd.heap_39 w.params).In h₀) (T : Top p loose mean mg mb h₀)
  (kn : Kn) (n : Int) (h0 : 0 ≤ n) (h1 : n < 21) (txt : Str) (same : Bool) (tk tn tt : Tok) (news : List (Addr × Obj)) (N : News h₀ L s.heap news)
  (hret : ∀ u n₂ h' tk', (ansOf kn n txt same).okV u n₂ → Fr h₀ L h' m → News h₀ L h' (n₂ ++ news) → R (.ok (.ret u)) { s with heap := h', toks := tk' }) :
  codeAny (model PySem.Challenge.rw_bb0045_01.row.prog w) (PySem.W.ktrTop 350 100 gd cn ⟨.function, nms, ig, ic, mo⟩ L a ccd cl outer)
    (.call (.ref 320) ⟨[.int kn.num tk, .int n tn, .str txt tt, .bool same], []⟩) R s := by
  w_on; w_top on
  by_cases hk : kn = .st
  · subst hk
    dsimp only [Kn.num] at hret ⊢
    w_top on
    w_strict (k_dflt k_enter; k_steps)
    all_goals first | exact hret _ [] _ _ (ans_ref (.inl rfl)) (by assumption) (by assumption) | (exfalso; omega)
  · have hn : kn.num ≠ 3 := by cases kn <;> first | decide | exact absurd rfl hk
    have h6 : n < 6 → n = 0 ∨ n = 1 ∨ n = 2 ∨ n = 3 ∨ n = 4 ∨ n = 5 := by omega
    by_cases hl : n < 6
    · rcases h6 hl with rfl | rfl | rfl | rfl | rfl | rfl
      all_goals (generalize kn.num = k at hn; w_top on; w_strict (k_dflt k_enter; k_steps))
      all_goals first
        | (exfalso; omega)
        | exact hret _ [] _ _ (ans_0 hk) (by assumption) (news_tail (news_tail (by assumption)))
        | exact hret _ [] _ _ (ans_1 hk) (by assumption) (news_tail (news_tail (by assumption)))
        | exact hret _ [] _ _ (ans_2 hk) (by assumption) (news_tail (news_tail (by assumption)))
        | exact hret _ [_] _ _ (ans_3 hk) (by assumption) (news_tail (by assumption))
        | exact hret _ [] _ _ (ans_4 hk) (by assumption) (news_tail (news_tail (by assumption)))
        | exact hret _ [] _ _ (ans_5 hk) (by assumption) (news_tail (news_tail (by assumption)))
    · by_cases hm : n < 18
      · have hr : ∀ tk, (ansOf kn n txt same).okV (.str "refused" tk) [] := fun tk => ans_ref (.inr ⟨by omega, .inl hm⟩)
        generalize kn.num = k at hn
        w_top on
        w_strict (k_dflt k_enter; k_steps)
        all_goals first | (exfalso; omega) | exact hret _ [] _ _ (hr _) (by assumption) (by assumption)
      · have hs : kn.num = 1 → ∀ tk, (ansOf kn n txt same).okV (.str "same" tk) [] := fun e tk => by
          have e' : kn = .ch := by cases kn <;> first | rfl | (exact absurd e (by decide))
          subst e'
          exact ans_same (by omega)
        have hr : kn.num ≠ 1 → ∀ tk, (ansOf kn n txt same).okV (.str "refused" tk) [] := fun e tk => ans_refN (by omega) (.inr e)
        generalize kn.num = k at hn hs hr
        w_top on
        w_strict (k_dflt k_enter; k_steps)
        all_goals first | (exfalso; omega) | exact hret _ [] _ _ (hs (by omega) _) (by assumption) (by assumption) | exact hret _ [] _ _ (hr (by omega) _) (by assumption) (by assumption)

end C5sec
end Mine
/- _law_done with the same object twice -/
namespace Mine
section C6sec

local macro_rules | `(tactic| walk_at "call ref") => `(tactic| (k_here; k_dflt (refine wpAny_call ?_; first
  | (refine' weakenC (fail_K1 _ _ _ _ _ _ _ _ _ _ _ _ _ _ _ _ _ _ _ _ _ _ _ ?k1 ?k2 ?k3 ?k4 _ _ _ ?k5 ?k6 _ _ _ _ _ _ _ _ ?k7 ?k8 ?k9 ?_) rfl rfl rfl rfl rfl; (case k1 => k_asm); (case k2 => k_asm); (case k3 => k_asm); (case k4 => k_asm); (case k6 => assumption); (case k7 => k_asm); (case k8 => k_mem); (case k9 => k_mem); (case k5 => assumption))
  | (refine' weakenC (fail_K0 _ _ _ _ _ _ _ _ _ _ _ _ _ _ _ _ _ _ _ _ _ _ _ ?k1 ?k2 ?k3 ?k4 _ _ _ ?k5 ?k6 _ _ _ _ _ _ _ ?k7 ?k8 ?k9 ?_) rfl rfl rfl rfl rfl; (case k1 => k_asm); (case k2 => k_asm); (case k3 => k_asm); (case k4 => k_asm); (case k6 => assumption); (case k7 => k_asm); (case k8 => k_mem); (case k9 => k_mem); (case k5 => assumption))); intro g' e' t' tok' h' tk' F' U' R'; (try dsimp only)))
local macro_rules | `(tactic| k_enter) => `(tactic| ((first
  | (refine' weakenC (fail_K1 _ _ _ _ _ _ _ _ _ _ _ _ _ _ _ _ _ _ _ _ _ _ _ ?k1 ?k2 ?k3 ?k4 _ _ _ ?k5 ?k6 _ _ _ _ _ _ _ _ ?k7 ?k8 ?k9 ?_) rfl rfl rfl rfl rfl; (case k1 => k_asm); (case k2 => k_asm); (case k3 => k_asm); (case k4 => k_asm); (case k6 => assumption); (case k7 => k_asm); (case k8 => k_mem); (case k9 => k_mem); (case k5 => assumption))
  | (refine' weakenC (fail_K0 _ _ _ _ _ _ _ _ _ _ _ _ _ _ _ _ _ _ _ _ _ _ _ ?k1 ?k2 ?k3 ?k4 _ _ _ ?k5 ?k6 _ _ _ _ _ _ _ ?k7 ?k8 ?k9 ?_) rfl rfl rfl rfl rfl; (case k1 => k_asm); (case k2 => k_asm); (case k3 => k_asm); (case k4 => k_asm); (case k6 => assumption); (case k7 => k_asm); (case k8 => k_mem); (case k9 => k_mem); (case k5 => assumption))); intro g' e' t' tok' h' tk' F' U' R'; (try dsimp only)))

local macro_rules | `(tactic| walk_at "execs nil") => `(tactic| refine wpAny_execs_nil ?_)
local macro_rules | `(tactic| walk_at "call type:bool") => `(tactic| (k_here; k_dflt ((refine' weakenW (op_bool _ _ _ _ _ _ _ _ _ _ _ _ _ _ _ _ _ _ _ _ _ _ _ _ ?k1 ?k2 ?k3 ?k4 _ _ _ ?k5 ?k6 _ _ _ _ _ _ _ ?k7 ?_ ?_) rfl rfl rfl rfl rfl; (case k1 => k_asm); (case k2 => k_asm); (case k3 => k_asm); (case k4 => k_asm); (case k7 => k_asm); (case k6 => assumption); (case k5 => first | assumption | exact kdn _ _))); all_goals (intros; (try dsimp only))))
local macro_rules | `(tactic| walk_at "call builtin:len") => `(tactic| (k_here; k_dflt ((refine' weakenW (op_len _ _ _ _ _ _ _ _ _ _ _ _ _ _ _ _ _ _ _ _ _ _ _ _ ?k1 ?k2 ?k3 ?k4 _ _ _ ?k5 ?k6 _ _ _ _ _ _ _ ?k7 ?_ ?_) rfl rfl rfl rfl rfl; (case k1 => k_asm); (case k2 => k_asm); (case k3 => k_asm); (case k4 => k_asm); (case k7 => k_asm); (case k6 => assumption); (case k5 => first | assumption | exact kdn _ _))); all_goals (intros; (try dsimp only))))
local macro_rules | `(tactic| walk_at "pyIter ref") => `(tactic| (k_here; k_dflt ((refine' weakenW (op_iter2 _ _ _ _ _ _ _ _ _ _ _ _ _ _ _ _ _ _ _ _ _ _ _ _ ?k1 ?k2 ?k3 ?k4 _ _ _ ?k5 ?k6 _ _ _ _ _ _ _ ?k7 ?_ ?_) rfl rfl rfl rfl rfl; (case k1 => k_asm); (case k2 => k_asm); (case k3 => k_asm); (case k4 => k_asm); (case k7 => k_asm); (case k6 => assumption); (case k5 => first | assumption | exact kdn _ _))); all_goals (intros; (try dsimp only))))
local macro_rules | `(tactic| walk_at "call type:str") => `(tactic| (k_here; k_dflt ((refine' weakenW (op_str _ _ _ _ _ _ _ _ _ _ _ _ _ _ _ _ _ _ _ _ _ _ _ _ ?k1 ?k2 ?k3 ?k4 _ _ _ ?k5 ?k6 _ _ _ _ _ _ _ ?kz ?k7 ?_ ?_) rfl rfl rfl rfl rfl; (case k1 => k_asm); (case k2 => k_asm); (case k3 => k_asm); (case k4 => k_asm); (case k7 => k_asm); (case kz => assumption); (case k6 => assumption); (case k5 => assumption))); all_goals (intros; (try dsimp only))))
local macro_rules | `(tactic| walk_at "compareOp Eq ref ref") => `(tactic| (k_here; k_dflt ((refine' weakenW (op_eqs _ _ _ _ _ _ _ _ _ _ _ _ _ _ _ _ _ _ _ _ _ _ _ _ ?k1 ?k2 ?k3 ?k4 _ _ _ ?k5 ?k6 _ _ _ _ _ _ _ ?k7 ?_ ?_) rfl rfl rfl rfl rfl; (case k1 => k_asm); (case k2 => k_asm); (case k3 => k_asm); (case k4 => k_asm); (case k7 => k_asm); (case k6 => assumption); (case k5 => first | assumption | exact kdn _ _))); all_goals (intros; (try dsimp only))))
local macro_rules | `(tactic| walk_at "compareOp NotEq ref ref") => `(tactic| (k_here; k_dflt ((refine' weakenW (op_nes _ _ _ _ _ _ _ _ _ _ _ _ _ _ _ _ _ _ _ _ _ _ _ _ ?k1 ?k2 ?k3 ?k4 _ _ _ ?k5 ?k6 _ _ _ _ _ _ _ ?k7 ?_ ?_) rfl rfl rfl rfl rfl; (case k1 => k_asm); (case k2 => k_asm); (case k3 => k_asm); (case k4 => k_asm); (case k7 => k_asm); (case k6 => assumption); (case k5 => first | assumption | exact kdn _ _))); all_goals (intros; (try dsimp only))))
local macro_rules | `(tactic| walk_at "CompPost") => `(tactic| (k_dflt (refine' comp0 ?hh ?F ?N ?I ?T rfl rfl ?hs ?_; (case hh => exact rfl); (case F => k_asm); (case N => k_asm); (case I => k_mem); (case T => k_mem); (case hs => exact fun q hq => ⟨.tail _ (.tail _ hq), (by assumption : ∀ p ∈ _, p.1 ≠ _) q hq⟩)); intro D' h' tk' c' F' N'))
theorem n6 {n : Int} (h0 : 0 ≤ n) (h1 : n < 6) : n = 0 ∨ n = 1 ∨ n = 2 ∨ n = 3 ∨ n = 4 ∨ n = 5 := by omega
set_option maxHeartbeats 0 in
theorem done_alias (w : World) (p : Program) (loose : List Str) (mean : ExcName → Option Value) (mg mb : Str → Option Value)
  (gd : Option (List Code)) (cn : Str) (nms : List (Str × NameKind)) (ig ic : Bool) (mo : List (Str × Const)) (a : Addr) (ccd : Value) (A₀ : Around) (h₀ : Heap) (L : Addr) (m : Str → Option Value) (s : Shared) (R : Result → Shared → Prop)
  (B : Below A₀ h₀ [] h₀) (F : Fr h₀ L s.heap m) (X : (Mine.hd.heap_39 w.params).In h₀) (T : Top p loose mean mg mb h₀)
  (kn : Kn) (x dx : Addr) (kf : Kd (Mine.hd.heap_39 w.params) kn.cls) (sf : Sd (Mine.hd.heap_39 w.params)) (hi : Bool) (th : Th) (nm : Nm) (hnm : nm ≠ .els) (t1 t2 t3 : Tok)
  (rest : List (Addr × Obj)) (n : Int) (hn0 : 0 ≤ n) (hn1 : n < 6) (tn : Tok)
  (N : News h₀ L s.heap ((x, uo kn.cls dx (.str (hintS hi) t1) (nm.val t2) (th.slot t3)) :: (dx, dictOf [] 0) :: rest))
  (hret : ∀ u n₂ h' tk', (ansOf kn n (txtS kn hi th nm) true).okV u n₂ → Fr h₀ L h' m → News h₀ L h' (n₂ ++ ((x, uo kn.cls dx (.str (hintS hi) t1) (nm.val t2) (th.slot t3)) :: (dx, dictOf [] 0) :: rest)) → R (.ok (.ret u)) { s with heap := h', toks := tk' }) :
  codeAny (model PySem.Challenge.rw_bb0045_01.row.prog w) (PySem.W.ktrTop 350 100 gd cn ⟨.function, nms, ig, ic, mo⟩ L a ccd [] [])
    (.call (.ref 313) ⟨[.ref x, .int n tn, .ref x], []⟩) R s := by
  w_on; w_top on
  rcases n6 hn0 hn1 with rfl | rfl | rfl | rfl | rfl | rfl
  all_goals clear hn0 hn1
  all_goals (w_top on; w_strict (k_dflt k_enter; k_steps))
  all_goals (try (first
    | (refine hret _ [] _ _ (ans_ref (.inl (by assumption))) (by assumption) (news_nil (by assumption)))
    | (refine hret _ [] _ _ (ans_0 (by assumption)) (by assumption) (news_nil (by assumption)))
    | ((rename _ = txtS _ _ _ _ => eu); subst eu; refine hret _ [] _ _ (ans_1 (by assumption)) (by assumption) (news_nil (by assumption)))
    | (refine hret _ [] _ _ (ans_2 (by assumption)) (by assumption) (news_nil (by assumption)))
    | (refine hret _ [] _ _ (ans_4 (by assumption)) (by assumption) (news_nil (by assumption)))
    | (refine hret _ [] _ _ (ans_5 (by assumption)) (by assumption) (news_nil (by assumption)))
    | ((rename ∀ p ∈ (_ : List (Addr × Obj)), p.1 ≠ _ => hI); refine comp0 rfl (by assumption) (by assumption) (List.Mem.head _) (List.Mem.tail _ (List.Mem.head _)) rfl rfl (fun q hq => ⟨List.Mem.tail _ (List.Mem.tail _ hq), hI q hq⟩) ?_; intro D' h' tk' c' F' N')))
  all_goals (try (w_strict k_steps))
  all_goals (try (refine hret _ [_] _ _ (ans_3 (by assumption)) (by assumption) (by assumption)))


end C6sec
end Mine
/- the draws anywhere in the ledger; menus -/
namespace Mine
section D1sec


structure St (n : Int) (vs : List Value) (ns : List Int) : Prop where
  fI : IntsAre vs ns
  fR : InR ns
  fL : vs.length ≤ 8
  f0 : 0 ≤ n
  f1 : n < 10 ^ 15
theorem inr0 (l : List Int) : InR (List.map (fun k' => (if k' < 0 then -k' else k').fmod (10 ^ Int.toNat 15)) l) := by
  intro v hv
  obtain ⟨k, _, rfl⟩ := List.mem_map.mp hv
  have e : (10 : Int) ^ Int.toNat 15 = 10 ^ 15 := rfl
  rw [e, Int.fmod_eq_emod_of_nonneg _ (by decide)]
  exact ⟨Int.emod_nonneg _ (by decide), Int.emod_lt_of_pos _ (by decide)⟩
theorem len8 {ys : List Value} {f : Int → Int} {l : List Int} (h : ys.length = (List.map f (List.take 8 l)).length) : ys.length ≤ 8 := by
  rw [h, List.length_map, List.length_take]; omega
theorem st0 {ys : List Value} {l : List Int} (hi : IntsAre ys (List.map (fun k' => (if k' < 0 then -k' else k').fmod (10 ^ Int.toNat 15)) (List.take 8 l))) (hl : ys.length = (List.map (fun k' => (if k' < 0 then -k' else k').fmod (10 ^ Int.toNat 15)) (List.take 8 l)).length) :
    St 0 ys (List.map (fun k' => (if k' < 0 then -k' else k').fmod (10 ^ Int.toNat 15)) (List.take 8 l)) := ⟨hi, inr0 _, len8 hl, by decide, by decide⟩
theorem kn_of {i : Int} (h0 : 0 ≤ i) (h1 : i < 4) : ∃ kn : Kn, i = kn.num := by
  have h : i = 0 ∨ i = 1 ∨ i = 2 ∨ i = 3 := by omega
  rcases h with rfl | rfl | rfl | rfl
  · exact ⟨.pl, rfl⟩
  · exact ⟨.ch, rfl⟩
  · exact ⟨.db, rfl⟩
  · exact ⟨.st, rfl⟩
theorem take_F (w : World) (p : Program) (loose : List Str) (mean : ExcName → Option Value) (mg mb : Str → Option Value)
  (gd : Option (List Code)) (cn : Str) (nms : List (Str × NameKind)) (ig ic : Bool) (mo : List (Str × Const)) (a : Addr) (ccd : Value) (cl : List (Str × Addr)) (outer : List Env) (A₀ : Around) (base h₀ : Heap) (L : Addr) (m : Str → Option Value) (s : Shared) (R : Result → Shared → Prop)
  (B : Below A₀ base outer h₀) (F : Fr h₀ L s.heap m) (X : (Mine.hd.heap_39 w.params).In h₀) (T : Top p loose mean mg mb h₀)
  (dr D : Addr) (n : Int) (tn : Tok) (c1 c2 : Nat) (vs : List Value) (ns : List Int) (k : Int) (tk : Tok) (news : List (Addr × Obj)) (u1 : Obj → List (Addr × Obj)) (u2 : Obj → Obj → List (Addr × Obj))
  (hst : St n vs ns) (hk : 0 < k) (hk2 : k ≤ 21)
  (N : News h₀ L s.heap news) (U1 : UpdF dr (listOf #[.int n tn, .ref D] c1) news u1) (U2 : ∀ o, UpdF D (listOf vs.toArray c2) (u1 o) (u2 o)) (hdD : @Ne Nat dr D)
  (hret : ∀ i t n' tn' c1' c2' vs' ns' h' tk', 0 ≤ i → i < k → St n' vs' ns' → Fr h₀ L h' m → News h₀ L h' (u2 (listOf #[.int n' tn', .ref D] c1') (listOf (List.toArray vs') c2')) → R (.ok (.ret (.int i t))) { s with heap := h', toks := tk' }) :
  codeAny (model PySem.Challenge.rw_bb0045_01.row.prog w) (PySem.W.ktrTop 350 100 gd cn ⟨.function, nms, ig, ic, mo⟩ L a ccd cl outer)
    (.call (.ref 273) ⟨[.ref dr, .int k tk], []⟩) R s := by
  obtain ⟨pre, post, rfl, hu1, hpre, hpost⟩ := U1.split
  have hn1 : pre ++ (dr, listOf #[.int n tn, .ref D] c1) :: post = u1 (listOf #[.int n tn, .ref D] c1) := (hu1 _).symm
  have hD : (D, listOf vs.toArray c2) ∈ pre ++ (dr, listOf #[.int n tn, .ref D] c1) :: post := by
    rw [hn1]
    obtain ⟨p2, q2, e, _, _, _⟩ := (U2 (listOf #[.int n tn, .ref D] c1)).split
    rw [e]; simp
  refine take_call w p loose mean mg mb gd cn nms ig ic mo a ccd cl outer A₀ base h₀ L m s R B F X T dr D n tn c1 c2 vs ns hst.fI hst.fR hst.f0 hst.f1 k tk hk hk2
    ((pre ++ post).filter fun p => decide (p.1 ≠ D)) hst.fL hdD ?_ ?_ ?_ ?_
  · intro q hq
    rcases List.mem_append.mp (List.mem_filter.mp hq).1 with h | h
    · exact hpre q h
    · exact hpost q h
  · intro q hq
    exact of_decide_eq_true (List.mem_filter.mp hq).2
  · intro q hq
    rcases List.mem_cons.mp hq with rfl | hq
    · exact N _ (by simp)
    · rcases List.mem_cons.mp hq with rfl | hq
      · exact N _ hD
      · refine N _ ?_
        rcases List.mem_append.mp (List.mem_filter.mp hq).1 with h | h
        · exact List.mem_append.mpr (.inl h)
        · exact List.mem_append.mpr (.inr (.tail _ h))
  · intro i t n' tn' c1' c2' vs' ns' h' tk' hi0 hi1 hv hr hl h0 h1 F' N'
    refine hret i t n' tn' c1' c2' vs' ns' h' tk' hi0 hi1 ⟨hv, hr, hl, h0, h1⟩ F' ?_
    obtain ⟨p2, q2, e, hu2, hp2, hq2⟩ := (U2 (listOf #[.int n' tn', .ref D] c1')).split
    rw [hu2]
    have key : ∀ q, q ∈ u1 (listOf #[.int n' tn', .ref D] c1') → q.1 ≠ D → News h₀ L h' [q] := by
      intro q hq hne
      rw [hu1] at hq
      intro r hr
      obtain rfl := List.mem_singleton.mp hr
      rcases List.mem_append.mp hq with h | h
      · exact N' _ (.tail _ (.tail _ (List.mem_filter.mpr ⟨List.mem_append.mpr (.inl h), decide_eq_true hne⟩)))
      · rcases List.mem_cons.mp h with rfl | h
        · exact N' _ (.head _)
        · exact N' _ (.tail _ (.tail _ (List.mem_filter.mpr ⟨List.mem_append.mpr (.inr h), decide_eq_true hne⟩)))
    intro q hq
    rcases List.mem_append.mp hq with h | h
    · exact key q (by rw [e]; exact List.mem_append.mpr (.inl h)) (hp2 q h) q (.head _)
    · rcases List.mem_cons.mp h with rfl | h
      · exact N' _ (.tail _ (.head _))
      · exact key q (by rw [e]; exact List.mem_append.mpr (.inr (.tail _ h))) (hq2 q h) q (.head _)

section
variable {prog : Program} {w : World} {A : Around} {E : Value → Shared → Prop} {s : Shared} {h₀ h : Heap} {L D : Addr} {m : Str → Option Value} {news news' : List (Addr × Obj)} {n : Nat} {k : Int} {u : Tok} {its : Array Value} {v : Value} {value slice : PySem.Expr} {Q : Value → Shared → Prop}
theorem menu_at (N : News h₀ L s.heap news) (hm : (D, listOf its n) ∈ news) (h0 : 0 ≤ k) (h1 : k < 2 ^ 63) (hx : its[k.toNat]? = some v) (h : Q v s)
    (hs : subscripted slice false (.ref D) (.int k u) = operate [.ref D, .int k u] (getItem (.ref D) (.int k u)) := by with_unfolding_all rfl) :
    wpAny (model prog w) A (subscriptTail value slice (.ref D) (.int k u)) Q E s :=
  tail_any (PySem.IsL.isList (n := n) (N _ hm).1).typeIs slot_list_getitem.lookup (wpAny_getItem_list (PySem.IsL.isList (n := n) (N _ hm).1) h0 h1 hx h) hs
theorem menu3 {a b c : Value} (N : News h₀ L s.heap news) (hm : (D, listOf #[a, b, c] n) ∈ news) (h0 : 0 ≤ k) (h1 : k < 3) (ha : Q a s) (hb : Q b s) (hc : Q c s)
    (hs : subscripted slice false (.ref D) (.int k u) = operate [.ref D, .int k u] (getItem (.ref D) (.int k u)) := by with_unfolding_all rfl) :
    wpAny (model prog w) A (subscriptTail value slice (.ref D) (.int k u)) Q E s := by
  have h : k = 0 ∨ k = 1 ∨ k = 2 := by omega
  rcases h with rfl | rfl | rfl
  · exact menu_at N hm h0 (by decide) rfl ha hs
  · exact menu_at N hm h0 (by decide) rfl hb hs
  · exact menu_at N hm h0 (by decide) rfl hc hs
theorem menu_hint {a b c : Tok} (N : News h₀ L s.heap news) (hm : (D, listOf #[.str "" a, .str "it is not here" b, .str "" c] n) ∈ news) (h0 : 0 ≤ k) (h1 : k < 3) (h : ∀ hi t, Q (.str (hintS hi) t) s)
    (hs : subscripted slice false (.ref D) (.int k u) = operate [.ref D, .int k u] (getItem (.ref D) (.int k u)) := by with_unfolding_all rfl) :
    wpAny (model prog w) A (subscriptTail value slice (.ref D) (.int k u)) Q E s := menu3 N hm h0 h1 (h false _) (h true _) (h false _) hs
theorem menu_thing {b c : Tok} (N : News h₀ L s.heap news) (hm : (D, listOf #[.none, .int 7 b, .str "text" c] n) ∈ news) (h0 : 0 ≤ k) (h1 : k < 3) (h : ∀ th t, Q (Th.arg t th) s)
    (hs : subscripted slice false (.ref D) (.int k u) = operate [.ref D, .int k u] (getItem (.ref D) (.int k u)) := by with_unfolding_all rfl) :
    wpAny (model prog w) A (subscriptTail value slice (.ref D) (.int k u)) Q E s := menu3 N hm h0 h1 (h .no b) (h .num _) (h .txt _) hs
theorem menu_name {a b c : Tok} (N : News h₀ L s.heap news) (hm : (D, listOf #[.str "user" a, .int 3 b, .str "a b" c] n) ∈ news) (h0 : 0 ≤ k) (h1 : k < 3) (h : ∀ nm t, nm ≠ .els → Q (Nm.val t nm) s)
    (hs : subscripted slice false (.ref D) (.int k u) = operate [.ref D, .int k u] (getItem (.ref D) (.int k u)) := by with_unfolding_all rfl) :
    wpAny (model prog w) A (subscriptTail value slice (.ref D) (.int k u)) Q E s := menu3 N hm h0 h1 (h .user _ Nm.noConfusion) (h .three _ Nm.noConfusion) (h .ab _ Nm.noConfusion) hs
theorem ne_same {z y : Str} {t t' : Tok} (e : y = z) (h : Q (.bool false) s) : wpAny (model prog w) A (compareOp .NotEq (.str z t) (.str y t')) Q E s := by
  subst e
  exact PyProof.Rows.ne_str (by simpa using h)
end
theorem hand_nm (nm : Nm) (t : Tok) : handedIn (nm.val t) = true := by cases nm <;> rfl


end D1sec
end Mine
/- the law's loop by an invariant; the comprehension by an opaque ledger; the end -/
namespace Mine
section D3sec

theorem num_st {kn : Kn} (h : kn ≠ .st) : kn.num ≠ 3 := by cases kn <;> first | exact absurd rfl h | decide
theorem st_num {kn : Kn} (h : kn.num ≠ 3) : kn ≠ .st := fun e => h (by rw [e]; rfl)
theorem eqb_num (kn kn' : Kn) : kn.eqb kn' = decide (kn'.num = kn.num) := by cases kn <;> cases kn' <;> rfl
theorem eqb_num' (kn kn' : Kn) : kn.eqb kn' = (kn'.num == kn.num) := by cases kn <;> cases kn' <;> rfl
section
variable {prog : Program} {w : World} {A : Around} {E : Value → Shared → Prop} {s : Shared} {h₀ h : Heap} {L : Addr} {m : Str → Option Value} {news : List (Addr × Obj)} {u1 u2 : Value} {l1 l2 : List (Addr × Obj)} {Q : Value → Shared → Prop}
theorem ne_ans {α β : Ans} (k1 : α.okV u1 l1) (k2 : β.okV u2 l2) (e : β = α) (N : News h₀ L s.heap (l2 ++ (l1 ++ news))) (hu : A.units + 64 < cLine)
    (h : News h₀ L s.heap news → Q (.bool false) s) : wpAny (model prog w) A (compareOp .NotEq u1 u2) Q E s := by
  subst e
  have h' := h (fun q hq => N q (List.mem_append.mpr (.inr (List.mem_append.mpr (.inr hq)))))
  cases β with
  | b v => obtain ⟨rfl, _⟩ := k1; obtain ⟨rfl, _⟩ := k2; exact PyProof.Rows.ne_bool (by simpa using h')
  | s z => obtain ⟨⟨t, rfl⟩, _⟩ := k1; obtain ⟨⟨t', rfl⟩, _⟩ := k2; exact PyProof.Rows.ne_str (by simpa using h')
  | i0 => obtain ⟨⟨t, rfl⟩, _⟩ := k1; obtain ⟨⟨t', rfl⟩, _⟩ := k2; exact PyProof.Rows.ne_int (by simpa using h')
  | nil =>
    obtain ⟨D1, c1, rfl, rfl⟩ := k1
    obtain ⟨D2, c2, rfl, rfl⟩ := k2
    have N1 := N (D1, listOf #[] c1) (by simp)
    have N2 := N (D2, listOf #[] c2) (by simp)
    exact ne_intsK (vs := []) (ns := []) (us := []) (ms := []) (PySem.IsL.isList (n := c1) N1.1) .nil (PySem.IsL.isList (n := c2) N2.1) .nil hu (by simpa using h')
end
theorem done_F (w : World) (p : Program) (loose : List Str) (mean : ExcName → Option Value) (mg mb : Str → Option Value)
  (gd : Option (List Code)) (cn : Str) (nms : List (Str × NameKind)) (ig ic : Bool) (mo : List (Str × Const)) (a : Addr) (ccd : Value) (A₀ : Around) (h₀ : Heap) (L : Addr) (m : Str → Option Value) (s : Shared) (R : Result → Shared → Prop)
  (B : Below A₀ h₀ [] h₀) (F : Fr h₀ L s.heap m) (X : (Mine.hd.heap_39 w.params).In h₀) (T : Top p loose mean mg mb h₀)
  (news : List (Addr × Obj)) (kn : Kn) (x dx : Addr) (hi : Bool) (th : Th) (nm : Nm) (hnm : nm ≠ .els) (t1 t2 t3 : Tok)
  (kn' : Kn) (y dy : Addr) (t4 t5 t6 : Tok) (hk : kn.num ≠ 3 → kn'.num ≠ 3) (n : Int) (hn0 : 0 ≤ n) (hn1 : n < 21) (tn : Tok)
  (N : News h₀ L s.heap news) (hx : (x, uo kn.cls dx (.str (hintS hi) t1) (nm.val t2) (th.slot t3)) ∈ news) (hdx : (dx, dictOf [] 0) ∈ news)
  (hy : (y, uo kn'.cls dy (.str (hintS false) t4) (Nm.els.val t5) (Th.no.slot t6)) ∈ news) (hdy : (dy, dictOf [] 0) ∈ news)
  (hret : ∀ u n₂ h' tk', (ansOf kn n (txtS kn hi th nm) (kn.eqb kn')).okV u n₂ → Fr h₀ L h' m → News h₀ L h' (n₂ ++ news) → R (.ok (.ret u)) { s with heap := h', toks := tk' }) :
  codeAny (model PySem.Challenge.rw_bb0045_01.row.prog w) (PySem.W.ktrTop 350 100 gd cn ⟨.function, nms, ig, ic, mo⟩ L a ccd [] [])
    (.call (.ref 313) ⟨[.ref x, .int n tn, .ref y], []⟩) R s :=
  done_sym w p loose mean mg mb gd cn nms ig ic mo a ccd A₀ h₀ L m s R B F X T kn x dx (kdn w kn) (sd w) hi th nm hnm t1 t2 t3 kn' y dy (kdn w kn') t4 t5 t6 (fun e => st_num (hk (num_st e))) news n hn0 hn1 tn
    (fun q hq => by
      rcases List.mem_cons.mp hq with rfl | hq
      · exact N _ hx
      rcases List.mem_cons.mp hq with rfl | hq
      · exact N _ hdx
      rcases List.mem_cons.mp hq with rfl | hq
      · exact N _ hy
      rcases List.mem_cons.mp hq with rfl | hq
      · exact N _ hdy
      exact N _ hq)
    (fun u n₂ h' tk' ok F' N' => hret u n₂ h' tk' ok F' fun q hq => N' q (by
      rcases List.mem_append.mp hq with h | h
      · exact List.mem_append.mpr (.inl h)
      · exact List.mem_append.mpr (.inr (.tail _ (.tail _ (.tail _ (.tail _ h)))))))
theorem done_G (w : World) (p : Program) (loose : List Str) (mean : ExcName → Option Value) (mg mb : Str → Option Value)
  (gd : Option (List Code)) (cn : Str) (nms : List (Str × NameKind)) (ig ic : Bool) (mo : List (Str × Const)) (a : Addr) (ccd : Value) (A₀ : Around) (h₀ : Heap) (L : Addr) (m : Str → Option Value) (s : Shared) (R : Result → Shared → Prop)
  (B : Below A₀ h₀ [] h₀) (F : Fr h₀ L s.heap m) (X : (Mine.hd.heap_39 w.params).In h₀) (T : Top p loose mean mg mb h₀)
  (news : List (Addr × Obj)) (kn : Kn) (x dx : Addr) (hi : Bool) (th : Th) (nm : Nm) (hnm : nm ≠ .els) (t1 t2 t3 : Tok)
  (n : Int) (hn0 : 0 ≤ n) (hn1 : n < 6) (tn : Tok)
  (N : News h₀ L s.heap news) (hx : (x, uo kn.cls dx (.str (hintS hi) t1) (nm.val t2) (th.slot t3)) ∈ news) (hdx : (dx, dictOf [] 0) ∈ news)
  (hret : ∀ u n₂ h' tk', (ansOf kn n (txtS kn hi th nm) true).okV u n₂ → Fr h₀ L h' m → News h₀ L h' (n₂ ++ news) → R (.ok (.ret u)) { s with heap := h', toks := tk' }) :
  codeAny (model PySem.Challenge.rw_bb0045_01.row.prog w) (PySem.W.ktrTop 350 100 gd cn ⟨.function, nms, ig, ic, mo⟩ L a ccd [] [])
    (.call (.ref 313) ⟨[.ref x, .int n tn, .ref x], []⟩) R s :=
  done_alias w p loose mean mg mb gd cn nms ig ic mo a ccd A₀ h₀ L m s R B F X T kn x dx (kdn w kn) (sd w) hi th nm hnm t1 t2 t3 news n hn0 hn1 tn
    (fun q hq => by
      rcases List.mem_cons.mp hq with rfl | hq
      · exact N _ hx
      rcases List.mem_cons.mp hq with rfl | hq
      · exact N _ hdx
      exact N _ hq)
    (fun u n₂ h' tk' ok F' N' => hret u n₂ h' tk' ok F' fun q hq => N' q (by
      rcases List.mem_append.mp hq with h | h
      · exact List.mem_append.mpr (.inl h)
      · exact List.mem_append.mpr (.inr (.tail _ (.tail _ h)))))
section
variable {prog : Program} {w : World} {A : Around} {E : Value → Shared → Prop} {s : Shared} {env : Env} {h₀ : Heap} {x y1 y2 y3 : Str} {body : List Stmt} {Q : Flow → Shared → Prop}
theorem UpdF.same {d : Addr} {o : Obj} {l : List (Addr × Obj)} {g : Obj → List (Addr × Obj)} (U : UpdF d o l g) : g o = l := by
  obtain ⟨pre, post, rfl, e, _, _⟩ := U.split
  exact e o
theorem UpdF.adr {d : Addr} {o : Obj} {l : List (Addr × Obj)} {g : Obj → List (Addr × Obj)} (U : UpdF d o l g) (o' : Obj) : (g o').map (·.1) = l.map (·.1) := by
  obtain ⟨pre, post, rfl, e, _, _⟩ := U.split
  rw [e]; simp
/-- what holds between the turns of the law's loop -/
def LawInv (dr D : Addr) (u2 : Obj → Obj → List (Addr × Obj)) (m₀ : Str → Option Value) (x y1 y2 y3 : Str) (m : Str → Option Value) (nx : List (Addr × Obj)) : Prop :=
  (∃ nn tn c1 c2 vs ns, St nn vs ns ∧ nx = u2 (listOf #[.int nn tn, .ref D] c1) (listOf (List.toArray vs) c2)) ∧ ∀ z, z ≠ x → z ≠ y1 → z ≠ y2 → z ≠ y3 → m z = m₀ z
theorem map_law {m₁ m₀ : Str → Option Value} {v : Option Value} (hm : ∀ z, z ≠ x → z ≠ y1 → z ≠ y2 → z ≠ y3 → m₁ z = m₀ z) :
    (fun z => if z = x then v else m₁ z) = fun z => if z = x then v else if z = y1 then m₁ y1 else if z = y2 then m₁ y2 else if z = y3 then m₁ y3 else m₀ z := by
  funext z
  by_cases h1 : z = x
  · simp [h1]
  · simp only [if_neg h1]
    by_cases h2 : z = y1
    · subst h2; simp
    · simp only [if_neg h2]
      by_cases h3 : z = y2
      · subst h3; simp
      · simp only [if_neg h3]
        by_cases h4 : z = y3
        · subst h4; simp
        · simp only [if_neg h4]; exact hm z h1 h2 h3 h4
theorem loop_law {r dr D : Addr} {a₀ b₀ : Int} {t₀ u₀ v₀ : Tok} {n : Nat} {m₀ : Str → Option Value} {news : List (Addr × Obj)} {n0 : Int} {tn0 : Tok} {c10 c20 : Nat} {vs0 : List Value} {ns0 : List Int} {u1 : Obj → List (Addr × Obj)} {u2 : Obj → Obj → List (Addr × Obj)}
    (hh : A.handled = none) (hr : IsRange s.heap r a₀ b₀ 1 t₀ u₀ v₀) (hsmall : Builtin.Range.small a₀ b₀ 1 = true) (hn : Builtin.Range.rangeSize a₀ b₀ 1 = (n : Int)) (F : Fr h₀ env.locals s.heap m₀) (N : News h₀ env.locals s.heap news)
    (hmd : (dr, listOf #[.int n0 tn0, .ref D] c10) ∈ news) (hmD : (D, listOf (List.toArray vs0) c20) ∈ news) (hst : St n0 vs0 ns0) (U1 : UpdF dr (listOf #[.int n0 tn0, .ref D] c10) news u1) (U2 : ∀ o, UpdF D (listOf (List.toArray vs0) c20) (u1 o) (u2 o))
    (turn : ∀ k t nn tn c1 c2 vs ns uh uk uo h tk own, St nn vs ns → OwnOff own (news.map (·.1)) →
      Fr h₀ env.locals h (fun y => if y = x then some (.int k t) else if y = y1 then uh else if y = y2 then uk else if y = y3 then uo else m₀ y) →
      News h₀ env.locals h (u2 (listOf #[.int nn tn, .ref D] c1) (listOf (List.toArray vs) c2) ++ own) →
      wpAny (model prog w) A (execs body env) (InvPostN h₀ env.locals (LawInv dr D u2 m₀ x y1 y2 y3) own (news.map (·.1)) { s with heap := h, toks := tk } Q) E { s with heap := h, toks := tk })
    (done : ∀ nn tn c1 c2 vs ns ux uh uk uo h tk, St nn vs ns →
      Fr h₀ env.locals h (fun y => if y = x then ux else if y = y1 then uh else if y = y2 then uk else if y = y3 then uo else m₀ y) →
      News h₀ env.locals h (u2 (listOf #[.int nn tn, .ref D] c1) (listOf (List.toArray vs) c2)) → Q .next { s with heap := h, toks := tk }) :
    wpAny (model prog w) A (pyIter (.ref r)) (fun it s₂ => LoopAtV prog w A h₀ env x body Q E it s₂) E s := by
  have e0 : news = u2 (listOf #[.int n0 tn0, .ref D] c10) (listOf (List.toArray vs0) c20) := by rw [UpdF.same (U2 _), UpdF.same U1]
  refine iter_rangeS (σ := Unit) (fun _ m nx => LawInv dr D u2 m₀ x y1 y2 y3 m nx) (fun _ _ => ()) () hh hr hsmall hn F N ⟨⟨n0, tn0, c10, c20, vs0, ns0, hst, e0⟩, fun _ _ _ _ _ => rfl⟩ ?_ ?_
  · rintro k t _ m₁ nx h tk own hk hoff ⟨⟨nn, tn, c1, c2, vs, ns, hst', rfl⟩, hm⟩ F₁ N₁
    rw [map_law hm] at F₁
    exact turn k t nn tn c1 c2 vs ns _ _ _ h tk own hst' hoff F₁ N₁
  · rintro m₁ nx h tk ⟨⟨nn, tn, c1, c2, vs, ns, hst', rfl⟩, hm⟩ F₁ N₁
    have e : (fun z => if z = x then m₁ x else m₁ z) = m₁ := by funext z; by_cases h : z = x <;> simp [h]
    have e' := map_law (v := m₁ x) hm
    rw [e] at e'
    rw [e'] at F₁
    exact done nn tn c1 c2 vs ns _ _ _ _ h tk hst' F₁ N₁
end
section
variable {prog : Program} {w : World} {A : Around} {E : Value → Shared → Prop} {s : Shared} {h₀ h : Heap} {L l : Addr} {m : Str → Option Value} {news : List (Addr × Obj)} {c : Nat} {k : Int} {u : Tok} {value slice : PySem.Expr} {Q : Value → Shared → Prop}
abbrev tup2 (i : Int) (t : Tok) (y : Addr) : Obj := { cls := .type "tuple", data := .seq #[.int i t, .ref y] }
theorem menu_oth {T0 T1 T2 T3 y0 y1 y2 y3 d0 d1 d2 d3 : Addr} {a0 a1 a2 a3 b0 b1 b2 b3 e0 e1 e2 e3 f0 f1 f2 f3 : Tok} {i0 i1 i2 i3 : Int} {its : Array Value} (N : News h₀ L s.heap news)
    (hi : its = #[.ref T0, .ref T1, .ref T2, .ref T3])
    (hm : (l, listOf its c) ∈ news) (h0 : 0 ≤ k) (h1 : k < 4)
    (hT0 : (T0, tup2 i0 a0 y0) ∈ news) (hT1 : (T1, tup2 i1 a1 y1) ∈ news) (hT2 : (T2, tup2 i2 a2 y2) ∈ news) (hT3 : (T3, tup2 i3 a3 y3) ∈ news) (v0 : i0 = 0) (v1 : i1 = 1) (v2 : i2 = 2) (v3 : i3 = 3)
    (hy0 : (y0, uo (Kn.cls .pl) d0 (.str "" b0) (.str "else" e0) (Th.slot f0 .no)) ∈ news) (hy1 : (y1, uo (Kn.cls .ch) d1 (.str "" b1) (.str "else" e1) (Th.slot f1 .no)) ∈ news) (hy2 : (y2, uo (Kn.cls .db) d2 (.str "" b2) (.str "else" e2) (Th.slot f2 .no)) ∈ news) (hy3 : (y3, uo (Kn.cls .st) d3 (.str "" b3) (.str "else" e3) (Th.slot f3 .no)) ∈ news)
    (hd0 : (d0, dictOf [] 0) ∈ news) (hd1 : (d1, dictOf [] 0) ∈ news) (hd2 : (d2, dictOf [] 0) ∈ news) (hd3 : (d3, dictOf [] 0) ∈ news)
    (h : ∀ (kn' : Kn) (T y dy : Addr) (tT t4 t5 t6 : Tok), k = kn'.num → News h₀ L s.heap ((T, tupObj [.int kn'.num tT, .ref y]) :: (y, uo kn'.cls dy (.str (hintS false) t4) (Nm.els.val t5) (Th.no.slot t6)) :: (dy, dictOf [] 0) :: news) → Q (.ref T) s)
    (hs : subscripted slice false (.ref l) (.int k u) = operate [.ref l, .int k u] (getItem (.ref l) (.int k u)) := by with_unfolding_all rfl) :
    wpAny (model prog w) A (subscriptTail value slice (.ref l) (.int k u)) Q E s := by
  subst hi v0 v1 v2 v3
  have go : ∀ {q1 q2 q3 : Addr × Obj}, q1 ∈ news → q2 ∈ news → q3 ∈ news → News h₀ L s.heap (q1 :: q2 :: q3 :: news) := by
    intro q1 q2 q3 i1 i2 i3 q hq
    rcases List.mem_cons.mp hq with rfl | hq
    · exact N _ i1
    rcases List.mem_cons.mp hq with rfl | hq
    · exact N _ i2
    rcases List.mem_cons.mp hq with rfl | hq
    · exact N _ i3
    exact N _ hq
  have hk : k = 0 ∨ k = 1 ∨ k = 2 ∨ k = 3 := by omega
  rcases hk with rfl | rfl | rfl | rfl
  · exact menu_at N hm h0 (by decide) rfl (h .pl T0 y0 d0 a0 b0 e0 f0 rfl (go hT0 hy0 hd0)) hs
  · exact menu_at N hm h0 (by decide) rfl (h .ch T1 y1 d1 a1 b1 e1 f1 rfl (go hT1 hy1 hd1)) hs
  · exact menu_at N hm h0 (by decide) rfl (h .db T2 y2 d2 a2 b2 e2 f2 rfl (go hT2 hy2 hd2)) hs
  · exact menu_at N hm h0 (by decide) rfl (h .st T3 y3 d3 a3 b3 e3 f3 rfl (go hT3 hy3 hd3)) hs
end
theorem keep4 {P : Prop} {h₀ h : Heap} {L x dx dr D : Addr} {news : List (Addr × Obj)} {kn : Kn} {hv nv o : Value} {n : Int} {tn : Tok} {c c2 : Nat} {vs : List Value} (N : News h₀ L h news)
  (m1 : (x, uo kn.cls dx hv nv o) ∈ news) (m2 : (dx, dictOf [] 0) ∈ news) (m3 : (dr, listOf #[.int n tn, .ref D] c) ∈ news) (m4 : (D, listOf (List.toArray vs) c2) ∈ news)
  (o1 : @LT.lt Nat _ dx x) (o2 : @LT.lt Nat _ dr dx) (o3 : @LT.lt Nat _ D dx) (o4 : @Ne Nat dr D)
  (k : News h₀ L h [(x, uo kn.cls dx hv nv o), (dx, dictOf [] 0), (dr, listOf #[.int n tn, .ref D] c), (D, listOf (List.toArray vs) c2)] → @LT.lt Nat _ dx x → @LT.lt Nat _ dr dx → @LT.lt Nat _ D dx → @Ne Nat dr D → P) : P := by
  refine k (fun q hq => ?_) o1 o2 o3 o4
  simp only [List.mem_cons, List.not_mem_nil, or_false] at hq
  rcases hq with rfl | rfl | rfl | rfl
  · exact N _ m1
  · exact N _ m2
  · exact N _ m3
  · exact N _ m4

section
variable {prog : Program} {w : World} {A : Around} {s : Shared} {h₀ : Heap} {L : Addr} {m : Str → Option Value} {env : Env}
theorem succ_gen {elt : PySem.Expr} {x : Str} {scope : Scope} {cl : List (Str × Addr)} {S : List (Addr × Obj) → Prop} {P : Nat → Value → Prop} {Fin : List Value → List (Addr × Obj) → Prop} {k i : Nat} {ys : List Value} {news : List (Addr × Obj)}
    (h : ∀ nw, nw = news → ∀ v I oI C oC D m₂ h tk (E' : Value → Shared → Prop), P i v → LCg.NsObj oC m₂ → m₂ x = some v → Fr h₀ L h m → News h₀ L h ((I, oI) :: (C, oC) :: (D, LCg.lst ys) :: nw) → LCg.Off3 I C D nw → ((@Ne Nat I C) ∧ (@Ne Nat I D) ∧ (@Ne Nat C D)) →
      wpAny (model prog w) A (eval elt (compEnvC scope cl C env)) (LCg.CompEnd h₀ L m { s with heap := h, toks := tk } I oI C oC D (LCg.lst ys) S (fun y news' => LCg.CompRest prog w A h₀ L m env elt x scope cl s S P Fin k (i + 1) (ys ++ [y]) news')) E' { s with heap := h, toks := tk }) :
    LCg.CompRest prog w A h₀ L m env elt x scope cl s S P Fin (k + 1) i ys news := LCg.CompRest.succ (h news rfl)
theorem end3 {I C D T y d : Addr} {oT oy od : Obj} {s₁ : Shared} {oI oC oD : Obj} {S : List (Addr × Obj) → Prop} {rest : Value → List (Addr × Obj) → Prop} {v : Value} {h' : Heap} {tk : Nat} {nw : List (Addr × Obj)}
    (F : Fr h₀ L h' m) (N : News h₀ L h' ((T, oT) :: (y, oy) :: (d, od) :: (I, oI) :: (C, oC) :: (D, oD) :: nw))
    (a : @LT.lt Nat _ I d ∧ @LT.lt Nat _ C d ∧ @LT.lt Nat _ D d ∧ AllLt d nw) (b : @LT.lt Nat _ d y) (c : @LT.lt Nat _ y T) (off : LCg.Off3 I C D nw) (hS : S ((T, oT) :: (y, oy) :: (d, od) :: nw))
    (r : AllLt d nw → @LT.lt Nat _ d y → @LT.lt Nat _ y T → rest v ((T, oT) :: (y, oy) :: (d, od) :: nw)) :
    LCg.CompEnd h₀ L m s₁ I oI C oC D oD S rest v { s₁ with heap := h', toks := tk } := by
  obtain ⟨a1, a2, a3, a4⟩ := a
  refine LCg.CompEnd.intro F N ((T, oT) :: (y, oy) :: (d, od) :: nw) ?_ ?_ hS (r a4 b c)
  · intro q hq
    simp only [List.mem_cons] at hq ⊢
    rcases hq with h | h | h | h | h | h | h <;> simp [h]
  · refine ⟨⟨?_, ?_, ?_⟩, ⟨?_, ?_, ?_⟩, ⟨?_, ?_, ?_⟩, off⟩ <;> (dsimp only; omega)
theorem allLt_mem {d : Nat} : ∀ {l : List (Addr × Obj)}, AllLt d l → ∀ {p : Addr × Obj}, p ∈ l → @LT.lt Nat _ p.1 d
  | [], _, _, h => nomatch h
  | _ :: _, x, p, h => by
    rcases List.mem_cons.mp h with rfl | h
    · exact x.1
    · exact allLt_mem x.2 h
theorem off1_mem {D : Addr} : ∀ {l : List (Addr × Obj)}, LCg.Off1 D l → ∀ {p : Addr × Obj}, p ∈ l → @Ne Nat p.1 D
  | [], _, _, h => nomatch h
  | _ :: _, x, p, h => by
    rcases List.mem_cons.mp h with rfl | h
    · exact x.1
    · exact off1_mem x.2 h
theorem lt_keep {P : Prop} {d : Nat} {l : List (Addr × Obj)} {dr D : Addr} {n : Int} {tn : Tok} {c c2 : Nat} {vs : List Value} (a : AllLt d l) (m3 : (dr, listOf #[.int n tn, .ref D] c) ∈ l) (m4 : (D, listOf (List.toArray vs) c2) ∈ l)
    (k : @LT.lt Nat _ dr d → @LT.lt Nat _ D d → P) : P := k (allLt_mem a m3) (allLt_mem a m4)
theorem off_keep {P : Prop} {d : Addr} {l : List (Addr × Obj)} {dr D : Addr} {n : Int} {tn : Tok} {c c2 : Nat} {vs : List Value} (a : LCg.Off1 d l) (m3 : (dr, listOf #[.int n tn, .ref D] c) ∈ l) (m4 : (D, listOf (List.toArray vs) c2) ∈ l)
    (k : @Ne Nat dr d → @Ne Nat D d → P) : P := k (off1_mem a m3) (off1_mem a m4)
end

theorem law_end {h₀ h' : Heap} {L dr D : Addr} {u2 : Obj → Obj → List (Addr × Obj)} {m' m₀ : Str → Option Value} {x y1 y2 y3 : Str} {own news' : List (Addr × Obj)} {adr : List Addr} {s₁ : Shared} {tk : Nat} (F : Fr h₀ L h' m') (N : News h₀ L h' news')
    (nn : Int) (tn : Tok) (c1 c2 : Nat) (vs : List Value) (ns : List Int) (hst : St nn vs ns) (hn : ∀ p ∈ u2 (listOf #[.int nn tn, .ref D] c1) (listOf (List.toArray vs) c2), p ∈ news') (ho : ∀ p ∈ own, p ∈ news')
    (ha : (u2 (listOf #[.int nn tn, .ref D] c1) (listOf (List.toArray vs) c2)).map (·.1) = adr) (hm : ∀ z, z ≠ x → z ≠ y1 → z ≠ y2 → z ≠ y3 → m' z = m₀ z) :
    InvEndN h₀ L (LawInv dr D u2 m₀ x y1 y2 y3) own adr s₁ { s₁ with heap := h', toks := tk } :=
  InvEndN.intro F N ⟨⟨nn, tn, c1, c2, vs, ns, hst, rfl⟩, hm⟩ ha hn ho
theorem ans_eqb (kn kn' : Kn) (n : Int) (txt : Str) : ansOf kn n txt (kn'.num == kn.num) = ansOf kn n txt (kn.eqb kn') := by rw [eqb_num']
theorem end_post (ns : List Int) : PySem.Challenge.rw_bb0045_01.row.claim.post [ofPy (PyData.list (List.map PyData.int ns))] (.bool true) [ofPy (PyData.list (List.map PyData.int ns))] = true := by
  w_on; w_top on
  wrow_post
theorem end_raise (ns : List Int) : ∀ cls, PySem.Challenge.rw_bb0045_01.row.claim.raises [ofPy (PyData.list (List.map PyData.int ns))] cls = false := by
  w_on; w_top on
  refine raisesW_false ?_
  wrow_none_raised

end D3sec
end Mine
/- the walk of the law itself -/
namespace Mine
section lawsec

local macro_rules | `(tactic| walk_at "memr") => `(tactic| first | exact List.mem_cons_self | (refine List.mem_cons_of_mem _ ?_; walk_at "memr"))
local macro_rules | `(tactic| walk_at "call ref") => `(tactic| (k_here; (with_reducible show wpAny _ _ (call (Value.ref 273) _ _) _ _ _); k_dflt (refine wpAny_call ?_; refine' weakenC (take_F _ _ _ _ _ _ _ _ _ _ _ _ _ _ _ _ _ _ _ _ _ _ _ ?B ?F ?X ?T _ _ _ _ _ _ _ _ _ _ _ _ _ ?hst ?hk ?hk2 ?N ?U1 ?U2 ?hdD ?_) rfl rfl rfl rfl rfl; (case B => k_asm); (case F => k_asm); (case X => k_asm); (case T => k_asm); (case N => k_asm); (case U1 => k_updF); (case U2 => (intro o'; (try dsimp only); k_updF)); (case hst => first | assumption | exact st0 (by assumption) (by assumption)); (case hk => decide); (case hk2 => decide); (case hdD => k_ne)); intro i' t' n' tn' c1' c2' vs' ns' h' tk' hi0' hi1' hst' F' N'; (try dsimp only at N'); (try dsimp only)))
local macro_rules | `(tactic| walk_at "call ref") => `(tactic| (k_here; (with_reducible show wpAny _ _ (call (Value.ref 273) [_, Value.int 4 _] _) _ _ _); k_dflt (refine wpAny_call ?_; refine' weakenC (take_F _ _ _ _ _ _ _ _ _ _ _ _ _ _ _ _ _ _ _ _ _ _ _ ?B ?F ?X ?T _ _ _ _ _ _ _ _ _ _ _ _ _ ?hst ?hk ?hk2 ?N ?U1 ?U2 ?hdD ?_) rfl rfl rfl rfl rfl; (case B => k_asm); (case F => k_asm); (case X => k_asm); (case T => k_asm); (case N => k_asm); (case U1 => k_updF); (case U2 => (intro o'; (try dsimp only); k_updF)); (case hst => first | assumption | exact st0 (by assumption) (by assumption)); (case hk => decide); (case hk2 => decide); (case hdD => k_ne)); intro i' t' n' tn' c1' c2' vs' ns' h' tk' hi0' hi1' hst' F' N'; (try dsimp only at N'); (obtain ⟨kn', hkn'⟩ := kn_of hi0' hi1'); subst hkn'; (try dsimp only)))
local macro_rules | `(tactic| walk_at "subscriptTail") => `(tactic| (k_here; (with_reducible show wpAny _ _ (subscriptTail _ _ (Value.ref _) (Value.int _ _)) _ _ _); k_dflt (refine' menu_hint ?N ?m ?h0 ?h1 ?_ ?hs; (case N => k_asm); (case m => with_reducible walk_at "memr"); (case h0 => assumption); (case h1 => assumption); (case hs => with_unfolding_all rfl)); intro hi' t'; walk_say "HINT"))
local macro_rules | `(tactic| walk_at "subscriptTail") => `(tactic| (k_here; (with_reducible show wpAny _ _ (subscriptTail _ _ (Value.ref _) (Value.int _ _)) _ _ _); k_dflt (refine' menu_thing ?N ?m ?h0 ?h1 ?_ ?hs; (case N => k_asm); (case m => with_reducible walk_at "memr"); (case h0 => assumption); (case h1 => assumption); (case hs => with_unfolding_all rfl)); intro th' t'; walk_say "THING"))
local macro_rules | `(tactic| walk_at "subscriptTail") => `(tactic| (k_here; (with_reducible show wpAny _ _ (subscriptTail _ _ (Value.ref _) (Value.int _ _)) _ _ _); k_dflt (refine' menu_name ?N ?m ?h0 ?h1 ?_ ?hs; (case N => k_asm); (case m => with_reducible walk_at "memr"); (case h0 => assumption); (case h1 => assumption); (case hs => with_unfolding_all rfl)); intro nm' t' hnm'; walk_say "NAME"))
local macro_rules | `(tactic| walk_at "call ref") => `(tactic| (k_here; (with_reducible show wpAny _ _ (call (Value.ref 280) _ _) _ _ _); k_dflt (refine wpAny_call ?_; first | (refine' weakenC (made_call _ _ _ _ _ _ _ _ _ _ _ _ _ _ _ _ _ _ _ _ _ _ _ ?B ?F ?X ?T .pl .no _ _ ?hh ?hn _ (0 : Nat) _ ?N ?_) rfl rfl rfl rfl rfl; (case B => k_asm); (case F => k_asm); (case X => k_asm); (case T => k_asm); (case N => k_asm); (case hh => first | rfl | exact hand_nm _ _); (case hn => first | rfl | exact hand_nm _ _)) | (refine' weakenC (made_call _ _ _ _ _ _ _ _ _ _ _ _ _ _ _ _ _ _ _ _ _ _ _ ?B ?F ?X ?T .ch .no _ _ ?hh ?hn _ (0 : Nat) _ ?N ?_) rfl rfl rfl rfl rfl; (case B => k_asm); (case F => k_asm); (case X => k_asm); (case T => k_asm); (case N => k_asm); (case hh => first | rfl | exact hand_nm _ _); (case hn => first | rfl | exact hand_nm _ _)) | (refine' weakenC (made_call _ _ _ _ _ _ _ _ _ _ _ _ _ _ _ _ _ _ _ _ _ _ _ ?B ?F ?X ?T .db .no _ _ ?hh ?hn _ (0 : Nat) _ ?N ?_) rfl rfl rfl rfl rfl; (case B => k_asm); (case F => k_asm); (case X => k_asm); (case T => k_asm); (case N => k_asm); (case hh => first | rfl | exact hand_nm _ _); (case hn => first | rfl | exact hand_nm _ _)) | (refine' weakenC (made_call _ _ _ _ _ _ _ _ _ _ _ _ _ _ _ _ _ _ _ _ _ _ _ ?B ?F ?X ?T .st .no _ _ ?hh ?hn _ (0 : Nat) _ ?N ?_) rfl rfl rfl rfl rfl; (case B => k_asm); (case F => k_asm); (case X => k_asm); (case T => k_asm); (case N => k_asm); (case hh => first | rfl | exact hand_nm _ _); (case hn => first | rfl | exact hand_nm _ _))); intro x' d' t3' h' tk' l1 l2 F' N'; (try k_lt l1); (try k_lt2 l2); (try dsimp only)))
local macro_rules | `(tactic| walk_at "call ref") => `(tactic| (k_here; (with_reducible show wpAny _ _ (call (Value.ref 280) _ _) _ _ _); k_dflt (refine wpAny_call ?_; first | (refine' weakenC (made_call _ _ _ _ _ _ _ _ _ _ _ _ _ _ _ _ _ _ _ _ _ _ _ ?B ?F ?X ?T _ _ _ _ ?hh ?hn _ _ _ ?N ?_) rfl rfl rfl rfl rfl; (case B => k_asm); (case F => k_asm); (case X => k_asm); (case T => k_asm); (case N => k_asm); (case hh => first | rfl | exact hand_nm _ _); (case hn => first | rfl | exact hand_nm _ _))); intro x' d' t3' h' tk' l1 l2 F' N'; (try k_lt l1); (try k_lt2 l2); k_dflt (refine' keep4 N' ?m1 ?m2 ?m3 ?m4 ?o1 ?o2 ?o3 ?o4 ?_; (case m1 => with_reducible walk_at "memr"); (case m2 => walk_at "memr"); (case m3 => walk_at "memr"); (case m4 => walk_at "memr"); (case o1 => omega); (case o2 => omega); (case o3 => omega); (case o4 => omega)); intro N2' o1' o2' o3' o4'; clear N'; (repeat ((rename @LT.lt Nat _ _ _ ∧ _ => lx); clear lx)); (try dsimp only)))
local macro_rules | `(tactic| walk_at "compareOp NotEq str str") => `(tactic| (refine' ne_same ?e ?_; (case e => assumption)))
local macro_rules | `(tactic| walk_at "call ref") => `(tactic| (k_here; (with_reducible show wpAny _ _ (call (Value.ref 294) _ _) _ _ _); k_dflt (refine wpAny_call ?_; refine' weakenC (lmsg_call _ _ _ _ _ _ _ _ _ _ _ _ _ _ _ _ _ _ _ _ _ _ _ ?B ?F ?X ?T _ _ _ ?hnm _ _ _ _ ?N ?_) rfl rfl rfl rfl rfl; (case B => k_asm); (case F => k_asm); (case X => k_asm); (case T => k_asm); (case N => k_asm); (case hnm => assumption)); intro u' t' h' tk' hu' F' N'; (try dsimp only)))
local macro_rules | `(tactic| walk_at "call ref") => `(tactic| (k_here; (with_reducible show wpAny _ _ (call (Value.ref 301) _ _) _ _ _); k_dflt (refine wpAny_call ?_; refine' weakenC (ltext_call _ _ _ _ _ _ _ _ _ _ _ _ _ _ _ _ _ _ _ _ _ _ _ ?B ?F ?X ?T _ _ _ _ ?hnm _ _ _ _ _ ?N ?_) rfl rfl rfl rfl rfl; (case B => k_asm); (case F => k_asm); (case X => k_asm); (case T => k_asm); (case N => k_asm); (case hnm => assumption)); intro u' t' h' tk' hu' F' N'; subst hu'; (try dsimp only)))
local macro_rules | `(tactic| walk_at "getAttr ref") => `(tactic| (k_here; (with_reducible show wpAny _ _ (getAttr _ ("_undefined_message" : Str) _) _ _ _); k_dflt (refine' weakenW (msg_get _ _ _ _ _ _ _ _ _ _ _ _ _ _ _ _ _ _ _ _ _ _ _ _ ?B ?F ?X ?T _ _ _ ?kf ?sf _ _ _ _ _ _ _ _ ?N ?hx ?hdx ?_) rfl rfl rfl rfl rfl; (case B => k_asm); (case F => k_asm); (case X => k_asm); (case T => k_asm); (case N => k_asm); (case hx => k_mem); (case hdx => k_mem); (case kf => exact kdn _ _); (case sf => exact sd _)); intro t' h' tk' F' N'; (try dsimp only)))
local macro_rules | `(tactic| walk_at "compareOp NotEq str str") => `(tactic| (refine' ne_same ?e ?_; (case e => assumption)))
local macro_rules | `(tactic| walk_at "CompRest") => `(tactic| (with_unfolding_all (refine succ_gen ?_; intro nw' hnw' v' I' oI' C' oC' D' m' h' tk' E' hv' hC' hx' F' N' off' ne'; (obtain ⟨t9', hv9'⟩ := hv'; subst hv9')); walk_say "TURN"))
local macro_rules | `(tactic| walk_at "CompEnd") => `(tactic| (k_dflt (refine' end3 ?F ?N ?a ?b ?c ?off ?S ?_; (case F => assumption); (case N => assumption); (case a => assumption); (case b => assumption); (case off => assumption); (case S => lcg_src); (case c => omega)); intro a4' b4' c4'; (repeat ((rename @LT.lt Nat _ _ _ ∧ _ => lx); clear lx)); (repeat ((rename @Ne Nat _ _ ∧ _ => lx); clear lx))))
local macro_rules | `(tactic| walk_at "FinA") => `(tactic| ((unfold LCg.FinA); intro D' h' tk' F' N' o1'; subst_vars; (repeat ((rename AllLt _ _ => la); k_dflt (refine' lt_keep la ?m3 ?m4 ?_; (case m3 => walk_at "memr"); (case m4 => walk_at "memr")); intro p1' p2'; clear la)); k_dflt (refine' off_keep o1' ?m3 ?m4 ?_; (case m3 => walk_at "memr"); (case m4 => walk_at "memr")); intro p1' p2'; clear o1'; (try simp only [List.nil_append, List.cons_append] at N'); (try dsimp only)))
local macro_rules | `(tactic| walk_at "pyIter ref") => `(tactic| ((with_reducible show wpAny _ _ (pyIter (Value.ref _)) (fun it s₂ => LoopAtV _ _ _ _ _ ("turn" : Str) _ _ _ it s₂) _ _); (rename Fr _ _ _ _ => lF'); (rename News _ _ _ _ => lN'); (rename IsRange _ _ _ _ _ _ _ _ => rgX); (with_unfolding_all refine' loop_law (y1 := Str.ofString "how") (y2 := Str.ofString "k") (y3 := Str.ofString "other") (by rfl) rgX ?small ?hn lF' lN' ?md ?mD ?hst ?U1 ?U2 ?_ ?_; (case small => (refine small_one ?_ ?_ ?_ ?_ <;> omega)); (case hn => exact rangeSize_nat _ _); (case md => walk_at "memr"); (case mD => walk_at "memr"); (case hst => assumption); (case U1 => k_updF); (case U2 => (intro o'; (try dsimp only); k_updF))); (focus (intro k' t' nn' tn' c1' c2' vs' ns' uh' uk' uo' h' tk' own' hst' hoff' F' N'; clear lF' lN'; (try dsimp only at F'); (try dsimp only at N'); (try simp only [List.nil_append, List.cons_append, List.append_nil] at N'); walk_say "LOOP")); rotate_left; (focus (intro nn' tn' c1' c2' vs' ns' ux' uh' uk' uo' h' tk' hst' F' N'; clear lF' lN'; (try dsimp only at F'); (try dsimp only at N'); walk_say "AFTERLOOP")); rotate_right; (all_goals (try k_fold))))
local macro_rules | `(tactic| walk_at "InvEndN") => `(tactic| (k_dflt (refine' law_end ?F ?N _ _ _ _ _ _ ?hst ?hn ?ho ?ha ?hm; (case F => assumption); (case N => assumption); (case hn => ((try dsimp only); k_allIn)); (case hst => assumption); (case ho => (intro p hp; k_ownIn)); (case ha => rfl); (case hm => (intro z h1 h2 h3 h4; simp only [if_neg h1, if_neg h2, if_neg h3, if_neg h4]))); walk_say "TURNEND"))
local macro_rules | `(tactic| walk_at "subscriptTail") => `(tactic| (k_here; (with_reducible show wpAny _ _ (subscriptTail _ _ (Value.ref _) (Value.int _ _)) _ _ _); k_dflt (refine' menu_oth ?N ?hi ?m ?h0 ?h1 ?T0 ?T1 ?T2 ?T3 ?v0 ?v1 ?v2 ?v3 ?y0 ?y1 ?y2 ?y3 ?d0 ?d1 ?d2 ?d3 ?_ ?hs; (case N => k_asm); (case m => walk_at "memr"); (case hi => exact rfl); (case h0 => omega); (case h1 => omega); (case T0 => walk_at "memr"); (case T1 => walk_at "memr"); (case T2 => walk_at "memr"); (case T3 => walk_at "memr"); (case v0 => rfl); (case v1 => rfl); (case v2 => rfl); (case v3 => rfl); (case y0 => walk_at "memr"); (case y1 => walk_at "memr"); (case y2 => walk_at "memr"); (case y3 => walk_at "memr"); (case d0 => walk_at "memr"); (case d1 => walk_at "memr"); (case d2 => walk_at "memr"); (case d3 => walk_at "memr"); (case hs => with_unfolding_all rfl)); intro kn2' T' y' dy' tT' t4' t5' t6' hk2' N2'; walk_say "OTHERS"))
local macro_rules | `(tactic| walk_at "call ref") => `(tactic| (k_here; (with_reducible show wpAny _ _ (call (Value.ref 313) _ _) _ _ _); k_dflt (refine wpAny_call ?_; refine' weakenC (done_F _ _ _ _ _ _ _ _ _ _ _ _ _ _ _ _ _ _ _ _ ?B ?F ?X ?T _ _ _ _ _ _ _ ?hnm _ _ _ _ _ _ _ _ _ ?hk _ ?h0 ?h1 _ ?N ?mx ?mdx ?my ?mdy ?_) rfl rfl rfl rfl rfl; (case B => k_asm); (case F => k_asm); (case X => k_asm); (case T => k_asm); (case N => k_asm); (case mx => walk_at "memr"); (case mdx => walk_at "memr"); (case my => walk_at "memr"); (case mdy => walk_at "memr"); (case hnm => assumption); (case hk => (intro hk9; omega)); (case h0 => omega); (case h1 => omega)); intro u' n2' h' tk' ok' F' N'; (try dsimp only); walk_say "DONE"))
local macro_rules | `(tactic| walk_at "call ref") => `(tactic| (k_here; (with_reducible show wpAny _ _ (call (Value.ref 313) _ _) _ _ _); k_dflt (refine wpAny_call ?_; refine' weakenC (done_G _ _ _ _ _ _ _ _ _ _ _ _ _ _ _ _ _ _ _ _ ?B ?F ?X ?T _ _ _ _ _ _ _ ?hnm _ _ _ _ ?h0 ?h1 _ ?N ?mx ?mdx ?_) rfl rfl rfl rfl rfl; (case B => k_asm); (case F => k_asm); (case X => k_asm); (case T => k_asm); (case N => k_asm); (case mx => walk_at "memr"); (case mdx => walk_at "memr"); (case hnm => assumption); (case h0 => decide); (case h1 => decide)); intro u' n2' h' tk' ok' F' N'; (try dsimp only); walk_say "DONE ALIAS"))
local macro_rules | `(tactic| walk_at "call ref") => `(tactic| (k_here; (with_reducible show wpAny _ _ (call (Value.ref 320) _ _) _ _ _); k_dflt (refine wpAny_call ?_; refine' weakenC (due_call _ _ _ _ _ _ _ _ _ _ _ _ _ _ _ _ _ _ _ _ _ _ _ ?B ?F ?X ?T _ _ ?h0 ?h1 _ _ _ _ _ _ ?N ?_) rfl rfl rfl rfl rfl; (case B => k_asm); (case F => k_asm); (case X => k_asm); (case T => k_asm); (case N => k_asm); (case h0 => first | decide | omega); (case h1 => first | decide | omega)); intro u' n2' h' tk' ok' F' N'; (try dsimp only); walk_say "DUE"))
local macro_rules | `(tactic| walk_at "compareOp NotEq") => `(tactic| (k_here; k_dflt (refine' ne_ans ?k1 ?k2 ?e ?N ?hu ?_; (case N => k_asm); (case k1 => assumption); (case k2 => assumption); (case e => first | (with_reducible rfl) | exact ans_eqb _ _ _ _); (case hu => units_room)); intro N2'; walk_say "NE"))
local macro_rules | `(tactic| wrow_close) => `(tactic| (w_end; dsimp only; (rename Fr _ _ _ _ => lF'); (rename Shared.gens _ = _ => lG); exact goodW_bool (b := true) lF' lG (end_raise _) (end_post _); walk_say "END"))

set_option maxHeartbeats 0 in
theorem law0 : PySem.Challenge.rw_bb0045_01.Holds := Mine.hd (by
  w_on; w_top on
  w_strict (k_go0; (all_goals try k_fold); k_steps))
end lawsec
end Mine
theorem PySem.Challenge.cw_bb0045_01_holds : PySem.Challenge.rw_bb0045_01.Holds :=
  Mine.law0
