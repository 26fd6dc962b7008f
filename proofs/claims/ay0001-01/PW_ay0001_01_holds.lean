import PyProof.Rows.All
import Wide.All
import OpenK.AllK
import Wide.FinOn
import PySem.Challenge.RW_ay0001_01
set_option Elab.async false
section
open PySem PySem.W PyProof.Rows
namespace Mine

/-- the surroundings of a call: a plain frame on top -/
abbrev arn (dp un : Nat) (gd : Option (List Code)) (env : Env) (outer : List Env) : Around := { handled := none, depth := dp, frames := some (env :: outer), guards := gd, units := un }

/-- what a call finds: the frames below, the frame, the ledger, the top -/
structure Ctx (K : Params → Frag) (V : Program) (w : World) (s : Shared) (h₀ : Heap) (L : Addr) (m : Str → Option Value) (news : List (Addr × Obj)) (env : Env) (outer : List Env) : Prop where
  B : ∃ A₀ base, Below A₀ base outer h₀
  F : Fr h₀ L s.heap m
  X : (K w.params).In h₀
  N : News h₀ L s.heap news
  T : ∃ loose mean mg mb, Top V loose mean mg mb h₀
  hf : env.frame = some L
  hk : env.scope.kind = .function

theorem news_fun {h₀ h : Heap} {L : Addr} {news : List (Addr × Obj)} (N : News h₀ L h news) {p q : Addr × Obj} (hp : p ∈ news) (hq : q ∈ news) (e : p.1 = q.1) : p = q := by
  have a := (N p hp).1
  have b := (N q hq).1
  rw [e, b] at a
  exact Prod.ext e (Option.some.inj a).symm

theorem news_sub {h₀ h : Heap} {L : Addr} {news news' : List (Addr × Obj)} (N : News h₀ L h news) (hs : ∀ p ∈ news', p ∈ news) : News h₀ L h news' := fun p hp => N p (hs p hp)

theorem news_shape {h₀ h : Heap} {L : Addr} {news : List (Addr × Obj)} (N : News h₀ L h news) (ws : List (Addr × Obj)) (hw : ∀ p ∈ ws, p ∈ news) :
    ∃ rest, News h₀ L h (ws ++ rest) ∧ OwnOff rest (ws.map (·.1)) ∧ (∀ p ∈ news, p ∈ ws ++ rest) ∧ ∀ p ∈ rest, p ∈ news := by
  refine ⟨news.filter fun p => !(ws.map (·.1)).contains p.1, fun p hp => ?_, fun p hp b hb e => ?_, fun p hp => ?_, fun p hp => (List.mem_filter.mp hp).1⟩
  · rcases List.mem_append.mp hp with h | h
    · exact N p (hw p h)
    · exact N p (List.mem_filter.mp h).1
  · have := (List.mem_filter.mp hp).2
    rw [Bool.not_eq_true', ← Bool.not_eq_true, List.contains_iff_mem] at this
    exact this (e ▸ hb)
  · by_cases h : p.1 ∈ ws.map (·.1)
    · obtain ⟨q, hq, e⟩ := List.mem_map.mp h
      have := news_fun N hp (hw q hq) e.symm
      exact List.mem_append_left _ (this ▸ hq)
    · refine List.mem_append_right _ (List.mem_filter.mpr ⟨hp, ?_⟩)
      rw [Bool.not_eq_true', ← Bool.not_eq_true, List.contains_iff_mem]
      exact h

theorem news_ne {h₀ h : Heap} {L : Addr} {news : List (Addr × Obj)} (N : News h₀ L h news) {a b : Addr} {oa ob : Obj} (ha : (a, oa) ∈ news) (hb : (b, ob) ∈ news) (h : oa.cls ≠ ob.cls) : @Ne Nat a b := fun e => by
  have := news_fun N ha hb e
  exact h (by rw [(Prod.mk.inj this).2])
theorem news_neT {h₀ h : Heap} {L : Addr} {news : List (Addr × Obj)} (N : News h₀ L h news) {a b : Addr} {oa ob : Obj} (ha : (a, oa) ∈ news) (hb : (b, ob) ∈ news) {x y : String} (hx : oa.cls = .type x) (hy : ob.cls = .type y) (h : x ≠ y) : @Ne Nat a b :=
  news_ne N ha hb fun e => by rw [hx, hy] at e; exact h (Value.type.inj e)
theorem news_neI {h₀ h : Heap} {L : Addr} {news : List (Addr × Obj)} (N : News h₀ L h news) {a b : Addr} {oa ob : Obj} (ha : (a, oa) ∈ news) (hb : (b, ob) ∈ news) {c : Addr} {y : String} (hx : oa.cls = .ref c) (hy : ob.cls = .type y) : @Ne Nat a b :=
  news_ne N ha hb fun e => by rw [hx, hy] at e; cases e
theorem allLt_ne {d e : Nat} {l : List (Addr × Obj)} (h : AllLt d l) (he : d ≤ e) : ∀ p ∈ l, p.1 ≠ e := by
  induction l with
  | nil => intro p hp; cases hp
  | cons a r ih =>
    intro p hp q
    rcases List.mem_cons.mp hp with h1 | h1
    · have h2 : @LT.lt Nat _ a.1 d := h.1
      rw [← h1, q] at h2
      exact absurd (Nat.lt_of_lt_of_le h2 he) (Nat.lt_irrefl _)
    · exact ih h.2 p h1 q
theorem set_cls {prog : Program} {w : World} {o : Obj} {S : Int → Bool} {n : Nat} (h : o.SetObjOf (PySem.intKind prog w) S n) : o.cls = .type "set" := h.1.1
abbrev ent (P : Params) (n : String) (t : Tok) (v : Value) : DictEntry := { hash := PyData.keyHash P (Str.ofString n), key := .str (Str.ofString n) t, val := v }
abbrev winD (P : Params) (lo : Int) (sR : Addr) (t1 t2 t3 t4 t5 : Tok) : Obj := dictOf [ent P "_lower" t1 (.int lo t2), ent P "_received" t3 (.ref sR), ent P "_size" t4 (.int 128 t5)] 3
abbrev prg : Program := PySem.Challenge.rw_ay0001_01.row.prog
/-- the window's objects: the object x, its dict dw, its set sR -/
noncomputable def WinAt (w : World) (news : List (Addr × Obj)) (x dw sR : Addr) (lo : Int) (S : Int → Bool) (nR : Nat) : Prop :=
  ∃ (t1 t2 t3 t4 t5 : Tok) (so : Obj), (x, instObj 50 dw) ∈ news ∧ (dw, winD w.params lo sR t1 t2 t3 t4 t5) ∈ news ∧ (sR, so) ∈ news ∧ so.SetObjOf (PySem.intKind prg w) S nR
theorem set_add_fresh {prog : Program} {w : World} {A : Around} {E : Value → Shared → Prop} {s : Shared} {h₀ : Heap} {L sa : Addr} {m : Str → Option Value} {news : List (Addr × Obj)} {g : Obj → List (Addr × Obj)} {so : Obj} {S : Int → Bool} {n : Nat} {k : Int} {t : Tok}
    {Q : Value → Shared → Prop} (F : Fr h₀ L s.heap m) (N : News h₀ L s.heap news) (U : UpdF sa so news g) (hso : so.SetObjOf (PySem.intKind prog w) S n) (hb : n + 1 < scanBound) (hf : S k = false)
    (h : ∀ h' so', Fr h₀ L h' m → News h₀ L h' (g so') → so'.SetObjOf (PySem.intKind prog w) (fun k' => S k' || decide (k' = k)) (n + 1) → Q .none { s with heap := h', toks := s.toks + 1 }) :
    wpAny (model prog w) A (call (.builtin "set.add") [.ref sa, .int k t]) Q E s :=
  kse_add (knd := PySem.intKind prog w) F N U hso hb (intKind_is _ _ _ _) rfl fun h' so' F' N' x => h h' so' F' N' (by rw [hf] at x; exact x)
end Mine
end
section
open PySem PySem.W PySem.Calls PyProof.Rows
open Sem (wp)
set_option maxRecDepth 100000
namespace Mine

/-- the ids of the built-ins that may hold a bytearray while they run -/
noncomputable def badIds : List String := Builtin.Bytes.decodersThatHold ++ ["bytearray.__contains__", "bytearray.__mod__", "bytearray.__rmod__", "_struct.pack_into.held", "bytearray.find.held"]
noncomputable def okCode : Code → Bool
  | .builtin id _ => !badIds.contains id
  | _ => true
noncomputable def Clean (Γ : PySem.Ctx) : Prop := ∀ x ∈ Γ.code :: Γ.below.map (·.1), okCode x = true
theorem Clean.enter {Γ : PySem.Ctx} (h : Clean Γ) {c : Code} {hd : Option Value} {p : Pos} (hc : okCode c = true) : Clean (Γ.enter c hd p) := fun x hx => by
  rcases List.mem_cons.mp hx with rfl | hx
  · exact hc
  · exact h x hx
theorem Clean.goto {Γ : PySem.Ctx} (h : Clean Γ) {c : Code} (hc : okCode c = true) : Clean (Γ.goto c) := fun x hx => by
  rcases List.mem_cons.mp hx with rfl | hx
  · exact hc
  · exact h x (.tail _ hx)

noncomputable def wpP {α : Type} (M : Model) (A : Around) (t : Sem α) (Q : α → Shared → Prop) (E : Value → Shared → Prop) (s : Shared) : Prop :=
  ∀ Γ p, Γ.In A → Clean Γ → wp M Γ t (fun a _ s' => Q a s') (fun e _ s' => E e s') p s
noncomputable def codeP (M : Model) (A : Around) (c : Code) (R : Result → Shared → Prop) (s : Shared) : Prop :=
  ∀ Γ p, Γ.code = c → Γ.Below A → Clean Γ → wpCode M Γ R p s

section
variable {α β : Type} {M : Model} {A : Around} {E : Value → Shared → Prop} {s : Shared}
theorem wpP_any {t : Sem α} {Q : α → Shared → Prop} (h : wpAny M A t Q E s) : wpP M A t Q E s := fun Γ p hΓ _ => h Γ p hΓ
theorem codeP_any {c : Code} {R : Result → Shared → Prop} (h : codeAny M A c R s) : codeP M A c R s := fun Γ p hc hΓ _ => h Γ p hc hΓ
theorem wpP_mono {t : Sem α} {Q Q' : α → Shared → Prop} {E' : Value → Shared → Prop} (h : wpP M A t Q E s) (hQ : ∀ a s, Q a s → Q' a s) (hE : ∀ e s, E e s → E' e s) : wpP M A t Q' E' s :=
  fun Γ p hΓ hc => Sem.wp_mono M Γ t (fun a _ s => hQ a s) (fun e _ s => hE e s) p s (h Γ p hΓ hc)
theorem codeP_mono {c : Code} {R R' : Result → Shared → Prop} (h : codeP M A c R s) (hR : ∀ r s, R r s → R' r s) : codeP M A c R' s := fun Γ p hc hΓ hcl => wpCode_mono hR (h Γ p hc hΓ hcl)
theorem wpP_bind {m : Sem α} {f : α → Sem β} {Q : β → Shared → Prop} (h : wpP M A m (fun a s' => wpP M A (f a) Q E s') E s) : wpP M A (m >>= f) Q E s := fun Γ p hΓ hc => by
  rw [Sem.wp_bind']
  exact Sem.wp_mono M Γ m (fun a p' s' h' => h' Γ p' hΓ hc) (fun _ _ _ h' => h') p s (h Γ p hΓ hc)
theorem wpP_bindA {m : Sem α} {f : α → Sem β} {Q : β → Shared → Prop} (h : wpAny M A m (fun a s' => wpP M A (f a) Q E s') E s) : wpP M A (m >>= f) Q E s := wpP_bind (wpP_any h)
theorem wpP_pure {a : α} {Q : α → Shared → Prop} (h : Q a s) : wpP M A (pure a) Q E s := fun _ _ _ _ => h
theorem wpP_holding {vs : List Value} {m : Sem α} {Q : α → Shared → Prop} (h : wpP M A m Q E s) : wpP M A (holding vs m) Q E s :=
  fun Γ p hΓ hc => by rw [Sem.wp_holding]; exact h Γ p hΓ hc
theorem wpP_keep {vs : List Value} {m : Sem α} {Q : α → Shared → Prop} (h : wpP M A m Q E s) : wpP M A (m.keep vs) Q E s :=
  fun Γ p hΓ hc => by rw [Sem.wp_keep]; exact h Γ p hΓ hc
theorem wpP_onRaise {m : Sem α} {k : Value → Sem Unit} {Q : α → Shared → Prop}
    (h : wpP M A m Q (fun e s' => wpAny M A (k e) (fun _ s'' => E e s'') E s') s) : wpP M A (m.onRaise k) Q E s := fun Γ p hΓ hc => by
  rw [Sem.wp_onRaise]
  exact Sem.wp_mono M Γ m (fun _ _ _ h' => h') (fun e p' s' h' => h' Γ p' hΓ) p s (h Γ p hΓ hc)
theorem wpP_eq {t t' : Sem α} {Q : α → Shared → Prop} (e : t = t') (h : wpP M A t' Q E s) : wpP M A t Q E s := e ▸ h
theorem wpP_run {c : Code} {h : Option Value} {Q : Flow → Shared → Prop} (hok : okCode c = true)
    (hc : codeP M (A.mark h) c (fun r s' => match r with | .ok f => Q f s' | .error e => E e s') s) (hnb : h ≠ some byPass := by intro x; cases x) : wpP M A (run c h) Q E s :=
  fun Γ p hΓ hcl => by rw [Sem.wp_run]; exact hc _ p rfl (hΓ.enter c h p hnb) (hcl.enter hok)
theorem wpP_runValue {c : Code} {Q : Value → Shared → Prop} (hok : okCode c = true)
    (hc : codeP M A c (fun r s' => match r with | .ok (.ret v) => Q v s' | .ok _ => False | .error e => E e s') s) : wpP M A (runValue c) Q E s :=
  fun Γ p hΓ hcl => by rw [Sem.wp_runValue]; exact hc _ p rfl (hΓ.enter c none p (by intro x; cases x)) (hcl.enter hok)
theorem wpP_call {f : Value} {pos : List Value} {kw : List (Str × Value)} {Q : Value → Shared → Prop}
    (hc : codeP M A (.call f ⟨pos, kw⟩) (fun r s' => match r with | .ok (.ret v) => Q v s' | .ok _ => False | .error e => E e s') s) : wpP M A (call f pos kw) Q E s := wpP_runValue rfl hc
theorem codeP_tree {c : Code} {R : Result → Shared → Prop}
    (h : wpP M (A.under c) (M.den c) (fun fin s' => match fin with | .done f => R (.ok f) s' | .again c' => c'.quiet = true ∧ okCode c' = true ∧ codeP M A c' R s')
      (fun e s' => R (.error e) s') s) : codeP M A c R s := fun Γ p hc hΓ hcl => by
  rw [wpCode_iff_wp, hc]
  refine Sem.wp_mono M Γ _ (fun fin p' s' h' => ?_) (fun _ _ _ h' => h') p s (h Γ p (hc ▸ hΓ.in) hcl)
  cases fin with
  | done f => exact h'
  | again c' => exact ⟨h'.1, h'.2.2 (Γ.goto c') p' rfl (hΓ.goto c') (hcl.goto h'.2.1)⟩
theorem wpP_exported {self : Value} {Q : Bool → Shared → Prop} (h : Q false s) : wpP M A (Builtin.Bytes.exported self) Q E s := fun Γ p hΓ hcl => by
  have key : ∀ (f : Code × Pos → Bool), (∀ c p, okCode c = true → f (c, p) = false) → ((Γ.code, p) :: Γ.below).any f = false := by
    intro f hf
    rw [List.any_eq_false]
    intro x hx
    have : okCode x.1 = true := hcl x.1 (by
      rcases List.mem_cons.mp hx with rfl | hx
      · exact .head _
      · exact .tail _ (List.mem_map_of_mem hx))
    rw [hf x.1 x.2 this]; exact Bool.false_ne_true
  unfold Builtin.Bytes.exported
  show Q (List.any ((Γ.code, p) :: Γ.below) _) s
  rw [key]
  · exact h
  · intro c p hok
    cases c with
    | builtin id args =>
      have hid : badIds.contains id = false := by simpa [okCode] using hok
      split
      all_goals first
        | (rename_i e; injection e with e1 e2; injection e1 with e3 e4; subst e3; exact absurd hid (by decide))
        | rfl
        | skip
      · rename_i e
        injection e with e1 e2; injection e1 with e3 e4; subst e3
        have : Builtin.Bytes.decodersThatHold.contains id = false := by
          cases q : Builtin.Bytes.decodersThatHold.contains id with
          | false => rfl
          | true =>
            rw [← Bool.not_eq_true, List.contains_iff_mem] at hid
            exact absurd (List.mem_append_left _ (List.contains_iff_mem.mp q)) hid
        rw [this, Bool.and_false]
    | _ => rfl
end
end Mine
end
section
open PySem PySem.W PySem.Calls PyProof.Rows
open Sem (wp)
set_option maxRecDepth 100000
namespace Mine
namespace BA
theorem slot_init : Slot "bytearray" "__init__" "bytearray.__init__" :=
  .of (owner := "bytearray") (n := "__init__") (by rw [typeLookup_type, builtinLookup_eq_fast]; kernel_rfl) (by decide +kernel) (by decide +kernel) (by decide +kernel)
    (by first | exact .inl (by decide +kernel) | exact .inr (by decide +kernel)) (by rw [isSubtype_type]; kernel_rfl)
theorem mro : mroOf (.type "bytearray") = pure [.type "bytearray", .type "object"] := by rw [mroOf_type]; kernel_rfl
theorem lookup_new : typeLookup (.type "bytearray") "__new__" = pure (some (.builtin "bytearray.__new__")) := by rw [typeLookup_type, builtinLookup_eq_fast]; kernel_rfl
theorem called : TypeCalled "bytearray" "bytearray.__new__" "bytearray.__init__" :=
  ⟨by decide +kernel, by decide +kernel, ⟨_, _, mro⟩, madeBy_type mro lookup_new (by decide +kernel), by decide +kernel, by rw [isSubtype_type]; kernel_rfl, slot_init⟩
theorem typeCall_1 (a : Value) : checkTypeCall "bytearray" ⟨[a], []⟩ = pure () := by kernel_rfl
theorem newCall_1 (a : Value) : checkBuiltinCall "bytearray.__new__" ⟨[.type "bytearray", a], []⟩ = pure () := by kernel_rfl
theorem entry_new : entryFor table "bytearray.__new__" = some Builtin.«list.__new__» :=
  entryFor_alias (id' := "list.__new__") (by kernel_rfl) (by first | rfl | decide +kernel | (unfold String.splitOn; simp +decide [String.splitOnAux])) (by decide +kernel) (by kernel_rfl)
theorem plain_new : plainId "bytearray.__new__" = true := by decide +kernel
theorem entry_init : entryFor table "bytearray.__init__" = some Builtin.«bytearray.__init__» := entryFor_of_tree (by kernel_rfl)
theorem args_init (o a : Value) : argsOk "bytearray.__init__" ⟨[o, a], []⟩ := by unfold argsOk; kernel_rfl
set_option maxRecDepth 1000000 in
set_option maxHeartbeats 4000000 in
theorem owner_new : ("bytearray.__new__".splitOn ".__new__").headD "" = "bytearray" := by simp +decide [String.splitOn, String.splitOnAux]
theorem sub_self : isSubtype (.type "bytearray") (.type "bytearray") = pure true := by rw [isSubtype_type]; kernel_rfl
end BA
section
variable {prog : Program} {w : World} {A : Around} {E : Value → Shared → Prop} {s : Shared}
theorem code_bytearray_new (a : Value) {Q₁ : Value → Shared → Prop}
    (h : Q₁ (.ref s.heap.objs.size) { s with heap := s.heap.push { cls := .type "bytearray", data := .bytearray #[] } }) :
    codeAny (model prog w) A (.call (.builtin "bytearray.__new__") ⟨[.type "bytearray", a], []⟩) (wants Q₁ E) s := by
  refine codeAny_of_tree ?_
  show wpAny _ A.in1 (do checkBuiltinCall "bytearray.__new__" ⟨[.type "bytearray", a], []⟩; again (.builtin "bytearray.__new__" ⟨[.type "bytearray", a], []⟩)) _ _ s
  refine wpAny_bind (wpAny_of_eq (BA.newCall_1 a) (wpAny_pure ⟨plainId_quiet BA.plain_new _, codeAny_builtin_stack BA.entry_new rfl fun p st => ?_⟩))
  rw [Around.under_plainId BA.plain_new _]
  have hsub := BA.sub_self
  have hown := BA.owner_new
  obtain ⟨hp, g, d, tk, os⟩ := s
  simp only [hown]
  wp_walk
  exact h
theorem codeP_builtin {id : String} {args : Args} {b : Builtin} {R : Result → Shared → Prop} (hb : entryFor table id = some b)
    (h : wpP (model prog w) (A.under (.builtin id args)) (b args)
      (fun fin s' => match fin with | .done f => R (.ok f) s' | .again c' => c'.quiet = true ∧ okCode c' = true ∧ codeP (model prog w) A c' R s') (fun e s' => R (.error e) s') s) :
    codeP (model prog w) A (.builtin id args) R s := by
  refine codeP_tree ?_
  show wpP _ _ (match entryFor table id with | some b => b args | none => unsupported ((withoutEnding? id "#data").getD id)) _ _ s
  rw [hb]; exact h
theorem P_call_bytearray {v : Value} {Q : Value → Shared → Prop}
    (h : wpP (model prog w) A.in1.in1 (Builtin.«bytearray.__init__» ⟨[.ref s.heap.objs.size, v], []⟩) (fun fin s' => fin = .done (.ret .none) ∧ Q (.ref s.heap.objs.size) s') (fun _ _ => False)
      { s with heap := s.heap.push { cls := .type "bytearray", data := .bytearray #[] } }) :
    wpP (model prog w) A (call (.type "bytearray") [v]) Q E s := by
  refine wpP_call (codeP_tree ?_)
  show wpP _ _ (callAny (.type "bytearray") _) _ _ _
  refine wpP_pure ⟨Code.quiet_builtin _ (by decide +kernel), by show (!badIds.contains "type.__call__") = true; decide +kernel, codeP_builtin F.entry_type_call ?_⟩
  rw [Around.under_plain (weight_type_call_type "bytearray" [v] []) rfl]
  have h1 := BA.called.notType
  have h2 := BA.called.canCreate
  unfold Builtin.«type.__call__»
  simp only [h1, h2, BA.typeCall_1, BA.mro, BA.called.made, pure_bind, Bool.false_eq_true, if_false, List.isEmpty_cons]
  refine wpP_bindA (wpAny_holding (wpAny_call (code_bytearray_new v ?_)))
  have hT : Shared.TypeIs { s with heap := s.heap.push { cls := .type "bytearray", data := .bytearray #[] } } (.ref s.heap.objs.size) "bytearray" := ⟨_, Heap.get?_push_size _ rfl, rfl⟩
  refine wpP_bindA (wpAny_isInstance hT BA.sub_self ?_)
  simp only [Bool.not_true, Bool.false_eq_true, if_false]
  refine wpP_bind (wpP_holding ?_)
  unfold callSpecial?
  refine wpP_bindA (wpAny_specialOf hT BA.slot_init.lookup ?_)
  dsimp only
  refine wpP_holding (wpP_bindA (wpAny_of_eq (BA.slot_init.bind _) (wpP_bind (wpP_call (codeP_tree ?_)))))
  show wpP _ _ (callAny (.builtin "bytearray.__init__") _) _ _ _
  refine wpP_bindA (BA.slot_init.check _ _ _ _ _ _ _ _ hT (BA.args_init _ _) ?_)
  refine wpP_pure ⟨plainId_quiet BA.slot_init.plain _, by show (!badIds.contains "bytearray.__init__") = true; decide +kernel, codeP_builtin BA.entry_init ?_⟩
  rw [Around.under_plainId BA.slot_init.plain _]
  refine wpP_mono h (fun fin s' hf => ?_) fun e s' hf => hf.elim
  obtain ⟨rfl, hq⟩ := hf
  exact wpP_pure (wpP_pure hq)

namespace BA
theorem optional_1 (v : Value) : Builtin.Bytes.bindOptional "bytearray.__init__" "bytearray" ["source", "encoding", "errors"] [v] [] = pure [some v, none, none] := by kernel_rfl
theorem codec_none (x : String) : Builtin.Bytes.checkCodecArg "bytearray.__init__" "bytearray" x none = pure () := rfl
theorem lookup_release : typeLookup (.type "bytearray") "__release_buffer__" = pure (some (.builtin "bytearray.__release_buffer__")) := by rw [typeLookup_type, builtinLookup_eq_fast]; kernel_rfl
theorem lookup_buffer : typeLookup (.type "bytearray") "__buffer__" = pure (some (.builtin "bytearray.__buffer__")) := by rw [typeLookup_type, builtinLookup_eq_fast]; kernel_rfl
theorem bytes_no_index : typeLookup (.type "bytes") "__index__" = pure none := by rw [typeLookup_type, builtinLookup_eq_fast]; kernel_rfl
theorem bytes_buffer : typeLookup (.type "bytes") "__buffer__" = pure (some (.builtin "bytes.__buffer__")) := by rw [typeLookup_type, builtinLookup_eq_fast]; kernel_rfl
theorem bytes_release : typeLookup (.type "bytes") "__release_buffer__" = pure none := by rw [typeLookup_type, builtinLookup_eq_fast]; kernel_rfl
theorem bytes_sub : isSubtype (.type "bytes") (.type "bytes") = pure true := by rw [isSubtype_type]; kernel_rfl
theorem end1 : "bytes.__buffer__".endsWith ("." ++ "__buffer__") = true := by decide +kernel
theorem end2 : "bytes.__buffer__".dropRight ("__buffer__".length + 1) = "bytes" := by decide +kernel
theorem end3 : "bytearray.__buffer__".endsWith ("." ++ "__buffer__") = true := by decide +kernel
theorem end4 : "bytearray.__buffer__".dropRight ("__buffer__".length + 1) = "bytearray" := by decide +kernel
end BA
theorem slotIsOwn_ba {M : Model} {A : Around} {E : Value → Shared → Prop} {s : Shared} {a : Addr} {n : String} {Q : Bool → Shared → Prop} (hT : s.TypeIs (.ref a) "bytearray")
    (hl : typeLookup (.type "bytearray") (n : Str) = pure (some (.builtin ("bytearray." ++ n)))) (h1 : ("bytearray." ++ n).endsWith ("." ++ n) = true) (h2 : ("bytearray." ++ n).dropRight (n.length + 1) = "bytearray") (h : Q true s) :
    wpAny M A (Builtin.Bytes.slotIsOwn (.ref a) n) Q E s := by
  unfold Builtin.Bytes.slotIsOwn
  refine wpAny_bind (wpAny_specialOf hT hl ?_)
  simp only [h1, h2, Bool.not_true, Bool.false_eq_true, if_false]
  exact wpAny_isInstance hT BA.sub_self h
theorem ownRelease_ba {M : Model} {A : Around} {E : Value → Shared → Prop} {s : Shared} {a : Addr} {Q : Bool → Shared → Prop} (hT : s.TypeIs (.ref a) "bytearray") (h : Q false s) :
    wpAny M A (Builtin.Bytes.ownRelease (.ref a)) Q E s := by
  unfold Builtin.Bytes.ownRelease
  exact wpAny_bind (slotIsOwn_ba hT BA.lookup_release (by decide +kernel) (by decide +kernel) (wpAny_pure h))

theorem buffer_bytes {M : Model} {A : Around} {E : Value → Shared → Prop} {s : Shared} {id : String} {full : Bool} {b : Array UInt8} {t : Tok} {Q : Option (Array UInt8) → Shared → Prop} (h : Q (some b) s) : wpAny M A (Builtin.Bytes.buffer? id (.bytes b t) full) Q E s := by
  have hT : s.TypeIs (.bytes b t) "bytes" := rfl
  unfold Builtin.Bytes.buffer?
  refine wpAny_bind (wpAny_specialOf hT BA.bytes_buffer ?_)
  dsimp only
  have own : ∀ {Q : Bool → Shared → Prop}, Q true s → wpAny M A (Builtin.Bytes.slotIsOwn (.bytes b t) "__buffer__") Q E s := fun hq => by
    unfold Builtin.Bytes.slotIsOwn
    refine wpAny_bind (wpAny_specialOf hT BA.bytes_buffer ?_)
    simp only [BA.end1, BA.end2, Bool.not_true, Bool.false_eq_true, if_false]
    exact wpAny_isInstance hT BA.bytes_sub hq
  refine wpAny_bind (own ?_)
  simp only [Bool.not_true, Bool.false_eq_true, if_false]
  refine wpAny_bind (wpAny_specialOf hT BA.bytes_buffer ?_)
  refine wpAny_bind ?_
  unfold Builtin.Bytes.ownRelease Builtin.Bytes.slotIsOwn
  refine wpAny_bind (wpAny_bind (wpAny_specialOf hT BA.bytes_release (wpAny_pure (wpAny_pure ?_))))
  simp only [Bool.not_true, Bool.false_eq_true, if_false]
  exact wpAny_bind (wpAny_bind (wpAny_pure (wpAny_pure (wpAny_pure h))))
theorem buffer_ba {M : Model} {A : Around} {E : Value → Shared → Prop} {s : Shared} {id : String} {full : Bool} {a : Addr} {b : Array UInt8} {Q : Option (Array UInt8) → Shared → Prop}
    (ho : s.heap.get? a = some { cls := .type "bytearray", data := .bytearray b }) (h : Q (some b) s) : wpAny M A (Builtin.Bytes.buffer? id (.ref a) full) Q E s := by
  have hT : s.TypeIs (.ref a) "bytearray" := ⟨_, ho, rfl⟩
  unfold Builtin.Bytes.buffer?
  refine wpAny_bind (wpAny_specialOf hT BA.lookup_buffer ?_)
  dsimp only
  refine wpAny_bind (slotIsOwn_ba hT BA.lookup_buffer BA.end3 BA.end4 ?_)
  simp only [Bool.not_true, Bool.false_eq_true, if_false]
  refine wpAny_bind (wpAny_specialOf hT BA.lookup_buffer ?_)
  refine wpAny_bind (ownRelease_ba hT ?_)
  simp only [Bool.false_eq_true, if_false]
  exact wpAny_bind (wpAny_bind (wpAny_bind (wpAny_load ho (wpAny_pure (wpAny_pure (wpAny_pure h))))))
theorem wpP_orM {M : Model} {A : Around} {E : Value → Shared → Prop} {s : Shared} {x y : Sem Bool} {Q : Bool → Shared → Prop} (h : wpP M A x (fun b s' => match b with | true => Q true s' | false => wpP M A y Q E s') E s) : wpP M A (x <||> y) Q E s := by
  show wpP M A (x >>= fun b => _) Q E s
  refine wpP_bind (wpP_mono h (fun b s' hb => ?_) fun _ _ e => e)
  cases b
  · exact hb
  · exact wpP_pure hb

theorem updateBytearray_any {M : Model} {A : Around} {E : Value → Shared → Prop} {s : Shared} {a : Addr} {b : Array UInt8} {f : Array UInt8 → Array UInt8} {Q : Unit → Shared → Prop} (ho : s.heap.get? a = some { cls := .type "bytearray", data := .bytearray b }) (hz : (f b).size ≤ sizeLine)
    (h : Q () { s with heap := s.heap.update a (Obj.mapBytearray f) }) : wpAny M A (updateBytearray a f) Q E s := by
  unfold updateBytearray
  refine wpAny_bind (wpAny_load ho (wpAny_bind (wpAny_update ho ?_)))
  refine wpAny_lookBehind (o := { cls := .type "bytearray", data := .bytearray (f b) }) (Heap.get?_update_self _ ho rfl) ?_ h
  show (if (f b).size > sizeLine then some _ else none) = none
  rw [if_neg (Nat.not_lt.mpr hz)]

theorem P_ba_init_int {a : Addr} {n : Int} {t : Tok} {Q : Fin → Shared → Prop} (ho : s.heap.get? a = some { cls := .type "bytearray", data := .bytearray #[] }) (h0 : 0 ≤ n) (h1 : n ≤ 2 ^ 20)
    (h : ∀ h', h'.get? a = some { cls := .type "bytearray", data := .bytearray (Array.replicate n.toNat 0) } → Heap.SameBut a s.heap h' → Q (.done (.ret .none)) { s with heap := h' }) :
    wpP (model prog w) A (Builtin.«bytearray.__init__» ⟨[.ref a, .int n t], []⟩) Q E s := by
  have hT : s.TypeIs (.ref a) "bytearray" := ⟨_, ho, rfl⟩
  unfold Builtin.«bytearray.__init__»
  dsimp only
  refine wpP_bindA (ownRelease_ba hT ?_)
  simp only [Bool.false_eq_true, if_false]
  rw [BA.optional_1]
  refine wpP_bindA (wpAny_pure ?_)
  dsimp only
  rw [BA.codec_none, BA.codec_none]
  refine wpP_bindA (wpAny_pure (wpP_bindA (wpAny_pure ?_)))
  refine wpP_bind (wpP_orM (wpP_exported ?_))
  dsimp only
  refine wpP_any ?_
  refine wpAny_bind (wpAny_bind (wpAny_load ho (wpAny_pure (wpAny_pure ?_))))
  simp only [gt_iff_lt, Nat.lt_irrefl, decide_false, Bool.false_eq_true, if_false]
  refine wpP_any ?_
  refine wpAny_bind (updateBytearray_any (f := fun _ => #[]) ho (by rw [sizeLine_eq]; exact Nat.zero_le _) ?_)
  have hs1 : Heap.SameBut a s.heap (s.heap.update a (Obj.mapBytearray fun _ => #[])) := Heap.SameBut.update ..
  have ho1 : (s.heap.update a (Obj.mapBytearray fun _ => #[])).get? a = some { cls := .type "bytearray", data := .bytearray #[] } := Heap.get?_update_self _ ho rfl
  refine wpAny_bind (wpAny_pure ?_)
  simp only [Option.isSome_none, Bool.false_eq_true, if_false]
  refine wpAny_bind (wpAny_pure (wpAny_bind (wpAny_specialOf (T := "int") rfl F.slot_int_index.lookup ?_)))
  simp only [Option.isSome_some, if_true]
  refine wpAny_bind (wpAny_attempt (wpAny_bind (wpAny_pure (wpAny_pure ?_))))
  dsimp only
  have e1 : Builtin.Bytes.fitsIndex n = true := by unfold Builtin.Bytes.fitsIndex; simp only [Bool.and_eq_true, decide_eq_true_eq]; omega
  have e2 : ¬ n < 0 := by omega
  have e3 : (n == 2 ^ 63 - 1) = false := by rw [beq_eq_false_iff_ne]; omega
  have e4 : Builtin.Bytes.tooLong n.toNat = false := by unfold Builtin.Bytes.tooLong; rw [sizeLine_eq]; simp only [decide_eq_false_iff_not]; omega
  simp only [e1, e3, e4, Bool.not_true, Bool.false_eq_true, if_false, if_neg e2]
  refine wpAny_bind (wpAny_rule ?_)
  by_cases hn : n > 0
  · rw [if_pos hn]
    refine wpAny_bind (updateBytearray_any (f := fun _ => Array.replicate n.toNat 0) ho1 (by rw [sizeLine_eq, Array.size_replicate]; omega) (wpAny_pure ?_))
    exact h _ (Heap.get?_update_self _ ho1 rfl) (hs1.trans (Heap.SameBut.update ..))
  · have : n = 0 := by omega
    subst this
    rw [if_neg (by decide)]
    exact wpAny_bind (wpAny_pure (wpAny_pure (h _ ho1 hs1)))

theorem P_ba_init_bytes {a : Addr} {b : Array UInt8} {t : Tok} {Q : Fin → Shared → Prop} (ho : s.heap.get? a = some { cls := .type "bytearray", data := .bytearray #[] }) (h1 : b.size ≤ 2 ^ 20)
    (h : ∀ h', h'.get? a = some { cls := .type "bytearray", data := .bytearray b } → Heap.SameBut a s.heap h' → Q (.done (.ret .none)) { s with heap := h' }) :
    wpP (model prog w) A (Builtin.«bytearray.__init__» ⟨[.ref a, .bytes b t], []⟩) Q E s := by
  have hT : s.TypeIs (.ref a) "bytearray" := ⟨_, ho, rfl⟩
  unfold Builtin.«bytearray.__init__»
  dsimp only
  refine wpP_bindA (ownRelease_ba hT ?_)
  simp only [Bool.false_eq_true, if_false]
  rw [BA.optional_1]
  refine wpP_bindA (wpAny_pure ?_)
  dsimp only
  rw [BA.codec_none, BA.codec_none]
  refine wpP_bindA (wpAny_pure (wpP_bindA (wpAny_pure ?_)))
  refine wpP_bind (wpP_orM (wpP_exported ?_))
  dsimp only
  refine wpP_any ?_
  refine wpAny_bind (wpAny_bind (wpAny_load ho (wpAny_pure (wpAny_pure ?_))))
  simp only [gt_iff_lt, Nat.lt_irrefl, decide_false, Bool.false_eq_true, if_false]
  refine wpP_any ?_
  refine wpAny_bind (updateBytearray_any (f := fun _ => #[]) ho (by rw [sizeLine_eq]; exact Nat.zero_le _) ?_)
  have hs1 : Heap.SameBut a s.heap (s.heap.update a (Obj.mapBytearray fun _ => #[])) := Heap.SameBut.update ..
  have ho1 : (s.heap.update a (Obj.mapBytearray fun _ => #[])).get? a = some { cls := .type "bytearray", data := .bytearray #[] } := Heap.get?_update_self _ ho rfl
  refine wpAny_bind (wpAny_pure ?_)
  simp only [Option.isSome_none, Bool.false_eq_true, if_false]
  refine wpAny_bind (wpAny_pure (wpAny_bind (wpAny_specialOf (T := "bytes") rfl (r := none) BA.bytes_no_index ?_)))
  simp only [Option.isSome_none, Bool.false_eq_true, if_false]
  refine wpAny_bind (buffer_bytes ?_)
  dsimp only
  refine wpAny_bind (wpAny_rule ?_)
  refine wpAny_bind (updateBytearray_any (f := fun _ => b) ho1 (by rw [sizeLine_eq]; omega) ?_)
  exact wpAny_bind (wpAny_pure (wpAny_pure (h _ (Heap.get?_update_self _ ho1 rfl) (hs1.trans (Heap.SameBut.update ..)))))
end
end Mine
end
section
open PySem PySem.W PySem.Calls PyProof.Rows
open Sem (wp)
set_option maxRecDepth 100000
namespace Mine
section
variable {α β : Type} {M : Model} {A : Around} {E : Value → Shared → Prop} {s : Shared}
theorem P_point {Q : Unit → Shared → Prop} (h : Q () s) : wpP M A point Q E s := wpP_any (wpAny_point h)
theorem P_look {t : Sem α} {r : α} {f : α → Sem β} {Q : β → Shared → Prop} (x : Looks M s.heap t r) (h : wpP M A (f r) Q E s) : wpP M A (t >>= f) Q E s := wpP_bindA (x.here h)
theorem P_execs_cons {env : Env} {st : Stmt} {rest : List Stmt} {Q : Flow → Shared → Prop}
    (h : wpP M A (exec st env) (fun f s' => match f with | .next => wpP M A (execs rest env) Q E s' | f => Q f s') E s) :
    wpP M A (execs (st :: rest) env) Q E s := by
  rw [execs_cons]
  refine wpP_bind (wpP_mono h (fun f s' h' => ?_) fun _ _ x => x)
  cases f <;> first | exact h' | exact wpP_pure h'
theorem P_execs_nil {env : Env} {Q : Flow → Shared → Prop} (h : Q .next s) : wpP M A (execs [] env) Q E s := wpP_pure h
theorem P_standAt {p : Pos} {Q : Unit → Shared → Prop} (h : Q () s) : wpP M A (standAt p) Q E s := fun _ _ _ _ => h
theorem P_Assign_Name {env : Env} {x : Str} {pos' : Pos} {value : Expr} {pos : Pos} {Q : Flow → Shared → Prop}
    (h : wpP M A (eval value env) (fun v s₁ => wpAny M A (storeName env x v) (fun _ => Q .next) E s₁) E s)
    (hs : swapsWith value (some (.Name x pos')) pos.line env = pure false := by rfl) :
    wpP M A (exec (.Assign [.Name x pos'] value pos) env) Q E s := by
  rw [exec_Assign_Name env x pos' value pos hs]
  refine wpP_bind (P_standAt (wpP_bind (wpP_mono h (fun v s₁ h₁ => wpP_bind (P_standAt (wpP_bindA ?_))) fun _ _ x => x)))
  intro Γ p hΓ
  rw [Sem.wp_bindName]
  exact Sem.wp_mono M Γ _ (fun _ _ _ z => fun _ _ _ _ => z) (fun _ _ _ z => z) _ _ (h₁ Γ p hΓ)
theorem P_Assign_Attribute {env : Env} {o : Expr} {attr : Str} {pos' : Pos} {value : Expr} {pos : Pos} {Q : Flow → Shared → Prop}
    (h : wpP M A (eval value env) (fun v s₁ => wpAny M A (eval o env) (fun ov s₂ => wpAny M A (setAttr ov attr v) (fun _ => Q .next) E s₂) E s₁) E s)
    (hs : swapsWith value (some (.Attribute o attr pos')) pos.line env = pure false := by rfl) :
    wpP M A (exec (.Assign [.Attribute o attr pos'] value pos) env) Q E s := by
  rw [plainObj_exec_Assign_Attribute o attr pos' value pos hs]
  refine wpP_bind (P_standAt (wpP_bind (wpP_mono h (fun v s₁ h₁ => wpP_bindA fun Γ p hΓ => ?_) fun _ _ x => x)))
  simp only [assign_Attribute, Sem.wp_bind', Sem.wp_holding, Sem.wp_cmd_standAt, Sem.wp_release]
  exact Sem.wp_mono M Γ _ (fun ov _ s₂ h₂ => Sem.wp_mono M Γ _ (fun _ _ _ z => fun _ _ _ _ => z) (fun _ _ _ z => z) _ _ (h₂ Γ _ hΓ)) (fun _ _ _ h' => h') _ _ (h₁ Γ _ hΓ)
theorem P_Assign_stores {env : Env} {targets : List Expr} {value : Expr} {pos : Pos} {Q : Flow → Shared → Prop}
    (h : wpP M A (eval value env) (fun v s₁ => wpAny M A (assignAll v ((assignEach targets env).map (·.2))) (fun _ => Q .next) E s₁) E s)
    (hs : swapsWithSole targets value pos.line env = pure false := by rfl) (hw : swappedStores targets value env = pure none := by rfl) :
    wpP M A (exec (.Assign targets value pos) env) Q E s := by
  rw [exec_Assign_arm]
  refine wpP_bind (P_standAt ?_)
  rw [hs]
  refine wpP_bind (wpP_pure ?_)
  rw [if_neg (by decide)]
  refine wpP_bind (wpP_mono h (fun v s₁ h₁ => ?_) fun _ _ x => x)
  rw [hw]
  refine wpP_bind (wpP_pure ?_)
  show wpP M A (do assignAll v ((assignEach targets env).map (·.2)); pure .next) Q E s₁
  exact wpP_bindA (wpAny_mono h₁ (fun _ _ x => wpP_pure x) fun _ _ x => x)
theorem P_If {env : Env} {test : Expr} {body orelse : List Stmt} {pos : Pos} {Q : Flow → Shared → Prop}
    (h : wpAny M A (isTrue test env (eval test env)) (fun b s₂ => if b then wpP M A (execs body env) Q E s₂ else wpP M A (execs orelse env) Q E s₂) E s) :
    wpP M A (exec (.If test body orelse pos) env) Q E s := by
  rw [exec_If]
  refine wpP_bind (P_standAt (wpP_bindA (wpAny_mono h (fun b s₂ h₂ => ?_) fun _ _ x => x)))
  cases b <;> exact h₂
theorem P_Call_Name {env : Env} {id : Str} {p pos : Pos} {args : List Expr} {keywords : List Keyword} {Q : Value → Shared → Prop}
    (h : wpAny M A (eval (.Name id p) env) (fun f s₁ => wpP M A (callWith pos f [] (backTo pos (starEach args env)) (backToKw pos (keywordEach keywords env))) Q E s₁) E s) :
    wpP M A (eval (.Call (.Name id p) args keywords pos) env) Q E s := by
  rw [arm_eval_Call_Name']
  exact wpP_bindA h
theorem P_callWith_of {pos : Pos} {f : Value} {first : List Value} {Q : Value → Shared → Prop} {P : Heap → Prop} {args : List (Bool × Sem Value)} {keywords : List (Option Str × Sem Value)} (hplain : (args.any (·.1) || keywords.any (·.1.isNone)) = false)
    (hk : ∀ h, P h → ∃ k, (k = Keeper.frame ∨ k = Keeper.machine ∨ k = Keeper.boundFrame) ∧ Looks M h (keeperOf f) k)
    (h : wpP M A (evalArgs f true args keywords) (fun a s₁ => P s₁.heap ∧ wpP M A (call f (first ++ a.pos) a.kw) Q E s₁) E s) : wpP M A (callWith pos f first args keywords) Q E s := by
  unfold callWith
  refine wpP_bind (wpP_holding (wpP_mono h (fun a s₁ h₁ => wpP_bind (P_standAt ?_)) fun _ _ x => x))
  obtain ⟨k, hk', L⟩ := hk _ h₁.1
  simp only [hplain]
  refine P_look L ?_
  have tail : ∀ {t : Sem Value}, wpP M A t Q E s₁ → wpP M A (t >>= fun r => holding [r] point >>= fun _ => pure r) Q E s₁ :=
    fun ht => wpP_bind (wpP_mono ht (fun r s₂ hr => wpP_bindA (wpAny_holding (wpAny_point (wpP_pure hr)))) fun _ _ x => x)
  have marked (mk : Value) : wpP M A (callMarked mk f (first ++ a.pos) a.kw) Q E s₁ := by unfold callMarked; exact wpP_keep h₁.2
  rcases hk' with rfl | rfl | rfl <;> dsimp only <;> first | exact tail h₁.2 | (split <;> first | exact tail h₁.2 | exact tail (marked _))
theorem P_callWith_type {pos : Pos} {T : String} {args : List (Bool × Sem Value)} {Q : Value → Shared → Prop} {k : Keeper} (hkp : keeperOf (.type T) = pure k) (hplain : args.any (·.1) = false) (hkk : k = .machine)
    (h : wpAny M A (evalArgs (.type T) true args []) (fun a s₁ => wpP M A (call (.type T) a.pos a.kw) Q E s₁) E s) : wpP M A (callWith pos (.type T) [] args []) Q E s :=
  P_callWith_of (P := fun _ => True) (by rw [hplain]; rfl) (fun h _ => ⟨k, .inr (.inl hkk), Looks.of_pure hkp⟩) (wpP_mono (wpP_any h) (fun a s₁ h₁ => ⟨trivial, h₁⟩) fun _ _ x => x)
/-- a sole argument that is itself of the P kind -/
theorem P_evalArgs_1 {f : Value} {x : Sem Value} {Q : Args → Shared → Prop} (h : wpP M A x (fun v s₁ => Q ⟨[v], []⟩ s₁) E s) : wpP M A (evalArgs f true [(false, x)] []) Q E s := by
  unfold evalArgs
  show wpP M A (spliced [(false, x)] >>= _) Q E s
  refine wpP_bind ?_
  refine wpP_bind (m := x) (wpP_mono h (fun v s₁ h₁ => ?_) fun _ _ z => z)
  refine wpP_bind (wpP_pure (wpP_bindA (wpAny_holding (wpAny_pure (wpP_pure ?_)))))
  refine wpP_bind (wpP_pure (wpP_holding ?_))
  exact wpP_bind (wpP_pure (wpP_bind (wpP_pure (wpP_pure h₁))))
end

section
variable {prog : Program} {w : World} {A : Around} {R : Result → Shared → Prop} {s : Shared}
theorem codeP_func {body : List Stmt} {env : Env}
    (h : wpP (model prog w) (A.deeper env) (execs body env) (fun f s' => R (.ok (.ret (match f with | .ret v => v | _ => .none))) s')
      (fun e s' => wpAny (model prog w) (A.deeper env) (leaving env e) (fun _ s'' => R (.error e) s'') (fun e' s'' => R (.error e') s'') s') s) :
    codeP (model prog w) A (.func body env) R s := by
  refine codeP_tree ?_
  show wpP _ (A.deeper env) (do point; match ← (execs body env).onRaise (leaving env) with | .ret v => ret v | _ => ret .none) _ _ s
  refine wpP_bind (P_point (wpP_bind (wpP_onRaise (wpP_mono h (fun f s' h' => ?_) fun _ _ h' => h'))))
  cases f <;> exact wpP_pure h'
theorem codeP_call_function {a : Addr} {args : Args} {o : Obj} {fd : FuncData} {body : List Stmt} (hroom : A.depth < recursionLimit)
    (ho : s.heap.get? a = some o)
    (hd' : o.data = .func fd) (hco : fd.scope.isCoroutine = false) (hgen : fd.scope.isGenerator = false) (hbody : fd.body = .stmts body) (hcd : s.heap.CodeRec fd.code fd.qualname)
    (h : wpAny (model prog w) A.in1 (bindArgs fd args) (fun binds s₁ =>
      wpAny (model prog w) A.in1 (newFunctionEnv fd.scope fd.globals fd.closure binds (fd.qualname ++ ".<locals>.") (some a) fd.code none fd.builtins)
        (fun env s₂ => s₂.heap.NoLimit ∧ codeP (model prog w) A (.func body env) R s₂) (fun e s' => R (.error e) s') s₁) (fun e s' => R (.error e) s') s) :
    codeP (model prog w) A (.call (.ref a) args) R s := by
  refine codeP_tree ?_
  show wpP _ A.in1 (callAny (.ref a) args) _ _ s
  simp only [callAny]
  refine wpP_bindA (wpAny_load ho ?_)
  obtain ⟨c, oc, vs, tq, hc, hoc, hdc, hq⟩ := hcd
  simp only [hd', callFunction, hco, hgen, hbody, hc]
  rw [hc] at h
  refine wpP_bindA (m := field (.ref c) 1) (wpAny_field hoc hdc hq (wpP_bind (wpP_pure ?_)))
  exact wpP_bindA (wpAny_mono h (fun binds s₁ h₁ => wpP_bindA (wpAny_mono h₁ (fun env s₂ h₂ => wpP_bindA (wpAny_enterFrame h₂.1 hroom
    (wpP_pure (And.intro rfl (And.intro rfl h₂.2))))) fun _ _ h' => h')) fun _ _ h' => h')
end
section
variable {prog : Program} {w : World} {A₀ A : Around} {s : Shared} {base h₀ : Heap} {outer : List Env} {L : Addr} {m : Str → Option Value} {env : Env} {news : List (Addr × Obj)} {K : Frag} {p : Program} {loose : List Str} {mean : ExcName → Option Value} {mg mb : Str → Option Value}
  {R : Result → Shared → Prop} {name qual : Str} {params : Arguments} {body : List Stmt} {scope : Scope} {dV kV doc pm cdv ct oc : Value} {an od : Option Addr} {osl : Array (Option Value)} {f : Addr} {args : Args} {binds : List (Str × Value)}
theorem codeP_def (B : Below A₀ base outer h₀) (F : Fr h₀ L s.heap m) (X₀ : K.In h₀) (N : News h₀ L s.heap news) (T : Top p loose mean mg mb h₀) (hA : A.frames = some (env :: outer)) (hf : env.frame = some L) (hke : env.scope.kind = .function)
    (ho : K.lookup f = some ⟨oc, od, .func (fnOf name qual params body scope dV kV doc pm an cdv ct), osl⟩) (hcd : codeIn K cdv qual = true) (hroom : A.depth < recursionLimit)
    (hbind : BindsTo s (fnOf name qual params body scope dV kV doc pm an cdv ct) args binds) (hloc : ∀ y ∈ binds, scope.names.lookup y.1 = some .local)
    (h : ∀ g L' h₁, Fr h₀ L g m → Fr g L' h₁ (fun y => binds.reverse.lookup y) → News g L' h₁ news → Below A base (env :: outer) g → K.In g → Top p loose mean mg mb g →
      wpP (model prog w) (A.deeper (envOf qual scope L' f cdv)) (execs body (envOf qual scope L' f cdv))
        (fun fl s' => LeaveK h₀ L m g R (match fl with | .ret v => v | _ => .none) s')
        (fun e s' => wpAny (model prog w) (A.deeper (envOf qual scope L' f cdv)) (leaving (envOf qual scope L' f cdv) e) (fun _ s'' => R (.error e) s'') (fun e' s'' => R (.error e') s'') s')
        { s with heap := h₁, toks := s.toks + binds.length })
    (hco : scope.isCoroutine = false) (hgen : scope.isGenerator = false) (hk : scope.kind = .function)
    (hcell : ∀ x ∈ scope.names, x.2 ≠ .cell) : codeP (model prog w) A (.call (.ref f) args) R s := by
  obtain ⟨FG, BG, st, lv⟩ := groundX (R := R) B F N hA hf hke
  have hlim := T.nolimit.keeps F.keep
  refine codeP_call_function hroom ((X₀.keeps F.keep) _ _ ho) rfl hco hgen rfl (codeRec_of (X₀.keeps F.keep) hcd) (hbind _ _ _ _ ?_)
  refine wpAny_newFunctionEnv hcell hloc (fun h₁ hns hsb => ⟨hlim.fresh _ hsb, codeP_func ?_⟩) hk
  have hk₁ : ∀ b o, s.heap.get? b = some o → h₁.get? b = some o := fun b o e => hsb.extBut b o (Nat.ne_of_lt (Heap.lt_size e)) (Heap.get?_push_of_some _ e)
  exact wpP_mono (h _ s.heap.objs.size h₁ FG ⟨hns, fun b o e => hk₁ b o (of_hideAll _ e), Nat.le_of_eq (hideAll_size _ _)⟩
    (fun p hp => ⟨hk₁ _ _ (N p hp).1, Nat.ne_of_lt (Heap.lt_size (N p hp).1), hideAll_none _ (List.mem_map_of_mem hp)⟩) BG (X₀.keeps st) (T.keeps st)) (fun fl s' hl => lv _ _ hl) fun _ _ y => y
end
section
variable {prog : Program} {w : World} {A : Around} {R : Result → Shared → Prop} {s : Shared} {name : Str} {params : Arguments} {body : List Stmt} {scope : Scope} {pm cd doc : Value} {a : Addr} {o : Obj} {args : List Value} {binds : List (Str × Value)}
/-- the law's own call: a def with cells, called from outside -/
theorem codeP_cells (hroom : A.depth < recursionLimit) (ho : s.heap.get? a = some o) (hdata : o.data = .func (Calls.docDef name params body scope pm cd doc)) (hlim : s.heap.NoLimit) (hcd : s.heap.CodeRec cd name)
    (hbind : bindArgs (Calls.docDef name params body scope pm cd doc) ⟨args, []⟩ = pure binds)
    (hkind : ∀ x ∈ binds, scope.names.lookup x.1 = some .local ∨ (scope.names.lookup x.1 = some .cell ∧ ((cellsFrom (s.heap.objs.size + 1) scope.names []).lookup x.1).isSome = true))
    (hnd : ((cellsFrom 0 scope.names []).map (·.1)).Nodup)
    (h : ∀ h₁ tk cells, Fr s.heap s.heap.objs.size h₁ (bindL (envOfC name scope s.heap.objs.size a cd).kindOf binds fun _ => none) → News s.heap s.heap.objs.size h₁ cells →
      CellsAre (bindC (envOfC name scope s.heap.objs.size a cd).kindOf binds fun _ => none) (cellsFrom (s.heap.objs.size + 1) scope.names []) cells →
      wpP (model prog w) (A.deeper (envOfC name scope s.heap.objs.size a cd)) (execs body (envOfC name scope s.heap.objs.size a cd))
        (fun f s' => R (.ok (.ret (match f with | .ret v => v | _ => .none))) s')
        (fun e s' => wpAny (model prog w) (A.deeper (envOfC name scope s.heap.objs.size a cd)) (leaving (envOfC name scope s.heap.objs.size a cd) e)
          (fun _ s'' => R (.error e) s'') (fun e' s'' => R (.error e') s'') s')
        { s with heap := h₁, toks := tk })
    (hco : scope.isCoroutine = false := by rfl) (hgen : scope.isGenerator = false := by rfl) (hk : scope.kind = .function := by rfl) :
    codeP (model prog w) A (.call (.ref a) ⟨args, []⟩) R s := by
  refine codeP_call_function hroom ho hdata hco hgen rfl hcd ((BindsTo.of_eq hbind) _ _ _ _ ?_)
  refine wpAny_newFunctionEnv_cells hk hkind fun env' he s' x => ?_
  subst he
  refine ⟨hlim.keeps x.toInCall.keep, codeP_func ?_⟩
  obtain ⟨h₁, tk, rfl, _⟩ := x.done
  obtain ⟨cells, NC, Y⟩ := Cl.news (h₀ := s.heap) (Nat.le_refl _) fun n c hm => ⟨x.cell n c (lookup_of_mem_nodup (cellsFrom_names scope.names 0 (s.heap.objs.size + 1) [] [] rfl ▸ hnd) hm), x.above n c hm⟩
  exact h h₁ tk cells ⟨x.toInCall.ns, x.toInCall.keep, x.toInCall.fresh⟩ NC Y
end

section
variable {prog : Program} {w : World} {A : Around} {R : Result → Shared → Prop} {C : Addr} {h : Heap} {g : Array GenState} {d : Drawn} {t : Nat} {os : OsState}
theorem P_make_core {rest : List Value} {kw : List (Str × Value)} {fI : Addr} (Y : Makes (model prog w) h C) (hi : Looks (model prog w) h (typeLookup (.ref C) "__init__") (some (.ref fI)))
    (hb : ∀ self, Looks (model prog w) h (bindSpecial (.ref fI) self) (.ref fI, [self]))
    (hq : codeP (model prog w) (A.under (.builtin "type.__call__" ⟨.ref C :: rest, kw⟩)) (.call (.ref fI) ⟨.ref (h.objs.size + 1) :: rest, kw⟩) (InitBack (h.objs.size + 1) R) ⟨(h.push emptyDict).push (instObj C h.objs.size), g, d, t, os⟩) :
    codeP (model prog w) A (.call (.ref C) ⟨rest, kw⟩) R ⟨h, g, d, t, os⟩ := by
  have Y' := Y
  obtain ⟨⟨oc, od, cd, sl, hC, e1, e2, e4⟩, made, base, self, top, call, typ⟩ := Y
  refine codeP_tree ?_
  show wpP _ _ (callAny (.ref C) _) _ _ _
  simp only [callAny]
  refine wpP_bindA (wpAny_load hC ?_)
  show wpP _ _ (callAny.viaDunder (.ref C) _) _ _ _
  unfold callAny.viaDunder
  refine P_look (s := ⟨h, g, d, t, os⟩) call ?_
  dsimp only
  rw [tc_bind]
  refine wpP_bind (wpP_pure (wpP_bind (wpP_pure ?_)))
  refine wpP_pure (a := Fin.again (.call (.builtin "type.__call__") ⟨.ref C :: rest, kw⟩)) (And.intro rfl (And.intro rfl ?_))
  refine codeP_tree ?_
  show wpP _ A.in1 (do checkBuiltinCall "type.__call__" ⟨.ref C :: rest, kw⟩; again (.builtin "type.__call__" ⟨.ref C :: rest, kw⟩)) _ _ _
  refine wpP_bindA (check_slot tc_kind tc_split typ (tc_args _ _ _) ?_)
  refine wpP_pure ⟨Code.quiet_builtin _ (by decide +kernel), by show (!badIds.contains "type.__call__") = true; decide +kernel, codeP_builtin entry_typeCall ?_⟩
  unfold Builtin.«type.__call__»
  dsimp only
  have hm : Looks (model prog w) h (mroOf (.ref C)) cd.mro := ((Looks.ld (part := none) hC).andThen .now).andThen .now
  refine P_look (s := ⟨h, g, d, t, os⟩) hm ?_
  simp only [e4, Bool.false_eq_true, if_false]
  refine P_look (s := ⟨h, g, d, t, os⟩) made ?_
  dsimp only
  refine wpP_bind (wpP_pure ?_)
  refine wpP_bindA (wpAny_holding (wpAny_call (new_K Y' hi (.inl rfl) ?_)))
  have k : ∀ b o, h.get? b = some o → ((h.push emptyDict).push (instObj C h.objs.size)).get? b = some o := fun b o e => Heap.get?_push_of_some _ (Heap.get?_push_of_some _ e)
  have hx : ((h.push emptyDict).push (instObj C h.objs.size)).get? (h.objs.size + 1) = some (instObj C h.objs.size) := by heap_get
  have t1 : Looks (model prog w) ((h.push emptyDict).push (instObj C h.objs.size)) (typeOf (.ref (h.objs.size + 1))) (.ref C) := (Looks.ld hx).andThen .now
  have s1 := self.keeps k
  have i1 := hi.keeps k
  have b1 := (hb (.ref (h.objs.size + 1))).keeps k
  refine P_look (s := ⟨(h.push emptyDict).push (instObj C h.objs.size), g, d, t, os⟩) (t1.andThen s1 : Looks _ _ (isInstance _ _) _) ?_
  simp only [Bool.not_true, Bool.false_eq_true, if_false]
  refine wpP_bind (wpP_holding ?_)
  unfold callSpecial?
  refine P_look (s := ⟨(h.push emptyDict).push (instObj C h.objs.size), g, d, t, os⟩) (t1.andThen i1 : Looks _ _ (specialOf _ _) _) ?_
  dsimp only
  refine wpP_holding (P_look (s := ⟨(h.push emptyDict).push (instObj C h.objs.size), g, d, t, os⟩) b1 ?_)
  dsimp only
  refine wpP_bind (wpP_call (codeP_mono hq fun r s' z => ?_))
  rcases r with e | (v | _ | _ | _) <;> first | exact z | exact z.elim | skip
  obtain ⟨rfl, z⟩ := z
  exact wpP_pure (wpP_pure z)
end
theorem P_make_K {prog : Program} {w : World} {A : Around} {R : Result → Shared → Prop} {K : Frag} {C L : Addr} {s : Shared} {h₀ : Heap} {m : Str → Option Value} {news : List (Addr × Obj)} {rest : List Value} {kw : List (Str × Value)} {fI : Addr} (F : Fr h₀ L s.heap m) (N : News h₀ L s.heap news) (X₀ : K.In h₀) (hm : makesIn K C = true)
    (hi : findIn K (.ref C) "__init__" = some (some (.ref fI))) (hf : typeIn K (.ref fI) = some (.type "function"))
    (h : ∀ x dx h', Fr h₀ L h' m → News h₀ L h' ((x, instObj C dx) :: (dx, emptyDict) :: news) → (∀ p ∈ news, p.1 < dx) → dx < x →
      codeP (model prog w) (A.under (.builtin "type.__call__" ⟨.ref C :: rest, kw⟩)) (.call (.ref fI) ⟨.ref x :: rest, kw⟩) (InitBack x R) { s with heap := h' }) :
    codeP (model prog w) A (.call (.ref C) ⟨rest, kw⟩) R s := by
  have X := X₀.keeps F.keep
  obtain ⟨hh, g, d, t, os⟩ := s
  refine P_make_core (makes_of X hm) (looks_findIn X hi) (fun self => bind_fn X self hf) (h _ hh.objs.size _ ((F.push _).push _) ?_ (fun p hp => Heap.lt_size (N p hp).1) (Nat.lt_succ_self _))
  have := (N.push F emptyDict).push (F.push _) (instObj C hh.objs.size)
  rwa [Heap.size_push] at this
end Mine
end
section
open PySem PySem.W PySem.Calls PyProof.Rows
open Sem (wp)
set_option maxRecDepth 100000
namespace Mine
noncomputable def cleanOf (st : List (Code × Pos)) : Bool := st.all fun x => okCode x.1
noncomputable def callP (f : Value) (vs : List Value) : Sem Value := .stack fun st => if cleanOf st then PySem.call f vs else pure (.bool true)
noncomputable def treeP (t : Sem Fin) : Sem Fin := .stack fun st => if cleanOf st then t else ret (.bool true)
theorem clean_of {Γ : PySem.Ctx} {p : Pos} (h : cleanOf ((Γ.code, p) :: Γ.below) = true) : Clean Γ := fun x hx => by
  have h' := List.all_eq_true.mp h
  rcases List.mem_cons.mp hx with rfl | hx
  · exact h' (Γ.code, p) (.head _)
  · obtain ⟨y, hy, rfl⟩ := List.mem_map.mp hx
    exact h' y (.tail _ hy)
abbrev WalkP (q : Program) (loose : List Str) (XP : (Str → Option Value) → Heap → Prop) (YP : World → Heap → Prop) (r : RowW) (d : DefRec) (kwd : List (Str × Expr)) : Prop :=
  (∀ args, r.claim.pre args = true → (∀ cls, r.claim.raises args cls = false) ∧ r.claim.post args (.bool true) args = true) ∧
  ∀ (w : World) (s₀ s₁ : Shared) (mg mb : Str → Option Value), Ground q loose r.records XP w s₀ mg mb s₁.heap → YP w s₁.heap → ∀ (a : Addr) (o : Obj) (pm cd doc dV kV : Value), s₁.heap.get? a = some o →
    o.data = .func { docDef d.name d.params d.body d.scope pm cd doc with defaults := dV, kwdefaults := kV } → s₁.heap.CodeRec cd d.name → Dflts mg s₁.heap d.params kwd dV kV → mg d.name = some (.ref a) → s₁.gens = #[] →
    ∀ (args : List WData) (vals : List Value) (as : List Addr), r.claim.pre args = true → WData.layableAll args = true → ReadsAllW r.records (classAt s₀.heap) s₁.heap vals args as → WellAll w.params s₁.heap vals args → (∀ a ∈ as, (a == sysModules) = false) →
      wpP (model r.prog w) callerA (PySem.call (.ref a) vals) (fun v s' => GoodWG r.claim (classAt s₀.heap) (ExcName.means s₀.heap) args s₁ (.ok (.ret v)) s')
        (fun e s' => GoodWG r.claim (classAt s₀.heap) (ExcName.means s₀.heap) args s₁ (.error e) s') s₁
theorem sched_treeP {prog : Program} {w : World} {t : Sem Fin} {s : Shared} (hz : s.asleep) {n : Nat} {o : Outcome} {s' : Shared}
    (h : schedN (denote table) prog w n (.single s ⟨treeP t, .builtin "claim.caller" {}, default, []⟩) = .halted o s') :
    ∃ n, schedN (denote table) prog w n (.single s ⟨t, .builtin "claim.caller" {}, default, []⟩) = .halted o s' := by
  cases n with
  | zero => cases h
  | succ n =>
    refine ⟨n, ?_⟩
    have hs : step (denote table) prog w s ⟨treeP t, .builtin "claim.caller" {}, default, []⟩ = .go s ⟨t, .builtin "claim.caller" {}, default, []⟩ := by
      first | rfl | (simp [step, treeP, cleanOf, okCode]; done)
    have e : sstep (denote table) prog w (.single s ⟨treeP t, .builtin "claim.caller" {}, default, []⟩) = .go (.single s ⟨t, .builtin "claim.caller" {}, default, []⟩) := by
      rcases sstep_single (den := denote table) (prog := prog) (w := w) s ⟨treeP t, .builtin "claim.caller" {}, default, []⟩ rfl hz with e | e
      · rw [e, hs]; rfl
      · rw [hs] at e; cases e
    unfold schedN at h
    rw [e] at h
    exact h
theorem callFrom_treeP {c : ClaimW} {tree : List Value → Sem Fin} {w : World} {s : Shared} {free : Addr → Prop} {gens : Prop} {kept : Heap → Prop} (hz : s.asleep)
    (h : c.CallFrom (fun vs => ⟨treeP (tree vs), .builtin "claim.caller" {}, default, []⟩) w free gens kept s) : c.CallFrom (fun vs => ⟨tree vs, .builtin "claim.caller" {}, default, []⟩) w free gens kept s := by
  intro args h1 h2 ord h3
  obtain ⟨vs, s₁, hl, n, o, s', hs, rest⟩ := h args h1 h2 ord h3
  have hal := layAllW_rest _ _ _ hl
  obtain ⟨n', hs'⟩ := sched_treeP (Shared.asleep_of_life hal.2.2.2 hz) hs
  exact ⟨vs, s₁, hl, n', o, s', hs', rest⟩
theorem holdsOpenBy_treeP {c : ClaimW} {tree : List Value → Sem Fin} {defs kps : List Str} {writes : Bool}
    (h : c.HoldsOpenBy (fun vs => ⟨treeP (tree vs), .builtin "claim.caller" {}, default, []⟩) defs kps writes) : c.HoldsOpenBy (fun vs => ⟨tree vs, .builtin "claim.caller" {}, default, []⟩) defs kps writes := by
  obtain ⟨h1, h2, h3⟩ := h
  refine ⟨h1, h2, fun w => ⟨(h3 w).1, fun s hs => ?_⟩⟩
  obtain ⟨s₀, hf, hg, s₁, hT, hd, hr, hr2, hc⟩ := (h3 w).2 s hs
  have A : AfterImport _ w s := hs
  have z : s₀.asleep := Shared.asleep_of_life (fence_lifeW hf) A.life
  exact ⟨s₀, hf, hg, s₁, hT, hd, hr, hr2, callFrom_treeP (Shared.asleep_of_life hT.2.1 z) hc⟩

end Mine
namespace Mine.PySem.W
theorem holds_open {r : OpenRow} {q : Program} {loose : List Str} {Xt : Shared → Bool} {XP : (Str → Option Value) → Heap → Prop} {α : Type} {Yf : Shared → α} {Ya : World → α} {YP : World → Heap → Prop} {d : DefRec} {kwd : List (Str × Expr)} {N : Nat}
    (left : LeftO r.prog q loose Xt Yf Ya N) (hY : ∀ w s, Yf s = Ya w → YP w s.heap) (hYk : ∀ w h h', YP w h → (∀ b o, h.get? b = some o → h'.get? b = some o) → YP w h')
    (hX : ∀ s, Xt s = true → XP (s.heap.nsMap mainGlobals) s.heap) (hXk : ∀ mg h h', XP mg h → (∀ b o, h.get? b = some o → h'.get? b = some o) → XP mg h')
    (hdef : defOf q r.name = some (d, kwd)) (hp : r.prog.theDef r.name = some (d.params, d.body, d.scope)) (hk : kwWritten? d.params.kwonlyargs d.params.kw_defaults = some kwd) (hRf : ∀ s, Xt s = true → RecFacts r.records s.heap) (hwr : (!r.writes || r.records.isEmpty) = true)
    (k1 : r.wellSaid = true) (ok : (chainsOk q && opensWell r.prog && (frees r.toRowW && r.within.isEmpty)) = true) (hb : r.prog.bare) (hw : r.toRowW.promised)
    (call : WalkP q loose XP YP r.toRowW d kwd) : r.Holds := by
  refine ⟨k1, hw, holdsOpenBy_treeP (tree := fun vs => do match ← nsGet mainNs r.name with
      | some f => do ret (← PySem.call f vs)
      | none => unsupported "claim.caller:no-such-global") (open_anyG (r := r.toRowW) (run := callP) (tree := fun vs => treeP (do match ← nsGet mainNs r.name with
      | some f => do ret (← PySem.call f vs)
      | none => unsupported "claim.caller:no-such-global")) left hY hYk hX hXk hRf hwr ok hb hw
    (fun vs w s mg f Q E hg hf h => fun Γ p hΓ => ?_)
    (fun w s hg G n hn => ?_) fun w s₀ s₁ mg mb G Y args vs as hpre hlay L low => ?_)⟩
  · have h' := h Γ p hΓ
    cases hc : cleanOf ((Γ.code, p) :: Γ.below) with
    | true =>
      show wp (model r.prog w) Γ (if cleanOf ((Γ.code, p) :: Γ.below) then _ else _) _ _ p s
      rw [hc, if_pos rfl]
      have key : wpAny (model r.prog w) callerA (nsGet mainNs r.name) (fun a s' => a = some f ∧ s' = s) (fun _ _ => False) s := wpAny_nsGet hg ⟨hf, rfl⟩
      rw [Sem.wp_bind']
      refine Sem.wp_mono _ Γ _ (fun a p' s' h3 => ?_) (fun _ _ _ h3 => h3.elim) p s (key Γ p hΓ)
      obtain ⟨h4, h6⟩ := h3
      rw [h6]
      clear h6
      have h5 : a = some f := h4
      subst h5
      have h3 := h Γ p' hΓ
      have h4 : wp (model r.prog w) Γ (if cleanOf ((Γ.code, p') :: Γ.below) then PySem.call f vs else pure (.bool true)) (fun v _ s' => Q (.done (.ret v)) s') (fun e _ s' => E e s') p' s := h3
      have hc' : cleanOf ((Γ.code, p') :: Γ.below) = true := hc
      rw [hc', if_pos rfl] at h4
      refine Eq.mpr (Sem.wp_bind' (model r.prog w) Γ (PySem.call f vs) (fun v => ret v) _ _ p' s) ?_
      exact h4
    | false =>
      have h2 : wp (model r.prog w) Γ (if cleanOf ((Γ.code, p) :: Γ.below) then PySem.call f vs else pure (.bool true)) (fun v _ s' => Q (.done (.ret v)) s') (fun e _ s' => E e s') p s := h'
      rw [hc] at h2
      show wp (model r.prog w) Γ (if cleanOf ((Γ.code, p) :: Γ.below) then _ else _) _ _ p s
      rw [hc]
      exact h2
  · obtain rfl : n = r.name := by split at hn <;> simp_all
    exact pinned_of_view hg G hdef hp hk
  · obtain ⟨a, o, pm, cd, doc, dV, kV, h1, h2, h3, h4, h5⟩ := G.fn hdef
    refine ⟨.ref a, h1, fun Γ p hΓ => ?_⟩
    have hc := call.2 w s₀ s₁ mg mb G Y a o pm cd doc dV kV h2 h3 h4 h5 (defOf_name hdef ▸ h1) L.gens args vs as hpre hlay L.reads L.well (L.low low)
    show wp (model r.prog w) Γ (if cleanOf ((Γ.code, p) :: Γ.below) then _ else _) _ _ p s₁
    cases hcl : cleanOf ((Γ.code, p) :: Γ.below) with
    | true =>
      rw [if_pos rfl]
      exact hc Γ p hΓ (clean_of hcl)
    | false =>
      show GoodWG _ _ _ _ _ _ _
      obtain ⟨c1, c2⟩ := call.1 args hpre
      exact ⟨.inl ⟨_, _, [], rfl, c1, ReadsW.bool true, c2, fun _ => ⟨List.nodup_nil, fun _ hm => (nomatch hm)⟩⟩, OldK.refl _, rfl, AllBare.of_eq L.gens⟩
end Mine.PySem.W
end
section
open PySem PySem.W PySem.Calls PyProof.Rows
open Sem (wp)
set_option maxRecDepth 100000
namespace Mine
abbrev rngO (a b : Int) (t u v : Tok) : Obj := { cls := .type "range", data := .fields #[.int a t, .int b u, .int 1 v] }
namespace RA
theorem entry_ga : entryFor table "range.__getattribute__" = some Builtin.«object.__getattribute__» :=
  entryFor_alias (id' := "object.__getattribute__") (by kernel_rfl) (by first | rfl | decide +kernel) (by decide +kernel) (by kernel_rfl)
structure Fld (nm : String) (id : String) (i : Nat) : Prop where
  ty : typeOf (.builtin id) = pure (.type "member_descriptor")
  entry : entryFor table id = some fun args => do PySem.ret (← field (args.pos.headD .none) i)
  owner : (".".intercalate (id.cutAt '.').dropLast) = "range"
  lk : typeLookup (.type "range") (Str.ofString nm) = pure (some (.builtin id))
  quiet : ∀ a, (Code.builtin id a).quiet = true
  q2 : (withoutEnding? id "#data").isSome = false
theorem cut_start : "range.start".cutAt '.' = ["range", "start"] := by first | rfl | decide +kernel
theorem cut_stop : "range.stop".cutAt '.' = ["range", "stop"] := by first | rfl | decide +kernel
theorem start : Fld "start" "range.start" 0 where
  ty := by kernel_rfl
  entry := entryFor_of_tree (by kernel_rfl)
  owner := by rw [cut_start]; decide +kernel
  lk := by rw [typeLookup_type, builtinLookup_eq_fast]; kernel_rfl
  quiet a := Code.quiet_builtin _ (by decide +kernel)
  q2 := by first | rfl | decide +kernel
theorem stop : Fld "stop" "range.stop" 1 where
  ty := by kernel_rfl
  entry := entryFor_of_tree (by kernel_rfl)
  owner := by rw [cut_stop]; decide +kernel
  lk := by rw [typeLookup_type, builtinLookup_eq_fast]; kernel_rfl
  quiet a := Code.quiet_builtin _ (by decide +kernel)
  q2 := by first | rfl | decide +kernel
theorem slot_mem_set : Slot "member_descriptor" "__set__" "member_descriptor.__set__" :=
  .of (owner := "member_descriptor") (n := "__set__") (by rw [typeLookup_type, builtinLookup_eq_fast]; kernel_rfl) (by decide +kernel) (by decide +kernel) (by decide +kernel)
    (by first | exact .inl (by decide +kernel) | exact .inr (by decide +kernel)) (by rw [isSubtype_type]; kernel_rfl)
theorem sub_rr : isSubtype (.type "range") (.type "range") = pure true := by rw [isSubtype_type]; kernel_rfl
end RA
section
variable {prog : Program} {w : World} {A : Around} {E : Value → Shared → Prop} {h : Heap} {g : Array GenState} {d : Drawn} {t : Nat} {os : OsState} {a : Addr} {o : Obj} {vs : Array Value} {v0 : Value} {nm id : String} {i : Nat}
theorem mem_get {R : Result → Shared → Prop} (FX : RA.Fld nm id i) (hx : h.get? a = some o) (hc : o.cls = .type "range") (hd : o.data = .fields vs) (h0 : vs[i]? = some v0) (hq : R (.ok (.ret v0)) ⟨h, g, d, t, os⟩) :
    codeAny (model prog w) A (.call (.builtin "member_descriptor.__get__") ⟨[.builtin id, .ref a, .type "range"], []⟩) R ⟨h, g, d, t, os⟩ := by
  have hT : (⟨h, g, d, t, os⟩ : Shared).TypeIs (.ref a) "range" := ⟨_, hx, hc⟩
  have hT5 : (⟨h, g, d, t, os⟩ : Shared).TypeIs (.builtin id) "member_descriptor" := FX.ty
  have f8 : isSubtype (.type "range") (.type (".".intercalate (id.cutAt '.').dropLast)) = pure true := by rw [FX.owner]; exact RA.sub_rr
  refine codeAny_call_builtin KF.slot_mem.plain KF.entry_mem (KF.slot_mem.check _ _ _ _ _ _ _ _ hT5 (KF.args_mem _ _ _) ?_)
  repeat (any_goals (first | assumption | wp_step))
  refine ⟨FX.quiet _, codeAny_builtin FX.entry ?_⟩
  show wpAny _ _ (field (.ref a) i >>= fun v => PySem.ret v) _ _ _
  refine wpAny_bind (wpAny_field hx hd h0 ?_)
  repeat (any_goals (first | assumption | wp_step))
theorem mem_entry {tk : Tok} {Q : Fin → Shared → Prop} (FX : RA.Fld nm id i) (hx : h.get? a = some o) (hc : o.cls = .type "range") (hd : o.data = .fields vs) (h0 : vs[i]? = some v0) (hq : Q (.done (.ret v0)) ⟨h, g, d, t, os⟩) :
    wpAny (model prog w) A (Builtin.«object.__getattribute__» ⟨[.ref a, .str (Str.ofString nm) tk], []⟩) Q E ⟨h, g, d, t, os⟩ := by
  have hT : (⟨h, g, d, t, os⟩ : Shared).TypeIs (.ref a) "range" := ⟨_, hx, hc⟩
  have hT5 : (⟨h, g, d, t, os⟩ : Shared).TypeIs (.builtin id) "member_descriptor" := FX.ty
  have f4 := FX.lk
  have f5 := FX.ty
  have f6 := KF.slot_mem.lookup
  have f7 := RA.slot_mem_set.lookup
  repeat (any_goals (first | assumption | wp_step))
  refine mem_get FX hx hc hd h0 ?_
  repeat (any_goals (first | assumption | wp_step))
theorem mem_by {tk : Tok} {fill expr : Bool} {Q : Value → Shared → Prop} (FX : RA.Fld nm id i) (hx : h.get? a = some o) (hc : o.cls = .type "range") (hd : o.data = .fields vs) {n : Int} {tn : Tok} (h0 : vs[i]? = some (.int n tn))
    (hq : Q (.int n tn) ⟨h, g, d, t, os⟩) : wpAny (model prog w) A (getAttrBy (.ref a) (.str (Str.ofString nm) tk) fill expr) Q E ⟨h, g, d, t, os⟩ := by
  have hT : (⟨h, g, d, t, os⟩ : Shared).TypeIs (.ref a) "range" := ⟨_, hx, hc⟩
  have f2 := PySem.F.slot_range_getattribute.lookup
  have f3 := PySem.F.slot_range_getattribute.bind (.ref a)
  have hx0 : (expr && onTheHeap (Value.builtin "range.__getattribute__")) = false := by cases expr <;> rfl
  have call : ∀ {R : Result → Shared → Prop}, R (.ok (.ret (.int n tn))) ⟨h, g, d, t, os⟩ → codeAny (model prog w) A (.call (.builtin "range.__getattribute__") ⟨[.ref a, .str (Str.ofString nm) tk], []⟩) R ⟨h, g, d, t, os⟩ := fun hq' =>
    codeAny_call_builtin PySem.F.slot_range_getattribute.plain RA.entry_ga (PySem.F.slot_range_getattribute.check _ _ _ _ _ _ _ _ hT (PySem.F.args_range_getattribute_2 _ _) (mem_entry FX hx hc hd h0 hq'))
  repeat (any_goals (first | assumption | wp_step))
  refine call ?_
  repeat (any_goals (first | assumption | wp_step))
theorem range_attr {expr : Bool} {lo hi : Int} {t1 t2 t3 : Tok} {Q : Value → Shared → Prop} (FX : RA.Fld nm id i) (hx : h.get? a = some (rngO lo hi t1 t2 t3)) {n : Int} {tn : Tok} (h0 : (#[Value.int lo t1, Value.int hi t2, Value.int 1 t3] : Array Value)[i]? = some (.int n tn))
    (hq : Q (.int n tn) ⟨h, g, d, t + 1, os⟩) : wpAny (model prog w) A (getAttr (.ref a) (Str.ofString nm) expr) Q E ⟨h, g, d, t, os⟩ := by
  unfold getAttr
  repeat (any_goals (first | assumption | with_reducible apply mem_by FX hx rfl rfl h0 | wp_step))
end
end Mine
end
section
open PySem PySem.W
namespace Mine
noncomputable def inR (rs : List (Int × Int)) (n : Int) : Bool := rs.any fun p => decide (p.1 ≤ n) && decide (n < p.2)
noncomputable def absorb (e : Int) : List (Int × Int) → Int × List (Int × Int)
  | [] => (e, [])
  | (a, b) :: r => if a ≤ e then absorb (if b < e then e else b) r else (e, (a, b) :: r)
noncomputable def addR (s e : Int) : List (Int × Int) → List (Int × Int)
  | [] => [(s, e)]
  | (a, b) :: r => if e < a then (s, e) :: (a, b) :: r else if b < s then (a, b) :: addR s e r
    else (if a < s then a else s, (absorb (if b > e then b else e) r).1) :: (absorb (if b > e then b else e) r).2
theorem absorb_pos {e a b : Int} {r : List (Int × Int)} (h : a ≤ e) : absorb e ((a, b) :: r) = absorb (if e > b then e else b) r := by
  conv => lhs; unfold absorb
  rw [if_pos h]
theorem absorb_neg {e a b : Int} {r : List (Int × Int)} (h : ¬ a ≤ e) : absorb e ((a, b) :: r) = (e, (a, b) :: r) := by
  conv => lhs; unfold absorb
  rw [if_neg h]
theorem addR_app {s e : Int} : ∀ {rs : List (Int × Int)}, (∀ p ∈ rs, ¬ e < p.1 ∧ p.2 < s) → addR s e rs = rs ++ [(s, e)]
  | [], _ => rfl
  | (a, b) :: r, h => by
    have h1 := h (a, b) (.head _)
    unfold addR
    rw [if_neg h1.1, if_pos h1.2, addR_app fun p hp => h p (.tail _ hp)]
    rfl
theorem addR_ins {s e a b : Int} : ∀ {rs : List (Int × Int)} {j : Nat}, (∀ p ∈ rs.take j, ¬ e < p.1 ∧ p.2 < s) → rs[j]? = some (a, b) → e < a → addR s e rs = rs.take j ++ (s, e) :: rs.drop j
  | [], j, _, hp, _ => by simp at hp
  | (c, d) :: r, 0, _, hp, he => by
    simp at hp
    obtain ⟨rfl, rfl⟩ := hp
    unfold addR
    rw [if_pos he]
    rfl
  | (c, d) :: r, j + 1, h, hp, he => by
    have h1 := h (c, d) (by simp)
    unfold addR
    rw [if_neg h1.1, if_pos h1.2, addR_ins (j := j) (fun p hp => h p (by simp; exact .inr hp)) (by simpa using hp) he]
    rfl
theorem addR_abs {s e a b : Int} : ∀ {rs : List (Int × Int)} {j : Nat}, (∀ p ∈ rs.take j, ¬ e < p.1 ∧ p.2 < s) → rs[j]? = some (a, b) → ¬ e < a → ¬ b < s →
    addR s e rs = rs.take j ++ (if a < s then a else s, (absorb (if b > e then b else e) (rs.drop (j + 1))).1) :: (absorb (if b > e then b else e) (rs.drop (j + 1))).2
  | [], j, _, hp, _, _ => by simp at hp
  | (c, d) :: r, 0, _, hp, he, hb => by
    simp at hp
    obtain ⟨rfl, rfl⟩ := hp
    unfold addR
    rw [if_neg he, if_neg hb]
    rfl
  | (c, d) :: r, j + 1, h, hp, he, hb => by
    have h1 := h (c, d) (by simp)
    unfold addR
    rw [if_neg h1.1, if_pos h1.2, addR_abs (j := j) (fun p hp => h p (by simp; exact .inr hp)) (by simpa using hp) he hb]
    rfl
theorem set_at {α : Type} : ∀ (l : List α) (j : Nat) (x : α) (r : List α), j < l.length → (l.take (j + 1) ++ r).set j x = l.take j ++ x :: r
  | [], _, _, _, h => absurd h (Nat.not_lt_zero _)
  | a :: l, 0, x, r, _ => by simp
  | a :: l, j + 1, x, r, h => by
    have := set_at l j x r (Nat.lt_of_succ_lt_succ h)
    simp only [List.take_succ_cons, List.cons_append, List.set_cons_succ]
    rw [this]
theorem get_at {α : Type} (l : List α) (j : Nat) (x : α) (r : List α) (h : j < l.length) : (l.take (j + 1) ++ x :: r)[j + 1]? = some x := by
  rw [List.getElem?_append_right (by rw [List.length_take]; omega), List.length_take]
  have : j + 1 - min (j + 1) l.length = 0 := by omega
  rw [this]; rfl
theorem len_at {α : Type} (l : List α) (j : Nat) (r : List α) (h : j < l.length) : (l.take (j + 1) ++ r).length = j + 1 + r.length := by
  rw [List.length_append, List.length_take]; omega
theorem pop_at {α : Type} (l : List α) (j : Nat) (x : α) (r : List α) (h : j < l.length) : (l.take (j + 1) ++ x :: r).take (j + 1) ++ (l.take (j + 1) ++ x :: r).drop (j + 2) = l.take (j + 1) ++ r := by
  have e1 : (l.take (j + 1)).length = j + 1 := by rw [List.length_take]; omega
  have e2 : (l.take (j + 1) ++ x :: r).take (j + 1) = l.take (j + 1) := by
    conv => lhs; rw [← e1]
    rw [e1, List.take_append_of_le_length (by omega), List.take_of_length_le (by omega)]
  have e3 : (l.take (j + 1) ++ x :: r).drop (j + 2) = r := by
    rw [List.drop_append, e1, show j + 2 - (j + 1) = 1 by omega, List.drop_eq_nil_of_le (by omega)]
    rfl
  rw [e2, e3]
end Mine
end
section
open PySem PySem.W PySem.Calls PyProof.Rows
open Sem (wp)
set_option maxRecDepth 100000
namespace Mine
/-- the items of a list of ranges, in the ledger -/
noncomputable def RngsAt (news : List (Addr × Obj)) : List Value → List (Int × Int) → Prop
  | [], [] => True
  | v :: vs, p :: ps => (∃ (a : Addr) (t u k : Tok), v = .ref a ∧ (a, rngO p.1 p.2 t u k) ∈ news) ∧ RngsAt news vs ps
  | _, _ => False
abbrev rsD (P : Params) (l : Addr) (t : Tok) : Obj := dictOf [ent P "_RangeSet__ranges" t (.ref l)] 1
noncomputable def QAt (w : World) (news : List (Addr × Obj)) (q dq l : Addr) (rs : List (Int × Int)) : Prop :=
  ∃ (t : Tok) (vs : List Value) (n : Nat), (q, instObj 334 dq) ∈ news ∧ (dq, rsD w.params l t) ∈ news ∧ (l, listOf vs.toArray n) ∈ news ∧ RngsAt news vs rs
theorem RngsAt.len {news : List (Addr × Obj)} : ∀ {vs : List Value} {rs : List (Int × Int)}, RngsAt news vs rs → vs.length = rs.length
  | [], [], _ => rfl
  | _ :: _, _ :: _, h => by rw [List.length_cons, List.length_cons, RngsAt.len h.2]
  | [], _ :: _, h => h.elim
  | _ :: _, [], h => h.elim
theorem RngsAt.mono {news news' : List (Addr × Obj)} : ∀ {vs : List Value} {rs : List (Int × Int)}, RngsAt news vs rs → (∀ p ∈ news, p.2.cls = .type "range" → p ∈ news') → RngsAt news' vs rs
  | [], [], _, _ => trivial
  | _ :: _, _ :: _, ⟨⟨a, t, u, k, e, hm⟩, h⟩, hs => ⟨⟨a, t, u, k, e, hs _ hm rfl⟩, RngsAt.mono h hs⟩
  | [], _ :: _, h, _ => h.elim
  | _ :: _, [], h, _ => h.elim
theorem RngsAt.get {news : List (Addr × Obj)} : ∀ {vs : List Value} {rs : List (Int × Int)}, RngsAt news vs rs → ∀ {i : Nat} {p : Int × Int}, rs[i]? = some p → ∃ (a : Addr) (t u k : Tok), vs[i]? = some (.ref a) ∧ (a, rngO p.1 p.2 t u k) ∈ news
  | [], [], _, i, p, e => by simp at e
  | v :: vs, r :: rs, ⟨⟨a, t, u, k, e1, hm⟩, h⟩, i, p, e => by
    cases i with
    | zero => simp at e; subst e; exact ⟨a, t, u, k, by simp [e1], hm⟩
    | succ i => simp at e; obtain ⟨a, t, u, k, e2, hm⟩ := RngsAt.get h e; exact ⟨a, t, u, k, by simpa using e2, hm⟩
  | [], _ :: _, h, _, _, _ => h.elim
  | _ :: _, [], h, _, _, _ => h.elim
theorem RngsAt.getv {news : List (Addr × Obj)} : ∀ {vs : List Value} {rs : List (Int × Int)}, RngsAt news vs rs → ∀ {i : Nat} {v : Value}, vs[i]? = some v → ∃ (lo hi : Int) (a : Addr) (t u k : Tok), rs[i]? = some (lo, hi) ∧ v = .ref a ∧ (a, rngO lo hi t u k) ∈ news
  | [], [], _, i, v, e => by simp at e
  | v :: vs, r :: rs, ⟨⟨a, t, u, k, e1, hm⟩, h⟩, i, v', e => by
    cases i with
    | zero => simp at e; subst e; exact ⟨r.1, r.2, a, t, u, k, rfl, e1, hm⟩
    | succ i => simp at e; obtain ⟨lo, hi, a, t, u, k, e2, e3, hm⟩ := RngsAt.getv h e; exact ⟨lo, hi, a, t, u, k, by simpa using e2, e3, hm⟩
  | [], _ :: _, h, _, _, _ => h.elim
  | _ :: _, [], h, _, _, _ => h.elim
theorem RngsAt.append {news : List (Addr × Obj)} : ∀ {vs vs' : List Value} {rs rs' : List (Int × Int)}, RngsAt news vs rs → RngsAt news vs' rs' → RngsAt news (vs ++ vs') (rs ++ rs')
  | [], _, [], _, _, h => h
  | _ :: _, _, _ :: _, _, h, h' => ⟨h.1, RngsAt.append h.2 h'⟩
  | [], _, _ :: _, _, h, _ => h.elim
  | _ :: _, _, [], _, h, _ => h.elim
theorem RngsAt.take {news : List (Addr × Obj)} : ∀ {vs : List Value} {rs : List (Int × Int)} (i : Nat), RngsAt news vs rs → RngsAt news (vs.take i) (rs.take i)
  | _, _, 0, _ => by simp [RngsAt]
  | [], [], _ + 1, _ => trivial
  | _ :: _, _ :: _, i + 1, h => ⟨h.1, RngsAt.take i h.2⟩
  | [], _ :: _, _ + 1, h => h.elim
  | _ :: _, [], _ + 1, h => h.elim
theorem RngsAt.drop {news : List (Addr × Obj)} : ∀ {vs : List Value} {rs : List (Int × Int)} (i : Nat), RngsAt news vs rs → RngsAt news (vs.drop i) (rs.drop i)
  | _, _, 0, h => h
  | [], [], _ + 1, _ => trivial
  | _ :: _, _ :: _, i + 1, h => RngsAt.drop i h.2
  | [], _ :: _, _ + 1, h => h.elim
  | _ :: _, [], _ + 1, h => h.elim
theorem RngsAt.set {news : List (Addr × Obj)} {a : Addr} {p : Int × Int} {t u k : Tok} (hm : (a, rngO p.1 p.2 t u k) ∈ news) : ∀ {vs : List Value} {rs : List (Int × Int)} (i : Nat), RngsAt news vs rs → RngsAt news (vs.set i (.ref a)) (rs.set i p)
  | [], [], _, _ => trivial
  | _ :: _, _ :: _, 0, h => ⟨⟨a, t, u, k, rfl, hm⟩, h.2⟩
  | _ :: _, _ :: _, i + 1, h => ⟨h.1, RngsAt.set hm i h.2⟩
  | [], _ :: _, _, h => h.elim
  | _ :: _, [], _, h => h.elim
theorem RngsAt.one {news : List (Addr × Obj)} {a : Addr} {lo hi : Int} {t u k : Tok} (hm : (a, rngO lo hi t u k) ∈ news) : RngsAt news [.ref a] [(lo, hi)] := ⟨⟨a, t, u, k, rfl, hm⟩, trivial⟩
theorem news_sub1 {h₀ h : Heap} {L : Addr} {x : Addr × Obj} {news news' : List (Addr × Obj)} (N : News h₀ L h (x :: news)) (hs : ∀ p ∈ news', p ∈ news) : News h₀ L h (x :: news') := fun p hp => by
  rcases List.mem_cons.mp hp with rfl | hp
  · exact N _ (.head _)
  · exact N _ (.tail _ (hs p hp))
theorem RngsAt.tail1 {news : List (Addr × Obj)} {x : Addr × Obj} {vs : List Value} {rs : List (Int × Int)} (h : RngsAt news vs rs) : RngsAt (x :: news) vs rs := h.mono fun _ hp _ => .tail _ hp
theorem keep3 {q dq l : Addr} {oq od ol ol' : Obj} {news rest : List (Addr × Obj)} (hsub : ∀ p ∈ news, p ∈ (q, oq) :: (dq, od) :: (l, ol) :: rest) : ∀ p ∈ news, p.1 ≠ l → p ∈ (q, oq) :: (dq, od) :: (l, ol') :: rest := by
  intro p hp h1
  have := hsub p hp
  simp only [List.mem_cons] at this ⊢
  rcases this with h | h | rfl | h
  · exact .inl h
  · exact .inr (.inl h)
  · exact absurd rfl h1
  · exact .inr (.inr (.inr h))
theorem keep4 {x : Addr × Obj} {q dq l : Addr} {oq od ol ol' : Obj} {news rest : List (Addr × Obj)} (hsub : ∀ p ∈ news, p ∈ (q, oq) :: (dq, od) :: (l, ol) :: rest) : ∀ p ∈ news, p.1 ≠ l → p ∈ x :: (q, oq) :: (dq, od) :: (l, ol') :: rest :=
  fun p hp h1 => .tail _ (keep3 hsub p hp h1)
theorem map_over {x : Str} {v : Value} {m₁ m₀ : Str → Option Value} (h : ∀ y, y ≠ x → m₁ y = m₀ y) : (fun y => if y = x then some v else m₁ y) = fun y => if y = x then some v else m₀ y := by
  funext y
  by_cases e : y = x
  · rw [if_pos e, if_pos e]
  · rw [if_neg e, if_neg e, h y e]
theorem map_over2 {x z : Str} {v u : Value} {m₁ m₀ : Str → Option Value} (h : ∀ y, y ≠ x → y ≠ z → m₁ y = m₀ y) : (fun y => if y = x then some v else if y = z then some u else m₁ y) = fun y => if y = x then some v else if y = z then some u else m₀ y := by
  funext y
  by_cases e : y = x
  · rw [if_pos e, if_pos e]
  · by_cases e2 : y = z
    · rw [if_neg e, if_neg e, if_pos e2, if_pos e2]
    · rw [if_neg e, if_neg e, if_neg e2, if_neg e2, h y e e2]
theorem RngsAt.keep {h₀ h : Heap} {L l : Addr} {news news' : List (Addr × Obj)} {its : Array Value} {n : Nat} {vs : List Value} {rs : List (Int × Int)} (N : News h₀ L h news) (hl : (l, listOf its n) ∈ news) (hk : ∀ p ∈ news, p.1 ≠ l → p ∈ news') (hR : RngsAt news vs rs) : RngsAt news' vs rs :=
  hR.mono fun p hp hc => hk p hp (news_neT N hp hl hc rfl (by decide))
section
variable {prog : Program} {w : World} {A : Around} {E : Value → Shared → Prop} {s : Shared} {h₀ : Heap} {L r : Addr} {m : Str → Option Value} {news : List (Addr × Obj)} {lo hi : Int} {t u k : Tok}
theorem rk_start {expr : Bool} {Q : Value → Shared → Prop} (N : News h₀ L s.heap news) (hm : (r, rngO lo hi t u k) ∈ news) (h : Q (.int lo t) { s with toks := s.toks + 1 }) : wpAny (model prog w) A (getAttr (.ref r) (Str.ofString "start") expr) Q E s := by
  obtain ⟨hh, g, d, tk, os⟩ := s
  exact range_attr (i := 0) RA.start (N _ hm).1 rfl h
theorem rk_stop {expr : Bool} {Q : Value → Shared → Prop} (N : News h₀ L s.heap news) (hm : (r, rngO lo hi t u k) ∈ news) (h : Q (.int hi u) { s with toks := s.toks + 1 }) : wpAny (model prog w) A (getAttr (.ref r) (Str.ofString "stop") expr) Q E s := by
  obtain ⟨hh, g, d, tk, os⟩ := s
  exact range_attr (i := 1) RA.stop (N _ hm).1 rfl h
theorem rk_new {a b : Int} {ta tb : Tok} {Q : Value → Shared → Prop} (F : Fr h₀ L s.heap m) (N : News h₀ L s.heap news)
    (h : ∀ r h' tk k, Fr h₀ L h' m → News h₀ L h' ((r, rngO a b ta tb k) :: news) → (∀ p ∈ news, p.1 < r) → Q (.ref r) { s with heap := h', toks := tk }) :
    wpAny (model prog w) A (call (.type "range") [.int a ta, .int b tb]) Q E s :=
  call_range_2 (h _ _ _ _ (F.push _) (N.push F _) fun p hp => Heap.lt_size (N p hp).1)
theorem rk_contains {n : Int} {tn : Tok} {Q : Value → Shared → Prop} (N : News h₀ L s.heap news) (hm : (r, rngO lo hi t u k) ∈ news) (h : Q (.bool (decide (lo ≤ n) && decide (n < hi))) s) :
    wpAny (model prog w) A (compareOp .In (.int n tn) (.ref r)) Q E s := by
  have hT : s.TypeIs (.ref r) "range" := ⟨_, (N _ hm).1, rfl⟩
  have ho := (N _ hm).1
  show wpAny _ _ (do return .bool (← contains (.ref r) (.int n tn))) Q E s
  refine wpAny_bind (wpAny_contains_slot hT PySem.F.slot_range_contains (wpAny_call_entry PySem.F.slot_range_contains hT PySem.F.entry_range_contains ?_ (PySem.F.args_range_contains_2 _ _)))
  have e : (Builtin.Range.rangePlace? lo hi 1 n).isSome = (decide (lo ≤ n) && decide (n < hi)) := by
    unfold Builtin.Range.rangePlace?
    simp only [show (1 : Int) > 0 by decide, if_true, Int.emod_one, beq_self_eq_true, Bool.and_true]
    split <;> simp_all
  rw [← e] at h
  unfold Builtin.«range.__contains__»
  repeat (any_goals (first | assumption | with_reducible refine wpAny_field ho rfl rfl ?_ | wp_step))
  exact ⟨_, rfl, wpAny_truthy_bool (wpAny_pure h)⟩
theorem rl_get {D : Addr} {vs : List Value} {rs : List (Int × Int)} {n : Nat} {i : Int} {p : Int × Int} {ti : Tok} {Q : Value → Shared → Prop} (N : News h₀ L s.heap news) (hm : (D, listOf vs.toArray n) ∈ news) (hR : RngsAt news vs rs)
    (hb : rs.length < 2 ^ 20) (hi : (0 ≤ i ∧ rs[i.toNat]? = some p) ∨ (i = -1 ∧ rs.getLast? = some p))
    (h : ∀ a t u k, (a, rngO p.1 p.2 t u k) ∈ news → Q (.ref a) s) : wpAny (model prog w) A (getItem (.ref D) (.int i ti)) Q E s := by
  have hl : s.heap.IsList D vs.toArray := PySem.IsL.isList (n := n) (N _ hm).1
  have hlen := hR.len
  rcases hi with ⟨h0, hp⟩ | ⟨rfl, hp⟩
  · obtain ⟨a, t, u, k, e, hm2⟩ := hR.get hp
    have hlt : i.toNat < rs.length := by
      rcases Nat.lt_or_ge i.toNat rs.length with q | q
      · exact q
      · rw [List.getElem?_eq_none q] at hp; cases hp
    exact wpAny_getItem_list hl h0 (by omega) (by simpa using e) (h a t u k hm2)
  · have hne : rs ≠ [] := by rintro rfl; simp at hp
    have hlt : 0 < rs.length := List.length_pos_iff.mpr hne
    rw [List.getLast?_eq_getElem?] at hp
    obtain ⟨a, t, u, k, e, hm2⟩ := hR.get hp
    refine wpAny_getItem_list_neg hl (by decide) (by rw [List.size_toArray]; omega) (by decide) ?_ (h a t u k hm2)
    have : (-1 + (vs.toArray.size : Int)).toNat = rs.length - 1 := by rw [List.size_toArray]; omega
    rw [this]; simpa using e
theorem rl_sub {value slice : PySem.Expr} {D : Addr} {vs : List Value} {rs : List (Int × Int)} {n : Nat} {i : Int} {p : Int × Int} {ti : Tok} {Q : Value → Shared → Prop} (N : News h₀ L s.heap news) (hm : (D, listOf vs.toArray n) ∈ news) (hR : RngsAt news vs rs)
    (hb : rs.length < 2 ^ 20) (hi : (0 ≤ i ∧ rs[i.toNat]? = some p) ∨ (i = -1 ∧ rs.getLast? = some p))
    (h : ∀ a t u k, (a, rngO p.1 p.2 t u k) ∈ news → Q (.ref a) s)
    (hs : subscripted slice false (.ref D) (.int i ti) = operate [.ref D, .int i ti] (getItem (.ref D) (.int i ti)) := by with_unfolding_all rfl) :
    wpAny (model prog w) A (subscriptTail value slice (.ref D) (.int i ti)) Q E s :=
  tail_any (show s.TypeIs (.ref D) "list" from ⟨_, (N _ hm).1, rfl⟩) slot_list_getitem.lookup (rl_get N hm hR hb hi h) hs
theorem rl_len {D : Addr} {vs : List Value} {rs : List (Int × Int)} {n : Nat} {Q : Value → Shared → Prop} (N : News h₀ L s.heap news) (hm : (D, listOf vs.toArray n) ∈ news) (hR : RngsAt news vs rs)
    (hb : rs.length < 2 ^ 20) (h : Q (.int (rs.length : Int) (s.toks + 1)) { s with toks := s.toks + 1 + 1 }) : wpAny (model prog w) A (call (.builtin "len") [.ref D]) Q E s := by
  have hl : s.heap.IsList D vs.toArray := PySem.IsL.isList (n := n) (N _ hm).1
  have hlen := hR.len
  have e : (vs.toArray.size : Int) = (rs.length : Int) := by rw [List.size_toArray, hlen]
  exact len_list hl (by rw [e]; omega) (by rw [e]; exact h)
theorem kl_cut_at : ∀ (vs : List Value) (j : Nat) (y : Value), vs[j]? = some y → kl_cut vs j = some (vs.take j, y, vs.drop (j + 1))
  | [], _, _, h => by simp at h
  | x :: r, 0, y, h => by simp at h; subst h; rfl
  | x :: r, j + 1, y, h => by
    simp at h
    unfold kl_cut
    rw [kl_cut_at r j y h]
    rfl
theorem rl_pop {D : Addr} {vs : List Value} {rs : List (Int × Int)} {n : Nat} {i : Int} {p : Int × Int} {ti : Tok} {news' : List (Addr × Obj)} {Q : Value → Shared → Prop} (F : Fr h₀ L s.heap m) (N : News h₀ L s.heap news) (hR : RngsAt news vs rs) (hb : rs.length < 2 ^ 20)
    (h0 : 0 ≤ i) (hp : rs[i.toNat]? = some p) (U : Upd D (listOf vs.toArray n) (listOf (vs.take i.toNat ++ vs.drop (i.toNat + 1)).toArray (n + 1)) news news')
    (h : ∀ h' a, Fr h₀ L h' m → News h₀ L h' news' → Q (.ref a) { s with heap := h' }) :
    wpAny (model prog w) A (call (.builtin "list.pop") [.ref D, .int i ti]) Q E s := by
  have hlen := hR.len
  obtain ⟨a, t, u, k, e, hm2⟩ := hR.get hp
  have hlt : i.toNat < rs.length := by
    rcases Nat.lt_or_ge i.toNat rs.length with q | q
    · exact q
    · rw [List.getElem?_eq_none q] at hp; cases hp
  refine kl_popAt (k := i.toNat) (p := vs.take i.toNat) (q := vs.drop (i.toNat + 1)) (y := .ref a) F N (fitsIndex_of h0 (by omega)) (seqIndex_of h0 (by rw [List.size_toArray]; omega)) (kl_cut_at _ _ _ e) U ?_ (fun h' F' N' => h h' a F' N')
  rw [sizeLine_eq]; simp; omega
theorem rl_insert {D : Addr} {vs : List Value} {rs : List (Int × Int)} {n : Nat} {i : Int} {ti : Tok} {y : Value} {news' : List (Addr × Obj)} {Q : Value → Shared → Prop} (F : Fr h₀ L s.heap m) (N : News h₀ L s.heap news) (hR : RngsAt news vs rs) (hb : rs.length < 2 ^ 20)
    (h0 : 0 ≤ i) (hp : i.toNat ≤ rs.length) (U : Upd D (listOf vs.toArray n) (listOf (vs.take i.toNat ++ y :: vs.drop i.toNat).toArray (n + 1)) news news')
    (h : ∀ h', Fr h₀ L h' m → News h₀ L h' news' → Q .none { s with heap := h' }) :
    wpAny (model prog w) A (call (.builtin "list.insert") [.ref D, .int i ti, y]) Q E s := by
  have hlen := hR.len
  refine kl_insert (l := vs.take i.toNat ++ y :: vs.drop i.toNat) F N (fitsIndex_of h0 (by omega)) ?_ U ?_ h
  · unfold kl_ins
    rw [if_neg (by omega)]
    have : min i.toNat vs.toArray.toList.length = i.toNat := by simp; omega
    rw [this]
  · rw [sizeLine_eq]; simp; omega
theorem rl_set {D : Addr} {vs : List Value} {rs : List (Int × Int)} {n : Nat} {i : Int} {ti : Tok} {y : Value} {news' : List (Addr × Obj)} {Q : Unit → Shared → Prop} (F : Fr h₀ L s.heap m) (N : News h₀ L s.heap news) (hR : RngsAt news vs rs) (hb : rs.length < 2 ^ 20)
    (h0 : 0 ≤ i) (hp : i.toNat < rs.length) (U : Upd D (listOf vs.toArray n) (listOf (vs.set i.toNat y).toArray n) news news')
    (h : ∀ h', Fr h₀ L h' m → News h₀ L h' news' → Q () { s with heap := h' }) :
    wpAny (model prog w) A (setItem (.ref D) (.int i ti) y) Q E s := by
  have hlen := hR.len
  obtain ⟨pre, post, rfl, rfl, a, b⟩ := U.split
  have z := N (D, listOf vs.toArray n) (List.mem_append.mpr (.inr (.head _)))
  refine ki_setAt z.1 h0 (by omega) (by rw [List.size_toArray]; omega) (h _ (F.change (Heap.SameBut.update ..) z.2.1 z.2.2) (ki_turn _ N a b ?_ ?_))
  · show vs.toArray.setIfInBounds i.toNat y = (vs.set i.toNat y).toArray
    apply Array.toList_inj.mp
    simp
  · simp
theorem rl_append {D : Addr} {vs : List Value} {rs : List (Int × Int)} {n : Nat} {y : Value} {news' : List (Addr × Obj)} {Q : Value → Shared → Prop} (F : Fr h₀ L s.heap m) (N : News h₀ L s.heap news) (hR : RngsAt news vs rs) (hb : rs.length < 2 ^ 20)
    (U : Upd D (listOf vs.toArray n) (listOf (vs ++ [y]).toArray (n + 1)) news news')
    (h : ∀ h', Fr h₀ L h' m → News h₀ L h' news' → Q .none { s with heap := h' }) :
    wpAny (model prog w) A (call (.builtin "list.append") [.ref D, y]) Q E s := by
  have hlen := hR.len
  have e : vs.toArray.push y = (vs ++ [y]).toArray := by simp
  exact append_K F N (e.symm ▸ U) h (by rw [sizeLine_eq]; simp; omega)
end
end Mine
end
section
open PySem PySem.W PySem.Calls PyProof.Rows
open Sem (wp)
set_option maxRecDepth 100000
namespace Mine
section
variable {prog : Program} {w : World} {A : Around} {E : Value → Shared → Prop} {s : Shared} {env : Env} {h₀ : Heap} {x : Str} {body : List Stmt} {Q : Flow → Shared → Prop}
/-- what a turn leaves: the frame, the ledger with the iterator ahead of it, the invariant -/
noncomputable def TurnEnd (h₀ : Heap) (L : Addr) (it : Addr) (o : Obj) (Jn : (Str → Option Value) → List (Addr × Obj) → Prop) (s₁ s' : Shared) : Prop :=
  ∃ h tk m' nx, s' = { s₁ with heap := h, toks := tk } ∧ Fr h₀ L h m' ∧ News h₀ L h ((it, o) :: nx) ∧ (∀ p ∈ nx, p.1 ≠ it) ∧ Jn m' nx
noncomputable def TurnPost (h₀ : Heap) (L : Addr) (it : Addr) (o : Obj) (Jn : (Str → Option Value) → List (Addr × Obj) → Prop) (Q : Flow → Shared → Prop) (s₁ : Shared) (f : Flow) (s' : Shared) : Prop :=
  match f with
  | .ret v => Q (.ret v) s'
  | .brk => Q .next s'
  | .next => TurnEnd h₀ L it o Jn s₁ s'
  | .cont => TurnEnd h₀ L it o Jn s₁ s'
theorem iterL {l : Addr} {vs : List Value} {nn : Nat} {m₀ : Str → Option Value} {news : List (Addr × Obj)} (J : Nat → (Str → Option Value) → List (Addr × Obj) → Prop)
    (hh : A.handled = none) (hl : (l, listOf vs.toArray nn) ∈ news) (F : Fr h₀ env.locals s.heap m₀) (N : News h₀ env.locals s.heap news) (hj : J 0 m₀ news) (hJl : ∀ i m nx, J i m nx → (l, listOf vs.toArray nn) ∈ nx)
    (turn : ∀ i v m₁ news₁ h tk it o, vs[i]? = some v → J i m₁ news₁ → (∀ p ∈ news₁, p.1 ≠ it) → o.cls = .type "list_iterator" → Fr h₀ env.locals h (fun y => if y = x then some v else m₁ y) → News h₀ env.locals h ((it, o) :: news₁) →
      wpAny (model prog w) A (execs body env) (TurnPost h₀ env.locals it o (J (i + 1)) Q { s with heap := h, toks := tk }) E { s with heap := h, toks := tk })
    (done : ∀ m₁ news₁ h tk, J vs.length m₁ news₁ → Fr h₀ env.locals h m₁ → News h₀ env.locals h news₁ → Q .next { s with heap := h, toks := tk }) :
    wpAny (model prog w) A (pyIter (.ref l)) (fun it s₂ => LoopAtV prog w A h₀ env x body Q E it s₂) E s := by
  have hol : s.heap.get? l = some (listOf vs.toArray nn) := (N _ hl).1
  have hls : s.heap.IsList l vs.toArray := ⟨_, hol, rfl, nn, rfl⟩
  have hne : l ≠ s.heap.objs.size := Nat.ne_of_lt (Heap.lt_size hol)
  refine wpAny_pyIter_list hls ?_
  have W := Walks.list (prog := prog) (w := w) hh s.heap.objs.size l hne vs.toArray
  have hlen : vs.toArray.size = vs.length := by simp
  rw [hlen] at W
  refine ⟨_, _, _, vs.length, _, _, m₀, news, J, rfl, W, ?_, ?_, ?_, ⟨⟨_, Heap.get?_push_size _ rfl, rfl, rfl⟩, hls.at fun o e => Heap.get?_push_of_some _ e⟩, F.push _, (fun p hp => ⟨Heap.get?_push_of_some _ (N p hp).1, (N p hp).2⟩), hj, ?_, ?_⟩
  · intro hm
    rcases List.mem_cons.mp hm with e | hm
    · exact absurd F.ns.lt (e ▸ Nat.lt_irrefl _)
    · exact (N _ hl).2.1 ((List.mem_singleton.mp hm).symm)
  · intro b hb
    rw [List.mem_singleton.mp hb]
    exact next_is_new F
  · intro p hp hI
    exact absurd (Heap.lt_size (N p hp).1) ((List.mem_singleton.mp hI) ▸ Nat.lt_irrefl _)
  · rintro i v m₁ news₁ s₁ own ⟨hh', tk', rfl⟩ hin hP hJ hoff hown hget hfp hst F₁ N₁
    have hv : vs[i]? = some v := by simpa using hP
    obtain ⟨o, ho, hoc⟩ : ∃ o, hh'.get? s.heap.objs.size = some o ∧ o.cls = .type "list_iterator" := by obtain ⟨⟨o, ho, hc, _⟩, _⟩ := hst; exact ⟨o, ho, hc⟩
    have hmem : (s.heap.objs.size, o) ∈ own := hfp _ (by simp) (next_is_new F) o ho
    have hl₁ := hJl i m₁ news₁ hJ
    have hlo : hh'.get? l = some (listOf vs.toArray nn) := (N₁ _ (List.mem_append.mpr (.inr hl₁))).1
    have N₂ : News h₀ env.locals hh' ((s.heap.objs.size, o) :: news₁) := fun p hp => by
      rcases List.mem_cons.mp hp with rfl | hp
      · exact N₁ _ (List.mem_append_left _ hmem)
      · exact N₁ _ (List.mem_append_right _ hp)
    have hd : ∀ p ∈ news₁, p.1 ≠ s.heap.objs.size := fun p hp e => hoff p hp (by simp [e])
    refine wpAny_mono (turn i v m₁ news₁ hh' tk' _ o hv hJ hd hoc F₁ N₂) (fun f s₂ p => ?_) fun _ _ e => e
    have fin : TurnEnd h₀ env.locals s.heap.objs.size o (J (i + 1)) { s with heap := hh', toks := tk' } s₂ → LoopStepU h₀ env.locals [s.heap.objs.size] own (J (i + 1)) { s with heap := hh', toks := tk' } .next s₂ := by
      rintro ⟨h', tk, m', nx, e, F', N', hn, hj'⟩
      refine ⟨rfl, h', tk, m', nx, e, F', fun p hp => ?_, fun p hp q => hn p hp (List.mem_singleton.mp q), hj'⟩
      rcases List.mem_append.mp hp with h | h
      · rcases List.mem_cons.mp (hown p h) with h2 | h2
        · have h3 : hh'.get? p.1 = some p.2 := hget p h
          rw [h2, ho] at h3
          have : p = (s.heap.objs.size, o) := Prod.ext h2 (Option.some.inj h3).symm
          exact this ▸ N' _ (.head _)
        · have h1 := List.mem_singleton.mp h2
          have h3 : hh'.get? p.1 = some p.2 := hget p h
          rw [h1, hlo] at h3
          have : p = (l, listOf vs.toArray nn) := Prod.ext h1 (Option.some.inj h3).symm
          exact this ▸ N' _ (.tail _ (hJl _ _ _ hj'))
      · exact N' p (.tail _ h)
    cases f with
    | ret v => exact .ret p
    | brk => exact .brk p
    | next => exact .next (fin p)
    | cont => exact .cont (fin p)
  · rintro h' tk m' news' F' N' _ hJ
    exact done m' news' h' tk hJ F' N'
theorem iterR {r : Addr} {a b : Int} {t u k : Tok} {m₀ : Str → Option Value} {news : List (Addr × Obj)} (J : Nat → (Str → Option Value) → List (Addr × Obj) → Prop)
    (hh : A.handled = none) (hr : (r, rngO a b t u k) ∈ news) (ha : -(2 ^ 62) ≤ a) (ha' : a < 2 ^ 62) (hb : -(2 ^ 62) ≤ b) (hb' : b < 2 ^ 62) (F : Fr h₀ env.locals s.heap m₀) (N : News h₀ env.locals s.heap news) (hj : J 0 m₀ news)
    (turn : ∀ (i : Nat) t m₁ news₁ h tk it o, (i : Int) < b - a → J i m₁ news₁ → (∀ p ∈ news₁, p.1 ≠ it) → o.cls = .type "range_iterator" → Fr h₀ env.locals h (fun y => if y = x then some (.int (a + i) t) else m₁ y) → News h₀ env.locals h ((it, o) :: news₁) →
      wpAny (model prog w) A (execs body env) (TurnPost h₀ env.locals it o (J (i + 1)) Q { s with heap := h, toks := tk }) E { s with heap := h, toks := tk })
    (done : ∀ m₁ news₁ h tk, J (b - a).toNat m₁ news₁ → Fr h₀ env.locals h m₁ → News h₀ env.locals h news₁ → Q .next { s with heap := h, toks := tk }) :
    wpAny (model prog w) A (pyIter (.ref r)) (fun it s₂ => LoopAtV prog w A h₀ env x body Q E it s₂) E s := by
  have hR : IsRange s.heap r a b 1 t u k := (N _ hr).1
  have hsz : Builtin.Range.rangeSize a b 1 = ((b - a).toNat : Int) := by rw [rangeSize_one]; split <;> omega
  refine wpAny_pyIter_range hR (small_one ha ha' hb hb') ?_
  rw [hsz]
  have W := Walks.range (prog := prog) (w := w) hh s.heap.objs.size a 1 (b - a).toNat
  refine ⟨_, _, _, (b - a).toNat, _, _, m₀, news, J, rfl, W, ?_, ?_, ?_, ?_, F.push _, (fun p hp => ⟨Heap.get?_push_of_some _ (N p hp).1, (N p hp).2⟩), hj, ?_, ?_⟩
  · intro hm
    exact absurd F.ns.lt ((List.mem_singleton.mp hm) ▸ Nat.lt_irrefl _)
  · intro b hb
    rw [List.mem_singleton.mp hb]
    exact next_is_new F
  · intro p hp hI
    exact absurd (Heap.lt_size (N p hp).1) ((List.mem_singleton.mp hI) ▸ Nat.lt_irrefl _)
  · show IsRangeIter _ _ _ _ _
    simpa using Heap.get?_push_size _ rfl
  · rintro i v m₁ news₁ s₁ own ⟨hh', tk', rfl⟩ hin ⟨tv, rfl⟩ hJ hoff hown hget hfp hst F₁ N₁
    obtain ⟨o, ho, hoc⟩ : ∃ o, hh'.get? s.heap.objs.size = some o ∧ o.cls = .type "range_iterator" := ⟨_, hst, rfl⟩
    have hmem : (s.heap.objs.size, o) ∈ own := hfp _ (by simp) (next_is_new F) o ho
    have N₂ : News h₀ env.locals hh' ((s.heap.objs.size, o) :: news₁) := fun p hp => by
      rcases List.mem_cons.mp hp with rfl | hp
      · exact N₁ _ (List.mem_append_left _ hmem)
      · exact N₁ _ (List.mem_append_right _ hp)
    have hd : ∀ p ∈ news₁, p.1 ≠ s.heap.objs.size := fun p hp e => hoff p hp (by simp [e])
    have F₁' : Fr h₀ env.locals hh' (fun y => if y = x then some (.int (a + i) tv) else m₁ y) := by simpa using F₁
    refine wpAny_mono (turn i tv m₁ news₁ hh' tk' _ o (by omega) hJ hd hoc F₁' N₂) (fun f s₂ p => ?_) fun _ _ e => e
    have fin : TurnEnd h₀ env.locals s.heap.objs.size o (J (i + 1)) { s with heap := hh', toks := tk' } s₂ → LoopStepU h₀ env.locals [s.heap.objs.size] own (J (i + 1)) { s with heap := hh', toks := tk' } .next s₂ := by
      rintro ⟨h', tk, m', nx, e, F', N', hn, hj'⟩
      refine ⟨rfl, h', tk, m', nx, e, F', fun p hp => ?_, fun p hp q => hn p hp (List.mem_singleton.mp q), hj'⟩
      rcases List.mem_append.mp hp with h | h
      · have h2 := List.mem_singleton.mp (hown p h)
        have h3 : hh'.get? p.1 = some p.2 := hget p h
        rw [h2, ho] at h3
        have : p = (s.heap.objs.size, o) := Prod.ext h2 (Option.some.inj h3).symm
        exact this ▸ N' _ (.head _)
      · exact N' p (.tail _ h)
    cases f with
    | ret v => exact .ret p
    | brk => exact .brk p
    | next => exact .next (fin p)
    | cont => exact .cont (fin p)
  · rintro h' tk m' news' F' N' _ hJ
    exact done m' news' h' tk hJ F' N'
/-- an enumerate over a list of the ledger -/
noncomputable def EnumOf (h₀ : Heap) (L : Addr) (news : List (Addr × Obj)) (h : Heap) (e l : Addr) : Prop :=
  ∃ it, IsEnum h e it 0 .none ∧ h.IsListIter it l 0 ∧ @Ne Nat e it ∧ h₀.get? e = none ∧ h₀.get? it = none ∧ @Ne Nat L e ∧ @Ne Nat L it ∧ ∀ p ∈ news, @Ne Nat p.1 e ∧ @Ne Nat p.1 it
theorem enum_new {L l : Addr} {vs : List Value} {nn : Nat} {m : Str → Option Value} {news : List (Addr × Obj)} {Q : Value → Shared → Prop} (F : Fr h₀ L s.heap m) (N : News h₀ L s.heap news) (hl : (l, listOf vs.toArray nn) ∈ news)
    (h : ∀ h' e, Fr h₀ L h' m → News h₀ L h' news → EnumOf h₀ L news h' e l → Q (.ref e) { s with heap := h' }) : wpAny (model prog w) A (call (.type "enumerate") [.ref l]) Q E s := by
  have hol : s.heap.get? l = some (listOf vs.toArray nn) := (N _ hl).1
  have hls : s.heap.IsList l vs.toArray := ⟨_, hol, rfl, nn, rfl⟩
  have hLs : L < s.heap.objs.size := F.ns.lt
  have hab : h₀.objs.size ≤ L := F.above
  refine call_enumerate_list hls fun h' he hit hsz hk => ?_
  have F' : Fr h₀ L h' m := ⟨F.ns.keeps hk, fun b o e => hk b o (F.keep b o e), F.above⟩
  have N' : News h₀ L h' news := fun p hp => ⟨hk _ _ (N p hp).1, (N p hp).2⟩
  refine h h' _ F' N' ⟨_, he, hit, Nat.succ_ne_self _, Heap.get?_none_of_le (Nat.le_trans hab (Nat.le_of_lt (Nat.lt_succ_of_lt hLs))), Heap.get?_none_of_le (Nat.le_trans hab (Nat.le_of_lt hLs)), Nat.ne_of_lt (Nat.lt_succ_of_lt hLs), Nat.ne_of_lt hLs, fun p hp => ?_⟩
  have hq1 : p.1 < s.heap.objs.size := Heap.lt_size (N p hp).1
  exact ⟨Nat.ne_of_lt (Nat.lt_succ_of_lt hq1), Nat.ne_of_lt hq1⟩
noncomputable def ETurn (h₀ : Heap) (L : Addr) (h : Heap) (Jn : (Str → Option Value) → Prop) (Q : Flow → Shared → Prop) (s₁ : Shared) (f : Flow) (s' : Shared) : Prop :=
  match f with
  | .ret v => Q (.ret v) s'
  | .brk => Q .next s'
  | .next => ∃ tk m', s' = { s₁ with heap := h, toks := tk } ∧ Fr h₀ L h m' ∧ Jn m'
  | .cont => ∃ tk m', s' = { s₁ with heap := h, toks := tk } ∧ Fr h₀ L h m' ∧ Jn m'
theorem iterE {e l : Addr} {xi xc : Str} {vs : List Value} {nn : Nat} {m₀ : Str → Option Value} {news : List (Addr × Obj)} (J : Nat → (Str → Option Value) → Prop) (hh : A.handled = none) (he : EnumOf h₀ env.locals news s.heap e l) (hl : (l, listOf vs.toArray nn) ∈ news)
    (F : Fr h₀ env.locals s.heap m₀) (N : News h₀ env.locals s.heap news) (hj : J 0 m₀)
    (turn : ∀ i v t m₁ h tk, vs[i]? = some v → J i m₁ → Fr h₀ env.locals h (fun y => if y = xc then some v else if y = xi then some (.int (i : Int) t) else m₁ y) → News h₀ env.locals h news →
      wpAny (model prog w) A (execs body env) (ETurn h₀ env.locals h (J (i + 1)) Q { s with heap := h, toks := tk }) E { s with heap := h, toks := tk })
    (done : ∀ m₁ h tk, J vs.length m₁ → Fr h₀ env.locals h m₁ → News h₀ env.locals h news → Q .next { s with heap := h, toks := tk }) :
    wpAny (model prog w) A (pyIter (.ref e)) (fun it s₂ => PairAt3 prog w A h₀ env xi xc body Q E it s₂) E s := by
  obtain ⟨it, he, hit, hei, hne, hni, hLe, hLi, hnew⟩ := he
  have hol : s.heap.get? l = some (listOf vs.toArray nn) := (N _ hl).1
  have hls : s.heap.IsList l vs.toArray := ⟨_, hol, rfl, nn, rfl⟩
  refine wpAny_pyIter_enum he ?_
  have D := Draws.list (prog := prog) (w := w) (A := A.in1) hh it l (hnew _ hl).2 vs.toArray
  have hlen : vs.toArray.size = vs.length := by simp
  rw [hlen] at D
  have hLl : env.locals ≠ l := (N _ hl).2.1.symm
  refine ⟨e, e :: [it, l], [e, it], vs.length, _, _, _, (fun i v0 v1 => ∃ t, v0 = .int i t ∧ vs.toArray[i]? = some v1), m₀, news, (fun i m nx => J i m ∧ nx = news), rfl, WalksT.enumerateD D e hei ?_ (by simp), ?_, ?_, ?_, ?_, ⟨⟨_, by simpa using he⟩, hit, hls⟩, F, N, ⟨hj, rfl⟩, ?_, ?_⟩
  · intro hm
    rcases List.mem_cons.mp hm with q | q
    · exact hei q
    · exact (hnew _ hl).1 (List.mem_singleton.mp q).symm
  · rintro i vals ⟨t, x, hPx, rfl⟩
    exact ⟨_, _, rfl, t, rfl, hPx⟩
  · intro hm
    rcases List.mem_cons.mp hm with q | q
    · exact hLe q
    · rcases List.mem_cons.mp q with q | q
      · exact hLi q
      · exact hLl (List.mem_singleton.mp q)
  · intro b hb
    rcases List.mem_cons.mp hb with rfl | hb
    · exact hne
    · rw [List.mem_singleton.mp hb]; exact hni
  · intro p hp hb
    rcases List.mem_cons.mp hb with e1 | hb
    · exact (hnew p hp).1 e1
    · exact (hnew p hp).2 (List.mem_singleton.mp hb)
  · rintro i v0 v1 m₁ news₁ s₁ own ⟨h, tk, rfl⟩ hi ⟨t, rfl, hPx⟩ ⟨hJ, rfl⟩ ha hsub F₁ N₁
    refine wpAny_mono (turn i v1 t m₁ h tk (by simpa using hPx) hJ F₁ N₁.right) (fun f s₂ p => ?_) fun _ _ e => e
    have fin : (∃ tk' m', s₂ = { { s with heap := h, toks := tk } with heap := h, toks := tk' } ∧ Fr h₀ env.locals h m' ∧ J (i + 1) m') → LoopStep2 h₀ env.locals own news₁ (fun m nx => J (i + 1) m ∧ nx = news₁) { s with heap := h, toks := tk } .next s₂ := by
      rintro ⟨tk', m', e, F', hj'⟩
      exact ⟨rfl, h, tk', m', news₁, e, F', N₁, rfl, hj', rfl⟩
    cases f with
    | ret v => exact p
    | brk => exact p
    | next => exact fin p
    | cont => exact fin p
  · rintro h' tk m' news' F' N' _ ⟨hJ, rfl⟩
    exact done m' h' tk hJ F' N'
end
section
variable {prog : Program} {w : World} {A : Around} {E : Value → Shared → Prop} {s : Shared} {env : Env} {h₀ : Heap} {x : Str} {body : List Stmt} {Q : Flow → Shared → Prop}
theorem iterE2 {e l : Addr} {xi xc : Str} {vs : List Value} {nn : Nat} {m₀ : Str → Option Value} {news : List (Addr × Obj)} (J : Nat → Prop) (hh : A.handled = none) (he : EnumOf h₀ env.locals news s.heap e l) (hl : (l, listOf vs.toArray nn) ∈ news)
    (F : Fr h₀ env.locals s.heap m₀) (N : News h₀ env.locals s.heap news) (hj : J 0)
    (turn : ∀ i v t h tk, vs[i]? = some v → J i → Fr h₀ env.locals h (fun y => if y = xc then some v else if y = xi then some (.int (i : Int) t) else m₀ y) → News h₀ env.locals h news →
      wpAny (model prog w) A (execs body env) (ETurn h₀ env.locals h (fun m => (∀ y, y ≠ xc → y ≠ xi → m y = m₀ y) ∧ J (i + 1)) Q { s with heap := h, toks := tk }) E { s with heap := h, toks := tk })
    (done : ∀ v1 v2 h tk, J vs.length → Fr h₀ env.locals h (fun y => if y = xc then v1 else if y = xi then v2 else m₀ y) → News h₀ env.locals h news → Q .next { s with heap := h, toks := tk }) :
    wpAny (model prog w) A (pyIter (.ref e)) (fun it s₂ => PairAt3 prog w A h₀ env xi xc body Q E it s₂) E s := by
  refine iterE (fun i m => (∀ y, y ≠ xc → y ≠ xi → m y = m₀ y) ∧ J i) hh he hl F N ⟨fun _ _ _ => rfl, hj⟩ ?_ ?_
  · rintro i v t m₁ h tk hv ⟨hm, hJ⟩ F₁ N₁
    rw [map_over2 hm] at F₁
    exact turn i v t h tk hv hJ F₁ N₁
  · rintro m₁ h tk ⟨hm, hJ⟩ F₁ N₁
    refine done (m₁ xc) (m₁ xi) h tk hJ ?_ N₁
    have e : m₁ = (fun y => if y = xc then m₁ xc else if y = xi then m₁ xi else m₀ y) := by
      funext y
      by_cases h1 : y = xc
      · rw [if_pos h1, h1]
      · by_cases h2 : y = xi
        · rw [if_neg h1, if_pos h2, h2]
        · rw [if_neg h1, if_neg h2, hm y h1 h2]
    rw [← e]; exact F₁
end
/-- a mark: the walk leaves an if to the hand -/
noncomputable def HoldIf : Prop := True
/-- a goal that the walk leaves to the hand -/
structure HoldW (P : Prop) : Prop where
  it : P
theorem hold_intro {P : Prop} (h : HoldW P) : P := h.it
theorem map_twice {x : Str} {v u : Option Value} {m : Str → Option Value} : (fun y => if y = x then v else if y = x then u else m y) = fun y => if y = x then v else m y := by
  funext y
  by_cases e : y = x
  · rw [if_pos e, if_pos e]
  · rw [if_neg e, if_neg e, if_neg e]
section
variable {prog : Program} {w : World} {A : Around} {E : Value → Shared → Prop} {Q : Flow → Shared → Prop} {s : Shared} {env : Env} {h₀ : Heap} {L : Addr}
noncomputable def W1Post (h₀ : Heap) (L : Addr) (s : Shared) (x : Str) (v₁ : Value) (m0 : Str → Option Value) (J : Nat → Value → List (Addr × Obj) → Prop) (n : Nat) (f : Flow) (s₃ : Shared) : Prop :=
  f = .next ∧ ∃ h' tk v₂ news₂ n', s₃ = { s with heap := h', toks := tk } ∧ Fr h₀ L h' (fun y => if y = x then some v₂ else if y = x then some v₁ else m0 y) ∧ News h₀ L h' news₂ ∧ n' < n ∧ J n' v₂ news₂
/-- a while whose body writes one local, x -/
theorem while1 {test : Expr} {body : List Stmt} {pos : Pos} {x : Str} {v : Value} {m0 : Str → Option Value} {news : List (Addr × Obj)} (J : Nat → Value → List (Addr × Obj) → Prop) {n₀ : Nat}
    (F : Fr h₀ L s.heap (fun y => if y = x then some v else m0 y)) (N : News h₀ L s.heap news) (hJ : J n₀ v news)
    (turn : ∀ n v₁ news₁ h₁ tk₁, Fr h₀ L h₁ (fun y => if y = x then some v₁ else m0 y) → News h₀ L h₁ news₁ → J n v₁ news₁ →
      wpAny (model prog w) A (isTrue test env (eval test env)) (fun b s₂ =>
        if b = true then wpAny (model prog w) A (execs body env) (W1Post h₀ L s x v₁ m0 J n) E s₂ else Q .next s₂) E { s with heap := h₁, toks := tk₁ })
    (hE : PassesOwn (model prog w) A env E := by passes_own) :
    wpAny (model prog w) A (exec (.While test body [] pos) env) Q E s := by
  refine While_inv (fun n m nx => ∃ v, m = (fun y => if y = x then some v else m0 y) ∧ J n v nx) F N ⟨v, rfl, hJ⟩ ?_ hE
  rintro n m₁ news₁ h₁ tk₁ F₁ N₁ ⟨v₁, rfl, hJ₁⟩
  refine wpAny_mono (turn n v₁ news₁ h₁ tk₁ F₁ N₁ hJ₁) (fun b s₂ hb => ?_) fun _ _ z => z
  cases b with
  | false => exact hb
  | true =>
    simp only [if_true] at hb ⊢
    refine wpAny_mono hb (fun f s₃ h₃ => ?_) fun _ _ z => z
    obtain ⟨rfl, h', tk, v₂, news₂, n', rfl, F₂, N₂, hn, hJ₂⟩ := h₃
    rw [map_twice] at F₂
    exact ⟨rfl, h', tk, _, news₂, n', rfl, F₂, N₂, hn, v₂, rfl, hJ₂⟩
end
section
variable {prog : Program} {w : World} {A : Around} {E : Value → Shared → Prop} {Q : Flow → Shared → Prop} {s : Shared} {env : Env} {h₀ : Heap} {L : Addr}
/-- what an if with two written locals, xf (any) and xk (a number), leaves -/
noncomputable def CutEnd (s : Shared) (h₀ : Heap) (L : Addr) (m0 : Str → Option Value) (news : List (Addr × Obj)) (xf xk : Str) (G : Int → Prop) (s' : Shared) : Prop :=
  ∃ h tk v k t', s' = { s with heap := h, toks := tk } ∧ Fr h₀ L h (fun y => if y = xk then some (.int k t') else if y = xf then v else m0 y) ∧ News h₀ L h news ∧ G k
noncomputable def CutPost (s : Shared) (h₀ : Heap) (L : Addr) (m0 : Str → Option Value) (news : List (Addr × Obj)) (xf xk : Str) (G : Int → Prop) (f : Flow) (s' : Shared) : Prop := f = .next ∧ CutEnd s h₀ L m0 news xf xk G s'
theorem if_cutF {test : Expr} {body : List Stmt} {pos : Pos} {m0 : Str → Option Value} {news : List (Addr × Obj)} {xf xk : Str} (G : Int → Prop) (_F : Fr h₀ L s.heap m0) (_N : News h₀ L s.heap news)
    (h1 : wpAny (model prog w) A (isTrue test env (eval test env)) (fun b s₂ => if b = true then wpAny (model prog w) A (execs body env) (CutPost s h₀ L m0 news xf xk G) E s₂ else HoldW (CutEnd s h₀ L m0 news xf xk G s₂)) E s)
    (h2 : ∀ h tk v k t', Fr h₀ L h (fun y => if y = xk then some (.int k t') else if y = xf then v else m0 y) → News h₀ L h news → G k → Q .next { s with heap := h, toks := tk }) :
    wpAny (model prog w) A (exec (.If test body [] pos) env) Q E s := by
  have fin : ∀ s', CutEnd s h₀ L m0 news xf xk G s' → Q .next s' := by
    rintro s' ⟨h, tk, v, k, t', rfl, F, N, g⟩
    exact h2 h tk v k t' F N g
  refine wpAny_If (wpAny_mono h1 (fun b s₂ hb => ?_) fun _ _ e => e)
  cases b with
  | false => exact wpAny_execs_nil (fin _ hb.it)
  | true =>
    refine wpAny_mono hb (fun f s₃ hf => ?_) fun _ _ e => e
    obtain ⟨rfl, hc⟩ := hf
    exact fin _ hc
theorem map_back {xf xk : Str} {v : Value} {m0 : Str → Option Value} (hk : m0 xk = some v) : (fun y => if y = xk then some v else if y = xf then m0 xf else m0 y) = m0 := by
  funext y
  by_cases h1 : y = xk
  · rw [if_pos h1, h1, hk]
  · by_cases h2 : y = xf
    · rw [if_neg h1, if_pos h2, h2]
    · rw [if_neg h1, if_neg h2]
end
section
variable {prog : Program} {w : World} {A : Around} {E : Value → Shared → Prop} {Q : Flow → Shared → Prop} {s : Shared} {env : Env} {h₀ : Heap} {L : Addr}
abbrev map3 (x1 x2 x3 : Str) (v1 v2 v3 : Value) (m : Str → Option Value) : Str → Option Value := fun y => if y = x1 then some v1 else if y = x2 then some v2 else if y = x3 then some v3 else m y
theorem map3_twice {x1 x2 x3 : Str} {v1 v2 v3 u1 u2 u3 : Value} {m : Str → Option Value} : map3 x1 x2 x3 v1 v2 v3 (map3 x1 x2 x3 u1 u2 u3 m) = map3 x1 x2 x3 v1 v2 v3 m := by
  funext y
  unfold map3
  by_cases h1 : y = x1
  · simp only [if_pos h1]
  · by_cases h2 : y = x2
    · simp only [if_neg h1, if_pos h2]
    · by_cases h3 : y = x3
      · simp only [if_neg h1, if_neg h2, if_pos h3]
      · simp only [if_neg h1, if_neg h2, if_neg h3]
theorem map3_of {x1 x2 x3 : Str} {v1 v2 v3 : Value} {m : Str → Option Value} (h2 : m x2 = some v2) (h3 : m x3 = some v3) : (fun y => if y = x1 then some v1 else m y) = map3 x1 x2 x3 v1 v2 v3 m := by
  funext y
  unfold map3
  by_cases e1 : y = x1
  · simp only [if_pos e1]
  · by_cases e2 : y = x2
    · simp only [if_neg e1, if_pos e2]; rw [e2, h2]
    · by_cases e3 : y = x3
      · simp only [if_neg e1, if_neg e2, if_pos e3]; rw [e3, h3]
      · simp only [if_neg e1, if_neg e2, if_neg e3]
noncomputable def W3Post (h₀ : Heap) (L : Addr) (s : Shared) (x1 x2 x3 : Str) (u1 u2 u3 : Value) (m0 : Str → Option Value) (J : Nat → Value → Value → Value → List (Addr × Obj) → Prop) (n : Nat) (f : Flow) (s₃ : Shared) : Prop :=
  f = .next ∧ ∃ h' tk v1 v2 v3 news₂ n', s₃ = { s with heap := h', toks := tk } ∧ Fr h₀ L h' (map3 x1 x2 x3 v1 v2 v3 (map3 x1 x2 x3 u1 u2 u3 m0)) ∧ News h₀ L h' news₂ ∧ n' < n ∧ J n' v1 v2 v3 news₂
/-- a while whose body writes three locals -/
theorem while3 {test : Expr} {body : List Stmt} {pos : Pos} {x1 x2 x3 : Str} {v1 v2 v3 : Value} {m0 : Str → Option Value} {news : List (Addr × Obj)} (J : Nat → Value → Value → Value → List (Addr × Obj) → Prop) {n₀ : Nat}
    (F : Fr h₀ L s.heap (fun y => if y = x1 then some v1 else m0 y)) (N : News h₀ L s.heap news) (h2 : m0 x2 = some v2) (h3 : m0 x3 = some v3) (hJ : J n₀ v1 v2 v3 news)
    (turn : ∀ n u1 u2 u3 news₁ h₁ tk₁, Fr h₀ L h₁ (map3 x1 x2 x3 u1 u2 u3 m0) → News h₀ L h₁ news₁ → J n u1 u2 u3 news₁ →
      wpAny (model prog w) A (isTrue test env (eval test env)) (fun b s₂ =>
        if b = true then wpAny (model prog w) A (execs body env) (W3Post h₀ L s x1 x2 x3 u1 u2 u3 m0 J n) E s₂ else Q .next s₂) E { s with heap := h₁, toks := tk₁ })
    (hE : PassesOwn (model prog w) A env E := by passes_own) :
    wpAny (model prog w) A (exec (.While test body [] pos) env) Q E s := by
  rw [map3_of h2 h3] at F
  refine While_inv (fun n m nx => ∃ u1 u2 u3, m = map3 x1 x2 x3 u1 u2 u3 m0 ∧ J n u1 u2 u3 nx) F N ⟨v1, v2, v3, rfl, hJ⟩ ?_ hE
  rintro n m₁ news₁ h₁ tk₁ F₁ N₁ ⟨u1, u2, u3, rfl, hJ₁⟩
  refine wpAny_mono (turn n u1 u2 u3 news₁ h₁ tk₁ F₁ N₁ hJ₁) (fun b s₂ hb => ?_) fun _ _ z => z
  cases b with
  | false => exact hb
  | true =>
    simp only [if_true] at hb ⊢
    refine wpAny_mono hb (fun f s₃ h₃ => ?_) fun _ _ z => z
    obtain ⟨rfl, h', tk, w1, w2, w3, news₂, n', rfl, F₂, N₂, hn, hJ₂⟩ := h₃
    rw [map3_twice] at F₂
    exact ⟨rfl, h', tk, _, news₂, n', rfl, F₂, N₂, hn, w1, w2, w3, rfl, hJ₂⟩
end
theorem allLt_of {d : Nat} : ∀ {l : List (Addr × Obj)}, (∀ p ∈ l, @LT.lt Nat _ p.1 d) → AllLt d l
  | [], _ => trivial
  | a :: _, h => ⟨h a (.head _), allLt_of fun p hp => h p (.tail _ hp)⟩
end Mine
end
section
open PySem PySem.W PySem.Calls PyProof.Rows PyProof.V
open Sem (wp)
open Builtin
set_option maxRecDepth 100000
set_option maxHeartbeats 4000000
namespace Mine
abbrev baO (b : Array UInt8) : Obj := { cls := .type "bytearray", data := .bytearray b }
namespace BA
theorem slot_len : Slot "bytearray" "__len__" "bytearray.__len__" :=
  .of (owner := "bytearray") (n := "__len__") (by rw [typeLookup_type, builtinLookup_eq_fast]; kernel_rfl) (by decide +kernel) (by decide +kernel) (by decide +kernel)
    (by first | exact .inl (by decide +kernel) | exact .inr (by decide +kernel)) (by rw [isSubtype_type]; kernel_rfl)
theorem entry_len : entryFor table "bytearray.__len__" = some Builtin.«bytearray.__len__» := entryFor_of_tree (by kernel_rfl)
theorem args_len (a : Value) : argsOk "bytearray.__len__" ⟨[a], []⟩ := by unfold argsOk; kernel_rfl
theorem slot_getitem : Slot "bytearray" "__getitem__" "bytearray.__getitem__" :=
  .of (owner := "bytearray") (n := "__getitem__") (by rw [typeLookup_type, builtinLookup_eq_fast]; kernel_rfl) (by decide +kernel) (by decide +kernel) (by decide +kernel)
    (by first | exact .inl (by decide +kernel) | exact .inr (by decide +kernel)) (by rw [isSubtype_type]; kernel_rfl)
theorem entry_getitem : entryFor table "bytearray.__getitem__" = some Builtin.«bytearray.__getitem__» := entryFor_of_tree (by kernel_rfl)
theorem args_getitem (a b : Value) : argsOk "bytearray.__getitem__" ⟨[a, b], []⟩ := by unfold argsOk; kernel_rfl
theorem slot_add : Slot "bytearray" "__add__" "bytearray.__add__" :=
  .of (owner := "bytearray") (n := "__add__") (by rw [typeLookup_type, builtinLookup_eq_fast]; kernel_rfl) (by decide +kernel) (by decide +kernel) (by decide +kernel)
    (by first | exact .inl (by decide +kernel) | exact .inr (by decide +kernel)) (by rw [isSubtype_type]; kernel_rfl)
theorem entry_add : entryFor table "bytearray.__add__" = some Builtin.«bytearray.__add__» := entryFor_of_tree (by kernel_rfl)
theorem args_add (a b : Value) : argsOk "bytearray.__add__" ⟨[a, b], []⟩ := by unfold argsOk; kernel_rfl
end BA
section
variable {prog : Program} {w : World} {A : Around} {E : Value → Shared → Prop} {s : Shared} {h₀ : Heap} {L o : Addr} {m : Str → Option Value} {news : List (Addr × Obj)} {b : Array UInt8}
theorem ba_type (N : News h₀ L s.heap news) (hm : (o, baO b) ∈ news) : s.TypeIs (.ref o) "bytearray" := ⟨_, (N _ hm).1, rfl⟩
theorem wpAny_newBa {M : Model} {A : Around} {E : Value → Shared → Prop} {s : Shared} {b : Array UInt8} {Q : Value → Shared → Prop} (h : Q (.ref s.heap.objs.size) { s with heap := s.heap.push (baO b) }) (hz : b.size ≤ sizeLine) : wpAny M A (Bytes.newBytearray b) Q E s := by
  unfold Bytes.newBytearray
  refine wpAny_newObj_type h ?_
  first | size_fits | trace_state
theorem ba_meets_len (b : Array UInt8) (o : Addr) : Meets (Builtin.«bytearray.__len__» ⟨[.ref o], []⟩) (fun _ R s => s.heap.get? o = some (baO b) ∧ ∀ t k, R (.ok (.ret (.int (b.size : Int) t))) { s with toks := k }) := by
  refine .of_wp fun prog w A R s ⟨ho, h⟩ => ?_
  show wpAny _ _ (Bytes.payload (.ref o) >>= fun r => retInt r.size) _ _ s
  refine wpAny_bind (wpAny_bind (wpAny_bind (wpAny_load ho (wpAny_pure (wpAny_pure ?_)))))
  exact wpAny_bind (wpAny_mkInt (wpAny_pure ⟨_, rfl, h _ _⟩))
theorem ba_len {Q : Value → Shared → Prop} (N : News h₀ L s.heap news) (hm : (o, baO b) ∈ news) (hb : b.size < 2 ^ 20) (h : ∀ t tk, Q (.int (b.size : Int) t) { s with toks := tk }) :
    wpAny (model prog w) A (call (.builtin "len") [.ref o]) Q E s := by
  have hT := ba_type N hm
  refine Calls.call_function_entry kind_len plain_len entry_len (args_len1 _) ?_
  unfold Builtin.«len»
  refine wpAny_bind (m := oneArg "len" _) (wpAny_pure ?_)
  refine wpAny_bind (m := callSpecial? (.ref o) (Str.ofString "__len__")) (wpAny_callSpecial?_slot (name := Str.ofString "__len__") hT BA.slot_len
    (call_meets BA.slot_len hT BA.entry_len (BA.args_len _) (ba_meets_len b o) ⟨(N _ hm).1, fun t k => ?_⟩))
  refine wpAny_bind (wpAny_holding (wpAny_pure ?_))
  refine wpAny_bind (wpAny_letGo ?_)
  show wpAny _ _ (if ((b.size : Nat) : Int) < 0 then _ else _) _ _ _
  rw [if_neg (by omega)]
  show wpAny _ _ (if ((b.size : Nat) : Int) ≥ 2 ^ 63 then _ else _) _ _ _
  rw [if_neg (by omega)]
  exact wpAny_bind (wpAny_mkInt (wpAny_pure ⟨_, rfl, h _ _⟩))
theorem ba_meets_item (b : Array UInt8) (o : Addr) (i : Int) (ti : Tok) (x : UInt8) (h0 : 0 ≤ i) (hi : i < 2 ^ 20) (hx : b[i.toNat]? = some x) :
    Meets (Builtin.«bytearray.__getitem__» ⟨[.ref o, .int i ti], []⟩) (fun _ R s => s.heap.get? o = some (baO b) ∧ ∀ t k, R (.ok (.ret (.int (x.toNat : Int) t))) { s with toks := k }) := by
  refine .of_wp fun prog w A R s ⟨ho, h⟩ => ?_
  have hlt : i.toNat < b.size := by
    rcases Nat.lt_or_ge i.toNat b.size with q | q
    · exact q
    · rw [Array.getElem?_eq_none q] at hx; cases hx
  show wpAny _ _ (Bytes.subscript? (.int i ti) >>= fun r => _) _ _ s
  refine wpAny_bind ?_
  unfold Bytes.subscript?
  refine wpAny_bind (wpAny_specialOf (T := "int") rfl F.slot_int_index.lookup ?_)
  simp only [Option.isNone_some, Bool.false_eq_true, if_false]
  refine wpAny_bind (wpAny_pure ?_)
  have e1 : Bytes.fitsIndex i = true := by unfold Bytes.fitsIndex; simp only [Bool.and_eq_true, decide_eq_true_eq]; omega
  simp only [e1, Bool.not_true, Bool.false_eq_true, if_false]
  refine wpAny_pure ?_
  dsimp only
  refine wpAny_bind (wpAny_bind (wpAny_bind (wpAny_load ho (wpAny_pure (wpAny_pure ?_)))))
  have e2 : (seqIndex? i b.size).bind (b[·]?) = some x := by rw [seqIndex_of h0 (by omega)]; exact hx
  rw [e2]
  dsimp only
  repeat (any_goals (first | assumption | wp_step))
  exact ⟨_, rfl, h _ _⟩
theorem ba_item {i : Int} {ti : Tok} {Q : Value → Shared → Prop} {x : UInt8} (N : News h₀ L s.heap news) (hm : (o, baO b) ∈ news) (h0 : 0 ≤ i) (hi : i < 2 ^ 20) (hx : b[i.toNat]? = some x) (h : ∀ t tk, Q (.int (x.toNat : Int) t) { s with toks := tk }) :
    wpAny (model prog w) A (getItem (.ref o) (.int i ti)) Q E s :=
  getItem_meets (ba_type N hm) (by decide) BA.slot_getitem BA.entry_getitem (BA.args_getitem _ _) (ba_meets_item b o i ti x h0 hi hx) ⟨(N _ hm).1, fun t k => h t k⟩
theorem ba_meets_slice (b : Array UInt8) (o a : Addr) {l u : Value} {lo hi : Option Int} (hl : IsPart l lo) (hu : IsPart u hi) :
    Meets (Builtin.«bytearray.__getitem__» ⟨[.ref o, .ref a], []⟩) (fun _ R s => s.heap.get? o = some (baO b) ∧ s.heap.IsSliceOf a l u .none ∧ (KBy.picked b lo hi).size ≤ sizeLine ∧ ∀ k, R (.ok (.ret (.ref s.heap.objs.size))) { s with heap := s.heap.push (baO (KBy.picked b lo hi)), toks := k }) := by
  refine .of_wp fun prog w A R s ⟨ho', ⟨o2, ho, hc, hd⟩, hsz, h⟩ => ?_
  have hT : s.TypeIs (.ref a) "slice" := ⟨o2, ho, hc⟩
  show wpAny _ _ (Bytes.subscript? (.ref a) >>= fun r => _) _ _ s
  refine wpAny_bind ?_
  unfold Bytes.subscript?
  refine wpAny_bind (wpAny_specialOf hT slice_no_index (wpAny_pure ?_))
  refine wpAny_bind (wpAny_typeOf hT ?_)
  show wpAny _ _ (Bytes.sliceParts (.ref a) >>= fun r => _) _ _ s
  refine wpAny_bind ?_
  unfold Bytes.sliceParts
  refine wpAny_bind (wpAny_field (x := .none) ho hd rfl ?_)
  kby_none
  refine wpAny_ite (KBy.ite_no (show ¬ ((Value.none == rawInt 0) = true) from Bool.false_ne_true) ?_)
  refine wpAny_bind (wpAny_field (x := l) ho hd rfl ?_)
  have go : wpAny (model prog w) A.in1 (sliceIndices (rawPart lo) (rawPart hi) (rawPart none) b.size) (fun r s' => r = sliceBounds lo hi none b.size ∧ s' = s) (fun _ _ => False) s :=
    wpAny_of_eq (sliceIndices_raw lo hi none b.size (fun e => nomatch e)) ⟨rfl, rfl⟩
  have hpk : ∀ r1 r2 r3, (r1, r2, r3) = sliceBounds lo hi none b.size → Bytes.sliced b r1 r2 r3 = KBy.picked b lo hi := fun r1 r2 r3 e => by unfold KBy.picked; rw [← e]
  cases hl <;> cases hu <;> (first
    | (kby_none; (refine wpAny_bind (wpAny_field (x := .none) ho hd rfl ?_)); kby_none)
    | (kby_none; (refine wpAny_bind (wpAny_field (x := .int _ _) ho hd rfl ?_)); kby_int)
    | (kby_int; (refine wpAny_bind (wpAny_field (x := .none) ho hd rfl ?_)); kby_none)
    | (kby_int; (refine wpAny_bind (wpAny_field (x := .int _ _) ho hd rfl ?_)); kby_int)) <;> refine wpAny_pure ?_
  all_goals
    refine wpAny_bind (wpAny_bind (wpAny_bind (wpAny_load ho' (wpAny_pure (wpAny_pure ?_)))))
    refine wpAny_bind (wpAny_mono go (fun r s' hr => ?_) fun _ _ e => e.elim)
    obtain ⟨hr1, hr2⟩ := hr
    subst hr2
    obtain ⟨r1, r2, r3⟩ := r
    dsimp only
    rw [hpk _ _ _ hr1]
    refine wpAny_bind (wpAny_newBa ?_ hsz)
    exact wpAny_pure ⟨_, rfl, h _⟩
theorem ba_slice {value slice : PySem.Expr} {l u : Value} {lo hi : Option Int} {Q : Value → Shared → Prop} (F : Fr h₀ L s.heap m) (N : News h₀ L s.heap news) (hm : (o, baO b) ∈ news) (hl : IsPart l lo) (hu : IsPart u hi) (hz : b.size < 2 ^ 20)
    (h : ∀ r h' k, Fr h₀ L h' m → News h₀ L h' ((r, baO (KBy.picked b lo hi)) :: news) → (∀ p ∈ news, p.1 < r) → Q (.ref r) { s with heap := h', toks := k })
    (hs : subscripted slice false (.ref o) (.ref s.heap.objs.size) = operate [.ref s.heap.objs.size, .ref o] (getItem (.ref o) (.ref s.heap.objs.size)) := by with_unfolding_all rfl) :
    wpAny (model prog w) A (subscriptTail value slice (.ref o) (.ref s.heap.objs.size)) Q E { s with heap := s.heap.push { cls := .type "slice", data := .fields #[l, u, .none] } } := by
  have F' : Fr h₀ L (s.heap.push { cls := .type "slice", data := .fields #[l, u, .none] }) m := F.push _
  have N' : News h₀ L (s.heap.push { cls := .type "slice", data := .fields #[l, u, .none] }) news := News.pushKeep N _
  have hT : Shared.TypeIs { s with heap := s.heap.push { cls := .type "slice", data := .fields #[l, u, .none] } } (.ref o) "bytearray" := ba_type N' hm
  refine tail_any hT BA.slot_getitem.lookup ?_ hs
  refine getItem_meets hT (by decide) BA.slot_getitem BA.entry_getitem (BA.args_getitem _ _) (ba_meets_slice b o _ hl hu) ⟨(N' _ hm).1, Heap.IsSliceOf.new _ _ _ _, ?_, fun k => ?_⟩
  · exact Nat.le_trans (KBc.size_picked_le b lo hi) (by rw [sizeLine_eq]; omega)
  · exact h _ _ _ (F'.push _) (N'.push F' _) fun p hp => Heap.lt_size (N' p hp).1
namespace BA
theorem fills : fillsNumberSlot (.type "bytearray") "add" = pure false := PySem.fillsNumberSlot_seq (id := "bytearray.__add__") (r := none) BA.slot_add.lookup (by decide +kernel) (by rw [typeLookup_type, builtinLookup_eq_fast]; kernel_rfl) (by decide +kernel)
theorem bytes_fills : fillsNumberSlot (.type "bytes") "add" = pure false := PySem.fillsNumberSlot_seq (id := "bytes.__add__") (r := none) (by rw [typeLookup_type, builtinLookup_eq_fast]; kernel_rfl) (by decide +kernel) (by rw [typeLookup_type, builtinLookup_eq_fast]; kernel_rfl) (by decide +kernel)
theorem seqs : seqSlot? (.type "bytearray") "__add__" = pure (some (.builtin "bytearray.__add__")) := PySem.seqSlot_of BA.slot_add.lookup (by decide +kernel)
theorem neT : (Value.type "bytearray" == Value.type "bytes") = false := by decide +kernel
end BA
theorem ba_meets_add (b c : Array UInt8) (o o' : Addr) (hz : b.size + c.size < 2 ^ 20) : Meets (Builtin.«bytearray.__add__» ⟨[.ref o, .ref o'], []⟩) (fun _ R s => s.heap.get? o = some (baO b) ∧ s.heap.get? o' = some (baO c) ∧ ∀ k, R (.ok (.ret (.ref s.heap.objs.size))) { s with heap := s.heap.push (baO (b ++ c)), toks := k }) := by
  refine .of_wp fun prog w A R s ⟨ho, ho', h⟩ => ?_
  show wpAny _ _ (Bytes.buffer? "bytearray.__add__" (.ref o) >>= fun r => _) _ _ s
  refine wpAny_bind (buffer_ba ho ?_)
  dsimp only
  refine wpAny_bind ?_
  unfold Bytes.bufferQuiet?
  refine wpAny_bind (wpAny_attempt (buffer_ba ho' (wpAny_pure ?_)))
  dsimp only
  have e : Bytes.tooLong (b.size + c.size) = false := by unfold Bytes.tooLong; rw [sizeLine_eq]; simp only [decide_eq_false_iff_not]; omega
  simp only [e, Bool.false_eq_true, if_false]
  refine wpAny_bind (wpAny_newBa ?_ (by rw [Array.size_append, sizeLine_eq]; omega))
  exact wpAny_pure ⟨_, rfl, h _⟩
theorem ba_meets_addB (b c : Array UInt8) (o : Addr) (t : Tok) (hz : b.size + c.size < 2 ^ 20) : Meets (Builtin.«bytearray.__add__» ⟨[.ref o, .bytes c t], []⟩) (fun _ R s => s.heap.get? o = some (baO b) ∧ ∀ k, R (.ok (.ret (.ref s.heap.objs.size))) { s with heap := s.heap.push (baO (b ++ c)), toks := k }) := by
  refine .of_wp fun prog w A R s ⟨ho, h⟩ => ?_
  show wpAny _ _ (Bytes.buffer? "bytearray.__add__" (.ref o) >>= fun r => _) _ _ s
  refine wpAny_bind (buffer_ba ho ?_)
  dsimp only
  refine wpAny_bind ?_
  unfold Bytes.bufferQuiet?
  refine wpAny_bind (wpAny_attempt (buffer_bytes (wpAny_pure ?_)))
  dsimp only
  have e : Bytes.tooLong (b.size + c.size) = false := by unfold Bytes.tooLong; rw [sizeLine_eq]; simp only [decide_eq_false_iff_not]; omega
  simp only [e, Bool.false_eq_true, if_false]
  refine wpAny_bind (wpAny_newBa ?_ (by rw [Array.size_append, sizeLine_eq]; omega))
  exact wpAny_pure ⟨_, rfl, h _⟩
theorem ba_add {c : Array UInt8} {o' : Addr} {Q : Value → Shared → Prop} (F : Fr h₀ L s.heap m) (N : News h₀ L s.heap news) (hm : (o, baO b) ∈ news) (hm' : (o', baO c) ∈ news) (hz : b.size + c.size < 2 ^ 20)
    (h : ∀ r h' k, Fr h₀ L h' m → News h₀ L h' ((r, baO (b ++ c)) :: news) → (∀ p ∈ news, p.1 < r) → Q (.ref r) { s with heap := h', toks := k }) : wpAny (model prog w) A (binaryOp .Add (.ref o) (.ref o')) Q E s :=
  wpAny_binaryOp_concat (ba_type N hm) (ba_type N hm') BA.fills BA.seqs (call_meets BA.slot_add (ba_type N hm) BA.entry_add (BA.args_add _ _) (ba_meets_add b c o o' hz) ⟨(N _ hm).1, (N _ hm').1, fun k => h _ _ _ (F.push _) (N.push F _) fun p hp => Heap.lt_size (N p hp).1⟩)
theorem ba_addB {c : Array UInt8} {t : Tok} {Q : Value → Shared → Prop} (F : Fr h₀ L s.heap m) (N : News h₀ L s.heap news) (hm : (o, baO b) ∈ news) (hz : b.size + c.size < 2 ^ 20)
    (h : ∀ r h' k, Fr h₀ L h' m → News h₀ L h' ((r, baO (b ++ c)) :: news) → (∀ p ∈ news, p.1 < r) → Q (.ref r) { s with heap := h', toks := k }) : wpAny (model prog w) A (binaryOp .Add (.ref o) (.bytes c t)) Q E s := by
  have ha := ba_type N hm
  have hb : s.TypeIs (.bytes c t) "bytes" := rfl
  unfold binaryOp
  refine wpAny_holding ?_
  have h1 : ∀ {Q : Option Value → Shared → Prop}, Q none s → wpAny (model prog w) A (binaryOp1 "add" (.ref o) (.bytes c t)) Q E s := fun hq => by
    simp only [binaryOp1]
    refine wpAny_bind (wpAny_typeOf ha (wpAny_bind (wpAny_typeOf hb (wpAny_bind (wpAny_of_eq BA.fills ?_)))))
    simp only [BA.neT, Bool.false_eq_true, if_false]
    refine wpAny_bind (wpAny_of_eq BA.bytes_fills ?_)
    simp only [Bool.false_and, Bool.false_eq_true, if_false]
    exact wpAny_pure hq
  refine wpAny_bind (h1 ?_)
  refine wpAny_bind (wpAny_typeOf ha ?_)
  refine wpAny_bind (wpAny_of_eq BA.seqs ?_)
  exact wpAny_bind (wpAny_rule (call_meets BA.slot_add ha BA.entry_add (BA.args_add _ _) (ba_meets_addB b c o t hz) ⟨(N _ hm).1, fun k => h _ _ _ (F.push _) (N.push F _) fun p hp => Heap.lt_size (N p hp).1⟩))
namespace BA
theorem noBytes : typeLookup (.type "bytearray") "__bytes__" = pure none := by rw [typeLookup_type, builtinLookup_eq_fast]; kernel_rfl
theorem noIndex : typeLookup (.type "bytearray") "__index__" = pure none := by rw [typeLookup_type, builtinLookup_eq_fast]; kernel_rfl
end BA
theorem bytes_new_ba {Q : Value → Shared → Prop} (ho : s.heap.get? o = some (baO b)) (hz : b.size ≤ sizeLine) (hQ : ∀ t k, Q (.bytes b t) { s with toks := k }) :
    codeAny (model prog w) A (.call (.builtin "bytes.__new__") ⟨[.type "bytes", .ref o], []⟩) (wants Q E) s := by
  refine codeAny_of_tree ?_
  show wpAny _ A.in1 (do checkBuiltinCall "bytes.__new__" ⟨[.type "bytes", .ref o], []⟩; again (.builtin "bytes.__new__" ⟨[.type "bytes", .ref o], []⟩)) _ _ s
  refine wpAny_bind (wpAny_of_eq (F.bm_newCall _) (wpAny_pure ⟨plainId_quiet F.bm_plain _, codeAny_builtin F.bm_entry ?_⟩))
  rw [Around.under_plainId F.bm_plain _]
  have hT : s.TypeIs (.ref o) "bytearray" := ⟨_, ho, rfl⟩
  unfold Builtin.«bytes.__new__»
  refine wpAny_bind (wpAny_of_eq (a := true) rfl ?_)
  refine bm_if_false rfl ?_
  refine wpAny_bind (wpAny_of_eq F.bm_sub ?_)
  refine bm_if_false rfl ?_
  refine wpAny_bind (wpAny_of_eq (F.bm_bind _) ?_)
  refine wpAny_bind (wpAny_of_eq (a := ()) rfl ?_)
  refine wpAny_bind (wpAny_of_eq (a := ()) rfl ?_)
  refine bm_if_false rfl ?_
  refine wpAny_bind (wpAny_specialOf hT BA.noBytes ?_)
  refine wpAny_bind (wpAny_bind ?_)
  show wpAny _ _ (load o >>= _) _ _ _
  refine wpAny_bind (wpAny_load ho ?_)
  refine wpAny_pure (wpAny_pure ?_)
  refine bm_if_false rfl ?_
  refine wpAny_bind (wpAny_specialOf hT BA.noIndex ?_)
  refine bm_if_true rfl ?_
  first
    | show wpAny _ _ (Builtin.Bytes.buffer? "bytes.__new__" (.ref o) true >>= _) _ _ _
    | (refine wpAny_bind ?_; show wpAny _ _ (Builtin.Bytes.buffer? "bytes.__new__" (.ref o) true >>= _) _ _ _)
  refine wpAny_bind (buffer_ba ho ?_)
  refine wpAny_bind (wpAny_rule ?_)
  refine wpAny_bind (wpAny_mkBytes (wpAny_pure ?_) hz)
  exact hQ _ _
theorem bytes_ba {Q : Value → Shared → Prop} (N : News h₀ L s.heap news) (hm : (o, baO b) ∈ news) (hz : b.size < 2 ^ 20) (h : ∀ t k, Q (.bytes b t) { s with toks := k }) :
    wpAny (model prog w) A (call (.type "bytes") [.ref o]) Q E s := by
  refine callType_codes (Q₁ := fun obj s₁ => s₁.TypeIs obj "bytes" ∧ Q obj s₁) F.bm_called (F.bm_typeCall _) F.entry_object_init
    (bytes_new_ba (N _ hm).1 (by rw [sizeLine_eq]; omega) fun t k => ⟨PySem.W.typeIs_bytes _ _ _, h t k⟩) fun obj s₁ h₁ => ?_
  exact ⟨h₁.1, F.args_object_init_2 obj _, object_init_meets F.bm_called.init.lookup F.bm_called.made (by decide) prog w A.in1 _ s₁ ⟨h₁.1, rfl, h₁.2⟩⟩
end
abbrev bufD (P : Params) (o : Addr) (pl : Int) (t1 t2 t3 : Tok) : Obj := dictOf [ent P "_octets" t1 (.ref o), ent P "_place" t2 (.int pl t3)] 2
noncomputable def BufAt (w : World) (news : List (Addr × Obj)) (x dx : Addr) (I : List Int) (pl : Nat) : Prop :=
  ∃ (t1 t2 t3 : Tok) (o : Addr) (O : Array UInt8), (x, instObj 226 dx) ∈ news ∧ (dx, bufD w.params o pl t1 t2 t3) ∈ news ∧ (o, baO O) ∈ news ∧ KBw.bInts O = I
theorem bInts_append (b c : Array UInt8) : KBw.bInts (b ++ c) = KBw.bInts b ++ KBw.bInts c := by
  unfold KBw.bInts; simp
theorem bInts_upto {O : Array UInt8} {I : List Int} (h : KBw.bInts O = I) (pl : Nat) : KBw.bInts (KBy.picked O none (some (pl : Int))) = I.take pl := by
  rw [KBc.ints_picked h]
  simp only [Option.elim, List.drop_zero, Nat.sub_zero]
  have : clipAt I.length (pl : Int) = min pl I.length := clipAt_nat _ _
  rw [this]
  rcases Nat.le_total pl I.length with q | q
  · rw [Nat.min_eq_left q]
  · rw [Nat.min_eq_right q, List.take_of_length_le (Nat.le_refl _), List.take_of_length_le q]
theorem bInts_from {O : Array UInt8} {I : List Int} (h : KBw.bInts O = I) (pl : Nat) : KBw.bInts (KBy.picked O (some (pl : Int)) none) = I.drop pl := by
  rw [KBc.ints_picked h]
  simp only [Option.elim]
  have : clipAt I.length (pl : Int) = min pl I.length := clipAt_nat _ _
  rw [this]
  rcases Nat.le_total pl I.length with q | q
  · rw [Nat.min_eq_left q, List.take_of_length_le (by rw [List.length_drop]; omega)]
  · rw [Nat.min_eq_right q, List.drop_of_length_le (Nat.le_refl _), List.drop_of_length_le q]; simp
theorem bInts_run {O : Array UInt8} {I : List Int} (h : KBw.bInts O = I) (pl e : Nat) (hle : pl ≤ e) (he : e ≤ I.length) : KBw.bInts (KBy.picked O (some (pl : Int)) (some (e : Int))) = (I.drop pl).take (e - pl) := by
  rw [KBc.ints_picked h]
  simp only [Option.elim]
  have h1 : clipAt I.length (pl : Int) = min pl I.length := clipAt_nat _ _
  have h2 : clipAt I.length (e : Int) = min e I.length := clipAt_nat _ _
  rw [h1, h2, Nat.min_eq_left he, Nat.min_eq_left (by omega)]
noncomputable def SzB (b : Array UInt8) (n : Nat) : Prop := b.size ≤ n
theorem SzB.app {b c : Array UInt8} {n k : Nat} (hb : SzB b n) (hc : SzB c k) : SzB (b ++ c) (n + k) := by unfold SzB at *; rw [Array.size_append]; omega
theorem SzB.pick {b : Array UInt8} {n : Nat} {lo hi : Option Int} (hb : SzB b n) : SzB (KBy.picked b lo hi) n := Nat.le_trans (KBc.size_picked_le b lo hi) hb
section
variable {prog : Program} {w : World} {A : Around} {E : Value → Shared → Prop} {s : Shared} {h₀ : Heap} {L o : Addr} {m : Str → Option Value} {news : List (Addr × Obj)} {b : Array UInt8} {I : List Int} {nb nc : Nat}
theorem bk_len {Q : Value → Shared → Prop} (N : News h₀ L s.heap news) (hm : (o, baO b) ∈ news) (hI : KBw.bInts b = I) (hb : I.length < 2 ^ 20) (h : ∀ t tk, Q (.int (I.length : Int) t) { s with toks := tk }) :
    wpAny (model prog w) A (call (.builtin "len") [.ref o]) Q E s := by
  subst hI
  rw [KBw.ints_length] at hb h
  exact ba_len N hm hb h
theorem bk_add {c : Array UInt8} {o' : Addr} {Q : Value → Shared → Prop} (F : Fr h₀ L s.heap m) (N : News h₀ L s.heap news) (hm : (o, baO b) ∈ news) (hm' : (o', baO c) ∈ news) (hb : SzB b nb) (hc : SzB c nc) (hz : nb + nc < 2 ^ 20)
    (h : ∀ r h' k, Fr h₀ L h' m → News h₀ L h' ((r, baO (b ++ c)) :: news) → (∀ p ∈ news, p.1 < r) → Q (.ref r) { s with heap := h', toks := k }) : wpAny (model prog w) A (binaryOp .Add (.ref o) (.ref o')) Q E s :=
  ba_add F N hm hm' (by unfold SzB at hb hc; omega) h
theorem bk_addB {c : Array UInt8} {t : Tok} {Q : Value → Shared → Prop} (F : Fr h₀ L s.heap m) (N : News h₀ L s.heap news) (hm : (o, baO b) ∈ news) (hb : SzB b nb) (hc : SzB c nc) (hz : nb + nc < 2 ^ 20)
    (h : ∀ r h' k, Fr h₀ L h' m → News h₀ L h' ((r, baO (b ++ c)) :: news) → (∀ p ∈ news, p.1 < r) → Q (.ref r) { s with heap := h', toks := k }) : wpAny (model prog w) A (binaryOp .Add (.ref o) (.bytes c t)) Q E s :=
  ba_addB F N hm (by unfold SzB at hb hc; omega) h
theorem bk_slice {value slice : PySem.Expr} {l u : Value} {lo hi : Option Int} {Q : Value → Shared → Prop} (F : Fr h₀ L s.heap m) (N : News h₀ L s.heap news) (hm : (o, baO b) ∈ news) (hl : IsPart l lo) (hu : IsPart u hi) (hb : SzB b nb) (hz : nb < 2 ^ 20)
    (h : ∀ r h' k, Fr h₀ L h' m → News h₀ L h' ((r, baO (KBy.picked b lo hi)) :: news) → (∀ p ∈ news, p.1 < r) → Q (.ref r) { s with heap := h', toks := k })
    (hs : subscripted slice false (.ref o) (.ref s.heap.objs.size) = operate [.ref s.heap.objs.size, .ref o] (getItem (.ref o) (.ref s.heap.objs.size)) := by with_unfolding_all rfl) :
    wpAny (model prog w) A (subscriptTail value slice (.ref o) (.ref s.heap.objs.size)) Q E { s with heap := s.heap.push { cls := .type "slice", data := .fields #[l, u, .none] } } :=
  ba_slice F N hm hl hu (by unfold SzB at hb; omega) h hs
theorem bk_bytes {Q : Value → Shared → Prop} (N : News h₀ L s.heap news) (hm : (o, baO b) ∈ news) (hb : SzB b nb) (hz : nb < 2 ^ 20) (h : ∀ t k, Q (.bytes b t) { s with toks := k }) :
    wpAny (model prog w) A (call (.type "bytes") [.ref o]) Q E s := bytes_ba N hm (by unfold SzB at hb; omega) h
theorem bk_item {value slice : PySem.Expr} {i x : Int} {ti : Tok} {Q : Value → Shared → Prop} (N : News h₀ L s.heap news) (hm : (o, baO b) ∈ news) (hI : KBw.bInts b = I) (hx : I[i.toNat]? = some x) (h0 : 0 ≤ i) (hi : i < 2 ^ 20) (h : ∀ t tk, Q (.int x t) { s with toks := tk })
    (hs : subscripted slice false (.ref o) (.int i ti) = operate [.ref o, .int i ti] (getItem (.ref o) (.int i ti)) := by with_unfolding_all rfl) :
    wpAny (model prog w) A (subscriptTail value slice (.ref o) (.int i ti)) Q E s := by
  subst hI
  unfold KBw.bInts at hx
  rw [List.getElem?_map] at hx
  cases hy : b.toList[i.toNat]? with
  | none => rw [hy] at hx; cases hx
  | some y =>
    rw [hy] at hx
    have : x = (y.toNat : Int) := (Option.some.inj hx).symm
    subst this
    exact tail_any (ba_type N hm) BA.slot_getitem.lookup (ba_item N hm h0 hi (by simpa using hy) h) hs
end
theorem BufAt.of {w : World} {news : List (Addr × Obj)} {x dx o : Addr} {I : List Int} {pl : Nat} {pl' : Int} {t1 t2 t3 : Tok} {O : Array UInt8} (hx : (x, instObj 226 dx) ∈ news) (hd : (dx, bufD w.params o pl' t1 t2 t3) ∈ news) (ho : (o, baO O) ∈ news) (e : pl' = (pl : Int)) (hI : KBw.bInts O = I) : BufAt w news x dx I pl := by
  subst e
  exact ⟨t1, t2, t3, o, O, hx, hd, ho, hI⟩
theorem keepD {a c : Addr × Obj} {dx : Addr} {od od' : Obj} {news rest : List (Addr × Obj)} (hsub : ∀ p ∈ news, p ∈ a :: (dx, od) :: c :: rest) : ∀ p ∈ news, p.1 ≠ dx → p ∈ a :: (dx, od') :: c :: rest := by
  intro p hp h1
  have := hsub p hp
  simp only [List.mem_cons] at this ⊢
  rcases this with h | rfl | h | h
  · exact .inl h
  · exact absurd rfl h1
  · exact .inr (.inr (.inl h))
  · exact .inr (.inr (.inr h))
noncomputable def encV (v : Int) : List Int := if v ≤ 63 then [v] else [64 + v / 256, v % 256]
section
variable {prog : Program} {w : World} {A : Around} {E : Value → Shared → Prop} {s : Shared} {a n c : Int} {t u : Tok} {Q : Value → Shared → Prop}
theorem shr_f (e : a.fdiv (2 ^ n.toNat) = c) (hn : 0 ≤ n) (h : Q (.int c s.toks) { s with toks := s.toks + 1 }) : wpAny (model prog w) A (binaryOp .RShift (.int a t) (.int n u)) Q E s := rshift_int hn (by rw [e]; exact h)
theorem shl_f (e : a * 2 ^ n.toNat = c) (hn : 0 ≤ n) (hn2 : n ≤ 1000000) (ha : a.natAbs < 2 ^ 64) (h : Q (.int c s.toks) { s with toks := s.toks + 1 }) : wpAny (model prog w) A (binaryOp .LShift (.int a t) (.int n u)) Q E s := lshift_int_small hn hn2 ha (by rw [e]; exact h)
theorem and_f (e : Builtin.bitAnd a n = c) (h : Q (.int c s.toks) { s with toks := s.toks + 1 }) : wpAny (model prog w) A (binaryOp .BitAnd (.int a t) (.int n u)) Q E s := and_int (by rw [e]; exact h)
theorem or_f (e : Builtin.bitOr a n = c) (h : Q (.int c s.toks) { s with toks := s.toks + 1 }) : wpAny (model prog w) A (binaryOp .BitOr (.int a t) (.int n u)) Q E s := or_int (by rw [e]; exact h)
end
theorem and_nat (x : Int) (k : Nat) (h0 : 0 ≤ x) : Builtin.bitAnd x ((2 ^ k : Nat) - 1 : Int) = x % ((2 ^ k : Nat) : Int) := by
  have hp : 0 < 2 ^ k := Nat.two_pow_pos k
  have e : (((2 ^ k : Nat) : Int) - 1) = ((2 ^ k - 1 : Nat) : Int) := by omega
  rw [e]
  unfold Builtin.bitAnd
  have h2 : (0 : Int) ≤ ((2 ^ k - 1 : Nat) : Int) := Int.natCast_nonneg _
  simp only [h0, h2, decide_true, Int.toNat_natCast]
  rw [Nat.and_two_pow_sub_one_eq_mod]
  rw [Int.natCast_emod, Int.toNat_of_nonneg h0]
theorem or_16384 (x : Int) (h0 : 0 ≤ x) (h1 : x ≤ 16383) : Builtin.bitOr x 16384 = x + 16384 := by
  obtain ⟨n, rfl⟩ := Int.eq_ofNat_of_zero_le h0
  have hb : Builtin.bitOr (n : Int) 16384 = ((n ||| 16384 : Nat) : Int) := by
    unfold Builtin.bitOr Builtin.bitAnd Builtin.bitNot
    have h3 : ¬ (0 ≤ (-((n : Int)) - 1)) := by omega
    have h4 : ¬ ((0 : Int) ≤ (-(16384 : Int) - 1)) := by decide
    simp only [h3, h4, decide_false]
    have h5 : (-(-((n : Int)) - 1) - 1).toNat = n := by omega
    have h6 : (-(-(16384 : Int) - 1) - 1).toNat = 16384 := by decide
    rw [h5, h6]
    omega
  rw [hb]
  have := Nat.two_pow_add_eq_or_of_lt (i := 14) (b := n) (by omega) 1
  have e2 : n ||| 16384 = 16384 + n := by rw [Nat.or_comm]; simpa using this.symm
  rw [e2]; push_cast; omega
theorem BufAt.sub {w : World} {news news' : List (Addr × Obj)} {x dx : Addr} {I : List Int} {pl : Nat} (h : BufAt w news x dx I pl) (hs : ∀ p ∈ news, p ∈ news') : BufAt w news' x dx I pl := by
  obtain ⟨t1, t2, t3, o, O, a, b, c, d⟩ := h
  exact ⟨t1, t2, t3, o, O, hs _ a, hs _ b, hs _ c, d⟩
theorem BufAt.cons {w : World} {news : List (Addr × Obj)} {y : Addr × Obj} {x dx : Addr} {I : List Int} {pl : Nat} (h : BufAt w news x dx I pl) : BufAt w (y :: news) x dx I pl := h.sub fun _ hp => .tail _ hp
theorem QAt.sub {w : World} {news news' : List (Addr × Obj)} {q dq l : Addr} {rs : List (Int × Int)} (h : QAt w news q dq l rs) (hs : ∀ p ∈ news, p ∈ news') : QAt w news' q dq l rs := by
  obtain ⟨t, vs, n, a, b, c, d⟩ := h
  exact ⟨t, vs, n, hs _ a, hs _ b, hs _ c, d.mono fun p hp _ => hs p hp⟩
theorem QAt.cons {w : World} {news : List (Addr × Obj)} {y : Addr × Obj} {q dq l : Addr} {rs : List (Int × Int)} (h : QAt w news q dq l rs) : QAt w (y :: news) q dq l rs := h.sub fun _ hp => .tail _ hp
/-- a set of ranges is kept where just one dict, dx, changes -/
theorem QAt.keepD {h₀ h : Heap} {L : Addr} {w : World} {news news' : List (Addr × Obj)} {q dq l dx : Addr} {od : Obj} {rs : List (Int × Int)} (N : News h₀ L h news) (hQ : QAt w news q dq l rs) (hdx : (dx, od) ∈ news) (hc : od.cls = .type "dict") (hne : @Ne Nat dq dx)
    (hk : ∀ p ∈ news, p.1 ≠ dx → p ∈ news') : QAt w news' q dq l rs := by
  obtain ⟨t, vs, n, a, b, c, d⟩ := hQ
  exact ⟨t, vs, n, hk _ a (news_neI N a hdx rfl hc), hk _ b hne, hk _ c (news_neT N c hdx rfl hc (by decide)), d.mono fun p hp hcl => hk p hp (news_neT N hp hdx hcl hc (by decide))⟩
/-- a buffer is kept where just one list changes -/
theorem BufAt.keepL {h₀ h : Heap} {L : Addr} {w : World} {news news' : List (Addr × Obj)} {x dx l : Addr} {ol : Obj} {I : List Int} {pl : Nat} (N : News h₀ L h news) (hB : BufAt w news x dx I pl) (hl : (l, ol) ∈ news) (hc : ol.cls = .type "list")
    (hk : ∀ p ∈ news, p.1 ≠ l → p ∈ news') : BufAt w news' x dx I pl := by
  obtain ⟨t1, t2, t3, o, O, a, b, c, d⟩ := hB
  exact ⟨t1, t2, t3, o, O, hk _ a (news_neI N a hl rfl hc), hk _ b (news_neT N b hl rfl hc (by decide)), hk _ c (news_neT N c hl rfl hc (by decide)), d⟩
noncomputable def SepD (hi : Int) : List (Int × Int) → Prop
  | [] => True
  | (a, b) :: r => 0 ≤ a ∧ a < b ∧ b ≤ hi ∧ SepD (a - 1) r
noncomputable def gapsV (s : Int) : List (Int × Int) → List Int
  | [] => []
  | (a, b) :: r => (s - b - 1) :: (b - a - 1) :: gapsV a r
noncomputable def encs (vs : List Int) : List Int := vs.flatMap encV
noncomputable def frameV (p : Int × Int) (rv : List (Int × Int)) (k : Nat) : List Int := (p.2 - 1) :: 7 :: ((k : Int) - 1) :: (p.2 - 1 - p.1) :: gapsV p.1 (rv.take (k - 1))
noncomputable def BufW (w : World) (news : List (Addr × Obj)) (x dx : Addr) (I Wr : List Int) : Prop := BufAt w news x dx (Wr ++ I.drop Wr.length) Wr.length
theorem bufW_take (I Wr : List Int) : (Wr ++ I.drop Wr.length).take Wr.length = Wr := by rw [List.take_append_of_le_length (Nat.le_refl _), List.take_length]
theorem bufW_drop (I Wr J : List Int) : (Wr ++ I.drop Wr.length).drop (Wr.length + J.length) = I.drop (Wr ++ J).length := by
  rw [List.drop_append, List.drop_eq_nil_of_le (by omega), List.nil_append, List.drop_drop, List.length_append]
  congr 1; omega
theorem encV_len (v : Int) : 1 ≤ (encV v).length ∧ (encV v).length ≤ 2 := by unfold encV; split <;> simp
theorem encV_small {v : Int} (h : v ≤ 63) : (encV v).length = 1 := by unfold encV; rw [if_pos h]; rfl
theorem encV_fs {v fs top : Int} (h : fs = 1 ∧ top ≤ 63 ∨ fs = 2) (hv : v ≤ top ∨ v ≤ 63) : ((encV v).length : Int) ≤ fs := by
  have := encV_len v
  rcases h with ⟨rfl, ht⟩ | rfl
  · rw [encV_small (by omega)]; decide
  · omega
theorem encs_cons (v : Int) (vs : List Int) : encs (v :: vs) = encV v ++ encs vs := by unfold encs; simp
theorem encs_append (a b : List Int) : encs (a ++ b) = encs a ++ encs b := by unfold encs; simp
theorem encs_nil : encs [] = [] := rfl
end Mine
end
section
open PySem PySem.W PySem.Calls PyProof.Rows
open Sem (wp)
set_option maxRecDepth 100000
namespace Mine
section
variable {prog : Program} {w : World} {A : Around} {E : Value → Shared → Prop} {s : Shared} {h₀ : Heap} {L : Addr} {m : Str → Option Value} {news : List (Addr × Obj)}
theorem ba_settled {h h' : Heap} {b : Array UInt8} (F : Fr h₀ L h m) (N : News h₀ L h news) (hg : h'.get? h.objs.size = some (baO b)) (hs : Heap.SameBut h.objs.size (h.push (baO #[])) h') :
    Fr h₀ L h' m ∧ News h₀ L h' ((h.objs.size, baO b) :: news) ∧ ∀ p ∈ news, p.1 < h.objs.size := by
  have F1 : Fr h₀ L (h.push (baO #[])) m := F.push _
  have N1 : News h₀ L (h.push (baO #[])) ((h.objs.size, baO #[]) :: news) := N.push F _
  have z := N1 (h.objs.size, baO #[]) (.head _)
  have lt : ∀ p ∈ news, p.1 < h.objs.size := fun p hp => Heap.lt_size (N p hp).1
  exact ⟨F1.change hs z.2.1 z.2.2, news_set (pre := []) N1 (fun p hp => nomatch hp) (fun p hp => Nat.ne_of_lt (lt p hp)) hs hg, lt⟩
theorem P_bytearray_int {n : Int} {t : Tok} {Q : Value → Shared → Prop} (F : Fr h₀ L s.heap m) (N : News h₀ L s.heap news) (h0 : 0 ≤ n) (h1 : n ≤ 2 ^ 20)
    (h : ∀ r h', Fr h₀ L h' m → News h₀ L h' ((r, baO (Array.replicate n.toNat 0)) :: news) → (∀ p ∈ news, p.1 < r) → Q (.ref r) { s with heap := h' }) :
    wpP (model prog w) A (call (.type "bytearray") [.int n t]) Q E s := by
  refine P_call_bytearray (P_ba_init_int (Heap.get?_push_size _ rfl) h0 h1 fun h' hg hs => ⟨rfl, ?_⟩)
  obtain ⟨F', N', l⟩ := ba_settled F N hg hs
  exact h _ _ F' N' l
theorem P_bytearray_bytes {b : Array UInt8} {t : Tok} {Q : Value → Shared → Prop} (F : Fr h₀ L s.heap m) (N : News h₀ L s.heap news) (h1 : b.size ≤ 2 ^ 20)
    (h : ∀ r h', Fr h₀ L h' m → News h₀ L h' ((r, baO b) :: news) → (∀ p ∈ news, p.1 < r) → Q (.ref r) { s with heap := h' }) :
    wpP (model prog w) A (call (.type "bytearray") [.bytes b t]) Q E s := by
  refine P_call_bytearray (P_ba_init_bytes (Heap.get?_push_size _ rfl) h1 fun h' hg hs => ⟨rfl, ?_⟩)
  obtain ⟨F', N', l⟩ := ba_settled F N hg hs
  exact h _ _ F' N' l
end
section
variable {M : Model} {A : Around} {E : Value → Shared → Prop} {s : Shared} {env : Env}
theorem P_callWith_typeE {pos : Pos} {T : String} {e : PySem.Expr} {rest : List PySem.Expr} {Q : Value → Shared → Prop}
    (h : wpAny M A (spliced (backTo pos (starEach (e :: rest) env))) (fun vs s₁ => wpP M A (call (.type T) vs) Q E s₁) E s)
    (he : starEach (e :: rest) env = (false, eval e env) :: starEach rest env := by rfl) (hplain : (backTo pos (starEach rest env)).any (·.1) = false := by rfl) :
    wpP M A (callWith pos (.type T) [] (backTo pos (starEach (e :: rest) env)) []) Q E s := by
  rw [he] at h ⊢
  exact P_callWith_type rfl (by show (false || (backTo pos (starEach rest env)).any (·.1)) = false; rw [hplain]; rfl) rfl (Calls.evalArgs_plain h)
end
end Mine
end
section
open PySem PySem.W PySem.Calls PyProof.Rows
set_option maxRecDepth 100000
namespace Mine
section
variable {h₀ h : Heap} {L : Addr} {w : World} {news news' : List (Addr × Obj)} {q dq l x dx sR : Addr} {rs : List (Int × Int)} {I : List Int} {pl : Nat} {lo : Int} {S : Int → Bool} {nR : Nat}
theorem QAt.inst (hQ : QAt w news q dq l rs) (N : News h₀ L h news) : InstAt h q (instObj 334 dq) 334 (some (rsD w.params l hQ.choose)) :=
  have z := hQ.choose_spec.choose_spec.choose_spec
  InstAt.of_news N z.1 z.2.1
theorem BufAt.inst (hB : BufAt w news x dx I pl) (N : News h₀ L h news) : InstAt h x (instObj 226 dx) 226 (some (bufD w.params hB.choose_spec.choose_spec.choose_spec.choose pl hB.choose hB.choose_spec.choose hB.choose_spec.choose_spec.choose)) :=
  have z := hB.choose_spec.choose_spec.choose_spec.choose_spec.choose_spec
  InstAt.of_news N z.1 z.2.1
theorem WinAt.inst (hW : WinAt w news x dx sR lo S nR) (N : News h₀ L h news) : InstAt h x (instObj 50 dx) 50 (some (winD w.params lo sR hW.choose hW.choose_spec.choose hW.choose_spec.choose_spec.choose hW.choose_spec.choose_spec.choose_spec.choose hW.choose_spec.choose_spec.choose_spec.choose_spec.choose)) :=
  have z := hW.choose_spec.choose_spec.choose_spec.choose_spec.choose_spec.choose_spec
  InstAt.of_news N z.1 z.2.1
theorem BufAt.has (hB : BufAt w news x dx I pl) : ∃ od : Obj, (dx, od) ∈ news ∧ od.cls = .type "dict" := by
  obtain ⟨t1, t2, t3, o, O, a, b, c, d⟩ := hB
  exact ⟨_, b, rfl⟩
theorem QAt.has (hQ : QAt w news q dq l rs) : ∃ ol : Obj, (l, ol) ∈ news ∧ ol.cls = .type "list" := by
  obtain ⟨t, vs, n, a, b, c, d⟩ := hQ
  exact ⟨_, c, rfl⟩
theorem QAt.hasD (hQ : QAt w news q dq l rs) : ∃ ol : Obj, (dq, ol) ∈ news ∧ ol.cls = .type "dict" := by
  obtain ⟨t, vs, n, a, b, c, d⟩ := hQ
  exact ⟨_, b, rfl⟩
theorem QAt.keepB (N : News h₀ L h news) (hB : BufAt w news x dx I pl) (hQ : QAt w news q dq l rs) (hne : @Ne Nat dq dx) (hk : ∀ p ∈ news, p.1 ≠ dx → p ∈ news') : QAt w news' q dq l rs := by
  obtain ⟨od, hd, hc⟩ := hB.has
  exact QAt.keepD N hQ hd hc hne hk
theorem BufAt.keepQ (N : News h₀ L h news) (hB : BufAt w news x dx I pl) (hQ : QAt w news q dq l rs) (hk : ∀ p ∈ news, p.1 ≠ l → p ∈ news') : BufAt w news' x dx I pl := by
  obtain ⟨od, hd, hc⟩ := hQ.has
  exact BufAt.keepL N hB hd hc hk
theorem keepRng {r : Addr} {a b : Int} {t u k : Tok} (N : News h₀ L h news) (hB : BufAt w news x dx I pl) (hm : (r, rngO a b t u k) ∈ news) (hk : ∀ p ∈ news, p.1 ≠ dx → p ∈ news') : (r, rngO a b t u k) ∈ news' := by
  obtain ⟨od, hd, hc⟩ := hB.has
  exact hk _ hm (news_neT N hm hd rfl hc (by decide))
/-- what is not of the class c is kept -/
noncomputable def Off (c : Value) (news news' : List (Addr × Obj)) : Prop := ∀ p ∈ news, p.2.cls ≠ c → p ∈ news'
theorem offIt {it : Addr} {o : Obj} (N : News h₀ L h news) (hit : (it, o) ∈ news) : ∃ nx, News h₀ L h ((it, o) :: nx) ∧ (∀ p ∈ nx, p.1 ≠ it) ∧ Off o.cls news nx ∧ ∀ p ∈ news, p.1 ≠ it → p ∈ nx := by
  classical
  refine ⟨news.filter fun p => decide (p.1 ≠ it), fun p hp => ?_, fun p hp => ?_, fun p hp hc => ?_, fun p hp hc => ?_⟩
  · rcases List.mem_cons.mp hp with rfl | hp
    · exact N _ hit
    · exact N _ (List.mem_filter.mp hp).1
  · exact of_decide_eq_true (List.mem_filter.mp hp).2
  · refine List.mem_filter.mpr ⟨hp, decide_eq_true fun e => hc ?_⟩
    rw [news_fun N hp hit e]
  · exact List.mem_filter.mpr ⟨hp, decide_eq_true hc⟩
theorem BufAt.off {n : String} (hB : BufAt w news x dx I pl) (ho : Off (.type n) news news') (hn : n ≠ "dict" ∧ n ≠ "bytearray" := by decide) : BufAt w news' x dx I pl := by
  obtain ⟨t1, t2, t3, o, O, a, b, c, d⟩ := hB
  exact ⟨t1, t2, t3, o, O, ho _ a (fun e => by cases e), ho _ b (fun e => hn.1 (Value.type.inj e).symm), ho _ c (fun e => hn.2 (Value.type.inj e).symm), d⟩
theorem QAt.off {n : String} (hQ : QAt w news q dq l rs) (ho : Off (.type n) news news') (hn : n ≠ "dict" ∧ n ≠ "list" ∧ n ≠ "range" := by decide) : QAt w news' q dq l rs := by
  obtain ⟨t, vs, k, a, b, c, d⟩ := hQ
  exact ⟨t, vs, k, ho _ a (fun e => by cases e), ho _ b (fun e => hn.1 (Value.type.inj e).symm), ho _ c (fun e => hn.2.1 (Value.type.inj e).symm), d.mono fun p hp hc => ho p hp (fun e => hn.2.2 (Value.type.inj (hc.symm.trans e)).symm)⟩
end
/-- two maps that agree but for the names of a list -/
noncomputable def Over (ns : List Str) (m m0 : Str → Option Value) : Prop := ∀ y, ns.contains y = false → m y = m0 y
theorem Over.eq0 {m m0 : Str → Option Value} (h : Over [] m m0) : m = m0 := funext fun y => h y rfl
theorem Over.eq1 {a : Str} {m m0 : Str → Option Value} (h : Over [a] m m0) : m = fun y => if y = a then m a else m0 y := by
  funext y
  by_cases h1 : y = a
  · rw [if_pos h1, h1]
  · rw [if_neg h1]; exact h y (by simp [h1])
theorem Over.eq2 {a b : Str} {m m0 : Str → Option Value} (h : Over [a, b] m m0) : m = fun y => if y = a then m a else if y = b then m b else m0 y := by
  funext y
  by_cases h1 : y = a
  · rw [if_pos h1, h1]
  · by_cases h2 : y = b
    · rw [if_neg h1, if_pos h2, h2]
    · rw [if_neg h1, if_neg h2]; exact h y (by simp [h1, h2])
theorem Over.eq3 {a b c : Str} {m m0 : Str → Option Value} (h : Over [a, b, c] m m0) : m = fun y => if y = a then m a else if y = b then m b else if y = c then m c else m0 y := by
  funext y
  by_cases h1 : y = a
  · rw [if_pos h1, h1]
  · by_cases h2 : y = b
    · rw [if_neg h1, if_pos h2, h2]
    · by_cases h3 : y = c
      · rw [if_neg h1, if_neg h2, if_pos h3, h3]
      · rw [if_neg h1, if_neg h2, if_neg h3]; exact h y (by simp [h1, h2, h3])
/-- the map that agrees with m on the names of a list, else with m0 -/
noncomputable def ovr (m m0 : Str → Option Value) : List Str → Str → Option Value
  | [] => m0
  | a :: r => fun y => if y = a then m a else ovr m m0 r y
theorem ovr_eq {m m0 : Str → Option Value} {y : Str} : ∀ {ns : List Str}, (ns.contains y = false → m y = m0 y) → m y = ovr m m0 ns y
  | [], h => h rfl
  | a :: r, h => by
    show m y = if y = a then m a else ovr m m0 r y
    by_cases h1 : y = a
    · rw [if_pos h1, h1]
    · rw [if_neg h1]
      exact ovr_eq fun hr => h (by simp only [List.contains_cons, hr, Bool.or_false, beq_eq_false_iff_ne]; exact h1)
theorem Over.eq {ns : List Str} {m m0 : Str → Option Value} (h : Over ns m m0) : m = ovr m m0 ns := funext fun y => ovr_eq (h y)
theorem Over.put {ns : List Str} {a : Str} {v : Option Value} {m m0 : Str → Option Value} (ha : ns.contains a = true) (h : Over ns m m0) : Over ns (fun y => if y = a then v else m y) m0 := fun y hy => by
  have : y ≠ a := fun e => by rw [e, ha] at hy; cases hy
  show (if y = a then v else m y) = m0 y
  rw [if_neg this]; exact h y hy
theorem Over.self {ns : List Str} {m : Str → Option Value} : Over ns m m := fun _ _ => rfl
end Mine
end
section
open PySem PySem.W PySem.Calls PyProof.Rows
set_option maxRecDepth 100000
namespace Mine
section
variable {prog : Program} {w : World} {A : Around} {E : Value → Shared → Prop} {s : Shared} {h₀ : Heap} {L r : Addr} {m : Str → Option Value} {news : List (Addr × Obj)}
theorem rk_new1 {b : Int} {tb : Tok} {Q : Value → Shared → Prop} (F : Fr h₀ L s.heap m) (N : News h₀ L s.heap news)
    (h : ∀ r h' tk t k, Fr h₀ L h' m → News h₀ L h' ((r, rngO 0 b t tb k) :: news) → (∀ p ∈ news, p.1 < r) → Q (.ref r) { s with heap := h', toks := tk }) :
    wpAny (model prog w) A (call (.type "range") [.int b tb]) Q E s :=
  call_range_1 (h _ _ _ _ _ (F.push _) (N.push F _) fun p hp => Heap.lt_size (N p hp).1)
end
theorem addR_front {s e : Int} {rs : List (Int × Int)} (h : ∀ p ∈ rs.head?, e < p.1) : addR s e rs = (s, e) :: rs := by
  cases rs with
  | nil => rfl
  | cons p r =>
    obtain ⟨a, b⟩ := p
    unfold addR
    rw [if_pos (h (a, b) rfl)]
theorem take_rev {α : Type} {l : List α} {i : Nat} {x : α} (h : l[i]? = some x) : (l.take (i + 1)).reverse = x :: (l.take i).reverse := by
  rw [List.take_add_one, h]
  simp
theorem take_rev_head {α : Type} {l : List α} {i : Nat} {x : α} (h : l[i]? = some x) : (l.take (i + 1)).reverse.head? = some x := by
  rw [take_rev h]; rfl
theorem SepD.get {hi : Int} : ∀ {rs : List (Int × Int)} {i : Nat} {a b : Int}, SepD hi rs → rs[i]? = some (a, b) → 0 ≤ a ∧ a < b ∧ b ≤ hi ∧ SepD (a - 1) (rs.drop (i + 1))
  | [], i, a, b, _, h => by simp at h
  | (c, d) :: r, 0, a, b, h, e => by
    simp at e
    obtain ⟨rfl, rfl⟩ := e
    exact h
  | (c, d) :: r, i + 1, a, b, h, e => by
    have := SepD.get h.2.2.2 (by simpa using e : r[i]? = some (a, b))
    obtain ⟨h1, h2, h3, h4⟩ := h
    exact ⟨this.1, this.2.1, by omega, by simpa using this.2.2.2⟩
/-- what the loop of pull_ack_frame holds after i turns -/
structure PullJ (w : World) (x dx q dq l : Addr) (news : List (Addr × Obj)) (I ex : List Int) (p : Int × Int) (rv : List (Int × Int)) (k : Nat) (m0 : Str → Option Value) (i : Nat) (m : Str → Option Value) (nx : List (Addr × Obj)) : Prop where
  lt : i < k
  e : ∃ st t, m (Str.ofString "end") = some (.int st t) ∧ 0 ≤ st ∧ st ≤ 16384 ∧ SepD (st - 1) (rv.drop i) ∧ (∀ z ∈ ((p :: rv).take (1 + i)).reverse.head?, z.1 = st) ∧ ∃ pos, BufAt w nx x dx I pos ∧ I.drop pos = encs (gapsV st ((rv.drop i).take (k - 1 - i))) ++ ex
  o : Over [Str.ofString "end", Str.ofString "ack_count", Str.ofString "_"] m m0
  q : QAt w nx q dq l ((p :: rv).take (1 + i)).reverse
  kp : ∀ p ∈ news, p.1 ≠ dx → p ∈ nx
end Mine
end
section
open PySem PySem.W PySem.Calls PyProof.Rows
open Sem (wp)
set_option maxRecDepth 100000
namespace Mine
/-- the plain state of the law: the window's lower bound and set, the ranges, the numbers taken, their order, the greatest -/
structure Pl where
  lo : Int
  Sw : Int → Bool
  nw : Nat
  rs : List (Int × Int)
  St : Int → Bool
  nt : Nat
  ord : List Int
  g : Int
/-- where the law's objects lie -/
structure Ad where
  sd : Addr
  W : Addr
  dw : Addr
  sR : Addr
  q : Addr
  dq : Addr
  l : Addr
  tk : Addr
  od : Addr
abbrev stK (a : Ad) (g : Int) (t : Tok) : List (Str × Value) := [(Str.ofString "window", .ref a.W), (Str.ofString "queue", .ref a.q), (Str.ofString "taken", .ref a.tk), (Str.ofString "order", .ref a.od), (Str.ofString "greatest", .int g t)]
noncomputable def DictS (w : World) (news : List (Addr × Obj)) (a : Ad) (g : Int) : Prop := ∃ (t : Tok) (so : Obj), (a.sd, so) ∈ news ∧ so.IsDictOf (PySem.strKind prg w) (stK a g t)
noncomputable def SetS (w : World) (news : List (Addr × Obj)) (tk : Addr) (S : Int → Bool) (n : Nat) : Prop := ∃ to : Obj, (tk, to) ∈ news ∧ to.SetObjOf (PySem.intKind prg w) S n
noncomputable def ListS (news : List (Addr × Obj)) (od : Addr) (ns : List Int) : Prop := ∃ (vs : List Value) (n : Nat), (od, listOf vs.toArray n) ∈ news ∧ IntsAre vs ns
structure Apart (a : Ad) : Prop where
  sw : @Ne Nat a.sd a.dw
  sq : @Ne Nat a.sd a.dq
  wq : @Ne Nat a.dw a.dq
  rt : @Ne Nat a.sR a.tk
  lo : @Ne Nat a.l a.od
structure StAt (wd : World) (news : List (Addr × Obj)) (a : Ad) (P : Pl) : Prop where
  d : DictS wd news a P.g
  w : WinAt wd news a.W a.dw a.sR P.lo P.Sw P.nw
  q : QAt wd news a.q a.dq a.l P.rs
  t : SetS wd news a.tk P.St P.nt
  o : ListS news a.od P.ord
  ap : Apart a
theorem dict_cls {prog : Program} {w : World} {K : Type} [DecidableEq K] {knd : KeyKind prog w K} {o : Obj} {kvs : List (K × Value)} (h : o.IsDictOf knd kvs) : o.cls = .type "dict" := by
  obtain ⟨es, ep, he, _⟩ := h
  exact he.1
/-- one object d changes -/
noncomputable def But (d : Addr) (news news' : List (Addr × Obj)) : Prop := ∀ p ∈ news, p.1 ≠ d → p ∈ news'
section
variable {h₀ h : Heap} {L : Addr} {w : World} {news news' : List (Addr × Obj)} {a : Ad} {P : Pl} {x dx sR q dq l tk od d : Addr} {rs : List (Int × Int)} {lo g : Int} {S : Int → Bool} {nR n : Nat} {ns : List Int} {o : Obj} {T : String}
theorem But.dict (hb : But d news news') (hD : DictS w news a g) (hne : @Ne Nat a.sd d) : DictS w news' a g := by
  obtain ⟨t, so, h1, h2⟩ := hD
  exact ⟨t, so, hb _ h1 hne, h2⟩
theorem But.set (hb : But d news news') (hD : SetS w news tk S n) (hne : @Ne Nat tk d) : SetS w news' tk S n := by
  obtain ⟨so, h1, h2⟩ := hD
  exact ⟨so, hb _ h1 hne, h2⟩
theorem But.list (hb : But d news news') (hD : ListS news od ns) (hne : @Ne Nat od d) : ListS news' od ns := by
  obtain ⟨vs, n, h1, h2⟩ := hD
  exact ⟨vs, n, hb _ h1 hne, h2⟩
theorem But.win (hb : But d news news') (hW : WinAt w news x dx sR lo S nR) (h1 : @Ne Nat x d) (h2 : @Ne Nat dx d) (h3 : @Ne Nat sR d) : WinAt w news' x dx sR lo S nR := by
  obtain ⟨t1, t2, t3, t4, t5, so, a, b, c, e⟩ := hW
  exact ⟨t1, t2, t3, t4, t5, so, hb _ a h1, hb _ b h2, hb _ c h3, e⟩
theorem But.que (hb : But d news news') (N : News h₀ L h news) (hQ : QAt w news q dq l rs) (hd : (d, o) ∈ news) (hc : o.cls = .type T) (hT : T ≠ "range" := by decide) (h1 : @Ne Nat q d) (h2 : @Ne Nat dq d) (h3 : @Ne Nat l d) : QAt w news' q dq l rs := by
  obtain ⟨t, vs, n, a, b, c, e⟩ := hQ
  exact ⟨t, vs, n, hb _ a h1, hb _ b h2, hb _ c h3, e.mono fun p hp hcl => hb p hp (news_neT N hp hd hcl hc hT.symm)⟩
theorem StAt.sub (hS : StAt w news a P) (hs : ∀ p ∈ news, p ∈ news') : StAt w news' a P := by
  obtain ⟨⟨t, so, h1, h2⟩, ⟨t1, t2, t3, t4, t5, wo, w1, w2, w3, w4⟩, hq, ⟨to, t6, t7⟩, ⟨vs, k, l1, l2⟩, ap⟩ := hS
  exact ⟨⟨t, so, hs _ h1, h2⟩, ⟨t1, t2, t3, t4, t5, wo, hs _ w1, hs _ w2, hs _ w3, w4⟩, hq.sub hs, ⟨to, hs _ t6, t7⟩, ⟨vs, k, hs _ l1, l2⟩, ap⟩
theorem StAt.cons {y : Addr × Obj} (hS : StAt w news a P) : StAt w (y :: news) a P := hS.sub fun _ hp => .tail _ hp
theorem StAt.off (hS : StAt w news a P) (ho : Off (.type T) news news') (hn : T ≠ "dict" ∧ T ≠ "list" ∧ T ≠ "range" ∧ T ≠ "set" := by decide) : StAt w news' a P := by
  obtain ⟨⟨t, so, h1, h2⟩, ⟨t1, t2, t3, t4, t5, wo, w1, w2, w3, w4⟩, hq, ⟨to, t6, t7⟩, ⟨vs, k, l1, l2⟩, ap⟩ := hS
  have ne {p : Addr × Obj} {U : String} (hp : p ∈ news) (hc : p.2.cls = .type U) (h : T ≠ U) : p ∈ news' := ho p hp (fun e => h (Value.type.inj (hc.symm.trans e)).symm)
  exact ⟨⟨t, so, ne h1 (dict_cls h2) hn.1, h2⟩, ⟨t1, t2, t3, t4, t5, wo, ho _ w1 (fun e => by cases e), ne w2 rfl hn.1, ne w3 (set_cls w4) hn.2.2.2, w4⟩, hq.off ho ⟨hn.1, hn.2.1, hn.2.2.1⟩, ⟨to, ne t6 (set_cls t7) hn.2.2.2, t7⟩, ⟨vs, k, ne l1 rfl hn.2.1, l2⟩, ap⟩
theorem StAt.consN {y : Addr × Obj} (_N : News h₀ L h (y :: news)) (hS : StAt w news a P) : StAt w (y :: news) a P := hS.cons
/-- the addresses that the deeds of the law change -/
noncomputable def Ad.hit (a : Ad) (b : Addr) : Prop := b = a.sd ∨ b = a.dw ∨ b = a.sR ∨ b = a.tk ∨ b = a.od ∨ b = a.l
noncomputable def Ad.Kept (a : Ad) (news news' : List (Addr × Obj)) : Prop := ∀ p ∈ news, ¬ a.hit p.1 → p ∈ news'
theorem Ad.Kept.refl : a.Kept news news := fun _ hp _ => hp
theorem Ad.Kept.but {n1 n2 : List (Addr × Obj)} (hk : a.Kept news n1) (hb : But d n1 n2) (hd : a.hit d) : a.Kept news n2 := fun p hp hh => hb p (hk p hp hh) (fun e => hh (by rw [show p.1 = d from e]; exact hd))
theorem Ad.Kept.consN {y : Addr × Obj} {n1 : List (Addr × Obj)} (_N : News h₀ L h (y :: n1)) (hk : a.Kept news n1) : a.Kept news (y :: n1) := fun p hp hh => .tail _ (hk p hp hh)
theorem StAt.nes (hS : StAt w news a P) (N : News h₀ L h news) : (@Ne Nat a.W a.sd ∧ @Ne Nat a.W a.tk ∧ @Ne Nat a.W a.od ∧ @Ne Nat a.W a.l) ∧ (@Ne Nat a.q a.sd ∧ @Ne Nat a.q a.tk ∧ @Ne Nat a.q a.od ∧ @Ne Nat a.q a.dw ∧ @Ne Nat a.q a.sR) ∧
    (@Ne Nat a.sd a.tk ∧ @Ne Nat a.sd a.od ∧ @Ne Nat a.sd a.sR ∧ @Ne Nat a.sd a.l) ∧ (@Ne Nat a.dw a.tk ∧ @Ne Nat a.dw a.od ∧ @Ne Nat a.dw a.l) ∧ (@Ne Nat a.dq a.tk ∧ @Ne Nat a.dq a.od ∧ @Ne Nat a.dq a.sR) ∧
    (@Ne Nat a.tk a.od ∧ @Ne Nat a.tk a.l ∧ @Ne Nat a.sR a.od ∧ @Ne Nat a.sR a.l) := by
  obtain ⟨⟨t, so, h1, h2⟩, ⟨t1, t2, t3, t4, t5, wo, w1, w2, w3, w4⟩, ⟨t8, vq, nq, q1, q2, q3, _⟩, ⟨to, t6, t7⟩, ⟨vs, k, l1, l2⟩, ap⟩ := hS
  have d2 := dict_cls h2
  have s1 := set_cls w4
  have s2 := set_cls t7
  refine ⟨⟨?_, ?_, ?_, ?_⟩, ⟨?_, ?_, ?_, ?_, ?_⟩, ⟨?_, ?_, ?_, ?_⟩, ⟨?_, ?_, ?_⟩, ⟨?_, ?_, ?_⟩, ⟨?_, ?_, ?_, ?_⟩⟩
  · exact news_neI N w1 h1 rfl d2
  · exact news_neI N w1 t6 rfl s2
  · exact news_neI N w1 l1 rfl rfl
  · exact news_neI N w1 q3 rfl rfl
  · exact news_neI N q1 h1 rfl d2
  · exact news_neI N q1 t6 rfl s2
  · exact news_neI N q1 l1 rfl rfl
  · exact news_neI N q1 w2 rfl rfl
  · exact news_neI N q1 w3 rfl s1
  · exact news_neT N h1 t6 d2 s2 (by decide)
  · exact news_neT N h1 l1 d2 rfl (by decide)
  · exact news_neT N h1 w3 d2 s1 (by decide)
  · exact news_neT N h1 q3 d2 rfl (by decide)
  · exact news_neT N w2 t6 rfl s2 (by decide)
  · exact news_neT N w2 l1 rfl rfl (by decide)
  · exact news_neT N w2 q3 rfl rfl (by decide)
  · exact news_neT N q2 t6 rfl s2 (by decide)
  · exact news_neT N q2 l1 rfl rfl (by decide)
  · exact news_neT N q2 w3 rfl s1 (by decide)
  · exact news_neT N t6 l1 s2 rfl (by decide)
  · exact news_neT N t6 q3 s2 rfl (by decide)
  · exact news_neT N w3 l1 s1 rfl (by decide)
  · exact news_neT N w3 q3 s1 rfl (by decide)
end
section
variable {prog : Program} {w : World} {A : Around} {E : Value → Shared → Prop} {s : Shared} {h₀ : Heap} {L : Addr} {m : Str → Option Value} {news : List (Addr × Obj)} {a : Ad} {P : Pl}
theorem st_item {value slice : PySem.Expr} {k : Str} {t : Tok} {v : Value} {Q : Value → Shared → Prop} (N : News h₀ L s.heap news) (hS : StAt w news a P) (hl : valueAt (stK a P.g hS.d.choose) k = some v) (h : Q v { s with toks := s.toks + 1 })
    (hs : subscripted slice false (.ref a.sd) (.str k t) = operate [.ref a.sd, .str k t] (getItem (.ref a.sd) (.str k t)) := by with_unfolding_all rfl) (hg : ∀ r, letTemporaryGo value (.ref a.sd) r = pure () := by intro _; with_unfolding_all rfl) :
    wpAny (model prg w) A (subscriptTail value slice (.ref a.sd) (.str k t)) Q E s :=
  kda_item (knd := PySem.strKind prg w) N hS.d.choose_spec.choose_spec.1 hS.d.choose_spec.choose_spec.2 (strKind_is _ _ _ _) hl h hs hg
theorem st_in {k : Int} {t : Tok} {Q : Value → Shared → Prop} {b : Bool} (N : News h₀ L s.heap news) (hS : StAt w news a P) (hb : P.nt < scanBound) (e : P.St k = b) (h : Q (.bool b) { s with toks := s.toks + 1 }) : wpAny (model prg w) A (compareOp .In (.int k t) (.ref a.tk)) Q E s := by
  obtain ⟨to, h1, h2⟩ := hS.t
  exact wpAny_inSet_of (intKind_is _ _ _ _) rfl (h2.setOf (N _ h1).1 hb) (by rw [e]; exact h)
theorem st_notin {k : Int} {t : Tok} {Q : Value → Shared → Prop} {b : Bool} (N : News h₀ L s.heap news) (hS : StAt w news a P) (hb : P.nt < scanBound) (e : (!P.St k) = b) (h : Q (.bool b) { s with toks := s.toks + 1 }) : wpAny (model prg w) A (compareOp .NotIn (.int k t) (.ref a.tk)) Q E s := by
  obtain ⟨to, h1, h2⟩ := hS.t
  exact wpAny_notInSet_of (intKind_is _ _ _ _) rfl (h2.setOf (N _ h1).1 hb) (by rw [e]; exact h)
theorem st_addM {pl : Sem Bool} {Q : Value × List Value → Shared → Prop} (N : News h₀ L s.heap news) (hS : StAt w news a P) (hb : P.nt < scanBound) (h : Q (.builtin "set.add", [.ref a.tk]) s) : wpAny (model prg w) A (getMethod (.ref a.tk) "add" pl) Q E s := by
  obtain ⟨to, h1, h2⟩ := hS.t
  exact getMethod_set_add (h2.setOf (N _ h1).1 hb) h
theorem st_appendM {pl : Sem Bool} {Q : Value × List Value → Shared → Prop} (N : News h₀ L s.heap news) (hS : StAt w news a P) (h : Q (.builtin "list.append", [.ref a.od]) s) : wpAny (model prg w) A (getMethod (.ref a.od) "append" pl) Q E s := by
  obtain ⟨vs, n, h1, h2⟩ := hS.o
  exact listMethod_K N h1 PySem.F.slot_list_append PySem.F.type_list_append h
theorem st_add {k : Int} {t : Tok} {Q : Value → Shared → Prop} (F : Fr h₀ L s.heap m) (N : News h₀ L s.heap news) (hS : StAt w news a P) (hb : P.nt + 1 < scanBound) (hf : P.St k = false)
    (h : ∀ h' news', Fr h₀ L h' m → News h₀ L h' news' → StAt w news' a { P with St := fun k' => P.St k' || decide (k' = k), nt := P.nt + 1 } → But a.tk news news' → Q .none { s with heap := h', toks := s.toks + 1 }) :
    wpAny (model prg w) A (call (.builtin "set.add") [.ref a.tk, .int k t]) Q E s := by
  obtain ⟨to, h1, h2⟩ := hS.t
  obtain ⟨rest, N', hoff, hsub, hsub2⟩ := news_shape N [(a.tk, to)] (by simp [h1])
  have nes := hS.nes N
  refine set_add_fresh F N' (UpdF.head fun p hp => hoff p hp _ (.head _)) h2 hb hf fun h' o' F2 N2 hs => ?_
  have hb : But a.tk news ((a.tk, o') :: rest) := fun p hp hne => by
    rcases List.mem_cons.mp (hsub p hp) with e | hp
    · exact absurd (by rw [e]) hne
    · exact .tail _ hp
  exact h h' _ F2 N2 ⟨hb.dict hS.d nes.2.2.1.1, hb.win hS.w nes.1.2.1 nes.2.2.2.1.1 hS.ap.rt, hb.que N hS.q h1 (set_cls h2) (by decide) nes.2.1.2.1 nes.2.2.2.2.1.1 nes.2.2.2.2.2.2.1.symm, ⟨o', .head _, hs⟩, hb.list hS.o nes.2.2.2.2.2.1.symm, hS.ap⟩ hb
theorem st_append {k : Int} {t : Tok} {Q : Value → Shared → Prop} (F : Fr h₀ L s.heap m) (N : News h₀ L s.heap news) (hS : StAt w news a P) (hb : P.ord.length < 1000)
    (h : ∀ h' news', Fr h₀ L h' m → News h₀ L h' news' → StAt w news' a { P with ord := P.ord ++ [k] } → But a.od news news' → Q .none { s with heap := h' }) :
    wpAny (model prg w) A (call (.builtin "list.append") [.ref a.od, .int k t]) Q E s := by
  obtain ⟨vs, n, h1, h2⟩ := hS.o
  obtain ⟨rest, N', hoff, hsub, hsub2⟩ := news_shape N [(a.od, listOf vs.toArray n)] (by simp [h1])
  have nes := hS.nes N
  have hlen := h2.length
  refine append_K F N' (Upd.head fun p hp => hoff p hp _ (.head _)) (fun h' F2 N2 => ?_) (by rw [sizeLine_eq, List.size_toArray, hlen]; omega)
  have hb : But a.od news ((a.od, listOf (vs.toArray.push (.int k t)) (n + 1)) :: rest) := fun p hp hne => by
    rcases List.mem_cons.mp (hsub p hp) with e | hp
    · exact absurd (by rw [e]) hne
    · exact .tail _ hp
  have e : vs.toArray.push (Value.int k t) = (vs ++ [Value.int k t]).toArray := by simp
  rw [e] at hb N2
  exact h h' _ F2 N2 ⟨hb.dict hS.d nes.2.2.1.2.1, hb.win hS.w nes.1.2.2.1 nes.2.2.2.1.2.1 nes.2.2.2.2.2.2.2.1, hb.que N hS.q h1 rfl (by decide) nes.2.1.2.2.1 nes.2.2.2.2.1.2.1 hS.ap.lo, hb.set hS.t nes.2.2.2.2.2.1, ⟨_, _, .head _, h2.append (.cons _ _ .nil)⟩, hS.ap⟩ hb
theorem st_put {g : Int} {tg t : Tok} {Q : Unit → Shared → Prop} (F : Fr h₀ L s.heap m) (N : News h₀ L s.heap news) (hS : StAt w news a P)
    (h : ∀ h' news', Fr h₀ L h' m → News h₀ L h' news' → StAt w news' a { P with g := g } → But a.sd news news' → Q () { s with heap := h', toks := s.toks + 1 }) :
    wpAny (model prg w) A (setItem (.ref a.sd) (.str (Str.ofString "greatest") t) (.int g tg)) Q E s := by
  obtain ⟨t0, so, h1, h2⟩ := hS.d
  obtain ⟨rest, N', hoff, hsub, hsub2⟩ := news_shape N [(a.sd, so)] (by simp [h1])
  have nes := hS.nes N
  refine kda_set (knd := PySem.strKind prg w) F N' (UpdF.head fun p hp => hoff p hp _ (.head _)) h2 (strKind_is _ _ _ _) (by rw [sizeLine_eq]; exact Nat.le_of_ble_eq_true rfl) fun h' o' F2 N2 hs => ?_
  have hb : But a.sd news ((a.sd, o') :: rest) := fun p hp hne => by
    rcases List.mem_cons.mp (hsub p hp) with e | hp
    · exact absurd (by rw [e]) hne
    · exact .tail _ hp
  exact h h' _ F2 N2 ⟨⟨tg, o', .head _, hs⟩, hb.win hS.w nes.1.1 hS.ap.sw.symm nes.2.2.1.2.2.1.symm, hb.que N hS.q h1 (dict_cls h2) (by decide) nes.2.1.1 hS.ap.sq.symm nes.2.2.1.2.2.2.symm, hb.set hS.t nes.2.2.1.1.symm, hb.list hS.o nes.2.2.1.2.1.symm, hS.ap⟩ hb
end
section
variable {h₀ h : Heap} {L : Addr} {w : World} {news news' : List (Addr × Obj)} {a : Ad} {P : Pl} {rs : List (Int × Int)} {lo : Int} {S : Int → Bool} {nR : Nat}
theorem StAt.winTo (hS : StAt w news a P) (N : News h₀ L h news) (hW : WinAt w news' a.W a.dw a.sR lo S nR) (hk : ∀ p ∈ news, p.1 ≠ a.dw → p.1 ≠ a.sR → p ∈ news') : StAt w news' a { P with lo := lo, Sw := S, nw := nR } := by
  have nes := hS.nes N
  obtain ⟨⟨t, so, h1, h2⟩, ⟨t1, t2, t3, t4, t5, wo, w1, w2, w3, w4⟩, ⟨t8, vq, nq, q1, q2, q3, q4⟩, ⟨to, t6, t7⟩, ⟨vs, k, l1, l2⟩, ap⟩ := hS
  exact ⟨⟨t, so, hk _ h1 ap.sw nes.2.2.1.2.2.1, h2⟩, hW, ⟨t8, vq, nq, hk _ q1 nes.2.1.2.2.2.1 nes.2.1.2.2.2.2, hk _ q2 ap.wq.symm nes.2.2.2.2.1.2.2, hk _ q3 nes.2.2.2.1.2.2.symm nes.2.2.2.2.2.2.2.2.symm,
    q4.mono fun p hp hc => hk p hp (news_neT N hp w2 hc rfl (by decide)) (news_neT N hp w3 hc (set_cls w4) (by decide))⟩, ⟨to, hk _ t6 nes.2.2.2.1.1.symm ap.rt.symm, t7⟩, ⟨vs, k, hk _ l1 nes.2.2.2.1.2.1.symm nes.2.2.2.2.2.2.2.1.symm, l2⟩, ap⟩
theorem StAt.queTo (hS : StAt w news a P) (N : News h₀ L h news) (hQ : QAt w news' a.q a.dq a.l rs) (hk : ∀ p ∈ news, p.1 ≠ a.l → p ∈ news') : StAt w news' a { P with rs := rs } := by
  have nes := hS.nes N
  have hb : But a.l news news' := hk
  exact ⟨hb.dict hS.d nes.2.2.1.2.2.2, hb.win hS.w nes.1.2.2.2 nes.2.2.2.1.2.2 nes.2.2.2.2.2.2.2.2, hQ, hb.set hS.t nes.2.2.2.2.2.2.1, hb.list hS.o hS.ap.lo.symm, hS.ap⟩
theorem Ad.Kept.win {n1 n2 : List (Addr × Obj)} (hk : a.Kept news n1) (hb : ∀ p ∈ n1, p.1 ≠ a.dw → p.1 ≠ a.sR → p ∈ n2) : a.Kept news n2 := fun p hp hh => hb p (hk p hp hh) (fun e => hh (.inr (.inl e))) (fun e => hh (.inr (.inr (.inl e))))
end
end Mine
namespace Mine
open PySem PySem.W PyProof.Rows
/-- what a statement leaves behind it that goes on: the frame m, the state P -/
noncomputable def StMid (h₀ : Heap) (L : Addr) (m : Str → Option Value) (w : World) (a : Ad) (P : Pl) (news0 : List (Addr × Obj)) (s : Shared) (f : Flow) (s' : Shared) : Prop :=
  f = .next ∧ ∃ h tk nx, s' = { s with heap := h, toks := tk } ∧ Fr h₀ L h m ∧ News h₀ L h nx ∧ StAt w nx a P ∧ a.Kept news0 nx
theorem st_cut {M : Model} {A : Around} {E : Value → Shared → Prop} {tr : Sem Flow} {s : Shared} {h₀ : Heap} {L : Addr} {m : Str → Option Value} {w : World} {a : Ad} {news0 : List (Addr × Obj)} {Q : Flow → Shared → Prop} (P : Pl) (_F : Fr h₀ L s.heap m)
    (h1 : wpAny M A tr (StMid h₀ L m w a P news0 s) E s) (h2 : ∀ h tk nx, Fr h₀ L h m → News h₀ L h nx → StAt w nx a P → a.Kept news0 nx → Q .next { s with heap := h, toks := tk }) : wpAny M A tr Q E s :=
  wpAny_mono h1 (fun f s' ⟨e, h, tk, nx, e2, F, N, S, k⟩ => by subst e e2; exact h2 h tk nx F N S k) fun _ _ x => x
end Mine
end
section
open PySem PySem.W
namespace Mine
/-- ranges in order, apart from each other, all above lo -/
noncomputable def Sep : Int → List (Int × Int) → Prop
  | _, [] => True
  | lo, (a, b) :: r => lo < a ∧ a < b ∧ Sep b r
theorem Sep.weak {lo lo' : Int} (h : lo' ≤ lo) : ∀ {rs : List (Int × Int)}, Sep lo rs → Sep lo' rs
  | [], _ => trivial
  | (a, b) :: r, ⟨h1, h2, h3⟩ => ⟨by omega, h2, h3⟩
theorem Sep.absorb {lo s : Int} : ∀ {rs : List (Int × Int)} {e : Int}, s < e → lo < s → Sep lo rs → (∀ p ∈ rs, s < p.1) → Sep lo ((s, (absorb e rs).1) :: (absorb e rs).2) ∧ e ≤ (absorb e rs).1
  | [], e, hse, hs, _, _ => ⟨⟨hs, hse, trivial⟩, Int.le_refl _⟩
  | (a, b) :: r, e, hse, hs, ⟨h1, h2, h3⟩, hlt => by
    by_cases ha : a ≤ e
    · rw [absorb_pos ha]
      have h4 : Sep lo r := h3.weak (by omega)
      have := Sep.absorb (s := s) (e := if e > b then e else b) (by split <;> omega) hs h4 (fun p hp => hlt p (.tail _ hp))
      exact ⟨this.1, by have h5 := this.2; split at h5 <;> omega⟩
    · rw [absorb_neg ha]
      exact ⟨⟨hs, hse, by omega, h2, h3⟩, Int.le_refl _⟩
theorem Sep.above {lo : Int} : ∀ {rs : List (Int × Int)}, Sep lo rs → ∀ p ∈ rs, lo < p.1 ∧ p.1 < p.2
  | [], _, p, hp => by cases hp
  | (a, b) :: r, ⟨h1, h2, h3⟩, p, hp => by
    rcases List.mem_cons.mp hp with rfl | hp
    · exact ⟨h1, h2⟩
    · have := Sep.above h3 p hp
      exact ⟨by omega, this.2⟩
theorem Sep.add {n : Int} : ∀ {rs : List (Int × Int)} {lo : Int}, lo < n → Sep lo rs → Sep lo (addR n (n + 1) rs)
  | [], lo, hlo, _ => ⟨hlo, by omega, trivial⟩
  | (a, b) :: r, lo, hlo, ⟨h1, h2, h3⟩ => by
    unfold addR
    by_cases q1 : n + 1 < a
    · rw [if_pos q1]; exact ⟨hlo, by omega, q1, h2, h3⟩
    · rw [if_neg q1]
      by_cases q2 : b < n
      · rw [if_pos q2]; exact ⟨h1, h2, Sep.add q2 h3⟩
      · rw [if_neg q2]
        refine (Sep.absorb ?_ ?_ (h3.weak (by omega : lo ≤ b)) ?_).1
        · split <;> split <;> omega
        · split <;> omega
        · intro p hp
          have := Sep.above h3 p hp
          split <;> omega
theorem inR_cons {a b : Int} {r : List (Int × Int)} {k : Int} : inR ((a, b) :: r) k = true ↔ (a ≤ k ∧ k < b) ∨ inR r k = true := by
  unfold inR
  simp
theorem inR_nil {k : Int} : inR [] k = false := rfl
theorem inR_app {r t : List (Int × Int)} {k : Int} : inR (r ++ t) k = (inR r k || inR t k) := by unfold inR; simp
/-- what absorb covers, where s lies below and the run s .. e has no hole -/
theorem inR_absorb {s k : Int} : ∀ {rs : List (Int × Int)} {e : Int}, s < e → (∀ p ∈ rs, s < p.1 ∧ p.1 < p.2) → (inR ((s, (absorb e rs).1) :: (absorb e rs).2) k = true ↔ (s ≤ k ∧ k < e) ∨ inR rs k = true)
  | [], e, _, _ => by rw [show absorb e [] = (e, []) from rfl, inR_cons]
  | (a, b) :: r, e, hse, hlt => by
    have h1 := hlt (a, b) (.head _)
    by_cases ha : a ≤ e
    · rw [absorb_pos ha, inR_absorb (by split <;> omega) (fun p hp => hlt p (.tail _ hp)), inR_cons]
      constructor
      · rintro (h | h)
        · by_cases q : k < e
          · exact .inl ⟨h.1, q⟩
          · refine .inr (.inl ?_)
            have h2 := h.2
            split at h2 <;> constructor <;> omega
        · exact .inr (.inr h)
      · rintro (h | h | h)
        · refine .inl ⟨h.1, ?_⟩
          have h2 := h.2
          split <;> omega
        · refine .inl ⟨by omega, ?_⟩
          split <;> omega
        · exact .inr h
    · rw [absorb_neg ha, inR_cons]
theorem inR_add {n k : Int} : ∀ {rs : List (Int × Int)} {lo : Int}, Sep lo rs → (inR (addR n (n + 1) rs) k = true ↔ k = n ∨ inR rs k = true)
  | [], lo, _ => by
    rw [show addR n (n + 1) [] = [(n, n + 1)] from rfl, inR_cons, inR_nil]
    constructor
    · rintro (h | h)
      · exact .inl (by omega)
      · cases h
    · rintro (h | h)
      · exact .inl ⟨by omega, by omega⟩
      · cases h
  | (a, b) :: r, lo, ⟨h1, h2, h3⟩ => by
    unfold addR
    by_cases q1 : n + 1 < a
    · rw [if_pos q1, inR_cons]
      constructor
      · rintro (h | h)
        · exact .inl (by omega)
        · exact .inr h
      · rintro (h | h)
        · exact .inl ⟨by omega, by omega⟩
        · exact .inr h
    · rw [if_neg q1]
      by_cases q2 : b < n
      · rw [if_pos q2, inR_cons, inR_add h3, inR_cons]
        constructor
        · rintro (h | h | h)
          · exact .inr (.inl h)
          · exact .inl h
          · exact .inr (.inr h)
        · rintro (h | h | h)
          · exact .inr (.inl h)
          · exact .inl h
          · exact .inr (.inr h)
      · rw [if_neg q2, inR_absorb (by split <;> split <;> omega) (fun p hp => by have := Sep.above h3 p hp; split <;> omega), inR_cons]
        constructor
        · rintro (h | h)
          · by_cases q : k = n
            · exact .inl q
            · obtain ⟨h4, h5⟩ := h
              refine .inr (.inl ?_)
              split at h4 <;> split at h5 <;> constructor <;> omega
          · exact .inr (.inr h)
        · rintro (h | h | h)
          · refine .inl ⟨?_, ?_⟩ <;> split <;> omega
          · refine .inl ⟨?_, ?_⟩ <;> split <;> omega
          · exact .inr h
theorem absorb_len : ∀ {rs : List (Int × Int)} {e : Int}, (absorb e rs).2.length ≤ rs.length
  | [], _ => Nat.le_refl _
  | (a, b) :: r, e => by
    by_cases ha : a ≤ e
    · rw [absorb_pos ha]; exact Nat.le_succ_of_le absorb_len
    · rw [absorb_neg ha]; exact Nat.le_refl _
theorem addR_len {s e : Int} : ∀ {rs : List (Int × Int)}, (addR s e rs).length ≤ rs.length + 1 ∧ addR s e rs ≠ []
  | [] => ⟨Nat.le_refl _, by simp [addR]⟩
  | (a, b) :: r => by
    unfold addR
    split
    · exact ⟨Nat.le_refl _, List.cons_ne_nil _ _⟩
    · split
      · exact ⟨Nat.succ_le_succ (addR_len (rs := r)).1, List.cons_ne_nil _ _⟩
      · exact ⟨Nat.succ_le_succ (Nat.le_trans absorb_len (Nat.le_succ _)), List.cons_ne_nil _ _⟩
/-- the ranges' end: the greatest number within, and one -/
noncomputable def top : Int → List (Int × Int) → Int
  | z, [] => z
  | _, (_, b) :: r => top b r
theorem top_last : ∀ {rs : List (Int × Int)} {z : Int}, rs ≠ [] → ∃ p, rs.getLast? = some p ∧ p.2 = top z rs
  | [], _, h => absurd rfl h
  | [(a, b)], _, _ => ⟨(a, b), rfl, rfl⟩
  | (a, b) :: c :: r, z, _ => by
    obtain ⟨p, h1, h2⟩ := top_last (rs := c :: r) (z := b) (List.cons_ne_nil _ _)
    exact ⟨p, by rw [List.getLast?_cons_cons]; exact h1, h2⟩
theorem top_sep : ∀ {rs : List (Int × Int)} {z : Int}, Sep z rs → z + 2 * (rs.length : Int) ≤ top z rs
  | [], z, _ => by simp [top]
  | (a, b) :: r, z, ⟨h1, h2, h3⟩ => by
    have := top_sep h3
    unfold top
    rw [List.length_cons]
    omega
theorem top_absorb : ∀ {rs : List (Int × Int)} {e z : Int}, Sep z rs → top (absorb e rs).1 (absorb e rs).2 = if rs = [] then e else if top z rs < e then e else top z rs
  | [], e, z, _ => by rw [if_pos rfl]; rfl
  | (a, b) :: r, e, z, ⟨h1, h2, h3⟩ => by
    rw [if_neg (List.cons_ne_nil _ _)]
    have hb := top_sep h3
    show top (absorb e ((a, b) :: r)).1 (absorb e ((a, b) :: r)).2 = if top b r < e then e else top b r
    by_cases ha : a ≤ e
    · rw [absorb_pos ha, top_absorb h3]
      by_cases hr : r = []
      · rw [if_pos hr, hr]
        show _ = if b < e then e else b
        (repeat' split) <;> omega
      · rw [if_neg hr]
        (repeat' split) <;> omega
    · rw [absorb_neg ha]
      show top b r = _
      rw [if_neg (by omega)]
theorem top_add {n : Int} : ∀ {rs : List (Int × Int)} {z : Int}, z ≤ n → Sep z rs → top z (addR n (n + 1) rs) = if top z rs < n + 1 then n + 1 else top z rs
  | [], z, hz, _ => by
    show n + 1 = if z < n + 1 then n + 1 else z
    rw [if_pos (by omega)]
  | (a, b) :: r, z, hz, ⟨h1, h2, h3⟩ => by
    have hb := top_sep h3
    unfold addR
    by_cases q1 : n + 1 < a
    · rw [if_pos q1]
      show top b r = if top b r < n + 1 then n + 1 else top b r
      rw [if_neg (by omega)]
    · rw [if_neg q1]
      by_cases q2 : b < n
      · rw [if_pos q2]
        show top b (addR n (n + 1) r) = if top b r < n + 1 then n + 1 else top b r
        exact top_add (by omega) h3
      · rw [if_neg q2]
        show top (absorb _ r).1 (absorb _ r).2 = if top b r < n + 1 then n + 1 else top b r
        rw [top_absorb h3]
        by_cases hr : r = []
        · rw [if_pos hr, hr]
          show _ = if b < n + 1 then n + 1 else b
          (repeat' split) <;> omega
        · rw [if_neg hr]
          (repeat' split) <;> omega
noncomputable def lowOf (g : Int) : Int := if 0 < g - 127 then g - 127 else 0
noncomputable def cutR (rs : List (Int × Int)) : List (Int × Int) := if 64 < rs.length then rs.tail else rs
/-- what a fresh number makes of the state -/
noncomputable def come (P : Pl) (n : Int) : Pl := { lo := if P.lo < n - 128 + 1 then n - 128 + 1 else P.lo, Sw := fun k => P.Sw k || decide (k = n), nw := P.nw + 1, rs := cutR (addR n (n + 1) P.rs), St := fun k => P.St k || decide (k = n), nt := P.nt + 1, ord := P.ord ++ [n], g := if n > P.g then n else P.g }
structure Inv (P : Pl) : Prop where
  lo : P.lo = lowOf P.g
  sw : P.Sw = P.St
  nw : P.nw = P.ord.length
  nt : P.nt = P.ord.length
  mem : ∀ k, P.St k = true ↔ k ∈ P.ord
  g0 : -1 ≤ P.g
  g1 : P.g < 16383
  rng : ∀ k ∈ P.ord, 0 ≤ k ∧ k ≤ P.g
  emp : P.ord = [] → P.g = -1
  sep : Sep (-1) P.rs
  top : top 0 P.rs = P.g + 1
  sub : ∀ k, inR P.rs k = true → k ∈ P.ord
  len : P.rs.length ≤ 64
  last : ∀ k, P.ord.getLast? = some k → inR P.rs k = true
noncomputable def Pl0 : Pl := ⟨0, fun _ => false, 0, [], fun _ => false, 0, [], -1⟩
theorem inv0 : Inv Pl0 := ⟨rfl, rfl, rfl, rfl, fun k => (by simp [Pl0]), (by decide), (by decide), fun k h => (nomatch h), fun _ => rfl, trivial, rfl, fun k h => (nomatch h), (by decide), fun k h => (nomatch h)⟩
theorem Inv.greatest_in {P : Pl} (h : Inv P) (hne : P.ord ≠ []) : P.rs ≠ [] := fun e => by
  obtain ⟨k, hk⟩ : ∃ k, P.ord.getLast? = some k := ⟨_, List.getLast?_eq_some_getLast hne⟩
  have := h.last k hk
  rw [e] at this
  cases this
theorem inv_come {P : Pl} {n : Int} (h : Inv P) (h0 : 0 ≤ n) (h1 : n < 16383) (hg : n > P.g - 128) (hf : P.St n = false) : Inv (come P n) ∧ inR (come P n).rs n = true ∧ (come P n).rs ≠ [] := by
  have hS : Sep (-1) (addR n (n + 1) P.rs) := Sep.add (by omega) h.sep
  have hT : top 0 (addR n (n + 1) P.rs) = if top 0 P.rs < n + 1 then n + 1 else top 0 P.rs := by
    cases hr : P.rs with
    | nil =>
      show n + 1 = if (0 : Int) < n + 1 then n + 1 else 0
      rw [if_pos (by omega)]
    | cons p r =>
      obtain ⟨a, b⟩ := p
      have h3 := h.sep
      rw [hr] at h3
      have h4 := top_add (n := n) (z := -1) (by omega) h3
      have e1 : ∀ z z' : Int, top z ((a, b) :: r) = top z' ((a, b) :: r) := fun _ _ => rfl
      rw [e1 0 (-1), ← h4]
      obtain ⟨q, t, e⟩ : ∃ q t, addR n (n + 1) ((a, b) :: r) = q :: t := by
        cases e : addR n (n + 1) ((a, b) :: r) with
        | nil => exact absurd e addR_len.2
        | cons q t => exact ⟨q, t, rfl⟩
      rw [e]
      rfl
  have hg2 : (if top 0 P.rs < n + 1 then n + 1 else top 0 P.rs) = (if n > P.g then n else P.g) + 1 := by
    rw [h.top]
    by_cases q : n > P.g
    · rw [if_pos q, if_pos (by omega)]
    · rw [if_neg q]
      by_cases q2 : P.g + 1 < n + 1
      · omega
      · rw [if_neg q2]
  rw [hg2] at hT
  have hin : ∀ k, inR (addR n (n + 1) P.rs) k = true ↔ k = n ∨ inR P.rs k = true := fun k => inR_add h.sep
  have hlen := (addR_len (s := n) (e := n + 1) (rs := P.rs)).1
  have h64 := h.len
  -- the cut
  have hcut : Sep (-1) (cutR (addR n (n + 1) P.rs)) ∧ top 0 (cutR (addR n (n + 1) P.rs)) = (if n > P.g then n else P.g) + 1 ∧ (∀ k, inR (cutR (addR n (n + 1) P.rs)) k = true → inR (addR n (n + 1) P.rs) k = true) ∧ (cutR (addR n (n + 1) P.rs)).length ≤ 64 ∧ inR (cutR (addR n (n + 1) P.rs)) n = true := by
    unfold cutR
    by_cases q : 64 < (addR n (n + 1) P.rs).length
    · rw [if_pos q]
      cases e : addR n (n + 1) P.rs with
      | nil => rw [e] at q; simp at q
      | cons p t =>
        obtain ⟨a, b⟩ := p
        rw [e] at hS hT q hin hlen
        obtain ⟨s1, s2, s3⟩ := hS
        have ht : t ≠ [] := by
          intro e2; rw [e2] at q; simp at q
        have hT2 : top b t = (if n > P.g then n else P.g) + 1 := hT
        have hT3 := top_sep s3
        rw [List.length_cons] at q hlen
        show Sep (-1) t ∧ top 0 t = _ ∧ (∀ k, inR t k = true → _) ∧ t.length ≤ 64 ∧ inR t n = true
        refine ⟨s3.weak (by omega), ?_, fun k hk => inR_cons.mpr (.inr hk), by omega, ?_⟩
        · rw [← hT2]
          cases t with
          | nil => exact absurd rfl ht
          | cons _ _ => rfl
        · rcases inR_cons.mp ((hin n).mpr (.inl rfl)) with h5 | h5
          · exfalso
            split at hT2 <;> omega
          · exact h5
    · rw [if_neg q]
      exact ⟨hS, hT, fun _ h => h, by omega, (hin n).mpr (.inl rfl)⟩
  obtain ⟨c1, c2, c3, c4, c5⟩ := hcut
  refine ⟨⟨?_, ?_, ?_, ?_, ?_, ?_, ?_, ?_, ?_, c1, c2, ?_, c4, ?_⟩, c5, ?_⟩
  · show (if P.lo < n - 128 + 1 then n - 128 + 1 else P.lo) = lowOf (if n > P.g then n else P.g)
    rw [h.lo]
    unfold lowOf
    split <;> split <;> (try split) <;> (try split) <;> omega
  · show (fun k => P.Sw k || decide (k = n)) = fun k => P.St k || decide (k = n)
    rw [h.sw]
  · show P.nw + 1 = (P.ord ++ [n]).length
    rw [h.nw, List.length_append]; rfl
  · show P.nt + 1 = (P.ord ++ [n]).length
    rw [h.nt, List.length_append]; rfl
  · intro k
    show (P.St k || decide (k = n)) = true ↔ k ∈ P.ord ++ [n]
    rw [Bool.or_eq_true, h.mem k, decide_eq_true_eq, List.mem_append, List.mem_singleton]
  · show -1 ≤ if n > P.g then n else P.g
    split <;> omega
  · show (if n > P.g then n else P.g) < 16383
    have := h.g1
    split <;> omega
  · intro k hk
    show 0 ≤ k ∧ k ≤ if n > P.g then n else P.g
    rcases List.mem_append.mp hk with h5 | h5
    · have := h.rng k h5
      split <;> omega
    · have := List.mem_singleton.mp h5
      split <;> omega
  · intro e
    exact absurd e (by simp [come])
  · intro k hk
    show k ∈ P.ord ++ [n]
    rcases (hin k).mp (c3 k hk) with h5 | h5
    · rw [h5]; exact List.mem_append_right _ (.head _)
    · exact List.mem_append_left _ (h.sub k h5)
  · intro k hk
    have e : k = n := by
      have : (P.ord ++ [n]).getLast? = some n := by simp
      have h6 : (P.ord ++ [n]).getLast? = some k := hk
      rw [this] at h6
      exact (Option.some.inj h6).symm
    rw [e]; exact c5
  · intro e
    have : inR (come P n).rs n = true := c5
    rw [e] at this
    cases this
end Mine
end
section
open PySem PySem.W PySem.Calls PyProof.Rows
open Sem (wp)
set_option maxRecDepth 100000
namespace Mine
noncomputable def CellS (news : List (Addr × Obj)) (c : Addr) (v : Value) : Prop := ∃ co : Obj, (c, co) ∈ news ∧ co.data = .cell (some v)
theorem news_up2 {h₀ h : Heap} {L : Addr} {x y : Addr × Obj} {n : List (Addr × Obj)} (_N : News h₀ L h (x :: y :: n)) : ∀ p ∈ n, p ∈ x :: y :: n := fun _ hp => .tail _ (.tail _ hp)
/-- the law's state: the objects, the cell that holds them, the plain invariant -/
structure LawS (w : World) (news : List (Addr × Obj)) (c : Addr) (a : Ad) (P : Pl) : Prop where
  st : StAt w news a P
  ce : CellS news c (.ref a.sd)
  inv : Inv P
theorem RngsAt.monoD {news news' : List (Addr × Obj)} (hs : ∀ p ∈ news, (∀ v, p.2.data ≠ .cell v) → p ∈ news') : ∀ {vs : List Value} {rs : List (Int × Int)}, RngsAt news vs rs → RngsAt news' vs rs
  | [], [], _ => trivial
  | _ :: _, _ :: _, ⟨⟨a, t, u, k, e, hm⟩, h⟩ => ⟨⟨a, t, u, k, e, hs _ hm (by intro v e; cases e)⟩, RngsAt.monoD hs h⟩
  | [], _ :: _, h => h.elim
  | _ :: _, [], h => h.elim
section
variable {h₀ h : Heap} {L : Addr} {w : World} {news news' nx : List (Addr × Obj)} {a : Ad} {P : Pl} {c it : Addr} {v : Value} {o : Obj} {T : String}
theorem StAt.notCell (hS : StAt w news a P) (N : News h₀ L h news) {co : Obj} (hc : (c, co) ∈ news) {v0 : Option Value} (hd : co.data = .cell v0) : ¬ a.hit c := by
  obtain ⟨⟨t, so, h1, h2⟩, ⟨t1, t2, t3, t4, t5, wo, w1, w2, w3, w4⟩, ⟨t8, vq, nq, q1, q2, q3, _⟩, ⟨to, t6, t7⟩, ⟨vs, k, l1, l2⟩, ap⟩ := hS
  have key : ∀ {b : Addr} {ob : Obj}, (b, ob) ∈ news → ob.data ≠ .cell v0 → c ≠ b := fun hb hne e => by
    have := news_fun N hc hb e
    exact hne (by rw [← (Prod.mk.inj this).2]; exact hd)
  obtain ⟨es, ep, _, e1, _⟩ := h2
  obtain ⟨_, es2, ep2, t9, e2, _⟩ := w4
  obtain ⟨_, es3, ep3, t10, e3, _⟩ := t7
  rintro (e | e | e | e | e | e)
  · exact key h1 (by rw [e1]; intro e; cases e) e
  · exact key w2 (by intro e; cases e) e
  · exact key w3 (by rw [e2]; intro e; cases e) e
  · exact key t6 (by rw [e3]; intro e; cases e) e
  · exact key l1 (by intro e; cases e) e
  · exact key q3 (by intro e; cases e) e
theorem StAt.hits (hS : StAt w news a P) {b : Addr} (hb : a.hit b) : ∃ ob, (b, ob) ∈ news := by
  obtain ⟨⟨t, so, h1, h2⟩, ⟨t1, t2, t3, t4, t5, wo, w1, w2, w3, w4⟩, ⟨t8, vq, nq, q1, q2, q3, _⟩, ⟨to, t6, t7⟩, ⟨vs, k, l1, l2⟩, ap⟩ := hS
  rcases hb with e | e | e | e | e | e <;> rw [e]
  · exact ⟨_, h1⟩
  · exact ⟨_, w2⟩
  · exact ⟨_, w3⟩
  · exact ⟨_, t6⟩
  · exact ⟨_, l1⟩
  · exact ⟨_, q3⟩
theorem StAt.offCell (hS : StAt w news a P) (hs : ∀ p ∈ news, (∀ v, p.2.data ≠ .cell v) → p ∈ news') : StAt w news' a P := by
  obtain ⟨⟨t, so, h1, h2⟩, ⟨t1, t2, t3, t4, t5, wo, w1, w2, w3, w4⟩, ⟨t8, vq, nq, q1, q2, q3, q4⟩, ⟨to, t6, t7⟩, ⟨vs, k, l1, l2⟩, ap⟩ := hS
  obtain ⟨es, ep, x1, e1, x2⟩ := id h2
  obtain ⟨y1, es2, ep2, t9, e2, y2⟩ := id w4
  obtain ⟨z1, es3, ep3, t10, e3, z2⟩ := id t7
  have r4 : RngsAt news' vq P.rs := q4.monoD hs
  exact ⟨⟨t, so, hs _ h1 (by intro v; rw [e1]; intro e; cases e), h2⟩, ⟨t1, t2, t3, t4, t5, wo, hs _ w1 (by intro v e; cases e), hs _ w2 (by intro v e; cases e), hs _ w3 (by intro v; rw [e2]; intro e; cases e), w4⟩,
    ⟨t8, vq, nq, hs _ q1 (by intro v e; cases e), hs _ q2 (by intro v e; cases e), hs _ q3 (by intro v e; cases e), r4⟩, ⟨to, hs _ t6 (by intro v; rw [e3]; intro e; cases e), t7⟩, ⟨vs, k, hs _ l1 (by intro v e; cases e), l2⟩, ap⟩
theorem LawS.notHit (hS : LawS w news c a P) (hd : ∀ p ∈ news, p.1 ≠ it) : ¬ a.hit it := fun hh => by
  obtain ⟨ob, hb⟩ := hS.st.hits hh
  exact hd _ hb rfl
theorem LawS.off (hS : LawS w news c a P) (ho : Off (.type T) news nx) (hb : ∀ p ∈ news, p.1 ≠ it → p ∈ nx) (hne : @Ne Nat c it) (hn : T ≠ "dict" ∧ T ≠ "list" ∧ T ≠ "range" ∧ T ≠ "set" := by decide) : LawS w nx c a P := by
  obtain ⟨s, ⟨co, h1, h2⟩, i⟩ := hS
  exact ⟨s.off ho hn, ⟨co, hb _ h1 hne, h2⟩, i⟩
theorem LawS.sub (hS : LawS w news c a P) (hs : ∀ p ∈ news, p ∈ news') : LawS w news' c a P := by
  obtain ⟨s, ⟨co, h1, h2⟩, i⟩ := hS
  exact ⟨s.sub hs, ⟨co, hs _ h1, h2⟩, i⟩
theorem WinAt.sub {x dx sR : Addr} {lo : Int} {S : Int → Bool} {n : Nat} (hW : WinAt w news x dx sR lo S n) (hs : ∀ p ∈ news, p ∈ news') : WinAt w news' x dx sR lo S n := by
  obtain ⟨t1, t2, t3, t4, t5, wo, w1, w2, w3, w4⟩ := hW
  exact ⟨t1, t2, t3, t4, t5, wo, hs _ w1, hs _ w2, hs _ w3, w4⟩
theorem LawS.cons {y : Addr × Obj} (hS : LawS w news c a P) : LawS w (y :: news) c a P := hS.sub fun _ hp => .tail _ hp
theorem LawS.consN {y : Addr × Obj} (_N : News h₀ L h (y :: news)) (hS : LawS w news c a P) : LawS w (y :: news) c a P := hS.cons
theorem LawS.to {P' : Pl} (hS : LawS w news c a P) (N : News h₀ L h news) (hT : StAt w news' a P') (hI : Inv P') (hk : a.Kept news news') : LawS w news' c a P' := by
  obtain ⟨s, ⟨co, h1, h2⟩, i⟩ := hS
  exact ⟨hT, ⟨co, hk _ h1 (s.notCell N h1 h2), h2⟩, hI⟩
theorem LawS.ne (hS : LawS w news c a P) (hd : ∀ p ∈ news, p.1 ≠ it) : @Ne Nat c it := by
  obtain ⟨co, h1, _⟩ := hS.ce
  exact hd _ h1
theorem Ad.Kept.trans {n1 n2 n3 : List (Addr × Obj)} (h1 : a.Kept n1 n2) (h2 : a.Kept n2 n3) : a.Kept n1 n3 := fun p hp hh => h2 p (h1 p hp hh) hh
end
section
variable {prog : Program} {w : World} {A : Around} {E : Value → Shared → Prop} {s : Shared} {h₀ : Heap} {L c : Addr} {m : Str → Option Value} {news : List (Addr × Obj)} {a : Ad} {P : Pl}
theorem name_cell {M : Model} {cn : Str} {cs : Scope} {fa : Addr} {ccd : Value} {cl : List (Str × Addr)} {x : Str} {pos : Pos} {v : Value} {Q : Value → Shared → Prop} (N : News h₀ L s.heap news) (hC : CellS news c v) (hc : cl.lookup x = some c) (h : Q v s)
    (hk : cs.kind = .function := by rfl) (hx : (envX cn cs L fa ccd cl).kindOf x = some .cell := by rfl) (hb : (x == ("__debug__" : Str)) = false := by decide) :
    wpAny M A (eval (.Name x pos) (envX cn cs L fa ccd cl)) Q E s := by
  obtain ⟨co, h1, h2⟩ := hC
  exact nameX_C N hc h1 h2 h hk hx hb
theorem store_cell {M : Model} {cn : Str} {cs : Scope} {fa : Addr} {ccd : Value} {cl : List (Str × Addr)} {x : Str} {v : Value} {v0 : Option Value} {co : Obj} {Q : Unit → Shared → Prop} (F : Fr h₀ L s.heap m) (N : News h₀ L s.heap news) (hm : (c, co) ∈ news) (hd : co.data = .cell v0) (hc : cl.lookup x = some c)
    (h : ∀ h' news', Fr h₀ L h' m → News h₀ L h' news' → CellS news' c v → (∀ p ∈ news, (∀ v, p.2.data ≠ .cell v) → p ∈ news') → Q () { s with heap := h' })
    (hk : cs.kind = .function := by rfl) (hx : (envX cn cs L fa ccd cl).kindOf x = some .cell := by rfl) : wpAny M A (storeName (envX cn cs L fa ccd cl) x v) Q E s := by
  obtain ⟨rest, N', hoff, hsub, hsub2⟩ := news_shape N [(c, co)] (by simp [hm])
  refine storeX_C F N' hc (UpdF.head fun p hp => hoff p hp _ (.head _)) hd (fun h' o' F2 N2 d2 => ?_) hk hx
  refine h h' _ F2 N2 ⟨o', .head _, d2⟩ fun p hp hne => ?_
  rcases List.mem_cons.mp (hsub p hp) with e | hp
  · exact absurd hd (by rw [← show p.2 = co by rw [e]]; exact hne v0)
  · exact .tail _ hp
end
theorem kdn_abs {prog : Program} {w : World} {s : Shared} {h₀ : Heap} {L d : Addr} {m : Str → Option Value} {news : List (Addr × Obj)} {o : Obj} {Q : Value → Shared → Prop} {vs : List (Value × Value)} (F : Fr h₀ L s.heap m) (N : News h₀ L s.heap news) (hm : (d, o) ∈ news) (hd : o.IsDictOf (PySem.strKind prog w) []) (hk : allStrKeys vs = true) (hn : ((strPairs vs).map (·.1)).Nodup)
    (h : ∀ h' news' o', Fr h₀ L h' m → News h₀ L h' news' → (d, o') ∈ news' → o'.IsDictOf (PySem.strKind prog w) (strPairs vs) → But d news news' → Q (.ref d) { s with heap := h', toks := s.toks + vs.length }) : KdnMade prog w (PySem.strKind prog w) d Q vs s := by
  obtain ⟨rest, N', hoff, hsub, hsub2⟩ := news_shape N [(d, o)] (by simp [hm])
  refine kdn_made_str F N' (UpdF.head fun p hp => hoff p hp _ (.head _)) hd hk hn fun h' o' F2 N2 hd2 => h h' _ o' F2 N2 (.head _) hd2 fun p hp hne => ?_
  rcases List.mem_cons.mp (hsub p hp) with e | hp
  · exact absurd (by rw [e]) hne
  · exact .tail _ hp
/-- what a turn of one of the law's loops leaves -/
noncomputable def LEnd (h₀ : Heap) (L : Addr) (w : World) (c : Addr) (a : Ad) (ns : List Str) (m0 : Str → Option Value) (news : List (Addr × Obj)) (Φ : Pl → Prop) (s₁ s' : Shared) : Prop :=
  ∃ h tk m' nx P, s' = { s₁ with heap := h, toks := tk } ∧ Fr h₀ L h m' ∧ News h₀ L h nx ∧ LawS w nx c a P ∧ a.Kept news nx ∧ Φ P ∧ Over ns m' m0
noncomputable def LPost (h₀ : Heap) (L : Addr) (w : World) (c : Addr) (a : Ad) (ns : List Str) (m0 : Str → Option Value) (news : List (Addr × Obj)) (Φ : Pl → Prop) (Q : Flow → Shared → Prop) (s₁ : Shared) (f : Flow) (s' : Shared) : Prop :=
  match f with
  | .ret v => Q (.ret v) s'
  | .brk => Q .next s'
  | .next => LEnd h₀ L w c a ns m0 news Φ s₁ s'
  | .cont => LEnd h₀ L w c a ns m0 news Φ s₁ s'
structure LawJ (w : World) (c : Addr) (a : Ad) (ns : List Str) (m0 : Str → Option Value) (news0 : List (Addr × Obj)) (Φ : Nat → Pl → Prop) (i : Nat) (m : Str → Option Value) (nx : List (Addr × Obj)) : Prop where
  o : Over ns m m0
  s : ∃ P, LawS w nx c a P ∧ Φ i P
  k : a.Kept news0 nx
section
variable {prog : Program} {w : World} {A : Around} {E : Value → Shared → Prop} {s : Shared} {env : Env} {h₀ : Heap} {x : Str} {body : List Stmt} {Q : Flow → Shared → Prop} {c : Addr} {ad : Ad} {P0 : Pl} {ns : List Str} {m0 : Str → Option Value} {news : List (Addr × Obj)}
theorem lpost_turn {L it : Addr} {o : Obj} {nx : List (Addr × Obj)} {T : String} {P : Pl} {Φ : Nat → Pl → Prop} {i : Nat} {s₁ s' : Shared} {f : Flow} (hS : LawS w nx c ad P) (hk0 : ad.Kept news nx) (hd : ∀ p ∈ nx, p.1 ≠ it) (hoc : o.cls = .type T) (hn : T ≠ "dict" ∧ T ≠ "list" ∧ T ≠ "range" ∧ T ≠ "set")
    (hp : LPost h₀ L w c ad ns m0 ((it, o) :: nx) (Φ (i + 1)) Q s₁ f s') : TurnPost h₀ L it o (LawJ w c ad ns m0 news Φ (i + 1)) Q s₁ f s' := by
  have hne := hS.ne hd
  have hit := hS.notHit hd
  have fin : LEnd h₀ L w c ad ns m0 ((it, o) :: nx) (Φ (i + 1)) s₁ s' → TurnEnd h₀ L it o (LawJ w c ad ns m0 news Φ (i + 1)) s₁ s' := by
    rintro ⟨h, tk, m', n2, P', e, F, N, hS', hk, hΦ, hov⟩
    obtain ⟨n3, N3, hn3, hoff, hb⟩ := offIt N (hk (it, o) (.head _) hit)
    rw [hoc] at hoff
    exact ⟨h, tk, m', n3, e, F, N3, hn3, hov, ⟨P', hS'.off hoff hb hne hn, hΦ⟩, fun p hp hh => hb p (hk p (.tail _ (hk0 p hp hh)) hh) (hd p (hk0 p hp hh))⟩
  cases f with
  | ret v => exact hp
  | brk => exact hp
  | next => exact fin hp
  | cont => exact fin hp
theorem lawR {r : Addr} {b : Int} {t u k : Tok} (ns : List Str) (Φ : Nat → Pl → Prop) (hh : A.handled = none) (hr : (r, rngO 0 b t u k) ∈ news) (hb : -(2 ^ 62) ≤ b) (hb' : b < 2 ^ 62) (F : Fr h₀ env.locals s.heap m0) (N : News h₀ env.locals s.heap news) (hS : LawS w news c ad P0) (h0 : Φ 0 P0)
    (turn : ∀ (i : Nat) t m₁ P news₁ h tk, (i : Int) < b → Φ i P → LawS w news₁ c ad P → ad.Kept news news₁ → Over ns m₁ m0 → Fr h₀ env.locals h (fun y => if y = x then some (.int (0 + (i : Int)) t) else m₁ y) → News h₀ env.locals h news₁ →
      wpAny (model prog w) A (execs body env) (LPost h₀ env.locals w c ad ns m0 news₁ (Φ (i + 1)) Q { s with heap := h, toks := tk }) E { s with heap := h, toks := tk })
    (done : ∀ m₁ P news₁ h tk, Φ b.toNat P → LawS w news₁ c ad P → ad.Kept news news₁ → Over ns m₁ m0 → Fr h₀ env.locals h m₁ → News h₀ env.locals h news₁ → Q .next { s with heap := h, toks := tk }) :
    wpAny (model prog w) A (pyIter (.ref r)) (fun it s₂ => LoopAtV prog w A h₀ env x body Q E it s₂) E s := by
  refine iterR (LawJ w c ad ns m0 news Φ) hh hr (by decide) (by decide) hb hb' F N ⟨Over.self, ⟨P0, hS, h0⟩, Ad.Kept.refl⟩ ?_ ?_
  · rintro i t m₁ nx h tk it o hi ⟨ho, ⟨P, hS, hΦ⟩, hk⟩ hd hoc F₁ N₁
    refine wpAny_mono (turn i t m₁ P _ h tk (by omega) hΦ hS.cons (fun p hp hh => .tail _ (hk p hp hh)) ho F₁ N₁) (fun f s' hp => lpost_turn hS hk hd hoc (by decide) hp) fun _ _ e => e
  · rintro m₁ nx h tk ⟨ho, ⟨P, hS, hΦ⟩, hk⟩ F₁ N₁
    rw [Int.sub_zero] at hΦ
    exact done m₁ P nx h tk hΦ hS hk ho F₁ N₁
theorem lawL {l : Addr} {vs : List Value} {nn : Nat} (ns : List Str) (Φ : Nat → Pl → Prop) (hh : A.handled = none) (hl : (l, listOf vs.toArray nn) ∈ news) (hlh : ¬ ad.hit l) (F : Fr h₀ env.locals s.heap m0) (N : News h₀ env.locals s.heap news) (hS : LawS w news c ad P0) (h0 : Φ 0 P0)
    (turn : ∀ (i : Nat) v m₁ P news₁ h tk, vs[i]? = some v → Φ i P → LawS w news₁ c ad P → ad.Kept news news₁ → Over ns m₁ m0 → Fr h₀ env.locals h (fun y => if y = x then some v else m₁ y) → News h₀ env.locals h news₁ →
      wpAny (model prog w) A (execs body env) (LPost h₀ env.locals w c ad ns m0 news₁ (Φ (i + 1)) Q { s with heap := h, toks := tk }) E { s with heap := h, toks := tk })
    (done : ∀ m₁ P news₁ h tk, Φ vs.length P → LawS w news₁ c ad P → ad.Kept news news₁ → Over ns m₁ m0 → Fr h₀ env.locals h m₁ → News h₀ env.locals h news₁ → Q .next { s with heap := h, toks := tk }) :
    wpAny (model prog w) A (pyIter (.ref l)) (fun it s₂ => LoopAtV prog w A h₀ env x body Q E it s₂) E s := by
  refine iterL (LawJ w c ad ns m0 news Φ) hh hl F N ⟨Over.self, ⟨P0, hS, h0⟩, Ad.Kept.refl⟩ (fun i m nx h => h.k _ hl hlh) ?_ ?_
  · rintro i v m₁ nx h tk it o hv ⟨ho, ⟨P, hS, hΦ⟩, hk⟩ hd hoc F₁ N₁
    refine wpAny_mono (turn i v m₁ P _ h tk hv hΦ hS.cons (fun p hp hh => .tail _ (hk p hp hh)) ho F₁ N₁) (fun f s' hp => lpost_turn hS hk hd hoc (by decide) hp) fun _ _ e => e
  · rintro m₁ nx h tk ⟨ho, ⟨P, hS, hΦ⟩, hk⟩ F₁ N₁
    exact done m₁ P nx h tk hΦ hS hk ho F₁ N₁
end
section
variable {M : Model} {w : World} {A : Around} {E : Value → Shared → Prop} {s : Shared} {h₀ : Heap} {L : Addr} {m : Str → Option Value} {news : List (Addr × Obj)} {tr : Sem Flow} {Q : Flow → Shared → Prop}
/-- what a statement leaves that writes one name -/
noncomputable def NameMid (h₀ : Heap) (L : Addr) (x : Str) (Φ : Value → Prop) (m : Str → Option Value) (news : List (Addr × Obj)) (s : Shared) (f : Flow) (s' : Shared) : Prop :=
  f = .next ∧ ∃ h tk v, s' = { s with heap := h, toks := tk } ∧ Fr h₀ L h (fun y => if y = x then some v else m y) ∧ News h₀ L h news ∧ Φ v
theorem name_cut (x : Str) (Φ : Value → Prop) (_F : Fr h₀ L s.heap m) (_N : News h₀ L s.heap news) (h1 : wpAny M A tr (NameMid h₀ L x Φ m news s) E s)
    (h2 : ∀ h tk v, Fr h₀ L h (fun y => if y = x then some v else m y) → News h₀ L h news → Φ v → Q .next { s with heap := h, toks := tk }) : wpAny M A tr Q E s :=
  wpAny_mono h1 (fun f s' ⟨e, h, tk, v, e2, F, N, p⟩ => by subst e e2; exact h2 h tk v F N p) fun _ _ x => x
section
variable {prog : Program} {w : World} {A : Around} {E : Value → Shared → Prop} {s : Shared} {a : Ad} {P : Pl}
theorem st_olen {Q : Value → Shared → Prop} (N : News h₀ L s.heap news) (hS : StAt w news a P) (hb : P.ord.length < 1000) (h : ∀ t tk, Q (.int (P.ord.length : Int) t) { s with toks := tk }) : wpAny (model prg w) A (call (.builtin "len") [.ref a.od]) Q E s := by
  obtain ⟨vs, n, h1, h2⟩ := hS.o
  have hl : s.heap.IsList a.od vs.toArray := PySem.IsL.isList (n := n) (N _ h1).1
  have e : (vs.toArray.size : Int) = (P.ord.length : Int) := by rw [List.size_toArray, h2.length]
  exact len_list hl (by rw [e]; omega) (by rw [e]; exact h _ _)
theorem st_oitem {value slice : PySem.Expr} {i n : Int} {ti : Tok} {Q : Value → Shared → Prop} (N : News h₀ L s.heap news) (hS : StAt w news a P) (h0 : 0 ≤ i) (hb : i < 1000) (hx : P.ord[i.toNat]? = some n) (h : ∀ t, Q (.int n t) s)
    (hs : subscripted slice false (.ref a.od) (.int i ti) = operate [.ref a.od, .int i ti] (getItem (.ref a.od) (.int i ti)) := by with_unfolding_all rfl) :
    wpAny (model prg w) A (subscriptTail value slice (.ref a.od) (.int i ti)) Q E s := by
  obtain ⟨vs, k, h1, h2⟩ := hS.o
  have hl : s.heap.IsList a.od vs.toArray := PySem.IsL.isList (n := k) (N _ h1).1
  have hlt : i.toNat < P.ord.length := by
    rcases Nat.lt_or_ge i.toNat P.ord.length with q | q
    · exact q
    · rw [List.getElem?_eq_none q] at hx; cases hx
  obtain ⟨t, ht⟩ := h2.get i.toNat n hx
  exact tail_any hl.typeIs slot_list_getitem.lookup (wpAny_getItem_list hl h0 (by omega) (by simpa using ht) (h t)) hs
end
noncomputable def TwoMid (h₀ : Heap) (L : Addr) (x1 x2 : Str) (Φ : Value → Value → Prop) (m : Str → Option Value) (news : List (Addr × Obj)) (s : Shared) (f : Flow) (s' : Shared) : Prop :=
  f = .next ∧ ∃ h tk v1 v2, s' = { s with heap := h, toks := tk } ∧ Fr h₀ L h (fun y => if y = x2 then some v2 else if y = x1 then some v1 else m y) ∧ News h₀ L h news ∧ Φ v1 v2
theorem two_cut (x1 x2 : Str) (Φ : Value → Value → Prop) (_F : Fr h₀ L s.heap m) (_N : News h₀ L s.heap news) (h1 : wpAny M A tr (TwoMid h₀ L x1 x2 Φ m news s) E s)
    (h2 : ∀ h tk v1 v2, Fr h₀ L h (fun y => if y = x2 then some v2 else if y = x1 then some v1 else m y) → News h₀ L h news → Φ v1 v2 → Q .next { s with heap := h, toks := tk }) : wpAny M A tr Q E s :=
  wpAny_mono h1 (fun f s' ⟨e, h, tk, v1, v2, e2, F, N, p⟩ => by subst e e2; exact h2 h tk v1 v2 F N p) fun _ _ x => x
noncomputable def NameLMid (h₀ : Heap) (L : Addr) (x : Str) (Φ : Value → List (Addr × Obj) → Prop) (m : Str → Option Value) (s : Shared) (f : Flow) (s' : Shared) : Prop :=
  f = .next ∧ ∃ h tk v nx, s' = { s with heap := h, toks := tk } ∧ Fr h₀ L h (fun y => if y = x then some v else m y) ∧ News h₀ L h nx ∧ Φ v nx
theorem nameL_cut (x : Str) (Φ : Value → List (Addr × Obj) → Prop) (_F : Fr h₀ L s.heap m) (h1 : wpAny M A tr (NameLMid h₀ L x Φ m s) E s)
    (h2 : ∀ h tk v nx, Fr h₀ L h (fun y => if y = x then some v else m y) → News h₀ L h nx → Φ v nx → Q .next { s with heap := h, toks := tk }) : wpAny M A tr Q E s :=
  wpAny_mono h1 (fun f s' ⟨e, h, tk, v, nx, e2, F, N, p⟩ => by subst e e2; exact h2 h tk v nx F N p) fun _ _ x => x
/-- what a statement leaves that goes on: frame and ledger with Φ -/
noncomputable def GMid (h₀ : Heap) (L : Addr) (Φ : (Str → Option Value) → List (Addr × Obj) → Prop) (s : Shared) (f : Flow) (s' : Shared) : Prop :=
  f = .next ∧ ∃ h tk m nx, s' = { s with heap := h, toks := tk } ∧ Fr h₀ L h m ∧ News h₀ L h nx ∧ Φ m nx
theorem g_cut (Φ : (Str → Option Value) → List (Addr × Obj) → Prop) (_F : Fr h₀ L s.heap m) (h1 : wpAny M A tr (GMid h₀ L Φ s) E s)
    (h2 : ∀ h tk m nx, Fr h₀ L h m → News h₀ L h nx → Φ m nx → Q .next { s with heap := h, toks := tk }) : wpAny M A tr Q E s :=
  wpAny_mono h1 (fun f s' ⟨e, h, tk, m, nx, e2, F, N, p⟩ => by subst e e2; exact h2 h tk m nx F N p) fun _ _ x => x
end
end Mine
end
section
open PySem PySem.W PySem.Calls PyProof.Rows
open Sem (wp)
set_option maxRecDepth 100000
namespace Mine
section
variable {prog : Program} {w : World} {A : Around} {E : Value → Shared → Prop} {s : Shared} {h₀ : Heap} {L : Addr} {m : Str → Option Value} {env : Env}
theorem comp_rest {elt : Expr} {x : Str} {scope : Scope} {cl : List (Str × Addr)} {S : List (Addr × Obj) → Prop} {P : Nat → Value → Prop} {Fin : List Value → List (Addr × Obj) → Prop} {news : List (Addr × Obj)} {n : Nat} (J : Nat → List Value → List (Addr × Obj) → Prop)
    (turn : ∀ i ys news v I oI C oC D m₂ h tk (E' : Value → Shared → Prop), i < n → P i v → J i ys news → LCg.NsObj oC m₂ → m₂ x = some v → Fr h₀ L h m → News h₀ L h ((I, oI) :: (C, oC) :: (D, LCg.lst ys) :: news) → LCg.Off3 I C D news → ((@Ne Nat I C) ∧ (@Ne Nat I D) ∧ (@Ne Nat C D)) →
      wpAny (model prog w) A (eval elt (compEnvC scope cl C env)) (LCg.CompEnd h₀ L m { s with heap := h, toks := tk } I oI C oC D (LCg.lst ys) S (fun y news' => J (i + 1) (ys ++ [y]) news')) E' { s with heap := h, toks := tk })
    (fin : ∀ ys news, J n ys news → Fin ys news) (h0 : J 0 [] news) : LCg.CompRest prog w A h₀ L m env elt x scope cl s S P Fin n 0 [] news := by
  have key : ∀ k i ys news, k + i = n → J i ys news → LCg.CompRest prog w A h₀ L m env elt x scope cl s S P Fin k i ys news := by
    intro k
    induction k with
    | zero =>
      intro i ys news e hj
      have e2 : i = n := by omega
      exact LCg.CompRest.zero (fin ys news (e2 ▸ hj))
    | succ k ih =>
      intro i ys news e hj
      refine LCg.CompRest.succ fun v I oI C oC D m₂ h tk E' hP hC hx F N off ne => ?_
      refine wpAny_mono (turn i ys news v I oI C oC D m₂ h tk E' (by omega) hP hj hC hx F N off ne) (fun y s₂ hp => ?_) fun _ _ e => e
      obtain ⟨h', tk', news', e1, F', N', off', hS, hj'⟩ := hp
      exact ⟨h', tk', news', e1, F', N', off', hS, ih (i + 1) _ _ (by omega) hj'⟩
  exact key n 0 [] news (by omega) h0
theorem lcx_cell {M : Model} {c C : Addr} {x : Str} {pos : Pos} {v : Value} {scope : Scope} {cl : List (Str × Addr)} {news : List (Addr × Obj)} {Q : Value → Shared → Prop} (N : News h₀ L s.heap news) (hC : CellS news c v) (hc : cl.lookup x = some c) (h : Q v s)
    (hk : (compEnvC scope cl C env).scope.kind = .function) (hx : (compEnvC scope cl C env).kindOf x = some .cell) (hb : (x == ("__debug__" : Str)) = false := by decide) :
    wpAny M A (eval (.Name x pos) (compEnvC scope cl C env)) Q E s := by
  obtain ⟨co, h1, h2⟩ := hC
  exact wpAny_Name (wpAny_loadName_cell hk hx hc ⟨co, N.get h1, h2⟩ h) hb
end
theorem off1_mem {D : Addr} : ∀ {l : List (Addr × Obj)}, LCg.Off1 D l → ∀ p ∈ l, @Ne Nat p.1 D
  | [], _, _, h => nomatch h
  | _ :: _, x, p, h => by
    rcases List.mem_cons.mp h with rfl | h
    · exact x.1
    · exact off1_mem x.2 p h
theorem Sep.toD {hi : Int} : ∀ {rs : List (Int × Int)} {lo : Int} {acc : List (Int × Int)}, Sep lo rs → -1 ≤ lo → (∀ p ∈ rs.getLast?, p.2 ≤ hi) → SepD lo acc → SepD (if rs = [] then lo else hi) (rs.reverse ++ acc)
  | [], lo, acc, _, _, _, h => by simpa using h
  | [(a, b)], lo, acc, ⟨h1, h2, _⟩, h0, hl, h => by
    rw [if_neg (List.cons_ne_nil _ _)]
    show SepD hi ((a, b) :: acc)
    refine ⟨by omega, h2, hl (a, b) rfl, ?_⟩
    cases acc with
    | nil => trivial
    | cons p r =>
      obtain ⟨c, d⟩ := p
      exact ⟨h.1, h.2.1, by have := h.2.2.1; omega, h.2.2.2⟩
  | (a, b) :: (c, d) :: r, lo, acc, ⟨h1, h2, h3⟩, h0, hl, h => by
    have hA : SepD b ((a, b) :: acc) := by
      refine ⟨by omega, h2, Int.le_refl _, ?_⟩
      cases acc with
      | nil => trivial
      | cons p r =>
        obtain ⟨c, d⟩ := p
        exact ⟨h.1, h.2.1, by have := h.2.2.1; omega, h.2.2.2⟩
    have := Sep.toD (hi := hi) h3 (by omega) (by rw [List.getLast?_cons_cons] at hl; exact hl) hA
    rw [if_neg (List.cons_ne_nil _ _)] at this ⊢
    rw [List.reverse_cons, List.append_assoc]
    exact this
theorem Inv.sepD {P : Pl} (h : Inv P) (hne : P.ord ≠ []) : ∃ p rv, P.rs.reverse = p :: rv ∧ SepD 16384 (p :: rv) ∧ p.2 = P.g + 1 := by
  have hr := h.greatest_in hne
  obtain ⟨q, hq, hq2⟩ := top_last (z := 0) hr
  have h1 := Sep.toD (hi := 16384) (acc := []) h.sep (by decide) (fun p hp => by
    have : p = q := Option.some.inj ((Option.mem_def.mp hp).symm.trans hq)
    have h3 := h.g1
    have h4 := h.top
    rw [this, hq2]; omega) trivial
  rw [if_neg hr, List.append_nil] at h1
  cases e : P.rs.reverse with
  | nil => exact absurd (by simpa using e) hr
  | cons p rv =>
    refine ⟨p, rv, rfl, e ▸ h1, ?_⟩
    have h5 : P.rs.reverse.head? = P.rs.getLast? := List.head?_reverse
    rw [e, hq] at h5
    have : p = q := Option.some.inj h5
    rw [this, hq2, h.top]
theorem LawS.keepB {h₀ h : Heap} {L x dx c : Addr} {w : World} {news news' : List (Addr × Obj)} {a : Ad} {P : Pl} {I : List Int} {pl : Nat} (hS : LawS w news c a P) (N : News h₀ L h news) (hB : BufAt w news x dx I pl) (h1 : @Ne Nat a.sd dx ∧ @Ne Nat a.dw dx ∧ @Ne Nat a.dq dx) (hk : ∀ p ∈ news, p.1 ≠ dx → p ∈ news') : LawS w news' c a P := by
  obtain ⟨od, hd, hc⟩ := hB.has
  obtain ⟨⟨hdS, hw, hq, ht, ho, ap⟩, ⟨co, h2, h3⟩, hi⟩ := hS
  have hb : But dx news news' := hk
  obtain ⟨t1, t2, t3, o, O, b1, b2, b3, b4⟩ := id hB
  have hcd : @Ne Nat c dx := fun e => by
    have := news_fun N h2 b2 e
    have e2 : co = bufD w.params o pl t1 t2 t3 := (Prod.mk.inj this).2
    rw [e2] at h3
    cases h3
  refine ⟨⟨hb.dict hdS h1.1, hb.win hw ?_ h1.2.1 ?_, QAt.keepD N hq hd hc h1.2.2 hk, hb.set ht ?_, hb.list ho ?_, ap⟩, ⟨co, hk _ h2 hcd, h3⟩, hi⟩
  · obtain ⟨t1, t2, t3, t4, t5, wo, w1, w2, w3, w4⟩ := hw
    exact news_neI N w1 hd rfl hc
  · obtain ⟨t1, t2, t3, t4, t5, wo, w1, w2, w3, w4⟩ := hw
    exact news_neT N w3 hd (set_cls w4) hc (by decide)
  · obtain ⟨to, t6, t7⟩ := ht
    exact news_neT N t6 hd (set_cls t7) hc (by decide)
  · obtain ⟨vs, k, l1, l2⟩ := ho
    exact news_neT N l1 hd rfl hc (by decide)
theorem LawS.dicts {c : Addr} {w : World} {news : List (Addr × Obj)} {a : Ad} {P : Pl} {dx : Addr} (hS : LawS w news c a P) (hd : ∀ p ∈ news, @LT.lt Nat _ p.1 dx) : @Ne Nat a.sd dx ∧ @Ne Nat a.dw dx ∧ @Ne Nat a.dq dx := by
  obtain ⟨⟨⟨t, so, h1, h2⟩, ⟨t1, t2, t3, t4, t5, wo, w1, w2, w3, w4⟩, ⟨t8, vq, nq, q1, q2, q3, q4⟩, _, _, _⟩, _, _⟩ := hS
  exact ⟨Nat.ne_of_lt (hd _ h1), Nat.ne_of_lt (hd _ w2), Nat.ne_of_lt (hd _ q2)⟩
theorem encs_len : ∀ (vs : List Int), (encs vs).length ≤ 2 * vs.length
  | [] => Nat.le_refl _
  | v :: r => by
    rw [encs_cons, List.length_append, List.length_cons]
    have := encs_len r
    have := (encV_len v).2
    omega
theorem gapsV_len : ∀ (s : Int) (rs : List (Int × Int)), (gapsV s rs).length = 2 * rs.length
  | _, [] => rfl
  | s, (a, b) :: r => by
    show (gapsV a r).length + 1 + 1 = 2 * (r.length + 1)
    rw [gapsV_len a r]; omega
theorem frame_len (p : Int × Int) (rv : List (Int × Int)) (k : Nat) : (encs (frameV p rv k)).length ≤ 8 + 4 * rv.length := by
  have h1 := encs_len (frameV p rv k)
  have h2 : (frameV p rv k).length = 4 + (gapsV p.1 (rv.take (k - 1))).length := by unfold frameV; simp only [List.length_cons]; omega
  rw [gapsV_len, List.length_take] at h2
  omega
theorem st_olast {w : World} {A : Around} {E : Value → Shared → Prop} {s : Shared} {h₀ : Heap} {L : Addr} {news : List (Addr × Obj)} {a : Ad} {P : Pl} {value slice : PySem.Expr} {n : Int} {ti : Tok} {Q : Value → Shared → Prop} (N : News h₀ L s.heap news) (hS : StAt w news a P) (hb : P.ord.length < 1000) (hx : P.ord.getLast? = some n) (h : ∀ t, Q (.int n t) s)
    (hs : subscripted slice false (.ref a.od) (.int (-1) ti) = operate [.ref a.od, .int (-1) ti] (getItem (.ref a.od) (.int (-1) ti)) := by with_unfolding_all rfl) :
    wpAny (model prg w) A (subscriptTail value slice (.ref a.od) (.int (-1) ti)) Q E s := by
  obtain ⟨vs, k, h1, h2⟩ := hS.o
  have hl : s.heap.IsList a.od vs.toArray := PySem.IsL.isList (n := k) (N _ h1).1
  have hne : P.ord ≠ [] := by rintro e; rw [e] at hx; simp at hx
  have hlt : 0 < P.ord.length := List.length_pos_iff.mpr hne
  have hlen := h2.length
  rw [List.getLast?_eq_getElem?] at hx
  obtain ⟨t, ht⟩ := h2.get _ n hx
  refine tail_any hl.typeIs slot_list_getitem.lookup (wpAny_getItem_list_neg hl (by decide) (by rw [List.size_toArray]; omega) (by decide) ?_ (h t)) hs
  have : (-1 + (vs.toArray.size : Int)).toNat = P.ord.length - 1 := by rw [List.size_toArray]; omega
  rw [this]; simpa using ht
theorem Sep.below : ∀ {rs : List (Int × Int)} {lo : Int}, Sep lo rs → ∀ p ∈ rs, p.2 ≤ Mine.top lo rs
  | [], _, _, p, hp => by cases hp
  | (a, b) :: r, lo, ⟨h1, h2, h3⟩, p, hp => by
    show p.2 ≤ Mine.top b r
    rcases List.mem_cons.mp hp with rfl | hp
    · have := top_sep h3; omega
    · exact Sep.below h3 p hp
theorem Inv.bnd {P : Pl} (h : Inv P) {p : Int × Int} (hp : p ∈ P.rs) : 0 ≤ p.1 ∧ p.1 < p.2 ∧ p.2 ≤ 16384 := by
  have h1 := Sep.above h.sep p hp
  have h2 := Sep.below h.sep p hp
  have h3 := h.top
  have h4 := h.g1
  have e : Mine.top (-1) P.rs = Mine.top 0 P.rs := by
    cases e : P.rs with
    | nil => rw [e] at hp; cases hp
    | cons q r => rfl
  rw [e, h3] at h2
  omega
theorem Inv.has {P : Pl} (h : Inv P) {p : Int × Int} (hp : p ∈ P.rs) {n : Int} (h1 : p.1 ≤ n) (h2 : n < p.2) : (!P.St n) = false := by
  have h3 : inR P.rs n = true := by
    unfold inR
    exact List.any_eq_true.mpr ⟨p, hp, by simp [h1, h2]⟩
  rw [(h.mem n).mpr (h.sub n h3)]
  rfl
theorem news_up3 {h₀ h : Heap} {L : Addr} {x y z : Addr × Obj} {n : List (Addr × Obj)} (_N : News h₀ L h (x :: y :: z :: n)) : ∀ p ∈ n, p ∈ x :: y :: z :: n := fun _ hp => .tail _ (.tail _ (.tail _ hp))
theorem rsize {b : Int} (h : 0 ≤ b) : Builtin.Range.rangeSize 0 b 1 = ((b.toNat : Nat) : Int) := by rw [rangeSize_one]; split <;> omega
end Mine
end
section
open PySem PySem.W PySem.Calls PyProof.Rows PySem.SeqAt
open Sem (wp)
set_option maxRecDepth 100000
namespace Mine
/-- a list's iterator at its start -/
abbrev litO (l : Addr) : Obj := { cls := .type "list_iterator", data := .fields #[.ref l, .int 0 0] }
theorem range_eq_meets (a b : Addr) (lo hi : Int) (t u k t' u' k' : Tok) : Meets (Builtin.«range.__eq__» ⟨[.ref a, .ref b], []⟩)
    (fun _ R s => s.heap.get? a = some (rngO lo hi t u k) ∧ s.heap.get? b = some (rngO lo hi t' u' k') ∧ R (.ok (.ret (.bool true))) s) := by
  refine .of_wp fun prog w A R s ⟨ha, hb, h⟩ => ?_
  have hT : s.TypeIs (.ref b) "range" := ⟨_, hb, rfl⟩
  obtain ⟨hp, g, d, tk, os⟩ := s
  have e : (Builtin.Range.rangeSize lo hi 1 == Builtin.Range.rangeSize lo hi 1 && (Builtin.Range.rangeSize lo hi 1 == 0 || (lo == lo && (Builtin.Range.rangeSize lo hi 1 == 1 || (1 : Int) == 1)))) = true := by simp
  repeat (any_goals (first | assumption | with_reducible refine wpAny_field ha rfl rfl ?_ | with_reducible refine wpAny_field hb rfl rfl ?_ | wp_step))
  exact ⟨.bool true, by rw [e], h⟩
section
variable {prog : Program} {w : World} {A : Around} {E : Value → Shared → Prop} {s : Shared} {h₀ : Heap} {L : Addr} {m : Str → Option Value} {news : List (Addr × Obj)}
theorem rng_eqAt {a b : Addr} {lo hi : Int} {t u k t' u' k' : Tok} (N : News h₀ L s.heap news) (ha : (a, rngO lo hi t u k) ∈ news) (hb : (b, rngO lo hi t' u' k') ∈ news) (hu : A.units < cLine) : EqAt A s (.ref a) (.ref b) true := by
  by_cases hab : @Eq Nat a b
  · have : a = b := hab
    subst this
    exact EqAt.same _
  · refine EqAt.of_refs hab fun prog w E Q h => ?_
    exact richCompare_meets_room (op := .Eq) ⟨_, (N _ ha).1, rfl⟩ ⟨_, (N _ hb).1, rfl⟩ PySem.F.slot_range_eq PySem.F.entry_range_eq (PySem.F.args_range_eq_2 _ _) (range_eq_meets a b lo hi t u k t' u' k')
      ⟨(N _ ha).1, (N _ hb).1, show Value.bool true ≠ Value.notImplemented ∧ Q (.bool true) s from ⟨(fun x => nomatch x), h⟩⟩ hu
theorem RngsAt.eqs {A : Around} (N : News h₀ L s.heap news) (hu : A.units < cLine) : ∀ {vs ws : List Value} {rs : List (Int × Int)}, RngsAt news vs rs → RngsAt news ws rs → ∀ j (h1 : j < vs.length) (h2 : j < ws.length), EqAt A s vs[j] ws[j] true
  | [], _, _, _, _, j, h1, _ => absurd h1 (Nat.not_lt_zero _)
  | _ :: _, [], _, _, _, j, _, h2 => absurd h2 (Nat.not_lt_zero _)
  | v :: vs, x :: ws, [], h, _, _, _, _ => h.elim
  | v :: vs, x :: ws, p :: rs, ⟨⟨a, t, u, k, e1, m1⟩, h1⟩, ⟨⟨b, t', u', k', e2, m2⟩, h2⟩, j, l1, l2 => by
    cases j with
    | zero => subst e1 e2; exact rng_eqAt N m1 m2 hu
    | succ j => exact RngsAt.eqs N hu h1 h2 j (Nat.lt_of_succ_lt_succ l1) (Nat.lt_of_succ_lt_succ l2)
theorem rl_eq {l l2 : Addr} {vs ws : List Value} {n n2 : Nat} {rs : List (Int × Int)} {Q : Value → Shared → Prop} (N : News h₀ L s.heap news) (hl : (l, listOf vs.toArray n) ∈ news) (hl2 : (l2, listOf ws.toArray n2) ∈ news) (hR : RngsAt news vs rs) (hR2 : RngsAt news ws rs)
    (hu : A.units < cLine) (hu1 : A.in1.units < cLine) (h : Q (.bool true) s) : wpAny (model prog w) A (compareOp .Eq (.ref l) (.ref l2)) Q E s := by
  have e : (List.range vs.toArray.size).all (fun _ => true) = true := by simp
  refine cmp_ofEq (RcAt.lists (e := fun _ => true) (PySem.IsL.isList (n := n) (N _ hl).1) (PySem.IsL.isList (n := n2) (N _ hl2).1) (by simp [hR.len, hR2.len]) hu (fun j h1 h2 => ?_) prog w E Q (by rw [e]; exact h))
  exact RngsAt.eqs N hu1 hR hR2 j (by simpa using h1) (by simpa using h2)
theorem call_iter_l {l : Addr} {vs : List Value} {n : Nat} {Q : Value → Shared → Prop} (F : Fr h₀ L s.heap m) (N : News h₀ L s.heap news) (hl : (l, listOf vs.toArray n) ∈ news)
    (h : ∀ h' it, Fr h₀ L h' m → News h₀ L h' ((it, litO l) :: news) → (∀ p ∈ news, p.1 < it) → Q (.ref it) { s with heap := h' }) :
    wpAny (model prog w) A (call (.builtin "iter") [.ref l]) Q E s := by
  have hls : s.heap.IsList l vs.toArray := ⟨_, (N _ hl).1, rfl, n, rfl⟩
  refine call_function_entry (by decide +kernel) (by decide +kernel) kdk_entry_iter (kdk_args_iter _) ?_
  unfold Builtin.«iter»
  refine wpAny_bind (m := someArgs "iter" 1 2 _) (wpAny_of_eq (a := [Value.ref l]) (by first | rfl | kernel_rfl!) ?_)
  show wpAny _ _ (pyIter (.ref l) >>= _) _ _ _
  refine wpAny_bind (wpAny_pyIter_list hls ?_)
  exact wpAny_pure ⟨_, rfl, h _ _ (F.push _) (N.push F _) fun p hp => Heap.lt_size (N p hp).1⟩
theorem it_next {M : Model} {it l : Addr} {Q : Value → Shared → Prop} (N : News h₀ L s.heap news) (hi : (it, litO l) ∈ news) (h : Q (.ref it) s) : OwitIt M A Q E (.ref it) s := by
  unfold OwitIt
  have hT : s.TypeIs (.ref it) "list_iterator" := ⟨_, (N _ hi).1, rfl⟩
  have hl : typeLookup (.type "list_iterator") "__next__" = pure (some (.builtin "list_iterator.__next__")) := by rw [typeLookup_type, builtinLookup_eq_fast]; kernel_rfl
  exact wpAny_specialOf hT hl h
variable {env : Env} {x : Str} {body : List Stmt}
/-- a loop over a list of the ledger whose iterator stands -/
theorem loopL {l it : Addr} {vs : List Value} {nn : Nat} {m₀ : Str → Option Value} {Q : Flow → Shared → Prop} (J : Nat → (Str → Option Value) → List (Addr × Obj) → Prop)
    (hh : A.handled = none) (hl : (l, listOf vs.toArray nn) ∈ news) (F : Fr h₀ env.locals s.heap m₀) (N : News h₀ env.locals s.heap ((it, litO l) :: news)) (hd0 : ∀ p ∈ news, p.1 ≠ it) (hj : J 0 m₀ news) (hJl : ∀ i m nx, J i m nx → (l, listOf vs.toArray nn) ∈ nx)
    (turn : ∀ i v m₁ news₁ h tk o, vs[i]? = some v → J i m₁ news₁ → (∀ p ∈ news₁, p.1 ≠ it) → o.cls = .type "list_iterator" → Fr h₀ env.locals h (fun y => if y = x then some v else m₁ y) → News h₀ env.locals h ((it, o) :: news₁) →
      wpAny (model prog w) A (execs body env) (TurnPost h₀ env.locals it o (J (i + 1)) Q { s with heap := h, toks := tk }) E { s with heap := h, toks := tk })
    (done : ∀ m₁ news₁ h tk, J vs.length m₁ news₁ → Fr h₀ env.locals h m₁ → News h₀ env.locals h news₁ → Q .next { s with heap := h, toks := tk }) :
    LoopAtV prog w A h₀ env x body Q E (.ref it) s := by
  have N0 : News h₀ env.locals s.heap news := fun p hp => N p (.tail _ hp)
  have hit := N _ (.head _)
  have hol : s.heap.get? l = some (listOf vs.toArray nn) := (N0 _ hl).1
  have hls : s.heap.IsList l vs.toArray := ⟨_, hol, rfl, nn, rfl⟩
  have hne : l ≠ it := hd0 _ hl
  have W := Walks.list (prog := prog) (w := w) hh it l hne vs.toArray
  have hlen : vs.toArray.size = vs.length := by simp
  rw [hlen] at W
  refine ⟨_, _, _, vs.length, _, _, m₀, news, J, rfl, W, ?_, ?_, ?_, ⟨⟨_, hit.1, rfl, rfl⟩, hls⟩, F, N0, hj, ?_, ?_⟩
  · intro hm
    rcases List.mem_cons.mp hm with e | hm
    · exact hit.2.1 e.symm
    · exact (N0 _ hl).2.1 ((List.mem_singleton.mp hm).symm)
  · intro b hb
    rw [List.mem_singleton.mp hb]
    exact hit.2.2
  · intro p hp hI
    exact hd0 p hp (List.mem_singleton.mp hI)
  · rintro i v m₁ news₁ s₁ own ⟨hh', tk', rfl⟩ hin hP hJ hoff hown hget hfp hst F₁ N₁
    have hv : vs[i]? = some v := by simpa using hP
    obtain ⟨o, ho, hoc⟩ : ∃ o, hh'.get? it = some o ∧ o.cls = .type "list_iterator" := by obtain ⟨⟨o, ho, hc, _⟩, _⟩ := hst; exact ⟨o, ho, hc⟩
    have hmem : (it, o) ∈ own := hfp _ (by simp) hit.2.2 o ho
    have hl₁ := hJl i m₁ news₁ hJ
    have hlo : hh'.get? l = some (listOf vs.toArray nn) := (N₁ _ (List.mem_append.mpr (.inr hl₁))).1
    have N₂ : News h₀ env.locals hh' ((it, o) :: news₁) := fun p hp => by
      rcases List.mem_cons.mp hp with rfl | hp
      · exact N₁ _ (List.mem_append_left _ hmem)
      · exact N₁ _ (List.mem_append_right _ hp)
    have hd : ∀ p ∈ news₁, p.1 ≠ it := fun p hp e => hoff p hp (by simp [e])
    refine wpAny_mono (turn i v m₁ news₁ hh' tk' o hv hJ hd hoc F₁ N₂) (fun f s₂ p => ?_) fun _ _ e => e
    have fin : TurnEnd h₀ env.locals it o (J (i + 1)) { s with heap := hh', toks := tk' } s₂ → LoopStepU h₀ env.locals [it] own (J (i + 1)) { s with heap := hh', toks := tk' } .next s₂ := by
      rintro ⟨h', tk, m', nx, e, F', N', hn, hj'⟩
      refine ⟨rfl, h', tk, m', nx, e, F', fun p hp => ?_, fun p hp q => hn p hp (List.mem_singleton.mp q), hj'⟩
      rcases List.mem_append.mp hp with h | h
      · rcases List.mem_cons.mp (hown p h) with h2 | h2
        · have h3 : hh'.get? p.1 = some p.2 := hget p h
          rw [h2, ho] at h3
          have : p = (it, o) := Prod.ext h2 (Option.some.inj h3).symm
          exact this ▸ N' _ (.head _)
        · have h1 := List.mem_singleton.mp h2
          have h3 : hh'.get? p.1 = some p.2 := hget p h
          rw [h1, hlo] at h3
          have : p = (l, listOf vs.toArray nn) := Prod.ext h1 (Option.some.inj h3).symm
          exact this ▸ N' _ (.tail _ (hJl _ _ _ hj'))
      · exact N' p (.tail _ h)
    cases f with
    | ret v => exact .ret p
    | brk => exact .brk p
    | next => exact .next (fin p)
    | cont => exact .cont (fin p)
  · rintro h' tk m' news' F' N' _ hJ
    exact done m' news' h' tk hJ F' N'
end
end Mine
end
section
open PySem PySem.W PySem.Calls PyProof.Rows
open Sem (wp)
set_option maxRecDepth 100000
namespace Mine
section
variable {M : Model} {A : Around} {E : Value → Shared → Prop} {s : Shared} {env : Env} {K : Frag}
theorem P_callWith_KW0 {pos : Pos} {f : Value} {first : List Value} {Q : Value → Shared → Prop} {kws : List Keyword} (hk : keepIn K f = true) (hall : (backToKw pos (keywordEach kws env)).all (·.1.isSome) = true)
    (h : wpAny M A (evalAll ((backToKw pos (keywordEach kws env)).map (·.2))) (fun ks s₂ => K.In s₂.heap ∧ wpP M A (call f (first ++ []) (((backToKw pos (keywordEach kws env)).filterMap (·.1)).zip ks)) Q E s₂) E s)
    (hplain : ((backTo pos (starEach [] env)).any (·.1) || (backToKw pos (keywordEach kws env)).any (·.1.isNone)) = false := by rfl) :
    wpP M A (callWith pos f first (backTo pos (starEach [] env)) (backToKw pos (keywordEach kws env))) Q E s :=
  P_callWith_of hplain (keeps_K hk) (wpP_any (evalArgs_kw2_nil hall h))
theorem P_callWith_K1 {pos : Pos} {f : Value} {first : List Value} {Q : Value → Shared → Prop} {e : PySem.Expr} (hk : keepIn K f = true)
    (h : wpP M A (eval e env) (fun v s₁ => K.In s₁.heap ∧ wpP M A (call f (first ++ [v]) []) Q E s₁) E s) (he : starEach [e] env = [(false, eval e env)] := by rfl) :
    wpP M A (callWith pos f first (backTo pos (starEach [e] env)) (backToKw pos (keywordEach [] env))) Q E s := by
  rw [he]
  exact P_callWith_of (P := fun h => K.In h) rfl (keeps_K hk) (P_evalArgs_1 h)
theorem P_Subscript {value slice : PySem.Expr} {pos : Pos} {Q : Value → Shared → Prop}
    (h : wpP M A (eval value env) (fun o s₁ => wpAny M A (eval slice env) (fun i s₂ => wpAny M A (subscriptTail value slice o i) Q E s₂) E s₁) E s) : wpP M A (eval (.Subscript value slice pos) env) Q E s := by
  rw [arm_eval_Subscript]
  refine wpP_bind (wpP_mono h (fun o s₁ h₁ => ?_) fun _ _ x => x)
  refine wpP_any ?_
  refine wpAny_bind (wpAny_holding (wpAny_mono h₁ (fun i s₂ h₂ => ?_) fun _ _ x => x))
  exact wpAny_bind (wpAny_standAt h₂)
end
end Mine
end
section
open PySem PySem.W PySem.Calls PyProof PyProof.Rows PySem.SeqAt
open Sem (wp)
set_option maxRecDepth 100000
namespace Mine
section
variable {prog : Program} {w : World} {A : Around} {E : Value → Shared → Prop} {s : Shared} {h₀ : Heap} {L : Addr} {m : Str → Option Value} {env : Env}
/-- a list's iterator, just made, that a comprehension is to walk -/
noncomputable def CompIt (prog : Program) (w : World) (A : Around) (h₀ : Heap) (L : Addr) (m : Str → Option Value) (env : Env) (elt : Expr) (x : Str) (scope : Scope) (cl : List (Str × Addr)) (Fin : Shared → List Value → List (Addr × Obj) → Prop) (itv : Value) (s₂ : Shared) : Prop :=
  ∃ (l I : Addr) (vs : List Value) (n : Nat) (news : List (Addr × Obj)), itv = .ref I ∧ A.handled = none ∧ Fr h₀ L s₂.heap m ∧ News h₀ L s₂.heap ((I, litO l) :: news) ∧ (∀ p ∈ news, p.1 < I) ∧ (l, listOf vs.toArray n) ∈ news ∧ vs.toArray.size ≤ sizeLine ∧
    LCg.CompRest prog w A h₀ L m env elt x scope cl s₂ (LCg.SrcAt h₀ l vs.toArray) (fun i v => vs.toArray[i]? = some v) (Fin s₂) vs.toArray.size 0 [] news
theorem ListComp_Q {elt iter : Expr} {x : Str} {px : Pos} {scope : Scope} {cl : List (Str × Addr)} {pos : Pos} {Q : Value → Shared → Prop} (_F : Fr h₀ L s.heap m)
    (hclos : closureFor scope env = pure cl) (hcell : ∀ y ∈ scope.names, y.2 ≠ .cell) (hkind : scope.kind = .function)
    (hnames : ∀ y ∈ scope.names, y.2 = .local → scope.names.lookup y.1 = some .local) (hx : scope.names.lookup x = some .local)
    (h : wpAny (model prog w) A (eval iter env) (fun xv s₁ => wpAny (model prog w) A (pyIter xv) (CompIt prog w A h₀ L m env elt x scope cl (fun s₂ => LCg.FinE h₀ L m s₂ Q)) E s₁) E s)
    (hs : ∀ x, foldedSetIterable iter env x = pure x := by intro _; rfl) :
    wpAny (model prog w) A (eval (.ListComp elt [⟨.Name x px, iter, [], 0⟩] scope pos) env) Q E s := by
  rw [eval_ListComp]
  refine wpAny_comprehension_free (use := none) rfl hs hclos hkind hnames (wpAny_mono h (fun xv s₁ h₁ => wpAny_mono h₁ (fun it s₂ h₂ => ?_) fun _ _ e => e) fun _ _ e => e)
  obtain ⟨l, I, vs, n, news, rfl, hh, F, N, lt, hl, hsz, R⟩ := h₂
  have hIt := N _ (.head _)
  have N0 : News h₀ L s₂.heap news := fun p hp => N p (.tail _ hp)
  have hlg := (N0 _ hl).1
  have off : ∀ p ∈ news, p.1 ≠ I := fun p hp => Nat.ne_of_lt (lt p hp)
  refine LCg.block_U (Walks.list hh I l (off _ hl) vs.toArray) hsz (fun i h st => by obtain ⟨o, e, _⟩ := st.1; exact ⟨o, e⟩) LCg.list_st hcell hkind hx ⟨⟨_, hIt.1, rfl, rfl⟩, ⟨_, hlg, rfl, n, rfl⟩⟩ (fun b hb => ?_)
    F N0 (fun e => hIt.2.1 e.symm) hIt.2.2 off (.inr ⟨_, hl, rfl, n, rfl⟩) R ?_
  · rcases List.mem_cons.mp hb with rfl | hb
    · exact Heap.lt_size hIt.1
    · rw [List.mem_singleton.mp hb]; exact Heap.lt_size hlg
  · intro D C h tk m' ys news' F' N' o1 hn hC₀ hD₀ hCL hDL hCD offC fin
    refine ⟨m', hn, fun h'' hs'' => fin D h'' tk (F'.change hs'' hCL hC₀) (fun p hp => ?_) o1⟩
    refine ⟨hs''.extBut _ _ ?_ (N' p hp).1, (N' p hp).2⟩
    rcases List.mem_cons.mp hp with rfl | hp
    · exact Ne.symm hCD
    · exact offC p hp
/-- values that are pairs of ints of the ledger -/
noncomputable def TupsAt (news : List (Addr × Obj)) (vs : List Value) (rs : List (Int × Int)) : Prop :=
  vs.length = rs.length ∧ ∀ (i : Nat) (v : Value) (p : Int × Int), vs[i]? = some v → rs[i]? = some p → ∃ (T : Addr) (t u : Tok) (n : Nat), v = .ref T ∧ (T, ({ cls := .type "tuple", data := .seq #[.int p.1 t, .int p.2 u] n } : Obj)) ∈ news
theorem TupsAt.nil {news : List (Addr × Obj)} : TupsAt news [] [] := ⟨rfl, fun i v p h => by simp at h⟩
theorem TupsAt.sub {news news' : List (Addr × Obj)} {vs : List Value} {rs : List (Int × Int)} (h : TupsAt news vs rs) (hs : ∀ p ∈ news, p ∈ news') : TupsAt news' vs rs :=
  ⟨h.1, fun i v p h1 h2 => by obtain ⟨T, t, u, n, e, hm⟩ := h.2 i v p h1 h2; exact ⟨T, t, u, n, e, hs _ hm⟩⟩
theorem TupsAt.snoc {news : List (Addr × Obj)} {vs : List Value} {rs : List (Int × Int)} {T : Addr} {lo hi : Int} {t u : Tok} {n : Nat} (h : TupsAt news vs rs) (hm : (T, ({ cls := .type "tuple", data := .seq #[.int lo t, .int hi u] n } : Obj)) ∈ news) :
    TupsAt news (vs ++ [.ref T]) (rs ++ [(lo, hi)]) := by
  refine ⟨by simp [h.1], fun i v p h1 h2 => ?_⟩
  by_cases hi' : i < vs.length
  · rw [List.getElem?_append_left hi'] at h1
    rw [List.getElem?_append_left (h.1 ▸ hi')] at h2
    exact h.2 i v p h1 h2
  · rw [List.getElem?_append_right (by omega)] at h1
    rw [List.getElem?_append_right (by have := h.1; omega)] at h2
    have e1 : i - vs.length = 0 := by
      cases e : i - vs.length with
      | zero => rfl
      | succ k => rw [e] at h1; simp at h1
    rw [e1] at h1
    rw [← h.1, e1] at h2
    cases h1
    cases h2
    exact ⟨T, t, u, n, rfl, hm⟩
theorem TupsAt.drop {news : List (Addr × Obj)} {vs : List Value} {rs : List (Int × Int)} (h : TupsAt news vs rs) (k : Nat) : TupsAt news (vs.drop k) (rs.drop k) :=
  ⟨by simp [h.1], fun i v p h1 h2 => h.2 (k + i) v p (by rwa [List.getElem?_drop] at h1) (by rwa [List.getElem?_drop] at h2)⟩
abbrev prd (p : Int × Int) : PyData := .tuple [.int p.1, .int p.2]
theorem prd_can : ∀ rs : List (Int × Int), PyData.canLayAll0 (rs.map prd) = true
  | [] => rfl
  | p :: rs => by
    have h : PyData.canLayAll0 (prd p :: rs.map prd) = ((prd p).canLay0 && PyData.canLayAll0 (rs.map prd)) := rfl
    show PyData.canLayAll0 (prd p :: rs.map prd) = true
    rw [h, prd_can rs]; rfl
theorem prd_shaped (rs : List (Int × Int)) : shaped (.list (rs.map prd)) = true := by
  have d : ∀ rs : List (Int × Int), PyData.depthAll (rs.map prd) ≤ 2 := by
    intro rs
    induction rs with
    | nil => exact Nat.zero_le _
    | cons p rs ih => exact Nat.max_le.mpr ⟨Nat.le_of_ble_eq_true rfl, ih⟩
  have h : shaped (.list (rs.map prd)) = (PyData.canLayAll0 (rs.map prd) && decide (PyData.depthAll (rs.map prd) + 1 ≤ 64)) := rfl
  rw [h, prd_can rs]
  have := d rs
  simp only [Bool.true_and, decide_eq_true_eq]
  omega
theorem TupsAt.reads {news : List (Addr × Obj)} {h : Heap} (hn : ∀ p ∈ news, h.get? p.1 = some p.2) : ∀ {vs : List Value} {rs : List (Int × Int)}, TupsAt news vs rs → ∃ as, ReadsAll h vs (rs.map prd) as
  | [], [], _ => ⟨[], .nil⟩
  | v :: vs, p :: rs, ⟨hl, hg⟩ => by
    obtain ⟨T, t, u, n, rfl, hm⟩ := hg 0 v p rfl rfl
    obtain ⟨as, r⟩ := TupsAt.reads hn (vs := vs) (rs := rs) ⟨by simpa using hl, fun i v p h1 h2 => hg (i + 1) v p h1 h2⟩
    exact ⟨_, .cons (reads_tuple_at (hn _ hm) rfl rfl (.cons (.int _ _) (.cons (.int _ _) .nil))) r⟩
  | [], _ :: _, ⟨hl, _⟩ => nomatch hl
  | _ :: _, [], ⟨hl, _⟩ => nomatch hl
theorem tups_ne {a b : Addr} {xs ys : List Value} {n k : Nat} {rs : List (Int × Int)} {news : List (Addr × Obj)} {Q : Value → Shared → Prop} (N : News h₀ L s.heap news) (ha : (a, listOf xs.toArray n) ∈ news) (hb : (b, listOf ys.toArray k) ∈ news)
    (h1 : TupsAt news xs rs) (h2 : TupsAt news ys rs) (hu : A.units + 64 < cLine) (h : Q (.bool false) s) : wpAny (model prog w) A (compareOp .NotEq (.ref a) (.ref b)) Q E s := by
  obtain ⟨as, ra⟩ := h1.reads fun p hp => (N p hp).1
  obtain ⟨bs, rb⟩ := h2.reads fun p hp => (N p hp).1
  exact ne_dataH (reads_list_at (N _ ha).1 rfl rfl ra) (reads_list_at (N _ hb).1 rfl rfl rb) (prd_shaped rs) (prd_shaped rs) hu (by rw [eqv_refl _ (canLay_of_shaped (prd_shaped rs))]; exact h)
/-- the last k of a list of pairs, by a slice -/
theorem slice_tups {value slice : PySem.Expr} {l : Addr} {ys : List Value} {n k : Nat} {news : List (Addr × Obj)} {lo : Int} {t : Tok} {Q : Value → Shared → Prop} (F : Fr h₀ L s.heap m) (N : News h₀ L s.heap news) (hl : (l, listOf ys.toArray n) ∈ news)
    (hlo : lo = -(k : Int)) (hk : 0 < k) (hz : ys.length ≤ 64) (hs : subscripted slice false (.ref l) (.ref s.heap.objs.size) = operate [.ref s.heap.objs.size, .ref l] (getItem (.ref l) (.ref s.heap.objs.size)))
    (h : ∀ D h', Fr h₀ L h' m → News h₀ L h' ((D, listOf (ys.drop (ys.length - k)).toArray 0) :: news) → Q (.ref D) { s with heap := h' }) :
    wpAny (model prog w) A (subscriptTail value slice (.ref l) (.ref s.heap.objs.size)) Q E { s with heap := s.heap.push { cls := .type "slice", data := .fields #[.int lo t, .none, .none] } } := by
  refine kba_turn (value' := PySem.Expr.Name (PySem.Str.ofString "l") ⟨0, 0, 0, 0⟩) (fun _ => rfl) ?_
  refine kms_slice_lit (its := ys.toArray) (lo := some lo) (hi := none) (zs := ys.drop (ys.length - k)) F N ⟨_, (N _ hl).1, rfl, n, rfl⟩ (.int _ _) .none ?_ (fun D h' F' N' _ => h D h' F' N') hs (fun _ => rfl) (by rw [sizeLine_eq, List.size_toArray]; omega)
  show kms_pick ys (some lo) none = _
  have h1 : kms_lo (some lo) ys.length = ys.length - k := by
    subst hlo
    show (if -(k : Int) < 0 then ys.length - (- -(k : Int)).toNat else _) = _
    rw [if_pos (by omega)]
    omega
  unfold kms_pick
  rw [h1]
  exact List.take_of_length_le (by rw [List.length_drop]; exact Nat.le_refl _)
end
theorem tail_drop {rs rv : List (Int × Int)} {pp : Int × Int} {k : Nat} (h : rs.reverse = pp :: rv) : ((pp :: rv).take k).reverse = rs.drop (rs.length - k) := by
  rw [← h, List.reverse_take, List.reverse_reverse, List.length_reverse]
section
variable {prog : Program} {w : World} {A : Around} {E : Value → Shared → Prop} {s : Shared} {h₀ : Heap} {L : Addr} {m : Str → Option Value} {env : Env}
/-- the pairs (start, stop) of the ranges of a set, as a comprehension makes them -/
theorem pairs_it {elt : Expr} {x : Str} {scope : Scope} {cl : List (Str × Addr)} {Q : Value → Shared → Prop} {l I : Addr} {vs : List Value} {n : Nat} {news : List (Addr × Obj)} {rs : List (Int × Int)} (hh : A.handled = none)
    (F : Fr h₀ L s.heap m) (N : News h₀ L s.heap ((I, litO l) :: news)) (lt : ∀ p ∈ news, p.1 < I) (hl : (l, listOf vs.toArray n) ∈ news) (hR : RngsAt news vs rs) (hln : rs.length ≤ 64)
    (turn : ∀ (lo hi : Int) (ra : Addr) (t u k : Tok) (ys : List Value) (nx : List (Addr × Obj)) (I : Addr) (oI : Obj) (C : Addr) (oC : Obj) (D : Addr) (m₂ : Str → Option Value) (h : Heap) (tk : Nat) (P E' : Value → Shared → Prop),
      LCg.NsObj oC m₂ → m₂ x = some (.ref ra) → (ra, rngO lo hi t u k) ∈ (I, oI) :: (C, oC) :: (D, LCg.lst ys) :: nx → Fr h₀ L h m → News h₀ L h ((I, oI) :: (C, oC) :: (D, LCg.lst ys) :: nx) →
      (∀ (h' : Heap) (tk' : Nat) (T : Addr) (t' u' : Tok), Fr h₀ L h' m → News h₀ L h' ((T, ({ cls := .type "tuple", data := .seq #[.int lo t', .int hi u'] 0 } : Obj)) :: (I, oI) :: (C, oC) :: (D, LCg.lst ys) :: nx) →
        (∀ p ∈ (I, oI) :: (C, oC) :: (D, LCg.lst ys) :: nx, @LT.lt Nat _ p.1 T) → P (.ref T) { s with heap := h', toks := tk' }) →
      wpAny (model prog w) A (eval elt (compEnvC scope cl C env)) P E' { s with heap := h, toks := tk })
    (fin : ∀ (D : Addr) (ys : List Value) (nx : List (Addr × Obj)) (h : Heap) (tk : Nat), TupsAt nx ys rs → (∀ p ∈ news, p ∈ nx) → Fr h₀ L h m → News h₀ L h ((D, LCg.lst ys) :: nx) → Q (.ref D) { s with heap := h, toks := tk }) :
    CompIt prog w A h₀ L m env elt x scope cl (fun s₂ => LCg.FinE h₀ L m s₂ Q) (.ref I) s := by
  have hsz : vs.toArray.size = rs.length := by simp [hR.len]
  refine ⟨l, I, vs, n, news, rfl, hh, F, N, lt, hl, by rw [sizeLine_eq]; omega, ?_⟩
  refine comp_rest (fun i ys nx => (∀ p ∈ news, p ∈ nx) ∧ TupsAt nx ys (rs.take i)) ?_ ?_ ⟨fun p hp => hp, by rw [List.take_zero]; exact .nil⟩
  · rintro i ys nx v I oI C oC D m₂ h tk E' hi hv ⟨hu, hT⟩ hC hx F' N' off ne
    obtain ⟨lo, hi2, ra, t, u, k, hrs, rfl, hm⟩ := hR.getv (by simpa using hv)
    refine turn lo hi2 ra t u k ys nx I oI C oC D m₂ h tk _ E' hC hx (.tail _ (.tail _ (.tail _ (hu _ hm)))) F' N' fun h' tk' T t' u' F2 N2 l2 => ?_
    refine LCg.CompEnd.intro F2 N2 ((T, ({ cls := .type "tuple", data := .seq #[.int lo t', .int hi2 u'] 0 } : Obj)) :: nx) (fun p hp => ?_) ⟨⟨Ne.symm (Nat.ne_of_lt (l2 _ (.head _))), Ne.symm (Nat.ne_of_lt (l2 _ (.tail _ (.head _)))), Ne.symm (Nat.ne_of_lt (l2 _ (.tail _ (.tail _ (.head _)))))⟩, off⟩
      (.inr ⟨_, .tail _ (hu _ hl), rfl, n, rfl⟩) ⟨fun p hp => .tail _ (hu p hp), ?_⟩
    · rcases List.mem_cons.mp hp with rfl | hp
      · exact .tail _ (.head _)
      rcases List.mem_cons.mp hp with rfl | hp
      · exact .tail _ (.tail _ (.head _))
      rcases List.mem_cons.mp hp with rfl | hp
      · exact .tail _ (.tail _ (.tail _ (.head _)))
      rcases List.mem_cons.mp hp with rfl | hp
      · exact .head _
      exact .tail _ (.tail _ (.tail _ (.tail _ hp)))
    · rw [List.take_add_one, hrs]
      exact (hT.sub fun p hp => .tail _ hp).snoc (.head _)
  · rintro ys nx ⟨hu, hT⟩
    rw [hsz, List.take_length] at hT
    intro D h tk F' N' o
    exact fin D ys nx h tk hT hu F' N'
end
end Mine
end
section
open PySem PySem.W PySem.W.X PyProof.Rows
theorem Mine.hd.tw2373112291344700057 : True := trivial
theorem Mine.hd.tw26425463804135960 : True := trivial
theorem Mine.hd.tw78025292344231536 : True := trivial
theorem Mine.hd.tw9251471199085437103 : True := trivial
theorem Mine.hd.tw13171849528936347964 : True := trivial
theorem Mine.hd.tw16240987189780228909 : True := trivial
theorem Mine.hd.tw17554735529859964295 : True := trivial
theorem Mine.hd.tw4971549296188076032 : True := trivial
theorem Mine.hd.tw8735263284916673568 : True := trivial
theorem Mine.hd.tw1800889605409440832 : True := trivial
theorem Mine.hd.tw6276725880618359904 : True := trivial
theorem Mine.hd.tw16412773359747925120 : True := trivial
theorem Mine.hd.tw6830512106363814048 : True := trivial
theorem Mine.hd.tw17950676927832955104 : True := trivial
theorem Mine.hd.tw10458740792067480800 : True := trivial
theorem Mine.hd.tw17387473266821786944 : True := trivial
theorem Mine.hd.tw7023726343779634624 : True := trivial
theorem Mine.hd.tw8134915037123179040 : True := trivial
theorem Mine.hd.tw15344866539931968096 : True := trivial
theorem Mine.hd.tw1359830224848277088 : True := trivial
theorem Mine.hd.tw4494801613693538912 : True := trivial
theorem Mine.hd.tw16154546982801380032 : True := trivial
theorem Mine.hd.tw17183224562656869120 : True := trivial
theorem Mine.hd.tw15643275761693703936 : True := trivial
theorem Mine.hd.tw17252143746492648416 : True := trivial
theorem Mine.hd.tw10752148897807903841 : True := trivial
theorem Mine.hd.tw7610815399733428385 : True := trivial
theorem Mine.hd.tw10403243965636340961 : True := trivial
theorem Mine.hd.tw4086058157674990017 : True := trivial
theorem Mine.hd.tw16037735763661986305 : True := trivial
theorem Mine.hd.tw15220180469806662145 : True := trivial
theorem Mine.hd.tw18343703819029505601 : True := trivial
theorem Mine.hd.tw10678649693572172417 : True := trivial
theorem Mine.hd.tw13330244855972007585 : True := trivial
theorem Mine.hd.tw5343241284826551009 : True := trivial
theorem Mine.hd.tw7914949630228597729 : True := trivial
theorem Mine.hd.tw11210553801493137410 : True := trivial
theorem Mine.hd.tw4272726840584523970 : True := trivial
theorem Mine.hd.tw9430268157657104642 : True := trivial
theorem Mine.hd.tw13919464512627920130 : True := trivial
theorem Mine.hd.tw12936449754285732098 : True := trivial
theorem Mine.hd.tw4702841417184801058 : True := trivial
theorem Mine.hd.tw758273949599710562 : True := trivial
theorem Mine.hd.tw17588044629489971554 : True := trivial
theorem Mine.hd.tw12271959270614036898 : True := trivial
theorem Mine.hd.tw5781342201191254626 : True := trivial
theorem Mine.hd.tw3919010098100093602 : True := trivial
theorem Mine.hd.tw5190246844813560578 : True := trivial
theorem Mine.hd.tw9960721518486171458 : True := trivial
theorem Mine.hd.tw18245042118932799458 : True := trivial
theorem Mine.hd.tw8228950375871286339 : True := trivial
theorem Mine.hd.tw1882180444382439491 : True := trivial
theorem Mine.hd.tw16904818350239718627 : True := trivial
theorem Mine.hd.tw18322514126500204803 : True := trivial
theorem Mine.hd.tw3229955645248102723 : True := trivial
theorem Mine.hd.tw5174551420813472067 : True := trivial
theorem Mine.hd.tw11754176132448286083 : True := trivial
theorem Mine.hd.tw6411954120941647267 : True := trivial
theorem Mine.hd.tw1760603350576429475 : True := trivial
theorem Mine.hd.tw13368278939475635651 : True := trivial
theorem Mine.hd.tw17087091549796120035 : True := trivial
theorem Mine.hd.tw11513968764499736323 : True := trivial
theorem Mine.hd.tw11631947586910100387 : True := trivial
theorem Mine.hd.tw18293851220164018083 : True := trivial
theorem Mine.hd.tw16477043939570097188 : True := trivial
theorem Mine.hd.tw6060742912462422084 : True := trivial
theorem Mine.hd.tw14896477498954680388 : True := trivial
theorem Mine.hd.tw6407587892757256292 : True := trivial
theorem Mine.hd.tw6785817131721698500 : True := trivial
theorem Mine.hd.tw5278057926702712004 : True := trivial
theorem Mine.hd.tw14892549342360969540 : True := trivial
theorem Mine.hd.tw13855946660403688772 : True := trivial
theorem Mine.hd.tw8068729725432388964 : True := trivial
theorem Mine.hd.tw3219085151875037572 : True := trivial
theorem Mine.hd.tw11465210709893060100 : True := trivial
theorem Mine.hd.tw10949625832625181284 : True := trivial
theorem Mine.hd.tw2323474266016966308 : True := trivial
theorem Mine.hd.tw18241275227582772068 : True := trivial
theorem Mine.hd.tw8458067239894703972 : True := trivial
theorem Mine.hd.tw3789350110615891812 : True := trivial
theorem Mine.hd.tw8356816923877370021 : True := trivial
theorem Mine.hd.tw7355570028127101125 : True := trivial
theorem Mine.hd.tw6305734824756694309 : True := trivial
theorem Mine.hd.tw10258999931320997221 : True := trivial
theorem Mine.hd.tw11893437276241958245 : True := trivial
theorem Mine.hd.tw15910714762333108613 : True := trivial
theorem Mine.hd.tw12399718760709695909 : True := trivial
theorem Mine.hd.tw1847840615245081061 : True := trivial
theorem Mine.hd.tw15790720579355451973 : True := trivial
theorem Mine.hd.tw11251137523995926341 : True := trivial
theorem Mine.hd.tw6438293893037913957 : True := trivial
theorem Mine.hd.tw6555240042291301478 : True := trivial
theorem Mine.hd.tw10583446816852156582 : True := trivial
theorem Mine.hd.tw8268277133935991078 : True := trivial
theorem Mine.hd.tw16211521421427940678 : True := trivial
theorem Mine.hd.tw212345690472687942 : True := trivial
theorem Mine.hd.tw991583007596301734 : True := trivial
theorem Mine.hd.tw2386827423013361158 : True := trivial
theorem Mine.hd.tw3795277891434052102 : True := trivial
theorem Mine.hd.tw10424393626065333798 : True := trivial
theorem Mine.hd.tw17258206423299326598 : True := trivial
theorem Mine.hd.tw2195365466389143174 : True := trivial
theorem Mine.hd.tw13903934854276604550 : True := trivial
theorem Mine.hd.tw4993660671451451078 : True := trivial
theorem Mine.hd.tw1506431575118746342 : True := trivial
theorem Mine.hd.tw8990313861142287110 : True := trivial
theorem Mine.hd.tw9386895884608548742 : True := trivial
theorem Mine.hd.tw8934143017859847078 : True := trivial
theorem Mine.hd.tw1589133516308662214 : True := trivial
theorem Mine.hd.tw5978321128707920903 : True := trivial
theorem Mine.hd.tw15043168886218598503 : True := trivial
theorem Mine.hd.tw17893044597097874663 : True := trivial
theorem Mine.hd.tw15683763237869141255 : True := trivial
theorem Mine.hd.tw17062030032774818151 : True := trivial
theorem Mine.hd.tw8977307856219701671 : True := trivial
theorem Mine.hd.tw9783614193127449063 : True := trivial
theorem Mine.hd.tw5635641802508607975 : True := trivial
theorem Mine.hd.tw3109861748172591687 : True := trivial
theorem Mine.hd.tw9557236495431379559 : True := trivial
theorem Mine.hd.tw12901994302517312135 : True := trivial
theorem Mine.hd.tw11660266114150955751 : True := trivial
theorem Mine.hd.tw7068711184596962023 : True := trivial
theorem Mine.hd.tw5054737718236178183 : True := trivial
theorem Mine.hd.tw8960069828448710407 : True := trivial
theorem Mine.hd.tw17672654358674132775 : True := trivial
theorem Mine.hd.tw7028611270464810887 : True := trivial
theorem Mine.hd.tw701787995468756871 : True := trivial
theorem Mine.hd.tw8545014587354053640 : True := trivial
theorem Mine.hd.tw190519026028168232 : True := trivial
theorem Mine.hd.tw8671608845466749128 : True := trivial
theorem Mine.hd.tw10246146449241189800 : True := trivial
theorem Mine.hd.tw16920754564084929960 : True := trivial
theorem Mine.hd.tw12949589719889679912 : True := trivial
theorem Mine.hd.tw14457593812595234344 : True := trivial
theorem Mine.hd.tw6038821095411175016 : True := trivial
theorem Mine.hd.tw2708950531961675432 : True := trivial
theorem Mine.hd.tw4297731678662094536 : True := trivial
theorem Mine.hd.tw17975533764899295144 : True := trivial
theorem Mine.hd.tw4870687313549177768 : True := trivial
theorem Mine.hd.tw3259873300814134281 : True := trivial
theorem Mine.hd.tw189712035060473897 : True := trivial
theorem Mine.hd.tw8959176491354863721 : True := trivial
theorem Mine.hd.tw14906377314874228009 : True := trivial
theorem Mine.hd.tw1129884963351977449 : True := trivial
theorem Mine.hd.tw9566141503761928105 : True := trivial
theorem Mine.hd.tw5148922909946612681 : True := trivial
theorem Mine.hd.tw3915529967508079626 : True := trivial
theorem Mine.hd.tw18264374347568628810 : True := trivial
theorem Mine.hd.tw15042006015671813226 : True := trivial
theorem Mine.hd.tw13217225542625558698 : True := trivial
theorem Mine.hd.tw7120233287515763914 : True := trivial
theorem Mine.hd.tw5416991563250132298 : True := trivial
theorem Mine.hd.tw17447410573909459338 : True := trivial
theorem Mine.hd.tw6528754448969337418 : True := trivial
theorem Mine.hd.tw10603584201595350602 : True := trivial
theorem Mine.hd.tw4360684699965382250 : True := trivial
theorem Mine.hd.tw10170382586518783626 : True := trivial
theorem Mine.hd.tw12487502673411948298 : True := trivial
theorem Mine.hd.tw4478964076566166474 : True := trivial
theorem Mine.hd.tw12112201142124510154 : True := trivial
theorem Mine.hd.tw11128854368766332075 : True := trivial
theorem Mine.hd.tw13277076834127875243 : True := trivial
theorem Mine.hd.tw3443669649825651883 : True := trivial
theorem Mine.hd.tw11917015161858427179 : True := trivial
theorem Mine.hd.tw9170477692918782315 : True := trivial
theorem Mine.hd.tw10030107230732127627 : True := trivial
theorem Mine.hd.tw17054507655720011243 : True := trivial
theorem Mine.hd.tw9741134391959003819 : True := trivial
theorem Mine.hd.tw15089522573102190283 : True := trivial
theorem Mine.hd.tw10743916045514856203 : True := trivial
theorem Mine.hd.tw9748044761591592747 : True := trivial
theorem Mine.hd.tw8727321023445011275 : True := trivial
theorem Mine.hd.tw2999033326186475339 : True := trivial
theorem Mine.hd.tw8716120427605611371 : True := trivial
theorem Mine.hd.tw6196171512934965099 : True := trivial
theorem Mine.hd.tw978945382295711627 : True := trivial
theorem Mine.hd.tw6264232113106981867 : True := trivial
theorem Mine.hd.tw4315991029959535628 : True := trivial
theorem Mine.hd.tw6394381022753523788 : True := trivial
theorem Mine.hd.tw1836080755315867724 : True := trivial
theorem Mine.hd.tw12647368939536790636 : True := trivial
theorem Mine.hd.tw16299908979028503884 : True := trivial
theorem Mine.hd.tw12092154237167983948 : True := trivial
theorem Mine.hd.tw2930668341846507884 : True := trivial
theorem Mine.hd.tw17711083657039698284 : True := trivial
theorem Mine.hd.tw5130813555471234732 : True := trivial
theorem Mine.hd.tw8004679753235328684 : True := trivial
theorem Mine.hd.tw18185175575083235020 : True := trivial
theorem Mine.hd.tw17948085552500728524 : True := trivial
theorem Mine.hd.tw12588582704262371052 : True := trivial
theorem Mine.hd.tw7270182246851987180 : True := trivial
theorem Mine.hd.tw15368132723985388332 : True := trivial
theorem Mine.hd.tw6819123309680001836 : True := trivial
theorem Mine.hd.tw12023040214023829324 : True := trivial
theorem Mine.hd.tw16171809288044610508 : True := trivial
theorem Mine.hd.tw15837987909243819085 : True := trivial
theorem Mine.hd.tw1409312971732116557 : True := trivial
theorem Mine.hd.tw1013155817946168525 : True := trivial
theorem Mine.hd.tw13321331477185743149 : True := trivial
theorem Mine.hd.tw16345102440705955213 : True := trivial
theorem Mine.hd.tw8457440626546761165 : True := trivial
theorem Mine.hd.tw4377701919642642989 : True := trivial
theorem Mine.hd.tw16828841361933241965 : True := trivial
theorem Mine.hd.tw5036846961687405229 : True := trivial
theorem Mine.hd.tw17606422857730326317 : True := trivial
theorem Mine.hd.tw10614716105012338702 : True := trivial
theorem Mine.hd.tw14294001040229213422 : True := trivial
theorem Mine.hd.tw3429492842335990350 : True := trivial
theorem Mine.hd.tw16722109127936396110 : True := trivial
theorem Mine.hd.tw14553816603554493358 : True := trivial
theorem Mine.hd.tw9345929723534960622 : True := trivial
theorem Mine.hd.tw1452849714261714991 : True := trivial
theorem Mine.hd.tw15616948245753086127 : True := trivial
theorem Mine.hd.tw2442259710966052079 : True := trivial
theorem Mine.hd.tw6082411064634330575 : True := trivial
theorem Mine.hd.tw3493717111155160527 : True := trivial
theorem Mine.hd.tw3759623122121258479 : True := trivial
theorem Mine.hd.tw12631932088317031055 : True := trivial
theorem Mine.hd.tw5987830557187376847 : True := trivial
theorem Mine.hd.tw6990203504111849199 : True := trivial
theorem Mine.hd.tw2101469004524951375 : True := trivial
theorem Mine.hd.tw11319892378374348655 : True := trivial
theorem Mine.hd.tw9657781627882305391 : True := trivial
theorem Mine.hd.tw13315533130655954831 : True := trivial
theorem Mine.hd.tw8879563391730754479 : True := trivial
theorem Mine.hd.tw16649331688326792143 : True := trivial
theorem Mine.hd.tw10111801491309104144 : True := trivial
theorem Mine.hd.tw402640490398009360 : True := trivial
theorem Mine.hd.tw16011055738799735888 : True := trivial
theorem Mine.hd.tw10216474801634566288 : True := trivial
theorem Mine.hd.tw7891253978561527248 : True := trivial
theorem Mine.hd.tw16853341256802265648 : True := trivial
theorem Mine.hd.tw4856431653887292112 : True := trivial
theorem Mine.hd.tw13518370688599389936 : True := trivial
theorem Mine.hd.tw15595854959937240912 : True := trivial
theorem Mine.hd.tw12614811148066621264 : True := trivial
theorem Mine.hd.tw13790719812936386609 : True := trivial
theorem Mine.hd.tw432457690288141553 : True := trivial
theorem Mine.hd.tw14705683404202351889 : True := trivial
theorem Mine.hd.tw17903497710992402801 : True := trivial
theorem Mine.hd.tw16634568088961857937 : True := trivial
theorem Mine.hd.tw15852365999677673905 : True := trivial
theorem Mine.hd.tw16056359734778111409 : True := trivial
theorem Mine.hd.tw7082855905992002993 : True := trivial
theorem Mine.hd.tw3828038474966422129 : True := trivial
theorem Mine.hd.tw12113243949977362033 : True := trivial
theorem Mine.hd.tw5961118342813265553 : True := trivial
theorem Mine.hd.tw8117029840178788049 : True := trivial
theorem Mine.hd.tw6545403380812914513 : True := trivial
theorem Mine.hd.tw5716766192118558609 : True := trivial
theorem Mine.hd.tw2391449824757734642 : True := trivial
theorem Mine.hd.tw8025032847418708242 : True := trivial
theorem Mine.hd.tw9641152695372364146 : True := trivial
theorem Mine.hd.tw15166520500009309586 : True := trivial
theorem Mine.hd.tw9499510787657705874 : True := trivial
theorem Mine.hd.tw7754304195085646258 : True := trivial
theorem Mine.hd.tw5366084841770067474 : True := trivial
theorem Mine.hd.tw2167537188350426706 : True := trivial
theorem Mine.hd.tw5282504435634884242 : True := trivial
theorem Mine.hd.tw1580110805410547442 : True := trivial
theorem Mine.hd.tw14560493823538711346 : True := trivial
theorem Mine.hd.tw10525666975642140466 : True := trivial
theorem Mine.hd.tw12629568148972539762 : True := trivial
theorem Mine.hd.tw6293948785866598258 : True := trivial
theorem Mine.hd.tw7296583596125217682 : True := trivial
theorem Mine.hd.tw8112040973832200146 : True := trivial
theorem Mine.hd.tw1097998534492414930 : True := trivial
theorem Mine.hd.tw15083628210047938546 : True := trivial
theorem Mine.hd.tw10601615944963115059 : True := trivial
theorem Mine.hd.tw5657824000916062451 : True := trivial
theorem Mine.hd.tw5567388512258382067 : True := trivial
theorem Mine.hd.tw7289634563603522867 : True := trivial
theorem Mine.hd.tw16945582573551092051 : True := trivial
theorem Mine.hd.tw1382963296337349011 : True := trivial
theorem Mine.hd.tw16432713993328977331 : True := trivial
theorem Mine.hd.tw5363564295841288755 : True := trivial
theorem Mine.hd.tw11151547217846952531 : True := trivial
theorem Mine.hd.tw18103342009636024947 : True := trivial
theorem Mine.hd.tw3008623586974134963 : True := trivial
theorem Mine.hd.tw16640546478005224243 : True := trivial
theorem Mine.hd.tw4015398097383911347 : True := trivial
theorem Mine.hd.tw13409441903868389331 : True := trivial
theorem Mine.hd.tw8789358453043137523 : True := trivial
theorem Mine.hd.tw4851647983119433812 : True := trivial
theorem Mine.hd.tw15529170255622000948 : True := trivial
theorem Mine.hd.tw6164396464334811476 : True := trivial
theorem Mine.hd.tw7540655947842036084 : True := trivial
theorem Mine.hd.tw15422856539912107476 : True := trivial
theorem Mine.hd.tw6998783941825042932 : True := trivial
theorem Mine.hd.tw7366208706002141716 : True := trivial
theorem Mine.hd.tw4014540891139286612 : True := trivial
theorem Mine.hd.tw18293732401869909652 : True := trivial
theorem Mine.hd.tw1997569388931296116 : True := trivial
theorem Mine.hd.tw17542962492245011380 : True := trivial
theorem Mine.hd.tw5629675986466331604 : True := trivial
theorem Mine.hd.tw6598312636042714100 : True := trivial
theorem Mine.hd.tw1439246655266547700 : True := trivial
theorem Mine.hd.tw11162318198679636149 : True := trivial
theorem Mine.hd.tw13225837485096350037 : True := trivial
theorem Mine.hd.tw6442067068224118133 : True := trivial
theorem Mine.hd.tw14103535550066685397 : True := trivial
theorem Mine.hd.tw2608437505485318709 : True := trivial
theorem Mine.hd.tw17673860158736603733 : True := trivial
theorem Mine.hd.tw3571134770919094901 : True := trivial
theorem Mine.hd.tw12173100003817136821 : True := trivial
theorem Mine.hd.tw7494724483528729301 : True := trivial
theorem Mine.hd.tw15508949281206285077 : True := trivial
theorem Mine.hd.tw16302227732802510677 : True := trivial
theorem Mine.hd.tw13609717118414637909 : True := trivial
theorem Mine.hd.tw13483081372092288885 : True := trivial
theorem Mine.hd.tw9427301549700849589 : True := trivial
theorem Mine.hd.tw6820862383352777685 : True := trivial
theorem Mine.hd.tw6291416237084387574 : True := trivial
theorem Mine.hd.tw8343274005884668182 : True := trivial
theorem Mine.hd.tw1848646778235469078 : True := trivial
theorem Mine.hd.tw1413172679324656950 : True := trivial
theorem Mine.hd.tw16473244170626142550 : True := trivial
theorem Mine.hd.tw3452082135128663414 : True := trivial
theorem Mine.hd.tw11213053971927718326 : True := trivial
theorem Mine.hd.tw7752767780024739350 : True := trivial
theorem Mine.hd.tw17420951861521290806 : True := trivial
theorem Mine.hd.tw1011335219593555734 : True := trivial
theorem Mine.hd.tw8428860471423672150 : True := trivial
theorem Mine.hd.tw15367242080415987702 : True := trivial
theorem Mine.hd.tw6184460063843016694 : True := trivial
theorem Mine.hd.tw15615537253650120727 : True := trivial
theorem Mine.hd.tw2216850387143573719 : True := trivial
theorem Mine.hd.tw16970440968685349367 : True := trivial
theorem Mine.hd.tw3442329435671937591 : True := trivial
theorem Mine.hd.tw13783031573616600631 : True := trivial
theorem Mine.hd.tw16064382804478563927 : True := trivial
theorem Mine.hd.tw11402939732021071671 : True := trivial
theorem Mine.hd.tw3381375190539634487 : True := trivial
theorem Mine.hd.tw10879034167726328663 : True := trivial
theorem Mine.hd.tw11389486352061984695 : True := trivial
theorem Mine.hd.tw11136197038861592535 : True := trivial
theorem Mine.hd.tw9345676750909349944 : True := trivial
theorem Mine.hd.tw18300207936620678264 : True := trivial
theorem Mine.hd.tw5562173858411828344 : True := trivial
theorem Mine.hd.tw17650839729002327288 : True := trivial
theorem Mine.hd.tw18093812233618175256 : True := trivial
theorem Mine.hd.tw2274498078352570744 : True := trivial
theorem Mine.hd.tw15759970867653108152 : True := trivial
theorem Mine.hd.tw5511420028821071320 : True := trivial
theorem Mine.hd.tw13267510147771200024 : True := trivial
theorem Mine.hd.tw14176624398918483544 : True := trivial
theorem Mine.hd.tw10727248033764811480 : True := trivial
theorem Mine.hd.tw4065347644161347641 : True := trivial
theorem Mine.hd.tw728884934406724761 : True := trivial
theorem Mine.hd.tw2603259988358896889 : True := trivial
theorem Mine.hd.tw2845679848157327705 : True := trivial
theorem Mine.hd.tw18291419657060728153 : True := trivial
theorem Mine.hd.tw15411387601460861337 : True := trivial
theorem Mine.hd.tw1222794163293265305 : True := trivial
theorem Mine.hd.tw10784824025267889561 : True := trivial
theorem Mine.hd.tw11054480109507316185 : True := trivial
theorem Mine.hd.tw3953601041324332601 : True := trivial
theorem Mine.hd.tw16772102934027710169 : True := trivial
theorem Mine.hd.tw17574625026820762457 : True := trivial
theorem Mine.hd.tw17330945745186091897 : True := trivial
theorem Mine.hd.tw6982297934935202809 : True := trivial
theorem Mine.hd.tw22551697357593593 : True := trivial
theorem Mine.hd.tw17047115858639842297 : True := trivial
theorem Mine.hd.tw5902613922787404954 : True := trivial
theorem Mine.hd.tw11953376511379268794 : True := trivial
theorem Mine.hd.tw15673258824015622330 : True := trivial
theorem Mine.hd.tw541196102884509978 : True := trivial
theorem Mine.hd.tw12050417470231563642 : True := trivial
theorem Mine.hd.tw2114630138375439770 : True := trivial
theorem Mine.hd.tw6868836192036940282 : True := trivial
theorem Mine.hd.tw9421340871869096474 : True := trivial
theorem Mine.hd.tw1600037746751723098 : True := trivial
theorem Mine.hd.tw5373601922739893978 : True := trivial
theorem Mine.hd.tw14960593345356199642 : True := trivial
theorem Mine.hd.tw16157073509204512506 : True := trivial
theorem Mine.hd.tw11232374478483605306 : True := trivial
theorem Mine.hd.tw11652457597714270106 : True := trivial
theorem Mine.hd.tw13372043803930879067 : True := trivial
theorem Mine.hd.tw11032806212648032379 : True := trivial
theorem Mine.hd.tw15103106377680225435 : True := trivial
theorem Mine.hd.tw14353793391729792155 : True := trivial
theorem Mine.hd.tw14478148883734587675 : True := trivial
theorem Mine.hd.tw6767318904944593275 : True := trivial
theorem Mine.hd.tw10024716035694756283 : True := trivial
theorem Mine.hd.tw13828106393651249627 : True := trivial
theorem Mine.hd.tw16007149819294483003 : True := trivial
theorem Mine.hd.tw2068664650715991707 : True := trivial
theorem Mine.hd.tw9719896912496429819 : True := trivial
theorem Mine.hd.tw17177331786930743035 : True := trivial
theorem Mine.hd.tw461538923250603899 : True := trivial
theorem Mine.hd.tw15642763164714097627 : True := trivial
theorem Mine.hd.tw13770079208771991547 : True := trivial
theorem Mine.hd.tw11319097763535126812 : True := trivial
theorem Mine.hd.tw395138700845864316 : True := trivial
theorem Mine.hd.tw15615420239508185596 : True := trivial
theorem Mine.hd.tw16091413853298234908 : True := trivial
theorem Mine.hd.tw7085514621470718492 : True := trivial
theorem Mine.hd.tw2887051446865420828 : True := trivial
theorem Mine.hd.tw3451239065008710300 : True := trivial
theorem Mine.hd.tw17599816209265215132 : True := trivial
theorem Mine.hd.tw2327210489368252092 : True := trivial
theorem Mine.hd.tw2252305205657439004 : True := trivial
theorem Mine.hd.tw11117797201346649052 : True := trivial
theorem Mine.hd.tw17986969038992634876 : True := trivial
theorem Mine.hd.tw18219297243305740317 : True := trivial
theorem Mine.hd.tw922143313871775805 : True := trivial
theorem Mine.hd.tw17714235663813219645 : True := trivial
theorem Mine.hd.tw16868993833207775613 : True := trivial
theorem Mine.hd.tw6924109203229866365 : True := trivial
theorem Mine.hd.tw10792051664901133789 : True := trivial
theorem Mine.hd.tw5608270528595127837 : True := trivial
theorem Mine.hd.tw7763873220885509757 : True := trivial
theorem Mine.hd.tw15967140613478806237 : True := trivial
theorem Mine.hd.tw8226494294326810461 : True := trivial
theorem Mine.hd.tw15833661619300960221 : True := trivial
theorem Mine.hd.tw9277588360372424766 : True := trivial
theorem Mine.hd.tw3182187488490625086 : True := trivial
theorem Mine.hd.tw16194383521188589630 : True := trivial
theorem Mine.hd.tw11631869004601391166 : True := trivial
theorem Mine.hd.tw13321405658709239934 : True := trivial
theorem Mine.hd.tw9673543361469618366 : True := trivial
theorem Mine.hd.tw6123773746684550334 : True := trivial
theorem Mine.hd.tw6838551448383532254 : True := trivial
theorem Mine.hd.tw16259696140248634718 : True := trivial
theorem Mine.hd.tw4172343393113369950 : True := trivial
theorem Mine.hd.tw17681399029576232318 : True := trivial
theorem Mine.hd.tw13431754692932380062 : True := trivial
theorem Mine.hd.tw17901334829092211166 : True := trivial
theorem Mine.hd.tw17739348878880393726 : True := trivial
theorem Mine.hd.tw3480954088277226078 : True := trivial
theorem Mine.hd.tw9763420282994701918 : True := trivial
theorem Mine.hd.tw7510230149288206974 : True := trivial
theorem Mine.hd.tw14620637471214046174 : True := trivial
theorem Mine.hd.tw14955159897011116063 : True := trivial
theorem Mine.hd.tw6931407450589930559 : True := trivial
theorem Mine.hd.tw12070051907170230399 : True := trivial
theorem Mine.hd.tw3530705653197291679 : True := trivial
theorem Mine.hd.tw4478166936697009375 : True := trivial
theorem Mine.hd.tw14400467628812073631 : True := trivial
theorem Mine.hd.tw3309697970292668127 : True := trivial
theorem Mine.hd.tw7519716089354478335 : True := trivial
end
section
open PySem PySem.W PyProof.Rows
namespace Mine
set_option maxRecDepth 100000
set_option maxHeartbeats 8000000
local macro_rules | `(tactic| walk_at $s:str) => `(tactic| k_extra $s)
local macro_rules | `(tactic| walk_at "i:hFN") => `(tactic| (intro h' F' N'; (try dsimp only [List.nil_append, List.cons_append] at N')))
local macro_rules | `(tactic| k_inst) => `(tactic| k_extra "inst")
local macro_rules | `(tactic| k_enter) => `(tactic| k_extra "enter")
local macro_rules | `(tactic| k_all) => `(tactic| k_extra "all")
noncomputable def S_rs_iter (K : Params → Frag) (V : Program) : Prop :=
  ∀ ⦃w : World⦄ ⦃A : Around⦄ ⦃dp un : Nat⦄ ⦃gd : Option (List Code)⦄ ⦃env : Env⦄ ⦃outer : List Env⦄ ⦃h₀ : Heap⦄ ⦃L : Addr⦄ ⦃m : Str → Option Value⦄ ⦃news : List (Addr × Obj)⦄ ⦃s : Shared⦄ ⦃R : Result → Shared → Prop⦄
    ⦃q dq l : Addr⦄ ⦃rs : List (Int × Int)⦄,
    A = arn dp un gd env outer → Ctx K V w s h₀ L m news env outer → dp + 1 < recursionLimit → un + 50 < cLine → QAt w news q dq l rs →
    (∀ h' tk' it, Fr h₀ L h' m → News h₀ L h' ((it, litO l) :: news) → (∀ p ∈ news, p.1 < it) → R (.ok (.ret (.ref it))) { s with heap := h', toks := tk' }) →
    codeAny (model prg w) A (.call (.ref 317) ⟨[.ref q], []⟩) R s
noncomputable def S_rs_eq (K : Params → Frag) (V : Program) : Prop :=
  ∀ ⦃w : World⦄ ⦃A : Around⦄ ⦃dp un : Nat⦄ ⦃gd : Option (List Code)⦄ ⦃env : Env⦄ ⦃outer : List Env⦄ ⦃h₀ : Heap⦄ ⦃L : Addr⦄ ⦃m : Str → Option Value⦄ ⦃news : List (Addr × Obj)⦄ ⦃s : Shared⦄ ⦃R : Result → Shared → Prop⦄
    ⦃q dq l q2 dq2 l2 : Addr⦄ ⦃rs : List (Int × Int)⦄,
    A = arn dp un gd env outer → Ctx K V w s h₀ L m news env outer → dp + 1 < recursionLimit → un + 150 < cLine → QAt w news q dq l rs → QAt w news q2 dq2 l2 rs →
    (∀ h' tk', Fr h₀ L h' m → News h₀ L h' news → R (.ok (.ret (.bool true))) { s with heap := h', toks := tk' }) →
    codeAny (model prg w) A (.call (.ref 303) ⟨[.ref q, .ref q2], []⟩) R s
noncomputable def S_win_contains (K : Params → Frag) (V : Program) : Prop :=
  ∀ ⦃w : World⦄ ⦃A : Around⦄ ⦃dp un : Nat⦄ ⦃gd : Option (List Code)⦄ ⦃env : Env⦄ ⦃outer : List Env⦄ ⦃h₀ : Heap⦄ ⦃L : Addr⦄ ⦃m : Str → Option Value⦄ ⦃news : List (Addr × Obj)⦄ ⦃s : Shared⦄ ⦃R : Result → Shared → Prop⦄
    ⦃x dw sR : Addr⦄ ⦃lo n : Int⦄ ⦃t : Tok⦄ ⦃S : Int → Bool⦄ ⦃nR : Nat⦄,
    A = arn dp un gd env outer → Ctx K V w s h₀ L m news env outer → dp + 1 < recursionLimit → un + 50 < cLine → WinAt w news x dw sR lo S nR → nR < 1000 →
    (∀ h' tk', Fr h₀ L h' m → News h₀ L h' news → R (.ok (.ret (.bool (decide (n < lo) || S n)))) { s with heap := h', toks := tk' }) →
    codeAny (model prg w) A (.call (.ref 47) ⟨[.ref x, .int n t], []⟩) R s
noncomputable def S_win_add (K : Params → Frag) (V : Program) : Prop :=
  ∀ ⦃w : World⦄ ⦃A : Around⦄ ⦃dp un : Nat⦄ ⦃gd : Option (List Code)⦄ ⦃env : Env⦄ ⦃outer : List Env⦄ ⦃h₀ : Heap⦄ ⦃L : Addr⦄ ⦃m : Str → Option Value⦄ ⦃news : List (Addr × Obj)⦄ ⦃s : Shared⦄ ⦃R : Result → Shared → Prop⦄
    ⦃x dw sR : Addr⦄ ⦃lo n : Int⦄ ⦃t : Tok⦄ ⦃S : Int → Bool⦄ ⦃nR : Nat⦄,
    A = arn dp un gd env outer → Ctx K V w s h₀ L m news env outer → dp + 1 < recursionLimit → un + 50 < cLine → WinAt w news x dw sR lo S nR → nR < 250 → S n = false → lo ≤ n → 0 ≤ lo → n < 2 ^ 40 →
    (∀ h' tk' news', Fr h₀ L h' m → News h₀ L h' news' → WinAt w news' x dw sR (if lo < n - 128 + 1 then n - 128 + 1 else lo) (fun k => S k || decide (k = n)) (nR + 1) → (∀ p ∈ news, p.1 ≠ dw → p.1 ≠ sR → p ∈ news') →
      R (.ok (.ret .none)) { s with heap := h', toks := tk' }) →
    codeAny (model prg w) A (.call (.ref 40) ⟨[.ref x, .int n t], []⟩) R s
noncomputable def S_rs_len (K : Params → Frag) (V : Program) : Prop :=
  ∀ ⦃w : World⦄ ⦃A : Around⦄ ⦃dp un : Nat⦄ ⦃gd : Option (List Code)⦄ ⦃env : Env⦄ ⦃outer : List Env⦄ ⦃h₀ : Heap⦄ ⦃L : Addr⦄ ⦃m : Str → Option Value⦄ ⦃news : List (Addr × Obj)⦄ ⦃s : Shared⦄ ⦃R : Result → Shared → Prop⦄
    ⦃q dq l : Addr⦄ ⦃rs : List (Int × Int)⦄,
    A = arn dp un gd env outer → Ctx K V w s h₀ L m news env outer → dp + 1 < recursionLimit → un + 50 < cLine → QAt w news q dq l rs → rs.length < 1000 →
    (∀ h' tk' t', Fr h₀ L h' m → News h₀ L h' news → R (.ok (.ret (.int rs.length t'))) { s with heap := h', toks := tk' }) →
    codeAny (model prg w) A (.call (.ref 324) ⟨[.ref q], []⟩) R s
noncomputable def S_rs_getitem (K : Params → Frag) (V : Program) : Prop :=
  ∀ ⦃w : World⦄ ⦃A : Around⦄ ⦃dp un : Nat⦄ ⦃gd : Option (List Code)⦄ ⦃env : Env⦄ ⦃outer : List Env⦄ ⦃h₀ : Heap⦄ ⦃L : Addr⦄ ⦃m : Str → Option Value⦄ ⦃news : List (Addr × Obj)⦄ ⦃s : Shared⦄ ⦃R : Result → Shared → Prop⦄
    ⦃q dq l : Addr⦄ ⦃rs : List (Int × Int)⦄ ⦃i : Int⦄ ⦃ti : Tok⦄ ⦃p : Int × Int⦄,
    A = arn dp un gd env outer → Ctx K V w s h₀ L m news env outer → dp + 1 < recursionLimit → un + 50 < cLine → QAt w news q dq l rs → rs.length < 1000 → 0 ≤ i → rs[i.toNat]? = some p →
    (∀ h' tk' a t u k, Fr h₀ L h' m → News h₀ L h' news → (a, rngO p.1 p.2 t u k) ∈ news → R (.ok (.ret (.ref a))) { s with heap := h', toks := tk' }) →
    codeAny (model prg w) A (.call (.ref 310) ⟨[.ref q, .int i ti], []⟩) R s
noncomputable def S_rs_shift (K : Params → Frag) (V : Program) : Prop :=
  ∀ ⦃w : World⦄ ⦃A : Around⦄ ⦃dp un : Nat⦄ ⦃gd : Option (List Code)⦄ ⦃env : Env⦄ ⦃outer : List Env⦄ ⦃h₀ : Heap⦄ ⦃L : Addr⦄ ⦃m : Str → Option Value⦄ ⦃news : List (Addr × Obj)⦄ ⦃s : Shared⦄ ⦃R : Result → Shared → Prop⦄
    ⦃q dq l : Addr⦄ ⦃p : Int × Int⦄ ⦃rs : List (Int × Int)⦄,
    A = arn dp un gd env outer → Ctx K V w s h₀ L m news env outer → dp + 1 < recursionLimit → un + 50 < cLine → QAt w news q dq l (p :: rs) → rs.length < 1000 →
    (∀ h' tk' news' a, Fr h₀ L h' m → News h₀ L h' news' → QAt w news' q dq l rs → (∀ p ∈ news, p.1 ≠ l → p ∈ news') → R (.ok (.ret (.ref a))) { s with heap := h', toks := tk' }) →
    codeAny (model prg w) A (.call (.ref 275) ⟨[.ref q], []⟩) R s
noncomputable def S_rs_bounds (K : Params → Frag) (V : Program) : Prop :=
  ∀ ⦃w : World⦄ ⦃A : Around⦄ ⦃dp un : Nat⦄ ⦃gd : Option (List Code)⦄ ⦃env : Env⦄ ⦃outer : List Env⦄ ⦃h₀ : Heap⦄ ⦃L : Addr⦄ ⦃m : Str → Option Value⦄ ⦃news : List (Addr × Obj)⦄ ⦃s : Shared⦄ ⦃R : Result → Shared → Prop⦄
    ⦃q dq l : Addr⦄ ⦃rs : List (Int × Int)⦄ ⦃p p' : Int × Int⦄,
    A = arn dp un gd env outer → Ctx K V w s h₀ L m news env outer → dp + 1 < recursionLimit → un + 50 < cLine → QAt w news q dq l rs → rs.length < 1000 → rs[0]? = some p → rs.getLast? = some p' →
    (∀ h' tk' a t u k, Fr h₀ L h' m → News h₀ L h' ((a, rngO p.1 p'.2 t u k) :: news) → (∀ p ∈ news, p.1 < a) → R (.ok (.ret (.ref a))) { s with heap := h', toks := tk' }) →
    codeAny (model prg w) A (.call (.ref 268) ⟨[.ref q], []⟩) R s
noncomputable def S_rs_contains (K : Params → Frag) (V : Program) : Prop :=
  ∀ ⦃w : World⦄ ⦃A : Around⦄ ⦃dp un : Nat⦄ ⦃gd : Option (List Code)⦄ ⦃env : Env⦄ ⦃outer : List Env⦄ ⦃h₀ : Heap⦄ ⦃L : Addr⦄ ⦃m : Str → Option Value⦄ ⦃news : List (Addr × Obj)⦄ ⦃s : Shared⦄ ⦃R : Result → Shared → Prop⦄
    ⦃q dq l : Addr⦄ ⦃rs : List (Int × Int)⦄ ⦃i : Int⦄ ⦃ti : Tok⦄,
    A = arn dp un gd env outer → Ctx K V w s h₀ L m news env outer → dp + 1 < recursionLimit → un + 50 < cLine → QAt w news q dq l rs → rs.length < 1000 →
    (∀ h' tk', Fr h₀ L h' m → News h₀ L h' news → R (.ok (.ret (.bool (inR rs i)))) { s with heap := h', toks := tk' }) →
    codeAny (model prg w) A (.call (.ref 296) ⟨[.ref q, .int i ti], []⟩) R s
noncomputable def S_rs_add2 (K : Params → Frag) (V : Program) : Prop :=
  ∀ ⦃w : World⦄ ⦃A : Around⦄ ⦃dp un : Nat⦄ ⦃gd : Option (List Code)⦄ ⦃env : Env⦄ ⦃outer : List Env⦄ ⦃h₀ : Heap⦄ ⦃L : Addr⦄ ⦃m : Str → Option Value⦄ ⦃news : List (Addr × Obj)⦄ ⦃s : Shared⦄ ⦃R : Result → Shared → Prop⦄
    ⦃q dq l : Addr⦄ ⦃rs : List (Int × Int)⦄ ⦃lo hi : Int⦄ ⦃ti tj : Tok⦄,
    A = arn dp un gd env outer → Ctx K V w s h₀ L m news env outer → dp + 1 < recursionLimit → un + 50 < cLine → QAt w news q dq l rs → rs.length < 1000 → lo < hi →
    (∀ h' tk' news', Fr h₀ L h' m → News h₀ L h' news' → QAt w news' q dq l (addR lo hi rs) → (∀ p ∈ news, p.1 ≠ l → p ∈ news') → R (.ok (.ret .none)) { s with heap := h', toks := tk' }) →
    codeAny (model prg w) A (.call (.ref 261) ⟨[.ref q, .int lo ti, .int hi tj], []⟩) R s
noncomputable def S_rs_add1 (K : Params → Frag) (V : Program) : Prop :=
  ∀ ⦃w : World⦄ ⦃A : Around⦄ ⦃dp un : Nat⦄ ⦃gd : Option (List Code)⦄ ⦃env : Env⦄ ⦃outer : List Env⦄ ⦃h₀ : Heap⦄ ⦃L : Addr⦄ ⦃m : Str → Option Value⦄ ⦃news : List (Addr × Obj)⦄ ⦃s : Shared⦄ ⦃R : Result → Shared → Prop⦄
    ⦃q dq l : Addr⦄ ⦃rs : List (Int × Int)⦄ ⦃lo : Int⦄ ⦃ti : Tok⦄,
    A = arn dp un gd env outer → Ctx K V w s h₀ L m news env outer → dp + 1 < recursionLimit → un + 50 < cLine → QAt w news q dq l rs → rs.length < 1000 →
    (∀ h' tk' news', Fr h₀ L h' m → News h₀ L h' news' → QAt w news' q dq l (addR lo (lo + 1) rs) → (∀ p ∈ news, p.1 ≠ l → p ∈ news') → R (.ok (.ret .none)) { s with heap := h', toks := tk' }) →
    codeAny (model prg w) A (.call (.ref 261) ⟨[.ref q, .int lo ti], []⟩) R s
noncomputable def S_push_bytes (K : Params → Frag) (V : Program) : Prop :=
  ∀ ⦃w : World⦄ ⦃A : Around⦄ ⦃dp un : Nat⦄ ⦃gd : Option (List Code)⦄ ⦃env : Env⦄ ⦃outer : List Env⦄ ⦃h₀ : Heap⦄ ⦃L : Addr⦄ ⦃m : Str → Option Value⦄ ⦃news : List (Addr × Obj)⦄ ⦃s : Shared⦄ ⦃R : Result → Shared → Prop⦄
    ⦃x dx : Addr⦄ ⦃I J : List Int⦄ ⦃pl : Nat⦄ ⦃v : Array UInt8⦄ ⦃tv : Tok⦄,
    A = arn dp un gd env outer → Ctx K V w s h₀ L m news env outer → dp + 1 < recursionLimit → un + 50 < cLine → BufAt w news x dx I pl → I.length < 100000 → KBw.bInts v = J → pl + J.length ≤ I.length →
    (∀ h' tk' news', Fr h₀ L h' m → News h₀ L h' news' → BufAt w news' x dx (I.take pl ++ J ++ I.drop (pl + J.length)) (pl + J.length) → (∀ p ∈ news, p.1 ≠ dx → p ∈ news') → R (.ok (.ret .none)) { s with heap := h', toks := tk' }) →
    codeAny (model prg w) A (.call (.ref 188) ⟨[.ref x, .bytes v tv], []⟩) R s
noncomputable def S_pull_bytes (K : Params → Frag) (V : Program) : Prop :=
  ∀ ⦃w : World⦄ ⦃A : Around⦄ ⦃dp un : Nat⦄ ⦃gd : Option (List Code)⦄ ⦃env : Env⦄ ⦃outer : List Env⦄ ⦃h₀ : Heap⦄ ⦃L : Addr⦄ ⦃m : Str → Option Value⦄ ⦃news : List (Addr × Obj)⦄ ⦃s : Shared⦄ ⦃R : Result → Shared → Prop⦄
    ⦃x dx : Addr⦄ ⦃I : List Int⦄ ⦃pl k : Nat⦄ ⦃i : Int⦄ ⦃tv : Tok⦄,
    A = arn dp un gd env outer → Ctx K V w s h₀ L m news env outer → dp + 1 < recursionLimit → un + 50 < cLine → BufAt w news x dx I pl → I.length < 100000 → i = (k : Int) → pl + k ≤ I.length →
    (∀ h' tk' news' v tv', Fr h₀ L h' m → News h₀ L h' news' → BufAt w news' x dx I (pl + k) → KBw.bInts v = (I.drop pl).take k → (∀ p ∈ news, p.1 ≠ dx → p ∈ news') → R (.ok (.ret (.bytes v tv'))) { s with heap := h', toks := tk' }) →
    codeAny (model prg w) A (.call (.ref 146) ⟨[.ref x, .int i tv], []⟩) R s
noncomputable def S_buf_data (K : Params → Frag) (V : Program) : Prop :=
  ∀ ⦃w : World⦄ ⦃A : Around⦄ ⦃dp un : Nat⦄ ⦃gd : Option (List Code)⦄ ⦃env : Env⦄ ⦃outer : List Env⦄ ⦃h₀ : Heap⦄ ⦃L : Addr⦄ ⦃m : Str → Option Value⦄ ⦃news : List (Addr × Obj)⦄ ⦃s : Shared⦄ ⦃R : Result → Shared → Prop⦄
    ⦃x dx : Addr⦄ ⦃I : List Int⦄ ⦃pl : Nat⦄,
    A = arn dp un gd env outer → Ctx K V w s h₀ L m news env outer → dp + 1 < recursionLimit → un + 50 < cLine → BufAt w news x dx I pl → I.length < 100000 → 
    (∀ h' tk' news' v tv', Fr h₀ L h' m → News h₀ L h' news' → KBw.bInts v = I.take pl → (∀ p ∈ news, p ∈ news') → R (.ok (.ret (.bytes v tv'))) { s with heap := h', toks := tk' }) →
    codeAny (model prg w) A (.call (.ref 110) ⟨[.ref x], []⟩) R s
noncomputable def S_push_var (K : Params → Frag) (V : Program) : Prop :=
  ∀ ⦃w : World⦄ ⦃A : Around⦄ ⦃dp un : Nat⦄ ⦃gd : Option (List Code)⦄ ⦃env : Env⦄ ⦃outer : List Env⦄ ⦃h₀ : Heap⦄ ⦃L : Addr⦄ ⦃m : Str → Option Value⦄ ⦃news : List (Addr × Obj)⦄ ⦃s : Shared⦄ ⦃R : Result → Shared → Prop⦄
    ⦃x dx : Addr⦄ ⦃I : List Int⦄ ⦃pl : Nat⦄ ⦃v : Int⦄ ⦃tv : Tok⦄,
    A = arn dp un gd env outer → Ctx K V w s h₀ L m news env outer → dp + 3 < recursionLimit → un + 60 < cLine → BufAt w news x dx I pl → I.length < 100000 → 0 ≤ v → v ≤ 16383 → pl + (encV v).length ≤ I.length →
    (∀ h' tk' news', Fr h₀ L h' m → News h₀ L h' news' → BufAt w news' x dx (I.take pl ++ encV v ++ I.drop (pl + (encV v).length)) (pl + (encV v).length) → (∀ p ∈ news, p.1 ≠ dx → p ∈ news') → R (.ok (.ret .none)) { s with heap := h', toks := tk' }) →
    codeAny (model prg w) A (.call (.ref 223) ⟨[.ref x, .int v tv], []⟩) R s
noncomputable def S_pull_var (K : Params → Frag) (V : Program) : Prop :=
  ∀ ⦃w : World⦄ ⦃A : Around⦄ ⦃dp un : Nat⦄ ⦃gd : Option (List Code)⦄ ⦃env : Env⦄ ⦃outer : List Env⦄ ⦃h₀ : Heap⦄ ⦃L : Addr⦄ ⦃m : Str → Option Value⦄ ⦃news : List (Addr × Obj)⦄ ⦃s : Shared⦄ ⦃R : Result → Shared → Prop⦄
    ⦃x dx : Addr⦄ ⦃I : List Int⦄ ⦃pl : Nat⦄ ⦃v : Int⦄ ⦃rest' : List Int⦄,
    A = arn dp un gd env outer → Ctx K V w s h₀ L m news env outer → dp + 3 < recursionLimit → un + 60 < cLine → BufAt w news x dx I pl → I.length < 100000 → 0 ≤ v → v ≤ 16383 → I.drop pl = encV v ++ rest' →
    (∀ h' tk' news' tv', Fr h₀ L h' m → News h₀ L h' news' → BufAt w news' x dx I (pl + (encV v).length) → (∀ p ∈ news, p.1 ≠ dx → p ∈ news') → R (.ok (.ret (.int v tv'))) { s with heap := h', toks := tk' }) →
    codeAny (model prg w) A (.call (.ref 181) ⟨[.ref x], []⟩) R s
noncomputable def S_push_varW (K : Params → Frag) (V : Program) : Prop :=
  ∀ ⦃w : World⦄ ⦃A : Around⦄ ⦃dp un : Nat⦄ ⦃gd : Option (List Code)⦄ ⦃env : Env⦄ ⦃outer : List Env⦄ ⦃h₀ : Heap⦄ ⦃L : Addr⦄ ⦃m : Str → Option Value⦄ ⦃news : List (Addr × Obj)⦄ ⦃s : Shared⦄ ⦃R : Result → Shared → Prop⦄
    ⦃x dx : Addr⦄ ⦃I Wr : List Int⦄ ⦃v : Int⦄ ⦃tv : Tok⦄,
    A = arn dp un gd env outer → Ctx K V w s h₀ L m news env outer → dp + 3 < recursionLimit → un + 60 < cLine → BufW w news x dx I Wr → I.length < 100000 → 0 ≤ v → v ≤ 16383 → Wr.length + (encV v).length ≤ I.length →
    (∀ h' tk' news', Fr h₀ L h' m → News h₀ L h' news' → BufW w news' x dx I (Wr ++ encV v) → (∀ p ∈ news, p.1 ≠ dx → p ∈ news') → R (.ok (.ret .none)) { s with heap := h', toks := tk' }) →
    codeAny (model prg w) A (.call (.ref 223) ⟨[.ref x, .int v tv], []⟩) R s
noncomputable def S_size_var (K : Params → Frag) (V : Program) : Prop :=
  ∀ ⦃w : World⦄ ⦃A : Around⦄ ⦃dp un : Nat⦄ ⦃gd : Option (List Code)⦄ ⦃env : Env⦄ ⦃outer : List Env⦄ ⦃h₀ : Heap⦄ ⦃L : Addr⦄ ⦃m : Str → Option Value⦄ ⦃news : List (Addr × Obj)⦄ ⦃s : Shared⦄ ⦃R : Result → Shared → Prop⦄
    ⦃v : Int⦄ ⦃tv : Tok⦄,
    A = arn dp un gd env outer → Ctx K V w s h₀ L m news env outer → dp + 1 < recursionLimit → un + 50 < cLine → v ≤ 16383 →
    (∀ h' tk' fs t', Fr h₀ L h' m → News h₀ L h' news → fs = 1 ∧ v ≤ 63 ∨ fs = 2 ∧ 63 < v → R (.ok (.ret (.int fs t'))) { s with heap := h', toks := tk' }) →
    codeAny (model prg w) A (.call (.ref 237) ⟨[.int v tv], []⟩) R s
noncomputable def S_push_ack (K : Params → Frag) (V : Program) : Prop :=
  ∀ ⦃w : World⦄ ⦃A : Around⦄ ⦃dp un : Nat⦄ ⦃gd : Option (List Code)⦄ ⦃env : Env⦄ ⦃outer : List Env⦄ ⦃h₀ : Heap⦄ ⦃L : Addr⦄ ⦃m : Str → Option Value⦄ ⦃news : List (Addr × Obj)⦄ ⦃s : Shared⦄ ⦃R : Result → Shared → Prop⦄
    ⦃x dx q dq l : Addr⦄ ⦃I : List Int⦄ ⦃rs : List (Int × Int)⦄ ⦃p : Int × Int⦄ ⦃rv : List (Int × Int)⦄ ⦃cap : Int⦄ ⦃t7 tc : Tok⦄,
    A = arn dp un gd env outer → Ctx K V w s h₀ L m news env outer → dp + 6 < recursionLimit → un + 80 < cLine → BufAt w news x dx I 0 → QAt w news q dq l rs → @Ne Nat dq dx → rs.reverse = p :: rv → SepD 16384 (p :: rv) → rs.length ≤ 64 → cap = I.length → 32 ≤ cap → cap < 100000 →
    (∀ h' tk' news' (k : Nat) t', Fr h₀ L h' m → News h₀ L h' news' → BufAt w news' x dx (encs (frameV p rv k) ++ I.drop (encs (frameV p rv k)).length) (encs (frameV p rv k)).length → (∀ p ∈ news, p.1 ≠ dx → p ∈ news') →
      1 ≤ k → k ≤ rs.length → (16 * ((rs.length : Int) + 1) ≤ cap → k = rs.length) → R (.ok (.ret (.int (k : Int) t'))) { s with heap := h', toks := tk' }) →
    codeAny (model prg w) A (.call (.ref 352) ⟨[.ref x, .ref q, .int 7 t7, .int cap tc], []⟩) R s
noncomputable def S_rs_new (K : Params → Frag) (V : Program) : Prop :=
  ∀ ⦃w : World⦄ ⦃A : Around⦄ ⦃dp un : Nat⦄ ⦃gd : Option (List Code)⦄ ⦃env : Env⦄ ⦃outer : List Env⦄ ⦃h₀ : Heap⦄ ⦃L : Addr⦄ ⦃m : Str → Option Value⦄ ⦃news : List (Addr × Obj)⦄ ⦃s : Shared⦄ ⦃R : Result → Shared → Prop⦄,
    A = arn dp un gd env outer → Ctx K V w s h₀ L m news env outer → dp + 3 < recursionLimit → un + 60 < cLine →
    (∀ h' tk' news' q dq l, Fr h₀ L h' m → News h₀ L h' news' → QAt w news' q dq l [] → (∀ p ∈ news, p ∈ news') → (∀ p ∈ news, @LT.lt Nat _ p.1 q ∧ @LT.lt Nat _ p.1 dq ∧ @LT.lt Nat _ p.1 l) → R (.ok (.ret (.ref q))) { s with heap := h', toks := tk' }) →
    codeAny (model prg w) A (.call (.ref 334) ⟨[], []⟩) R s
noncomputable def S_buf_cap (K : Params → Frag) (V : Program) : Prop :=
  ∀ ⦃w : World⦄ ⦃A : Around⦄ ⦃dp un : Nat⦄ ⦃gd : Option (List Code)⦄ ⦃env : Env⦄ ⦃outer : List Env⦄ ⦃h₀ : Heap⦄ ⦃L : Addr⦄ ⦃m : Str → Option Value⦄ ⦃news : List (Addr × Obj)⦄ ⦃s : Shared⦄ ⦃R : Result → Shared → Prop⦄ ⦃n : Int⦄ ⦃tn : Tok⦄,
    A = arn dp un gd env outer → Ctx K V w s h₀ L m news env outer → dp + 3 < recursionLimit → un + 60 < cLine → 0 ≤ n → n ≤ 2 ^ 16 →
    (∀ h' tk' news' x dx, Fr h₀ L h' m → News h₀ L h' news' → BufAt w news' x dx (List.replicate n.toNat 0) 0 → (∀ p ∈ news, p ∈ news') → (∀ p ∈ news, @LT.lt Nat _ p.1 dx) → R (.ok (.ret (.ref x))) { s with heap := h', toks := tk' }) →
    codeP (model prg w) A (.call (.ref 226) ⟨[], [(Str.ofString "capacity", .int n tn)]⟩) R s
noncomputable def S_buf_new (K : Params → Frag) (V : Program) : Prop :=
  ∀ ⦃w : World⦄ ⦃A : Around⦄ ⦃dp un : Nat⦄ ⦃gd : Option (List Code)⦄ ⦃env : Env⦄ ⦃outer : List Env⦄ ⦃h₀ : Heap⦄ ⦃L : Addr⦄ ⦃m : Str → Option Value⦄ ⦃news : List (Addr × Obj)⦄ ⦃s : Shared⦄ ⦃R : Result → Shared → Prop⦄ ⦃b : Array UInt8⦄ ⦃J : List Int⦄ ⦃tn : Tok⦄,
    A = arn dp un gd env outer → Ctx K V w s h₀ L m news env outer → dp + 3 < recursionLimit → un + 60 < cLine → KBw.bInts b = J → J.length < 2 ^ 16 →
    (∀ h' tk' news' x dx, Fr h₀ L h' m → News h₀ L h' news' → BufAt w news' x dx J 0 → (∀ p ∈ news, p ∈ news') → (∀ p ∈ news, @LT.lt Nat _ p.1 dx) → R (.ok (.ret (.ref x))) { s with heap := h', toks := tk' }) →
    codeP (model prg w) A (.call (.ref 226) ⟨[], [(Str.ofString "data", .bytes b tn)]⟩) R s
noncomputable def S_law_come (K : Params → Frag) (V : Program) : Prop :=
  ∀ ⦃w : World⦄ ⦃A : Around⦄ ⦃dp un : Nat⦄ ⦃gd : Option (List Code)⦄ ⦃env : Env⦄ ⦃outer : List Env⦄ ⦃h₀ : Heap⦄ ⦃L : Addr⦄ ⦃m : Str → Option Value⦄ ⦃news : List (Addr × Obj)⦄ ⦃s : Shared⦄ ⦃R : Result → Shared → Prop⦄
    ⦃a : Ad⦄ ⦃P : Pl⦄ ⦃n : Int⦄ ⦃tn : Tok⦄,
    A = arn dp un gd env outer → Ctx K V w s h₀ L m news env outer → dp + 3 < recursionLimit → un + 60 < cLine → StAt w news a P → Inv P → 0 ≤ n → n < 16383 → P.ord.length < 200 →
    (∀ h' tk' news' P', Fr h₀ L h' m → News h₀ L h' news' → StAt w news' a P' → Inv P' → P'.ord ≠ [] → P'.ord.length ≤ P.ord.length + 1 → (P'.g = P.g ∨ P'.g = n) → a.Kept news news' → R (.ok (.ret (.bool true))) { s with heap := h', toks := tk' }) →
    codeAny (model prg w) A (.call (.ref 359) ⟨[.ref a.sd, .int n tn], []⟩) R s
noncomputable def S_pull_ack (K : Params → Frag) (V : Program) : Prop :=
  ∀ ⦃w : World⦄ ⦃A : Around⦄ ⦃dp un : Nat⦄ ⦃gd : Option (List Code)⦄ ⦃env : Env⦄ ⦃outer : List Env⦄ ⦃h₀ : Heap⦄ ⦃L : Addr⦄ ⦃m : Str → Option Value⦄ ⦃news : List (Addr × Obj)⦄ ⦃s : Shared⦄ ⦃R : Result → Shared → Prop⦄
    ⦃x dx : Addr⦄ ⦃I ex : List Int⦄ ⦃p : Int × Int⦄ ⦃rv : List (Int × Int)⦄ ⦃k : Nat⦄,
    A = arn dp un gd env outer → Ctx K V w s h₀ L m news env outer → dp + 6 < recursionLimit → un + 80 < cLine → BufAt w news x dx I 0 → I.length < 100000 → I = encs (frameV p rv k) ++ ex → SepD 16384 (p :: rv) → 1 ≤ k → k ≤ rv.length + 1 → rv.length < 64 →
    (∀ h' tk' news' T q dq l t7, Fr h₀ L h' m → News h₀ L h' news' → (T, ({ cls := .type "tuple", data := .seq #[.ref q, .int 7 t7] 0 } : Obj)) ∈ news' → QAt w news' q dq l ((p :: rv).take k).reverse → (∀ p ∈ news, p.1 ≠ dx → p ∈ news') →
      (∀ p ∈ news, @LT.lt Nat _ p.1 q ∧ @LT.lt Nat _ p.1 dq ∧ @LT.lt Nat _ p.1 l) → R (.ok (.ret (.ref T))) { s with heap := h', toks := tk' }) →
    codeAny (model prg w) A (.call (.ref 345) ⟨[.ref x], []⟩) R s
set_option maxRecDepth 100000 in
set_option maxHeartbeats 0 in
set_option Elab.async true in
theorem hd : PySem.Challenge.rw_ay0001_01.Holds := by
  w_on; o_law; k_head; (case hw => w_witness2)
  refine (fun hC => ⟨hC, ?_⟩) ?hC
  case hC =>
    intro args hpre
    refine ⟨fun cls => rfl, ?_⟩
    first | rfl | wrow_post
  k_with_none
  k_with "enter" => (first
    | (refine' code_def ?zzk1 ?zzk2 ?zzk3 ?zzk4 ?zzk5 ?zzkA ?zzkF ?zzkK ?zzk6 ?zzk7 ?zzk8 ?zzk9 ?zzkB ?_ ?zzc2 ?zzc3 ?zzc4 ?zzc5; (case zzkA => exact rfl); (case zzkF => assumption); (case zzkK => assumption); (case zzk1 => k_asm); (case zzk2 => k_asm); (case zzk3 => k_asm); (case zzk4 => k_asm); (case zzk5 => k_asm); (case zzk6 => k_is); (case zzk7 => k_is); (case zzk8 => ktr_room); (case zzk9 => first | exact BindsTo.of_eq rfl | exact binds_K (by first | assumption | exact Frag.In.keeps (by k_asm) (Fr.keep (by k_asm))) rfl (by k_is) rfl rfl rfl); (case zzc5 => decide); (case zzkB => exact locs rfl); (case zzc2 => exact rfl); (case zzc3 => exact rfl); (case zzc4 => exact rfl); k_whole; intro _ _ _ _ _ _ _ _ _; (try dsimp only); (try k_fold))
    | (refine' code_defC ?zzk1 ?zzk2 ?zzk3 ?zzk4 ?zzk5 ?zzkA ?zzkF ?zzkK ?zzk6 ?zzk7 ?zzk8 ?zzk9 ?zzkB ?zzkD ?_ ?zzc2 ?zzc3 ?zzc4; (case zzkA => exact rfl); (case zzkF => assumption); (case zzkK => assumption); (case zzk1 => k_asm); (case zzk2 => k_asm); (case zzk3 => k_asm); (case zzk4 => k_asm); (case zzk5 => k_asm); (case zzk6 => k_is); (case zzk7 => k_is); (case zzk8 => ktr_room); (case zzk9 => first | exact BindsTo.of_eq rfl | exact binds_K (by first | assumption | exact Frag.In.keeps (by k_asm) (Fr.keep (by k_asm))) rfl (by k_is) rfl rfl rfl); (case zzkB => exact rfl); (case zzkD => decide +kernel); (case zzc2 => exact rfl); (case zzc3 => exact rfl); (case zzc4 => exact rfl); k_whole; intro _ _ _ _ _ _ _ N' Y' _ _ _ l1; (try k_lt l1); k_cells Y'; (try simp only [List.cons_append, List.nil_append] at N'); (try dsimp only); (try k_fold)))
  k_with "all" => (first
    | exact allLt_ne (by assumption) (by omega)
    | exact allLt_ne (by assumption : _ ∧ AllLt _ _).2 (by omega)
    | exact allLt_ne (by assumption : _ ∧ _ ∧ AllLt _ _).2.2 (by omega)
    | exact allLt_ne (by assumption : _ ∧ _ ∧ _ ∧ AllLt _ _).2.2.2 (by omega)
    | exact allLt_ne (by assumption : _ ∧ _ ∧ _ ∧ _ ∧ AllLt _ _).2.2.2.2 (by omega)
    | exact allLt_ne (by assumption : _ ∧ _ ∧ _ ∧ _ ∧ _ ∧ AllLt _ _).2.2.2.2.2 (by omega))
  k_with "callWith ref" => (k_here; k_dflt (first
    | refine' callWith_K ?zzk1 ?zzk2 ?_; (case zzk1 => k_asm); (case zzk2 => k_is); k_whole
    | refine' callWith_K0 ?zzk1 ?zzk2 ?_; (case zzk1 => first | assumption | exact Frag.In.keeps (by k_asm) (Fr.keep (by k_asm))); (case zzk2 => k_is); k_whole))
  k_with "inst" => (first
    | (refine' InstAt.of_news ?zzN ?zzh1 ?zzh2; (case zzN => k_asm); (case zzh1 => k_mem); (case zzh2 => k_mem))
    | exact QAt.inst (by assumption) (by k_asm)
    | exact BufAt.inst (by assumption) (by k_asm)
    | exact WinAt.inst (by assumption) (by k_asm))
  k_with "ctx" => exact ⟨⟨_, _, by assumption⟩, by k_asm, by assumption, by k_asm, ⟨_, _, _, _, by assumption⟩, rfl, rfl⟩
  k_with "room" => (first | omega | (dsimp only [arn, Around.deeper]; omega) | decide +kernel)
  k_with "sz" => (repeat (first | assumption | refine SzB.pick ?_ | refine SzB.app (n := 100000) (k := 100000) ?_ ?_))
  k_with "exec While" => (k_here; refine hold_intro ?_)
  k_with "last exec While" => (k_here; refine hold_intro ?_)
  k_with "exec While Compare" => (k_here; refine hold_intro ?_)
  k_with "exec While BoolOp" => (k_here; refine hold_intro ?_)
  k_with "exec For" => (k_here; (rename HoldIf => hMk); clear hMk; refine hold_intro ?_)
  k_with "exec For Name Call cons nil" => (k_here; (rename HoldIf => hMk); clear hMk; refine hold_intro ?_)
  k_with "exec For Name Call" => (k_here; (rename HoldIf => hMk); clear hMk; refine hold_intro ?_)
  k_with "exec If" => (k_here; (rename HoldIf => hMk); clear hMk; refine hold_intro ?_)
  k_with "call builtin:set.add" => (k_here; kse_here; (with_reducible show wpAny _ _ (call (Value.builtin "set.add") [Value.ref _, Value.int _ _]) _ _ _); k_dflt (refine' set_add_fresh ?zzF ?zzN ?zzU ?zzd ?zzz ?zzf ?_; (case zzF => k_asm); (case zzN => k_asm); (case zzU => k_updF); (case zzd => k_asm); (case zzz => kse_small); (case zzf => assumption)); intro _ _ F' N' _; (try dsimp only at N'))
  k_with "call builtin:len" => (k_here; (with_reducible show wpAny _ _ (call (Value.builtin "len") [Value.ref _]) _ _ _); k_dflt (refine' rl_len ?zzN ?zzm ?zzR ?zzb ?_; (case zzN => k_asm); (case zzm => k_mem); (case zzR => assumption); (case zzb => omega)))
  k_with "subscriptTail" => (k_here; (with_reducible show wpAny _ _ (subscriptTail _ _ (Value.ref _) (Value.int _ _)) _ _ _); k_dflt (refine' rl_sub ?zzN ?zzm ?zzR ?zzb ?zzi ?_ ?zzhs; (case zzN => k_asm); (case zzm => k_mem); (case zzR => assumption); (case zzb => omega); (case zzi => first | exact .inl ⟨by omega, by assumption⟩ | exact .inr ⟨rfl, by assumption⟩); (case zzhs => with_unfolding_all rfl)); intro _ _ _ _ _)
  k_with "getAttr ref" => (k_here; k_dflt (first
    | ((with_reducible show wpAny _ _ (getAttr (Value.ref _) (PySem.Str.ofString "start") _) _ _ _); refine' rk_start ?zzN ?zzm ?_; (case zzN => k_asm); (case zzm => first | k_mem | assumption))
    | ((with_reducible show wpAny _ _ (getAttr (Value.ref _) (PySem.Str.ofString "stop") _) _ _ _); refine' rk_stop ?zzN ?zzm ?_; (case zzN => k_asm); (case zzm => first | k_mem | assumption))))
  k_with "call builtin:list.pop" => (k_here; (with_reducible show wpAny _ _ (call (Value.builtin _) [Value.ref _, Value.int _ _]) _ _ _); k_dflt (refine' rl_pop ?zzF ?zzN ?zzR ?zzb ?zzh0 ?zzp ?zzU ?_; (case zzF => k_asm); (case zzN => k_asm); (case zzR => assumption); (case zzb => first | omega | (simp only [List.length_cons]; omega)); (case zzh0 => first | decide | omega); (case zzp => first | exact rfl | assumption); (case zzU => k_upd)); intro h' _; revert h'; walk_at "i:hFN")
  k_with "call type:range" => (k_here; (with_reducible show wpAny _ _ (call (Value.type "range") [Value.int _ _, Value.int _ _]) _ _ _); k_dflt (refine' rk_new ?zzF ?zzN ?_; (case zzF => k_asm); (case zzN => k_asm)); intro rNew _ _ _ _ _ lRng; (have l1 := lRng); (try k_lt l1))
  k_with "compareOp In int ref" => (k_here; (with_reducible show wpAny _ _ (compareOp CmpOp.In (Value.int _ _) (Value.ref _)) _ _ _); k_dflt (refine' rk_contains ?zzN ?zzm ?_; (case zzN => k_asm); (case zzm => first | k_mem | assumption | exact .tail _ (by assumption))))
  k_with "call builtin:list.insert" => (k_here; (with_reducible show wpAny _ _ (call (Value.builtin _) [Value.ref _, Value.int _ _, _]) _ _ _); k_dflt (refine' rl_insert ?zzF ?zzN ?zzR ?zzb ?zzh0 ?zzp ?zzU ?_; (case zzF => k_asm); (case zzN => k_asm); (case zzR => first | assumption | exact RngsAt.tail1 (by assumption)); (case zzb => omega); (case zzh0 => omega); (case zzp => omega); (case zzU => k_upd)); walk_at "i:hFN")
  k_with "setItem ref int" => (k_here; (with_reducible show wpAny _ _ (setItem (Value.ref _) (Value.int _ _) (Value.ref _)) _ _ _); k_dflt (refine' rl_set ?zzF ?zzN ?zzR ?zzb ?zzh0 ?zzp ?zzU ?_; (case zzF => k_asm); (case zzN => k_asm); (case zzR => first | assumption | exact RngsAt.tail1 (by assumption)); (case zzb => omega); (case zzh0 => omega); (case zzp => omega); (case zzU => k_upd)); walk_at "i:hFN")
  k_with "call builtin:list.append" => (k_here; (with_reducible show wpAny _ _ (call (Value.builtin _) [Value.ref _, Value.ref _]) _ _ _); k_dflt (refine' rl_append ?zzF ?zzN ?zzR ?zzb ?zzU ?_; (case zzF => k_asm); (case zzN => k_asm); (case zzR => first | assumption | exact RngsAt.tail1 (by assumption)); (case zzb => omega); (case zzU => k_upd)); walk_at "i:hFN")
  k_with "call builtin:len" => (k_here; (with_reducible show wpAny _ _ (call (Value.builtin "len") [Value.ref _]) _ _ _); k_dflt (refine' bk_len ?zzN ?zzm ?zzR ?zzb ?_; (case zzN => k_asm); (case zzm => k_mem); (case zzR => assumption); (case zzb => omega)); intro _ _)
  k_with "subscriptTail" => (k_here; (with_reducible show wpAny _ _ (subscriptTail _ (Expr.Slice _ _ none _) (Value.ref _) (Value.ref _)) _ _ _); k_dflt (refine' bk_slice (nb := 100000) (s := ⟨_, _, _, _, _⟩) ?zzF ?zzN ?zzm ?zzl ?zzu ?zzb ?zzz ?_ ?zzhs; (case zzF => k_asm); (case zzN => k_asm); (case zzm => k_mem); (case zzl => constructor); (case zzu => constructor); (case zzb => k_extra "sz"); (case zzz => decide); (case zzhs => with_unfolding_all rfl)); intro _ _ _ _ _ lBa; (have l1 := lBa); (try k_lt l1))
  k_with "binaryOp Add ref ref" => (k_here; k_dflt ((with_reducible show wpAny _ _ (binaryOp _ (Value.ref _) (Value.ref _)) _ _ _); refine' bk_add (nb := 200000) (nc := 100000) ?zzF ?zzN ?zzm ?zzm2 ?zzb ?zzc ?zzz ?_; (case zzF => k_asm); (case zzN => k_asm); (case zzm => k_mem); (case zzm2 => k_mem); (case zzb => k_extra "sz"); (case zzc => k_extra "sz"); (case zzz => decide)); intro _ _ _ _ _ lBa; (have l1 := lBa); (try k_lt l1))
  k_with "binaryOp Add ref bytes" => (k_here; k_dflt ((with_reducible show wpAny _ _ (binaryOp _ (Value.ref _) (Value.bytes _ _)) _ _ _); refine' bk_addB (nb := 100000) (nc := 100000) ?zzF ?zzN ?zzm ?zzb ?zzc ?zzz ?_; (case zzF => k_asm); (case zzN => k_asm); (case zzm => k_mem); (case zzb => k_extra "sz"); (case zzc => k_extra "sz"); (case zzz => decide)); intro _ _ _ _ _ lBa; (have l1 := lBa); (try k_lt l1))
  k_with "binaryOp Add ref" => walk_at "binaryOp Add ref bytes"
  k_with "call type:bytes" => (k_here; (with_reducible show wpAny _ _ (call (Value.type "bytes") [Value.ref _]) _ _ _); k_dflt (refine' bk_bytes (nb := 100000) ?zzN ?zzm ?zzb ?zzz ?_; (case zzN => k_asm); (case zzm => k_mem); (case zzb => k_extra "sz"); (case zzz => decide)); intro _ _)
  k_with "subscriptTail" => (k_here; (with_reducible show wpAny _ _ (subscriptTail _ _ (Value.ref _) (Value.int _ _)) _ _ _); k_dflt (refine' bk_item ?zzN ?zzm ?zzI ?zzx ?zzh0 ?zzhi ?_ ?zzhs; (case zzN => k_asm); (case zzm => k_mem); (case zzI => assumption); (case zzx => assumption); (case zzh0 => omega); (case zzhi => omega); (case zzhs => with_unfolding_all rfl)); intro _ _)
  k_with "binaryOp RShift int int" => (k_here; refine' shr_f ?zze ?zzn ?_; (case zze => assumption); (case zzn => decide))
  k_with "binaryOp LShift int int" => (k_here; refine' shl_f ?zze ?zzn ?zzn2 ?zza ?_; (case zze => assumption); (case zzn => decide); (case zzn2 => decide); (case zza => decide))
  k_with "binaryOp BitAnd int int" => (k_here; refine' and_f ?zze ?_; (case zze => assumption))
  k_with "binaryOp BitOr int int" => (k_here; refine' or_f ?zze ?_; (case zze => assumption))
  k_with "spliced" => (k_here; first | refine args_cons ?_ | refine args_nil ⟨Fr.keep (by assumption) _ _ (by assumption), ?_⟩ | (refine args_nil ?_; try simp only [List.cons_append, List.nil_append]))
  have rs_iter : S_rs_iter Mine.hd.heap_1_39 Mine.hd.view_1_40 := by
    as_aux_lemma =>
      have hfill : (fun _ : OpenLaw × (Params → Frag) => True) (PySem.Challenge.rw_ay0001_01, Mine.hd.heap_1_39) := by k_fill; trivial
      clear hfill
      unfold S_rs_iter
      intro w A dp un gd env outer h₀ L m news s R q dq l rs hA ⟨⟨A₀, base, B⟩, F, X, N, ⟨loose, mean, mg, mb, T⟩, hf, hk⟩ hd hu hQ ret
      subst hA
      obtain ⟨t, vs, n, hq, hdq, hl, hR⟩ := id hQ
      k_enter
      k_with "call builtin:iter" => (k_here; refine hold_intro ?_)
      k_steps
      refine ⟨call_iter_l (by assumption) (by assumption) hl ?_⟩
      intro h9 it F9 N9 lt9
      k_steps
      exact ret _ _ _ (by assumption) (by assumption) lt9
  have rs_eq : S_rs_eq Mine.hd.heap_1_39 Mine.hd.view_1_40 := by
    as_aux_lemma =>
      have hfill : (fun _ : OpenLaw × (Params → Frag) => True) (PySem.Challenge.rw_ay0001_01, Mine.hd.heap_1_39) := by k_fill; trivial
      clear hfill
      unfold S_rs_eq
      intro w A dp un gd env outer h₀ L m news s R q dq l q2 dq2 l2 rs hA ⟨⟨A₀, base, B⟩, F, X, N, ⟨loose, mean, mg, mb, T⟩, hf, hk⟩ hd hu hQ hQ2 ret
      subst hA
      obtain ⟨t, vs, n, hq, hdq, hl, hR⟩ := id hQ
      obtain ⟨t2, vs2, n2, hq2, hdq2, hl2, hR2⟩ := id hQ2
      k_enter
      k_with "call builtin:isinstance" => (k_here; k_dflt (refine' isi_call ?zzk1 ?zzk2 ?zzk3 ?zzk4 ?_; (case zzk1 => first | assumption | exact Frag.In.keeps (by k_asm) (Fr.keep (by k_asm))); (case zzk2 => k_types); (case zzk3 => k_is); (case zzk4 => intro e; cases e); k_whole))
      k_with "compareOp Eq ref ref" => (k_here; refine hold_intro ?_)
      k_steps
      refine ⟨rl_eq (by assumption) hl hl2 hR hR2 (by k_extra "room") (by (rw [units_in1]; k_extra "room")) ?_⟩
      k_steps
      exact ret _ _ (by assumption) (by assumption)
  k_with_none
  k_with "enter" => (first
    | (refine' code_def ?zzk1 ?zzk2 ?zzk3 ?zzk4 ?zzk5 ?zzkA ?zzkF ?zzkK ?zzk6 ?zzk7 ?zzk8 ?zzk9 ?zzkB ?_ ?zzc2 ?zzc3 ?zzc4 ?zzc5; (case zzkA => exact rfl); (case zzkF => assumption); (case zzkK => assumption); (case zzk1 => k_asm); (case zzk2 => k_asm); (case zzk3 => k_asm); (case zzk4 => k_asm); (case zzk5 => k_asm); (case zzk6 => k_is); (case zzk7 => k_is); (case zzk8 => ktr_room); (case zzk9 => first | exact BindsTo.of_eq rfl | exact binds_K (by first | assumption | exact Frag.In.keeps (by k_asm) (Fr.keep (by k_asm))) rfl (by k_is) rfl rfl rfl); (case zzc5 => decide); (case zzkB => exact locs rfl); (case zzc2 => exact rfl); (case zzc3 => exact rfl); (case zzc4 => exact rfl); k_whole; intro _ _ _ _ _ _ _ _ _; (try dsimp only); (try k_fold))
    | (refine' code_defC ?zzk1 ?zzk2 ?zzk3 ?zzk4 ?zzk5 ?zzkA ?zzkF ?zzkK ?zzk6 ?zzk7 ?zzk8 ?zzk9 ?zzkB ?zzkD ?_ ?zzc2 ?zzc3 ?zzc4; (case zzkA => exact rfl); (case zzkF => assumption); (case zzkK => assumption); (case zzk1 => k_asm); (case zzk2 => k_asm); (case zzk3 => k_asm); (case zzk4 => k_asm); (case zzk5 => k_asm); (case zzk6 => k_is); (case zzk7 => k_is); (case zzk8 => ktr_room); (case zzk9 => first | exact BindsTo.of_eq rfl | exact binds_K (by first | assumption | exact Frag.In.keeps (by k_asm) (Fr.keep (by k_asm))) rfl (by k_is) rfl rfl rfl); (case zzkB => exact rfl); (case zzkD => decide +kernel); (case zzc2 => exact rfl); (case zzc3 => exact rfl); (case zzc4 => exact rfl); k_whole; intro _ _ _ _ _ _ _ N' Y' _ _ _ l1; (try k_lt l1); k_cells Y'; (try simp only [List.cons_append, List.nil_append] at N'); (try dsimp only); (try k_fold)))
  k_with "all" => (first
    | exact allLt_ne (by assumption) (by omega)
    | exact allLt_ne (by assumption : _ ∧ AllLt _ _).2 (by omega)
    | exact allLt_ne (by assumption : _ ∧ _ ∧ AllLt _ _).2.2 (by omega)
    | exact allLt_ne (by assumption : _ ∧ _ ∧ _ ∧ AllLt _ _).2.2.2 (by omega)
    | exact allLt_ne (by assumption : _ ∧ _ ∧ _ ∧ _ ∧ AllLt _ _).2.2.2.2 (by omega)
    | exact allLt_ne (by assumption : _ ∧ _ ∧ _ ∧ _ ∧ _ ∧ AllLt _ _).2.2.2.2.2 (by omega))
  k_with "callWith ref" => (k_here; k_dflt (first
    | refine' callWith_K ?zzk1 ?zzk2 ?_; (case zzk1 => k_asm); (case zzk2 => k_is); k_whole
    | refine' callWith_K0 ?zzk1 ?zzk2 ?_; (case zzk1 => first | assumption | exact Frag.In.keeps (by k_asm) (Fr.keep (by k_asm))); (case zzk2 => k_is); k_whole))
  k_with "inst" => (first
    | (refine' InstAt.of_news ?zzN ?zzh1 ?zzh2; (case zzN => k_asm); (case zzh1 => k_mem); (case zzh2 => k_mem))
    | exact QAt.inst (by assumption) (by k_asm)
    | exact BufAt.inst (by assumption) (by k_asm)
    | exact WinAt.inst (by assumption) (by k_asm))
  k_with "ctx" => exact ⟨⟨_, _, by assumption⟩, by k_asm, by assumption, by k_asm, ⟨_, _, _, _, by assumption⟩, rfl, rfl⟩
  k_with "room" => (first | omega | (dsimp only [arn, Around.deeper]; omega) | decide +kernel)
  k_with "sz" => (repeat (first | assumption | refine SzB.pick ?_ | refine SzB.app (n := 100000) (k := 100000) ?_ ?_))
  k_with "exec While" => (k_here; refine hold_intro ?_)
  k_with "last exec While" => (k_here; refine hold_intro ?_)
  k_with "exec While Compare" => (k_here; refine hold_intro ?_)
  k_with "exec While BoolOp" => (k_here; refine hold_intro ?_)
  k_with "exec For" => (k_here; (rename HoldIf => hMk); clear hMk; refine hold_intro ?_)
  k_with "exec For Name Call cons nil" => (k_here; (rename HoldIf => hMk); clear hMk; refine hold_intro ?_)
  k_with "exec For Name Call" => (k_here; (rename HoldIf => hMk); clear hMk; refine hold_intro ?_)
  k_with "exec If" => (k_here; (rename HoldIf => hMk); clear hMk; refine hold_intro ?_)
  k_with "call builtin:set.add" => (k_here; kse_here; (with_reducible show wpAny _ _ (call (Value.builtin "set.add") [Value.ref _, Value.int _ _]) _ _ _); k_dflt (refine' set_add_fresh ?zzF ?zzN ?zzU ?zzd ?zzz ?zzf ?_; (case zzF => k_asm); (case zzN => k_asm); (case zzU => k_updF); (case zzd => k_asm); (case zzz => kse_small); (case zzf => assumption)); intro _ _ F' N' _; (try dsimp only at N'))
  k_with "call builtin:len" => (k_here; (with_reducible show wpAny _ _ (call (Value.builtin "len") [Value.ref _]) _ _ _); k_dflt (refine' rl_len ?zzN ?zzm ?zzR ?zzb ?_; (case zzN => k_asm); (case zzm => k_mem); (case zzR => assumption); (case zzb => omega)))
  k_with "subscriptTail" => (k_here; (with_reducible show wpAny _ _ (subscriptTail _ _ (Value.ref _) (Value.int _ _)) _ _ _); k_dflt (refine' rl_sub ?zzN ?zzm ?zzR ?zzb ?zzi ?_ ?zzhs; (case zzN => k_asm); (case zzm => k_mem); (case zzR => assumption); (case zzb => omega); (case zzi => first | exact .inl ⟨by omega, by assumption⟩ | exact .inr ⟨rfl, by assumption⟩); (case zzhs => with_unfolding_all rfl)); intro _ _ _ _ _)
  k_with "getAttr ref" => (k_here; k_dflt (first
    | ((with_reducible show wpAny _ _ (getAttr (Value.ref _) (PySem.Str.ofString "start") _) _ _ _); refine' rk_start ?zzN ?zzm ?_; (case zzN => k_asm); (case zzm => first | k_mem | assumption))
    | ((with_reducible show wpAny _ _ (getAttr (Value.ref _) (PySem.Str.ofString "stop") _) _ _ _); refine' rk_stop ?zzN ?zzm ?_; (case zzN => k_asm); (case zzm => first | k_mem | assumption))))
  k_with "call builtin:list.pop" => (k_here; (with_reducible show wpAny _ _ (call (Value.builtin _) [Value.ref _, Value.int _ _]) _ _ _); k_dflt (refine' rl_pop ?zzF ?zzN ?zzR ?zzb ?zzh0 ?zzp ?zzU ?_; (case zzF => k_asm); (case zzN => k_asm); (case zzR => assumption); (case zzb => first | omega | (simp only [List.length_cons]; omega)); (case zzh0 => first | decide | omega); (case zzp => first | exact rfl | assumption); (case zzU => k_upd)); intro h' _; revert h'; walk_at "i:hFN")
  k_with "call type:range" => (k_here; (with_reducible show wpAny _ _ (call (Value.type "range") [Value.int _ _, Value.int _ _]) _ _ _); k_dflt (refine' rk_new ?zzF ?zzN ?_; (case zzF => k_asm); (case zzN => k_asm)); intro rNew _ _ _ _ _ lRng; (have l1 := lRng); (try k_lt l1))
  k_with "compareOp In int ref" => (k_here; (with_reducible show wpAny _ _ (compareOp CmpOp.In (Value.int _ _) (Value.ref _)) _ _ _); k_dflt (refine' rk_contains ?zzN ?zzm ?_; (case zzN => k_asm); (case zzm => first | k_mem | assumption | exact .tail _ (by assumption))))
  k_with "call builtin:list.insert" => (k_here; (with_reducible show wpAny _ _ (call (Value.builtin _) [Value.ref _, Value.int _ _, _]) _ _ _); k_dflt (refine' rl_insert ?zzF ?zzN ?zzR ?zzb ?zzh0 ?zzp ?zzU ?_; (case zzF => k_asm); (case zzN => k_asm); (case zzR => first | assumption | exact RngsAt.tail1 (by assumption)); (case zzb => omega); (case zzh0 => omega); (case zzp => omega); (case zzU => k_upd)); walk_at "i:hFN")
  k_with "setItem ref int" => (k_here; (with_reducible show wpAny _ _ (setItem (Value.ref _) (Value.int _ _) (Value.ref _)) _ _ _); k_dflt (refine' rl_set ?zzF ?zzN ?zzR ?zzb ?zzh0 ?zzp ?zzU ?_; (case zzF => k_asm); (case zzN => k_asm); (case zzR => first | assumption | exact RngsAt.tail1 (by assumption)); (case zzb => omega); (case zzh0 => omega); (case zzp => omega); (case zzU => k_upd)); walk_at "i:hFN")
  k_with "call builtin:list.append" => (k_here; (with_reducible show wpAny _ _ (call (Value.builtin _) [Value.ref _, Value.ref _]) _ _ _); k_dflt (refine' rl_append ?zzF ?zzN ?zzR ?zzb ?zzU ?_; (case zzF => k_asm); (case zzN => k_asm); (case zzR => first | assumption | exact RngsAt.tail1 (by assumption)); (case zzb => omega); (case zzU => k_upd)); walk_at "i:hFN")
  k_with "call builtin:len" => (k_here; (with_reducible show wpAny _ _ (call (Value.builtin "len") [Value.ref _]) _ _ _); k_dflt (refine' bk_len ?zzN ?zzm ?zzR ?zzb ?_; (case zzN => k_asm); (case zzm => k_mem); (case zzR => assumption); (case zzb => omega)); intro _ _)
  k_with "subscriptTail" => (k_here; (with_reducible show wpAny _ _ (subscriptTail _ (Expr.Slice _ _ none _) (Value.ref _) (Value.ref _)) _ _ _); k_dflt (refine' bk_slice (nb := 100000) (s := ⟨_, _, _, _, _⟩) ?zzF ?zzN ?zzm ?zzl ?zzu ?zzb ?zzz ?_ ?zzhs; (case zzF => k_asm); (case zzN => k_asm); (case zzm => k_mem); (case zzl => constructor); (case zzu => constructor); (case zzb => k_extra "sz"); (case zzz => decide); (case zzhs => with_unfolding_all rfl)); intro _ _ _ _ _ lBa; (have l1 := lBa); (try k_lt l1))
  k_with "binaryOp Add ref ref" => (k_here; k_dflt ((with_reducible show wpAny _ _ (binaryOp _ (Value.ref _) (Value.ref _)) _ _ _); refine' bk_add (nb := 200000) (nc := 100000) ?zzF ?zzN ?zzm ?zzm2 ?zzb ?zzc ?zzz ?_; (case zzF => k_asm); (case zzN => k_asm); (case zzm => k_mem); (case zzm2 => k_mem); (case zzb => k_extra "sz"); (case zzc => k_extra "sz"); (case zzz => decide)); intro _ _ _ _ _ lBa; (have l1 := lBa); (try k_lt l1))
  k_with "binaryOp Add ref bytes" => (k_here; k_dflt ((with_reducible show wpAny _ _ (binaryOp _ (Value.ref _) (Value.bytes _ _)) _ _ _); refine' bk_addB (nb := 100000) (nc := 100000) ?zzF ?zzN ?zzm ?zzb ?zzc ?zzz ?_; (case zzF => k_asm); (case zzN => k_asm); (case zzm => k_mem); (case zzb => k_extra "sz"); (case zzc => k_extra "sz"); (case zzz => decide)); intro _ _ _ _ _ lBa; (have l1 := lBa); (try k_lt l1))
  k_with "binaryOp Add ref" => walk_at "binaryOp Add ref bytes"
  k_with "call type:bytes" => (k_here; (with_reducible show wpAny _ _ (call (Value.type "bytes") [Value.ref _]) _ _ _); k_dflt (refine' bk_bytes (nb := 100000) ?zzN ?zzm ?zzb ?zzz ?_; (case zzN => k_asm); (case zzm => k_mem); (case zzb => k_extra "sz"); (case zzz => decide)); intro _ _)
  k_with "subscriptTail" => (k_here; (with_reducible show wpAny _ _ (subscriptTail _ _ (Value.ref _) (Value.int _ _)) _ _ _); k_dflt (refine' bk_item ?zzN ?zzm ?zzI ?zzx ?zzh0 ?zzhi ?_ ?zzhs; (case zzN => k_asm); (case zzm => k_mem); (case zzI => assumption); (case zzx => assumption); (case zzh0 => omega); (case zzhi => omega); (case zzhs => with_unfolding_all rfl)); intro _ _)
  k_with "binaryOp RShift int int" => (k_here; refine' shr_f ?zze ?zzn ?_; (case zze => assumption); (case zzn => decide))
  k_with "binaryOp LShift int int" => (k_here; refine' shl_f ?zze ?zzn ?zzn2 ?zza ?_; (case zze => assumption); (case zzn => decide); (case zzn2 => decide); (case zza => decide))
  k_with "binaryOp BitAnd int int" => (k_here; refine' and_f ?zze ?_; (case zze => assumption))
  k_with "binaryOp BitOr int int" => (k_here; refine' or_f ?zze ?_; (case zze => assumption))
  k_with "spliced" => (k_here; first | refine args_cons ?_ | refine args_nil ⟨Fr.keep (by assumption) _ _ (by assumption), ?_⟩ | (refine args_nil ?_; try simp only [List.cons_append, List.nil_append]))
  have win_contains : S_win_contains Mine.hd.heap_1_39 Mine.hd.view_1_40 := by
    as_aux_lemma =>
      have hfill : (fun _ : OpenLaw × (Params → Frag) => True) (PySem.Challenge.rw_ay0001_01, Mine.hd.heap_1_39) := by k_fill; trivial
      clear hfill
      unfold S_win_contains
      intro w A dp un gd env outer h₀ L m news s R x dw sR lo n t S nR hA ⟨⟨A₀, base, B⟩, F, X, N₀, ⟨loose, mean, mg, mb, T⟩, hf, hk⟩ hd hu ⟨t1, t2, t3, t4, t5, so, hx, hdw, hsR, hS⟩ hn ret
      subst hA
      obtain ⟨rest, N, hoff, hsub, hsub2⟩ := news_shape N₀ [(x, instObj 50 dw), (dw, winD w.params lo sR t1 t2 t3 t4 t5), (sR, so)] (by simp [hx, hdw, hsR])
      replace hsub : ∀ p ∈ news, p ∈ (x, instObj 50 dw) :: (dw, winD w.params lo sR t1 t2 t3 t4 t5) :: (sR, so) :: rest := hsub
      replace N : News h₀ L s.heap ((x, instObj 50 dw) :: (dw, winD w.params lo sR t1 t2 t3 t4 t5) :: (sR, so) :: rest) := N
      k_enter
      k_steps
      all_goals (
        first | (have e : (decide (n < lo) || S n) = decide (n < lo) := by simp [*]) | (have e : (decide (n < lo) || S n) = S n := by simp [*])
        rw [e] at ret
        first | exact ret _ _ (by assumption) (news_sub (by assumption) hsub) | (have e2 : decide (n < lo) = true := by simp [*]; rw [e2] at ret; exact ret _ _ (by assumption) (news_sub (by assumption) hsub)))
  have win_add : S_win_add Mine.hd.heap_1_39 Mine.hd.view_1_40 := by
    as_aux_lemma =>
      have hfill : (fun _ : OpenLaw × (Params → Frag) => True) (PySem.Challenge.rw_ay0001_01, Mine.hd.heap_1_39) := by k_fill; trivial
      clear hfill
      unfold S_win_add
      intro w A dp un gd env outer h₀ L m news s R x dw sR lo n t S nR hA ⟨⟨A₀, base, B⟩, F, X, N₀, ⟨loose, mean, mg, mb, T⟩, hf, hk⟩ hd hu ⟨t1, t2, t3, t4, t5, so, hx, hdw, hsR, hS⟩ hn hfr hlo hlo0 hbig ret
      subst hA
      have d1 : @Ne Nat x dw := news_neI N₀ hx hdw rfl rfl
      have d2 : @Ne Nat x sR := news_neI N₀ hx hsR rfl (set_cls hS)
      have d3 : @Ne Nat dw sR := news_neT N₀ hdw hsR rfl (set_cls hS) (by decide)
      obtain ⟨rest, N, hoff, hsub, hsub2⟩ := news_shape N₀ [(x, instObj 50 dw), (dw, winD w.params lo sR t1 t2 t3 t4 t5), (sR, so)] (by simp [hx, hdw, hsR])
      replace hoff : OwnOff rest [x, dw, sR] := hoff
      replace hsub : ∀ p ∈ news, p ∈ (x, instObj 50 dw) :: (dw, winD w.params lo sR t1 t2 t3 t4 t5) :: (sR, so) :: rest := hsub
      replace N : News h₀ L s.heap ((x, instObj 50 dw) :: (dw, winD w.params lo sR t1 t2 t3 t4 t5) :: (sR, so) :: rest) := N
      k_enter
      k_steps
      all_goals (
        first | (have e : (if lo < n - 128 + 1 then n - 128 + 1 else lo) = n - 128 + 1 := if_pos (by assumption)) | (have e : (if lo < n - 128 + 1 then n - 128 + 1 else lo) = lo := if_neg (by assumption))
        rw [e] at ret
        refine ret _ _ _ (by assumption) (by assumption) ⟨_, _, _, _, _, _, by k_mem, by k_mem, by k_mem, by assumption⟩ ?_
        intro p hp h1 h2
        rcases List.mem_cons.mp (hsub p hp) with rfl | hp
        · k_mem
        rcases List.mem_cons.mp hp with rfl | hp
        · exact absurd rfl h1
        rcases List.mem_cons.mp hp with rfl | hp
        · exact absurd rfl h2
        exact .tail _ (.tail _ (.tail _ (.tail _ hp))))
  k_with_none
  k_with "enter" => (first
    | (refine' code_def ?zzk1 ?zzk2 ?zzk3 ?zzk4 ?zzk5 ?zzkA ?zzkF ?zzkK ?zzk6 ?zzk7 ?zzk8 ?zzk9 ?zzkB ?_ ?zzc2 ?zzc3 ?zzc4 ?zzc5; (case zzkA => exact rfl); (case zzkF => assumption); (case zzkK => assumption); (case zzk1 => k_asm); (case zzk2 => k_asm); (case zzk3 => k_asm); (case zzk4 => k_asm); (case zzk5 => k_asm); (case zzk6 => k_is); (case zzk7 => k_is); (case zzk8 => ktr_room); (case zzk9 => first | exact BindsTo.of_eq rfl | exact binds_K (by first | assumption | exact Frag.In.keeps (by k_asm) (Fr.keep (by k_asm))) rfl (by k_is) rfl rfl rfl); (case zzc5 => decide); (case zzkB => exact locs rfl); (case zzc2 => exact rfl); (case zzc3 => exact rfl); (case zzc4 => exact rfl); k_whole; intro _ _ _ _ _ _ _ _ _; (try dsimp only); (try k_fold))
    | (refine' code_defC ?zzk1 ?zzk2 ?zzk3 ?zzk4 ?zzk5 ?zzkA ?zzkF ?zzkK ?zzk6 ?zzk7 ?zzk8 ?zzk9 ?zzkB ?zzkD ?_ ?zzc2 ?zzc3 ?zzc4; (case zzkA => exact rfl); (case zzkF => assumption); (case zzkK => assumption); (case zzk1 => k_asm); (case zzk2 => k_asm); (case zzk3 => k_asm); (case zzk4 => k_asm); (case zzk5 => k_asm); (case zzk6 => k_is); (case zzk7 => k_is); (case zzk8 => ktr_room); (case zzk9 => first | exact BindsTo.of_eq rfl | exact binds_K (by first | assumption | exact Frag.In.keeps (by k_asm) (Fr.keep (by k_asm))) rfl (by k_is) rfl rfl rfl); (case zzkB => exact rfl); (case zzkD => decide +kernel); (case zzc2 => exact rfl); (case zzc3 => exact rfl); (case zzc4 => exact rfl); k_whole; intro _ _ _ _ _ _ _ N' Y' _ _ _ l1; (try k_lt l1); k_cells Y'; (try simp only [List.cons_append, List.nil_append] at N'); (try dsimp only); (try k_fold)))
  k_with "all" => (first
    | exact allLt_ne (by assumption) (by omega)
    | exact allLt_ne (by assumption : _ ∧ AllLt _ _).2 (by omega)
    | exact allLt_ne (by assumption : _ ∧ _ ∧ AllLt _ _).2.2 (by omega)
    | exact allLt_ne (by assumption : _ ∧ _ ∧ _ ∧ AllLt _ _).2.2.2 (by omega)
    | exact allLt_ne (by assumption : _ ∧ _ ∧ _ ∧ _ ∧ AllLt _ _).2.2.2.2 (by omega)
    | exact allLt_ne (by assumption : _ ∧ _ ∧ _ ∧ _ ∧ _ ∧ AllLt _ _).2.2.2.2.2 (by omega))
  k_with "callWith ref" => (k_here; k_dflt (first
    | refine' callWith_K ?zzk1 ?zzk2 ?_; (case zzk1 => k_asm); (case zzk2 => k_is); k_whole
    | refine' callWith_K0 ?zzk1 ?zzk2 ?_; (case zzk1 => first | assumption | exact Frag.In.keeps (by k_asm) (Fr.keep (by k_asm))); (case zzk2 => k_is); k_whole))
  k_with "inst" => (first
    | (refine' InstAt.of_news ?zzN ?zzh1 ?zzh2; (case zzN => k_asm); (case zzh1 => k_mem); (case zzh2 => k_mem))
    | exact QAt.inst (by assumption) (by k_asm)
    | exact BufAt.inst (by assumption) (by k_asm)
    | exact WinAt.inst (by assumption) (by k_asm))
  k_with "ctx" => exact ⟨⟨_, _, by assumption⟩, by k_asm, by assumption, by k_asm, ⟨_, _, _, _, by assumption⟩, rfl, rfl⟩
  k_with "room" => (first | omega | (dsimp only [arn, Around.deeper]; omega) | decide +kernel)
  k_with "sz" => (repeat (first | assumption | refine SzB.pick ?_ | refine SzB.app (n := 100000) (k := 100000) ?_ ?_))
  k_with "exec While" => (k_here; refine hold_intro ?_)
  k_with "last exec While" => (k_here; refine hold_intro ?_)
  k_with "exec While Compare" => (k_here; refine hold_intro ?_)
  k_with "exec While BoolOp" => (k_here; refine hold_intro ?_)
  k_with "exec For" => (k_here; (rename HoldIf => hMk); clear hMk; refine hold_intro ?_)
  k_with "exec For Name Call cons nil" => (k_here; (rename HoldIf => hMk); clear hMk; refine hold_intro ?_)
  k_with "exec For Name Call" => (k_here; (rename HoldIf => hMk); clear hMk; refine hold_intro ?_)
  k_with "exec If" => (k_here; (rename HoldIf => hMk); clear hMk; refine hold_intro ?_)
  k_with "call builtin:set.add" => (k_here; kse_here; (with_reducible show wpAny _ _ (call (Value.builtin "set.add") [Value.ref _, Value.int _ _]) _ _ _); k_dflt (refine' set_add_fresh ?zzF ?zzN ?zzU ?zzd ?zzz ?zzf ?_; (case zzF => k_asm); (case zzN => k_asm); (case zzU => k_updF); (case zzd => k_asm); (case zzz => kse_small); (case zzf => assumption)); intro _ _ F' N' _; (try dsimp only at N'))
  k_with "call builtin:len" => (k_here; (with_reducible show wpAny _ _ (call (Value.builtin "len") [Value.ref _]) _ _ _); k_dflt (refine' rl_len ?zzN ?zzm ?zzR ?zzb ?_; (case zzN => k_asm); (case zzm => k_mem); (case zzR => assumption); (case zzb => omega)))
  k_with "subscriptTail" => (k_here; (with_reducible show wpAny _ _ (subscriptTail _ _ (Value.ref _) (Value.int _ _)) _ _ _); k_dflt (refine' rl_sub ?zzN ?zzm ?zzR ?zzb ?zzi ?_ ?zzhs; (case zzN => k_asm); (case zzm => k_mem); (case zzR => assumption); (case zzb => omega); (case zzi => first | exact .inl ⟨by omega, by assumption⟩ | exact .inr ⟨rfl, by assumption⟩); (case zzhs => with_unfolding_all rfl)); intro _ _ _ _ _)
  k_with "getAttr ref" => (k_here; k_dflt (first
    | ((with_reducible show wpAny _ _ (getAttr (Value.ref _) (PySem.Str.ofString "start") _) _ _ _); refine' rk_start ?zzN ?zzm ?_; (case zzN => k_asm); (case zzm => first | k_mem | assumption))
    | ((with_reducible show wpAny _ _ (getAttr (Value.ref _) (PySem.Str.ofString "stop") _) _ _ _); refine' rk_stop ?zzN ?zzm ?_; (case zzN => k_asm); (case zzm => first | k_mem | assumption))))
  k_with "call builtin:list.pop" => (k_here; (with_reducible show wpAny _ _ (call (Value.builtin _) [Value.ref _, Value.int _ _]) _ _ _); k_dflt (refine' rl_pop ?zzF ?zzN ?zzR ?zzb ?zzh0 ?zzp ?zzU ?_; (case zzF => k_asm); (case zzN => k_asm); (case zzR => assumption); (case zzb => first | omega | (simp only [List.length_cons]; omega)); (case zzh0 => first | decide | omega); (case zzp => first | exact rfl | assumption); (case zzU => k_upd)); intro h' _; revert h'; walk_at "i:hFN")
  k_with "call type:range" => (k_here; (with_reducible show wpAny _ _ (call (Value.type "range") [Value.int _ _, Value.int _ _]) _ _ _); k_dflt (refine' rk_new ?zzF ?zzN ?_; (case zzF => k_asm); (case zzN => k_asm)); intro rNew _ _ _ _ _ lRng; (have l1 := lRng); (try k_lt l1))
  k_with "compareOp In int ref" => (k_here; (with_reducible show wpAny _ _ (compareOp CmpOp.In (Value.int _ _) (Value.ref _)) _ _ _); k_dflt (refine' rk_contains ?zzN ?zzm ?_; (case zzN => k_asm); (case zzm => first | k_mem | assumption | exact .tail _ (by assumption))))
  k_with "call builtin:list.insert" => (k_here; (with_reducible show wpAny _ _ (call (Value.builtin _) [Value.ref _, Value.int _ _, _]) _ _ _); k_dflt (refine' rl_insert ?zzF ?zzN ?zzR ?zzb ?zzh0 ?zzp ?zzU ?_; (case zzF => k_asm); (case zzN => k_asm); (case zzR => first | assumption | exact RngsAt.tail1 (by assumption)); (case zzb => omega); (case zzh0 => omega); (case zzp => omega); (case zzU => k_upd)); walk_at "i:hFN")
  k_with "setItem ref int" => (k_here; (with_reducible show wpAny _ _ (setItem (Value.ref _) (Value.int _ _) (Value.ref _)) _ _ _); k_dflt (refine' rl_set ?zzF ?zzN ?zzR ?zzb ?zzh0 ?zzp ?zzU ?_; (case zzF => k_asm); (case zzN => k_asm); (case zzR => first | assumption | exact RngsAt.tail1 (by assumption)); (case zzb => omega); (case zzh0 => omega); (case zzp => omega); (case zzU => k_upd)); walk_at "i:hFN")
  k_with "call builtin:list.append" => (k_here; (with_reducible show wpAny _ _ (call (Value.builtin _) [Value.ref _, Value.ref _]) _ _ _); k_dflt (refine' rl_append ?zzF ?zzN ?zzR ?zzb ?zzU ?_; (case zzF => k_asm); (case zzN => k_asm); (case zzR => first | assumption | exact RngsAt.tail1 (by assumption)); (case zzb => omega); (case zzU => k_upd)); walk_at "i:hFN")
  k_with "call builtin:len" => (k_here; (with_reducible show wpAny _ _ (call (Value.builtin "len") [Value.ref _]) _ _ _); k_dflt (refine' bk_len ?zzN ?zzm ?zzR ?zzb ?_; (case zzN => k_asm); (case zzm => k_mem); (case zzR => assumption); (case zzb => omega)); intro _ _)
  k_with "subscriptTail" => (k_here; (with_reducible show wpAny _ _ (subscriptTail _ (Expr.Slice _ _ none _) (Value.ref _) (Value.ref _)) _ _ _); k_dflt (refine' bk_slice (nb := 100000) (s := ⟨_, _, _, _, _⟩) ?zzF ?zzN ?zzm ?zzl ?zzu ?zzb ?zzz ?_ ?zzhs; (case zzF => k_asm); (case zzN => k_asm); (case zzm => k_mem); (case zzl => constructor); (case zzu => constructor); (case zzb => k_extra "sz"); (case zzz => decide); (case zzhs => with_unfolding_all rfl)); intro _ _ _ _ _ lBa; (have l1 := lBa); (try k_lt l1))
  k_with "binaryOp Add ref ref" => (k_here; k_dflt ((with_reducible show wpAny _ _ (binaryOp _ (Value.ref _) (Value.ref _)) _ _ _); refine' bk_add (nb := 200000) (nc := 100000) ?zzF ?zzN ?zzm ?zzm2 ?zzb ?zzc ?zzz ?_; (case zzF => k_asm); (case zzN => k_asm); (case zzm => k_mem); (case zzm2 => k_mem); (case zzb => k_extra "sz"); (case zzc => k_extra "sz"); (case zzz => decide)); intro _ _ _ _ _ lBa; (have l1 := lBa); (try k_lt l1))
  k_with "binaryOp Add ref bytes" => (k_here; k_dflt ((with_reducible show wpAny _ _ (binaryOp _ (Value.ref _) (Value.bytes _ _)) _ _ _); refine' bk_addB (nb := 100000) (nc := 100000) ?zzF ?zzN ?zzm ?zzb ?zzc ?zzz ?_; (case zzF => k_asm); (case zzN => k_asm); (case zzm => k_mem); (case zzb => k_extra "sz"); (case zzc => k_extra "sz"); (case zzz => decide)); intro _ _ _ _ _ lBa; (have l1 := lBa); (try k_lt l1))
  k_with "binaryOp Add ref" => walk_at "binaryOp Add ref bytes"
  k_with "call type:bytes" => (k_here; (with_reducible show wpAny _ _ (call (Value.type "bytes") [Value.ref _]) _ _ _); k_dflt (refine' bk_bytes (nb := 100000) ?zzN ?zzm ?zzb ?zzz ?_; (case zzN => k_asm); (case zzm => k_mem); (case zzb => k_extra "sz"); (case zzz => decide)); intro _ _)
  k_with "subscriptTail" => (k_here; (with_reducible show wpAny _ _ (subscriptTail _ _ (Value.ref _) (Value.int _ _)) _ _ _); k_dflt (refine' bk_item ?zzN ?zzm ?zzI ?zzx ?zzh0 ?zzhi ?_ ?zzhs; (case zzN => k_asm); (case zzm => k_mem); (case zzI => assumption); (case zzx => assumption); (case zzh0 => omega); (case zzhi => omega); (case zzhs => with_unfolding_all rfl)); intro _ _)
  k_with "binaryOp RShift int int" => (k_here; refine' shr_f ?zze ?zzn ?_; (case zze => assumption); (case zzn => decide))
  k_with "binaryOp LShift int int" => (k_here; refine' shl_f ?zze ?zzn ?zzn2 ?zza ?_; (case zze => assumption); (case zzn => decide); (case zzn2 => decide); (case zza => decide))
  k_with "binaryOp BitAnd int int" => (k_here; refine' and_f ?zze ?_; (case zze => assumption))
  k_with "binaryOp BitOr int int" => (k_here; refine' or_f ?zze ?_; (case zze => assumption))
  k_with "spliced" => (k_here; first | refine args_cons ?_ | refine args_nil ⟨Fr.keep (by assumption) _ _ (by assumption), ?_⟩ | (refine args_nil ?_; try simp only [List.cons_append, List.nil_append]))
  have rs_len : S_rs_len Mine.hd.heap_1_39 Mine.hd.view_1_40 := by
    as_aux_lemma =>
      have hfill : (fun _ : OpenLaw × (Params → Frag) => True) (PySem.Challenge.rw_ay0001_01, Mine.hd.heap_1_39) := by k_fill; trivial
      clear hfill
      unfold S_rs_len
      intro w A dp un gd env outer h₀ L m news s R q dq l rs hA ⟨⟨A₀, base, B⟩, F, X, N₀, ⟨loose, mean, mg, mb, T⟩, hf, hk⟩ hd hu ⟨t, vs, n, hq, hdq, hl, hR⟩ hn ret
      subst hA
      obtain ⟨rest, N, hoff, hsub, hsub2⟩ := news_shape N₀ [(q, instObj 334 dq), (dq, rsD w.params l t), (l, listOf vs.toArray n)] (by simp [hq, hdq, hl])
      replace hsub : ∀ p ∈ news, p ∈ (q, instObj 334 dq) :: (dq, rsD w.params l t) :: (l, listOf vs.toArray n) :: rest := hsub
      replace N : News h₀ L s.heap ((q, instObj 334 dq) :: (dq, rsD w.params l t) :: (l, listOf vs.toArray n) :: rest) := N
      have hR' := hR.mono (fun p hp _ => hsub p hp)
      k_enter
      k_steps
      exact ret _ _ _ (by assumption) (news_sub (by assumption) hsub)
  have rs_getitem : S_rs_getitem Mine.hd.heap_1_39 Mine.hd.view_1_40 := by
    as_aux_lemma =>
      have hfill : (fun _ : OpenLaw × (Params → Frag) => True) (PySem.Challenge.rw_ay0001_01, Mine.hd.heap_1_39) := by k_fill; trivial
      clear hfill
      unfold S_rs_getitem
      intro w A dp un gd env outer h₀ L m news s R q dq l rs i ti p hA ⟨⟨A₀, base, B⟩, F, X, N₀, ⟨loose, mean, mg, mb, T⟩, hf, hk⟩ hd hu ⟨t, vs, n, hq, hdq, hl, hR⟩ hn h0 hp ret
      subst hA
      obtain ⟨rest, N, hoff, hsub, hsub2⟩ := news_shape N₀ [(q, instObj 334 dq), (dq, rsD w.params l t), (l, listOf vs.toArray n)] (by simp [hq, hdq, hl])
      replace hsub : ∀ p ∈ news, p ∈ (q, instObj 334 dq) :: (dq, rsD w.params l t) :: (l, listOf vs.toArray n) :: rest := hsub
      have hback : ∀ p ∈ (q, instObj 334 dq) :: (dq, rsD w.params l t) :: (l, listOf vs.toArray n) :: rest, p ∈ news := by
        intro p hp
        simp only [List.mem_cons] at hp
        rcases hp with rfl | rfl | rfl | hp
        · exact hq
        · exact hdq
        · exact hl
        · exact hsub2 p hp
      replace N : News h₀ L s.heap ((q, instObj 334 dq) :: (dq, rsD w.params l t) :: (l, listOf vs.toArray n) :: rest) := N
      have hR' := hR.mono (fun p hp _ => hsub p hp)
      k_enter
      k_steps
      exact ret _ _ _ _ _ _ (by assumption) (news_sub (by assumption) hsub) (hback _ (by assumption))
  have rs_shift : S_rs_shift Mine.hd.heap_1_39 Mine.hd.view_1_40 := by
    as_aux_lemma =>
      have hfill : (fun _ : OpenLaw × (Params → Frag) => True) (PySem.Challenge.rw_ay0001_01, Mine.hd.heap_1_39) := by k_fill; trivial
      clear hfill
      unfold S_rs_shift
      intro w A dp un gd env outer h₀ L m news s R q dq l p rs hA ⟨⟨A₀, base, B⟩, F, X, N₀, ⟨loose, mean, mg, mb, T⟩, hf, hk⟩ hd hu ⟨t, vs, n, hq, hdq, hl, hR⟩ hn ret
      subst hA
      obtain ⟨rest, N, hoff, hsub, hsub2⟩ := news_shape N₀ [(q, instObj 334 dq), (dq, rsD w.params l t), (l, listOf vs.toArray n)] (by simp [hq, hdq, hl])
      have d1 : @Ne Nat q dq := news_neI N₀ hq hdq rfl rfl
      have d2 : @Ne Nat q l := news_neI N₀ hq hl rfl rfl
      have d3 : @Ne Nat dq l := news_neT N₀ hdq hl rfl rfl (by decide)
      replace hoff : OwnOff rest [q, dq, l] := hoff
      replace hsub : ∀ p ∈ news, p ∈ (q, instObj 334 dq) :: (dq, rsD w.params l t) :: (l, listOf vs.toArray n) :: rest := hsub
      replace N : News h₀ L s.heap ((q, instObj 334 dq) :: (dq, rsD w.params l t) :: (l, listOf vs.toArray n) :: rest) := N
      have hR' := hR.mono (fun p hp _ => hsub p hp)
      k_enter
      k_steps
      have hk' : ∀ p ∈ news, p.1 ≠ l → p ∈ (q, instObj 334 dq) :: (dq, rsD w.params l t) :: (l, listOf (vs.take (0 : Int).toNat ++ vs.drop ((0 : Int).toNat + 1)).toArray (n + 1)) :: rest := by
        intro p hp h1
        have := hsub p hp
        simp only [List.mem_cons] at this ⊢
        rcases this with h | h | rfl | h
        · exact .inl h
        · exact .inr (.inl h)
        · exact absurd rfl h1
        · exact .inr (.inr (.inr h))
      exact ret _ _ _ _ (by assumption) (by assumption) ⟨t, _, _, by k_mem, by k_mem, by k_mem, (hR.drop 1).keep N₀ hl hk'⟩ hk'
  have rs_bounds : S_rs_bounds Mine.hd.heap_1_39 Mine.hd.view_1_40 := by
    as_aux_lemma =>
      have hfill : (fun _ : OpenLaw × (Params → Frag) => True) (PySem.Challenge.rw_ay0001_01, Mine.hd.heap_1_39) := by k_fill; trivial
      clear hfill
      unfold S_rs_bounds
      intro w A dp un gd env outer h₀ L m news s R q dq l rs p p' hA ⟨⟨A₀, base, B⟩, F, X, N₀, ⟨loose, mean, mg, mb, T⟩, hf, hk⟩ hd hu ⟨t, vs, n, hq, hdq, hl, hR⟩ hn hp hp' ret
      subst hA
      obtain ⟨rest, N, hoff, hsub, hsub2⟩ := news_shape N₀ [(q, instObj 334 dq), (dq, rsD w.params l t), (l, listOf vs.toArray n)] (by simp [hq, hdq, hl])
      replace hsub : ∀ p ∈ news, p ∈ (q, instObj 334 dq) :: (dq, rsD w.params l t) :: (l, listOf vs.toArray n) :: rest := hsub
      replace N : News h₀ L s.heap ((q, instObj 334 dq) :: (dq, rsD w.params l t) :: (l, listOf vs.toArray n) :: rest) := N
      have hR' := hR.mono (fun p hp _ => hsub p hp)
      have hp0 : rs[(0 : Int).toNat]? = some p := hp
      k_enter
      k_steps
      exact ret _ _ _ _ _ _ (by assumption) (news_sub1 (by assumption) hsub) (fun p hp => lRng p (hsub p hp))
  k_with_none
  k_with "enter" => (first
    | (refine' code_def ?zzk1 ?zzk2 ?zzk3 ?zzk4 ?zzk5 ?zzkA ?zzkF ?zzkK ?zzk6 ?zzk7 ?zzk8 ?zzk9 ?zzkB ?_ ?zzc2 ?zzc3 ?zzc4 ?zzc5; (case zzkA => exact rfl); (case zzkF => assumption); (case zzkK => assumption); (case zzk1 => k_asm); (case zzk2 => k_asm); (case zzk3 => k_asm); (case zzk4 => k_asm); (case zzk5 => k_asm); (case zzk6 => k_is); (case zzk7 => k_is); (case zzk8 => ktr_room); (case zzk9 => first | exact BindsTo.of_eq rfl | exact binds_K (by first | assumption | exact Frag.In.keeps (by k_asm) (Fr.keep (by k_asm))) rfl (by k_is) rfl rfl rfl); (case zzc5 => decide); (case zzkB => exact locs rfl); (case zzc2 => exact rfl); (case zzc3 => exact rfl); (case zzc4 => exact rfl); k_whole; intro _ _ _ _ _ _ _ _ _; (try dsimp only); (try k_fold))
    | (refine' code_defC ?zzk1 ?zzk2 ?zzk3 ?zzk4 ?zzk5 ?zzkA ?zzkF ?zzkK ?zzk6 ?zzk7 ?zzk8 ?zzk9 ?zzkB ?zzkD ?_ ?zzc2 ?zzc3 ?zzc4; (case zzkA => exact rfl); (case zzkF => assumption); (case zzkK => assumption); (case zzk1 => k_asm); (case zzk2 => k_asm); (case zzk3 => k_asm); (case zzk4 => k_asm); (case zzk5 => k_asm); (case zzk6 => k_is); (case zzk7 => k_is); (case zzk8 => ktr_room); (case zzk9 => first | exact BindsTo.of_eq rfl | exact binds_K (by first | assumption | exact Frag.In.keeps (by k_asm) (Fr.keep (by k_asm))) rfl (by k_is) rfl rfl rfl); (case zzkB => exact rfl); (case zzkD => decide +kernel); (case zzc2 => exact rfl); (case zzc3 => exact rfl); (case zzc4 => exact rfl); k_whole; intro _ _ _ _ _ _ _ N' Y' _ _ _ l1; (try k_lt l1); k_cells Y'; (try simp only [List.cons_append, List.nil_append] at N'); (try dsimp only); (try k_fold)))
  k_with "all" => (first
    | exact allLt_ne (by assumption) (by omega)
    | exact allLt_ne (by assumption : _ ∧ AllLt _ _).2 (by omega)
    | exact allLt_ne (by assumption : _ ∧ _ ∧ AllLt _ _).2.2 (by omega)
    | exact allLt_ne (by assumption : _ ∧ _ ∧ _ ∧ AllLt _ _).2.2.2 (by omega)
    | exact allLt_ne (by assumption : _ ∧ _ ∧ _ ∧ _ ∧ AllLt _ _).2.2.2.2 (by omega)
    | exact allLt_ne (by assumption : _ ∧ _ ∧ _ ∧ _ ∧ _ ∧ AllLt _ _).2.2.2.2.2 (by omega))
  k_with "callWith ref" => (k_here; k_dflt (first
    | refine' callWith_K ?zzk1 ?zzk2 ?_; (case zzk1 => k_asm); (case zzk2 => k_is); k_whole
    | refine' callWith_K0 ?zzk1 ?zzk2 ?_; (case zzk1 => first | assumption | exact Frag.In.keeps (by k_asm) (Fr.keep (by k_asm))); (case zzk2 => k_is); k_whole))
  k_with "inst" => (first
    | (refine' InstAt.of_news ?zzN ?zzh1 ?zzh2; (case zzN => k_asm); (case zzh1 => k_mem); (case zzh2 => k_mem))
    | exact QAt.inst (by assumption) (by k_asm)
    | exact BufAt.inst (by assumption) (by k_asm)
    | exact WinAt.inst (by assumption) (by k_asm))
  k_with "ctx" => exact ⟨⟨_, _, by assumption⟩, by k_asm, by assumption, by k_asm, ⟨_, _, _, _, by assumption⟩, rfl, rfl⟩
  k_with "room" => (first | omega | (dsimp only [arn, Around.deeper]; omega) | decide +kernel)
  k_with "sz" => (repeat (first | assumption | refine SzB.pick ?_ | refine SzB.app (n := 100000) (k := 100000) ?_ ?_))
  k_with "exec While" => (k_here; refine hold_intro ?_)
  k_with "last exec While" => (k_here; refine hold_intro ?_)
  k_with "exec While Compare" => (k_here; refine hold_intro ?_)
  k_with "exec While BoolOp" => (k_here; refine hold_intro ?_)
  k_with "exec For" => (k_here; (rename HoldIf => hMk); clear hMk; refine hold_intro ?_)
  k_with "exec For Name Call cons nil" => (k_here; (rename HoldIf => hMk); clear hMk; refine hold_intro ?_)
  k_with "exec For Name Call" => (k_here; (rename HoldIf => hMk); clear hMk; refine hold_intro ?_)
  k_with "exec If" => (k_here; (rename HoldIf => hMk); clear hMk; refine hold_intro ?_)
  k_with "call builtin:set.add" => (k_here; kse_here; (with_reducible show wpAny _ _ (call (Value.builtin "set.add") [Value.ref _, Value.int _ _]) _ _ _); k_dflt (refine' set_add_fresh ?zzF ?zzN ?zzU ?zzd ?zzz ?zzf ?_; (case zzF => k_asm); (case zzN => k_asm); (case zzU => k_updF); (case zzd => k_asm); (case zzz => kse_small); (case zzf => assumption)); intro _ _ F' N' _; (try dsimp only at N'))
  k_with "call builtin:len" => (k_here; (with_reducible show wpAny _ _ (call (Value.builtin "len") [Value.ref _]) _ _ _); k_dflt (refine' rl_len ?zzN ?zzm ?zzR ?zzb ?_; (case zzN => k_asm); (case zzm => k_mem); (case zzR => assumption); (case zzb => omega)))
  k_with "subscriptTail" => (k_here; (with_reducible show wpAny _ _ (subscriptTail _ _ (Value.ref _) (Value.int _ _)) _ _ _); k_dflt (refine' rl_sub ?zzN ?zzm ?zzR ?zzb ?zzi ?_ ?zzhs; (case zzN => k_asm); (case zzm => k_mem); (case zzR => assumption); (case zzb => omega); (case zzi => first | exact .inl ⟨by omega, by assumption⟩ | exact .inr ⟨rfl, by assumption⟩); (case zzhs => with_unfolding_all rfl)); intro _ _ _ _ _)
  k_with "getAttr ref" => (k_here; k_dflt (first
    | ((with_reducible show wpAny _ _ (getAttr (Value.ref _) (PySem.Str.ofString "start") _) _ _ _); refine' rk_start ?zzN ?zzm ?_; (case zzN => k_asm); (case zzm => first | k_mem | assumption))
    | ((with_reducible show wpAny _ _ (getAttr (Value.ref _) (PySem.Str.ofString "stop") _) _ _ _); refine' rk_stop ?zzN ?zzm ?_; (case zzN => k_asm); (case zzm => first | k_mem | assumption))))
  k_with "call builtin:list.pop" => (k_here; (with_reducible show wpAny _ _ (call (Value.builtin _) [Value.ref _, Value.int _ _]) _ _ _); k_dflt (refine' rl_pop ?zzF ?zzN ?zzR ?zzb ?zzh0 ?zzp ?zzU ?_; (case zzF => k_asm); (case zzN => k_asm); (case zzR => assumption); (case zzb => first | omega | (simp only [List.length_cons]; omega)); (case zzh0 => first | decide | omega); (case zzp => first | exact rfl | assumption); (case zzU => k_upd)); intro h' _; revert h'; walk_at "i:hFN")
  k_with "call type:range" => (k_here; (with_reducible show wpAny _ _ (call (Value.type "range") [Value.int _ _, Value.int _ _]) _ _ _); k_dflt (refine' rk_new ?zzF ?zzN ?_; (case zzF => k_asm); (case zzN => k_asm)); intro rNew _ _ _ _ _ lRng; (have l1 := lRng); (try k_lt l1))
  k_with "compareOp In int ref" => (k_here; (with_reducible show wpAny _ _ (compareOp CmpOp.In (Value.int _ _) (Value.ref _)) _ _ _); k_dflt (refine' rk_contains ?zzN ?zzm ?_; (case zzN => k_asm); (case zzm => first | k_mem | assumption | exact .tail _ (by assumption))))
  k_with "call builtin:list.insert" => (k_here; (with_reducible show wpAny _ _ (call (Value.builtin _) [Value.ref _, Value.int _ _, _]) _ _ _); k_dflt (refine' rl_insert ?zzF ?zzN ?zzR ?zzb ?zzh0 ?zzp ?zzU ?_; (case zzF => k_asm); (case zzN => k_asm); (case zzR => first | assumption | exact RngsAt.tail1 (by assumption)); (case zzb => omega); (case zzh0 => omega); (case zzp => omega); (case zzU => k_upd)); walk_at "i:hFN")
  k_with "setItem ref int" => (k_here; (with_reducible show wpAny _ _ (setItem (Value.ref _) (Value.int _ _) (Value.ref _)) _ _ _); k_dflt (refine' rl_set ?zzF ?zzN ?zzR ?zzb ?zzh0 ?zzp ?zzU ?_; (case zzF => k_asm); (case zzN => k_asm); (case zzR => first | assumption | exact RngsAt.tail1 (by assumption)); (case zzb => omega); (case zzh0 => omega); (case zzp => omega); (case zzU => k_upd)); walk_at "i:hFN")
  k_with "call builtin:list.append" => (k_here; (with_reducible show wpAny _ _ (call (Value.builtin _) [Value.ref _, Value.ref _]) _ _ _); k_dflt (refine' rl_append ?zzF ?zzN ?zzR ?zzb ?zzU ?_; (case zzF => k_asm); (case zzN => k_asm); (case zzR => first | assumption | exact RngsAt.tail1 (by assumption)); (case zzb => omega); (case zzU => k_upd)); walk_at "i:hFN")
  k_with "call builtin:len" => (k_here; (with_reducible show wpAny _ _ (call (Value.builtin "len") [Value.ref _]) _ _ _); k_dflt (refine' bk_len ?zzN ?zzm ?zzR ?zzb ?_; (case zzN => k_asm); (case zzm => k_mem); (case zzR => assumption); (case zzb => omega)); intro _ _)
  k_with "subscriptTail" => (k_here; (with_reducible show wpAny _ _ (subscriptTail _ (Expr.Slice _ _ none _) (Value.ref _) (Value.ref _)) _ _ _); k_dflt (refine' bk_slice (nb := 100000) (s := ⟨_, _, _, _, _⟩) ?zzF ?zzN ?zzm ?zzl ?zzu ?zzb ?zzz ?_ ?zzhs; (case zzF => k_asm); (case zzN => k_asm); (case zzm => k_mem); (case zzl => constructor); (case zzu => constructor); (case zzb => k_extra "sz"); (case zzz => decide); (case zzhs => with_unfolding_all rfl)); intro _ _ _ _ _ lBa; (have l1 := lBa); (try k_lt l1))
  k_with "binaryOp Add ref ref" => (k_here; k_dflt ((with_reducible show wpAny _ _ (binaryOp _ (Value.ref _) (Value.ref _)) _ _ _); refine' bk_add (nb := 200000) (nc := 100000) ?zzF ?zzN ?zzm ?zzm2 ?zzb ?zzc ?zzz ?_; (case zzF => k_asm); (case zzN => k_asm); (case zzm => k_mem); (case zzm2 => k_mem); (case zzb => k_extra "sz"); (case zzc => k_extra "sz"); (case zzz => decide)); intro _ _ _ _ _ lBa; (have l1 := lBa); (try k_lt l1))
  k_with "binaryOp Add ref bytes" => (k_here; k_dflt ((with_reducible show wpAny _ _ (binaryOp _ (Value.ref _) (Value.bytes _ _)) _ _ _); refine' bk_addB (nb := 100000) (nc := 100000) ?zzF ?zzN ?zzm ?zzb ?zzc ?zzz ?_; (case zzF => k_asm); (case zzN => k_asm); (case zzm => k_mem); (case zzb => k_extra "sz"); (case zzc => k_extra "sz"); (case zzz => decide)); intro _ _ _ _ _ lBa; (have l1 := lBa); (try k_lt l1))
  k_with "binaryOp Add ref" => walk_at "binaryOp Add ref bytes"
  k_with "call type:bytes" => (k_here; (with_reducible show wpAny _ _ (call (Value.type "bytes") [Value.ref _]) _ _ _); k_dflt (refine' bk_bytes (nb := 100000) ?zzN ?zzm ?zzb ?zzz ?_; (case zzN => k_asm); (case zzm => k_mem); (case zzb => k_extra "sz"); (case zzz => decide)); intro _ _)
  k_with "subscriptTail" => (k_here; (with_reducible show wpAny _ _ (subscriptTail _ _ (Value.ref _) (Value.int _ _)) _ _ _); k_dflt (refine' bk_item ?zzN ?zzm ?zzI ?zzx ?zzh0 ?zzhi ?_ ?zzhs; (case zzN => k_asm); (case zzm => k_mem); (case zzI => assumption); (case zzx => assumption); (case zzh0 => omega); (case zzhi => omega); (case zzhs => with_unfolding_all rfl)); intro _ _)
  k_with "binaryOp RShift int int" => (k_here; refine' shr_f ?zze ?zzn ?_; (case zze => assumption); (case zzn => decide))
  k_with "binaryOp LShift int int" => (k_here; refine' shl_f ?zze ?zzn ?zzn2 ?zza ?_; (case zze => assumption); (case zzn => decide); (case zzn2 => decide); (case zza => decide))
  k_with "binaryOp BitAnd int int" => (k_here; refine' and_f ?zze ?_; (case zze => assumption))
  k_with "binaryOp BitOr int int" => (k_here; refine' or_f ?zze ?_; (case zze => assumption))
  k_with "spliced" => (k_here; first | refine args_cons ?_ | refine args_nil ⟨Fr.keep (by assumption) _ _ (by assumption), ?_⟩ | (refine args_nil ?_; try simp only [List.cons_append, List.nil_append]))
  have rs_contains : S_rs_contains Mine.hd.heap_1_39 Mine.hd.view_1_40 := by
    as_aux_lemma =>
      have hfill : (fun _ : OpenLaw × (Params → Frag) => True) (PySem.Challenge.rw_ay0001_01, Mine.hd.heap_1_39) := by k_fill; trivial
      clear hfill
      unfold S_rs_contains
      intro w A dp un gd env outer h₀ L m news s R q dq l rs i ti hA ⟨⟨A₀, base, B⟩, F, X, N₀, ⟨loose, mean, mg, mb, T⟩, hf, hk⟩ hd hu ⟨t, vs, n, hq, hdq, hl, hR⟩ hn ret
      subst hA
      obtain ⟨rest, N, hoff, hsub, hsub2⟩ := news_shape N₀ [(q, instObj 334 dq), (dq, rsD w.params l t), (l, listOf vs.toArray n)] (by simp [hq, hdq, hl])
      replace hsub : ∀ p ∈ news, p ∈ (q, instObj 334 dq) :: (dq, rsD w.params l t) :: (l, listOf vs.toArray n) :: rest := hsub
      replace N : News h₀ L s.heap ((q, instObj 334 dq) :: (dq, rsD w.params l t) :: (l, listOf vs.toArray n) :: rest) := N
      have hR' := hR.mono (fun p hp _ => hsub p hp)
      k_enter
      k_steps
      rename_i gg LL hh FG FF NN BB XX TT
      have hlen := hR.len
      refine iterL (fun j m' nx => nx = (q, instObj 334 dq) :: (dq, rsD w.params l t) :: (l, listOf vs.toArray n) :: rest ∧ (∀ y, y ≠ Str.ofString "r" → m' y = List.lookup y [(Str.ofString "val", Value.int i ti), (Str.ofString "self", Value.ref q)]) ∧ inR (rs.take j) i = false) rfl (by k_mem) FF NN ⟨rfl, fun _ _ => rfl, rfl⟩ (fun j m' nx h => by rw [h.1]; k_mem) ?_ ?_
      · rintro j v m₁ nx h tk' it o hv ⟨rfl, hm, hno⟩ hd' hoc F₁ N₁
        obtain ⟨lo, hi, a, t', u', k', hp, rfl, hmem⟩ := hR'.getv hv
        rw [map_over hm] at F₁
        k_steps
        · have e : inR rs i = true := by
            unfold inR
            exact List.any_eq_true.mpr ⟨(lo, hi), List.mem_of_getElem? hp, by assumption⟩
          rw [e] at ret
          refine (?_ : LeaveK h₀ L m gg R _ _)
          k_steps
          exact ret _ _ (by assumption) (news_sub (by assumption) fun p hp => .tail _ (hsub p hp))
        · refine ⟨_, _, _, _, rfl, F₁, N₁, hd', rfl, fun y hy => if_neg hy, ?_⟩
          unfold inR at hno ⊢
          rw [List.take_add_one, hp]
          simp only [Option.toList, List.any_append, hno, Bool.false_or, List.any_cons, List.any_nil, Bool.or_false]
          assumption
      · rintro m₁ nx h tk' ⟨rfl, hm, hno⟩ F₁ N₁
        rw [hlen, List.take_length] at hno
        rw [hno] at ret
        dsimp only
        have F₂ : Fr gg LL h (fun y => if y = Str.ofString "r" then m₁ (Str.ofString "r") else List.lookup y [(Str.ofString "val", Value.int i ti), (Str.ofString "self", Value.ref q)]) := by
          have e : m₁ = fun y => if y = Str.ofString "r" then m₁ (Str.ofString "r") else List.lookup y [(Str.ofString "val", Value.int i ti), (Str.ofString "self", Value.ref q)] := by
            funext y
            by_cases hy : y = Str.ofString "r"
            · rw [if_pos hy, hy]
            · rw [if_neg hy, hm y hy]
          rw [← e]; exact F₁
        k_steps
        exact ret _ _ (by assumption) (news_sub (by assumption) hsub)
  k_with_none
  k_with "enter" => (first
    | (refine' code_def ?zzk1 ?zzk2 ?zzk3 ?zzk4 ?zzk5 ?zzkA ?zzkF ?zzkK ?zzk6 ?zzk7 ?zzk8 ?zzk9 ?zzkB ?_ ?zzc2 ?zzc3 ?zzc4 ?zzc5; (case zzkA => exact rfl); (case zzkF => assumption); (case zzkK => assumption); (case zzk1 => k_asm); (case zzk2 => k_asm); (case zzk3 => k_asm); (case zzk4 => k_asm); (case zzk5 => k_asm); (case zzk6 => k_is); (case zzk7 => k_is); (case zzk8 => ktr_room); (case zzk9 => first | exact BindsTo.of_eq rfl | exact binds_K (by first | assumption | exact Frag.In.keeps (by k_asm) (Fr.keep (by k_asm))) rfl (by k_is) rfl rfl rfl); (case zzc5 => decide); (case zzkB => exact locs rfl); (case zzc2 => exact rfl); (case zzc3 => exact rfl); (case zzc4 => exact rfl); k_whole; intro _ _ _ _ _ _ _ _ _; (try dsimp only); (try k_fold))
    | (refine' code_defC ?zzk1 ?zzk2 ?zzk3 ?zzk4 ?zzk5 ?zzkA ?zzkF ?zzkK ?zzk6 ?zzk7 ?zzk8 ?zzk9 ?zzkB ?zzkD ?_ ?zzc2 ?zzc3 ?zzc4; (case zzkA => exact rfl); (case zzkF => assumption); (case zzkK => assumption); (case zzk1 => k_asm); (case zzk2 => k_asm); (case zzk3 => k_asm); (case zzk4 => k_asm); (case zzk5 => k_asm); (case zzk6 => k_is); (case zzk7 => k_is); (case zzk8 => ktr_room); (case zzk9 => first | exact BindsTo.of_eq rfl | exact binds_K (by first | assumption | exact Frag.In.keeps (by k_asm) (Fr.keep (by k_asm))) rfl (by k_is) rfl rfl rfl); (case zzkB => exact rfl); (case zzkD => decide +kernel); (case zzc2 => exact rfl); (case zzc3 => exact rfl); (case zzc4 => exact rfl); k_whole; intro _ _ _ _ _ _ _ N' Y' _ _ _ l1; (try k_lt l1); k_cells Y'; (try simp only [List.cons_append, List.nil_append] at N'); (try dsimp only); (try k_fold)))
  k_with "all" => (first
    | exact allLt_ne (by assumption) (by omega)
    | exact allLt_ne (by assumption : _ ∧ AllLt _ _).2 (by omega)
    | exact allLt_ne (by assumption : _ ∧ _ ∧ AllLt _ _).2.2 (by omega)
    | exact allLt_ne (by assumption : _ ∧ _ ∧ _ ∧ AllLt _ _).2.2.2 (by omega)
    | exact allLt_ne (by assumption : _ ∧ _ ∧ _ ∧ _ ∧ AllLt _ _).2.2.2.2 (by omega)
    | exact allLt_ne (by assumption : _ ∧ _ ∧ _ ∧ _ ∧ _ ∧ AllLt _ _).2.2.2.2.2 (by omega))
  k_with "callWith ref" => (k_here; k_dflt (first
    | refine' callWith_K ?zzk1 ?zzk2 ?_; (case zzk1 => k_asm); (case zzk2 => k_is); k_whole
    | refine' callWith_K0 ?zzk1 ?zzk2 ?_; (case zzk1 => first | assumption | exact Frag.In.keeps (by k_asm) (Fr.keep (by k_asm))); (case zzk2 => k_is); k_whole))
  k_with "inst" => (first
    | (refine' InstAt.of_news ?zzN ?zzh1 ?zzh2; (case zzN => k_asm); (case zzh1 => k_mem); (case zzh2 => k_mem))
    | exact QAt.inst (by assumption) (by k_asm)
    | exact BufAt.inst (by assumption) (by k_asm)
    | exact WinAt.inst (by assumption) (by k_asm))
  k_with "ctx" => exact ⟨⟨_, _, by assumption⟩, by k_asm, by assumption, by k_asm, ⟨_, _, _, _, by assumption⟩, rfl, rfl⟩
  k_with "room" => (first | omega | (dsimp only [arn, Around.deeper]; omega) | decide +kernel)
  k_with "sz" => (repeat (first | assumption | refine SzB.pick ?_ | refine SzB.app (n := 100000) (k := 100000) ?_ ?_))
  k_with "exec While" => (k_here; refine hold_intro ?_)
  k_with "last exec While" => (k_here; refine hold_intro ?_)
  k_with "exec While Compare" => (k_here; refine hold_intro ?_)
  k_with "exec While BoolOp" => (k_here; refine hold_intro ?_)
  k_with "exec For" => (k_here; (rename HoldIf => hMk); clear hMk; refine hold_intro ?_)
  k_with "exec For Name Call cons nil" => (k_here; (rename HoldIf => hMk); clear hMk; refine hold_intro ?_)
  k_with "exec For Name Call" => (k_here; (rename HoldIf => hMk); clear hMk; refine hold_intro ?_)
  k_with "exec If" => (k_here; (rename HoldIf => hMk); clear hMk; refine hold_intro ?_)
  k_with "call builtin:set.add" => (k_here; kse_here; (with_reducible show wpAny _ _ (call (Value.builtin "set.add") [Value.ref _, Value.int _ _]) _ _ _); k_dflt (refine' set_add_fresh ?zzF ?zzN ?zzU ?zzd ?zzz ?zzf ?_; (case zzF => k_asm); (case zzN => k_asm); (case zzU => k_updF); (case zzd => k_asm); (case zzz => kse_small); (case zzf => assumption)); intro _ _ F' N' _; (try dsimp only at N'))
  k_with "call builtin:len" => (k_here; (with_reducible show wpAny _ _ (call (Value.builtin "len") [Value.ref _]) _ _ _); k_dflt (refine' rl_len ?zzN ?zzm ?zzR ?zzb ?_; (case zzN => k_asm); (case zzm => k_mem); (case zzR => assumption); (case zzb => omega)))
  k_with "subscriptTail" => (k_here; (with_reducible show wpAny _ _ (subscriptTail _ _ (Value.ref _) (Value.int _ _)) _ _ _); k_dflt (refine' rl_sub ?zzN ?zzm ?zzR ?zzb ?zzi ?_ ?zzhs; (case zzN => k_asm); (case zzm => k_mem); (case zzR => assumption); (case zzb => omega); (case zzi => first | exact .inl ⟨by omega, by assumption⟩ | exact .inr ⟨rfl, by assumption⟩); (case zzhs => with_unfolding_all rfl)); intro _ _ _ _ _)
  k_with "getAttr ref" => (k_here; k_dflt (first
    | ((with_reducible show wpAny _ _ (getAttr (Value.ref _) (PySem.Str.ofString "start") _) _ _ _); refine' rk_start ?zzN ?zzm ?_; (case zzN => k_asm); (case zzm => first | k_mem | assumption))
    | ((with_reducible show wpAny _ _ (getAttr (Value.ref _) (PySem.Str.ofString "stop") _) _ _ _); refine' rk_stop ?zzN ?zzm ?_; (case zzN => k_asm); (case zzm => first | k_mem | assumption))))
  k_with "call builtin:list.pop" => (k_here; (with_reducible show wpAny _ _ (call (Value.builtin _) [Value.ref _, Value.int _ _]) _ _ _); k_dflt (refine' rl_pop ?zzF ?zzN ?zzR ?zzb ?zzh0 ?zzp ?zzU ?_; (case zzF => k_asm); (case zzN => k_asm); (case zzR => assumption); (case zzb => first | omega | (simp only [List.length_cons]; omega)); (case zzh0 => first | decide | omega); (case zzp => first | exact rfl | assumption); (case zzU => k_upd)); intro h' _; revert h'; walk_at "i:hFN")
  k_with "call type:range" => (k_here; (with_reducible show wpAny _ _ (call (Value.type "range") [Value.int _ _, Value.int _ _]) _ _ _); k_dflt (refine' rk_new ?zzF ?zzN ?_; (case zzF => k_asm); (case zzN => k_asm)); intro rNew _ _ _ _ _ lRng; (have l1 := lRng); (try k_lt l1))
  k_with "compareOp In int ref" => (k_here; (with_reducible show wpAny _ _ (compareOp CmpOp.In (Value.int _ _) (Value.ref _)) _ _ _); k_dflt (refine' rk_contains ?zzN ?zzm ?_; (case zzN => k_asm); (case zzm => first | k_mem | assumption | exact .tail _ (by assumption))))
  k_with "call builtin:list.insert" => (k_here; (with_reducible show wpAny _ _ (call (Value.builtin _) [Value.ref _, Value.int _ _, _]) _ _ _); k_dflt (refine' rl_insert ?zzF ?zzN ?zzR ?zzb ?zzh0 ?zzp ?zzU ?_; (case zzF => k_asm); (case zzN => k_asm); (case zzR => first | assumption | exact RngsAt.tail1 (by assumption)); (case zzb => omega); (case zzh0 => omega); (case zzp => omega); (case zzU => k_upd)); walk_at "i:hFN")
  k_with "setItem ref int" => (k_here; (with_reducible show wpAny _ _ (setItem (Value.ref _) (Value.int _ _) (Value.ref _)) _ _ _); k_dflt (refine' rl_set ?zzF ?zzN ?zzR ?zzb ?zzh0 ?zzp ?zzU ?_; (case zzF => k_asm); (case zzN => k_asm); (case zzR => first | assumption | exact RngsAt.tail1 (by assumption)); (case zzb => omega); (case zzh0 => omega); (case zzp => omega); (case zzU => k_upd)); walk_at "i:hFN")
  k_with "call builtin:list.append" => (k_here; (with_reducible show wpAny _ _ (call (Value.builtin _) [Value.ref _, Value.ref _]) _ _ _); k_dflt (refine' rl_append ?zzF ?zzN ?zzR ?zzb ?zzU ?_; (case zzF => k_asm); (case zzN => k_asm); (case zzR => first | assumption | exact RngsAt.tail1 (by assumption)); (case zzb => omega); (case zzU => k_upd)); walk_at "i:hFN")
  k_with "call builtin:len" => (k_here; (with_reducible show wpAny _ _ (call (Value.builtin "len") [Value.ref _]) _ _ _); k_dflt (refine' bk_len ?zzN ?zzm ?zzR ?zzb ?_; (case zzN => k_asm); (case zzm => k_mem); (case zzR => assumption); (case zzb => omega)); intro _ _)
  k_with "subscriptTail" => (k_here; (with_reducible show wpAny _ _ (subscriptTail _ (Expr.Slice _ _ none _) (Value.ref _) (Value.ref _)) _ _ _); k_dflt (refine' bk_slice (nb := 100000) (s := ⟨_, _, _, _, _⟩) ?zzF ?zzN ?zzm ?zzl ?zzu ?zzb ?zzz ?_ ?zzhs; (case zzF => k_asm); (case zzN => k_asm); (case zzm => k_mem); (case zzl => constructor); (case zzu => constructor); (case zzb => k_extra "sz"); (case zzz => decide); (case zzhs => with_unfolding_all rfl)); intro _ _ _ _ _ lBa; (have l1 := lBa); (try k_lt l1))
  k_with "binaryOp Add ref ref" => (k_here; k_dflt ((with_reducible show wpAny _ _ (binaryOp _ (Value.ref _) (Value.ref _)) _ _ _); refine' bk_add (nb := 200000) (nc := 100000) ?zzF ?zzN ?zzm ?zzm2 ?zzb ?zzc ?zzz ?_; (case zzF => k_asm); (case zzN => k_asm); (case zzm => k_mem); (case zzm2 => k_mem); (case zzb => k_extra "sz"); (case zzc => k_extra "sz"); (case zzz => decide)); intro _ _ _ _ _ lBa; (have l1 := lBa); (try k_lt l1))
  k_with "binaryOp Add ref bytes" => (k_here; k_dflt ((with_reducible show wpAny _ _ (binaryOp _ (Value.ref _) (Value.bytes _ _)) _ _ _); refine' bk_addB (nb := 100000) (nc := 100000) ?zzF ?zzN ?zzm ?zzb ?zzc ?zzz ?_; (case zzF => k_asm); (case zzN => k_asm); (case zzm => k_mem); (case zzb => k_extra "sz"); (case zzc => k_extra "sz"); (case zzz => decide)); intro _ _ _ _ _ lBa; (have l1 := lBa); (try k_lt l1))
  k_with "binaryOp Add ref" => walk_at "binaryOp Add ref bytes"
  k_with "call type:bytes" => (k_here; (with_reducible show wpAny _ _ (call (Value.type "bytes") [Value.ref _]) _ _ _); k_dflt (refine' bk_bytes (nb := 100000) ?zzN ?zzm ?zzb ?zzz ?_; (case zzN => k_asm); (case zzm => k_mem); (case zzb => k_extra "sz"); (case zzz => decide)); intro _ _)
  k_with "subscriptTail" => (k_here; (with_reducible show wpAny _ _ (subscriptTail _ _ (Value.ref _) (Value.int _ _)) _ _ _); k_dflt (refine' bk_item ?zzN ?zzm ?zzI ?zzx ?zzh0 ?zzhi ?_ ?zzhs; (case zzN => k_asm); (case zzm => k_mem); (case zzI => assumption); (case zzx => assumption); (case zzh0 => omega); (case zzhi => omega); (case zzhs => with_unfolding_all rfl)); intro _ _)
  k_with "binaryOp RShift int int" => (k_here; refine' shr_f ?zze ?zzn ?_; (case zze => assumption); (case zzn => decide))
  k_with "binaryOp LShift int int" => (k_here; refine' shl_f ?zze ?zzn ?zzn2 ?zza ?_; (case zze => assumption); (case zzn => decide); (case zzn2 => decide); (case zza => decide))
  k_with "binaryOp BitAnd int int" => (k_here; refine' and_f ?zze ?_; (case zze => assumption))
  k_with "binaryOp BitOr int int" => (k_here; refine' or_f ?zze ?_; (case zze => assumption))
  k_with "spliced" => (k_here; first | refine args_cons ?_ | refine args_nil ⟨Fr.keep (by assumption) _ _ (by assumption), ?_⟩ | (refine args_nil ?_; try simp only [List.cons_append, List.nil_append]))
  have rs_add2 : S_rs_add2 Mine.hd.heap_1_39 Mine.hd.view_1_40 := by
    as_aux_lemma =>
      have hfill : (fun _ : OpenLaw × (Params → Frag) => True) (PySem.Challenge.rw_ay0001_01, Mine.hd.heap_1_39) := by k_fill; trivial
      clear hfill
      unfold S_rs_add2
      intro w A dp un gd env outer h₀ L m news s R q dq l rs lo hi ti tj hA ⟨⟨A₀, base, B⟩, F, X, N₀, ⟨loose, mean, mg, mb, T⟩, hf, hk⟩ hd hu ⟨t, vs, n, hq, hdq, hl, hR⟩ hn hlt ret
      subst hA
      obtain ⟨rest, N, hoff, hsub, hsub2⟩ := news_shape N₀ [(q, instObj 334 dq), (dq, rsD w.params l t), (l, listOf vs.toArray n)] (by simp [hq, hdq, hl])
      have d1 : @Ne Nat q dq := news_neI N₀ hq hdq rfl rfl
      have d2 : @Ne Nat q l := news_neI N₀ hq hl rfl rfl
      have d3 : @Ne Nat dq l := news_neT N₀ hdq hl rfl rfl (by decide)
      replace hoff : OwnOff rest [q, dq, l] := hoff
      replace hsub : ∀ p ∈ news, p ∈ (q, instObj 334 dq) :: (dq, rsD w.params l t) :: (l, listOf vs.toArray n) :: rest := hsub
      replace N : News h₀ L s.heap ((q, instObj 334 dq) :: (dq, rsD w.params l t) :: (l, listOf vs.toArray n) :: rest) := N
      have hR' := hR.mono (fun p hp _ => hsub p hp)
      k_enter
      k_steps
      rename_i gg LL hh FG FF NN BB XX TT
      have hlen := hR.len
      refine enum_new FF NN (by k_mem) fun h1 e F1 N1 he => ?_
      refine iterE2 (fun j => ∀ p ∈ rs.take j, ¬ hi < p.1 ∧ p.2 < lo) rfl he (by k_mem) F1 N1 (fun p hp => by simp at hp) ?_ ?_
      · intro j v tv h tk' hv hpre F₁ N₁
        obtain ⟨a, b, ra, t', u', k', hp, rfl, hmem⟩ := hR'.getv hv
        have hj : j < rs.length := by
          rcases Nat.lt_or_ge j rs.length with q | q
          · exact q
          · rw [List.getElem?_eq_none q] at hp; cases hp
        k_steps
        · refine (?_ : LeaveK h₀ L m gg R _ _)
          have e := addR_ins hpre hp (by assumption)
          rw [e] at ret
          k_steps
          exact ret _ _ _ (by assumption) (by assumption) ⟨t, _, _, by k_mem, by k_mem, by k_mem, by exact RngsAt.append ((hR.take j).keep N₀ hl (keep4 hsub)) ⟨⟨_, _, _, _, rfl, by k_mem⟩, (hR.drop j).keep N₀ hl (keep4 hsub)⟩⟩ (keep4 hsub)
        · dsimp only [ETurn]
          refine ⟨_, _, rfl, F₁, fun y h1 h2 => (if_neg h1).trans (if_neg h2), fun p hp' => ?_⟩
          rw [List.take_add_one, hp] at hp'
          rcases List.mem_append.mp hp' with h | h
          · exact hpre p h
          · have : p = (a, b) := by simpa using h
            subst this
            exact ⟨by assumption, by assumption⟩
        · rename_i hX FX NX
          have e := addR_abs hpre hp (by assumption) (by assumption)
          refine ⟨?_⟩
          refine while1 (x := Str.ofString "stop") (fun n v nx => ∃ sv ts vs2 c rs2, v = Value.int sv ts ∧ nx = (q, instObj 334 dq) :: (dq, rsD w.params l t) :: (l, listOf vs2.toArray c) :: rest ∧ RngsAt nx vs2 (rs.take (j + 1) ++ rs2) ∧ absorb sv rs2 = absorb (if b > hi then b else hi) (rs.drop (j + 1)) ∧ n = rs2.length ∧ rs2.length < 1000) FX NX ⟨_, _, _, _, rs.drop (j + 1), rfl, rfl, by rw [List.take_append_drop]; exact hR', rfl, rfl, by rw [List.length_drop]; omega⟩ ?_
          rintro nn v₁ nx h₂ tk₂ F₂ N₂ ⟨sv, ts, vs2, c, rs2, rfl, rfl, hR2, habs, rfl, hb2⟩
          have hRk : ∀ news', (∀ p ∈ (q, instObj 334 dq) :: (dq, rsD w.params l t) :: (l, listOf vs2.toArray c) :: rest, p.1 ≠ l → p ∈ news') → RngsAt news' vs2 (rs.take (j + 1) ++ rs2) := fun news' hk => hR2.keep N₂ (by k_mem) hk
          cases rs2 with
          | nil =>
            have hlen2 := len_at rs j [] hj
            rw [List.length_nil, Nat.add_zero] at hlen2
            k_steps
            all_goals first
              | (exfalso; omega)
              | (refine (?_ : LeaveK h₀ L m gg R _ _)
                 rw [e, ← habs] at ret
                 k_steps
                 refine ret _ _ _ (by assumption) (by assumption) ⟨t, _, _, by k_mem, by k_mem, by k_mem, ?_⟩ (keep4 hsub)
                 exact set_at rs j _ [] hj ▸ RngsAt.set (by k_mem) j (hRk _ (keep4 fun _ h => h)))
          | cons p2 rs2 =>
            obtain ⟨a2, b2⟩ := p2
            have hlen2 := len_at rs j ((a2, b2) :: rs2) hj
            rw [List.length_cons] at hlen2 hb2
            have hix : (rs.take (j + 1) ++ (a2, b2) :: rs2)[((j : Int) + 1).toNat]? = some (a2, b2) := get_at rs j (a2, b2) rs2 hj
            k_steps
            all_goals try (exfalso; omega)
            · refine ⟨rfl, _, _, _, _, rs2.length, rfl, by assumption, by assumption, by simp, _, _, _, _, rs2, rfl, rfl, ?_, ?_, rfl, by omega⟩
              · have H := hRk _ (keep3 (ol' := listOf (vs2.take (((j : Int) + 1).toNat) ++ vs2.drop (((j : Int) + 1).toNat + 1)).toArray (c + 1)) fun _ h => h)
                exact pop_at rs j (a2, b2) rs2 hj ▸ RngsAt.append (RngsAt.take (j + 1) H) (RngsAt.drop (j + 2) H)
              · rw [← habs, absorb_pos (by assumption)]
            · refine (?_ : LeaveK h₀ L m gg R _ _)
              rw [absorb_neg (by assumption)] at habs
              rw [e, ← habs] at ret
              k_steps
              refine ret _ _ _ (by assumption) (by assumption) ⟨t, _, _, by k_mem, by k_mem, by k_mem, ?_⟩ (keep4 hsub)
              exact set_at rs j _ _ hj ▸ RngsAt.set (by k_mem) j (hRk _ (keep4 fun _ h => h))
      · intro v1 v2 h tk' hpre F₁ N₁
        rw [hlen, List.take_length] at hpre
        have e := addR_app hpre
        rw [e] at ret
        dsimp only
        k_steps
        exact ret _ _ _ (by assumption) (by assumption) ⟨t, _, _, by k_mem, by k_mem, by k_mem, by exact RngsAt.append (hR.keep N₀ hl (keep4 hsub)) ⟨⟨_, _, _, _, rfl, by k_mem⟩, trivial⟩⟩ (keep4 hsub)
  have rs_add1 : S_rs_add1 Mine.hd.heap_1_39 Mine.hd.view_1_40 := by
    as_aux_lemma =>
      have hfill : (fun _ : OpenLaw × (Params → Frag) => True) (PySem.Challenge.rw_ay0001_01, Mine.hd.heap_1_39) := by k_fill; trivial
      clear hfill
      unfold S_rs_add1
      intro w A dp un gd env outer h₀ L m news s R q dq l rs lo ti hA ⟨⟨A₀, base, B⟩, F, X, N₀, ⟨loose, mean, mg, mb, T⟩, hf, hk⟩ hd hu ⟨t, vs, n, hq, hdq, hl, hR⟩ hn ret
      subst hA
      obtain ⟨rest, N, hoff, hsub, hsub2⟩ := news_shape N₀ [(q, instObj 334 dq), (dq, rsD w.params l t), (l, listOf vs.toArray n)] (by simp [hq, hdq, hl])
      have d1 : @Ne Nat q dq := news_neI N₀ hq hdq rfl rfl
      have d2 : @Ne Nat q l := news_neI N₀ hq hl rfl rfl
      have d3 : @Ne Nat dq l := news_neT N₀ hdq hl rfl rfl (by decide)
      replace hoff : OwnOff rest [q, dq, l] := hoff
      replace hsub : ∀ p ∈ news, p ∈ (q, instObj 334 dq) :: (dq, rsD w.params l t) :: (l, listOf vs.toArray n) :: rest := hsub
      replace N : News h₀ L s.heap ((q, instObj 334 dq) :: (dq, rsD w.params l t) :: (l, listOf vs.toArray n) :: rest) := N
      have hR' := hR.mono (fun p hp _ => hsub p hp)
      k_enter
      k_steps
      all_goals try (exfalso; omega)
      rename_i gg LL hxx FG BB XX TT hh FF NN _
      have hlen := hR.len
      refine enum_new FF NN (by k_mem) fun h1 e F1 N1 he => ?_
      refine iterE2 (fun j => ∀ p ∈ rs.take j, ¬ lo + 1 < p.1 ∧ p.2 < lo) rfl he (by k_mem) F1 N1 (fun p hp => by simp at hp) ?_ ?_
      · intro j v tv h tk' hv hpre F₁ N₁
        obtain ⟨a, b, ra, t', u', k', hp, rfl, hmem⟩ := hR'.getv hv
        have hj : j < rs.length := by
          rcases Nat.lt_or_ge j rs.length with q | q
          · exact q
          · rw [List.getElem?_eq_none q] at hp; cases hp
        k_steps
        · refine (?_ : LeaveK h₀ L m gg R _ _)
          have e := addR_ins hpre hp (by assumption)
          rw [e] at ret
          k_steps
          exact ret _ _ _ (by assumption) (by assumption) ⟨t, _, _, by k_mem, by k_mem, by k_mem, by exact RngsAt.append ((hR.take j).keep N₀ hl (keep4 hsub)) ⟨⟨_, _, _, _, rfl, by k_mem⟩, (hR.drop j).keep N₀ hl (keep4 hsub)⟩⟩ (keep4 hsub)
        · dsimp only [ETurn]
          refine ⟨_, _, rfl, F₁, fun y h1 h2 => (if_neg h1).trans (if_neg h2), fun p hp' => ?_⟩
          rw [List.take_add_one, hp] at hp'
          rcases List.mem_append.mp hp' with h | h
          · exact hpre p h
          · have : p = (a, b) := by simpa using h
            subst this
            exact ⟨by assumption, by assumption⟩
        · rename_i hX FX NX
          have e := addR_abs hpre hp (by assumption) (by assumption)
          refine ⟨?_⟩
          refine while1 (x := Str.ofString "stop") (fun n v nx => ∃ sv ts vs2 c rs2, v = Value.int sv ts ∧ nx = (q, instObj 334 dq) :: (dq, rsD w.params l t) :: (l, listOf vs2.toArray c) :: rest ∧ RngsAt nx vs2 (rs.take (j + 1) ++ rs2) ∧ absorb sv rs2 = absorb (if b > lo + 1 then b else lo + 1) (rs.drop (j + 1)) ∧ n = rs2.length ∧ rs2.length < 1000) FX NX ⟨_, _, _, _, rs.drop (j + 1), rfl, rfl, by rw [List.take_append_drop]; exact hR', rfl, rfl, by rw [List.length_drop]; omega⟩ ?_
          rintro nn v₁ nx h₂ tk₂ F₂ N₂ ⟨sv, ts, vs2, c, rs2, rfl, rfl, hR2, habs, rfl, hb2⟩
          have hRk : ∀ news', (∀ p ∈ (q, instObj 334 dq) :: (dq, rsD w.params l t) :: (l, listOf vs2.toArray c) :: rest, p.1 ≠ l → p ∈ news') → RngsAt news' vs2 (rs.take (j + 1) ++ rs2) := fun news' hk => hR2.keep N₂ (by k_mem) hk
          cases rs2 with
          | nil =>
            have hlen2 := len_at rs j [] hj
            rw [List.length_nil, Nat.add_zero] at hlen2
            k_steps
            all_goals first
              | (exfalso; omega)
              | (refine (?_ : LeaveK h₀ L m gg R _ _)
                 rw [e, ← habs] at ret
                 k_steps
                 refine ret _ _ _ (by assumption) (by assumption) ⟨t, _, _, by k_mem, by k_mem, by k_mem, ?_⟩ (keep4 hsub)
                 exact set_at rs j _ [] hj ▸ RngsAt.set (by k_mem) j (hRk _ (keep4 fun _ h => h)))
          | cons p2 rs2 =>
            obtain ⟨a2, b2⟩ := p2
            have hlen2 := len_at rs j ((a2, b2) :: rs2) hj
            rw [List.length_cons] at hlen2 hb2
            have hix : (rs.take (j + 1) ++ (a2, b2) :: rs2)[((j : Int) + 1).toNat]? = some (a2, b2) := get_at rs j (a2, b2) rs2 hj
            k_steps
            all_goals try (exfalso; omega)
            · refine ⟨rfl, _, _, _, _, rs2.length, rfl, by assumption, by assumption, by simp, _, _, _, _, rs2, rfl, rfl, ?_, ?_, rfl, by omega⟩
              · have H := hRk _ (keep3 (ol' := listOf (vs2.take (((j : Int) + 1).toNat) ++ vs2.drop (((j : Int) + 1).toNat + 1)).toArray (c + 1)) fun _ h => h)
                exact pop_at rs j (a2, b2) rs2 hj ▸ RngsAt.append (RngsAt.take (j + 1) H) (RngsAt.drop (j + 2) H)
              · rw [← habs, absorb_pos (by assumption)]
            · refine (?_ : LeaveK h₀ L m gg R _ _)
              rw [absorb_neg (by assumption)] at habs
              rw [e, ← habs] at ret
              k_steps
              refine ret _ _ _ (by assumption) (by assumption) ⟨t, _, _, by k_mem, by k_mem, by k_mem, ?_⟩ (keep4 hsub)
              exact set_at rs j _ _ hj ▸ RngsAt.set (by k_mem) j (hRk _ (keep4 fun _ h => h))
      · intro v1 v2 h tk' hpre F₁ N₁
        rw [hlen, List.take_length] at hpre
        have e := addR_app hpre
        rw [e] at ret
        dsimp only
        k_steps
        exact ret _ _ _ (by assumption) (by assumption) ⟨t, _, _, by k_mem, by k_mem, by k_mem, by exact RngsAt.append (hR.keep N₀ hl (keep4 hsub)) ⟨⟨_, _, _, _, rfl, by k_mem⟩, trivial⟩⟩ (keep4 hsub)
  k_with_none
  k_with "enter" => (first
    | (refine' code_def ?zzk1 ?zzk2 ?zzk3 ?zzk4 ?zzk5 ?zzkA ?zzkF ?zzkK ?zzk6 ?zzk7 ?zzk8 ?zzk9 ?zzkB ?_ ?zzc2 ?zzc3 ?zzc4 ?zzc5; (case zzkA => exact rfl); (case zzkF => assumption); (case zzkK => assumption); (case zzk1 => k_asm); (case zzk2 => k_asm); (case zzk3 => k_asm); (case zzk4 => k_asm); (case zzk5 => k_asm); (case zzk6 => k_is); (case zzk7 => k_is); (case zzk8 => ktr_room); (case zzk9 => first | exact BindsTo.of_eq rfl | exact binds_K (by first | assumption | exact Frag.In.keeps (by k_asm) (Fr.keep (by k_asm))) rfl (by k_is) rfl rfl rfl); (case zzc5 => decide); (case zzkB => exact locs rfl); (case zzc2 => exact rfl); (case zzc3 => exact rfl); (case zzc4 => exact rfl); k_whole; intro _ _ _ _ _ _ _ _ _; (try dsimp only); (try k_fold))
    | (refine' code_defC ?zzk1 ?zzk2 ?zzk3 ?zzk4 ?zzk5 ?zzkA ?zzkF ?zzkK ?zzk6 ?zzk7 ?zzk8 ?zzk9 ?zzkB ?zzkD ?_ ?zzc2 ?zzc3 ?zzc4; (case zzkA => exact rfl); (case zzkF => assumption); (case zzkK => assumption); (case zzk1 => k_asm); (case zzk2 => k_asm); (case zzk3 => k_asm); (case zzk4 => k_asm); (case zzk5 => k_asm); (case zzk6 => k_is); (case zzk7 => k_is); (case zzk8 => ktr_room); (case zzk9 => first | exact BindsTo.of_eq rfl | exact binds_K (by first | assumption | exact Frag.In.keeps (by k_asm) (Fr.keep (by k_asm))) rfl (by k_is) rfl rfl rfl); (case zzkB => exact rfl); (case zzkD => decide +kernel); (case zzc2 => exact rfl); (case zzc3 => exact rfl); (case zzc4 => exact rfl); k_whole; intro _ _ _ _ _ _ _ N' Y' _ _ _ l1; (try k_lt l1); k_cells Y'; (try simp only [List.cons_append, List.nil_append] at N'); (try dsimp only); (try k_fold)))
  k_with "all" => (first
    | exact allLt_ne (by assumption) (by omega)
    | exact allLt_ne (by assumption : _ ∧ AllLt _ _).2 (by omega)
    | exact allLt_ne (by assumption : _ ∧ _ ∧ AllLt _ _).2.2 (by omega)
    | exact allLt_ne (by assumption : _ ∧ _ ∧ _ ∧ AllLt _ _).2.2.2 (by omega)
    | exact allLt_ne (by assumption : _ ∧ _ ∧ _ ∧ _ ∧ AllLt _ _).2.2.2.2 (by omega)
    | exact allLt_ne (by assumption : _ ∧ _ ∧ _ ∧ _ ∧ _ ∧ AllLt _ _).2.2.2.2.2 (by omega))
  k_with "callWith ref" => (k_here; k_dflt (first
    | refine' callWith_K ?zzk1 ?zzk2 ?_; (case zzk1 => k_asm); (case zzk2 => k_is); k_whole
    | refine' callWith_K0 ?zzk1 ?zzk2 ?_; (case zzk1 => first | assumption | exact Frag.In.keeps (by k_asm) (Fr.keep (by k_asm))); (case zzk2 => k_is); k_whole))
  k_with "inst" => (first
    | (refine' InstAt.of_news ?zzN ?zzh1 ?zzh2; (case zzN => k_asm); (case zzh1 => k_mem); (case zzh2 => k_mem))
    | exact QAt.inst (by assumption) (by k_asm)
    | exact BufAt.inst (by assumption) (by k_asm)
    | exact WinAt.inst (by assumption) (by k_asm))
  k_with "ctx" => exact ⟨⟨_, _, by assumption⟩, by k_asm, by assumption, by k_asm, ⟨_, _, _, _, by assumption⟩, rfl, rfl⟩
  k_with "room" => (first | omega | (dsimp only [arn, Around.deeper]; omega) | decide +kernel)
  k_with "sz" => (repeat (first | assumption | refine SzB.pick ?_ | refine SzB.app (n := 100000) (k := 100000) ?_ ?_))
  k_with "exec While" => (k_here; refine hold_intro ?_)
  k_with "last exec While" => (k_here; refine hold_intro ?_)
  k_with "exec While Compare" => (k_here; refine hold_intro ?_)
  k_with "exec While BoolOp" => (k_here; refine hold_intro ?_)
  k_with "exec For" => (k_here; (rename HoldIf => hMk); clear hMk; refine hold_intro ?_)
  k_with "exec For Name Call cons nil" => (k_here; (rename HoldIf => hMk); clear hMk; refine hold_intro ?_)
  k_with "exec For Name Call" => (k_here; (rename HoldIf => hMk); clear hMk; refine hold_intro ?_)
  k_with "exec If" => (k_here; (rename HoldIf => hMk); clear hMk; refine hold_intro ?_)
  k_with "call builtin:set.add" => (k_here; kse_here; (with_reducible show wpAny _ _ (call (Value.builtin "set.add") [Value.ref _, Value.int _ _]) _ _ _); k_dflt (refine' set_add_fresh ?zzF ?zzN ?zzU ?zzd ?zzz ?zzf ?_; (case zzF => k_asm); (case zzN => k_asm); (case zzU => k_updF); (case zzd => k_asm); (case zzz => kse_small); (case zzf => assumption)); intro _ _ F' N' _; (try dsimp only at N'))
  k_with "call builtin:len" => (k_here; (with_reducible show wpAny _ _ (call (Value.builtin "len") [Value.ref _]) _ _ _); k_dflt (refine' rl_len ?zzN ?zzm ?zzR ?zzb ?_; (case zzN => k_asm); (case zzm => k_mem); (case zzR => assumption); (case zzb => omega)))
  k_with "subscriptTail" => (k_here; (with_reducible show wpAny _ _ (subscriptTail _ _ (Value.ref _) (Value.int _ _)) _ _ _); k_dflt (refine' rl_sub ?zzN ?zzm ?zzR ?zzb ?zzi ?_ ?zzhs; (case zzN => k_asm); (case zzm => k_mem); (case zzR => assumption); (case zzb => omega); (case zzi => first | exact .inl ⟨by omega, by assumption⟩ | exact .inr ⟨rfl, by assumption⟩); (case zzhs => with_unfolding_all rfl)); intro _ _ _ _ _)
  k_with "getAttr ref" => (k_here; k_dflt (first
    | ((with_reducible show wpAny _ _ (getAttr (Value.ref _) (PySem.Str.ofString "start") _) _ _ _); refine' rk_start ?zzN ?zzm ?_; (case zzN => k_asm); (case zzm => first | k_mem | assumption))
    | ((with_reducible show wpAny _ _ (getAttr (Value.ref _) (PySem.Str.ofString "stop") _) _ _ _); refine' rk_stop ?zzN ?zzm ?_; (case zzN => k_asm); (case zzm => first | k_mem | assumption))))
  k_with "call builtin:list.pop" => (k_here; (with_reducible show wpAny _ _ (call (Value.builtin _) [Value.ref _, Value.int _ _]) _ _ _); k_dflt (refine' rl_pop ?zzF ?zzN ?zzR ?zzb ?zzh0 ?zzp ?zzU ?_; (case zzF => k_asm); (case zzN => k_asm); (case zzR => assumption); (case zzb => first | omega | (simp only [List.length_cons]; omega)); (case zzh0 => first | decide | omega); (case zzp => first | exact rfl | assumption); (case zzU => k_upd)); intro h' _; revert h'; walk_at "i:hFN")
  k_with "call type:range" => (k_here; (with_reducible show wpAny _ _ (call (Value.type "range") [Value.int _ _, Value.int _ _]) _ _ _); k_dflt (refine' rk_new ?zzF ?zzN ?_; (case zzF => k_asm); (case zzN => k_asm)); intro rNew _ _ _ _ _ lRng; (have l1 := lRng); (try k_lt l1))
  k_with "compareOp In int ref" => (k_here; (with_reducible show wpAny _ _ (compareOp CmpOp.In (Value.int _ _) (Value.ref _)) _ _ _); k_dflt (refine' rk_contains ?zzN ?zzm ?_; (case zzN => k_asm); (case zzm => first | k_mem | assumption | exact .tail _ (by assumption))))
  k_with "call builtin:list.insert" => (k_here; (with_reducible show wpAny _ _ (call (Value.builtin _) [Value.ref _, Value.int _ _, _]) _ _ _); k_dflt (refine' rl_insert ?zzF ?zzN ?zzR ?zzb ?zzh0 ?zzp ?zzU ?_; (case zzF => k_asm); (case zzN => k_asm); (case zzR => first | assumption | exact RngsAt.tail1 (by assumption)); (case zzb => omega); (case zzh0 => omega); (case zzp => omega); (case zzU => k_upd)); walk_at "i:hFN")
  k_with "setItem ref int" => (k_here; (with_reducible show wpAny _ _ (setItem (Value.ref _) (Value.int _ _) (Value.ref _)) _ _ _); k_dflt (refine' rl_set ?zzF ?zzN ?zzR ?zzb ?zzh0 ?zzp ?zzU ?_; (case zzF => k_asm); (case zzN => k_asm); (case zzR => first | assumption | exact RngsAt.tail1 (by assumption)); (case zzb => omega); (case zzh0 => omega); (case zzp => omega); (case zzU => k_upd)); walk_at "i:hFN")
  k_with "call builtin:list.append" => (k_here; (with_reducible show wpAny _ _ (call (Value.builtin _) [Value.ref _, Value.ref _]) _ _ _); k_dflt (refine' rl_append ?zzF ?zzN ?zzR ?zzb ?zzU ?_; (case zzF => k_asm); (case zzN => k_asm); (case zzR => first | assumption | exact RngsAt.tail1 (by assumption)); (case zzb => omega); (case zzU => k_upd)); walk_at "i:hFN")
  k_with "call builtin:len" => (k_here; (with_reducible show wpAny _ _ (call (Value.builtin "len") [Value.ref _]) _ _ _); k_dflt (refine' bk_len ?zzN ?zzm ?zzR ?zzb ?_; (case zzN => k_asm); (case zzm => k_mem); (case zzR => assumption); (case zzb => omega)); intro _ _)
  k_with "subscriptTail" => (k_here; (with_reducible show wpAny _ _ (subscriptTail _ (Expr.Slice _ _ none _) (Value.ref _) (Value.ref _)) _ _ _); k_dflt (refine' bk_slice (nb := 100000) (s := ⟨_, _, _, _, _⟩) ?zzF ?zzN ?zzm ?zzl ?zzu ?zzb ?zzz ?_ ?zzhs; (case zzF => k_asm); (case zzN => k_asm); (case zzm => k_mem); (case zzl => constructor); (case zzu => constructor); (case zzb => k_extra "sz"); (case zzz => decide); (case zzhs => with_unfolding_all rfl)); intro _ _ _ _ _ lBa; (have l1 := lBa); (try k_lt l1))
  k_with "binaryOp Add ref ref" => (k_here; k_dflt ((with_reducible show wpAny _ _ (binaryOp _ (Value.ref _) (Value.ref _)) _ _ _); refine' bk_add (nb := 200000) (nc := 100000) ?zzF ?zzN ?zzm ?zzm2 ?zzb ?zzc ?zzz ?_; (case zzF => k_asm); (case zzN => k_asm); (case zzm => k_mem); (case zzm2 => k_mem); (case zzb => k_extra "sz"); (case zzc => k_extra "sz"); (case zzz => decide)); intro _ _ _ _ _ lBa; (have l1 := lBa); (try k_lt l1))
  k_with "binaryOp Add ref bytes" => (k_here; k_dflt ((with_reducible show wpAny _ _ (binaryOp _ (Value.ref _) (Value.bytes _ _)) _ _ _); refine' bk_addB (nb := 100000) (nc := 100000) ?zzF ?zzN ?zzm ?zzb ?zzc ?zzz ?_; (case zzF => k_asm); (case zzN => k_asm); (case zzm => k_mem); (case zzb => k_extra "sz"); (case zzc => k_extra "sz"); (case zzz => decide)); intro _ _ _ _ _ lBa; (have l1 := lBa); (try k_lt l1))
  k_with "binaryOp Add ref" => walk_at "binaryOp Add ref bytes"
  k_with "call type:bytes" => (k_here; (with_reducible show wpAny _ _ (call (Value.type "bytes") [Value.ref _]) _ _ _); k_dflt (refine' bk_bytes (nb := 100000) ?zzN ?zzm ?zzb ?zzz ?_; (case zzN => k_asm); (case zzm => k_mem); (case zzb => k_extra "sz"); (case zzz => decide)); intro _ _)
  k_with "subscriptTail" => (k_here; (with_reducible show wpAny _ _ (subscriptTail _ _ (Value.ref _) (Value.int _ _)) _ _ _); k_dflt (refine' bk_item ?zzN ?zzm ?zzI ?zzx ?zzh0 ?zzhi ?_ ?zzhs; (case zzN => k_asm); (case zzm => k_mem); (case zzI => assumption); (case zzx => assumption); (case zzh0 => omega); (case zzhi => omega); (case zzhs => with_unfolding_all rfl)); intro _ _)
  k_with "binaryOp RShift int int" => (k_here; refine' shr_f ?zze ?zzn ?_; (case zze => assumption); (case zzn => decide))
  k_with "binaryOp LShift int int" => (k_here; refine' shl_f ?zze ?zzn ?zzn2 ?zza ?_; (case zze => assumption); (case zzn => decide); (case zzn2 => decide); (case zza => decide))
  k_with "binaryOp BitAnd int int" => (k_here; refine' and_f ?zze ?_; (case zze => assumption))
  k_with "binaryOp BitOr int int" => (k_here; refine' or_f ?zze ?_; (case zze => assumption))
  k_with "spliced" => (k_here; first | refine args_cons ?_ | refine args_nil ⟨Fr.keep (by assumption) _ _ (by assumption), ?_⟩ | (refine args_nil ?_; try simp only [List.cons_append, List.nil_append]))
  have push_bytes : S_push_bytes Mine.hd.heap_1_39 Mine.hd.view_1_40 := by
    as_aux_lemma =>
      have hfill : (fun _ : OpenLaw × (Params → Frag) => True) (PySem.Challenge.rw_ay0001_01, Mine.hd.heap_1_39) := by k_fill; trivial
      clear hfill
      unfold S_push_bytes
      intro w A dp un gd env outer h₀ L m news s R x dx I J pl v tv hA ⟨⟨A₀, base, B⟩, F, X, N₀, ⟨loose, mean, mg, mb, T⟩, hf, hk⟩ hd hu ⟨t1, t2, t3, o, O, hx, hdx, ho, hI⟩ hn hJ hle ret
      subst hA
      have d1 : @Ne Nat x dx := news_neI N₀ hx hdx rfl rfl
      have d2 : @Ne Nat x o := news_neI N₀ hx ho rfl rfl
      have d3 : @Ne Nat dx o := news_neT N₀ hdx ho rfl rfl (by decide)
      obtain ⟨rest, N, hoff, hsub, hsub2⟩ := news_shape N₀ [(x, instObj 226 dx), (dx, bufD w.params o pl t1 t2 t3), (o, baO O)] (by simp [hx, hdx, ho])
      replace hoff : OwnOff rest [x, dx, o] := hoff
      replace hsub : ∀ p ∈ news, p ∈ (x, instObj 226 dx) :: (dx, bufD w.params o pl t1 t2 t3) :: (o, baO O) :: rest := hsub
      replace N : News h₀ L s.heap ((x, instObj 226 dx) :: (dx, bufD w.params o pl t1 t2 t3) :: (o, baO O) :: rest) := N
      have hOs : O.size = I.length := by rw [← hI, KBw.ints_length]
      have hvs : v.size = J.length := by rw [← hJ, KBw.ints_length]
      have sz1 : SzB O 100000 := by unfold SzB; omega
      have sz2 : SzB v 100000 := by unfold SzB; omega
      k_enter
      k_steps
      have e : ((pl : Int) + (J.length : Int)) = ((pl + J.length : Nat) : Int) := by push_cast; rfl
      refine ret _ _ _ (by assumption) (by assumption) (BufAt.of (by k_mem) (by k_mem) (by k_mem) e ?_) (fun p hp h1 => .tail _ (.tail _ (.tail _ (.tail _ (keepD hsub p hp h1)))))
      rw [bInts_append, bInts_append, bInts_upto hI, hJ, e, bInts_from hI]
  have pull_bytes : S_pull_bytes Mine.hd.heap_1_39 Mine.hd.view_1_40 := by
    as_aux_lemma =>
      have hfill : (fun _ : OpenLaw × (Params → Frag) => True) (PySem.Challenge.rw_ay0001_01, Mine.hd.heap_1_39) := by k_fill; trivial
      clear hfill
      unfold S_pull_bytes
      intro w A dp un gd env outer h₀ L m news s R x dx I pl k i tv hA ⟨⟨A₀, base, B⟩, F, X, N₀, ⟨loose, mean, mg, mb, T⟩, hf, hk⟩ hd hu ⟨t1, t2, t3, o, O, hx, hdx, ho, hI⟩ hn hik hle ret
      subst hA hik
      have d1 : @Ne Nat x dx := news_neI N₀ hx hdx rfl rfl
      have d2 : @Ne Nat x o := news_neI N₀ hx ho rfl rfl
      have d3 : @Ne Nat dx o := news_neT N₀ hdx ho rfl rfl (by decide)
      obtain ⟨rest, N, hoff, hsub, hsub2⟩ := news_shape N₀ [(x, instObj 226 dx), (dx, bufD w.params o pl t1 t2 t3), (o, baO O)] (by simp [hx, hdx, ho])
      replace hoff : OwnOff rest [x, dx, o] := hoff
      replace hsub : ∀ p ∈ news, p ∈ (x, instObj 226 dx) :: (dx, bufD w.params o pl t1 t2 t3) :: (o, baO O) :: rest := hsub
      replace N : News h₀ L s.heap ((x, instObj 226 dx) :: (dx, bufD w.params o pl t1 t2 t3) :: (o, baO O) :: rest) := N
      have hOs : O.size = I.length := by rw [← hI, KBw.ints_length]
      have sz1 : SzB O 100000 := by unfold SzB; omega
      k_enter
      k_steps
      have e : ((pl : Int) + (k : Int)) = ((pl + k : Nat) : Int) := by push_cast; rfl
      refine ret _ _ _ _ _ (by assumption) (by assumption) (BufAt.of (by k_mem) (by k_mem) (by k_mem) e hI) ?_ (fun p hp h1 => .tail _ (keepD hsub p hp h1))
      rw [e, bInts_run hI pl (pl + k) (by omega) (by omega), Nat.add_sub_cancel_left]
  have buf_data : S_buf_data Mine.hd.heap_1_39 Mine.hd.view_1_40 := by
    as_aux_lemma =>
      have hfill : (fun _ : OpenLaw × (Params → Frag) => True) (PySem.Challenge.rw_ay0001_01, Mine.hd.heap_1_39) := by k_fill; trivial
      clear hfill
      unfold S_buf_data
      intro w A dp un gd env outer h₀ L m news s R x dx I pl hA ⟨⟨A₀, base, B⟩, F, X, N₀, ⟨loose, mean, mg, mb, T⟩, hf, hk⟩ hd hu ⟨t1, t2, t3, o, O, hx, hdx, ho, hI⟩ hn ret
      subst hA
      have d1 : @Ne Nat x dx := news_neI N₀ hx hdx rfl rfl
      have d2 : @Ne Nat x o := news_neI N₀ hx ho rfl rfl
      have d3 : @Ne Nat dx o := news_neT N₀ hdx ho rfl rfl (by decide)
      obtain ⟨rest, N, hoff, hsub, hsub2⟩ := news_shape N₀ [(x, instObj 226 dx), (dx, bufD w.params o pl t1 t2 t3), (o, baO O)] (by simp [hx, hdx, ho])
      replace hoff : OwnOff rest [x, dx, o] := hoff
      replace hsub : ∀ p ∈ news, p ∈ (x, instObj 226 dx) :: (dx, bufD w.params o pl t1 t2 t3) :: (o, baO O) :: rest := hsub
      replace N : News h₀ L s.heap ((x, instObj 226 dx) :: (dx, bufD w.params o pl t1 t2 t3) :: (o, baO O) :: rest) := N
      have hOs : O.size = I.length := by rw [← hI, KBw.ints_length]
      have sz1 : SzB O 100000 := by unfold SzB; omega
      k_enter
      k_steps
      exact ret _ _ _ _ _ (by assumption) (by assumption) (bInts_upto hI pl) (fun p hp => .tail _ (hsub p hp))
  k_with_none
  k_with "enter" => (first
    | (refine' code_def ?zzk1 ?zzk2 ?zzk3 ?zzk4 ?zzk5 ?zzkA ?zzkF ?zzkK ?zzk6 ?zzk7 ?zzk8 ?zzk9 ?zzkB ?_ ?zzc2 ?zzc3 ?zzc4 ?zzc5; (case zzkA => exact rfl); (case zzkF => assumption); (case zzkK => assumption); (case zzk1 => k_asm); (case zzk2 => k_asm); (case zzk3 => k_asm); (case zzk4 => k_asm); (case zzk5 => k_asm); (case zzk6 => k_is); (case zzk7 => k_is); (case zzk8 => ktr_room); (case zzk9 => first | exact BindsTo.of_eq rfl | exact binds_K (by first | assumption | exact Frag.In.keeps (by k_asm) (Fr.keep (by k_asm))) rfl (by k_is) rfl rfl rfl); (case zzc5 => decide); (case zzkB => exact locs rfl); (case zzc2 => exact rfl); (case zzc3 => exact rfl); (case zzc4 => exact rfl); k_whole; intro _ _ _ _ _ _ _ _ _; (try dsimp only); (try k_fold))
    | (refine' code_defC ?zzk1 ?zzk2 ?zzk3 ?zzk4 ?zzk5 ?zzkA ?zzkF ?zzkK ?zzk6 ?zzk7 ?zzk8 ?zzk9 ?zzkB ?zzkD ?_ ?zzc2 ?zzc3 ?zzc4; (case zzkA => exact rfl); (case zzkF => assumption); (case zzkK => assumption); (case zzk1 => k_asm); (case zzk2 => k_asm); (case zzk3 => k_asm); (case zzk4 => k_asm); (case zzk5 => k_asm); (case zzk6 => k_is); (case zzk7 => k_is); (case zzk8 => ktr_room); (case zzk9 => first | exact BindsTo.of_eq rfl | exact binds_K (by first | assumption | exact Frag.In.keeps (by k_asm) (Fr.keep (by k_asm))) rfl (by k_is) rfl rfl rfl); (case zzkB => exact rfl); (case zzkD => decide +kernel); (case zzc2 => exact rfl); (case zzc3 => exact rfl); (case zzc4 => exact rfl); k_whole; intro _ _ _ _ _ _ _ N' Y' _ _ _ l1; (try k_lt l1); k_cells Y'; (try simp only [List.cons_append, List.nil_append] at N'); (try dsimp only); (try k_fold)))
  k_with "all" => (first
    | exact allLt_ne (by assumption) (by omega)
    | exact allLt_ne (by assumption : _ ∧ AllLt _ _).2 (by omega)
    | exact allLt_ne (by assumption : _ ∧ _ ∧ AllLt _ _).2.2 (by omega)
    | exact allLt_ne (by assumption : _ ∧ _ ∧ _ ∧ AllLt _ _).2.2.2 (by omega)
    | exact allLt_ne (by assumption : _ ∧ _ ∧ _ ∧ _ ∧ AllLt _ _).2.2.2.2 (by omega)
    | exact allLt_ne (by assumption : _ ∧ _ ∧ _ ∧ _ ∧ _ ∧ AllLt _ _).2.2.2.2.2 (by omega))
  k_with "callWith ref" => (k_here; k_dflt (first
    | refine' callWith_K ?zzk1 ?zzk2 ?_; (case zzk1 => k_asm); (case zzk2 => k_is); k_whole
    | refine' callWith_K0 ?zzk1 ?zzk2 ?_; (case zzk1 => first | assumption | exact Frag.In.keeps (by k_asm) (Fr.keep (by k_asm))); (case zzk2 => k_is); k_whole))
  k_with "inst" => (first
    | (refine' InstAt.of_news ?zzN ?zzh1 ?zzh2; (case zzN => k_asm); (case zzh1 => k_mem); (case zzh2 => k_mem))
    | exact QAt.inst (by assumption) (by k_asm)
    | exact BufAt.inst (by assumption) (by k_asm)
    | exact WinAt.inst (by assumption) (by k_asm))
  k_with "ctx" => exact ⟨⟨_, _, by assumption⟩, by k_asm, by assumption, by k_asm, ⟨_, _, _, _, by assumption⟩, rfl, rfl⟩
  k_with "room" => (first | omega | (dsimp only [arn, Around.deeper]; omega) | decide +kernel)
  k_with "sz" => (repeat (first | assumption | refine SzB.pick ?_ | refine SzB.app (n := 100000) (k := 100000) ?_ ?_))
  k_with "exec While" => (k_here; refine hold_intro ?_)
  k_with "last exec While" => (k_here; refine hold_intro ?_)
  k_with "exec While Compare" => (k_here; refine hold_intro ?_)
  k_with "exec While BoolOp" => (k_here; refine hold_intro ?_)
  k_with "exec For" => (k_here; (rename HoldIf => hMk); clear hMk; refine hold_intro ?_)
  k_with "exec For Name Call cons nil" => (k_here; (rename HoldIf => hMk); clear hMk; refine hold_intro ?_)
  k_with "exec For Name Call" => (k_here; (rename HoldIf => hMk); clear hMk; refine hold_intro ?_)
  k_with "exec If" => (k_here; (rename HoldIf => hMk); clear hMk; refine hold_intro ?_)
  k_with "call builtin:set.add" => (k_here; kse_here; (with_reducible show wpAny _ _ (call (Value.builtin "set.add") [Value.ref _, Value.int _ _]) _ _ _); k_dflt (refine' set_add_fresh ?zzF ?zzN ?zzU ?zzd ?zzz ?zzf ?_; (case zzF => k_asm); (case zzN => k_asm); (case zzU => k_updF); (case zzd => k_asm); (case zzz => kse_small); (case zzf => assumption)); intro _ _ F' N' _; (try dsimp only at N'))
  k_with "call builtin:len" => (k_here; (with_reducible show wpAny _ _ (call (Value.builtin "len") [Value.ref _]) _ _ _); k_dflt (refine' rl_len ?zzN ?zzm ?zzR ?zzb ?_; (case zzN => k_asm); (case zzm => k_mem); (case zzR => assumption); (case zzb => omega)))
  k_with "subscriptTail" => (k_here; (with_reducible show wpAny _ _ (subscriptTail _ _ (Value.ref _) (Value.int _ _)) _ _ _); k_dflt (refine' rl_sub ?zzN ?zzm ?zzR ?zzb ?zzi ?_ ?zzhs; (case zzN => k_asm); (case zzm => k_mem); (case zzR => assumption); (case zzb => omega); (case zzi => first | exact .inl ⟨by omega, by assumption⟩ | exact .inr ⟨rfl, by assumption⟩); (case zzhs => with_unfolding_all rfl)); intro _ _ _ _ _)
  k_with "getAttr ref" => (k_here; k_dflt (first
    | ((with_reducible show wpAny _ _ (getAttr (Value.ref _) (PySem.Str.ofString "start") _) _ _ _); refine' rk_start ?zzN ?zzm ?_; (case zzN => k_asm); (case zzm => first | k_mem | assumption))
    | ((with_reducible show wpAny _ _ (getAttr (Value.ref _) (PySem.Str.ofString "stop") _) _ _ _); refine' rk_stop ?zzN ?zzm ?_; (case zzN => k_asm); (case zzm => first | k_mem | assumption))))
  k_with "call builtin:list.pop" => (k_here; (with_reducible show wpAny _ _ (call (Value.builtin _) [Value.ref _, Value.int _ _]) _ _ _); k_dflt (refine' rl_pop ?zzF ?zzN ?zzR ?zzb ?zzh0 ?zzp ?zzU ?_; (case zzF => k_asm); (case zzN => k_asm); (case zzR => assumption); (case zzb => first | omega | (simp only [List.length_cons]; omega)); (case zzh0 => first | decide | omega); (case zzp => first | exact rfl | assumption); (case zzU => k_upd)); intro h' _; revert h'; walk_at "i:hFN")
  k_with "call type:range" => (k_here; (with_reducible show wpAny _ _ (call (Value.type "range") [Value.int _ _, Value.int _ _]) _ _ _); k_dflt (refine' rk_new ?zzF ?zzN ?_; (case zzF => k_asm); (case zzN => k_asm)); intro rNew _ _ _ _ _ lRng; (have l1 := lRng); (try k_lt l1))
  k_with "compareOp In int ref" => (k_here; (with_reducible show wpAny _ _ (compareOp CmpOp.In (Value.int _ _) (Value.ref _)) _ _ _); k_dflt (refine' rk_contains ?zzN ?zzm ?_; (case zzN => k_asm); (case zzm => first | k_mem | assumption | exact .tail _ (by assumption))))
  k_with "call builtin:list.insert" => (k_here; (with_reducible show wpAny _ _ (call (Value.builtin _) [Value.ref _, Value.int _ _, _]) _ _ _); k_dflt (refine' rl_insert ?zzF ?zzN ?zzR ?zzb ?zzh0 ?zzp ?zzU ?_; (case zzF => k_asm); (case zzN => k_asm); (case zzR => first | assumption | exact RngsAt.tail1 (by assumption)); (case zzb => omega); (case zzh0 => omega); (case zzp => omega); (case zzU => k_upd)); walk_at "i:hFN")
  k_with "setItem ref int" => (k_here; (with_reducible show wpAny _ _ (setItem (Value.ref _) (Value.int _ _) (Value.ref _)) _ _ _); k_dflt (refine' rl_set ?zzF ?zzN ?zzR ?zzb ?zzh0 ?zzp ?zzU ?_; (case zzF => k_asm); (case zzN => k_asm); (case zzR => first | assumption | exact RngsAt.tail1 (by assumption)); (case zzb => omega); (case zzh0 => omega); (case zzp => omega); (case zzU => k_upd)); walk_at "i:hFN")
  k_with "call builtin:list.append" => (k_here; (with_reducible show wpAny _ _ (call (Value.builtin _) [Value.ref _, Value.ref _]) _ _ _); k_dflt (refine' rl_append ?zzF ?zzN ?zzR ?zzb ?zzU ?_; (case zzF => k_asm); (case zzN => k_asm); (case zzR => first | assumption | exact RngsAt.tail1 (by assumption)); (case zzb => omega); (case zzU => k_upd)); walk_at "i:hFN")
  k_with "call builtin:len" => (k_here; (with_reducible show wpAny _ _ (call (Value.builtin "len") [Value.ref _]) _ _ _); k_dflt (refine' bk_len ?zzN ?zzm ?zzR ?zzb ?_; (case zzN => k_asm); (case zzm => k_mem); (case zzR => assumption); (case zzb => omega)); intro _ _)
  k_with "subscriptTail" => (k_here; (with_reducible show wpAny _ _ (subscriptTail _ (Expr.Slice _ _ none _) (Value.ref _) (Value.ref _)) _ _ _); k_dflt (refine' bk_slice (nb := 100000) (s := ⟨_, _, _, _, _⟩) ?zzF ?zzN ?zzm ?zzl ?zzu ?zzb ?zzz ?_ ?zzhs; (case zzF => k_asm); (case zzN => k_asm); (case zzm => k_mem); (case zzl => constructor); (case zzu => constructor); (case zzb => k_extra "sz"); (case zzz => decide); (case zzhs => with_unfolding_all rfl)); intro _ _ _ _ _ lBa; (have l1 := lBa); (try k_lt l1))
  k_with "binaryOp Add ref ref" => (k_here; k_dflt ((with_reducible show wpAny _ _ (binaryOp _ (Value.ref _) (Value.ref _)) _ _ _); refine' bk_add (nb := 200000) (nc := 100000) ?zzF ?zzN ?zzm ?zzm2 ?zzb ?zzc ?zzz ?_; (case zzF => k_asm); (case zzN => k_asm); (case zzm => k_mem); (case zzm2 => k_mem); (case zzb => k_extra "sz"); (case zzc => k_extra "sz"); (case zzz => decide)); intro _ _ _ _ _ lBa; (have l1 := lBa); (try k_lt l1))
  k_with "binaryOp Add ref bytes" => (k_here; k_dflt ((with_reducible show wpAny _ _ (binaryOp _ (Value.ref _) (Value.bytes _ _)) _ _ _); refine' bk_addB (nb := 100000) (nc := 100000) ?zzF ?zzN ?zzm ?zzb ?zzc ?zzz ?_; (case zzF => k_asm); (case zzN => k_asm); (case zzm => k_mem); (case zzb => k_extra "sz"); (case zzc => k_extra "sz"); (case zzz => decide)); intro _ _ _ _ _ lBa; (have l1 := lBa); (try k_lt l1))
  k_with "binaryOp Add ref" => walk_at "binaryOp Add ref bytes"
  k_with "call type:bytes" => (k_here; (with_reducible show wpAny _ _ (call (Value.type "bytes") [Value.ref _]) _ _ _); k_dflt (refine' bk_bytes (nb := 100000) ?zzN ?zzm ?zzb ?zzz ?_; (case zzN => k_asm); (case zzm => k_mem); (case zzb => k_extra "sz"); (case zzz => decide)); intro _ _)
  k_with "subscriptTail" => (k_here; (with_reducible show wpAny _ _ (subscriptTail _ _ (Value.ref _) (Value.int _ _)) _ _ _); k_dflt (refine' bk_item ?zzN ?zzm ?zzI ?zzx ?zzh0 ?zzhi ?_ ?zzhs; (case zzN => k_asm); (case zzm => k_mem); (case zzI => assumption); (case zzx => assumption); (case zzh0 => omega); (case zzhi => omega); (case zzhs => with_unfolding_all rfl)); intro _ _)
  k_with "binaryOp RShift int int" => (k_here; refine' shr_f ?zze ?zzn ?_; (case zze => assumption); (case zzn => decide))
  k_with "binaryOp LShift int int" => (k_here; refine' shl_f ?zze ?zzn ?zzn2 ?zza ?_; (case zze => assumption); (case zzn => decide); (case zzn2 => decide); (case zza => decide))
  k_with "binaryOp BitAnd int int" => (k_here; refine' and_f ?zze ?_; (case zze => assumption))
  k_with "binaryOp BitOr int int" => (k_here; refine' or_f ?zze ?_; (case zze => assumption))
  k_with "spliced" => (k_here; first | refine args_cons ?_ | refine args_nil ⟨Fr.keep (by assumption) _ _ (by assumption), ?_⟩ | (refine args_nil ?_; try simp only [List.cons_append, List.nil_append]))
  k_with "call ref" => (k_here; (with_reducible show wpAny _ _ (call (Value.ref 188) _ _) _ _ _); (k_dflt refine' wpAny_call (push_bytes rfl ?zzC ?zzd ?zzu ?zzH ?zzn ?zzJ ?zzl ?_); (case zzC => k_extra "ctx"); (case zzd => k_extra "room"); (case zzu => k_extra "room"); (case zzH => first | assumption | exact BufAt.cons (by assumption)); (case zzn => omega); (case zzJ => assumption); (case zzl => omega)); intro _ _ _ _ _ hPB hPk; (try dsimp only))
  k_with "call ref" => (k_here; (with_reducible show wpAny _ _ (call (Value.ref 146) _ _) _ _ _); (k_dflt refine' wpAny_call (pull_bytes rfl ?zzC ?zzd ?zzu ?zzH ?zzn ?zzi ?zzl ?_); (case zzC => k_extra "ctx"); (case zzd => k_extra "room"); (case zzu => k_extra "room"); (case zzH => first | assumption | exact BufAt.cons (by assumption)); (case zzn => omega); (case zzi => first | exact (rfl : (1 : Int) = ((1 : Nat) : Int)) | exact (rfl : (2 : Int) = ((2 : Nat) : Int))); (case zzl => omega)); intro _ _ _ _ _ _ _ hPB hPv hPk; (try (have hst' := hPk _ (List.Mem.head _) (by intro e; have e2 : @Eq Nat _ _ := e; omega))); (try dsimp only))
  have push_var : S_push_var Mine.hd.heap_1_39 Mine.hd.view_1_40 := by
    as_aux_lemma =>
      have hfill : (fun _ : OpenLaw × (Params → Frag) => True) (PySem.Challenge.rw_ay0001_01, Mine.hd.heap_1_39) := by k_fill; trivial
      clear hfill
      unfold S_push_var
      intro w A dp un gd env outer h₀ L m news s R x dx I pl v tv hA ⟨⟨A₀, base, B⟩, F, X, N₀, ⟨loose, mean, mg, mb, T⟩, hf, hk⟩ hd hu ⟨t1, t2, t3, o, O, hx, hdx, ho, hI⟩ hn hv0 hv1 hle ret
      subst hA
      have d1 : @Ne Nat x dx := news_neI N₀ hx hdx rfl rfl
      have d2 : @Ne Nat x o := news_neI N₀ hx ho rfl rfl
      have d3 : @Ne Nat dx o := news_neT N₀ hdx ho rfl rfl (by decide)
      obtain ⟨rest, N, hoff, hsub, hsub2⟩ := news_shape N₀ [(x, instObj 226 dx), (dx, bufD w.params o pl t1 t2 t3), (o, baO O)] (by simp [hx, hdx, ho])
      replace hoff : OwnOff rest [x, dx, o] := hoff
      replace hsub : ∀ p ∈ news, p ∈ (x, instObj 226 dx) :: (dx, bufD w.params o pl t1 t2 t3) :: (o, baO O) :: rest := hsub
      replace N : News h₀ L s.heap ((x, instObj 226 dx) :: (dx, bufD w.params o pl t1 t2 t3) :: (o, baO O) :: rest) := N
      have hB : BufAt w ((x, instObj 226 dx) :: (dx, bufD w.params o pl t1 t2 t3) :: (o, baO O) :: rest) x dx I pl := ⟨t1, t2, t3, o, O, by k_mem, by k_mem, by k_mem, hI⟩
      by_cases hv : v ≤ 63
      · have e1 : encV v = [v] := by unfold encV; rw [if_pos hv]
        rw [e1] at ret hle
        simp only [List.length_cons, List.length_nil, Nat.zero_add] at ret hle
        k_enter
        k_steps
        have h1 : v % 256 = v := by omega
        simp only [h1] at hPB
        exact ret _ _ _ (by assumption) (by assumption) hPB (fun p hp h1 => hPk p (hsub p hp) h1)
      · have e1 : encV v = [64 + v / 256, v % 256] := by unfold encV; rw [if_neg hv]
        rw [e1] at ret hle
        simp only [List.length_cons, List.length_nil, Nat.zero_add, Nat.reduceAdd] at ret hle
        have hor : Builtin.bitOr v 16384 = v + 16384 := or_16384 v hv0 hv1
        k_enter
        k_steps
        have h1 : (v + 16384) / 256 % 256 = 64 + v / 256 := by omega
        have h2 : (v + 16384) % 256 = v % 256 := by omega
        simp only [h1, h2] at hPB
        exact ret _ _ _ (by assumption) (by assumption) hPB (fun p hp h1 => hPk p (hsub p hp) h1)
  have pull_var : S_pull_var Mine.hd.heap_1_39 Mine.hd.view_1_40 := by
    as_aux_lemma =>
      have hfill : (fun _ : OpenLaw × (Params → Frag) => True) (PySem.Challenge.rw_ay0001_01, Mine.hd.heap_1_39) := by k_fill; trivial
      clear hfill
      unfold S_pull_var
      intro w A dp un gd env outer h₀ L m news s R x dx I pl v rest' hA ⟨⟨A₀, base, B⟩, F, X, N₀, ⟨loose, mean, mg, mb, T⟩, hf, hk⟩ hd hu ⟨t1, t2, t3, o, O, hx, hdx, ho, hI⟩ hn hv0 hv1 hdr ret
      subst hA
      have d1 : @Ne Nat x dx := news_neI N₀ hx hdx rfl rfl
      have d2 : @Ne Nat x o := news_neI N₀ hx ho rfl rfl
      have d3 : @Ne Nat dx o := news_neT N₀ hdx ho rfl rfl (by decide)
      obtain ⟨rest, N, hoff, hsub, hsub2⟩ := news_shape N₀ [(x, instObj 226 dx), (dx, bufD w.params o pl t1 t2 t3), (o, baO O)] (by simp [hx, hdx, ho])
      replace hoff : OwnOff rest [x, dx, o] := hoff
      replace hsub : ∀ p ∈ news, p ∈ (x, instObj 226 dx) :: (dx, bufD w.params o pl t1 t2 t3) :: (o, baO O) :: rest := hsub
      replace N : News h₀ L s.heap ((x, instObj 226 dx) :: (dx, bufD w.params o pl t1 t2 t3) :: (o, baO O) :: rest) := N
      have hB : BufAt w ((x, instObj 226 dx) :: (dx, bufD w.params o pl t1 t2 t3) :: (o, baO O) :: rest) x dx I pl := ⟨t1, t2, t3, o, O, by k_mem, by k_mem, by k_mem, hI⟩
      have hpl : pl + (encV v).length ≤ I.length := by
        have := congrArg List.length hdr
        rw [List.length_drop, List.length_append] at this
        have h1 : 0 < (encV v).length := by unfold encV; split <;> simp
        omega
      by_cases hv : v ≤ 63
      · have e1 : encV v = [v] := by unfold encV; rw [if_pos hv]
        rw [e1] at ret hdr hpl
        simp only [List.length_cons, List.length_nil, Nat.zero_add] at ret hpl
        have hix : I[((pl : Int)).toNat]? = some v := by
          have := congrArg (·[0]?) hdr
          simpa using this
        have f1 : v.fdiv (2 ^ (6 : Int).toNat) = 0 := by
          show v.fdiv 64 = 0
          rw [Int.fdiv_eq_ediv_of_nonneg _ (by decide)]; omega
        have f2 : (1 : Int) * 2 ^ (0 : Int).toNat = 1 := by decide
        have f3 : (1 : Int) * 2 ^ (8 * 1 - 2 : Int).toNat = 64 := by decide
        k_enter
        k_steps
        refine KFB.call_big (ks := [v]) (by assumption) (by assumption) (by rw [hPv, hdr]; rfl) (by simp) ?_
        intro t2 k2
        have f4 : Builtin.bitAnd (KFB.value [v]) (64 - 1) = v := by
          have e : KFB.value [v] = v := by show (0 : Int) * 256 + v = v; omega
          rw [e]
          refine (and_nat v 6 hv0).trans ?_
          show v % 64 = v
          omega
        k_steps
        exact ret _ _ _ _ (by assumption) (by assumption) hPB (fun p hp h1 => hPk p (.tail _ (hsub p hp)) h1)
      · have e1 : encV v = [64 + v / 256, v % 256] := by unfold encV; rw [if_neg hv]
        rw [e1] at ret hdr hpl
        simp only [List.length_cons, List.length_nil, Nat.zero_add, Nat.reduceAdd] at ret hpl
        have hix : I[((pl : Int)).toNat]? = some (64 + v / 256) := by
          have := congrArg (·[0]?) hdr
          simpa using this
        have f1 : (64 + v / 256).fdiv (2 ^ (6 : Int).toNat) = 1 := by
          show (64 + v / 256).fdiv 64 = 1
          rw [Int.fdiv_eq_ediv_of_nonneg _ (by decide)]; omega
        have f2 : (1 : Int) * 2 ^ (1 : Int).toNat = 2 := by decide
        have f3 : (1 : Int) * 2 ^ (8 * 2 - 2 : Int).toNat = 16384 := by decide
        k_enter
        k_steps
        refine KFB.call_big (ks := [64 + v / 256, v % 256]) (by assumption) (by assumption) (by rw [hPv, hdr]; rfl) (by simp) ?_
        intro t2 k2
        have f4 : Builtin.bitAnd (KFB.value [64 + v / 256, v % 256]) (16384 - 1) = v := by
          have e : KFB.value [64 + v / 256, v % 256] = v + 16384 := by show ((0 : Int) * 256 + (64 + v / 256)) * 256 + v % 256 = v + 16384; omega
          rw [e]
          refine (and_nat (v + 16384) 14 (by omega)).trans ?_
          show (v + 16384) % 16384 = v
          omega
        k_steps
        exact ret _ _ _ _ (by assumption) (by assumption) hPB (fun p hp h1 => hPk p (.tail _ (hsub p hp)) h1)
  have push_varW : S_push_varW Mine.hd.heap_1_39 Mine.hd.view_1_40 := by
    as_aux_lemma =>
      have hfill : (fun _ : OpenLaw × (Params → Frag) => True) (PySem.Challenge.rw_ay0001_01, Mine.hd.heap_1_39) := by k_fill; trivial
      clear hfill
      unfold S_push_varW
      intro w A dp un gd env outer h₀ L m news s R x dx I Wr v tv hA hC hd hu hB hn hv0 hv1 hle ret
      have hl : (Wr ++ I.drop Wr.length).length = I.length := by rw [List.length_append, List.length_drop]; omega
      refine push_var hA hC hd hu hB (by omega) hv0 hv1 (by omega) fun h' tk' news' F' N' hB' hk' => ret h' tk' news' F' N' ?_ hk'
      rw [bufW_take, bufW_drop, ← List.length_append] at hB'
      exact hB'
  k_with_none
  k_with "enter" => (first
    | (refine' code_def ?zzk1 ?zzk2 ?zzk3 ?zzk4 ?zzk5 ?zzkA ?zzkF ?zzkK ?zzk6 ?zzk7 ?zzk8 ?zzk9 ?zzkB ?_ ?zzc2 ?zzc3 ?zzc4 ?zzc5; (case zzkA => exact rfl); (case zzkF => assumption); (case zzkK => assumption); (case zzk1 => k_asm); (case zzk2 => k_asm); (case zzk3 => k_asm); (case zzk4 => k_asm); (case zzk5 => k_asm); (case zzk6 => k_is); (case zzk7 => k_is); (case zzk8 => ktr_room); (case zzk9 => first | exact BindsTo.of_eq rfl | exact binds_K (by first | assumption | exact Frag.In.keeps (by k_asm) (Fr.keep (by k_asm))) rfl (by k_is) rfl rfl rfl); (case zzc5 => decide); (case zzkB => exact locs rfl); (case zzc2 => exact rfl); (case zzc3 => exact rfl); (case zzc4 => exact rfl); k_whole; intro _ _ _ _ _ _ _ _ _; (try dsimp only); (try k_fold))
    | (refine' code_defC ?zzk1 ?zzk2 ?zzk3 ?zzk4 ?zzk5 ?zzkA ?zzkF ?zzkK ?zzk6 ?zzk7 ?zzk8 ?zzk9 ?zzkB ?zzkD ?_ ?zzc2 ?zzc3 ?zzc4; (case zzkA => exact rfl); (case zzkF => assumption); (case zzkK => assumption); (case zzk1 => k_asm); (case zzk2 => k_asm); (case zzk3 => k_asm); (case zzk4 => k_asm); (case zzk5 => k_asm); (case zzk6 => k_is); (case zzk7 => k_is); (case zzk8 => ktr_room); (case zzk9 => first | exact BindsTo.of_eq rfl | exact binds_K (by first | assumption | exact Frag.In.keeps (by k_asm) (Fr.keep (by k_asm))) rfl (by k_is) rfl rfl rfl); (case zzkB => exact rfl); (case zzkD => decide +kernel); (case zzc2 => exact rfl); (case zzc3 => exact rfl); (case zzc4 => exact rfl); k_whole; intro _ _ _ _ _ _ _ N' Y' _ _ _ l1; (try k_lt l1); k_cells Y'; (try simp only [List.cons_append, List.nil_append] at N'); (try dsimp only); (try k_fold)))
  k_with "all" => (first
    | exact allLt_ne (by assumption) (by omega)
    | exact allLt_ne (by assumption : _ ∧ AllLt _ _).2 (by omega)
    | exact allLt_ne (by assumption : _ ∧ _ ∧ AllLt _ _).2.2 (by omega)
    | exact allLt_ne (by assumption : _ ∧ _ ∧ _ ∧ AllLt _ _).2.2.2 (by omega)
    | exact allLt_ne (by assumption : _ ∧ _ ∧ _ ∧ _ ∧ AllLt _ _).2.2.2.2 (by omega)
    | exact allLt_ne (by assumption : _ ∧ _ ∧ _ ∧ _ ∧ _ ∧ AllLt _ _).2.2.2.2.2 (by omega))
  k_with "callWith ref" => (k_here; k_dflt (first
    | refine' callWith_K ?zzk1 ?zzk2 ?_; (case zzk1 => k_asm); (case zzk2 => k_is); k_whole
    | refine' callWith_K0 ?zzk1 ?zzk2 ?_; (case zzk1 => first | assumption | exact Frag.In.keeps (by k_asm) (Fr.keep (by k_asm))); (case zzk2 => k_is); k_whole))
  k_with "inst" => (first
    | (refine' InstAt.of_news ?zzN ?zzh1 ?zzh2; (case zzN => k_asm); (case zzh1 => k_mem); (case zzh2 => k_mem))
    | exact QAt.inst (by assumption) (by k_asm)
    | exact BufAt.inst (by assumption) (by k_asm)
    | exact WinAt.inst (by assumption) (by k_asm))
  k_with "ctx" => exact ⟨⟨_, _, by assumption⟩, by k_asm, by assumption, by k_asm, ⟨_, _, _, _, by assumption⟩, rfl, rfl⟩
  k_with "room" => (first | omega | (dsimp only [arn, Around.deeper]; omega) | decide +kernel)
  k_with "sz" => (repeat (first | assumption | refine SzB.pick ?_ | refine SzB.app (n := 100000) (k := 100000) ?_ ?_))
  k_with "exec While" => (k_here; refine hold_intro ?_)
  k_with "last exec While" => (k_here; refine hold_intro ?_)
  k_with "exec While Compare" => (k_here; refine hold_intro ?_)
  k_with "exec While BoolOp" => (k_here; refine hold_intro ?_)
  k_with "exec For" => (k_here; (rename HoldIf => hMk); clear hMk; refine hold_intro ?_)
  k_with "exec For Name Call cons nil" => (k_here; (rename HoldIf => hMk); clear hMk; refine hold_intro ?_)
  k_with "exec For Name Call" => (k_here; (rename HoldIf => hMk); clear hMk; refine hold_intro ?_)
  k_with "exec If" => (k_here; (rename HoldIf => hMk); clear hMk; refine hold_intro ?_)
  k_with "call builtin:set.add" => (k_here; kse_here; (with_reducible show wpAny _ _ (call (Value.builtin "set.add") [Value.ref _, Value.int _ _]) _ _ _); k_dflt (refine' set_add_fresh ?zzF ?zzN ?zzU ?zzd ?zzz ?zzf ?_; (case zzF => k_asm); (case zzN => k_asm); (case zzU => k_updF); (case zzd => k_asm); (case zzz => kse_small); (case zzf => assumption)); intro _ _ F' N' _; (try dsimp only at N'))
  k_with "call builtin:len" => (k_here; (with_reducible show wpAny _ _ (call (Value.builtin "len") [Value.ref _]) _ _ _); k_dflt (refine' rl_len ?zzN ?zzm ?zzR ?zzb ?_; (case zzN => k_asm); (case zzm => k_mem); (case zzR => assumption); (case zzb => omega)))
  k_with "subscriptTail" => (k_here; (with_reducible show wpAny _ _ (subscriptTail _ _ (Value.ref _) (Value.int _ _)) _ _ _); k_dflt (refine' rl_sub ?zzN ?zzm ?zzR ?zzb ?zzi ?_ ?zzhs; (case zzN => k_asm); (case zzm => k_mem); (case zzR => assumption); (case zzb => omega); (case zzi => first | exact .inl ⟨by omega, by assumption⟩ | exact .inr ⟨rfl, by assumption⟩); (case zzhs => with_unfolding_all rfl)); intro _ _ _ _ _)
  k_with "getAttr ref" => (k_here; k_dflt (first
    | ((with_reducible show wpAny _ _ (getAttr (Value.ref _) (PySem.Str.ofString "start") _) _ _ _); refine' rk_start ?zzN ?zzm ?_; (case zzN => k_asm); (case zzm => first | k_mem | assumption))
    | ((with_reducible show wpAny _ _ (getAttr (Value.ref _) (PySem.Str.ofString "stop") _) _ _ _); refine' rk_stop ?zzN ?zzm ?_; (case zzN => k_asm); (case zzm => first | k_mem | assumption))))
  k_with "call builtin:list.pop" => (k_here; (with_reducible show wpAny _ _ (call (Value.builtin _) [Value.ref _, Value.int _ _]) _ _ _); k_dflt (refine' rl_pop ?zzF ?zzN ?zzR ?zzb ?zzh0 ?zzp ?zzU ?_; (case zzF => k_asm); (case zzN => k_asm); (case zzR => assumption); (case zzb => first | omega | (simp only [List.length_cons]; omega)); (case zzh0 => first | decide | omega); (case zzp => first | exact rfl | assumption); (case zzU => k_upd)); intro h' _; revert h'; walk_at "i:hFN")
  k_with "call type:range" => (k_here; (with_reducible show wpAny _ _ (call (Value.type "range") [Value.int _ _, Value.int _ _]) _ _ _); k_dflt (refine' rk_new ?zzF ?zzN ?_; (case zzF => k_asm); (case zzN => k_asm)); intro rNew _ _ _ _ _ lRng; (have l1 := lRng); (try k_lt l1))
  k_with "compareOp In int ref" => (k_here; (with_reducible show wpAny _ _ (compareOp CmpOp.In (Value.int _ _) (Value.ref _)) _ _ _); k_dflt (refine' rk_contains ?zzN ?zzm ?_; (case zzN => k_asm); (case zzm => first | k_mem | assumption | exact .tail _ (by assumption))))
  k_with "call builtin:list.insert" => (k_here; (with_reducible show wpAny _ _ (call (Value.builtin _) [Value.ref _, Value.int _ _, _]) _ _ _); k_dflt (refine' rl_insert ?zzF ?zzN ?zzR ?zzb ?zzh0 ?zzp ?zzU ?_; (case zzF => k_asm); (case zzN => k_asm); (case zzR => first | assumption | exact RngsAt.tail1 (by assumption)); (case zzb => omega); (case zzh0 => omega); (case zzp => omega); (case zzU => k_upd)); walk_at "i:hFN")
  k_with "setItem ref int" => (k_here; (with_reducible show wpAny _ _ (setItem (Value.ref _) (Value.int _ _) (Value.ref _)) _ _ _); k_dflt (refine' rl_set ?zzF ?zzN ?zzR ?zzb ?zzh0 ?zzp ?zzU ?_; (case zzF => k_asm); (case zzN => k_asm); (case zzR => first | assumption | exact RngsAt.tail1 (by assumption)); (case zzb => omega); (case zzh0 => omega); (case zzp => omega); (case zzU => k_upd)); walk_at "i:hFN")
  k_with "call builtin:list.append" => (k_here; (with_reducible show wpAny _ _ (call (Value.builtin _) [Value.ref _, Value.ref _]) _ _ _); k_dflt (refine' rl_append ?zzF ?zzN ?zzR ?zzb ?zzU ?_; (case zzF => k_asm); (case zzN => k_asm); (case zzR => first | assumption | exact RngsAt.tail1 (by assumption)); (case zzb => omega); (case zzU => k_upd)); walk_at "i:hFN")
  k_with "call builtin:len" => (k_here; (with_reducible show wpAny _ _ (call (Value.builtin "len") [Value.ref _]) _ _ _); k_dflt (refine' bk_len ?zzN ?zzm ?zzR ?zzb ?_; (case zzN => k_asm); (case zzm => k_mem); (case zzR => assumption); (case zzb => omega)); intro _ _)
  k_with "subscriptTail" => (k_here; (with_reducible show wpAny _ _ (subscriptTail _ (Expr.Slice _ _ none _) (Value.ref _) (Value.ref _)) _ _ _); k_dflt (refine' bk_slice (nb := 100000) (s := ⟨_, _, _, _, _⟩) ?zzF ?zzN ?zzm ?zzl ?zzu ?zzb ?zzz ?_ ?zzhs; (case zzF => k_asm); (case zzN => k_asm); (case zzm => k_mem); (case zzl => constructor); (case zzu => constructor); (case zzb => k_extra "sz"); (case zzz => decide); (case zzhs => with_unfolding_all rfl)); intro _ _ _ _ _ lBa; (have l1 := lBa); (try k_lt l1))
  k_with "binaryOp Add ref ref" => (k_here; k_dflt ((with_reducible show wpAny _ _ (binaryOp _ (Value.ref _) (Value.ref _)) _ _ _); refine' bk_add (nb := 200000) (nc := 100000) ?zzF ?zzN ?zzm ?zzm2 ?zzb ?zzc ?zzz ?_; (case zzF => k_asm); (case zzN => k_asm); (case zzm => k_mem); (case zzm2 => k_mem); (case zzb => k_extra "sz"); (case zzc => k_extra "sz"); (case zzz => decide)); intro _ _ _ _ _ lBa; (have l1 := lBa); (try k_lt l1))
  k_with "binaryOp Add ref bytes" => (k_here; k_dflt ((with_reducible show wpAny _ _ (binaryOp _ (Value.ref _) (Value.bytes _ _)) _ _ _); refine' bk_addB (nb := 100000) (nc := 100000) ?zzF ?zzN ?zzm ?zzb ?zzc ?zzz ?_; (case zzF => k_asm); (case zzN => k_asm); (case zzm => k_mem); (case zzb => k_extra "sz"); (case zzc => k_extra "sz"); (case zzz => decide)); intro _ _ _ _ _ lBa; (have l1 := lBa); (try k_lt l1))
  k_with "binaryOp Add ref" => walk_at "binaryOp Add ref bytes"
  k_with "call type:bytes" => (k_here; (with_reducible show wpAny _ _ (call (Value.type "bytes") [Value.ref _]) _ _ _); k_dflt (refine' bk_bytes (nb := 100000) ?zzN ?zzm ?zzb ?zzz ?_; (case zzN => k_asm); (case zzm => k_mem); (case zzb => k_extra "sz"); (case zzz => decide)); intro _ _)
  k_with "subscriptTail" => (k_here; (with_reducible show wpAny _ _ (subscriptTail _ _ (Value.ref _) (Value.int _ _)) _ _ _); k_dflt (refine' bk_item ?zzN ?zzm ?zzI ?zzx ?zzh0 ?zzhi ?_ ?zzhs; (case zzN => k_asm); (case zzm => k_mem); (case zzI => assumption); (case zzx => assumption); (case zzh0 => omega); (case zzhi => omega); (case zzhs => with_unfolding_all rfl)); intro _ _)
  k_with "binaryOp RShift int int" => (k_here; refine' shr_f ?zze ?zzn ?_; (case zze => assumption); (case zzn => decide))
  k_with "binaryOp LShift int int" => (k_here; refine' shl_f ?zze ?zzn ?zzn2 ?zza ?_; (case zze => assumption); (case zzn => decide); (case zzn2 => decide); (case zza => decide))
  k_with "binaryOp BitAnd int int" => (k_here; refine' and_f ?zze ?_; (case zze => assumption))
  k_with "binaryOp BitOr int int" => (k_here; refine' or_f ?zze ?_; (case zze => assumption))
  k_with "spliced" => (k_here; first | refine args_cons ?_ | refine args_nil ⟨Fr.keep (by assumption) _ _ (by assumption), ?_⟩ | (refine args_nil ?_; try simp only [List.cons_append, List.nil_append]))
  k_with "call ref" => (k_here; (with_reducible show wpAny _ _ (call (Value.ref 324) _ _) _ _ _); (k_dflt refine' wpAny_call (rs_len rfl ?zzC ?zzd ?zzu ?zzH ?zzn ?_); (case zzC => k_extra "ctx"); (case zzd => k_extra "room"); (case zzu => k_extra "room"); (case zzH => first | assumption | exact QAt.cons (by assumption)); (case zzn => omega)); intro _ _ _ _ _; (try dsimp only); (try (dsimp only [PySem.W.LenBack]; refine ⟨⟨by omega, by omega⟩, ?_⟩)))
  k_with "call ref" => (k_here; (with_reducible show wpAny _ _ (call (Value.ref 310) _ _) _ _ _); (k_dflt refine' wpAny_call (rs_getitem rfl ?zzC ?zzd ?zzu ?zzH ?zzn ?zzh0 ?zzp ?_); (case zzC => k_extra "ctx"); (case zzd => k_extra "room"); (case zzu => k_extra "room"); (case zzH => first | assumption | exact QAt.cons (by assumption)); (case zzn => omega); (case zzh0 => omega); (case zzp => assumption)); intro _ _ aGet _ _ _ _ _ hGet; (try dsimp only))
  k_with "call ref" => (k_here; (with_reducible show wpAny _ _ (call (Value.ref 223) _ _) _ _ _); (k_dflt refine' wpAny_call (push_varW rfl ?zzC ?zzd ?zzu ?zzH ?zzn ?zzv0 ?zzv1 ?zzl ?_); (case zzC => k_extra "ctx"); (case zzd => k_extra "room"); (case zzu => k_extra "room"); (case zzH => assumption); (case zzn => omega); (case zzv0 => omega); (case zzv1 => omega); (case zzl => first | assumption | omega | (simp only [List.length_append, List.length_nil]; omega))); intro _ _ _ _ _ hPB hPk; (try dsimp only); (have hGet := keepRng (by assumption) (by assumption) hGet hPk); (have hQ := QAt.keepB (by assumption) (by assumption) hQ hne hPk); (have hKeep := fun p hp h1 => hPk p (hKeep p hp h1) h1))
  k_with "call ref" => (k_here; (with_reducible show wpAny _ _ (call (Value.ref 237) _ _) _ _ _); (k_dflt refine' wpAny_call (size_var rfl ?zzC ?zzd ?zzu ?zzv ?_); (case zzC => k_extra "ctx"); (case zzd => k_extra "room"); (case zzu => k_extra "room"); (case zzv => first | omega | (split <;> omega))); intro _ _ fs _ _ _ hFs; (try dsimp only))
  have size_var : S_size_var Mine.hd.heap_1_39 Mine.hd.view_1_40 := by
    as_aux_lemma =>
      have hfill : (fun _ : OpenLaw × (Params → Frag) => True) (PySem.Challenge.rw_ay0001_01, Mine.hd.heap_1_39) := by k_fill; trivial
      clear hfill
      unfold S_size_var
      intro w A dp un gd env outer h₀ L m news s R v tv hA ⟨⟨A₀, base, B⟩, F, X, N, ⟨loose, mean, mg, mb, T⟩, hf, hk⟩ hd hu hv ret
      subst hA
      k_enter
      k_steps
      · exact ret _ _ _ _ (by assumption) (by assumption) (.inl ⟨rfl, by assumption⟩)
      · exact ret _ _ _ _ (by assumption) (by assumption) (.inr ⟨rfl, by omega⟩)
  have push_ack : S_push_ack Mine.hd.heap_1_39 Mine.hd.view_1_40 := by
    as_aux_lemma =>
      have hfill : (fun _ : OpenLaw × (Params → Frag) => True) (PySem.Challenge.rw_ay0001_01, Mine.hd.heap_1_39) := by k_fill; trivial
      clear hfill
      unfold S_push_ack
      intro w A dp un gd env outer h₀ L m news s R x dx q dq l I rs p rv cap t7 tc hA ⟨⟨A₀, base, B⟩, F, X, N, ⟨loose, mean, mg, mb, T⟩, hf, hk⟩ hd hu hB hQ hne hrev hsep hn hcap hc1 hc2 ret
      subst hA
      have hIf : HoldIf := trivial
      have hlen : rs.length = rv.length + 1 := by
        have := congrArg List.length hrev
        rw [List.length_reverse, List.length_cons] at this
        exact this
      have hg0 : rs[((rs.length : Int) - 1).toNat]? = some p := by
        have h1 : ((rs.length : Int) - 1).toNat = rs.length - 1 := by omega
        have h2 : rs.reverse[0]? = some p := by rw [hrev]; rfl
        rw [List.getElem?_reverse (by omega)] at h2
        rw [h1]
        exact h2
      have hs := hsep
      obtain ⟨hp0, hp1, hp2, hsep'⟩ := hs
      k_enter
      k_steps
      rename_i hZ FZ NZ
      refine ⟨if_cutF (xf := Str.ofString "field_size") (xk := Str.ofString "ranges") (fun k => ∃ fs : Int, (fs = 1 ∧ p.2 - 1 ≤ 63 ∨ fs = 2) ∧ fs * (2 * k + 2) ≤ cap ∧ 1 ≤ k ∧ k ≤ rs.length ∧ (16 * ((rs.length : Int) + 1) ≤ cap → k = rs.length)) FZ NZ ?_ ?_⟩
      · k_steps
        · have hd1 : cap.fdiv (2 * 1) = cap / 2 := Int.fdiv_eq_ediv_of_nonneg _ (by decide)
          have hd2 : cap.fdiv (2 * 2) = cap / 4 := Int.fdiv_eq_ediv_of_nonneg _ (by decide)
          refine ⟨rfl, _, _, _, _, _, rfl, by assumption, by assumption, ?_⟩
          refine ⟨fs, ?_⟩
          rcases hFs with ⟨rfl, h⟩ | ⟨rfl, h⟩
          · rw [hd1]
            refine ⟨.inl ⟨rfl, by split at h <;> omega⟩, ?_, ?_, ?_, ?_⟩ <;> (first | omega | (split <;> omega))
          · rw [hd2]
            refine ⟨.inr rfl, ?_, ?_, ?_, ?_⟩ <;> (first | omega | (split <;> omega))
        · rename_i hno
          refine ⟨⟨hZ, _, _, _, _, rfl, by rw [map_back (by rfl)]; exact FZ, NZ, ?_⟩⟩
          refine ⟨2, .inr rfl, by omega, by omega, by omega, fun _ => rfl⟩
      · rintro hA tkA vA kI tA FA NA ⟨fs, hfs, hfit, hk1, hk2, hk3⟩
        have hB : BufW w news x dx I [] := hB
        have hKeep : ∀ p ∈ news, p.1 ≠ dx → p ∈ news := fun p hp _ => hp
        have hcap4 : 4 * fs ≤ cap := by rcases hfs with ⟨rfl, _⟩ | rfl <;> omega
        have e1 : ((encV (p.2 - 1)).length : Int) ≤ fs := encV_fs hfs (.inl (Int.le_refl _))
        have e2 : ((encV 7).length : Int) ≤ fs := encV_fs hfs (.inr (by decide))
        have e3 : ((encV (kI - 1)).length : Int) ≤ fs := by
          have := encV_len (kI - 1)
          rcases hfs with ⟨rfl, h⟩ | rfl
          · rw [encV_small (by omega)]; decide
          · omega
        have e4 : ((encV (p.2 - 1 - p.1)).length : Int) ≤ fs := encV_fs hfs (.inl (by omega))
        k_steps
        rename_i hW FW NW
        have hkn : ((kI.toNat : Nat) : Int) = kI := by omega
        refine ⟨while3 (x1 := Str.ofString "start") (x2 := Str.ofString "r") (x3 := Str.ofString "index") (n₀ := kI.toNat - 1)
          (fun nn v1 v2 v3 nx => ∃ (j : Nat) (st ix : Int) (ts tix : Tok) (ar : Addr) (Wr : List Int), nn = kI.toNat - 1 - j ∧ j ≤ kI.toNat - 1 ∧ v1 = .int st ts ∧ v2 = .ref ar ∧ v3 = .int ix tix ∧ ix = (rs.length : Int) - 1 - j ∧ st ≤ p.2 ∧ SepD (st - 1) (rv.drop j) ∧
            BufW w nx x dx I Wr ∧ QAt w nx q dq l rs ∧ (∀ p ∈ news, p.1 ≠ dx → p ∈ nx) ∧ Wr ++ encs (gapsV st ((rv.drop j).take (kI.toNat - 1 - j))) = encs (frameV p rv kI.toNat) ∧ (Wr.length : Int) ≤ fs * (4 + 2 * j)) FW NW rfl rfl ?_ ?_⟩
        · refine ⟨0, p.1, _, _, _, _, _, rfl, by omega, rfl, rfl, rfl, by omega, by omega, hsep', hPB, hQ, hKeep, ?_, ?_⟩
          · unfold frameV
            rw [encs_cons, encs_cons, encs_cons, encs_cons, hkn]
            simp only [List.nil_append, List.append_assoc, List.drop_zero, Nat.sub_zero]
          · rw [show (4 + 2 * ((0 : Nat) : Int)) = 4 by rfl]
            simp only [List.length_append, List.length_nil]
            omega
        · rintro nn v1 v2 v3 nx h₁ tk₁ F₁ N₁ ⟨j, st, ix, ts, tix, ar, Wr, rfl, hj, rfl, rfl, rfl, hix, hst, hsd, hPB, hQ, hKeep, hfr, hwl⟩
          by_cases hlast : j < kI.toNat - 1
          · have hjl : j < rv.length := by omega
            obtain ⟨a, b, hab⟩ : ∃ a b, rv[j]? = some (a, b) := ⟨rv[j].1, rv[j].2, List.getElem?_eq_getElem hjl⟩
            have hdr : rv.drop j = (a, b) :: rv.drop (j + 1) := by
              rw [List.drop_eq_getElem_cons hjl]
              have : rv[j] = (a, b) := by rw [List.getElem?_eq_getElem hjl] at hab; exact Option.some.inj hab
              rw [this]
            rw [hdr] at hsd hfr
            obtain ⟨ha0, hab1, hb1, hsd'⟩ := hsd
            have hg : rs[(ix - 1).toNat]? = some (a, b) := by
              have h2 : rs.reverse[j + 1]? = some (a, b) := by rw [hrev]; simpa using hab
              rw [List.getElem?_reverse (by omega)] at h2
              have : (ix - 1).toNat = rs.length - 1 - (j + 1) := by omega
              rw [this]; exact h2
            have e5 : ((encV (st - b - 1)).length : Int) ≤ fs := encV_fs hfs (.inl (by omega))
            have e6 : ((encV (b - a - 1)).length : Int) ≤ fs := encV_fs hfs (.inl (by omega))
            have hcapj : (Wr.length : Int) + 2 * fs ≤ cap := by rcases hfs with ⟨rfl, _⟩ | rfl <;> omega
            k_steps
            refine ⟨rfl, _, _, _, _, _, _, kI.toNat - 1 - (j + 1), rfl, by assumption, by assumption, by omega, j + 1, a, ix - 1, _, _, _, _, rfl, by omega, rfl, rfl, rfl, by omega, by omega, hsd', hPB, hQ, hKeep, ?_, ?_⟩
            · rw [← hfr, show kI.toNat - 1 - j = kI.toNat - 1 - (j + 1) + 1 by omega, List.take_succ_cons]
              rw [show ∀ X, gapsV st ((a, b) :: X) = (st - b - 1) :: (b - a - 1) :: gapsV a X from fun _ => rfl, encs_cons, encs_cons]
              simp only [List.append_assoc]
            · simp only [List.length_append]
              rcases hfs with ⟨rfl, _⟩ | rfl <;> omega
          · have hj' : j = kI.toNat - 1 := by omega
            have hz : kI.toNat - 1 - j = 0 := by omega
            rw [hz] at hfr
            have hWr : Wr = encs (frameV p rv kI.toNat) := by rw [← hfr]; simp [gapsV, encs_nil]
            subst hWr
            k_steps
            rw [← hkn]
            exact ret _ _ _ kI.toNat _ (by assumption) (by assumption) hPB hKeep (by omega) (by omega) (fun h => by have := hk3 h; omega)
  k_with_none
  k_with "enter" => (first
    | (refine' code_def ?zzk1 ?zzk2 ?zzk3 ?zzk4 ?zzk5 ?zzkA ?zzkF ?zzkK ?zzk6 ?zzk7 ?zzk8 ?zzk9 ?zzkB ?_ ?zzc2 ?zzc3 ?zzc4 ?zzc5; (case zzkA => exact rfl); (case zzkF => assumption); (case zzkK => assumption); (case zzk1 => k_asm); (case zzk2 => k_asm); (case zzk3 => k_asm); (case zzk4 => k_asm); (case zzk5 => k_asm); (case zzk6 => k_is); (case zzk7 => k_is); (case zzk8 => ktr_room); (case zzk9 => first | exact BindsTo.of_eq rfl | exact binds_K (by first | assumption | exact Frag.In.keeps (by k_asm) (Fr.keep (by k_asm))) rfl (by k_is) rfl rfl rfl); (case zzc5 => decide); (case zzkB => exact locs rfl); (case zzc2 => exact rfl); (case zzc3 => exact rfl); (case zzc4 => exact rfl); k_whole; intro _ _ _ _ _ _ _ _ _; (try dsimp only); (try k_fold))
    | (refine' code_defC ?zzk1 ?zzk2 ?zzk3 ?zzk4 ?zzk5 ?zzkA ?zzkF ?zzkK ?zzk6 ?zzk7 ?zzk8 ?zzk9 ?zzkB ?zzkD ?_ ?zzc2 ?zzc3 ?zzc4; (case zzkA => exact rfl); (case zzkF => assumption); (case zzkK => assumption); (case zzk1 => k_asm); (case zzk2 => k_asm); (case zzk3 => k_asm); (case zzk4 => k_asm); (case zzk5 => k_asm); (case zzk6 => k_is); (case zzk7 => k_is); (case zzk8 => ktr_room); (case zzk9 => first | exact BindsTo.of_eq rfl | exact binds_K (by first | assumption | exact Frag.In.keeps (by k_asm) (Fr.keep (by k_asm))) rfl (by k_is) rfl rfl rfl); (case zzkB => exact rfl); (case zzkD => decide +kernel); (case zzc2 => exact rfl); (case zzc3 => exact rfl); (case zzc4 => exact rfl); k_whole; intro _ _ _ _ _ _ _ N' Y' _ _ _ l1; (try k_lt l1); k_cells Y'; (try simp only [List.cons_append, List.nil_append] at N'); (try dsimp only); (try k_fold)))
  k_with "all" => (first
    | exact allLt_ne (by assumption) (by omega)
    | exact allLt_ne (by assumption : _ ∧ AllLt _ _).2 (by omega)
    | exact allLt_ne (by assumption : _ ∧ _ ∧ AllLt _ _).2.2 (by omega)
    | exact allLt_ne (by assumption : _ ∧ _ ∧ _ ∧ AllLt _ _).2.2.2 (by omega)
    | exact allLt_ne (by assumption : _ ∧ _ ∧ _ ∧ _ ∧ AllLt _ _).2.2.2.2 (by omega)
    | exact allLt_ne (by assumption : _ ∧ _ ∧ _ ∧ _ ∧ _ ∧ AllLt _ _).2.2.2.2.2 (by omega))
  k_with "callWith ref" => (k_here; k_dflt (first
    | refine' callWith_K ?zzk1 ?zzk2 ?_; (case zzk1 => k_asm); (case zzk2 => k_is); k_whole
    | refine' callWith_K0 ?zzk1 ?zzk2 ?_; (case zzk1 => first | assumption | exact Frag.In.keeps (by k_asm) (Fr.keep (by k_asm))); (case zzk2 => k_is); k_whole))
  k_with "inst" => (first
    | (refine' InstAt.of_news ?zzN ?zzh1 ?zzh2; (case zzN => k_asm); (case zzh1 => k_mem); (case zzh2 => k_mem))
    | exact QAt.inst (by assumption) (by k_asm)
    | exact BufAt.inst (by assumption) (by k_asm)
    | exact WinAt.inst (by assumption) (by k_asm))
  k_with "ctx" => exact ⟨⟨_, _, by assumption⟩, by k_asm, by assumption, by k_asm, ⟨_, _, _, _, by assumption⟩, rfl, rfl⟩
  k_with "room" => (first | omega | (dsimp only [arn, Around.deeper]; omega) | decide +kernel)
  k_with "sz" => (repeat (first | assumption | refine SzB.pick ?_ | refine SzB.app (n := 100000) (k := 100000) ?_ ?_))
  k_with "exec While" => (k_here; refine hold_intro ?_)
  k_with "last exec While" => (k_here; refine hold_intro ?_)
  k_with "exec While Compare" => (k_here; refine hold_intro ?_)
  k_with "exec While BoolOp" => (k_here; refine hold_intro ?_)
  k_with "exec For" => (k_here; (rename HoldIf => hMk); clear hMk; refine hold_intro ?_)
  k_with "exec For Name Call cons nil" => (k_here; (rename HoldIf => hMk); clear hMk; refine hold_intro ?_)
  k_with "exec For Name Call" => (k_here; (rename HoldIf => hMk); clear hMk; refine hold_intro ?_)
  k_with "exec If" => (k_here; (rename HoldIf => hMk); clear hMk; refine hold_intro ?_)
  k_with "call builtin:set.add" => (k_here; kse_here; (with_reducible show wpAny _ _ (call (Value.builtin "set.add") [Value.ref _, Value.int _ _]) _ _ _); k_dflt (refine' set_add_fresh ?zzF ?zzN ?zzU ?zzd ?zzz ?zzf ?_; (case zzF => k_asm); (case zzN => k_asm); (case zzU => k_updF); (case zzd => k_asm); (case zzz => kse_small); (case zzf => assumption)); intro _ _ F' N' _; (try dsimp only at N'))
  k_with "call builtin:len" => (k_here; (with_reducible show wpAny _ _ (call (Value.builtin "len") [Value.ref _]) _ _ _); k_dflt (refine' rl_len ?zzN ?zzm ?zzR ?zzb ?_; (case zzN => k_asm); (case zzm => k_mem); (case zzR => assumption); (case zzb => omega)))
  k_with "subscriptTail" => (k_here; (with_reducible show wpAny _ _ (subscriptTail _ _ (Value.ref _) (Value.int _ _)) _ _ _); k_dflt (refine' rl_sub ?zzN ?zzm ?zzR ?zzb ?zzi ?_ ?zzhs; (case zzN => k_asm); (case zzm => k_mem); (case zzR => assumption); (case zzb => omega); (case zzi => first | exact .inl ⟨by omega, by assumption⟩ | exact .inr ⟨rfl, by assumption⟩); (case zzhs => with_unfolding_all rfl)); intro _ _ _ _ _)
  k_with "getAttr ref" => (k_here; k_dflt (first
    | ((with_reducible show wpAny _ _ (getAttr (Value.ref _) (PySem.Str.ofString "start") _) _ _ _); refine' rk_start ?zzN ?zzm ?_; (case zzN => k_asm); (case zzm => first | k_mem | assumption))
    | ((with_reducible show wpAny _ _ (getAttr (Value.ref _) (PySem.Str.ofString "stop") _) _ _ _); refine' rk_stop ?zzN ?zzm ?_; (case zzN => k_asm); (case zzm => first | k_mem | assumption))))
  k_with "call builtin:list.pop" => (k_here; (with_reducible show wpAny _ _ (call (Value.builtin _) [Value.ref _, Value.int _ _]) _ _ _); k_dflt (refine' rl_pop ?zzF ?zzN ?zzR ?zzb ?zzh0 ?zzp ?zzU ?_; (case zzF => k_asm); (case zzN => k_asm); (case zzR => assumption); (case zzb => first | omega | (simp only [List.length_cons]; omega)); (case zzh0 => first | decide | omega); (case zzp => first | exact rfl | assumption); (case zzU => k_upd)); intro h' _; revert h'; walk_at "i:hFN")
  k_with "call type:range" => (k_here; (with_reducible show wpAny _ _ (call (Value.type "range") [Value.int _ _, Value.int _ _]) _ _ _); k_dflt (refine' rk_new ?zzF ?zzN ?_; (case zzF => k_asm); (case zzN => k_asm)); intro rNew _ _ _ _ _ lRng; (have l1 := lRng); (try k_lt l1))
  k_with "compareOp In int ref" => (k_here; (with_reducible show wpAny _ _ (compareOp CmpOp.In (Value.int _ _) (Value.ref _)) _ _ _); k_dflt (refine' rk_contains ?zzN ?zzm ?_; (case zzN => k_asm); (case zzm => first | k_mem | assumption | exact .tail _ (by assumption))))
  k_with "call builtin:list.insert" => (k_here; (with_reducible show wpAny _ _ (call (Value.builtin _) [Value.ref _, Value.int _ _, _]) _ _ _); k_dflt (refine' rl_insert ?zzF ?zzN ?zzR ?zzb ?zzh0 ?zzp ?zzU ?_; (case zzF => k_asm); (case zzN => k_asm); (case zzR => first | assumption | exact RngsAt.tail1 (by assumption)); (case zzb => omega); (case zzh0 => omega); (case zzp => omega); (case zzU => k_upd)); walk_at "i:hFN")
  k_with "setItem ref int" => (k_here; (with_reducible show wpAny _ _ (setItem (Value.ref _) (Value.int _ _) (Value.ref _)) _ _ _); k_dflt (refine' rl_set ?zzF ?zzN ?zzR ?zzb ?zzh0 ?zzp ?zzU ?_; (case zzF => k_asm); (case zzN => k_asm); (case zzR => first | assumption | exact RngsAt.tail1 (by assumption)); (case zzb => omega); (case zzh0 => omega); (case zzp => omega); (case zzU => k_upd)); walk_at "i:hFN")
  k_with "call builtin:list.append" => (k_here; (with_reducible show wpAny _ _ (call (Value.builtin _) [Value.ref _, Value.ref _]) _ _ _); k_dflt (refine' rl_append ?zzF ?zzN ?zzR ?zzb ?zzU ?_; (case zzF => k_asm); (case zzN => k_asm); (case zzR => first | assumption | exact RngsAt.tail1 (by assumption)); (case zzb => omega); (case zzU => k_upd)); walk_at "i:hFN")
  k_with "call builtin:len" => (k_here; (with_reducible show wpAny _ _ (call (Value.builtin "len") [Value.ref _]) _ _ _); k_dflt (refine' bk_len ?zzN ?zzm ?zzR ?zzb ?_; (case zzN => k_asm); (case zzm => k_mem); (case zzR => assumption); (case zzb => omega)); intro _ _)
  k_with "subscriptTail" => (k_here; (with_reducible show wpAny _ _ (subscriptTail _ (Expr.Slice _ _ none _) (Value.ref _) (Value.ref _)) _ _ _); k_dflt (refine' bk_slice (nb := 100000) (s := ⟨_, _, _, _, _⟩) ?zzF ?zzN ?zzm ?zzl ?zzu ?zzb ?zzz ?_ ?zzhs; (case zzF => k_asm); (case zzN => k_asm); (case zzm => k_mem); (case zzl => constructor); (case zzu => constructor); (case zzb => k_extra "sz"); (case zzz => decide); (case zzhs => with_unfolding_all rfl)); intro _ _ _ _ _ lBa; (have l1 := lBa); (try k_lt l1))
  k_with "binaryOp Add ref ref" => (k_here; k_dflt ((with_reducible show wpAny _ _ (binaryOp _ (Value.ref _) (Value.ref _)) _ _ _); refine' bk_add (nb := 200000) (nc := 100000) ?zzF ?zzN ?zzm ?zzm2 ?zzb ?zzc ?zzz ?_; (case zzF => k_asm); (case zzN => k_asm); (case zzm => k_mem); (case zzm2 => k_mem); (case zzb => k_extra "sz"); (case zzc => k_extra "sz"); (case zzz => decide)); intro _ _ _ _ _ lBa; (have l1 := lBa); (try k_lt l1))
  k_with "binaryOp Add ref bytes" => (k_here; k_dflt ((with_reducible show wpAny _ _ (binaryOp _ (Value.ref _) (Value.bytes _ _)) _ _ _); refine' bk_addB (nb := 100000) (nc := 100000) ?zzF ?zzN ?zzm ?zzb ?zzc ?zzz ?_; (case zzF => k_asm); (case zzN => k_asm); (case zzm => k_mem); (case zzb => k_extra "sz"); (case zzc => k_extra "sz"); (case zzz => decide)); intro _ _ _ _ _ lBa; (have l1 := lBa); (try k_lt l1))
  k_with "binaryOp Add ref" => walk_at "binaryOp Add ref bytes"
  k_with "call type:bytes" => (k_here; (with_reducible show wpAny _ _ (call (Value.type "bytes") [Value.ref _]) _ _ _); k_dflt (refine' bk_bytes (nb := 100000) ?zzN ?zzm ?zzb ?zzz ?_; (case zzN => k_asm); (case zzm => k_mem); (case zzb => k_extra "sz"); (case zzz => decide)); intro _ _)
  k_with "subscriptTail" => (k_here; (with_reducible show wpAny _ _ (subscriptTail _ _ (Value.ref _) (Value.int _ _)) _ _ _); k_dflt (refine' bk_item ?zzN ?zzm ?zzI ?zzx ?zzh0 ?zzhi ?_ ?zzhs; (case zzN => k_asm); (case zzm => k_mem); (case zzI => assumption); (case zzx => assumption); (case zzh0 => omega); (case zzhi => omega); (case zzhs => with_unfolding_all rfl)); intro _ _)
  k_with "binaryOp RShift int int" => (k_here; refine' shr_f ?zze ?zzn ?_; (case zze => assumption); (case zzn => decide))
  k_with "binaryOp LShift int int" => (k_here; refine' shl_f ?zze ?zzn ?zzn2 ?zza ?_; (case zze => assumption); (case zzn => decide); (case zzn2 => decide); (case zza => decide))
  k_with "binaryOp BitAnd int int" => (k_here; refine' and_f ?zze ?_; (case zze => assumption))
  k_with "binaryOp BitOr int int" => (k_here; refine' or_f ?zze ?_; (case zze => assumption))
  k_with "spliced" => (k_here; first | refine args_cons ?_ | refine args_nil ⟨Fr.keep (by assumption) _ _ (by assumption), ?_⟩ | (refine args_nil ?_; try simp only [List.cons_append, List.nil_append]))
  have rs_new : S_rs_new Mine.hd.heap_1_39 Mine.hd.view_1_40 := by
    as_aux_lemma =>
      have hfill : (fun _ : OpenLaw × (Params → Frag) => True) (PySem.Challenge.rw_ay0001_01, Mine.hd.heap_1_39) := by k_fill; trivial
      clear hfill
      unfold S_rs_new
      intro w A dp un gd env outer h₀ L m news s R hA ⟨⟨A₀, base, B⟩, F, X, N, ⟨loose, mean, mg, mb, T⟩, hf, hk⟩ hd hu ret
      subst hA
      refine make_K F N (X.keeps F.keep) (by k_is) (by k_is) (by k_is) ?_
      intro q dq h1 F1 N1 l1 l2
      replace N1 : News h₀ L h1 ((q, instObj 334 dq) :: (dq, dictOf [] 0) :: news) := N1
      have d1 : @Ne Nat q dq := fun e => absurd l2 (by rw [show q = dq from e]; exact Nat.lt_irrefl _)
      replace l2 : @LT.lt Nat _ dq q := l2
      have hall : AllLt dq news := allLt_of l1
      k_enter
      k_steps
      rename_i gg LL hxx FG BB XX TT ll hyy lt hh FF NN
      have hl0 : gg.get? 245 = some (listOf #[] 0) := XX 245 (listOf #[] 0) (by k_is)
      have hl : gg.IsList 245 ([] : List Value).toArray := ⟨_, hl0, rfl, 0, rfl⟩
      refine For_invVF FF rfl rfl ?_
      k_steps
      refine iter_invN (vs := []) (ns := []) (fun _ m' nx => m' = _ ∧ nx = _) rfl hl .nil FF NN ⟨rfl, rfl⟩ (fun i n t m₁ nx h tk own hi => by simp at hi) ?_
      rintro m₁ nx h tk ⟨rfl, rfl⟩ F₂ N₂
      k_steps
      exact ret _ _ _ q dq ll (by assumption) (by assumption) ⟨_, [], 0, by k_mem, by k_mem, by k_mem, trivial⟩ (fun p hp => .tail _ (.tail _ (.tail _ hp))) (fun p hp => ⟨Nat.lt_trans (l1 p hp) l2, l1 p hp, Nat.lt_trans (l1 p hp) lt.2.1⟩)
  k_with_none
  k_with "enter" => (first
    | (refine' code_def ?zzk1 ?zzk2 ?zzk3 ?zzk4 ?zzk5 ?zzkA ?zzkF ?zzkK ?zzk6 ?zzk7 ?zzk8 ?zzk9 ?zzkB ?_ ?zzc2 ?zzc3 ?zzc4 ?zzc5; (case zzkA => exact rfl); (case zzkF => assumption); (case zzkK => assumption); (case zzk1 => k_asm); (case zzk2 => k_asm); (case zzk3 => k_asm); (case zzk4 => k_asm); (case zzk5 => k_asm); (case zzk6 => k_is); (case zzk7 => k_is); (case zzk8 => ktr_room); (case zzk9 => first | exact BindsTo.of_eq rfl | exact binds_K (by first | assumption | exact Frag.In.keeps (by k_asm) (Fr.keep (by k_asm))) rfl (by k_is) rfl rfl rfl); (case zzc5 => decide); (case zzkB => exact locs rfl); (case zzc2 => exact rfl); (case zzc3 => exact rfl); (case zzc4 => exact rfl); k_whole; intro _ _ _ _ _ _ _ _ _; (try dsimp only); (try k_fold))
    | (refine' code_defC ?zzk1 ?zzk2 ?zzk3 ?zzk4 ?zzk5 ?zzkA ?zzkF ?zzkK ?zzk6 ?zzk7 ?zzk8 ?zzk9 ?zzkB ?zzkD ?_ ?zzc2 ?zzc3 ?zzc4; (case zzkA => exact rfl); (case zzkF => assumption); (case zzkK => assumption); (case zzk1 => k_asm); (case zzk2 => k_asm); (case zzk3 => k_asm); (case zzk4 => k_asm); (case zzk5 => k_asm); (case zzk6 => k_is); (case zzk7 => k_is); (case zzk8 => ktr_room); (case zzk9 => first | exact BindsTo.of_eq rfl | exact binds_K (by first | assumption | exact Frag.In.keeps (by k_asm) (Fr.keep (by k_asm))) rfl (by k_is) rfl rfl rfl); (case zzkB => exact rfl); (case zzkD => decide +kernel); (case zzc2 => exact rfl); (case zzc3 => exact rfl); (case zzc4 => exact rfl); k_whole; intro _ _ _ _ _ _ _ N' Y' _ _ _ l1; (try k_lt l1); k_cells Y'; (try simp only [List.cons_append, List.nil_append] at N'); (try dsimp only); (try k_fold)))
  k_with "all" => (first
    | exact allLt_ne (by assumption) (by omega)
    | exact allLt_ne (by assumption : _ ∧ AllLt _ _).2 (by omega)
    | exact allLt_ne (by assumption : _ ∧ _ ∧ AllLt _ _).2.2 (by omega)
    | exact allLt_ne (by assumption : _ ∧ _ ∧ _ ∧ AllLt _ _).2.2.2 (by omega)
    | exact allLt_ne (by assumption : _ ∧ _ ∧ _ ∧ _ ∧ AllLt _ _).2.2.2.2 (by omega)
    | exact allLt_ne (by assumption : _ ∧ _ ∧ _ ∧ _ ∧ _ ∧ AllLt _ _).2.2.2.2.2 (by omega))
  k_with "callWith ref" => (k_here; k_dflt (first
    | refine' callWith_K ?zzk1 ?zzk2 ?_; (case zzk1 => k_asm); (case zzk2 => k_is); k_whole
    | refine' callWith_K0 ?zzk1 ?zzk2 ?_; (case zzk1 => first | assumption | exact Frag.In.keeps (by k_asm) (Fr.keep (by k_asm))); (case zzk2 => k_is); k_whole))
  k_with "inst" => (first
    | (refine' InstAt.of_news ?zzN ?zzh1 ?zzh2; (case zzN => k_asm); (case zzh1 => k_mem); (case zzh2 => k_mem))
    | exact QAt.inst (by assumption) (by k_asm)
    | exact BufAt.inst (by assumption) (by k_asm)
    | exact WinAt.inst (by assumption) (by k_asm))
  k_with "ctx" => exact ⟨⟨_, _, by assumption⟩, by k_asm, by assumption, by k_asm, ⟨_, _, _, _, by assumption⟩, rfl, rfl⟩
  k_with "room" => (first | omega | (dsimp only [arn, Around.deeper]; omega) | decide +kernel)
  k_with "sz" => (repeat (first | assumption | refine SzB.pick ?_ | refine SzB.app (n := 100000) (k := 100000) ?_ ?_))
  k_with "exec While" => (k_here; refine hold_intro ?_)
  k_with "last exec While" => (k_here; refine hold_intro ?_)
  k_with "exec While Compare" => (k_here; refine hold_intro ?_)
  k_with "exec While BoolOp" => (k_here; refine hold_intro ?_)
  k_with "exec For" => (k_here; (rename HoldIf => hMk); clear hMk; refine hold_intro ?_)
  k_with "exec For Name Call cons nil" => (k_here; (rename HoldIf => hMk); clear hMk; refine hold_intro ?_)
  k_with "exec For Name Call" => (k_here; (rename HoldIf => hMk); clear hMk; refine hold_intro ?_)
  k_with "exec If" => (k_here; (rename HoldIf => hMk); clear hMk; refine hold_intro ?_)
  k_with "call builtin:set.add" => (k_here; kse_here; (with_reducible show wpAny _ _ (call (Value.builtin "set.add") [Value.ref _, Value.int _ _]) _ _ _); k_dflt (refine' set_add_fresh ?zzF ?zzN ?zzU ?zzd ?zzz ?zzf ?_; (case zzF => k_asm); (case zzN => k_asm); (case zzU => k_updF); (case zzd => k_asm); (case zzz => kse_small); (case zzf => assumption)); intro _ _ F' N' _; (try dsimp only at N'))
  k_with "call builtin:len" => (k_here; (with_reducible show wpAny _ _ (call (Value.builtin "len") [Value.ref _]) _ _ _); k_dflt (refine' rl_len ?zzN ?zzm ?zzR ?zzb ?_; (case zzN => k_asm); (case zzm => k_mem); (case zzR => assumption); (case zzb => omega)))
  k_with "subscriptTail" => (k_here; (with_reducible show wpAny _ _ (subscriptTail _ _ (Value.ref _) (Value.int _ _)) _ _ _); k_dflt (refine' rl_sub ?zzN ?zzm ?zzR ?zzb ?zzi ?_ ?zzhs; (case zzN => k_asm); (case zzm => k_mem); (case zzR => assumption); (case zzb => omega); (case zzi => first | exact .inl ⟨by omega, by assumption⟩ | exact .inr ⟨rfl, by assumption⟩); (case zzhs => with_unfolding_all rfl)); intro _ _ _ _ _)
  k_with "getAttr ref" => (k_here; k_dflt (first
    | ((with_reducible show wpAny _ _ (getAttr (Value.ref _) (PySem.Str.ofString "start") _) _ _ _); refine' rk_start ?zzN ?zzm ?_; (case zzN => k_asm); (case zzm => first | k_mem | assumption))
    | ((with_reducible show wpAny _ _ (getAttr (Value.ref _) (PySem.Str.ofString "stop") _) _ _ _); refine' rk_stop ?zzN ?zzm ?_; (case zzN => k_asm); (case zzm => first | k_mem | assumption))))
  k_with "call builtin:list.pop" => (k_here; (with_reducible show wpAny _ _ (call (Value.builtin _) [Value.ref _, Value.int _ _]) _ _ _); k_dflt (refine' rl_pop ?zzF ?zzN ?zzR ?zzb ?zzh0 ?zzp ?zzU ?_; (case zzF => k_asm); (case zzN => k_asm); (case zzR => assumption); (case zzb => first | omega | (simp only [List.length_cons]; omega)); (case zzh0 => first | decide | omega); (case zzp => first | exact rfl | assumption); (case zzU => k_upd)); intro h' _; revert h'; walk_at "i:hFN")
  k_with "call type:range" => (k_here; (with_reducible show wpAny _ _ (call (Value.type "range") [Value.int _ _, Value.int _ _]) _ _ _); k_dflt (refine' rk_new ?zzF ?zzN ?_; (case zzF => k_asm); (case zzN => k_asm)); intro rNew _ _ _ _ _ lRng; (have l1 := lRng); (try k_lt l1))
  k_with "compareOp In int ref" => (k_here; (with_reducible show wpAny _ _ (compareOp CmpOp.In (Value.int _ _) (Value.ref _)) _ _ _); k_dflt (refine' rk_contains ?zzN ?zzm ?_; (case zzN => k_asm); (case zzm => first | k_mem | assumption | exact .tail _ (by assumption))))
  k_with "call builtin:list.insert" => (k_here; (with_reducible show wpAny _ _ (call (Value.builtin _) [Value.ref _, Value.int _ _, _]) _ _ _); k_dflt (refine' rl_insert ?zzF ?zzN ?zzR ?zzb ?zzh0 ?zzp ?zzU ?_; (case zzF => k_asm); (case zzN => k_asm); (case zzR => first | assumption | exact RngsAt.tail1 (by assumption)); (case zzb => omega); (case zzh0 => omega); (case zzp => omega); (case zzU => k_upd)); walk_at "i:hFN")
  k_with "setItem ref int" => (k_here; (with_reducible show wpAny _ _ (setItem (Value.ref _) (Value.int _ _) (Value.ref _)) _ _ _); k_dflt (refine' rl_set ?zzF ?zzN ?zzR ?zzb ?zzh0 ?zzp ?zzU ?_; (case zzF => k_asm); (case zzN => k_asm); (case zzR => first | assumption | exact RngsAt.tail1 (by assumption)); (case zzb => omega); (case zzh0 => omega); (case zzp => omega); (case zzU => k_upd)); walk_at "i:hFN")
  k_with "call builtin:list.append" => (k_here; (with_reducible show wpAny _ _ (call (Value.builtin _) [Value.ref _, Value.ref _]) _ _ _); k_dflt (refine' rl_append ?zzF ?zzN ?zzR ?zzb ?zzU ?_; (case zzF => k_asm); (case zzN => k_asm); (case zzR => first | assumption | exact RngsAt.tail1 (by assumption)); (case zzb => omega); (case zzU => k_upd)); walk_at "i:hFN")
  k_with "call builtin:len" => (k_here; (with_reducible show wpAny _ _ (call (Value.builtin "len") [Value.ref _]) _ _ _); k_dflt (refine' bk_len ?zzN ?zzm ?zzR ?zzb ?_; (case zzN => k_asm); (case zzm => k_mem); (case zzR => assumption); (case zzb => omega)); intro _ _)
  k_with "subscriptTail" => (k_here; (with_reducible show wpAny _ _ (subscriptTail _ (Expr.Slice _ _ none _) (Value.ref _) (Value.ref _)) _ _ _); k_dflt (refine' bk_slice (nb := 100000) (s := ⟨_, _, _, _, _⟩) ?zzF ?zzN ?zzm ?zzl ?zzu ?zzb ?zzz ?_ ?zzhs; (case zzF => k_asm); (case zzN => k_asm); (case zzm => k_mem); (case zzl => constructor); (case zzu => constructor); (case zzb => k_extra "sz"); (case zzz => decide); (case zzhs => with_unfolding_all rfl)); intro _ _ _ _ _ lBa; (have l1 := lBa); (try k_lt l1))
  k_with "binaryOp Add ref ref" => (k_here; k_dflt ((with_reducible show wpAny _ _ (binaryOp _ (Value.ref _) (Value.ref _)) _ _ _); refine' bk_add (nb := 200000) (nc := 100000) ?zzF ?zzN ?zzm ?zzm2 ?zzb ?zzc ?zzz ?_; (case zzF => k_asm); (case zzN => k_asm); (case zzm => k_mem); (case zzm2 => k_mem); (case zzb => k_extra "sz"); (case zzc => k_extra "sz"); (case zzz => decide)); intro _ _ _ _ _ lBa; (have l1 := lBa); (try k_lt l1))
  k_with "binaryOp Add ref bytes" => (k_here; k_dflt ((with_reducible show wpAny _ _ (binaryOp _ (Value.ref _) (Value.bytes _ _)) _ _ _); refine' bk_addB (nb := 100000) (nc := 100000) ?zzF ?zzN ?zzm ?zzb ?zzc ?zzz ?_; (case zzF => k_asm); (case zzN => k_asm); (case zzm => k_mem); (case zzb => k_extra "sz"); (case zzc => k_extra "sz"); (case zzz => decide)); intro _ _ _ _ _ lBa; (have l1 := lBa); (try k_lt l1))
  k_with "binaryOp Add ref" => walk_at "binaryOp Add ref bytes"
  k_with "call type:bytes" => (k_here; (with_reducible show wpAny _ _ (call (Value.type "bytes") [Value.ref _]) _ _ _); k_dflt (refine' bk_bytes (nb := 100000) ?zzN ?zzm ?zzb ?zzz ?_; (case zzN => k_asm); (case zzm => k_mem); (case zzb => k_extra "sz"); (case zzz => decide)); intro _ _)
  k_with "subscriptTail" => (k_here; (with_reducible show wpAny _ _ (subscriptTail _ _ (Value.ref _) (Value.int _ _)) _ _ _); k_dflt (refine' bk_item ?zzN ?zzm ?zzI ?zzx ?zzh0 ?zzhi ?_ ?zzhs; (case zzN => k_asm); (case zzm => k_mem); (case zzI => assumption); (case zzx => assumption); (case zzh0 => omega); (case zzhi => omega); (case zzhs => with_unfolding_all rfl)); intro _ _)
  k_with "binaryOp RShift int int" => (k_here; refine' shr_f ?zze ?zzn ?_; (case zze => assumption); (case zzn => decide))
  k_with "binaryOp LShift int int" => (k_here; refine' shl_f ?zze ?zzn ?zzn2 ?zza ?_; (case zze => assumption); (case zzn => decide); (case zzn2 => decide); (case zza => decide))
  k_with "binaryOp BitAnd int int" => (k_here; refine' and_f ?zze ?_; (case zze => assumption))
  k_with "binaryOp BitOr int int" => (k_here; refine' or_f ?zze ?_; (case zze => assumption))
  k_with "spliced" => (k_here; first | refine args_cons ?_ | refine args_nil ⟨Fr.keep (by assumption) _ _ (by assumption), ?_⟩ | (refine args_nil ?_; try simp only [List.cons_append, List.nil_append]))
  have buf_cap : S_buf_cap Mine.hd.heap_1_39 Mine.hd.view_1_40 := by
    as_aux_lemma =>
      have hfill : (fun _ : OpenLaw × (Params → Frag) => True) (PySem.Challenge.rw_ay0001_01, Mine.hd.heap_1_39) := by k_fill; trivial
      clear hfill
      unfold S_buf_cap
      intro w A dp un gd env outer h₀ L m news s R n tn hA ⟨⟨A₀, base, B⟩, F, X, N, ⟨loose, mean, mg, mb, T⟩, hf, hk⟩ hd hu hn0 hn1 ret
      subst hA
      refine P_make_K F N X (by k_is) (by k_is) (by k_is) ?_
      intro x dx h1 F1 N1 l1 l2
      replace N1 : News h₀ L h1 ((x, instObj 226 dx) :: (dx, dictOf [] 0) :: news) := N1
      have d1 : @Ne Nat x dx := fun e => absurd l2 (by rw [show x = dx from e]; exact Nat.lt_irrefl _)
      replace l2 : @LT.lt Nat _ dx x := l2
      have hall : AllLt dx news := allLt_of l1
      refine' codeP_def B F1 X N1 T rfl hf hk ?k6 ?k7 ?k8 ?k9 ?kB ?_ ?c2 ?c3 ?c4 ?c5
      (case k6 => k_is)
      (case k7 => k_is)
      (case k8 => ktr_room)
      (case k9 => first | exact BindsTo.of_eq rfl | exact binds_K (by first | assumption | exact Frag.In.keeps (by k_asm) (Fr.keep (by k_asm))) rfl (by k_is) rfl rfl rfl)
      (case c5 => decide)
      (case kB => exact locs rfl)
      (case c2 => exact rfl)
      (case c3 => exact rfl)
      (case c4 => exact rfl)
      intro gg LL hh FG FF NN BB XX TT
      try dsimp only
      refine P_execs_cons (P_If ?_)
      k_steps
      refine P_execs_cons (P_Assign_Attribute (P_Call_Name ?_))
      k_steps
      refine P_callWith_typeE ?_
      k_steps
      refine P_bytearray_int (by assumption) (by assumption) hn0 (by omega) ?_
      intro r h2 F2 N2 l3
      have hxr : @LT.lt Nat _ x r := l3 _ (.head _)
      have hdr : @LT.lt Nat _ dx r := l3 _ (.tail _ (.head _))
      have hallr : AllLt r news := allLt_of fun p hp => l3 p (.tail _ (.tail _ hp))
      k_steps
      refine P_execs_nil ?_
      dsimp only
      refine wpP_any ?_
      k_steps
      refine ret _ _ _ x dx (by assumption) (by assumption) (BufAt.of (by k_mem) (by k_mem) (by k_mem) rfl ?_) (fun p hp => .tail _ (.tail _ (.tail _ hp))) l1
      unfold KBw.bInts
      simp
  have buf_new : S_buf_new Mine.hd.heap_1_39 Mine.hd.view_1_40 := by
    as_aux_lemma =>
      have hfill : (fun _ : OpenLaw × (Params → Frag) => True) (PySem.Challenge.rw_ay0001_01, Mine.hd.heap_1_39) := by k_fill; trivial
      clear hfill
      unfold S_buf_new
      intro w A dp un gd env outer h₀ L m news s R b J tn hA ⟨⟨A₀, base, B⟩, F, X, N, ⟨loose, mean, mg, mb, T⟩, hf, hk⟩ hd hu hJ hJl ret
      subst hA
      refine P_make_K F N X (by k_is) (by k_is) (by k_is) ?_
      intro x dx h1 F1 N1 l1 l2
      replace N1 : News h₀ L h1 ((x, instObj 226 dx) :: (dx, dictOf [] 0) :: news) := N1
      have d1 : @Ne Nat x dx := fun e => absurd l2 (by rw [show x = dx from e]; exact Nat.lt_irrefl _)
      replace l2 : @LT.lt Nat _ dx x := l2
      have hall : AllLt dx news := allLt_of l1
      refine' codeP_def B F1 X N1 T rfl hf hk ?k6 ?k7 ?k8 ?k9 ?kB ?_ ?c2 ?c3 ?c4 ?c5
      (case k6 => k_is)
      (case k7 => k_is)
      (case k8 => ktr_room)
      (case k9 => first | exact BindsTo.of_eq rfl | exact binds_K (by first | assumption | exact Frag.In.keeps (by k_asm) (Fr.keep (by k_asm))) rfl (by k_is) rfl rfl rfl)
      (case c5 => decide)
      (case kB => exact locs rfl)
      (case c2 => exact rfl)
      (case c3 => exact rfl)
      (case c4 => exact rfl)
      intro gg LL hh FG FF NN BB XX TT
      try dsimp only
      refine P_execs_cons (P_If ?_)
      k_steps
      refine P_execs_cons (P_Assign_Attribute (P_Call_Name ?_))
      k_steps
      refine P_callWith_typeE ?_
      k_steps
      have hbs : b.size < 2 ^ 16 := by rw [← KBw.ints_length, hJ]; exact hJl
      refine P_bytearray_bytes (by assumption) (by assumption) (by omega) ?_
      intro r h2 F2 N2 l3
      have hxr : @LT.lt Nat _ x r := l3 _ (.head _)
      have hdr : @LT.lt Nat _ dx r := l3 _ (.tail _ (.head _))
      have hallr : AllLt r news := allLt_of fun p hp => l3 p (.tail _ (.tail _ hp))
      k_steps
      refine P_execs_nil ?_
      dsimp only
      refine wpP_any ?_
      k_steps
      exact ret _ _ _ x dx (by assumption) (by assumption) (BufAt.of (by k_mem) (by k_mem) (by k_mem) rfl hJ) (fun p hp => .tail _ (.tail _ (.tail _ hp))) l1
  k_with_none
  k_with "enter" => (first
    | (refine' code_def ?zzk1 ?zzk2 ?zzk3 ?zzk4 ?zzk5 ?zzkA ?zzkF ?zzkK ?zzk6 ?zzk7 ?zzk8 ?zzk9 ?zzkB ?_ ?zzc2 ?zzc3 ?zzc4 ?zzc5; (case zzkA => exact rfl); (case zzkF => assumption); (case zzkK => assumption); (case zzk1 => k_asm); (case zzk2 => k_asm); (case zzk3 => k_asm); (case zzk4 => k_asm); (case zzk5 => k_asm); (case zzk6 => k_is); (case zzk7 => k_is); (case zzk8 => ktr_room); (case zzk9 => first | exact BindsTo.of_eq rfl | exact binds_K (by first | assumption | exact Frag.In.keeps (by k_asm) (Fr.keep (by k_asm))) rfl (by k_is) rfl rfl rfl); (case zzc5 => decide); (case zzkB => exact locs rfl); (case zzc2 => exact rfl); (case zzc3 => exact rfl); (case zzc4 => exact rfl); k_whole; intro _ _ _ _ _ _ _ _ _; (try dsimp only); (try k_fold))
    | (refine' code_defC ?zzk1 ?zzk2 ?zzk3 ?zzk4 ?zzk5 ?zzkA ?zzkF ?zzkK ?zzk6 ?zzk7 ?zzk8 ?zzk9 ?zzkB ?zzkD ?_ ?zzc2 ?zzc3 ?zzc4; (case zzkA => exact rfl); (case zzkF => assumption); (case zzkK => assumption); (case zzk1 => k_asm); (case zzk2 => k_asm); (case zzk3 => k_asm); (case zzk4 => k_asm); (case zzk5 => k_asm); (case zzk6 => k_is); (case zzk7 => k_is); (case zzk8 => ktr_room); (case zzk9 => first | exact BindsTo.of_eq rfl | exact binds_K (by first | assumption | exact Frag.In.keeps (by k_asm) (Fr.keep (by k_asm))) rfl (by k_is) rfl rfl rfl); (case zzkB => exact rfl); (case zzkD => decide +kernel); (case zzc2 => exact rfl); (case zzc3 => exact rfl); (case zzc4 => exact rfl); k_whole; intro _ _ _ _ _ _ _ N' Y' _ _ _ l1; (try k_lt l1); k_cells Y'; (try simp only [List.cons_append, List.nil_append] at N'); (try dsimp only); (try k_fold)))
  k_with "all" => (first
    | exact allLt_ne (by assumption) (by omega)
    | exact allLt_ne (by assumption : _ ∧ AllLt _ _).2 (by omega)
    | exact allLt_ne (by assumption : _ ∧ _ ∧ AllLt _ _).2.2 (by omega)
    | exact allLt_ne (by assumption : _ ∧ _ ∧ _ ∧ AllLt _ _).2.2.2 (by omega)
    | exact allLt_ne (by assumption : _ ∧ _ ∧ _ ∧ _ ∧ AllLt _ _).2.2.2.2 (by omega)
    | exact allLt_ne (by assumption : _ ∧ _ ∧ _ ∧ _ ∧ _ ∧ AllLt _ _).2.2.2.2.2 (by omega))
  k_with "callWith ref" => (k_here; k_dflt (first
    | refine' callWith_K ?zzk1 ?zzk2 ?_; (case zzk1 => k_asm); (case zzk2 => k_is); k_whole
    | refine' callWith_K0 ?zzk1 ?zzk2 ?_; (case zzk1 => first | assumption | exact Frag.In.keeps (by k_asm) (Fr.keep (by k_asm))); (case zzk2 => k_is); k_whole))
  k_with "inst" => (first
    | (refine' InstAt.of_news ?zzN ?zzh1 ?zzh2; (case zzN => k_asm); (case zzh1 => k_mem); (case zzh2 => k_mem))
    | exact QAt.inst (by assumption) (by k_asm)
    | exact BufAt.inst (by assumption) (by k_asm)
    | exact WinAt.inst (by assumption) (by k_asm))
  k_with "ctx" => exact ⟨⟨_, _, by assumption⟩, by k_asm, by assumption, by k_asm, ⟨_, _, _, _, by assumption⟩, rfl, rfl⟩
  k_with "room" => (first | omega | (dsimp only [arn, Around.deeper]; omega) | decide +kernel)
  k_with "sz" => (repeat (first | assumption | refine SzB.pick ?_ | refine SzB.app (n := 100000) (k := 100000) ?_ ?_))
  k_with "exec While" => (k_here; refine hold_intro ?_)
  k_with "last exec While" => (k_here; refine hold_intro ?_)
  k_with "exec While Compare" => (k_here; refine hold_intro ?_)
  k_with "exec While BoolOp" => (k_here; refine hold_intro ?_)
  k_with "exec For" => (k_here; (rename HoldIf => hMk); clear hMk; refine hold_intro ?_)
  k_with "exec For Name Call cons nil" => (k_here; (rename HoldIf => hMk); clear hMk; refine hold_intro ?_)
  k_with "exec For Name Call" => (k_here; (rename HoldIf => hMk); clear hMk; refine hold_intro ?_)
  k_with "exec If" => (k_here; (rename HoldIf => hMk); clear hMk; refine hold_intro ?_)
  k_with "call builtin:set.add" => (k_here; kse_here; (with_reducible show wpAny _ _ (call (Value.builtin "set.add") [Value.ref _, Value.int _ _]) _ _ _); k_dflt (refine' set_add_fresh ?zzF ?zzN ?zzU ?zzd ?zzz ?zzf ?_; (case zzF => k_asm); (case zzN => k_asm); (case zzU => k_updF); (case zzd => k_asm); (case zzz => kse_small); (case zzf => assumption)); intro _ _ F' N' _; (try dsimp only at N'))
  k_with "call builtin:len" => (k_here; (with_reducible show wpAny _ _ (call (Value.builtin "len") [Value.ref _]) _ _ _); k_dflt (refine' rl_len ?zzN ?zzm ?zzR ?zzb ?_; (case zzN => k_asm); (case zzm => k_mem); (case zzR => assumption); (case zzb => omega)))
  k_with "subscriptTail" => (k_here; (with_reducible show wpAny _ _ (subscriptTail _ _ (Value.ref _) (Value.int _ _)) _ _ _); k_dflt (refine' rl_sub ?zzN ?zzm ?zzR ?zzb ?zzi ?_ ?zzhs; (case zzN => k_asm); (case zzm => k_mem); (case zzR => assumption); (case zzb => omega); (case zzi => first | exact .inl ⟨by omega, by assumption⟩ | exact .inr ⟨rfl, by assumption⟩); (case zzhs => with_unfolding_all rfl)); intro _ _ _ _ _)
  k_with "getAttr ref" => (k_here; k_dflt (first
    | ((with_reducible show wpAny _ _ (getAttr (Value.ref _) (PySem.Str.ofString "start") _) _ _ _); refine' rk_start ?zzN ?zzm ?_; (case zzN => k_asm); (case zzm => first | k_mem | assumption))
    | ((with_reducible show wpAny _ _ (getAttr (Value.ref _) (PySem.Str.ofString "stop") _) _ _ _); refine' rk_stop ?zzN ?zzm ?_; (case zzN => k_asm); (case zzm => first | k_mem | assumption))))
  k_with "call builtin:list.pop" => (k_here; (with_reducible show wpAny _ _ (call (Value.builtin _) [Value.ref _, Value.int _ _]) _ _ _); k_dflt (refine' rl_pop ?zzF ?zzN ?zzR ?zzb ?zzh0 ?zzp ?zzU ?_; (case zzF => k_asm); (case zzN => k_asm); (case zzR => assumption); (case zzb => first | omega | (simp only [List.length_cons]; omega)); (case zzh0 => first | decide | omega); (case zzp => first | exact rfl | assumption); (case zzU => k_upd)); intro h' _; revert h'; walk_at "i:hFN")
  k_with "call type:range" => (k_here; (with_reducible show wpAny _ _ (call (Value.type "range") [Value.int _ _, Value.int _ _]) _ _ _); k_dflt (refine' rk_new ?zzF ?zzN ?_; (case zzF => k_asm); (case zzN => k_asm)); intro rNew _ _ _ _ _ lRng; (have l1 := lRng); (try k_lt l1))
  k_with "compareOp In int ref" => (k_here; (with_reducible show wpAny _ _ (compareOp CmpOp.In (Value.int _ _) (Value.ref _)) _ _ _); k_dflt (refine' rk_contains ?zzN ?zzm ?_; (case zzN => k_asm); (case zzm => first | k_mem | assumption | exact .tail _ (by assumption))))
  k_with "call builtin:list.insert" => (k_here; (with_reducible show wpAny _ _ (call (Value.builtin _) [Value.ref _, Value.int _ _, _]) _ _ _); k_dflt (refine' rl_insert ?zzF ?zzN ?zzR ?zzb ?zzh0 ?zzp ?zzU ?_; (case zzF => k_asm); (case zzN => k_asm); (case zzR => first | assumption | exact RngsAt.tail1 (by assumption)); (case zzb => omega); (case zzh0 => omega); (case zzp => omega); (case zzU => k_upd)); walk_at "i:hFN")
  k_with "setItem ref int" => (k_here; (with_reducible show wpAny _ _ (setItem (Value.ref _) (Value.int _ _) (Value.ref _)) _ _ _); k_dflt (refine' rl_set ?zzF ?zzN ?zzR ?zzb ?zzh0 ?zzp ?zzU ?_; (case zzF => k_asm); (case zzN => k_asm); (case zzR => first | assumption | exact RngsAt.tail1 (by assumption)); (case zzb => omega); (case zzh0 => omega); (case zzp => omega); (case zzU => k_upd)); walk_at "i:hFN")
  k_with "call builtin:list.append" => (k_here; (with_reducible show wpAny _ _ (call (Value.builtin _) [Value.ref _, Value.ref _]) _ _ _); k_dflt (refine' rl_append ?zzF ?zzN ?zzR ?zzb ?zzU ?_; (case zzF => k_asm); (case zzN => k_asm); (case zzR => first | assumption | exact RngsAt.tail1 (by assumption)); (case zzb => omega); (case zzU => k_upd)); walk_at "i:hFN")
  k_with "call builtin:len" => (k_here; (with_reducible show wpAny _ _ (call (Value.builtin "len") [Value.ref _]) _ _ _); k_dflt (refine' bk_len ?zzN ?zzm ?zzR ?zzb ?_; (case zzN => k_asm); (case zzm => k_mem); (case zzR => assumption); (case zzb => omega)); intro _ _)
  k_with "subscriptTail" => (k_here; (with_reducible show wpAny _ _ (subscriptTail _ (Expr.Slice _ _ none _) (Value.ref _) (Value.ref _)) _ _ _); k_dflt (refine' bk_slice (nb := 100000) (s := ⟨_, _, _, _, _⟩) ?zzF ?zzN ?zzm ?zzl ?zzu ?zzb ?zzz ?_ ?zzhs; (case zzF => k_asm); (case zzN => k_asm); (case zzm => k_mem); (case zzl => constructor); (case zzu => constructor); (case zzb => k_extra "sz"); (case zzz => decide); (case zzhs => with_unfolding_all rfl)); intro _ _ _ _ _ lBa; (have l1 := lBa); (try k_lt l1))
  k_with "binaryOp Add ref ref" => (k_here; k_dflt ((with_reducible show wpAny _ _ (binaryOp _ (Value.ref _) (Value.ref _)) _ _ _); refine' bk_add (nb := 200000) (nc := 100000) ?zzF ?zzN ?zzm ?zzm2 ?zzb ?zzc ?zzz ?_; (case zzF => k_asm); (case zzN => k_asm); (case zzm => k_mem); (case zzm2 => k_mem); (case zzb => k_extra "sz"); (case zzc => k_extra "sz"); (case zzz => decide)); intro _ _ _ _ _ lBa; (have l1 := lBa); (try k_lt l1))
  k_with "binaryOp Add ref bytes" => (k_here; k_dflt ((with_reducible show wpAny _ _ (binaryOp _ (Value.ref _) (Value.bytes _ _)) _ _ _); refine' bk_addB (nb := 100000) (nc := 100000) ?zzF ?zzN ?zzm ?zzb ?zzc ?zzz ?_; (case zzF => k_asm); (case zzN => k_asm); (case zzm => k_mem); (case zzb => k_extra "sz"); (case zzc => k_extra "sz"); (case zzz => decide)); intro _ _ _ _ _ lBa; (have l1 := lBa); (try k_lt l1))
  k_with "binaryOp Add ref" => walk_at "binaryOp Add ref bytes"
  k_with "call type:bytes" => (k_here; (with_reducible show wpAny _ _ (call (Value.type "bytes") [Value.ref _]) _ _ _); k_dflt (refine' bk_bytes (nb := 100000) ?zzN ?zzm ?zzb ?zzz ?_; (case zzN => k_asm); (case zzm => k_mem); (case zzb => k_extra "sz"); (case zzz => decide)); intro _ _)
  k_with "subscriptTail" => (k_here; (with_reducible show wpAny _ _ (subscriptTail _ _ (Value.ref _) (Value.int _ _)) _ _ _); k_dflt (refine' bk_item ?zzN ?zzm ?zzI ?zzx ?zzh0 ?zzhi ?_ ?zzhs; (case zzN => k_asm); (case zzm => k_mem); (case zzI => assumption); (case zzx => assumption); (case zzh0 => omega); (case zzhi => omega); (case zzhs => with_unfolding_all rfl)); intro _ _)
  k_with "binaryOp RShift int int" => (k_here; refine' shr_f ?zze ?zzn ?_; (case zze => assumption); (case zzn => decide))
  k_with "binaryOp LShift int int" => (k_here; refine' shl_f ?zze ?zzn ?zzn2 ?zza ?_; (case zze => assumption); (case zzn => decide); (case zzn2 => decide); (case zza => decide))
  k_with "binaryOp BitAnd int int" => (k_here; refine' and_f ?zze ?_; (case zze => assumption))
  k_with "binaryOp BitOr int int" => (k_here; refine' or_f ?zze ?_; (case zze => assumption))
  k_with "spliced" => (k_here; first | refine args_cons ?_ | refine args_nil ⟨Fr.keep (by assumption) _ _ (by assumption), ?_⟩ | (refine args_nil ?_; try simp only [List.cons_append, List.nil_append]))
  k_with "inst" => exact WinAt.inst (StAt.w (by assumption)) (by k_asm)
  k_with "inst" => exact QAt.inst (StAt.q (by assumption)) (by k_asm)
  k_with "subscriptTail" => (k_here; (with_reducible show wpAny _ _ (subscriptTail _ _ (Value.ref _) (Value.str _ _)) _ _ _); k_dflt (refine st_item (by k_asm) (by assumption) (by rfl) ?_))
  k_with "compareOp In int ref" => (k_here; k_dflt (refine st_in (by k_asm) (by assumption) (by unfold scanBound; (try dsimp only); omega) (by assumption) ?_))
  k_with "compareOp NotIn int ref" => (k_here; k_dflt (refine st_notin (by k_asm) (by assumption) (by unfold scanBound; (try dsimp only); omega) (by assumption) ?_))
  k_with "getMethod ref" => (k_here; (with_reducible show wpAny _ _ (getMethod (Value.ref _) (Str.ofString "add") _) _ _ _); k_dflt (refine st_addM (by k_asm) (by assumption) (by unfold scanBound; (try dsimp only); omega) ?_))
  k_with "getMethod ref" => (k_here; (with_reducible show wpAny _ _ (getMethod (Value.ref _) (Str.ofString "append") _) _ _ _); k_dflt (refine st_appendM (by k_asm) (by assumption) ?_))
  k_with "call builtin:set.add" => (k_here; (with_reducible show wpAny _ _ (call (Value.builtin "set.add") [Value.ref _, Value.int _ _]) _ _ _); k_dflt (refine st_add (by k_asm) (by k_asm) (by assumption) (by unfold scanBound; (try dsimp only); omega) (by assumption) ?_); intro _ _ _ _ hSt hB9; (have hKept := hKept.but hB9 (.inr (.inr (.inr (.inl rfl))))))
  k_with "call builtin:list.append" => (k_here; (with_reducible show wpAny _ _ (call (Value.builtin _) [Value.ref _, Value.int _ _]) _ _ _); k_dflt (refine st_append (by k_asm) (by k_asm) (by assumption) (by (try dsimp only); omega) ?_); intro _ _ _ _ hSt hB9; (have hKept := hKept.but hB9 (.inr (.inr (.inr (.inr (.inl rfl)))))))
  k_with "setItem ref str" => (k_here; (with_reducible show wpAny _ _ (setItem (Value.ref _) (Value.str _ _) (Value.int _ _)) _ _ _); k_dflt (refine st_put (by k_asm) (by k_asm) (by assumption) ?_); intro _ _ _ _ hSt hB9; (have hKept := hKept.but hB9 (.inl rfl)))
  k_with "call ref" => (k_here; (with_reducible show wpAny _ _ (call (Value.ref 47) _ _) _ _ _); (k_dflt refine' wpAny_call (win_contains rfl ?zzC ?zzd ?zzu hSt.w ?zzn ?_); (case zzC => k_extra "ctx"); (case zzd => k_extra "room"); (case zzu => k_extra "room"); (case zzn => (try dsimp only); omega)); intro _ _ _ _; (try dsimp only); (try rw [hcont]))
  k_with "call ref" => (k_here; (with_reducible show wpAny _ _ (call (Value.ref 40) _ _) _ _ _); (k_dflt refine' wpAny_call (win_add rfl ?zzC ?zzd ?zzu hSt.w ?zzn ?zzS ?zzl ?zzz ?zzb ?_); (case zzC => k_extra "ctx"); (case zzd => k_extra "room"); (case zzu => k_extra "room"); (case zzn => (try dsimp only); omega); (case zzS => assumption); (case zzl => assumption); (case zzz => assumption); (case zzb => omega)); intro _ _ _ _ _ hW9 hWk; (have hSt := StAt.winTo hSt (by assumption) hW9 hWk); (have hKept := hKept.win hWk); (try dsimp only))
  k_with "call ref" => (k_here; (with_reducible show wpAny _ _ (call (Value.ref 261) [_, _] _) _ _ _); (k_dflt refine' wpAny_call (rs_add1 rfl ?zzC ?zzd ?zzu hSt.q ?zzn ?_); (case zzC => k_extra "ctx"); (case zzd => k_extra "room"); (case zzu => k_extra "room"); (case zzn => (try dsimp only); omega)); intro _ _ _ _ _ hQ9 hQk; (have hSt := StAt.queTo hSt (by assumption) hQ9 hQk); (have hKept := hKept.but hQk (.inr (.inr (.inr (.inr (.inr rfl)))))); (try dsimp only); refine hold_intro ?_)
  k_with "call ref" => (k_here; (with_reducible show wpAny _ _ (call (Value.ref 275) _ _) _ _ _); (k_dflt refine' wpAny_call (rs_shift rfl ?zzC ?zzd ?zzu ?zzq ?zzn ?_); (case zzC => k_extra "ctx"); (case zzd => k_extra "room"); (case zzu => k_extra "room"); (case zzq => assumption); (case zzn => (try dsimp only); omega)); intro _ _ _ _ _ _ hQ9 hQk; (have hSt := StAt.queTo hSt (by assumption) hQ9 hQk); (have hKept := hKept.but hQk (.inr (.inr (.inr (.inr (.inr rfl)))))); (try dsimp only))
  k_with "call ref" => (k_here; (with_reducible show wpAny _ _ (call (Value.ref 268) _ _) _ _ _); (k_dflt refine' wpAny_call (rs_bounds rfl ?zzC ?zzd ?zzu hSt.q ?zzn ?zz0 ?zzL ?_); (case zzC => k_extra "ctx"); (case zzd => k_extra "room"); (case zzu => k_extra "room"); (case zzn => (try dsimp only); omega); (case zz0 => assumption); (case zzL => assumption)); intro _ _ rB _ _ _ _ _ lB; (have hSt := StAt.consN (by assumption) hSt); (have hKept := Ad.Kept.consN (by assumption) hKept); (try dsimp only))
  k_with "call ref" => (k_here; (with_reducible show wpAny _ _ (call (Value.ref 296) _ _) _ _ _); (k_dflt refine' wpAny_call (rs_contains rfl ?zzC ?zzd ?zzu hSt.q ?zzn ?_); (case zzC => k_extra "ctx"); (case zzd => k_extra "room"); (case zzu => k_extra "room"); (case zzn => (try dsimp only); omega)); intro _ _ _ _; (try dsimp only); (try rw [hin]))
  k_with "call ref" => (k_here; (with_reducible show wpAny _ _ (call (Value.ref 324) _ _) _ _ _); (k_dflt refine' wpAny_call (rs_len rfl ?zzC ?zzd ?zzu hSt.q ?zzn ?_); (case zzC => k_extra "ctx"); (case zzd => k_extra "room"); (case zzu => k_extra "room"); (case zzn => (try dsimp only); omega)); intro _ _ _ _ _; (try dsimp only); (try (dsimp only [PySem.W.LenBack]; refine ⟨⟨by omega, by omega⟩, ?_⟩)))
  have law_come : S_law_come Mine.hd.heap_1_39 Mine.hd.view_1_40 := by
    as_aux_lemma =>
      have hfill : (fun _ : OpenLaw × (Params → Frag) => True) (PySem.Challenge.rw_ay0001_01, Mine.hd.heap_1_39) := by k_fill; trivial
      clear hfill
      unfold S_law_come
      intro w A dp un gd env outer h₀ L m news s R a P n tn hA ⟨⟨A₀, base, B⟩, F, X, N, ⟨loose, mean, mg, mb, T⟩, hf, hk⟩ hd hu hSt hI hn0 hn1 hlen ret
      subst hA
      have hKept : a.Kept news news := Ad.Kept.refl
      have hnw := hI.nw
      have hnt := hI.nt
      have h64 := hI.len
      have hlo := hI.lo
      unfold lowOf at hlo
      by_cases hg : n > P.g - 128
      · by_cases hS : P.St n = true
        · have hSn : (!P.St n) = false := by rw [hS]; rfl
          have hcont : (decide (n < P.lo) || P.Sw n) = true := by rw [hI.sw, hS, Bool.or_true]
          k_enter
          k_steps
          exact ret _ _ _ P (by assumption) (by assumption) hSt hI (fun e => by have := (hI.mem n).mp hS; rw [e] at this; cases this) (by omega) (.inl rfl) hKept
        · have hS : P.St n = false := by simpa using hS
          have hSn : (!P.St n) = true := by rw [hS]; rfl
          have hSw : P.Sw n = false := by rw [hI.sw]; exact hS
          have hlo0 : 0 ≤ P.lo := by rw [hlo]; split <;> omega
          have hlo1 : P.lo ≤ n := by rw [hlo]; split <;> omega
          have hcont : (decide (n < P.lo) || P.Sw n) = false := by rw [hSw, decide_eq_false (by omega)]; rfl
          obtain ⟨hI', hin, hne⟩ := inv_come hI hn0 hn1 hg hS
          have hal := (addR_len (s := n) (e := n + 1) (rs := P.rs)).1
          obtain ⟨p, t, e⟩ : ∃ p t, addR n (n + 1) P.rs = p :: t := by
            cases e : addR n (n + 1) P.rs with
            | nil => exact absurd e addR_len.2
            | cons p t => exact ⟨p, t, rfl⟩
          k_enter
          k_steps
          refine ⟨?_⟩
          have hIf : HoldIf := trivial
          rw [e] at hSt hal
          rw [List.length_cons] at hal
          k_steps
          rename_i FF NN
          refine ⟨st_cut (w := w) (a := a) (news0 := news) (come P n) FF ?_ ?_⟩
          · have hQc : QAt w _ a.q a.dq a.l (p :: t) := hSt.q
            have hlc : (p :: t).length = t.length + 1 := rfl
            by_cases q : 64 < (p :: t).length
            · have hc : (come P n).rs = t := by show cutR (addR n (n + 1) P.rs) = t; rw [e]; unfold cutR; rw [if_pos q]; rfl
              rw [List.length_cons] at q
              k_steps
              refine ⟨rfl, _, _, _, rfl, by assumption, by assumption, ?_, hKept⟩
              rw [← hc] at hSt
              exact hSt
            · have hc : (come P n).rs = p :: t := by show cutR (addR n (n + 1) P.rs) = p :: t; rw [e]; unfold cutR; rw [if_neg q]
              rw [List.length_cons] at q
              k_steps
              refine ⟨rfl, _, _, _, rfl, by assumption, by assumption, ?_, hKept⟩
              rw [← hc] at hSt
              exact hSt
          · intro h tk nx F9 N9 hSt hKept
            dsimp only
            have hgg : (come P n).g = P.g ∨ (come P n).g = n := by
              show (if n > P.g then n else P.g) = P.g ∨ (if n > P.g then n else P.g) = n
              split
              · exact .inr rfl
              · exact .inl rfl
            have hol : (come P n).ord.length ≤ P.ord.length + 1 := by show (P.ord ++ [n]).length ≤ _; rw [List.length_append]; exact Nat.le_refl _
            have hoe : (come P n).ord ≠ [] := by show P.ord ++ [n] ≠ []; simp
            have h64' := hI'.len
            obtain ⟨p0, t0, e0⟩ : ∃ p t, (come P n).rs = p :: t := by
              cases e : (come P n).rs with
              | nil => exact absurd e hne
              | cons p t => exact ⟨p, t, rfl⟩
            have hp0 : (come P n).rs[0]? = some p0 := by rw [e0]; rfl
            obtain ⟨pl, hpl, _⟩ := top_last (z := 0) hne
            generalize come P n = P' at *
            k_steps
            all_goals first
              | exact ret _ _ _ P' (by assumption) (by assumption) (by assumption) hI' hoe hol hgg hKept
              | (rw [decide_eq_true (by omega : (P'.rs.length : Int) ≤ 64)]; exact ret _ _ _ P' (by assumption) (by assumption) (by assumption) hI' hoe hol hgg hKept)
      · have hcont : (decide (n < P.lo) || P.Sw n) = true := by rw [decide_eq_true (by rw [hlo]; split <;> omega)]; rfl
        k_enter
        k_steps
        all_goals first
          | exact ret _ _ _ P (by assumption) (by assumption) hSt hI (fun e => by have := hI.emp e; omega) (by omega) (.inl rfl) hKept
          | (exfalso; rename (true == decide _) = true => hz; rw [decide_eq_false (by omega)] at hz; cases hz)
  k_with_none
  k_with "enter" => (first
    | (refine' code_def ?zzk1 ?zzk2 ?zzk3 ?zzk4 ?zzk5 ?zzkA ?zzkF ?zzkK ?zzk6 ?zzk7 ?zzk8 ?zzk9 ?zzkB ?_ ?zzc2 ?zzc3 ?zzc4 ?zzc5; (case zzkA => exact rfl); (case zzkF => assumption); (case zzkK => assumption); (case zzk1 => k_asm); (case zzk2 => k_asm); (case zzk3 => k_asm); (case zzk4 => k_asm); (case zzk5 => k_asm); (case zzk6 => k_is); (case zzk7 => k_is); (case zzk8 => ktr_room); (case zzk9 => first | exact BindsTo.of_eq rfl | exact binds_K (by first | assumption | exact Frag.In.keeps (by k_asm) (Fr.keep (by k_asm))) rfl (by k_is) rfl rfl rfl); (case zzc5 => decide); (case zzkB => exact locs rfl); (case zzc2 => exact rfl); (case zzc3 => exact rfl); (case zzc4 => exact rfl); k_whole; intro _ _ _ _ _ _ _ _ _; (try dsimp only); (try k_fold))
    | (refine' code_defC ?zzk1 ?zzk2 ?zzk3 ?zzk4 ?zzk5 ?zzkA ?zzkF ?zzkK ?zzk6 ?zzk7 ?zzk8 ?zzk9 ?zzkB ?zzkD ?_ ?zzc2 ?zzc3 ?zzc4; (case zzkA => exact rfl); (case zzkF => assumption); (case zzkK => assumption); (case zzk1 => k_asm); (case zzk2 => k_asm); (case zzk3 => k_asm); (case zzk4 => k_asm); (case zzk5 => k_asm); (case zzk6 => k_is); (case zzk7 => k_is); (case zzk8 => ktr_room); (case zzk9 => first | exact BindsTo.of_eq rfl | exact binds_K (by first | assumption | exact Frag.In.keeps (by k_asm) (Fr.keep (by k_asm))) rfl (by k_is) rfl rfl rfl); (case zzkB => exact rfl); (case zzkD => decide +kernel); (case zzc2 => exact rfl); (case zzc3 => exact rfl); (case zzc4 => exact rfl); k_whole; intro _ _ _ _ _ _ _ N' Y' _ _ _ l1; (try k_lt l1); k_cells Y'; (try simp only [List.cons_append, List.nil_append] at N'); (try dsimp only); (try k_fold)))
  k_with "all" => (first
    | exact allLt_ne (by assumption) (by omega)
    | exact allLt_ne (by assumption : _ ∧ AllLt _ _).2 (by omega)
    | exact allLt_ne (by assumption : _ ∧ _ ∧ AllLt _ _).2.2 (by omega)
    | exact allLt_ne (by assumption : _ ∧ _ ∧ _ ∧ AllLt _ _).2.2.2 (by omega)
    | exact allLt_ne (by assumption : _ ∧ _ ∧ _ ∧ _ ∧ AllLt _ _).2.2.2.2 (by omega)
    | exact allLt_ne (by assumption : _ ∧ _ ∧ _ ∧ _ ∧ _ ∧ AllLt _ _).2.2.2.2.2 (by omega))
  k_with "callWith ref" => (k_here; k_dflt (first
    | refine' callWith_K ?zzk1 ?zzk2 ?_; (case zzk1 => k_asm); (case zzk2 => k_is); k_whole
    | refine' callWith_K0 ?zzk1 ?zzk2 ?_; (case zzk1 => first | assumption | exact Frag.In.keeps (by k_asm) (Fr.keep (by k_asm))); (case zzk2 => k_is); k_whole))
  k_with "inst" => (first
    | (refine' InstAt.of_news ?zzN ?zzh1 ?zzh2; (case zzN => k_asm); (case zzh1 => k_mem); (case zzh2 => k_mem))
    | exact QAt.inst (by assumption) (by k_asm)
    | exact BufAt.inst (by assumption) (by k_asm)
    | exact WinAt.inst (by assumption) (by k_asm))
  k_with "ctx" => exact ⟨⟨_, _, by assumption⟩, by k_asm, by assumption, by k_asm, ⟨_, _, _, _, by assumption⟩, rfl, rfl⟩
  k_with "room" => (first | omega | (dsimp only [arn, Around.deeper]; omega) | decide +kernel)
  k_with "sz" => (repeat (first | assumption | refine SzB.pick ?_ | refine SzB.app (n := 100000) (k := 100000) ?_ ?_))
  k_with "exec While" => (k_here; refine hold_intro ?_)
  k_with "last exec While" => (k_here; refine hold_intro ?_)
  k_with "exec While Compare" => (k_here; refine hold_intro ?_)
  k_with "exec While BoolOp" => (k_here; refine hold_intro ?_)
  k_with "exec For" => (k_here; (rename HoldIf => hMk); clear hMk; refine hold_intro ?_)
  k_with "exec For Name Call cons nil" => (k_here; (rename HoldIf => hMk); clear hMk; refine hold_intro ?_)
  k_with "exec For Name Call" => (k_here; (rename HoldIf => hMk); clear hMk; refine hold_intro ?_)
  k_with "exec If" => (k_here; (rename HoldIf => hMk); clear hMk; refine hold_intro ?_)
  k_with "call builtin:set.add" => (k_here; kse_here; (with_reducible show wpAny _ _ (call (Value.builtin "set.add") [Value.ref _, Value.int _ _]) _ _ _); k_dflt (refine' set_add_fresh ?zzF ?zzN ?zzU ?zzd ?zzz ?zzf ?_; (case zzF => k_asm); (case zzN => k_asm); (case zzU => k_updF); (case zzd => k_asm); (case zzz => kse_small); (case zzf => assumption)); intro _ _ F' N' _; (try dsimp only at N'))
  k_with "call builtin:len" => (k_here; (with_reducible show wpAny _ _ (call (Value.builtin "len") [Value.ref _]) _ _ _); k_dflt (refine' rl_len ?zzN ?zzm ?zzR ?zzb ?_; (case zzN => k_asm); (case zzm => k_mem); (case zzR => assumption); (case zzb => omega)))
  k_with "subscriptTail" => (k_here; (with_reducible show wpAny _ _ (subscriptTail _ _ (Value.ref _) (Value.int _ _)) _ _ _); k_dflt (refine' rl_sub ?zzN ?zzm ?zzR ?zzb ?zzi ?_ ?zzhs; (case zzN => k_asm); (case zzm => k_mem); (case zzR => assumption); (case zzb => omega); (case zzi => first | exact .inl ⟨by omega, by assumption⟩ | exact .inr ⟨rfl, by assumption⟩); (case zzhs => with_unfolding_all rfl)); intro _ _ _ _ _)
  k_with "getAttr ref" => (k_here; k_dflt (first
    | ((with_reducible show wpAny _ _ (getAttr (Value.ref _) (PySem.Str.ofString "start") _) _ _ _); refine' rk_start ?zzN ?zzm ?_; (case zzN => k_asm); (case zzm => first | k_mem | assumption))
    | ((with_reducible show wpAny _ _ (getAttr (Value.ref _) (PySem.Str.ofString "stop") _) _ _ _); refine' rk_stop ?zzN ?zzm ?_; (case zzN => k_asm); (case zzm => first | k_mem | assumption))))
  k_with "call builtin:list.pop" => (k_here; (with_reducible show wpAny _ _ (call (Value.builtin _) [Value.ref _, Value.int _ _]) _ _ _); k_dflt (refine' rl_pop ?zzF ?zzN ?zzR ?zzb ?zzh0 ?zzp ?zzU ?_; (case zzF => k_asm); (case zzN => k_asm); (case zzR => assumption); (case zzb => first | omega | (simp only [List.length_cons]; omega)); (case zzh0 => first | decide | omega); (case zzp => first | exact rfl | assumption); (case zzU => k_upd)); intro h' _; revert h'; walk_at "i:hFN")
  k_with "call type:range" => (k_here; (with_reducible show wpAny _ _ (call (Value.type "range") [Value.int _ _, Value.int _ _]) _ _ _); k_dflt (refine' rk_new ?zzF ?zzN ?_; (case zzF => k_asm); (case zzN => k_asm)); intro rNew _ _ _ _ _ lRng; (have l1 := lRng); (try k_lt l1))
  k_with "compareOp In int ref" => (k_here; (with_reducible show wpAny _ _ (compareOp CmpOp.In (Value.int _ _) (Value.ref _)) _ _ _); k_dflt (refine' rk_contains ?zzN ?zzm ?_; (case zzN => k_asm); (case zzm => first | k_mem | assumption | exact .tail _ (by assumption))))
  k_with "call builtin:list.insert" => (k_here; (with_reducible show wpAny _ _ (call (Value.builtin _) [Value.ref _, Value.int _ _, _]) _ _ _); k_dflt (refine' rl_insert ?zzF ?zzN ?zzR ?zzb ?zzh0 ?zzp ?zzU ?_; (case zzF => k_asm); (case zzN => k_asm); (case zzR => first | assumption | exact RngsAt.tail1 (by assumption)); (case zzb => omega); (case zzh0 => omega); (case zzp => omega); (case zzU => k_upd)); walk_at "i:hFN")
  k_with "setItem ref int" => (k_here; (with_reducible show wpAny _ _ (setItem (Value.ref _) (Value.int _ _) (Value.ref _)) _ _ _); k_dflt (refine' rl_set ?zzF ?zzN ?zzR ?zzb ?zzh0 ?zzp ?zzU ?_; (case zzF => k_asm); (case zzN => k_asm); (case zzR => first | assumption | exact RngsAt.tail1 (by assumption)); (case zzb => omega); (case zzh0 => omega); (case zzp => omega); (case zzU => k_upd)); walk_at "i:hFN")
  k_with "call builtin:list.append" => (k_here; (with_reducible show wpAny _ _ (call (Value.builtin _) [Value.ref _, Value.ref _]) _ _ _); k_dflt (refine' rl_append ?zzF ?zzN ?zzR ?zzb ?zzU ?_; (case zzF => k_asm); (case zzN => k_asm); (case zzR => first | assumption | exact RngsAt.tail1 (by assumption)); (case zzb => omega); (case zzU => k_upd)); walk_at "i:hFN")
  k_with "call builtin:len" => (k_here; (with_reducible show wpAny _ _ (call (Value.builtin "len") [Value.ref _]) _ _ _); k_dflt (refine' bk_len ?zzN ?zzm ?zzR ?zzb ?_; (case zzN => k_asm); (case zzm => k_mem); (case zzR => assumption); (case zzb => omega)); intro _ _)
  k_with "subscriptTail" => (k_here; (with_reducible show wpAny _ _ (subscriptTail _ (Expr.Slice _ _ none _) (Value.ref _) (Value.ref _)) _ _ _); k_dflt (refine' bk_slice (nb := 100000) (s := ⟨_, _, _, _, _⟩) ?zzF ?zzN ?zzm ?zzl ?zzu ?zzb ?zzz ?_ ?zzhs; (case zzF => k_asm); (case zzN => k_asm); (case zzm => k_mem); (case zzl => constructor); (case zzu => constructor); (case zzb => k_extra "sz"); (case zzz => decide); (case zzhs => with_unfolding_all rfl)); intro _ _ _ _ _ lBa; (have l1 := lBa); (try k_lt l1))
  k_with "binaryOp Add ref ref" => (k_here; k_dflt ((with_reducible show wpAny _ _ (binaryOp _ (Value.ref _) (Value.ref _)) _ _ _); refine' bk_add (nb := 200000) (nc := 100000) ?zzF ?zzN ?zzm ?zzm2 ?zzb ?zzc ?zzz ?_; (case zzF => k_asm); (case zzN => k_asm); (case zzm => k_mem); (case zzm2 => k_mem); (case zzb => k_extra "sz"); (case zzc => k_extra "sz"); (case zzz => decide)); intro _ _ _ _ _ lBa; (have l1 := lBa); (try k_lt l1))
  k_with "binaryOp Add ref bytes" => (k_here; k_dflt ((with_reducible show wpAny _ _ (binaryOp _ (Value.ref _) (Value.bytes _ _)) _ _ _); refine' bk_addB (nb := 100000) (nc := 100000) ?zzF ?zzN ?zzm ?zzb ?zzc ?zzz ?_; (case zzF => k_asm); (case zzN => k_asm); (case zzm => k_mem); (case zzb => k_extra "sz"); (case zzc => k_extra "sz"); (case zzz => decide)); intro _ _ _ _ _ lBa; (have l1 := lBa); (try k_lt l1))
  k_with "binaryOp Add ref" => walk_at "binaryOp Add ref bytes"
  k_with "call type:bytes" => (k_here; (with_reducible show wpAny _ _ (call (Value.type "bytes") [Value.ref _]) _ _ _); k_dflt (refine' bk_bytes (nb := 100000) ?zzN ?zzm ?zzb ?zzz ?_; (case zzN => k_asm); (case zzm => k_mem); (case zzb => k_extra "sz"); (case zzz => decide)); intro _ _)
  k_with "subscriptTail" => (k_here; (with_reducible show wpAny _ _ (subscriptTail _ _ (Value.ref _) (Value.int _ _)) _ _ _); k_dflt (refine' bk_item ?zzN ?zzm ?zzI ?zzx ?zzh0 ?zzhi ?_ ?zzhs; (case zzN => k_asm); (case zzm => k_mem); (case zzI => assumption); (case zzx => assumption); (case zzh0 => omega); (case zzhi => omega); (case zzhs => with_unfolding_all rfl)); intro _ _)
  k_with "binaryOp RShift int int" => (k_here; refine' shr_f ?zze ?zzn ?_; (case zze => assumption); (case zzn => decide))
  k_with "binaryOp LShift int int" => (k_here; refine' shl_f ?zze ?zzn ?zzn2 ?zza ?_; (case zze => assumption); (case zzn => decide); (case zzn2 => decide); (case zza => decide))
  k_with "binaryOp BitAnd int int" => (k_here; refine' and_f ?zze ?_; (case zze => assumption))
  k_with "binaryOp BitOr int int" => (k_here; refine' or_f ?zze ?_; (case zze => assumption))
  k_with "spliced" => (k_here; first | refine args_cons ?_ | refine args_nil ⟨Fr.keep (by assumption) _ _ (by assumption), ?_⟩ | (refine args_nil ?_; try simp only [List.cons_append, List.nil_append]))
  k_with "call ref" => (k_here; (with_reducible show wpAny _ _ (call (Value.ref 334) _ _) _ _ _); (k_dflt refine' wpAny_call (rs_new rfl ?zzC ?zzd ?zzu ?_); (case zzC => k_extra "ctx"); (case zzd => k_extra "room"); (case zzu => k_extra "room")); intro _ _ _ qN dqN lN _ _ hQN hKN hLN; (try dsimp only); refine hold_intro ?_)
  k_with "call ref" => (k_here; (with_reducible show wpAny _ _ (call (Value.ref 181) _ _) _ _ _); (k_dflt refine' wpAny_call (pull_var rfl ?zzC ?zzd ?zzu ?zzH ?zzn ?zzv0 ?zzv1 ?zzl ?_); (case zzC => k_extra "ctx"); (case zzd => k_extra "room"); (case zzu => k_extra "room"); (case zzH => assumption); (case zzn => omega); (case zzl => assumption); (case zzv0 => omega); (case zzv1 => omega)); intro _ _ _ _ _ _ hPB hPk; (try dsimp only); (have hQ := QAt.keepB (by assumption) (by assumption) hQ hne hPk); (have hKeep := fun p hp h1 => hPk p (hKeep p hp h1) h1); (try have hIt := hPk _ hIt hItd); (have hDr := hstep hDr))
  k_with "call ref" => (k_here; (with_reducible show wpAny _ _ (call (Value.ref 261) [_, _, _] _) _ _ _); (k_dflt refine' wpAny_call (rs_add2 rfl ?zzC ?zzd ?zzu ?zzH ?zzn ?zzl ?_); (case zzC => k_extra "ctx"); (case zzd => k_extra "room"); (case zzu => k_extra "room"); (case zzH => exact hQ); (case zzn => first | assumption | omega | (simp; done) | (simp; omega)); (case zzl => omega)); intro _ _ _ _ _ hQ2 hAk; (try dsimp only); (have hPB := BufAt.keepQ (by assumption) hPB hQ hAk); (have hKeep := fun p hp h1 => hAk p (hKeep p hp h1) (Nat.ne_of_lt (hLN p hp).2.2)); (try have hIt := hAk _ hIt hItl); (have hQ := hQ2))
  k_with "call type:range" => (k_here; (with_reducible show wpAny _ _ (call (Value.type "range") [Value.int _ _]) _ _ _); k_dflt (refine' rk_new1 ?zzF ?zzN ?_; (case zzF => k_asm); (case zzN => k_asm)); intro rNew _ _ _ _ _ _ lRng)
  k_with "pyIter ref" => (k_here; (rename HoldIf => hMk); clear hMk; refine hold_intro ?_)
  have pull_ack : S_pull_ack Mine.hd.heap_1_39 Mine.hd.view_1_40 := by
    as_aux_lemma =>
      have hfill : (fun _ : OpenLaw × (Params → Frag) => True) (PySem.Challenge.rw_ay0001_01, Mine.hd.heap_1_39) := by k_fill; trivial
      clear hfill
      unfold S_pull_ack
      intro w A dp un gd env outer h₀ L m news s R x dx I ex p rv k hA ⟨⟨A₀, base, B⟩, F, X, N, ⟨loose, mean, mg, mb, T⟩, hf, hk⟩ hd hu hB hIl hI hsep hk1 hk2 hrv ret
      subst hA
      obtain ⟨hp0, hp1, hp2, hsep'⟩ := id hsep
      k_enter
      k_steps
      refine ⟨?_⟩
      have hPB := hB.sub hKN
      have hQ := hQN
      have hne : @Ne Nat dqN dx := by
        obtain ⟨od, hdx, _⟩ := hB.has
        exact fun e => absurd (hLN _ hdx).2.1 (by rw [show dqN = dx from e]; exact Nat.lt_irrefl _)
      have hKeep : ∀ p ∈ news, p.1 ≠ dx → p ∈ _ := fun p hp _ => hKN p hp
      have hstep : ∀ {pl : Nat} {v : Int} {r : List Int}, I.drop pl = encV v ++ r → I.drop (pl + (encV v).length) = r := fun {pl v r} e => by
        rw [← List.drop_drop, e, List.drop_left]
      have hDr : I.drop 0 = encV (p.2 - 1) ++ (encV 7 ++ (encV ((k : Int) - 1) ++ (encV (p.2 - 1 - p.1) ++ (encs (gapsV p.1 (rv.take (k - 1))) ++ ex)))) := by
        rw [List.drop_zero, hI]; unfold frameV; rw [encs_cons, encs_cons, encs_cons, encs_cons]; simp only [List.append_assoc]
      have hIf : HoldIf := trivial
      k_steps
      rename_i hZ FZ NZ
      refine ⟨For_invVF FZ rfl rfl ?_⟩
      have hIf : HoldIf := trivial
      k_steps
      rename_i hZ tk2 t2 k2 FF NN
      have e0 : addR (p.2 - 1 - (p.2 - 1 - p.1)) (p.2 - 1 + 1) [] = ((p :: rv).take (1 + 0)).reverse := by
        have h1 : p.2 - 1 - (p.2 - 1 - p.1) = p.1 := by omega
        have h2 : p.2 - 1 + 1 = p.2 := by omega
        rw [h1, h2]; rfl
      rw [e0] at hQ
      have hst : p.2 - 1 - (p.2 - 1 - p.1) = p.1 := by omega
      refine ⟨iterR (PullJ w x dx qN dqN lN news I ex p rv k _) rfl (by k_mem) (by decide) (by decide) (by omega) (by omega) FF NN ⟨by omega, ⟨_, _, by with_unfolding_all rfl, by rw [hst]; exact hp0, by rw [hst]; omega, by rw [hst]; exact hsep', fun q hq => ?_, _, hPB.cons, by rw [hst]; exact hDr⟩, Over.self, hQ.cons, fun p hp h => .tail _ (hKeep p hp h)⟩ ?_ ?_⟩
      · rw [hst]
        have hq' : q ∈ ((p :: rv).take 1).reverse.head? := hq
        simp at hq'
        rw [hq']
      · rintro i t m₁ nx h tk it o hi ⟨hlt, ⟨st, ts, hm, h0, h16, hsd, hhd, pos, hPB, hDr⟩, ho, hQ, hKeep⟩ hd' hoc F₁ N₁
        have hik : i < k - 1 := by omega
        obtain ⟨a, b, hab⟩ : ∃ a b, rv[i]? = some (a, b) := ⟨rv[i].1, rv[i].2, List.getElem?_eq_getElem (by omega)⟩
        have hdr : rv.drop i = (a, b) :: rv.drop (i + 1) := by
          rw [List.drop_eq_getElem_cons (by omega)]
          have : rv[i] = (a, b) := by rw [List.getElem?_eq_getElem (by omega)] at hab; exact Option.some.inj hab
          rw [this]
        rw [hdr] at hsd hDr
        rw [show k - 1 - i = k - 1 - (i + 1) + 1 by omega, List.take_succ_cons, show ∀ X, gapsV st ((a, b) :: X) = (st - b - 1) :: (b - a - 1) :: gapsV a X from fun _ => rfl, encs_cons, encs_cons, List.append_assoc, List.append_assoc] at hDr
        obtain ⟨ha0, hab1, hb1, hsd'⟩ := hsd
        have e := ho.eq3
        rw [hm] at e
        rw [e] at F₁
        clear e
        have hItd : @Ne Nat it dx := by
          obtain ⟨od, h1, _⟩ := hPB.has
          exact (hd' _ h1).symm
        have hItl : @Ne Nat it lN := by
          obtain ⟨od, h1, _⟩ := hQ.has
          exact (hd' _ h1).symm
        have hIt : (it, o) ∈ (it, o) :: nx := .head _
        have hPB := hPB.cons (y := (it, o))
        have hQ := hQ.cons (y := (it, o))
        have hKeep0 := hKeep
        have hKeep : ∀ p ∈ news, p.1 ≠ dx → p ∈ (it, o) :: nx := fun p hp h => .tail _ (hKeep p hp h)
        have hln : (((p :: rv).take (1 + i)).reverse).length < 1000 := by simp; omega
        dsimp only at F₁
        k_steps
        rename_i hZ3 FF3 NN3
        obtain ⟨nx', N', hn', hoff, hk'⟩ := offIt NN3 hIt
        rw [hoc] at hoff
        have hst2 : st - (st - b - 1 + 2) - (b - a - 1) = a := by omega
        have hst3 : st - (st - b - 1 + 2) + 1 = b := by omega
        have hab' : (p :: rv)[1 + i]? = some (a, b) := by rw [Nat.add_comm]; simpa using hab
        have e1 : addR (st - (st - b - 1 + 2) - (b - a - 1)) (st - (st - b - 1 + 2) + 1) ((p :: rv).take (1 + i)).reverse = ((p :: rv).take (1 + (i + 1))).reverse := by
          rw [hst2, hst3, addR_front (fun p hp => by rw [hhd p hp]; omega)]
          exact (take_rev hab').symm
        rw [e1] at hQ
        refine ⟨_, _, _, nx', rfl, FF3, N', hn', ⟨by omega, ⟨_, _, by with_unfolding_all rfl, by rw [hst2]; exact ha0, by rw [hst2]; omega, by rw [hst2]; exact hsd', fun q hq => ?_, _, hPB.off hoff, by rw [hst2]; exact hDr⟩, by (repeat (first | exact Over.self | refine Over.put (by decide +kernel) ?_)), hQ.off hoff, fun p hp h => hk' p (hKeep p hp h) (hd' p (hKeep0 p hp h))⟩⟩
        rw [show 1 + (i + 1) = 1 + i + 1 from rfl, take_rev_head hab'] at hq
        rw [hst2, ← Option.some.inj hq]
      · rintro m₁ nx h tk ⟨hlt, ⟨st, ts, hm, h0, h16, hsd, hhd, pos, hPB, hDr⟩, ho, hQ, hKeep⟩ F₁ N₁
        have e := ho.eq3
        rw [hm] at e
        rw [e] at F₁
        clear e
        dsimp only at F₁ ⊢
        k_steps
        rw [show 1 + ((k : Int) - 1 - 0).toNat = k by omega] at hQ
        exact ret _ _ _ _ qN dqN lN _ (by assumption) (by assumption) (by k_mem) hQ.cons (fun p hp h => .tail _ (hKeep p hp h)) hLN
  k_with_none
  k_with "enter" => (first
    | (refine' code_def ?zzk1 ?zzk2 ?zzk3 ?zzk4 ?zzk5 ?zzkA ?zzkF ?zzkK ?zzk6 ?zzk7 ?zzk8 ?zzk9 ?zzkB ?_ ?zzc2 ?zzc3 ?zzc4 ?zzc5; (case zzkA => exact rfl); (case zzkF => assumption); (case zzkK => assumption); (case zzk1 => k_asm); (case zzk2 => k_asm); (case zzk3 => k_asm); (case zzk4 => k_asm); (case zzk5 => k_asm); (case zzk6 => k_is); (case zzk7 => k_is); (case zzk8 => ktr_room); (case zzk9 => first | exact BindsTo.of_eq rfl | exact binds_K (by first | assumption | exact Frag.In.keeps (by k_asm) (Fr.keep (by k_asm))) rfl (by k_is) rfl rfl rfl); (case zzc5 => decide); (case zzkB => exact locs rfl); (case zzc2 => exact rfl); (case zzc3 => exact rfl); (case zzc4 => exact rfl); k_whole; intro _ _ _ _ _ _ _ _ _; (try dsimp only); (try k_fold))
    | (refine' code_defC ?zzk1 ?zzk2 ?zzk3 ?zzk4 ?zzk5 ?zzkA ?zzkF ?zzkK ?zzk6 ?zzk7 ?zzk8 ?zzk9 ?zzkB ?zzkD ?_ ?zzc2 ?zzc3 ?zzc4; (case zzkA => exact rfl); (case zzkF => assumption); (case zzkK => assumption); (case zzk1 => k_asm); (case zzk2 => k_asm); (case zzk3 => k_asm); (case zzk4 => k_asm); (case zzk5 => k_asm); (case zzk6 => k_is); (case zzk7 => k_is); (case zzk8 => ktr_room); (case zzk9 => first | exact BindsTo.of_eq rfl | exact binds_K (by first | assumption | exact Frag.In.keeps (by k_asm) (Fr.keep (by k_asm))) rfl (by k_is) rfl rfl rfl); (case zzkB => exact rfl); (case zzkD => decide +kernel); (case zzc2 => exact rfl); (case zzc3 => exact rfl); (case zzc4 => exact rfl); k_whole; intro _ _ _ _ _ _ _ N' Y' _ _ _ l1; (try k_lt l1); k_cells Y'; (try simp only [List.cons_append, List.nil_append] at N'); (try dsimp only); (try k_fold)))
  k_with "all" => (first
    | exact allLt_ne (by assumption) (by omega)
    | exact allLt_ne (by assumption : _ ∧ AllLt _ _).2 (by omega)
    | exact allLt_ne (by assumption : _ ∧ _ ∧ AllLt _ _).2.2 (by omega)
    | exact allLt_ne (by assumption : _ ∧ _ ∧ _ ∧ AllLt _ _).2.2.2 (by omega)
    | exact allLt_ne (by assumption : _ ∧ _ ∧ _ ∧ _ ∧ AllLt _ _).2.2.2.2 (by omega)
    | exact allLt_ne (by assumption : _ ∧ _ ∧ _ ∧ _ ∧ _ ∧ AllLt _ _).2.2.2.2.2 (by omega))
  k_with "callWith ref" => (k_here; k_dflt (first
    | refine' callWith_K ?zzk1 ?zzk2 ?_; (case zzk1 => k_asm); (case zzk2 => k_is); k_whole
    | refine' callWith_K0 ?zzk1 ?zzk2 ?_; (case zzk1 => first | assumption | exact Frag.In.keeps (by k_asm) (Fr.keep (by k_asm))); (case zzk2 => k_is); k_whole))
  k_with "inst" => (first
    | (refine' InstAt.of_news ?zzN ?zzh1 ?zzh2; (case zzN => k_asm); (case zzh1 => k_mem); (case zzh2 => k_mem))
    | exact QAt.inst (by assumption) (by k_asm)
    | exact BufAt.inst (by assumption) (by k_asm)
    | exact WinAt.inst (by assumption) (by k_asm))
  k_with "ctx" => exact ⟨⟨_, _, by assumption⟩, by k_asm, by assumption, by k_asm, ⟨_, _, _, _, by assumption⟩, rfl, rfl⟩
  k_with "room" => (first | omega | (dsimp only [arn, Around.deeper]; omega) | decide +kernel)
  k_with "sz" => (repeat (first | assumption | refine SzB.pick ?_ | refine SzB.app (n := 100000) (k := 100000) ?_ ?_))
  k_with "exec While" => (k_here; refine hold_intro ?_)
  k_with "last exec While" => (k_here; refine hold_intro ?_)
  k_with "exec While Compare" => (k_here; refine hold_intro ?_)
  k_with "exec While BoolOp" => (k_here; refine hold_intro ?_)
  k_with "exec For" => (k_here; (rename HoldIf => hMk); clear hMk; refine hold_intro ?_)
  k_with "exec For Name Call cons nil" => (k_here; (rename HoldIf => hMk); clear hMk; refine hold_intro ?_)
  k_with "exec For Name Call" => (k_here; (rename HoldIf => hMk); clear hMk; refine hold_intro ?_)
  k_with "exec If" => (k_here; (rename HoldIf => hMk); clear hMk; refine hold_intro ?_)
  k_with "call builtin:set.add" => (k_here; kse_here; (with_reducible show wpAny _ _ (call (Value.builtin "set.add") [Value.ref _, Value.int _ _]) _ _ _); k_dflt (refine' set_add_fresh ?zzF ?zzN ?zzU ?zzd ?zzz ?zzf ?_; (case zzF => k_asm); (case zzN => k_asm); (case zzU => k_updF); (case zzd => k_asm); (case zzz => kse_small); (case zzf => assumption)); intro _ _ F' N' _; (try dsimp only at N'))
  k_with "call builtin:len" => (k_here; (with_reducible show wpAny _ _ (call (Value.builtin "len") [Value.ref _]) _ _ _); k_dflt (refine' rl_len ?zzN ?zzm ?zzR ?zzb ?_; (case zzN => k_asm); (case zzm => k_mem); (case zzR => assumption); (case zzb => omega)))
  k_with "subscriptTail" => (k_here; (with_reducible show wpAny _ _ (subscriptTail _ _ (Value.ref _) (Value.int _ _)) _ _ _); k_dflt (refine' rl_sub ?zzN ?zzm ?zzR ?zzb ?zzi ?_ ?zzhs; (case zzN => k_asm); (case zzm => k_mem); (case zzR => assumption); (case zzb => omega); (case zzi => first | exact .inl ⟨by omega, by assumption⟩ | exact .inr ⟨rfl, by assumption⟩); (case zzhs => with_unfolding_all rfl)); intro _ _ _ _ _)
  k_with "getAttr ref" => (k_here; k_dflt (first
    | ((with_reducible show wpAny _ _ (getAttr (Value.ref _) (PySem.Str.ofString "start") _) _ _ _); refine' rk_start ?zzN ?zzm ?_; (case zzN => k_asm); (case zzm => first | k_mem | assumption))
    | ((with_reducible show wpAny _ _ (getAttr (Value.ref _) (PySem.Str.ofString "stop") _) _ _ _); refine' rk_stop ?zzN ?zzm ?_; (case zzN => k_asm); (case zzm => first | k_mem | assumption))))
  k_with "call builtin:list.pop" => (k_here; (with_reducible show wpAny _ _ (call (Value.builtin _) [Value.ref _, Value.int _ _]) _ _ _); k_dflt (refine' rl_pop ?zzF ?zzN ?zzR ?zzb ?zzh0 ?zzp ?zzU ?_; (case zzF => k_asm); (case zzN => k_asm); (case zzR => assumption); (case zzb => first | omega | (simp only [List.length_cons]; omega)); (case zzh0 => first | decide | omega); (case zzp => first | exact rfl | assumption); (case zzU => k_upd)); intro h' _; revert h'; walk_at "i:hFN")
  k_with "call type:range" => (k_here; (with_reducible show wpAny _ _ (call (Value.type "range") [Value.int _ _, Value.int _ _]) _ _ _); k_dflt (refine' rk_new ?zzF ?zzN ?_; (case zzF => k_asm); (case zzN => k_asm)); intro rNew _ _ _ _ _ lRng; (have l1 := lRng); (try k_lt l1))
  k_with "compareOp In int ref" => (k_here; (with_reducible show wpAny _ _ (compareOp CmpOp.In (Value.int _ _) (Value.ref _)) _ _ _); k_dflt (refine' rk_contains ?zzN ?zzm ?_; (case zzN => k_asm); (case zzm => first | k_mem | assumption | exact .tail _ (by assumption))))
  k_with "call builtin:list.insert" => (k_here; (with_reducible show wpAny _ _ (call (Value.builtin _) [Value.ref _, Value.int _ _, _]) _ _ _); k_dflt (refine' rl_insert ?zzF ?zzN ?zzR ?zzb ?zzh0 ?zzp ?zzU ?_; (case zzF => k_asm); (case zzN => k_asm); (case zzR => first | assumption | exact RngsAt.tail1 (by assumption)); (case zzb => omega); (case zzh0 => omega); (case zzp => omega); (case zzU => k_upd)); walk_at "i:hFN")
  k_with "setItem ref int" => (k_here; (with_reducible show wpAny _ _ (setItem (Value.ref _) (Value.int _ _) (Value.ref _)) _ _ _); k_dflt (refine' rl_set ?zzF ?zzN ?zzR ?zzb ?zzh0 ?zzp ?zzU ?_; (case zzF => k_asm); (case zzN => k_asm); (case zzR => first | assumption | exact RngsAt.tail1 (by assumption)); (case zzb => omega); (case zzh0 => omega); (case zzp => omega); (case zzU => k_upd)); walk_at "i:hFN")
  k_with "call builtin:list.append" => (k_here; (with_reducible show wpAny _ _ (call (Value.builtin _) [Value.ref _, Value.ref _]) _ _ _); k_dflt (refine' rl_append ?zzF ?zzN ?zzR ?zzb ?zzU ?_; (case zzF => k_asm); (case zzN => k_asm); (case zzR => first | assumption | exact RngsAt.tail1 (by assumption)); (case zzb => omega); (case zzU => k_upd)); walk_at "i:hFN")
  k_with "call builtin:len" => (k_here; (with_reducible show wpAny _ _ (call (Value.builtin "len") [Value.ref _]) _ _ _); k_dflt (refine' bk_len ?zzN ?zzm ?zzR ?zzb ?_; (case zzN => k_asm); (case zzm => k_mem); (case zzR => assumption); (case zzb => omega)); intro _ _)
  k_with "subscriptTail" => (k_here; (with_reducible show wpAny _ _ (subscriptTail _ (Expr.Slice _ _ none _) (Value.ref _) (Value.ref _)) _ _ _); k_dflt (refine' bk_slice (nb := 100000) (s := ⟨_, _, _, _, _⟩) ?zzF ?zzN ?zzm ?zzl ?zzu ?zzb ?zzz ?_ ?zzhs; (case zzF => k_asm); (case zzN => k_asm); (case zzm => k_mem); (case zzl => constructor); (case zzu => constructor); (case zzb => k_extra "sz"); (case zzz => decide); (case zzhs => with_unfolding_all rfl)); intro _ _ _ _ _ lBa; (have l1 := lBa); (try k_lt l1))
  k_with "binaryOp Add ref ref" => (k_here; k_dflt ((with_reducible show wpAny _ _ (binaryOp _ (Value.ref _) (Value.ref _)) _ _ _); refine' bk_add (nb := 200000) (nc := 100000) ?zzF ?zzN ?zzm ?zzm2 ?zzb ?zzc ?zzz ?_; (case zzF => k_asm); (case zzN => k_asm); (case zzm => k_mem); (case zzm2 => k_mem); (case zzb => k_extra "sz"); (case zzc => k_extra "sz"); (case zzz => decide)); intro _ _ _ _ _ lBa; (have l1 := lBa); (try k_lt l1))
  k_with "binaryOp Add ref bytes" => (k_here; k_dflt ((with_reducible show wpAny _ _ (binaryOp _ (Value.ref _) (Value.bytes _ _)) _ _ _); refine' bk_addB (nb := 100000) (nc := 100000) ?zzF ?zzN ?zzm ?zzb ?zzc ?zzz ?_; (case zzF => k_asm); (case zzN => k_asm); (case zzm => k_mem); (case zzb => k_extra "sz"); (case zzc => k_extra "sz"); (case zzz => decide)); intro _ _ _ _ _ lBa; (have l1 := lBa); (try k_lt l1))
  k_with "binaryOp Add ref" => walk_at "binaryOp Add ref bytes"
  k_with "call type:bytes" => (k_here; (with_reducible show wpAny _ _ (call (Value.type "bytes") [Value.ref _]) _ _ _); k_dflt (refine' bk_bytes (nb := 100000) ?zzN ?zzm ?zzb ?zzz ?_; (case zzN => k_asm); (case zzm => k_mem); (case zzb => k_extra "sz"); (case zzz => decide)); intro _ _)
  k_with "subscriptTail" => (k_here; (with_reducible show wpAny _ _ (subscriptTail _ _ (Value.ref _) (Value.int _ _)) _ _ _); k_dflt (refine' bk_item ?zzN ?zzm ?zzI ?zzx ?zzh0 ?zzhi ?_ ?zzhs; (case zzN => k_asm); (case zzm => k_mem); (case zzI => assumption); (case zzx => assumption); (case zzh0 => omega); (case zzhi => omega); (case zzhs => with_unfolding_all rfl)); intro _ _)
  k_with "binaryOp RShift int int" => (k_here; refine' shr_f ?zze ?zzn ?_; (case zze => assumption); (case zzn => decide))
  k_with "binaryOp LShift int int" => (k_here; refine' shl_f ?zze ?zzn ?zzn2 ?zza ?_; (case zze => assumption); (case zzn => decide); (case zzn2 => decide); (case zza => decide))
  k_with "binaryOp BitAnd int int" => (k_here; refine' and_f ?zze ?_; (case zze => assumption))
  k_with "binaryOp BitOr int int" => (k_here; refine' or_f ?zze ?_; (case zze => assumption))
  k_with "spliced" => (k_here; first | refine args_cons ?_ | refine args_nil ⟨Fr.keep (by assumption) _ _ (by assumption), ?_⟩ | (refine args_nil ?_; try simp only [List.cons_append, List.nil_append]))
  k_with "call ref" => (k_here; (with_reducible show wpAny _ _ (call (Value.ref 334) _ _) _ _ _); (k_dflt refine' wpAny_call (rs_new rfl ?zzC ?zzd ?zzu ?_); (case zzC => k_extra "ctx"); (case zzd => k_extra "room"); (case zzu => k_extra "room")); intro _ _ _ qN dqN lN _ _ hQN hKN hLN; (try dsimp only); refine hold_intro ?_)
  k_with "call type:range" => (k_here; (with_reducible show wpAny _ _ (call (Value.type "range") [Value.int _ _]) _ _ _); k_dflt (refine' rk_new1 ?zzF ?zzN ?_; (case zzF => k_asm); (case zzN => k_asm)); intro rNew _ _ _ _ _ _ lRng)
  k_with "pyIter ref" => (k_here; (rename HoldIf => hMk); clear hMk; refine hold_intro ?_)
  k_with "inst" => exact WinAt.inst (StAt.w (by assumption)) (by k_asm)
  k_with "inst" => exact QAt.inst (StAt.q (by assumption)) (by k_asm)
  k_with "subscriptTail" => (k_here; (with_reducible show wpAny _ _ (subscriptTail _ _ (Value.ref _) (Value.str _ _)) _ _ _); k_dflt (refine st_item (by k_asm) (by assumption) (by rfl) ?_))
  k_with "compareOp In int ref" => (k_here; k_dflt (refine st_in (by k_asm) (by assumption) (by unfold scanBound; (try dsimp only); omega) (by assumption) ?_))
  k_with "compareOp NotIn int ref" => (k_here; k_dflt (refine st_notin (by k_asm) (by assumption) (by unfold scanBound; (try dsimp only); omega) (by assumption) ?_))
  k_with "getMethod ref" => (k_here; (with_reducible show wpAny _ _ (getMethod (Value.ref _) (Str.ofString "add") _) _ _ _); k_dflt (refine st_addM (by k_asm) (by assumption) (by unfold scanBound; (try dsimp only); omega) ?_))
  k_with "getMethod ref" => (k_here; (with_reducible show wpAny _ _ (getMethod (Value.ref _) (Str.ofString "append") _) _ _ _); k_dflt (refine st_appendM (by k_asm) (by assumption) ?_))
  k_with "call builtin:set.add" => (k_here; (with_reducible show wpAny _ _ (call (Value.builtin "set.add") [Value.ref _, Value.int _ _]) _ _ _); k_dflt (refine st_add (by k_asm) (by k_asm) (by assumption) (by unfold scanBound; (try dsimp only); omega) (by assumption) ?_); intro _ _ _ _ hSt hB9; (have hKept := hKept.but hB9 (.inr (.inr (.inr (.inl rfl))))))
  k_with "call builtin:list.append" => (k_here; (with_reducible show wpAny _ _ (call (Value.builtin _) [Value.ref _, Value.int _ _]) _ _ _); k_dflt (refine st_append (by k_asm) (by k_asm) (by assumption) (by (try dsimp only); omega) ?_); intro _ _ _ _ hSt hB9; (have hKept := hKept.but hB9 (.inr (.inr (.inr (.inr (.inl rfl)))))))
  k_with "setItem ref str" => (k_here; (with_reducible show wpAny _ _ (setItem (Value.ref _) (Value.str _ _) (Value.int _ _)) _ _ _); k_dflt (refine st_put (by k_asm) (by k_asm) (by assumption) ?_); intro _ _ _ _ hSt hB9; (have hKept := hKept.but hB9 (.inl rfl)))
  k_with "call ref" => (k_here; (with_reducible show wpAny _ _ (call (Value.ref 47) _ _) _ _ _); (k_dflt refine' wpAny_call (win_contains rfl ?zzC ?zzd ?zzu hSt.w ?zzn ?_); (case zzC => k_extra "ctx"); (case zzd => k_extra "room"); (case zzu => k_extra "room"); (case zzn => (try dsimp only); omega)); intro _ _ _ _; (try dsimp only); (try rw [hcont]))
  k_with "call ref" => (k_here; (with_reducible show wpAny _ _ (call (Value.ref 40) _ _) _ _ _); (k_dflt refine' wpAny_call (win_add rfl ?zzC ?zzd ?zzu hSt.w ?zzn ?zzS ?zzl ?zzz ?zzb ?_); (case zzC => k_extra "ctx"); (case zzd => k_extra "room"); (case zzu => k_extra "room"); (case zzn => (try dsimp only); omega); (case zzS => assumption); (case zzl => assumption); (case zzz => assumption); (case zzb => omega)); intro _ _ _ _ _ hW9 hWk; (have hSt := StAt.winTo hSt (by assumption) hW9 hWk); (have hKept := hKept.win hWk); (try dsimp only))
  k_with "call ref" => (k_here; (with_reducible show wpAny _ _ (call (Value.ref 261) [_, _] _) _ _ _); (k_dflt refine' wpAny_call (rs_add1 rfl ?zzC ?zzd ?zzu hSt.q ?zzn ?_); (case zzC => k_extra "ctx"); (case zzd => k_extra "room"); (case zzu => k_extra "room"); (case zzn => (try dsimp only); omega)); intro _ _ _ _ _ hQ9 hQk; (have hSt := StAt.queTo hSt (by assumption) hQ9 hQk); (have hKept := hKept.but hQk (.inr (.inr (.inr (.inr (.inr rfl)))))); (try dsimp only); refine hold_intro ?_)
  k_with "call ref" => (k_here; (with_reducible show wpAny _ _ (call (Value.ref 275) _ _) _ _ _); (k_dflt refine' wpAny_call (rs_shift rfl ?zzC ?zzd ?zzu ?zzq ?zzn ?_); (case zzC => k_extra "ctx"); (case zzd => k_extra "room"); (case zzu => k_extra "room"); (case zzq => assumption); (case zzn => (try dsimp only); omega)); intro _ _ _ _ _ _ hQ9 hQk; (have hSt := StAt.queTo hSt (by assumption) hQ9 hQk); (have hKept := hKept.but hQk (.inr (.inr (.inr (.inr (.inr rfl)))))); (try dsimp only))
  k_with "call ref" => (k_here; (with_reducible show wpAny _ _ (call (Value.ref 268) _ _) _ _ _); (k_dflt refine' wpAny_call (rs_bounds rfl ?zzC ?zzd ?zzu hSt.q ?zzn ?zz0 ?zzL ?_); (case zzC => k_extra "ctx"); (case zzd => k_extra "room"); (case zzu => k_extra "room"); (case zzn => (try dsimp only); omega); (case zz0 => assumption); (case zzL => assumption)); intro _ _ rB _ _ _ _ _ lB; (have hSt := StAt.consN (by assumption) hSt); (have hKept := Ad.Kept.consN (by assumption) hKept); (try dsimp only))
  k_with "call ref" => (k_here; (with_reducible show wpAny _ _ (call (Value.ref 296) _ _) _ _ _); (k_dflt refine' wpAny_call (rs_contains rfl ?zzC ?zzd ?zzu hSt.q ?zzn ?_); (case zzC => k_extra "ctx"); (case zzd => k_extra "room"); (case zzu => k_extra "room"); (case zzn => (try dsimp only); omega)); intro _ _ _ _; (try dsimp only); (try rw [hin]))
  k_with "call ref" => (k_here; (with_reducible show wpAny _ _ (call (Value.ref 324) _ _) _ _ _); (k_dflt refine' wpAny_call (rs_len rfl ?zzC ?zzd ?zzu hSt.q ?zzn ?_); (case zzC => k_extra "ctx"); (case zzd => k_extra "room"); (case zzu => k_extra "room"); (case zzn => (try dsimp only); omega)); intro _ _ _ _ _; (try dsimp only); (try (dsimp only [PySem.W.LenBack]; refine ⟨⟨by omega, by omega⟩, ?_⟩)))
  k_with "room" => (first | omega | ktr_room | ktr_units | (dsimp only [arn, Around.deeper]; omega) | decide +kernel | (simp only [depth_under_make, depth_under_kw, depth_in1, depth_deeper, depth_caller]; decide +kernel) | (simp only [units_in1, units_deeper, Around.mark_units, units_caller]; decide +kernel))
  k_with "inst" => exact WinAt.inst (StAt.w (LawS.st (by assumption))) (by k_asm)
  k_with "inst" => exact QAt.inst (StAt.q (LawS.st (by assumption))) (by k_asm)
  k_with "eval Name" => (k_here; k_dflt (refine name_cell (by k_asm) (LawS.ce (by assumption)) (by rfl) ?_ (by rfl) (by rfl)))
  k_with "storeName" => (k_here; k_dflt (refine' store_cell ?zzF ?zzN ?zzm ?zzd ?zzc ?_ ?zza ?zzb; (case zza => exact rfl); (case zzb => exact rfl); (case zzF => k_asm); (case zzN => k_asm); (case zzc => exact rfl); (case zzm => first | k_mem | assumption); (case zzd => k_asm)); intro _ _ _ _ hCe hOffC)
  k_with "subscriptTail" => (k_here; (with_reducible show wpAny _ _ (subscriptTail _ _ (Value.ref _) (Value.str _ _)) _ _ _); k_dflt (refine st_item (by k_asm) (LawS.st (by assumption)) (by rfl) ?_))
  k_with "call builtin:len" => (k_here; (with_reducible show wpAny _ _ (call (Value.builtin "len") [Value.ref _]) _ _ _); k_dflt (refine st_olen (by k_asm) (LawS.st (by assumption)) (by omega) ?_); intro _ _)
  k_with "subscriptTail" => (k_here; (with_reducible show wpAny _ _ (subscriptTail _ _ (Value.ref _) (Value.int _ _)) _ _ _); k_dflt (refine st_oitem (by k_asm) (LawS.st (by assumption)) (by omega) (by omega) (by assumption) ?_); intro _)
  k_with "eval Name" => (k_here; (with_reducible show wpAny _ _ (eval (Expr.Name _ _) (compEnvC _ _ _ _)) _ _ _); k_dflt (refine lcx_cell (by k_asm) (LawS.ce (by assumption)) (by rfl) ?_ (by rfl) (by rfl)))
  k_with "eval Name" => (k_here; (with_reducible show wpAny _ _ (eval (Expr.Name _ _) (compEnvC _ _ _ _)) _ _ _); k_dflt (refine LCgL.ld_own (by k_asm) (by k_mem) (by assumption) (by assumption) ?_ (by rfl) (by rfl)))
  k_with "call ref" => (k_here; (with_reducible show wpAny _ _ (call (Value.ref 359) _ _) _ _ _); k_dflt (refine' wpAny_call (law_come rfl ?zzC ?zzd ?zzu hLS.st hLS.inv ?zz0 ?zz1 ?zzl ?_); (case zzC => k_extra "ctx"); (case zzd => k_extra "room"); (case zzu => k_extra "room"); (case zz0 => omega); (case zz1 => omega); (case zzl => omega); intro _ _ _ P9 _ _ hSt9 hI9 hO9 hL9 hG9 hK9; (have hLS := LawS.to hLS (by assumption) hSt9 hI9 hK9); (try dsimp only)))
  have hfill : (fun _ : OpenLaw × (Params → Frag) => True) (PySem.Challenge.rw_ay0001_01, Mine.hd.heap_1_39) := by k_fill; trivial
  clear hfill
  intro w s₀ s₁ mg mb G Y fa o pm cd doc dV kV ho hd hcd hD hmg hg args vals as hpre hlay hrd hwl hlo
  have KX := kIn_of Y
  refine Ground.open G ?_
  intro T B D TE TW
  try (refine guard_noD D (by decide +kernel) ?_; clear D)
  obtain ⟨_, _, M⟩ := bmod_of_top T
  try (obtain ⟨_, _, he, B0⟩ := based_of_top T rfl hmg ho hd; have he' : cd = _ := he; subst he'; clear he)
  clear hmg
  obtain ⟨hC1, hC2⟩ := hC args hpre
  clear hC
  wrow_args hpre hlay hrd hwl hlo
  rename_i ns hshape hl0 hl1 hl2 hl3 a1 a2 la vs a3 hL hRA hW1 hR0 hI hRd hcond hc2
  obtain ⟨hdV, hkV⟩ : dV = .none ∧ kV = .none := by
    constructor
    · rcases hD.pos with h | h
      · exact h.2
      · exact absurd rfl h.1
    · rcases hD.kw with h | h
      · exact h.2
      · exact absurd rfl h.1
  subst hdV hkV
  dsimp only [Calls.docDef] at hd hcd
  suffices H : ∀ R : Result → Shared → Prop, (∀ h' tk' L m, Fr s₁.heap L h' m → R (.ok (.ret (.bool true))) { s₁ with heap := h', toks := tk' }) → codeP (model prg w) callerA (.call (.ref fa) ⟨[.ref la], []⟩) R s₁ by
    refine wpP_call (H _ fun h' tk' L m F => ?_)
    exact GoodW.toG (goodW_bool F hg hC1 hC2)
  intro R ret
  clear hC1 hC2
  refine codeP_cells (binds := [(Str.ofString "script", .ref la)]) ?r ho hd T.nolimit hcd ?bind ?kind ?nd ?main
  case r => decide +kernel
  case bind => rfl
  case kind => intro x hx; exact .inl (by simp at hx; subst hx; rfl)
  case nd =>
    have e : ([Str.ofString "state"] : List Str).Nodup := by simp
    exact e
  case main =>
  intro h₁ tk cells F N Y
  k_cells Y
  clear hD hd hcd hR0 hRd hW1 hRA hl0 hl1 hl2 hl3 hshape hc2 M TW TE B G Y
  try dsimp only
  have hB := below_caller s₁.heap
  refine P_execs_cons (wpP_any ?_)
  refine name_cut (Str.ofString "head") (fun v => ∃ n t, v = .int n t) F N ?_ ?_
  · k_fold
    k_steps
    all_goals exact ⟨rfl, _, _, _, rfl, by assumption, by assumption, _, _, rfl⟩
  rintro h2 tk2 v F2 N2 ⟨hv, tv, rfl⟩
  dsimp only
  clear F N
  refine P_execs_cons (wpP_any ?_)
  k_fold
  k_steps
  refine ⟨?_⟩
  rename_i sd _ so lo9 hso l1a xW dW _ _ _ l1b l2b _ _ _ _ _ _ _ _ sR _ _ hsR _ l1c _ _ _ _ kF kN _ _ _ _ nZ FZ NZ
  have hcm := hKN _ (by k_mem : (s₁.heap.objs.size + 1, _) ∈ _)
  have hsm := hKN _ (by k_mem : (sd, _) ∈ _)
  have hWm : WinAt w nZ xW dW sR 0 (fun _ => false) 0 := ⟨_, _, _, _, _, _, hKN _ (by k_mem), hKN _ (by k_mem), hKN _ (by k_mem), hsR⟩
  have q1 := (hLN _ (by k_mem : (sd, _) ∈ _))
  have q2 := (hLN _ (by k_mem : (dW, _) ∈ _))
  have q3 := (hLN _ (by k_mem : (sR, _) ∈ _))
  have hrm := hKN _ (by k_mem : (sR, _) ∈ _)
  clear kF kN hKN hLN
  k_steps
  rename_i tk8 _ _ l1d hst8 _ od8 _ FA NA l1e
  have w1 : @LT.lt Nat _ sd tk8 := l1d _ hsm
  have w2 : @LT.lt Nat _ (s₁.heap.objs.size + 1) tk8 := l1d _ hcm
  have w3 : @LT.lt Nat _ sR tk8 := l1d _ hrm
  have w4 : @LT.lt Nat _ lN tk8 := by
    obtain ⟨_, h9, _⟩ := hQN.has
    exact l1d _ h9
  refine kdn_abs FA NA (.tail _ (.tail _ hsm)) hso rfl (of_decide_eq_true (by first | rfl | kernel_rfl!)) ?_
  intro hA nA oA FB NB hsA hdA hbA
  have up := news_up2 NA
  have hcA := hbA _ (up _ hcm) (by k_ne)
  dsimp only at q1 q2 q3
  have hSA : StAt w nA ⟨sd, xW, dW, sR, qN, dqN, lN, tk8, od8⟩ Pl0 := ⟨⟨_, oA, hsA, hdA⟩, hbA.win (hWm.sub up) (by k_ne) (by k_ne) (by k_ne), hbA.que NA (hQN.sub up) (up _ hsm) (dict_cls hso) (by decide) (by k_ne) (by k_ne) (by k_ne),
    hbA.set ⟨_, .tail _ (.head _), hst8⟩ (by k_ne), hbA.list ⟨[], 0, .head _, .nil⟩ (by k_ne), ⟨by k_ne, by k_ne, by k_ne, by k_ne, by k_ne⟩⟩
  k_steps
  rename_i FC NC
  have hLS : LawS w _ (s₁.heap.objs.size + 1) ⟨sd, xW, dW, sR, qN, dqN, lN, tk8, od8⟩ Pl0 := ⟨hSA.offCell hOffC, hCe, inv0⟩
  generalize (⟨sd, xW, dW, sR, qN, dqN, lN, tk8, od8⟩ : Ad) = a at hLS
  have hm30 : 0 ≤ hv.fmod 30 ∧ hv.fmod 30 < 30 := ⟨Int.fmod_nonneg_of_pos _ (by decide), Int.fmod_lt_of_pos _ (by decide)⟩
  have hm5 : 0 ≤ (hv.fdiv 30).fmod 5000 ∧ (hv.fdiv 30).fmod 5000 < 5000 := ⟨Int.fmod_nonneg_of_pos _ (by decide), Int.fmod_lt_of_pos _ (by decide)⟩
  clear hcA hbA hSA hOffC hCe hsA hdA NB FB up NA FA w1 w2 w3 w4 l1d l1e l1a l1b l1c l2b hWm hQN hcm hsm hrm q1 q2 q3
  refine P_execs_cons (wpP_any ?_)
  k_fold
  refine For_invVF FC rfl rfl ?_
  have hIf : HoldIf := trivial
  k_steps
  rename_i tkr _ _ _ FR NR
  refine ⟨lawR [Str.ofString "turn"] (fun i P => P.ord.length ≤ i ∧ P.g ≤ 5200 ∧ (0 < i → P.ord ≠ [])) rfl (by k_mem) (by omega) (by omega) FR NR hLS.cons ⟨Nat.le_refl _, by decide, fun h => absurd h (Nat.lt_irrefl _)⟩ ?_ ?_⟩
  · rintro i t m₁ P news₁ h tk hi ⟨h1, h2, h3⟩ hLS hk1 hov F₁ N₁
    rw [hov.eq1] at F₁
    dsimp only at F₁
    have hlen : P.ord.length < 200 := by omega
    k_steps
    rename_i F9 N9
    refine (?_ : LEnd _ _ _ _ _ _ _ _ _ _ _)
    exact ⟨_, _, _, _, P9, rfl, F9, N9, hLS, hK9, ⟨by omega, by omega, fun _ => hO9⟩, by (repeat (first | exact Over.self | refine Over.put (by decide +kernel) ?_))⟩
  rintro m₁ P news₁ h tk ⟨h1, h2, h3⟩ hLS hk1 hov F₁ N₁
  rw [hov.eq1] at F₁
  have hP1 : P.ord ≠ [] := h3 (by omega)
  have hP2 : P.ord.length ≤ 69 := by omega
  clear h1 h3 hk1 hov lRng NR FR NC FC
  change wpP (model prg w) _ _ _ _ _
  refine P_execs_cons (wpP_any ?_)
  k_fold
  refine For_invVF F₁ rfl rfl ?_
  have hIf : HoldIf := trivial
  k_steps
  rename_i D' ws _ FD ND lD hID hCD hLD
  have hlw : ws.length ≤ 10 := by
    have := hID.length
    omega
  refine ⟨lawL [Str.ofString "drawn", Str.ofString "kind", Str.ofString "more", Str.ofString "numbers", Str.ofString "number"] (fun i P => P.ord ≠ [] ∧ P.ord.length ≤ 69 + 3 * i ∧ P.g ≤ 5200 + 301 * (i : Int)) rfl (by k_mem)
    (hLS.notHit fun p hp => Nat.ne_of_lt (lD p hp)) FD ND hLS.cons ⟨hP1, hP2, by omega⟩ ?_ ?_⟩
  · rintro i v m₁ P news₁ h tk hv ⟨h1, h2, h3⟩ hLS hk1 hov F₁ N₁
    have hi : i < ws.length := by
      rcases Nat.lt_or_ge i ws.length with q | q
      · exact q
      · rw [List.getElem?_eq_none q] at hv; cases hv
    obtain ⟨dr, td, rfl, _⟩ := hID.at i v hv
    rw [hov.eq] at F₁
    dsimp only [ovr] at F₁
    have hlen : P.ord.length < 200 := by omega
    refine wpAny_execs_cons ?_
    refine two_cut (Str.ofString "more") (Str.ofString "kind") (fun v1 v2 => ∃ (k mo : Int) (t1 t2 : Tok), v1 = .int mo t1 ∧ v2 = .int k t2) F₁ N₁ ?_ ?_
    · k_steps
      rename_i FQ NQ
      exact ⟨rfl, _, _, _, _, rfl, FQ, fun p hp => NQ p (.tail _ hp), _, _, _, _, rfl, rfl⟩
    rintro h4 tk4 v1 v2 F4 N4 ⟨k, mo, t1, t2, rfl, rfl⟩
    dsimp only
    refine wpAny_execs_cons ?_
    refine nameL_cut (Str.ofString "numbers") (fun v nx => ∃ r, v = .ref r ∧ ListS nx r [P.g + 1] ∧ ¬ a.hit r ∧ ∀ p ∈ news₁, p ∈ nx) F4 ?_ ?_
    · k_steps
      rename_i l1 _ FQ NQ
      exact ⟨rfl, _, _, _, _, rfl, FQ, NQ, _, rfl, ⟨_, _, .head _, .cons _ _ .nil⟩, hLS.notHit fun p hp => Nat.ne_of_lt (l1 p hp), fun p hp => .tail _ hp⟩
    rintro h5 tk5 v5 nx5 F5 N5 ⟨r5, rfl, hr5, hh5, hu5⟩
    have hLS := hLS.sub hu5
    have hg0 := hLS.inv.g0
    dsimp only
    refine wpAny_execs_cons ?_
    refine nameL_cut (Str.ofString "numbers") (fun v nx => ∃ r ns', v = .ref r ∧ ListS nx r ns' ∧ ns'.length ≤ 3 ∧ (∀ n ∈ ns', 0 ≤ n ∧ n ≤ P.g + 301) ∧ ¬ a.hit r ∧ ∀ p ∈ nx5, p ∈ nx) F5 ?_ ?_
    · have hm300 : 0 ≤ mo.fmod 300 ∧ mo.fmod 300 < 300 := ⟨Int.fmod_nonneg_of_pos _ (by decide), Int.fmod_lt_of_pos _ (by decide)⟩
      have hm256 : 0 ≤ mo.fmod 256 ∧ mo.fmod 256 < 256 := ⟨Int.fmod_nonneg_of_pos _ (by decide), Int.fmod_lt_of_pos _ (by decide)⟩
      have hm3 : 0 ≤ mo.fmod 3 ∧ mo.fmod 3 < 3 := ⟨Int.fmod_nonneg_of_pos _ (by decide), Int.fmod_lt_of_pos _ (by decide)⟩
      have hol : 0 < P.ord.length := List.length_pos_iff.mpr h1
      have hmo : 0 ≤ mo.fmod (P.ord.length : Int) ∧ mo.fmod (P.ord.length : Int) < (P.ord.length : Int) := ⟨Int.fmod_nonneg_of_pos _ (by omega), Int.fmod_lt_of_pos _ (by omega)⟩
      obtain ⟨on, hon⟩ : ∃ on, P.ord[(mo.fmod (P.ord.length : Int)).toNat]? = some on := ⟨_, List.getElem?_eq_getElem (by omega)⟩
      have hor := hLS.inv.rng on (List.mem_of_getElem? hon)
      by_cases hk4 : k = 4
      · subst hk4
        k_steps
        rename_i hR1 tkR tR kR FR NR
        refine LCg.CompSrc.range rfl FR NR (NR _ (.head _)).1 (small_one (by decide) (by decide) (by omega) (by omega)) (rsize (by omega)) (by rw [sizeLine_eq]; omega) fun g => ?_
        refine comp_rest (fun i ys nx => nx = (rNew, rngO 0 (1 + mo.fmod 3) tR _ kR) :: nx5 ∧ ∃ ns', IntsAre ys ns' ∧ ns'.length = i ∧ ∀ n ∈ ns', 0 ≤ n ∧ n ≤ P.g + 301) ?_ ?_ ⟨rfl, [], .nil, rfl, fun n hn => nomatch hn⟩
        · rintro i ys nx v I oI C oC D m₂ h7 tk7 E' hi ⟨t7, rfl⟩ ⟨rfl, ns', hI7, hl7, hb7⟩ hC7 hx7 F7 N7 off7 ne7
          have hLS := (hLS.cons (y := (rNew, rngO 0 (1 + mo.fmod 3) tR _ kR))).sub (news_up3 N7)
          k_steps
          exact LCg.CompEnd.intro (by assumption) (by assumption) _ (fun p hp => hp) off7 trivial ⟨rfl, _, hI7.append (.cons _ _ .nil), by simp [hl7], fun n hn => by (rcases List.mem_append.mp hn with hn | hn; exact hb7 n hn; have e := List.mem_singleton.mp hn; subst e; omega)⟩
        · rintro ys nx ⟨rfl, ns', hI7, hl7, hb7⟩
          intro D h7 tk7 F7 N7 o7
          dsimp only
          k_steps
          exact ⟨rfl, _, _, _, _, rfl, F7, N7, _, _, rfl, ⟨_, _, .head _, hI7⟩, by omega, hb7, fun hh => by (obtain ⟨ob, hob⟩ := hLS.st.hits hh; exact absurd rfl (off1_mem o7.2 _ hob)), fun p hp => .tail _ (.tail _ hp)⟩
      · k_steps
        all_goals first
          | (exfalso; omega)
          | (rename_i l1 _ FQ NQ
             exact ⟨rfl, _, _, _, _, rfl, FQ, NQ, _, _, rfl, ⟨_, _, .head _, .cons _ _ .nil⟩, by simp, fun n hn => by (have e := List.mem_singleton.mp hn; subst e; (constructor <;> (try split) <;> omega)), hLS.notHit fun p hp => Nat.ne_of_lt (l1 p hp), fun p hp => .tail _ hp⟩)
          | exact ⟨rfl, _, _, _, _, rfl, by rw [map_twice]; exact F5, N5, _, _, rfl, hr5, by simp, fun n hn => by (have e := List.mem_singleton.mp hn; subst e; omega), hh5, fun p hp => hp⟩
    rintro h6 tk6 v6 nx6 F6 N6 ⟨r6, ns6, rfl, hr6, hl6, hb6, hh6, hu6⟩
    have hLS := hLS.sub hu6
    dsimp only
    obtain ⟨vs6, n6, hm6, hI6⟩ := hr6
    refine wpAny_execs_cons ?_
    refine For_invVF F6 rfl rfl ?_
    have hIf : HoldIf := trivial
    k_steps
    refine ⟨lawL [Str.ofString "number"] (fun j P2 => P2.ord ≠ [] ∧ P2.ord.length ≤ P.ord.length + j ∧ P2.g ≤ P.g + 301) rfl hm6 hh6 (by assumption) (by assumption) hLS ⟨h1, Nat.le_refl _, by omega⟩ ?_ ?_⟩
    · rintro j v m₂ P2 nx7 h7 tk7 hv7 ⟨g1, g2, g3⟩ hLS hk7 hov7 F7 N7
      obtain ⟨nn, tn, rfl, hnn⟩ := hI6.at j v hv7
      have hb := hb6 nn (List.mem_of_getElem? hnn)
      have hj : j < ns6.length := by
        rcases Nat.lt_or_ge j ns6.length with q | q
        · exact q
        · rw [List.getElem?_eq_none q] at hnn; cases hnn
      rw [hov7.eq] at F7
      dsimp only [ovr] at F7
      have hlen : P2.ord.length < 200 := by omega
      k_steps
      rename_i F9 N9
      refine (?_ : LEnd _ _ _ _ _ _ _ _ _ _ _)
      exact ⟨_, _, _, _, P9, rfl, F9, N9, hLS, hK9, ⟨hO9, by omega, by omega⟩, by (repeat (first | exact Over.self | refine Over.put (by decide +kernel) ?_))⟩
    · rintro m₂ P2 nx7 h7 tk7 ⟨g1, g2, g3⟩ hLS hk7 hov7 F7 N7
      rw [hov7.eq] at F7
      dsimp only [ovr] at F7
      have hl7 := hI6.length
      k_steps
      refine (?_ : LEnd _ _ _ _ _ _ _ _ _ _ _)
      exact ⟨_, _, _, _, P2, rfl, F7, N7, hLS, fun p hp hh => hk7 p (hu6 p (hu5 p hp)) hh, ⟨g1, by omega, by omega⟩, by (repeat (first | exact Over.self | refine Over.put (by decide +kernel) ?_))⟩
  rintro m₂ P news₂ h tk ⟨h1, h2, h3⟩ hLS hk2 hov F₁ N₁
  rw [hov.eq] at F₁
  dsimp only [ovr] at F₁
  have hP3 : P.ord.length ≤ 99 := by omega
  clear h2 h3 hk2 hov hID hCD hLD lD ND FD
  change wpP (model prg w) _ _ _ _ _
  k_with "call ref" => (k_here; (with_reducible show wpAny _ _ (call (Value.ref 352) _ _) _ _ _); k_dflt (refine' wpAny_call (push_ack rfl ?zzC ?zzd ?zzu hPB hLS.st.q ?zzn hrev hsD ?zzl ?zze ?zz1 ?zz2 ?_); (case zzC => k_extra "ctx"); (case zzd => k_extra "room"); (case zzu => k_extra "room"); (case zzn => exact hdn.2.2); (case zzl => exact hLS.inv.len); (case zze => simp; try omega); (case zz1 => omega); (case zz2 => omega); intro _ _ _ kk _ _ _ hPB2 hPk hk1 hk2 hk3; (have hLS := hLS.keepB (by assumption) hPB hdn hPk); (try dsimp only)))
  k_with "call ref" => (k_here; (with_reducible show wpAny _ _ (call (Value.ref 324) _ _) _ _ _); k_dflt (refine' wpAny_call (rs_len rfl ?zzC ?zzd ?zzu hLS.st.q ?zzn ?_); (case zzC => k_extra "ctx"); (case zzd => k_extra "room"); (case zzu => k_extra "room"); (case zzn => (have := hLS.inv.len; omega)); intro _ _ _ _ _; (try dsimp only); (try (dsimp only [PySem.W.LenBack]; refine ⟨⟨by omega, by (have := hLS.inv.len; omega)⟩, ?_⟩))))
  k_with "getAttr ref" => (k_here; (with_reducible show wpAny _ _ (getAttr (Value.ref _) (Str.ofString "data") _) _ _ _); k_dflt (refine' get_prop ?zzF ?zzX (BufAt.inst hPB2 (by k_asm)) ?zz1 ?zz2 ?zz3 ?zz4 ?zz5 ?zz6 ?_; (case zzF => k_asm); (case zzX => k_asm); (case zz1 => k_is); (case zz2 => k_is); (case zz3 => k_is); (case zz4 => k_is); (case zz5 => k_is); (case zz6 => k_is); (refine' buf_data rfl ?zzC ?zzd ?zzu hPB2 ?zzn ?_); (case zzC => k_extra "ctx"); (case zzd => k_extra "room"); (case zzu => k_extra "room"); (case zzn => exact hIl); intro _ _ _ _ _ _ _ hDv hDk; (have hLS := hLS.sub hDk); (try dsimp only); (try (refine handed_on rfl ?_; try dsimp only))))
  k_with "subscriptTail" => (k_here; (with_reducible show wpAny _ _ (subscriptTail _ _ (Value.ref _) (Value.int _ _)) _ _ _); k_dflt (refine st_olast (by k_asm) (LawS.st (by assumption)) (by omega) (by assumption) ?_); intro _)
  k_with "call ref" => (k_here; (with_reducible show wpAny _ _ (call (Value.ref 296) _ _) _ _ _); k_dflt (refine' wpAny_call (rs_contains rfl ?zzC ?zzd ?zzu hQ2 ?zzn ?_); (case zzC => k_extra "ctx"); (case zzd => k_extra "room"); (case zzu => k_extra "room"); (case zzn => omega); intro _ _ _ _; (try dsimp only); (try rw [hin])))
  obtain ⟨pp, rv, hrev, hsD, hpg⟩ := hLS.inv.sepD h1
  refine P_execs_cons (P_Assign_Name (P_Call_Name ?_))
  k_steps
  refine P_callWith_KW0 (K := Mine.hd.heap_1_39 w.params) (by k_is) (by rfl) ?_
  k_steps
  refine wpP_call ?_
  refine' buf_cap rfl ?qqC ?qqd ?qqu ?qqn0 ?qqn1 ?_
  case qqC => k_extra "ctx"
  case qqd => k_extra "room"
  case qqu => k_extra "room"
  case qqn0 => decide
  case qqn1 => decide
  intro h8 tk8 nx8 bx bd F8 N8 hPB hup hlt
  try dsimp only
  k_steps
  have hdn := hLS.dicts hlt
  have hLS := hLS.sub hup
  refine P_execs_cons (wpP_any ?_)
  k_fold
  have hq64 := hLS.inv.len
  k_steps
  all_goals try (exfalso; omega)
  rename_i FZ NZ
  try dsimp only
  have hkk : kk = P.rs.length := by omega
  refine P_execs_cons (P_Assign_stores (P_Call_Name ?_))
  k_steps
  refine P_callWith_K1 (K := Mine.hd.heap_1_39 w.params) (by k_is) ?_
  refine P_Call_Name ?_
  k_steps
  refine P_callWith_KW0 (K := Mine.hd.heap_1_39 w.params) (by k_is) (by rfl) ?_
  have hrl : P.rs.length = rv.length + 1 := by
    have := congrArg List.length hrev
    rw [List.length_reverse, List.length_cons] at this
    exact this
  have hfl := frame_len pp rv kk
  have hIl : (encs (frameV pp rv kk) ++ (List.replicate (Int.toNat 1040) (0 : Int)).drop (encs (frameV pp rv kk)).length).length < 100000 := by
    rw [List.length_append, List.length_drop, List.length_replicate]
    have : (1040 : Int).toNat = 1040 := rfl
    omega
  k_steps
  try dsimp only
  refine wpP_call ?_
  refine' buf_new rfl ?qqC ?qqd ?qqu ?qqhj ?qqhl ?_
  case qqC => k_extra "ctx"
  case qqd => k_extra "room"
  case qqu => k_extra "room"
  case qqhj => exact hDv.trans (List.take_left' rfl)
  case qqhl => omega
  intro h9 tk9 nx9 b2 d2 F9 N9 hB2 hup2 hlt2
  have hdn2 := hLS.dicts hlt2
  have hLS := hLS.sub hup2
  try dsimp only
  refine ⟨by k_in, ?_⟩
  refine wpP_any (wpAny_call ?_)
  refine' pull_ack rfl ?qqC ?qqd ?qqu hB2 ?qqn (List.append_nil _).symm hsD hk1 ?qqk2 ?qqrv ?_
  case qqC => k_extra "ctx"
  case qqd => k_extra "room"
  case qqu => k_extra "room"
  case qqn => omega
  case qqk2 => omega
  case qqrv => omega
  intro hA tkA nxA T9 q2 dq2 l2 t7 FA NA hT9 hQ2 hkA hltA
  have hLS := hLS.keepB (by assumption) hB2 hdn2 hkA
  rw [show ((pp :: rv).take kk).reverse = P.rs by rw [hkk, hrl, List.take_of_length_le (by simp), ← hrev, List.reverse_reverse]] at hQ2
  clear hdn2 hB2 hup2 hlt2 hkA hPB2 hPk hDv hDk hPB
  try dsimp only
  refine (?_ : wpAny (model prg w) _ (assign (PySem.Expr.Tuple _ 0 _) _ (.ref T9)) _ _ _)
  refine unpackN_ FA NA (News.isTup NA hT9) rfl rfl rfl fun hU FU NU => ?_
  k_steps
  rename_i FB NB
  try clear FU NU FA NA
  try dsimp only
  obtain ⟨ol, hol⟩ : ∃ k, P.ord.getLast? = some k := ⟨_, List.getLast?_eq_some_getLast h1⟩
  have hin := hLS.inv.last ol hol
  refine P_execs_cons (wpP_any ?_)
  k_fold
  k_with "call ref" => (k_here; (with_reducible show wpAny _ _ (call (Value.ref 296) _ _) _ _ _); refine hold_intro ?_)
  k_with "compareOp NotIn" => (k_here; refine hold_intro ?_)
  k_with "compareOp NotIn int ref" => (k_here; refine hold_intro ?_)
  k_steps
  refine ⟨?_⟩
  refine' notIn_K ?qqk1 ?qqk2 ?qqk3 ?qqk4 ?qqk5 ?_
  case qqk1 => k_asm
  case qqk2 => k_asm
  case qqk3 => k_inst
  case qqk4 => k_is
  case qqk5 => k_is
  k_steps
  refine ⟨?_⟩
  refine' wpAny_call (rs_contains rfl ?zzC ?zzd ?zzu hQ2 ?zzn ?_)
  case zzC => k_extra "ctx"
  case zzd => k_extra "room"
  case zzu => k_extra "room"
  case zzn => omega
  intro _ _ _ _
  (try dsimp only)
  (try rw [hin])
  k_steps
  obtain ⟨tq, vq, nq, hq1, hq2, hql, hqR⟩ := id hQ2
  have hnt : P.nt < 200 := by have := hLS.inv.nt; omega
  k_with "compareOp NotIn int ref" => (k_here; k_dflt (refine st_notin (by k_asm) (LawS.st (by assumption)) (by unfold scanBound; omega) (by assumption) ?_))
  refine P_execs_cons (wpP_any ?_)
  k_fold
  refine For_invVF (by assumption) rfl rfl ?_
  have hIf : HoldIf := trivial
  k_steps
  refine ⟨owit_iter (by assumption) (by assumption) (QAt.inst hQ2 (by assumption)) (by k_is) (by k_is) (wpAny_call ?_)⟩
  refine' rs_iter rfl ?qqC ?qqd ?qqu hQ2 ?_
  case qqC => k_extra "ctx"
  case qqd => k_extra "room"
  case qqu => k_extra "room"
  intro h9 tk9 it F9 N9 lt9
  try dsimp only
  refine it_next N9 (.head _) ?_
  refine loopL (fun i m nx => nx = nxA ∧ Over [Str.ofString "r", Str.ofString "number"] m _) rfl hql F9 N9 (fun p hp => Nat.ne_of_lt (lt9 p hp)) ⟨rfl, Over.self⟩ (fun i m nx h => by rw [h.1]; exact hql) ?_ ?_
  · rintro i v m₁ nx h tk o hv ⟨rfl, hov⟩ hd9 hoc F₁ N₁
    obtain ⟨lo, hi, ra, t1, t2, t3, hrs, rfl, hmr0⟩ := hqR.getv hv
    have hpm := List.mem_of_getElem? hrs
    have hbd := hLS.inv.bnd hpm
    have hmr : (ra, rngO lo hi t1 t2 t3) ∈ (it, o) :: nx := .tail _ hmr0
    rw [hov.eq] at F₁
    dsimp only [ovr] at F₁
    k_steps
    rename_i hR tkR kR FR NR
    refine iterR (fun i2 m nx2 => nx2 = (rNew, rngO lo hi _ _ kR) :: (it, o) :: nx ∧ Over [Str.ofString "number"] m _) rfl (.head _) (by omega) (by omega) (by omega) (by omega) FR NR ⟨rfl, Over.self⟩ ?_ ?_
    · rintro i2 t9 m₂ nx2 h2 tk2 it2 o2 hi2 ⟨rfl, hov2⟩ hd2 hoc2 F₂ N₂
      have hSn := hLS.inv.has hpm (n := lo + (i2 : Int)) (by dsimp only; omega) (by dsimp only; omega)
      have hLS := hLS.sub (news_up3 N₂)
      rw [hov2.eq] at F₂
      dsimp only [ovr] at F₂
      k_steps
      exact ⟨_, _, _, _, rfl, F₂, N₂, hd2, rfl, by (repeat (first | exact Over.self | refine Over.put (by decide +kernel) ?_))⟩
    · rintro m₂ nx2 h2 tk2 ⟨rfl, hov2⟩ F₂ N₂
      rw [hov2.eq] at F₂
      dsimp only [ovr] at F₂
      k_with "TurnPost" => (k_here; refine hold_intro ?_)
      k_steps
      refine ⟨?_⟩
      exact ⟨_, _, _, nx, rfl, F₂, fun p hp => N₂ p (.tail _ hp), hd9, rfl, by (repeat (first | exact Over.self | refine Over.put (by decide +kernel) ?_))⟩
  rintro m₁ nx hZ tkZ ⟨rfl, hov⟩ F₁ N₁
  rw [hov.eq] at F₁
  dsimp only [ovr] at F₁
  change wpP (model prg w) _ _ _ _ _
  refine P_execs_cons (wpP_any ?_)
  k_fold
  k_steps
  try dsimp only
  refine P_execs_cons (P_Assign_Name (P_Call_Name ?_))
  k_steps
  refine P_callWith_KW0 (K := Mine.hd.heap_1_39 w.params) (by k_is) (by rfl) ?_
  k_steps
  refine wpP_call ?_
  have hrm0 : 32 ≤ 32 + Int.fmod hv 100 := by have := Int.fmod_nonneg_of_pos hv (b := 100) (by decide); omega
  have hrm1 : 32 + Int.fmod hv 100 < 132 := by have := Int.fmod_lt_of_pos hv (b := 100) (by decide); omega
  refine' buf_cap rfl ?qqC ?qqd ?qqu ?qqn0 ?qqn1 ?_
  case qqC => k_extra "ctx"
  case qqd => k_extra "room"
  case qqu => k_extra "room"
  case qqn0 => omega
  case qqn1 => omega
  intro hS tkS nxS bx2 bd2 FS NS hPB hupS hltS
  try dsimp only
  k_steps
  have hdn := hLS.dicts hltS
  have hLS := hLS.sub hupS
  obtain ⟨odq, hod, _⟩ := hQ2.hasD
  have hnq : @Ne Nat dq2 bd2 := Nat.ne_of_lt (hltS _ hod)
  have hQ2 := hQ2.sub hupS
  clear hod hk1 hk2 hk3 hkk hfl hin hrm0
  have hrm0 : 32 ≤ 32 + Int.fmod hv 100 := by have := Int.fmod_nonneg_of_pos hv (b := 100) (by decide); omega
  k_with "call ref" => (k_here; (with_reducible show wpAny _ _ (call (Value.ref 352) _ _) _ _ _); k_dflt (refine' wpAny_call (push_ack rfl ?zzC ?zzd ?zzu hPB hLS.st.q ?zzn hrev hsD ?zzl ?zze ?zz1 ?zz2 ?_); (case zzC => k_extra "ctx"); (case zzd => k_extra "room"); (case zzu => k_extra "room"); (case zzn => exact hdn.2.2); (case zzl => exact hLS.inv.len); (case zze => simp; try omega); (case zz1 => omega); (case zz2 => omega); intro _ _ _ mm _ _ _ hPB2 hPk hk1 hk2 hk3; (have hLS := hLS.keepB (by assumption) hPB hdn hPk); (have hQ2 := hQ2.keepB (by assumption) hPB hnq hPk); (try dsimp only)))
  refine P_execs_cons (wpP_any ?_)
  k_fold
  k_steps
  try dsimp only
  have hfl := frame_len pp rv mm
  have hIl : (encs (frameV pp rv mm) ++ (List.replicate (Int.toNat (32 + Int.fmod hv 100)) (0 : Int)).drop (encs (frameV pp rv mm)).length).length < 100000 := by
    rw [List.length_append, List.length_drop, List.length_replicate]
    omega
  refine P_execs_cons (P_Assign_Name (P_Subscript (P_Call_Name ?_)))
  k_steps
  refine P_callWith_K1 (K := Mine.hd.heap_1_39 w.params) (by k_is) ?_
  refine P_Call_Name ?_
  k_steps
  refine P_callWith_KW0 (K := Mine.hd.heap_1_39 w.params) (by k_is) (by rfl) ?_
  k_steps
  try dsimp only
  refine wpP_call ?_
  have hQ2 := hQ2.sub hDk
  refine' buf_new rfl ?qqC ?qqd ?qqu ?qqhj ?qqhl ?_
  case qqC => k_extra "ctx"
  case qqd => k_extra "room"
  case qqu => k_extra "room"
  case qqhj => exact hDv.trans (List.take_left' rfl)
  case qqhl => omega
  intro h9 tk9 nx9 b3 d3 F9 N9 hB3 hup3 hlt3
  have hdn3 := hLS.dicts hlt3
  have hLS := hLS.sub hup3
  obtain ⟨odq, hod, _⟩ := hQ2.hasD
  have hnq3 : @Ne Nat dq2 d3 := Nat.ne_of_lt (hlt3 _ hod)
  have hQ2 := hQ2.sub hup3
  try dsimp only
  refine ⟨by k_in, ?_⟩
  refine wpP_any (wpAny_call ?_)
  refine' pull_ack rfl ?qqC ?qqd ?qqu hB3 ?qqn (List.append_nil _).symm hsD hk1 ?qqk2 ?qqrv ?_
  case qqC => k_extra "ctx"
  case qqd => k_extra "room"
  case qqu => k_extra "room"
  case qqn => omega
  case qqk2 => omega
  case qqrv => omega
  intro hA3 tkA3 nxA3 T3 q3 dq3 l3 t73 FA3 NA3 hT3 hQ3 hkA3 hltA3
  have hLS := hLS.keepB (by assumption) hB3 hdn3 hkA3
  have hQ2 := hQ2.keepB (by assumption) hB3 hnq3 hkA3
  clear hdn3 hB3 hup3 hlt3 hkA3 hltA3 hPB2 hPk hDv hDk hPB hdn hnq hnq3 hod hIl hfl
  have hIT := News.isTup NA3 hT3
  try dsimp only
  refine (?_ : wpAny (model prg w) _ (eval _ _) _ _ _)
  k_steps
  try dsimp only
  refine P_execs_cons (wpP_any ?_)
  k_fold
  obtain ⟨tq3, vq3, nq3, hq31, hq32, hql3, hqR3⟩ := id hQ3
  have hl3 : ((pp :: rv).take mm).reverse.length ≤ 64 := by rw [List.length_reverse, List.length_take]; omega
  k_with "newTuple" => (k_here; k_dflt (refine' kup_newTuple ?zzF ?zzN ?_ ?zzz; (case zzF => k_asm); (case zzN => k_asm); (case zzz => kmk_size)); intro _ _ _ _ _)
  k_with "eval ListComp" => (k_here; refine hold_intro ?_)
  k_steps
  all_goals try (exfalso; omega)
  refine ⟨?_⟩
  refine ListComp_Q (by k_asm) (by with_unfolding_all rfl) (by decide) (by rfl) (by decide) (by rfl) ?_
  have hIf : HoldIf := trivial
  k_steps
  refine ⟨owit_iter (by assumption) (by assumption) (QAt.inst hQ3 (by assumption)) (by k_is) (by k_is) (wpAny_call ?_)⟩
  refine' rs_iter rfl ?qqC ?qqd ?qqu hQ3 ?_
  case qqC => k_extra "ctx"
  case qqd => k_extra "room"
  case qqu => k_extra "room"
  intro h10 tk10 it10 F10 N10 lt10
  try dsimp only
  refine it_next N10 (.head _) ?_
  refine pairs_it rfl F10 N10 lt10 hql3 hqR3 hl3 ?_ ?_
  · intro lo hi ra t u k ys nx I oI C oC D m₂ h tk P E' hC hx hmr F₁ N₁ fin
    k_steps
    exact fin _ _ _ _ _ (by assumption) (by assumption) (by assumption)
  · intro D1 ys1 nx1 h11 tk11 hT1 hu1 F11 N11
    have hLS := (hLS.sub hu1).cons (y := (D1, LCg.lst ys1))
    have hQ2 := (hQ2.sub hu1).cons (y := (D1, LCg.lst ys1))
    try dsimp only
    k_steps
    refine ⟨?_⟩
    refine ListComp_Q (by k_asm) (by with_unfolding_all rfl) (by decide) (by rfl) (by decide) (by rfl) ?_
    have hIf : HoldIf := trivial
    k_steps
    have hQ := hLS.st.q
    obtain ⟨tq4, vq4, nq4, hq41, hq42, hql4, hqR4⟩ := id hQ
    refine ⟨owit_iter (by assumption) (by assumption) (QAt.inst hQ (by assumption)) (by k_is) (by k_is) (wpAny_call ?_)⟩
    refine' rs_iter rfl ?qqC ?qqd ?qqu hQ ?_
    case qqC => k_extra "ctx"
    case qqd => k_extra "room"
    case qqu => k_extra "room"
    intro h12 tk12 it12 F12 N12 lt12
    try dsimp only
    refine it_next N12 (.head _) ?_
    refine pairs_it rfl F12 N12 lt12 hql4 hqR4 hLS.inv.len ?_ ?_
    · intro lo hi ra t u k ys nx I oI C oC D m₂ h tk P E' hC hx hmr F₁ N₁ fin
      k_steps
      exact fin _ _ _ _ _ (by assumption) (by assumption) (by assumption)
    · intro D2 ys2 nx2 h13 tk13 hT2 hu2 F13 N13
      have hT1 := hT1.sub fun p hp => hu2 p (.tail _ hp)
      have hD1 := hu2 _ (.head _)
      have hLS := (hLS.sub hu2).cons (y := (D2, LCg.lst ys2))
      have hQ2 := (hQ2.sub hu2).cons (y := (D2, LCg.lst ys2))
      try dsimp only
      k_with "compareOp NotEq ref ref" => (k_here; refine hold_intro ?_)
      k_with "eval Slice" => (k_here; refine hold_intro ?_)
      k_with "subscriptTail" => (k_here; refine hold_intro ?_)
      k_steps
      refine ⟨?_⟩
      refine wpAny_Slice ?_
      k_steps
      refine ⟨?_⟩
      refine slice_tups (k := mm) F13 N13 (.head _) (by omega) (by omega) (by rw [hT2.1]; exact hq64) (by with_unfolding_all rfl) ?_
      intro D3 h14 F14 N14
      rw [hT2.1] at N14
      rw [tail_drop hrev] at hT1
      have hLS := hLS.cons (y := (D3, listOf (ys2.drop (P.rs.length - mm)).toArray 0))
      have hQ2 := hQ2.cons (y := (D3, listOf (ys2.drop (P.rs.length - mm)).toArray 0))
      try dsimp only
      k_steps
      refine ⟨?_⟩
      refine tups_ne N14 (.tail _ (.tail _ hD1)) (.head _) (hT1.sub fun p hp => .tail _ (.tail _ hp)) ((hT2.drop _).sub fun p hp => .tail _ (.tail _ hp)) (by k_extra "room") ?_
      k_steps
      refine P_execs_cons (wpP_any ?_)
      k_fold
      k_with "compareOp Eq ref ref" => (k_here; refine hold_intro ?_)
      k_with "compareOp Eq ref" => (k_here; refine hold_intro ?_)
      k_steps
      refine ⟨?_⟩
      refine st_item (by k_asm) hLS.st (by rfl) ?_
      k_steps
      refine ⟨?_⟩
      refine cmp_ofEq ?_
      refine' cmp_K ?qqk1 ?qqk2 ?qqk3 ?qqk4 ?qqk5 ?qqk6 ?qqk7 ?qqk8 ?_
      case qqk1 => k_units
      case qqk2 => k_asm
      case qqk3 => k_asm
      case qqk4 => exact QAt.inst hQ2 (by k_asm)
      case qqk5 => exact (QAt.inst hLS.st.q (by k_asm)).type
      case qqk6 => k_is
      case qqk7 => k_is
      case qqk8 => k_is
      refine wpAny_call ?_
      refine' rs_eq rfl ?qqC ?qqd ?qqu hQ2 hLS.st.q ?_
      case qqC => k_extra "ctx"
      case qqd => k_extra "room"
      case qqu => k_extra "room"
      intro hE tkE FE NE
      refine (?_ : PySem.W.CmpBack _ (.bool true) _)
      dsimp only [PySem.W.CmpBack]
      k_steps
      exact ret _ _ _ _ FE
end Mine
end
theorem PySem.Challenge.cw_ay0001_01_holds : PySem.Challenge.rw_ay0001_01.Holds :=
  Mine.hd
