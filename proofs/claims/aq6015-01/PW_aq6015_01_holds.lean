import PyProof.Rows.All
import Wide.All
import OpenK.AllK
import Wide.FinOn
import PySem.Challenge.RW_aq6015_01
set_option Elab.async false
set_option rowWalk.seconds 0
theorem Mine.resetAqGa : True := by
  w_top off
  first | walk1 | exact trivial
section
open PySem PySem.W PySem.Spec PySem.Calls PyProof.Rows
set_option Elab.async false
set_option maxRecDepth 100000
namespace Mine
theorem ba_mro : mroOf (.type "bytearray") = pure [.type "bytearray", .type "object"] := by rw [mroOf_type]; kernel_rfl
theorem ba_lookup_new : typeLookup (.type "bytearray") "__new__" = pure (some (.builtin "bytearray.__new__")) := by rw [typeLookup_type, builtinLookup_eq_fast]; kernel_rfl
theorem ba_slot_init : Slot "bytearray" "__init__" "bytearray.__init__" :=
  .of (owner := "bytearray") (n := "__init__") (by rw [typeLookup_type, builtinLookup_eq_fast]; kernel_rfl) (by decide +kernel) (by decide +kernel) (by decide +kernel)
    (by first | exact .inl (by decide +kernel) | exact .inr (by decide +kernel)) (by rw [isSubtype_type]; kernel_rfl)
theorem ba_called : TypeCalled "bytearray" "bytearray.__new__" "bytearray.__init__" :=
  ⟨by decide +kernel, by decide +kernel, ⟨_, _, ba_mro⟩, madeBy_type ba_mro ba_lookup_new (by decide +kernel), by decide +kernel, by rw [isSubtype_type]; kernel_rfl, ba_slot_init⟩
theorem ba_typeCall (a : Value) : checkTypeCall "bytearray" ⟨[a], []⟩ = pure () := by kernel_rfl
theorem ba_newCall (a : Value) : checkBuiltinCall "bytearray.__new__" ⟨[.type "bytearray", a], []⟩ = pure () := by kernel_rfl
theorem ba_entry_new : entryFor table "bytearray.__new__" = some Builtin.«list.__new__» :=
  entryFor_alias (id' := "list.__new__") (by rw [fastTable_eq_tree]; kernel_rfl) (by kernel_rfl) (by decide +kernel) (by rw [fastTable_eq_tree]; kernel_rfl)
theorem ba_entry_init : entryFor table "bytearray.__init__" = some Builtin.«bytearray.__init__» := entryFor_of_tree (by kernel_rfl)
theorem ba_plain_new : plainId "bytearray.__new__" = true := by decide +kernel
set_option maxRecDepth 1000000 in
set_option maxHeartbeats 4000000 in
theorem ba_owner : ("bytearray.__new__".splitOn ".__new__").headD "" = "bytearray" := by simp +decide [String.splitOn, String.splitOnAux]
theorem ba_self : isSubtype (.type "bytearray") (.type "bytearray") = pure true := by rw [isSubtype_type]; kernel_rfl
theorem ba_args (a b : Value) : argsOk "bytearray.__init__" ⟨[a, b], []⟩ := by
  unfold argsOk; rw [signature?_of (id := "bytearray.__init__") (n := ['_', '_', 't', 'i', 'n', 'i', '_', '_']) (o := ['y', 'a', 'r', 'r', 'a', 'e', 't', 'y', 'b']) (by kernel_rfl) (show _ = some Manifest.sig_bytearray by kernel_rfl)]; kernel_rfl
section
variable {prog : Program} {w : World} {A : Around} {E : Value → Shared → Prop} {s : Shared}
theorem ba_code_new (a : Value) {Q₁ : Value → Shared → Prop}
    (h : Q₁ (.ref s.heap.objs.size) { s with heap := s.heap.push { cls := .type "bytearray", data := .bytearray #[] } }) :
    codeAny (model prog w) A (.call (.builtin "bytearray.__new__") ⟨[.type "bytearray", a], []⟩) (wants Q₁ E) s := by
  refine codeAny_of_tree ?_
  show wpAny _ A.in1 (do checkBuiltinCall "bytearray.__new__" ⟨[.type "bytearray", a], []⟩; again (.builtin "bytearray.__new__" ⟨[.type "bytearray", a], []⟩)) _ _ s
  refine wpAny_bind (wpAny_of_eq (ba_newCall a) (wpAny_pure ⟨plainId_quiet ba_plain_new _, codeAny_builtin_stack ba_entry_new rfl fun p st => ?_⟩))
  rw [Around.under_plainId ba_plain_new _]
  have hsub := ba_self
  have hown := ba_owner
  obtain ⟨hp, g, d, tk, os⟩ := s
  simp only [hown]
  wp_walk
  exact h
end
end Mine
namespace Mine
/-- a decoder's frame, as the question after exported octets names them -/
def decC : Code → Bool
  | .builtin "bytearray.__contains__" _ => true
  | .builtin "bytearray.__mod__" _ => true
  | .builtin "bytearray.__rmod__" _ => true
  | .builtin "_struct.pack_into.held" _ => true
  | .builtin "bytearray.find.held" _ => true
  | .builtin id _ => Builtin.Bytes.decodersThatHold.contains id
  | _ => false
/-- no frame of these holds octets -/
def QuietL (l : List (Code × Pos)) : Prop := ∀ x ∈ l, decC x.1 = false
/-- as wpAny, over the contexts in which no frame holds octets -/
def wpG {α : Type} (M : Model) (A : Around) (t : Sem α) (Q : α → Shared → Prop) (E : Value → Shared → Prop) (s : Shared) : Prop :=
  ∀ (Γ : PySem.Ctx) (p : Pos), Γ.In A → decC Γ.code = false → QuietL Γ.below → Sem.wp M Γ t (fun a _ s' => Q a s') (fun e _ s' => E e s') p s
def codeG (M : Model) (A : Around) (c : Code) (R : Result → Shared → Prop) (s : Shared) : Prop :=
  ∀ (Γ : PySem.Ctx) (p : Pos), Γ.code = c → Γ.Below A → QuietL Γ.below → wpCode M Γ R p s
namespace G
section
variable {α β : Type} {M : Model} {A : Around} {E : Value → Shared → Prop} {s : Shared}
theorem any {t : Sem α} {Q : α → Shared → Prop} (h : wpAny M A t Q E s) : wpG M A t Q E s := fun Γ p hΓ _ _ => h Γ p hΓ
theorem code_any {c : Code} {R : Result → Shared → Prop} (h : codeAny M A c R s) : codeG M A c R s := fun Γ p hc hΓ _ => h Γ p hc hΓ
theorem pure {a : α} {Q : α → Shared → Prop} (h : Q a s) : wpG M A (pure a) Q E s := any (wpAny_pure h)
theorem mono {t : Sem α} {Q Q' : α → Shared → Prop} {E' : Value → Shared → Prop} (h : wpG M A t Q E s) (hQ : ∀ a s, Q a s → Q' a s) (hE : ∀ e s, E e s → E' e s) : wpG M A t Q' E' s :=
  fun Γ p hΓ hd hg => Sem.wp_mono M Γ t (fun a _ s => hQ a s) (fun e _ s => hE e s) p s (h Γ p hΓ hd hg)
theorem bind {m : Sem α} {f : α → Sem β} {Q : β → Shared → Prop} (h : wpG M A m (fun a s' => wpG M A (f a) Q E s') E s) : wpG M A (m >>= f) Q E s := fun Γ p hΓ hd hg => by
  rw [Sem.wp_bind']
  exact Sem.wp_mono M Γ m (fun a p' s' h' => h' Γ p' hΓ hd hg) (fun _ _ _ h' => h') p s (h Γ p hΓ hd hg)
theorem map {m : Sem α} {f : α → β} {Q : β → Shared → Prop} (h : wpG M A m (fun a s' => Q (f a) s') E s) : wpG M A (f <$> m) Q E s := fun Γ p hΓ hd hg => by
  rw [Sem.wp_map]; exact h Γ p hΓ hd hg
theorem hold {vs : List Value} {m : Sem α} {Q : α → Shared → Prop} (h : wpG M A m Q E s) : wpG M A (holding vs m) Q E s := fun Γ p hΓ hd hg => by
  rw [Sem.wp_holding]; exact h Γ p hΓ hd hg
theorem keep {vs : List Value} {m : Sem α} {Q : α → Shared → Prop} (h : wpG M A m Q E s) : wpG M A (m.keep vs) Q E s := fun Γ p hΓ hd hg => by
  rw [Sem.wp_keep]; exact h Γ p hΓ hd hg
theorem onRaise {m : Sem α} {k : Value → Sem Unit} {Q : α → Shared → Prop} (h : wpG M A m Q (fun e s' => wpG M A (k e) (fun _ s'' => E e s'') E s') s) : wpG M A (m.onRaise k) Q E s := fun Γ p hΓ hd hg => by
  rw [Sem.wp_onRaise]
  exact Sem.wp_mono M Γ m (fun _ _ _ h' => h') (fun e p' s' h' => h' Γ p' hΓ hd hg) p s (h Γ p hΓ hd hg)
theorem code_mono {c : Code} {R R' : Result → Shared → Prop} (h : codeG M A c R s) (hR : ∀ r s, R r s → R' r s) : codeG M A c R' s := fun Γ p hc hΓ hg => wpCode_mono hR (h Γ p hc hΓ hg)
theorem good_cons {Γ : PySem.Ctx} {p : Pos} (hd : decC Γ.code = false) (hg : QuietL Γ.below) : QuietL ((Γ.code, p) :: Γ.below) := by
  intro x hx
  rcases List.mem_cons.mp hx with rfl | hx
  · exact hd
  · exact hg x hx
theorem call {f : Value} {ps : List Value} {kw : List (Str × Value)} {Q : Value → Shared → Prop}
    (hc : codeG M A (.call f ⟨ps, kw⟩) (fun r s' => match r with | .ok (.ret v) => Q v s' | .ok _ => False | .error e => E e s') s) : wpG M A (PySem.call f ps kw) Q E s := fun Γ p hΓ hd hg => by
  show Sem.wp M Γ (runValue (.call f ⟨ps, kw⟩)) _ _ p s
  rw [Sem.wp_runValue]
  exact hc _ p rfl (hΓ.enter _ none p (by intro x; cases x)) (good_cons hd hg)
theorem of_tree {c : Code} {R : Result → Shared → Prop} (hd : decC c = false)
    (h : wpG M (A.under c) (M.den c) (fun fin s' => match fin with | .done f => R (.ok f) s' | .again c' => c'.quiet = true ∧ codeG M A c' R s') (fun e s' => R (.error e) s') s) : codeG M A c R s := fun Γ p hc hΓ hg => by
  rw [wpCode_iff_wp, hc]
  refine Sem.wp_mono M Γ _ (fun fin p' s' h' => ?_) (fun _ _ _ h' => h') p s (h Γ p (hc ▸ hΓ.in) (by rw [hc]; exact hd) hg)
  cases fin with
  | done f => exact h'
  | again c' => exact ⟨h'.1, h'.2 (Γ.goto c') p' rfl (hΓ.goto c') hg⟩
/-- no frame holds octets: the question after them is answered no -/
theorem exported {v : Value} {Q : Bool → Shared → Prop} (h : Q false s) : wpG M A (Builtin.Bytes.exported v) Q E s := fun Γ p _ hd hg => by
  have key : ∀ l : List (Code × Pos), QuietL l → (l.any fun
    | (.builtin "bytearray.__contains__" ⟨v' :: _, _⟩, _) | (.builtin "bytearray.__mod__" ⟨v' :: _, _⟩, _)
    | (.builtin "bytearray.__rmod__" ⟨_ :: v' :: _, _⟩, _) | (.builtin "_struct.pack_into.held" ⟨v' :: _, _⟩, _) => Builtin.Bytes.sameRef v' v
    | (.builtin "bytearray.find.held" ⟨_ :: _ :: held, _⟩, _) => held.any (Builtin.Bytes.sameRef v)
    | (.builtin id ⟨v' :: _, _⟩, _) => Builtin.Bytes.sameRef v' v && Builtin.Bytes.decodersThatHold.contains id
    | _ => false) = false := by
    intro l hl
    refine List.any_eq_false.mpr fun x hx => ?_
    have hd := hl x hx
    obtain ⟨c, q⟩ := x
    revert hd
    unfold decC
    split <;> split <;> simp_all
  have hs : ∀ b : Bool, b = false → Q b s := fun b hb => by rw [hb]; exact h
  exact hs _ (key _ (good_cons (p := p) hd hg))
end
end G
end Mine
namespace Mine
theorem ba_look_release : typeLookup (.type "bytearray") "__release_buffer__" = pure (some (.builtin "bytearray.__release_buffer__")) := by rw [typeLookup_type, builtinLookup_eq_fast]; kernel_rfl
theorem bytes_no_index : typeLookup (.type "bytes") "__index__" = pure none := by rw [typeLookup_type, builtinLookup_eq_fast]; kernel_rfl
theorem ba_buffer {b : Array UInt8} {t : Tok} : Builtin.Bytes.buffer? "bytearray.__init__" (.bytes b t) (full := true) = pure (some b) := by
  unfold Builtin.Bytes.buffer?
  rw [KBy.special_eq KBy.look_buffer, KBy.own_buffer, KBy.own_release]
  kernel_rfl
theorem ba_bind {v : Value} : Builtin.Bytes.bindOptional "bytearray.__init__" "bytearray" ["source", "encoding", "errors"] [v] [] = pure [some v, none, none] := by kernel_rfl
theorem dec_type_call (a : Args) : decC (.builtin "type.__call__" a) = false := by kernel_rfl
theorem dec_init (a : Args) : decC (.builtin "bytearray.__init__" a) = false := by kernel_rfl
section
variable {prog : Program} {w : World} {A : Around} {E : Value → Shared → Prop} {s : Shared} {S : Addr}
theorem G.builtin {id : String} {args : Args} {b : Builtin} {R : Result → Shared → Prop} (hd : decC (.builtin id args) = false) (hb : entryFor table id = some b)
    (h : wpG (model prog w) (A.under (.builtin id args)) (b args) (fun fin s' => match fin with | .done f => R (.ok f) s' | .again c' => c'.quiet = true ∧ codeG (model prog w) A c' R s') (fun e s' => R (.error e) s') s) : codeG (model prog w) A (.builtin id args) R s := by
  refine G.of_tree hd ?_
  show wpG _ _ (match entryFor table id with | some b => b args | none => unsupported ((withoutEnding? id "#data").getD id)) _ _ s
  rw [hb]; exact h
theorem ba_ownRelease {Q : Bool → Shared → Prop} (hT : s.TypeIs (.ref S) "bytearray") (h : Q false s) : wpAny (model prog w) A (Builtin.Bytes.ownRelease (.ref S)) Q E s := by
  unfold Builtin.Bytes.ownRelease Builtin.Bytes.slotIsOwn
  refine wpAny_bind (wpAny_bind (wpAny_specialOf hT ba_look_release ?_))
  show wpAny _ _ (if (!("bytearray.__release_buffer__".endsWith ("." ++ "__release_buffer__"))) = true then _ else _) _ _ _
  rw [if_neg (by decide +kernel)]
  show wpAny _ _ (isInstance (.ref S) (.type ("bytearray.__release_buffer__".dropRight ("__release_buffer__".length + 1)))) _ _ _
  have e : ("bytearray.__release_buffer__".dropRight ("__release_buffer__".length + 1) : String) = "bytearray" := by decide +kernel
  rw [e]
  exact wpAny_isInstance hT ba_self (wpAny_pure h)
theorem ba_write {f : Array UInt8 → Array UInt8} {b : Array UInt8} {n : Nat} {o : Obj} {Q : Unit → Shared → Prop} (ho : s.heap.get? S = some o) (hd : o.data = .bytearray b n) (hz : (f b).size ≤ sizeLine)
    (h : Q () { s with heap := s.heap.update S (Obj.mapBytearray f) }) : wpAny (model prog w) A (Builtin.Bytes.write (.ref S) f) Q E s := by
  show wpAny _ _ (updateBytearray S f) _ _ _
  unfold updateBytearray
  refine wpAny_bind (wpAny_load ho ?_)
  rw [hd]
  refine wpAny_bind (wpAny_update ho ?_)
  have hfree : o.isFreed = false := by
    obtain ⟨c, d, dt, sl⟩ := o
    subst hd
    rfl
  refine wpAny_lookBehind (Heap.get?_update_self _ ho (by obtain ⟨c, d, dt, sl⟩ := o; subst hd; rfl)) ?_ h
  obtain ⟨c, d, dt, sl⟩ := o
  subst hd
  show (Data.bytearray (f b) n).pastItsLine = none
  unfold Data.pastItsLine
  exact if_neg (Nat.not_lt.mpr hz)
theorem G.call_builtin {id : String} {args : Args} {R : Result → Shared → Prop} (hq : (Code.builtin id args).quiet = true)
    (h : wpG (model prog w) A.in1 (checkBuiltinCall id args) (fun _ s₁ => codeG (model prog w) A (.builtin id args) R s₁) (fun e s' => R (.error e) s') s) : codeG (model prog w) A (.call (.builtin id) args) R s := by
  refine G.of_tree rfl ?_
  show wpG _ A.in1 (do checkBuiltinCall id args; again (.builtin id args)) _ _ s
  exact G.bind (G.mono h (fun _ s₁ h₁ => G.pure (And.intro hq h₁)) fun _ _ h' => h')
theorem ba_init {A' : Around} {x : Array UInt8} {u : Tok} {R : Result → Shared → Prop} {o : Obj} (ho : s.heap.get? S = some o) (hc : o.cls = .type "bytearray") (hd : o.data = .bytearray #[]) (hx : x.size ≤ 1000)
    (h : R (.ok (.ret .none)) { s with heap := (s.heap.update S (Obj.mapBytearray fun _ => #[])).update S (Obj.mapBytearray fun _ => x) }) :
    wpG (model prog w) A (Builtin.«bytearray.__init__» ⟨[.ref S, .bytes x u], []⟩)
      (fun fin s' => match fin with | .done f => R (.ok f) s' | .again c' => c'.quiet = true ∧ codeG (model prog w) A' c' R s') (fun e s' => R (.error e) s') s := by
  have hT : s.TypeIs (.ref S) "bytearray" := ⟨o, ho, hc⟩
  unfold Builtin.«bytearray.__init__»
  show wpG _ A (Builtin.Bytes.ownRelease (.ref S) >>= _) _ _ s
  refine G.bind (G.any (ba_ownRelease hT ?_))
  show wpG _ A (Builtin.Bytes.bindOptional "bytearray.__init__" "bytearray" ["source", "encoding", "errors"] [.bytes x u] [] >>= _) _ _ s
  rw [ba_bind]
  refine G.bind (G.pure ?_)
  show wpG _ A (Builtin.Bytes.checkCodecArg "bytearray.__init__" "bytearray" "encoding" none >>= _) _ _ s
  refine G.bind (G.any (wpAny_pure ?_))
  show wpG _ A (Builtin.Bytes.checkCodecArg "bytearray.__init__" "bytearray" "errors" none >>= _) _ _ s
  refine G.bind (G.any (wpAny_pure ?_))
  show wpG _ A ((Builtin.Bytes.exported (.ref S) <||> (do return (← Builtin.Bytes.exportsOf (.ref S)) > 0)) >>= _) _ _ s
  refine G.bind ?_
  unfold orM
  refine G.bind (G.exported ?_)
  show wpG _ A (Builtin.Bytes.exportsOf (.ref S) >>= _) _ _ s
  refine G.bind ?_
  show wpG _ A (load S >>= _) _ _ s
  refine G.bind (G.any (wpAny_load ho ?_))
  rw [hd]
  refine G.pure (G.pure ?_)
  show wpG _ A (Builtin.Bytes.write (.ref S) (fun _ => #[]) >>= _) _ _ s
  refine G.bind (G.any (ba_write ho hd (by decide) ?_))
  have ho2 := Heap.get?_update_self (Obj.mapBytearray fun _ => (#[] : Array UInt8)) ho (by obtain ⟨c, d, dt, sl⟩ := o; simp only at hd; subst hd; rfl)
  have hd2 : (Obj.mapBytearray (fun _ => (#[] : Array UInt8)) o).data = .bytearray #[] 0 := by obtain ⟨c, d, dt, sl⟩ := o; simp only at hd; subst hd; rfl
  have e1 : asStr? (.bytes x u) = Pure.pure none := by rfl
  show wpG _ A (asStr? (.bytes x u) >>= _) _ _ _
  rw [e1]
  refine G.bind (G.pure ?_)
  refine G.bind (G.any (wpAny_pure ?_))
  show wpG _ A (specialOf (.bytes x u) "__index__" >>= _) _ _ _
  rw [KBy.special_eq bytes_no_index]
  refine G.bind (G.pure ?_)
  show wpG _ A (Builtin.Bytes.buffer? "bytearray.__init__" (.bytes x u) (full := true) >>= _) _ _ _
  rw [ba_buffer]
  refine G.bind (G.pure ?_)
  show wpG _ A (rule "bytearray.__init__.bytes-like" >>= _) _ _ _
  refine G.bind (G.any (wpAny_rule ?_))
  show wpG _ A (Builtin.Bytes.write (.ref S) (fun _ => x) >>= _) _ _ _
  refine G.bind (G.any (ba_write ho2 hd2 (by rw [sizeLine_eq]; omega) ?_))
  exact fun _ _ _ _ _ => h
theorem ba_code_init {x : Array UInt8} {u : Tok} {R : Result → Shared → Prop} {o : Obj} (ho : s.heap.get? S = some o) (hc : o.cls = .type "bytearray") (hd : o.data = .bytearray #[]) (hx : x.size ≤ 1000)
    (h : R (.ok (.ret .none)) { s with heap := (s.heap.update S (Obj.mapBytearray fun _ => #[])).update S (Obj.mapBytearray fun _ => x) }) :
    codeG (model prog w) A (.call (.builtin "bytearray.__init__") ⟨[.ref S, .bytes x u], []⟩) R s := by
  have hT : s.TypeIs (.ref S) "bytearray" := ⟨o, ho, hc⟩
  refine G.call_builtin (Code.quiet_builtin _ (by decide +kernel)) ?_
  refine G.any (ba_slot_init.check _ _ _ _ _ _ _ _ hT (ba_args _ _) ?_)
  refine G.builtin (dec_init _) ba_entry_init ?_
  rw [Around.under_plainId ba_slot_init.plain _]
  exact ba_init (R := R) ho hc hd hx h
theorem ba_type_call {x : Array UInt8} {u : Tok} {R : Result → Shared → Prop} (hx : x.size ≤ 1000)
    (h : R (.ok (.ret (.ref s.heap.objs.size))) { s with heap := ((s.heap.push { cls := .type "bytearray", data := .bytearray #[] }).update s.heap.objs.size (Obj.mapBytearray fun _ => #[])).update s.heap.objs.size (Obj.mapBytearray fun _ => x) }) :
    codeG (model prog w) A (.builtin "type.__call__" ⟨[.type "bytearray", .bytes x u], []⟩) R s := by
  refine G.builtin (dec_type_call _) F.entry_type_call ?_
  rw [Around.under_plain (weight_type_call_type "bytearray" [.bytes x u] []) (units_type_call_type "bytearray" [.bytes x u] [])]
  have h1 := ba_called.notType
  have h2 := ba_called.canCreate
  have h3 := ba_called.made
  unfold Builtin.«type.__call__»
  simp only [h1, h2, h3, ba_mro, ba_typeCall, pure_bind, Bool.false_eq_true, if_false, List.isEmpty_cons]
  refine G.bind (G.hold (G.any (wpAny_call (codeAny_mono (ba_code_new (.bytes x u) (E := fun e s' => R (.error e) s') (Q₁ := fun obj s₁ => obj = .ref s.heap.objs.size ∧ s₁ = { s with heap := s.heap.push { cls := .type "bytearray", data := .bytearray #[] } }) ⟨rfl, rfl⟩) fun r s₁ hr => ?_))))
  cases r with
  | error e => exact hr
  | ok fl =>
    cases fl with
    | ret obj =>
      obtain ⟨rfl, rfl⟩ := hr
      have ho : (s.heap.push { cls := .type "bytearray", data := .bytearray #[] }).get? s.heap.objs.size = some { cls := .type "bytearray", data := .bytearray #[] } := Heap.get?_push_size _ rfl
      have hT : ({ s with heap := s.heap.push { cls := .type "bytearray", data := .bytearray #[] } } : Shared).TypeIs (.ref s.heap.objs.size) "bytearray" := ⟨_, ho, rfl⟩
      refine G.bind (G.any (wpAny_isInstance hT ba_self ?_))
      show wpG _ _ (holding [.ref s.heap.objs.size] (callSpecial? (.ref s.heap.objs.size) (Str.ofString "__init__") [.bytes x u]) >>= _) _ _ _
      refine G.bind (G.hold ?_)
      unfold callSpecial?
      refine G.bind (G.any (wpAny_specialOf hT ba_slot_init.lookup ?_))
      refine G.hold ?_
      rw [ba_slot_init.bind]
      refine G.bind (G.pure ?_)
      refine G.bind ?_
      refine G.call ?_
      refine ba_code_init (s := { s with heap := s.heap.push { cls := .type "bytearray", data := .bytearray #[] } }) (S := s.heap.objs.size) (o := { cls := .type "bytearray", data := .bytearray #[] }) ho rfl rfl hx ?_
      show wpG _ _ (Pure.pure (some Value.none)) _ _ _
      refine G.pure ?_
      show wpG _ _ (if (Value.none != Value.none) = true then _ else ret _) _ _ _
      rw [if_neg (by decide)]
      exact G.pure h
    | _ => exact hr.elim
theorem ba_call_type {x : Array UInt8} {u : Tok} {Q : Value → Shared → Prop} (hx : x.size ≤ 1000)
    (h : Q (.ref s.heap.objs.size) { s with heap := ((s.heap.push { cls := .type "bytearray", data := .bytearray #[] }).update s.heap.objs.size (Obj.mapBytearray fun _ => #[])).update s.heap.objs.size (Obj.mapBytearray fun _ => x) }) :
    wpG (model prog w) A (call (.type "bytearray") [.bytes x u]) Q E s := by
  refine G.call (G.of_tree rfl ?_)
  show wpG _ _ (callAny (.type "bytearray") _) _ _ _
  exact G.pure ⟨Code.quiet_builtin _ (by decide +kernel), ba_type_call hx h⟩
end
end Mine
namespace Mine
namespace G
section
variable {M : Model} {A : Around} {E : Value → Shared → Prop} {s : Shared} {env : Env}
theorem execs_cons {st : Stmt} {rest : List Stmt} {Q : Flow → Shared → Prop} (h : wpG M A (exec st env) (fun f s' => match f with | .next => wpG M A (execs rest env) Q E s' | f => Q f s') E s) : wpG M A (execs (st :: rest) env) Q E s := by
  rw [PySem.execs_cons]
  refine G.bind (G.mono h (fun f s' h' => ?_) fun _ _ x => x)
  cases f <;> first | exact h' | exact G.pure h'
theorem If {test : Expr} {body orelse : List Stmt} {pos : Pos} {Q : Flow → Shared → Prop} (h : wpG M A (isTrue test env (eval test env)) (fun b s₂ => if b then wpG M A (execs body env) Q E s₂ else wpG M A (execs orelse env) Q E s₂) E s) : wpG M A (exec (.If test body orelse pos) env) Q E s := fun Γ p hΓ hd hg => by
  simp only [exec_If, Sem.wp_bind', Sem.wp_cmd_standAt]
  refine Sem.wp_mono M Γ _ (fun b p₂ s₂ h₂ => ?_) (fun _ _ _ h' => h') _ _ (h Γ _ hΓ hd hg)
  cases b <;> exact h₂ Γ p₂ hΓ hd hg
theorem or_cons {x : Expr} {rest : List Expr} {Q : Bool → Shared → Prop} (h : wpG M A (isTrue x env (eval x env)) (fun b s₁ => if b then Q true s₁ else wpG M A (allTrue .Or rest env) Q E s₁) E s) : wpG M A (allTrue .Or (x :: rest) env) Q E s := by
  show wpG M A (do match BoolOp.Or, ← isTrue x env (eval x env) with | .And, false => Pure.pure false | .Or, true => Pure.pure true | _, _ => allTrue .Or rest env) Q E s
  refine G.bind (G.mono h (fun b s₁ h₁ => ?_) fun _ _ x => x)
  cases b with
  | true => exact G.pure h₁
  | false => exact h₁
theorem or_nil {Q : Bool → Shared → Prop} (h : Q false s) : wpG M A (allTrue .Or [] env) Q E s := G.pure h
theorem isTrue_BoolOp {op : BoolOp} {values : List Expr} {pos : Pos} {whole : Sem Value} {Q : Bool → Shared → Prop} (h : wpG M A (allTrue op values env) Q E s) : wpG M A (isTrue (.BoolOp op values pos) env whole) Q E s := by rw [arm_isTrue_BoolOp]; exact h
theorem isTrue_value {e : Expr} {whole : Sem Value} {Q : Bool → Shared → Prop} (h : wpG M A whole (fun v s₁ => wpG M A (truthy v) Q E s₁) E s)
    (he : isTrue e env whole = (do let v ← whole; standAt e.pos; holding [v] (truthy v)) := by rfl) : wpG M A (isTrue e env whole) Q E s := by
  rw [he]
  exact G.bind (G.mono h (fun v s₁ h₁ => G.bind (G.any (wpAny_standAt (Q := fun _ s' => wpG M A (holding [v] (truthy v)) Q E s') (G.hold h₁)))) fun _ _ x => x)
theorem spl_nil {Q : List Value → Shared → Prop} (h : Q [] s) : wpG M A (spliced []) Q E s := G.pure h
theorem spl_cons {x : Sem Value} {rest : List (Bool × Sem Value)} {Q : List Value → Shared → Prop} (h : wpG M A x (fun v s₁ => wpG M A (spliced rest) (fun vs s₂ => Q (v :: vs) s₂) E s₁) E s) : wpG M A (spliced ((false, x) :: rest)) Q E s := by
  rw [spliced]
  refine G.bind (G.mono h (fun v s₁ h₁ => ?_) fun _ _ x => x)
  simp only [Bool.false_eq_true, if_false]
  exact G.bind (G.pure (G.bind (G.hold (G.mono h₁ (fun vs s₂ h₂ => G.pure h₂) fun _ _ x => x))))
theorem args {f : Value} {x : Sem Value} {rest : List (Bool × Sem Value)} {Q : Args → Shared → Prop} (h : wpG M A (spliced ((false, x) :: rest)) (fun vs s' => Q ⟨vs, []⟩ s') E s) : wpG M A (evalArgs f true ((false, x) :: rest) []) Q E s := by
  unfold evalArgs
  show wpG M A (spliced ((false, x) :: rest) >>= _) Q E s
  refine G.bind (G.mono h (fun vs s' h' => ?_) fun _ _ x => x)
  refine G.hold ?_
  exact G.bind (G.pure (G.bind (G.pure (G.pure h'))))
/-- a call of a def by its name, with two arguments -/
theorem call2 {func e1 e2 : Expr} {pos : Pos} {a : Addr} {Q : Value → Shared → Prop}
    (h : wpG M A (eval func env) (fun f s₁ => f = .ref a ∧ wpG M A (eval e1 env) (fun v1 s₂ => wpG M A (eval e2 env) (fun v2 s₃ => (∃ o fd, s₃.heap.get? a = some o ∧ o.data = .func fd) ∧ wpG M A (PySem.call (.ref a) [v1, v2]) Q E s₃) E s₂) E s₁) E s)
    (he : eval (.Call func [e1, e2] [] pos) env = (do callWith pos (← eval func env) [] (backTo pos (starEach [e1, e2] env)) (backToKw pos (keywordEach [] env))) := by rfl)
    (hs : starEach [e1, e2] env = [(false, eval e1 env), (false, eval e2 env)] := by rfl) : wpG M A (eval (.Call func [e1, e2] [] pos) env) Q E s := by
  rw [he, hs]
  refine G.bind (G.mono h (fun f s₁ h₁ => ?_) fun _ _ x => x)
  obtain ⟨rfl, h₁⟩ := h₁
  unfold callWith
  refine G.bind (G.hold ?_)
  show wpG M A (evalArgs (.ref a) true [(false, eval e1 env), (false, eval e2 env)] []) _ E s₁
  refine G.args (G.spl_cons (G.mono h₁ (fun v1 s₂ h₂ => G.spl_cons (G.mono h₂ (fun v2 s₃ h₃ => G.spl_nil ?_) fun _ _ x => x)) fun _ _ x => x))
  obtain ⟨⟨o, fd, ho, hd⟩, h₃⟩ := h₃
  refine G.bind (G.any (wpAny_standAt ?_))
  show wpG M A (keeperOf (.ref a) >>= _) _ _ _
  unfold keeperOf
  refine G.bind ?_
  show wpG M A (load a >>= _) _ _ _
  refine G.bind (G.any (wpAny_load ho ?_))
  rw [hd]
  refine G.pure ?_
  show wpG M A (callMarked plainCall (.ref a) [v1, v2] [] >>= _) _ _ _
  refine G.bind ?_
  unfold callMarked
  refine G.keep (G.mono h₃ (fun r s₄ hr => ?_) fun _ _ x => x)
  exact G.any (wpAny_bind (wpAny_holding (wpAny_point (wpAny_pure hr))))
/-- a call of a type by its name, with one argument -/
theorem callT {func e1 : Expr} {pos : Pos} {T : String} {Q : Value → Shared → Prop}
    (h : wpG M A (eval func env) (fun f s₁ => f = .type T ∧ wpG M A (eval e1 env) (fun v1 s₂ => wpG M A (PySem.call (.type T) [v1]) Q E s₂) E s₁) E s)
    (he : eval (.Call func [e1] [] pos) env = (do callWith pos (← eval func env) [] (backTo pos (starEach [e1] env)) (backToKw pos (keywordEach [] env))) := by rfl)
    (hs : starEach [e1] env = [(false, eval e1 env)] := by rfl) : wpG M A (eval (.Call func [e1] [] pos) env) Q E s := by
  rw [he, hs]
  refine G.bind (G.mono h (fun f s₁ h₁ => ?_) fun _ _ x => x)
  obtain ⟨rfl, h₁⟩ := h₁
  unfold callWith
  refine G.bind (G.hold ?_)
  show wpG M A (evalArgs (.type T) true [(false, eval e1 env)] []) _ E s₁
  refine G.args (G.spl_cons (G.mono h₁ (fun v1 s₂ h₂ => G.spl_nil ?_) fun _ _ x => x))
  refine G.bind (G.any (wpAny_standAt ?_))
  refine G.bind (G.any (wpAny_pure (a := Keeper.machine) ?_))
  show wpG M A (PySem.call (.type T) [v1] [] >>= _) _ _ _
  refine G.bind (G.mono h₂ (fun r s₄ hr => ?_) fun _ _ x => x)
  exact G.any (wpAny_bind (wpAny_holding (wpAny_point (wpAny_pure hr))))
end
end G
theorem ba_call {prog : Program} {w : World} {A : Around} {E : Value → Shared → Prop} {s : Shared} {h₀ : Heap} {L : Addr} {m : Str → Option Value} {news : List (Addr × Obj)} {x : Array UInt8} {u : Tok} {Q : Value → Shared → Prop} (hx : x.size ≤ 1000) (F : Fr h₀ L s.heap m) (N : News h₀ L s.heap news)
    (h : ∀ a (o : Obj) h', o.cls = .type "bytearray" → Fr h₀ L h' m → News h₀ L h' ((a, o) :: news) → Q (.ref a) { s with heap := h' }) : wpG (model prog w) A (call (.type "bytearray") [.bytes x u]) Q E s := by
  refine ba_call_type hx ?_
  have e1 : (s.heap.push { cls := .type "bytearray", data := .bytearray #[] }).get? s.heap.objs.size = some { cls := .type "bytearray", data := .bytearray #[] } := Heap.get?_push_size _ rfl
  have e2 := Heap.get?_update_self (Obj.mapBytearray fun _ => (#[] : Array UInt8)) e1 rfl
  have e3 := Heap.get?_update_self (Obj.mapBytearray fun _ => x) e2 rfl
  have hk : ∀ b o, s.heap.get? b = some o → (((s.heap.push { cls := .type "bytearray", data := .bytearray #[] }).update s.heap.objs.size (Obj.mapBytearray fun _ => #[])).update s.heap.objs.size (Obj.mapBytearray fun _ => x)).get? b = some o := fun b o e => by
    have hb := Heap.lt_size e
    have hne : s.heap.objs.size ≠ b := fun q => by rw [q] at hb; exact Nat.lt_irrefl _ hb
    rw [Heap.get?_update_other _ _ hne, Heap.get?_update_other _ _ hne]
    exact Heap.get?_push_of_some _ e
  have hn : s.heap.get? s.heap.objs.size = none := by
    cases q : s.heap.get? s.heap.objs.size with
    | none => rfl
    | some o => exact absurd (Heap.lt_size q) (Nat.lt_irrefl _)
  refine h _ (Obj.mapBytearray (fun _ => x) (Obj.mapBytearray (fun _ => #[]) { cls := .type "bytearray", data := .bytearray #[] })) _ rfl (F.keeps hk) (fun p hp => ?_)
  rcases List.mem_cons.mp hp with rfl | hp
  · refine ⟨e3, fun q => ?_, ?_⟩
    · obtain ⟨oL, es, ep, hLg, -⟩ := F.ns
      have q : s.heap.objs.size = L := q
      rw [← q, hn] at hLg
      cases hLg
    · cases q : h₀.get? s.heap.objs.size with
      | none => rfl
      | some o =>
        have := F.keep _ _ q
        rw [hn] at this
        cases this
  · exact ⟨hk _ _ (N p hp).1, (N p hp).2⟩
end Mine
namespace Mine
namespace G
section
variable {prog : Program} {w : World} {A : Around} {E : Value → Shared → Prop} {s : Shared} {R : Result → Shared → Prop}
theorem func {body : List Stmt} {env : Env} (h : wpG (model prog w) (A.deeper env) (execs body env) (fun f s' => R (.ok (.ret (match f with | .ret v => v | _ => .none))) s') (fun _ _ => False) s) : codeG (model prog w) A (.func body env) R s := by
  refine G.of_tree rfl ?_
  show wpG _ (A.deeper env) (do point; match ← (execs body env).onRaise (leaving env) with | .ret v => ret v | _ => ret .none) _ _ s
  refine G.bind (G.any (wpAny_point (G.bind (G.onRaise (G.mono h (fun f s' h' => ?_) fun _ _ x => x.elim)))))
  cases f <;> exact G.pure h'
theorem call_function {a : Addr} {args : Args} {o : Obj} {fd : FuncData} {body : List Stmt} (hroom : A.depth < recursionLimit) (ho : s.heap.get? a = some o) (hd' : o.data = .func fd) (hco : fd.scope.isCoroutine = false) (hgen : fd.scope.isGenerator = false) (hbody : fd.body = .stmts body) (hcd : s.heap.CodeRec fd.code fd.qualname)
    (h : wpAny (model prog w) A.in1 (bindArgs fd args) (fun binds s₁ => wpAny (model prog w) A.in1 (newFunctionEnv fd.scope fd.globals fd.closure binds (fd.qualname ++ ".<locals>.") (some a) fd.code none fd.builtins) (fun env s₂ => s₂.heap.NoLimit ∧ codeG (model prog w) A (.func body env) R s₂) (fun e s' => R (.error e) s') s₁) (fun e s' => R (.error e) s') s) :
    codeG (model prog w) A (.call (.ref a) args) R s := by
  refine G.of_tree rfl (G.any ?_)
  show wpAny _ A.in1 (callAny (.ref a) args) _ _ s
  simp only [callAny]
  refine wpAny_bind (wpAny_load ho ?_)
  obtain ⟨c, oc, vs, tq, hc, hoc, hdc, hq⟩ := hcd
  simp only [hd', callFunction, hco, hgen, hbody, hc]
  rw [hc] at h
  refine wpAny_bind (m := field (.ref c) 1) (wpAny_field hoc hdc hq (wpAny_bind (wpAny_pure ?_)))
  exact wpAny_bind (wpAny_mono h (fun binds s₁ h₁ => wpAny_bind (wpAny_mono h₁ (fun env s₂ h₂ => wpAny_bind (wpAny_enterFrame h₂.1 hroom (wpAny_pure (And.intro rfl h₂.2)))) fun _ _ h' => h')) fun _ _ h' => h')
theorem call_cells {name : Str} {params : Arguments} {body : List Stmt} {scope : Scope} {pm cd doc : Value} {a : Addr} {o : Obj} {args : List Value} {binds : List (Str × Value)}
    (hroom : A.depth < recursionLimit) (ho : s.heap.get? a = some o) (hdata : o.data = .func (docDef name params body scope pm cd doc)) (hlim : s.heap.NoLimit) (hcd : s.heap.CodeRec cd name)
    (hbind : bindArgs (docDef name params body scope pm cd doc) ⟨args, []⟩ = Pure.pure binds)
    (hkind : ∀ x ∈ binds, scope.names.lookup x.1 = some .local ∨ (scope.names.lookup x.1 = some .cell ∧ ((cellsFrom (s.heap.objs.size + 1) scope.names []).lookup x.1).isSome = true))
    (hnd : ((cellsFrom 0 scope.names []).map (·.1)).Nodup)
    (h : ∀ h₁ tk cells, Fr s.heap s.heap.objs.size h₁ (bindL (envOfC name scope s.heap.objs.size a cd).kindOf binds fun _ => none) → News s.heap s.heap.objs.size h₁ cells →
      CellsAre (bindC (envOfC name scope s.heap.objs.size a cd).kindOf binds fun _ => none) (cellsFrom (s.heap.objs.size + 1) scope.names []) cells →
      wpG (model prog w) (A.deeper (envOfC name scope s.heap.objs.size a cd)) (execs body (envOfC name scope s.heap.objs.size a cd))
        (fun f s' => R (.ok (.ret (match f with | .ret v => v | _ => .none))) s') (fun _ _ => False) { s with heap := h₁, toks := tk })
    (hco : scope.isCoroutine = false := by rfl) (hgen : scope.isGenerator = false := by rfl) (hk : scope.kind = .function := by rfl) : codeG (model prog w) A (.call (.ref a) ⟨args, []⟩) R s := by
  refine G.call_function (fd := docDef name params body scope pm cd doc) hroom ho hdata hco hgen rfl hcd ?_
  rw [hbind]
  refine wpAny_pure (wpAny_newFunctionEnv_cells hk hkind fun env he s' X => ?_)
  subst he
  refine ⟨hlim.keeps X.toInCall.keep, G.func ?_⟩
  obtain ⟨h₁, tk, rfl, _⟩ := X.done
  obtain ⟨cells, N, Y⟩ := Cl.news (h₀ := s.heap) (Nat.le_refl _) fun n c hm => ⟨X.cell n c (lookup_of_mem_nodup (cellsFrom_names scope.names 0 (s.heap.objs.size + 1) [] [] rfl ▸ hnd) hm), X.above n c hm⟩
  exact h h₁ tk cells ⟨X.toInCall.ns, X.toInCall.keep, X.toInCall.fresh⟩ N Y
end
end G
theorem enter_callG {M : Model} {A : Around} {s : Shared} {f : Value} {ps : List Value} {kw : List (Str × Value)} {c : ClaimW} {cl : Str → Option Addr} {mean : ExcName → Option Value} {args : List WData} {s₁ : Shared}
    (h : codeG M A (.call f ⟨ps, kw⟩) (GoodWG c cl mean args s₁) s) : wpG M A (PySem.call f ps kw) (fun v s' => GoodWG c cl mean args s₁ (.ok (.ret v)) s') (fun e s' => GoodWG c cl mean args s₁ (.error e) s') s :=
  G.call (G.code_mono h fun res s' g => by rcases g.1 with ⟨v, _, _, rfl, _⟩ | ⟨e, _, _, rfl, _⟩ <;> exact g)
/-- what a step on posts says of codes, it says of posts -/
theorem post_of {P Q : Result → Shared → Prop} (pr : Program) (w : World) (h : ∀ (M : Model) (A : Around) (cd : Code) (s : Shared), codeAny M A cd P s → codeAny M A cd Q s) (r : Result) (s : Shared) (hp : P r s) : Q r s := by
  let M : Model := ⟨fun _ => match r with | .ok f => Pure.pure (.done f) | .error e => throw e, pr, w⟩
  let A : Around := { depth := 0, frames := none, guards := none, units := 0 }
  let cd : Code := .call .none ⟨[], []⟩
  let Γ : PySem.Ctx := ⟨cd, none, none, [], none⟩
  have hB : Γ.Below A := And.intro rfl (And.intro (Nat.le_refl _) (And.intro (fun l (hl : none = some l) => nomatch hl) (And.intro (fun g (hg : none = some g) => nomatch hg) (Nat.le_refl _))))
  have key : ∀ R : Result → Shared → Prop, wpCode M Γ R default s ↔ R r s := fun R => by
    rw [wpCode_iff_wp]
    cases r with
    | ok f => exact Iff.rfl
    | error e => exact Iff.rfl
  have h1 : codeAny M A cd P s := fun Γ' p' _ _ => by
    rw [wpCode_iff_wp]
    cases r with
    | ok f => exact hp
    | error e => exact hp
  exact (key Q).mp (h M A cd s h1 Γ default rfl hB)
theorem kn_postG {M : Model} {A : Around} {cd : Code} {s s₁ : Shared} {cw : ClaimW} {cl : Str → Option Addr} {mean : ExcName → Option Value} {args : List WData} {tabs : List (Addr × Addr)} (hT : TabsAt tabs s₁.heap) (hr : ∀ a x, cw.raises a x = false)
    (h : codeG M A cd (fun r s' => GoodW cw cl mean args { s₁ with heap := ghostOf s₁.heap tabs } r s' ∧ GrownAll tabs s'.heap) s) : codeG M A cd (GoodWG cw cl mean args s₁) s :=
  G.code_mono h (post_of M.prog M.w fun _ _ _ _ h => kn_post hT hr h)
end Mine
namespace Mine
/-- the claim's thread ends, shown at its own context alone -/
theorem thread_endsG {prog : Program} {w : World} {t : Sem Fin} {s : Shared} {R : Result → Shared → Prop} (hreg : s.asleep)
    (h : wpG (model prog w) callerA t (fun fin s' => ∃ f, fin = .done f ∧ R (.ok f) s' ∧ leftWithCleanup s'.gens = false) (fun e s' => R (.error e) s' ∧ leftWithCleanup s'.gens = false) s) :
    ∃ n r s' s'', schedN (denote table) prog w n (.single s ⟨t, .builtin "claim.caller" {}, default, []⟩) = .halted (outcomeOf r) s'' ∧ PySem.runN (denote table) prog w n s ⟨t, .builtin "claim.caller" {}, default, []⟩ = .halted (outcomeOf r) s'' ∧ s''.forget = s'.forget ∧ R r s' :=
  wp_halts_full (M := model prog w) (R := R) hreg (Sem.wp_mono _ _ _ (fun fin p' s' h' => by obtain ⟨f, rfl, hf⟩ := h'; exact hf) (fun _ _ _ h' => h') _ _ (h _ default caller_in (by kernel_rfl) fun x hx => nomatch hx))
/-- the walk that is asked for: over the contexts in which no frame holds octets -/
abbrev WalkG (q : Program) (loose : List Str) (XP : (Str → Option Value) → Heap → Prop) (YP : World → Heap → Prop) (r : RowW) (d : DefRec) (kwd : List (Str × Expr)) : Prop :=
  ∀ (w : World) (s₀ s₁ : Shared) (mg mb : Str → Option Value), Ground q loose r.records XP w s₀ mg mb s₁.heap → YP w s₁.heap → ∀ (a : Addr) (o : Obj) (pm cd doc dV kV : Value), s₁.heap.get? a = some o →
    o.data = .func { docDef d.name d.params d.body d.scope pm cd doc with defaults := dV, kwdefaults := kV } → s₁.heap.CodeRec cd d.name → Dflts mg s₁.heap d.params kwd dV kV → mg d.name = some (.ref a) → s₁.gens = #[] →
    ∀ (args : List WData) (vals : List Value) (as : List Addr), r.claim.pre args = true → WData.layableAll args = true → ReadsAllW r.records (classAt s₀.heap) s₁.heap vals args as → WellAll w.params s₁.heap vals args → (∀ a ∈ as, (a == sysModules) = false) →
      wpG (model r.prog w) callerA (PySem.call (.ref a) vals) (fun v s' => GoodWG r.claim (classAt s₀.heap) (ExcName.means s₀.heap) args s₁ (.ok (.ret v)) s')
        (fun e s' => GoodWG r.claim (classAt s₀.heap) (ExcName.means s₀.heap) args s₁ (.error e) s') s₁
/-- one call of the claim, from its end -/
theorem callFromG {c : ClaimW} {tree : List Value → Sem Fin} {w : World} {s : Shared} {free : Addr → Prop} {gens : Prop} {kept : Heap → Prop} (hz : s.asleep) (hgens : s.gens = #[])
    (spec : ∀ args, c.pre args = true → WData.layableAll args = true → ∀ ord : List DictEntry → List DictEntry, (∀ l, (ord l).Perm l) →
      ∃ vs s₁, layAllW c.records (classAt s.heap) w.params ord args s = some (vs, s₁) ∧
        wpG (model c.prog w) callerA (tree vs) (fun fin s' => ∃ f, fin = .done f ∧ c.Ends s args vs s₁ (.ok f) s' ∧ s'.os = s.os ∧ AllBare s'.gens ∧ kept s'.heap) (fun e s' => c.Ends s args vs s₁ (.error e) s' ∧ s'.os = s.os ∧ AllBare s'.gens ∧ kept s'.heap) s₁) :
    c.CallFrom (fun vs => ⟨tree vs, .builtin "claim.caller" {}, default, []⟩) w free gens kept s := by
  intro args hp hl ord ho
  obtain ⟨vs, s₁, laid, hw⟩ := spec args hp hl ord ho
  have rest := layAllW_rest _ _ _ laid
  obtain ⟨n, r, s', s'', hs, hr, hf, he, hos, hk⟩ := thread_endsG (R := fun r s' => c.Ends s args vs s₁ r s' ∧ s'.os = s.os ∧ kept s'.heap) (Shared.asleep_of_life rest.2.2.2 hz)
    (G.mono hw (fun _ _ ⟨f, e, a, b, d, k⟩ => ⟨f, e, ⟨a, b, k⟩, leftWithCleanup_false_of_bare d⟩) fun _ _ ⟨a, b, d, k⟩ => ⟨⟨a, b, k⟩, leftWithCleanup_false_of_bare d⟩)
  obtain ⟨eh, _, _, eo, _⟩ := Shared.forget_eq hf
  have he := he.congr eh
  rw [← eh] at hk
  rw [← eo] at hos
  refine ⟨vs, s₁, laid, n, _, s'', hs, ?_, fun _ i x hx => by rw [hgens] at hx; simp at hx, hk, by rw [(runN_life _ _ _ hr).trans rest.2.2.2], Shared.rest_eq hos⟩
  rcases he with ⟨v, rfl, a1, a2, a3, a4, a5⟩ | ⟨e, ob, cls, rfl, a1, a2, a3, a4, a5⟩
  · exact .inl ⟨v, rfl, a1, a2, a3, fun b o y _ => a4 b o y, a5⟩
  · exact .inr ⟨e, ob, cls, rfl, a1, a2, a3, a4, fun b o y _ => a5 b o y⟩
theorem holdsG {r : OpenRow} {q : Program} {loose : List Str} {Xt : Shared → Bool} {XP : (Str → Option Value) → Heap → Prop} {α : Type} {Yf : Shared → α} {Ya : World → α} {YP : World → Heap → Prop} {d : DefRec} {kwd : List (Str × Expr)} {N : Nat}
    (left : LeftO r.prog q loose Xt Yf Ya N) (hY : ∀ w s, Yf s = Ya w → YP w s.heap) (hYk : ∀ w h h', YP w h → (∀ b o, h.get? b = some o → h'.get? b = some o) → YP w h')
    (hX : ∀ s, Xt s = true → XP (s.heap.nsMap mainGlobals) s.heap) (hXk : ∀ mg h h', XP mg h → (∀ b o, h.get? b = some o → h'.get? b = some o) → XP mg h')
    (hdef : defOf q r.name = some (d, kwd)) (hp : r.prog.theDef r.name = some (d.params, d.body, d.scope)) (hk : kwWritten? d.params.kwonlyargs d.params.kw_defaults = some kwd) (hRf : ∀ s, Xt s = true → RecFacts r.records s.heap) (hwr : (!r.writes || r.records.isEmpty) = true)
    (k1 : r.wellSaid = true) (ok : (chainsOk q && opensWell r.prog && (frees r.toRowW && r.within.isEmpty)) = true) (hb : r.prog.bare) (hw : r.toRowW.promised)
    (walk : WalkG q loose XP YP r.toRowW d kwd) : r.Holds := by
  obtain ⟨o1, o2⟩ := Bool.and_eq_true_iff.mp ok
  obtain ⟨hch, hop⟩ := Bool.and_eq_true_iff.mp o1
  obtain ⟨o3, o4⟩ := Bool.and_eq_true_iff.mp o2
  obtain ⟨same, f2, f3, f4, f5⟩ := frees_parts o3
  have hwi : r.toRowW.claim.within = [] := List.isEmpty_iff.mp o4
  have hid := ident_freeW f2 f3 f4
  refine ⟨k1, hw, ⟨hb, hop, by show r.toRowW.makers.map _ = []; rw [f5]; rfl⟩, hw.witness, fun w => ⟨(left.behind hX hch w).1, fun s' hs' => ?_⟩⟩
  obtain ⟨s₀, e1, e2, s, ran, hz, hg, hns, G9, hy⟩ := (left.behind (XP := fun mg h => XP mg h ∧ RecFacts r.records h) (fun s hs => ⟨hX s hs, hRf s hs⟩) hch w).2 s' hs'
  have G0 : Ground q loose [] XP w s (s.heap.nsMap mainGlobals) (s.heap.nsMap builtinsNs) s.heap := ⟨G9.T, G9.B, G9.D, G9.TE, G9.TD, G9.W, G9.X.1, G9.cls, G9.has, G9.apart, G9.once, G9.K⟩
  have RF := G9.X.2
  have GR : Ground q loose r.toRowW.records XP w s (s.heap.nsMap mainGlobals) (s.heap.nsMap builtinsNs) s.heap := RF.ground G0
  have hg : s.gens = #[] := Array.eq_empty_of_size_eq_zero (beq_iff_eq.mp hg)
  refine ⟨s₀, e1, e2, s, ran, fun n hn => ?_, RF.1, RF.2.1, ?_⟩
  · obtain rfl : n = r.name := by split at hn <;> simp_all
    exact pinned_of_view hns G0 hdef hp hk
  · refine callFromG (c := r.toRowW.claim) (tree := fun vs => do match ← nsGet mainNs r.name with
      | some f => do ret (← PySem.call f vs)
      | none => unsupported "claim.caller:no-such-global") hz hg fun args hpre hlay ord hord => ?_
    obtain ⟨⟨vs, s₁⟩, laid⟩ := Option.isSome_iff_exists.mp (layAllW_isSome (P := w.params) (ord := ord) GR.has args r.toRowW.args s (pre_splitW hpre).1)
    have kp := layAllW_keeps _ _ _ laid
    have rest := layAllW_rest _ _ _ laid
    obtain ⟨as, hrd, hin, hold⟩ := reads_layAllW hord _ _ _ laid hlay s₁.heap (fun _ _ e => e)
    have L : Laid r.toRowW.records w s s₁ args vs as := ⟨⟨ord, hord, laid⟩, hrd, hin, hold, kp, rest.1.trans hg, rest.2.2.1⟩
    have G1 := GR.keeps hXk kp
    obtain ⟨a, o, pm, cd, doc, dV, kV, h1, h2, h3, h4, h5⟩ := G1.fn hdef
    have hnm : d.name = r.name := defOf_name hdef
    refine ⟨vs, s₁, laid, G.bind (G.any (wpAny_nsGet G1.T.g ?_))⟩
    rw [h1]
    refine G.bind (G.mono (walk w s s₁ _ _ G1 (hYk _ _ _ (hY w s hy) kp) a o pm cd doc dV kV h2 h3 h4 h5 (hnm ▸ h1) L.gens args vs as hpre hlay L.reads L.well (L.low GR.low)) (fun v s' g => G.pure ⟨_, rfl, ?_⟩) fun e s' g => ?_)
    · have z := g.laid (c := r.toRowW.claim) same hwi hid L
      exact ⟨z.1, z.2.1, z.2.2, fun q => ⟨namesKept_of ran hns r.keeps kp g.2.1.old, noTable hwr q⟩⟩
    · have z := g.laid (c := r.toRowW.claim) same hwi hid L
      exact ⟨z.1, z.2.1, z.2.2, fun q => ⟨namesKept_of ran hns r.keeps kp g.2.1.old, noTable hwr q⟩⟩
end Mine
end
theorem Mine.resetAqHead : True := by
  w_top off
  first | walk1 | exact trivial
section
open PySem PySem.W PyProof.Rows
set_option Elab.async false
namespace Mine.PySem.W
/-- the head's own name for the step from a walk to the claim: here over the contexts in which no frame holds octets -/
theorem holds_open {r : OpenRow} {q : Program} {loose : List Str} {Xt : Shared → Bool} {XP : (Str → Option Value) → Heap → Prop} {α : Type} {Yf : Shared → α} {Ya : World → α} {YP : World → Heap → Prop} {d : DefRec} {kwd : List (Str × Expr)} {N : Nat}
    (left : LeftO r.prog q loose Xt Yf Ya N) (hY : ∀ w s, Yf s = Ya w → YP w s.heap) (hYk : ∀ w h h', YP w h → (∀ b o, h.get? b = some o → h'.get? b = some o) → YP w h')
    (hX : ∀ s, Xt s = true → XP (s.heap.nsMap mainGlobals) s.heap) (hXk : ∀ mg h h', XP mg h → (∀ b o, h.get? b = some o → h'.get? b = some o) → XP mg h')
    (hdef : defOf q r.name = some (d, kwd)) (hp : r.prog.theDef r.name = some (d.params, d.body, d.scope)) (hk : kwWritten? d.params.kwonlyargs d.params.kw_defaults = some kwd) (hRf : ∀ s, Xt s = true → RecFacts r.records s.heap) (hwr : (!r.writes || r.records.isEmpty) = true)
    (k1 : r.wellSaid = true) (ok : (chainsOk q && opensWell r.prog && (frees r.toRowW && r.within.isEmpty)) = true) (hb : r.prog.bare) (hw : r.toRowW.promised)
    (walk : WalkG q loose XP YP r.toRowW d kwd) : r.Holds := holdsG left hY hYk hX hXk hdef hp hk hRf hwr k1 ok hb hw walk
end Mine.PySem.W
namespace Mine
set_option maxRecDepth 100000 in
set_option maxHeartbeats 8000000 in
open_top hd for PySem.Challenge.rw_aq6015_01
end Mine
end
theorem Mine.resetAqBase : True := by
  w_top off
  first | walk1 | exact trivial
section
open PySem PySem.W PySem.Spec PySem.Calls PyProof.Rows
set_option Elab.async false
set_option maxRecDepth 100000
namespace Mine
noncomputable abbrev PR : Program := Challenge.rw_aq6015_01.row.prog
noncomputable abbrev KK (w : World) : Frag := hd.heap_39 w.params
noncomputable abbrev LO : List Str := looseW hd.view_39 [Str.ofString "int_types", Str.ofString "byte_types", Str.ofString "_law_values"] ++
          List.map (fun x => x.name) (recsOf hd.view_39) ++
        List.map (fun x => x.fst) (litsOf hd.view_39) ++
      List.map (fun x => x.name)
        (clssOf hd.view_39
          (looseW hd.view_39 [Str.ofString "int_types", Str.ofString "byte_types", Str.ofString "_law_values"]))
/-- a call's claim: it comes back with a value that has Ret, the frame as it was, the ledger as it was -/
def Ctr (w : World) (f : Addr) (vs : List Value) (pre : Heap → List (Addr × Obj) → Prop) (Ret : Value → Prop) : Prop :=
  ∀ (mean : ExcName → Option Value) (mg mb : Str → Option Value) (dp un : Nat) (cn : Str) (cs : Scope) (a : Addr) (ccd : Value) (cl : List (Str × Addr)) (outer : List Env) (A₀ : Around) (base h₀ : Heap) (L : Addr) (m : Str → Option Value) (news : List (Addr × Obj)) (s : Shared) (Q E : Value → Shared → Prop),
    Below A₀ base outer h₀ → Fr h₀ L s.heap m → (KK w).In h₀ → News h₀ L s.heap news → Top topProg LO mean mg mb h₀ → cs.kind = .function → pre h₀ news →
    dp + 4 < recursionLimit → un + 64 < cLine →
    (∀ (r : Value) (h' : Heap) (tk' : Nat), Ret r → Fr h₀ L h' m → News h₀ L h' news → Q r { s with heap := h', toks := tk' }) →
    wpAny (model PR w) (ktrTop dp un (some []) cn cs L a ccd cl outer) (call (.ref f) vs) Q E s
/-- the same of a call out of the law's own frame (a try may stand in the def) -/
def CtrT (w : World) (f : Addr) (vs : List Value) (pre : Heap → List (Addr × Obj) → Prop) (Ret : Value → Prop) : Prop :=
  ∀ (mean : ExcName → Option Value) (mg mb : Str → Option Value) (cn : Str) (cs : Scope) (a : Addr) (ccd : Value) (cl : List (Str × Addr)) (h₀ : Heap) (L : Addr) (m : Str → Option Value) (news : List (Addr × Obj)) (s : Shared) (Q E : Value → Shared → Prop),
    Below callerA h₀ [] h₀ → Fr h₀ L s.heap m → (KK w).In h₀ → News h₀ L s.heap news → Top topProg LO mean mg mb h₀ → cs.kind = .function → pre h₀ news →
    (∀ (r : Value) (h' : Heap) (tk' : Nat), Ret r → Fr h₀ L h' m → News h₀ L h' news → Q r { s with heap := h', toks := tk' }) →
    wpAny (model PR w) (callerA.deeper (envX cn cs L a ccd cl)) (call (.ref f) vs) Q E s

section
variable {prog : Program} {w : World} {A₀ A : Around} {s : Shared} {base h₀ : Heap} {env : Env} {L : Addr} {m : Str → Option Value} {news : List (Addr × Obj)} {K : Frag} {p : Program} {loose : List Str} {mean : ExcName → Option Value} {mg mb : Str → Option Value}
    {R : Result → Shared → Prop} {name qual : Str} {params : Arguments} {body : List Stmt} {scope : Scope} {dV kV doc pm cdv ct oc : Value} {an od : Option Addr} {osl : Array (Option Value)} {f : Addr} {args : Args} {binds : List (Str × Value)}
theorem mem_one {b : Addr} (hf : env.frame = some L) (hb : b ∈ [env].filterMap (·.frame)) : b = L := by
  simp only [List.filterMap_cons, hf, List.filterMap_nil, List.mem_singleton] at hb
  exact hb
/-- a def in which a try stands, called out of a frame that may hold cells -/
theorem code_defT (B : Below A₀ base [] h₀) (F : Fr h₀ L s.heap m) (X₀ : K.In h₀) (N : News h₀ L s.heap news) (T : Top p loose mean mg mb h₀) (hA : A.frames = some [env]) (hf : env.frame = some L) (hke : env.scope.kind = .function)
    (ho : K.lookup f = some ⟨oc, od, .func (fnOf name qual params body scope dV kV doc pm an cdv ct), osl⟩) (hcd : codeIn K cdv qual = true) (hroom : A.depth < recursionLimit)
    (hbind : BindsTo s (fnOf name qual params body scope dV kV doc pm an cdv ct) args binds) (hloc : ∀ y ∈ binds, scope.names.lookup y.1 = some .local)
    (h : ∀ g L' h₁, Fr h₀ L g m → Fr g L' h₁ (fun y => binds.reverse.lookup y) → News g L' h₁ news → Below A base [env] g → K.In g → Top p loose mean mg mb g → KtsDicts ([env].filterMap (·.frame)) g →
      wpAny (model prog w) (A.deeper (envOf qual scope L' f cdv)) (execs body (envOf qual scope L' f cdv))
        (fun fl s' => LeaveS0 ([env].filterMap (·.frame)) h₀ L m g R (match fl with | .ret v => v | _ => .none) s')
        (fun e s' => wpAny (model prog w) (A.deeper (envOf qual scope L' f cdv)) (leaving (envOf qual scope L' f cdv) e) (fun _ s'' => R (.error e) s'') (fun e' s'' => R (.error e') s'') s')
        { s with heap := h₁, toks := s.toks + binds.length })
    (hco : scope.isCoroutine = false) (hgen : scope.isGenerator = false) (hk : scope.kind = .function)
    (hcell : ∀ x ∈ scope.names, x.2 ≠ .cell) : codeAny (model prog w) A (.call (.ref f) args) R s := by
  have X := X₀.keeps F.keep
  obtain ⟨FG, BG, st, _⟩ := groundX (R := R) B F N hA hf hke
  have nL₀ : h₀.get? L = none := kts_self F
  obtain ⟨oL, es, ep, hLg, hLd, hLk, hLf⟩ := FG.ns
  refine codeAny_call_def (fd := fnOf name qual params body scope dV kV doc pm an cdv ct) (body := body) (binds := binds) hroom (X _ _ ho) rfl (T.nolimit.keeps F.keep) (codeRec_of X hcd) rfl hbind hcell hloc (fun h₁ hns hk₁ => ?_) hco hgen hk
  refine wpAny_mono (h _ s.heap.objs.size h₁ FG ⟨hns, fun b o e => hk₁ b o (of_hideAll _ e), Nat.le_of_eq (hideAll_size _ _)⟩
    (fun p hp => ⟨hk₁ _ _ (N p hp).1, Nat.ne_of_lt (Heap.lt_size (N p hp).1), hideAll_none _ (List.mem_map_of_mem hp)⟩) BG (X₀.keeps st) (T.keeps st)
    (fun b hb => by obtain rfl := mem_one hf hb; exact ⟨oL, es, ep, hLg, hLd⟩)) (fun fl s' hl => ?_) fun _ _ y => y
  obtain ⟨g', L', m', news', T', F', N', k⟩ := hl
  obtain ⟨sl, hs⟩ := T'.up hLg
  refine k ⟨⟨_, es, ep, F'.keep _ _ hs, hLd, hLk, hLf⟩, fun b o e => F'.keep b o (T'.other b o (st b o e) (fun q => by
    rw [mem_one hf q, nL₀] at e; cases e)), F.above⟩ fun p hp => ⟨(N' p hp).1, fun q => ?_, ?_⟩
  · have := (N' p hp).2.2; rw [q, hs] at this; cases this
  · cases q : h₀.get? p.1 with
    | none => rfl
    | some o =>
      obtain ⟨sl', hs'⟩ := T'.up (st _ _ q)
      have := (N' p hp).2.2
      rw [hs'] at this
      cases this
end
end Mine
end
theorem Mine.resetAqStr : True := by
  w_top off
  first | walk1 | exact trivial
section
open PySem PySem.W PySem.Spec PySem.Calls PyProof.Rows
open PySem.Builtin PySem.Builtin.Str
set_option Elab.async false
set_option maxRecDepth 100000
namespace Mine
/-- what is kept of a heap -/
abbrev Kp (h h' : Heap) : Prop := ∀ b o, h.get? b = some o → h'.get? b = some o
/-- str() of the value v reads y, where the heap has C -/
structure StrOk (v : Value) (y : Str) (C : Heap → Prop) : Prop where
  len : y.length ≤ 100000
  up : ∀ h h' : Heap, Kp h h' → C h → C h'
  run : ∀ (prog : Program) (w : World) (A : Around) (E : Value → Shared → Prop) (s : Shared) (Q : Value → Shared → Prop), A.guards = some [] → A.units + 16 < cLine → A.handled = none → C s.heap →
    (∀ h' t k, Kp s.heap h' → Q (.str y t) { s with heap := h', toks := k }) → wpAny (model prog w) A (strOf v) Q E s

/-- the text of an int -/
abbrev IT (n : Int) : Str := Str.ofString (toString n)
def Fit (n : Int) : Prop := n.natAbs < 10 ^ 1001
theorem pow_up {k : Nat} (h : k ≤ 1001) : 10 ^ k ≤ 10 ^ 1001 := Nat.pow_le_pow_right (by decide) h
theorem fit_small {n : Int} (h : n.natAbs < 10 ^ 10) : Fit n := Nat.lt_of_lt_of_le h (pow_up (by decide))
theorem it_len {n : Int} (h : Fit n) : (IT n).length ≤ 1002 := by
  rw [PySem.ofString_length]
  exact int_text_length_le10 (by decide) h
theorem it_len11 {n : Int} (h : n.natAbs < 10 ^ 10) : (IT n).length ≤ 11 := by
  rw [PySem.ofString_length]
  exact int_text_length_le10 (by decide) h
theorem fit_4300 {n : Int} (h : Fit n) : n.natAbs < 10 ^ 4300 := Nat.lt_of_lt_of_le h (Nat.pow_le_pow_right (by decide) (by decide))

theorem strOk_int (n : Int) (t : Tok) (h : Fit n) : StrOk (.int n t) (IT n) Heap.NoDigits where
  len := Nat.le_trans (it_len h) (by decide)
  up := fun h h' k x => x.keeps k
  run := fun _ _ _ _ s _ _ _ hh hn hq => strOf_int_or hh hn (fun _ => hq s.heap _ _ fun _ _ e => e) fun h4 => absurd (fit_4300 h) (Nat.not_lt.mpr h4)
theorem strOk_bool (b : Bool) : StrOk (.bool b) (if b then "True" else "False") fun _ => True where
  len := by cases b <;> decide
  up := fun _ _ _ x => x
  run := fun _ _ _ _ s _ _ _ _ _ hq => wpAny_strOf_gives rfl (PySem.typeIs_bool s b) F.slot_bool_str F.slot_bool_repr F.entry_bool_repr (F.args_bool_repr_1 _) (gives_bool_repr b) (hq s.heap _ _ fun _ _ e => e) (hsz := by cases b <;> decide)
theorem strOk_none : StrOk .none "None" fun _ => True where
  len := by decide
  up := fun _ _ _ x => x
  run := fun _ _ _ _ s _ _ _ _ _ hq => wpAny_strOf_gives rfl (PySem.typeIs_none s) F.slot_NoneType_str F.slot_NoneType_repr F.entry_NoneType_repr (F.args_NoneType_repr_1 _) gives_none_repr (hq s.heap _ _ fun _ _ e => e) (hsz := by decide)
theorem strOk_str (x : Str) (t : Tok) (h : x.length ≤ 100000) : StrOk (.str x t) x fun _ => True where
  len := h
  up := fun _ _ _ x => x
  run := fun _ _ _ _ s _ _ _ _ _ hq => wpAny_of_eq (KPc.strOf_str x t) (hq s.heap t s.toks fun _ _ e => e)
theorem strOk_ref {h₀ : Heap} {a : Addr} {d : PyData} {as : List Addr} (r : Reads h₀ (.ref a) d as) (hs : d.showable = true) (hd : d.hasDict = false) (hp : d.depth ≤ 4) (hl : d.shown.length ≤ 100000) : StrOk (.ref a) d.shown (Kp h₀) where
  len := hl
  up := fun h h' k x b o e => k b o (x b o e)
  run := fun _ _ _ _ _ _ hg hu _ hk hq => strOf_of_reads r hs (PyData.noDict_hsm hd) hg (by omega) hk (fun h' u tk k => hq h' u tk k) (by rw [sizeLine_eq]; omega)

theorem slot_bytes_str : Slot "bytes" "__str__" "bytes.__str__" :=
  .of (owner := "bytes") (n := "__str__") (by rw [typeLookup_type, builtinLookup_eq_fast]; kernel_rfl) (by decide +kernel) (by decide +kernel) (by decide +kernel)
    (by first | exact .inl (by decide +kernel) | exact .inr (by decide +kernel)) (by rw [isSubtype_type]; kernel_rfl)
theorem entry_bytes_str : entryFor table "bytes.__str__" = some Builtin.«bytes.__str__» := entryFor_of_tree (by kernel_rfl)
theorem args_bytes_str (a : Value) : argsOk "bytes.__str__" ⟨[a], []⟩ := by
  unfold argsOk; rw [signature?_of (id := "bytes.__str__") (n := ['_', '_', 'r', 't', 's', '_', '_']) (o := ['s', 'e', 't', 'y', 'b']) (by kernel_rfl) FB.owner_bytes]; kernel_rfl
theorem bytes_text : Bytes.literal #[97] false = Str.ofString "b'a'" := by decide +kernel
theorem gives_bytes_str (t : Tok) : Gives (Builtin.«bytes.__str__» ⟨[.bytes #[97] t], []⟩) (.str (Str.ofString "b'a'")) := by
  refine .of_wp fun M A E s Q hq => ?_
  show wpAny M A (Bytes.literalAsked #[97] false 0 >>= fun r => retStr r) _ E s
  refine wpAny_bind ?_
  unfold Bytes.literalAsked
  refine wpAny_ite ?_
  rw [if_neg (by decide)]
  refine wpAny_pure ?_
  rw [bytes_text]
  exact wpAny_bind (wpAny_mkStr (wpAny_pure ⟨_, rfl, hq.2⟩) (by decide))
theorem strOk_bytes (t : Tok) : StrOk (.bytes #[97] t) (Str.ofString "b'a'") fun _ => True where
  len := by decide
  up := fun _ _ _ x => x
  run := fun _ _ _ _ s _ _ _ _ _ hq => by
    unfold Builtin.Str.strOf
    rw [show isExactStr (.bytes #[97] t) = false from rfl]
    simp only [cRoomFor, show [Value.bytes #[97] t].any Value.onHeap = false from rfl, Bool.false_eq_true, if_false, pure_bind]
    refine wpAny_bind (m := callSpecial? (.bytes #[97] t) (Str.ofString "__str__")) (wpAny_callSpecial?_slot (name := Str.ofString "__str__") (W.typeIs_bytes s #[97] t) slot_bytes_str
      (call_gives slot_bytes_str (W.typeIs_bytes s #[97] t) entry_bytes_str (args_bytes_str _) (gives_bytes_str t) ⟨by decide, ?_⟩))
    exact wpAny_pure (hq s.heap _ _ fun _ _ e => e)

section
variable {prog : Program} {w : World} {A : Around} {E : Value → Shared → Prop} {s : Shared} {v : Value} {y : Str} {C : Heap → Prop} {Q : Value → Shared → Prop}
theorem strOk_call (ok : StrOk v y C) (hg : A.guards = some []) (hu : A.units + 20 < cLine) (hh : A.handled = none) (hc : C s.heap)
    (hq : ∀ h' t k, Kp s.heap h' → Q (.str y t) { s with heap := h', toks := k }) : wpAny (model prog w) A (call (.type "str") [v]) Q E s :=
  callType_new F.called_str (by decide) (F.typeCall_str_1 _) (F.newCall_str_1 _) (fun obj => F.args_object_init_2 obj _) F.entry_str_new
    (meets_str_new (S := fun A' R s' => A'.guards = some [] ∧ A'.units + 17 < cLine ∧ A'.handled = none ∧ C s'.heap ∧
        ∀ h' u tk, Kp s'.heap h' → R (.ok (.ret (.str y u))) { s' with heap := h', toks := tk })
      fun prog' w' A' R s' h => ok.run prog' w' A'.in1 _ s' _ h.1 (by show A'.units + 1 + 16 < cLine; have := h.2.1; omega) h.2.2.1 h.2.2.2.1 h.2.2.2.2)
    ⟨hg, by show A.units + 1 + 17 < cLine; omega, hh, hc, fun h' u tk hk => ⟨typeIs_str _ _ _, hq h' u tk hk⟩⟩
end
end Mine
end
theorem Mine.resetAqPct : True := by
  w_top off
  first | walk1 | exact trivial
section
open PySem PySem.W PySem.Spec PySem.Calls PyProof.Rows
open PySem.Builtin PySem.Builtin.Str
set_option Elab.async false
set_option maxRecDepth 100000
namespace Mine
theorem it_signs (n : Int) : (IT n).cps.toList = (if decide (n < 0) = true then [45] else []) ++ (IT ((n.natAbs : Nat) : Int)).cps.toList := by
  by_cases hn : n < 0
  · rw [if_pos (decide_eq_true hn)]
    have e : ((n.natAbs : Nat) : Int) = 0 - n := by omega
    rw [e]
    unfold IT
    rw [Str.ofString_eq_toList, Str.ofString_eq_toList, toString_neg hn]
    simp
  · rw [if_neg (by simpa using hn), Int.natAbs_of_nonneg (by omega)]
    rfl
theorem pct_signs (c : Percent) (h1 : c.alt = false) (h2 : c.type = 100) (h3 : c.prec = none) (n : Int) : percentInt c (decide (n < 0)) (IT ((n.natAbs : Nat) : Int)).cps.toList = (IT n).cps.toList := by
  rw [it_signs n]
  unfold percentInt
  simp [h1, h2, h3]
section
open KPc
variable {M : Model} {A : Around} {E : Value → Shared → Prop} {s : Shared} {l : List Nat} {p : List Value} {r : List Nat}
  {f : Nat → List Value × Writer × List Nat → Sem (ForInStep (List Value × Writer × List Nat))} {Q : List Value × Writer × List Nat → Shared → Prop}
  {w : Writer} {T x y : PySem.Str} {N K : Nat} {o : Option Value}
theorem after_intZ {c : Percent} {n : Int} {d : List Nat} (g : Good w T N) (h1 : c.alt = false) (h2 : c.type = 100) (h3 : c.prec = none) (hm : n.natAbs < 10 ^ 10)
    (hd : d = (IT ((n.natAbs : Nat) : Int)).cps.toList) (ho : o = none) (h : ∀ w', Good w' (T ++ IT n) (N + 11) → wpAny M A (forIn l (p, w', r) f) Q E s) :
    wpAny M A (forIn l (p, w.add ⟨(percentInt c (decide (n < 0)) d).toArray⟩ o, r) f) Q E s := by
  rw [hd, pct_signs c h1 h2 h3]
  exact after_str g (it_len11 hm) (obj_none ho) h
end
/-- the words of the bounds -/
def Ms1 (a : Str) (l h : Int) (y : Str) : Str := ((((((((Str.ofString "Attribute '" ++ a) ++ Str.ofString "' must be between ") ++ IT l) ++ Str.ofString "-") ++ IT h) ++ Str.ofString " [") ++ y) ++ Str.ofString "]")
/-- the same of a tuple's members -/
def Ms2 (a : Str) (l h : Int) (y : Str) : Str := ((((((((Str.ofString "Attribute '" ++ a) ++ Str.ofString "' elements must be between ") ++ IT l) ++ Str.ofString "-") ++ IT h) ++ Str.ofString " [") ++ y) ++ Str.ofString "]")
/-- the words of a tuple's size -/
def Ms3 (a : Str) (l : Int) (y : Str) : Str := ((((((Str.ofString "Attribute '" ++ a) ++ Str.ofString "' must be tuple with ") ++ IT l) ++ Str.ofString " elements [") ++ y) ++ Str.ofString "]")
def pctSpec (b : Addr) (its : Array Value) (C : Heap → Prop) (T : Str) : PySem.Spec := fun A R s =>
  IsTup s.heap b its ∧ A.guards = some [] ∧ A.units + 24 < cLine ∧ A.handled = none ∧ C s.heap ∧ ∀ h' t' k, Kp s.heap h' → R (.ok (.ret (.str T t'))) { s with heap := h', toks := k }
theorem meets_pct {t : Sem Fin} {T : Str} {b : Addr} {its : Array Value} {C : Heap → Prop}
    (h : ∀ (prog : Program) (w : World) (A : Around) (s : Shared) (Q : Fin → Shared → Prop) (E : Value → Shared → Prop), IsTup s.heap b its → A.guards = some [] → A.units + 23 < cLine → A.handled = none → C s.heap →
      (∀ h' t' k, Kp s.heap h' → Q (.done (.ret (.str T t'))) { s with heap := h', toks := k }) → wpAny (model prog w) A t Q E s) : Meets t (pctSpec b its C T) :=
  Meets.of_wp fun prog w A _ s hS => h prog w A.in1 s _ _ hS.1 hS.2.1 (by show A.units + 1 + 23 < cLine; have := hS.2.2.1; omega) hS.2.2.2.1 hS.2.2.2.2.1 fun h' t' k hk => ⟨_, rfl, hS.2.2.2.2.2 h' t' k hk⟩
theorem hd2 {n : Int} (h : n.natAbs < 10 ^ 10) : ((n.natAbs : Nat) : Int).natAbs.log2 < 1920 := shown (N := 2 ^ 1920) (by omega) (by omega) (Int.le_refl _)

set_option maxHeartbeats 2000000 in
theorem pct1 {a y : Str} {l h : Int} {v : Value} {C : Heap → Prop} {b : Addr} {t t1 t2 t3 : Tok} (ok : StrOk v y C) (ha : a.length ≤ 10) (hl : l.natAbs < 10 ^ 10) (hh : h.natAbs < 10 ^ 10) :
    Meets («str.__mod__» ⟨[.str ⟨#[65, 116, 116, 114, 105, 98, 117, 116, 101, 32, 39, 37, 115, 39, 32, 109, 117, 115, 116, 32, 98, 101, 32, 98, 101, 116, 119, 101, 101, 110, 32, 37, 100, 45, 37, 100, 32, 91, 37, 115, 93]⟩ t, .ref b], []⟩) (pctSpec b #[.str a t1, .int l t2, .int h t3, v] C (Ms1 a l h y)) := by
  have hd1 := hd2 hl
  have hd3 := hd2 hh
  apply meets_pct
  intro _ _ _ s Q _ kptH hg hu hhd hC hQ
  obtain ⟨kptO, kptG, kptC, kptN, kptD⟩ := kptH
  rw [KPt.entry_is_r]
  unfold Builtin.Str.percentFormat
  refine wpAny_bind (wpAny_isInstance (T := "tuple") ⟨kptO, kptG, kptC⟩ KPt.sub_tt ?_)
  refine wpAny_bind (KPt.asStr_ref kptG kptD ?_)
  refine wpAny_bind (KPt.fills_ref ⟨kptO, kptG, kptC⟩ ?_)
  intro _
  kpc_if
  refine wpAny_bind (wpAny_seqItems kptG kptD ?_)
  refine wpAny_bind (wpAny_pure ?_)
  refine wpAny_bind ?_
  rw [KPc.range_list]
  refine KPc.start ?_
  intro _ _
  refine KPc.turn ?_; kpc_check; (repeat kpc_if)
  refine wpAny_pure ?_; kpt_piece
  -- %s of the name
  refine KPc.turn ?_; kpc_check; (repeat kpc_if)
  refine wpAny_bind ?_; refine wpAny_holding ?_; (repeat kpc_if)
  kpc_ofStr; refine wpAny_bind ?_; kpc_if; refine wpAny_of_eq (KPc.strOf_str _ _) ?_; refine wpAny_bind (wpAny_of_eq (a := some _) rfl ?_)
  refine wpAny_pure ?_; refine wpAny_pure ?_
  refine KPc.after_str (by kpc_g) (K := 10) ha (by kpc_obj) ?_; intro _ _
  -- the text between
  refine KPc.turn ?_; kpc_check; (repeat kpc_if)
  refine wpAny_pure ?_; kpt_piece
  -- %d
  refine KPc.turn ?_; kpc_check; (repeat kpc_if)
  refine wpAny_bind ?_; refine wpAny_holding ?_; (repeat kpc_if)
  refine wpAny_bind (wpAny_of_eq (a := _) rfl ?_); (repeat kpc_if)
  refine wpAny_bind (wpAny_mkInt ?_)
  refine wpAny_bind (call_gives F.slot_int_repr (PySem.typeIs_int _ _ _) F.entry_int_repr (F.args_int_repr_1 _) (gives_int_repr _ _ hd1) ⟨int_text_fits hd1, ?_⟩)
  refine wpAny_bind (wpAny_of_eq (a := some _) rfl ?_)
  refine wpAny_pure ?_; refine wpAny_pure ?_
  refine after_intZ (by kpc_g) rfl rfl rfl hl rfl (by kpc_none) ?_; intro _ _
  -- -
  refine KPc.turn ?_; kpc_check; (repeat kpc_if)
  refine wpAny_pure ?_; kpt_piece
  -- %d
  refine KPc.turn ?_; kpc_check; (repeat kpc_if)
  refine wpAny_bind ?_; refine wpAny_holding ?_; (repeat kpc_if)
  refine wpAny_bind (wpAny_of_eq (a := _) rfl ?_); (repeat kpc_if)
  refine wpAny_bind (wpAny_mkInt ?_)
  refine wpAny_bind (call_gives F.slot_int_repr (PySem.typeIs_int _ _ _) F.entry_int_repr (F.args_int_repr_1 _) (gives_int_repr _ _ hd3) ⟨int_text_fits hd3, ?_⟩)
  refine wpAny_bind (wpAny_of_eq (a := some _) rfl ?_)
  refine wpAny_pure ?_; refine wpAny_pure ?_
  refine after_intZ (by kpc_g) rfl rfl rfl hh rfl (by kpc_none) ?_; intro _ _
  -- [
  refine KPc.turn ?_; kpc_check; (repeat kpc_if)
  refine wpAny_pure ?_; kpt_piece
  -- %s of the value
  refine KPc.turn ?_; kpc_check; (repeat kpc_if)
  refine wpAny_bind ?_; refine wpAny_holding ?_; (repeat kpc_if)
  refine wpAny_bind ?_
  refine ok.run _ _ _ _ _ _ hg (by omega) hhd hC ?_
  intro h' t' k hk
  refine wpAny_bind (wpAny_of_eq (a := some _) rfl ?_)
  refine wpAny_pure ?_; refine wpAny_pure ?_
  refine KPc.after_str (by kpc_g) ok.len (by kpc_obj) ?_; intro _ _
  -- ]
  refine KPc.turn ?_; kpc_check; (repeat kpc_if)
  refine wpAny_pure ?_; kpt_piece
  refine KPc.turn ?_; kpc_check; (repeat kpc_if)
  refine wpAny_pure ?_; kpc_if; refine KPc.finish_ok (by kpc_g) (by decide +kernel) rfl ?_
  intro t' k
  exact hQ _ _ _ hk
set_option maxHeartbeats 2000000 in
theorem pct2 {a y : Str} {l h : Int} {v : Value} {C : Heap → Prop} {b : Addr} {t t1 t2 t3 : Tok} (ok : StrOk v y C) (ha : a.length ≤ 10) (hl : l.natAbs < 10 ^ 10) (hh : h.natAbs < 10 ^ 10) :
    Meets («str.__mod__» ⟨[.str ⟨#[65, 116, 116, 114, 105, 98, 117, 116, 101, 32, 39, 37, 115, 39, 32, 101, 108, 101, 109, 101, 110, 116, 115, 32, 109, 117, 115, 116, 32, 98, 101, 32, 98, 101, 116, 119, 101, 101, 110, 32, 37, 100, 45, 37, 100, 32, 91, 37, 115, 93]⟩ t, .ref b], []⟩) (pctSpec b #[.str a t1, .int l t2, .int h t3, v] C (Ms2 a l h y)) := by
  have hd1 := hd2 hl
  have hd3 := hd2 hh
  apply meets_pct
  intro _ _ _ s Q _ kptH hg hu hhd hC hQ
  obtain ⟨kptO, kptG, kptC, kptN, kptD⟩ := kptH
  rw [KPt.entry_is_r]
  unfold Builtin.Str.percentFormat
  refine wpAny_bind (wpAny_isInstance (T := "tuple") ⟨kptO, kptG, kptC⟩ KPt.sub_tt ?_)
  refine wpAny_bind (KPt.asStr_ref kptG kptD ?_)
  refine wpAny_bind (KPt.fills_ref ⟨kptO, kptG, kptC⟩ ?_)
  intro _
  kpc_if
  refine wpAny_bind (wpAny_seqItems kptG kptD ?_)
  refine wpAny_bind (wpAny_pure ?_)
  refine wpAny_bind ?_
  rw [KPc.range_list]
  refine KPc.start ?_
  intro _ _
  refine KPc.turn ?_; kpc_check; (repeat kpc_if)
  refine wpAny_pure ?_; kpt_piece
  -- %s of the name
  refine KPc.turn ?_; kpc_check; (repeat kpc_if)
  refine wpAny_bind ?_; refine wpAny_holding ?_; (repeat kpc_if)
  kpc_ofStr; refine wpAny_bind ?_; kpc_if; refine wpAny_of_eq (KPc.strOf_str _ _) ?_; refine wpAny_bind (wpAny_of_eq (a := some _) rfl ?_)
  refine wpAny_pure ?_; refine wpAny_pure ?_
  refine KPc.after_str (by kpc_g) (K := 10) ha (by kpc_obj) ?_; intro _ _
  -- the text between
  refine KPc.turn ?_; kpc_check; (repeat kpc_if)
  refine wpAny_pure ?_; kpt_piece
  -- %d
  refine KPc.turn ?_; kpc_check; (repeat kpc_if)
  refine wpAny_bind ?_; refine wpAny_holding ?_; (repeat kpc_if)
  refine wpAny_bind (wpAny_of_eq (a := _) rfl ?_); (repeat kpc_if)
  refine wpAny_bind (wpAny_mkInt ?_)
  refine wpAny_bind (call_gives F.slot_int_repr (PySem.typeIs_int _ _ _) F.entry_int_repr (F.args_int_repr_1 _) (gives_int_repr _ _ hd1) ⟨int_text_fits hd1, ?_⟩)
  refine wpAny_bind (wpAny_of_eq (a := some _) rfl ?_)
  refine wpAny_pure ?_; refine wpAny_pure ?_
  refine after_intZ (by kpc_g) rfl rfl rfl hl rfl (by kpc_none) ?_; intro _ _
  -- -
  refine KPc.turn ?_; kpc_check; (repeat kpc_if)
  refine wpAny_pure ?_; kpt_piece
  -- %d
  refine KPc.turn ?_; kpc_check; (repeat kpc_if)
  refine wpAny_bind ?_; refine wpAny_holding ?_; (repeat kpc_if)
  refine wpAny_bind (wpAny_of_eq (a := _) rfl ?_); (repeat kpc_if)
  refine wpAny_bind (wpAny_mkInt ?_)
  refine wpAny_bind (call_gives F.slot_int_repr (PySem.typeIs_int _ _ _) F.entry_int_repr (F.args_int_repr_1 _) (gives_int_repr _ _ hd3) ⟨int_text_fits hd3, ?_⟩)
  refine wpAny_bind (wpAny_of_eq (a := some _) rfl ?_)
  refine wpAny_pure ?_; refine wpAny_pure ?_
  refine after_intZ (by kpc_g) rfl rfl rfl hh rfl (by kpc_none) ?_; intro _ _
  -- [
  refine KPc.turn ?_; kpc_check; (repeat kpc_if)
  refine wpAny_pure ?_; kpt_piece
  -- %s of the value
  refine KPc.turn ?_; kpc_check; (repeat kpc_if)
  refine wpAny_bind ?_; refine wpAny_holding ?_; (repeat kpc_if)
  refine wpAny_bind ?_
  refine ok.run _ _ _ _ _ _ hg (by omega) hhd hC ?_
  intro h' t' k hk
  refine wpAny_bind (wpAny_of_eq (a := some _) rfl ?_)
  refine wpAny_pure ?_; refine wpAny_pure ?_
  refine KPc.after_str (by kpc_g) ok.len (by kpc_obj) ?_; intro _ _
  -- ]
  refine KPc.turn ?_; kpc_check; (repeat kpc_if)
  refine wpAny_pure ?_; kpt_piece
  refine KPc.turn ?_; kpc_check; (repeat kpc_if)
  refine wpAny_pure ?_; kpc_if; refine KPc.finish_ok (by kpc_g) (by decide +kernel) rfl ?_
  intro t' k
  exact hQ _ _ _ hk
set_option maxHeartbeats 2000000 in
theorem pct3 {a y : Str} {l : Int} {v : Value} {C : Heap → Prop} {b : Addr} {t t1 t2 : Tok} (ok : StrOk v y C) (ha : a.length ≤ 10) (hl : l.natAbs < 10 ^ 10) :
    Meets («str.__mod__» ⟨[.str ⟨#[65, 116, 116, 114, 105, 98, 117, 116, 101, 32, 39, 37, 115, 39, 32, 109, 117, 115, 116, 32, 98, 101, 32, 116, 117, 112, 108, 101, 32, 119, 105, 116, 104, 32, 37, 100, 32, 101, 108, 101, 109, 101, 110, 116, 115, 32, 91, 37, 115, 93]⟩ t, .ref b], []⟩) (pctSpec b #[.str a t1, .int l t2, v] C (Ms3 a l y)) := by
  have hd1 := hd2 hl
  apply meets_pct
  intro _ _ _ s Q _ kptH hg hu hhd hC hQ
  obtain ⟨kptO, kptG, kptC, kptN, kptD⟩ := kptH
  rw [KPt.entry_is_r]
  unfold Builtin.Str.percentFormat
  refine wpAny_bind (wpAny_isInstance (T := "tuple") ⟨kptO, kptG, kptC⟩ KPt.sub_tt ?_)
  refine wpAny_bind (KPt.asStr_ref kptG kptD ?_)
  refine wpAny_bind (KPt.fills_ref ⟨kptO, kptG, kptC⟩ ?_)
  intro _
  kpc_if
  refine wpAny_bind (wpAny_seqItems kptG kptD ?_)
  refine wpAny_bind (wpAny_pure ?_)
  refine wpAny_bind ?_
  rw [KPc.range_list]
  refine KPc.start ?_
  intro _ _
  refine KPc.turn ?_; kpc_check; (repeat kpc_if)
  refine wpAny_pure ?_; kpt_piece
  -- %s of the name
  refine KPc.turn ?_; kpc_check; (repeat kpc_if)
  refine wpAny_bind ?_; refine wpAny_holding ?_; (repeat kpc_if)
  kpc_ofStr; refine wpAny_bind ?_; kpc_if; refine wpAny_of_eq (KPc.strOf_str _ _) ?_; refine wpAny_bind (wpAny_of_eq (a := some _) rfl ?_)
  refine wpAny_pure ?_; refine wpAny_pure ?_
  refine KPc.after_str (by kpc_g) (K := 10) ha (by kpc_obj) ?_; intro _ _
  -- the text between
  refine KPc.turn ?_; kpc_check; (repeat kpc_if)
  refine wpAny_pure ?_; kpt_piece
  -- %d
  refine KPc.turn ?_; kpc_check; (repeat kpc_if)
  refine wpAny_bind ?_; refine wpAny_holding ?_; (repeat kpc_if)
  refine wpAny_bind (wpAny_of_eq (a := _) rfl ?_); (repeat kpc_if)
  refine wpAny_bind (wpAny_mkInt ?_)
  refine wpAny_bind (call_gives F.slot_int_repr (PySem.typeIs_int _ _ _) F.entry_int_repr (F.args_int_repr_1 _) (gives_int_repr _ _ hd1) ⟨int_text_fits hd1, ?_⟩)
  refine wpAny_bind (wpAny_of_eq (a := some _) rfl ?_)
  refine wpAny_pure ?_; refine wpAny_pure ?_
  refine after_intZ (by kpc_g) rfl rfl rfl hl rfl (by kpc_none) ?_; intro _ _
  -- [
  refine KPc.turn ?_; kpc_check; (repeat kpc_if)
  refine wpAny_pure ?_; kpt_piece
  -- %s of the value
  refine KPc.turn ?_; kpc_check; (repeat kpc_if)
  refine wpAny_bind ?_; refine wpAny_holding ?_; (repeat kpc_if)
  refine wpAny_bind ?_
  refine ok.run _ _ _ _ _ _ hg (by omega) hhd hC ?_
  intro h' t' k hk
  refine wpAny_bind (wpAny_of_eq (a := some _) rfl ?_)
  refine wpAny_pure ?_; refine wpAny_pure ?_
  refine KPc.after_str (by kpc_g) ok.len (by kpc_obj) ?_; intro _ _
  -- ]
  refine KPc.turn ?_; kpc_check; (repeat kpc_if)
  refine wpAny_pure ?_; kpt_piece
  refine KPc.turn ?_; kpc_check; (repeat kpc_if)
  refine wpAny_pure ?_; kpc_if; refine KPc.finish_ok (by kpc_g) (by decide +kernel) rfl ?_
  intro t' k
  exact hQ _ _ _ hk

section
variable {prog : Program} {w : World} {A : Around} {E : Value → Shared → Prop} {s : Shared} {X X' T : Str} {t : Tok} {Q : Value → Shared → Prop} {b L : Addr} {its : Array Value} {n : Nat} {h₀ : Heap} {news : List (Addr × Obj)} {C : Heap → Prop}
theorem mod_pct (N : News h₀ L s.heap news) (hb : (b, ({ cls := .type "tuple", data := .seq its n } : Obj)) ∈ news) (hX : X = X')
    (hm : Meets («str.__mod__» ⟨[.str X' t, .ref b], []⟩) (pctSpec b its C T)) (hg : A.guards = some []) (hu : A.units + 24 < cLine) (hh : A.handled = none) (hC : C s.heap)
    (h : ∀ h' t' k, Kp s.heap h' → Q (.str T t') { s with heap := h', toks := k }) : wpAny (model prog w) A (binaryOp .Mod (.str X t) (.ref b)) Q E s := by
  subst hX
  have ht : IsTup s.heap b its := N.isTup hb
  have hT : s.TypeIs (.ref b) "tuple" := by
    obtain ⟨o, ho, hc, _⟩ := ht
    exact ⟨o, ho, hc⟩
  exact KPt.bin_left (T := "str") (U := "tuple") (op := .Mod) (by decide) (PySem.typeIs_str s X t) hT F.fills_str_mod KPt.fills_tuple F.slot_str_mod
    (call_meets F.slot_str_mod (PySem.typeIs_str s X t) F.entry_str_mod (F.args_str_mod_2 _ _) hm ⟨ht, hg, hu, hh, hC, fun h' t' k hk => ⟨(fun e => nomatch e), h h' t' k hk⟩⟩)
theorem fm1 : Str.ofString "Attribute '%s' must be between %d-%d [%s]" = ⟨#[65, 116, 116, 114, 105, 98, 117, 116, 101, 32, 39, 37, 115, 39, 32, 109, 117, 115, 116, 32, 98, 101, 32, 98, 101, 116, 119, 101, 101, 110, 32, 37, 100, 45, 37, 100, 32, 91, 37, 115, 93]⟩ := by decide +kernel
theorem fm2 : Str.ofString "Attribute '%s' elements must be between %d-%d [%s]" = ⟨#[65, 116, 116, 114, 105, 98, 117, 116, 101, 32, 39, 37, 115, 39, 32, 101, 108, 101, 109, 101, 110, 116, 115, 32, 109, 117, 115, 116, 32, 98, 101, 32, 98, 101, 116, 119, 101, 101, 110, 32, 37, 100, 45, 37, 100, 32, 91, 37, 115, 93]⟩ := by decide +kernel
theorem fm3 : Str.ofString "Attribute '%s' must be tuple with %d elements [%s]" = ⟨#[65, 116, 116, 114, 105, 98, 117, 116, 101, 32, 39, 37, 115, 39, 32, 109, 117, 115, 116, 32, 98, 101, 32, 116, 117, 112, 108, 101, 32, 119, 105, 116, 104, 32, 37, 100, 32, 101, 108, 101, 109, 101, 110, 116, 115, 32, 91, 37, 115, 93]⟩ := by decide +kernel
end
end Mine
end
theorem Mine.resetAqWords : True := by
  w_top off
  first | walk1 | exact trivial
section
open PySem PySem.W PySem.Spec PySem.Calls PyProof.Rows
set_option Elab.async false
set_option maxRecDepth 100000
namespace Mine
theorem add_strs {prog : Program} {w : World} {A : Around} {E : Value → Shared → Prop} {s : Shared} {x y : Str} {t u : Tok} {Q : Value → Shared → Prop} {N K : Nat} (hx : x.length ≤ N) (hy : y.length ≤ K) (hN : N + K ≤ 1000000)
    (h : ∀ t' k, (x ++ y).length ≤ N + K → Q (.str (x ++ y) t') { s with toks := k }) : wpAny (model prog w) A (binaryOp .Add (.str x t) (.str y u)) Q E s :=
  add_str (fun t' k => h t' k (by rw [Str.length_append]; omega)) (by rw [sizeLine_eq]; omega)
/-- what holds of a heap at a call: the top's objects and the ledger -/
def CW (w : World) (news : List (Addr × Obj)) (h : Heap) : Prop := ∃ (g : Heap) (L : Addr) (m : Str → Option Value) (mean : ExcName → Option Value) (mg mb : Str → Option Value), Fr g L h m ∧ (KK w).In g ∧ Top topProg LO mean mg mb g ∧ News g L h news
theorem cw_of {w : World} {news : List (Addr × Obj)} {g h : Heap} {L : Addr} {m : Str → Option Value} {mean : ExcName → Option Value} {mg mb : Str → Option Value} (F : Fr g L h m) (X : (hd.heap_39 w.params).In g) (T : Top topProg LO mean mg mb g) (N : News g L h news) : CW w news h := ⟨g, L, m, mean, mg, mb, F, X, T, N⟩
theorem cw_up {w : World} {news : List (Addr × Obj)} {h h' : Heap} (k : Kp h h') (c : CW w news h) : CW w news h' := by
  obtain ⟨g, L, m, mean, mg, mb, F, X, T, N⟩ := c
  exact ⟨g, L, m, mean, mg, mb, F.keptAll k, X, T, N.grown k⟩
theorem cw_drop {w : World} {news news' : List (Addr × Obj)} {h : Heap} (c : CW w news' h) (hs : ∀ p ∈ news, p ∈ news') : CW w news h := by
  obtain ⟨g, L, m, mean, mg, mb, F, X, T, N⟩ := c
  exact ⟨g, L, m, mean, mg, mb, F, X, T, fun p hp => N p (hs p hp)⟩
theorem cw_digits {w : World} {news : List (Addr × Obj)} {h : Heap} (c : CW w news h) : h.NoDigits := by
  obtain ⟨g, L, m, mean, mg, mb, F, X, T, N⟩ := c
  exact Heap.NoDigits.keeps T.nodigits F.keep
theorem StrOk.to {v : Value} {y : Str} {C D : Heap → Prop} (x : StrOk v y C) (up : ∀ h h' : Heap, Kp h h' → D h → D h') (c : ∀ h, D h → C h) : StrOk v y D :=
  ⟨x.len, up, fun prog w A E s Q hg hu hh hc hq => x.run prog w A E s Q hg hu hh (c _ hc) hq⟩
/-- str(v) reads y wherever the ledger bears news -/
abbrev Says (w : World) (news : List (Addr × Obj)) (v : Value) (y : Str) : Prop := StrOk v y (CW w news)
section
variable {w : World} {news : List (Addr × Obj)}
theorem says_int (n : Int) (t : Tok) (h : Fit n) : Says w news (.int n t) (IT n) := (strOk_int n t h).to (fun _ _ k c => cw_up k c) fun _ c => cw_digits c
theorem says_bool (b : Bool) : Says w news (.bool b) (if b then "True" else "False") := (strOk_bool b).to (fun _ _ k c => cw_up k c) fun _ _ => trivial
theorem says_none : Says w news .none "None" := strOk_none.to (fun _ _ k c => cw_up k c) fun _ _ => trivial
theorem says_str (x : Str) (t : Tok) (h : x.length ≤ 100000) : Says w news (.str x t) x := (strOk_str x t h).to (fun _ _ k c => cw_up k c) fun _ _ => trivial
theorem says_bytes (t : Tok) : Says w news (.bytes #[97] t) (Str.ofString "b'a'") := (strOk_bytes t).to (fun _ _ k c => cw_up k c) fun _ _ => trivial
theorem says_ref {a : Addr} {d : PyData} (r : ∀ h, CW w news h → ∃ as, Reads h (.ref a) d as) (hs : d.showable = true) (hd : d.hasDict = false) (hp : d.depth ≤ 4) (hl : d.shown.length ≤ 100000) : Says w news (.ref a) d.shown where
  len := hl
  up := fun _ _ k c => cw_up k c
  run := fun prog w A E s Q hg hu hh hc hq => by
    obtain ⟨as, ra⟩ := r _ hc
    exact (strOk_ref ra hs hd hp hl).run prog w A E s Q hg hu hh (fun _ _ e => e) hq
end
section
variable {prog : Program} {w : World} {A : Around} {E : Value → Shared → Prop} {s : Shared} {h₀ : Heap} {L : Addr} {m : Str → Option Value} {news : List (Addr × Obj)} {v : Value} {y : Str} {Q : Value → Shared → Prop} {mean : ExcName → Option Value} {mg mb : Str → Option Value}
theorem str_says (ok : Says w news v y) (F : Fr h₀ L s.heap m) (X : (hd.heap_39 w.params).In h₀) (T : Top topProg LO mean mg mb h₀) (N : News h₀ L s.heap news) (hg : A.guards = some []) (hu : A.units + 20 < cLine) (hh : A.handled = none)
    (hq : ∀ h' t k, Fr h₀ L h' m → News h₀ L h' news → Q (.str y t) { s with heap := h', toks := k }) : wpAny (model prog w) A (call (.type "str") [v]) Q E s :=
  strOk_call ok hg hu hh ⟨h₀, L, m, mean, mg, mb, F, X, T, N⟩ fun h' t k hk => hq h' t k (F.keptAll hk) (N.grown hk)
theorem mod_says {X : Str} {T : Str} {t : Tok} {b : Addr} {its : Array Value} {n : Nat} {X' : Str} {news' : List (Addr × Obj)}
    (N' : News h₀ L s.heap news') (hb : (b, ({ cls := .type "tuple", data := .seq its n } : Obj)) ∈ news') (hX : X = X')
    (hm : Meets (Builtin.«str.__mod__» ⟨[.str X' t, .ref b], []⟩) (pctSpec b its (CW w news) T)) (F : Fr h₀ L s.heap m) (X₀ : (hd.heap_39 w.params).In h₀) (T₀ : Top topProg LO mean mg mb h₀) (N : News h₀ L s.heap news) (hg : A.guards = some []) (hu : A.units + 24 < cLine) (hh : A.handled = none)
    (h : ∀ h' t' k, Fr h₀ L h' m → News h₀ L h' news' → Q (.str T t') { s with heap := h', toks := k }) : wpAny (model prog w) A (binaryOp .Mod (.str X t) (.ref b)) Q E s :=
  mod_pct N' hb hX hm hg hu hh ⟨h₀, L, m, mean, mg, mb, F, X₀, T₀, N⟩ fun h' t' k hk => h h' t' k (F.keptAll hk) (N'.grown hk)
end
local macro_rules | `(tactic| walk_at "call type:str") => `(tactic| (k_here; (refine' str_says ?ok ?F ?X ?T ?N ?g ?u ?h ?_; (case ok => assumption); (case F => k_asm); (case X => k_asm); (case T => k_asm); (case N => k_asm); (case g => exact rfl); (case u => ktr_units); (case h => exact rfl); k_whole); intro h' t' k' F' N'; (try k_sweep)))
local macro_rules | `(tactic| walk_at "binaryOp Add str str") => `(tactic| (k_here; (with_reducible show wpAny _ _ (binaryOp _ (Value.str _ _) (Value.str _ _)) _ _ _); (refine' add_strs ?x ?y ?z ?_; (case x => first | with_reducible assumption | exact Nat.le_refl _); (case y => first | with_reducible assumption | exact Nat.le_refl _); (case z => decide +kernel); k_whole); intro t' k' hL'))
set_option maxHeartbeats 400000 in
theorem words (w : World) (nm : Str) (v : Value) (y : Str) (l h : Int) (t0 t2 t3 : Tok) (hn : nm.length ≤ 10) (hl : l.natAbs < 10 ^ 10) (hh : h.natAbs < 10 ^ 10) : Ctr w 121 [.str nm t0, v, .int l t2, .int h t3] (fun _ news => Says w news v y) (fun r => ∃ t, r = .str (Ms1 nm l h y) t) := by
  unfold Ctr KK PR
  k_fill
  intro mean mg mb dp un cn cs a ccd cl outer A₀ base h₀ L m news s Q E B F X N T hk hp hd hu hret
  have hyl := hp.len
  have hsl : Says w news (.int l t2) (IT l) := says_int l t2 (fit_small hl)
  have hsh : Says w news (.int h t3) (IT h) := says_int h t3 (fit_small hh)
  have hll := it_len11 hl
  have hlh := it_len11 hh
  refine wpAny_call ?_
  k_dflt cell_enter
  k_steps
  all_goals (refine hret _ _ _ ?_ (by k_asm) (by k_asm); exact ⟨_, rfl⟩)
end Mine
end
theorem Mine.resetAqKind : True := by
  w_top off
  first | walk1 | exact trivial
section
open PySem PySem.W PySem.Spec PySem.Calls PyProof.Rows
set_option Elab.async false
set_option maxRecDepth 100000
namespace Mine
/-- a step that reads alone: from here with q it comes back q -/
abbrev Reads1 (w : World) (t : Sem Value) (q : Value) : Prop :=
  ∀ (mean : ExcName → Option Value) (mg mb : Str → Option Value) (A : Around) (E : Value → Shared → Prop) (s : Shared) (h₀ : Heap) (L : Addr) (m : Str → Option Value) (news : List (Addr × Obj)) (Q : Value → Shared → Prop),
    A.units + 40 < cLine → A.handled = none → A.guards = some [] → Fr h₀ L s.heap m → (hd.heap_39 w.params).In h₀ → Top topProg LO mean mg mb h₀ → News h₀ L s.heap news → (∀ tk, Q q { s with toks := tk }) → wpAny (model Challenge.rw_aq6015_01.row.prog w) A t Q E s
/-- what the code asks of a value: is it an int, and how does it stand to the bounds -/
structure Kind (w : World) (v : Value) (o : Option Int) : Prop where
  isInt : Reads1 w (call (.builtin "isinstance") [v, .type "int"]) (.bool o.isSome)
  isInts : Reads1 w (call (.builtin "isinstance") [v, .ref 15]) (.bool o.isSome)
  least : ∀ n, o = some n → ∀ (l : Int) (t : Tok), Reads1 w (compareOp .LtE (.int l t) v) (.bool (decide (l ≤ n)))
  most : ∀ n, o = some n → ∀ (l : Int) (t : Tok), Reads1 w (compareOp .LtE v (.int l t)) (.bool (decide (n ≤ l)))
theorem gives_bool_ge (b : Bool) (a : Int) (t : Tok) : Gives (Builtin.«int.__ge__» ⟨[.bool b, .int a t], []⟩) (.val (Value.bool (decide ((if b = true then (1 : Int) else 0) ≥ a)))) :=
  .of_wp fun M A E s Q h => by obtain ⟨hp, g, d, tk, os⟩ := s; wp_walk; exact ⟨_, rfl, h⟩
theorem gives_bool_le (b : Bool) (a : Int) (t : Tok) : Gives (Builtin.«int.__le__» ⟨[.bool b, .int a t], []⟩) (.val (Value.bool (decide ((if b = true then (1 : Int) else 0) ≤ a)))) :=
  .of_wp fun M A E s Q h => by obtain ⟨hp, g, d, tk, os⟩ := s; wp_walk; exact ⟨_, rfl, h⟩
section
variable {prog : Program} {w : World} {A : Around} {E : Value → Shared → Prop} {s : Shared} {Q : Value → Shared → Prop}
theorem le_int_bool {a : Int} {t : Tok} {b : Bool} (h : Q (.bool (decide (a ≤ (if b then 1 else 0)))) s) : wpAny (model prog w) A (compareOp .LtE (.int a t) (.bool b)) Q E s :=
  SeqAt.rc_sub_first_or (op := .LtE) (PySem.typeIs_int s a t) rfl (by decide) F.sub_bool_int F.slot_bool_ge_refl
    (call_gives F.slot_bool_ge_refl rfl F.entry_int_ge (F.args_int_ge_2 _ _) (gives_bool_ge b a t) ⟨nofun, h⟩) (.inl rfl)
theorem le_bool_int {a : Int} {t : Tok} {b : Bool} (h : Q (.bool (decide ((if b then 1 else 0) ≤ a))) s) : wpAny (model prog w) A (compareOp .LtE (.bool b) (.int a t)) Q E s :=
  SeqAt.rc_left_or (op := .LtE) rfl (PySem.typeIs_int s a t) (by decide) F.sub_int_bool F.slot_bool_le
    (call_gives F.slot_bool_le rfl F.entry_int_le (F.args_int_le_2 _ _) (gives_bool_le b a t) ⟨nofun, h⟩) (.inl rfl)
end
local macro_rules | `(tactic| walk_at "compareOp LtE int bool") => `(tactic| refine le_int_bool ?_)
local macro_rules | `(tactic| walk_at "compareOp LtE bool int") => `(tactic| refine le_bool_int ?_)
set_option maxHeartbeats 1000000
theorem kind_int (w : World) (n : Int) (u : Tok) : Kind w (.int n u) (some n) where
  isInt := by
    unfold Reads1
    k_fill
    intro mean mg mb A E s h₀ L m news Q hu hh hg F X T N h
    walk1
    all_goals exact h _
  isInts := by
    unfold Reads1
    k_fill
    intro mean mg mb A E s h₀ L m news Q hu hh hg F X T N h
    walk1
    all_goals exact h _
  least := by
    intro n' e l t
    cases e
    intro mean mg mb A E s h₀ L m news Q hu hh hg F X T N h
    walk1
    all_goals exact h _
  most := by
    intro n' e l t
    cases e
    intro mean mg mb A E s h₀ L m news Q hu hh hg F X T N h
    walk1
    all_goals exact h _
theorem kind_bool (w : World) (b : Bool) : Kind w (.bool b) (some (if b then 1 else 0)) where
  isInt := by
    unfold Reads1
    k_fill
    intro mean mg mb A E s h₀ L m news Q hu hh hg F X T N h
    walk1
    all_goals exact h _
  isInts := by
    unfold Reads1
    k_fill
    intro mean mg mb A E s h₀ L m news Q hu hh hg F X T N h
    walk1
    all_goals exact h _
  least := by
    intro n' e l t
    cases e
    intro mean mg mb A E s h₀ L m news Q hu hh hg F X T N h
    walk1
    all_goals exact h _
  most := by
    intro n' e l t
    cases e
    intro mean mg mb A E s h₀ L m news Q hu hh hg F X T N h
    walk1
    all_goals exact h _
theorem kind_str (w : World) (x : Str) (u : Tok) : Kind w (.str x u) none where
  isInt := by
    unfold Reads1
    k_fill
    intro mean mg mb A E s h₀ L m news Q hu hh hg F X T N h
    walk1
    all_goals exact h _
  isInts := by
    unfold Reads1
    k_fill
    intro mean mg mb A E s h₀ L m news Q hu hh hg F X T N h
    walk1
    all_goals exact h _
  least := fun _ e => nomatch e
  most := fun _ e => nomatch e
theorem kind_none (w : World)  : Kind w .none none where
  isInt := by
    unfold Reads1
    k_fill
    intro mean mg mb A E s h₀ L m news Q hu hh hg F X T N h
    walk1
    all_goals exact h _
  isInts := by
    unfold Reads1
    k_fill
    intro mean mg mb A E s h₀ L m news Q hu hh hg F X T N h
    walk1
    all_goals exact h _
  least := fun _ e => nomatch e
  most := fun _ e => nomatch e
theorem kind_bytes (w : World) (x : Array UInt8) (u : Tok) : Kind w (.bytes x u) none where
  isInt := by
    unfold Reads1
    k_fill
    intro mean mg mb A E s h₀ L m news Q hu hh hg F X T N h
    walk1
    all_goals exact h _
  isInts := by
    unfold Reads1
    k_fill
    intro mean mg mb A E s h₀ L m news Q hu hh hg F X T N h
    walk1
    all_goals exact h _
  least := fun _ e => nomatch e
  most := fun _ e => nomatch e
theorem kind_list (w : World)  : Kind w (.ref 99) none where
  isInt := by
    unfold Reads1
    k_fill
    intro mean mg mb A E s h₀ L m news Q hu hh hg F X T N h
    walk1
    all_goals exact h _
  isInts := by
    unfold Reads1
    k_fill
    intro mean mg mb A E s h₀ L m news Q hu hh hg F X T N h
    walk1
    all_goals exact h _
  least := fun _ e => nomatch e
  most := fun _ e => nomatch e
end Mine
end
theorem Mine.resetAqIn : True := by
  w_top off
  first | walk1 | exact trivial
section
open PySem PySem.W PySem.Spec PySem.Calls PyProof.Rows
set_option Elab.async false
set_option maxRecDepth 100000
namespace Mine
/-- within the bounds -/
def Inside (o : Option Int) (l h : Int) : Prop := ∃ n, o = some n ∧ l ≤ n ∧ n ≤ h
def insideB (o : Option Int) (l h : Int) : Bool := match o with | some n => decide (l ≤ n) && decide (n ≤ h) | none => false
theorem inside_iff (o : Option Int) (l h : Int) : insideB o l h = true ↔ Inside o l h := by
  cases o with
  | none => simp [insideB, Inside]
  | some n => simp [insideB, Inside]
local macro_rules | `(tactic| walk_at "call builtin:isinstance") => `(tactic| (k_here; (first | (refine' Kind.isInt (by assumption) _ _ _ _ _ _ _ _ _ _ _ ?u ?h ?g ?F ?X ?T ?N ?_) | (refine' Kind.isInts (by assumption) _ _ _ _ _ _ _ _ _ _ _ ?u ?h ?g ?F ?X ?T ?N ?_)); (case u => ktr_units); (case h => exact rfl); (case g => exact rfl); (case F => k_asm); (case X => k_asm); (case T => k_asm); (case N => k_asm); k_whole; intro tk'; (try simp only [Option.isSome_some, Option.isSome_none])))
local macro_rules | `(tactic| walk_at "compareOp LtE") => `(tactic| (k_here; (first | (refine' Kind.least (by assumption) _ rfl _ _ _ _ _ _ _ _ _ _ _ _ _ ?u ?h ?g ?F ?X ?T ?N ?_) | (refine' Kind.most (by assumption) _ rfl _ _ _ _ _ _ _ _ _ _ _ _ _ ?u ?h ?g ?F ?X ?T ?N ?_)); (case u => ktr_units); (case h => exact rfl); (case g => exact rfl); (case F => k_asm); (case X => k_asm); (case T => k_asm); (case N => k_asm); k_whole; intro tk'))
set_option maxHeartbeats 1000000 in
theorem inside (w : World) (v : Value) (o : Option Int) (l h : Int) (t2 t3 : Tok) (K : Kind w v o) : Ctr w 114 [v, .int l t2, .int h t3] (fun _ _ => True) (fun r => r = .bool (insideB o l h)) := by
  unfold Ctr KK PR
  k_fill
  intro mean mg mb dp un cn cs a ccd cl outer A₀ base h₀ L m news s Q E B F X N T hk hp hd hu hret
  refine wpAny_call ?_
  k_dflt cell_enter
  cases o
  all_goals k_steps
  all_goals (refine hret _ _ _ ?_ (by k_asm) (by k_asm); simp_all [insideB] <;> (intros; omega))
end Mine
end
theorem Mine.resetAqRaise : True := by
  w_top off
  first | walk1 | exact trivial
section
open PySem PySem.W PySem.Spec PySem.Calls PyProof.Rows
set_option Elab.async false
set_option maxRecDepth 100000
namespace Mine
/-- a call's claim that comes back or raises ValueError with the words -/
def CtrX (k : Nat) (w : World) (f : Addr) (vs : List Value) (pre : List (Addr × Obj) → Prop) (good : Bool) (Ret : Value → Prop) (Ws : List Value → Prop) : Prop :=
  ∀ (mean : ExcName → Option Value) (mg mb : Str → Option Value) (dp un : Nat) (cn : Str) (cs : Scope) (a : Addr) (ccd : Value) (outer : List Env) (A₀ : Around) (base h₀ : Heap) (L : Addr) (m : Str → Option Value) (news : List (Addr × Obj)) (s : Shared) (Q E : Value → Shared → Prop),
    Below A₀ base outer h₀ → Fr h₀ L s.heap m → (KK w).In h₀ → News h₀ L s.heap news → Top topProg LO mean mg mb h₀ → cs.kind = .function → pre news →
    dp + 4 * k < recursionLimit → un + 100 * k < cLine →
    (good = true → ∀ (r : Value) (h' : Heap) (tk' : Nat), Ret r → Fr h₀ L h' m → News h₀ L h' news → Q r { s with heap := h', toks := tk' }) →
    (good = false → ∀ (e t : Addr) (vs : List Value) (h' G : Heap) (tk' : Nat), Ws vs → Fr h₀ L G m → RaisedS base G (envOf cn cs L a ccd :: outer) e (.type "ValueError") t vs news h' → G.UpToSlots h' → E (.ref e) { s with heap := h', toks := tk' }) →
    wpAny (model PR w) (ktrTop dp un (some []) cn cs L a ccd [] outer) (call (.ref f) vs) Q E s
theorem raisedS_drop {base G : Heap} {l : List Env} {e t : Addr} {cls : Value} {vs : List Value} {news news' : List (Addr × Obj)} {h : Heap} (R : RaisedS base G l e cls t vs news' h) (hs : ∀ p ∈ news, p ∈ news') : RaisedS base G l e cls t vs news h := by
  obtain ⟨⟨B, b1, b2, b3, b4⟩, b5⟩ := R
  exact ⟨⟨B, b1, b2, fun q hq => b3 q (hs q hq), b4⟩, b5⟩
theorem insideB_t {n l h : Int} (a : l ≤ n) (b : n ≤ h) : insideB (some n) l h = true := (inside_iff _ _ _).mpr ⟨n, rfl, a, b⟩
theorem insideB_f1 {n l h : Int} (a : ¬ l ≤ n) : insideB (some n) l h = false := by simp [insideB, a]
theorem insideB_f2 {n l h : Int} (a : ¬ n ≤ h) : insideB (some n) l h = false := by simp [insideB, a]
theorem insideB_n {l h : Int} : insideB none l h = false := rfl
local macro_rules | `(tactic| walk_at "call builtin:isinstance") => `(tactic| (k_here; (first | (refine' Kind.isInt (by assumption) _ _ _ _ _ _ _ _ _ _ _ ?u ?h ?g ?F ?X ?T ?N ?_) | (refine' Kind.isInts (by assumption) _ _ _ _ _ _ _ _ _ _ _ ?u ?h ?g ?F ?X ?T ?N ?_)); (case u => ktr_units); (case h => exact rfl); (case g => exact rfl); (case F => k_asm); (case X => k_asm); (case T => k_asm); (case N => k_asm); k_whole; intro tk'; (try simp only [Option.isSome_some, Option.isSome_none])))
local macro_rules | `(tactic| walk_at "compareOp LtE") => `(tactic| (k_here; (first | (refine' Kind.least (by assumption) _ rfl _ _ _ _ _ _ _ _ _ _ _ _ _ ?u ?h ?g ?F ?X ?T ?N ?_) | (refine' Kind.most (by assumption) _ rfl _ _ _ _ _ _ _ _ _ _ _ _ _ ?u ?h ?g ?F ?X ?T ?N ?_)); (case u => ktr_units); (case h => exact rfl); (case g => exact rfl); (case F => k_asm); (case X => k_asm); (case T => k_asm); (case N => k_asm); k_whole; intro tk'))
local macro_rules | `(tactic| walk_at "leaving ref") => `(tactic| (k_here; (refine' leave_raiseS ?k1 ?k0 ?k2 ?k3 ?_; (case k0 => exact Heap.MadeExc.of (by assumption)); (case k2 => assumption); (case k1 => assumption); (case k3 => k_asm); k_whole; intro h' t' S' R' U'; (try dsimp only at S' R' U' ⊢))))
local macro_rules | `(tactic| walk_at "binaryOp Mod str ref") => `(tactic| (k_here; k_dflt (refine' mod_says ?N' ?hb fm1 (pct1 ?p1 ?p2 ?p3 ?p4) ?F ?X ?T ?N ?g ?u ?h ?_; (case N' => k_asm); (case hb => k_mem); (case p1 => with_reducible assumption); (case p2 => with_reducible assumption); (case p3 => with_reducible assumption); (case p4 => with_reducible assumption); (case F => k_asm); (case X => k_asm); (case T => k_asm); (case N => (first | k_asm | (refine' cb_drop ?cbN ?cbS; (case cbN => assumption); (case cbS => kcj_all)))); (case g => exact rfl); (case u => ktr_units); (case h => exact rfl); k_whole); intro h' t' k' F' N'; (try k_sweep)))
set_option maxHeartbeats 1000000 in
theorem range_property (w : World) (nm : Str) (v : Value) (o : Option Int) (y : Str) (l h : Int) (t0 t2 t3 : Tok) (K : Kind w v o) (hn : nm.length ≤ 10) (hl : l.natAbs < 10 ^ 10) (hh : h.natAbs < 10 ^ 10) :
    CtrX 1 w 58 [.str nm t0, v, .int l t2, .int h t3] (fun news => Says w news v y) (insideB o l h) (fun r => r = v) (fun vs => ∃ u, vs = [.str (Ms1 nm l h y) u]) := by
  unfold CtrX KK PR
  k_fill
  intro mean mg mb dp un cn cs a ccd outer A₀ base h₀ L m news s Q E B F X N T hk hp hd hu hret hexc
  refine wpAny_call ?_
  k_dflt cell_enter
  cases o
  all_goals k_steps
  all_goals first
    | (refine hret ?_ _ _ _ rfl (by k_asm) (by k_asm); exact insideB_t (by with_reducible assumption) (by with_reducible assumption))
    | ((rename RaisedS _ _ _ _ _ _ _ _ _ => rS); refine hexc ?_ _ _ _ _ _ _ ⟨_, rfl⟩ ?_ (raisedS_drop rS ?_) ?_; (first | exact insideB_n | exact insideB_f1 (by with_reducible assumption) | exact insideB_f2 (by with_reducible assumption)); assumption; kcj_all; assumption)
set_option maxHeartbeats 1000000 in
theorem check_range (w : World) (nm : Str) (v : Value) (o : Option Int) (y : Str) (l h : Int) (t0 t2 t3 : Tok) (K : Kind w v o) (hn : nm.length ≤ 10) (hl : l.natAbs < 10 ^ 10) (hh : h.natAbs < 10 ^ 10) :
    CtrX 1 w 51 [.str nm t0, v, .int l t2, .int h t3] (fun news => Says w news v y) (insideB o l h) (fun r => r = .none) (fun vs => ∃ u, vs = [.str (Ms1 nm l h y) u]) := by
  unfold CtrX KK PR
  k_fill
  intro mean mg mb dp un cn cs a ccd outer A₀ base h₀ L m news s Q E B F X N T hk hp hd hu hret hexc
  refine wpAny_call ?_
  k_dflt cell_enter
  cases o
  all_goals k_steps
  all_goals first
    | (refine hret ?_ _ _ _ rfl (by k_asm) (by k_asm); exact insideB_t (by with_reducible assumption) (by with_reducible assumption))
    | ((rename RaisedS _ _ _ _ _ _ _ _ _ => rS); refine hexc ?_ _ _ _ _ _ _ ⟨_, rfl⟩ ?_ (raisedS_drop rS ?_) ?_; (first | exact insideB_n | exact insideB_f1 (by with_reducible assumption) | exact insideB_f2 (by with_reducible assumption)); assumption; kcj_all; assumption)
end Mine
end
theorem Mine.resetAqShort : True := by
  w_top off
  first | walk1 | exact trivial
section
open PySem PySem.W PySem.Spec PySem.Calls PyProof.Rows
set_option Elab.async false
set_option maxRecDepth 100000
namespace Mine
theorem CtrX.use {k : Nat} {w : World} {f : Addr} {vs : List Value} {pre : List (Addr × Obj) → Prop} {good : Bool} {Ret : Value → Prop} {Ws : List Value → Prop} (C : CtrX k w f vs pre good Ret Ws)
    {mean : ExcName → Option Value} {mg mb : Str → Option Value} {dp un : Nat} {cn : Str} {cs : Scope} {a : Addr} {ccd : Value} {outer : List Env} {A₀ : Around} {base h₀ : Heap} {L : Addr} {m : Str → Option Value} {news : List (Addr × Obj)} {s : Shared} {Q E : Value → Shared → Prop}
    (B : Below A₀ base outer h₀) (F : Fr h₀ L s.heap m) (X : (hd.heap_39 w.params).In h₀) (N : News h₀ L s.heap news) (T : Top topProg LO mean mg mb h₀) (hk : cs.kind = .function) (hp : pre news) (hdp : dp + 4 * k < recursionLimit) (hun : un + 100 * k < cLine)
    (hret : good = true → ∀ (r : Value) (h' : Heap) (tk' : Nat), Ret r → Fr h₀ L h' m → News h₀ L h' news → Q r { s with heap := h', toks := tk' })
    (hexc : good = false → ∀ (e t : Addr) (vs : List Value) (h' G : Heap) (tk' : Nat), Ws vs → Fr h₀ L G m → RaisedS base G (envOf cn cs L a ccd :: outer) e (.type "ValueError") t vs news h' → G.UpToSlots h' → E (.ref e) { s with heap := h', toks := tk' }) :
    wpAny (model Challenge.rw_aq6015_01.row.prog w) (ktrTop dp un (some []) cn cs L a ccd [] outer) (call (.ref f) vs) Q E s := C _ _ _ _ _ _ _ _ _ _ _ _ _ _ _ _ _ _ _ B F X N T hk hp hdp hun hret hexc
local macro_rules | `(tactic| walk_at "leaving ref") => `(tactic| (k_here; (refine' leave_onS ?k1 ?k2 ?k3 ?k4 ?_; (case k3 => assumption); (case k2 => assumption); (case k1 => assumption); (case k4 => assumption); k_whole; intro h' S' R' U'; (try dsimp only at S' R' U' ⊢))))
local macro_rules | `(tactic| walk_at "call ref") => `(tactic| (k_here; (k_dflt (refine' CtrX.use (range_property _ _ _ _ _ _ _ _ _ _ ?K ?n ?l ?h) ?B ?F ?X ?N ?T ?hk ?hp ?hd ?hu ?r ?e; (case K => with_reducible assumption); (case n => with_reducible assumption); (case l => decide); (case h => decide); (case B => k_asm); (case F => k_asm); (case X => k_asm); (case N => k_asm); (case T => k_asm); (case hk => first | assumption | exact rfl); (case hp => with_reducible assumption); (case hd => ktr_room); (case hu => ktr_units))); (case' r => (intro gd' r' h' tk' e' F' N'; subst e')); (case' e => (intro gd' e' t' vs' h' G' tk' w' F' R' U'))))
set_option maxHeartbeats 1000000 in
theorem short_B (w : World) (nm : Str) (v : Value) (o : Option Int) (y : Str) (t0 : Tok) (K : Kind w v o) (hn : nm.length ≤ 10) :
    CtrX 2 w 65 [.str nm t0, v] (fun news => Says w news v y) (insideB o 0 255) (fun r => r = v) (fun vs => ∃ u, vs = [.str (Ms1 nm 0 255 y) u]) := by
  unfold CtrX KK PR
  k_fill
  intro mean mg mb dp un cn cs a ccd outer A₀ base h₀ L m news s Q E B F X N T hk hp hd hu hret hexc
  refine wpAny_call ?_
  k_dflt cell_enter
  k_steps
  all_goals first
    | (refine hret (by assumption) _ _ _ rfl (by k_asm) (by k_asm))
    | ((rename RaisedS _ _ _ _ _ _ _ _ _ => rS); refine hexc (by assumption) _ _ _ _ _ _ (by assumption) ?_ (raisedS_drop rS ?_) ?_; assumption; kcj_all; assumption)
set_option maxHeartbeats 1000000 in
theorem short_H (w : World) (nm : Str) (v : Value) (o : Option Int) (y : Str) (t0 : Tok) (K : Kind w v o) (hn : nm.length ≤ 10) :
    CtrX 2 w 72 [.str nm t0, v] (fun news => Says w news v y) (insideB o 0 65535) (fun r => r = v) (fun vs => ∃ u, vs = [.str (Ms1 nm 0 65535 y) u]) := by
  unfold CtrX KK PR
  k_fill
  intro mean mg mb dp un cn cs a ccd outer A₀ base h₀ L m news s Q E B F X N T hk hp hd hu hret hexc
  refine wpAny_call ?_
  k_dflt cell_enter
  k_steps
  all_goals first
    | (refine hret (by assumption) _ _ _ rfl (by k_asm) (by k_asm))
    | ((rename RaisedS _ _ _ _ _ _ _ _ _ => rS); refine hexc (by assumption) _ _ _ _ _ _ (by assumption) ?_ (raisedS_drop rS ?_) ?_; assumption; kcj_all; assumption)
set_option maxHeartbeats 1000000 in
theorem short_I (w : World) (nm : Str) (v : Value) (o : Option Int) (y : Str) (t0 : Tok) (K : Kind w v o) (hn : nm.length ≤ 10) :
    CtrX 2 w 79 [.str nm t0, v] (fun news => Says w news v y) (insideB o 0 4294967295) (fun r => r = v) (fun vs => ∃ u, vs = [.str (Ms1 nm 0 4294967295 y) u]) := by
  unfold CtrX KK PR
  k_fill
  intro mean mg mb dp un cn cs a ccd outer A₀ base h₀ L m news s Q E B F X N T hk hp hd hu hret hexc
  refine wpAny_call ?_
  k_dflt cell_enter
  k_steps
  all_goals first
    | (refine hret (by assumption) _ _ _ rfl (by k_asm) (by k_asm))
    | ((rename RaisedS _ _ _ _ _ _ _ _ _ => rS); refine hexc (by assumption) _ _ _ _ _ _ (by assumption) ?_ (raisedS_drop rS ?_) ?_; assumption; kcj_all; assumption)
end Mine
end
theorem Mine.resetAqRanged : True := by
  w_top off
  first | walk1 | exact trivial
section
open PySem PySem.W PySem.Spec PySem.Calls PyProof.Rows
set_option Elab.async false
set_option maxRecDepth 100000
namespace Mine
theorem end_t {c : Bool} {P R : Prop} (g : c = true) (p : P) : if c = true then P else R := by rw [if_pos g]; exact p
theorem end_f {c : Bool} {P R : Prop} (g : c = false) (r : R) : if c = true then P else R := by rw [if_neg (by rw [g]; decide)]; exact r
local macro_rules | `(tactic| walk_at "call ref") => `(tactic| (k_here; (k_dflt (first | (refine' CtrX.use (range_property _ _ _ _ _ _ _ _ _ _ ?K ?n ?l ?h) ?B ?F ?X ?N ?T ?hk ?hp ?hd ?hu ?r ?e; (case K => with_reducible assumption); (case n => with_reducible assumption); (case l => with_reducible assumption); (case h => with_reducible assumption); (case B => k_asm); (case F => k_asm); (case X => k_asm); (case N => k_asm); (case T => k_asm); (case hk => first | assumption | exact rfl); (case hp => with_reducible assumption); (case hd => (first | decide +kernel | ktr_room)); (case hu => (first | decide +kernel | ktr_units))) | (refine' CtrX.use (check_range _ _ _ _ _ _ _ _ _ _ ?K ?n ?l ?h) ?B ?F ?X ?N ?T ?hk ?hp ?hd ?hu ?r ?e; (case K => with_reducible assumption); (case n => with_reducible assumption); (case l => with_reducible assumption); (case h => with_reducible assumption); (case B => k_asm); (case F => k_asm); (case X => k_asm); (case N => k_asm); (case T => k_asm); (case hk => first | assumption | exact rfl); (case hp => with_reducible assumption); (case hd => (first | decide +kernel | ktr_room)); (case hu => (first | decide +kernel | ktr_units))) | (refine' CtrX.use (short_B _ _ _ _ _ _ ?K ?n) ?B ?F ?X ?N ?T ?hk ?hp ?hd ?hu ?r ?e; (case K => with_reducible assumption); (case n => with_reducible assumption); (case B => k_asm); (case F => k_asm); (case X => k_asm); (case N => k_asm); (case T => k_asm); (case hk => first | assumption | exact rfl); (case hp => with_reducible assumption); (case hd => (first | decide +kernel | ktr_room)); (case hu => (first | decide +kernel | ktr_units))) | (refine' CtrX.use (short_H _ _ _ _ _ _ ?K ?n) ?B ?F ?X ?N ?T ?hk ?hp ?hd ?hu ?r ?e; (case K => with_reducible assumption); (case n => with_reducible assumption); (case B => k_asm); (case F => k_asm); (case X => k_asm); (case N => k_asm); (case T => k_asm); (case hk => first | assumption | exact rfl); (case hp => with_reducible assumption); (case hd => (first | decide +kernel | ktr_room)); (case hu => (first | decide +kernel | ktr_units))) | (refine' CtrX.use (short_I _ _ _ _ _ _ ?K ?n) ?B ?F ?X ?N ?T ?hk ?hp ?hd ?hu ?r ?e; (case K => with_reducible assumption); (case n => with_reducible assumption); (case B => k_asm); (case F => k_asm); (case X => k_asm); (case N => k_asm); (case T => k_asm); (case hk => first | assumption | exact rfl); (case hp => with_reducible assumption); (case hd => (first | decide +kernel | ktr_room)); (case hu => (first | decide +kernel | ktr_units))))); (case' r => (intro gd' r' h' tk' e' F' N'; subst e')); (case' e => (intro gd' e' t' vs' h' G' tk' w' F' R' U'; obtain ⟨u', e9'⟩ := w'; subst e9')))) 
set_option maxHeartbeats 1000000 in
theorem ranged_0 (w : World) (nm : Str) (v : Value) (o : Option Int) (y : Str) (l h : Int) (t0 t1 t2 t3 : Tok) (K : Kind w v o) (hn : nm.length ≤ 10) (hl : l.natAbs < 10 ^ 10) (hh : h.natAbs < 10 ^ 10) :
    CtrT w 128 [.int 0 t1, .str nm t0, v, .int l t2, .int h t3] (fun _ news => Says w news v y) (fun r => if insideB o l h = true then r = v else ∃ t, r = .str (Ms1 nm l h y) t) := by
  unfold CtrT KK PR
  k_fill
  intro mean mg mb cn cs a ccd cl h₀ L m news s Q E B F X N T hk hp hret
  refine wpAny_call ?_
  k_dflt (refine' code_defT ?k1 ?k2 ?k3 ?k4 ?k5 ?kA ?kF ?kK ?k6 ?k7 ?k8 ?k9 ?kB ?_ ?c2 ?c3 ?c4 ?c5; (case kA => exact rfl); (case kF => exact rfl); (case k2 => k_asm); (case k1 => k_asm); (case k3 => k_asm); (case k4 => k_asm); (case k5 => k_asm); (case k6 => k_is); (case k7 => k_is); (case k8 => k_room); (case k9 => exact BindsTo.of_eq rfl); (case kK => first | assumption | exact rfl); (case kB => exact locs rfl); (case c2 => exact rfl); (case c3 => exact rfl); (case c4 => exact rfl); (case c5 => decide); k_whole; intro g' L' h' FG' F' N' B' X' T' D'; (try dsimp only); (try k_lift B'); (try k_fold))
  k_steps
  all_goals (refine hret _ _ _ ?_ (by k_asm) (by k_asm); first | exact end_t (by assumption) rfl | exact end_f (by assumption) ⟨_, rfl⟩)
set_option maxHeartbeats 1000000 in
theorem ranged_1 (w : World) (nm : Str) (v : Value) (o : Option Int) (y : Str) (l h : Int) (t0 t1 t2 t3 : Tok) (K : Kind w v o) (hn : nm.length ≤ 10) (hl : l.natAbs < 10 ^ 10) (hh : h.natAbs < 10 ^ 10) :
    CtrT w 128 [.int 1 t1, .str nm t0, v, .int l t2, .int h t3] (fun _ news => Says w news v y) (fun r => if insideB o 0 255 = true then r = v else ∃ t, r = .str (Ms1 nm 0 255 y) t) := by
  unfold CtrT KK PR
  k_fill
  intro mean mg mb cn cs a ccd cl h₀ L m news s Q E B F X N T hk hp hret
  refine wpAny_call ?_
  k_dflt (refine' code_defT ?k1 ?k2 ?k3 ?k4 ?k5 ?kA ?kF ?kK ?k6 ?k7 ?k8 ?k9 ?kB ?_ ?c2 ?c3 ?c4 ?c5; (case kA => exact rfl); (case kF => exact rfl); (case k2 => k_asm); (case k1 => k_asm); (case k3 => k_asm); (case k4 => k_asm); (case k5 => k_asm); (case k6 => k_is); (case k7 => k_is); (case k8 => k_room); (case k9 => exact BindsTo.of_eq rfl); (case kK => first | assumption | exact rfl); (case kB => exact locs rfl); (case c2 => exact rfl); (case c3 => exact rfl); (case c4 => exact rfl); (case c5 => decide); k_whole; intro g' L' h' FG' F' N' B' X' T' D'; (try dsimp only); (try k_lift B'); (try k_fold))
  k_steps
  all_goals (refine hret _ _ _ ?_ (by k_asm) (by k_asm); first | exact end_t (by assumption) rfl | exact end_f (by assumption) ⟨_, rfl⟩)
set_option maxHeartbeats 1000000 in
theorem ranged_2 (w : World) (nm : Str) (v : Value) (o : Option Int) (y : Str) (l h : Int) (t0 t1 t2 t3 : Tok) (K : Kind w v o) (hn : nm.length ≤ 10) (hl : l.natAbs < 10 ^ 10) (hh : h.natAbs < 10 ^ 10) :
    CtrT w 128 [.int 2 t1, .str nm t0, v, .int l t2, .int h t3] (fun _ news => Says w news v y) (fun r => if insideB o 0 65535 = true then r = v else ∃ t, r = .str (Ms1 nm 0 65535 y) t) := by
  unfold CtrT KK PR
  k_fill
  intro mean mg mb cn cs a ccd cl h₀ L m news s Q E B F X N T hk hp hret
  refine wpAny_call ?_
  k_dflt (refine' code_defT ?k1 ?k2 ?k3 ?k4 ?k5 ?kA ?kF ?kK ?k6 ?k7 ?k8 ?k9 ?kB ?_ ?c2 ?c3 ?c4 ?c5; (case kA => exact rfl); (case kF => exact rfl); (case k2 => k_asm); (case k1 => k_asm); (case k3 => k_asm); (case k4 => k_asm); (case k5 => k_asm); (case k6 => k_is); (case k7 => k_is); (case k8 => k_room); (case k9 => exact BindsTo.of_eq rfl); (case kK => first | assumption | exact rfl); (case kB => exact locs rfl); (case c2 => exact rfl); (case c3 => exact rfl); (case c4 => exact rfl); (case c5 => decide); k_whole; intro g' L' h' FG' F' N' B' X' T' D'; (try dsimp only); (try k_lift B'); (try k_fold))
  k_steps
  all_goals (refine hret _ _ _ ?_ (by k_asm) (by k_asm); first | exact end_t (by assumption) rfl | exact end_f (by assumption) ⟨_, rfl⟩)
set_option maxHeartbeats 1000000 in
theorem ranged_3 (w : World) (nm : Str) (v : Value) (o : Option Int) (y : Str) (l h : Int) (t0 t1 t2 t3 : Tok) (K : Kind w v o) (hn : nm.length ≤ 10) (hl : l.natAbs < 10 ^ 10) (hh : h.natAbs < 10 ^ 10) :
    CtrT w 128 [.int 3 t1, .str nm t0, v, .int l t2, .int h t3] (fun _ news => Says w news v y) (fun r => if insideB o 0 4294967295 = true then r = v else ∃ t, r = .str (Ms1 nm 0 4294967295 y) t) := by
  unfold CtrT KK PR
  k_fill
  intro mean mg mb cn cs a ccd cl h₀ L m news s Q E B F X N T hk hp hret
  refine wpAny_call ?_
  k_dflt (refine' code_defT ?k1 ?k2 ?k3 ?k4 ?k5 ?kA ?kF ?kK ?k6 ?k7 ?k8 ?k9 ?kB ?_ ?c2 ?c3 ?c4 ?c5; (case kA => exact rfl); (case kF => exact rfl); (case k2 => k_asm); (case k1 => k_asm); (case k3 => k_asm); (case k4 => k_asm); (case k5 => k_asm); (case k6 => k_is); (case k7 => k_is); (case k8 => k_room); (case k9 => exact BindsTo.of_eq rfl); (case kK => first | assumption | exact rfl); (case kB => exact locs rfl); (case c2 => exact rfl); (case c3 => exact rfl); (case c4 => exact rfl); (case c5 => decide); k_whole; intro g' L' h' FG' F' N' B' X' T' D'; (try dsimp only); (try k_lift B'); (try k_fold))
  k_steps
  all_goals (refine hret _ _ _ ?_ (by k_asm) (by k_asm); first | exact end_t (by assumption) rfl | exact end_f (by assumption) ⟨_, rfl⟩)
set_option maxHeartbeats 1000000 in
theorem ranged_4 (w : World) (nm : Str) (v : Value) (o : Option Int) (y : Str) (l h : Int) (t0 t1 t2 t3 : Tok) (K : Kind w v o) (hn : nm.length ≤ 10) (hl : l.natAbs < 10 ^ 10) (hh : h.natAbs < 10 ^ 10) :
    CtrT w 128 [.int 4 t1, .str nm t0, v, .int l t2, .int h t3] (fun _ news => Says w news v y) (fun r => if insideB o l h = true then r = .none else ∃ t, r = .str (Ms1 nm l h y) t) := by
  unfold CtrT KK PR
  k_fill
  intro mean mg mb cn cs a ccd cl h₀ L m news s Q E B F X N T hk hp hret
  refine wpAny_call ?_
  k_dflt (refine' code_defT ?k1 ?k2 ?k3 ?k4 ?k5 ?kA ?kF ?kK ?k6 ?k7 ?k8 ?k9 ?kB ?_ ?c2 ?c3 ?c4 ?c5; (case kA => exact rfl); (case kF => exact rfl); (case k2 => k_asm); (case k1 => k_asm); (case k3 => k_asm); (case k4 => k_asm); (case k5 => k_asm); (case k6 => k_is); (case k7 => k_is); (case k8 => k_room); (case k9 => exact BindsTo.of_eq rfl); (case kK => first | assumption | exact rfl); (case kB => exact locs rfl); (case c2 => exact rfl); (case c3 => exact rfl); (case c4 => exact rfl); (case c5 => decide); k_whole; intro g' L' h' FG' F' N' B' X' T' D'; (try dsimp only); (try k_lift B'); (try k_fold))
  k_steps
  all_goals (refine hret _ _ _ ?_ (by k_asm) (by k_asm); first | exact end_t (by assumption) rfl | exact end_f (by assumption) ⟨_, rfl⟩)
end Mine
end
theorem Mine.resetAqCls : True := by
  w_top off
  first | walk1 | exact trivial
section
open PySem PySem.W PySem.Spec PySem.Calls PyProof.Rows
set_option Elab.async false
set_option maxRecDepth 100000
namespace Mine
/-- the text of a built-in class -/
def CT (n : String) : Str := Str.ofString s!"<class '{n}'>"
theorem typeIs_cls (s : Shared) {n : String} (e : kitMeta n = true) : s.TypeIs (.type n) "type" := kitMeta_of e
theorem slot_type_repr : Slot "type" "__repr__" "type.__repr__" :=
  .of (owner := "type") (n := "__repr__") (by rw [typeLookup_type, builtinLookup_eq_fast]; kernel_rfl) (by decide +kernel) (by decide +kernel) (by decide +kernel)
    (by first | exact .inl (by decide +kernel) | exact .inr (by decide +kernel)) (by rw [isSubtype_type]; kernel_rfl)
theorem slot_type_str : Slot "type" "__str__" "object.__str__" :=
  .of (owner := "object") (n := "__str__") (by rw [typeLookup_type, builtinLookup_eq_fast]; kernel_rfl) (by decide +kernel) (by decide +kernel) (by decide +kernel)
    (by first | exact .inl (by decide +kernel) | exact .inr (by decide +kernel)) (by rw [isSubtype_type]; kernel_rfl)
theorem entry_type_repr : entryFor table "type.__repr__" = some Builtin.«type.__repr__» := entryFor_of_tree (by kernel_rfl)
theorem owner_type : Manifest.owners.lookup (String.ofList ['e', 'p', 'y', 't'].reverse) = some Manifest.sig_type := by kernel_rfl
theorem args_type_repr (a : Value) : argsOk "type.__repr__" ⟨[a], []⟩ := by
  unfold argsOk; rw [signature?_of (id := "type.__repr__") (n := ['_', '_', 'r', 'p', 'e', 'r', '_', '_']) (o := ['e', 'p', 'y', 't']) (by kernel_rfl) owner_type]; kernel_rfl
theorem gives_type_repr (n : String) : Gives (Builtin.«type.__repr__» ⟨[.type n], []⟩) (.str (CT n)) := by
  refine .of_wp fun M A E s Q hq => ?_
  show wpAny M A (retStr (Str.ofString s!"<class '{n}'>")) _ E s
  exact wpAny_bind (wpAny_mkStr (wpAny_pure ⟨_, rfl, hq.2⟩) hq.1)
section
variable {prog : Program} {w : World} {A : Around} {E : Value → Shared → Prop} {s : Shared} {n : String} {Q : Value → Shared → Prop}
theorem convS_cls (e : kitMeta n = true) (hl : (CT n).length ≤ sizeLine) (h : Q (.str (CT n) s.toks) { s with toks := s.toks + 1 }) : wpAny (model prog w) A (convS (.type n)) Q E s :=
  wpAny_pyStrObj_gives (by intro _ _ q; cases q) (typeIs_cls s e) slot_type_str slot_type_repr entry_type_repr (args_type_repr _) (gives_type_repr n) h (hx := hl)
theorem reprIs_cls (e : kitMeta n = true) (hl : (CT n).length ≤ sizeLine) : ReprIs prog w (.type n) (CT n) := fun k hk _ _ _ _ h => by
  have hk' : k ≤ sizeLine := by omega
  rw [pyReprUnder_leaf (v := .type n) hk' (by intro _ q; cases q)]
  unfold pyRepr
  exact wpAny_bind (wpAny_pyReprObj_gives (typeIs_cls _ e) slot_type_repr entry_type_repr (args_type_repr _) (gives_type_repr n) (wpAny_pure (h _)) (hx := hl))
theorem convS_pair {K : Frag} {h₀ : Heap} {L a : Addr} {m : Str → Option Value} {dd : Option Addr} {k : Nat} {sl : Array (Option Value)} {n₂ : String} (F' : Fr h₀ L s.heap m) (X : K.In h₀) (hK : K.lookup a = some ⟨.type "tuple", dd, .seq #[.type n, .type n₂] k, sl⟩) (e : kitMeta n = true) (e₂ : kitMeta n₂ = true)
    (hl : (CT n).length ≤ sizeLine) (hl₂ : (CT n₂).length ≤ sizeLine) (ht : (tupleText [CT n, CT n₂]).length ≤ sizeLine) (hg : A.guards = some []) (hu : A.units + 8 < cLine)
    (h : ∀ h' u tk, Kp s.heap h' → Q (.str (tupleText [CT n, CT n₂]) u) { s with heap := h', toks := tk }) : wpAny (model prog w) A (convS (.ref a)) Q E s := by
  have ho := F'.keep _ _ (X _ _ hK)
  refine convS_slot (by intro _ _ q; cases q) (by omega) ⟨_, ho, rfl⟩ F.slot_tuple_str F.slot_tuple_repr ?_
  exact call_tuple_reprK (as := []) (d := 2) ho rfl rfl (by simp) (.cons (.of_is (reprIs_cls e hl) _ _ _) (.cons (.of_is (reprIs_cls e₂ hl₂) _ _ _) .nil)) hg (fun b _ => Clear.nil b) (by show A.units + 1 + (2 + 1) < cLine; omega) (fun _ _ e => e)
    (fun h' u tk hk => ⟨_, _, rfl, h h' u tk hk⟩) ht
end
end Mine
end
theorem Mine.resetAqInst : True := by
  w_top off
  first | walk1 | exact trivial
section
open PySem PySem.W PySem.Spec PySem.Calls PyProof.Rows
set_option Elab.async false
set_option maxRecDepth 100000
namespace Mine
/-- a step that reads alone, where the ledger bears news -/
abbrev Reads2 (w : World) (news : List (Addr × Obj)) (t : Sem Value) (q : Value) : Prop :=
  ∀ (mean : ExcName → Option Value) (mg mb : Str → Option Value) (A : Around) (E : Value → Shared → Prop) (s : Shared) (h₀ : Heap) (L : Addr) (m : Str → Option Value) (Q : Value → Shared → Prop),
    A.units + 40 < cLine → A.handled = none → A.guards = some [] → Fr h₀ L s.heap m → (hd.heap_39 w.params).In h₀ → Top topProg LO mean mg mb h₀ → News h₀ L s.heap news → (∀ tk, Q q { s with toks := tk }) → wpAny (model Challenge.rw_aq6015_01.row.prog w) A t Q E s
/-- what the code asks of a value and a class: is it of it; its own class -/
structure IsA (w : World) (news : List (Addr × Obj)) (v types : Value) (T : String) (b : Bool) : Prop where
  isI : Reads2 w news (call (.builtin "isinstance") [v, types]) (.bool b)
  ty : Reads2 w news (call (.type "type") [v]) (.type T)
  met : kitMeta T = true
  len : (CT T).length ≤ 100
local macro_rules | `(tactic| walk_at "call builtin:isinstance") => `(tactic| (k_here; (k_dflt (refine' IsA.isI (by assumption) _ _ _ _ _ _ _ _ _ _ ?u ?h ?g ?F ?X ?T ?N ?_)); (case u => ktr_units); (case h => exact rfl); (case g => exact rfl); (case F => k_asm); (case X => k_asm); (case T => k_asm); (case N => k_asm); k_whole; intro tk'))
local macro_rules | `(tactic| walk_at "call type:type") => `(tactic| (k_here; (k_dflt (refine' IsA.ty (by assumption) _ _ _ _ _ _ _ _ _ _ ?u ?h ?g ?F ?X ?T ?N ?_)); (case u => ktr_units); (case h => exact rfl); (case g => exact rfl); (case F => k_asm); (case X => k_asm); (case T => k_asm); (case N => k_asm); k_whole; intro tk'))
local macro_rules | `(tactic| walk_at "convS ref") => `(tactic| (k_here; (k_dflt (refine' convS_pair ?F ?X ?K ?e ?f ?l ?m ?t ?g ?u ?_; (case F => k_asm); (case X => k_asm); (case K => k_is); (case e => decide +kernel); (case f => decide +kernel); (case l => decide +kernel); (case m => decide +kernel); (case t => decide +kernel); (case g => exact rfl); (case u => ktr_units))); intro h' u' tk' hk'; (with_reducible rename Fr _ _ _ _ => kF'); (have F' := Fr.keptAll kF' hk'); (with_reducible rename News _ _ _ _ => kN'); (have N' := News.grown kN' hk'); clear hk'; (try k_sweep)))
local macro_rules | `(tactic| walk_at "convS type") => `(tactic| (k_here; (k_dflt (refine' convS_cls ?e ?l ?_; (case e => first | exact IsA.met (by assumption) | decide +kernel); (case l => first | (refine Nat.le_trans (IsA.len (by assumption)) (by decide)) | decide +kernel)))))
local macro_rules | `(tactic| walk_at "convS type:int") => `(tactic| (k_here; (k_dflt (refine' convS_cls ?e ?l ?_; (case e => decide +kernel); (case l => decide +kernel)))))
local macro_rules | `(tactic| walk_at "leaving ref") => `(tactic| (k_here; (refine' leave_raiseS ?k1 ?k0 ?k2 ?k3 ?_; (case k0 => exact Heap.MadeExc.of (by assumption)); (case k2 => assumption); (case k1 => assumption); (case k3 => k_asm); k_whole; intro h' t' S' R' U'; (try dsimp only at S' R' U' ⊢))))
set_option maxHeartbeats 1000000 in
theorem check_instance (w : World) (nm : Str) (v : Value) (T : String) (b : Bool) (t0 : Tok) (hn : nm.length ≤ 10) :
    CtrX 1 w 23 [.str nm t0, v, .ref 16] (fun news => IsA w news v (.ref 16) T b) b (fun r => r = .none) (fun vs => ∃ x u, vs = [.str x u]) := by
  unfold CtrX KK PR
  k_fill
  intro mean mg mb dp un cn cs a ccd outer A₀ base h₀ L m news s Q E B F X N T hk hp hd hu hret hexc
  have hlen := hp.len
  refine wpAny_call ?_
  k_dflt cell_enter
  cases b
  all_goals k_steps
  all_goals first
    | (refine hret rfl _ _ _ rfl (by k_asm) (by k_asm))
    | ((rename RaisedS _ _ _ _ _ _ _ _ _ => rS); refine hexc rfl _ _ _ _ _ _ ⟨_, _, rfl⟩ ?_ (raisedS_drop rS ?_) ?_; assumption; kcj_all; assumption)
set_option maxHeartbeats 1000000 in
theorem check_instanceI (w : World) (nm : Str) (v : Value) (T : String) (b : Bool) (t0 : Tok) (hn : nm.length ≤ 10) :
    CtrX 1 w 23 [.str nm t0, v, .type "int"] (fun news => IsA w news v (.type "int") T b) b (fun r => r = .none) (fun vs => ∃ x u, vs = [.str x u]) := by
  unfold CtrX KK PR
  k_fill
  intro mean mg mb dp un cn cs a ccd outer A₀ base h₀ L m news s Q E B F X N T hk hp hd hu hret hexc
  have hlen := hp.len
  refine wpAny_call ?_
  k_dflt cell_enter
  cases b
  all_goals k_steps
  all_goals first
    | (refine hret rfl _ _ _ rfl (by k_asm) (by k_asm))
    | ((rename RaisedS _ _ _ _ _ _ _ _ _ => rS); refine hexc rfl _ _ _ _ _ _ ⟨_, _, rfl⟩ ?_ (raisedS_drop rS ?_) ?_; assumption; kcj_all; assumption)
set_option maxHeartbeats 1000000 in
theorem instance_prop (w : World) (nm : Str) (v : Value) (T : String) (b : Bool) (t0 : Tok) (hn : nm.length ≤ 10) :
    CtrX 1 w 37 [.str nm t0, v, .ref 16] (fun news => IsA w news v (.ref 16) T b) b (fun r => r = v) (fun vs => ∃ x u, vs = [.str x u]) := by
  unfold CtrX KK PR
  k_fill
  intro mean mg mb dp un cn cs a ccd outer A₀ base h₀ L m news s Q E B F X N T hk hp hd hu hret hexc
  have hlen := hp.len
  refine wpAny_call ?_
  k_dflt cell_enter
  cases b
  all_goals k_steps
  all_goals first
    | (refine hret rfl _ _ _ rfl (by k_asm) (by k_asm))
    | ((rename RaisedS _ _ _ _ _ _ _ _ _ => rS); refine hexc rfl _ _ _ _ _ _ ⟨_, _, rfl⟩ ?_ (raisedS_drop rS ?_) ?_; assumption; kcj_all; assumption)
set_option maxHeartbeats 1000000 in
theorem instance_propI (w : World) (nm : Str) (v : Value) (T : String) (b : Bool) (t0 : Tok) (hn : nm.length ≤ 10) :
    CtrX 1 w 37 [.str nm t0, v, .type "int"] (fun news => IsA w news v (.type "int") T b) b (fun r => r = v) (fun vs => ∃ x u, vs = [.str x u]) := by
  unfold CtrX KK PR
  k_fill
  intro mean mg mb dp un cn cs a ccd outer A₀ base h₀ L m news s Q E B F X N T hk hp hd hu hret hexc
  have hlen := hp.len
  refine wpAny_call ?_
  k_dflt cell_enter
  cases b
  all_goals k_steps
  all_goals first
    | (refine hret rfl _ _ _ rfl (by k_asm) (by k_asm))
    | ((rename RaisedS _ _ _ _ _ _ _ _ _ => rS); refine hexc rfl _ _ _ _ _ _ ⟨_, _, rfl⟩ ?_ (raisedS_drop rS ?_) ?_; assumption; kcj_all; assumption)
end Mine
end
theorem Mine.resetAqRefused : True := by
  w_top off
  first | walk1 | exact trivial
section
open PySem PySem.W PySem.Spec PySem.Calls PyProof.Rows
set_option Elab.async false
set_option maxRecDepth 100000
namespace Mine
section
local macro_rules | `(tactic| walk_at "leaving ref") => `(tactic| (k_here; (refine' leave_onS ?k1 ?k2 ?k3 ?k4 ?_; (case k3 => assumption); (case k2 => assumption); (case k1 => assumption); (case k4 => assumption); k_whole; intro h' S' R' U'; (try dsimp only at S' R' U' ⊢))))
local macro_rules | `(tactic| walk_at "call ref") => `(tactic| (k_here; (k_dflt (first | (refine' CtrX.use (check_instance _ _ _ _ _ _ ?n) ?B ?F ?X ?N ?T ?hk ?hp ?hd ?hu ?r ?e; (case n => with_reducible assumption); (case B => k_asm); (case F => k_asm); (case X => k_asm); (case N => k_asm); (case T => k_asm); (case hk => first | assumption | exact rfl); (case hp => with_reducible assumption); (case hd => (first | decide +kernel | ktr_room)); (case hu => (first | decide +kernel | ktr_units))) | (refine' CtrX.use (instance_prop _ _ _ _ _ _ ?n) ?B ?F ?X ?N ?T ?hk ?hp ?hd ?hu ?r ?e; (case n => with_reducible assumption); (case B => k_asm); (case F => k_asm); (case X => k_asm); (case N => k_asm); (case T => k_asm); (case hk => first | assumption | exact rfl); (case hp => with_reducible assumption); (case hd => (first | decide +kernel | ktr_room)); (case hu => (first | decide +kernel | ktr_units))))); (case' r => (intro gd' r' h' tk' e' F' N'; subst e')); (case' e => (intro gd' e' t' vs' h' G' tk' w' F' R' U'))))
set_option maxHeartbeats 1000000 in
theorem check_bytes (w : World) (nm : Str) (v : Value) (T : String) (b : Bool) (t0 : Tok) (hn : nm.length ≤ 10) :
    CtrX 2 w 30 [.str nm t0, v] (fun news => IsA w news v (.ref 16) T b) b (fun r => r = .none) (fun vs => ∃ x u, vs = [.str x u]) := by
  unfold CtrX KK PR
  k_fill
  intro mean mg mb dp un cn cs a ccd outer A₀ base h₀ L m news s Q E B F X N T hk hp hd hu hret hexc
  refine wpAny_call ?_
  k_dflt cell_enter
  k_steps
  all_goals first
    | (refine hret (by assumption) _ _ _ rfl (by k_asm) (by k_asm))
    | ((rename RaisedS _ _ _ _ _ _ _ _ _ => rS); refine hexc (by assumption) _ _ _ _ _ _ (by assumption) ?_ (raisedS_drop rS ?_) ?_; assumption; kcj_all; assumption)
set_option maxHeartbeats 1000000 in
theorem bytes_prop (w : World) (nm : Str) (v : Value) (T : String) (b : Bool) (t0 : Tok) (hn : nm.length ≤ 10) :
    CtrX 2 w 44 [.str nm t0, v] (fun news => IsA w news v (.ref 16) T b) b (fun r => r = v) (fun vs => ∃ x u, vs = [.str x u]) := by
  unfold CtrX KK PR
  k_fill
  intro mean mg mb dp un cn cs a ccd outer A₀ base h₀ L m news s Q E B F X N T hk hp hd hu hret hexc
  refine wpAny_call ?_
  k_dflt cell_enter
  k_steps
  all_goals first
    | (refine hret (by assumption) _ _ _ rfl (by k_asm) (by k_asm))
    | ((rename RaisedS _ _ _ _ _ _ _ _ _ => rS); refine hexc (by assumption) _ _ _ _ _ _ (by assumption) ?_ (raisedS_drop rS ?_) ?_; assumption; kcj_all; assumption)
end
theorem refused_t {b : Bool} (g : b = true) : Value.bool false = .bool (!b) := by rw [g]; rfl
theorem refused_f {b : Bool} (g : b = false) : Value.bool true = .bool (!b) := by rw [g]; rfl
section
local macro_rules | `(tactic| walk_at "call ref") => `(tactic| (k_here; (k_dflt (first | (refine' CtrX.use (check_bytes _ _ _ _ _ _ ?n) ?B ?F ?X ?N ?T ?hk ?hp ?hd ?hu ?r ?e; (case n => decide +kernel); (case B => k_asm); (case F => k_asm); (case X => k_asm); (case N => k_asm); (case T => k_asm); (case hk => first | assumption | exact rfl); (case hp => with_reducible assumption); (case hd => (first | decide +kernel | ktr_room)); (case hu => (first | decide +kernel | ktr_units))) | (refine' CtrX.use (bytes_prop _ _ _ _ _ _ ?n) ?B ?F ?X ?N ?T ?hk ?hp ?hd ?hu ?r ?e; (case n => decide +kernel); (case B => k_asm); (case F => k_asm); (case X => k_asm); (case N => k_asm); (case T => k_asm); (case hk => first | assumption | exact rfl); (case hp => with_reducible assumption); (case hd => (first | decide +kernel | ktr_room)); (case hu => (first | decide +kernel | ktr_units))) | (refine' CtrX.use (check_instanceI _ _ _ _ _ _ ?n) ?B ?F ?X ?N ?T ?hk ?hp ?hd ?hu ?r ?e; (case n => decide +kernel); (case B => k_asm); (case F => k_asm); (case X => k_asm); (case N => k_asm); (case T => k_asm); (case hk => first | assumption | exact rfl); (case hp => with_reducible assumption); (case hd => (first | decide +kernel | ktr_room)); (case hu => (first | decide +kernel | ktr_units))) | (refine' CtrX.use (instance_propI _ _ _ _ _ _ ?n) ?B ?F ?X ?N ?T ?hk ?hp ?hd ?hu ?r ?e; (case n => decide +kernel); (case B => k_asm); (case F => k_asm); (case X => k_asm); (case N => k_asm); (case T => k_asm); (case hk => first | assumption | exact rfl); (case hp => with_reducible assumption); (case hd => (first | decide +kernel | ktr_room)); (case hu => (first | decide +kernel | ktr_units))))); (case' r => (intro gd' r' h' tk' e' F' N'; subst e')); (case' e => (intro gd' e' t' vs' h' G' tk' w' F' R' U'; obtain ⟨x9', u9', e9'⟩ := w'; subst e9'))))
set_option maxHeartbeats 1000000 in
theorem refused_0 (w : World) (v : Value) (T : String) (b : Bool) (t1 : Tok) :
    CtrT w 135 [.int 0 t1, v] (fun _ news => IsA w news v (.ref 16) T b) (fun r => r = .bool (!b)) := by
  unfold CtrT KK PR
  k_fill
  intro mean mg mb cn cs a ccd cl h₀ L m news s Q E B F X N T hk hp hret
  refine wpAny_call ?_
  k_dflt (refine' code_defT ?k1 ?k2 ?k3 ?k4 ?k5 ?kA ?kF ?kK ?k6 ?k7 ?k8 ?k9 ?kB ?_ ?c2 ?c3 ?c4 ?c5; (case kA => exact rfl); (case kF => exact rfl); (case k2 => k_asm); (case k1 => k_asm); (case k3 => k_asm); (case k4 => k_asm); (case k5 => k_asm); (case k6 => k_is); (case k7 => k_is); (case k8 => k_room); (case k9 => exact BindsTo.of_eq rfl); (case kK => first | assumption | exact rfl); (case kB => exact locs rfl); (case c2 => exact rfl); (case c3 => exact rfl); (case c4 => exact rfl); (case c5 => decide); k_whole; intro g' L' h' FG' F' N' B' X' T' D'; (try dsimp only); (try k_lift B'); (try k_fold))
  k_steps
  all_goals (refine hret _ _ _ ?_ (by k_asm) (by k_asm); first | exact refused_t (by assumption) | exact refused_f (by assumption))
set_option maxHeartbeats 1000000 in
theorem refused_1 (w : World) (v : Value) (T : String) (b : Bool) (t1 : Tok) :
    CtrT w 135 [.int 1 t1, v] (fun _ news => IsA w news v (.ref 16) T b) (fun r => r = .bool (!b)) := by
  unfold CtrT KK PR
  k_fill
  intro mean mg mb cn cs a ccd cl h₀ L m news s Q E B F X N T hk hp hret
  refine wpAny_call ?_
  k_dflt (refine' code_defT ?k1 ?k2 ?k3 ?k4 ?k5 ?kA ?kF ?kK ?k6 ?k7 ?k8 ?k9 ?kB ?_ ?c2 ?c3 ?c4 ?c5; (case kA => exact rfl); (case kF => exact rfl); (case k2 => k_asm); (case k1 => k_asm); (case k3 => k_asm); (case k4 => k_asm); (case k5 => k_asm); (case k6 => k_is); (case k7 => k_is); (case k8 => k_room); (case k9 => exact BindsTo.of_eq rfl); (case kK => first | assumption | exact rfl); (case kB => exact locs rfl); (case c2 => exact rfl); (case c3 => exact rfl); (case c4 => exact rfl); (case c5 => decide); k_whole; intro g' L' h' FG' F' N' B' X' T' D'; (try dsimp only); (try k_lift B'); (try k_fold))
  k_steps
  all_goals (refine hret _ _ _ ?_ (by k_asm) (by k_asm); first | exact refused_t (by assumption) | exact refused_f (by assumption))
set_option maxHeartbeats 1000000 in
theorem refused_2 (w : World) (v : Value) (T : String) (b : Bool) (t1 : Tok) :
    CtrT w 135 [.int 2 t1, v] (fun _ news => IsA w news v (.type "int") T b) (fun r => r = .bool (!b)) := by
  unfold CtrT KK PR
  k_fill
  intro mean mg mb cn cs a ccd cl h₀ L m news s Q E B F X N T hk hp hret
  refine wpAny_call ?_
  k_dflt (refine' code_defT ?k1 ?k2 ?k3 ?k4 ?k5 ?kA ?kF ?kK ?k6 ?k7 ?k8 ?k9 ?kB ?_ ?c2 ?c3 ?c4 ?c5; (case kA => exact rfl); (case kF => exact rfl); (case k2 => k_asm); (case k1 => k_asm); (case k3 => k_asm); (case k4 => k_asm); (case k5 => k_asm); (case k6 => k_is); (case k7 => k_is); (case k8 => k_room); (case k9 => exact BindsTo.of_eq rfl); (case kK => first | assumption | exact rfl); (case kB => exact locs rfl); (case c2 => exact rfl); (case c3 => exact rfl); (case c4 => exact rfl); (case c5 => decide); k_whole; intro g' L' h' FG' F' N' B' X' T' D'; (try dsimp only); (try k_lift B'); (try k_fold))
  k_steps
  all_goals (refine hret _ _ _ ?_ (by k_asm) (by k_asm); first | exact refused_t (by assumption) | exact refused_f (by assumption))
set_option maxHeartbeats 1000000 in
theorem refused_3 (w : World) (v : Value) (T : String) (b : Bool) (t1 : Tok) :
    CtrT w 135 [.int 3 t1, v] (fun _ news => IsA w news v (.type "int") T b) (fun r => r = .bool (!b)) := by
  unfold CtrT KK PR
  k_fill
  intro mean mg mb cn cs a ccd cl h₀ L m news s Q E B F X N T hk hp hret
  refine wpAny_call ?_
  k_dflt (refine' code_defT ?k1 ?k2 ?k3 ?k4 ?k5 ?kA ?kF ?kK ?k6 ?k7 ?k8 ?k9 ?kB ?_ ?c2 ?c3 ?c4 ?c5; (case kA => exact rfl); (case kF => exact rfl); (case k2 => k_asm); (case k1 => k_asm); (case k3 => k_asm); (case k4 => k_asm); (case k5 => k_asm); (case k6 => k_is); (case k7 => k_is); (case k8 => k_room); (case k9 => exact BindsTo.of_eq rfl); (case kK => first | assumption | exact rfl); (case kB => exact locs rfl); (case c2 => exact rfl); (case c3 => exact rfl); (case c4 => exact rfl); (case c5 => decide); k_whole; intro g' L' h' FG' F' N' B' X' T' D'; (try dsimp only); (try k_lift B'); (try k_fold))
  k_steps
  all_goals (refine hret _ _ _ ?_ (by k_asm) (by k_asm); first | exact refused_t (by assumption) | exact refused_f (by assumption))
end
end Mine
end
theorem Mine.resetAqComp : True := by
  w_top off
  first | walk1 | exact trivial
section
open PySem PySem.W PySem.Spec PySem.Calls PyProof.Rows
set_option Elab.async false
set_option maxRecDepth 100000
namespace Mine
/-- a made row, a list or a tuple -/
def RowObj (o : Obj) (its : List Value) : Prop := (o.cls = .type "list" ∨ o.cls = .type "tuple") ∧ ∃ k, o.data = .seq its.toArray k
section
variable {prog : Program} {w : World} {A : Around} {E : Value → Shared → Prop} {s : Shared} {h₀ : Heap} {L : Addr} {m : Str → Option Value} {env : Env}
/-- where a comprehension's items come from: a row of the ledger's -/
def RowSrc (prog : Program) (w : World) (A : Around) (h₀ : Heap) (L : Addr) (m : Str → Option Value) (env : Env) (elt : Expr) (x : Str) (scope : Scope) (cl : List (Str × Addr)) (Fin : Shared → List Value → List (Addr × Obj) → Prop) (xv : Value) (s₁ : Shared) : Prop :=
  ∃ ax o its news, xv = .ref ax ∧ A.handled = none ∧ Fr h₀ L s₁.heap m ∧ News h₀ L s₁.heap news ∧ (ax, o) ∈ news ∧ RowObj o its ∧ its.length ≤ sizeLine ∧
    ∀ g, LCg.CompRest prog w A h₀ L m env elt x scope cl { s₁ with heap := g } (fun nw => (ax, o) ∈ nw) (fun i v => its[i]? = some v) (Fin { s₁ with heap := g }) its.length 0 [] news
theorem RowSrc.intro {elt : Expr} {x : Str} {scope : Scope} {cl : List (Str × Addr)} {Fin : Shared → List Value → List (Addr × Obj) → Prop} {s₁ : Shared} {ax : Addr} {o : Obj} {its : List Value} {news : List (Addr × Obj)}
    (hh : A.handled = none) (F : Fr h₀ L s₁.heap m) (N : News h₀ L s₁.heap news) (hm : (ax, o) ∈ news) (R : RowObj o its) (hsz : its.length ≤ sizeLine)
    (h : ∀ g, LCg.CompRest prog w A h₀ L m env elt x scope cl { s₁ with heap := g } (fun nw => (ax, o) ∈ nw) (fun i v => its[i]? = some v) (Fin { s₁ with heap := g }) its.length 0 [] news) :
    RowSrc prog w A h₀ L m env elt x scope cl Fin (.ref ax) s₁ := ⟨ax, o, its, news, rfl, hh, F, N, hm, R, hsz, h⟩
theorem ListComp_R {elt iter : Expr} {x : Str} {px : Pos} {scope : Scope} {cl : List (Str × Addr)} {pos : Pos} {Q : Value → Shared → Prop} (_F : Fr h₀ L s.heap m)
    (hclos : closureFor scope env = pure cl) (hcell : ∀ y ∈ scope.names, y.2 ≠ .cell) (hkind : scope.kind = .function)
    (hnames : ∀ y ∈ scope.names, y.2 = .local → scope.names.lookup y.1 = some .local) (hx : scope.names.lookup x = some .local)
    (h : wpAny (model prog w) A (eval iter env) (RowSrc prog w A h₀ L m env elt x scope cl (fun s₂ => LCg.FinE h₀ L m s₂ Q)) E s)
    (hs : ∀ x, foldedSetIterable iter env x = pure x := by intro _; rfl) :
    wpAny (model prog w) A (eval (.ListComp elt [⟨.Name x px, iter, [], 0⟩] scope pos) env) Q E s := by
  rw [eval_ListComp]
  refine wpAny_comprehension_free (use := none) rfl hs hclos hkind hnames (wpAny_mono h (fun xv s₁ h₁ => ?_) fun _ _ e => e)
  obtain ⟨ax, o, its, news, rfl, hh, F, N, hm, ⟨hc, k, hd⟩, hsz, R⟩ := h₁
  have ho := (N _ hm).1
  have hlt : ax < s₁.heap.objs.size := Heap.lt_size ho
  have post : ∀ (s₂ : Shared), ∀ D C h tk m' ys news', Fr h₀ L h m → News h₀ L h ((D, LCg.lst ys) :: news') → LCg.Off1 D news' → h.Ns C m' → h₀.get? C = none → h₀.get? D = none → C ≠ L → D ≠ L → C ≠ D → (∀ p ∈ news', p.1 ≠ C) → LCg.FinE h₀ L m s₂ Q ys news' →
      compPost (model prog w) A E none Q (.ref D) C (.ok .next) { s₂ with heap := h, toks := tk } := by
    intro s₂ D C h tk m' ys news' F' N' o1 hn hC₀ hD₀ hCL hDL hCD offC fin
    refine ⟨m', hn, fun h'' hs'' => fin D h'' tk (F'.change hs'' hCL hC₀) (fun p hp => ?_) o1⟩
    refine ⟨hs''.extBut _ _ ?_ (N' p hp).1, (N' p hp).2⟩
    rcases List.mem_cons.mp hp with rfl | hp
    · exact Ne.symm hCD
    · exact offC p hp
  have sz : its.toArray.size = its.length := List.size_toArray
  rcases hc with hc | hc
  · have hl : s₁.heap.IsList ax its.toArray := ⟨o, ho, hc, k, hd⟩
    refine wpAny_pyIter_list hl ?_
    have up : ∀ b o, s₁.heap.get? b = some o → (s₁.heap.push { cls := .type "list_iterator", data := .fields #[.ref ax, .int 0 0] }).get? b = some o := fun b o e => Heap.get?_push_of_some _ e
    refine LCg.block_U (S := fun nw => (ax, o) ∈ nw) (n := its.toArray.size) (Walks.list hh s₁.heap.objs.size ax (Nat.ne_of_lt hlt) its.toArray) (sz ▸ hsz) (fun i h st => by obtain ⟨o, e, _⟩ := st.1; exact ⟨o, e⟩)
      (fun i h h' o' nw st e e' _ N' hm' => ⟨by obtain ⟨o'', q, r⟩ := st.1; rw [e] at q; cases q; exact ⟨_, e', r⟩, ⟨o, (N' _ hm').1, hc, k, hd⟩⟩) hcell hkind hx ⟨⟨_, Heap.get?_push_size _ rfl, rfl, rfl⟩, hl.push _⟩ (fun b hb => ?_)
      (F.keeps up) (N.grown up) (Nat.ne_of_lt F.ns.lt) (next_is_new F) (fun p hp => Nat.ne_of_lt (Heap.lt_size (N p hp).1)) hm ?_ (post _)
    · show b < (s₁.heap.push _).objs.size
      rw [Heap.size_push]
      rcases List.mem_cons.mp hb with rfl | hb
      · exact Nat.lt_succ_self _
      · rw [List.mem_singleton.mp hb]; exact Nat.lt_succ_of_lt hlt
    · have R' := R (s₁.heap.push { cls := .type "list_iterator", data := .fields #[.ref ax, .int 0 0] })
      rw [sz]
      simpa using R'
  · have hl : s₁.heap.IsTuple ax its.toArray := ⟨o, ho, hc, k, hd⟩
    refine wpAny_pyIter_tuple hl ?_
    have up : ∀ b o, s₁.heap.get? b = some o → (s₁.heap.push { cls := .type "tuple_iterator", data := .fields #[.ref ax, .int 0 0] }).get? b = some o := fun b o e => Heap.get?_push_of_some _ e
    refine LCg.block_U (S := fun nw => (ax, o) ∈ nw) (n := its.toArray.size) (Walks.tuple hh s₁.heap.objs.size ax (Nat.ne_of_lt hlt) its.toArray) (sz ▸ hsz) (fun i h st => by obtain ⟨o, e, _⟩ := st.1; exact ⟨o, e⟩)
      (fun i h h' o' nw st e e' _ N' hm' => ⟨by obtain ⟨o'', q, r⟩ := st.1; rw [e] at q; cases q; exact ⟨_, e', r⟩, ⟨o, (N' _ hm').1, hc, k, hd⟩⟩) hcell hkind hx ⟨⟨_, Heap.get?_push_size _ rfl, rfl, rfl⟩, hl.at fun o e => up _ o e⟩ (fun b hb => ?_)
      (F.keeps up) (N.grown up) (Nat.ne_of_lt F.ns.lt) (next_is_new F) (fun p hp => Nat.ne_of_lt (Heap.lt_size (N p hp).1)) hm ?_ (post _)
    · show b < (s₁.heap.push _).objs.size
      rw [Heap.size_push]
      rcases List.mem_cons.mp hb with rfl | hb
      · exact Nat.lt_succ_self _
      · rw [List.mem_singleton.mp hb]; exact Nat.lt_succ_of_lt hlt
    · have R' := R (s₁.heap.push { cls := .type "tuple_iterator", data := .fields #[.ref ax, .int 0 0] })
      rw [sz]
      simpa using R'
end
end Mine
end
theorem Mine.resetAqRow : True := by
  w_top off
  first | walk1 | exact trivial
section
open PySem PySem.W PySem.Spec PySem.Calls PyProof.Rows
set_option Elab.async false
set_option maxRecDepth 100000
namespace Mine
section
variable {prog : Program} {w : World} {A : Around} {h₀ : Heap} {L : Addr} {m : Str → Option Value} {env : Env} {elt : Expr} {x : Str} {scope : Scope} {cl : List (Str × Addr)} {s : Shared} {S : List (Addr × Obj) → Prop} {Fin : List Value → List (Addr × Obj) → Prop} {news : List (Addr × Obj)}
/-- a row's members and what they are as numbers -/
abbrev Mem := List (Value × Option Int)
/-- a turn that ends on the ledger it began on, with a truth value -/
def BoolEl (news : List (Addr × Obj)) (b : Bool) (y : Value) (news' : List (Addr × Obj)) : Prop := news' = news ∧ y = .bool b
theorem rows_bools {cs : Mem} (g : Value × Option Int → Bool)
    (turn : ∀ p I oI C oC D m₂ ys h tk (E' : Value → Shared → Prop), p ∈ cs → LCg.NsObj oC m₂ → m₂ x = some p.1 → Fr h₀ L h m → News h₀ L h ((I, oI) :: (C, oC) :: (D, LCg.lst ys) :: news) → LCg.Off3 I C D news → ((@Ne Nat I C) ∧ (@Ne Nat I D) ∧ (@Ne Nat C D)) → S news →
      wpAny (model prog w) A (eval elt (compEnvC scope cl C env)) (LCg.CompEnd h₀ L m { s with heap := h, toks := tk } I oI C oC D (LCg.lst ys) S (fun y news' => BoolEl news (g p) y news')) E' { s with heap := h, toks := tk })
    (hS : S news) (fin : ∀ ys, LSm.BoolsAre ys (cs.map g) → Fin ys news) : LCg.CompRest prog w A h₀ L m env elt x scope cl s S (fun i v => (cs.map (·.1))[i]? = some v) Fin (cs.map (·.1)).length 0 [] news := by
  have key : ∀ (j i : Nat) (ys : List Value), i + j = cs.length → LSm.BoolsAre ys ((cs.take i).map g) → LCg.CompRest prog w A h₀ L m env elt x scope cl s S (fun i v => (cs.map (·.1))[i]? = some v) Fin j i ys news := by
    intro j
    induction j with
    | zero =>
      intro i ys hi hy
      have e : i = cs.length := by omega
      subst e
      rw [List.take_length] at hy
      exact LCg.CompRest.zero (fin ys hy)
    | succ j ih =>
      intro i ys hi hy
      refine LCg.CompRest.succ ?_
      intro v I oI C oC D m₂ h tk E' hv hC hx F N off ne
      have hlt : i < cs.length := by omega
      have hp : cs[i]? = some cs[i] := List.getElem?_eq_getElem hlt
      rw [List.getElem?_map, hp] at hv
      obtain rfl : cs[i].1 = v := Option.some.inj hv
      refine wpAny_mono (turn cs[i] I oI C oC D m₂ ys h tk E' (List.mem_of_getElem? hp) hC hx F N off ne hS) (fun y s₂ hq => ?_) fun _ _ e => e
      obtain ⟨h', tk', nw, e, F', N', off', hS', hn, hy'⟩ := hq
      rw [hn] at N' off' hS'
      refine ⟨h', tk', news, e, F', N', off', hS', ?_⟩
      rw [hy']
      refine ih (i + 1) _ (by omega) ?_
      rw [List.take_add_one, hp]
      have app : ∀ {vs : List Value} {bs : List Bool} (b : Bool), LSm.BoolsAre vs bs → LSm.BoolsAre (vs ++ [.bool b]) (bs ++ [b]) := by
        intro vs bs b hb
        induction hb with
        | nil => exact .cons b .nil
        | cons c _ ih' => exact .cons c ih'
      have q := app (g cs[i]) hy
      rw [List.map_append]
      exact q
  rw [List.length_map]
  exact key cs.length 0 [] (by omega) (by simp only [List.take_zero, List.map_nil]; exact .nil)
end
section
variable {M : Model} {A : Around} {E : Value → Shared → Prop} {s' : Shared} {base g h : Heap} {outer : List Env} {L e : Addr} {m : Str → Option Value} {env : Env} {Q : Unit → Shared → Prop} {news : List (Addr × Obj)}
theorem mem_frames {env : Env} {b L : Addr} {outer : List Env} (hf : env.frame = some L) (hm : b ∈ (env :: outer).filterMap (·.frame)) : b = L ∨ b ∈ outer.filterMap (·.frame) := by
  simp only [List.filterMap_cons, hf, List.mem_cons] at hm
  exact hm
/-- an exception made in a frame that may hold cells, leaving it -/
theorem leave_raiseX {cls : Value} {vs : List Value} (hf : env.frame = some L) (hke : env.scope.kind = .function) (K : Below A base outer g) (hx : Heap.MadeExcOf h s'.heap e cls vs) (F : Fr g L h m) (N : News g L h news)
    (hQ : ∀ h' t, RaisedS base g outer e cls t vs news h' → g.UpToSlots h' → Q () { s' with heap := h' }) : wpAny M (A.deeper env) (leaving env (.ref e)) Q E s' := by
  have K' := pushX K F hf hke
  have fr : ∀ b, b ∈ (env :: outer).filterMap (·.frame) → base.get? b = none := fun b hm => (K'.frames.mem hm).1
  have hLg : g.get? L = none := kts_self F
  refine wpAny_leaves_madeW (base := hideAll h ((env :: outer).filterMap (·.frame))) K'.stack hf (fun b o q => of_hideAll _ q)
    (funFrames_hide K'.frames fun env' he b hb => List.mem_filterMap.mpr ⟨env', he, hb⟩) hx fun h' t x1 x2 x3 x4 => hQ h' t ⟨⟨_, fun b o q => ?_, fun b o q nm => ?_, fun q hq => ⟨?_, (N q hq).2.2, fresh_of_stays K.stays (N q hq).2.2⟩, x1, x3⟩, x2⟩
      (((Heap.UpToSlots.of_keeps F.keep).trans (Heap.UpToSlots.of_keeps hx.keeps)).trans x4)
  · exact hideAll_get _ (K'.stays b o q) fun hm => by rw [fr b hm] at q; cases q
  · exact hideAll_get _ (F.keep b o q) fun hm => (mem_frames hf hm).elim (fun z => by rw [z, hLg] at q; cases q) nm
  · refine hideAll_get _ (N q hq).1 fun hm => ?_
    rcases mem_frames hf hm with z | z
    · exact (N q hq).2.1 z
    · obtain ⟨o, ho, _⟩ := (K.frames.mem z).2
      rw [(N q hq).2.2] at ho; cases ho
end
section
variable {prog : Program} {w : World} {A : Around} {E : Value → Shared → Prop} {s : Shared} {h₀ : Heap} {L a : Addr} {o : Obj} {its : List Value} {news : List (Addr × Obj)} {Q : Value → Shared → Prop}
theorem len_row (N : News h₀ L s.heap news) (hm : (a, o) ∈ news) (R : RowObj o its) (hsz : its.length ≤ 1000) (h : ∀ t k, Q (.int its.length t) { s with toks := k }) : wpAny (model prog w) A (call (.builtin "len") [.ref a]) Q E s := by
  obtain ⟨hc, k, hd⟩ := R
  have sz : its.toArray.size = its.length := List.size_toArray
  have fit : (its.toArray.size : Int) < 2 ^ 63 := by rw [sz]; omega
  have e : (its.toArray.size : Int) = its.length := by rw [sz]
  rcases hc with hc | hc
  · exact PyProof.Rows.len_list ⟨o, (N _ hm).1, hc, k, hd⟩ fit (e ▸ h _ _)
  · exact PyProof.Rows.len_tuple ⟨o, (N _ hm).1, hc, k, hd⟩ fit (e ▸ h _ _)
end
end Mine
end
theorem Mine.resetAqNt : True := by
  w_top off
  first | walk1 | exact trivial
section
open PySem PySem.W PySem.Spec PySem.Calls PyProof.Rows
set_option Elab.async false
set_option maxRecDepth 100000
namespace Mine
/-- as CtrX, out of a frame that may hold cells -/
def CtrXc (k : Nat) (w : World) (f : Addr) (vs : List Value) (pre : List (Addr × Obj) → Prop) (good : Bool) (Ret : Value → Prop) (Ws : List Value → Prop) : Prop :=
  ∀ (mean : ExcName → Option Value) (mg mb : Str → Option Value) (dp un : Nat) (cn : Str) (cs : Scope) (a : Addr) (ccd : Value) (cl : List (Str × Addr)) (outer : List Env) (A₀ : Around) (base h₀ : Heap) (L : Addr) (m : Str → Option Value) (news : List (Addr × Obj)) (s : Shared) (Q E : Value → Shared → Prop),
    Below A₀ base outer h₀ → Fr h₀ L s.heap m → (KK w).In h₀ → News h₀ L s.heap news → Top topProg LO mean mg mb h₀ → cs.kind = .function → pre news →
    dp + 4 * k < recursionLimit → un + 100 * k < cLine →
    (good = true → ∀ (r : Value) (h' : Heap) (tk' : Nat), Ret r → Fr h₀ L h' m → News h₀ L h' news → Q r { s with heap := h', toks := tk' }) →
    (good = false → ∀ (e t : Addr) (vs : List Value) (h' G : Heap) (tk' : Nat), Ws vs → Fr h₀ L G m → RaisedS base G (envX cn cs L a ccd cl :: outer) e (.type "ValueError") t vs news h' → G.UpToSlots h' → E (.ref e) { s with heap := h', toks := tk' }) →
    wpAny (model PR w) (ktrTop dp un (some []) cn cs L a ccd cl outer) (call (.ref f) vs) Q E s
local macro_rules | `(tactic| walk_at "call builtin:isinstance") => `(tactic| (k_here; (k_dflt (refine' Kind.isInts (by assumption) _ _ _ _ _ _ _ _ _ _ _ ?u ?h ?g ?F ?X ?T ?N ?_)); (case u => ktr_units); (case h => exact rfl); (case g => exact rfl); (case F => k_asm); (case X => k_asm); (case T => k_asm); (case N => k_asm); k_whole; intro tk'; (try simp only [Option.isSome_some, Option.isSome_none])))
local macro_rules | `(tactic| walk_at "compareOp LtE") => `(tactic| (k_here; (first | (refine' Kind.least (by assumption) _ rfl _ _ _ _ _ _ _ _ _ _ _ _ _ ?u ?h ?g ?F ?X ?T ?N ?_) | (refine' Kind.most (by assumption) _ rfl _ _ _ _ _ _ _ _ _ _ _ _ _ ?u ?h ?g ?F ?X ?T ?N ?_)); (case u => ktr_units); (case h => exact rfl); (case g => exact rfl); (case F => k_asm); (case X => k_asm); (case T => k_asm); (case N => k_asm); k_whole; intro tk'))
local macro_rules | `(tactic| walk_at "leaving ref") => `(tactic| (k_here; (refine' leave_raiseX rfl rfl ?k1 ?k0 ?k2 ?k3 ?_; (case k0 => exact Heap.MadeExc.of (by assumption)); (case k2 => assumption); (case k1 => assumption); (case k3 => k_asm); k_whole; intro h' t' S' U'; (try dsimp only at S' U' ⊢))))
local macro_rules | `(tactic| walk_at "call builtin:len") => `(tactic| (k_here; (with_reducible show wpAny _ _ (call (Value.builtin "len") [Value.ref _]) _ _ _); k_dflt (refine' len_row ?N ?m ?R ?z ?_; (case N => k_asm); (case m => kcf_m); (case R => assumption); (case z => (simp only [List.length_map]; assumption)); k_whole); intro t' k'))
local macro_rules | `(tactic| walk_at "eval ListComp") => `(tactic| (k_here; k_dflt (refine' ListComp_R ?F ?a ?b ?c ?d ?e ?_; (case F => k_asm); (case a => with_unfolding_all rfl); (case b => decide); (case c => rfl); (case d => decide); (case e => rfl); k_whole)))
local macro_rules | `(tactic| walk_at "binaryOp Mod str ref") => `(tactic| (k_here; k_dflt (first | (refine' mod_says ?N' ?hb fm2 (pct2 ?p1 ?p2 ?p3 ?p4) ?F ?X ?T ?N ?g ?u ?h ?_; (case N' => k_asm); (case hb => k_mem); (case p1 => with_reducible assumption); (case p2 => with_reducible assumption); (case p3 => with_reducible assumption); (case p4 => with_reducible assumption); (case F => k_asm); (case X => k_asm); (case T => k_asm); (case N => (first | k_asm | (refine' cb_drop ?cbN ?cbS; (case cbN => assumption); (case cbS => kcj_all)))); (case g => exact rfl); (case u => ktr_units); (case h => exact rfl); k_whole) | (refine' mod_says ?N' ?hb fm3 (pct3 ?p1 ?p2 ?p3) ?F ?X ?T ?N ?g ?u ?h ?_; (case N' => k_asm); (case hb => k_mem); (case p1 => with_reducible assumption); (case p2 => with_reducible assumption); (case p3 => with_reducible assumption); (case F => k_asm); (case X => k_asm); (case T => k_asm); (case N => (first | k_asm | (refine' cb_drop ?cbN ?cbS; (case cbN => assumption); (case cbS => kcj_all)))); (case g => exact rfl); (case u => ktr_units); (case h => exact rfl); k_whole)); intro h' t' k' F' N'; (try k_sweep)))
local macro_rules | `(tactic| walk_at "exec Raise some none") => `(tactic| (k_here; k_dflt (refine' Raise_madeB PySem.F.excCall_ValueError PySem.F.excRaise_ValueError rfl (nameX_B (v := .type "ValueError") ?F ?X ?T ?e PyProof.Rows.Boot.«ValueError» ?n ⟨rfl, ?_⟩); (case F => k_asm); (case X => k_asm); (case T => k_asm); (case e => k_is); (case n => decide); k_whole)))
local macro_rules | `(tactic| walk_at "call builtin:all") => `(tactic| (k_here; k_dflt (refine' LSm.all_bools ?F ?N ?h ?l ?b ?_; (case F => k_asm); (case N => k_asm); (case h => rfl); (case l => exact News.isList (by k_asm) (by k_mem)); (case b => assumption); k_whole); intro h' tk' F' N'))
theorem nt_good {cs : Mem} {g : Value × Option Int → Bool} {n : Int} (a : (((cs.map fun x => x.1).length : Nat) : Int) = n) (b : (cs.map g).all id = true) : (decide ((cs.length : Int) = n) && cs.all g) = true := by
  rw [List.length_map] at a
  rw [List.all_map] at b
  rw [Bool.and_eq_true, decide_eq_true_eq]
  exact ⟨a, b⟩
theorem nt_bad1 {cs : Mem} {b : Bool} {n : Int} (a : ¬ (((cs.map fun x => x.1).length : Nat) : Int) = n) : (decide ((cs.length : Int) = n) && b) = false := by
  rw [List.length_map] at a
  rw [decide_eq_false a, Bool.false_and]
theorem nt_bad2 {cs : Mem} {g : Value × Option Int → Bool} {n : Int} (b : ¬ (cs.map g).all id = true) : (decide ((cs.length : Int) = n) && cs.all g) = false := by
  rw [List.all_map] at b
  have : cs.all g = false := by simpa using b
  rw [this, Bool.and_false]
theorem nt_bad3 {cs : Mem} {g : Value × Option Int → Bool} {n : Int} (b : (cs.map g).all id = false) : (decide ((cs.length : Int) = n) && cs.all g) = false := nt_bad2 (by rw [b]; decide)
theorem nt_w1 {cs : Mem} {n : Int} {x y : Str} {u : Tok} (a : ¬ (((cs.map fun x => x.1).length : Nat) : Int) = n) : ∃ t, [Value.str y u] = [Value.str (if (cs.length : Int) = n then x else y) t] := by
  rw [List.length_map] at a
  exact ⟨u, by rw [if_neg a]⟩
theorem nt_w2 {cs : Mem} {n : Int} {x y : Str} {u : Tok} (a : (((cs.map fun x => x.1).length : Nat) : Int) = n) : ∃ t, [Value.str x u] = [Value.str (if (cs.length : Int) = n then x else y) t] := by
  rw [List.length_map] at a
  exact ⟨u, by rw [if_pos a]⟩
theorem el_n {news : List (Addr × Obj)} {l h : Int} : BoolEl news (insideB none l h) (.bool false) news := ⟨rfl, rfl⟩
theorem el_f {news : List (Addr × Obj)} {n l h : Int} (a : ¬ l ≤ n) : BoolEl news (insideB (some n) l h) (.bool (decide (l ≤ n))) news := ⟨rfl, by simp [insideB, a]⟩
theorem el_t {news : List (Addr × Obj)} {n l h : Int} (a : l ≤ n) : BoolEl news (insideB (some n) l h) (.bool (decide (n ≤ h))) news := ⟨rfl, by simp [insideB, a]⟩
set_option maxHeartbeats 1000000 in
theorem ntuple_c (w : World) (nm : Str) (cs : Mem) (a : Addr) (o : Obj) (y : Str) (n l h : Int) (t0 t1 t2 t3 : Tok) (hn : nm.length ≤ 10) (hK : ∀ p ∈ cs, Kind w p.1 p.2) (hc : cs.length ≤ 1000) (hnn : n.natAbs < 10 ^ 10) (hl : l.natAbs < 10 ^ 10) (hh : h.natAbs < 10 ^ 10) (hR : RowObj o (cs.map (·.1))) :
    CtrXc 2 w 84 [.str nm t0, .ref a, .int n t1, .int l t2, .int h t3] (fun news => Says w news (.ref a) y ∧ (a, o) ∈ news) (decide ((cs.length : Int) = n) && cs.all fun p => insideB p.2 l h) (fun r => r = .ref a)
      (fun vs => ∃ u, vs = [.str (if (cs.length : Int) = n then Ms2 nm l h y else Ms3 nm n y) u]) := by
  unfold CtrXc KK PR
  k_fill
  intro mean mg mb dp un cn cs' ca ccd cl outer A₀ base h₀ L m news s Q E B F X N T hk hp hd hu hret hexc
  obtain ⟨hs, hm⟩ := hp
  refine wpAny_call ?_
  k_dflt (refine' code_defC ?k1 ?k2 ?k3 ?k4 ?k5 ?kA ?kF ?kK ?k6 ?k7 ?k8 ?k9 ?kB ?kD ?_ ?c2 ?c3 ?c4; (case kA => exact rfl); (case kF => exact rfl); (case k1 => k_asm); (case k2 => k_asm); (case k3 => k_asm); (case k4 => k_asm); (case k5 => k_asm); (case k6 => k_is); (case k7 => k_is); (case k8 => ktr_room); (case k9 => exact BindsTo.of_eq rfl); (case kK => first | assumption | exact rfl); (case kB => exact rfl); (case kD => decide +kernel); (case c2 => exact rfl); (case c3 => exact rfl); (case c4 => exact rfl); k_whole; intro g' L' h' tk' cells' FG' F' N' Y' B' X' T' l1; k_cells Y'; (try simp only [List.cons_append, List.nil_append] at N'); (try dsimp only); (try k_lift B'); (try k_fold))
  k_steps
  · (rename RaisedS _ _ _ _ _ _ _ _ _ => rS); refine hexc (nt_bad1 (by assumption)) _ _ _ _ _ _ (nt_w1 (by assumption)) ?_ (raisedS_drop rS ?_) ?_; assumption; kcf_all; assumption
  · refine' RowSrc.intro rfl ?F ?N ?m hR ?z ?_
    case F => k_asm
    case N => k_asm
    case m => kcf_m
    case z => rw [List.length_map, sizeLine_eq]; omega
    intro g
    refine rows_bools (fun p => insideB p.2 l h) ?turn (by kcf_m) ?fin
    case turn =>
      intro p I oI C oC D m₂ ys h' tk E' hp hC hx F' N' off ne hS
      have Kp := hK p hp
      obtain ⟨v, op⟩ := p
      dsimp only at hx Kp ⊢
      cases op
      all_goals k_steps
      all_goals (refine LCg.CompEnd.intro (by assumption) (by assumption) _ (fun _ hp => hp) off hS ?_; first | exact el_n | exact el_t (by assumption) | exact el_f (by assumption))
    case fin =>
      intro ys hb
      k_steps
      · refine hret (nt_good (by assumption) (by assumption)) _ _ _ rfl (by k_asm) ?_
        refine' cb_drop ?N ?S
        case N => assumption
        case S => kcf_all
      · (rename RaisedS _ _ _ _ _ _ _ _ _ => rS); refine hexc (by first | exact nt_bad2 (by assumption) | exact nt_bad3 (by assumption)) _ _ _ _ _ _ (nt_w2 (by assumption)) ?_ (raisedS_drop rS ?_) ?_; assumption; kcf_all; assumption
end Mine
end
theorem Mine.resetAqIp : True := by
  w_top off
  first | walk1 | exact trivial
section
open PySem PySem.W PySem.Spec PySem.Calls PyProof.Rows
set_option Elab.async false
set_option maxRecDepth 100000
namespace Mine
theorem CtrXc.toX {k : Nat} {w : World} {f : Addr} {vs : List Value} {pre : List (Addr × Obj) → Prop} {good : Bool} {Ret : Value → Prop} {Ws : List Value → Prop} (C : CtrXc k w f vs pre good Ret Ws) : CtrX k w f vs pre good Ret Ws :=
  fun mean mg mb dp un cn cs a ccd outer A₀ base h₀ L m news s Q E B F X N T hk hp hd hu hret hexc => C mean mg mb dp un cn cs a ccd [] outer A₀ base h₀ L m news s Q E B F X N T hk hp hd hu hret hexc
section
local macro_rules | `(tactic| walk_at "leaving ref") => `(tactic| (k_here; (refine' leave_onS ?k1 ?k2 ?k3 ?k4 ?_; (case k3 => assumption); (case k2 => assumption); (case k1 => assumption); (case k4 => assumption); k_whole; intro h' S' R' U'; (try dsimp only at S' R' U' ⊢))))
local macro_rules | `(tactic| walk_at "call ref") => `(tactic| (k_here; (k_dflt (refine' CtrX.use (CtrXc.toX (ntuple_c _ _ _ _ _ _ _ _ _ _ _ _ _ ?n ?K ?c ?s ?l ?h ?R)) ?B ?F ?X ?N ?T ?hk ?hp ?hd ?hu ?r ?e; (case R => with_reducible assumption); (case K => with_reducible assumption); (case n => with_reducible assumption); (case c => with_reducible assumption); (case s => decide); (case l => decide); (case h => decide); (case B => k_asm); (case F => k_asm); (case X => k_asm); (case N => k_asm); (case T => k_asm); (case hk => first | assumption | exact rfl); (case hp => with_reducible assumption); (case hd => (first | decide +kernel | ktr_room)); (case hu => (first | decide +kernel | ktr_units)))); (case' r => (intro gd' r' h' tk' e' F' N'; subst e')); (case' e => (intro gd' e' t' vs' h' G' tk' w' F' R' U'))))
set_option maxHeartbeats 1000000 in
theorem ip4 (w : World) (nm : Str) (cs : Mem) (a : Addr) (o : Obj) (y : Str) (t0 : Tok) (hn : nm.length ≤ 10) (hK : ∀ p ∈ cs, Kind w p.1 p.2) (hc : cs.length ≤ 1000) (hR : RowObj o (cs.map (·.1))) :
    CtrX 3 w 91 [.str nm t0, .ref a] (fun news => Says w news (.ref a) y ∧ (a, o) ∈ news) (decide ((cs.length : Int) = 4) && cs.all fun p => insideB p.2 0 255) (fun r => r = .ref a)
      (fun vs => ∃ u, vs = [.str (if (cs.length : Int) = 4 then Ms2 nm 0 255 y else Ms3 nm 4 y) u]) := by
  unfold CtrX KK PR
  k_fill
  intro mean mg mb dp un cn cs' ca ccd outer A₀ base h₀ L m news s Q E B F X N T hk hp hd hu hret hexc
  refine wpAny_call ?_
  k_dflt cell_enter
  k_steps
  all_goals first
    | (refine hret (by assumption) _ _ _ rfl (by k_asm) (by k_asm))
    | ((rename RaisedS _ _ _ _ _ _ _ _ _ => rS); refine hexc (by assumption) _ _ _ _ _ _ (by assumption) ?_ (raisedS_drop rS ?_) ?_; assumption; kcj_all; assumption)
set_option maxHeartbeats 1000000 in
theorem ip6 (w : World) (nm : Str) (cs : Mem) (a : Addr) (o : Obj) (y : Str) (t0 : Tok) (hn : nm.length ≤ 10) (hK : ∀ p ∈ cs, Kind w p.1 p.2) (hc : cs.length ≤ 1000) (hR : RowObj o (cs.map (·.1))) :
    CtrX 3 w 98 [.str nm t0, .ref a] (fun news => Says w news (.ref a) y ∧ (a, o) ∈ news) (decide ((cs.length : Int) = 16) && cs.all fun p => insideB p.2 0 255) (fun r => r = .ref a)
      (fun vs => ∃ u, vs = [.str (if (cs.length : Int) = 16 then Ms2 nm 0 255 y else Ms3 nm 16 y) u]) := by
  unfold CtrX KK PR
  k_fill
  intro mean mg mb dp un cn cs' ca ccd outer A₀ base h₀ L m news s Q E B F X N T hk hp hd hu hret hexc
  refine wpAny_call ?_
  k_dflt cell_enter
  k_steps
  all_goals first
    | (refine hret (by assumption) _ _ _ rfl (by k_asm) (by k_asm))
    | ((rename RaisedS _ _ _ _ _ _ _ _ _ => rS); refine hexc (by assumption) _ _ _ _ _ _ (by assumption) ?_ (raisedS_drop rS ?_) ?_; assumption; kcj_all; assumption)
end
end Mine
end
theorem Mine.resetAqRowed : True := by
  w_top off
  first | walk1 | exact trivial
section
open PySem PySem.W PySem.Spec PySem.Calls PyProof.Rows
set_option Elab.async false
set_option maxRecDepth 100000
namespace Mine
/-- what a row asked comes to -/
def RowRes (a : Addr) (nm : Str) (cs : Mem) (y : Str) (n l h : Int) (r : Value) : Prop :=
  if (decide ((cs.length : Int) = n) && cs.all fun p => insideB p.2 l h) = true then r = .ref a else ∃ t, r = .str (if (cs.length : Int) = n then Ms2 nm l h y else Ms3 nm n y) t
section
local macro_rules | `(tactic| walk_at "call ref") => `(tactic| (k_here; (k_dflt (first | (refine' CtrX.use (CtrXc.toX (ntuple_c _ _ _ _ _ _ _ _ _ _ _ _ _ ?n ?K ?c ?s ?l ?h ?R)) ?B ?F ?X ?N ?T ?hk ?hp ?hd ?hu ?r ?e; (case R => with_reducible assumption); (case K => with_reducible assumption); (case n => with_reducible assumption); (case c => with_reducible assumption); (case s => with_reducible assumption); (case l => with_reducible assumption); (case h => with_reducible assumption); (case B => k_asm); (case F => k_asm); (case X => k_asm); (case N => k_asm); (case T => k_asm); (case hk => first | assumption | exact rfl); (case hp => with_reducible assumption); (case hd => (first | decide +kernel | ktr_room)); (case hu => (first | decide +kernel | ktr_units))) | (refine' CtrX.use (ip4 _ _ _ _ _ _ _ ?n ?K ?c ?R) ?B ?F ?X ?N ?T ?hk ?hp ?hd ?hu ?r ?e; (case R => with_reducible assumption); (case K => with_reducible assumption); (case n => with_reducible assumption); (case c => with_reducible assumption); (case B => k_asm); (case F => k_asm); (case X => k_asm); (case N => k_asm); (case T => k_asm); (case hk => first | assumption | exact rfl); (case hp => with_reducible assumption); (case hd => (first | decide +kernel | ktr_room)); (case hu => (first | decide +kernel | ktr_units))) | (refine' CtrX.use (ip6 _ _ _ _ _ _ _ ?n ?K ?c ?R) ?B ?F ?X ?N ?T ?hk ?hp ?hd ?hu ?r ?e; (case R => with_reducible assumption); (case K => with_reducible assumption); (case n => with_reducible assumption); (case c => with_reducible assumption); (case B => k_asm); (case F => k_asm); (case X => k_asm); (case N => k_asm); (case T => k_asm); (case hk => first | assumption | exact rfl); (case hp => with_reducible assumption); (case hd => (first | decide +kernel | ktr_room)); (case hu => (first | decide +kernel | ktr_units))))); (case' r => (intro gd' r' h' tk' e' F' N'; subst e')); (case' e => (intro gd' e' t' vs' h' G' tk' w' F' R' U'; obtain ⟨u', e9'⟩ := w'; subst e9'))))
set_option maxHeartbeats 1000000 in
theorem rowed_0 (w : World) (nm : Str) (cs : Mem) (a : Addr) (o : Obj) (y : Str) (n l h : Int) (tk t0 t1 t2 t3 : Tok) (hn : nm.length ≤ 10) (hK : ∀ p ∈ cs, Kind w p.1 p.2) (hc : cs.length ≤ 1000) (hnn : n.natAbs < 10 ^ 10) (hl : l.natAbs < 10 ^ 10) (hh : h.natAbs < 10 ^ 10) (hR : RowObj o (cs.map (·.1))) :
    CtrT w 142 [.int 0 tk, .str nm t0, .ref a, .int n t1, .int l t2, .int h t3] (fun _ news => Says w news (.ref a) y ∧ (a, o) ∈ news) (RowRes a nm cs y n l h) := by
  unfold CtrT KK PR
  k_fill
  intro mean mg mb cn cs' ca ccd cl h₀ L m news s Q E B F X N T hk hp hret
  refine wpAny_call ?_
  k_dflt (refine' code_defT ?k1 ?k2 ?k3 ?k4 ?k5 ?kA ?kF ?kK ?k6 ?k7 ?k8 ?k9 ?kB ?_ ?c2 ?c3 ?c4 ?c5; (case kA => exact rfl); (case kF => exact rfl); (case k2 => k_asm); (case k1 => k_asm); (case k3 => k_asm); (case k4 => k_asm); (case k5 => k_asm); (case k6 => k_is); (case k7 => k_is); (case k8 => k_room); (case k9 => exact BindsTo.of_eq rfl); (case kK => first | assumption | exact rfl); (case kB => exact locs rfl); (case c2 => exact rfl); (case c3 => exact rfl); (case c4 => exact rfl); (case c5 => decide); k_whole; intro g' L' h' FG' F' N' B' X' T' D'; (try dsimp only); (try k_lift B'); (try k_fold))
  k_steps
  all_goals (refine hret _ _ _ ?_ (by k_asm) (by k_asm); first | exact end_t (by assumption) rfl | exact end_f (by assumption) ⟨_, rfl⟩)
set_option maxHeartbeats 1000000 in
theorem rowed_1 (w : World) (nm : Str) (cs : Mem) (a : Addr) (o : Obj) (y : Str) (n l h : Int) (tk t0 t1 t2 t3 : Tok) (hn : nm.length ≤ 10) (hK : ∀ p ∈ cs, Kind w p.1 p.2) (hc : cs.length ≤ 1000) (hR : RowObj o (cs.map (·.1))) :
    CtrT w 142 [.int 1 tk, .str nm t0, .ref a, .int n t1, .int l t2, .int h t3] (fun _ news => Says w news (.ref a) y ∧ (a, o) ∈ news) (RowRes a nm cs y 4 0 255) := by
  unfold CtrT KK PR
  k_fill
  intro mean mg mb cn cs' ca ccd cl h₀ L m news s Q E B F X N T hk hp hret
  refine wpAny_call ?_
  k_dflt (refine' code_defT ?k1 ?k2 ?k3 ?k4 ?k5 ?kA ?kF ?kK ?k6 ?k7 ?k8 ?k9 ?kB ?_ ?c2 ?c3 ?c4 ?c5; (case kA => exact rfl); (case kF => exact rfl); (case k2 => k_asm); (case k1 => k_asm); (case k3 => k_asm); (case k4 => k_asm); (case k5 => k_asm); (case k6 => k_is); (case k7 => k_is); (case k8 => k_room); (case k9 => exact BindsTo.of_eq rfl); (case kK => first | assumption | exact rfl); (case kB => exact locs rfl); (case c2 => exact rfl); (case c3 => exact rfl); (case c4 => exact rfl); (case c5 => decide); k_whole; intro g' L' h' FG' F' N' B' X' T' D'; (try dsimp only); (try k_lift B'); (try k_fold))
  k_steps
  all_goals (refine hret _ _ _ ?_ (by k_asm) (by k_asm); first | exact end_t (by assumption) rfl | exact end_f (by assumption) ⟨_, rfl⟩)
set_option maxHeartbeats 1000000 in
theorem rowed_2 (w : World) (nm : Str) (cs : Mem) (a : Addr) (o : Obj) (y : Str) (n l h : Int) (tk t0 t1 t2 t3 : Tok) (hn : nm.length ≤ 10) (hK : ∀ p ∈ cs, Kind w p.1 p.2) (hc : cs.length ≤ 1000) (hR : RowObj o (cs.map (·.1))) :
    CtrT w 142 [.int 2 tk, .str nm t0, .ref a, .int n t1, .int l t2, .int h t3] (fun _ news => Says w news (.ref a) y ∧ (a, o) ∈ news) (RowRes a nm cs y 16 0 255) := by
  unfold CtrT KK PR
  k_fill
  intro mean mg mb cn cs' ca ccd cl h₀ L m news s Q E B F X N T hk hp hret
  refine wpAny_call ?_
  k_dflt (refine' code_defT ?k1 ?k2 ?k3 ?k4 ?k5 ?kA ?kF ?kK ?k6 ?k7 ?k8 ?k9 ?kB ?_ ?c2 ?c3 ?c4 ?c5; (case kA => exact rfl); (case kF => exact rfl); (case k2 => k_asm); (case k1 => k_asm); (case k3 => k_asm); (case k4 => k_asm); (case k5 => k_asm); (case k6 => k_is); (case k7 => k_is); (case k8 => k_room); (case k9 => exact BindsTo.of_eq rfl); (case kK => first | assumption | exact rfl); (case kB => exact locs rfl); (case c2 => exact rfl); (case c3 => exact rfl); (case c4 => exact rfl); (case c5 => decide); k_whole; intro g' L' h' FG' F' N' B' X' T' D'; (try dsimp only); (try k_lift B'); (try k_fold))
  k_steps
  all_goals (refine hret _ _ _ ?_ (by k_asm) (by k_asm); first | exact end_t (by assumption) rfl | exact end_f (by assumption) ⟨_, rfl⟩)
end
end Mine
end
theorem Mine.resetAqDue : True := by
  w_top off
  first | walk1 | exact trivial
section
open PySem PySem.W PySem.Spec PySem.Calls PyProof.Rows
set_option Elab.async false
set_option maxRecDepth 100000
namespace Mine
section
variable {prog : Program} {w : World} {A : Around} {E : Value → Shared → Prop} {s : Shared} {h₀ : Heap} {L : Addr} {m : Str → Option Value} {news news' : List (Addr × Obj)} {v : Value} {y : Str} {Q : Value → Shared → Prop} {mean : ExcName → Option Value} {mg mb : Str → Option Value}
theorem str_says2 (ok : Says w news v y) (F : Fr h₀ L s.heap m) (X : (hd.heap_39 w.params).In h₀) (T : Top topProg LO mean mg mb h₀) (N' : News h₀ L s.heap news') (hs : ∀ p ∈ news, p ∈ news') (hg : A.guards = some []) (hu : A.units + 20 < cLine) (hh : A.handled = none)
    (hq : ∀ h' t k, Fr h₀ L h' m → News h₀ L h' news' → Q (.str y t) { s with heap := h', toks := k }) : wpAny (model prog w) A (call (.type "str") [v]) Q E s :=
  strOk_call ok hg hu hh ⟨h₀, L, m, mean, mg, mb, F, X, T, fun p hp => N' p (hs p hp)⟩ fun h' t k hk => hq h' t k (F.keptAll hk) (N'.grown hk)
end
theorem Ctr.use {w : World} {f : Addr} {vs : List Value} {pre : Heap → List (Addr × Obj) → Prop} {Ret : Value → Prop} (C : Ctr w f vs pre Ret)
    {mean : ExcName → Option Value} {mg mb : Str → Option Value} {dp un : Nat} {cn : Str} {cs : Scope} {a : Addr} {ccd : Value} {cl : List (Str × Addr)} {outer : List Env} {A₀ : Around} {base h₀ : Heap} {L : Addr} {m : Str → Option Value} {news : List (Addr × Obj)} {s : Shared} {Q E : Value → Shared → Prop}
    (B : Below A₀ base outer h₀) (F : Fr h₀ L s.heap m) (X : (hd.heap_39 w.params).In h₀) (N : News h₀ L s.heap news) (T : Top topProg LO mean mg mb h₀) (hk : cs.kind = .function) (hp : pre h₀ news) (hdp : dp + 4 < recursionLimit) (hun : un + 64 < cLine)
    (hret : ∀ (r : Value) (h' : Heap) (tk' : Nat), Ret r → Fr h₀ L h' m → News h₀ L h' news → Q r { s with heap := h', toks := tk' }) :
    wpAny (model Challenge.rw_aq6015_01.row.prog w) (ktrTop dp un (some []) cn cs L a ccd cl outer) (call (.ref f) vs) Q E s := C _ _ _ _ _ _ _ _ _ _ _ _ _ _ _ _ _ _ _ _ B F X N T hk hp hdp hun hret
section
local macro_rules | `(tactic| walk_at "call ref") => `(tactic| (k_here; (k_dflt (refine' Ctr.use (inside _ _ _ _ _ _ _ ?K) ?B ?F ?X ?N ?T ?hk ?hp ?hd ?hu ?r; (case K => with_reducible assumption); (case B => k_asm); (case F => k_asm); (case X => k_asm); (case N => k_asm); (case T => k_asm); (case hk => first | assumption | exact rfl); (case hp => exact trivial); (case hd => (first | decide +kernel | ktr_room)); (case hu => (first | decide +kernel | ktr_units)))); (case' r => (intro r' h' tk' e' F' N'; subst e'))))
local macro_rules | `(tactic| walk_at "call type:str") => `(tactic| (k_here; k_dflt (refine' str_says2 ?ok ?F ?X ?T ?N ?S ?g ?u ?h ?_; (case ok => with_reducible assumption); (case F => k_asm); (case X => k_asm); (case T => k_asm); (case N => k_asm); (case S => first | kcf_all | kcj_all); (case g => exact rfl); (case u => ktr_units); (case h => exact rfl); k_whole); intro h' t' k' F' N'; (try k_sweep)))
local macro_rules | `(tactic| walk_at "binaryOp Add str str") => `(tactic| (k_here; (with_reducible show wpAny _ _ (binaryOp _ (Value.str _ _) (Value.str _ _)) _ _ _); (refine' add_strs ?x ?y ?z ?_; (case x => first | with_reducible assumption | exact Nat.le_refl _); (case y => first | with_reducible assumption | exact Nat.le_refl _); (case z => decide +kernel); k_whole); intro t' k' hL'))
local macro_rules | `(tactic| walk_at "call builtin:len") => `(tactic| (k_here; (with_reducible show wpAny _ _ (call (Value.builtin "len") [Value.ref _]) _ _ _); k_dflt (refine' len_row ?N ?m ?R ?z ?_; (case N => k_asm); (case m => kcf_m); (case R => assumption); (case z => (simp only [List.length_map]; assumption)); k_whole); intro t' k'))
local macro_rules | `(tactic| walk_at "eval ListComp") => `(tactic| (k_here; k_dflt (refine' ListComp_R ?F ?a ?b ?c ?d ?e ?_; (case F => k_asm); (case a => with_unfolding_all rfl); (case b => decide); (case c => rfl); (case d => decide); (case e => rfl); k_whole)))
local macro_rules | `(tactic| walk_at "call builtin:all") => `(tactic| (k_here; k_dflt (refine' LSm.all_bools ?F ?N ?h ?l ?b ?_; (case F => k_asm); (case N => k_asm); (case h => rfl); (case l => exact News.isList (by k_asm) (by k_mem)); (case b => assumption); k_whole); intro h' tk' F' N'))
theorem due_good {a : Addr} {nm : Str} {cs : Mem} {y : Str} {n l h : Int} {r : Value} (g : (decide ((cs.length : Int) = n) && cs.all fun p => insideB p.2 l h) = true) (e : r = .ref a) : RowRes a nm cs y n l h r := by
  unfold RowRes; rw [if_pos g]; exact e
theorem due_bad {a : Addr} {nm : Str} {cs : Mem} {y : Str} {n l h : Int} {r : Value} (g : (decide ((cs.length : Int) = n) && cs.all fun p => insideB p.2 l h) = false) (e : ∃ t, [r] = [Value.str (if (cs.length : Int) = n then Ms2 nm l h y else Ms3 nm n y) t]) : RowRes a nm cs y n l h r := by
  unfold RowRes; rw [if_neg (by rw [g]; decide)]
  obtain ⟨t, e⟩ := e
  exact ⟨t, (List.cons.inj e).1⟩
set_option maxHeartbeats 1000000 in
theorem row_due (w : World) (nm : Str) (cs : Mem) (a : Addr) (o : Obj) (y : Str) (n l h : Int) (t0 t1 t2 t3 : Tok) (hn : nm.length ≤ 10) (hK : ∀ p ∈ cs, Kind w p.1 p.2) (hc : cs.length ≤ 1000) (hnn : n.natAbs < 10 ^ 10) (hl : l.natAbs < 10 ^ 10) (hh : h.natAbs < 10 ^ 10) (hR : RowObj o (cs.map (·.1))) :
    CtrXc 2 w 147 [.str nm t0, .ref a, .int n t1, .int l t2, .int h t3] (fun news => Says w news (.ref a) y ∧ (a, o) ∈ news) true (RowRes a nm cs y n l h) (fun _ => False) := by
  unfold CtrXc KK PR
  k_fill
  intro mean mg mb dp un cn cs' ca ccd cl outer A₀ base h₀ L m news s Q E B F X N T hk hp hd hu hret0 _
  have hret := hret0 rfl
  clear hret0
  obtain ⟨hs, hm⟩ := hp
  have hyl := hs.len
  have hsn : Says w news (.int n t1) (IT n) := says_int n t1 (fit_small hnn)
  have hsl : Says w news (.int l t2) (IT l) := says_int l t2 (fit_small hl)
  have hsh : Says w news (.int h t3) (IT h) := says_int h t3 (fit_small hh)
  have hll := it_len11 hl
  have hlh := it_len11 hh
  have hln := it_len11 hnn
  refine wpAny_call ?_
  k_dflt (refine' code_defC ?k1 ?k2 ?k3 ?k4 ?k5 ?kA ?kF ?kK ?k6 ?k7 ?k8 ?k9 ?kB ?kD ?_ ?c2 ?c3 ?c4; (case kA => exact rfl); (case kF => exact rfl); (case k1 => k_asm); (case k2 => k_asm); (case k3 => k_asm); (case k4 => k_asm); (case k5 => k_asm); (case k6 => k_is); (case k7 => k_is); (case k8 => ktr_room); (case k9 => exact BindsTo.of_eq rfl); (case kK => first | assumption | exact rfl); (case kB => exact rfl); (case kD => decide +kernel); (case c2 => exact rfl); (case c3 => exact rfl); (case c4 => exact rfl); k_whole; intro g' L' h' tk' cells' FG' F' N' Y' B' X' T' l1; k_cells Y'; (try simp only [List.cons_append, List.nil_append] at N'); (try dsimp only); (try k_lift B'); (try k_fold))
  k_steps
  · refine hret _ _ _ (due_bad (nt_bad1 (by assumption)) (nt_w1 (by assumption))) (by k_asm) ?_
    refine' cb_drop ?N ?S
    case N => assumption
    case S => kcf_all
  · refine' RowSrc.intro rfl ?F ?N ?m hR ?z ?_
    case F => k_asm
    case N => k_asm
    case m => kcf_m
    case z => rw [List.length_map, sizeLine_eq]; omega
    intro g
    refine rows_bools (fun p => insideB p.2 l h) ?turn (by kcf_m) ?fin
    case turn =>
      intro p I oI C oC D m₂ ys h' tk E' hp hC hx F' N' off ne hS
      have Kp := hK p hp
      obtain ⟨v, op⟩ := p
      dsimp only at hx Kp ⊢
      k_steps
      all_goals (refine LCg.CompEnd.intro (by assumption) (by assumption) _ (fun _ hp => hp) off hS ?_; exact ⟨rfl, rfl⟩)
    case fin =>
      intro ys hb
      k_steps
      · refine hret _ _ _ (due_good (nt_good (by assumption) (by assumption)) rfl) (by k_asm) ?_
        refine' cb_drop ?N ?S
        case N => assumption
        case S => kcf_all
      · refine hret _ _ _ (due_bad (by first | exact nt_bad2 (by assumption) | exact nt_bad3 (by assumption)) (nt_w2 (by assumption))) (by k_asm) ?_
        refine' cb_drop ?N ?S
        case N => assumption
        case S => kcf_all
end
end Mine
end
theorem Mine.resetAqIsa : True := by
  w_top off
  first | walk1 | exact trivial
section
open PySem PySem.W PySem.Spec PySem.Calls PyProof.Rows
open Sem (wp)
set_option Elab.async false
set_option maxRecDepth 100000
namespace Mine
theorem owner_bytearray : Manifest.owners.lookup (String.ofList ['y', 'a', 'r', 'r', 'a', 'e', 't', 'y', 'b'].reverse) = some Manifest.sig_bytearray := by kernel_rfl
theorem ba_slot_ga : Slot "bytearray" "__getattribute__" "bytearray.__getattribute__" :=
  .of (owner := "bytearray") (n := "__getattribute__") (by rw [typeLookup_type, builtinLookup_eq_fast]; kernel_rfl) (by decide +kernel) (by decide +kernel) (by decide +kernel)
    (by first | exact .inl (by decide +kernel) | exact .inr (by decide +kernel)) (by rw [isSubtype_type]; kernel_rfl)
theorem ba_args_ga (a b : Value) : argsOk "bytearray.__getattribute__" ⟨[a, b], []⟩ := by
  unfold argsOk; rw [signature?_of (id := "bytearray.__getattribute__") (n := ['_', '_', 'e', 't', 'u', 'b', 'i', 'r', 't', 't', 'a', 't', 'e', 'g', '_', '_']) (o := ['y', 'a', 'r', 'r', 'a', 'e', 't', 'y', 'b']) (by kernel_rfl) owner_bytearray]; kernel_rfl
theorem ba_entry_ga : entryFor table "bytearray.__getattribute__" = some Builtin.«object.__getattribute__» :=
  entryFor_alias (id' := "object.__getattribute__") (by kernel_rfl) (by first | rfl | decide +kernel) (by decide +kernel) (by kernel_rfl)
theorem ba_lk_class : typeLookup (.type "bytearray") "__class__" = pure (some (.builtin "object.__class__")) := by rw [typeLookup_type, builtinLookup_eq_fast]; kernel_rfl
theorem ba_sub_owner : isSubtype (.type "bytearray") (.type (".".intercalate ("object.__class__".cutAt '.').dropLast)) = pure true := by
  rw [F.owner_object_class, isSubtype_type]; kernel_rfl
section
variable {prog : Program} {w : World} {A : Around} {E : Value → Shared → Prop} {h : Heap} {g : Array GenState} {d : Drawn} {t : Nat} {os : OsState} {a : Addr} {o : Obj}
theorem ba_class_get {R : Result → Shared → Prop} (hx : h.get? a = some o) (hc : o.cls = .type "bytearray") (hq : R (.ok (.ret (.type "bytearray"))) ⟨h, g, d, t, os⟩) :
    codeAny (model prog w) A (.call (.builtin "getset_descriptor.__get__") ⟨[.builtin "object.__class__", .ref a, .type "bytearray"], []⟩) R ⟨h, g, d, t, os⟩ := by
  have hT : (⟨h, g, d, t, os⟩ : Shared).TypeIs (.ref a) "bytearray" := ⟨_, hx, hc⟩
  have hT5 : (⟨h, g, d, t, os⟩ : Shared).TypeIs (.builtin "object.__class__") "getset_descriptor" := F.typeOf_object_class
  have f8 := ba_sub_owner
  refine codeAny_call_builtin F.slot_gs_get.plain F.entry_gs_get (F.slot_gs_get.check _ _ _ _ _ _ _ _ hT5 (F.args_gs_get _ _ _) ?_)
  repeat (any_goals (first | assumption | wp_step))
  refine ⟨Code.quiet_builtin _ (by decide +kernel), codeAny_builtin F.entry_object_class ?_⟩
  repeat (any_goals (first | assumption | wp_step))
theorem ba_class_entry {tk : Tok} {Q : Fin → Shared → Prop} (hx : h.get? a = some o) (hc : o.cls = .type "bytearray") (hq : Q (.done (.ret (.type "bytearray"))) ⟨h, g, d, t, os⟩) :
    wpAny (model prog w) A (Builtin.«object.__getattribute__» ⟨[.ref a, .str "__class__" tk], []⟩) Q E ⟨h, g, d, t, os⟩ := by
  have hT : (⟨h, g, d, t, os⟩ : Shared).TypeIs (.ref a) "bytearray" := ⟨_, hx, hc⟩
  have hT5 : (⟨h, g, d, t, os⟩ : Shared).TypeIs (.builtin "object.__class__") "getset_descriptor" := F.typeOf_object_class
  have f4 := ba_lk_class
  have f5 := F.typeOf_object_class
  have f6 := F.slot_gs_get.lookup
  have f7 := F.slot_gs_set.lookup
  repeat (any_goals (first | assumption | wp_step))
  refine ba_class_get hx hc ?_
  repeat (any_goals (first | assumption | wp_step))
theorem ba_class_call {tk : Tok} {R : Result → Shared → Prop} (hx : h.get? a = some o) (hc : o.cls = .type "bytearray") (hq : R (.ok (.ret (.type "bytearray"))) ⟨h, g, d, t, os⟩) :
    codeAny (model prog w) A (.call (.builtin "bytearray.__getattribute__") ⟨[.ref a, .str "__class__" tk], []⟩) R ⟨h, g, d, t, os⟩ :=
  codeAny_call_builtin ba_slot_ga.plain ba_entry_ga (ba_slot_ga.check _ _ _ _ _ _ _ _ (show (⟨h, g, d, t, os⟩ : Shared).TypeIs (.ref a) "bytearray" from ⟨_, hx, hc⟩) (ba_args_ga _ _) (ba_class_entry hx hc hq))
theorem ba_class_by {tk : Tok} {Q : Value → Shared → Prop} (hx : h.get? a = some o) (hc : o.cls = .type "bytearray") (hq : Q (.type "bytearray") ⟨h, g, d, t, os⟩) : wpAny (model prog w) A (getAttrBy (.ref a) (.str "__class__" tk) false) Q E ⟨h, g, d, t, os⟩ := by
  have hT : (⟨h, g, d, t, os⟩ : Shared).TypeIs (.ref a) "bytearray" := ⟨_, hx, hc⟩
  have f2 := ba_slot_ga.lookup
  have f3 := ba_slot_ga.bind (.ref a)
  repeat (any_goals (first | assumption | wp_step))
  refine ba_class_call hx hc ?_
  repeat (any_goals (first | assumption | wp_step))
theorem ba_class_attr {Q : Option Value → Shared → Prop} (hx : h.get? a = some o) (hc : o.cls = .type "bytearray") (hq : Q (some (.type "bytearray")) ⟨h, g, d, t + 1, os⟩) : wpAny (model prog w) A (getAttr? (.ref a) "__class__") Q E ⟨h, g, d, t, os⟩ := by
  unfold getAttr? getAttrBy?
  repeat (any_goals (first | assumption | with_reducible apply ba_class_by hx hc | wp_step))
end
theorem kitx_bytearray {K : Frag} {a : Addr} : KitX K (.ref a) (.type "bytearray") (KitAt a "bytearray") := kitx_of kitAt_ty (fun {_ _ _ _ _ s} p k => by obtain ⟨h, g, d, t, os⟩ := s; obtain ⟨o, h1, h2⟩ := p; exact ba_class_attr h1 h2 k)
set_option maxHeartbeats 1000000
theorem isa_bytearray (w : World) (news : List (Addr × Obj)) (a : Addr) (o : Obj) (hm : (a, o) ∈ news) (hc : o.cls = .type "bytearray") : IsA w news (.ref a) (.ref 16) "bytearray" true where
  isI := by
    unfold Reads2
    k_fill
    intro mean mg mb A E s h₀ L m Q hu hh hg F X T N h
    refine' kia_tup (kitx_bytearray (K := hd.heap_39 w.params)) ?X ⟨_, (N _ hm).1, hc⟩ ?p ?ee ?nb ?_
    case X => k_in
    case p => kit_tp
    case ee => kit_is
    case nb => kit_nb
    exact h
  ty := by
    intro mean mg mb A E s h₀ L m Q hu hh hg F X T N h
    exact call_type_of (Tx := "bytearray") ⟨_, (N _ hm).1, hc⟩ (by decide +kernel) (h _)
  met := by decide +kernel
  len := by decide +kernel
theorem isa_list (w : World) (news : List (Addr × Obj)) (a : Addr) (o : Obj) (hm : (a, o) ∈ news) (hc : o.cls = .type "list") : IsA w news (.ref a) (.ref 16) "list" false where
  isI := by
    unfold Reads2
    k_fill
    intro mean mg mb A E s h₀ L m Q hu hh hg F X T N h
    refine' kia_tup (kitx_list (K := hd.heap_39 w.params)) ?X ⟨_, (N _ hm).1, hc⟩ ?p ?ee ?nb ?_
    case X => k_in
    case p => kit_tp
    case ee => kit_is
    case nb => kit_nb
    exact h
  ty := by
    intro mean mg mb A E s h₀ L m Q hu hh hg F X T N h
    exact call_type_of (Tx := "list") ⟨_, (N _ hm).1, hc⟩ (by decide +kernel) (h _)
  met := by decide +kernel
  len := by decide +kernel
theorem isa_bytes (w : World) (news : List (Addr × Obj)) (x : Array UInt8) (u : Tok) : IsA w news (.bytes x u) (.ref 16) "bytes" true where
  isI := by
    unfold Reads2
    k_fill
    intro mean mg mb A E s h₀ L m Q hu hh hg F X T N h
    walk1
    all_goals exact h _
  ty := by
    intro mean mg mb A E s h₀ L m Q hu hh hg F X T N h
    exact call_type_of (Tx := "bytes") rfl (by decide +kernel) (h _)
  met := by decide +kernel
  len := by decide +kernel
theorem isa_str (w : World) (news : List (Addr × Obj)) (x : Str) (u : Tok) : IsA w news (.str x u) (.ref 16) "str" false where
  isI := by
    unfold Reads2
    k_fill
    intro mean mg mb A E s h₀ L m Q hu hh hg F X T N h
    walk1
    all_goals exact h _
  ty := by
    unfold Reads2
    k_fill
    intro mean mg mb A E s h₀ L m Q hu hh hg F X T N h
    walk1
    all_goals exact h _
  met := by decide +kernel
  len := by decide +kernel
theorem isa_int (w : World) (news : List (Addr × Obj)) (n : Int) (u : Tok) : IsA w news (.int n u) (.ref 16) "int" false where
  isI := by
    unfold Reads2
    k_fill
    intro mean mg mb A E s h₀ L m Q hu hh hg F X T N h
    walk1
    all_goals exact h _
  ty := by
    unfold Reads2
    k_fill
    intro mean mg mb A E s h₀ L m Q hu hh hg F X T N h
    walk1
    all_goals exact h _
  met := by decide +kernel
  len := by decide +kernel
theorem isa_none (w : World) (news : List (Addr × Obj))  : IsA w news .none (.ref 16) "NoneType" false where
  isI := by
    unfold Reads2
    k_fill
    intro mean mg mb A E s h₀ L m Q hu hh hg F X T N h
    walk1
    all_goals exact h _
  ty := by
    unfold Reads2
    k_fill
    intro mean mg mb A E s h₀ L m Q hu hh hg F X T N h
    walk1
    all_goals exact h _
  met := by decide +kernel
  len := by decide +kernel
theorem isa_intI (w : World) (news : List (Addr × Obj)) (n : Int) (u : Tok) : IsA w news (.int n u) (.type "int") "int" true where
  isI := by
    unfold Reads2
    k_fill
    intro mean mg mb A E s h₀ L m Q hu hh hg F X T N h
    walk1
    all_goals exact h _
  ty := by
    unfold Reads2
    k_fill
    intro mean mg mb A E s h₀ L m Q hu hh hg F X T N h
    walk1
    all_goals exact h _
  met := by decide +kernel
  len := by decide +kernel
theorem isa_strI (w : World) (news : List (Addr × Obj)) (x : Str) (u : Tok) : IsA w news (.str x u) (.type "int") "str" false where
  isI := by
    unfold Reads2
    k_fill
    intro mean mg mb A E s h₀ L m Q hu hh hg F X T N h
    walk1
    all_goals exact h _
  ty := by
    unfold Reads2
    k_fill
    intro mean mg mb A E s h₀ L m Q hu hh hg F X T N h
    walk1
    all_goals exact h _
  met := by decide +kernel
  len := by decide +kernel
end Mine
end
theorem Mine.resetAqShow : True := by
  w_top off
  first | walk1 | exact trivial
section
open PySem PySem.W PySem.Spec PySem.Calls PyProof.Rows
set_option Elab.async false
set_option maxRecDepth 100000
namespace Mine
/-- a member of a drawn row -/
def RowEl (p : Value × Option Int) : Prop := (∃ n t, p = (.int n t, some n) ∧ n.natAbs < 10 ^ 10) ∨ (∃ t, p = (.str (Str.ofString "x") t, none))
def FlatD (d : PyData) : Prop := (d.showable = true ∧ d.hasDict = false ∧ d.depth = 0 ∧ d.shown.length ≤ 20) ∧ d.canLay0 = true ∧ PyData.eqv d d = true
theorem flat_int {n : Int} (h : n.natAbs < 10 ^ 10) : FlatD (.int n) := by
  refine ⟨⟨?_, by simp only [PyData.hasDict], by simp only [PyData.depth], ?_⟩, by simp only [PyData.canLay0], by simp only [PyData.eqv, beq_self_eq_true]⟩
  · have := hd2 h
    simp only [PyData.showable, decide_eq_true_eq]
    simpa using this
  · simp only [PyData.shown]
    exact Nat.le_trans (it_len11 h) (by decide)
theorem flat_x : FlatD (.str (Str.ofString "x")) := by
  refine ⟨⟨by simp only [PyData.showable], by simp only [PyData.hasDict], by simp only [PyData.depth], ?_⟩, by decide +kernel, by simp only [PyData.eqv, beq_self_eq_true]⟩
  simp only [PyData.shown]
  decide +kernel
theorem row_reads : ∀ cs : Mem, (∀ p ∈ cs, RowEl p) → ∃ ds, (∀ h : Heap, ReadsAll h (cs.map (·.1)) ds []) ∧ (∀ d ∈ ds, FlatD d) ∧ ds.length = cs.length
  | [], _ => ⟨[], fun _ => .nil, (fun _ h => nomatch h), rfl⟩
  | p :: cs, hp => by
    obtain ⟨ds, h1, h2, h3⟩ := row_reads cs fun q hq => hp q (List.mem_cons_of_mem _ hq)
    rcases hp p List.mem_cons_self with ⟨n, t, rfl, hn⟩ | ⟨t, rfl⟩
    · refine ⟨.int n :: ds, fun h => ReadsAll.cons (as := []) (bs := []) (.int n t) (h1 h), fun d hd => ?_, by simp [h3]⟩
      rcases List.mem_cons.mp hd with rfl | hd
      · exact flat_int hn
      · exact h2 d hd
    · refine ⟨.str _ :: ds, fun h => ReadsAll.cons (as := []) (bs := []) (.str _ t) (h1 h), fun d hd => ?_, by simp [h3]⟩
      rcases List.mem_cons.mp hd with rfl | hd
      · exact flat_x
      · exact h2 d hd
theorem flat_all : ∀ ds : List PyData, (∀ d ∈ ds, FlatD d) → PyData.showableAll ds = true ∧ PyData.hasDictAll ds = false ∧ PyData.depthAll ds = 0 ∧ (∀ t ∈ PyData.shownAll ds, t.length ≤ 20) ∧ (PyData.shownAll ds).length = ds.length
  | [], _ => ⟨by simp only [PyData.showableAll], by simp only [PyData.hasDictAll], by simp only [PyData.depthAll], (fun t h => by simp [PyData.shownAll] at h), by simp [PyData.shownAll]⟩
  | d :: ds, h => by
    obtain ⟨a, b, c, e, f⟩ := flat_all ds fun q hq => h q (List.mem_cons_of_mem _ hq)
    obtain ⟨⟨a', b', c', e'⟩, _⟩ := h d List.mem_cons_self
    refine ⟨by simp only [PyData.showableAll, a, a', Bool.and_self], by simp only [PyData.hasDictAll, b, b', Bool.or_self], by simp only [PyData.depthAll, c, c', Nat.max_self], fun t ht => ?_, by simp [PyData.shownAll, f]⟩
    simp only [PyData.shownAll, List.mem_cons] at ht
    rcases ht with rfl | ht
    · exact e'
    · exact e t ht
theorem flat_more : ∀ ds : List PyData, (∀ d ∈ ds, FlatD d) → PyData.canLayAll0 ds = true ∧ PyData.eqvAll ds ds = true
  | [], _ => ⟨by simp only [PyData.canLayAll0], by simp only [PyData.eqvAll]⟩
  | d :: ds, h => by
    obtain ⟨a, b⟩ := flat_more ds fun q hq => h q (List.mem_cons_of_mem _ hq)
    obtain ⟨_, a', b'⟩ := h d List.mem_cons_self
    exact ⟨by simp only [PyData.canLayAll0, a, a', Bool.and_self], by simp only [PyData.eqvAll, b, b', Bool.and_self]⟩
theorem textFrom_up : ∀ (ts : List Str) (k : Nat) (acc : Str), (∀ t ∈ ts, t.length ≤ 20) → (textFrom k acc ts).length ≤ acc.length + 22 * ts.length
  | [], k, acc, _ => by show acc.length ≤ acc.length + 22 * 0; omega
  | t :: r, k, acc, h => by
    have ih := textFrom_up r (k + 1) (acc ++ (if k > 0 then ", " else "" : String) ++ t) fun q hq => h q (List.mem_cons_of_mem _ hq)
    have ht := h t List.mem_cons_self
    show (textFrom (k + 1) (acc ++ (if k > 0 then ", " else "" : String) ++ t) r).length ≤ _
    rw [strLen_append, strLen_append] at ih
    have e : (((if k > 0 then ", " else "" : String) : Str)).length ≤ 2 := by split <;> decide
    rw [List.length_cons]
    omega
theorem piled_up : ∀ ts : List Str, (∀ t ∈ ts, t.length ≤ 20) → piled ts ≤ 22 * ts.length
  | [], _ => by simp [piled]
  | t :: r, h => by
    have ih := piled_up r fun q hq => h q (List.mem_cons_of_mem _ hq)
    have ht := h t List.mem_cons_self
    rw [piled_cons, List.length_cons]
    omega
theorem listText_up (ts : List Str) (h : ∀ t ∈ ts, t.length ≤ 20) : (listText ts).length ≤ 2 + 22 * ts.length := by
  have := textFrom_up ts 0 "[" h
  unfold listText
  rw [strLen_append]
  have e1 : ((("[" : String) : Str)).length = 1 := rfl
  have e2 : ((("]" : String) : Str)).length = 1 := rfl
  omega
theorem tupleText_up (ts : List Str) (h : ∀ t ∈ ts, t.length ≤ 20) : (tupleText ts).length ≤ 3 + 22 * ts.length := by
  have hp := piled_up ts h
  unfold tupleText
  rw [strLen_append, strLen_append]
  have e1 : ((("(" : String) : Str)).length = 1 := rfl
  have e3 : (((if ts.length == 1 then ",)" else ")" : String) : Str)).length ≤ 2 := by split <;> decide
  have hj : (Str.join ", " ts).length ≤ piled ts := by
    cases ts with
    | nil => decide
    | cons t r => have := join_length_add (t :: r) (by simp); omega
  omega
theorem row_saysU {w : World} {a : Addr} {o : Obj} {cs : Mem} (hR : RowObj o (cs.map (·.1))) (hc : cs.length ≤ 100) (he : ∀ p ∈ cs, RowEl p) : ∃ y, ∀ news, (a, o) ∈ news → Says w news (.ref a) y := by
  obtain ⟨ds, rd, h2, h3⟩ := row_reads cs he
  obtain ⟨a1, a2, a3, a4, a5⟩ := flat_all ds h2
  obtain ⟨hcl, k, hd⟩ := hR
  rcases hcl with hcl | hcl
  · refine ⟨(PyData.list ds).shown, fun news hm => says_ref (d := .list ds) (fun h c => ?_) (by simp only [PyData.showable, a1]) (by simp only [PyData.hasDict, a2]) (by simp only [PyData.depth, a3]; decide) ?_⟩
    · obtain ⟨g, L, m, mean, mg, mb, F, X, T, N⟩ := c
      exact ⟨_, .list (N _ hm).1 hcl hd (rd h)⟩
    · simp only [PyData.shown]
      have := listText_up _ a4
      omega
  · refine ⟨(PyData.tuple ds).shown, fun news hm => says_ref (d := .tuple ds) (fun h c => ?_) (by simp only [PyData.showable, a1]) (by simp only [PyData.hasDict, a2]) (by simp only [PyData.depth, a3]; decide) ?_⟩
    · obtain ⟨g, L, m, mean, mg, mb, F, X, T, N⟩ := c
      exact ⟨_, .tuple (N _ hm).1 hcl hd (rd h)⟩
    · simp only [PyData.shown]
      have := tupleText_up _ a4
      omega
theorem row_says {w : World} {news : List (Addr × Obj)} {a : Addr} {o : Obj} {cs : Mem} (hm : (a, o) ∈ news) (hR : RowObj o (cs.map (·.1))) (hc : cs.length ≤ 100) (he : ∀ p ∈ cs, RowEl p) : ∃ y, Says w news (.ref a) y := by
  obtain ⟨y, h⟩ := row_saysU (w := w) (a := a) hR hc he
  exact ⟨y, h news hm⟩
/-- the list that the module made -/
theorem says_99 {w : World} : ∃ y, ∀ news, Says w news (.ref 99) y := by
  refine ⟨(PyData.list [.int 1]).shown, fun news => says_ref (d := .list [.int 1]) (fun h c => ?_) (by decide) (by decide) (by decide) (by decide +kernel)⟩
  obtain ⟨g, L, m, mean, mg, mb, F, X, T, N⟩ := c
  unfold KK at X
  suffices Challenge.rw_aq6015_01.row.prog = Challenge.rw_aq6015_01.row.prog → (hd.heap_39 w.params).In g → ∃ as, Reads h (Value.ref 99) (PyData.list [PyData.int 1]) as from this rfl X
  k_fill
  intro _ X
  have e := F.keep _ _ (X 99 _ (by k_is))
  exact ⟨_, .list e rfl rfl (.cons (.int 1 _) .nil)⟩
end Mine
end
theorem Mine.resetAqDraw : True := by
  w_top off
  first | walk1 | exact trivial
section
open PySem PySem.W PySem.Spec PySem.Calls PyProof.Rows
set_option Elab.async false
set_option maxRecDepth 100000
namespace Mine
/-- a goal laid aside, so that the walk goes no further -/
def STOP (p : Prop) : Prop := p
theorem STOP.mk {p : Prop} (h : STOP p) : p := h
/-- what the law's inner function tells: a number, and all is as it was -/
def Draw (w : World) (A : Around) (f : Addr) (h₀ : Heap) (L : Addr) (base : List (Addr × Obj)) : Prop :=
  ∀ (p : Int) (t : Tok) (m : Str → Option Value) (news : List (Addr × Obj)) (s : Shared) (Q E : Value → Shared → Prop), 0 ≤ p → p ≤ 6 → Fr h₀ L s.heap m → News h₀ L s.heap news → (∀ x ∈ base, x ∈ news) →
    (∀ (n : Int) (t' : Tok) (h' : Heap) (tk' : Nat), Fr h₀ L h' m → News h₀ L h' news → Q (.int n t') { s with heap := h', toks := tk' }) → wpAny (model PR w) A (call (.ref f) [.int p t]) Q E s
theorem Draw.cut {w : World} {A : Around} {f : Addr} {h₀ : Heap} {L : Addr} {base : List (Addr × Obj)} {args : List Value} {m : Str → Option Value} {s : Shared} {Q E : Value → Shared → Prop} (_F : Fr h₀ L s.heap m) (_N : News h₀ L s.heap base) (D : Draw w A f h₀ L base)
    (rest : Draw w A f h₀ L base → wpAny (model PR w) A (call (.ref f) args) Q E s) : wpAny (model PR w) A (call (.ref f) args) Q E s := rest D
end Mine
namespace Mine
open PySem PySem.W PySem.Spec PySem.Calls PyProof.Rows
theorem news_join {h₀ h : Heap} {L : Addr} {base news : List (Addr × Obj)} (hs : ∀ x ∈ base, x ∈ news) (N : News h₀ L h news) : News h₀ L h (base ++ news) :=
  fun _ hq => (List.mem_append.mp hq).elim (fun a => N _ (hs _ a)) (N _)
theorem news_pick {h₀ h : Heap} {L : Addr} {a b c d e f g : Addr × Obj} (N : News h₀ L h [a, b, c, d, e, f, g]) : News h₀ L h [a, b, f, g] :=
  fun q hq => N q (by simp only [List.mem_cons, List.not_mem_nil, or_false] at hq ⊢; rcases hq with h | h | h | h <;> simp [h])
theorem Draw.use {w : World} {A : Around} {f : Addr} {h₀ : Heap} {L : Addr} {base : List (Addr × Obj)} {p : Int} {t : Tok} {m : Str → Option Value} {news : List (Addr × Obj)} {s : Shared} {Q E : Value → Shared → Prop} (D : Draw w A f h₀ L base)
    (hp0 : 0 ≤ p) (hp6 : p ≤ 6) (F : Fr h₀ L s.heap m) (N : News h₀ L s.heap news) (hs : ∀ x ∈ base, x ∈ news)
    (hret : ∀ (n : Int) (t' : Tok) (h' : Heap) (tk' : Nat), Fr h₀ L h' m → News h₀ L h' news → Q (.int n t') { s with heap := h', toks := tk' }) :
    wpAny (model Challenge.rw_aq6015_01.row.prog w) A (call (.ref f) [.int p t]) Q E s := D _ _ _ _ _ _ _ hp0 hp6 F N hs hret
end Mine
namespace Mine
open PySem PySem.W PySem.Spec PySem.Calls PyProof.Rows
theorem CtrXc.use {k : Nat} {w : World} {f : Addr} {vs : List Value} {pre : List (Addr × Obj) → Prop} {good : Bool} {Ret : Value → Prop} {Ws : List Value → Prop} (C : CtrXc k w f vs pre good Ret Ws) (hg : good = true)
    {mean : ExcName → Option Value} {mg mb : Str → Option Value} {dp un : Nat} {cn : Str} {cs : Scope} {a : Addr} {ccd : Value} {cl : List (Str × Addr)} {outer : List Env} {A₀ : Around} {base h₀ : Heap} {L : Addr} {m : Str → Option Value} {news : List (Addr × Obj)} {s : Shared} {Q E : Value → Shared → Prop}
    (B : Below A₀ base outer h₀) (F : Fr h₀ L s.heap m) (X : (hd.heap_39 w.params).In h₀) (N : News h₀ L s.heap news) (T : Top topProg LO mean mg mb h₀) (hk : cs.kind = .function) (hp : pre news) (hdp : dp + 4 * k < recursionLimit) (hun : un + 100 * k < cLine)
    (hret : ∀ (r : Value) (h' : Heap) (tk' : Nat), Ret r → Fr h₀ L h' m → News h₀ L h' news → Q r { s with heap := h', toks := tk' }) :
    wpAny (model Challenge.rw_aq6015_01.row.prog w) (ktrTop dp un (some []) cn cs L a ccd cl outer) (call (.ref f) vs) Q E s := C _ _ _ _ _ _ _ _ _ _ _ _ _ _ _ _ _ _ _ _ B F X N T hk hp hdp hun (fun _ => hret) (fun e => absurd (hg.symm.trans e) (by decide))
theorem CtrT.use {w : World} {f : Addr} {vs : List Value} {pre : Heap → List (Addr × Obj) → Prop} {Ret : Value → Prop} (C : CtrT w f vs pre Ret)
    {mean : ExcName → Option Value} {mg mb : Str → Option Value} {cn : Str} {cs : Scope} {a : Addr} {ccd : Value} {cl : List (Str × Addr)} {h₀ : Heap} {L : Addr} {m : Str → Option Value} {news : List (Addr × Obj)} {s : Shared} {Q E : Value → Shared → Prop}
    (B : Below callerA h₀ [] h₀) (F : Fr h₀ L s.heap m) (X : (hd.heap_39 w.params).In h₀) (N : News h₀ L s.heap news) (T : Top topProg LO mean mg mb h₀) (hk : cs.kind = .function) (hp : pre h₀ news)
    (hret : ∀ (r : Value) (h' : Heap) (tk' : Nat), Ret r → Fr h₀ L h' m → News h₀ L h' news → Q r { s with heap := h', toks := tk' }) :
    wpAny (model Challenge.rw_aq6015_01.row.prog w) (callerA.deeper (envX cn cs L a ccd cl)) (call (.ref f) vs) Q E s := C _ _ _ _ _ _ _ _ _ _ _ _ _ _ _ B F X N T hk hp hret
theorem first_c (w : World) (l h : Int) (a : Addr) (t0 t1 t2 t3 t4 t5 : Tok) (hl : l.natAbs < 10 ^ 10) (hh : h.natAbs < 10 ^ 10) (hle : l ≤ h) :
    CtrXc 2 w 84 [.str (Str.ofString "e") t0, .ref a, .int 2 t1, .int l t2, .int h t3] (fun news => (a, ({ cls := .type "tuple", data := .seq #[.int l t4, .int h t5] 0 } : Obj)) ∈ news) true (fun r => r = .ref a) (fun _ => False) := by
  intro mean mg mb dp un cn cs ca ccd cl outer A₀ base h₀ L m news s Q E B F X N T hk hp hd hu hret _
  have hR : RowObj ({ cls := .type "tuple", data := .seq #[.int l t4, .int h t5] 0 } : Obj) (([(.int l t4, some l), (.int h t5, some h)] : Mem).map (·.1)) := ⟨.inr rfl, 0, rfl⟩
  obtain ⟨y, hy⟩ := row_says (w := w) hp hR (by simp only [List.length_cons, List.length_nil]; omega) (by
    intro p hp
    simp only [List.mem_cons, List.not_mem_nil, or_false] at hp
    rcases hp with rfl | rfl
    · exact .inl ⟨l, t4, rfl, hl⟩
    · exact .inl ⟨h, t5, rfl, hh⟩)
  refine ntuple_c w (Str.ofString "e") [(.int l t4, some l), (.int h t5, some h)] a _ y 2 l h t0 t1 t2 t3 (by decide +kernel) (by
    intro p hp
    simp only [List.mem_cons, List.not_mem_nil, or_false] at hp
    rcases hp with rfl | rfl
    · exact kind_int w l t4
    · exact kind_int w h t5) (by simp only [List.length_cons, List.length_nil]; omega) (by decide) hl hh hR _ _ _ _ _ _ _ _ _ _ _ _ _ _ _ _ _ _ _ _ B F X N T hk ⟨hy, hp⟩ hd hu (fun _ => hret rfl) (fun e => ?_)
  have : (decide (((([(.int l t4, some l), (.int h t5, some h)] : Mem).length : Nat) : Int) = 2) && ([(.int l t4, some l), (.int h t5, some h)] : Mem).all fun p => insideB p.2 l h) = true := by
    simp [insideB, hle]
  rw [this] at e
  cases e
end Mine
namespace Mine
theorem fmod_100 (n : Int) : n.fmod 100 = n % 100 := Int.fmod_eq_emod_of_nonneg _ (by decide)
end Mine
end
theorem Mine.resetAqVal : True := by
  w_top off
  first | walk1 | exact trivial
section
open PySem PySem.W PySem.Spec PySem.Calls PyProof.Rows
set_option Elab.async false
set_option maxRecDepth 100000
namespace Mine
/-- a value is not other than itself -/
def Same (w : World) (news : List (Addr × Obj)) (v : Value) : Prop :=
  ∀ (mean : ExcName → Option Value) (mg mb : Str → Option Value) (A : Around) (E : Value → Shared → Prop) (s : Shared) (h₀ : Heap) (L : Addr) (m : Str → Option Value) (Q : Value → Shared → Prop),
    A.units + 70 < cLine → A.handled = none → A.guards = some [] → Fr h₀ L s.heap m → (hd.heap_39 w.params).In h₀ → Top topProg LO mean mg mb h₀ → News h₀ L s.heap news → (∀ tk, Q (.bool false) { s with toks := tk }) → wpAny (model Challenge.rw_aq6015_01.row.prog w) A (compareOp .NotEq v v) Q E s
/-- what the law asks of a value of its rows -/
structure Val (w : World) (v : Value) (o : Option Int) : Prop where
  kind : Kind w v o
  same : ∀ news, Same w news v
  says : ∃ y, ∀ news, Says w news v y
set_option maxHeartbeats 1000000
theorem val_int (w : World) (n : Int) (u : Tok) (f : Fit n) : Val w (.int n u) (some n) where
  kind := kind_int w n u
  same := by
    unfold Same
    k_fill
    intro news mean mg mb A E s h₀ L m Q hu hh hg F X T N h
    walk1
    all_goals (simpa using h _)
  says := ⟨_, fun _ => says_int n u f⟩
theorem val_bool (w : World) (b : Bool) : Val w (.bool b) (some (if b then 1 else 0)) where
  kind := kind_bool w b
  same := by
    unfold Same
    k_fill
    intro news mean mg mb A E s h₀ L m Q hu hh hg F X T N h
    walk1
    all_goals (simpa using h _)
  says := ⟨_, fun _ => says_bool b⟩
theorem val_str (w : World) (x : Str) (u : Tok) (hx : x.length ≤ 100000) : Val w (.str x u) none where
  kind := kind_str w x u
  same := by
    unfold Same
    k_fill
    intro news mean mg mb A E s h₀ L m Q hu hh hg F X T N h
    walk1
    all_goals (simpa using h _)
  says := ⟨_, fun _ => says_str x u hx⟩
theorem val_none (w : World) : Val w .none none where
  kind := kind_none w
  same := by
    unfold Same
    k_fill
    intro news mean mg mb A E s h₀ L m Q hu hh hg F X T N h
    walk1
    all_goals (simpa using h _)
  says := ⟨_, fun _ => says_none⟩
theorem val_bytes (w : World) (u : Tok) : Val w (.bytes #[97] u) none where
  kind := kind_bytes w #[97] u
  same := by
    unfold Same
    k_fill
    intro news mean mg mb A E s h₀ L m Q hu hh hg F X T N h
    walk1
    all_goals (simpa using h _)
  says := ⟨_, fun _ => says_bytes u⟩
theorem same_99 (w : World) (news : List (Addr × Obj)) : Same w news (.ref 99) := by
  unfold Same
  k_fill
  intro mean mg mb A E s h₀ L m Q hu hh hg F X T N h
  have e := F.keep _ _ (X 99 _ (by k_is))
  refine ne_dataH (.list e rfl rfl (.cons (.int 1 _) .nil)) (.list e rfl rfl (.cons (.int 1 _) .nil)) (by decide) (by decide) (by omega) ?_
  have q : (!PyData.eqv (.list [.int 1]) (.list [.int 1])) = false := by decide
  rw [q]
  exact h _
theorem val_list (w : World) : Val w (.ref 99) none where
  kind := kind_list w
  same := same_99 w
  says := says_99
theorem ne_str_same {prog : Program} {w : World} {A : Around} {E : Value → Shared → Prop} {s : Shared} {x : Str} {t u : Tok} {Q : Value → Shared → Prop} (h : Q (.bool false) s) : wpAny (model prog w) A (compareOp .NotEq (.str x t) (.str x u)) Q E s :=
  PyProof.Rows.ne_str (by rw [bne_self_eq_false]; exact h)
theorem row_same {w : World} {news : List (Addr × Obj)} {a : Addr} {o : Obj} {cs : Mem} (hm : (a, o) ∈ news) (hR : RowObj o (cs.map (·.1))) (he : ∀ p ∈ cs, RowEl p) : Same w news (.ref a) := by
  obtain ⟨ds, rd, h2, h3⟩ := row_reads cs he
  obtain ⟨a1, a2, a3, a4, a5⟩ := flat_all ds h2
  obtain ⟨b1, b2⟩ := flat_more ds h2
  obtain ⟨hcl, k, hd⟩ := hR
  intro mean mg mb A E s h₀ L m Q hu hh hg F X T N h
  rcases hcl with hcl | hcl
  · have sh : PySem.SeqAt.shaped (.list ds) = true := by simp only [PySem.SeqAt.shaped, PyData.canLay0, b1, PyData.depth, a3]; decide
    refine ne_dataH (.list (N _ hm).1 hcl hd (rd _)) (.list (N _ hm).1 hcl hd (rd _)) sh sh (by omega) ?_
    have q : (!PyData.eqv (.list ds) (.list ds)) = false := by simp only [PyData.eqv, b2, Bool.not_true]
    rw [q]
    exact h _
  · have sh : PySem.SeqAt.shaped (.tuple ds) = true := by simp only [PySem.SeqAt.shaped, PyData.canLay0, b1, PyData.depth, a3]; decide
    refine ne_dataH (.tuple (N _ hm).1 hcl hd (rd _)) (.tuple (N _ hm).1 hcl hd (rd _)) sh sh (by omega) ?_
    have q : (!PyData.eqv (.tuple ds) (.tuple ds)) = false := by simp only [PyData.eqv, b2, Bool.not_true]
    rw [q]
    exact h _
end Mine
end
theorem Mine.resetAqLoop : True := by
  w_top off
  first | walk1 | exact trivial
section
open PySem PySem.W PySem.Spec PySem.Calls PyProof.Rows
set_option Elab.async false
set_option maxRecDepth 100000
namespace Mine
section
variable {prog : Program} {w : World} {A : Around} {E : Value → Shared → Prop} {s : Shared} {env : Env} {h₀ : Heap} {target : Expr} {body : List Stmt} {Q : Flow → Shared → Prop}
/-- how a turn of a loop ends -/
def TurnPost (h₀ : Heap) (L : Addr) (J : (Str → Option Value) → Prop) (I : Addr) (oI : Obj) (news : List (Addr × Obj)) (s : Shared) (Q : Flow → Shared → Prop) (fl : Flow) (s₂ : Shared) : Prop :=
  match fl with
  | .ret v => Q (.ret v) s₂
  | .brk => Q .next s₂
  | _ => ∃ h' tk m', s₂ = { s with heap := h', toks := tk } ∧ J m' ∧ Fr h₀ L h' m' ∧ News h₀ L h' ((I, oI) :: news)
theorem TurnPost.next {L : Addr} {J : (Str → Option Value) → Prop} {I : Addr} {oI : Obj} {news : List (Addr × Obj)} {h' : Heap} {tk : Nat} {m' : Str → Option Value} (j : J m') (F : Fr h₀ L h' m') (N : News h₀ L h' ((I, oI) :: news)) :
    TurnPost h₀ L J I oI news s Q .next { s with heap := h', toks := tk } := ⟨h', tk, m', rfl, j, F, N⟩
theorem loop_rest {I : Addr} {keep : List (Addr × Obj)} {news : List (Addr × Obj)} (hI : ∀ p ∈ news, p.1 < I) (hk : SubL keep news) (J : (Str → Option Value) → Prop) (P : Value → Prop) {c : String}
    (turn : ∀ v, P v → ∀ (oI : Obj) m h tk, oI.cls = .type c → J m → Fr h₀ env.locals h m → News h₀ env.locals h ((I, oI) :: news) →
      wpAny (model prog w) A (assign target env v) (fun _ s₂ => wpAny (model prog w) A (execs body env) (TurnPost h₀ env.locals J I oI news { s with heap := h, toks := tk } Q) E s₂) E { s with heap := h, toks := tk })
    (fin : ∀ m h tk, J m → Fr h₀ env.locals h m → News h₀ env.locals h news → Q .next { s with heap := h, toks := tk }) :
    ∀ (l : List Value) (m : Str → Option Value), (∀ v ∈ l, P v) → J m → ItemsRest prog w A E h₀ env target body Q s [(I, c)] keep (l.map .val) m news
  | [], m, _, j => ItemsRest.zero fun h tk F N => fin m h tk j F N
  | v :: l, m, hp, j => ItemsRest.val fun h tk F => AllObj.cons fun oI hc => AllObj.nil fun N =>
      wpAny_mono (turn v (hp v List.mem_cons_self) oI m h tk hc j F N) (fun _ s₂ h₂ => wpAny_mono h₂ (fun f s₃ p => by
        have key : TurnPost h₀ env.locals J I oI news { s with heap := h, toks := tk } Q .next s₃ → UnrEndW h₀ env.locals { s with heap := h, toks := tk } [(I, oI)] (fun m' n' => SubL keep n' ∧ ItemsRest prog w A E h₀ env target body Q s [(I, c)] keep (l.map .val) m' n') s₃ := by
          rintro ⟨h', tk', m', e, j', F', N'⟩
          refine ⟨h', tk', m', news, e, F', N', fun p hp q hq e => ?_, hk, loop_rest hI hk J P turn fin l m' (fun u hu => hp u (List.mem_cons_of_mem _ hu)) j'⟩
          rw [List.mem_singleton.mp hq] at e
          exact absurd (hI p hp) (by rw [e]; exact Nat.lt_irrefl _)
        cases f with
        | ret v => exact p
        | brk => exact p
        | next => exact key p
        | cont => exact key p) fun _ _ e => e) fun _ _ e => e
theorem loop_vals {vs : List Value} {ax : Addr} {lo : Obj} {n : Nat} {m₀ : Str → Option Value} {news : List (Addr × Obj)}
    (hh : A.handled = none) (F : Fr h₀ env.locals s.heap m₀) (N : News h₀ env.locals s.heap news) (hm : (ax, lo) ∈ news) (hc : lo.cls = .type "list") (hd : lo.data = .seq vs.toArray n)
    (J : (Str → Option Value) → Prop) (hJ : J m₀) (P : Value → Prop) (hP : ∀ v ∈ vs, P v)
    (turn : ∀ v, P v → ∀ (I : Addr) (oI : Obj) m h tk, (∀ p ∈ news, p.1 < I) → oI.cls = .type "list_iterator" → J m → Fr h₀ env.locals h m → News h₀ env.locals h ((I, oI) :: news) →
      wpAny (model prog w) A (assign target env v) (fun _ s₂ => wpAny (model prog w) A (execs body env) (TurnPost h₀ env.locals J I oI news { s with heap := h, toks := tk } Q) E s₂) E { s with heap := h, toks := tk })
    (fin : ∀ m h tk, J m → Fr h₀ env.locals h m → News h₀ env.locals h news → Q .next { s with heap := h, toks := tk }) :
    wpAny (model prog w) A (pyIter (.ref ax)) (fun it s₂ => TurnsAt prog w A h₀ env target body Q E it s₂) E s :=
  iter_listTurns hh F N hm hc hd fun I hI => loop_rest (keep := [(ax, lo)]) hI (And.intro hm trivial) J P (fun v hv oI m h tk hc j F N => turn v hv I oI m h tk hI hc j F N) fin vs m₀ hP hJ
/-- a loop over values, the turn asking nothing of the ledger -/
theorem loop_vals1 {vs : List Value} {ax : Addr} {lo : Obj} {n : Nat} {m₀ : Str → Option Value} {news : List (Addr × Obj)}
    (hh : A.handled = none) (F : Fr h₀ env.locals s.heap m₀) (N : News h₀ env.locals s.heap news) (hm : (ax, lo) ∈ news) (hc : lo.cls = .type "list") (hd : lo.data = .seq vs.toArray n)
    (J : (Str → Option Value) → Prop) (hJ : J m₀) (P : Value → Prop) (hP : ∀ v ∈ vs, P v)
    (turn : ∀ v, P v → ∀ (news' : List (Addr × Obj)) (I : Addr) (oI : Obj) m h tk, oI.cls = .type "list_iterator" → J m → Fr h₀ env.locals h m → News h₀ env.locals h ((I, oI) :: news') →
      wpAny (model prog w) A (assign target env v) (fun _ s₂ => wpAny (model prog w) A (execs body env) (TurnPost h₀ env.locals J I oI news' { s with heap := h, toks := tk } Q) E s₂) E { s with heap := h, toks := tk })
    (fin : ∀ m h tk, J m → Fr h₀ env.locals h m → News h₀ env.locals h news → Q .next { s with heap := h, toks := tk }) :
    wpAny (model prog w) A (pyIter (.ref ax)) (fun it s₂ => TurnsAt prog w A h₀ env target body Q E it s₂) E s :=
  loop_vals hh F N hm hc hd J hJ P hP (fun v hv I oI m h tk _ hc j F N => turn v hv news I oI m h tk hc j F N) fin
/-- a statement that leaves the name x a number, and all else as it was -/
def WideAt (h₀ : Heap) (L : Addr) (m : Str → Option Value) (news : List (Addr × Obj)) (s : Shared) (s' : Shared) : Prop :=
  ∃ (v : Int) (t : Tok) (h' : Heap) (tk' : Nat), Fit v ∧ s' = { s with heap := h', toks := tk' } ∧ Fr h₀ L h' (fun y => if y = Str.ofString "wide" then some (.int v t) else m y) ∧ News h₀ L h' news
theorem exec_cut {M : Model} {st : Stmt} {Q : Flow → Shared → Prop} (P : Shared → Prop) (h1 : wpAny M A (exec st env) (fun fl s' => fl = .next ∧ P s') E s) (h2 : ∀ s', P s' → Q .next s') : wpAny M A (exec st env) Q E s :=
  wpAny_mono h1 (fun fl s' h => by obtain ⟨rfl, hp⟩ := h; exact h2 s' hp) fun _ _ e => e
end
end Mine
namespace Mine
open PySem PySem.W PySem.Spec PySem.Calls PyProof.Rows
section
variable {A : Around} {E : Value → Shared → Prop} {s : Shared} {env : Env} {h₀ : Heap} {L : Addr} {m : Str → Option Value} {news : List (Addr × Obj)} {M : Model} {st : Stmt} {Q : Flow → Shared → Prop}
def WideEnd (h₀ : Heap) (L : Addr) (m : Str → Option Value) (news : List (Addr × Obj)) (s : Shared) (fl : Flow) (s' : Shared) : Prop := fl = .next ∧ WideAt h₀ L m news s s'
theorem exec_cutW (_F : Fr h₀ L s.heap m) (_N : News h₀ L s.heap news) (h1 : wpAny M A (exec st env) (WideEnd h₀ L m news s) E s)
    (h2 : ∀ (v : Int) (t : Tok) (h' : Heap) (tk' : Nat), Fit v → Fr h₀ L h' (fun y => if y = Str.ofString "wide" then some (.int v t) else m y) → News h₀ L h' news → Q .next { s with heap := h', toks := tk' }) : wpAny M A (exec st env) Q E s :=
  wpAny_mono h1 (fun fl s' h => by obtain ⟨rfl, v, t, h', tk', f, rfl, F', N'⟩ := h; exact h2 v t h' tk' f F' N') fun _ _ e => e
theorem WideEnd.new {v : Int} {t : Tok} {h' : Heap} {tk' : Nat} (f : Fit v) (F' : Fr h₀ L h' (fun y => if y = Str.ofString "wide" then some (.int v t) else m y)) (N' : News h₀ L h' news) : WideEnd h₀ L m news s .next { s with heap := h', toks := tk' } := ⟨rfl, v, t, h', tk', f, rfl, F', N'⟩
theorem WideEnd.old {v : Int} {t : Tok} {h' : Heap} {tk' : Nat} (f : Fit v) (e : m (Str.ofString "wide") = some (.int v t)) (F' : Fr h₀ L h' m) (N' : News h₀ L h' news) : WideEnd h₀ L m news s .next { s with heap := h', toks := tk' } := by
  refine .new (v := v) (t := t) f ?_ N'
  have : (fun y => if y = Str.ofString "wide" then some (.int v t) else m y) = m := by
    funext y
    split
    · rename_i q; rw [q, e]
    · rfl
  rw [this]
  exact F'
end
end Mine
namespace Mine
theorem fit_of_abs {n K : Int} {M : Nat} (hK : K = (M : Int)) (hM : M ≤ 10 ^ 1001) (a : ¬ K ≤ n) (b : ¬ n ≤ -K) : Fit n := by
  unfold Fit
  generalize 10 ^ 1001 = T at hM ⊢
  omega
set_option exponentiation.threshold 2000 in
theorem ten_K : (10 : Int) ^ Int.toNat 1000 = ((10 ^ 1000 : Nat) : Int) := by
  have : Int.toNat 1000 = 1000 := rfl
  rw [this]
  exact (Int.natCast_pow 10 1000).symm
set_option exponentiation.threshold 2000 in
theorem fit_mid {n : Int} (a : ¬ (10 : Int) ^ Int.toNat 1000 ≤ n) (b : ¬ n ≤ -(10 : Int) ^ Int.toNat 1000) : Fit n :=
  fit_of_abs ten_K (pow_up (by decide)) a b
theorem fit_mod_of {n K : Int} {M : Nat} (hK : K = (M : Int)) (hM : M ≤ 10 ^ 1001) (h0 : 0 < M) : Fit (n.fmod K) := by
  rw [Int.fmod_eq_emod_of_nonneg n (by omega)]
  have h1 := Int.emod_nonneg n (b := K) (by omega)
  have h2 := Int.emod_lt_of_pos n (b := K) (by omega)
  unfold Fit
  generalize 10 ^ 1001 = T at hM ⊢
  omega
set_option exponentiation.threshold 2000 in
theorem fit_mod (n : Int) : Fit (n.fmod ((10 : Int) ^ Int.toNat 1000)) := fit_mod_of ten_K (pow_up (by decide)) (Nat.pow_pos (by decide))
end Mine
namespace Mine
open PySem PySem.W PySem.Spec PySem.Calls PyProof.Rows
theorem fr_law {h₀ hp : Heap} {L f : Addr} {m : Str → Option Value} {l0 h0 wv : Int} {t1 t2 t3 : Tok} (F : Fr h₀ L hp m) (e1 : m (Str.ofString "least") = some (.int l0 t1)) (e2 : m (Str.ofString "most") = some (.int h0 t2)) (e3 : m (Str.ofString "wide") = some (.int wv t3)) (e4 : m (Str.ofString "draw") = some (.ref f))
    (hb : -50 ≤ l0 ∧ l0 ≤ 49 ∧ l0 ≤ h0 ∧ h0 ≤ 148) : ∃ (l h : Int) (t1 t2 t3 : Tok) (mr : Str → Option Value), (-50 ≤ l ∧ l ≤ 49 ∧ l ≤ h ∧ h ≤ 148) ∧
      Fr h₀ L hp (fun y => if y = Str.ofString "wide" then some (.int wv t3) else if y = Str.ofString "most" then some (.int h t2) else if y = Str.ofString "least" then some (.int l t1) else if y = Str.ofString "draw" then some (.ref f) else mr y) := by
  refine ⟨l0, h0, t1, t2, t3, m, hb, ?_⟩
  have e : (fun y => if y = Str.ofString "wide" then some (.int wv t3) else if y = Str.ofString "most" then some (.int h0 t2) else if y = Str.ofString "least" then some (.int l0 t1) else if y = Str.ofString "draw" then some (.ref f) else m y) = m := by
    funext y
    split
    · rename_i q; rw [q, e3]
    · split
      · rename_i q; rw [q, e2]
      · split
        · rename_i q; rw [q, e1]
        · split
          · rename_i q; rw [q, e4]
          · rfl
  rw [e]
  exact F
end Mine
namespace Mine
open PySem PySem.W PySem.Spec PySem.Calls PyProof.Rows
section
variable {A : Around} {E : Value → Shared → Prop} {s : Shared} {env : Env} {h₀ : Heap} {L : Addr} {m : Str → Option Value} {news : List (Addr × Obj)} {M : Model} {st : Stmt} {Q : Flow → Shared → Prop}
/-- a statement that leaves all as it was -/
def SameEnd (h₀ : Heap) (L : Addr) (m : Str → Option Value) (news : List (Addr × Obj)) (s : Shared) (fl : Flow) (s' : Shared) : Prop := fl = .next ∧ ∃ h' tk', s' = { s with heap := h', toks := tk' } ∧ Fr h₀ L h' m ∧ News h₀ L h' news
theorem SameEnd.intro {h' : Heap} {tk' : Nat} (F' : Fr h₀ L h' m) (N' : News h₀ L h' news) : SameEnd h₀ L m news s .next { s with heap := h', toks := tk' } := ⟨rfl, h', tk', rfl, F', N'⟩
theorem exec_cutS (_F : Fr h₀ L s.heap m) (_N : News h₀ L s.heap news) (h1 : wpAny M A (exec st env) (SameEnd h₀ L m news s) E s)
    (h2 : ∀ (h' : Heap) (tk' : Nat), Fr h₀ L h' m → News h₀ L h' news → Q .next { s with heap := h', toks := tk' }) : wpAny M A (exec st env) Q E s :=
  wpAny_mono h1 (fun fl s' h => by obtain ⟨rfl, h', tk', rfl, F', N'⟩ := h; exact h2 h' tk' F' N') fun _ _ e => e
end
/-- the law's names that stay -/
def LawJ (l h : Int) (t1 t2 : Tok) (f : Addr) (m : Str → Option Value) : Prop := m (Str.ofString "least") = some (.int l t1) ∧ m (Str.ofString "most") = some (.int h t2) ∧ m (Str.ofString "draw") = some (.ref f)
theorem LawJ.open {l h : Int} {t1 t2 : Tok} {f : Addr} {m : Str → Option Value} {h₀ hp : Heap} {L : Addr} (j : LawJ l h t1 t2 f m) (F : Fr h₀ L hp m) :
    Fr h₀ L hp (fun y => if y = Str.ofString "most" then some (.int h t2) else if y = Str.ofString "least" then some (.int l t1) else if y = Str.ofString "draw" then some (.ref f) else m y) := by
  have e : (fun y => if y = Str.ofString "most" then some (.int h t2) else if y = Str.ofString "least" then some (.int l t1) else if y = Str.ofString "draw" then some (.ref f) else m y) = m := by
    funext y
    split
    · rename_i q; rw [q, j.2.1]
    · split
      · rename_i q; rw [q, j.1]
      · split
        · rename_i q; rw [q, j.2.2]
        · rfl
  rw [e]
  exact F
end Mine
namespace Mine
theorem if_yes {c : Bool} {P R : Prop} (h : if c = true then P else R) (g : c = true) : P := by rw [if_pos g] at h; exact h
theorem if_no {c : Bool} {P R : Prop} (h : if c = true then P else R) (g : c = false) : R := by rw [if_neg (by rw [g]; decide)] at h; exact h
end Mine
namespace Mine
open PySem PySem.W
end Mine
namespace Mine
open PySem PySem.W PySem.Spec PySem.Calls PyProof.Rows
theorem says_all {w : World} {news : List (Addr × Obj)} {v : Value} {y : Str} (h : ∀ news, Says w news v y) : Says w news v y := h news
end Mine
namespace Mine
open PySem PySem.W PySem.Spec PySem.Calls PyProof.Rows
/-- the value, or the words -/
def Cond (c : Bool) (v : Value) (M : Str) (r : Value) : Prop := if c = true then r = v else ∃ t, r = .str M t
theorem Cond.yes {c : Bool} {v : Value} {M : Str} {r : Value} (h : Cond c v M r) (g : c = true) : r = v := if_yes h g
theorem Cond.no {c : Bool} {v : Value} {M : Str} {r : Value} (h : Cond c v M r) (g : c = false) : ∃ t, r = .str M t := if_no h g
theorem Cond.t {c : Bool} {v : Value} {M : Str} (g : c = true) : Cond c v M v := by unfold Cond; rw [if_pos g]
theorem Cond.f {c : Bool} {v : Value} {M : Str} {t : Tok} (g : c = false) : Cond c v M (.str M t) := by unfold Cond; rw [if_neg (by rw [g]; decide)]; exact ⟨t, rfl⟩
structure Hint (P : Value → Prop) : Prop where
  ok : True
section
variable {A : Around} {E : Value → Shared → Prop} {s : Shared} {env : Env} {h₀ : Heap} {L : Addr} {m : Str → Option Value} {news : List (Addr × Obj)} {M : Model} {st : Stmt} {Q : Flow → Shared → Prop} {P : Value → Prop}
/-- a statement that gives the name due a value with P -/
def DueEnd (P : Value → Prop) (h₀ : Heap) (L : Addr) (m : Str → Option Value) (news : List (Addr × Obj)) (s : Shared) (fl : Flow) (s' : Shared) : Prop := fl = .next ∧ ∃ r h' tk', P r ∧ s' = { s with heap := h', toks := tk' } ∧ Fr h₀ L h' (fun y => if y = Str.ofString "due" then some r else m y) ∧ News h₀ L h' news
theorem DueEnd.intro {r : Value} {h' : Heap} {tk' : Nat} (p : P r) (F' : Fr h₀ L h' (fun y => if y = Str.ofString "due" then some r else m y)) (N' : News h₀ L h' news) : DueEnd P h₀ L m news s .next { s with heap := h', toks := tk' } := ⟨rfl, r, h', tk', p, rfl, F', N'⟩
theorem exec_cutD (_H : Hint P) (_F : Fr h₀ L s.heap m) (_N : News h₀ L s.heap news) (h1 : wpAny M A (exec st env) (DueEnd P h₀ L m news s) E s)
    (h2 : ∀ (r : Value) (h' : Heap) (tk' : Nat), P r → Fr h₀ L h' (fun y => if y = Str.ofString "due" then some r else m y) → News h₀ L h' news → Q .next { s with heap := h', toks := tk' }) : wpAny M A (exec st env) Q E s :=
  wpAny_mono h1 (fun fl s' h => by obtain ⟨rfl, r, h', tk', p, rfl, F', N'⟩ := h; exact h2 r h' tk' p F' N') fun _ _ e => e
end
section
variable {w : World} {o : Option Int} {v r1 r2 : Value} {c : Bool} {X : Str} {mean : ExcName → Option Value} {mg mb : Str → Option Value} {A : Around} {E : Value → Shared → Prop} {s : Shared} {h₀ : Heap} {L : Addr} {m : Str → Option Value} {news : List (Addr × Obj)} {Q : Value → Shared → Prop}
theorem ne_none {prog : Program} (h : Q (.bool false) s) : wpAny (model prog w) A (compareOp .NotEq .none .none) Q E s := by
  walk1
  all_goals (simpa using h)
theorem ne_cc (V : Val w v o) (h1 : Cond c v X r1) (h2 : Cond c v X r2) (hu : A.units + 70 < cLine) (hh : A.handled = none) (hg : A.guards = some []) (F : Fr h₀ L s.heap m) (X₀ : (hd.heap_39 w.params).In h₀) (T : Top topProg LO mean mg mb h₀) (N : News h₀ L s.heap news)
    (hq : ∀ tk, Q (.bool false) { s with toks := tk }) : wpAny (model Challenge.rw_aq6015_01.row.prog w) A (compareOp .NotEq r1 r2) Q E s := by
  cases hc : c with
  | true =>
    obtain rfl := h1.yes hc
    obtain rfl := h2.yes hc
    exact V.same news mean mg mb A E s h₀ L m Q hu hh hg F X₀ T N hq
  | false =>
    obtain ⟨t, rfl⟩ := h1.no hc
    obtain ⟨u, rfl⟩ := h2.no hc
    exact ne_str_same (hq s.toks)
theorem ne_cv (V : Val w v o) (h1 : Cond c v X r1) (g : c = true) (hu : A.units + 70 < cLine) (hh : A.handled = none) (hg : A.guards = some []) (F : Fr h₀ L s.heap m) (X₀ : (hd.heap_39 w.params).In h₀) (T : Top topProg LO mean mg mb h₀) (N : News h₀ L s.heap news)
    (hq : ∀ tk, Q (.bool false) { s with toks := tk }) : wpAny (model Challenge.rw_aq6015_01.row.prog w) A (compareOp .NotEq r1 v) Q E s := by
  obtain rfl := h1.yes g
  exact V.same news mean mg mb A E s h₀ L m Q hu hh hg F X₀ T N hq
theorem ne_cs {prog : Program} {t : Tok} (h1 : Cond c v X r1) (g : c = false) (hq : Q (.bool false) s) : wpAny (model prog w) A (compareOp .NotEq r1 (.str X t)) Q E s := by
  obtain ⟨u, rfl⟩ := h1.no g
  exact ne_str_same hq
theorem ne_cn {prog : Program} (h1 : Cond c .none X r1) (g : c = true) (hq : Q (.bool false) s) : wpAny (model prog w) A (compareOp .NotEq r1 .none) Q E s := by
  obtain rfl := h1.yes g
  exact ne_none hq
theorem ne_cf {prog : Program} (h1 : Cond c .none X r1) (h2 : Cond c v X r2) (g : c = false) (hq : Q (.bool false) s) : wpAny (model prog w) A (compareOp .NotEq r1 r2) Q E s := by
  obtain ⟨u, rfl⟩ := h1.no g
  obtain ⟨t, rfl⟩ := h2.no g
  exact ne_str_same hq
end
end Mine
namespace Mine
open PySem PySem.W
theorem Cond.mk {c : Bool} {v : Value} {M : Str} {r : Value} (h : if c = true then r = v else ∃ t, r = .str M t) : Cond c v M r := h
end Mine
namespace Mine
open PySem PySem.W PySem.Spec PySem.Calls PyProof.Rows
theorem LawJ.openV {l h : Int} {t1 t2 : Tok} {f : Addr} {v : Value} {m : Str → Option Value} {h₀ hp : Heap} {L : Addr} (j : LawJ l h t1 t2 f m) (e : m (Str.ofString "value") = some v) (F : Fr h₀ L hp m) :
    Fr h₀ L hp (fun y => if y = Str.ofString "value" then some v else if y = Str.ofString "most" then some (.int h t2) else if y = Str.ofString "least" then some (.int l t1) else if y = Str.ofString "draw" then some (.ref f) else m y) := by
  have F' := j.open F
  have e' : (fun y => if y = Str.ofString "value" then some v else if y = Str.ofString "most" then some (.int h t2) else if y = Str.ofString "least" then some (.int l t1) else if y = Str.ofString "draw" then some (.ref f) else m y) = (fun y => if y = Str.ofString "most" then some (.int h t2) else if y = Str.ofString "least" then some (.int l t1) else if y = Str.ofString "draw" then some (.ref f) else m y) := by
    funext y
    split
    · rename_i q
      rw [q, if_neg (by decide), if_neg (by decide), if_neg (by decide), e]
    · rfl
  rw [e']
  exact F'
end Mine
namespace Mine
open PySem PySem.W PySem.Spec PySem.Calls PyProof.Rows
section
variable {prog : Program} {w : World} {A : Around} {E : Value → Shared → Prop} {s : Shared} {env : Env} {h₀ : Heap} {target : Expr} {body : List Stmt} {Q : Flow → Shared → Prop}
theorem loop_valsM {vs : List Value} {ax : Addr} {lo : Obj} {n : Nat} {m₀ : Str → Option Value} {news : List (Addr × Obj)}
    (hh : A.handled = none) (F : Fr h₀ env.locals s.heap m₀) (N : News h₀ env.locals s.heap news) (hm : (ax, lo) ∈ news) (hc : lo.cls = .type "list") (hd : lo.data = .seq vs.toArray n)
    (J : (Str → Option Value) → Prop) (hJ : J m₀)
    (turn : ∀ v, v ∈ vs → ∀ (I : Addr) (oI : Obj) m h tk, (∀ p ∈ news, p.1 < I) → oI.cls = .type "list_iterator" → J m → Fr h₀ env.locals h m → News h₀ env.locals h ((I, oI) :: news) →
      wpAny (model prog w) A (assign target env v) (fun _ s₂ => wpAny (model prog w) A (execs body env) (TurnPost h₀ env.locals J I oI news { s with heap := h, toks := tk } Q) E s₂) E { s with heap := h, toks := tk })
    (fin : ∀ m h tk, J m → Fr h₀ env.locals h m → News h₀ env.locals h news → Q .next { s with heap := h, toks := tk }) :
    wpAny (model prog w) A (pyIter (.ref ax)) (fun it s₂ => TurnsAt prog w A h₀ env target body Q E it s₂) E s :=
  loop_vals hh F N hm hc hd J hJ (fun v => v ∈ vs) (fun _ h => h) turn fin
end
end Mine
namespace Mine
open PySem PySem.W PySem.Spec PySem.Calls PyProof.Rows
end Mine
namespace Mine
open PySem PySem.W PySem.Spec PySem.Calls PyProof.Rows
theorem news_2 {h₀ h : Heap} {L : Addr} {a b : Addr × Obj} {r : List (Addr × Obj)} (N : News h₀ L h (a :: b :: r)) : News h₀ L h r := fun p hp => N p (List.mem_cons_of_mem _ (List.mem_cons_of_mem _ hp))
end Mine
end
theorem Mine.resetAqRows : True := by
  w_top off
  first | walk1 | exact trivial
section
open PySem PySem.W PySem.Spec PySem.Calls PyProof.Rows
set_option Elab.async false
set_option maxRecDepth 100000
namespace Mine
/-- a row's values: small numbers, or the text x -/
def RowEls (l : List Value) : Prop := l.length ≤ 30 ∧ ∀ v ∈ l, ∃ o, RowEl (v, o)
theorem RowEls.mem : ∀ {l : List Value}, (∀ v ∈ l, ∃ o, RowEl (v, o)) → ∃ cs : Mem, l = cs.map (·.1) ∧ ∀ p ∈ cs, RowEl p
  | [], _ => ⟨[], rfl, fun _ h => nomatch h⟩
  | v :: l, h => by
    obtain ⟨o, ho⟩ := h v List.mem_cons_self
    obtain ⟨cs, e, hc⟩ := RowEls.mem (l := l) fun u hu => h u (List.mem_cons_of_mem _ hu)
    refine ⟨(v, o) :: cs, by simp [e], fun p hp => ?_⟩
    rcases List.mem_cons.mp hp with rfl | hp
    · exact ho
    · exact hc p hp
theorem RowEls.ints {vs : List Value} {ns : List Int} (hi : IntsAre vs ns) (hl : ns.length ≤ 30) (hb : ∀ n ∈ ns, n.natAbs < 10 ^ 10) : RowEls vs := by
  refine ⟨by rw [hi.length]; exact hl, ?_⟩
  clear hl
  induction hi with
  | nil => exact fun _ h => nomatch h
  | cons n t _ ih =>
    intro v hv
    rcases List.mem_cons.mp hv with rfl | hv
    · exact ⟨some n, .inl ⟨n, t, rfl, hb n List.mem_cons_self⟩⟩
    · exact ih (fun k hk => hb k (List.mem_cons_of_mem _ hk)) v hv
theorem fmod_small {a b : Int} (h0 : 0 < b) (hb : b ≤ 1000) : 0 ≤ a.fmod b ∧ a.fmod b < 1000 := by
  rw [Int.fmod_eq_emod_of_nonneg a (Int.le_of_lt h0)]
  have h1 := Int.emod_nonneg a (b := b) (by omega)
  have h2 := Int.emod_lt_of_pos a h0
  omega
section
variable {A : Around} {E : Value → Shared → Prop} {s : Shared} {env : Env} {h₀ : Heap} {L : Addr} {m : Str → Option Value} {news : List (Addr × Obj)} {M : Model} {st : Stmt} {Q : Flow → Shared → Prop}
/-- a list object of these values -/
def LObj (o : Obj) (l : List Value) : Prop := o.cls = .type "list" ∧ ∃ k, o.data = .seq l.toArray k
theorem LObj.lst (l : List Value) : LObj (LCg.lst l) l := ⟨rfl, _, rfl⟩
theorem LObj.listOf (l : List Value) : LObj (W.listOf l.toArray 0) l := ⟨rfl, _, rfl⟩
/-- a statement that gives the name row a list -/
def RowEnd (P : List Value → Prop) (h₀ : Heap) (L : Addr) (m : Str → Option Value) (news : List (Addr × Obj)) (s : Shared) (fl : Flow) (s' : Shared) : Prop :=
  fl = .next ∧ ∃ a o l h' tk', s' = { s with heap := h', toks := tk' } ∧ RowEls l ∧ P l ∧ LObj o l ∧ Fr h₀ L h' (fun y => if y = Str.ofString "row" then some (.ref a) else m y) ∧ News h₀ L h' ((a, o) :: news) ∧ LCg.Off1 a news
theorem RowEnd.intro {P : List Value → Prop} {a : Addr} {o : Obj} {l : List Value} {h' : Heap} {tk' : Nat} (F' : Fr h₀ L h' (fun y => if y = Str.ofString "row" then some (.ref a) else m y)) (N' : News h₀ L h' ((a, o) :: news)) (l1 : LCg.Off1 a news) (O : LObj o l) (R : RowEls l) (hl : P l) :
    RowEnd P h₀ L m news s .next { s with heap := h', toks := tk' } := ⟨rfl, a, o, l, h', tk', rfl, R, hl, O, F', N', l1⟩
theorem exec_cutRow {sz : Int} {t : Tok} (_F : Fr h₀ L s.heap m) (_N : News h₀ L s.heap news) (_S : m (Str.ofString "size") = some (.int sz t)) (h1 : wpAny M A (exec st env) (RowEnd (fun l => (l.length : Int) = sz ∧ 0 < l.length ∧ l.length ≤ 20) h₀ L m news s) E s)
    (h2 : ∀ (a : Addr) (o : Obj) (l : List Value) (h' : Heap) (tk' : Nat), RowEls l → ((l.length : Int) = sz ∧ 0 < l.length ∧ l.length ≤ 20) → LObj o l → Fr h₀ L h' (fun y => if y = Str.ofString "row" then some (.ref a) else m y) → News h₀ L h' ((a, o) :: news) → LCg.Off1 a news → Q .next { s with heap := h', toks := tk' }) : wpAny M A (exec st env) Q E s :=
  wpAny_mono h1 (fun fl s' h => by obtain ⟨rfl, a, o, l, h', tk', rfl, R, hl, O, F', N', l1⟩ := h; exact h2 a o l h' tk' R hl O F' N' l1) fun _ _ e => e
end
theorem fmod_6 (n : Int) : n.fmod 6 = n % 6 := Int.fmod_eq_emod_of_nonneg _ (by decide)
theorem row_bound {low w : Int} {f : Int → Int} {xs : List Int} (h : ∀ k, ∃ a, f k = low + Int.fmod a w) (h0 : 0 < w) (h1 : w ≤ 1000) (hl : low.natAbs ≤ 1000) : ∀ n ∈ xs.map f, n.natAbs < 10 ^ 10 := by
  intro n hn
  obtain ⟨k, _, rfl⟩ := List.mem_map.mp hn
  obtain ⟨a, e⟩ := h k
  have := fmod_small (a := a) h0 h1
  rw [e]
  omega
end Mine
end
theorem Mine.resetAqRowOps : True := by
  w_top off
  first | walk1 | exact trivial
section
open PySem PySem.W PySem.Spec PySem.Calls PyProof.Rows
set_option Elab.async false
set_option maxRecDepth 100000
namespace Mine
theorem off1_of {a : Addr} : ∀ {news : List (Addr × Obj)}, (∀ p ∈ news, p.1 < a) → LCg.Off1 a news
  | [], _ => trivial
  | p :: r, h => ⟨Nat.ne_of_lt (h p List.mem_cons_self), off1_of fun q hq => h q (List.mem_cons_of_mem _ hq)⟩
theorem pick_mem {items : Array Value} {lo hi st : Option Int} {v : Value} (h : v ∈ (slicePick items lo hi st).toList) : v ∈ items.toList := by
  unfold slicePick at h
  rw [List.toList_toArray] at h
  obtain ⟨i, _, e⟩ := List.mem_filterMap.mp h
  exact Array.mem_toList_iff.mpr (Array.mem_of_getElem? e)
section
variable {prog : Program} {w : World} {A : Around} {E : Value → Shared → Prop} {s : Shared} {h₀ : Heap} {L a : Addr} {o : Obj} {l : List Value} {m : Str → Option Value} {news : List (Addr × Obj)}
theorem row_list {h : Heap} (N : News h₀ L h news) (hm : (a, o) ∈ news) (O : LObj o l) : h.IsList a l.toArray := ⟨o, (N _ hm).1, O.1, O.2⟩
theorem row_slice {value slice : PySem.Expr} {vl vu : Value} {lo hi : Option Int} {Q : Value → Shared → Prop} (F : Fr h₀ L s.heap m) (N : News h₀ L s.heap news) (hm : (a, o) ∈ news) (O : LObj o l) (R : RowEls l) (pl : IsPart vl lo) (pu : IsPart vu hi)
    (h : ∀ D h' l', RowEls l' → Fr h₀ L h' m → News h₀ L h' ((D, listOf l'.toArray 0) :: news) → LCg.Off1 D news → Q (.ref D) { s with heap := h' })
    (hs : subscripted slice false (.ref a) (.ref s.heap.objs.size) = operate [.ref s.heap.objs.size, .ref a] (getItem (.ref a) (.ref s.heap.objs.size))) (ht : ∀ r, letTemporaryGo value (.ref a) r = pure ()) :
    wpAny (model prog w) A (subscriptTail value slice (.ref a) (.ref s.heap.objs.size)) Q E { s with heap := s.heap.push { cls := .type "slice", data := .fields #[vl, vu, .none] } } := by
  refine kmk_slice F N (row_list N hm O) pl pu (fun D h' F' N' l1 => h D h' (slicePick l.toArray lo hi none).toList ⟨?_, fun v hv => R.2 v ?_⟩ F' ?_ (off1_of l1)) hs ht ?_
  · have := slicePick_size_le l.toArray lo hi none
    rw [List.size_toArray] at this
    rw [Array.length_toList]
    exact Nat.le_trans this R.1
  · have := pick_mem hv
    simpa using this
  · rw [Array.toArray_toList]; exact N'
  · rw [List.size_toArray, sizeLine_eq]; have := R.1; omega
theorem row_add {b : Addr} {n : Int} {t : Tok} {k : Nat} {Q : Value → Shared → Prop} (F : Fr h₀ L s.heap m) (N : News h₀ L s.heap news) (hm : (a, o) ∈ news) (O : LObj o l) (R : RowEls l) (hl : l.length ≤ 20) (hb : (b, listOf #[.int n t] k) ∈ news) (hn : n.natAbs < 10 ^ 10)
    (h : ∀ D h' l', RowEls l' → Fr h₀ L h' m → News h₀ L h' ((D, listOf l'.toArray 0) :: news) → LCg.Off1 D news → Q (.ref D) { s with heap := h' }) :
    wpAny (model prog w) A (binaryOp .Add (.ref a) (.ref b)) Q E s := by
  have hb' : s.heap.IsList b ([.int n t] : List Value).toArray := ⟨_, (N _ hb).1, rfl, k, rfl⟩
  refine add_lists F N (row_list N hm O) hb' (fun h' F' N' => h _ h' (l ++ [.int n t]) ⟨?_, fun v hv => ?_⟩ F' N' (off1_of fun p hp => Heap.lt_size (N p hp).1)) ?_
  · rw [List.length_append, List.length_singleton]; omega
  · rcases List.mem_append.mp hv with hv | hv
    · exact R.2 v hv
    · rw [List.mem_singleton.mp hv]; exact ⟨some n, .inl ⟨n, t, rfl, hn⟩⟩
  · rw [List.length_singleton, sizeLine_eq]; omega
theorem row_set {i : Int} {t : Tok} {v : Value} {g : Obj → List (Addr × Obj)} {Q : Unit → Shared → Prop} (F : Fr h₀ L s.heap m) (N : News h₀ L s.heap news) (U : UpdF a o news g) (O : LObj o l) (R : RowEls l) (h0 : 0 ≤ i) (h1 : i < l.length) (hv : ∃ q, RowEl (v, q))
    (h : ∀ h' o' l', RowEls l' → LObj o' l' → Fr h₀ L h' m → News h₀ L h' (g o') → Q () { s with heap := h' }) :
    wpAny (model prog w) A (setItem (.ref a) (.int i t) v) Q E s := by
  obtain ⟨own, rest, rfl, hg, u1, u2⟩ := U.split
  have hm : (a, o) ∈ own ++ (a, o) :: rest := List.mem_append_right _ (.head _)
  have ha := N (a, o) hm
  have h2 := R.1
  refine wpAny_setItem_list (row_list N hm O) h0 (by omega) (by rw [List.size_toArray]; exact h1) fun h' hl' hs => ?_
  obtain ⟨o', ho', hc', k', hd'⟩ := hl'
  refine h h' o' (l.set i.toNat v) ⟨by rw [List.length_set]; exact h2, fun u hu => ?_⟩ ⟨hc', k', ?_⟩ ⟨F.ns.sameBut hs (Ne.symm ha.2.1), fun b ob e => (hs.2 b (fun q => ?_)).trans (F.keep b ob e), F.above⟩ (hg o' ▸ N.setAt u1 u2 hs ho')
  · rcases List.mem_or_eq_of_mem_set hu with hu | hu
    · exact R.2 u hu
    · rw [hu]; exact hv
  · rw [hd']; congr 1; simp
  · rw [q, ha.2.2] at e; cases e
theorem idx_ok {x b : Int} {len : Nat} (hl : (len : Int) = b) (hb : 0 < b) : 0 ≤ x.fmod b ∧ x.fmod b < (len : Int) := by
  rw [Int.fmod_eq_emod_of_nonneg x (Int.le_of_lt hb), hl]
  exact ⟨Int.emod_nonneg x (by omega), Int.emod_lt_of_pos x hb⟩
theorem row_tuple {Q : Value → Shared → Prop} (F : Fr h₀ L s.heap m) (N : News h₀ L s.heap news) (hm : (a, o) ∈ news) (O : LObj o l) (R : RowEls l)
    (h : ∀ D h' (o' : Obj), RowObj o' l → Fr h₀ L h' m → News h₀ L h' ((D, o') :: news) → LCg.Off1 D news → Q (.ref D) { s with heap := h' }) : wpAny (model prog w) A (call (.type "tuple") [.ref a]) Q E s := by
  refine call_tuple_list (row_list N hm O) (fun h' hk => ?_) (by rw [List.size_toArray, sizeLine_eq]; have := R.1; omega)
  have F' : Fr h₀ L h' m := F.keeps hk
  have N' : News h₀ L h' news := fun p hp => ⟨hk _ _ (N p hp).1, (N p hp).2⟩
  exact h _ _ { cls := .type "tuple", data := .seq l.toArray } ⟨.inr rfl, 0, rfl⟩ (F'.push _) (N'.push F' _) (off1_of fun p hp => Heap.lt_size (N' p hp).1)
end
section
variable {A : Around} {E : Value → Shared → Prop} {s : Shared} {env : Env} {h₀ : Heap} {L : Addr} {m : Str → Option Value} {news : List (Addr × Obj)} {M : Model} {st : Stmt} {Q : Flow → Shared → Prop} {a : Addr} {o : Obj} {l : List Value}
theorem exec_cutShape (_F : Fr h₀ L s.heap m) (_N : News h₀ L s.heap ((a, o) :: news)) (_O : LObj o l) (h1 : wpAny M A (exec st env) (RowEnd (fun _ => True) h₀ L m news s) E s)
    (h2 : ∀ (a : Addr) (o : Obj) (l : List Value) (h' : Heap) (tk' : Nat), RowEls l → LObj o l → Fr h₀ L h' (fun y => if y = Str.ofString "row" then some (.ref a) else m y) → News h₀ L h' ((a, o) :: news) → LCg.Off1 a news → Q .next { s with heap := h', toks := tk' }) : wpAny M A (exec st env) Q E s :=
  wpAny_mono h1 (fun fl s' h => by obtain ⟨rfl, a, o, l, h', tk', rfl, R, _, O, F', N', l1⟩ := h; exact h2 a o l h' tk' R O F' N' l1) fun _ _ e => e
theorem RowEnd.old {h' : Heap} {tk' : Nat} (e : m (Str.ofString "row") = some (.ref a)) (F' : Fr h₀ L h' m) (N' : News h₀ L h' ((a, o) :: news)) (l1 : LCg.Off1 a news) (O : LObj o l) (R : RowEls l) : RowEnd (fun _ => True) h₀ L m news s .next { s with heap := h', toks := tk' } := by
  refine .intro (a := a) ?_ N' l1 O R trivial
  have : (fun y => if y = Str.ofString "row" then some (.ref a) else m y) = m := by
    funext y
    split
    · rename_i q; rw [q, e]
    · rfl
  rw [this]
  exact F'
/-- a statement that gives the name handed a row -/
def HandEnd (h₀ : Heap) (L : Addr) (m : Str → Option Value) (news : List (Addr × Obj)) (s : Shared) (fl : Flow) (s' : Shared) : Prop :=
  fl = .next ∧ ∃ a o l h' tk', s' = { s with heap := h', toks := tk' } ∧ RowEls l ∧ RowObj o l ∧ Fr h₀ L h' (fun y => if y = Str.ofString "handed" then some (.ref a) else m y) ∧ News h₀ L h' ((a, o) :: news) ∧ LCg.Off1 a news
theorem LObj.row (O : LObj o l) : RowObj o l := ⟨.inl O.1, O.2⟩
theorem HandEnd.intro {h' : Heap} {tk' : Nat} (F' : Fr h₀ L h' (fun y => if y = Str.ofString "handed" then some (.ref a) else m y)) (N' : News h₀ L h' ((a, o) :: news)) (l1 : LCg.Off1 a news) (O : RowObj o l) (R : RowEls l) :
    HandEnd h₀ L m news s .next { s with heap := h', toks := tk' } := ⟨rfl, a, o, l, h', tk', rfl, R, O, F', N', l1⟩
theorem kinds_row {w : World} {cs : Mem} (h : ∀ p ∈ cs, RowEl p) : ∀ p ∈ cs, Kind w p.1 p.2 := by
  intro p hp
  rcases h p hp with ⟨n, t, rfl, _⟩ | ⟨t, rfl⟩
  · exact kind_int w n t
  · exact kind_str w _ t
theorem exec_cutHand {w : World} (_F : Fr h₀ L s.heap m) (_N : News h₀ L s.heap ((a, o) :: news)) (_O : LObj o l) (_T : (hd.heap_39 w.params).In h₀) (h1 : wpAny M A (exec st env) (HandEnd h₀ L m news s) E s)
    (h2 : ∀ (a : Addr) (o : Obj) (cs : Mem) (y : Str) (h' : Heap) (tk' : Nat), cs.length ≤ 1000 → (∀ p ∈ cs, Kind w p.1 p.2) → RowObj o (cs.map (·.1)) → (∀ news, (a, o) ∈ news → Says w news (.ref a) y) → (∀ news, (a, o) ∈ news → Same w news (.ref a)) →
      Fr h₀ L h' (fun y => if y = Str.ofString "handed" then some (.ref a) else m y) → News h₀ L h' ((a, o) :: news) → LCg.Off1 a news → Q .next { s with heap := h', toks := tk' }) : wpAny M A (exec st env) Q E s :=
  wpAny_mono h1 (fun fl s' h => by
    obtain ⟨rfl, a, o, l, h', tk', rfl, R, O, F', N', l1⟩ := h
    obtain ⟨cs, e, hc⟩ := RowEls.mem R.2
    have hl : cs.length ≤ 100 := by have := R.1; rw [e, List.length_map] at this; omega
    have hR : RowObj o (cs.map (·.1)) := e ▸ O
    obtain ⟨y, hy⟩ := row_saysU (w := w) (a := a) hR hl hc
    exact h2 a o cs y h' tk' (by omega) (kinds_row hc) hR hy (fun news hm => row_same hm hR hc) F' N' l1) fun _ _ e => e
theorem ne_rr {w : World} {r1 r2 : Value} {nm : Str} {cs : Mem} {y : Str} {n lo hi : Int} {mean : ExcName → Option Value} {mg mb : Str → Option Value} {Q : Value → Shared → Prop} (h1 : RowRes a nm cs y n lo hi r1) (h2 : RowRes a nm cs y n lo hi r2) (S : ∀ news, (a, o) ∈ news → Same w news (.ref a))
    (hm : (a, o) ∈ news) (hu : A.units + 70 < cLine) (hh : A.handled = none) (hg : A.guards = some []) (F : Fr h₀ L s.heap m) (X₀ : (hd.heap_39 w.params).In h₀) (T : Top topProg LO mean mg mb h₀) (N : News h₀ L s.heap news)
    (hq : ∀ tk, Q (.bool false) { s with toks := tk }) : wpAny (model Challenge.rw_aq6015_01.row.prog w) A (compareOp .NotEq r1 r2) Q E s := by
  unfold RowRes at h1 h2
  by_cases c : (decide ((cs.length : Int) = n) && cs.all fun p => insideB p.2 lo hi) = true
  · rw [if_pos c] at h1 h2
    subst h1
    subst h2
    exact S news hm mean mg mb A E s h₀ L m Q hu hh hg F X₀ T N hq
  · rw [if_neg c] at h1 h2
    obtain ⟨t, rfl⟩ := h1
    obtain ⟨u, rfl⟩ := h2
    exact ne_str_same (hq s.toks)
end
theorem says_both {w : World} {news : List (Addr × Obj)} {a : Addr} {o : Obj} {y : Str} (h : ∀ news, (a, o) ∈ news → Says w news (.ref a) y) (hm : (a, o) ∈ news) : Says w news (.ref a) y ∧ (a, o) ∈ news := ⟨h news hm, hm⟩
end Mine
end
theorem Mine.resetAqBlk : True := by
  w_top off
  first | walk1 | exact trivial
section
open PySem PySem.W PySem.Spec PySem.Calls PyProof.Rows
set_option Elab.async false
set_option maxRecDepth 100000
namespace Mine
/-- the law's scope, its statements, the statements of its last loop -/
noncomputable def lawParts : Option (Scope × List Stmt × List Stmt) :=
  match Challenge.pw_aq6015_01.main.body.drop 24 with
  | .FunctionDef _ _ b _ _ _ sc _ _ _ :: _ => (match b.drop 11 with | .For _ _ tb _ _ :: _ => some (sc, b, tb) | _ => none)
  | _ => none
abbrev lawEnv (sc : Scope) (L fa : Nat) : Env := envOfC (Str.ofString "law") sc L fa (.ref 151)
/-- what the law has made ahead of its loops -/
abbrev baseL (L f c : Nat) (fo co oH oL oD oS tb : Obj) : List (Addr × Obj) := [(f, fo), (c, co), (L + 1 + 1 + 1 + 1, oH), (L + 1 + 1 + 1, oL), (L + 1 + 1, oD), (L + 1, oS), (149, tb)]
end Mine
end
theorem Mine.resetAqB2 : True := by
  w_top off
  first | walk1 | exact trivial
section
open PySem PySem.W PySem.Spec PySem.Calls PyProof.Rows
set_option Elab.async false
set_option maxRecDepth 100000
namespace Mine
/-- a statement that gives the name x a value with P -/
def NameEnd (x : Str) (P : Value → Prop) (h₀ : Heap) (L : Addr) (m : Str → Option Value) (news : List (Addr × Obj)) (s : Shared) (fl : Flow) (s' : Shared) : Prop := fl = .next ∧ ∃ r h' tk', P r ∧ s' = { s with heap := h', toks := tk' } ∧ Fr h₀ L h' (fun y => if y = x then some r else m y) ∧ News h₀ L h' news
theorem NameEnd.intro {x : Str} {P : Value → Prop} {h₀ : Heap} {L : Addr} {m : Str → Option Value} {news : List (Addr × Obj)} {s : Shared} {r : Value} {h' : Heap} {tk' : Nat} (p : P r) (F' : Fr h₀ L h' (fun y => if y = x then some r else m y)) (N' : News h₀ L h' news) : NameEnd x P h₀ L m news s .next { s with heap := h', toks := tk' } := ⟨rfl, r, h', tk', p, rfl, F', N'⟩
theorem mul_small {a k n : Int} (h0 : 0 ≤ k) (h1 : k < 0 + ((n - 0).toNat : Int)) (h2 : n ≤ 16) : PySem.IntMulOk a (k + 2) :=
  PySem.IntMulOk.of_right (PySem.intBits_le_64 (by omega) (by omega))
section
local macro_rules | `(tactic| walk_at "binaryOp Mult int int") => `(tactic| (with_reducible refine mul_int ?_ (mul_small (by with_reducible assumption) (by with_reducible assumption) (by with_reducible assumption))))
local macro_rules | `(tactic| walk_at "RowEnd") => `(tactic| (k_dflt (((with_reducible rename IntsAre _ (List.map _ (rangeKs _ _)) => hI9); refine' RowEnd.intro ?F ?N ?o (LObj.lst _) ?R ?h; (case F => k_asm); (case N => k_asm); (case o => (simp only [LCg.Off1, and_true]; with_reducible assumption)); (case R => exact RowEls.ints hI9 (by simp only [List.length_map, rangeKs, List.length_range, fmod_6]; omega) (row_bound (fun _ => ⟨_, rfl⟩) (by omega) (by omega) (by omega))); (case h => (show (List.length _ : Int) = _ ∧ _ ∧ _; rw [hI9.length]; simp only [List.length_map, rangeKs, List.length_range, fmod_6]; omega))))))
set_option maxHeartbeats 4000000 in
theorem st_row : ∀ (w : World) (mean : ExcName → Option Value) (mg mb : Str → Option Value) (h₀ : Heap) (L fa f c : Nat) (foc : Value) (fod : Option Addr) (fofd : FuncData) (fosl : Array (Option Value)) (co oH oL oD oS tb : Obj) (m : Str → Option Value) (s : Shared) (E : Value → Shared → Prop) (sc : Scope) (body lb : List Stmt) (I : Nat) (oI : Obj) (n lo hi d : Int) (t1 t2 t3 t4 : Tok),
    lawParts = some (sc, body, lb) → Below callerA h₀ [] h₀ → (hd.heap_39 w.params).In h₀ → Top topProg LO mean mg mb h₀ → 149 < L → L + 1 + 1 + 1 + 1 < c → c < f →
    f < I →
    oH.data = .cell (some (.int hi t1)) →
    oL.data = .cell (some (.int lo t2)) →
    oD.data = .cell (some (.int d t3)) →
    0 < n →
    n ≤ 16 →
    -50 ≤ lo →
    lo ≤ hi →
    hi ≤ 255 →
    Fr h₀ L s.heap (fun y => if y = Str.ofString "size" then some (.int n t4) else m y) → News h₀ L s.heap ((I, oI) :: baseL L f c (⟨foc, fod, .func fofd, fosl⟩ : Obj) co oH oL oD oS tb) →
    wpAny (model Challenge.rw_aq6015_01.row.prog w) (callerA.deeper (lawEnv sc L fa)) (execs ((lb.drop 3).take 1) (lawEnv sc L fa))
      (RowEnd (fun l => (l.length : Int) = n ∧ 0 < l.length ∧ l.length ≤ 20) h₀ L (fun y => if y = Str.ofString "size" then some (.int n t4) else m y) ((I, oI) :: baseL L f c (⟨foc, fod, .func fofd, fosl⟩ : Obj) co oH oL oD oS tb) s) E s := by
  k_fill
  intro w mean mg mb h₀ L fa f c foc fod fofd fosl co oH oL oD oS tb m s E sc body lb I oI n lo hi d t1 t2 t3 t4 hp K' X' T' l0 l1 l2 l3 dH dL dD n0 n1 b1 b2 b3 F N
  cases hp
  dsimp only [List.drop, List.take, List.head, lawEnv, baseL] at *
  k_steps
end
section
local macro_rules | `(tactic| walk_at "NameEnd") => `(tactic| (refine NameEnd.intro ⟨_, rfl⟩ (by k_asm) (by k_asm)))
set_option maxHeartbeats 4000000 in
theorem st_shape : ∀ (w : World) (mean : ExcName → Option Value) (mg mb : Str → Option Value) (h₀ : Heap) (L fa f c : Nat) (foc : Value) (fod : Option Addr) (fofd : FuncData) (fosl : Array (Option Value)) (co oH oL oD oS tb : Obj) (m : Str → Option Value) (s : Shared) (E : Value → Shared → Prop) (sc : Scope) (body lb : List Stmt) (news : List (Addr × Obj)) (d : Int) (t3 : Tok),
    lawParts = some (sc, body, lb) → Below callerA h₀ [] h₀ → (hd.heap_39 w.params).In h₀ → Top topProg LO mean mg mb h₀ → 149 < L → L + 1 + 1 + 1 + 1 < c → c < f →
    (L + 1 + 1, oD) ∈ news →
    oD.data = .cell (some (.int d t3)) →
    Fr h₀ L s.heap m → News h₀ L s.heap (news) →
    wpAny (model Challenge.rw_aq6015_01.row.prog w) (callerA.deeper (lawEnv sc L fa)) (execs ((lb.drop 4).take 1) (lawEnv sc L fa))
      (NameEnd (Str.ofString "shape") (fun v => ∃ t, v = .int ((d.fdiv 7).fmod 6) t) h₀ L (fun y => m y) news s) E s := by
  k_fill
  intro w mean mg mb h₀ L fa f c foc fod fofd fosl co oH oL oD oS tb m s E sc body lb news d t3 hp K' X' T' l0 l1 l2 hm dD F N
  cases hp
  dsimp only [List.drop, List.take, List.head, lawEnv, baseL] at *
  k_steps
end
end Mine
end
theorem Mine.resetAqB3 : True := by
  w_top off
  first | walk1 | exact trivial
section
open PySem PySem.W PySem.Spec PySem.Calls PyProof.Rows
set_option Elab.async false
set_option maxRecDepth 100000
namespace Mine
section
local macro_rules | `(tactic| walk_at "subscriptTail Name Slice ref ref") => `(tactic| (k_here; (with_reducible show wpAny _ _ (subscriptTail _ (PySem.Expr.Slice _ _ none _) (Value.ref _) (Value.ref _)) _ _ _); k_dflt (refine' row_slice ?F ?N ?m ?O ?R ?p ?q ?_ ?s ?t; (case F => k_asm); (case O => with_reducible assumption); (case R => with_reducible assumption); (case N => k_asm); (case m => kcf_m); (case p => kmk_part); (case q => kmk_part); (case s => with_unfolding_all rfl); (case t => kmk_pure)); intro D' h' l' R' F' N' o1'; (try simp only [LCg.Off1, and_true] at o1'); (try k_sweep)))
local macro_rules | `(tactic| walk_at "binaryOp Add ref ref") => `(tactic| (k_here; (with_reducible show wpAny _ _ (binaryOp _ (Value.ref _) (Value.ref _)) _ _ _); k_dflt (refine' row_add ?F ?N ?m ?O ?R ?l ?b ?n ?_; (case F => k_asm); (case O => with_reducible assumption); (case R => with_reducible assumption); (case N => k_asm); (case m => kcf_m); (case b => k_mem); (case l => omega); (case n => omega)); intro D' h' l' R' F' N' o1'; (try simp only [LCg.Off1, and_true] at o1'); (try k_sweep)))
local macro_rules | `(tactic| walk_at "setItem ref int") => `(tactic| (k_here; (with_reducible show wpAny _ _ (setItem (Value.ref _) (Value.int _ _) _) _ _ _); k_dflt (refine' row_set ?F ?N ?U ?O ?R ?i ?j ?v ?_; (case F => k_asm); (case O => with_reducible assumption); (case R => with_reducible assumption); (case N => k_asm); (case U => k_updF); (case i => exact (idx_ok (And.left (by with_reducible assumption)) (by first | omega | (simp only [fmod_6]; omega))).1); (case j => exact (idx_ok (And.left (by with_reducible assumption)) (by first | omega | (simp only [fmod_6]; omega))).2); (case v => first | with_reducible assumption | exact ⟨_, .inl ⟨_, _, rfl, by omega⟩⟩ | exact ⟨_, .inr ⟨_, rfl⟩⟩)); intro h' o' l' R' O' F' N'; (try dsimp only at N')))
local macro_rules | `(tactic| walk_at "RowEnd") => `(tactic| (k_dflt (first | (((with_reducible rename IntsAre _ (List.map _ (rangeKs _ _)) => hI9); refine' RowEnd.intro ?F ?N ?o (LObj.lst _) ?R ?h; (case F => k_asm); (case N => k_asm); (case o => (simp only [LCg.Off1, and_true]; with_reducible assumption)); (case R => exact RowEls.ints hI9 (by simp only [List.length_map, rangeKs, List.length_range, fmod_6]; omega) (row_bound (fun _ => ⟨_, rfl⟩) (by omega) (by omega) (by omega))); (case h => (show (List.length _ : Int) = _ ∧ _ ∧ _; rw [hI9.length]; simp only [List.length_map, rangeKs, List.length_range, fmod_6]; omega)))) | ((refine' RowEnd.old ?e ?F ?N ?o ?O ?R; (case e => (first | with_unfolding_all rfl | ((repeat (first | rw [if_pos rfl] | rw [if_neg (by decide)])); done))); (case F => k_asm); (case O => with_reducible assumption); (case R => with_reducible assumption); (case N => first | k_asm | ((refine' cb_drop ?cbN ?cbS; (case cbN => assumption); (case cbS => first | kcf_all | kcj_all)))); (case o => ((simp only [LCg.Off1, and_true]; first | with_reducible assumption | exact And.right (by with_reducible assumption) | ((repeat' apply And.intro) <;> first | with_reducible assumption | omega)))))) | ((refine' RowEnd.intro ?F ?N ?o (LObj.listOf _) ?R trivial; (case F => k_asm); (case R => with_reducible assumption); (case N => first | k_asm | ((refine' cb_drop ?cbN ?cbS; (case cbN => assumption); (case cbS => first | kcf_all | kcj_all)))); (case o => ((simp only [LCg.Off1, and_true]; first | with_reducible assumption | exact And.right (by with_reducible assumption) | ((repeat' apply And.intro) <;> first | with_reducible assumption | omega)))))))))
set_option maxHeartbeats 4000000 in
theorem st_cut : ∀ (w : World) (mean : ExcName → Option Value) (mg mb : Str → Option Value) (h₀ : Heap) (L fa f c : Nat) (foc : Value) (fod : Option Addr) (fofd : FuncData) (fosl : Array (Option Value)) (co oH oL oD oS tb : Obj) (m : Str → Option Value) (s : Shared) (E : Value → Shared → Prop) (sc : Scope) (body lb : List Stmt) (I a : Nat) (oI o : Obj) (l : List Value) (n lo hi d : Int) (t1 t2 t3 t4 t5 : Tok),
    lawParts = some (sc, body, lb) → Below callerA h₀ [] h₀ → (hd.heap_39 w.params).In h₀ → Top topProg LO mean mg mb h₀ → 149 < L → L + 1 + 1 + 1 + 1 < c → c < f →
    f < I →
    oH.data = .cell (some (.int hi t1)) →
    oL.data = .cell (some (.int lo t2)) →
    oD.data = .cell (some (.int d t3)) →
    0 < n →
    n ≤ 16 →
    -50 ≤ lo →
    lo ≤ hi →
    hi ≤ 255 →
    RowEls l →
    LObj o l →
    ((l.length : Int) = n ∧ 0 < l.length ∧ l.length ≤ 20) →
    LCg.Off1 a ((I, oI) :: baseL L f c (⟨foc, fod, .func fofd, fosl⟩ : Obj) co oH oL oD oS tb) →
    Fr h₀ L s.heap (fun y => if y = Str.ofString "shape" then some (.int ((d.fdiv 7).fmod 6) t5) else if y = Str.ofString "row" then some (.ref a) else if y = Str.ofString "size" then some (.int n t4) else m y) → News h₀ L s.heap ((a, o) :: (I, oI) :: baseL L f c (⟨foc, fod, .func fofd, fosl⟩ : Obj) co oH oL oD oS tb) →
    wpAny (model Challenge.rw_aq6015_01.row.prog w) (callerA.deeper (lawEnv sc L fa)) (execs ((lb.drop 5).take 1) (lawEnv sc L fa))
      (RowEnd (fun _ => True) h₀ L (fun y => if y = Str.ofString "shape" then some (.int ((d.fdiv 7).fmod 6) t5) else if y = Str.ofString "row" then some (.ref a) else if y = Str.ofString "size" then some (.int n t4) else m y) ((I, oI) :: baseL L f c (⟨foc, fod, .func fofd, fosl⟩ : Obj) co oH oL oD oS tb) s) E s := by
  k_fill
  intro w mean mg mb h₀ L fa f c foc fod fofd fosl co oH oL oD oS tb m s E sc body lb I a oI o l n lo hi d t1 t2 t3 t4 t5 hp K' X' T' l0 l1 l2 l3 dH dL dD n0 n1 b1 b2 b3 R O hl of F N
  cases hp
  dsimp only [List.drop, List.take, List.head, lawEnv, baseL] at *
  simp only [LCg.Off1, and_true] at of
  k_steps
end
end Mine
end
theorem Mine.resetAqB4 : True := by
  w_top off
  first | walk1 | exact trivial
section
open PySem PySem.W PySem.Spec PySem.Calls PyProof.Rows
set_option Elab.async false
set_option maxRecDepth 100000
namespace Mine
section
local macro_rules | `(tactic| walk_at "call type:tuple") => `(tactic| (k_here; (with_reducible show wpAny _ _ (call (Value.type _) [Value.ref _]) _ _ _); k_dflt (refine' row_tuple ?F ?N ?m ?O ?R ?_; (case F => k_asm); (case O => with_reducible assumption); (case R => with_reducible assumption); (case N => k_asm); (case m => kcf_m)); intro D' h' o' R' F' N' o1'; (try simp only [LCg.Off1, and_true] at o1'); (try k_sweep)))
local macro_rules | `(tactic| walk_at "HandEnd") => `(tactic| (k_dflt ((first | (refine' HandEnd.intro ?F ?N ?o ?O ?R; (case F => k_asm); (case O => with_reducible assumption); (case R => with_reducible assumption); (case N => first | k_asm | ((refine' cb_drop ?cbN ?cbS; (case cbN => assumption); (case cbS => first | kcf_all | kcj_all)))); (case o => ((simp only [LCg.Off1, and_true]; first | with_reducible assumption | exact And.right (by with_reducible assumption) | ((repeat' apply And.intro) <;> first | with_reducible assumption | omega))))) | (refine' HandEnd.intro ?F ?N ?o (LObj.row ?O) ?R; (case F => k_asm); (case O => with_reducible assumption); (case R => with_reducible assumption); (case N => first | k_asm | ((refine' cb_drop ?cbN ?cbS; (case cbN => assumption); (case cbS => first | kcf_all | kcj_all)))); (case o => ((simp only [LCg.Off1, and_true]; first | with_reducible assumption | exact And.right (by with_reducible assumption) | ((repeat' apply And.intro) <;> first | with_reducible assumption | omega)))))))))
set_option maxHeartbeats 4000000 in
theorem st_hand : ∀ (w : World) (mean : ExcName → Option Value) (mg mb : Str → Option Value) (h₀ : Heap) (L fa f c : Nat) (foc : Value) (fod : Option Addr) (fofd : FuncData) (fosl : Array (Option Value)) (co oH oL oD oS tb : Obj) (m : Str → Option Value) (s : Shared) (E : Value → Shared → Prop) (sc : Scope) (body lb : List Stmt) (I a : Nat) (oI o : Obj) (l : List Value) (d : Int) (t3 : Tok),
    lawParts = some (sc, body, lb) → Below callerA h₀ [] h₀ → (hd.heap_39 w.params).In h₀ → Top topProg LO mean mg mb h₀ → 149 < L → L + 1 + 1 + 1 + 1 < c → c < f →
    f < I →
    oD.data = .cell (some (.int d t3)) →
    RowEls l →
    LObj o l →
    LCg.Off1 a ((I, oI) :: baseL L f c (⟨foc, fod, .func fofd, fosl⟩ : Obj) co oH oL oD oS tb) →
    Fr h₀ L s.heap (fun y => if y = Str.ofString "row" then some (.ref a) else m y) → News h₀ L s.heap ((a, o) :: (I, oI) :: baseL L f c (⟨foc, fod, .func fofd, fosl⟩ : Obj) co oH oL oD oS tb) →
    wpAny (model Challenge.rw_aq6015_01.row.prog w) (callerA.deeper (lawEnv sc L fa)) (execs ((lb.drop 6).take 1) (lawEnv sc L fa))
      (HandEnd h₀ L (fun y => if y = Str.ofString "row" then some (.ref a) else m y) ((I, oI) :: baseL L f c (⟨foc, fod, .func fofd, fosl⟩ : Obj) co oH oL oD oS tb) s) E s := by
  k_fill
  intro w mean mg mb h₀ L fa f c foc fod fofd fosl co oH oL oD oS tb m s E sc body lb I a oI o l d t3 hp K' X' T' l0 l1 l2 l3 dD R O of F N
  cases hp
  dsimp only [List.drop, List.take, List.head, lawEnv, baseL] at *
  simp only [LCg.Off1, and_true] at of
  k_steps
end
section
local macro_rules | `(tactic| walk_at "SameEnd") => `(tactic| ((refine SameEnd.intro (by k_asm) ?_; first | k_asm | ((refine' cb_drop ?cbN ?cbS; (case cbN => assumption); (case cbS => first | kcf_all | kcj_all))))))
local macro_rules | `(tactic| walk_at "call ref") => `(tactic| (k_here; (with_reducible show wpAny _ _ (call (Value.ref 142) [Value.int 0 _, _, _, _, _, _]) _ _ _); k_dflt (refine' CtrT.use (rowed_0 _ _ _ _ _ _ _ _ _ _ _ _ _ _ ?n ?K ?c ?s ?l ?h ?R) ?B ?F ?X ?N ?T ?hk ?hp ?_; (case K => with_reducible assumption); (case R => with_reducible assumption); (case n => decide +kernel); (case c => with_reducible assumption); (case s => first | decide | omega); (case l => first | decide | omega); (case h => first | decide | omega); (case B => k_asm); (case F => k_asm); (case X => k_asm); (case N => k_asm); (case T => k_asm); (case hk => first | assumption | exact rfl); (case hp => exact says_both (by with_reducible assumption) (by kcf_m))); (intro r' h' tk' hr' F' N'; (try dsimp only))))
local macro_rules | `(tactic| walk_at "call ref") => `(tactic| (k_here; (with_reducible show wpAny _ _ (call (Value.ref 142) [Value.int 1 _, _, _, _, _, _]) _ _ _); k_dflt (refine' CtrT.use (rowed_1 _ _ _ _ _ _ _ _ _ _ _ _ _ _ ?n ?K ?c ?R) ?B ?F ?X ?N ?T ?hk ?hp ?_; (case K => with_reducible assumption); (case R => with_reducible assumption); (case n => decide +kernel); (case c => with_reducible assumption); (case B => k_asm); (case F => k_asm); (case X => k_asm); (case N => k_asm); (case T => k_asm); (case hk => first | assumption | exact rfl); (case hp => exact says_both (by with_reducible assumption) (by kcf_m))); (intro r' h' tk' hr' F' N'; (try dsimp only))))
local macro_rules | `(tactic| walk_at "call ref") => `(tactic| (k_here; (with_reducible show wpAny _ _ (call (Value.ref 142) [Value.int 2 _, _, _, _, _, _]) _ _ _); k_dflt (refine' CtrT.use (rowed_2 _ _ _ _ _ _ _ _ _ _ _ _ _ _ ?n ?K ?c ?R) ?B ?F ?X ?N ?T ?hk ?hp ?_; (case K => with_reducible assumption); (case R => with_reducible assumption); (case n => decide +kernel); (case c => with_reducible assumption); (case B => k_asm); (case F => k_asm); (case X => k_asm); (case N => k_asm); (case T => k_asm); (case hk => first | assumption | exact rfl); (case hp => exact says_both (by with_reducible assumption) (by kcf_m))); (intro r' h' tk' hr' F' N'; (try dsimp only))))
local macro_rules | `(tactic| walk_at "call ref") => `(tactic| (k_here; (with_reducible show wpAny _ _ (call (Value.ref 147) _) _ _ _); k_dflt (refine' CtrXc.use (row_due _ _ _ _ _ _ _ _ _ _ _ _ _ ?n ?K ?c ?s ?l ?h ?R) rfl ?B ?F ?X ?N ?T ?hk ?hp ?hd ?hu ?_; (case K => with_reducible assumption); (case R => with_reducible assumption); (case n => decide +kernel); (case c => with_reducible assumption); (case s => first | decide | omega); (case l => first | decide | omega); (case h => first | decide | omega); (case B => k_asm); (case F => k_asm); (case X => k_asm); (case N => k_asm); (case T => k_asm); (case hk => first | assumption | exact rfl); (case hp => exact says_both (by with_reducible assumption) (by kcf_m)); (case hd => (first | decide +kernel | ktr_room)); (case hu => (first | decide +kernel | ktr_units))); (intro r' h' tk' hr' F' N'; (try dsimp only))))
local macro_rules | `(tactic| walk_at "compareOp NotEq") => `(tactic| (k_here; k_dflt (refine' ne_rr (by with_reducible assumption) (by with_reducible assumption) (by with_reducible assumption) ?m ?u ?h ?g ?F ?X ?T ?N ?_; (case N => k_asm); (case m => kcf_m); (case u => ktr_units); (case h => exact rfl); (case g => exact rfl); (case F => k_asm); (case X => k_asm); (case T => k_asm); k_whole; intro tk')))
set_option maxHeartbeats 4000000 in
theorem st_if7 : ∀ (w : World) (mean : ExcName → Option Value) (mg mb : Str → Option Value) (h₀ : Heap) (L fa f c : Nat) (foc : Value) (fod : Option Addr) (fofd : FuncData) (fosl : Array (Option Value)) (co oH oL oD oS tb : Obj) (m : Str → Option Value) (s : Shared) (E : Value → Shared → Prop) (sc : Scope) (body lb : List Stmt) (I a : Nat) (oI o : Obj) (cs : Mem) (y : Str) (n lo hi : Int) (t1 t2 t4 : Tok),
    lawParts = some (sc, body, lb) → Below callerA h₀ [] h₀ → (hd.heap_39 w.params).In h₀ → Top topProg LO mean mg mb h₀ → 149 < L → L + 1 + 1 + 1 + 1 < c → c < f →
    f < I →
    oH.data = .cell (some (.int hi t1)) →
    oL.data = .cell (some (.int lo t2)) →
    0 < n →
    n ≤ 16 →
    -50 ≤ lo →
    lo ≤ hi →
    hi ≤ 255 →
    cs.length ≤ 1000 →
    (∀ p ∈ cs, Kind w p.1 p.2) →
    RowObj o (cs.map (·.1)) →
    (∀ news, (a, o) ∈ news → Says w news (.ref a) y) →
    (∀ news, (a, o) ∈ news → Same w news (.ref a)) →
    Fr h₀ L s.heap (fun y => if y = Str.ofString "handed" then some (.ref a) else if y = Str.ofString "size" then some (.int n t4) else m y) → News h₀ L s.heap ((a, o) :: (I, oI) :: baseL L f c (⟨foc, fod, .func fofd, fosl⟩ : Obj) co oH oL oD oS tb) →
    wpAny (model Challenge.rw_aq6015_01.row.prog w) (callerA.deeper (lawEnv sc L fa)) (execs ((lb.drop 7).take 1) (lawEnv sc L fa))
      (SameEnd h₀ L (fun y => if y = Str.ofString "handed" then some (.ref a) else if y = Str.ofString "size" then some (.int n t4) else m y) ((a, o) :: (I, oI) :: baseL L f c (⟨foc, fod, .func fofd, fosl⟩ : Obj) co oH oL oD oS tb) s) E s := by
  k_fill
  intro w mean mg mb h₀ L fa f c foc fod fofd fosl co oH oL oD oS tb m s E sc body lb I a oI o cs y n lo hi t1 t2 t4 hp K' X' T' l0 l1 l2 l3 dH dL n0 n1 b1 b2 b3 fc fk fr fs fe F N
  cases hp
  dsimp only [List.drop, List.take, List.head, lawEnv, baseL] at *
  k_steps
end
section
local macro_rules | `(tactic| walk_at "SameEnd") => `(tactic| ((refine SameEnd.intro (by k_asm) ?_; first | k_asm | ((refine' cb_drop ?cbN ?cbS; (case cbN => assumption); (case cbS => first | kcf_all | kcj_all))))))
local macro_rules | `(tactic| walk_at "call ref") => `(tactic| (k_here; (with_reducible show wpAny _ _ (call (Value.ref 142) [Value.int 0 _, _, _, _, _, _]) _ _ _); k_dflt (refine' CtrT.use (rowed_0 _ _ _ _ _ _ _ _ _ _ _ _ _ _ ?n ?K ?c ?s ?l ?h ?R) ?B ?F ?X ?N ?T ?hk ?hp ?_; (case K => with_reducible assumption); (case R => with_reducible assumption); (case n => decide +kernel); (case c => with_reducible assumption); (case s => first | decide | omega); (case l => first | decide | omega); (case h => first | decide | omega); (case B => k_asm); (case F => k_asm); (case X => k_asm); (case N => k_asm); (case T => k_asm); (case hk => first | assumption | exact rfl); (case hp => exact says_both (by with_reducible assumption) (by kcf_m))); (intro r' h' tk' hr' F' N'; (try dsimp only))))
local macro_rules | `(tactic| walk_at "call ref") => `(tactic| (k_here; (with_reducible show wpAny _ _ (call (Value.ref 142) [Value.int 1 _, _, _, _, _, _]) _ _ _); k_dflt (refine' CtrT.use (rowed_1 _ _ _ _ _ _ _ _ _ _ _ _ _ _ ?n ?K ?c ?R) ?B ?F ?X ?N ?T ?hk ?hp ?_; (case K => with_reducible assumption); (case R => with_reducible assumption); (case n => decide +kernel); (case c => with_reducible assumption); (case B => k_asm); (case F => k_asm); (case X => k_asm); (case N => k_asm); (case T => k_asm); (case hk => first | assumption | exact rfl); (case hp => exact says_both (by with_reducible assumption) (by kcf_m))); (intro r' h' tk' hr' F' N'; (try dsimp only))))
local macro_rules | `(tactic| walk_at "call ref") => `(tactic| (k_here; (with_reducible show wpAny _ _ (call (Value.ref 142) [Value.int 2 _, _, _, _, _, _]) _ _ _); k_dflt (refine' CtrT.use (rowed_2 _ _ _ _ _ _ _ _ _ _ _ _ _ _ ?n ?K ?c ?R) ?B ?F ?X ?N ?T ?hk ?hp ?_; (case K => with_reducible assumption); (case R => with_reducible assumption); (case n => decide +kernel); (case c => with_reducible assumption); (case B => k_asm); (case F => k_asm); (case X => k_asm); (case N => k_asm); (case T => k_asm); (case hk => first | assumption | exact rfl); (case hp => exact says_both (by with_reducible assumption) (by kcf_m))); (intro r' h' tk' hr' F' N'; (try dsimp only))))
local macro_rules | `(tactic| walk_at "call ref") => `(tactic| (k_here; (with_reducible show wpAny _ _ (call (Value.ref 147) _) _ _ _); k_dflt (refine' CtrXc.use (row_due _ _ _ _ _ _ _ _ _ _ _ _ _ ?n ?K ?c ?s ?l ?h ?R) rfl ?B ?F ?X ?N ?T ?hk ?hp ?hd ?hu ?_; (case K => with_reducible assumption); (case R => with_reducible assumption); (case n => decide +kernel); (case c => with_reducible assumption); (case s => first | decide | omega); (case l => first | decide | omega); (case h => first | decide | omega); (case B => k_asm); (case F => k_asm); (case X => k_asm); (case N => k_asm); (case T => k_asm); (case hk => first | assumption | exact rfl); (case hp => exact says_both (by with_reducible assumption) (by kcf_m)); (case hd => (first | decide +kernel | ktr_room)); (case hu => (first | decide +kernel | ktr_units))); (intro r' h' tk' hr' F' N'; (try dsimp only))))
local macro_rules | `(tactic| walk_at "compareOp NotEq") => `(tactic| (k_here; k_dflt (refine' ne_rr (by with_reducible assumption) (by with_reducible assumption) (by with_reducible assumption) ?m ?u ?h ?g ?F ?X ?T ?N ?_; (case N => k_asm); (case m => kcf_m); (case u => ktr_units); (case h => exact rfl); (case g => exact rfl); (case F => k_asm); (case X => k_asm); (case T => k_asm); k_whole; intro tk')))
set_option maxHeartbeats 4000000 in
theorem st_if8 : ∀ (w : World) (mean : ExcName → Option Value) (mg mb : Str → Option Value) (h₀ : Heap) (L fa f c : Nat) (foc : Value) (fod : Option Addr) (fofd : FuncData) (fosl : Array (Option Value)) (co oH oL oD oS tb : Obj) (m : Str → Option Value) (s : Shared) (E : Value → Shared → Prop) (sc : Scope) (body lb : List Stmt) (I a : Nat) (oI o : Obj) (cs : Mem) (y : Str) (k : Int) (t1 : Tok),
    lawParts = some (sc, body, lb) → Below callerA h₀ [] h₀ → (hd.heap_39 w.params).In h₀ → Top topProg LO mean mg mb h₀ → 149 < L → L + 1 + 1 + 1 + 1 < c → c < f →
    f < I →
    cs.length ≤ 1000 →
    (∀ p ∈ cs, Kind w p.1 p.2) →
    RowObj o (cs.map (·.1)) →
    (∀ news, (a, o) ∈ news → Says w news (.ref a) y) →
    (∀ news, (a, o) ∈ news → Same w news (.ref a)) →
    Fr h₀ L s.heap (fun y => if y = Str.ofString "handed" then some (.ref a) else if y = Str.ofString "k" then some (.int k t1) else m y) → News h₀ L s.heap ((a, o) :: (I, oI) :: baseL L f c (⟨foc, fod, .func fofd, fosl⟩ : Obj) co oH oL oD oS tb) →
    wpAny (model Challenge.rw_aq6015_01.row.prog w) (callerA.deeper (lawEnv sc L fa)) (execs ((lb.drop 8).take 1) (lawEnv sc L fa))
      (SameEnd h₀ L (fun y => if y = Str.ofString "handed" then some (.ref a) else if y = Str.ofString "k" then some (.int k t1) else m y) ((a, o) :: (I, oI) :: baseL L f c (⟨foc, fod, .func fofd, fosl⟩ : Obj) co oH oL oD oS tb) s) E s := by
  k_fill
  intro w mean mg mb h₀ L fa f c foc fod fofd fosl co oH oL oD oS tb m s E sc body lb I a oI o cs y k t1 hp K' X' T' l0 l1 l2 l3 fc fk fr fs fe F N
  cases hp
  dsimp only [List.drop, List.take, List.head, lawEnv, baseL] at *
  k_steps
end
section
local macro_rules | `(tactic| walk_at "SameEnd") => `(tactic| ((refine SameEnd.intro (by k_asm) ?_; first | k_asm | ((refine' cb_drop ?cbN ?cbS; (case cbN => assumption); (case cbS => first | kcf_all | kcj_all))))))
local macro_rules | `(tactic| walk_at "call ref") => `(tactic| (k_here; (with_reducible show wpAny _ _ (call (Value.ref 142) [Value.int 0 _, _, _, _, _, _]) _ _ _); k_dflt (refine' CtrT.use (rowed_0 _ _ _ _ _ _ _ _ _ _ _ _ _ _ ?n ?K ?c ?s ?l ?h ?R) ?B ?F ?X ?N ?T ?hk ?hp ?_; (case K => with_reducible assumption); (case R => with_reducible assumption); (case n => decide +kernel); (case c => with_reducible assumption); (case s => first | decide | omega); (case l => first | decide | omega); (case h => first | decide | omega); (case B => k_asm); (case F => k_asm); (case X => k_asm); (case N => k_asm); (case T => k_asm); (case hk => first | assumption | exact rfl); (case hp => exact says_both (by with_reducible assumption) (by kcf_m))); (intro r' h' tk' hr' F' N'; (try dsimp only))))
local macro_rules | `(tactic| walk_at "call ref") => `(tactic| (k_here; (with_reducible show wpAny _ _ (call (Value.ref 142) [Value.int 1 _, _, _, _, _, _]) _ _ _); k_dflt (refine' CtrT.use (rowed_1 _ _ _ _ _ _ _ _ _ _ _ _ _ _ ?n ?K ?c ?R) ?B ?F ?X ?N ?T ?hk ?hp ?_; (case K => with_reducible assumption); (case R => with_reducible assumption); (case n => decide +kernel); (case c => with_reducible assumption); (case B => k_asm); (case F => k_asm); (case X => k_asm); (case N => k_asm); (case T => k_asm); (case hk => first | assumption | exact rfl); (case hp => exact says_both (by with_reducible assumption) (by kcf_m))); (intro r' h' tk' hr' F' N'; (try dsimp only))))
local macro_rules | `(tactic| walk_at "call ref") => `(tactic| (k_here; (with_reducible show wpAny _ _ (call (Value.ref 142) [Value.int 2 _, _, _, _, _, _]) _ _ _); k_dflt (refine' CtrT.use (rowed_2 _ _ _ _ _ _ _ _ _ _ _ _ _ _ ?n ?K ?c ?R) ?B ?F ?X ?N ?T ?hk ?hp ?_; (case K => with_reducible assumption); (case R => with_reducible assumption); (case n => decide +kernel); (case c => with_reducible assumption); (case B => k_asm); (case F => k_asm); (case X => k_asm); (case N => k_asm); (case T => k_asm); (case hk => first | assumption | exact rfl); (case hp => exact says_both (by with_reducible assumption) (by kcf_m))); (intro r' h' tk' hr' F' N'; (try dsimp only))))
local macro_rules | `(tactic| walk_at "call ref") => `(tactic| (k_here; (with_reducible show wpAny _ _ (call (Value.ref 147) _) _ _ _); k_dflt (refine' CtrXc.use (row_due _ _ _ _ _ _ _ _ _ _ _ _ _ ?n ?K ?c ?s ?l ?h ?R) rfl ?B ?F ?X ?N ?T ?hk ?hp ?hd ?hu ?_; (case K => with_reducible assumption); (case R => with_reducible assumption); (case n => decide +kernel); (case c => with_reducible assumption); (case s => first | decide | omega); (case l => first | decide | omega); (case h => first | decide | omega); (case B => k_asm); (case F => k_asm); (case X => k_asm); (case N => k_asm); (case T => k_asm); (case hk => first | assumption | exact rfl); (case hp => exact says_both (by with_reducible assumption) (by kcf_m)); (case hd => (first | decide +kernel | ktr_room)); (case hu => (first | decide +kernel | ktr_units))); (intro r' h' tk' hr' F' N'; (try dsimp only))))
local macro_rules | `(tactic| walk_at "compareOp NotEq") => `(tactic| (k_here; k_dflt (refine' ne_rr (by with_reducible assumption) (by with_reducible assumption) (by with_reducible assumption) ?m ?u ?h ?g ?F ?X ?T ?N ?_; (case N => k_asm); (case m => kcf_m); (case u => ktr_units); (case h => exact rfl); (case g => exact rfl); (case F => k_asm); (case X => k_asm); (case T => k_asm); k_whole; intro tk')))
set_option maxHeartbeats 4000000 in
theorem st_if9 : ∀ (w : World) (mean : ExcName → Option Value) (mg mb : Str → Option Value) (h₀ : Heap) (L fa f c : Nat) (foc : Value) (fod : Option Addr) (fofd : FuncData) (fosl : Array (Option Value)) (co oH oL oD oS tb : Obj) (m : Str → Option Value) (s : Shared) (E : Value → Shared → Prop) (sc : Scope) (body lb : List Stmt) (I a : Nat) (oI o : Obj) (cs : Mem) (y : Str) (k : Int) (t1 : Tok),
    lawParts = some (sc, body, lb) → Below callerA h₀ [] h₀ → (hd.heap_39 w.params).In h₀ → Top topProg LO mean mg mb h₀ → 149 < L → L + 1 + 1 + 1 + 1 < c → c < f →
    f < I →
    cs.length ≤ 1000 →
    (∀ p ∈ cs, Kind w p.1 p.2) →
    RowObj o (cs.map (·.1)) →
    (∀ news, (a, o) ∈ news → Says w news (.ref a) y) →
    (∀ news, (a, o) ∈ news → Same w news (.ref a)) →
    Fr h₀ L s.heap (fun y => if y = Str.ofString "handed" then some (.ref a) else if y = Str.ofString "k" then some (.int k t1) else m y) → News h₀ L s.heap ((a, o) :: (I, oI) :: baseL L f c (⟨foc, fod, .func fofd, fosl⟩ : Obj) co oH oL oD oS tb) →
    wpAny (model Challenge.rw_aq6015_01.row.prog w) (callerA.deeper (lawEnv sc L fa)) (execs ((lb.drop 9).take 1) (lawEnv sc L fa))
      (SameEnd h₀ L (fun y => if y = Str.ofString "handed" then some (.ref a) else if y = Str.ofString "k" then some (.int k t1) else m y) ((a, o) :: (I, oI) :: baseL L f c (⟨foc, fod, .func fofd, fosl⟩ : Obj) co oH oL oD oS tb) s) E s := by
  k_fill
  intro w mean mg mb h₀ L fa f c foc fod fofd fosl co oH oL oD oS tb m s E sc body lb I a oI o cs y k t1 hp K' X' T' l0 l1 l2 l3 fc fk fr fs fe F N
  cases hp
  dsimp only [List.drop, List.take, List.head, lawEnv, baseL] at *
  k_steps
end
end Mine
end
theorem Mine.resetAqB5 : True := by
  w_top off
  first | walk1 | exact trivial
section
open PySem PySem.W PySem.Spec PySem.Calls PyProof.Rows
set_option Elab.async false
set_option maxRecDepth 100000
namespace Mine
/-- the head of a turn: the number drawn, the size, the bounds -/
def TH (h₀ : Heap) (L f c I : Nat) (fo co oS tb oI : Obj) (m : Str → Option Value) (s : Shared) (fl : Flow) (s' : Shared) : Prop :=
  fl = .next ∧ ∃ (h' : Heap) (tk' : Nat) (d n lo hi : Int) (t1 t2 t3 t4 : Tok) (oH oL oD : Obj), s' = { s with heap := h', toks := tk' } ∧ (0 < n ∧ n ≤ 16 ∧ -50 ≤ lo ∧ lo ≤ hi ∧ hi ≤ 255) ∧ oH.data = .cell (some (.int hi t1)) ∧ oL.data = .cell (some (.int lo t2)) ∧ oD.data = .cell (some (.int d t3)) ∧
    Fr h₀ L h' (fun y => if y = Str.ofString "size" then some (.int n t4) else m y) ∧ News h₀ L h' ((I, oI) :: baseL L f c fo co oH oL oD oS tb)
theorem TH.intro {h₀ : Heap} {L f c I : Nat} {fo co oS tb oI : Obj} {m : Str → Option Value} {s : Shared} {h' : Heap} {tk' : Nat} {d n lo hi : Int} {t1 t2 t3 t4 : Tok} {oH oL oD : Obj} (dH : oH.data = .cell (some (.int hi t1))) (dL : oL.data = .cell (some (.int lo t2))) (dD : oD.data = .cell (some (.int d t3)))
    (F' : Fr h₀ L h' (fun y => if y = Str.ofString "size" then some (.int n t4) else m y)) (N' : News h₀ L h' ((I, oI) :: (f, fo) :: (c, co) :: (L + 1 + 1 + 1 + 1, oH) :: (L + 1 + 1 + 1, oL) :: (L + 1 + 1, oD) :: (L + 1, oS) :: (149, tb) :: [])) (b : 0 < n ∧ n ≤ 16 ∧ -50 ≤ lo ∧ lo ≤ hi ∧ hi ≤ 255) :
    TH h₀ L f c I fo co oS tb oI m s .next { s with heap := h', toks := tk' } := ⟨rfl, h', tk', d, n, lo, hi, t1, t2, t3, t4, oH, oL, oD, rfl, b, dH, dL, dD, F', N'⟩
section
local macro_rules | `(tactic| walk_at "call ref") => `(tactic| (k_here; (with_reducible show wpAny _ _ (call (Value.ref _) [Value.int _ _]) _ _ _); k_dflt (refine' Draw.use (by with_reducible assumption) ?p0 ?p6 ?F ?N ?S ?_; (case p0 => omega); (case p6 => omega); (case F => k_asm); (case N => k_asm); (case S => first | kcf_all | kcj_all); k_whole); intro n t' h' tk' F' N'; (try dsimp only); (try k_sweep)))
local macro_rules | `(tactic| walk_at "callWith ref") => `(tactic| (k_here; k_dflt (refine' callWith_F ?k1 ?_; (case k1 => exact FnAt.of (by k_asm) (by k_mem)); k_whole)))
local macro_rules | `(tactic| walk_at "TH") => `(tactic| (refine' TH.intro ?dH ?dL ?dD ?F ?N ?b; (case F => k_asm); (case N => first | k_asm | ((refine' cb_drop ?cbN ?cbS; (case cbN => assumption); (case cbS => first | kcf_all | kcj_all)))); (case dH => assumption); (case dL => assumption); (case dD => assumption); (case b => ((try simp only [fmod_6]); omega))))
set_option maxHeartbeats 4000000 in
theorem st_head : ∀ (w : World) (mean : ExcName → Option Value) (mg mb : Str → Option Value) (h₀ : Heap) (L fa f c : Nat) (foc : Value) (fod : Option Addr) (fofd : FuncData) (fosl : Array (Option Value)) (co oH oL oD oS tb : Obj) (m : Str → Option Value) (s : Shared) (E : Value → Shared → Prop) (sc : Scope) (body lb : List Stmt) (I : Nat) (oI : Obj) (k lv hv : Int) (tk tm tl : Tok) (xH xL xD : Option Value),
    lawParts = some (sc, body, lb) → Below callerA h₀ [] h₀ → (hd.heap_39 w.params).In h₀ → Top topProg LO mean mg mb h₀ → 149 < L → L + 1 + 1 + 1 + 1 < c → c < f →
    f < I →
    CodeHd h₀ 151 149 →
    oH.data = .cell xH →
    oL.data = .cell xL →
    oD.data = .cell xD →
    (k = 0 ∨ k = 1 ∨ k = 2 ∨ k = 3) →
    -50 ≤ lv →
    lv ≤ 49 →
    lv ≤ hv →
    hv ≤ 148 →
    Draw w (callerA.deeper (lawEnv sc L fa)) f h₀ L [(f, (⟨foc, fod, .func fofd, fosl⟩ : Obj)), (c, co), (L + 1, oS), (149, tb)] →
    Fr h₀ L s.heap (fun y => if y = Str.ofString "k" then some (.int k tk) else if y = Str.ofString "most" then some (.int hv tm) else if y = Str.ofString "least" then some (.int lv tl) else if y = Str.ofString "draw" then some (.ref f) else m y) → News h₀ L s.heap ((I, oI) :: baseL L f c (⟨foc, fod, .func fofd, fosl⟩ : Obj) co oH oL oD oS tb) →
    wpAny (model Challenge.rw_aq6015_01.row.prog w) (callerA.deeper (lawEnv sc L fa)) (execs (lb.take 3) (lawEnv sc L fa))
      (TH h₀ L f c I (⟨foc, fod, .func fofd, fosl⟩ : Obj) co oS tb oI (fun y => if y = Str.ofString "k" then some (.int k tk) else if y = Str.ofString "most" then some (.int hv tm) else if y = Str.ofString "least" then some (.int lv tl) else if y = Str.ofString "draw" then some (.ref f) else m y) s) E s := by
  k_fill
  intro w mean mg mb h₀ L fa f c foc fod fofd fosl co oH oL oD oS tb m s E sc body lb I oI k lv hv tk tm tl xH xL xD hp K' X' T' l0 l1 l2 l3 ch dH dL dD hk b1 b2 b3 b4 D F N
  cases hp
  dsimp only [List.drop, List.take, List.head, lawEnv, baseL] at *
  rcases hk with rfl | rfl | rfl | rfl
  all_goals k_steps
end
end Mine
end
theorem Mine.resetAqB6 : True := by
  w_top off
  first | walk1 | exact trivial
section
open PySem PySem.W PySem.Spec PySem.Calls PyProof.Rows
set_option Elab.async false
set_option maxRecDepth 100000
namespace Mine
theorem wp_execs_app {M : Model} {Γ : PySem.Ctx} {env : Env} {b : List Stmt} {Q : Flow → Pos → Shared → Prop} {E : Value → Pos → Shared → Prop} : ∀ (a : List Stmt) (p : Pos) (s : Shared),
    Sem.wp M Γ (execs a env) (fun f p' s' => match f with | .next => Sem.wp M Γ (execs b env) Q E p' s' | f => Q f p' s') E p s → Sem.wp M Γ (execs (a ++ b) env) Q E p s
  | [], p, s, h => h
  | st :: r, p, s, h => by
    rw [execs_cons, Sem.wp_bind'] at h
    rw [List.cons_append, execs_cons, Sem.wp_bind']
    refine Sem.wp_mono M Γ _ (fun f p' s' h' => ?_) (fun _ _ _ h' => h') _ _ h
    cases f with
    | next => exact wp_execs_app r p' s' h'
    | cont => exact h'
    | brk => exact h'
    | ret v => exact h'
theorem execs_app {M : Model} {A : Around} {env : Env} {a b : List Stmt} {Q : Flow → Shared → Prop} {E : Value → Shared → Prop} {s : Shared} (h : wpAny M A (execs a env) (fun fl s' => fl = .next ∧ wpAny M A (execs b env) Q E s') E s) : wpAny M A (execs (a ++ b) env) Q E s :=
  fun Γ p hΓ => wp_execs_app (Q := fun f _ s' => Q f s') a p s (Sem.wp_mono M Γ _ (fun f p' s' h' => by obtain ⟨rfl, h'⟩ := h'; exact h' Γ p' hΓ) (fun _ _ _ h' => h') p s (h Γ p hΓ))
section
variable {h₀ h : Heap} {L : Addr} {m : Str → Option Value} {x a b c : Str} {vx va vb vc : Value}
theorem know_eq (e : m a = some va) (y : Str) : (if y = a then some va else m y) = m y := by
  split
  · rename_i q; rw [q, e]
  · rfl
theorem fr_know (e : m a = some va) (F : Fr h₀ L h m) : Fr h₀ L h (fun y => if y = a then some va else m y) := by
  have : (fun y => if y = a then some va else m y) = m := funext (know_eq e)
  rw [this]
  exact F
theorem fr_back1 (e : m a = some va) (F : Fr h₀ L h (fun y => if y = x then some vx else if y = a then some va else m y)) : Fr h₀ L h (fun y => if y = x then some vx else m y) := by
  simp only [know_eq e] at F
  exact F
theorem fr_know2 (e : m a = some va) (e2 : m b = some vb) (F : Fr h₀ L h m) : Fr h₀ L h (fun y => if y = a then some va else if y = b then some vb else m y) := by
  simp only [know_eq e2, know_eq e]
  exact F
theorem fr_know3 (e : m a = some va) (e2 : m b = some vb) (e3 : m c = some vc) (F : Fr h₀ L h m) : Fr h₀ L h (fun y => if y = a then some va else if y = b then some vb else if y = c then some vc else m y) := by
  simp only [know_eq e2, know_eq e, know_eq e3]
  exact F
theorem fr_same2 (e : m a = some va) (e2 : m b = some vb) (F : Fr h₀ L h (fun y => if y = a then some va else if y = b then some vb else m y)) : Fr h₀ L h m := by
  simp only [know_eq e2, know_eq e] at F
  exact F
theorem fr_back3 (e : m a = some va) (e2 : m b = some vb) (e3 : m c = some vc) (F : Fr h₀ L h (fun y => if y = x then some vx else if y = a then some va else if y = b then some vb else if y = c then some vc else m y)) : Fr h₀ L h (fun y => if y = x then some vx else m y) := by
  simp only [know_eq e3, know_eq e2, know_eq e] at F
  exact F
end
/-- the names that a turn keeps -/
def TJ (l h : Int) (t1 t2 : Tok) (f : Addr) (k n : Int) (tk t4 : Tok) (m : Str → Option Value) : Prop := LawJ l h t1 t2 f m ∧ m (Str.ofString "k") = some (.int k tk) ∧ m (Str.ofString "size") = some (.int n t4)
theorem TJ.set {l h : Int} {t1 t2 : Tok} {f : Addr} {k n : Int} {tk t4 : Tok} {m : Str → Option Value} {x : Str} {v : Value} (j : TJ l h t1 t2 f k n tk t4 m) (g : (x != Str.ofString "least" && x != Str.ofString "most" && x != Str.ofString "draw" && x != Str.ofString "k" && x != Str.ofString "size") = true) :
    TJ l h t1 t2 f k n tk t4 (fun y => if y = x then some v else m y) := by
  simp only [Bool.and_eq_true, bne_iff_ne] at g
  obtain ⟨⟨⟨⟨g1, g2⟩, g3⟩, g4⟩, g5⟩ := g
  obtain ⟨⟨j1, j2, j3⟩, j4, j5⟩ := j
  exact ⟨⟨by simp only [if_neg (Ne.symm g1), j1], by simp only [if_neg (Ne.symm g2), j2], by simp only [if_neg (Ne.symm g3), j3]⟩, by simp only [if_neg (Ne.symm g4), j4], by simp only [if_neg (Ne.symm g5), j5]⟩
theorem set_this {m : Str → Option Value} {x : Str} {v : Value} : (fun y => if y = x then some v else m y) x = some v := if_pos rfl
theorem set_other {m : Str → Option Value} {x z : Str} {v u : Value} (e : m z = some u) (g : (z != x) = true) : (fun y => if y = x then some v else m y) z = some u := by
  simp only [bne_iff_ne] at g
  simp only [if_neg g, e]
theorem turn : ∀ (w : World) (mean : ExcName → Option Value) (mg mb : Str → Option Value) (h₀ : Heap) (L fa f c : Nat) (foc : Value) (fod : Option Addr) (fofd : FuncData) (fosl : Array (Option Value)) (co oH oL oD oS tb : Obj) (m : Str → Option Value) (s : Shared) (E : Value → Shared → Prop) (sc : Scope) (body lb : List Stmt) (I : Nat) (oI : Obj) (k lv hv : Int) (tk tm tl : Tok) (xH xL xD : Option Value) (Q : Flow → Shared → Prop),
    lawParts = some (sc, body, lb) → Below callerA h₀ [] h₀ → (hd.heap_39 w.params).In h₀ → Top topProg LO mean mg mb h₀ → 149 < L → L + 1 + 1 + 1 + 1 < c → c < f →
    f < I → CodeHd h₀ 151 149 → oH.data = .cell xH → oL.data = .cell xL → oD.data = .cell xD → (k = 0 ∨ k = 1 ∨ k = 2 ∨ k = 3) → -50 ≤ lv → lv ≤ 49 → lv ≤ hv → hv ≤ 148 → Draw w (callerA.deeper (lawEnv sc L fa)) f h₀ L [(f, (⟨foc, fod, .func fofd, fosl⟩ : Obj)), (c, co), (L + 1, oS), (149, tb)] →
    Fr h₀ L s.heap (fun y => if y = Str.ofString "k" then some (.int k tk) else if y = Str.ofString "most" then some (.int hv tm) else if y = Str.ofString "least" then some (.int lv tl) else if y = Str.ofString "draw" then some (.ref f) else m y) → News h₀ L s.heap ((I, oI) :: baseL L f c (⟨foc, fod, .func fofd, fosl⟩ : Obj) co oH oL oD oS tb) →
    (∀ (h' : Heap) (tk' : Nat) (m' : Str → Option Value) (oH oL oD : Obj) (xH xL xD : Option Value), oH.data = .cell xH → oL.data = .cell xL → oD.data = .cell xD → LawJ lv hv tl tm f m' → Fr h₀ L h' m' → News h₀ L h' ((I, oI) :: baseL L f c (⟨foc, fod, .func fofd, fosl⟩ : Obj) co oH oL oD oS tb) → Q .next { s with heap := h', toks := tk' }) →
    wpAny (model Challenge.rw_aq6015_01.row.prog w) (callerA.deeper (lawEnv sc L fa)) (execs lb (lawEnv sc L fa)) Q E s := by
  intro w mean mg mb h₀ L fa f c foc fod fofd fosl co oH oL oD oS tb m s E sc body lb I oI k lv hv tk tm tl xH xL xD Q hp K' X' T' l0 l1 l2 l3 ch dH dL dD hk b1 b2 b3 b4 D F N hq
  have e : lb = lb.take 3 ++ ((lb.drop 3).take 1 ++ ((lb.drop 4).take 1 ++ ((lb.drop 5).take 1 ++ ((lb.drop 6).take 1 ++ ((lb.drop 7).take 1 ++ ((lb.drop 8).take 1 ++ (lb.drop 9).take 1)))))) := by cases hp; rfl
  rw [e]
  refine execs_app (wpAny_mono (st_head _ _ _ _ _ _ _ _ _ _ _ _ _ _ _ _ _ _ _ _ _ _ _ _ _ _ _ _ _ _ _ _ _ _ _ _ hp K' X' T' l0 l1 l2 l3 ch dH dL dD hk b1 b2 b3 b4 D F N) (fun fl s' h => ?_) fun _ _ x => x)
  obtain ⟨rfl, h1, k1, d, n, lo, hi, t1, t2, t3, t4, oH1, oL1, oD1, rfl, ⟨n0, n1, c1, c2, c3⟩, dH1, dL1, dD1, F1, N1⟩ := h
  refine ⟨rfl, ?_⟩
  have j : TJ lv hv tl tm f k n tk t4 (fun y => if y = Str.ofString "size" then some (Value.int n t4) else (fun y => if y = Str.ofString "k" then some (.int k tk) else if y = Str.ofString "most" then some (.int hv tm) else if y = Str.ofString "least" then some (.int lv tl) else if y = Str.ofString "draw" then some (.ref f) else m y) y) := ⟨⟨by (first | with_unfolding_all rfl | ((repeat (first | rw [if_pos rfl] | rw [if_neg (by decide)])); done)), by (first | with_unfolding_all rfl | ((repeat (first | rw [if_pos rfl] | rw [if_neg (by decide)])); done)), by (first | with_unfolding_all rfl | ((repeat (first | rw [if_pos rfl] | rw [if_neg (by decide)])); done))⟩, by (first | with_unfolding_all rfl | ((repeat (first | rw [if_pos rfl] | rw [if_neg (by decide)])); done)), by (first | with_unfolding_all rfl | ((repeat (first | rw [if_pos rfl] | rw [if_neg (by decide)])); done))⟩
  revert F1 j
  generalize (fun y => if y = Str.ofString "size" then some (Value.int n t4) else (fun y => if y = Str.ofString "k" then some (.int k tk) else if y = Str.ofString "most" then some (.int hv tm) else if y = Str.ofString "least" then some (.int lv tl) else if y = Str.ofString "draw" then some (.ref f) else m y) y) = m1
  intro F1 j
  clear N F dH dL dD
  refine execs_app (wpAny_mono (st_row _ _ _ _ _ _ _ _ _ _ _ _ _ _ _ _ _ _ _ _ _ _ _ _ _ _ _ _ _ _ _ _ _ _ _ hp K' X' T' l0 l1 l2 l3 dH1 dL1 dD1 n0 n1 c1 c2 c3 (fr_know j.2.2 F1) N1) (fun fl s' h => ?_) fun _ _ x => x)
  obtain ⟨rfl, a, o, l, h2, k2, rfl, R, hl, O, F2, N2, of⟩ := h
  refine ⟨rfl, ?_⟩
  have F2 := fr_back1 j.2.2 F2
  have j := j.set (x := Str.ofString "row") (v := .ref a) (by decide)
  have r2 : (fun y => if y = Str.ofString "row" then some (Value.ref a) else m1 y) (Str.ofString "row") = some (.ref a) := set_this
  revert F2 j r2
  generalize (fun y => if y = Str.ofString "row" then some (Value.ref a) else m1 y) = m2
  intro F2 j r2
  clear N1 F1
  refine execs_app (wpAny_mono (st_shape w mean mg mb h₀ L fa f c foc fod fofd fosl co oH oL oD1 oS tb _ _ E sc body lb _ d t3 hp K' X' T' l0 l1 l2 (List.mem_cons_of_mem _ (List.mem_cons_of_mem _ (List.mem_cons_of_mem _ (List.mem_cons_of_mem _ (List.mem_cons_of_mem _ (List.mem_cons_of_mem _ List.mem_cons_self)))))) dD1 F2 N2) (fun fl s' h => ?_) fun _ _ x => x)
  obtain ⟨rfl, r, h3, k3, ⟨t5, rfl⟩, rfl, F3, N3⟩ := h
  refine ⟨rfl, ?_⟩
  have j := j.set (x := Str.ofString "shape") (v := .int ((d.fdiv 7).fmod 6) t5) (by decide)
  have r3 := set_other (x := Str.ofString "shape") (v := .int ((d.fdiv 7).fmod 6) t5) r2 (by decide)
  have q3 : (fun y => if y = Str.ofString "shape" then some (Value.int ((d.fdiv 7).fmod 6) t5) else m2 y) (Str.ofString "shape") = some (.int ((d.fdiv 7).fmod 6) t5) := set_this
  revert F3 j r3 q3
  generalize (fun y => if y = Str.ofString "shape" then some (Value.int ((d.fdiv 7).fmod 6) t5) else m2 y) = m3
  intro F3 j r3 q3
  clear N2 F2 r2
  refine execs_app (wpAny_mono (st_cut _ _ _ _ _ _ _ _ _ _ _ _ _ _ _ _ _ _ _ _ _ _ _ _ _ _ _ _ _ _ _ _ _ _ _ _ _ _ _ hp K' X' T' l0 l1 l2 l3 dH1 dL1 dD1 n0 n1 c1 c2 c3 R O hl of (fr_know3 q3 r3 j.2.2 F3) N3) (fun fl s' h => ?_) fun _ _ x => x)
  obtain ⟨rfl, a4, o4, l4, h4, k4, rfl, R4, -, O4, F4, N4, of4⟩ := h
  refine ⟨rfl, ?_⟩
  have F4 := fr_back3 q3 r3 j.2.2 F4
  have j := j.set (x := Str.ofString "row") (v := .ref a4) (by decide)
  have r4 : (fun y => if y = Str.ofString "row" then some (Value.ref a4) else m3 y) (Str.ofString "row") = some (.ref a4) := set_this
  revert F4 j r4
  generalize (fun y => if y = Str.ofString "row" then some (Value.ref a4) else m3 y) = m4
  intro F4 j r4
  clear N3 F3 r3 q3
  refine execs_app (wpAny_mono (st_hand _ _ _ _ _ _ _ _ _ _ _ _ _ _ _ _ _ _ _ _ _ _ _ _ _ _ _ _ _ _ _ _ hp K' X' T' l0 l1 l2 l3 dD1 R4 O4 of4 (fr_know r4 F4) N4) (fun fl s' h => ?_) fun _ _ x => x)
  obtain ⟨rfl, a5, o5, l5, h5, k5, rfl, R5, O5, F5, N5, of5⟩ := h
  refine ⟨rfl, ?_⟩
  have F5 := fr_back1 r4 F5
  have j := j.set (x := Str.ofString "handed") (v := .ref a5) (by decide)
  have r5 : (fun y => if y = Str.ofString "handed" then some (Value.ref a5) else m4 y) (Str.ofString "handed") = some (.ref a5) := set_this
  revert F5 j r5
  generalize (fun y => if y = Str.ofString "handed" then some (Value.ref a5) else m4 y) = m5
  intro F5 j r5
  clear N4 F4 r4
  obtain ⟨cs, el, hc⟩ := RowEls.mem R5.2
  have fc : cs.length ≤ 1000 := by have := R5.1; rw [el, List.length_map] at this; omega
  have frr : RowObj o5 (cs.map (·.1)) := el ▸ O5
  obtain ⟨y, fs⟩ := row_saysU (w := w) (a := a5) frr (by have := R5.1; rw [el, List.length_map] at this; omega) hc
  have fk : ∀ p ∈ cs, Kind w p.1 p.2 := kinds_row hc
  have fe : ∀ news, (a5, o5) ∈ news → Same w news (.ref a5) := fun news hm => row_same hm frr hc
  refine execs_app (wpAny_mono (st_if7 _ _ _ _ _ _ _ _ _ _ _ _ _ _ _ _ _ _ _ _ _ _ _ _ _ _ _ _ _ _ _ _ _ _ _ _ _ hp K' X' T' l0 l1 l2 l3 dH1 dL1 n0 n1 c1 c2 c3 fc fk frr fs fe (fr_know2 r5 j.2.2 F5) N5) (fun fl s' h => ?_) fun _ _ x => x)
  obtain ⟨rfl, h6, k6, rfl, F6, N6⟩ := h
  refine ⟨rfl, ?_⟩
  have F6 := fr_same2 r5 j.2.2 F6
  refine execs_app (wpAny_mono (st_if8 _ _ _ _ _ _ _ _ _ _ _ _ _ _ _ _ _ _ _ _ _ _ _ _ _ _ _ _ _ _ _ _ _ hp K' X' T' l0 l1 l2 l3 fc fk frr fs fe (fr_know2 r5 j.2.1 F6) N6) (fun fl s' h => ?_) fun _ _ x => x)
  obtain ⟨rfl, h7, k7, rfl, F7, N7⟩ := h
  refine ⟨rfl, ?_⟩
  have F7 := fr_same2 r5 j.2.1 F7
  refine wpAny_mono (st_if9 _ _ _ _ _ _ _ _ _ _ _ _ _ _ _ _ _ _ _ _ _ _ _ _ _ _ _ _ _ _ _ _ _ hp K' X' T' l0 l1 l2 l3 fc fk frr fs fe (fr_know2 r5 j.2.1 F7) N7) (fun fl s' h => ?_) fun _ _ x => x
  obtain ⟨rfl, h8, k8, rfl, F8, N8⟩ := h
  have F8 := fr_same2 r5 j.2.1 F8
  exact hq h8 k8 m5 oH1 oL1 oD1 _ _ _ dH1 dL1 dD1 j.1 F8 (fun q hq => N8 q (List.mem_cons_of_mem _ hq))
end Mine
end
theorem Mine.resetAqB7 : True := by
  w_top off
  first | walk1 | exact trivial
section
open PySem PySem.W PySem.Spec PySem.Calls PyProof.Rows
set_option Elab.async false
set_option maxRecDepth 100000
namespace Mine
theorem LawJ.set {l h : Int} {t1 t2 : Tok} {f : Addr} {m : Str → Option Value} {x : Str} {v : Value} (j : LawJ l h t1 t2 f m) (g : (x != Str.ofString "least" && x != Str.ofString "most" && x != Str.ofString "draw") = true) : LawJ l h t1 t2 f (fun y => if y = x then some v else m y) := by
  simp only [Bool.and_eq_true, bne_iff_ne] at g
  obtain ⟨⟨g1, g2⟩, g3⟩ := g
  obtain ⟨j1, j2, j3⟩ := j
  exact ⟨by simp only [if_neg (Ne.symm g1), j1], by simp only [if_neg (Ne.symm g2), j2], by simp only [if_neg (Ne.symm g3), j3]⟩
theorem LawJ.openK {l h k : Int} {t1 t2 tk : Tok} {f : Addr} {m : Str → Option Value} {h₀ hp : Heap} {L : Addr} (j : LawJ l h t1 t2 f m) (F : Fr h₀ L hp (fun y => if y = Str.ofString "k" then some (.int k tk) else m y)) :
    Fr h₀ L hp (fun y => if y = Str.ofString "k" then some (.int k tk) else if y = Str.ofString "most" then some (.int h t2) else if y = Str.ofString "least" then some (.int l t1) else if y = Str.ofString "draw" then some (.ref f) else m y) := by
  simp only [know_eq j.2.2, know_eq j.1, know_eq j.2.1]
  exact F
theorem turnK : ∀ (w : World) (mean : ExcName → Option Value) (mg mb : Str → Option Value) (h₀ : Heap) (L fa f c : Nat) (foc : Value) (fod : Option Addr) (fofd : FuncData) (fosl : Array (Option Value)) (co oH oL oD oS tb : Obj) (m : Str → Option Value) (s : Shared) (E : Value → Shared → Prop) (sc : Scope) (body lb : List Stmt) (I : Nat) (oI : Obj) (k lv hv : Int) (tk tm tl : Tok) (xH xL xD : Option Value) (Q : Flow → Shared → Prop),
    lawParts = some (sc, body, lb) → Below callerA h₀ [] h₀ → (hd.heap_39 w.params).In h₀ → Top topProg LO mean mg mb h₀ → 149 < L → L + 1 + 1 + 1 + 1 < c → c < f →
    f < I → CodeHd h₀ 151 149 → oH.data = .cell xH → oL.data = .cell xL → oD.data = .cell xD → (k = 0 ∨ k = 1 ∨ k = 2 ∨ k = 3) → -50 ≤ lv → lv ≤ 49 → lv ≤ hv → hv ≤ 148 → Draw w (callerA.deeper (lawEnv sc L fa)) f h₀ L [(f, (⟨foc, fod, .func fofd, fosl⟩ : Obj)), (c, co), (L + 1, oS), (149, tb)] → LawJ lv hv tl tm f m →
    Fr h₀ L s.heap (fun y => if y = Str.ofString "k" then some (.int k tk) else m y) → News h₀ L s.heap ((I, oI) :: baseL L f c (⟨foc, fod, .func fofd, fosl⟩ : Obj) co oH oL oD oS tb) →
    (∀ (h' : Heap) (tk' : Nat) (m' : Str → Option Value) (oH oL oD : Obj) (xH xL xD : Option Value), oH.data = .cell xH → oL.data = .cell xL → oD.data = .cell xD → LawJ lv hv tl tm f m' → Fr h₀ L h' m' → News h₀ L h' ((I, oI) :: baseL L f c (⟨foc, fod, .func fofd, fosl⟩ : Obj) co oH oL oD oS tb) → Q .next { s with heap := h', toks := tk' }) →
    wpAny (model Challenge.rw_aq6015_01.row.prog w) (callerA.deeper (lawEnv sc L fa)) (execs lb (lawEnv sc L fa)) Q E s := by
  intro w mean mg mb h₀ L fa f c foc fod fofd fosl co oH oL oD oS tb m s E sc body lb I oI k lv hv tk tm tl xH xL xD Q hp K' X' T' l0 l1 l2 l3 ch dH dL dD hk b1 b2 b3 b4 D j F N hq
  exact turn _ _ _ _ _ _ _ _ _ _ _ _ _ _ _ _ _ _ _ _ _ _ _ _ _ I oI k lv hv tk tm tl xH xL xD Q hp K' X' T' l0 l1 l2 l3 ch dH dL dD hk b1 b2 b3 b4 D (j.openK F) N hq
/-- the law's last loop is through -/
def LoopEnd (h₀ : Heap) (L f c : Nat) (fo co oS tb : Obj) (l h : Int) (t1 t2 : Tok) (s : Shared) (fl : Flow) (s' : Shared) : Prop :=
  fl = .next ∧ ∃ (h' : Heap) (tk' : Nat) (m' : Str → Option Value) (oH oL oD : Obj), s' = { s with heap := h', toks := tk' } ∧ LawJ l h t1 t2 f m' ∧ Fr h₀ L h' m' ∧ News h₀ L h' (baseL L f c fo co oH oL oD oS tb)
theorem LoopEnd.intro {h₀ : Heap} {L f c : Nat} {fo co oS tb : Obj} {l h : Int} {t1 t2 : Tok} {s : Shared} {h' : Heap} {tk' : Nat} {m' : Str → Option Value} {oH oL oD : Obj} (j : LawJ l h t1 t2 f m') (F' : Fr h₀ L h' m') (N' : News h₀ L h' ((f, fo) :: (c, co) :: (L + 1 + 1 + 1 + 1, oH) :: (L + 1 + 1 + 1, oL) :: (L + 1 + 1, oD) :: (L + 1, oS) :: (149, tb) :: [])) :
    LoopEnd h₀ L f c fo co oS tb l h t1 t2 s .next { s with heap := h', toks := tk' } := ⟨rfl, h', tk', m', oH, oL, oD, rfl, j, F', N'⟩
section
local macro_rules | `(tactic| walk_at "execs cons") => `(tactic| (k_here; (with_reducible show wpAny _ _ (execs (Stmt.Assign [Expr.Name (Str.ofString "drawn") _] _ _ :: _) _) _ _ _); focus (k_dflt (refine' turnK _ _ _ _ _ _ _ _ _ _ _ _ _ _ _ _ _ _ _ _ _ _ _ _ _ _ _ _ _ _ _ _ _ _ _ _ _ ?hp ?K ?X ?T ?l0 ?l1 ?l2 ?l3 ?ch ?dH ?dL ?dD ?hk ?b1 ?b2 ?b3 ?b4 ?D ?j ?F ?N ?_; (case N => k_asm); (case F => k_asm); (case hp => exact rfl); (case K => with_reducible assumption); (case X => with_reducible assumption); (case T => with_reducible assumption); (case l0 => with_reducible assumption); (case l1 => with_reducible assumption); (case l2 => with_reducible assumption); (case l3 => omega); (case ch => with_reducible assumption); (case D => with_reducible assumption); (case j => with_reducible assumption); (case dH => with_reducible assumption); (case dL => with_reducible assumption); (case dD => with_reducible assumption); (case hk => omega); (case b1 => with_reducible assumption); (case b2 => with_reducible assumption); (case b3 => with_reducible assumption); (case b4 => with_reducible assumption)); (intro h' tk' m' oH' oL' oD' xH' xL' xD' dH' dL' dD' j' F' N'; (try dsimp only at N'); (try dsimp only)))))
local macro_rules | `(tactic| walk_at "LoopEnd") => `(tactic| (refine' LoopEnd.intro ?j ?F ?N; (case F => k_asm); (case N => first | k_asm | ((refine' cb_drop ?cbN ?cbS; (case cbN => assumption); (case cbS => first | kcf_all | kcj_all)))); (case j => with_reducible assumption)))
set_option maxHeartbeats 4000000 in
theorem st_loop : ∀ (w : World) (mean : ExcName → Option Value) (mg mb : Str → Option Value) (h₀ : Heap) (L fa f c : Nat) (foc : Value) (fod : Option Addr) (fofd : FuncData) (fosl : Array (Option Value)) (co oH oL oD oS tb : Obj) (m : Str → Option Value) (s : Shared) (E : Value → Shared → Prop) (sc : Scope) (body lb : List Stmt) (lv hv : Int) (tm tl : Tok) (xH xL xD : Option Value),
    lawParts = some (sc, body, lb) → Below callerA h₀ [] h₀ → (hd.heap_39 w.params).In h₀ → Top topProg LO mean mg mb h₀ → 149 < L → L + 1 + 1 + 1 + 1 < c → c < f →
    CodeHd h₀ 151 149 →
    oH.data = .cell xH →
    oL.data = .cell xL →
    oD.data = .cell xD →
    -50 ≤ lv →
    lv ≤ 49 →
    lv ≤ hv →
    hv ≤ 148 →
    Draw w (callerA.deeper (lawEnv sc L fa)) f h₀ L [(f, (⟨foc, fod, .func fofd, fosl⟩ : Obj)), (c, co), (L + 1, oS), (149, tb)] →
    LawJ lv hv tl tm f m →
    Fr h₀ L s.heap m → News h₀ L s.heap (baseL L f c (⟨foc, fod, .func fofd, fosl⟩ : Obj) co oH oL oD oS tb) →
    wpAny (model Challenge.rw_aq6015_01.row.prog w) (callerA.deeper (lawEnv sc L fa)) (execs ((body.drop 11).take 1) (lawEnv sc L fa))
      (LoopEnd h₀ L f c (⟨foc, fod, .func fofd, fosl⟩ : Obj) co oS tb lv hv tl tm s) (fun _ _ => False) s := by
  k_fill
  intro w mean mg mb h₀ L fa f c foc fod fofd fosl co oH oL oD oS tb m s E sc body lb lv hv tm tl xH xL xD hp K' X' T' l0 l1 l2 ch dH dL dD b1 b2 b3 b4 D j F N
  cases hp
  dsimp only [List.drop, List.take, List.head, lawEnv, baseL] at *
  k_steps
end
end Mine
end
theorem Mine.resetAqB8 : True := by
  w_top off
  first | walk1 | exact trivial
section
open PySem PySem.W PySem.Spec PySem.Calls PyProof.Rows
set_option Elab.async false
set_option maxRecDepth 100000
namespace Mine
/-- a statement of the law that leaves what its names and its ledger told -/
def LawEnd (h₀ : Heap) (L f : Nat) (news : List (Addr × Obj)) (l h : Int) (t1 t2 : Tok) (s : Shared) (fl : Flow) (s' : Shared) : Prop :=
  fl = .next ∧ ∃ (h' : Heap) (tk' : Nat) (m' : Str → Option Value), s' = { s with heap := h', toks := tk' } ∧ LawJ l h t1 t2 f m' ∧ Fr h₀ L h' m' ∧ News h₀ L h' news
theorem LawEnd.intro {h₀ : Heap} {L f : Nat} {news : List (Addr × Obj)} {l h : Int} {t1 t2 : Tok} {s : Shared} {h' : Heap} {tk' : Nat} {m' : Str → Option Value} (F' : Fr h₀ L h' m') (N' : News h₀ L h' news) (j : LawJ l h t1 t2 f m') : LawEnd h₀ L f news l h t1 t2 s .next { s with heap := h', toks := tk' } := ⟨rfl, h', tk', m', rfl, j, F', N'⟩
section
local macro_rules | `(tactic| walk_at "LawEnd") => `(tactic| (k_dflt (refine' LawEnd.intro ?F ?N ?j; (case F => k_asm); (case N => first | k_asm | ((refine' cb_drop ?cbN ?cbS; (case cbN => assumption); (case cbS => first | kcf_all | kcj_all)))); (case j => ((repeat (refine LawJ.set ?_ (by decide))); with_reducible assumption)))))
local macro_rules | `(tactic| walk_at "call ref") => `(tactic| (k_here; (with_reducible show wpAny _ _ (call (Value.ref 135) [Value.int 0 _, _]) _ _ _); k_dflt (refine' CtrT.use (refused_0 _ _ _ _ _) ?B ?F ?X ?N ?T ?hk ?hp ?_; (case B => k_asm); (case F => k_asm); (case X => k_asm); (case N => k_asm); (case T => k_asm); (case hk => first | assumption | exact rfl); (case hp => first | exact isa_bytes _ _ _ _ | exact isa_str _ _ _ _ | exact isa_int _ _ _ _ | exact isa_none _ _ | exact isa_intI _ _ _ _ | exact isa_strI _ _ _ _ | (refine' isa_bytearray _ _ _ _ ?im ?ic; (case im => k_mem); (case ic => assumption)) | (refine' isa_list _ _ _ _ ?im ?ic; (case im => k_mem); (case ic => rfl)))); (intro r' h' tk' hr' F' N'; subst hr'; (try dsimp only); (try simp only [Bool.not_true, Bool.not_false]))))
local macro_rules | `(tactic| walk_at "call ref") => `(tactic| (k_here; (with_reducible show wpAny _ _ (call (Value.ref 135) [Value.int 1 _, _]) _ _ _); k_dflt (refine' CtrT.use (refused_1 _ _ _ _ _) ?B ?F ?X ?N ?T ?hk ?hp ?_; (case B => k_asm); (case F => k_asm); (case X => k_asm); (case N => k_asm); (case T => k_asm); (case hk => first | assumption | exact rfl); (case hp => first | exact isa_bytes _ _ _ _ | exact isa_str _ _ _ _ | exact isa_int _ _ _ _ | exact isa_none _ _ | exact isa_intI _ _ _ _ | exact isa_strI _ _ _ _ | (refine' isa_bytearray _ _ _ _ ?im ?ic; (case im => k_mem); (case ic => assumption)) | (refine' isa_list _ _ _ _ ?im ?ic; (case im => k_mem); (case ic => rfl)))); (intro r' h' tk' hr' F' N'; subst hr'; (try dsimp only); (try simp only [Bool.not_true, Bool.not_false]))))
local macro_rules | `(tactic| walk_at "call ref") => `(tactic| (k_here; (with_reducible show wpAny _ _ (call (Value.ref 135) [Value.int 2 _, _]) _ _ _); k_dflt (refine' CtrT.use (refused_2 _ _ _ _ _) ?B ?F ?X ?N ?T ?hk ?hp ?_; (case B => k_asm); (case F => k_asm); (case X => k_asm); (case N => k_asm); (case T => k_asm); (case hk => first | assumption | exact rfl); (case hp => first | exact isa_bytes _ _ _ _ | exact isa_str _ _ _ _ | exact isa_int _ _ _ _ | exact isa_none _ _ | exact isa_intI _ _ _ _ | exact isa_strI _ _ _ _ | (refine' isa_bytearray _ _ _ _ ?im ?ic; (case im => k_mem); (case ic => assumption)) | (refine' isa_list _ _ _ _ ?im ?ic; (case im => k_mem); (case ic => rfl)))); (intro r' h' tk' hr' F' N'; subst hr'; (try dsimp only); (try simp only [Bool.not_true, Bool.not_false]))))
local macro_rules | `(tactic| walk_at "call ref") => `(tactic| (k_here; (with_reducible show wpAny _ _ (call (Value.ref 135) [Value.int 3 _, _]) _ _ _); k_dflt (refine' CtrT.use (refused_3 _ _ _ _ _) ?B ?F ?X ?N ?T ?hk ?hp ?_; (case B => k_asm); (case F => k_asm); (case X => k_asm); (case N => k_asm); (case T => k_asm); (case hk => first | assumption | exact rfl); (case hp => first | exact isa_bytes _ _ _ _ | exact isa_str _ _ _ _ | exact isa_int _ _ _ _ | exact isa_none _ _ | exact isa_intI _ _ _ _ | exact isa_strI _ _ _ _ | (refine' isa_bytearray _ _ _ _ ?im ?ic; (case im => k_mem); (case ic => assumption)) | (refine' isa_list _ _ _ _ ?im ?ic; (case im => k_mem); (case ic => rfl)))); (intro r' h' tk' hr' F' N'; subst hr'; (try dsimp only); (try simp only [Bool.not_true, Bool.not_false]))))
local macro_rules | `(tactic| walk_at "call builtin:isinstance") => `(tactic| (k_here; (k_dflt (first | (refine' IsA.isI (isa_bytes _ _ _ _) _ _ _ _ _ _ _ _ _ _ ?u ?h ?g ?F ?X ?T ?N ?_; (case u => ktr_units); (case h => exact rfl); (case g => exact rfl); (case F => k_asm); (case X => k_asm); (case T => k_asm); (case N => k_asm); k_whole) | (refine' IsA.isI (isa_intI _ _ _ _) _ _ _ _ _ _ _ _ _ _ ?u ?h ?g ?F ?X ?T ?N ?_; (case u => ktr_units); (case h => exact rfl); (case g => exact rfl); (case F => k_asm); (case X => k_asm); (case T => k_asm); (case N => k_asm); k_whole))); intro tk'))
set_option maxHeartbeats 4000000 in
theorem st_8 : ∀ (w : World) (mean : ExcName → Option Value) (mg mb : Str → Option Value) (h₀ : Heap) (L fa f c : Nat) (foc : Value) (fod : Option Addr) (fofd : FuncData) (fosl : Array (Option Value)) (co oH oL oD oS tb : Obj) (m : Str → Option Value) (s : Shared) (E : Value → Shared → Prop) (sc : Scope) (body lb : List Stmt) (lv hv : Int) (tm tl : Tok),
    lawParts = some (sc, body, lb) → Below callerA h₀ [] h₀ → (hd.heap_39 w.params).In h₀ → Top topProg LO mean mg mb h₀ → 149 < L → L + 1 + 1 + 1 + 1 < c → c < f →
    LawJ lv hv tl tm f m →
    Fr h₀ L s.heap m → News h₀ L s.heap (baseL L f c (⟨foc, fod, .func fofd, fosl⟩ : Obj) co oH oL oD oS tb) →
    wpAny (model Challenge.rw_aq6015_01.row.prog w) (callerA.deeper (lawEnv sc L fa)) (execs ((body.drop 8).take 1) (lawEnv sc L fa))
      (LawEnd h₀ L f (baseL L f c (⟨foc, fod, .func fofd, fosl⟩ : Obj) co oH oL oD oS tb) lv hv tl tm s) (fun _ _ => False) s := by
  k_fill
  intro w mean mg mb h₀ L fa f c foc fod fofd fosl co oH oL oD oS tb m s E sc body lb lv hv tm tl hp K' X' T' l0 l1 l2 j F N
  cases hp
  dsimp only [List.drop, List.take, List.head, lawEnv, baseL] at *
  k_steps
end
section
local macro_rules | `(tactic| walk_at "LawEnd") => `(tactic| (k_dflt (refine' LawEnd.intro ?F ?N ?j; (case F => k_asm); (case N => first | k_asm | ((refine' cb_drop ?cbN ?cbS; (case cbN => assumption); (case cbS => first | kcf_all | kcj_all)))); (case j => ((repeat (refine LawJ.set ?_ (by decide))); with_reducible assumption)))))
local macro_rules | `(tactic| walk_at "call ref") => `(tactic| (k_here; (with_reducible show wpAny _ _ (call (Value.ref 135) [Value.int 0 _, _]) _ _ _); k_dflt (refine' CtrT.use (refused_0 _ _ _ _ _) ?B ?F ?X ?N ?T ?hk ?hp ?_; (case B => k_asm); (case F => k_asm); (case X => k_asm); (case N => k_asm); (case T => k_asm); (case hk => first | assumption | exact rfl); (case hp => first | exact isa_bytes _ _ _ _ | exact isa_str _ _ _ _ | exact isa_int _ _ _ _ | exact isa_none _ _ | exact isa_intI _ _ _ _ | exact isa_strI _ _ _ _ | (refine' isa_bytearray _ _ _ _ ?im ?ic; (case im => k_mem); (case ic => assumption)) | (refine' isa_list _ _ _ _ ?im ?ic; (case im => k_mem); (case ic => rfl)))); (intro r' h' tk' hr' F' N'; subst hr'; (try dsimp only); (try simp only [Bool.not_true, Bool.not_false]))))
local macro_rules | `(tactic| walk_at "call ref") => `(tactic| (k_here; (with_reducible show wpAny _ _ (call (Value.ref 135) [Value.int 1 _, _]) _ _ _); k_dflt (refine' CtrT.use (refused_1 _ _ _ _ _) ?B ?F ?X ?N ?T ?hk ?hp ?_; (case B => k_asm); (case F => k_asm); (case X => k_asm); (case N => k_asm); (case T => k_asm); (case hk => first | assumption | exact rfl); (case hp => first | exact isa_bytes _ _ _ _ | exact isa_str _ _ _ _ | exact isa_int _ _ _ _ | exact isa_none _ _ | exact isa_intI _ _ _ _ | exact isa_strI _ _ _ _ | (refine' isa_bytearray _ _ _ _ ?im ?ic; (case im => k_mem); (case ic => assumption)) | (refine' isa_list _ _ _ _ ?im ?ic; (case im => k_mem); (case ic => rfl)))); (intro r' h' tk' hr' F' N'; subst hr'; (try dsimp only); (try simp only [Bool.not_true, Bool.not_false]))))
local macro_rules | `(tactic| walk_at "call ref") => `(tactic| (k_here; (with_reducible show wpAny _ _ (call (Value.ref 135) [Value.int 2 _, _]) _ _ _); k_dflt (refine' CtrT.use (refused_2 _ _ _ _ _) ?B ?F ?X ?N ?T ?hk ?hp ?_; (case B => k_asm); (case F => k_asm); (case X => k_asm); (case N => k_asm); (case T => k_asm); (case hk => first | assumption | exact rfl); (case hp => first | exact isa_bytes _ _ _ _ | exact isa_str _ _ _ _ | exact isa_int _ _ _ _ | exact isa_none _ _ | exact isa_intI _ _ _ _ | exact isa_strI _ _ _ _ | (refine' isa_bytearray _ _ _ _ ?im ?ic; (case im => k_mem); (case ic => assumption)) | (refine' isa_list _ _ _ _ ?im ?ic; (case im => k_mem); (case ic => rfl)))); (intro r' h' tk' hr' F' N'; subst hr'; (try dsimp only); (try simp only [Bool.not_true, Bool.not_false]))))
local macro_rules | `(tactic| walk_at "call ref") => `(tactic| (k_here; (with_reducible show wpAny _ _ (call (Value.ref 135) [Value.int 3 _, _]) _ _ _); k_dflt (refine' CtrT.use (refused_3 _ _ _ _ _) ?B ?F ?X ?N ?T ?hk ?hp ?_; (case B => k_asm); (case F => k_asm); (case X => k_asm); (case N => k_asm); (case T => k_asm); (case hk => first | assumption | exact rfl); (case hp => first | exact isa_bytes _ _ _ _ | exact isa_str _ _ _ _ | exact isa_int _ _ _ _ | exact isa_none _ _ | exact isa_intI _ _ _ _ | exact isa_strI _ _ _ _ | (refine' isa_bytearray _ _ _ _ ?im ?ic; (case im => k_mem); (case ic => assumption)) | (refine' isa_list _ _ _ _ ?im ?ic; (case im => k_mem); (case ic => rfl)))); (intro r' h' tk' hr' F' N'; subst hr'; (try dsimp only); (try simp only [Bool.not_true, Bool.not_false]))))
local macro_rules | `(tactic| walk_at "call builtin:isinstance") => `(tactic| (k_here; (k_dflt (first | (refine' IsA.isI (isa_bytes _ _ _ _) _ _ _ _ _ _ _ _ _ _ ?u ?h ?g ?F ?X ?T ?N ?_; (case u => ktr_units); (case h => exact rfl); (case g => exact rfl); (case F => k_asm); (case X => k_asm); (case T => k_asm); (case N => k_asm); k_whole) | (refine' IsA.isI (isa_intI _ _ _ _) _ _ _ _ _ _ _ _ _ _ ?u ?h ?g ?F ?X ?T ?N ?_; (case u => ktr_units); (case h => exact rfl); (case g => exact rfl); (case F => k_asm); (case X => k_asm); (case T => k_asm); (case N => k_asm); k_whole))); intro tk'))
set_option maxHeartbeats 4000000 in
theorem st_9 : ∀ (w : World) (mean : ExcName → Option Value) (mg mb : Str → Option Value) (h₀ : Heap) (L fa f c : Nat) (foc : Value) (fod : Option Addr) (fofd : FuncData) (fosl : Array (Option Value)) (co oH oL oD oS tb : Obj) (m : Str → Option Value) (s : Shared) (E : Value → Shared → Prop) (sc : Scope) (body lb : List Stmt) (lv hv : Int) (tm tl : Tok),
    lawParts = some (sc, body, lb) → Below callerA h₀ [] h₀ → (hd.heap_39 w.params).In h₀ → Top topProg LO mean mg mb h₀ → 149 < L → L + 1 + 1 + 1 + 1 < c → c < f →
    LawJ lv hv tl tm f m →
    Fr h₀ L s.heap m → News h₀ L s.heap (baseL L f c (⟨foc, fod, .func fofd, fosl⟩ : Obj) co oH oL oD oS tb) →
    wpAny (model Challenge.rw_aq6015_01.row.prog w) (callerA.deeper (lawEnv sc L fa)) (execs ((body.drop 9).take 1) (lawEnv sc L fa))
      (LawEnd h₀ L f (baseL L f c (⟨foc, fod, .func fofd, fosl⟩ : Obj) co oH oL oD oS tb) lv hv tl tm s) (fun _ _ => False) s := by
  k_fill
  intro w mean mg mb h₀ L fa f c foc fod fofd fosl co oH oL oD oS tb m s E sc body lb lv hv tm tl hp K' X' T' l0 l1 l2 j F N
  cases hp
  dsimp only [List.drop, List.take, List.head, lawEnv, baseL] at *
  k_steps
end
section
local macro_rules | `(tactic| walk_at "LawEnd") => `(tactic| (k_dflt (refine' LawEnd.intro ?F ?N ?j; (case F => k_asm); (case N => first | k_asm | ((refine' cb_drop ?cbN ?cbS; (case cbN => assumption); (case cbS => first | kcf_all | kcj_all)))); (case j => ((repeat (refine LawJ.set ?_ (by decide))); with_reducible assumption)))))
local macro_rules | `(tactic| walk_at "call ref") => `(tactic| (k_here; (with_reducible show wpAny _ _ (call (Value.ref 135) [Value.int 0 _, _]) _ _ _); k_dflt (refine' CtrT.use (refused_0 _ _ _ _ _) ?B ?F ?X ?N ?T ?hk ?hp ?_; (case B => k_asm); (case F => k_asm); (case X => k_asm); (case N => k_asm); (case T => k_asm); (case hk => first | assumption | exact rfl); (case hp => first | exact isa_bytes _ _ _ _ | exact isa_str _ _ _ _ | exact isa_int _ _ _ _ | exact isa_none _ _ | exact isa_intI _ _ _ _ | exact isa_strI _ _ _ _ | (refine' isa_bytearray _ _ _ _ ?im ?ic; (case im => k_mem); (case ic => assumption)) | (refine' isa_list _ _ _ _ ?im ?ic; (case im => k_mem); (case ic => rfl)))); (intro r' h' tk' hr' F' N'; subst hr'; (try dsimp only); (try simp only [Bool.not_true, Bool.not_false]))))
local macro_rules | `(tactic| walk_at "call ref") => `(tactic| (k_here; (with_reducible show wpAny _ _ (call (Value.ref 135) [Value.int 1 _, _]) _ _ _); k_dflt (refine' CtrT.use (refused_1 _ _ _ _ _) ?B ?F ?X ?N ?T ?hk ?hp ?_; (case B => k_asm); (case F => k_asm); (case X => k_asm); (case N => k_asm); (case T => k_asm); (case hk => first | assumption | exact rfl); (case hp => first | exact isa_bytes _ _ _ _ | exact isa_str _ _ _ _ | exact isa_int _ _ _ _ | exact isa_none _ _ | exact isa_intI _ _ _ _ | exact isa_strI _ _ _ _ | (refine' isa_bytearray _ _ _ _ ?im ?ic; (case im => k_mem); (case ic => assumption)) | (refine' isa_list _ _ _ _ ?im ?ic; (case im => k_mem); (case ic => rfl)))); (intro r' h' tk' hr' F' N'; subst hr'; (try dsimp only); (try simp only [Bool.not_true, Bool.not_false]))))
local macro_rules | `(tactic| walk_at "call ref") => `(tactic| (k_here; (with_reducible show wpAny _ _ (call (Value.ref 135) [Value.int 2 _, _]) _ _ _); k_dflt (refine' CtrT.use (refused_2 _ _ _ _ _) ?B ?F ?X ?N ?T ?hk ?hp ?_; (case B => k_asm); (case F => k_asm); (case X => k_asm); (case N => k_asm); (case T => k_asm); (case hk => first | assumption | exact rfl); (case hp => first | exact isa_bytes _ _ _ _ | exact isa_str _ _ _ _ | exact isa_int _ _ _ _ | exact isa_none _ _ | exact isa_intI _ _ _ _ | exact isa_strI _ _ _ _ | (refine' isa_bytearray _ _ _ _ ?im ?ic; (case im => k_mem); (case ic => assumption)) | (refine' isa_list _ _ _ _ ?im ?ic; (case im => k_mem); (case ic => rfl)))); (intro r' h' tk' hr' F' N'; subst hr'; (try dsimp only); (try simp only [Bool.not_true, Bool.not_false]))))
local macro_rules | `(tactic| walk_at "call ref") => `(tactic| (k_here; (with_reducible show wpAny _ _ (call (Value.ref 135) [Value.int 3 _, _]) _ _ _); k_dflt (refine' CtrT.use (refused_3 _ _ _ _ _) ?B ?F ?X ?N ?T ?hk ?hp ?_; (case B => k_asm); (case F => k_asm); (case X => k_asm); (case N => k_asm); (case T => k_asm); (case hk => first | assumption | exact rfl); (case hp => first | exact isa_bytes _ _ _ _ | exact isa_str _ _ _ _ | exact isa_int _ _ _ _ | exact isa_none _ _ | exact isa_intI _ _ _ _ | exact isa_strI _ _ _ _ | (refine' isa_bytearray _ _ _ _ ?im ?ic; (case im => k_mem); (case ic => assumption)) | (refine' isa_list _ _ _ _ ?im ?ic; (case im => k_mem); (case ic => rfl)))); (intro r' h' tk' hr' F' N'; subst hr'; (try dsimp only); (try simp only [Bool.not_true, Bool.not_false]))))
local macro_rules | `(tactic| walk_at "call builtin:isinstance") => `(tactic| (k_here; (k_dflt (first | (refine' IsA.isI (isa_bytes _ _ _ _) _ _ _ _ _ _ _ _ _ _ ?u ?h ?g ?F ?X ?T ?N ?_; (case u => ktr_units); (case h => exact rfl); (case g => exact rfl); (case F => k_asm); (case X => k_asm); (case T => k_asm); (case N => k_asm); k_whole) | (refine' IsA.isI (isa_intI _ _ _ _) _ _ _ _ _ _ _ _ _ _ ?u ?h ?g ?F ?X ?T ?N ?_; (case u => ktr_units); (case h => exact rfl); (case g => exact rfl); (case F => k_asm); (case X => k_asm); (case T => k_asm); (case N => k_asm); k_whole))); intro tk'))
set_option maxHeartbeats 4000000 in
theorem st_10 : ∀ (w : World) (mean : ExcName → Option Value) (mg mb : Str → Option Value) (h₀ : Heap) (L fa f c : Nat) (foc : Value) (fod : Option Addr) (fofd : FuncData) (fosl : Array (Option Value)) (co oH oL oD oS tb : Obj) (m : Str → Option Value) (s : Shared) (E : Value → Shared → Prop) (sc : Scope) (body lb : List Stmt) (lv hv : Int) (tm tl : Tok),
    lawParts = some (sc, body, lb) → Below callerA h₀ [] h₀ → (hd.heap_39 w.params).In h₀ → Top topProg LO mean mg mb h₀ → 149 < L → L + 1 + 1 + 1 + 1 < c → c < f →
    LawJ lv hv tl tm f m →
    Fr h₀ L s.heap m → News h₀ L s.heap (baseL L f c (⟨foc, fod, .func fofd, fosl⟩ : Obj) co oH oL oD oS tb) →
    wpAny (model Challenge.rw_aq6015_01.row.prog w) (callerA.deeper (lawEnv sc L fa)) (execs ((body.drop 10).take 1) (lawEnv sc L fa))
      (LawEnd h₀ L f (baseL L f c (⟨foc, fod, .func fofd, fosl⟩ : Obj) co oH oL oD oS tb) lv hv tl tm s) (fun _ _ => False) s := by
  k_fill
  intro w mean mg mb h₀ L fa f c foc fod fofd fosl co oH oL oD oS tb m s E sc body lb lv hv tm tl hp K' X' T' l0 l1 l2 j F N
  cases hp
  dsimp only [List.drop, List.take, List.head, lawEnv, baseL] at *
  k_steps
end
end Mine
end
theorem Mine.resetAqB9 : True := by
  w_top off
  first | walk1 | exact trivial
section
open PySem PySem.W PySem.Spec PySem.Calls PyProof.Rows
set_option Elab.async false
set_option maxRecDepth 100000
namespace Mine
noncomputable def loop1 (body : List Stmt) : List Stmt := match body.drop 6 with | .For _ _ b _ _ :: _ => b | _ => []
section
local macro_rules | `(tactic| walk_at "call ref") => `(tactic| (k_here; (with_reducible show wpAny _ _ (call (Value.ref 128) [Value.int 0 _, _, _, _, _]) _ _ _); k_dflt (refine' CtrT.use (ranged_0 _ _ _ _ _ _ _ _ _ _ _ ?K ?n ?l ?h) ?B ?F ?X ?N ?T ?hk ?hp ?_; (case K => with_reducible assumption); (case n => decide +kernel); (case l => first | decide | omega); (case h => first | decide | omega); (case B => k_asm); (case F => k_asm); (case X => k_asm); (case N => k_asm); (case T => k_asm); (case hk => first | assumption | exact rfl); (case hp => exact says_all (by with_reducible assumption))); (intro r' h' tk' hr' F' N'; (try dsimp only); (have hr9' := Cond.mk hr'); clear hr'; (try (k_dflt (have hq9' := Cond.yes hr9' (by decide); subst hq9'))))))
local macro_rules | `(tactic| walk_at "call ref") => `(tactic| (k_here; (with_reducible show wpAny _ _ (call (Value.ref 128) [Value.int 1 _, _, _, _, _]) _ _ _); k_dflt (refine' CtrT.use (ranged_1 _ _ _ _ _ _ _ _ _ _ _ ?K ?n ?l ?h) ?B ?F ?X ?N ?T ?hk ?hp ?_; (case K => with_reducible assumption); (case n => decide +kernel); (case l => first | decide | omega); (case h => first | decide | omega); (case B => k_asm); (case F => k_asm); (case X => k_asm); (case N => k_asm); (case T => k_asm); (case hk => first | assumption | exact rfl); (case hp => exact says_all (by with_reducible assumption))); (intro r' h' tk' hr' F' N'; (try dsimp only); (have hr9' := Cond.mk hr'); clear hr'; (try (k_dflt (have hq9' := Cond.yes hr9' (by decide); subst hq9'))))))
local macro_rules | `(tactic| walk_at "call ref") => `(tactic| (k_here; (with_reducible show wpAny _ _ (call (Value.ref 128) [Value.int 2 _, _, _, _, _]) _ _ _); k_dflt (refine' CtrT.use (ranged_2 _ _ _ _ _ _ _ _ _ _ _ ?K ?n ?l ?h) ?B ?F ?X ?N ?T ?hk ?hp ?_; (case K => with_reducible assumption); (case n => decide +kernel); (case l => first | decide | omega); (case h => first | decide | omega); (case B => k_asm); (case F => k_asm); (case X => k_asm); (case N => k_asm); (case T => k_asm); (case hk => first | assumption | exact rfl); (case hp => exact says_all (by with_reducible assumption))); (intro r' h' tk' hr' F' N'; (try dsimp only); (have hr9' := Cond.mk hr'); clear hr'; (try (k_dflt (have hq9' := Cond.yes hr9' (by decide); subst hq9'))))))
local macro_rules | `(tactic| walk_at "call ref") => `(tactic| (k_here; (with_reducible show wpAny _ _ (call (Value.ref 128) [Value.int 3 _, _, _, _, _]) _ _ _); k_dflt (refine' CtrT.use (ranged_3 _ _ _ _ _ _ _ _ _ _ _ ?K ?n ?l ?h) ?B ?F ?X ?N ?T ?hk ?hp ?_; (case K => with_reducible assumption); (case n => decide +kernel); (case l => first | decide | omega); (case h => first | decide | omega); (case B => k_asm); (case F => k_asm); (case X => k_asm); (case N => k_asm); (case T => k_asm); (case hk => first | assumption | exact rfl); (case hp => exact says_all (by with_reducible assumption))); (intro r' h' tk' hr' F' N'; (try dsimp only); (have hr9' := Cond.mk hr'); clear hr'; (try (k_dflt (have hq9' := Cond.yes hr9' (by decide); subst hq9'))))))
local macro_rules | `(tactic| walk_at "call ref") => `(tactic| (k_here; (with_reducible show wpAny _ _ (call (Value.ref 128) [Value.int 4 _, _, _, _, _]) _ _ _); k_dflt (refine' CtrT.use (ranged_4 _ _ _ _ _ _ _ _ _ _ _ ?K ?n ?l ?h) ?B ?F ?X ?N ?T ?hk ?hp ?_; (case K => with_reducible assumption); (case n => decide +kernel); (case l => first | decide | omega); (case h => first | decide | omega); (case B => k_asm); (case F => k_asm); (case X => k_asm); (case N => k_asm); (case T => k_asm); (case hk => first | assumption | exact rfl); (case hp => exact says_all (by with_reducible assumption))); (intro r' h' tk' hr' F' N'; (try dsimp only); (have hr9' := Cond.mk hr'); clear hr'; (try (k_dflt (have hq9' := Cond.yes hr9' (by decide); subst hq9'))))))
local macro_rules | `(tactic| walk_at "call ref") => `(tactic| (k_here; (with_reducible show wpAny _ _ (call (Value.ref 114) _) _ _ _); k_dflt (refine' Ctr.use (inside _ _ _ _ _ _ _ ?K) ?B ?F ?X ?N ?T ?hk ?hp ?hd ?hu ?_; (case K => with_reducible assumption); (case B => k_asm); (case F => k_asm); (case X => k_asm); (case N => k_asm); (case T => k_asm); (case hk => first | assumption | exact rfl); (case hp => exact trivial); (case hd => (first | decide +kernel | ktr_room)); (case hu => (first | decide +kernel | ktr_units))); (intro r' h' tk' e' F' N'; subst e'; (try dsimp only))))
local macro_rules | `(tactic| walk_at "call ref") => `(tactic| (k_here; (with_reducible show wpAny _ _ (call (Value.ref 121) _) _ _ _); k_dflt (refine' Ctr.use (words _ _ _ _ _ _ _ _ _ ?n ?l ?h) ?B ?F ?X ?N ?T ?hk ?hp ?hd ?hu ?_; (case n => decide +kernel); (case l => first | decide | omega); (case h => first | decide | omega); (case B => k_asm); (case F => k_asm); (case X => k_asm); (case N => k_asm); (case T => k_asm); (case hk => first | assumption | exact rfl); (case hp => exact says_all (by with_reducible assumption)); (case hd => (first | decide +kernel | ktr_room)); (case hu => (first | decide +kernel | ktr_units))); (intro r' h' tk' e' F' N'; obtain ⟨t9', e9'⟩ := e'; subst e9'; (try dsimp only))))
local macro_rules | `(tactic| walk_at "compareOp NotEq") => `(tactic| (k_here; k_dflt (first | (refine' ne_cc (by with_reducible assumption) (by with_reducible assumption) (by with_reducible assumption) ?u ?h ?g ?F ?X ?T ?N ?_; (case u => ktr_units); (case h => exact rfl); (case g => exact rfl); (case F => k_asm); (case X => k_asm); (case T => k_asm); (case N => k_asm); k_whole; intro tk') | (refine' ne_cv (by with_reducible assumption) (by with_reducible assumption) (by (first | with_reducible assumption | exact Bool.eq_false_iff.mpr (by with_reducible assumption))) ?u ?h ?g ?F ?X ?T ?N ?_; (case u => ktr_units); (case h => exact rfl); (case g => exact rfl); (case F => k_asm); (case X => k_asm); (case T => k_asm); (case N => k_asm); k_whole; intro tk') | (refine' ne_cs (by with_reducible assumption) (by (first | with_reducible assumption | exact Bool.eq_false_iff.mpr (by with_reducible assumption))) ?_; k_whole) | (refine' ne_cn (by with_reducible assumption) (by (first | with_reducible assumption | exact Bool.eq_false_iff.mpr (by with_reducible assumption))) ?_; k_whole) | (refine' ne_cf (by with_reducible assumption) (by with_reducible assumption) (by (first | with_reducible assumption | exact Bool.eq_false_iff.mpr (by with_reducible assumption))) ?_; k_whole))))
local macro_rules | `(tactic| walk_at "exec If") => `(tactic| (k_here; (with_reducible show wpAny _ _ (exec (Stmt.If (Expr.Compare (Expr.Call _ _ _ _) _ _ _) _ _ _) _) _ _ _); (fail_if_success (with_reducible show wpAny _ _ _ (SameEnd _ _ _ _ _) _ _)); refine' exec_cutS ?F ?N ?_ (fun h' tk' F' N' => ?_); (case F => k_asm); (case N => k_asm)))
local macro_rules | `(tactic| walk_at "exec Assign") => `(tactic| (k_here; (with_reducible show wpAny _ _ (exec (Stmt.Assign _ (Expr.IfExp _ _ _ _) _) _) _ _ _); (fail_if_success (with_reducible show wpAny _ _ _ (DueEnd _ _ _ _ _ _) _ _)); refine' exec_cutD (by with_reducible assumption) ?F ?N ?_ (fun r' h' tk' p' F' N' => ?_); (case F => k_asm); (case N => k_asm)))
local macro_rules | `(tactic| walk_at "DueEnd") => `(tactic| (refine DueEnd.intro ?_ (by k_asm) (by first | k_asm | ((refine' cb_drop ?cbN ?cbS; (case cbN => assumption); (case cbS => first | kcf_all | kcj_all)))); first | exact Cond.t (by (first | with_reducible assumption | exact Bool.eq_false_iff.mpr (by with_reducible assumption))) | exact Cond.f (by (first | with_reducible assumption | exact Bool.eq_false_iff.mpr (by with_reducible assumption)))))
local macro_rules | `(tactic| walk_at "SameEnd") => `(tactic| ((refine SameEnd.intro (by k_asm) ?_; first | k_asm | ((refine' cb_drop ?cbN ?cbS; (case cbN => assumption); (case cbS => first | kcf_all | kcj_all))))))
local macro_rules | `(tactic| walk_at "pyIter ref") => `(tactic| (k_here; (with_reducible show wpAny _ _ (pyIter (Value.ref _)) (fun it s₂ => TurnsAt _ _ _ _ _ (Expr.Tuple _ _ _) _ _ _ it s₂) _ _); refine STOP.mk ?_))
set_option maxHeartbeats 4000000 in
theorem st6_turn : ∀ (w : World) (mean : ExcName → Option Value) (mg mb : Str → Option Value) (h₀ : Heap) (L fa f c : Nat) (foc : Value) (fod : Option Addr) (fofd : FuncData) (fosl : Array (Option Value)) (co oH oL oD oS tb : Obj) (m : Str → Option Value) (s : Shared) (E : Value → Shared → Prop) (sc : Scope) (body lb : List Stmt) (lv hv : Int) (tm tl : Tok) (v : Value) (q : Option Int) (yy : Str) (I : Nat) (oI : Obj) (news : List (Addr × Obj)),
    lawParts = some (sc, body, lb) → Below callerA h₀ [] h₀ → (hd.heap_39 w.params).In h₀ → Top topProg LO mean mg mb h₀ → 149 < L → L + 1 + 1 + 1 + 1 < c → c < f →
    -50 ≤ lv →
    lv ≤ 49 →
    lv ≤ hv →
    hv ≤ 148 →
    Val w v q →
    (∀ news, Says w news v yy) →
    Fr h₀ L s.heap (fun y => if y = Str.ofString "value" then some (v) else if y = Str.ofString "most" then some (.int hv tm) else if y = Str.ofString "least" then some (.int lv tl) else if y = Str.ofString "draw" then some (.ref f) else m y) → News h₀ L s.heap ((I, oI) :: news) →
    wpAny (model Challenge.rw_aq6015_01.row.prog w) (callerA.deeper (lawEnv sc L fa)) (execs (loop1 body) (lawEnv sc L fa))
      (LawEnd h₀ L f ((I, oI) :: news) lv hv tl tm s) (fun _ _ => False) s := by
  k_fill
  intro w mean mg mb h₀ L fa f c foc fod fofd fosl co oH oL oD oS tb m s E sc body lb lv hv tm tl v q yy I oI news hp K' X' T' l0 l1 l2 b1 b2 b3 b4 V hS F N
  cases hp
  dsimp only [List.drop, List.take, List.head, lawEnv, baseL] at *
  have hint : Hint (Cond (insideB q lv hv) v (Ms1 (Str.ofString "a") lv hv yy)) := ⟨trivial⟩
  have hK := V.kind
  dsimp only [loop1, List.drop]
  k_steps
  unfold STOP
  refine' loop_valsM (J := fun m => LawJ lv hv tl tm f m ∧ m (Str.ofString "value") = some v) rfl ?F ?N ?m ?hc ?hd ?J0 ?turn ?fin
  case F => k_asm
  case N => k_asm
  case m => k_mem
  case hc => rfl
  case hd => rfl
  case J0 => exact ⟨⟨by (first | with_unfolding_all rfl | ((repeat (first | rw [if_pos rfl] | rw [if_neg (by decide)])); done)), by (first | with_unfolding_all rfl | ((repeat (first | rw [if_pos rfl] | rw [if_neg (by decide)])); done)), by (first | with_unfolding_all rfl | ((repeat (first | rw [if_pos rfl] | rw [if_neg (by decide)])); done))⟩, by (first | with_unfolding_all rfl | ((repeat (first | rw [if_pos rfl] | rw [if_neg (by decide)])); done))⟩
  case turn =>
    intro u hu I' oI' m' hp' tk' hI' hc' j' F' N'
    obtain ⟨j1, j2⟩ := j'
    have F8 := j1.openV j2 F'
    clear F'
    simp only [List.mem_cons, List.not_mem_nil, or_false] at hu
    rcases hu with rfl | rfl | rfl
    all_goals k_steps
    all_goals (refine' TurnPost.next ?j ?F ?N; (case F => k_asm); (case N => first | k_asm | ((refine' cb_drop ?cbN ?cbS; (case cbN => assumption); (case cbS => first | kcf_all | kcj_all)))); (case j => exact ⟨⟨by (first | with_unfolding_all rfl | ((repeat (first | rw [if_pos rfl] | rw [if_neg (by decide)])); done)), by (first | with_unfolding_all rfl | ((repeat (first | rw [if_pos rfl] | rw [if_neg (by decide)])); done)), by (first | with_unfolding_all rfl | ((repeat (first | rw [if_pos rfl] | rw [if_neg (by decide)])); done))⟩, by (first | with_unfolding_all rfl | ((repeat (first | rw [if_pos rfl] | rw [if_neg (by decide)])); done))⟩))
  case fin =>
    intro m' hp' tk' j' F' N'
    show wpAny _ _ _ _ _ _
    k_steps
    all_goals (refine' LawEnd.intro ?F ?N ?j; (case F => k_asm); (case N => first | k_asm | ((refine' cb_drop ?cbN ?cbS; (case cbN => assumption); (case cbS => first | kcf_all | kcj_all)))); (case j => exact j'.1))
end
end Mine
end
theorem Mine.resetAqB10 : True := by
  w_top off
  first | walk1 | exact trivial
section
open PySem PySem.W PySem.Spec PySem.Calls PyProof.Rows
set_option Elab.async false
set_option maxRecDepth 100000
namespace Mine
theorem LawJ.openW {l h : Int} {t1 t2 : Tok} {v : Value} {f : Addr} {m : Str → Option Value} {h₀ hp : Heap} {L : Addr} (j : LawJ l h t1 t2 f m) (F : Fr h₀ L hp (fun y => if y = Str.ofString "value" then some v else m y)) :
    Fr h₀ L hp (fun y => if y = Str.ofString "value" then some v else if y = Str.ofString "most" then some (.int h t2) else if y = Str.ofString "least" then some (.int l t1) else if y = Str.ofString "draw" then some (.ref f) else m y) := by
  simp only [know_eq j.2.2, know_eq j.1, know_eq j.2.1]
  exact F
section
local macro_rules | `(tactic| walk_at "exec For") => `(tactic| (k_here; (with_reducible show wpAny _ _ (exec (Stmt.For _ (Expr.BinOp _ _ _ _) _ _ _) _) _ _ _); (rename Fr _ _ _ _ => lF'); (with_unfolding_all refine' For_turns lF' ?_; k_whole)))
local macro_rules | `(tactic| walk_at "binaryOp Add ref ref") => `(tactic| (k_here; (with_reducible show wpAny _ _ (binaryOp _ (Value.ref 100) (Value.ref _)) _ _ _); k_dflt (refine' kmk_add_lit ?F ?N ?a ?b ?e ?_ ?z; (case F => k_asm); (case N => k_asm); (case a => exact listIn (by k_asm) (by k_asm) (by k_is)); (case b => kmk_list); (case e => kl_lit); (case z => kl_room)); intro D' h' F' N' l1; (try k_lt l1); (try k_sweep)))
local macro_rules | `(tactic| walk_at "pyIter ref") => `(tactic| (k_here; (with_reducible show wpAny _ _ (pyIter (Value.ref _)) (fun it s₂ => TurnsAt _ _ _ _ _ (Expr.Name _ _) _ _ _ it s₂) _ _); refine STOP.mk ?_))
set_option maxHeartbeats 4000000 in
theorem st_6 : ∀ (w : World) (mean : ExcName → Option Value) (mg mb : Str → Option Value) (h₀ : Heap) (L fa f c : Nat) (foc : Value) (fod : Option Addr) (fofd : FuncData) (fosl : Array (Option Value)) (co oH oL oD oS tb : Obj) (m : Str → Option Value) (s : Shared) (E : Value → Shared → Prop) (sc : Scope) (body lb : List Stmt) (lv hv wv : Int) (tm tl wt : Tok),
    lawParts = some (sc, body, lb) → Below callerA h₀ [] h₀ → (hd.heap_39 w.params).In h₀ → Top topProg LO mean mg mb h₀ → 149 < L → L + 1 + 1 + 1 + 1 < c → c < f →
    -50 ≤ lv →
    lv ≤ 49 →
    lv ≤ hv →
    hv ≤ 148 →
    Fit wv →
    Fr h₀ L s.heap (fun y => if y = Str.ofString "wide" then some (.int wv wt) else if y = Str.ofString "most" then some (.int hv tm) else if y = Str.ofString "least" then some (.int lv tl) else if y = Str.ofString "draw" then some (.ref f) else m y) → News h₀ L s.heap (baseL L f c (⟨foc, fod, .func fofd, fosl⟩ : Obj) co oH oL oD oS tb) →
    wpAny (model Challenge.rw_aq6015_01.row.prog w) (callerA.deeper (lawEnv sc L fa)) (execs ((body.drop 6).take 1) (lawEnv sc L fa))
      (LawEnd h₀ L f (baseL L f c (⟨foc, fod, .func fofd, fosl⟩ : Obj) co oH oL oD oS tb) lv hv tl tm s) (fun _ _ => False) s := by
  k_fill
  intro w mean mg mb h₀ L fa f c foc fod fofd fosl co oH oL oD oS tb m s E sc body lb lv hv wv tm tl wt hp K' X' T' l0 l1 l2 b1 b2 b3 b4 fit F N
  cases hp
  dsimp only [List.drop, List.take, List.head, lawEnv, baseL] at *
  k_steps
  unfold STOP
  refine' loop_vals1 (J := LawJ lv hv tl tm f) (P := fun v => ∃ o, Val w v o) rfl ?F ?N ?m ?hc ?hd ?J0 ?P ?turn ?fin
  case F => k_asm
  case N => k_asm
  case m => k_mem
  case hc => rfl
  case hd => rfl
  case J0 => exact ⟨by (first | with_unfolding_all rfl | ((repeat (first | rw [if_pos rfl] | rw [if_neg (by decide)])); done)), by (first | with_unfolding_all rfl | ((repeat (first | rw [if_pos rfl] | rw [if_neg (by decide)])); done)), by (first | with_unfolding_all rfl | ((repeat (first | rw [if_pos rfl] | rw [if_neg (by decide)])); done))⟩
  case P =>
    repeat' (refine List.forall_mem_cons.mpr ⟨?_, ?_⟩)
    all_goals first
      | exact List.forall_mem_nil _
      | exact ⟨_, val_int _ _ _ fit⟩
      | exact ⟨_, val_int _ _ _ (fit_small (by decide))⟩
      | exact ⟨_, val_int _ _ _ (fit_small (by omega))⟩
      | exact ⟨_, val_bool _ _⟩
      | exact ⟨_, val_str _ _ _ (by decide +kernel)⟩
      | exact ⟨_, val_none _⟩
      | exact ⟨_, val_bytes _ _⟩
      | exact ⟨_, val_list _⟩
  case fin =>
    intro m' hp' tk' j' F' N8
    have N := news_2 N8
    show wpAny _ _ _ _ _ _
    exact wpAny_execs_nil (LawEnd.intro F' N j')
  case turn =>
    intro v hv' news' I oI m' hp' tk' hc' j' F' N'
    obtain ⟨q, V⟩ := hv'
    obtain ⟨yy, hS⟩ := V.says
    walk1
    walk1
    try dsimp only
    rename Fr _ _ _ _ => F2
    rename News _ _ _ _ => N2
    refine wpAny_mono (st6_turn w mean mg mb h₀ L fa f c foc fod fofd fosl co oH oL oD oS tb m' _ E _ _ _ lv hv tm tl v q yy I oI news' rfl K' X' T' l0 l1 l2 b1 b2 b3 b4 V hS (j'.openW F2) N2) (fun fl s' h => ?_) fun _ _ x => x
    obtain ⟨rfl, h3, k3, m3, rfl, j3, F3, N3⟩ := h
    exact TurnPost.next j3 F3 N3
end
end Mine
end
theorem Mine.resetAqB11 : True := by
  w_top off
  first | walk1 | exact trivial
section
open PySem PySem.W PySem.Spec PySem.Calls PyProof.Rows
set_option Elab.async false
set_option maxRecDepth 100000
namespace Mine
/-- the law's head is through: the bounds, the wide number -/
def HeadEnd (h₀ : Heap) (L f : Nat) (news : List (Addr × Obj)) (s : Shared) (fl : Flow) (s' : Shared) : Prop :=
  fl = .next ∧ ∃ (h' : Heap) (tk' : Nat) (m' : Str → Option Value) (lv hv wv : Int) (tl tm wt : Tok), s' = { s with heap := h', toks := tk' } ∧ (-50 ≤ lv ∧ lv ≤ 49 ∧ lv ≤ hv ∧ hv ≤ 148) ∧ LawJ lv hv tl tm f m' ∧ m' (Str.ofString "wide") = some (.int wv wt) ∧ Fr h₀ L h' m' ∧ News h₀ L h' news
theorem HeadEnd.intro {h₀ : Heap} {L f : Nat} {news : List (Addr × Obj)} {s : Shared} {h' : Heap} {tk' : Nat} {m' : Str → Option Value} {lv hv wv : Int} {tl tm wt : Tok} (F' : Fr h₀ L h' m') (N' : News h₀ L h' news) (j : LawJ lv hv tl tm f m') (e : m' (Str.ofString "wide") = some (.int wv wt)) (b : -50 ≤ lv ∧ lv ≤ 49 ∧ lv ≤ hv ∧ hv ≤ 148) :
    HeadEnd h₀ L f news s .next { s with heap := h', toks := tk' } := ⟨rfl, h', tk', m', lv, hv, wv, tl, tm, wt, rfl, b, j, e, F', N'⟩
section
local macro_rules | `(tactic| walk_at "call ref") => `(tactic| (k_here; (with_reducible show wpAny _ _ (call (Value.ref 84) _) _ _ _); k_dflt (refine' CtrXc.use (first_c _ _ _ _ _ _ _ _ _ _ ?l ?h ?le) rfl ?B ?F ?X ?N ?T ?hk ?hp ?hd ?hu ?_; (case l => simp only [fmod_100]; omega); (case h => simp only [fmod_100]; omega); (case le => simp only [fmod_100]; omega); (case B => k_asm); (case F => k_asm); (case X => k_asm); (case N => k_asm); (case T => k_asm); (case hk => first | assumption | exact rfl); (case hp => kcf_m); (case hd => (first | decide +kernel | ktr_room)); (case hu => (first | decide +kernel | ktr_units))); (intro r' h' tk' e' F' N'; subst e'; (try dsimp only))))
local macro_rules | `(tactic| walk_at "call ref") => `(tactic| (k_here; (with_reducible show wpAny _ _ (call (Value.ref _) [Value.int _ _]) _ _ _); k_dflt (refine' Draw.use (by with_reducible assumption) ?p0 ?p6 ?F ?N ?S ?_; (case p0 => omega); (case p6 => omega); (case F => k_asm); (case N => k_asm); (case S => first | kcf_all | kcj_all); k_whole); intro n t' h' tk' F' N'; (try dsimp only); (try k_sweep)))
local macro_rules | `(tactic| walk_at "callWith ref") => `(tactic| (k_here; k_dflt (refine' callWith_F ?k1 ?_; (case k1 => exact FnAt.of (by k_asm) (by k_mem)); k_whole)))
local macro_rules | `(tactic| walk_at "HeadEnd") => `(tactic| (k_dflt (refine' HeadEnd.intro ?F ?N ?j ?e ?b; (case F => k_asm); (case N => first | k_asm | ((refine' cb_drop ?cbN ?cbS; (case cbN => assumption); (case cbS => first | kcf_all | kcj_all)))); (case j => exact ⟨by (first | with_unfolding_all rfl | ((repeat (first | rw [if_pos rfl] | rw [if_neg (by decide)])); done)), by (first | with_unfolding_all rfl | ((repeat (first | rw [if_pos rfl] | rw [if_neg (by decide)])); done)), by (first | with_unfolding_all rfl | ((repeat (first | rw [if_pos rfl] | rw [if_neg (by decide)])); done))⟩); (case e => (first | with_unfolding_all rfl | ((repeat (first | rw [if_pos rfl] | rw [if_neg (by decide)])); done))); (case b => (simp only [fmod_100]; omega)))))
set_option maxHeartbeats 4000000 in
theorem st_1to4 : ∀ (w : World) (mean : ExcName → Option Value) (mg mb : Str → Option Value) (h₀ : Heap) (L fa f c : Nat) (foc : Value) (fod : Option Addr) (fofd : FuncData) (fosl : Array (Option Value)) (co oH oL oD oS tb : Obj) (m : Str → Option Value) (s : Shared) (E : Value → Shared → Prop) (sc : Scope) (body lb : List Stmt) (xx : Unit),
    lawParts = some (sc, body, lb) → Below callerA h₀ [] h₀ → (hd.heap_39 w.params).In h₀ → Top topProg LO mean mg mb h₀ → 149 < L → L + 1 + 1 + 1 + 1 < c → c < f →
    Draw w (callerA.deeper (lawEnv sc L fa)) f h₀ L [(f, (⟨foc, fod, .func fofd, fosl⟩ : Obj)), (c, co), (L + 1, oS), (149, tb)] →
    Fr h₀ L s.heap (fun y => if y = Str.ofString "draw" then some (.ref f) else m y) → News h₀ L s.heap (baseL L f c (⟨foc, fod, .func fofd, fosl⟩ : Obj) co oH oL oD oS tb) →
    wpAny (model Challenge.rw_aq6015_01.row.prog w) (callerA.deeper (lawEnv sc L fa)) (execs ((body.drop 1).take 4) (lawEnv sc L fa))
      (HeadEnd h₀ L f (baseL L f c (⟨foc, fod, .func fofd, fosl⟩ : Obj) co oH oL oD oS tb) s) (fun _ _ => False) s := by
  k_fill
  intro w mean mg mb h₀ L fa f c foc fod fofd fosl co oH oL oD oS tb m s E sc body lb xx hp K' X' T' l0 l1 l2 D F N
  cases hp
  dsimp only [List.drop, List.take, List.head, lawEnv, baseL] at *
  k_steps
end
section

set_option maxHeartbeats 4000000 in
theorem st_5 : ∀ (w : World) (mean : ExcName → Option Value) (mg mb : Str → Option Value) (h₀ : Heap) (L fa f c : Nat) (foc : Value) (fod : Option Addr) (fofd : FuncData) (fosl : Array (Option Value)) (co oH oL oD oS tb : Obj) (m : Str → Option Value) (s : Shared) (E : Value → Shared → Prop) (sc : Scope) (body lb : List Stmt) (wv : Int) (wt : Tok),
    lawParts = some (sc, body, lb) → Below callerA h₀ [] h₀ → (hd.heap_39 w.params).In h₀ → Top topProg LO mean mg mb h₀ → 149 < L → L + 1 + 1 + 1 + 1 < c → c < f →
    Fr h₀ L s.heap (fun y => if y = Str.ofString "wide" then some (.int wv wt) else m y) → News h₀ L s.heap (baseL L f c (⟨foc, fod, .func fofd, fosl⟩ : Obj) co oH oL oD oS tb) →
    wpAny (model Challenge.rw_aq6015_01.row.prog w) (callerA.deeper (lawEnv sc L fa)) (execs ((body.drop 5).take 1) (lawEnv sc L fa))
      (WideEnd h₀ L (fun y => if y = Str.ofString "wide" then some (.int wv wt) else m y) (baseL L f c (⟨foc, fod, .func fofd, fosl⟩ : Obj) co oH oL oD oS tb) s) (fun _ _ => False) s := by
  k_fill
  intro w mean mg mb h₀ L fa f c foc fod fofd fosl co oH oL oD oS tb m s E sc body lb wv wt hp K' X' T' l0 l1 l2  F N
  cases hp
  dsimp only [List.drop, List.take, List.head, lawEnv, baseL] at *
  k_steps
  all_goals first
    | exact WideEnd.new (fit_mod _) (by k_asm) (by k_asm)
    | exact WideEnd.old (fit_mid (by assumption) (by assumption)) rfl (by k_asm) (by k_asm)
end
end Mine
end
theorem Mine.resetAqB12 : True := by
  w_top off
  first | walk1 | exact trivial
section
open PySem PySem.W PySem.Spec PySem.Calls PyProof.Rows
set_option Elab.async false
set_option maxRecDepth 100000
namespace Mine
/-- a value with P, and all is as it was -/
def PEnd {α : Type} (P : α → Prop) (h₀ : Heap) (L : Addr) (m : Str → Option Value) (news : List (Addr × Obj)) (s : Shared) (a : α) (s' : Shared) : Prop := P a ∧ ∃ h' tk', s' = { s with heap := h', toks := tk' } ∧ Fr h₀ L h' m ∧ News h₀ L h' news
theorem PEnd.intro {α : Type} {P : α → Prop} {h₀ : Heap} {L : Addr} {m : Str → Option Value} {news : List (Addr × Obj)} {s : Shared} {a : α} {h' : Heap} {tk' : Nat} (F' : Fr h₀ L h' m) (N' : News h₀ L h' news) (p : P a) : PEnd P h₀ L m news s a { s with heap := h', toks := tk' } := ⟨p, h', tk', rfl, F', N'⟩
section
local macro_rules | `(tactic| walk_at "PEnd") => `(tactic| (k_dflt (refine' PEnd.intro ?F ?N ?p; (case F => k_asm); (case N => first | k_asm | ((refine' cb_drop ?cbN ?cbS; (case cbN => assumption); (case cbS => first | kcf_all | kcj_all)))); (case p => first | exact rfl | exact ⟨_, rfl⟩))))
local macro_rules | `(tactic| walk_at "call ref") => `(tactic| (k_here; (with_reducible show wpAny _ _ (call (Value.ref 135) [Value.int 0 _, _]) _ _ _); k_dflt (refine' CtrT.use (refused_0 _ _ _ _ _) ?B ?F ?X ?N ?T ?hk ?hp ?_; (case B => k_asm); (case F => k_asm); (case X => k_asm); (case N => k_asm); (case T => k_asm); (case hk => first | assumption | exact rfl); (case hp => first | exact isa_bytes _ _ _ _ | exact isa_str _ _ _ _ | exact isa_int _ _ _ _ | exact isa_none _ _ | exact isa_intI _ _ _ _ | exact isa_strI _ _ _ _ | (refine' isa_bytearray _ _ _ _ ?im ?ic; (case im => k_mem); (case ic => assumption)) | (refine' isa_list _ _ _ _ ?im ?ic; (case im => k_mem); (case ic => rfl)))); (intro r' h' tk' hr' F' N'; subst hr'; (try dsimp only); (try simp only [Bool.not_true, Bool.not_false]))))
local macro_rules | `(tactic| walk_at "call ref") => `(tactic| (k_here; (with_reducible show wpAny _ _ (call (Value.ref 135) [Value.int 1 _, _]) _ _ _); k_dflt (refine' CtrT.use (refused_1 _ _ _ _ _) ?B ?F ?X ?N ?T ?hk ?hp ?_; (case B => k_asm); (case F => k_asm); (case X => k_asm); (case N => k_asm); (case T => k_asm); (case hk => first | assumption | exact rfl); (case hp => first | exact isa_bytes _ _ _ _ | exact isa_str _ _ _ _ | exact isa_int _ _ _ _ | exact isa_none _ _ | exact isa_intI _ _ _ _ | exact isa_strI _ _ _ _ | (refine' isa_bytearray _ _ _ _ ?im ?ic; (case im => k_mem); (case ic => assumption)) | (refine' isa_list _ _ _ _ ?im ?ic; (case im => k_mem); (case ic => rfl)))); (intro r' h' tk' hr' F' N'; subst hr'; (try dsimp only); (try simp only [Bool.not_true, Bool.not_false]))))
local macro_rules | `(tactic| walk_at "call ref") => `(tactic| (k_here; (with_reducible show wpAny _ _ (call (Value.ref 128) [Value.int 1 _, _, _, _, _]) _ _ _); k_dflt (refine' CtrT.use (ranged_1 _ _ _ _ _ _ _ _ _ _ _ ?K ?n ?l ?h) ?B ?F ?X ?N ?T ?hk ?hp ?_; (case K => with_reducible assumption); (case n => decide +kernel); (case l => first | decide | omega); (case h => first | decide | omega); (case B => k_asm); (case F => k_asm); (case X => k_asm); (case N => k_asm); (case T => k_asm); (case hk => first | assumption | exact rfl); (case hp => exact says_all (by with_reducible assumption))); (intro r' h' tk' hr' F' N'; (try dsimp only); (have hr9' := Cond.mk hr'); clear hr'; (try (k_dflt (have hq9' := Cond.yes hr9' (by decide); subst hq9'))))))
local macro_rules | `(tactic| walk_at "eval Name") => `(tactic| (k_here; (with_reducible show wpAny _ _ (eval (Expr.Name (Str.ofString "bytearray") _) _) _ _ _); k_dflt (refine' nameX_B (v := .type "bytearray") ?F ?X ?T ?e PyProof.Rows.Boot.«bytearray» ?n ?_; (case F => k_asm); (case X => k_asm); (case T => k_asm); (case e => k_is); (case n => decide); k_whole)))
set_option maxHeartbeats 4000000 in
theorem st_7 : ∀ (w : World) (mean : ExcName → Option Value) (mg mb : Str → Option Value) (h₀ : Heap) (L fa f c : Nat) (foc : Value) (fod : Option Addr) (fofd : FuncData) (fosl : Array (Option Value)) (co oH oL oD oS tb : Obj) (m : Str → Option Value) (s : Shared) (E : Value → Shared → Prop) (sc : Scope) (body lb : List Stmt) (lv hv : Int) (tm tl : Tok),
    lawParts = some (sc, body, lb) → Below callerA h₀ [] h₀ → (hd.heap_39 w.params).In h₀ → Top topProg LO mean mg mb h₀ → 149 < L → L + 1 + 1 + 1 + 1 < c → c < f →
    LawJ lv hv tl tm f m →
    Fr h₀ L s.heap m → News h₀ L s.heap (baseL L f c (⟨foc, fod, .func fofd, fosl⟩ : Obj) co oH oL oD oS tb) →
    wpG (model Challenge.rw_aq6015_01.row.prog w) (callerA.deeper (lawEnv sc L fa)) (execs ((body.drop 7).take 1) (lawEnv sc L fa))
      (LawEnd h₀ L f (baseL L f c (⟨foc, fod, .func fofd, fosl⟩ : Obj) co oH oL oD oS tb) lv hv tl tm s) (fun _ _ => False) s := by
  k_fill
  intro w mean mg mb h₀ L fa f c foc fod fofd fosl co oH oL oD oS tb m s E sc body lb lv hv tm tl hp K' X' T' l0 l1 l2 j F N
  cases hp
  dsimp only [List.drop, List.take, List.head, lawEnv, baseL] at *
  have hKT := kind_bool w true
  have hST : ∀ news, Says w news (.bool true) "True" := fun _ => says_bool true
  refine G.execs_cons (G.If (G.isTrue_BoolOp (G.or_cons ?_)))
  refine G.mono (G.any (Q := PEnd (fun b => b = false) h₀ L m (baseL L f c (⟨foc, fod, .func fofd, fosl⟩ : Obj) co oH oL oD oS tb) s) ?a1) (fun b s' h => ?_) (fun _ _ x => x)
  case a1 =>
    dsimp only [baseL]
    k_steps
  obtain ⟨rfl, h1, k1, rfl, F1, N1⟩ := h
  clear F N
  simp only [Bool.false_eq_true, if_false]
  refine G.or_cons ?_
  refine G.mono (G.any (Q := PEnd (fun b => b = false) h₀ L m (baseL L f c (⟨foc, fod, .func fofd, fosl⟩ : Obj) co oH oL oD oS tb) { s with heap := h1, toks := k1 }) ?a2) (fun b s' h => ?_) (fun _ _ x => x)
  case a2 =>
    dsimp only [baseL] at *
    k_steps
  obtain ⟨rfl, h2, k2, rfl, F2, N2⟩ := h
  clear F1 N1
  simp only [Bool.false_eq_true, if_false]
  refine G.or_cons ?_
  refine G.isTrue_value (G.call2 (a := 135) ?_)
  refine G.mono (G.any (Q := PEnd (fun v => v = Value.ref 135) h₀ L m (baseL L f c (⟨foc, fod, .func fofd, fosl⟩ : Obj) co oH oL oD oS tb) { s with heap := h2, toks := k2 }) ?a3) (fun b s' h => ?_) (fun _ _ x => x)
  case a3 =>
    dsimp only [baseL] at *
    k_steps
  obtain ⟨rfl, h3, k3, rfl, F3, N3⟩ := h
  refine ⟨rfl, ?_⟩
  clear F2 N2
  refine G.mono (G.any (Q := PEnd (fun v => ∃ t, v = Value.int 1 t) h₀ L m (baseL L f c (⟨foc, fod, .func fofd, fosl⟩ : Obj) co oH oL oD oS tb) { s with heap := h3, toks := k3 }) ?a4) (fun b s' h => ?_) (fun _ _ x => x)
  case a4 =>
    dsimp only [baseL] at *
    k_steps
  obtain ⟨⟨t4, rfl⟩, h4, k4, rfl, F4, N4⟩ := h
  clear F3 N3
  refine G.callT (T := "bytearray") ?_
  refine G.mono (G.any (Q := PEnd (fun v => v = Value.type "bytearray") h₀ L m (baseL L f c (⟨foc, fod, .func fofd, fosl⟩ : Obj) co oH oL oD oS tb) { s with heap := h4, toks := k4 }) ?a5) (fun b s' h => ?_) (fun _ _ x => x)
  case a5 =>
    dsimp only [baseL] at *
    k_steps
  obtain ⟨rfl, h5, k5, rfl, F5, N5⟩ := h
  refine ⟨rfl, ?_⟩
  clear F4 N4
  refine G.mono (G.any (Q := PEnd (fun v => ∃ t, v = Value.bytes #[97] t) h₀ L m (baseL L f c (⟨foc, fod, .func fofd, fosl⟩ : Obj) co oH oL oD oS tb) { s with heap := h5, toks := k5 }) ?a6) (fun b s' h => ?_) (fun _ _ x => x)
  case a6 =>
    dsimp only [baseL] at *
    k_steps
  obtain ⟨⟨t6, rfl⟩, h6, k6, rfl, F6, N6⟩ := h
  clear F5 N5
  refine ba_call (by decide) F6 N6 fun a o h7 hc F7 N7 => ?_
  refine ⟨?f1, ?_⟩
  case f1 =>
    have e := F7.keep _ _ (X' 135 _ (by k_is))
    exact ⟨_, _, e, rfl⟩
  clear F6 N6
  refine G.mono (G.any (Q := PEnd (fun v => v = Value.bool false) h₀ L m (baseL L f c (⟨foc, fod, .func fofd, fosl⟩ : Obj) co oH oL oD oS tb) { s with heap := h7, toks := k6 }) ?a7) (fun b s' h => ?_) (fun _ _ x => x)
  case a7 =>
    dsimp only [baseL] at *
    k_steps
  obtain ⟨rfl, h8, k8, rfl, F8, N8⟩ := h
  refine G.any (wpAny_pure (a := false) ?_)
  simp only [Bool.false_eq_true, if_false]
  refine G.or_nil ?_
  simp only [Bool.false_eq_true, if_false]
  refine G.any (wpAny_execs_nil ?_)
  exact G.any (wpAny_execs_nil (LawEnd.intro F8 N8 j))

end
end Mine
end
theorem Mine.resetAqB13 : True := by
  w_top off
  first | walk1 | exact trivial
section
open PySem PySem.W PySem.Spec PySem.Calls PyProof.Rows
set_option Elab.async false
set_option maxRecDepth 100000
namespace Mine
theorem G.execs_app {M : Model} {A : Around} {env : Env} {a b : List Stmt} {Q : Flow → Shared → Prop} {E : Value → Shared → Prop} {s : Shared} (h : wpG M A (execs a env) (fun fl s' => fl = .next ∧ wpG M A (execs b env) Q E s') E s) : wpG M A (execs (a ++ b) env) Q E s :=
  fun Γ p hΓ hd hg => wp_execs_app (Q := fun f _ s' => Q f s') a p s (Sem.wp_mono M Γ _ (fun f p' s' h' => by obtain ⟨rfl, h'⟩ := h'; exact h' Γ p' hΓ hd hg) (fun _ _ _ h' => h') p s (h Γ p hΓ hd hg))
theorem fr_know4 {h₀ h : Heap} {L : Addr} {m : Str → Option Value} {a b c d : Str} {va vb vc vd : Value} (e : m a = some va) (e2 : m b = some vb) (e3 : m c = some vc) (e4 : m d = some vd) (F : Fr h₀ L h m) : Fr h₀ L h (fun y => if y = a then some va else if y = b then some vb else if y = c then some vc else if y = d then some vd else m y) := by
  simp only [know_eq e4, know_eq e3, know_eq e2, know_eq e]
  exact F
section
local macro_rules | `(tactic| walk_at "PEnd") => `(tactic| (k_dflt (refine' PEnd.intro ?F ?N ?p; (case F => k_asm); (case N => first | k_asm | ((refine' cb_drop ?cbN ?cbS; (case cbN => assumption); (case cbS => first | kcf_all | kcj_all)))); (case p => first | exact rfl | exact ⟨_, rfl⟩))))
set_option maxHeartbeats 4000000 in
theorem st_12 : ∀ (w : World) (mean : ExcName → Option Value) (mg mb : Str → Option Value) (h₀ : Heap) (L fa f c : Nat) (foc : Value) (fod : Option Addr) (fofd : FuncData) (fosl : Array (Option Value)) (co oH oL oD oS tb : Obj) (m : Str → Option Value) (s : Shared) (E : Value → Shared → Prop) (sc : Scope) (body lb : List Stmt) (news : List (Addr × Obj)),
    lawParts = some (sc, body, lb) → Below callerA h₀ [] h₀ → (hd.heap_39 w.params).In h₀ → Top topProg LO mean mg mb h₀ → 149 < L → L + 1 + 1 + 1 + 1 < c → c < f →
    Fr h₀ L s.heap m → News h₀ L s.heap (news) →
    wpAny (model Challenge.rw_aq6015_01.row.prog w) (callerA.deeper (lawEnv sc L fa)) (execs (body.drop 12) (lawEnv sc L fa))
      (PEnd (fun fl => fl = Flow.ret (.bool true)) h₀ L m news s) (fun _ _ => False) s := by
  k_fill
  intro w mean mg mb h₀ L fa f c foc fod fofd fosl co oH oL oD oS tb m s E sc body lb news hp K' X' T' l0 l1 l2  F N
  cases hp
  dsimp only [List.drop, List.take, List.head, lawEnv, baseL] at *
  k_steps
end
theorem law_rest : ∀ (w : World) (mean : ExcName → Option Value) (mg mb : Str → Option Value) (h₀ : Heap) (L fa f c : Nat) (foc : Value) (fod : Option Addr) (fofd : FuncData) (fosl : Array (Option Value)) (co oH oL oD oS tb : Obj) (m : Str → Option Value) (s : Shared) (E : Value → Shared → Prop) (sc : Scope) (body lb : List Stmt) (xH xL xD : Option Value) (Q : Flow → Shared → Prop),
    lawParts = some (sc, body, lb) → Below callerA h₀ [] h₀ → (hd.heap_39 w.params).In h₀ → Top topProg LO mean mg mb h₀ → 149 < L → L + 1 + 1 + 1 + 1 < c → c < f → CodeHd h₀ 151 149 → oH.data = .cell xH → oL.data = .cell xL → oD.data = .cell xD → Draw w (callerA.deeper (lawEnv sc L fa)) f h₀ L [(f, (⟨foc, fod, .func fofd, fosl⟩ : Obj)), (c, co), (L + 1, oS), (149, tb)] → m (Str.ofString "draw") = some (.ref f) →
    Fr h₀ L s.heap m → News h₀ L s.heap (baseL L f c (⟨foc, fod, .func fofd, fosl⟩ : Obj) co oH oL oD oS tb) →
    (∀ (h' : Heap) (tk' : Nat) (m' : Str → Option Value) (oH oL oD : Obj), Fr h₀ L h' m' → News h₀ L h' (baseL L f c (⟨foc, fod, .func fofd, fosl⟩ : Obj) co oH oL oD oS tb) → Q (.ret (.bool true)) { s with heap := h', toks := tk' }) →
    wpG (model Challenge.rw_aq6015_01.row.prog w) (callerA.deeper (lawEnv sc L fa)) (execs (body.drop 1) (lawEnv sc L fa)) Q (fun _ _ => False) s := by
  intro w mean mg mb h₀ L fa f c foc fod fofd fosl co oH oL oD oS tb m s E sc body lb xH xL xD Q hp K' X' T' l0 l1 l2 ch dH dL dD D ed F N hq
  have e : body.drop 1 = (body.drop 1).take 4 ++ ((body.drop 5).take 1 ++ ((body.drop 6).take 1 ++ ((body.drop 7).take 1 ++ ((body.drop 8).take 1 ++ ((body.drop 9).take 1 ++ ((body.drop 10).take 1 ++ ((body.drop 11).take 1 ++ body.drop 12))))))) := by cases hp; rfl
  rw [e]
  refine G.execs_app (G.mono (G.any (st_1to4 _ _ _ _ _ _ _ _ _ _ _ _ _ _ _ _ _ _ _ _ _ E _ _ _ () hp K' X' T' l0 l1 l2 D (fr_know ed F) N)) (fun fl s' h => ?_) fun _ _ x => x)
  obtain ⟨rfl, h1, k1, m1, lv, hv, wv, tl, tm, wt, rfl, ⟨b1, b2, b3, b4⟩, j1, e1, F1, N1⟩ := h
  refine ⟨rfl, ?_⟩
  clear F N
  refine G.execs_app (G.mono (G.any (st_5 _ _ _ _ _ _ _ _ _ _ _ _ _ _ _ _ _ _ _ _ _ E _ _ _ _ _ hp K' X' T' l0 l1 l2 (fr_know e1 F1) N1)) (fun fl s' h => ?_) fun _ _ x => x)
  obtain ⟨rfl, v2, t2, h2, k2, fit, rfl, F2, N2⟩ := h
  refine ⟨rfl, ?_⟩
  have F2 := fr_back1 e1 F2
  have j2 : LawJ lv hv tl tm f (fun y => if y = Str.ofString "wide" then some (.int v2 t2) else m1 y) := j1.set (by decide)
  have e2 : (fun y => if y = Str.ofString "wide" then some (Value.int v2 t2) else m1 y) (Str.ofString "wide") = some (.int v2 t2) := set_this
  revert F2 j2 e2
  generalize (fun y => if y = Str.ofString "wide" then some (Value.int v2 t2) else m1 y) = m2
  intro F2 j2 e2
  clear F1 N1 j1 e1
  refine G.execs_app (G.mono (G.any (st_6 _ _ _ _ _ _ _ _ _ _ _ _ _ _ _ _ _ _ _ _ _ E _ _ _ _ _ _ _ _ _ hp K' X' T' l0 l1 l2 b1 b2 b3 b4 fit (fr_know4 e2 j2.2.1 j2.1 j2.2.2 F2) N2)) (fun fl s' h => ?_) fun _ _ x => x)
  obtain ⟨rfl, h3, k3, m3, rfl, j3, F3, N3⟩ := h
  refine ⟨rfl, ?_⟩
  clear F2 N2 j2 e2
  refine G.execs_app (G.mono (st_7 _ _ _ _ _ _ _ _ _ _ _ _ _ _ _ _ _ _ _ _ _ E _ _ _ _ _ _ _ hp K' X' T' l0 l1 l2 j3 F3 N3) (fun fl s' h => ?_) fun _ _ x => x)
  obtain ⟨rfl, h4, k4, m4, rfl, j4, F4, N4⟩ := h
  refine ⟨rfl, ?_⟩
  clear F3 N3 j3
  refine G.execs_app (G.mono (G.any (st_8 _ _ _ _ _ _ _ _ _ _ _ _ _ _ _ _ _ _ _ _ _ E _ _ _ _ _ _ _ hp K' X' T' l0 l1 l2 j4 F4 N4)) (fun fl s' h => ?_) fun _ _ x => x)
  obtain ⟨rfl, h5, k5, m5, rfl, j5, F5, N5⟩ := h
  refine ⟨rfl, ?_⟩
  clear F4 N4 j4
  refine G.execs_app (G.mono (G.any (st_9 _ _ _ _ _ _ _ _ _ _ _ _ _ _ _ _ _ _ _ _ _ E _ _ _ _ _ _ _ hp K' X' T' l0 l1 l2 j5 F5 N5)) (fun fl s' h => ?_) fun _ _ x => x)
  obtain ⟨rfl, h6, k6, m6, rfl, j6, F6, N6⟩ := h
  refine ⟨rfl, ?_⟩
  clear F5 N5 j5
  refine G.execs_app (G.mono (G.any (st_10 _ _ _ _ _ _ _ _ _ _ _ _ _ _ _ _ _ _ _ _ _ E _ _ _ _ _ _ _ hp K' X' T' l0 l1 l2 j6 F6 N6)) (fun fl s' h => ?_) fun _ _ x => x)
  obtain ⟨rfl, h7, k7, m7, rfl, j7, F7, N7⟩ := h
  refine ⟨rfl, ?_⟩
  clear F6 N6 j6
  refine G.execs_app (G.mono (G.any (st_loop _ _ _ _ _ _ _ _ _ _ _ _ _ _ _ _ _ _ _ _ _ E _ _ _ _ _ _ _ _ _ _ hp K' X' T' l0 l1 l2 ch dH dL dD b1 b2 b3 b4 D j7 F7 N7)) (fun fl s' h => ?_) fun _ _ x => x)
  obtain ⟨rfl, h8, k8, m8, oH8, oL8, oD8, rfl, j8, F8, N8⟩ := h
  refine ⟨rfl, ?_⟩
  clear F7 N7 j7
  refine G.mono (G.any (st_12 w mean mg mb h₀ L fa f c foc fod fofd fosl co oH oL oD oS tb m8 _ E sc body lb _ hp K' X' T' l0 l1 l2 F8 N8)) (fun fl s' h => ?_) fun _ _ x => x
  obtain ⟨rfl, h9, k9, rfl, F9, N9⟩ := h
  exact hq h9 k9 m8 oH8 oL8 oD8 F9 N9
theorem law_restU {w : World} {mean : ExcName → Option Value} {mg mb : Str → Option Value} {h₀ : Heap} {L fa f c : Nat} {foc : Value} {fod : Option Addr} {fofd : FuncData} {fosl : Array (Option Value)} {co oH oL oD oS tb : Obj} {m : Str → Option Value} {s : Shared} {sc : Scope} {body lb rest : List Stmt} {xH xL xD : Option Value} {Q : Flow → Shared → Prop} (hp : lawParts = some (sc, body, lb)) (hr : body.drop 1 = rest) (K' : Below callerA h₀ [] h₀) (X' : (hd.heap_39 w.params).In h₀) (T' : Top topProg LO mean mg mb h₀) (l0 : 149 < L) (l1 : L + 1 + 1 + 1 + 1 < c) (l2 : c < f) (ch : CodeHd h₀ 151 149)
    (F : Fr h₀ L s.heap m) (N : News h₀ L s.heap [(f, (⟨foc, fod, .func fofd, fosl⟩ : Obj)), (c, co), (L + 1 + 1 + 1 + 1, oH), (L + 1 + 1 + 1, oL), (L + 1 + 1, oD), (L + 1, oS), (149, tb)]) (dH : oH.data = .cell xH) (dL : oL.data = .cell xL) (dD : oD.data = .cell xD) (D : Draw w (callerA.deeper (lawEnv sc L fa)) f h₀ L [(f, (⟨foc, fod, .func fofd, fosl⟩ : Obj)), (c, co), (L + 1, oS), (149, tb)]) (ed : m (Str.ofString "draw") = some (.ref f))
    (hq : ∀ (h' : Heap) (tk' : Nat) (m' : Str → Option Value) (oH oL oD : Obj), Fr h₀ L h' m' → News h₀ L h' [(f, (⟨foc, fod, .func fofd, fosl⟩ : Obj)), (c, co), (L + 1 + 1 + 1 + 1, oH), (L + 1 + 1 + 1, oL), (L + 1 + 1, oD), (L + 1, oS), (149, tb)] → Q (.ret (.bool true)) { s with heap := h', toks := tk' }) :
    wpG (model Challenge.rw_aq6015_01.row.prog w) (callerA.deeper (envOfC (Str.ofString "law") sc L fa (.ref 151))) (execs rest (envOfC (Str.ofString "law") sc L fa (.ref 151))) Q (fun _ _ => False) s := by
  subst hr
  exact law_rest w mean mg mb h₀ L fa f c foc fod fofd fosl co oH oL oD oS tb m s (fun _ _ => False) sc body lb xH xL xD Q hp K' X' T' l0 l1 l2 ch dH dL dD D ed F N hq
theorem Draw.cutG {w : World} {A : Around} {f : Addr} {fo : Obj} {b c d e g n : Addr × Obj} {h₀ : Heap} {L : Addr} {t : Sem Flow} {m : Str → Option Value} {s : Shared} {Q : Flow → Shared → Prop} {E : Value → Shared → Prop} (_F : Fr h₀ L s.heap m) (_N : News h₀ L s.heap [(f, fo), b, c, d, e, g, n]) (D : Draw w A f h₀ L [(f, fo), b, g, n])
    (rest : Draw w A f h₀ L [(f, fo), b, g, n] → wpG (model PR w) A t Q E s) : wpG (model PR w) A t Q E s := rest D
end Mine
end
theorem Mine.resetAqFin : True := by
  w_top off
  first | walk1 | exact trivial
section
open PySem PySem.W PySem.Spec PySem.Calls PyProof.Rows
set_option Elab.async false
set_option maxRecDepth 100000
namespace Mine
set_option maxHeartbeats 8000000 in
theorem final : Challenge.rw_aq6015_01.Holds := hd (by
  k_fill
  intro w s₀ s₁ mg mb GG Y fa o pm cd doc dV kV ho hdt hcd hD hmg hg args vals as hpre hlay hrd hwl hlo
  have KX := km_in_of Y
  km_tabs Y
  have X := (Ground.X GG).1
  have V := (Ground.X GG).2
  refine Ground.open GG ?_
  intro T B D TE TW
  try (refine guard_noD D (by decide +kernel) ?_; clear D)
  km_lay T hmg ho hdt cd
  clear hmg
  wrow_args hpre hlay hrd hwl hlo
  refine enter_callG ?_
  w_top on
  refine kn_postG hT9 (fun _ _ => rfl) ?_
  have he := Dflts.none hD rfl
  subst he
  have he := Dflts.noKw hD
  subst he
  refine G.call_cells (by decide) ho (fd_plain hdt) (Top.nolimit T) hcd rfl (kinds_of (by kinds_ok)) (by decide) fun h₁ tk₁ cells F N0 X0 => ?_
  cells_open X0
  clear hdt
  kn_ghosts F T
  k_drop
  refine G.execs_cons (G.any ?_)
  (try k_fold)
  k_steps
  refine' Draw.cutG ?F ?N ?D ?rest
  case F => k_asm
  case N => k_asm
  case D =>
    intro p t m news s Q E hp0 hp6 F9 N9 hs hret
    have N8 := news_join hs N9
    simp only [List.cons_append, List.nil_append] at N8
    clear N9
    k_steps
    all_goals (refine hret _ _ _ _ (by k_asm) ?_; refine' cb_drop ?N ?S; (case N => assumption); (case S => kcf_all))
  case rest =>
    intro D
    have hp := (rfl : lawParts = some (_, _, _))
    refine' law_restU hp ?hr ?K ?X ?T ?l0 ?l1 ?l2 ?ch ?F ?N ?dH ?dL ?dD ?D ?ed ?hq
    case N => k_asm
    case F => k_asm
    case hr => exact rfl
    case K => with_reducible assumption
    case X => with_reducible assumption
    case T => with_reducible assumption
    case l0 => omega
    case l1 => omega
    case l2 => omega
    case ch => assumption
    case D => assumption
    case dH => assumption
    case dL => assumption
    case dD => assumption
    case ed => (first | with_unfolding_all rfl | ((repeat (first | rw [if_pos rfl] | rw [if_neg (by decide)])); done))
    case hq =>
      intro h9 tk9 m9 oH9 oL9 oD9 F9 N9
      show _ ∧ _
      dsimp only
      k_steps
  )
end Mine
end
set_option maxRecDepth 100000 in
theorem PySem.Challenge.cw_aq6015_01_holds : PySem.Challenge.rw_aq6015_01.Holds := by
  exact Mine.final
