import PyProof.Rows.All
import Wide.All
import OpenK.AllK
import Wide.FinOn
import PySem.Challenge.RW_dm0193_01

-- part Top01
open PySem PySem.W PyProof.Rows
set_option Elab.async false
set_option maxRecDepth 100000
set_option maxHeartbeats 8000000
namespace Mine
open_top hd for PySem.Challenge.rw_dm0193_01
end Mine

-- part Cm1
open PySem PySem.W PyProof.Rows PySem.Calls
set_option Elab.async false
set_option maxRecDepth 100000
set_option maxHeartbeats 8000000
namespace Mine
open PySem.Builtin PySem.Builtin.Str

abbrev Keeps (h h' : Heap) : Prop := ∀ b o, h.get? b = some o → h'.get? b = some o

/-- the right bound of a search -/
def hiOf (len : Nat) (p : Int) : Nat := min (max 0 (if p < 0 then p + len else p)).toNat len
def cnt (x y : Str) (p : Int) : Int := ((occurrences x y 0 (hiOf x.length p) (x.length + 1)).length : Int)
def rfd (x y : Str) (p : Int) : Int := match lastOccurrence x y 0 (hiOf x.length p) with | some i => (i : Int) | none => -1

theorem gives_count4 (x y : Str) (p : Int) (t u v z : Tok) : Gives («str.count» ⟨[.str x t, .str y u, .int 0 v, .int p z], []⟩) (.int (cnt x y p)) := by
  show Gives (retInt (occurrences x y 0 (hiOf x.length p) (x.length + 1)).length) _
  exact .of_eq rfl
theorem gives_rfind4 (x y : Str) (p : Int) (t u v z : Tok) : Gives («str.rfind» ⟨[.str x t, .str y u, .int 0 v, .int p z], []⟩) (.int (rfd x y p)) := by
  show Gives (match lastOccurrence x y 0 (hiOf x.length p) with | some k => retInt k | none => (do rule "str.rfind.not-found"; retInt (-1))) _
  unfold rfd
  cases lastOccurrence x y 0 (hiOf x.length p) with
  | none => exact .rule (.of_eq rfl)
  | some k => exact .of_eq rfl
section
variable {prog : Program} {w : World} {A : Around} {E : Value → Shared → Prop} {s : Shared} {x y : Str} {t u v z : Tok} {p : Int} {Q : Value → Shared → Prop}
theorem call_count4 (hq : Q (.int (cnt x y p) s.toks) { s with toks := s.toks + 1 }) : wpAny (model prog w) A (call (.builtin "str.count") [.str x t, .str y u, .int 0 v, .int p z]) Q E s :=
  call_gives F.slot_str_count (typeIs_str _ _ _) F.entry_str_count (F.args_str_count_4 _ _ _ _) (gives_count4 x y p t u v z) hq
theorem call_rfind4 (hq : Q (.int (rfd x y p) s.toks) { s with toks := s.toks + 1 }) : wpAny (model prog w) A (call (.builtin "str.rfind") [.str x t, .str y u, .int 0 v, .int p z]) Q E s :=
  call_gives F.slot_str_rfind (typeIs_str _ _ _) F.entry_str_rfind (F.args_str_rfind_4 _ _ _ _) (gives_rfind4 x y p t u v z) hq
end

/-- the text of an int -/
def intS (n : Int) : Str := Str.ofString (toString n)

def wordsOf (msg : Str) (l c p : Int) : Str := msg ++ Str.ofString ": line " ++ intS l ++ Str.ofString " column " ++ intS c ++ Str.ofString " (char " ++ intS p ++ Str.ofString ")"

theorem intS_len {n : Int} (h : n.natAbs.log2 < 1920) : (intS n).length ≤ 2000 := by
  have e := int_text_length_le (k := 1920) (by decide) h
  unfold intS
  rw [PySem.ofString_length]; omega

theorem intS_cps (n : Int) : (intS n).cps.toList = (toString n).toList.map Char.toNat := by
  unfold intS; rw [Str.ofString_eq_toList]
theorem toString_neg {n : Int} (hn : n < 0) : toString n = "-" ++ toString ((n.natAbs : Nat) : Int) := by
  obtain ⟨k, rfl⟩ : ∃ k : Nat, n = Int.negSucc k := by
    cases n with
    | ofNat a => exact absurd hn (by have := Int.natCast_nonneg a; simp only [Int.ofNat_eq_natCast]; omega)
    | negSucc k => exact ⟨k, rfl⟩
  rfl
theorem percentInt_text (c : Percent) (h1 : c.alt = false) (h2 : c.type = 100) (h3 : c.prec = none) (n : Int) :
    percentInt c (decide (n < 0)) (intS ((n.natAbs : Nat) : Int)).cps.toList = (intS n).cps.toList := by
  unfold percentInt
  by_cases hn : n < 0
  · simp only [intS_cps, toString_neg hn]
    simp [h1, h2, h3, hn]
  · have en : ((n.natAbs : Nat) : Int) = n := Int.natAbs_of_nonneg (by omega)
    simp [h1, h2, h3, hn, en]

section
variable {M : Model} {A : Around} {E : Value → Shared → Prop} {s : Shared} {l : List Nat} {p : List Value} {r : List Nat}
  {f : Nat → List Value × Writer × List Nat → Sem (ForInStep (List Value × Writer × List Nat))} {Q : List Value × Writer × List Nat → Shared → Prop}
  {w : Writer} {T : PySem.Str} {N : Nat} {o : Option Value}
theorem after_intAny {c : Percent} {n : Int} {d : List Nat} (g : KPc.Good w T N) (h1 : c.alt = false) (h2 : c.type = 100) (h3 : c.prec = none) (hn : n.natAbs.log2 < 1920)
    (hd : d = (PySem.Str.ofString (toString ((n.natAbs : Nat) : Int))).cps.toList) (ho : o = none) (h : ∀ w', KPc.Good w' (T ++ intS n) (N + 2000) → wpAny M A (forIn l (p, w', r) f) Q E s) :
    wpAny M A (forIn l (p, w.add ⟨(percentInt c (decide (n < 0)) d).toArray⟩ o, r) f) Q E s := by
  rw [hd]
  rw [show (PySem.Str.ofString (toString ((n.natAbs : Nat) : Int))) = intS ((n.natAbs : Nat) : Int) from rfl, percentInt_text c h1 h2 h3]
  exact KPc.after_str g (intS_len hn) (KPc.obj_none ho) h
end

theorem meets_words {b : Addr} {msg : Str} {l c p : Int} {t t1 t2 t3 t4 : Tok} (hm : msg.length ≤ 1000000) (hl : l.natAbs.log2 < 1920) (hc : c.natAbs.log2 < 1920) (hp : p.natAbs.log2 < 1920) :
    Meets («str.__mod__» ⟨[.str (Str.mk #[37, 115, 58, 32, 108, 105, 110, 101, 32, 37, 100, 32, 99, 111, 108, 117, 109, 110, 32, 37, 100, 32, 40, 99, 104, 97, 114, 32, 37, 100, 41]) t, .ref b], []⟩)
      (fun _ R s => IsTup s.heap b #[.str msg t1, .int l t2, .int c t3, .int p t4] ∧ ∀ t' k, R (.ok (.ret (.str (wordsOf msg l c p) t'))) { s with toks := k }) := by
  apply KPt.meets_tup
  intro _ _ _ _ _ _ kptH hfin
  obtain ⟨kptO, kptG, kptC, kptN, kptD⟩ := kptH
  rw [KPt.entry_is_r]
  unfold Builtin.Str.percentFormat
  refine wpAny_bind (wpAny_isInstance (T := "tuple") ⟨kptO, kptG, kptC⟩ KPt.sub_tt ?_)
  refine wpAny_bind (KPt.asStr_ref kptG kptD ?_)
  refine wpAny_bind (KPt.fills_ref ⟨kptO, kptG, kptC⟩ ?_)
  intro _
  kpc_if
  refine wpAny_bind (wpAny_seqItems kptG kptD ?_)
  refine wpAny_bind (wpAny_pure ?_)
  refine wpAny_bind ?_
  rw [KPc.range_list]
  refine KPc.start ?_
  intro _ _
  -- %s
  refine KPc.turn ?_; kpc_check; (repeat kpc_if)
  refine wpAny_bind ?_; refine wpAny_holding ?_; (repeat kpc_if)
  refine wpAny_bind ?_; kpc_if; refine wpAny_of_eq (KPc.strOf_str _ _) ?_; refine wpAny_bind (wpAny_of_eq (a := some _) rfl ?_)
  refine wpAny_pure ?_; refine wpAny_pure ?_
  refine KPc.after_str0 (by kpc_g) hm (by kpc_obj) ?_; intro _ _
  -- ": line "
  refine KPc.turn ?_; kpc_check; (repeat kpc_if)
  refine wpAny_pure ?_; refine KPc.after_add (by kpc_g) (by kpc_text) (by kpc_obj) ?_; intro _ _
  -- %d
  refine KPc.turn ?_; kpc_check; (repeat kpc_if)
  refine wpAny_bind ?_; refine wpAny_holding ?_; (repeat kpc_if)
  refine wpAny_bind (wpAny_of_eq (a := _) rfl ?_); (repeat kpc_if)
  refine wpAny_bind (wpAny_mkInt ?_)
  refine wpAny_bind (call_gives F.slot_int_repr (typeIs_int _ _ _) F.entry_int_repr (F.args_int_repr_1 _) (gives_int_repr _ _ (KPt.hd2 hl)) ⟨int_text_fits (KPt.hd2 hl), ?_⟩)
  refine wpAny_bind (wpAny_of_eq (a := some _) rfl ?_)
  refine wpAny_pure ?_; refine wpAny_pure ?_
  refine after_intAny (by kpc_g) rfl rfl rfl hl rfl (by kpc_none) ?_; intro _ _
  -- " column "
  refine KPc.turn ?_; kpc_check; (repeat kpc_if)
  refine wpAny_pure ?_; refine KPc.after_add (by kpc_g) (by kpc_text) (by kpc_obj) ?_; intro _ _
  -- %d
  refine KPc.turn ?_; kpc_check; (repeat kpc_if)
  refine wpAny_bind ?_; refine wpAny_holding ?_; (repeat kpc_if)
  refine wpAny_bind (wpAny_of_eq (a := _) rfl ?_); (repeat kpc_if)
  refine wpAny_bind (wpAny_mkInt ?_)
  refine wpAny_bind (call_gives F.slot_int_repr (typeIs_int _ _ _) F.entry_int_repr (F.args_int_repr_1 _) (gives_int_repr _ _ (KPt.hd2 hc)) ⟨int_text_fits (KPt.hd2 hc), ?_⟩)
  refine wpAny_bind (wpAny_of_eq (a := some _) rfl ?_)
  refine wpAny_pure ?_; refine wpAny_pure ?_
  refine after_intAny (by kpc_g) rfl rfl rfl hc rfl (by kpc_none) ?_; intro _ _
  -- " (char "
  refine KPc.turn ?_; kpc_check; (repeat kpc_if)
  refine wpAny_pure ?_; refine KPc.after_add (by kpc_g) (by kpc_text) (by kpc_obj) ?_; intro _ _
  -- %d
  refine KPc.turn ?_; kpc_check; (repeat kpc_if)
  refine wpAny_bind ?_; refine wpAny_holding ?_; (repeat kpc_if)
  refine wpAny_bind (wpAny_of_eq (a := _) rfl ?_); (repeat kpc_if)
  refine wpAny_bind (wpAny_mkInt ?_)
  refine wpAny_bind (call_gives F.slot_int_repr (typeIs_int _ _ _) F.entry_int_repr (F.args_int_repr_1 _) (gives_int_repr _ _ (KPt.hd2 hp)) ⟨int_text_fits (KPt.hd2 hp), ?_⟩)
  refine wpAny_bind (wpAny_of_eq (a := some _) rfl ?_)
  refine wpAny_pure ?_; refine wpAny_pure ?_
  refine after_intAny (by kpc_g) rfl rfl rfl hp rfl (by kpc_none) ?_; intro _ _
  -- ")"
  refine KPc.turn ?_; kpc_check; (repeat kpc_if)
  refine wpAny_pure ?_; refine KPc.after_add (by kpc_g) (by kpc_text) (by kpc_obj) ?_; intro _ _
  -- the end
  refine KPc.turn ?_; kpc_check; (repeat kpc_if)
  refine wpAny_pure ?_; kpc_if
  refine KPc.finish_ok (by kpc_g) (by decide +kernel) rfl ?_
  exact hfin
section
variable {prog : Program} {w : World} {A : Around} {E : Value → Shared → Prop} {s : Shared} {Q : Value → Shared → Prop} {b : Addr} {msg : Str} {l c p : Int} {t t1 t2 t3 t4 : Tok}
theorem mod_words (ht : IsTup s.heap b #[.str msg t1, .int l t2, .int c t3, .int p t4]) (hm : msg.length ≤ 1000000) (hl : l.natAbs.log2 < 1920) (hc : c.natAbs.log2 < 1920) (hp : p.natAbs.log2 < 1920)
    (h : ∀ t' k, Q (.str (wordsOf msg l c p) t') { s with toks := k }) : wpAny (model prog w) A (binaryOp .Mod (.str (Str.ofString "%s: line %d column %d (char %d)") t) (.ref b)) Q E s := by
  rw [show Str.ofString "%s: line %d column %d (char %d)" = Str.mk #[37, 115, 58, 32, 108, 105, 110, 101, 32, 37, 100, 32, 99, 111, 108, 117, 109, 110, 32, 37, 100, 32, 40, 99, 104, 97, 114, 32, 37, 100, 41] from by decide +kernel]
  have hT : s.TypeIs (.ref b) "tuple" := by
    obtain ⟨o, ho, hc, _⟩ := ht
    exact ⟨o, ho, hc⟩
  exact KPt.bin_left (T := "str") (U := "tuple") (op := .Mod) (by decide) (typeIs_str s _ t) hT F.fills_str_mod KPt.fills_tuple F.slot_str_mod
    (call_meets F.slot_str_mod (typeIs_str s _ t) F.entry_str_mod (F.args_str_mod_2 _ _) (meets_words hm hl hc hp) ⟨ht, fun t' k => ⟨(fun e => nomatch e), h t' k⟩⟩)
end
end Mine

-- part Cm2
open PySem PySem.W PyProof.Rows PySem.Calls
set_option Elab.async false
set_option maxRecDepth 100000
set_option maxHeartbeats 8000000
namespace Mine
open PySem.Builtin PySem.Builtin.ObjectAttr

abbrev vbm : List Value := [.type "ValueError", .type "Exception", .type "BaseException", .type "object"]

/-- what the walk asks of the written part about the error's class -/
structure ErrK (K : Frag) (C : Addr) : Prop where
  cls : ∃ cd, clsIn K C = some cd ∧ cd.mro = .ref C :: vbm ∧ cd.hasDict = true
  sa : findIn K (.ref C) "__setattr__" = some (some (.builtin "object.__setattr__"))
  ga : findIn K (.ref C) "__getattribute__" = some (some (.builtin "BaseException.__getattribute__"))
  hook : findIn K (.ref C) "__getattr__" = some none
  str : findIn K (.ref C) "__str__" = some (some (.builtin "BaseException.__str__"))
  args : findIn K (.ref C) "args" = some (some (.builtin "BaseException.args"))
  nmsg : findIn K (.ref C) "msg" = some none
  ndoc : findIn K (.ref C) "doc" = some none
  npos : findIn K (.ref C) "pos" = some none
  nlin : findIn K (.ref C) "lineno" = some none
  ncol : findIn K (.ref C) "colno" = some none

theorem refuse_exc (self : Value) (C : Addr) : refuseLoop self "__setattr__" (.ref C :: vbm) = pure () := by
  rw [refuseLoop_ref]; kernel_rfl

section
variable {prog : Program} {w : World} {A : Around} {E : Value → Shared → Prop} {s : Shared} {K : Frag} {x C d : Addr} {h : Heap}

theorem ErrK.mro (H : ErrK K C) {M : Model} (X : K.In h) : Looks M h (mroOf (.ref C)) (.ref C :: vbm) := by
  obtain ⟨cd, h1, h2, _⟩ := H.cls
  rw [← h2]; exact (looks_clsIn X h1).andThen .now
theorem ErrK.sub (H : ErrK K C) {M : Model} (X : K.In h) (b : Value) : Looks M h (isSubtype (.ref C) b) ((Value.ref C :: vbm).contains b) := by
  obtain ⟨cd, h1, h2, _⟩ := H.cls
  exact looks_mroIn X (by unfold mroIn; rw [h1, Option.bind_some, h2]; rfl)
theorem looks_cls {M : Model} {o : Obj} (e : h.get? x = some o) : Looks M h (typeOf (.ref x)) o.cls := (Looks.ld e).andThen .now
theorem ErrK.inst (H : ErrK K C) {M : Model} (X : K.In h) {o : Obj} (e : h.get? x = some o) (ho : o.cls = .ref C) (b : Value) : Looks M h (isInstance (.ref x) b) ((Value.ref C :: vbm).contains b) :=
  (ho ▸ looks_cls e).andThen (H.sub X b)

/-- the entry of a store into an instance of the class, of a name that no class has -/
theorem osa_exc {R : Result → Shared → Prop} {o : Obj} {name : Str} {tk : Tok} {v : Value} (H : ErrK K C) (X : K.In s.heap) (e : s.heap.get? x = some o) (ho : o.cls = .ref C)
    (hf : findIn K (.ref C) name = some none)
    (h : wpAny (model prog w) A.in1 (storeInOwnDict (.ref x) (.ref C) (.str name tk) name v false)
      (fun fin s' => match fin with | .done f => R (.ok f) s' | .again c' => c'.quiet = true ∧ codeAny (model prog w) A c' R s') (fun e s' => R (.error e) s') s) :
    codeAny (model prog w) A (.call (.builtin "object.__setattr__") ⟨[.ref x, .str name tk, v], []⟩) R s := by
  have SF := PySem.F.store_object
  have sub : Looks (model prog w) s.heap (isInstance (.ref x) (.type "object")) true := H.inst X e ho (.type "object")
  have T : Looks (model prog w) s.heap (typeOf (.ref x)) (.ref C) := ho ▸ looks_cls e
  refine codeAny_call_builtin SF.slot.plain SF.entry (@check_slot (model prog w) _ _ s "object.__setattr__" "object" "__setattr__" (.ref x) [.str name tk, v] [] _ SF.kind SF.split sub (SF.args (.ref x) (.str name tk) v) ?_)
  rw [osa_eq, refuse_eq]
  refine wpAny_bind (wpAny_bind (T.here (wpAny_bind ((H.mro X).here ?_))))
  rw [refuse_exc]
  refine wpAny_pure (wpAny_bind (T.here (wpAny_bind ((looks_findIn X hf).here (wpAny_bind ?_)))))
  exact wpAny_pure h

theorem set_exc {o : Obj} {name : Str} {v : Value} {Q : Unit → Shared → Prop} (H : ErrK K C) (X : K.In s.heap) (e : s.heap.get? x = some o) (ho : o.cls = .ref C)
    (hf : findIn K (.ref C) name = some none)
    (h : wpAny (model prog w) A.in1 (storeInOwnDict (.ref x) (.ref C) (.str name s.toks) name v false) (fun fin s' => fin = .done (.ret .none) ∧ Q () s') (fun _ _ => False) { s with toks := s.toks + 1 }) :
    wpAny (model prog w) A (setAttr (.ref x) name v) Q E s := by
  have T : Looks (model prog w) s.heap (typeOf (.ref x)) (.ref C) := ho ▸ looks_cls e
  refine wpAny_bind (wpAny_mkText (wpAny_bind (wpAny_bind (wpAny_bind (T _ _ _ _ (fun _ _ e => e) (looks_findIn X H.sa _ _ _ _ (fun _ _ e => e) (wpAny_holding ?_)))))))
  rw [PySem.F.store_object.slot.bind]
  refine wpAny_bind (wpAny_pure (wpAny_bind (wpAny_call (osa_exc (s := { s with toks := s.toks + 1 }) (R := fun r s' => match r with | .ok (.ret v) => wpAny (model prog w) A (pure (some v)) (fun a s' => wpAny (model prog w) A _ Q E s') E s' | .ok _ => False | .error e => E e s') H X e ho hf (wpAny_mono h (fun fin s' z => ?_) fun _ _ z => z.elim)))))
  obtain ⟨rfl, z⟩ := z
  exact wpAny_pure (wpAny_pure z)
end
end Mine

-- part Cm3
open PySem PySem.W PyProof.Rows PySem.Calls
set_option Elab.async false
set_option maxRecDepth 100000
set_option maxHeartbeats 8000000
namespace Mine
open PySem.Builtin PySem.Builtin.ObjectAttr

theorem fr_but {h₀ h h' : Heap} {L : Addr} {m : Str → Option Value} {X : List Addr} (F : Fr h₀ L h m) (hk : ∀ b o, b ∉ X → h.get? b = some o → h'.get? b = some o) (hL : L ∉ X) (hX : ∀ a ∈ X, h₀.get? a = none) : Fr h₀ L h' m := by
  obtain ⟨oL, es, ep, hLg, r⟩ := F.ns
  exact ⟨⟨oL, es, ep, hk _ _ hL hLg, r⟩, fun b o e => hk b o (fun hb => by rw [hX b hb] at e; cases e) (F.keep b o e), F.above⟩
theorem news_but {h₀ h h' : Heap} {L : Addr} {news : List (Addr × Obj)} {X : List Addr} (N : News h₀ L h news) (hk : ∀ b o, b ∉ X → h.get? b = some o → h'.get? b = some o) (hX : ∀ p ∈ news, p.1 ∉ X) : News h₀ L h' news :=
  fun p hp => ⟨hk _ _ (hX p hp) (N p hp).1, (N p hp).2⟩

section
variable {prog : Program} {w : World} {A : Around} {E : Value → Shared → Prop} {s : Shared} {K : Frag} {x C d : Addr}

abbrev ent (w : World) (name : Str) (tk : Tok) (v : Value) : DictEntry := ⟨PyData.keyHash w.params name, .str name tk, v⟩

theorem storeInDict_at {name : Str} {tk : Tok} {v : Value} {Q : Fin → Shared → Prop} {es : List DictEntry} {n : Nat}
    (hd : s.heap.get? d = some (dictOf es n)) (hl : (getL name es).isSome = true) (hz : es.length ≤ 100)
    (h : ∀ h', h'.get? d = some (dictOf (putL name (PyData.keyHash w.params name) (.str name s.toks) v es) (putN name es n)) →
      (∀ b o, b ≠ d → s.heap.get? b = some o → h'.get? b = some o) → Q (.done (.ret .none)) { s with heap := h', toks := s.toks + 1 }) :
    wpAny (model prog w) A (storeInDict d (.str name tk) name v) Q E s := by
  unfold storeInDict nsSet
  refine wpAny_bind (wpAny_pure ?_)
  refine wpAny_bind ?_
  refine wpAny_bind ?_
  refine wpAny_bind (wpAny_askSetting (wpAny_pure ?_))
  refine wpAny_bind (wpAny_mkText ?_)
  refine wpAny_bind (wpAny_loadPart hd ?_)
  dsimp only
  have c : (!es.toArray.any (·.key.isStr name) && es.toArray.any (·.refKey)) = false := by
    rw [← Array.any_toList, ← Array.any_toList]
    unfold getL at hl
    split at hl
    · rename_i en he
      rw [List.any_eq_true.mpr ⟨en, List.mem_of_find?_eq_some he, List.find?_some he⟩]; rfl
    · split at hl
      · cases hl
      · rename_i z; rw [Bool.not_eq_true] at z; rw [z, Bool.and_false]
  rw [aRefKeyMayBeTheName_at, c]
  refine wpAny_updatePart hd ?_
  have hput : (putL name (PyData.keyHash w.params name) (.str name s.toks) v es).length ≤ es.length + 1 := by
    generalize PyData.keyHash w.params name = hsh
    clear h hd hl hz c
    induction es with
    | nil => simp [putL]
    | cons e r ih => unfold putL; split <;> simp; exact ih
  have hd2 : (s.heap.update d (Obj.putName name (PyData.keyHash w.params name) (.str name s.toks) v)).get? d = some (dictOf (putL name (PyData.keyHash w.params name) (.str name s.toks) v es) (putN name es n)) := by
    refine (Heap.get?_update_self _ hd ?_).trans ?_
    · rw [putName_dict]; rfl
    · rw [putName_dict]
  refine wpAny_bind (wpAny_lookBehind hd2 (pastItsLine_dict (by rw [List.size_toArray, sizeLine_eq]; omega)) ?_)
  exact wpAny_pure (h _ hd2 fun b o hb e => (Heap.get?_update_ne _ _ _ _ hb).trans e)

theorem store_first {name : Str} {tk : Tok} {v : Value} {vs : Array Value} {sl : Array (Option Value)} {Q : Fin → Shared → Prop} (H : ErrK K C) (X : K.In s.heap) (hx : s.heap.get? x = some ⟨.ref C, none, .fields vs, sl⟩)
    (h : ∀ h', h'.get? x = some ⟨.ref C, some s.heap.objs.size, .fields vs, sl⟩ → h'.get? s.heap.objs.size = some (dictOf [ent w name s.toks v] 1) →
      (∀ b o, b ≠ x → s.heap.get? b = some o → h'.get? b = some o) → Q (.done (.ret .none)) { s with heap := h', toks := s.toks + 1 }) :
    wpAny (model prog w) A (storeInOwnDict (.ref x) (.ref C) (.str name tk) name v false) Q E s := by
  obtain ⟨cd, h1, h2, h3⟩ := H.cls
  unfold storeInOwnDict ownDictForStores instanceDict
  refine wpAny_bind (wpAny_pure ?_)
  refine wpAny_bind (wpAny_bind (wpAny_loadPart hx ?_))
  refine wpAny_bind ((looks_clsIn X h1).here ?_)
  rw [h3]
  refine wpAny_bind (wpAny_alloc ?_)
  have hx1 := Heap.get?_push_of_some { cls := .type "dict", data := .dict #[] } hx
  have hne : x ≠ s.heap.objs.size := Nat.ne_of_lt (Heap.lt_size hx)
  refine wpAny_bind (wpAny_update hx1 ?_)
  refine wpAny_pure ?_
  have hd0 : (s.heap.push { cls := .type "dict", data := .dict #[] }).get? s.heap.objs.size = some (dictOf [] 0) := Heap.get?_push_size _ rfl
  have hd1 : ((s.heap.push { cls := .type "dict", data := .dict #[] }).update x fun o => { o with dict := some s.heap.objs.size }).get? s.heap.objs.size = some (dictOf [] 0) := (Heap.get?_update_ne _ _ _ _ (Ne.symm hne)).trans hd0
  have hx2 : ((s.heap.push { cls := .type "dict", data := .dict #[] }).update x fun o => { o with dict := some s.heap.objs.size }).get? x = some ⟨.ref C, some s.heap.objs.size, .fields vs, sl⟩ := Heap.get?_update_self _ hx1 rfl
  refine storeInDict_at hd1 rfl (by simp) fun h' hd2 hk => ?_
  refine h _ (hk _ _ hne hx2) hd2 fun b o hb e => ?_
  have hb2 : b ≠ s.heap.objs.size := Nat.ne_of_lt (Heap.lt_size e)
  exact hk _ _ hb2 ((Heap.get?_update_ne _ _ _ _ hb).trans (Heap.get?_push_of_some _ e))

theorem store_more {name : Str} {tk : Tok} {v : Value} {vs : Array Value} {sl : Array (Option Value)} {Q : Fin → Shared → Prop} {es : List DictEntry} {n : Nat} (H : ErrK K C) (X : K.In s.heap) (hx : s.heap.get? x = some ⟨.ref C, some d, .fields vs, sl⟩)
    (hd : s.heap.get? d = some (dictOf es n)) (hl : (getL name es).isSome = true) (hz : es.length ≤ 100)
    (h : ∀ h', h'.get? d = some (dictOf (putL name (PyData.keyHash w.params name) (.str name s.toks) v es) (putN name es n)) →
      (∀ b o, b ≠ d → s.heap.get? b = some o → h'.get? b = some o) → Q (.done (.ret .none)) { s with heap := h', toks := s.toks + 1 }) :
    wpAny (model prog w) A (storeInOwnDict (.ref x) (.ref C) (.str name tk) name v false) Q E s := by
  obtain ⟨cd, h1, h2, h3⟩ := H.cls
  unfold storeInOwnDict ownDictForStores instanceDict
  refine wpAny_bind (wpAny_pure ?_)
  refine wpAny_bind (wpAny_bind (wpAny_loadPart hx ?_))
  refine wpAny_bind ((looks_clsIn X h1).here ?_)
  rw [h3]
  refine wpAny_pure ?_
  exact storeInDict_at hd hl hz h

/-- the first store into an error, in the ledger's words -/
theorem set_firstN {h₀ : Heap} {L : Addr} {m : Str → Option Value} {news : List (Addr × Obj)} {name : Str} {v : Value} {vs : Array Value} {sl : Array (Option Value)} {Q : Unit → Shared → Prop} {g : Obj → List (Addr × Obj)} (H : ErrK K C) (F : Fr h₀ L s.heap m) (X : K.In h₀) (N : News h₀ L s.heap news)
    (U : UpdF x ⟨.ref C, none, .fields vs, sl⟩ news g) (hf : findIn K (.ref C) name = some none)
    (h : ∀ d h', Fr h₀ L h' m → News h₀ L h' ((d, dictOf [ent w name (s.toks + 1) v] 1) :: g ⟨.ref C, some d, .fields vs, sl⟩) → (∀ p ∈ news, p.1 < d) → Q () { s with heap := h', toks := s.toks + 2 }) :
    wpAny (model prog w) A (setAttr (.ref x) name v) Q E s := by
  obtain ⟨pre, post, rfl, hg, a, b⟩ := U.split
  have D := N (x, ⟨.ref C, none, .fields vs, sl⟩) (by simp)
  have hs := X.keeps F.keep
  obtain ⟨oL, esL, epL, hLg, rL⟩ := F.ns
  refine set_exc H hs D.1 rfl hf (store_first (s := { s with toks := s.toks + 1 }) H hs D.1 fun h' h1 h2 h3 => ⟨rfl, ?_⟩)
  have hk : ∀ b o, b ∉ [x] → s.heap.get? b = some o → h'.get? b = some o := fun b o hb e => h3 b o (fun q => hb (by simp [q])) e
  refine h s.heap.objs.size h' (fr_but F hk (by simpa using Ne.symm D.2.1) (by simpa using D.2.2)) ?_ (fun p hp => Heap.lt_size (N p hp).1)
  rw [hg]
  intro p hp
  rcases List.mem_cons.mp hp with rfl | hp
  · refine ⟨h2, Nat.ne_of_gt (Heap.lt_size hLg), ?_⟩
    cases q : h₀.get? s.heap.objs.size with
    | none => rfl
    | some o => exact absurd (Heap.lt_size (F.keep _ _ q)) (Nat.lt_irrefl _)
  · rcases List.mem_append.mp hp with hp | hp
    · have P := N p (List.mem_append_left _ hp); exact ⟨h3 _ _ (a p hp) P.1, P.2⟩
    · rcases List.mem_cons.mp hp with rfl | hp
      · exact ⟨h1, D.2⟩
      · have P := N p (List.mem_append_right _ (.tail _ hp)); exact ⟨h3 _ _ (b p hp) P.1, P.2⟩

theorem set_moreN {h₀ : Heap} {L : Addr} {m : Str → Option Value} {news : List (Addr × Obj)} {name : Str} {v : Value} {vs : Array Value} {sl : Array (Option Value)} {Q : Unit → Shared → Prop} {g : Obj → List (Addr × Obj)} {es es' : List DictEntry} {n n' : Nat} (H : ErrK K C) (F : Fr h₀ L s.heap m) (X : K.In h₀) (N : News h₀ L s.heap news)
    (hx : (x, ⟨.ref C, some d, .fields vs, sl⟩) ∈ news) (U : UpdF d (dictOf es n) news g) (hf : findIn K (.ref C) name = some none) (hl : (getL name es).isSome = true) (hz : es.length ≤ 100)
    (e : (putL name (PyData.keyHash w.params name) (.str name (s.toks + 1)) v es, putN name es n) = (es', n'))
    (h : ∀ h', Fr h₀ L h' m → News h₀ L h' (g (dictOf es' n')) → Q () { s with heap := h', toks := s.toks + 2 }) :
    wpAny (model prog w) A (setAttr (.ref x) name v) Q E s := by
  obtain ⟨pre, post, rfl, hg, a, b⟩ := U.split
  obtain ⟨e1, e2⟩ := Prod.mk.inj e
  have D := N (d, dictOf es n) (by simp)
  have Dx := N _ hx
  have hs := X.keeps F.keep
  refine set_exc H hs Dx.1 rfl hf (store_more (s := { s with toks := s.toks + 1 }) H hs Dx.1 D.1 hl hz fun h' h1 h3 => ⟨rfl, ?_⟩)
  rw [e1, e2] at h1
  have hk : ∀ b o, b ∉ [d] → s.heap.get? b = some o → h'.get? b = some o := fun b o hb e => h3 b o (fun q => hb (by simp [q])) e
  refine h h' (fr_but F hk (by simpa using Ne.symm D.2.1) (by simpa using D.2.2)) ?_
  rw [hg]
  intro p hp
  rcases List.mem_append.mp hp with hp | hp
  · have P := N p (List.mem_append_left _ hp); exact ⟨h3 _ _ (a p hp) P.1, P.2⟩
  · rcases List.mem_cons.mp hp with rfl | hp
    · exact ⟨h1, D.2⟩
    · have P := N p (List.mem_append_right _ (.tail _ hp)); exact ⟨h3 _ _ (b p hp) P.1, P.2⟩
end
end Mine

-- part Cm4
open PySem PySem.W PyProof.Rows PySem.Calls
set_option Elab.async false
set_option maxRecDepth 100000
set_option maxHeartbeats 8000000
namespace Mine
open PySem.Builtin PySem.Builtin.ObjectAttr

theorem typeOf_VE : typeOf (.type "ValueError") = pure (.type "type") := by rfl
theorem stub_VE : Manifest.isStub "ValueError" = false := by kernel_rfl
theorem hand_VE : handedIn (.builtin "ValueError.__init__") = true := by decide +kernel
theorem find_VEK (K : Frag) : findCls K (.type "ValueError") (.type "type") "__init__" = some (.val (.builtin "ValueError.__init__")) := by kernel_rfl
section
variable {prog : Program} {w : World} {A : Around} {E : Value → Shared → Prop} {s : Shared} {K : Frag} {x C d : Addr} {h₀ : Heap} {L : Addr} {m : Str → Option Value} {news : List (Addr × Obj)}
theorem method_vinit {pl : Sem Bool} {Q : Value × List Value → Shared → Prop} (F : Fr h₀ L s.heap m) (X₀ : K.In h₀) (h : Q (.builtin "ValueError.__init__", []) { s with toks := s.toks + 1 }) : wpAny (model prog w) A (getMethod (.type "ValueError") (Str.ofString "__init__") pl) Q E s :=
  method_type (K := K) (T := "ValueError") (name := Str.ofString "__init__") (v := .builtin "ValueError.__init__") F X₀ typeOf_VE stub_VE (find_VEK K) hand_VE h

theorem check_vinit {M : Model} {o : Obj} {rest : List Value} {Q : Unit → Shared → Prop} (H : ErrK K C) (X : K.In s.heap) (e : s.heap.get? x = some o) (ho : o.cls = .ref C) (h : Q () s) :
    wpAny M A (checkBuiltinCall "ValueError.__init__" ⟨.ref x :: rest, []⟩) Q E s := by
  have F := PySem.F.excBase_ValueError
  have hshort := F.noStar
  have HI := H.inst (M := M) X e ho (.type "ValueError")
  obtain ⟨oc, odd, oda, osl⟩ := o
  dsimp only at ho
  subst ho
  obtain ⟨cd, h1, h2, h3⟩ := H.cls
  have LC := looks_clsIn (M := M) X h1
  simp only [checkBuiltinCall, F.initKind, F.initSplit, F.initRow]
  refine wpAny_bind (HI.here ?_)
  rw [show (Value.ref C :: vbm).contains (.type "ValueError") = true from rfl]
  repeat (first | with_reducible refine Looks.here LC ?_ | wp_step)
  refine wpAny_onRaise ?_
  rw [show ∀ (a b : String) (n : Nat), Bind.check ⟨.positional, "*", "ValueError", .self, [⟨"args", .varPos, false⟩]⟩ a b n (List.map (fun x => x.fst) ({ pos := .ref x :: rest } : Args).kw) = pure () from
    fun a b n => check_star_args _ _ _ _ _ _]
  exact wpAny_pure h

/-- ValueError.__init__(self, words) on an instance of the own class -/
theorem vinit_raw {v : Value} {t : Addr} {dd : Option Addr} {r1 r2 r3 r4 r5 : Value} {sl : Array (Option Value)} {Q : Value → Shared → Prop} (H : ErrK K C) (X : K.In s.heap) (hx : s.heap.get? x = some ⟨.ref C, dd, .fields #[.ref t, r1, r2, r3, r4, r5], sl⟩)
    (h : ∀ h', h'.get? x = some ⟨.ref C, dd, .fields #[.ref s.heap.objs.size, r1, r2, r3, r4, r5], sl⟩ → h'.get? s.heap.objs.size = some { cls := .type "tuple", data := .seq #[v] } →
      (∀ b o, b ≠ x → s.heap.get? b = some o → h'.get? b = some o) → Q .none { s with heap := h' }) :
    wpAny (model prog w) A (call (.builtin "ValueError.__init__") [.ref x, v]) Q E s := by
  have F := PySem.F.excBase_ValueError
  refine wpAny_call (codeAny_call_builtin F.init.plain F.initEntry (check_vinit H X hx rfl ?_))
  unfold Builtin.«BaseException.__init__»
  have hx1 := Heap.get?_push_of_some { cls := .type "tuple", data := .seq #[v] } hx
  have hne : x ≠ s.heap.objs.size := Nat.ne_of_lt (Heap.lt_size hx)
  show wpAny _ _ (newTuple [v] >>= fun t => BaseException.bexcPut (.ref x) 0 t >>= fun _ => ret .none) _ _ _
  refine wpAny_bind (wpAny_newObj_type ?_ (by show ([v].toArray).size ≤ sizeLine; rw [sizeLine_eq]; simp))
  unfold BaseException.bexcPut
  refine wpAny_bind ?_
  refine wpAny_bind (wpAny_field hx1 rfl (x := .ref t) rfl ?_)
  refine wpAny_bind (wpAny_setField hx1 rfl (by simp) ?_)
  refine wpAny_letGo ?_
  refine wpAny_pure ?_
  refine h _ (Heap.get?_update_self _ hx1 rfl) ((Heap.get?_update_ne _ _ _ _ (Ne.symm hne)).trans (Heap.get?_push_size _ rfl)) fun b o hb e => ?_
  exact (Heap.get?_update_ne _ _ _ _ hb).trans (Heap.get?_push_of_some _ e)

theorem vinitN {v : Value} {t : Addr} {dd : Option Addr} {r1 r2 r3 r4 r5 : Value} {sl : Array (Option Value)} {Q : Value → Shared → Prop} {g : Obj → List (Addr × Obj)} (H : ErrK K C) (F : Fr h₀ L s.heap m) (X : K.In h₀) (N : News h₀ L s.heap news)
    (U : UpdF x ⟨.ref C, dd, .fields #[.ref t, r1, r2, r3, r4, r5], sl⟩ news g)
    (h : ∀ d h', Fr h₀ L h' m → News h₀ L h' ((d, { cls := .type "tuple", data := .seq #[v] }) :: g ⟨.ref C, dd, .fields #[.ref d, r1, r2, r3, r4, r5], sl⟩) → (∀ p ∈ news, p.1 < d) → Q .none { s with heap := h' }) :
    wpAny (model prog w) A (call (.builtin "ValueError.__init__") [.ref x, v]) Q E s := by
  obtain ⟨pre, post, rfl, hg, a, b⟩ := U.split
  have D := N (x, ⟨.ref C, dd, .fields #[.ref t, r1, r2, r3, r4, r5], sl⟩) (by simp)
  have hs := X.keeps F.keep
  obtain ⟨oL, esL, epL, hLg, rL⟩ := F.ns
  refine vinit_raw H hs D.1 fun h' h1 h2 h3 => ?_
  have hk : ∀ b o, b ∉ [x] → s.heap.get? b = some o → h'.get? b = some o := fun b o hb e => h3 b o (fun q => hb (by simp [q])) e
  refine h s.heap.objs.size h' (fr_but F hk (by simpa using Ne.symm D.2.1) (by simpa using D.2.2)) ?_ (fun p hp => Heap.lt_size (N p hp).1)
  rw [hg]
  intro p hp
  rcases List.mem_cons.mp hp with rfl | hp
  · refine ⟨h2, Nat.ne_of_gt (Heap.lt_size hLg), ?_⟩
    cases q : h₀.get? s.heap.objs.size with
    | none => rfl
    | some o => exact absurd (Heap.lt_size (F.keep _ _ q)) (Nat.lt_irrefl _)
  · rcases List.mem_append.mp hp with hp | hp
    · have P := N p (List.mem_append_left _ hp); exact ⟨h3 _ _ (a p hp) P.1, P.2⟩
    · rcases List.mem_cons.mp hp with rfl | hp
      · exact ⟨h1, D.2⟩
      · have P := N p (List.mem_append_right _ (.tail _ hp)); exact ⟨h3 _ _ (b p hp) P.1, P.2⟩
end
end Mine

-- part Cm5
open PySem PySem.W PyProof.Rows PySem.Calls
set_option Elab.async false
set_option maxRecDepth 100000
set_option maxHeartbeats 8000000
namespace Mine
open PySem.Builtin PySem.Builtin.ObjectAttr

/-- entering a def whose mutable arguments are the listed objects; the base is `g` -/
theorem enterM {prog : Program} {w : World} {A : Around} {s : Shared} {Q E : Value → Shared → Prop} {K : Frag} {p : Program} {loose : List Str} {mg mb : Str → Option Value}
    {name qual : Str} {params : Arguments} {body : List Stmt} {scope : Scope} {dV kV doc pm cdv ct oc : Value} {an od : Option Addr} {osl : Array (Option Value)} {f : Addr} {vals : List Value} {binds : List (Str × Value)}
    (muts : List (Addr × Obj)) (g : Heap) (hk : Keeps g s.heap) (hsz : g.objs.size ≤ s.heap.objs.size) (hm : ∀ q ∈ muts, s.heap.get? q.1 = some q.2 ∧ g.get? q.1 = none)
    (X : K.In g) (T : TopRead p loose mg mb g)
    (ho : K.lookup f = some ⟨oc, od, .func (fnOf name qual params body scope dV kV doc pm an cdv ct), osl⟩) (hcd : codeIn K cdv qual = true) (hroom : A.depth < recursionLimit)
    (hbind : BindsTo s (fnOf name qual params body scope dV kV doc pm an cdv ct) ⟨vals, []⟩ binds) (hloc : ∀ y ∈ binds, scope.names.lookup y.1 = some .local)
    (h : ∀ L h₁, Fr g L h₁ (fun y => binds.reverse.lookup y) → News g L h₁ muts → (∀ q ∈ muts, q.1 < L) →
      wpAny (model prog w) (A.deeper (envOf qual scope L f cdv)) (execs body (envOf qual scope L f cdv))
        (fun fl s' => Q (match fl with | .ret v => v | _ => .none) s')
        (fun _ _ => False)
        { s with heap := h₁, toks := s.toks + binds.length })
    (hco : scope.isCoroutine = false := by rfl) (hgen : scope.isGenerator = false := by rfl) (hkf : scope.kind = .function := by rfl)
    (hcell : ∀ x ∈ scope.names, x.2 ≠ .cell := by decide) : wpAny (model prog w) A (call (.ref f) vals) Q E s := by
  refine wpAny_call (codeAny_call_def (fd := fnOf name qual params body scope dV kV doc pm an cdv ct) (body := body) (binds := binds) hroom (X.keeps hk _ _ ho) rfl (T.nolimit.keeps hk) (codeRec_of (X.keeps hk) hcd) rfl hbind hcell hloc (fun h₁ hns hk₁ => ?_) hco hgen hkf)
  exact wpAny_mono (h s.heap.objs.size h₁ ⟨hns, fun b o e => hk₁ _ _ (hk _ _ e), hsz⟩ (fun q hq => ⟨hk₁ _ _ (hm q hq).1, Nat.ne_of_lt (Heap.lt_size (hm q hq).1), (hm q hq).2⟩) (fun q hq => Heap.lt_size (hm q hq).1)) (fun _ _ x => x) (fun _ _ x => x.elim)

theorem of_hide_base {h h' : Heap} {as : List Addr} (hk : Keeps h h') (hn : ∀ a ∈ as, h.get? a = none) : Keeps h (hideAll h' as) := fun b o e =>
  hideAll_get as (hk b o e) (fun hb => by have := hn b hb; rw [e] at this; cases this)

/-- entering a def that changes nothing that stood -/
theorem enterK {prog : Program} {w : World} {A : Around} {s : Shared} {Q E : Value → Shared → Prop} {K : Frag} {p : Program} {loose : List Str} {mg mb : Str → Option Value}
    {name qual : Str} {params : Arguments} {body : List Stmt} {scope : Scope} {dV kV doc pm cdv ct oc : Value} {an od : Option Addr} {osl : Array (Option Value)} {f : Addr} {vals : List Value} {binds : List (Str × Value)}
    (X : K.In s.heap) (T : TopRead p loose mg mb s.heap)
    (ho : K.lookup f = some ⟨oc, od, .func (fnOf name qual params body scope dV kV doc pm an cdv ct), osl⟩) (hcd : codeIn K cdv qual = true) (hroom : A.depth < recursionLimit)
    (hbind : BindsTo s (fnOf name qual params body scope dV kV doc pm an cdv ct) ⟨vals, []⟩ binds) (hloc : ∀ y ∈ binds, scope.names.lookup y.1 = some .local)
    (h : ∀ L h₁, Fr s.heap L h₁ (fun y => binds.reverse.lookup y) → News s.heap L h₁ [] →
      wpAny (model prog w) (A.deeper (envOf qual scope L f cdv)) (execs body (envOf qual scope L f cdv))
        (fun fl s' => Q (match fl with | .ret v => v | _ => .none) s')
        (fun _ _ => False)
        { s with heap := h₁, toks := s.toks + binds.length })
    (hco : scope.isCoroutine = false := by rfl) (hgen : scope.isGenerator = false := by rfl) (hkf : scope.kind = .function := by rfl)
    (hcell : ∀ x ∈ scope.names, x.2 ≠ .cell := by decide) : wpAny (model prog w) A (call (.ref f) vals) Q E s :=
  enterM [] s.heap (fun _ _ e => e) (Nat.le_refl _) (fun _ hq => nomatch hq) X T ho hcd hroom hbind hloc (fun L h₁ F N _ => h L h₁ F N) hco hgen hkf hcell

/-- an error of the class at e: its message, text, place, line, column and words -/
def ErrAt (w : World) (C : Addr) (h : Heap) (e : Addr) (msg doc : Str) (pos ln cn : Int) (ws : Str) : Prop :=
  ∃ d t r1 r2 r3 r4 r5 sl tw k1 k2 k3 k4 k5 t1 t2 t3 t4 t5,
    h.get? e = some ⟨.ref C, some d, .fields #[.ref t, r1, r2, r3, r4, r5], sl⟩ ∧
    h.get? t = some { cls := .type "tuple", data := .seq #[.str ws tw] } ∧
    h.get? d = some (dictOf [ent w "msg" k1 (.str msg t1), ent w "doc" k2 (.str doc t2), ent w "pos" k3 (.int pos t3), ent w "lineno" k4 (.int ln t4), ent w "colno" k5 (.int cn t5)] 5)

theorem ErrAt.keeps {w : World} {C : Addr} {h h' : Heap} {e : Addr} {msg doc : Str} {pos ln cn : Int} {ws : Str} (x : ErrAt w C h e msg doc pos ln cn ws) (k : Keeps h h') : ErrAt w C h' e msg doc pos ln cn ws := by
  obtain ⟨d, t, r1, r2, r3, r4, r5, sl, tw, k1, k2, k3, k4, k5, t1, t2, t3, t4, t5, a, b, c⟩ := x
  exact ⟨d, t, r1, r2, r3, r4, r5, sl, tw, k1, k2, k3, k4, k5, t1, t2, t3, t4, t5, k _ _ a, k _ _ b, k _ _ c⟩

abbrev nl : Str := Str.ofString "\n"
def lnOf (doc : Str) (pos : Int) : Int := cnt doc nl pos + 1
def cnOf (doc : Str) (pos : Int) : Int := pos - rfd doc nl pos
end Mine

-- part Cm6
open PySem PySem.W PyProof.Rows PySem.Calls
set_option Elab.async false
set_option maxRecDepth 100000
set_option maxHeartbeats 8000000
namespace Mine
open PySem.Builtin PySem.Builtin.ObjectAttr

section
variable {prog : Program} {w : World} {A : Around} {E : Value → Shared → Prop} {s : Shared} {K : Frag} {x C d t : Addr} {o : Obj}

theorem oga_eq (self : Value) (name : Str) (tk : Tok) : Builtin.«object.__getattribute__» ⟨[self, .str name tk], []⟩ = (typeOf self >>= fun tp => find self tp name >>= fun r => match r with
  | .value v => ret v
  | .bind g a => bindTo g a self tp
  | .missing => do
    if tp == .type "module" then
      if ← isOpaqueModuleObj self then
        let byTheModulesOwnEntry := match (← stack).drop 1 with
          | (.builtin "module.__getattribute__" ⟨m :: _, _⟩, _) :: _ => m == self
          | _ => false
        if !byTheModulesOwnEntry then unsupported "thirdparty:object.__getattribute__:a-miss-on-an-opaque-module"
    if tp == .type "type" then
      if let some key ← opaqueClassAbove self then unsupported s!"thirdparty:{key.toString}.{name.toString}:object.__getattribute__-misses-on-an-opaque-class"
    noSuchAttribute self name) := by kernel_rfl

/-- the road of a read of an attribute of an error -/
theorem get_err {name : Str} {expr : Bool} {Q : Value → Shared → Prop} {r : Found} {v : Value} (H : ErrK K C) (X : K.In s.heap) (e : s.heap.get? x = some o) (ho : o.cls = .ref C)
    (hf : Looks (model prog w) s.heap (find (.ref x) (.ref C) name) r) (hh : handedIn v = true)
    (hr : wpAny (model prog w) A.in1 (match r with | .value v => ret v | .bind g a => bindTo g a (.ref x) (.ref C) | .missing => noSuchAttribute (.ref x) name)
      (fun fin s' => fin = .done (.ret v) ∧ Q v s') (fun _ _ => False) { s with toks := s.toks + 1 }) (hm : r ≠ .missing) :
    wpAny (model prog w) A (getAttr (.ref x) name expr) Q E s := by
  have T : Looks (model prog w) s.heap (typeOf (.ref x)) (.ref C) := ho ▸ looks_cls e
  have G := looks_findIn (M := model prog w) X H.ga
  have Hk := looks_findIn (M := model prog w) X H.hook
  have FA := PySem.F.attr_ValueError
  have hkind : builtinKind "BaseException.__getattribute__" = some .slot := by decide +kernel
  have hsplit : splitId "BaseException.__getattribute__" = some ("BaseException", "__getattribute__") := by decide +kernel
  have HI : Looks (model prog w) s.heap (isInstance (.ref x) (.type "BaseException")) true := H.inst X e ho (.type "BaseException")
  unfold getAttr getAttrBy
  refine wpAny_bind (wpAny_mkText (wpAny_holding ?_))
  refine wpAny_bind (T.here (s := { s with toks := s.toks + 1 }) (wpAny_bind (G.here (s := { s with toks := s.toks + 1 }) ?_)))
  dsimp only
  rw [show (onTheHeap (Value.ref C) && Value.builtin "BaseException.__getattribute__" == Value.builtin "object.__getattribute__") = false from by rw [show (Value.builtin "BaseException.__getattribute__" == Value.builtin "object.__getattribute__") = false from by decide +kernel]; rfl]
  unfold getAttrByItsOwn hookBefore
  refine wpAny_bind (Hk.here (s := { s with toks := s.toks + 1 }) ?_)
  refine wpAny_bind (wpAny_attempt (wpAny_holding ?_))
  unfold callGetattribute
  rw [show (expr && onTheHeap (Value.builtin "BaseException.__getattribute__")) = false from by cases expr <;> rfl]
  unfold boundAndCalled
  rw [FA.ga.bind]
  refine wpAny_bind (wpAny_pure (wpAny_call (codeAny_call_builtin FA.ga.plain F.entry_bexc_ga (@check_slot (model prog w) _ _ { s with toks := s.toks + 1 } _ _ _ (.ref x) [.str name s.toks] [] _ hkind hsplit HI (F.args_bexc_ga _ _) ?_))))
  show wpAny _ _ (Builtin.«object.__getattribute__» ⟨[.ref x, .str name s.toks], []⟩) _ _ _
  rw [oga_eq]
  refine wpAny_bind (T.here (s := { s with toks := s.toks + 1 }) (wpAny_bind (hf.here (s := { s with toks := s.toks + 1 }) ?_)))
  refine wpAny_mono (Q := fun fin s' => fin = .done (.ret v) ∧ Q v s') (E := fun _ _ => False) ?_ (fun fin s' z => ?_) (fun _ _ z => z.elim)
  · cases r with
    | value v => exact hr
    | bind g a => exact hr
    | missing => exact absurd rfl hm
  · obtain ⟨rfl, z⟩ := z
    show wpAny _ _ (handedOut v) _ _ _
    rw [handedOut_of hh]; exact wpAny_pure z

theorem get_err_own {name : Str} {expr : Bool} {Q : Value → Shared → Prop} {v : Value} {es : List DictEntry} {n : Nat} {vs : Array Value} {sl : Array (Option Value)} (H : ErrK K C) (X : K.In s.heap) (e : s.heap.get? x = some ⟨.ref C, some d, .fields vs, sl⟩) (hd : s.heap.get? d = some (dictOf es n))
    (hf : findIn K (.ref C) name = some none) (hl : getL name es = some (some v)) (hh : handedIn v = true) (h : Q v { s with toks := s.toks + 1 }) :
    wpAny (model prog w) A (getAttr (.ref x) name expr) Q E s := by
  obtain ⟨cd, h1, h2, h3⟩ := H.cls
  refine get_err (r := .value v) H X e rfl (looks_find (od := some (dictOf es n)) X (I := ⟨e, rfl, rfl, hd⟩) ?_) hh (wpAny_pure ⟨rfl, h⟩) (by intro q; cases q)
  unfold findObj
  rw [h1, hf]
  simp only [Option.bind_some]
  unfold W.ownOf
  rw [h3, if_pos rfl]
  dsimp only
  rw [show lookIn name (dictOf es n) = getL name es from rfl, hl]
  rfl

theorem find_args {vs : Array Value} {sl : Array (Option Value)} {dd : Option Addr} (H : ErrK K C) (X : K.In s.heap) (e : s.heap.get? x = some ⟨.ref C, dd, .fields vs, sl⟩) :
    Looks (model prog w) s.heap (find (.ref x) (.ref C) "args") (.bind (.builtin "getset_descriptor.__get__") (.builtin "BaseException.args")) := by
  have L1 := looks_findIn (M := model prog w) X H.args
  have T5 : Looks (model prog w) s.heap (typeOf (.builtin "BaseException.args")) (.type "getset_descriptor") := Looks.of_pure F.typeOf_bexc_args
  have g1 : Looks (model prog w) s.heap (specialOf (.builtin "BaseException.args") "__get__") (some (.builtin "getset_descriptor.__get__")) := T5.andThen (Looks.of_pure F.slot_gs_get.lookup)
  have g2 : Looks (model prog w) s.heap (specialOf (.builtin "BaseException.args") "__set__") (some (.builtin "getset_descriptor.__set__")) := T5.andThen (Looks.of_pure F.slot_gs_set.lookup)
  unfold find
  refine L1.andThen ?_
  unfold getOf
  refine g1.andThen ?_
  have g3 : Looks (model prog w) s.heap (takesStores (.builtin "BaseException.args")) true := g2.andThen .now
  have D : Looks (model prog w) s.heap (dataDescriptor? (some (.builtin "BaseException.args")) (some (.builtin "getset_descriptor.__get__"))) (some (.builtin "getset_descriptor.__get__", .builtin "BaseException.args")) := g3.andThen .now
  exact D.andThen (Looks.tag .now)

theorem get_err_args {expr : Bool} {Q : Value → Shared → Prop} {dd : Option Addr} {r1 r2 r3 r4 r5 : Value} {sl : Array (Option Value)} (H : ErrK K C) (X : K.In s.heap) (e : s.heap.get? x = some ⟨.ref C, dd, .fields #[.ref t, r1, r2, r3, r4, r5], sl⟩)
    (h : Q (.ref t) { s with toks := s.toks + 1 }) :
    wpAny (model prog w) A (getAttr (.ref x) (Str.ofString "args") expr) Q E s := by
  refine get_err (r := .bind _ _) (v := .ref t) H X e rfl (find_args H X e) rfl ?_ (by intro q; cases q)
  show wpAny _ _ (bindTo _ _ _ _) _ _ _
  unfold bindTo
  dsimp only
  refine wpAny_bind (wpAny_holding (wpAny_call ?_))
  have hT5 : Shared.TypeIs { s with toks := s.toks + 1 } (.builtin "BaseException.args") "getset_descriptor" := F.typeOf_bexc_args
  refine codeAny_call_builtin F.slot_gs_get.plain F.entry_gs_get (F.slot_gs_get.check _ _ _ _ _ _ _ _ hT5 (F.args_gs_get _ _ _) ?_)
  have HS := H.sub (M := model prog w) X (.type (".".intercalate ("BaseException.args".cutAt '.').dropLast))
  rw [show (Value.ref C :: vbm).contains (.type (".".intercalate ("BaseException.args".cutAt '.').dropLast)) = true from by rw [F.owner_bexc_args]; rfl] at HS
  obtain ⟨hp, g, dr, tk, os⟩ := s
  dsimp only at e X HS
  repeat (any_goals (first | assumption | (with_reducible refine wpAny_loadPart_at e ?_) | (with_reducible refine Looks.at HS ?_) | wp_step))
  refine ⟨Code.quiet_builtin _ (by decide +kernel), codeAny_builtin F.entry_bexc_args ?_⟩
  have hnd : (Value.ref t == doubtfulMember) = false := by first | rfl | decide | simp [doubtfulMember, rawInt]
  unfold Builtin.«BaseException.args»
  refine wpAny_bind (wpAny_field e rfl (x := .ref t) rfl ?_)
  rw [hnd]
  exact wpAny_pure (wpAny_pure ⟨rfl, h⟩)

theorem call_errStr {ws : Str} {tw : Tok} {dd : Option Addr} {r1 r2 r3 r4 r5 : Value} {sl : Array (Option Value)} {Q : Value → Shared → Prop} (H : ErrK K C) (X : K.In s.heap) (e : s.heap.get? x = some ⟨.ref C, dd, .fields #[.ref t, r1, r2, r3, r4, r5], sl⟩)
    (ht : s.heap.get? t = some { cls := .type "tuple", data := .seq #[.str ws tw] }) (h : Q (.str ws tw) s) :
    wpAny (model prog w) A (call (.builtin "BaseException.__str__") [.ref x]) Q E s := by
  have FS := PySem.F.excStr_ValueError
  have hkind : builtinKind "BaseException.__str__" = some .slot := by decide +kernel
  have hsplit : splitId "BaseException.__str__" = some ("BaseException", "__str__") := by decide +kernel
  have HI : Looks (model prog w) s.heap (isInstance (.ref x) (.type "BaseException")) true := H.inst X e rfl (.type "BaseException")
  refine wpAny_call (codeAny_call_builtin FS.str.plain F.entry_bexc_str (@check_slot (model prog w) _ _ s _ _ _ (.ref x) [] [] _ hkind hsplit HI (F.args_bexc_str _) ?_))
  show wpAny _ _ (BaseException.bexcArgs (.ref x) >>= fun a => match a with
    | (_, []) => (do rule "BaseException.__str__.no-argument"; retStr Str.empty)
    | (_, [y]) => (do rule "BaseException.__str__.one-argument"; ret (← BaseException.bexcText "__str__" y))
    | (t, _) => (do ret (← BaseException.bexcText "__str__" t))) _ _ _
  unfold BaseException.bexcArgs
  refine wpAny_bind (wpAny_bind (wpAny_field e rfl (x := .ref t) rfl (wpAny_bind (wpAny_seqItems ht rfl ?_))))
  refine wpAny_pure ?_
  refine wpAny_bind (wpAny_rule ?_)
  refine wpAny_bind (wpAny_pure ?_)
  exact wpAny_pure h

theorem strOf_err {ws : Str} {tw : Tok} {dd : Option Addr} {r1 r2 r3 r4 r5 : Value} {sl : Array (Option Value)} {Q : Value → Shared → Prop} (H : ErrK K C) (hu : A.units < cLine) (X : K.In s.heap) (e : s.heap.get? x = some ⟨.ref C, dd, .fields #[.ref t, r1, r2, r3, r4, r5], sl⟩)
    (ht : s.heap.get? t = some { cls := .type "tuple", data := .seq #[.str ws tw] }) (h : Q (.str ws tw) s) :
    wpAny (model prog w) A (Builtin.Str.strOf (.ref x)) Q E s := by
  have FS := PySem.F.excStr_ValueError
  have T : Looks (model prog w) s.heap (typeOf (.ref x)) (.ref C) := looks_cls e
  have G := looks_findIn (M := model prog w) X H.str
  unfold Builtin.Str.strOf
  refine wpAny_ite ?_
  rw [if_neg (show ¬ (Str.isExactStr (.ref x) = true) from Bool.false_ne_true)]
  refine wpAny_bind (wpAny_cRoomFor hu ?_)
  refine wpAny_bind ?_
  refine wpAny_bind (wpAny_bind (T.here (G.here ?_)))
  refine wpAny_holding ?_
  rw [FS.str.bind]
  refine wpAny_bind (wpAny_pure (wpAny_bind (call_errStr H X e ht ?_)))
  exact wpAny_pure (wpAny_bind (wpAny_of_eq (a := some ws) rfl (wpAny_pure h)))

/-- str(e) -/
theorem str_err {ws : Str} {tw : Tok} {dd : Option Addr} {r1 r2 r3 r4 r5 : Value} {sl : Array (Option Value)} {Q : Value → Shared → Prop} (H : ErrK K C) (hu : A.units + 2 < cLine) (X : K.In s.heap) (e : s.heap.get? x = some ⟨.ref C, dd, .fields #[.ref t, r1, r2, r3, r4, r5], sl⟩)
    (ht : s.heap.get? t = some { cls := .type "tuple", data := .seq #[.str ws tw] }) (h : Q (.str ws tw) s) :
    wpAny (model prog w) A (call (.type "str") [.ref x]) Q E s :=
  callType_new F.called_str (by decide) (F.typeCall_str_1 _) (F.newCall_str_1 _) (fun obj => F.args_object_init_2 obj _) F.entry_str_new
    (meets_str_new (S := fun A' R s' => A'.units + 1 < cLine ∧ s'.heap = s.heap ∧ R (.ok (.ret (.str ws tw))) s')
      fun _ _ A' _ s' hq => strOf_err (A := A'.in1) (s := s') H hq.1 (hq.2.1 ▸ X) (hq.2.1 ▸ e) (hq.2.1 ▸ ht) hq.2.2)
    ⟨(show A.units + 1 + 1 < cLine from hu), rfl, typeIs_str _ _ _, h⟩

/-- isinstance(e, ValueError) -/
theorem isi_err {Q : Value → Shared → Prop} (H : ErrK K C) (X : K.In s.heap) (e : s.heap.get? x = some o) (ho : o.cls = .ref C) (h : Q (.bool true) s) :
    wpAny (model prog w) A (call (.builtin "isinstance") [.ref x, .type "ValueError"]) Q E s := by
  refine call_isinstance (S := fun _ R s' => s'.heap = s.heap ∧ R (.ok (.ret (.bool true))) s') (fun prog w A R s' hs => isinstance_outer ?_ (by intro q; cases q)) ⟨rfl, h⟩
  obtain ⟨hp, g, dr, tk, os⟩ := s'
  obtain ⟨hh, hR⟩ := hs
  dsimp only at hh
  subst hh
  have T : Looks (model prog w) s.heap (typeOf (.ref x)) (.ref C) := ho ▸ looks_cls e
  have L1 : Looks (model prog w) s.heap (typeOf (.type "ValueError")) (.type "type") := Looks.of_pure typeOf_VE
  have L3 : Looks (model prog w) s.heap (isInstance (.ref x) (.type "ValueError")) true := H.inst X e ho (.type "ValueError")
  unfold Builtin.«isinstance.nested»
  refine wpAny_bind (T.at ?_)
  rw [if_neg (show ¬ ((Value.ref C == Value.type "ValueError") = true) from Bool.false_ne_true)]
  refine wpAny_bind (L1.at ?_)
  rw [if_pos (by decide)]
  k_delta "plainIsInstance"
  have L2 : Looks (model prog w) s.heap (isType (.type "ValueError")) true := Looks.of_pure (by kernel_rfl)
  refine wpAny_bind (wpAny_bind (L2.at ?_))
  simp only [Bool.not_true, Bool.false_eq_true, if_false]
  refine wpAny_bind (L3.at ?_)
  simp only [if_true]
  exact wpAny_pure (wpAny_pure hR)
end
end Mine

-- part Cm7
open PySem PySem.W PyProof.Rows PySem.Calls
set_option Elab.async false
set_option maxRecDepth 100000
set_option maxHeartbeats 8000000
namespace Mine

section
variable {prog : Program} {w : World} {A : Around} {E : Value → Shared → Prop} {s : Shared} {env : Env} {h₀ : Heap} {x : Str} {body : List Stmt} {Q : Flow → Shared → Prop}

/-- how a turn of a loop ends -/
def TurnEnd (h₀ : Heap) (L : Addr) (own : List (Addr × Obj)) (J : (Str → Option Value) → List (Addr × Obj) → Prop) (news₁ : List (Addr × Obj)) (h : Heap) (s : Shared) (Q : Flow → Shared → Prop) (f : Flow) (s₂ : Shared) : Prop :=
  match f with
  | .ret v => Q (.ret v) s₂
  | .brk => Q .next s₂
  | _ => ∃ h' tk m' news', s₂ = { s with heap := h', toks := tk } ∧ Fr h₀ L h' m' ∧ News h₀ L h' (news' ++ own) ∧ (∀ p ∈ news', p.1 ∈ news₁.map (·.1) ∨ h.get? p.1 = none) ∧ J m' news'

theorem loop_W {it : Value} {I : Addr} {fp wr : List Addr} {n : Nat} {P : Nat → Value → Prop} {St : Nat → Heap → Prop} {m : Str → Option Value} {news : List (Addr × Obj)}
    (W : Walks prog w A I fp wr n P St) (hit : it = .ref I) (hLf : env.locals ∉ fp) (hwr : ∀ b ∈ wr, h₀.get? b = none) (hlive : ∀ i h, St i h → ∀ b ∈ wr, ∃ o, h.get? b = some o)
    (hnw : ∀ p ∈ news, p.1 ∉ wr) (hst : St 0 s.heap) (F : Fr h₀ env.locals s.heap m) (N : News h₀ env.locals s.heap news)
    (J : Nat → (Str → Option Value) → List (Addr × Obj) → Prop) (hj : J 0 m news) (muts : List Addr) (hmf : ∀ a ∈ muts, a ∉ fp)
    (turn : ∀ i v m₁ news₁ h tk own, i < n → P i v → J i m₁ news₁ → OwnOff own muts → St (i + 1) h → Fr h₀ env.locals h (fun y => if y = x then some v else m₁ y) → News h₀ env.locals h (news₁ ++ own) →
      wpAny (model prog w) A (execs body env) (TurnEnd h₀ env.locals own (J (i + 1)) news₁ h s Q) E { s with heap := h, toks := tk })
    (done : ∀ m₁ news₁ h tk, J n m₁ news₁ → Fr h₀ env.locals h m₁ → News h₀ env.locals h news₁ → Q .next { s with heap := h, toks := tk }) :
    LoopAtV prog w A h₀ env x body Q E it s := by
  refine ⟨I, fp, wr, n, P, St, m, news, J, hit, W, hLf, hwr, hnw, hst, F, N, hj, ?_, fun h' tk m' news' F' N' _ hJ => done m' news' h' tk hJ F' N'⟩
  rintro i v m₁ news₁ s₁ own ⟨hh', tk', rfl⟩ hin hP hJ hoff hown _ _ hSt F₁ N₁
  have N₂ : News h₀ env.locals hh' (news₁ ++ own) := fun p hp => N₁ p ((List.mem_append.mp hp).elim (fun h => List.mem_append.mpr (.inr h)) fun h => List.mem_append.mpr (.inl h))
  refine wpAny_mono (turn i v m₁ news₁ hh' tk' own hin hP hJ (fun p hp b hb e => hmf b hb (e ▸ hown p hp)) hSt F₁ N₂) (fun f s₂ p => ?_) fun _ _ e => e
  have fin : (∃ h' tk m' news', s₂ = { s with heap := h', toks := tk } ∧ Fr h₀ env.locals h' m' ∧ News h₀ env.locals h' (news' ++ own) ∧ (∀ p ∈ news', p.1 ∈ news₁.map (·.1) ∨ hh'.get? p.1 = none) ∧ J (i + 1) m' news') → LoopStepU h₀ env.locals wr own (J (i + 1)) { s with heap := hh', toks := tk' } .next s₂ := by
    rintro ⟨h', tk, m', news', e, F', N', ha, hm⟩
    refine ⟨rfl, h', tk, m', news', e, F', fun p hp => N' p ((List.mem_append.mp hp).elim (fun h => List.mem_append.mpr (.inr h)) fun h => List.mem_append.mpr (.inl h)), fun p hp hq => ?_, hm⟩
    rcases ha p hp with h1 | h1
    · obtain ⟨q, hq1, hq2⟩ := List.mem_map.mp h1
      exact hoff q hq1 (hq2 ▸ hq)
    · obtain ⟨o, ho⟩ := hlive _ _ hSt _ hq
      rw [h1] at ho; cases ho
  cases f with
  | ret v => exact .ret p
  | brk => exact .brk p
  | next => exact .next (fin p)
  | cont => exact .cont (fin p)

/-- a for over a list, wherever the list lies -/
theorem iter_L {l : Addr} {vs : List Value} {m : Str → Option Value} {news : List (Addr × Obj)}
    (hh : A.handled = none) (hl : s.heap.IsList l vs.toArray) (hlL : l ≠ env.locals) (F : Fr h₀ env.locals s.heap m) (N : News h₀ env.locals s.heap news)
    (J : Nat → (Str → Option Value) → List (Addr × Obj) → Prop) (hj : J 0 m news) (muts : List Addr) (hmf : ∀ a ∈ muts, a ≠ l ∧ ∃ o, s.heap.get? a = some o)
    (turn : ∀ i v m₁ news₁ h tk own, vs[i]? = some v → J i m₁ news₁ → OwnOff own muts → h.IsList l vs.toArray → Fr h₀ env.locals h (fun y => if y = x then some v else m₁ y) → News h₀ env.locals h (news₁ ++ own) →
      wpAny (model prog w) A (execs body env) (TurnEnd h₀ env.locals own (J (i + 1)) news₁ h s Q) E { s with heap := h, toks := tk })
    (done : ∀ m₁ news₁ h tk, J vs.length m₁ news₁ → Fr h₀ env.locals h m₁ → News h₀ env.locals h news₁ → Q .next { s with heap := h, toks := tk }) :
    wpAny (model prog w) A (pyIter (.ref l)) (fun it s₂ => LoopAtV prog w A h₀ env x body Q E it s₂) E s := by
  obtain ⟨ol, hol, hrest⟩ := id hl
  have hne : l ≠ s.heap.objs.size := Nat.ne_of_lt (Heap.lt_size hol)
  refine wpAny_pyIter_list hl ?_
  have W := Walks.list (prog := prog) (w := w) hh s.heap.objs.size l hne vs.toArray
  have hlen : vs.toArray.size = vs.length := by simp
  rw [hlen] at W
  refine loop_W (J := J) W rfl ?_ ?_ ?_ ?_ ⟨⟨_, Heap.get?_push_size _ rfl, rfl, rfl⟩, hl.at fun o e => Heap.get?_push_of_some _ e⟩ (F.push _) (fun p hp => ⟨Heap.get?_push_of_some _ (N p hp).1, (N p hp).2⟩) hj muts ?_ ?_ (fun m₁ news₁ h tk hJ F' N' => done m₁ news₁ h tk hJ F' N')
  · intro hm
    rcases List.mem_cons.mp hm with e | hm
    · exact absurd F.ns.lt (e ▸ Nat.lt_irrefl _)
    · exact hlL (List.mem_singleton.mp hm).symm
  · intro b hb
    rw [List.mem_singleton.mp hb]
    exact next_is_new F
  · intro i h hst b hb
    rw [List.mem_singleton.mp hb]
    obtain ⟨⟨o, ho, _⟩, _⟩ := hst
    exact ⟨o, ho⟩
  · intro p hp hI
    exact absurd (Heap.lt_size (N p hp).1) ((List.mem_singleton.mp hI) ▸ Nat.lt_irrefl _)
  · intro a ha hm
    obtain ⟨h1, o, h2⟩ := hmf a ha
    rcases List.mem_cons.mp hm with e | hm
    · exact absurd (Heap.lt_size h2) (e ▸ Nat.lt_irrefl _)
    · exact h1 (List.mem_singleton.mp hm)
  · intro i v m₁ news₁ h tk own hin hP hJ hoff hSt F' N'
    exact turn i v m₁ news₁ h tk own (by simpa using hP) hJ hoff hSt.2 F' N'
end

theorem getD_len {l : List Str} {i k : Nat} {d : Str} (h : ∀ x ∈ l, x.length ≤ k) (hd : d.length ≤ k) : (l.getD i d).length ≤ k := by
  rw [List.getD_eq_getElem?_getD]
  cases q : l[i]? with
  | none => exact hd
  | some x => exact h x (List.mem_of_getElem? q)
end Mine

-- part Cm8
open PySem PySem.W PyProof.Rows PySem.Calls
set_option Elab.async false
set_option maxRecDepth 100000
set_option maxHeartbeats 8000000
namespace Mine
open PySem.Builtin PySem.Builtin.Str

/-- a text by its signs -/
abbrev lst (x : Str) : List Nat := x.cps.toList
theorem lst_append (x y : Str) : lst (x ++ y) = lst x ++ lst y := by simp [lst, Str.cps_append]
theorem lst_ext {x y : Str} (h : lst x = lst y) : x = y := by
  obtain ⟨a⟩ := x; obtain ⟨b⟩ := y
  simp only [lst] at h
  rw [show a = b from Array.toList_inj.mp h]
theorem lst_len (x : Str) : (lst x).length = x.length := by simp [lst, Str.length]
theorem lst_mk (l : List Nat) : lst ⟨l.toArray⟩ = l := by simp [lst]

theorem slice_from {x : Str} {i : Int} (h0 : 0 ≤ i) (h1 : i ≤ x.length) : lst (Txt.slice x (some i) none) = (lst x).drop i.toNat := by
  have := beq_iff_eq.mp (slice_closes_from (x := x) (i := i) ⟨h0, by rw [show x.cps.toList.length = x.length from lst_len x]; exact h1⟩)
  rw [this, lst_mk]
  refine List.take_of_length_le ?_
  rw [List.length_drop]
  omega
theorem slice_to {x : Str} {j : Int} (h0 : 0 ≤ j) (h1 : j ≤ x.length) : lst (Txt.slice x none (some j)) = (lst x).take j.toNat := by
  have := beq_iff_eq.mp (slice_closes_to (x := x) (j := j) ⟨h0, by rw [show x.cps.toList.length = x.length from lst_len x]; exact h1⟩)
  rw [this, lst_mk]
  simp
theorem slice_in {x : Str} {i j : Int} (h0 : 0 ≤ i) (h1 : i ≤ j) (h2 : j ≤ x.length) : lst (Txt.slice x (some i) (some j)) = ((lst x).drop i.toNat).take (j - i).toNat := by
  have := beq_iff_eq.mp (slice_closes (x := x) (i := i) (j := j) ⟨h0, h1, by rw [show x.cps.toList.length = x.length from lst_len x]; exact h2⟩)
  rw [this, lst_mk]
theorem idx_neg_lo {i : Int} {u : Option Int} {n : Nat} (h0 : i < 0) (h1 : -n ≤ i) : strSliceIndices (some i) u 1 n = strSliceIndices (some (i + n)) u 1 n := by
  have a : ¬ (i + n < 0) := by omega
  simp only [strSliceIndices, if_pos h0, if_neg a]
theorem idx_neg_hi {i : Int} {l : Option Int} {n : Nat} (h0 : i < 0) (h1 : -n ≤ i) : strSliceIndices l (some i) 1 n = strSliceIndices l (some (i + n)) 1 n := by
  have a : ¬ (i + n < 0) := by omega
  simp only [strSliceIndices, if_pos h0, if_neg a]
theorem slice_neg_lo {x : Str} {i : Int} {u : Option Int} (h0 : i < 0) (h1 : -x.length ≤ i) : Txt.slice x (some i) u = Txt.slice x (some (i + x.length)) u := by
  unfold Txt.slice; rw [idx_neg_lo h0 h1]
theorem slice_neg_hi {x : Str} {i : Int} {l : Option Int} (h0 : i < 0) (h1 : -x.length ≤ i) : Txt.slice x l (some i) = Txt.slice x l (some (i + x.length)) := by
  unfold Txt.slice; rw [idx_neg_hi h0 h1]

/-- x[:k] and x[k:] of a glued text -/
theorem slice_to_app {x a b : Str} {k : Int} (hx : x = a ++ b) (hk : k = a.length) : Txt.slice x none (some k) = a := by
  subst hx hk
  refine lst_ext ?_
  rw [slice_to (by omega) (by rw [Str.length_append]; omega), lst_append]
  simp [← lst_len]
theorem slice_from_app {x a b : Str} {k : Int} (hx : x = a ++ b) (hk : k = a.length) : Txt.slice x (some k) none = b := by
  subst hx hk
  refine lst_ext ?_
  rw [slice_from (by omega) (by rw [Str.length_append]; omega), lst_append]
  simp [← lst_len]
theorem slice_last_app {x a b : Str} {k : Int} (hx : x = a ++ b) (hk : k = -b.length) (hb : 0 < b.length) : Txt.slice x (some k) none = b := by
  subst hx
  rw [slice_neg_lo (by omega) (by rw [Str.length_append]; omega)]
  exact slice_from_app rfl (by rw [Str.length_append]; omega)
theorem slice_init_app {x a b : Str} {k : Int} (hx : x = a ++ b) (hk : k = -b.length) (hb : 0 < b.length) : Txt.slice x none (some k) = a := by
  subst hx
  rw [slice_neg_hi (by omega) (by rw [Str.length_append]; omega)]
  exact slice_to_app rfl (by rw [Str.length_append]; omega)

theorem at_iff (x y : Str) (hi i : Nat) : StrLaws.At x y hi i ↔ i + y.length ≤ hi ∧ ((lst x).drop i).take y.length = lst y := by
  unfold StrLaws.At
  rw [StrLaws.subAt_eq]
  constructor
  · rintro ⟨h1, h2⟩; exact ⟨h1, beq_iff_eq.mp h2⟩
  · rintro ⟨h1, h2⟩; exact ⟨h1, beq_iff_eq.mpr h2⟩

/-- the last place of a mark whose first two signs come nowhere behind it -/
theorem rfind_mid {x a y b : Str} {c0 c1 : Nat} {r : List Nat} (hx : x = a ++ y ++ b) (hy : lst y = c0 :: c1 :: r)
    (h1 : ∀ i, 1 ≤ i → i + 1 < (lst y).length → ¬ ((lst y)[i]? = some c0 ∧ (lst y)[i + 1]? = some c1))
    (h2 : (lst b)[0]? ≠ some c1) (h3 : c0 ∉ lst b) : Txt.rfind x y = a.length := by
  subst hx
  have hA : StrLaws.At (a ++ y ++ b) y (a ++ y ++ b).length a.length := by
    rw [at_iff]
    refine ⟨by rw [Str.length_append, Str.length_append]; omega, ?_⟩
    rw [lst_append, lst_append, List.append_assoc, ← lst_len a, List.drop_left, ← lst_len y, List.take_left]
  have hno : ∀ k, a.length < k → ¬ StrLaws.At (a ++ y ++ b) y (a ++ y ++ b).length k := by
    intro k hk hat
    obtain ⟨hle, he⟩ := (at_iff _ _ _ _).mp hat
    have g : ∀ j, j < (lst y).length → (lst (a ++ y ++ b))[k + j]? = (lst y)[j]? := by
      intro j hj
      rw [← he, List.getElem?_take, if_pos (by rw [← lst_len]; exact hj), List.getElem?_drop]
    have hlen : 2 ≤ (lst y).length := by rw [hy]; simp
    have g0 := g 0 (by omega)
    have g1 := g 1 (by omega)
    rw [hy] at g0 g1
    simp only [List.getElem?_cons_zero, List.getElem?_cons_succ, Nat.add_zero] at g0 g1
    obtain ⟨d, rfl⟩ : ∃ d, k = a.length + (d + 1) := ⟨k - a.length - 1, by omega⟩
    have e : ∀ j, (lst (a ++ y ++ b))[a.length + j]? = (lst y ++ lst b)[j]? := by
      intro j
      rw [lst_append, lst_append, List.append_assoc, List.getElem?_append_right (by rw [lst_len]; omega), lst_len]
      congr 1; omega
    rw [e] at g0
    rw [Nat.add_assoc, e] at g1
    by_cases q1 : d + 1 + 1 < (lst y).length
    · rw [List.getElem?_append_left (by omega)] at g0
      rw [List.getElem?_append_left q1] at g1
      exact h1 (d + 1) (by omega) q1 ⟨g0, g1⟩
    · by_cases q2 : d + 1 < (lst y).length
      · rw [List.getElem?_append_right (by omega)] at g1
        rw [show d + 1 + 1 - (lst y).length = 0 by omega] at g1
        exact h2 g1
      · rw [List.getElem?_append_right (by omega)] at g0
        exact h3 (List.mem_of_getElem? g0)
  rcases rfind_whole (a ++ y ++ b) y with ⟨_, hn⟩ | ⟨i, hi, hat, hn⟩
  · exact absurd hA (hn _)
  · rw [hi]
    congr 1
    rcases Nat.lt_trichotomy i a.length with q | q | q
    · exact absurd hA (hn _ q)
    · exact q
    · exact absurd hat (hno _ q)

theorem intS_free {k : Nat} (hk : k ≠ 45 ∧ (k < 48 ∨ 57 < k)) (i : Int) : k ∉ lst (intS i) := int_text_free' k hk i
theorem intS_nat (m : Nat) : lst (intS (m : Int)) = (Nat.toDigits 10 m).map Char.toNat := KIN.signs_num m
theorem intS_digit {n : Int} (h0 : 0 ≤ n) : ∀ c ∈ lst (intS n), 48 ≤ c ∧ c ≤ 57 := by
  obtain ⟨m, rfl⟩ := Int.eq_ofNat_of_zero_le h0
  intro c hc
  rw [intS_nat] at hc
  obtain ⟨ch, hch, e⟩ := List.mem_map.mp hc
  have r := digit_range (Nat.isDigit_of_mem_toDigits (by decide) (by decide) hch)
  rw [← e]
  exact r
theorem intS_ne0 {n : Int} (h0 : 0 ≤ n) : 0 < (intS n).length := by
  obtain ⟨m, rfl⟩ := Int.eq_ofNat_of_zero_le h0
  rw [← lst_len, intS_nat, List.length_map]
  have h := toDigits_len_ge 10 m
  omega
theorem intS_ne {n : Int} : 0 < (intS n).length := by
  by_cases h : 0 ≤ n
  · exact intS_ne0 h
  · rw [← lst_len, show lst (intS n) = (toString n).toList.map Char.toNat from intS_cps n, toString_neg (by omega)]
    simp

abbrev mkC : Str := Str.ofString " (char "
abbrev mkO : Str := Str.ofString " column "
abbrev mkL : Str := Str.ofString ": line "
abbrev mkE : Str := Str.ofString ")"

theorem words_eq (msg : Str) (l c p : Int) : wordsOf msg l c p = (msg ++ mkL ++ intS l ++ mkO ++ intS c) ++ mkC ++ (intS p ++ mkE) := by
  unfold wordsOf; simp only [Str.append_assoc]
theorem lst_C : lst mkC = [32, 40, 99, 104, 97, 114, 32] := by decide
theorem lst_O : lst mkO = [32, 99, 111, 108, 117, 109, 110, 32] := by decide
theorem lst_L : lst mkL = [58, 32, 108, 105, 110, 101, 32] := by decide
theorem lst_E : lst mkE = [41] := by decide
theorem intS_head {k : Nat} (hk : k ≠ 45 ∧ (k < 48 ∨ 57 < k)) (i : Int) (r : List Nat) : (lst (intS i) ++ r)[0]? ≠ some k := by
  intro h
  have hp : 0 < (lst (intS i)).length := by rw [lst_len]; exact intS_ne
  rw [List.getElem?_append_left hp] at h
  exact intS_free hk i (List.mem_of_getElem? h)
/-- the three marks' last places -/
theorem rfind_C (msg : Str) (l c p : Int) : Txt.rfind (wordsOf msg l c p) mkC = (msg ++ mkL ++ intS l ++ mkO ++ intS c).length := by
  refine rfind_mid (words_eq msg l c p) lst_C (by rw [lst_C]; intro i h1 h2 h3; simp only [List.length_cons, List.length_nil] at h2; rcases i with _ | _ | _ | _ | _ | _ | i <;> first | (exfalso; omega) | simp_all) ?_ ?_
  · rw [lst_append]; exact intS_head (by decide) _ _
  · rw [lst_append, lst_E]
    intro h
    rcases List.mem_append.mp h with h | h
    · exact intS_free (by decide) _ h
    · simp at h
theorem rfind_O (msg : Str) (l c : Int) : Txt.rfind (msg ++ mkL ++ intS l ++ mkO ++ intS c) mkO = (msg ++ mkL ++ intS l).length := by
  refine rfind_mid rfl lst_O (by rw [lst_O]; intro i h1 h2 h3; simp only [List.length_cons, List.length_nil] at h2; rcases i with _ | _ | _ | _ | _ | _ | _ | i <;> first | (exfalso; omega) | simp_all) ?_ ?_
  · have := intS_head (k := 99) (by decide) c []; simpa using this
  · exact intS_free (by decide) _
theorem rfind_L (msg : Str) (l : Int) : Txt.rfind (msg ++ mkL ++ intS l) mkL = msg.length := by
  refine rfind_mid rfl lst_L (by rw [lst_L]; intro i h1 h2 h3; simp only [List.length_cons, List.length_nil] at h2; rcases i with _ | _ | _ | _ | _ | _ | i <;> first | (exfalso; omega) | simp_all) ?_ ?_
  · have := intS_head (k := 32) (by decide) l []; simpa using this
  · exact intS_free (by decide) _
theorem len_C : mkC.length = 7 := by decide
theorem len_O : mkO.length = 8 := by decide
theorem len_L : mkL.length = 7 := by decide
theorem len_E : mkE.length = 1 := by decide

section
variable {prog : Program} {w : World} {A : Around} {E : Value → Shared → Prop} {s : Shared} {x y : Str} {t u : Tok} {k : Int} {Q : Value → Shared → Prop}
theorem call_rfindE (e : Txt.rfind x y = k) (hq : Q (.int k s.toks) { s with toks := s.toks + 1 }) : wpAny (model prog w) A (call (.builtin "str.rfind") [.str x t, .str y u]) Q E s := by
  subst e
  exact call_gives F.slot_str_rfind (typeIs_str _ _ _) F.entry_str_rfind (F.args_str_rfind_2 _ _) (gives_str_rfind x y t u) hq
end
section
variable {prog : Program} {w : World} {A : Around} {E : Value → Shared → Prop} {s : Shared} {value slice : Expr} {x z : Str} {t : Tok} {h₀ : Heap} {L : Addr} {m : Str → Option Value} {news : List (Addr × Obj)} {Q : Value → Shared → Prop}
theorem sliceE_ns {j : Int} {uj : Tok} (hF : Fr h₀ L s.heap m) (hN : News h₀ L s.heap news) (e : Txt.slice x none (some j) = z) (h : ∀ h' t' k, Fr h₀ L h' m → News h₀ L h' news → Q (.str z t') { s with heap := h', toks := k })
    (hs : subscripted slice false (.str x t) (.ref s.heap.objs.size) = operate [.ref s.heap.objs.size, .str x t] (getItem (.str x t) (.ref s.heap.objs.size)) := by with_unfolding_all rfl)
    (ht : ∀ r, letTemporaryGo value (.str x t) r = pure () := by intro _; with_unfolding_all rfl) (hsz : x.length ≤ sizeLine := by size_fits) :
    wpAny (model prog w) A (subscriptTail value slice (.str x t) (.ref s.heap.objs.size)) Q E { s with heap := s.heap.push { cls := .type "slice", data := .fields #[.none, .int j uj, .none] } } := by
  subst e
  exact slice_strN_ns hF hN h hs ht hsz
theorem sliceE_sn {i : Int} {ui : Tok} (hF : Fr h₀ L s.heap m) (hN : News h₀ L s.heap news) (e : Txt.slice x (some i) none = z) (h : ∀ h' t' k, Fr h₀ L h' m → News h₀ L h' news → Q (.str z t') { s with heap := h', toks := k })
    (hs : subscripted slice false (.str x t) (.ref s.heap.objs.size) = operate [.ref s.heap.objs.size, .str x t] (getItem (.str x t) (.ref s.heap.objs.size)) := by with_unfolding_all rfl)
    (ht : ∀ r, letTemporaryGo value (.str x t) r = pure () := by intro _; with_unfolding_all rfl) (hsz : x.length ≤ sizeLine := by size_fits) :
    wpAny (model prog w) A (subscriptTail value slice (.str x t) (.ref s.heap.objs.size)) Q E { s with heap := s.heap.push { cls := .type "slice", data := .fields #[.int i ui, .none, .none] } } := by
  subst e
  exact slice_strN_sn hF hN h hs ht hsz
theorem sliceE_ss {i j : Int} {ui uj : Tok} (hF : Fr h₀ L s.heap m) (hN : News h₀ L s.heap news) (e : Txt.slice x (some i) (some j) = z) (h : ∀ h' t' k, Fr h₀ L h' m → News h₀ L h' news → Q (.str z t') { s with heap := h', toks := k })
    (hs : subscripted slice false (.str x t) (.ref s.heap.objs.size) = operate [.ref s.heap.objs.size, .str x t] (getItem (.str x t) (.ref s.heap.objs.size)) := by with_unfolding_all rfl)
    (ht : ∀ r, letTemporaryGo value (.str x t) r = pure () := by intro _; with_unfolding_all rfl) (hsz : x.length ≤ sizeLine := by size_fits) :
    wpAny (model prog w) A (subscriptTail value slice (.str x t) (.ref s.heap.objs.size)) Q E { s with heap := s.heap.push { cls := .type "slice", data := .fields #[.int i ui, .int j uj, .none] } } := by
  subst e
  exact slice_strN_ss hF hN h hs ht hsz
end
section
variable {prog : Program} {w : World} {A : Around} {E : Value → Shared → Prop} {s : Shared} {x y : Str} {t u : Tok} {b : Bool} {Q : Value → Shared → Prop}
theorem eq_strE (e : (x == y) = b) (hq : Q (.bool b) s) : wpAny (model prog w) A (compareOp .Eq (.str x t) (.str y u)) Q E s := by
  subst e; exact eq_str hq
theorem ne_strE (e : (x != y) = b) (hq : Q (.bool b) s) : wpAny (model prog w) A (compareOp .NotEq (.str x t) (.str y u)) Q E s := by
  subst e; exact ne_str hq
theorem isdigitE (e : Txt.isdigit x = b) (hq : Q (.bool b) s) : wpAny (model prog w) A (call (.builtin "str.isdigit") [.str x t]) Q E s := by
  subst e; exact SC.isdigit hq
end
theorem isDigit_of : ∀ c : Nat, 48 ≤ c → c ≤ 57 → Unicode.isDigit c = true := by
  intro c h1 h2
  obtain ⟨d, rfl⟩ : ∃ d, c = 48 + d := ⟨c - 48, by omega⟩
  have hd : d < 10 := by omega
  clear h1 h2
  revert d
  decide +kernel
theorem isdigit_true {x : Str} (h0 : 0 < x.length) (h : ∀ c ∈ lst x, 48 ≤ c ∧ c ≤ 57) : Txt.isdigit x = true := by
  unfold Txt.isdigit
  rw [Bool.and_eq_true, decide_eq_true_eq, ← Array.all_toList, List.all_eq_true]
  exact ⟨h0, fun c hc => isDigit_of c (h c hc).1 (h c hc).2⟩
theorem ne_empty {x : Str} (h : 0 < x.length) : (x == Str.ofString "") = false := by
  rw [beq_eq_false_iff_ne]
  intro e
  rw [e] at h
  exact absurd h (by decide)
end Mine

-- part Cm9
open PySem PySem.W PyProof.Rows PySem.Calls
set_option Elab.async false
set_option maxRecDepth 100000
set_option maxHeartbeats 8000000
namespace Mine

theorem intsAre_of : ∀ {vs : List Value} {ns : List Int}, vs.length = ns.length → (∀ (i : Nat) (n : Int), ns[i]? = some n → ∃ t, vs[i]? = some (.int n t)) → IntsAre vs ns
  | [], [], _, _ => .nil
  | v :: vs, n :: ns, hl, h => by
    obtain ⟨t, e⟩ := h 0 n rfl
    simp only [List.getElem?_cons_zero, Option.some.injEq] at e
    subst e
    exact .cons _ _ (intsAre_of (by simpa using hl) fun i m hm => h (i + 1) m (by simpa using hm))
  | [], _ :: _, hl, _ => by simp at hl
  | _ :: _, [], hl, _ => by simp at hl

/-- an int of a list of ints -/
theorem IntsAre.at {vs : List Value} {ns : List Int} (hi : IntsAre vs ns) {i : Nat} {v : Value} (hv : vs[i]? = some v) : ∃ n t, ns[i]? = some n ∧ v = .int n t := by
  have h1 := (List.getElem?_eq_some_iff.mp hv).1
  have hlt : i < ns.length := by rw [← hi.length]; exact h1
  obtain ⟨t, hx⟩ := hi.get i _ (List.getElem?_eq_getElem hlt)
  rw [hv] at hx
  exact ⟨_, t, List.getElem?_eq_getElem hlt, Option.some.inj hx⟩

section
variable {prog : Program} {w : World} {A : Around} {E : Value → Shared → Prop} {s : Shared} {h₀ : Heap} {L : Addr} {m : Str → Option Value} {news : List (Addr × Obj)} {Q : Value → Shared → Prop}
theorem fresh_size (F : Fr h₀ L s.heap m) : s.heap.objs.size ≠ L ∧ h₀.get? s.heap.objs.size = none := by
  obtain ⟨oL, esL, epL, hLg, rL⟩ := F.ns
  refine ⟨Nat.ne_of_gt (Heap.lt_size hLg), ?_⟩
  cases q : h₀.get? s.heap.objs.size with
  | none => rfl
  | some o => exact absurd (Heap.lt_size (F.keep _ _ q)) (Nat.lt_irrefl _)

/-- list(range(a, b)) -/
theorem list_rangeN {r : Addr} {a b : Int} {n : Nat} {t u v : Tok} (hh : A.handled = none) (F : Fr h₀ L s.heap m) (N : News h₀ L s.heap news) (hr : IsRange s.heap r a b 1 t u v)
    (ha : -(2 ^ 62) ≤ a) (hb : b < 2 ^ 62) (hab : b - a = n) (hn : n ≤ 1000000)
    (h : ∀ D h' tk vs c, Fr h₀ L h' m → News h₀ L h' ((D, W.listOf vs.toArray c) :: news) → (∀ p ∈ news, p.1 < D) → IntsAre vs (rangeInts a 1 n) → Q (.ref D) { s with heap := h', toks := tk }) :
    wpAny (model prog w) A (call (.type "list") [.ref r]) Q E s := by
  refine call_list_range (n := n) hh hr (small_one ha (by omega) (by omega) hb) ?_ (by omega) fun h' tk acc c' hk hS hacc => ?_
  · unfold Builtin.Range.rangeSize
    rw [if_pos (by decide)]
    split <;> omega
  · refine h s.heap.objs.size h' tk acc.toList c' (F.keeps hk) ?_ (fun p hp => Heap.lt_size (N p hp).1) ?_
    · intro p hp
      rcases List.mem_cons.mp hp with rfl | hp
      · exact ⟨by simpa using hS, fresh_size F⟩
      · exact ⟨hk _ _ (N p hp).1, (N p hp).2⟩
    · refine intsAre_of (by rw [rangeInts_length]; simpa using hacc.1) fun i k hi => ?_
      have hlt : i < n := by have := (List.getElem?_eq_some_iff.mp hi).1; rwa [rangeInts_length] at this
      rw [rangeInts_get hlt] at hi
      have hsz : i < acc.size := by rw [hacc.1]; exact hlt
      obtain ⟨t, ht⟩ := hacc.2 i acc[i] (by simp [hsz])
      refine ⟨t, ?_⟩
      rw [← Option.some.inj hi, ← ht]
      simp [hsz]
theorem list_range0 {r : Addr} {n : Nat} {t u v : Tok} (hh : A.handled = none) (F : Fr h₀ L s.heap m) (N : News h₀ L s.heap news) (hr : IsRange s.heap r 0 (n : Int) 1 t u v) (hn : n ≤ 1000000)
    (h : ∀ D h' tk vs c, Fr h₀ L h' m → News h₀ L h' ((D, W.listOf vs.toArray c) :: news) → (∀ p ∈ news, p.1 < D) → IntsAre vs (rangeInts 0 1 n) → Q (.ref D) { s with heap := h', toks := tk }) :
    wpAny (model prog w) A (call (.type "list") [.ref r]) Q E s := list_rangeN (n := n) hh F N hr (by omega) (by omega) (by omega) hn h
theorem list_range1 {r : Addr} {n : Nat} {t u v : Tok} (hh : A.handled = none) (F : Fr h₀ L s.heap m) (N : News h₀ L s.heap news) (hr : IsRange s.heap r 1 ((n : Int) + 1) 1 t u v) (hn : n ≤ 1000000)
    (h : ∀ D h' tk vs c, Fr h₀ L h' m → News h₀ L h' ((D, W.listOf vs.toArray c) :: news) → (∀ p ∈ news, p.1 < D) → IntsAre vs (rangeInts 1 1 n) → Q (.ref D) { s with heap := h', toks := tk }) :
    wpAny (model prog w) A (call (.type "list") [.ref r]) Q E s := list_rangeN (n := n) hh F N hr (by omega) (by omega) (by omega) hn h
end
theorem cut_at (y : Value) (q : List Value) : ∀ p : List Value, kl_cut (p ++ y :: q) p.length = some (p, y, q)
  | [] => rfl
  | x :: p => by
    show (match kl_cut (p ++ y :: q) p.length with | some (a, b, c) => some (x :: a, b, c) | none => none) = _
    rw [cut_at y q p]
theorem upd_of_updF {d : Addr} {o : Obj} : ∀ {l : List (Addr × Obj)} {g : Obj → List (Addr × Obj)}, UpdF d o l g → ∀ o', Upd d o o' l (g o')
  | _, _, .head h, _ => .head h
  | _, _, .tail h u, o' => .tail h (upd_of_updF u o')
theorem intsAre_split : ∀ {vs : List Value} {ns : List Int} {k : Nat}, IntsAre vs ns → k < ns.length → ∃ vp t vq np x nq, vs = vp ++ .int x t :: vq ∧ ns = np ++ x :: nq ∧ vp.length = k ∧ np.length = k ∧ IntsAre vp np ∧ IntsAre vq nq
  | _, _, 0, .cons n t h, _ => ⟨[], t, _, [], n, _, rfl, rfl, rfl, rfl, .nil, h⟩
  | _, _, k + 1, .cons n t h, hk => by
    obtain ⟨vp, t', vq, np, x, nq, e1, e2, e3, e4, e5, e6⟩ := intsAre_split (k := k) h (by simpa using hk)
    exact ⟨.int n t :: vp, t', vq, n :: np, x, nq, by rw [e1]; rfl, by rw [e2]; rfl, by simp [e3], by simp [e4], .cons _ _ e5, e6⟩
section
variable {prog : Program} {w : World} {A : Around} {E : Value → Shared → Prop} {s : Shared} {h₀ : Heap} {L D : Addr} {m : Str → Option Value} {news : List (Addr × Obj)} {Q : Value → Shared → Prop}
theorem pop_intsN {us : List Value} {l : List Int} {n : Nat} {i : Int} {u : Tok} {g : Obj → List (Addr × Obj)} (F : Fr h₀ L s.heap m) (N : News h₀ L s.heap news) (hi : IntsAre us l) (U : UpdF D (W.listOf us.toArray n) news g)
    (h0 : 0 ≤ i) (h1 : i < l.length) (hz : l.length ≤ 1000000)
    (h : ∀ h' t p x q us', l = p ++ x :: q → IntsAre us' (p ++ q) → Fr h₀ L h' m → News h₀ L h' (g (W.listOf us'.toArray (n + 1))) → Q (.int x t) { s with heap := h' }) :
    wpAny (model prog w) A (call (.builtin "list.pop") [.ref D, .int i u]) Q E s := by
  obtain ⟨vp, t, vq, np, x, nq, rfl, rfl, e3, e4, e5, e6⟩ := intsAre_split (k := i.toNat) hi (by omega)
  have hlen := hi.length
  simp only [List.length_append, List.length_cons] at hlen h1 hz
  refine kl_popAt (k := vp.length) (p := vp) (q := vq) (y := .int x t) F N ?_ ?_ ?_ (upd_of_updF U _) ?_ (fun h' F' N' => h h' t np x nq (vp ++ vq) rfl (e5.append e6) F' N')
  · unfold Builtin.List.listFitsIndex
    rw [Bool.and_eq_true, decide_eq_true_eq, decide_eq_true_eq]
    constructor <;> omega
  · unfold seqIndex?
    simp only [List.size_toArray, List.length_append, List.length_cons]
    have q1 : ¬ (i < 0) := by omega
    simp only [if_neg q1]
    rw [if_pos (by rw [Bool.and_eq_true, decide_eq_true_eq, decide_eq_true_eq]; constructor <;> omega), e3]
  · exact cut_at _ _ _
  · simp only [List.length_append, List.length_cons]; rw [sizeLine_eq]; omega
end
/-- an error whose three objects are among those listed -/
def ErrIn (w : World) (C : Addr) (os : List (Addr × Obj)) (e : Addr) (msg doc : Str) (pos ln cn : Int) (ws : Str) : Prop :=
  ∃ d t r1 r2 r3 r4 r5 sl tw k1 k2 k3 k4 k5 t1 t2 t3 t4 t5,
    (e, (⟨.ref C, some d, .fields #[.ref t, r1, r2, r3, r4, r5], sl⟩ : Obj)) ∈ os ∧
    (t, ({ cls := .type "tuple", data := .seq #[.str ws tw] } : Obj)) ∈ os ∧
    (d, dictOf [ent w "msg" k1 (.str msg t1), ent w "doc" k2 (.str doc t2), ent w "pos" k3 (.int pos t3), ent w "lineno" k4 (.int ln t4), ent w "colno" k5 (.int cn t5)] 5) ∈ os
theorem ErrIn.sub {w : World} {C : Addr} {os os' : List (Addr × Obj)} {e : Addr} {msg doc : Str} {pos ln cn : Int} {ws : Str} (x : ErrIn w C os e msg doc pos ln cn ws) (k : ∀ p ∈ os, p ∈ os') : ErrIn w C os' e msg doc pos ln cn ws := by
  obtain ⟨d, t, r1, r2, r3, r4, r5, sl, tw, k1, k2, k3, k4, k5, t1, t2, t3, t4, t5, a, b, c⟩ := x
  exact ⟨d, t, r1, r2, r3, r4, r5, sl, tw, k1, k2, k3, k4, k5, t1, t2, t3, t4, t5, k _ a, k _ b, k _ c⟩
theorem ErrIn.at {w : World} {C : Addr} {os : List (Addr × Obj)} {h : Heap} {e : Addr} {msg doc : Str} {pos ln cn : Int} {ws : Str} (x : ErrIn w C os e msg doc pos ln cn ws) (k : ∀ p ∈ os, h.get? p.1 = some p.2) : ErrAt w C h e msg doc pos ln cn ws := by
  obtain ⟨d, t, r1, r2, r3, r4, r5, sl, tw, k1, k2, k3, k4, k5, t1, t2, t3, t4, t5, a, b, c⟩ := x
  exact ⟨d, t, r1, r2, r3, r4, r5, sl, tw, k1, k2, k3, k4, k5, t1, t2, t3, t4, t5, k _ a, k _ b, k _ c⟩

/-- where the walk is to stand still -/
def Stop (P : Prop) : Prop := P
theorem stop {P : Prop} (h : Stop P) : P := h
end Mine

-- part Cm10
open PySem PySem.W PyProof.Rows PySem.Calls
set_option Elab.async false
set_option maxRecDepth 100000
set_option maxHeartbeats 8000000
namespace Mine

section
variable {prog : Program} {w : World} {A : Around} {E : Value → Shared → Prop} {s : Shared} {env : Env} {h₀ : Heap} {target : Expr} {body : List Stmt} {Q : Flow → Shared → Prop}

/-- the rest of a for statement, its iterator made -/
def ForAt (prog : Program) (w : World) (A : Around) (env : Env) (target : Expr) (body : List Stmt) (Q : Flow → Shared → Prop) (E : Value → Shared → Prop) (it : Value) (s : Shared) : Prop :=
  codeAny (model prog w) A (.forLoop target it body [] env) (fun r s' => match r with | .ok f => Q f s' | .error e => cameBackBy (model prog w) A env E e s') s
theorem For_G {iter : Expr} {pos : Pos}
    (h : wpAny (model prog w) A (eval iter env) (fun xv s₁ => wpAny (model prog w) A (pyIter xv) (fun it s₂ => ForAt prog w A env target body Q E it s₂) E s₁) E s)
    (hs : ∀ x, foldedSetIterable iter env x = pure x := by intro _; rfl) :
    wpAny (model prog w) A (exec (.For target iter body [] pos) env) Q E s := wpAny_For h hs

theorem for_W {I : Addr} {fp wr : List Addr} {n : Nat} {P : Nat → Value → Prop} {St : Nat → Heap → Prop} {m : Str → Option Value} {news : List (Addr × Obj)}
    (W : Walks prog w A I fp wr n P St) (hLf : env.locals ∉ fp) (hwr : ∀ b ∈ wr, h₀.get? b = none) (hlive : ∀ i h, St i h → ∀ b ∈ fp, ∃ o, h.get? b = some o)
    (hnw : ∀ p ∈ news, p.1 ∉ wr) (hst : St 0 s.heap) (F : Fr h₀ env.locals s.heap m) (N : News h₀ env.locals s.heap news)
    (J : Nat → (Str → Option Value) → List (Addr × Obj) → Prop) (hj : J 0 m news) (muts : List Addr) (hmf : ∀ a ∈ muts, a ∉ fp)
    (turn : ∀ i v m₁ news₁ h tk own, i < n → P i v → J i m₁ news₁ → OwnOff own muts → St (i + 1) h → Fr h₀ env.locals h m₁ → News h₀ env.locals h (news₁ ++ own) →
      wpAny (model prog w) A (assign target env v) (fun _ s₂ => wpAny (model prog w) A (execs body env) (TurnEnd h₀ env.locals own (J (i + 1)) news₁ h s Q) E s₂) E { s with heap := h, toks := tk })
    (done : ∀ m₁ news₁ h tk, J n m₁ news₁ → Fr h₀ env.locals h m₁ → News h₀ env.locals h news₁ → Q .next { s with heap := h, toks := tk })
    (ht : ∀ v, letOwnedTupleGo target (.ref I) v = pure () := by intro _; rfl) (hE : PassesOwn (model prog w) A env E := by passes_own) :
    ForAt prog w A env target body Q E (.ref I) s := by
  have hLw : env.locals ∉ wr := fun h => hLf (W.sub _ h)
  have old : ∀ b o, h₀.get? b = some o → b ∉ wr := fun b o e hb => by rw [hwr b hb] at e; cases e
  unfold ForAt
  refine codeAny_forLoop (fun k s' => ∃ h' tk m' news' i, s' = { s with heap := h', toks := tk } ∧ St i h' ∧ Fr h₀ env.locals h' m' ∧ News h₀ env.locals h' news' ∧ (∀ p ∈ news', p.1 ∉ wr) ∧ J i m' news' ∧ i ≤ n ∧ k = n + 1 - i) ?_ (n + 1)
    ⟨s.heap, s.toks, m, news, 0, rfl, hst, F, N, hnw, hj, Nat.zero_le _, rfl⟩ ht
  rintro k s' ⟨h', tk, m', news', i, rfl, hst', F', N', hnw', hJ, hi, rfl⟩
  have next : ∀ h₁ : Heap, (∀ b o, b ∉ wr → h'.get? b = some o → h₁.get? b = some o) → Fr h₀ env.locals h₁ m' ∧ News h₀ env.locals h₁ news' := fun h₁ hk₁ =>
    ⟨⟨F'.ns.at' fun o e => hk₁ _ o hLw e, fun b o e => hk₁ b o (old b o e) (F'.keep b o e), F'.above⟩, fun p hp => ⟨hk₁ _ _ (hnw' p hp) (N' p hp).1, (N' p hp).2⟩⟩
  by_cases hlt : i < n
  · refine W.item i _ _ _ hlt hst' fun v h₁ tk₁ hP hst₁ hk₁ => ?_
    obtain ⟨F₁, N₁⟩ := next h₁ hk₁
    have Nown : News h₀ env.locals h₁ (ownOf h₀ fp h₁) := news_ownOf hLf
    have hown : ∀ p ∈ ownOf h₀ fp h₁, p.1 ∈ fp := ownOf_sub
    have N₂ : News h₀ env.locals h₁ (news' ++ ownOf h₀ fp h₁) := fun p hp => (List.mem_append.mp hp).elim (N₁ p) (Nown p)
    refine wpAny_mono (turn i v m' news' h₁ tk₁ (ownOf h₀ fp h₁) hlt hP hJ (fun p hp b hb e => hmf b hb (e ▸ hown p hp)) hst₁ F₁ N₂) (fun _ s₂ z => wpAny_mono z (fun f s₃ h₃ => ?_) (fun _ _ e => hE _ _ e)) (fun _ _ e => hE _ _ e)
    have fin : (∃ h' tk m' news'', s₃ = { s with heap := h', toks := tk } ∧ Fr h₀ env.locals h' m' ∧ News h₀ env.locals h' (news'' ++ ownOf h₀ fp h₁) ∧ (∀ p ∈ news'', p.1 ∈ news'.map (·.1) ∨ h₁.get? p.1 = none) ∧ J (i + 1) m' news'') →
        ∃ m, m < n + 1 - i ∧ ∃ h' tk m' news' i, s₃ = { s with heap := h', toks := tk } ∧ St i h' ∧ Fr h₀ env.locals h' m' ∧ News h₀ env.locals h' news' ∧ (∀ p ∈ news', p.1 ∉ wr) ∧ J i m' news' ∧ i ≤ n ∧ m = n + 1 - i := by
      rintro ⟨h₄, tk₃, m₃, news₃, rfl, F₃, N₃, ha, hJ₃⟩
      refine ⟨n + 1 - (i + 1), by omega, h₄, tk₃, m₃, news₃, i + 1, rfl, ?_, F₃, (fun p hp => N₃ p (List.mem_append_left _ hp)), fun p hp hq => ?_, hJ₃, hlt, rfl⟩
      · refine W.frame _ _ _ hst₁ fun b hb o e => ?_
        cases hn : h₀.get? b with
        | some o₀ =>
          have : o₀ = o := by have := F₁.keep b o₀ hn; rw [e] at this; exact (Option.some.inj this).symm
          exact this ▸ F₃.keep b o₀ hn
        | none => exact (N₃ _ (List.mem_append_right _ (mem_ownOf hb hn e))).1
      · rcases ha p hp with h1 | h1
        · obtain ⟨q, hq1, hq2⟩ := List.mem_map.mp h1
          exact hnw' q hq1 (hq2 ▸ hq)
        · obtain ⟨o, ho⟩ := hlive _ _ hst₁ _ (W.sub _ hq)
          rw [h1] at ho; cases ho
    cases f with
    | ret v => exact h₃
    | brk => exact h₃
    | next => exact fin h₃
    | cont => exact fin h₃
  · have hin : i = n := by omega
    subst hin
    refine W.done _ _ _ hst' fun h₁ tk₁ hk₁ => wpAny_execs_nil ?_
    obtain ⟨F₁, N₁⟩ := next h₁ hk₁
    exact done m' news' h₁ tk₁ hJ F₁ N₁

/-- a for over a list, wherever the list lies -/
theorem for_L {l : Addr} {vs : List Value} {m : Str → Option Value} {news : List (Addr × Obj)}
    (hh : A.handled = none) (hl : s.heap.IsList l vs.toArray) (hlL : l ≠ env.locals) (F : Fr h₀ env.locals s.heap m) (N : News h₀ env.locals s.heap news)
    (J : Nat → (Str → Option Value) → List (Addr × Obj) → Prop) (hj : J 0 m news) (muts : List Addr) (hmf : ∀ a ∈ muts, a ≠ l ∧ ∃ o, s.heap.get? a = some o)
    (turn : ∀ i v m₁ news₁ h tk own, vs[i]? = some v → J i m₁ news₁ → OwnOff own muts → h.IsList l vs.toArray → Fr h₀ env.locals h m₁ → News h₀ env.locals h (news₁ ++ own) →
      wpAny (model prog w) A (assign target env v) (fun _ s₂ => wpAny (model prog w) A (execs body env) (TurnEnd h₀ env.locals own (J (i + 1)) news₁ h s Q) E s₂) E { s with heap := h, toks := tk })
    (done : ∀ m₁ news₁ h tk, J vs.length m₁ news₁ → Fr h₀ env.locals h m₁ → News h₀ env.locals h news₁ → Q .next { s with heap := h, toks := tk })
    (ht : ∀ it v, letOwnedTupleGo target it v = pure () := by intro _ _; rfl) (hE : PassesOwn (model prog w) A env E := by passes_own) :
    wpAny (model prog w) A (pyIter (.ref l)) (fun it s₂ => ForAt prog w A env target body Q E it s₂) E s := by
  obtain ⟨ol, hol, hrest⟩ := id hl
  have hne : l ≠ s.heap.objs.size := Nat.ne_of_lt (Heap.lt_size hol)
  refine wpAny_pyIter_list hl ?_
  have W := Walks.list (prog := prog) (w := w) hh s.heap.objs.size l hne vs.toArray
  have hlen : vs.toArray.size = vs.length := by simp
  rw [hlen] at W
  refine for_W (J := J) W ?_ ?_ ?_ ?_ ⟨⟨_, Heap.get?_push_size _ rfl, rfl, rfl⟩, hl.at fun o e => Heap.get?_push_of_some _ e⟩ (F.push _) (fun p hp => ⟨Heap.get?_push_of_some _ (N p hp).1, (N p hp).2⟩) hj muts ?_ ?_ (fun m₁ news₁ h tk hJ F' N' => done m₁ news₁ h tk hJ F' N') (ht _) hE
  · intro hm
    rcases List.mem_cons.mp hm with e | hm
    · exact absurd F.ns.lt (e ▸ Nat.lt_irrefl _)
    · exact hlL (List.mem_singleton.mp hm).symm
  · intro b hb
    rw [List.mem_singleton.mp hb]
    exact next_is_new F
  · intro i h hst b hb
    obtain ⟨⟨o, ho, _⟩, o2, ho2, _⟩ := hst
    rcases List.mem_cons.mp hb with rfl | hb
    · exact ⟨o, ho⟩
    · rw [List.mem_singleton.mp hb]; exact ⟨o2, ho2⟩
  · intro p hp hI
    exact absurd (Heap.lt_size (N p hp).1) ((List.mem_singleton.mp hI) ▸ Nat.lt_irrefl _)
  · intro a ha hm
    obtain ⟨h1, o, h2⟩ := hmf a ha
    rcases List.mem_cons.mp hm with e | hm
    · exact absurd (Heap.lt_size h2) (e ▸ Nat.lt_irrefl _)
    · exact h1 (List.mem_singleton.mp hm)
  · intro i v m₁ news₁ h tk own hin hP hJ hoff hSt F' N'
    exact turn i v m₁ news₁ h tk own (by simpa using hP) hJ hoff hSt.2 F' N'
end

/-- entering a def that has cells, and changes nothing that stood -/
theorem enterC {prog : Program} {w : World} {A : Around} {s : Shared} {Q E : Value → Shared → Prop} {K : Frag} {p : Program} {loose : List Str} {mg mb : Str → Option Value}
    {name qual : Str} {params : Arguments} {body : List Stmt} {scope : Scope} {dV kV doc pm cdv ct oc : Value} {an od : Option Addr} {osl : Array (Option Value)} {f : Addr} {vals : List Value} {binds : List (Str × Value)}
    (X : K.In s.heap) (T : TopRead p loose mg mb s.heap)
    (ho : K.lookup f = some ⟨oc, od, .func (fnOf name qual params body scope dV kV doc pm an cdv ct), osl⟩) (hcd : codeIn K cdv qual = true) (hroom : A.depth < recursionLimit)
    (hbind : BindsTo s (fnOf name qual params body scope dV kV doc pm an cdv ct) ⟨vals, []⟩ binds) (hkind : (binds.all fun y => scope.names.lookup y.1 == some .local || scope.names.lookup y.1 == some .cell) = true)
    (hnd : ((cellsFrom 0 scope.names []).map (·.1)).Nodup)
    (h : ∀ L h₁ tk cells, Fr s.heap L h₁ (bindL (envOfC qual scope L f cdv).kindOf binds fun _ => none) → News s.heap L h₁ cells → CellsAre (bindC (envOfC qual scope L f cdv).kindOf binds fun _ => none) (cellsFrom (L + 1) scope.names []) cells →
      wpAny (model prog w) (A.deeper (envOfC qual scope L f cdv)) (execs body (envOfC qual scope L f cdv))
        (fun fl s' => Q (match fl with | .ret v => v | _ => .none) s')
        (fun _ _ => False)
        { s with heap := h₁, toks := tk })
    (hco : scope.isCoroutine = false := by rfl) (hgen : scope.isGenerator = false := by rfl) (hk : scope.kind = .function := by rfl) : wpAny (model prog w) A (call (.ref f) vals) Q E s := by
  refine wpAny_call (codeAny_call_function hroom (X _ _ ho) rfl hco hgen rfl (codeRec_of X hcd) (hbind _ _ _ _ ?_))
  refine wpAny_newFunctionEnv_cells hk (kindsX hkind _) fun env' he s' x => ?_
  subst he
  refine ⟨T.nolimit.keeps x.toInCall.keep, codeAny_func ?_⟩
  obtain ⟨h₁, tk, rfl, _⟩ := x.done
  have hk₁ := x.toInCall.keep
  obtain ⟨cells, NC, Y⟩ := Cl.news (h₀ := s.heap) (Nat.le_refl _) fun n c hm => ⟨x.cell n c (lookup_of_mem_nodup (cellsFrom_names scope.names 0 (s.heap.objs.size + 1) [] [] rfl ▸ hnd) hm), x.above n c hm⟩
  exact wpAny_mono (h s.heap.objs.size h₁ tk cells ⟨x.toInCall.ns, hk₁, Nat.le_refl _⟩ NC Y) (fun _ _ z => z) (fun _ _ z => z.elim)
end Mine

-- part Cm11
open PySem PySem.W PyProof.Rows PySem.Calls
set_option Elab.async false
set_option maxRecDepth 100000
set_option maxHeartbeats 8000000
namespace Mine

section
variable {prog : Program} {w : World} {A : Around} {E : Value → Shared → Prop} {s : Shared} {K : Frag} {e C d t : Addr} {h₀ : Heap} {L : Addr} {m : Str → Option Value} {news : List (Addr × Obj)} {Q : Value → Shared → Prop}

/-- new objects onto the ledger -/
theorem news_more {h' : Heap} {os : List (Addr × Obj)} (F : Fr h₀ L s.heap m) (N : News h₀ L s.heap news) (hk : Keeps s.heap h') (ho : ∀ p ∈ os, h'.get? p.1 = some p.2 ∧ s.heap.get? p.1 = none) : News h₀ L h' (os ++ news) := by
  intro p hp
  rcases List.mem_append.mp hp with hp | hp
  · obtain ⟨h1, h2⟩ := ho p hp
    obtain ⟨oL, esL, epL, hLg, rL⟩ := F.ns
    refine ⟨h1, fun q => ?_, ?_⟩
    · rw [q, hLg] at h2; cases h2
    · cases q : h₀.get? p.1 with
      | none => rfl
      | some o => have := F.keep _ _ q; rw [h2] at this; cases this
  · exact ⟨hk _ _ (N p hp).1, (N p hp).2⟩

theorem news3 {h' : Heap} {a b c : Addr × Obj} (F : Fr h₀ L s.heap m) (N : News h₀ L s.heap news) (hk : Keeps s.heap h') (ha : h'.get? a.1 = some a.2 ∧ s.heap.get? a.1 = none) (hb : h'.get? b.1 = some b.2 ∧ s.heap.get? b.1 = none) (hc : h'.get? c.1 = some c.2 ∧ s.heap.get? c.1 = none) :
    News h₀ L h' (a :: b :: c :: news) := by
  refine news_more (os := [a, b, c]) F N hk fun p hp => ?_
  simp only [List.mem_cons, List.not_mem_nil, or_false] at hp
  rcases hp with rfl | rfl | rfl
  · exact ha
  · exact hb
  · exact hc

theorem getN {name : Str} {expr : Bool} {v : Value} {es : List DictEntry} {n : Nat} {vs : Array Value} {sl : Array (Option Value)} (H : ErrK K C) (F : Fr h₀ L s.heap m) (X : K.In h₀) (N : News h₀ L s.heap news)
    (he : (e, (⟨.ref C, some d, .fields vs, sl⟩ : Obj)) ∈ news) (hd : (d, dictOf es n) ∈ news) (hf : findIn K (.ref C) name = some none) (hl : getL name es = some (some v)) (hh : handedIn v = true) (h : Q v { s with toks := s.toks + 1 }) :
    wpAny (model prog w) A (getAttr (.ref e) name expr) Q E s := get_err_own H (X.keeps F.keep) (N.get he) (N.get hd) hf hl hh h
theorem getArgsN {expr : Bool} {dd : Option Addr} {r1 r2 r3 r4 r5 : Value} {sl : Array (Option Value)} (H : ErrK K C) (F : Fr h₀ L s.heap m) (X : K.In h₀) (N : News h₀ L s.heap news)
    (he : (e, (⟨.ref C, dd, .fields #[.ref t, r1, r2, r3, r4, r5], sl⟩ : Obj)) ∈ news) (h : Q (.ref t) { s with toks := s.toks + 1 }) :
    wpAny (model prog w) A (getAttr (.ref e) (Str.ofString "args") expr) Q E s := get_err_args H (X.keeps F.keep) (N.get he) h
theorem strN {ws : Str} {tw : Tok} {dd : Option Addr} {r1 r2 r3 r4 r5 : Value} {sl : Array (Option Value)} (H : ErrK K C) (hu : A.units + 2 < cLine) (F : Fr h₀ L s.heap m) (X : K.In h₀) (N : News h₀ L s.heap news)
    (he : (e, (⟨.ref C, dd, .fields #[.ref t, r1, r2, r3, r4, r5], sl⟩ : Obj)) ∈ news) (ht : (t, ({ cls := .type "tuple", data := .seq #[.str ws tw] } : Obj)) ∈ news) (h : Q (.str ws tw) s) :
    wpAny (model prog w) A (call (.type "str") [.ref e]) Q E s := str_err H hu (X.keeps F.keep) (N.get he) (N.get ht) h
theorem isiN {dd : Option Addr} {vs : Array Value} {sl : Array (Option Value)} (H : ErrK K C) (F : Fr h₀ L s.heap m) (X : K.In h₀) (N : News h₀ L s.heap news)
    (he : (e, (⟨.ref C, dd, .fields vs, sl⟩ : Obj)) ∈ news) (h : Q (.bool true) s) :
    wpAny (model prog w) A (call (.builtin "isinstance") [.ref e, .type "ValueError"]) Q E s := isi_err H (X.keeps F.keep) (N.get he) rfl h

/-- str(n) of an int -/
theorem str_intE {n : Int} {u : Tok} (hn : n.natAbs.log2 < 1920) (h : ∀ t' k, Q (.str (intS n) t') { s with toks := k }) : wpAny (model prog w) A (call (.type "str") [.int n u]) Q E s :=
  callType_new F.called_str (by decide) (F.typeCall_str_1 _) (F.newCall_str_1 _) (fun obj => F.args_object_init_2 obj _) F.entry_str_new
    (meets_str_new (S := fun _ R s' => ∀ t' k, R (.ok (.ret (.str (intS n) t'))) { s' with toks := k })
      fun _ _ _ _ _ hq => KPc.strOf_int hn (hq _ _))
    (fun t' k => ⟨typeIs_str _ _ _, h t' k⟩)
end
end Mine

-- part Cm12
open PySem PySem.W PyProof.Rows PySem.Calls
set_option Elab.async false
set_option maxRecDepth 100000
set_option maxHeartbeats 8000000
namespace Mine
section
variable {prog : Program} {w : World} {A : Around} {E : Value → Shared → Prop} {s : Shared} {env : Env} {h₀ : Heap} {body : List Stmt} {Q : Flow → Shared → Prop}

/-- a for over turns, by TurnEnd -/
theorem turns_W {target : Expr} {I : Addr} {fp wr : List Addr} {n : Nat} {P Md : Nat → Value → Heap → Prop} {St : Nat → Heap → Prop} {m : Str → Option Value} {news : List (Addr × Obj)}
    (W : KTurns prog w A target I fp wr n P Md St) (hLf : env.locals ∉ fp) (hwr : ∀ b ∈ wr, h₀.get? b = none) (hlive : ∀ i h, St i h → ∀ b ∈ wr, ∃ o, h.get? b = some o)
    (hnw : ∀ p ∈ news, p.1 ∉ wr) (hst : St 0 s.heap) (F : Fr h₀ env.locals s.heap m) (N : News h₀ env.locals s.heap news)
    (J : Nat → (Str → Option Value) → List (Addr × Obj) → Prop) (hj : J 0 m news) (muts : List Addr) (hmf : ∀ a ∈ muts, a ∉ fp)
    (turn : ∀ i v m₁ news₁ h tk own, i < n → P i v h → J i m₁ news₁ → OwnOff own muts → St (i + 1) h → Fr h₀ env.locals h m₁ → News h₀ env.locals h (news₁ ++ own) →
      wpAny (model prog w) A (assign target env v) (fun _ s₂ => wpAny (model prog w) A (execs body env) (TurnEnd h₀ env.locals own (J (i + 1)) news₁ h s Q) E s₂) E { s with heap := h, toks := tk })
    (done : ∀ m₁ news₁ h tk, J n m₁ news₁ → Fr h₀ env.locals h m₁ → News h₀ env.locals h news₁ → Q .next { s with heap := h, toks := tk }) :
    TurnsAt prog w A h₀ env target body Q E (.ref I) s := by
  refine ⟨I, fp, wr, n, P, Md, St, m, news, J, rfl, W, hLf, hwr, hnw, hst, F, N, hj, ?_, fun h' tk m' news' F' N' _ hJ => done m' news' h' tk hJ F' N'⟩
  intro i v m₁ news₁ hh' tk' own hin hP hJ hoff hown _ _ hSt F₁ N₁
  have N₂ : News h₀ env.locals hh' (news₁ ++ own) := fun p hp => N₁ p ((List.mem_append.mp hp).elim (fun h => List.mem_append.mpr (.inr h)) fun h => List.mem_append.mpr (.inl h))
  refine wpAny_mono (turn i v m₁ news₁ hh' tk' own hin hP hJ (fun p hp b hb e => hmf b hb (e ▸ hown p hp)) hSt F₁ N₂) (fun _ s₃ z => wpAny_mono z (fun f s₂ p => ?_) fun _ _ e => e) fun _ _ e => e
  have fin : (∃ h' tk m' news', s₂ = { s with heap := h', toks := tk } ∧ Fr h₀ env.locals h' m' ∧ News h₀ env.locals h' (news' ++ own) ∧ (∀ p ∈ news', p.1 ∈ news₁.map (·.1) ∨ hh'.get? p.1 = none) ∧ J (i + 1) m' news') → LoopStepU h₀ env.locals wr own (J (i + 1)) { s with heap := hh', toks := tk' } .next s₂ := by
    rintro ⟨h', tk, m', news', e, F', N', ha, hm⟩
    refine ⟨rfl, h', tk, m', news', e, F', fun p hp => N' p ((List.mem_append.mp hp).elim (fun h => List.mem_append.mpr (.inr h)) fun h => List.mem_append.mpr (.inl h)), fun p hp hq => ?_, hm⟩
    rcases ha p hp with h1 | h1
    · obtain ⟨q, hq1, hq2⟩ := List.mem_map.mp h1
      exact hoff q hq1 (hq2 ▸ hq)
    · obtain ⟨o, ho⟩ := hlive _ _ hSt _ hq
      rw [h1] at ho; cases ho
  cases f with
  | ret v => exact .ret p
  | brk => exact .brk p
  | next => exact .next (fin p)
  | cont => exact .cont (fin p)

/-- for .., .. in enumerate(a list) -/
theorem for_E {elts : List Expr} {k : Nat} {pos : Pos} {l : Addr} {vs : List Value} {m : Str → Option Value} {news : List (Addr × Obj)}
    (hh : A.handled = none) (hl : s.heap.IsList l vs.toArray) (hlL : l ≠ env.locals) (F : Fr h₀ env.locals s.heap m) (N : News h₀ env.locals s.heap news)
    (J : Nat → (Str → Option Value) → List (Addr × Obj) → Prop) (hj : J 0 m news) (muts : List Addr) (hmf : ∀ a ∈ muts, a ≠ l ∧ ∃ o, s.heap.get? a = some o)
    (turn : ∀ i x m₁ news₁ h tk own T t, vs[i]? = some x → J i m₁ news₁ → OwnOff own muts → h.IsList l vs.toArray → IsTup h T #[.int (i : Int) t, x] → Fr h₀ env.locals h m₁ → News h₀ env.locals h (news₁ ++ own) →
      wpAny (model prog w) A (assign (.Tuple elts k pos) env (.ref T)) (fun _ s₂ => wpAny (model prog w) A (execs body env) (TurnEnd h₀ env.locals own (J (i + 1)) news₁ h s Q) E s₂) E { s with heap := h, toks := tk })
    (done : ∀ m₁ news₁ h tk, J vs.length m₁ news₁ → Fr h₀ env.locals h m₁ → News h₀ env.locals h news₁ → Q .next { s with heap := h, toks := tk }) :
    wpAny (model prog w) A (call (.type "enumerate") [.ref l]) (fun xv s₁ => wpAny (model prog w) A (pyIter xv) (fun it s₂ => TurnsAt prog w A h₀ env (.Tuple elts k pos) body Q E it s₂) E s₁) E s := by
  obtain ⟨ol, hol, hrest⟩ := id hl
  have hlt : l < s.heap.objs.size := Heap.lt_size hol
  have hLs : env.locals < s.heap.objs.size := F.ns.lt
  refine call_enumerate_list hl fun h' hE hI hsz hk => ?_
  refine wpAny_pyIter_enum hE ?_
  have W := (KTurns.ofWalksU (elts := elts) (k := k) (pos := pos) (WalksT.enumerate (prog := prog) (w := w) hh (s.heap.objs.size + 1) s.heap.objs.size l (Nat.succ_ne_self _) (ktu_ne 1 hlt) (Nat.ne_of_lt hlt) vs.toArray).toU)
  have hlen : vs.toArray.size = vs.length := by simp
  rw [hlen] at W
  refine turns_W (J := J) (s := { s with heap := h' }) W ?_ ?_ ?_ ?_ ⟨⟨.none, hE⟩, hI, hl.at fun o e => hk l o e⟩ (F.keeps hk) (N.grown hk) hj muts ?_ ?_ (fun m₁ news₁ h tk hJ F' N' => done m₁ news₁ h tk hJ F' N')
  · intro hm
    have hb' : env.locals = s.heap.objs.size + 1 ∨ env.locals = s.heap.objs.size ∨ env.locals = l := by simpa using hm
    rcases hb' with e | e | e
    · exact ktu_ne 1 hLs e
    · exact Nat.ne_of_lt hLs e
    · exact hlL e.symm
  · intro b hb
    have hb' : b = s.heap.objs.size + 1 ∨ b = s.heap.objs.size := by simpa using hb
    rcases hb' with rfl | rfl
    · exact ktu_new F (Nat.le_add_right _ _)
    · exact ktu_new F (Nat.le_refl _)
  · rintro i h ⟨⟨old, he⟩, ⟨oi, hoi, hic, _⟩, _⟩ b hb
    have hb' : b = s.heap.objs.size + 1 ∨ b = s.heap.objs.size := by simpa using hb
    rcases hb' with rfl | rfl
    · exact ⟨_, he⟩
    · exact ⟨_, hoi⟩
  · intro p hp hI'
    have hb' : p.1 = s.heap.objs.size + 1 ∨ p.1 = s.heap.objs.size := by simpa using hI'
    have hlp := Heap.lt_size (N p hp).1
    rcases hb' with e | e
    · exact ktu_ne 1 hlp e
    · exact Nat.ne_of_lt hlp e
  · intro a ha hm
    obtain ⟨h1, o, h2⟩ := hmf a ha
    have h3 := Heap.lt_size h2
    have hb' : a = s.heap.objs.size + 1 ∨ a = s.heap.objs.size ∨ a = l := by simpa using hm
    rcases hb' with e | e | e
    · exact ktu_ne 1 h3 e
    · exact Nat.ne_of_lt h3 e
    · exact h1 e
  · rintro i v m₁ news₁ h tk own hin ⟨T, vals, rfl, ⟨t, x, hx, rfl⟩, hT⟩ hJ hoff hSt F' N'
    exact turn i x m₁ news₁ h tk own T t (by simpa using hx) hJ hoff hSt.2.2 hT F' N'

/-- for .. in a list / a tuple, wherever it lies -/
theorem for_LT {target : Expr} {l : Addr} {vs : List Value} {m : Str → Option Value} {news : List (Addr × Obj)}
    (hh : A.handled = none) (hl : s.heap.IsList l vs.toArray) (hlL : l ≠ env.locals) (F : Fr h₀ env.locals s.heap m) (N : News h₀ env.locals s.heap news)
    (J : Nat → (Str → Option Value) → List (Addr × Obj) → Prop) (hj : J 0 m news) (muts : List Addr) (hmf : ∀ a ∈ muts, a ≠ l ∧ ∃ o, s.heap.get? a = some o)
    (turn : ∀ i v m₁ news₁ h tk own, vs[i]? = some v → J i m₁ news₁ → OwnOff own muts → h.IsList l vs.toArray → Fr h₀ env.locals h m₁ → News h₀ env.locals h (news₁ ++ own) →
      wpAny (model prog w) A (assign target env v) (fun _ s₂ => wpAny (model prog w) A (execs body env) (TurnEnd h₀ env.locals own (J (i + 1)) news₁ h s Q) E s₂) E { s with heap := h, toks := tk })
    (done : ∀ m₁ news₁ h tk, J vs.length m₁ news₁ → Fr h₀ env.locals h m₁ → News h₀ env.locals h news₁ → Q .next { s with heap := h, toks := tk }) :
    wpAny (model prog w) A (pyIter (.ref l)) (fun it s₂ => TurnsAt prog w A h₀ env target body Q E it s₂) E s := by
  obtain ⟨ol, hol, hrest⟩ := id hl
  have hne : l ≠ s.heap.objs.size := Nat.ne_of_lt (Heap.lt_size hol)
  refine wpAny_pyIter_list hl ?_
  have W := KTurns.ofWalks (target := target) (Walks.list (prog := prog) (w := w) hh s.heap.objs.size l hne vs.toArray) fun i v s Q E st q => letGo_listiter st.1 q
  have hlen : vs.toArray.size = vs.length := by simp
  rw [hlen] at W
  refine turns_W (J := J) (s := { s with heap := _ }) W ?_ ?_ ?_ ?_ ⟨⟨_, Heap.get?_push_size _ rfl, rfl, rfl⟩, hl.at fun o e => Heap.get?_push_of_some _ e⟩ (F.push _) (fun p hp => ⟨Heap.get?_push_of_some _ (N p hp).1, (N p hp).2⟩) hj muts ?_ ?_ (fun m₁ news₁ h tk hJ F' N' => done m₁ news₁ h tk hJ F' N')
  · intro hm
    rcases List.mem_cons.mp hm with e | hm
    · exact absurd F.ns.lt (e ▸ Nat.lt_irrefl _)
    · exact hlL (List.mem_singleton.mp hm).symm
  · intro b hb
    rw [List.mem_singleton.mp hb]
    exact next_is_new F
  · intro i h hst b hb
    rw [List.mem_singleton.mp hb]
    obtain ⟨⟨o, ho, _⟩, _⟩ := hst
    exact ⟨o, ho⟩
  · intro p hp hI
    exact absurd (Heap.lt_size (N p hp).1) ((List.mem_singleton.mp hI) ▸ Nat.lt_irrefl _)
  · intro a ha hm
    obtain ⟨h1, o, h2⟩ := hmf a ha
    rcases List.mem_cons.mp hm with e | hm
    · exact absurd (Heap.lt_size h2) (e ▸ Nat.lt_irrefl _)
    · exact h1 (List.mem_singleton.mp hm)
  · intro i v m₁ news₁ h tk own hin hP hJ hoff hSt F' N'
    exact turn i v m₁ news₁ h tk own (by simpa using hP) hJ hoff hSt.2 F' N'
theorem for_TT {target : Expr} {l : Addr} {vs : List Value} {m : Str → Option Value} {news : List (Addr × Obj)}
    (hh : A.handled = none) (hl : s.heap.IsTuple l vs.toArray) (hlL : l ≠ env.locals) (F : Fr h₀ env.locals s.heap m) (N : News h₀ env.locals s.heap news)
    (J : Nat → (Str → Option Value) → List (Addr × Obj) → Prop) (hj : J 0 m news) (muts : List Addr) (hmf : ∀ a ∈ muts, a ≠ l ∧ ∃ o, s.heap.get? a = some o)
    (turn : ∀ i v m₁ news₁ h tk own, vs[i]? = some v → J i m₁ news₁ → OwnOff own muts → h.IsTuple l vs.toArray → Fr h₀ env.locals h m₁ → News h₀ env.locals h (news₁ ++ own) →
      wpAny (model prog w) A (assign target env v) (fun _ s₂ => wpAny (model prog w) A (execs body env) (TurnEnd h₀ env.locals own (J (i + 1)) news₁ h s Q) E s₂) E { s with heap := h, toks := tk })
    (done : ∀ m₁ news₁ h tk, J vs.length m₁ news₁ → Fr h₀ env.locals h m₁ → News h₀ env.locals h news₁ → Q .next { s with heap := h, toks := tk }) :
    wpAny (model prog w) A (pyIter (.ref l)) (fun it s₂ => TurnsAt prog w A h₀ env target body Q E it s₂) E s := by
  obtain ⟨ol, hol, hrest⟩ := id hl
  have hne : l ≠ s.heap.objs.size := Nat.ne_of_lt (Heap.lt_size hol)
  refine wpAny_pyIter_tuple hl ?_
  have W := KTurns.ofWalks (target := target) (Walks.tuple (prog := prog) (w := w) hh s.heap.objs.size l hne vs.toArray) fun i v s Q E st q => letGo_tupleiter st.1 q
  have hlen : vs.toArray.size = vs.length := by simp
  rw [hlen] at W
  refine turns_W (J := J) (s := { s with heap := _ }) W ?_ ?_ ?_ ?_ ⟨⟨_, Heap.get?_push_size _ rfl, rfl, rfl⟩, hl.at fun o e => Heap.get?_push_of_some _ e⟩ (F.push _) (fun p hp => ⟨Heap.get?_push_of_some _ (N p hp).1, (N p hp).2⟩) hj muts ?_ ?_ (fun m₁ news₁ h tk hJ F' N' => done m₁ news₁ h tk hJ F' N')
  · intro hm
    rcases List.mem_cons.mp hm with e | hm
    · exact absurd F.ns.lt (e ▸ Nat.lt_irrefl _)
    · exact hlL (List.mem_singleton.mp hm).symm
  · intro b hb
    rw [List.mem_singleton.mp hb]
    exact next_is_new F
  · intro i h hst b hb
    rw [List.mem_singleton.mp hb]
    obtain ⟨⟨o, ho, _⟩, _⟩ := hst
    exact ⟨o, ho⟩
  · intro p hp hI
    exact absurd (Heap.lt_size (N p hp).1) ((List.mem_singleton.mp hI) ▸ Nat.lt_irrefl _)
  · intro a ha hm
    obtain ⟨h1, o, h2⟩ := hmf a ha
    rcases List.mem_cons.mp hm with e | hm
    · exact absurd (Heap.lt_size h2) (e ▸ Nat.lt_irrefl _)
    · exact h1 (List.mem_singleton.mp hm)
  · intro i v m₁ news₁ h tk own hin hP hJ hoff hSt F' N'
    exact turn i v m₁ news₁ h tk own (by simpa using hP) hJ hoff hSt.2 F' N'
end
/-- what a map of locals is known to hold, put first -/
theorem m_put {x : Str} {m : Str → Option Value} {v : Option Value} (h : m x = v) : m = fun y => if y = x then v else m y := by
  funext z
  by_cases q : z = x
  · rw [if_pos q, q, h]
  · rw [if_neg q]
end Mine

-- part Cm13
open PySem PySem.W PyProof.Rows PySem.Calls
set_option Elab.async false
set_option maxRecDepth 100000
set_option maxHeartbeats 2000000
namespace Mine
theorem fillsI_list : fillsInplaceSlot (.type "list") "add" (Operator.Add == .Add) = pure false := by
  unfold fillsInplaceSlot
  show (typeLookup (.type "list") (dunderI "add") >>= fun fi => pure (fi.isSome && !isSeqSlot fi)) = pure false
  rw [PySem.F.slot_list_iadd.lookup]
  have : isSeqSlot (some (.builtin "list.__iadd__")) = true := by decide +kernel
  rw [pure_bind, this]; rfl
theorem seqI_list : seqSlot? (.type "list") (dunderI "add") = pure (some (.builtin "list.__iadd__")) := PySem.seqSlot_of PySem.F.slot_list_iadd.lookup (by decide +kernel)
section
variable {prog : Program} {w : World} {A : Around} {E : Value → Shared → Prop} {s : Shared} {h₀ : Heap} {L D B : Addr} {m : Str → Option Value} {news : List (Addr × Obj)} {Q : Value → Shared → Prop}
theorem inplace_list {a b : Value} (ha : s.TypeIs a "list") (hb : s.TypeIs b "list") (hc : wpAny (model prog w) A (call (.builtin "list.__iadd__") [a, b]) Q E s) : wpAny (model prog w) A (inplaceOp .Add a b) Q E s := by
  unfold inplaceOp
  refine wpAny_holding ?_
  refine wpAny_bind (wpAny_typeOf ha (wpAny_bind (wpAny_of_eq fillsI_list ?_)))
  show wpAny _ A (if false = true then _ else _) Q E s
  rw [if_neg Bool.false_ne_true]
  refine wpAny_bind (wpAny_binaryOp1_none (nm := "add") ha hb noFill_list_add ?_)
  refine wpAny_bind (wpAny_of_eq seqI_list ?_)
  exact wpAny_bind (wpAny_rule hc)
/-- D += B, two lists -/
theorem iaddN {us ws : List Value} {c n2 : Nat} {g : Obj → List (Addr × Obj)} (F : Fr h₀ L s.heap m) (N : News h₀ L s.heap news) (U : UpdF D (W.listOf us.toArray c) news g) (hb : (B, W.listOf ws.toArray n2) ∈ news) (hw : ws ≠ []) (hz : us.length + ws.length ≤ 1000000)
    (h : ∀ h' c', Fr h₀ L h' m → News h₀ L h' (g (W.listOf (us ++ ws).toArray c')) → Q (.ref D) { s with heap := h' }) :
    wpAny (model prog w) A (inplaceOp .Add (.ref D) (.ref B)) Q E s := by
  have U' := upd_of_updF U (W.listOf (us ++ ws).toArray (c + 1))
  obtain ⟨pre, post, e1, e2, a, b⟩ := U'.split
  subst e1
  have z := N (D, W.listOf us.toArray c) (List.mem_append.mpr (.inr (.head _)))
  have y := N _ hb
  have hl0 : 0 < ws.length := List.length_pos_iff.mpr hw
  refine inplace_list ⟨_, z.1, rfl⟩ ⟨_, y.1, rfl⟩ ?_
  refine call_meets PySem.F.slot_list_iadd ⟨_, z.1, rfl⟩ PySem.F.entry_list_iadd (PySem.F.args_list_iadd_2 _ _) (PySem.AutoSeq1.list___iadd___list_list_0 D us.toArray c B ws.toArray n2 ?_ ?_ ?_) ⟨z.1, y.1, h _ (c + 1) (F.change (Heap.SameBut.update ..) z.2.1 z.2.2) ?_⟩
  · unfold Builtin.List.listTooLong
    have : decide (us.toArray.size + ws.toArray.size > sizeLine) = false := by rw [sizeLine_eq, decide_eq_false_iff_not]; simp only [List.size_toArray]; omega
    rw [this, Bool.and_false]; exact Bool.false_ne_true
  · rw [sizeLine_eq, List.size_toArray]; omega
  · rw [sizeLine_eq, List.size_toArray, List.size_toArray]; omega
  · rw [e2]
    refine kl_turn _ N a b (by simp) ?_
    simp only [List.size_toArray, List.length_append]
    omega
end
end Mine

-- part Pl
open PySem PySem.W PyProof.Rows PySem.Calls
set_option Elab.async false
set_option maxRecDepth 100000
set_option maxHeartbeats 8000000
namespace Mine
open PySem.Builtin PySem.Builtin.Str

/-- line ends among the first k signs; the column that a walk over the first k signs comes to -/
def nlc (cs : List Nat) (k : Nat) : Nat := (cs.take k).count 10
def colf (cs : List Nat) : Nat → Int
  | 0 => 1
  | k + 1 => if cs[k]? = some 10 then 1 else colf cs k + 1

theorem nlc_succ (cs : List Nat) (k : Nat) : nlc cs (k + 1) = nlc cs k + (if cs[k]? = some 10 then 1 else 0) := by
  unfold nlc
  rw [List.take_add_one, List.count_append]
  cases h : cs[k]? with
  | none => simp
  | some c => simp only [Option.toList_some, List.count_singleton, Option.some.injEq]; congr 1; simp
theorem colf_pos (cs : List Nat) : ∀ k, 1 ≤ colf cs k
  | 0 => by simp [colf]
  | k + 1 => by unfold colf; split; · omega
                · have := colf_pos cs k; omega
theorem colf_le (cs : List Nat) : ∀ k : Nat, colf cs k ≤ k + 1
  | 0 => by simp [colf]
  | k + 1 => by unfold colf; split; · omega
                · have := colf_le cs k; omega
theorem colf_none {cs : List Nat} : ∀ {k : Nat}, (∀ i, i < k → cs[i]? ≠ some 10) → colf cs k = k + 1
  | 0, _ => by simp [colf]
  | k + 1, h => by
    unfold colf
    rw [if_neg (h k (by omega)), colf_none fun i hi => h i (by omega)]
    omega
theorem colf_last {cs : List Nat} : ∀ {k i : Nat}, i < k → cs[i]? = some 10 → (∀ j, i < j → j < k → cs[j]? ≠ some 10) → colf cs k = k - i
  | 0, _, h, _, _ => absurd h (Nat.not_lt_zero _)
  | k + 1, i, h, h1, h2 => by
    unfold colf
    by_cases q : i = k
    · subst q; rw [if_pos h1]; omega
    · rw [if_neg (h2 k (by omega) (by omega)), colf_last (by omega) h1 fun j a b => h2 j a (by omega)]
      omega

theorem lst_nl : lst nl = [10] := by decide
theorem len_nl : nl.length = 1 := by decide
theorem at_nl (x : Str) (hi i : Nat) : StrLaws.At x nl hi i ↔ i + 1 ≤ hi ∧ (lst x)[i]? = some 10 := by
  rw [at_iff, len_nl, lst_nl]
  constructor
  · rintro ⟨h1, h2⟩
    refine ⟨h1, ?_⟩
    have := congrArg (fun l => l[0]?) h2
    simpa [List.getElem?_take, List.getElem?_drop] using this
  · rintro ⟨h1, h2⟩
    refine ⟨h1, ?_⟩
    have hlt := (List.getElem?_eq_some_iff.mp h2).1
    rw [List.drop_eq_getElem_cons hlt]
    have := (List.getElem?_eq_some_iff.mp h2).2
    simp [this]

theorem occ_run (x : Str) (hi limit : Nat) : ∀ (l : List Nat) (st : Array Nat × Nat), l.Pairwise (· < ·) → (∀ i ∈ l, st.2 ≤ i) → st.1.size + l.length ≤ limit →
    (forIn l st (StrLaws.occBody x nl hi limit)).run.fst.size = st.1.size + l.countP (fun i => decide (i + 1 ≤ hi ∧ (lst x)[i]? = some 10))
  | [], st, _, _, _ => by simp
  | a :: l, st, hp, hs, hl => by
    rw [List.forIn_cons]
    have hp' := List.pairwise_cons.mp hp
    simp only [List.length_cons] at hl
    unfold StrLaws.occBody
    by_cases hc : a + 1 ≤ hi ∧ (lst x)[a]? = some 10
    · have hat := (at_nl x hi a).mpr hc
      rw [if_pos ⟨⟨⟨by omega, hs a (by simp)⟩, by rw [len_nl]; exact hc.1⟩, hat.2⟩]
      have := occ_run x hi limit l (st.1.push a, a + nl.length) hp'.2 (fun i hi' => by rw [len_nl]; exact hp'.1 i hi') (by simp only [Array.size_push]; omega)
      simp only [Array.size_push] at this
      refine this.trans ?_
      rw [List.countP_cons_of_pos (by simpa using hc)]
      omega
    · rw [if_neg (fun q => hc ((at_nl x hi a).mp ⟨q.1.2, q.2⟩))]
      have := occ_run x hi limit l (st.1, st.2) hp'.2 (fun i hi' => hs i (by simp [hi'])) (by show st.1.size + l.length ≤ limit; omega)
      refine this.trans ?_
      rw [List.countP_cons_of_neg (by simpa using hc)]

theorem countP_range (cs : List Nat) : ∀ hi : Nat, (List.range' 0 (hi + 1)).countP (fun i => decide (i + 1 ≤ hi ∧ cs[i]? = some 10)) = nlc cs hi := by
  have key : ∀ hi k : Nat, k ≤ hi → (List.range' 0 k).countP (fun i => decide (i + 1 ≤ hi ∧ cs[i]? = some 10)) = nlc cs k := by
    intro hi k
    induction k with
    | zero => intro _; simp [nlc]
    | succ k ih =>
      intro hk
      rw [List.range'_1_concat, List.countP_append, ih (by omega), nlc_succ]
      congr 1
      simp only [Nat.zero_add, List.countP_singleton, decide_eq_true_eq]
      by_cases q : cs[k]? = some 10
      · rw [if_pos ⟨by omega, q⟩, if_pos q]
      · rw [if_neg (fun z => q z.2), if_neg q]
  intro hi
  rw [List.range'_1_concat, List.countP_append, key hi hi (Nat.le_refl _)]
  simp
  omega
theorem occ_nl (x : Str) (hi : Nat) (h : hi ≤ x.length) : (occurrences x nl 0 hi (x.length + 1)).length = nlc (lst x) hi := by
  rw [StrLaws.occ_eq]
  have := occ_run x hi (x.length + 1) (List.range' 0 (hi + 1 - 0)) (#[], 0) (by simpa using List.pairwise_lt_range' (s := 0) (n := hi + 1)) (fun i _ => Nat.zero_le _) (by simp; omega)
  rw [Array.length_toList]
  refine this.trans ?_
  simp only [List.size_toArray, List.length_nil, Nat.zero_add, Nat.sub_zero]
  exact countP_range (lst x) hi

theorem last_nl (x : Str) (hi : Nat) : (match lastOccurrence x nl 0 hi with | some i => (i : Int) | none => -1) = hi - colf (lst x) hi := by
  rw [StrLaws.last_eq]
  have key := StrLaws.last_run x nl hi (List.range' 0 (hi + 1 - 0)) [] none (fun _ h => nomatch h) (fun _ h => nomatch h) (by simpa using List.pairwise_lt_range' (s := 0) (n := hi + 1))
  have mem : ∀ i, i + 1 ≤ hi → i ∈ [] ++ List.range' 0 (hi + 1 - 0) := fun i hi => by simp [List.mem_range']; omega
  cases hr : (forIn (List.range' 0 (hi + 1 - 0)) none (StrLaws.lastBody x nl hi)).run with
  | none =>
    rw [hr] at key
    have : ∀ i, i < hi → (lst x)[i]? ≠ some 10 := fun i h1 h2 => key i (mem i (by omega)) ((at_nl x hi i).mpr ⟨by omega, h2⟩)
    rw [colf_none this]
    show (-1 : Int) = _
    omega
  | some a =>
    rw [hr] at key
    obtain ⟨h1, h2⟩ := key
    obtain ⟨h3, h4⟩ := (at_nl x hi a).mp h1
    rw [colf_last (by omega) h4 (fun j a1 a2 q => h2 j (mem j (by omega)) a1 ((at_nl x hi j).mpr ⟨by omega, q⟩))]
    show (a : Int) = _
    omega

theorem hiOf_le (n : Nat) (p : Int) : hiOf n p ≤ n := by unfold hiOf; omega
theorem ln_eq (x : Str) (p : Int) : lnOf x p = nlc (lst x) (hiOf x.length p) + 1 := by
  unfold lnOf cnt
  rw [occ_nl x _ (hiOf_le _ _)]
theorem cn_eq (x : Str) (p : Int) : cnOf x p = colf (lst x) (hiOf x.length p) + (p - hiOf x.length p) := by
  have := last_nl x (hiOf x.length p)
  show p - (match lastOccurrence x nl 0 (hiOf x.length p) with | some i => (i : Int) | none => -1) = _
  omega
theorem hiOf_in {n : Nat} {k : Nat} (h : k ≤ n) : hiOf n k = k := by unfold hiOf; split <;> omega
theorem ln_in (x : Str) {k : Nat} (h : k ≤ x.length) : lnOf x k = nlc (lst x) k + 1 := by rw [ln_eq, hiOf_in h]
theorem cn_in (x : Str) {k : Nat} (h : k ≤ x.length) : cnOf x k = colf (lst x) k := by rw [cn_eq, hiOf_in h]; omega
theorem nlc_le (cs : List Nat) (k : Nat) : nlc cs k ≤ k := by
  unfold nlc
  exact Nat.le_trans List.count_le_length (by rw [List.length_take]; omega)
end Mine

-- part Er01
open PySem PySem.W PyProof.Rows PySem.Calls
set_option Elab.async false
set_option maxRecDepth 100000
set_option maxHeartbeats 8000000
set_option rowWalk.seconds 0
namespace Mine
theorem errK (w : World) : ErrK (hd.heap_39 w.params) 38 where
  cls := ⟨_, rfl, rfl, rfl⟩
  sa := by rfl
  ga := by rfl
  hook := by rfl
  str := by rfl
  args := by rfl
  nmsg := by rfl
  ndoc := by rfl
  npos := by rfl
  nlin := by rfl
  ncol := by rfl
section
local macro_rules | `(tactic| walk_at "call builtin:str.count") => `(tactic| (refine call_count4 ?_))
local macro_rules | `(tactic| walk_at "call builtin:str.rfind") => `(tactic| (refine call_rfind4 ?_))
local macro_rules | `(tactic| walk_at "binaryOp Mod str ref") => `(tactic| (refine mod_words (News.isTup (by assumption) (by k_mem)) (by assumption) (by assumption) (by assumption) (by assumption) ?_; intro _ _))
local macro_rules | `(tactic| walk_at "getMethod type:ValueError") => `(tactic| (refine method_vinit (K := hd.heap_39 _) (by assumption) (by assumption) ?_))
local macro_rules | `(tactic| walk_at "call builtin:ValueError.__init__") => `(tactic| (refine vinitN (errK _) (by assumption) (by assumption) (by assumption) (by k_updF) ?_; intro d' h' F' N' l1; (try k_lt l1)))
local macro_rules | `(tactic| walk_at "setAttr ref") => `(tactic| (refine set_moreN (errK _) (by assumption) (by assumption) (by assumption) (by k_mem) (by k_updF) (by rfl) (by k_get) (Nat.le_of_ble_eq_true rfl) (by k_put) ?_; intro h' F' N'))
local macro_rules | `(tactic| walk_at "setAttr ref") => `(tactic| (refine set_firstN (errK _) (by assumption) (by assumption) (by assumption) (by k_updF) (by rfl) ?_; intro d' h' F' N' l1; (try k_lt l1)))
theorem c_init {w : World} {A : Around} {s : Shared} {Q E : Value → Shared → Prop} {p : Program} {loose : List Str} {mg mb : Str → Option Value} {g : Heap} {e t : Addr} {msg doc : Str} {pos : Int} {t1 t2 t3 : Tok}
    (hk : Keeps g s.heap) (hsz : g.objs.size ≤ s.heap.objs.size)
    (he : s.heap.get? e = some { cls := .ref 38, data := .fields #[.ref t, .none, .none, .none, .bool false, .none] }) (hge : g.get? e = none)
    (X : (hd.heap_39 w.params).In g) (T : TopRead p loose mg mb g) (hroom : A.depth + 1 < recursionLimit)
    (hm : msg.length ≤ 1000000) (hl : (cnt doc (Str.ofString "\n") pos + 1).natAbs.log2 < 1920) (hc : (pos - rfd doc (Str.ofString "\n") pos).natAbs.log2 < 1920) (hp : pos.natAbs.log2 < 1920)
    (h : ∀ h' tk os, Keeps g h' → (∀ p ∈ os, h'.get? p.1 = some p.2 ∧ g.get? p.1 = none) → ErrIn w 38 os e msg doc pos (lnOf doc pos) (cnOf doc pos) (wordsOf msg (lnOf doc pos) (cnOf doc pos) pos) → Q (.none) { s with heap := h', toks := tk }) :
    wpAny (model PySem.Challenge.rw_dm0193_01.row.prog w) A (call (.ref 28) [.ref e, .str msg t1, .str doc t2, .int pos t3]) Q E s := by
  revert X; k_fill; intro X
  refine enterM (binds := [("self", .ref e), ("msg", .str msg t1), ("doc", .str doc t2), ("pos", .int pos t3)]) [(e, _)] g hk hsz (by intro q hq; cases hq with | head => exact ⟨he, hge⟩ | tail _ hq => cases hq) X T (by rfl) (by rfl) (by omega) (BindsTo.of_eq rfl) (locs rfl) ?_
  intro L h₁ F N hlt
  w_strict (k_steps)
  (rename News _ _ _ _ => N9)
  refine h _ _ _ (Fr.keep (by assumption)) (fun p hp => ⟨(N9 p hp).1, (N9 p hp).2.2⟩) ⟨_, _, _, _, _, _, _, _, _, _, _, _, _, _, _, _, _, _, _, (by k_mem), (by k_mem), (by k_mem)⟩
end

theorem ns_some_of {K : Frag} {h : Heap} {N : Addr} {mN : Str → Option Value} {n : Str} {v : Value} (X : K.In h) (G : h.Ns N mN) (e : nsIn K N n = some (some v)) : mN n = some v := by
  obtain ⟨o, es, ep, ho, hd, _, hf⟩ := G
  simp only [nsIn] at e
  split at e <;> try contradiction
  next q =>
    have hx := X _ _ q
    rw [ho] at hx
    injection hx with hx
    subst hx
    injection hd with h1 h2
    subst h1
    rw [← hf, nsFind, findBy, ← Array.find?_toList]
    split at e
    next en he => rw [he]; exact Option.some.inj e
    next => split at e <;> cases e

theorem c_make {w : World} {A : Around} {s : Shared} {Q E : Value → Shared → Prop} {p : Program} {loose : List Str} {mg mb : Str → Option Value} {msg doc : Str} {pos : Int} {t1 t2 t3 : Tok}
    (X : (hd.heap_39 w.params).In s.heap) (T : TopRead p loose mg mb s.heap) (hroom : A.depth + 2 < recursionLimit)
    (hm : msg.length ≤ 1000000) (hl : (lnOf doc pos).natAbs.log2 < 1920) (hc : (cnOf doc pos).natAbs.log2 < 1920) (hp : pos.natAbs.log2 < 1920)
    (h : ∀ h' tk e os, Keeps s.heap h' → (∀ p ∈ os, h'.get? p.1 = some p.2 ∧ s.heap.get? p.1 = none) → ErrIn w 38 os e msg doc pos (lnOf doc pos) (cnOf doc pos) (wordsOf msg (lnOf doc pos) (cnOf doc pos) pos) → Q (.ref e) { s with heap := h', toks := tk }) :
    wpAny (model PySem.Challenge.rw_dm0193_01.row.prog w) A (call (.ref 38) [.str msg t1, .str doc t2, .int pos t3]) Q E s := by
  have hC := X 38 _ rfl
  have hN : s.heap.Ns 37 _ := .of_isNs (isNs_of_in X (by kernel_rfl))
  have hi : s.heap.nsMap 37 "__init__" = some (.ref 28) := ns_some_of X hN (by kernel_rfl)
  refine wpAny_call_exc_init (h := s.heap) PySem.F.excBase_ValueError hC hN hi (X 28 _ rfl) rfl (fun h' e hm' => ?_)
  obtain ⟨hk, hne, t, het, _⟩ := hm'
  have hkg : Keeps s.heap (hideAll h' [e]) := of_hide_base hk (by intro a ha; rw [List.mem_singleton.mp ha]; exact hne)
  refine c_init (g := hideAll h' [e]) (fun b o q => of_hideAll _ q) (by rw [hideAll_size]; exact Nat.le_refl _) het (hideAll_none _ (by simp)) (X.keeps hkg) (T.keeps hkg) (by rw [depth_under_make]; omega) hm hl hc hp (fun h'' tk os k1 k2 k3 => ⟨rfl, ?_⟩)
  refine h h'' tk e os (fun b o q => k1 _ _ (hkg _ _ q)) (fun p hp => ⟨(k2 p hp).1, ?_⟩) k3
  cases q : s.heap.get? p.1 with
  | none => rfl
  | some o => have := hkg _ _ q; rw [(k2 p hp).2] at this; cases this
end Mine

-- part P1
open PySem PySem.W PyProof.Rows PySem.Calls
set_option Elab.async false
set_option maxRecDepth 100000
set_option maxHeartbeats 8000000
namespace Mine
theorem nlc_free {a b : List Nat} {k : Nat} (hf : 10 ∉ a) (hk : k ≤ a.length) : nlc (a ++ b) k = 0 := by
  unfold nlc
  rw [List.take_append_of_le_length hk, List.count_eq_zero]
  exact fun q => hf (List.mem_of_mem_take q)
theorem colf_free {a b : List Nat} {k : Nat} (hf : 10 ∉ a) (hk : k ≤ a.length) : colf (a ++ b) k = k + 1 := by
  refine colf_none fun i hi q => ?_
  rw [List.getElem?_append_left (by omega)] at q
  exact hf (List.mem_of_getElem? q)
theorem take_past {a d : List Nat} {k : Nat} : (a ++ 10 :: d).take (a.length + 1 + k) = a ++ 10 :: d.take k := by
  rw [List.take_append, List.take_of_length_le (by omega)]
  congr 1
  rw [show a.length + 1 + k - a.length = k + 1 by omega, List.take_succ_cons]
theorem nlc_past {a d : List Nat} {k : Nat} (hf : 10 ∉ a) : nlc (a ++ 10 :: d) (a.length + 1 + k) = nlc d k + 1 := by
  unfold nlc
  rw [take_past, List.count_append, List.count_eq_zero.mpr hf, List.count_cons_self]
  omega
theorem colf_past {a d : List Nat} : ∀ k : Nat, colf (a ++ 10 :: d) (a.length + 1 + k) = colf d k
  | 0 => by
    show colf (a ++ 10 :: d) (a.length + 1) = 1
    unfold colf
    rw [if_pos (by simp)]
  | k + 1 => by
    show colf (a ++ 10 :: d) ((a.length + 1 + k) + 1) = colf d (k + 1)
    unfold colf
    rw [colf_past k]
    have : (a ++ 10 :: d)[a.length + 1 + k]? = d[k]? := by
      rw [List.getElem?_append_right (by omega), show a.length + 1 + k - a.length = k + 1 by omega, List.getElem?_cons_succ]
    rw [this]
theorem lst_join2 (a b : Str) (r : List Str) : lst (Str.join nl (a :: b :: r)) = lst a ++ 10 :: lst (Str.join nl (b :: r)) := by
  show lst (a ++ nl ++ Str.join nl (b :: r)) = _
  rw [lst_append, lst_append, lst_nl]; simp
/-- the lines of a text, and the place k in it -/
theorem lines_at : ∀ (ls : List Str) (d : List Nat) (k : Nat), ls ≠ [] → (∀ p ∈ ls, 10 ∉ lst p) → d = lst (Str.join nl ls) → k ≤ d.length →
    ∃ l, ls[nlc d k]? = some l ∧ colf d k ≤ l.length + 1 ∧ lst (Str.join nl (ls.take (nlc d k) ++ [Txt.slice l none (some (colf d k - 1))])) = d.take k ∧ (k = d.length → nlc d k + 1 = ls.length ∧ colf d k = l.length + 1)
  | [], _, _, h, _, _, _ => absurd rfl h
  | [a], d, k, _, hf, hd, hk => by
    have ha := hf a (by simp)
    have e : d = lst a ++ [] := by rw [hd, List.append_nil]; rfl
    have hk' : k ≤ (lst a).length := by rw [e] at hk; simpa using hk
    rw [e, nlc_free ha hk', colf_free ha hk']
    refine ⟨a, rfl, by rw [lst_len] at hk'; omega, ?_, fun q => ?_⟩
    · show lst (Txt.slice a none (some _)) = _
      rw [slice_to (by omega) (by rw [lst_len] at hk'; omega), List.append_nil]
      congr 1
      omega
    · simp only [List.append_nil] at q
      rw [lst_len] at q
      exact ⟨rfl, by omega⟩
  | a :: b :: r, d, k, _, hf, hd, hk => by
    have ha := hf a (by simp)
    rw [lst_join2] at hd
    by_cases q : k ≤ (lst a).length
    · rw [hd, nlc_free ha q, colf_free ha q]
      refine ⟨a, rfl, by rw [lst_len] at q; omega, ?_, fun q' => ?_⟩
      · show lst (Txt.slice a none (some _)) = _
        rw [slice_to (by omega) (by rw [lst_len] at q; omega), List.take_append_of_le_length q]
        congr 1
        omega
      · rw [List.length_append, List.length_cons] at q'; omega
    · obtain ⟨k', rfl⟩ : ∃ k', k = (lst a).length + 1 + k' := ⟨k - (lst a).length - 1, by omega⟩
      rw [hd] at hk ⊢
      rw [nlc_past ha, colf_past, take_past]
      simp only [List.length_append, List.length_cons] at hk
      obtain ⟨l, h1, h2, h3, h4⟩ := lines_at (b :: r) _ k' (by simp) (fun p hp => hf p (by simp [hp])) rfl (by omega)
      refine ⟨l, by simpa using h1, h2, ?_, fun q' => ?_⟩
      · rw [List.take_succ_cons, List.cons_append]
        cases e : (b :: r).take (nlc (lst (Str.join nl (b :: r))) k') ++ [Txt.slice l none (some (colf (lst (Str.join nl (b :: r))) k' - 1))] with
        | nil => simp at e
        | cons x y => rw [lst_join2, ← e, h3]
      · simp only [List.length_append, List.length_cons] at q'
        obtain ⟨h5, h6⟩ := h4 (by omega)
        exact ⟨by simp only [List.length_cons] at h5 ⊢; omega, h6⟩
theorem lines_ne (x : Str) : Txt.split x nl ≠ [] := fun q => by have := split_pos x nl; rw [q] at this; simp at this
theorem lines_free (x : Str) : ∀ p ∈ Txt.split x nl, 10 ∉ lst p := StrLaws.split_free x 10
theorem lines_join (x : Str) : Str.join nl (Txt.split x nl) = x := StrLaws.join_split x nl
end Mine

-- part S1
open PySem PySem.W PyProof.Rows PySem.Calls
set_option Elab.async false
set_option maxRecDepth 100000
set_option maxHeartbeats 8000000
set_option rowWalk.seconds 0
namespace Mine
theorem ok_append {x y : Str} (hx : PyData.strOk x = true) (hy : PyData.strOk y = true) : PyData.strOk (x ++ y) = true := by
  unfold PyData.strOk at *
  show (x.cps ++ y.cps).all _ = true
  rw [Array.all_append, hx, hy]; rfl
theorem ok_lit (z : String) : PyData.strOk (Str.ofString z) = true := by
  unfold PyData.strOk
  rw [← Array.all_toList, signs_ofString, List.all_eq_true]
  intro c hc
  obtain ⟨ch, _, rfl⟩ := List.mem_map.mp hc
  rw [decide_eq_true_eq]
  have := ch.valid
  rcases this with q | q
  · exact Nat.lt_trans q (by decide)
  · exact q.2
def pcs : List Str := [Str.ofString "\n", Str.ofString "a", Str.ofString "\x0d", Str.ofString "\n", Str.ofString "\x0b", Str.ofString "", Str.ofString "\u2028", Str.ofString "\n\n", Str.ofString "%s", Str.ofString "\x85",
  Str.ofString "\x0d\n", Str.ofString "\x1c", Str.ofString "bcd", Str.ofString "\\n"]
def pcOf (n : Int) : Str := pcs.getD n.toNat Str.empty
theorem pcOf_len (n : Int) : (pcOf n).length ≤ 3 := getD_len (by decide) (by decide)
theorem c_piece {w : World} {A : Around} {s : Shared} {Q E : Value → Shared → Prop} {p : Program} {loose : List Str} {mg mb : Str → Option Value} {n : Int} {t : Tok}
    (X : (hd.heap_39 w.params).In s.heap) (T : TopRead p loose mg mb s.heap) (hroom : A.depth + 1 < recursionLimit) (h0 : 0 ≤ n) (h1 : n < 14)
    (h : ∀ h' tk t', Keeps s.heap h' → Q (.str (pcOf n) t') { s with heap := h', toks := tk }) :
    wpAny (model PySem.Challenge.rw_dm0193_01.row.prog w) A (call (.ref 48) [.int n t]) Q E s := by
  revert X; k_fill; intro X
  refine enterK (binds := [("d", .int n t)]) X T (by rfl) (by rfl) (by omega) (BindsTo.of_eq rfl) (locs rfl) ?_
  intro L h₁ F N
  w_strict (k_steps)
  exact h _ _ _ (Fr.keep (by assumption))
theorem c_message {w : World} {A : Around} {s : Shared} {Q E : Value → Shared → Prop} {p : Program} {loose : List Str} {mg mb : Str → Option Value} {n : Int} {t : Tok}
    (X : (hd.heap_39 w.params).In s.heap) (T : TopRead p loose mg mb s.heap) (hroom : A.depth + 1 < recursionLimit)
    (h : ∀ x h' tk t', x.length ≤ 40 → PyData.strOk x = true → Keeps s.heap h' → Q (.str x t') { s with heap := h', toks := tk }) :
    wpAny (model PySem.Challenge.rw_dm0193_01.row.prog w) A (call (.ref 55) [.int n t]) Q E s := by
  revert X; k_fill; intro X
  refine enterK (binds := [("i", .int n t)]) X T (by rfl) (by rfl) (by omega) (BindsTo.of_eq rfl) (locs rfl) ?_
  intro L h₁ F N
  w_strict (k_steps)
  all_goals exact h _ _ _ _ (by decide) (ok_lit _) (Fr.keep (by assumption))
end Mine

-- part F1
open PySem PySem.W PyProof.Rows PySem.Calls
set_option Elab.async false
set_option maxRecDepth 100000
set_option maxHeartbeats 8000000
set_option rowWalk.seconds 0
namespace Mine
theorem c_makeN {w : World} {A : Around} {s : Shared} {Q E : Value → Shared → Prop} {p : Program} {loose : List Str} {mg mb : Str → Option Value} {msg doc : Str} {pos : Int} {t1 t2 t3 : Tok} {h₀ : Heap} {L : Addr} {m : Str → Option Value} {news : List (Addr × Obj)}
    (F : Fr h₀ L s.heap m) (N : News h₀ L s.heap news) (X : (hd.heap_39 w.params).In h₀) (T : TopRead p loose mg mb h₀) (hroom : A.depth + 2 < recursionLimit)
    (hm : msg.length ≤ 1000000) (hl : (lnOf doc pos).natAbs.log2 < 1920) (hc : (cnOf doc pos).natAbs.log2 < 1920) (hp : pos.natAbs.log2 < 1920)
    (h : ∀ h' tk e d t r1 r2 r3 r4 r5 sl tw k1 k2 k3 k4 k5 u1 u2 u3 u4 u5, Fr h₀ L h' m →
      News h₀ L h' ((e, (⟨.ref 38, some d, .fields #[.ref t, r1, r2, r3, r4, r5], sl⟩ : Obj)) :: (t, ({ cls := .type "tuple", data := .seq #[.str (wordsOf msg (lnOf doc pos) (cnOf doc pos) pos) tw] } : Obj)) ::
        (d, dictOf [ent w "msg" k1 (.str msg u1), ent w "doc" k2 (.str doc u2), ent w "pos" k3 (.int pos u3), ent w "lineno" k4 (.int (lnOf doc pos) u4), ent w "colno" k5 (.int (cnOf doc pos) u5)] 5) :: news) →
      Q (.ref e) { s with heap := h', toks := tk }) :
    wpAny (model PySem.Challenge.rw_dm0193_01.row.prog w) A (call (.ref 38) [.str msg t1, .str doc t2, .int pos t3]) Q E s :=
  c_make (X.keeps F.keep) (T.keeps F.keep) hroom hm hl hc hp fun h' tk e os hk ho x => by
    obtain ⟨d, t, r1, r2, r3, r4, r5, sl, tw, k1, k2, k3, k4, k5, u1, u2, u3, u4, u5, a, b, c⟩ := x
    refine h h' tk e d t r1 r2 r3 r4 r5 sl tw k1 k2 k3 k4 k5 u1 u2 u3 u4 u5 (F.keeps hk) ?_
    refine news3 F N hk (ho _ a) (ho _ b) (ho _ c)
theorem ok_words {msg : Str} (hm : PyData.strOk msg = true) (l c p : Int) : PyData.strOk (wordsOf msg l c p) = true := by
  unfold wordsOf
  exact ok_append (ok_append (ok_append (ok_append (ok_append (ok_append (ok_append hm (ok_lit _)) (ok_lit _)) (ok_lit _)) (ok_lit _)) (ok_lit _)) (ok_lit _)) (ok_lit _)
/-- `!=` of two tuples of one text each -/
theorem ne_tup1 {prog : Program} {w : World} {A : Around} {s : Shared} {Q E : Value → Shared → Prop} {h₀ : Heap} {L a b : Addr} {x y : Str} {t u : Tok} {news : List (Addr × Obj)} (N : News h₀ L s.heap news)
    (ha : (a, ({ cls := .type "tuple", data := .seq #[.str x t] } : Obj)) ∈ news) (hb : (b, ({ cls := .type "tuple", data := .seq #[.str y u] } : Obj)) ∈ news) (hu : A.units + 64 < cLine)
    (hx : PyData.strOk x = true) (e : (x != y) = false) (h : Q (.bool false) s) : wpAny (model prog w) A (compareOp .NotEq (.ref a) (.ref b)) Q E s := by
  have exy : x = y := by simpa using e
  have hy : PyData.strOk y = true := exy ▸ hx
  refine ne_dataH (reads_tuple_at (N.get ha) rfl rfl (ReadsAll.cons (Reads.str _ _) ReadsAll.nil)) (reads_tuple_at (N.get hb) rfl rfl (ReadsAll.cons (Reads.str _ _) ReadsAll.nil)) (by simp [SeqAt.shaped, PyData.canLay0, PyData.canLayAll0, PyData.depth, PyData.depthAll, hx]) (by simp [SeqAt.shaped, PyData.canLay0, PyData.canLayAll0, PyData.depth, PyData.depthAll, hy]) hu ?_
  have : (!PyData.eqv (.tuple [.str x]) (.tuple [.str y])) = false := by
    have : (x == y) = true := by simpa using e
    simp only [PyData.eqv, PyData.eqvAll, this]; rfl
  rw [this]; exact h
section
local macro_rules | `(tactic| walk_at "compareOp NotEq ref ref") => `(tactic| (refine ne_tup1 (by assumption) (by k_mem) (by k_mem) (by simp only [Around.deeper_units]; omega) (by assumption) (by assumption) ?_))
local macro_rules | `(tactic| walk_at "call ref") => `(tactic| (refine c_makeN (by assumption) (by assumption) (by assumption) (by assumption) (by simp only [depth_deeper]; omega) (by omega) (by assumption) (by assumption) (by assumption) ?_; intro h' tk' e' d' t' r1' r2' r3' r4' r5' sl' tw' k1' k2' k3' k4' k5' u1' u2' u3' u4' u5' F' N'))
local macro_rules | `(tactic| walk_at "getAttr ref") => `(tactic| (refine getN (errK _) (by assumption) (by assumption) (by assumption) (by k_mem) (by k_mem) (by rfl) (by k_get) (by rfl) ?_))
local macro_rules | `(tactic| walk_at "getAttr ref") => `(tactic| ((with_reducible show wpAny _ _ (getAttr (Value.ref _) (Str.ofString "args") _) _ _ _); refine getArgsN (errK _) (by assumption) (by assumption) (by assumption) (by k_mem) ?_))
local macro_rules | `(tactic| walk_at "call type:str") => `(tactic| ((with_reducible show wpAny _ _ (call _ [Value.int _ _]) _ _ _); refine str_intE (by assumption) ?_; intro _ _))
local macro_rules | `(tactic| walk_at "call type:str") => `(tactic| ((with_reducible show wpAny _ _ (call _ [Value.ref _]) _ _ _); refine strN (errK _) (by simp only [Around.deeper_units]; omega) (by assumption) (by assumption) (by assumption) (by k_mem) (by k_mem) ?_))
local macro_rules | `(tactic| walk_at "call builtin:isinstance") => `(tactic| (refine isiN (errK _) (by assumption) (by assumption) (by assumption) (by k_mem) ?_))
local macro_rules | `(tactic| walk_at "binaryOp Add str str") => `(tactic| (refine PyProof.Rows.add_str ?_ (by (try simp only [Str.length_append, len_L, len_O, len_C, len_E]); omega); intro t' tk'))
local macro_rules | `(tactic| walk_at "inplaceOp Add str str") => `(tactic| (refine PyProof.Rows.iadd_str ?_ (by (try simp only [Str.length_append, len_L, len_O, len_C, len_E]); omega); intro t' tk'))
local macro_rules | `(tactic| walk_at "compareOp NotEq str str") => `(tactic| (refine ne_strE (by first | assumption | exact bne_self_eq_false _) ?_))
theorem c_facts {w : World} {A : Around} {s : Shared} {Q E : Value → Shared → Prop} {p : Program} {loose : List Str} {mg mb : Str → Option Value} {msg doc : Str} {pos : Int} {t1 t2 t3 : Tok}
    (X : (hd.heap_39 w.params).In s.heap) (T : TopRead p loose mg mb s.heap) (hroom : A.depth + 10 < recursionLimit) (hu : A.units + 100 < cLine) (hh : A.handled = none)
    (hmo : PyData.strOk msg = true) (hm : msg.length ≤ 1000) (hl : (lnOf doc pos).natAbs.log2 < 1920) (hc : (cnOf doc pos).natAbs.log2 < 1920) (hp : pos.natAbs.log2 < 1920)
    (h : ∀ a h' tk u1 u2, Keeps s.heap h' → s.heap.get? a = none → h'.get? a = some { cls := .type "tuple", data := .seq #[.int (lnOf doc pos) u1, .int (cnOf doc pos) u2] } → Q (.ref a) { s with heap := h', toks := tk }) :
    wpAny (model PySem.Challenge.rw_dm0193_01.row.prog w) A (call (.ref 69) [.str msg t1, .str doc t2, .int pos t3]) Q E s := by
  obtain ⟨hd', dp, fr, gd, un⟩ := A
  dsimp only at hh hroom hu
  subst hh
  revert X; k_fill; intro X
  have hwo := ok_words hmo (lnOf doc pos) (cnOf doc pos) pos
  have b1 := intS_len hl
  have b2 := intS_len hc
  have b3 := intS_len hp
  have hsl := sizeLine_eq
  have e1 : (wordsOf msg (lnOf doc pos) (cnOf doc pos) pos != msg ++ Str.ofString ": line " ++ intS (lnOf doc pos) ++ Str.ofString " column " ++ intS (cnOf doc pos) ++ (Str.ofString " (char " ++ intS pos ++ Str.ofString ")")) = false := by
    rw [bne_eq_false_iff_eq]; unfold wordsOf; simp only [Str.append_assoc]
  refine enterK (binds := [("message", .str msg t1), ("doc", .str doc t2), ("place", .int pos t3)]) X T (by rfl) (by rfl) (by show dp < _; omega) (BindsTo.of_eq rfl) (locs rfl) ?_
  intro L h₁ F N
  w_strict (k_steps)
  · rename_i q; exact absurd rfl ‹pos ≠ pos›
  · (rename Fr _ _ _ _ => F9); (rename News _ _ _ _ => N9)
    exact h _ _ _ _ _ F9.keep (N9 _ (.head _)).2.2 (News.get N9 (.head _))
end
end Mine

-- part G1
open PySem PySem.W PyProof.Rows PySem.Calls
set_option Elab.async false
set_option maxRecDepth 100000
set_option maxHeartbeats 8000000
set_option rowWalk.seconds 0
namespace Mine
section
variable {prog : Program} {w : World} {A : Around} {E : Value → Shared → Prop} {s : Shared} {Q : Value → Shared → Prop} {a b : Int} {t u : Tok}
theorem gtT (e : b < a) (h : Q (.bool true) s) : wpAny (model prog w) A (compareOp .Gt (.int a t) (.int b u)) Q E s := gt_int (by rw [decide_eq_true (by omega)]; exact h)
theorem gtF (e : a ≤ b) (h : Q (.bool false) s) : wpAny (model prog w) A (compareOp .Gt (.int a t) (.int b u)) Q E s := gt_int (by rw [decide_eq_false (by omega)]; exact h)
theorem ltT (e : a < b) (h : Q (.bool true) s) : wpAny (model prog w) A (compareOp .Lt (.int a t) (.int b u)) Q E s := lt_int (by rw [decide_eq_true (by omega)]; exact h)
theorem ltF (e : b ≤ a) (h : Q (.bool false) s) : wpAny (model prog w) A (compareOp .Lt (.int a t) (.int b u)) Q E s := lt_int (by rw [decide_eq_false (by omega)]; exact h)
theorem leT (e : a ≤ b) (h : Q (.bool true) s) : wpAny (model prog w) A (compareOp .LtE (.int a t) (.int b u)) Q E s := le_int (by rw [decide_eq_true (by omega)]; exact h)
theorem leF (e : b < a) (h : Q (.bool false) s) : wpAny (model prog w) A (compareOp .LtE (.int a t) (.int b u)) Q E s := le_int (by rw [decide_eq_false (by omega)]; exact h)
theorem eqT (e : a = b) (h : Q (.bool true) s) : wpAny (model prog w) A (compareOp .Eq (.int a t) (.int b u)) Q E s := eq_int (by rw [beq_iff_eq.mpr e]; exact h)
theorem eqF (e : a ≠ b) (h : Q (.bool false) s) : wpAny (model prog w) A (compareOp .Eq (.int a t) (.int b u)) Q E s := eq_int (by rw [beq_eq_false_iff_ne.mpr e]; exact h)
theorem neT (e : a ≠ b) (h : Q (.bool true) s) : wpAny (model prog w) A (compareOp .NotEq (.int a t) (.int b u)) Q E s := ne_int (by rw [bne_iff_ne.mpr e]; exact h)
theorem neF (e : a = b) (h : Q (.bool false) s) : wpAny (model prog w) A (compareOp .NotEq (.int a t) (.int b u)) Q E s := ne_int (by rw [e, bne_self_eq_false]; exact h)
end

section
variable {prog : Program} {w : World} {A : Around} {E : Value → Shared → Prop} {s : Shared} {h₀ : Heap} {L D : Addr} {m : Str → Option Value} {news : List (Addr × Obj)} {Q : Value → Shared → Prop} {value slice : Expr} {vs : List Value} {ys : List Str} {y : Str} {j : Nat} {k : Int} {u : Tok}
/-- an item of a list of texts -/
theorem item_strE (N : News h₀ L s.heap news) (hm : (D, ({ cls := .type "list", data := .seq vs.toArray } : Obj)) ∈ news) (hi : StrsAre vs ys) (hj : ys[j]? = some y) (hk : k = j) (hz : ys.length ≤ 1000000) (h : ∀ t, Q (.str y t) s)
    (hs : subscripted slice false (.ref D) (.int k u) = operate [.ref D, .int k u] (getItem (.ref D) (.int k u)) := by with_unfolding_all rfl) (hg : ∀ r, letTemporaryGo value (.ref D) r = pure () := by intro _; with_unfolding_all rfl) :
    wpAny (model prog w) A (subscriptTail value slice (.ref D) (.int k u)) Q E s := by
  obtain ⟨t, ht⟩ := hi.at hj
  have := (List.getElem?_eq_some_iff.mp hj).1
  subst hk
  exact item_listL (N.isList hm) (by omega) (by omega) (by simpa using ht) (h t) hs hg
theorem item_strEn (N : News h₀ L s.heap news) (hm : (D, ({ cls := .type "list", data := .seq vs.toArray } : Obj)) ∈ news) (hi : StrsAre vs ys) (hj : ys[j]? = some y) (h0 : k < 0) (hk : k + ys.length = j) (hz : ys.length ≤ 1000000) (h : ∀ t, Q (.str y t) s)
    (hs : subscripted slice false (.ref D) (.int k u) = operate [.ref D, .int k u] (getItem (.ref D) (.int k u)) := by with_unfolding_all rfl) (hg : ∀ r, letTemporaryGo value (.ref D) r = pure () := by intro _; with_unfolding_all rfl) :
    wpAny (model prog w) A (subscriptTail value slice (.ref D) (.int k u)) Q E s := by
  obtain ⟨t, ht⟩ := hi.at hj
  have := (List.getElem?_eq_some_iff.mp hj).1
  have hl : s.heap.IsList D vs.toArray := N.isList hm
  have hsz : vs.toArray.size = ys.length := by simp [hi.len_eq]
  exact subscriptTail_builtin hl.typeIs slot_list_getitem.lookup (wpAny_getItem_list_neg hl h0 (by rw [hsz]; omega) (by omega) (by rw [hsz, hk]; simpa using ht) (h t)) hs hg
/-- lines[:k] -/
theorem slice_upN {ui : Tok} (F : Fr h₀ L s.heap m) (N : News h₀ L s.heap news) (hm : (D, ({ cls := .type "list", data := .seq vs.toArray } : Obj)) ∈ news) (hi : StrsAre vs ys) (hq : ys[j]? = some y) (hk : k = j) (hz : vs.length ≤ 1000000)
    (h : ∀ D' h', Fr h₀ L h' m → News h₀ L h' ((D', { cls := .type "list", data := .seq (vs.take j).toArray }) :: news) → Q (.ref D') { s with heap := h' })
    (hs : subscripted slice false (.ref D) (.ref s.heap.objs.size) = operate [.ref s.heap.objs.size, .ref D] (getItem (.ref D) (.ref s.heap.objs.size)) := by with_unfolding_all rfl)
    (ht : ∀ r, letTemporaryGo value (.ref D) r = pure () := by intro _; with_unfolding_all rfl) :
    wpAny (model prog w) A (subscriptTail value slice (.ref D) (.ref s.heap.objs.size)) Q E { s with heap := s.heap.push { cls := .type "slice", data := .fields #[.none, .int k ui, .none] } } := by
  have hj : j ≤ vs.length := by have := (List.getElem?_eq_some_iff.mp hq).1; have := hi.len_eq; omega
  refine slice_list F N (N.isList hm) .none (.int _ _) (fun h' F' N' => h _ h' F' ?_) hs ht (by rw [sizeLine_eq, List.size_toArray]; omega)
  have e : slicePick vs.toArray none (some k) none = (vs.take j).toArray := by
    rw [hk, slicePick_upto vs.toArray j (by simpa using hj)]
  rw [← e]; exact N'
/-- a list and a display of one, added -/
theorem add_oneN {B : Addr} {v : Value} (F : Fr h₀ L s.heap m) (N : News h₀ L s.heap news) (ha : (D, ({ cls := .type "list", data := .seq vs.toArray } : Obj)) ∈ news) (hb : (B, ({ cls := .type "list", data := .seq #[v] } : Obj)) ∈ news) (hz : vs.length ≤ 1000000)
    (h : ∀ D' h', Fr h₀ L h' m → News h₀ L h' ((D', { cls := .type "list", data := .seq (vs ++ [v]).toArray }) :: news) → Q (.ref D') { s with heap := h' }) :
    wpAny (model prog w) A (binaryOp .Add (.ref D) (.ref B)) Q E s :=
  add_lists (vs := vs) (ws := [v]) F N (N.isList ha) (N.isList hb) (fun h' F' N' => h _ h' F' N') (by rw [sizeLine_eq, List.length_singleton]; omega)
theorem joinE {x z : Str} {t : Tok} (N : News h₀ L s.heap news) (ha : (D, ({ cls := .type "list", data := .seq vs.toArray } : Obj)) ∈ news) (hi : StrsAre vs ys) (hsep : x.length ≤ 64) (hB : ∀ y ∈ ys, y.length ≤ 1000) (hn : ys.length ≤ 2000)
    (e : Str.join x ys = z) (h : ∀ t' k, Q (.str z t') { s with toks := k }) : wpAny (model prog w) A (call (.builtin "str.join") [.str x t, .ref D]) Q E s := by
  refine join_listC (ys := ys) (N.isList ha) (by simpa using hi) hsep ?_ ?_
  · have := StrLaws.sumLen_le ys hB
    omega
  · have : Txt.join x ys = z := by rw [← e]; exact StrLaws.glued_eq_join x ys
    rw [this]; exact h
end

/-- what a place's line and column are to be -/
def RightAt (doc : Str) (ys : List Str) (pos ln cn : Int) : Prop :=
  (pos > doc.length ∧ ln = ys.length ∧ ∃ y, ys[ys.length - 1]? = some y ∧ cn = y.length + 1 + pos - doc.length) ∨ (pos < -doc.length ∧ ln = 1 ∧ cn = pos + 1) ∨
  ∃ (k : Int) (j : Nat) (c : Int) (y : Str), 0 ≤ k ∧ k ≤ doc.length ∧ ln = j + 1 ∧ ys[j]? = some y ∧ 1 ≤ c ∧ c ≤ y.length + 1 ∧ Str.join nl (ys.take j ++ [Txt.slice y none (some (c - 1))]) = Txt.slice doc none (some k) ∧
    ((pos < 0 ∧ k = pos + doc.length ∧ c = cn + doc.length) ∨ (k = pos ∧ c = cn))
theorem rightAt (doc : Str) (pos : Int) : RightAt doc (Txt.split doc nl) pos (lnOf doc pos) (cnOf doc pos) := by
  rw [ln_eq, cn_eq]
  have hk := hiOf_le doc.length pos
  generalize hhi : hiOf doc.length pos = k at hk
  obtain ⟨y, h1, h2, h3, h4⟩ := lines_at (Txt.split doc nl) (lst doc) k (lines_ne doc) (lines_free doc) (by rw [lines_join]) (by rw [lst_len]; exact hk)
  have hpos := colf_pos (lst doc) k
  rw [lst_len] at h4
  unfold hiOf at hhi
  by_cases q1 : pos > doc.length
  · have : k = doc.length := by split at hhi <;> omega
    obtain ⟨h5, h6⟩ := h4 this
    refine .inl ⟨q1, by omega, y, ?_, by omega⟩
    rw [← h5]; exact h1
  by_cases q2 : pos < -doc.length
  · have : k = 0 := by split at hhi <;> omega
    subst this
    refine .inr (.inl ⟨q2, ?_, ?_⟩)
    · simp [nlc]
    · simp [colf]; omega
  refine .inr (.inr ⟨k, nlc (lst doc) k, colf (lst doc) k, y, by omega, by omega, rfl, h1, hpos, h2, ?_, ?_⟩)
  · apply lst_ext
    rw [h3, slice_to (by omega) (by omega)]
    simp
  · by_cases q3 : pos < 0
    · rw [if_pos q3] at hhi; exact .inl ⟨q3, by omega, by omega⟩
    · rw [if_neg q3] at hhi; exact .inr ⟨by omega, by omega⟩

theorem cuts_le {ys : List Str} {y : Str} {j : Nat} {c : Int} (hyy : ∀ y ∈ ys, y.length ≤ 100) (hy : y.length ≤ 100) : ∀ z ∈ ys.take j ++ [Txt.slice y none (some c)], z.length ≤ 1000 := fun z hz =>
  (List.mem_append.mp hz).elim (fun q => Nat.le_trans (hyy z (List.mem_of_mem_take q)) (by omega)) (fun q => by rw [List.mem_singleton.mp q]; exact Nat.le_trans (Txt.slice_le y _ _) (by omega))
theorem cut_le (y : Str) (c : Int) (h : y.length ≤ 100) : (Txt.slice y none (some c)).length ≤ 1000 := Nat.le_trans (Txt.slice_le y _ _) (by omega)
section
local macro_rules | `(tactic| walk_at "subscriptTail") => `(tactic| ((with_reducible show wpAny _ _ (subscriptTail _ _ (Value.ref _) (Value.int _ _)) _ _ _); first | (refine item_strE (by assumption) (by k_mem) (by assumption) (by assumption) (by omega) (by omega) ?_; intro t') | (refine item_strEn (by assumption) (by k_mem) (by assumption) (by assumption) (by omega) (by omega) (by omega) ?_; intro t')))
local macro_rules | `(tactic| walk_at "subscriptTail Name BinOp ref int") => `(tactic| ((with_reducible show wpAny _ _ (subscriptTail _ _ (Value.ref _) (Value.int _ _)) _ _ _); first | (refine item_strE (by assumption) (by k_mem) (by assumption) (by assumption) (by omega) (by omega) ?_; intro t') | (refine item_strEn (by assumption) (by k_mem) (by assumption) (by assumption) (by omega) (by omega) (by omega) ?_; intro t')))
local macro_rules | `(tactic| walk_at "subscriptTail") => `(tactic| ((with_reducible show wpAny _ _ (subscriptTail _ _ (Value.str _ _) (Value.ref _)) _ _ _); refine sliceE_ns (s := ⟨_, _, _, _, _⟩) (by assumption) (by assumption) rfl ?_ (hsz := by rw [sizeLine_eq]; omega); intro h' t' tk' F' N'))
local macro_rules | `(tactic| walk_at "subscriptTail Name Slice ref ref") => `(tactic| ((with_reducible show wpAny _ _ (subscriptTail _ _ (Value.ref _) (Value.ref _)) _ _ _); refine slice_upN (s := ⟨_, _, _, _, _⟩) (by assumption) (by assumption) (by k_mem) (by assumption) (by assumption) (by omega) (by omega) ?_; intro D' h' F' N'))
local macro_rules | `(tactic| walk_at "binaryOp Add ref ref") => `(tactic| (refine add_oneN (by assumption) (by assumption) (by k_mem) (by k_mem) (by (try simp only [List.length_take]); omega) ?_; intro D' h' F' N'))
local macro_rules | `(tactic| walk_at "call builtin:str.join") => `(tactic| (refine joinE (by assumption) (by k_mem) (StrsAre.append' (StrsAre.take' (by assumption) _) (.cons _ _ .nil)) (by decide) (cuts_le (by assumption) (by assumption)) (by simp only [List.length_append, List.length_take, List.length_singleton]; omega) (by assumption) ?_; intro t' tk'))
local macro_rules | `(tactic| walk_at "compareOp Eq str str") => `(tactic| (refine eq_strE (b := true) (by simp) ?_))
local macro_rules | `(tactic| walk_at "compareOp Gt int int") => `(tactic| first | (refine gtT (by omega) ?_) | (refine gtF (by omega) ?_))
local macro_rules | `(tactic| walk_at "compareOp Lt int int") => `(tactic| first | (refine ltT (by omega) ?_) | (refine ltF (by omega) ?_))
local macro_rules | `(tactic| walk_at "compareOp LtE int int") => `(tactic| first | (refine leT (by omega) ?_) | (refine leF (by omega) ?_))
local macro_rules | `(tactic| walk_at "compareOp Eq int int") => `(tactic| first | (refine eqT (by omega) ?_) | (refine eqF (by omega) ?_))
theorem c_right {w : World} {A : Around} {s : Shared} {Q E : Value → Shared → Prop} {p : Program} {loose : List Str} {mg mb : Str → Option Value} {doc : Str} {pos ln cn : Int} {t2 t3 u1 u2 : Tok} {a D : Addr} {vs : List Value} {ys : List Str} {h₀ : Heap}
    (X : (hd.heap_39 w.params).In h₀) (T : TopRead p loose mg mb h₀) (hk : Keeps h₀ s.heap) (hroom : A.depth + 10 < recursionLimit) (hu : A.units + 100 < cLine) (hh : A.handled = none)
    (ha : s.heap.get? a = some { cls := .type "tuple", data := .seq #[.int ln u1, .int cn u2] }) (ha0 : h₀.get? a = none)
    (hD : s.heap.get? D = some { cls := .type "list", data := .seq vs.toArray }) (hD0 : h₀.get? D = none) (hs : StrsAre vs ys) (hR : RightAt doc ys pos ln cn) (hdl : doc.length ≤ 100) (hyl : ys.length ≤ 102) (hyy : ∀ y ∈ ys, y.length ≤ 100)
    (h : ∀ h' tk, Keeps s.heap h' → Q (.bool true) { s with heap := h', toks := tk }) :
    wpAny (model PySem.Challenge.rw_dm0193_01.row.prog w) A (call (.ref 76) [.ref a, .str doc t2, .ref D, .int pos t3]) Q E s := by
  obtain ⟨hd', dp, fr, gd, un⟩ := A
  dsimp only at hh hroom hu
  subst hh
  have hvl := hs.len_eq
  have hG : Keeps h₀ (hideAll s.heap [a, D]) := of_hide_base hk (by intro b hb; rcases List.mem_cons.mp hb with rfl | hb; exact ha0; rw [List.mem_singleton.mp hb]; exact hD0)
  replace X := X.keeps hG
  replace T := T.keeps hG
  revert X; k_fill; intro X
  refine enterM (binds := [("facts", .ref a), ("doc", .str doc t2), ("lines", .ref D), ("place", .int pos t3)]) [(a, { cls := .type "tuple", data := .seq #[.int ln u1, .int cn u2] }), (D, { cls := .type "list", data := .seq vs.toArray })] (hideAll s.heap [a, D]) ?_ ?_ ?_ X T (by rfl) (by rfl) (by show dp < _; omega) (BindsTo.of_eq rfl) (locs rfl) ?_
  · exact fun _ _ e => of_hideAll _ e
  · rw [hideAll_size]; exact Nat.le_refl _
  · intro q hq
    simp only [List.mem_cons, List.not_mem_nil, or_false] at hq
    rcases hq with rfl | rfl
    · exact ⟨ha, hideAll_none _ (by simp)⟩
    · exact ⟨hD, hideAll_none _ (by simp)⟩
  intro L h₁ F N hL
  have fin : ∀ {h' : Heap} {m' : Str → Option Value} {news' : List (Addr × Obj)}, Fr (hideAll s.heap [a, D]) L h' m' → News (hideAll s.heap [a, D]) L h' news' → (a, ({ cls := .type "tuple", data := .seq #[.int ln u1, .int cn u2] } : Obj)) ∈ news' →
      (D, ({ cls := .type "list", data := .seq vs.toArray } : Obj)) ∈ news' → Keeps s.heap h' := by
    intro h' m' news' F' N' m1 m2 b o e
    by_cases e1 : b = a
    · subst e1; rw [ha] at e; cases e; exact N'.get m1
    by_cases e2 : b = D
    · subst e2; rw [hD] at e; cases e; exact N'.get m2
    exact F'.keep b o (hideAll_get _ e (by simp [e1, e2]))
  rcases hR with ⟨q1, rfl, y, q2, rfl⟩ | ⟨q1, rfl, rfl⟩ | ⟨k, j, c, y, q0, q1, rfl, q2, q3, q4, q5, ⟨q6, rfl, rfl⟩ | ⟨rfl, rfl⟩⟩
  · have hy := hyy y (List.mem_of_getElem? q2)
    have hj := (List.getElem?_eq_some_iff.mp q2).1
    w_strict (k_steps)
    (rename Fr _ _ _ _ => F9); (rename News _ _ _ _ => N9)
    exact h _ _ (fin F9 N9 (by k_mem) (by k_mem))
  · w_strict (k_steps)
    (rename Fr _ _ _ _ => F9); (rename News _ _ _ _ => N9)
    exact h _ _ (fin F9 N9 (by k_mem) (by k_mem))
  all_goals
    have hy := hyy y (List.mem_of_getElem? q2)
    have hj := (List.getElem?_eq_some_iff.mp q2).1
    w_strict (k_steps)
    (rename Fr _ _ _ _ => F9); (rename News _ _ _ _ => N9)
    exact h _ _ (fin F9 N9 (by k_mem) (by k_mem))
end
end Mine

-- part Tx1
open PySem PySem.W PyProof.Rows PySem.Calls
set_option Elab.async false
set_option maxRecDepth 100000
set_option maxHeartbeats 8000000
set_option rowWalk.seconds 0
namespace Mine
theorem m_self2 {x y : Str} {m : Str → Option Value} : m = (fun z => if z = x then m x else if z = y then m y else m z) := by
  funext z; split
  · simp_all
  · split <;> simp_all
theorem mm2 {x y : Str} {a b c d : Option Value} {m : Str → Option Value} : (fun z => if z = x then a else if z = y then b else if z = x then c else if z = y then d else m z) = (fun z => if z = x then a else if z = y then b else m z) := by
  funext z
  by_cases h1 : z = x
  · simp only [h1, if_true]
  · by_cases h2 : z = y
    · simp only [if_neg h1, if_pos h2]
    · simp only [if_neg h1, if_neg h2]
theorem news_nil {h₀ h : Heap} {L : Addr} {m : Str → Option Value} (_F : Fr h₀ L h m) : News h₀ L h [] := fun _ hp => nomatch hp
theorem join_len (f : Int → Str) (hf : ∀ n, (f n).length ≤ 3) (ls : List Int) : (Str.join (Str.ofString "") (ls.map f)).length ≤ ls.length * 3 := by
  have e0 : (Str.ofString "").length = 0 := by decide
  have h1 := StrLaws.join_length_le (Str.ofString "") (ls.map f)
  have h2 := StrLaws.sumLen_le (B := 3) (ls.map f) (fun y hy => by obtain ⟨n, _, rfl⟩ := List.mem_map.mp hy; exact hf n)
  rw [e0] at h1
  simp only [List.length_map] at h1 h2
  omega
theorem join_ok (f : Int → Str) (hf : ∀ n, (f n).length ≤ 3) (ls : List Int) (hl : ls.length ≤ 26) : JoinOk (Str.ofString "") (ls.map f) = true := by
  have e0 : (Str.ofString "").length = 0 := by decide
  unfold JoinOk
  rw [Bool.not_eq_true']
  refine StrLaws.joinFits (B := 3) (fun y hy => by obtain ⟨n, _, rfl⟩ := List.mem_map.mp hy; exact hf n) ?_
  rw [e0, List.length_map]; omega
section
local macro_rules | `(tactic| walk_at "eval Name") => `(tactic| first | ((with_reducible show wpAny _ _ (eval (Expr.Name (Str.ofString "_law_piece") _) _) _ _ _); refine nameG_K (v := .ref 48) (by with_reducible assumption) (by with_reducible assumption) (by with_reducible assumption) (by k_is) ?_ rfl rfl rfl (by decide)) | (with_reducible refine stop ?_))
local macro_rules | `(tactic| walk_at "call ref") => `(tactic| (refine c_piece (Frag.In.keeps (by assumption) (Fr.keep (by assumption))) (TopRead.keeps (by assumption) (Fr.keep (by assumption))) (by omega) (by omega) (by omega) ?_; intro h' tk' t' hk'))
theorem gen_elt {w : World} {A : Around} {E : Value → Shared → Prop} {u : Shared} {p : Program} {loose : List Str} {mg mb m₂ : Str → Option Value} {C c' L : Addr} {h₀ : Heap} {a : Int} {tv : Tok} {sc : Scope}
    (X : (hd.heap_39 w.params).In h₀) (T : TopRead p loose mg mb h₀) (F : Fr h₀ C u.heap m₂) (hm : m₂ (Str.ofString "d") = some (.int a tv)) (h0 : 0 ≤ a) (h1 : a < 14) (hroom : A.depth + 1 < recursionLimit) :
    wpAny (model Challenge.rw_dm0193_01.row.prog w) A
    (eval
      ((Expr.Name (Str.ofString "_law_piece") { line := 29, col := 20, endLine := 29, endCol := 30 }).Call
        [Expr.Name (Str.ofString "d") { line := 29, col := 31, endLine := 29, endCol := 32 }] []
        { line := 29, col := 20, endLine := 29, endCol := 33 })
      (genEnv
        { kind := ScopeKind.function,
          names :=
            [(Str.ofString ".0", NameKind.local), (Str.ofString "d", NameKind.local),
              (Str.ofString "_law_piece", NameKind.globalImplicit)],
          isGenerator := true, isCoroutine := false }
        [] C (Value.ref c') builtinsNs
        (envOf (Str.ofString "_law_text") sc L 62 (Value.ref 61))))
    (fun y s₃ => Carried y (PyData.str (pcOf a)) ∧ PySem.Keeps u s₃) E u := by
  revert X; k_fill; intro X
  w_strict (k_steps)
  unfold Stop
  refine ldVarG F hm ?_
  w_strict (k_steps)
  · exact .str _ _
  · exact ⟨_, _, rfl, ‹Keeps u.heap _›⟩
end
def RowJ (R S : Addr) (i : Nat) (m : Str → Option Value) (news : List (Addr × Obj)) : Prop :=
  ∃ (vs : List Value) (ns : List Int) (c : Nat) (a b : Option Value),
    m = (fun y => if y = Str.ofString "n" then a else if y = Str.ofString "i" then b else (fun y => if y = Str.ofString "row" then some (Value.ref R) else List.lookup y [(Str.ofString "script", Value.ref S)].reverse) y) ∧
    news = [(R, W.listOf vs.toArray c)] ∧ IntsAre vs ns ∧ ns.length = min i 22 + 4 ∧ ∀ x ∈ ns, 0 ≤ x ∧ x < 14
section
local macro_rules | `(tactic| walk_at "exec For Tuple Call cons nil") => `(tactic| ((rename Fr _ _ _ _ => lF'); (with_unfolding_all refine' For_turns lF' ?_)))
local macro_rules | `(tactic| walk_at "pyIter ref") => `(tactic| ((with_reducible show wpAny _ _ (pyIter _) (GenPost _ _ _ _ _ _ _ _ _ _ _ _ _ _ _ _ _ _) _ _); (with_reducible refine stop ?_)))
local macro_rules | `(tactic| walk_at "eval GeneratorExp") => `(tactic| (with_reducible refine stop ?_))
local macro_rules | `(tactic| walk_at "call type:enumerate") => `(tactic| (with_reducible refine stop ?_))
theorem c_text {w : World} {A : Around} {s : Shared} {Q E : Value → Shared → Prop} {p : Program} {loose : List Str} {mg mb : Str → Option Value} {S P bm : Addr} {ob : Obj} {vs : List Value} {ns : List Int}
    (X : (hd.heap_39 w.params).In s.heap) (T : TopRead p loose mg mb s.heap) (B : Based s.heap s.heap 61 P #[]) (M : BMod s.heap mainGlobals mg bm ob) (hroom : A.depth + 10 < recursionLimit) (hu : A.units + 100 < cLine) (hh : A.handled = none)
    (hg : AllBare s.gens) (hS : s.heap.IsList S vs.toArray) (hI : IntsAre vs ns) (hn : ns.length ≤ 63)
    (h : ∀ s' x t' more, Heap.ExtBut P s.heap s'.heap → s'.heap.IsCode 61 P more → s'.heap.TableAt 61 P more → AllBare s'.gens → s'.os = s.os → x.length ≤ 78 → Q (.str x t') s') :
    wpAny (model PySem.Challenge.rw_dm0193_01.row.prog w) A (call (.ref 62) [.ref S]) Q E s := by
  obtain ⟨hd', dp, fr, gd, un⟩ := A
  dsimp only at hh hroom hu
  subst hh
  revert X; k_fill; intro X
  refine enterK (binds := [("script", .ref S)]) X T (by rfl) (by rfl) (by show dp < _; omega) (BindsTo.of_eq rfl) (locs rfl) ?_
  intro L h₁ F N
  w_strict (k_steps)
  unfold Stop
  (rename Fr _ _ _ _ => F1); (rename News _ _ _ _ => N1)
  rename_i R _ _ _
  have hRS : R ≠ S := by
    obtain ⟨o, ho, _⟩ := hS
    intro e; have := (N1 _ (.head _)).2.2; rw [e, ho] at this; cases this
  refine for_E (vs := vs) (by rfl) (hS.at fun o e => F1.keep _ _ e) ?_ F1 N1 (RowJ R S) ?_ [R] ?_ ?_ ?_
  · obtain ⟨o, ho, _⟩ := id hS
    exact Nat.ne_of_lt (Nat.lt_of_lt_of_le (Heap.lt_size ho) F1.above)
  · refine ⟨_, [1, 3, 10, 12], 0, _, _, m_self2, rfl, .cons _ _ (.cons _ _ (.cons _ _ (.cons _ _ .nil))), rfl, by decide⟩
  · intro a ha; rw [List.mem_singleton.mp ha]; exact ⟨hRS, _, N1.get (.head _)⟩
  · rintro i x m₁ news₁ h2 tk2 own Tt t3 hx ⟨us, ls, c, a, b, rfl, rfl, hU, hlen, hin⟩ hoff hl2 hT F2 N2
    obtain ⟨n, tn, hnn, rfl⟩ := Mine.IntsAre.at hI hx
    have hi : i < ns.length := (List.getElem?_eq_some_iff.mp hnn).1
    w_strict (k_steps)
    · (rename Fr _ _ _ _ => F3); (rename News _ _ _ _ => N3); (rename (i : Int) < 22 => hi22)
      rw [List.push_toArray] at N3
      refine ⟨_, _, _, [(R, _)], rfl, F3, N3, (fun p hp => .inl (by rw [List.mem_singleton.mp hp]; simp)), _, ls ++ [n.fmod 14], _, _, _, mm2, rfl, hU.append (.cons _ _ .nil), ?_, ?_⟩
      · simp only [List.length_append, List.length_singleton]; omega
      · intro z hz
        rcases List.mem_append.mp hz with hz | hz
        · exact hin z hz
        · rw [List.mem_singleton.mp hz]; exact ⟨fmod_lo _ (by decide), fmod_hi _ (by decide)⟩
    · (rename Fr _ _ _ _ => F3); (rename News _ _ _ _ => N3); (rename IntsAre _ (List.set _ _ _) => I3); (rename ¬ (i : Int) < 22 => hi22)
      refine ⟨_, _, _, [(R, _)], rfl, F3, N3, (fun p hp => .inl (by rw [List.mem_singleton.mp hp]; simp)), _, _, _, _, _, mm2, rfl, I3, ?_, ?_⟩
      · rw [List.length_set]; omega
      · intro z hz
        rcases List.mem_or_eq_of_mem_set hz with hz | hz
        · exact hin z hz
        · rw [hz]; exact ⟨fmod_lo _ (by decide), fmod_hi _ (by decide)⟩
  · rintro m₁ news₁ h2 tk2 ⟨us, ls, c, a, b, rfl, rfl, hU, hlen, hin⟩ F2 N2
    show wpAny _ _ _ _ _ _
    w_strict (k_steps)
    unfold Stop
    refine LGe.GeneratorExp_K F2 B M rfl (by rfl) (by rfl) (by rfl) (by rfl) (by decide) (by rfl) (by rfl) (by rfl) (by simp only [depth_deeper]; omega) ?_ (by intro _; rfl)
    w_strict (k_steps)
    unfold Stop
    refine src_listD (K := .int) (Kb := L) (vs := us) (as := ls) (pz := fun _ => true) (d := fun n => .str (pcOf n)) B (N2.isList (.head _)) hU.areOf F2 hg ?_ (Nat.le_refl _) F2.ns.lt ?_ ?_ ?_
    · exact T.nolimit.keeps F2.keep
    · intro c' C A' E' a v u m₂ _ _ _ _ _ _ _ _ _
      exact wpAny_pure ⟨rfl, _, _, rfl, fun _ _ e => e⟩
    · intro c' C A' E' a v u m₂ hA hD hU' ha hK _ hF hm hLC hk
      obtain ⟨tv, rfl⟩ := hK
      have T' := LGe.top_regrown hF T B
      have X' := LGeL.in_regrown hF X T B (by rfl)
      exact gen_elt X' T' hF hm (hin a ha).1 (hin a ha).2 (by rw [depth_deeper] at hD; show A'.depth + 1 < _; simp only at hD; omega)
    · intro c' a s₅ B' F' G' hos hk X'
      clear F2 N2 F1 N1
      w_strict (k_steps)
      have hls : ls.length ≤ 26 := by omega
      have hfl : ls.filter (fun _ => true) = ls := by simp
      refine join_genD (f := pcOf) F' G' X' (Nat.le_refl _) ?_ (fun s' t' F'' G'' hos' hk' => ?_) (by rw [sizeLine_eq]; omega)
      · rw [hfl]
        exact join_ok pcOf pcOf_len ls hls
      · rw [hfl]
        refine h s' _ t' _ ?_ (B'.codeAt F'') (B'.tabAt F'') G'' (hos'.trans hos) ?_
        · intro b o hb e
          exact F''.keep b o ((Heap.get?_update_other _ _ (Ne.symm hb)).trans e)
        · have e1 : Txt.join (Str.ofString "") (ls.map pcOf) = Str.join (Str.ofString "") (ls.map pcOf) := StrLaws.glued_eq_join _ _
          rw [e1]
          have := join_len pcOf pcOf_len ls
          omega
end
end Mine

-- part L1
open PySem PySem.W PyProof.Rows PySem.Calls
set_option Elab.async false
set_option maxRecDepth 100000
set_option maxHeartbeats 8000000
set_option rowWalk.seconds 0
namespace Mine
theorem based_at {h h' : Heap} {c P L : Addr} {ps : Array Value} {m : Str → Option Value} (B : Based h h c P ps) (F : Fr h L h' m) : Based h' h' c P ps := .start (B.codeAt F) (B.tabAt F) B.notStatics
def bigP : Int := 10 ^ 99
theorem bigP_eq : bigP = 1000000000000000000000000000000000000000000000000000000000000000000000000000000000000000000000000000 := by decide +kernel
theorem e99 : (10 : Int) ^ Int.toNat 99 = bigP := by decide +kernel
theorem big30 : -bigP ≤ (10 : Int) ^ Int.toNat 30 ∧ (10 : Int) ^ Int.toNat 30 ≤ bigP := by decide +kernel
theorem big30n : -bigP ≤ -(10 : Int) ^ Int.toNat 30 ∧ -(10 : Int) ^ Int.toNat 30 ≤ bigP := by decide +kernel
theorem big0 : (0 : Int) < 10 ^ Int.toNat 99 := by decide +kernel
theorem big_lo {n : Int} (h : -(10 : Int) ^ Int.toNat 99 < n) : -bigP ≤ n := by rw [e99] at h; omega
theorem big_hi {n : Int} (h : n < (10 : Int) ^ Int.toNat 99) : n ≤ bigP := by rw [e99] at h; omega
theorem big_f1 (n : Int) : -bigP ≤ n.fmod (10 ^ Int.toNat 99) := by
  have h1 := fmod_lo n big0
  have : (0 : Int) ≤ bigP := by rw [bigP_eq]; omega
  omega
theorem big_f2 (n : Int) : n.fmod (10 ^ Int.toNat 99) ≤ bigP := by
  have h1 := fmod_hi n big0
  rw [e99] at h1 ⊢
  omega
theorem logB {x : Int} (h1 : -(bigP + 1000) ≤ x) (h2 : x ≤ bigP + 1000) : x.natAbs.log2 < 1920 := by
  rw [bigP_eq] at h1 h2
  exact shown (N := 10 ^ 100) (by omega) (by omega) (by decide +kernel)
theorem hi_le' (doc : Str) (p : Int) : (hiOf doc.length p : Int) ≤ doc.length := by have := hiOf_le doc.length p; omega
theorem ln_log (doc : Str) (p : Int) (h : doc.length ≤ 100) : (lnOf doc p).natAbs.log2 < 1920 := by
  rw [ln_eq]
  have h1 := nlc_le (lst doc) (hiOf doc.length p)
  have h2 := hiOf_le doc.length p
  have h3 : (0 : Int) ≤ bigP := by rw [bigP_eq]; omega
  exact logB (by omega) (by omega)
theorem cn_log (doc : Str) (p : Int) (h : doc.length ≤ 100) (h1 : -bigP ≤ p) (h2 : p ≤ bigP) : (cnOf doc p).natAbs.log2 < 1920 := by
  rw [cn_eq]
  have h3 := hiOf_le doc.length p
  have h4 := colf_pos (lst doc) (hiOf doc.length p)
  have h5 := colf_le (lst doc) (hiOf doc.length p)
  exact logB (by omega) (by omega)
def PlJ (S LN PL : Addr) (doc : Str) (td : Tok) (lo : Obj) (own : List (Addr × Obj)) (i : Nat) (m : Str → Option Value) (news : List (Addr × Obj)) : Prop :=
  ∃ (us : List Value) (ps : List Int) (c : Nat) (m' : Str → Option Value),
    m = (fun y => if y = Str.ofString "script" then some (Value.ref S) else if y = Str.ofString "doc" then some (.str doc td) else if y = Str.ofString "lines" then some (.ref LN) else if y = Str.ofString "places" then some (.ref PL) else m' y) ∧
    news = (PL, W.listOf us.toArray c) :: (LN, lo) :: own ∧ IntsAre us ps ∧ ps.length ≤ 200 + 2 * i ∧ ∀ x ∈ ps, -bigP ≤ x ∧ x ≤ bigP
def EnJ (S LN PL : Addr) (doc : Str) (td : Tok) (lo : Obj) (own : List (Addr × Obj)) (_ : Nat) (m : Str → Option Value) (news : List (Addr × Obj)) : Prop :=
  ∃ (m' : Str → Option Value),
    m = (fun y => if y = Str.ofString "script" then some (Value.ref S) else if y = Str.ofString "doc" then some (.str doc td) else if y = Str.ofString "lines" then some (.ref LN) else if y = Str.ofString "places" then some (.ref PL) else m' y) ∧
    news = (LN, lo) :: own
theorem m_put4 {x1 x2 x3 x4 : Str} {m : Str → Option Value} {v1 v2 v3 v4 : Option Value} (h1 : m x1 = v1) (h2 : m x2 = v2) (h3 : m x3 = v3) (h4 : m x4 = v4) :
    m = fun y => if y = x1 then v1 else if y = x2 then v2 else if y = x3 then v3 else if y = x4 then v4 else m y := by
  funext z
  by_cases q1 : z = x1
  · rw [if_pos q1, q1, h1]
  by_cases q2 : z = x2
  · rw [if_neg q1, if_pos q2, q2, h2]
  by_cases q3 : z = x3
  · rw [if_neg q1, if_neg q2, if_pos q3, q3, h3]
  by_cases q4 : z = x4
  · rw [if_neg q1, if_neg q2, if_neg q3, if_pos q4, q4, h4]
  rw [if_neg q1, if_neg q2, if_neg q3, if_neg q4]
theorem lt_of_all {d : Addr} (l : List (Addr × Obj)) : AllLt d l → ∀ p ∈ l, p.1 < d := by
  induction l with
  | nil => intro _ p hp; cases hp
  | cons a r ih =>
    intro h p hp
    rcases List.mem_cons.mp hp with e | hp
    · rw [e]; exact h.1
    · exact ih h.2 p hp
def DocJ (S : Addr) (_ : Nat) (m : Str → Option Value) (_ : List (Addr × Obj)) : Prop := ∃ m' : Str → Option Value, m = fun y => if y = Str.ofString "script" then some (Value.ref S) else m' y
section
local macro_rules | `(tactic| walk_at "inplaceOp Add ref ref") => `(tactic| (with_reducible refine stop ?_))
local macro_rules | `(tactic| walk_at "call ref") => `(tactic| (with_reducible refine stop ?_))
local macro_rules | `(tactic| walk_at "exec For Name Tuple cons nil") => `(tactic| ((rename Fr _ _ _ _ => lF'); (with_unfolding_all refine' For_turns lF' ?_)))
local macro_rules | `(tactic| walk_at "exec For Name Name cons nil") => `(tactic| ((rename Fr _ _ _ _ => lF'); (with_unfolding_all refine' For_turns lF' ?_)))
local macro_rules | `(tactic| walk_at "exec For Tuple Call cons nil") => `(tactic| ((rename Fr _ _ _ _ => lF'); (with_unfolding_all refine' For_turns lF' ?_)))
local macro_rules | `(tactic| walk_at "call type:enumerate") => `(tactic| (with_reducible refine stop ?_))
local macro_rules | `(tactic| walk_at "pyIter ref") => `(tactic| (with_reducible refine stop ?_))
theorem c_law {w : World} {A : Around} {s : Shared} {Q E : Value → Shared → Prop} {p : Program} {loose : List Str} {mg mb : Str → Option Value} {S P bm : Addr} {ob : Obj} {vs : List Value} {ns : List Int}
    (X : (hd.heap_39 w.params).In s.heap) (T : TopRead p loose mg mb s.heap) (B : Based s.heap s.heap 61 P #[]) (M : BMod s.heap mainGlobals mg bm ob) (hroom : A.depth + 20 < recursionLimit) (hu : A.units + 200 < cLine) (hh : A.handled = none)
    (hg : AllBare s.gens) (hS : s.heap.IsList S vs.toArray) (hI : IntsAre vs ns) (hn : ns.length ≤ 63)
    (h : ∀ s', OldK s.heap s'.heap → s'.os = s.os → AllBare s'.gens → Q (.bool true) s') :
    wpAny (model PySem.Challenge.rw_dm0193_01.row.prog w) A (call (.ref 83) [.ref S]) Q E s := by
  obtain ⟨hd', dp, fr, gd, un⟩ := A
  dsimp only at hh hroom hu
  subst hh
  revert X; k_fill; intro X
  refine enterK (binds := [("script", .ref S)]) X T (by rfl) (by rfl) (by show dp < _; omega) (BindsTo.of_eq rfl) (locs rfl) ?_
  intro L h₁ F N
  w_strict (k_steps)
  unfold Stop
  refine c_text (X.keeps F.keep) (T.keeps F.keep) (based_at B F) (M.keeps F.keep) (by simp only [depth_deeper]; omega) (by simp only [Around.deeper_units]; omega) rfl hg (hS.at fun o e => F.keep _ _ e) hI hn ?_
  intro s2 text tt more hx hc ht hg2 hos2 htl
  have hSP : S ≠ P := by
    intro e
    obtain ⟨o, ho, hc, _⟩ := hS
    rw [e, B.tab.2] at ho; cases ho; exact absurd hc (by simp)
  obtain ⟨B2, F2⟩ := B.grow (more := more) F hx (by simpa using hc) (by simpa using ht)
  have X2 := LGeL.in_regrown F2 X T B (by rfl)
  have T2 := LGe.top_regrown F2 T B
  have hS2 : (regrown s.heap P (#[] ++ more)).IsList S vs.toArray := hS.at fun o e => (Heap.get?_update_other _ _ (Ne.symm hSP)).trans e
  have N2 := news_nil F2
  have hfin : ∀ {h' : Heap} {m' : Str → Option Value}, Fr (regrown s.heap P (#[] ++ more)) L h' m' → OldK s.heap h' := fun F' => B2.finish F'
  clear hx hc ht B2 F N X T hS hSP B M hg
  generalize regrown s.heap P (#[] ++ more) = g₀ at F2 X2 T2 hS2 N2 hfin
  w_strict (k_steps)
  unfold Stop
  (rename Fr _ _ _ _ => F3); (rename News _ _ _ _ => N3)
  rename_i D _ _
  refine for_TT (vs := [.str text tt, .str (Str.ofString "") _]) (by rfl) (News.isTup N3 (.head _)) (N3 _ (.head _)).2.1 F3 N3 (DocJ S) ⟨_, m_put rfl⟩ [] (fun a ha => nomatch ha) ?_ ?_
  · rintro i v m₁ news₁ h4 tk4 own hv ⟨m', rfl⟩ _ _ F4 N4
    obtain ⟨doc, td, rfl, hdl⟩ : ∃ doc td, v = .str doc td ∧ doc.length ≤ 78 := by
      match i, hv with
      | 0, hv => cases hv; exact ⟨_, _, rfl, htl⟩
      | 1, hv => cases hv; exact ⟨_, _, rfl, by decide⟩
    replace N4 : News g₀ L h4 own := fun p hp => N4 p (List.mem_append_right _ hp)
    clear N3 F3
    w_strict (k_steps)
    unfold Stop
    (rename Fr _ _ _ _ => F5); (rename News _ _ _ _ => N5); (rename IntsAre _ (_ ++ _) => I5); (rename (_ ∧ _ ∧ _ ∧ AllLt _ own) => l5); (rename List.map _ _ = Txt.split _ _ => e5)
    rename_i hA tkA l _ _ aS aL _ _ _ _ _ _ _ _ _ _ _ _ _ _ _ _ _ _ _ _ PL ws _ _
    have hSL : S ≠ L := by
      obtain ⟨o, ho, _⟩ := id hS2
      exact Nat.ne_of_lt (Nat.lt_of_lt_of_le (Heap.lt_size ho) F5.above)
    have hPS : PL ≠ S := by
      obtain ⟨o, ho, _⟩ := id hS2
      intro e; have := (N5 _ (.head _)).2.2; rw [e, ho] at this; cases this
    have hLP : hA.objs.size < PL := l5.2.2.1
    have hall : AllLt PL own := l5.2.2.2
    have hoff1 : OwnOff own [PL] := fun p hp b hb => by rw [List.mem_singleton.mp hb]; exact Nat.ne_of_lt (lt_of_all own hall p hp)
    refine for_LT (vs := vs) (by rfl) (hS2.at fun o e => F5.keep _ _ e) hSL F5 (news := (PL, W.listOf ws.toArray 0) :: (hA.objs.size, { cls := .type "list", data := .seq (strValues l).toArray }) :: own) ?_
      (PlJ S hA.objs.size PL doc td { cls := .type "list", data := .seq (strValues l).toArray } own) ?_ [PL] (fun a ha => by rw [List.mem_singleton.mp ha]; exact ⟨hPS, _, N5.get (.head _)⟩) ?_ ?_
    · intro p hp
      rcases List.mem_cons.mp hp with rfl | hp
      · exact N5 _ (.head _)
      · exact N5 _ (.tail _ (.tail _ (.tail _ hp)))
    · refine ⟨ws, _, 0, _, m_put4 rfl rfl rfl rfl, rfl, I5, ?_, ?_⟩
      · simp only [List.length_append, rangeKs_length, List.length_cons, List.length_nil]; omega
      · intro x hx
        have hb9 : (1000000 : Int) ≤ bigP := by rw [bigP_eq]; omega
        rcases List.mem_append.mp hx with hx | hx
        · obtain ⟨k, hk, rfl⟩ := List.mem_map.mp hx
          have := List.mem_range.mp hk
          constructor <;> omega
        · simp only [List.mem_cons, List.not_mem_nil, or_false] at hx
          rcases hx with rfl | rfl
          · exact big30
          · exact big30n
    · rintro i v m₁ news₁ h6 tk6 own2 hv2 ⟨us, ps, c, m'', rfl, rfl, hU, hlen, hb⟩ hoff _ F6 N6
      obtain ⟨n, tn, hnn, rfl⟩ := Mine.IntsAre.at hI hv2
      have hi : i < ns.length := (List.getElem?_eq_some_iff.mp hnn).1
      clear N5 F5
      have hul := hU.length
      have hbn : ∀ {z : Int}, -bigP ≤ z → z ≤ bigP → ∀ x ∈ ps ++ [z, -z], -bigP ≤ x ∧ x ≤ bigP := by
        intro z z1 z2 x hx
        rcases List.mem_append.mp hx with hx | hx
        · exact hb x hx
        · simp only [List.mem_cons, List.not_mem_nil, or_false] at hx
          rcases hx with rfl | rfl <;> constructor <;> omega
      w_strict (k_steps)
      all_goals
        unfold Stop
        (rename Fr _ _ _ _ => F7); (rename News _ _ _ _ => N7); (rename (∀ p : Addr × Obj, p ∈ _ → p.fst < _) => l7)
        refine iaddN (us := us) F7 N7 (.tail (Nat.ne_of_gt (l7 _ (.head _))) (.head fun p hp => ?_)) (.head _) (List.cons_ne_nil _ _) (by simp only [List.length_cons, List.length_nil]; omega) ?_
        · rcases List.mem_append.mp hp with hp | hp
          · rcases List.mem_cons.mp hp with rfl | hp
            · exact Nat.ne_of_lt hLP
            · exact hoff1 p hp PL (.head _)
          · exact hoff p hp PL (.head _)
        · intro h8 c8 F8 N8
          clear F7 N7 F6 N6
          replace N8 := fun p hp => N8 p (List.mem_cons_of_mem _ hp)
          w_strict (k_steps)
          (rename Fr _ _ _ _ => F9); (rename News _ _ _ _ => N9)
          refine ⟨_, _, _, (PL, _) :: (hA.objs.size, _) :: own, rfl, F9, N9, ?_, _, _, _, _, m_put4 rfl rfl rfl rfl, rfl, hU.append (.cons _ _ (.cons _ _ .nil)), ?_, hbn ?_ ?_⟩
          · intro p hp
            rcases List.mem_cons.mp hp with rfl | hp
            · exact .inl (by simp)
            · exact .inl (List.mem_map.mpr ⟨p, List.mem_cons_of_mem _ hp, rfl⟩)
          · simp only [List.length_append, List.length_cons, List.length_nil]; omega
          · first | exact big_lo (by assumption) | exact big_f1 n
          · first | exact big_hi (by assumption) | exact big_f2 n
    · rintro m₁ news₁ h6 tk6 ⟨us, ps, c, m'', rfl, rfl, hU, hlen, hb⟩ F6 N6
      clear N5 F5
      show wpAny _ _ _ _ _ _
      have hul := hU.length
      w_strict (k_steps)
      unfold Stop
      (rename Fr _ _ _ _ => F6)
      refine for_E (vs := us) (by rfl) (N6.isList (.head _)) (N6 _ (.head _)).2.1 F6 (news := (hA.objs.size, { cls := .type "list", data := .seq (strValues l).toArray }) :: own) (fun p hp => N6 p (.tail _ hp))
        (EnJ S hA.objs.size PL doc td { cls := .type "list", data := .seq (strValues l).toArray } own) ⟨_, rfl, rfl⟩ [] (fun a ha => nomatch ha) ?_ ?_
      · rintro i x m₁ news₁ h7 tk7 own3 Tt t3 hx ⟨m3, rfl, rfl⟩ _ _ hT F7 N7
        obtain ⟨pl, tp, hpn, rfl⟩ := Mine.IntsAre.at hU hx
        have hbp := hb pl (List.mem_of_getElem? hpn)
        clear F6 N6
        w_strict (k_steps)
        unfold Stop
        (rename Fr _ _ _ _ => F8); (rename News _ _ _ _ => N8)
        refine c_message (X2.keeps F8.keep) (T2.keeps F8.keep) (by simp only [depth_deeper]; omega) ?_
        intro msg h9 tk9 tm hml hmo hk9
        replace F8 := F8.keeps hk9
        replace N8 := N8.grown hk9
        w_strict (k_steps)
        unfold Stop
        (rename Fr _ _ _ _ => F9); (rename News _ _ _ _ => N9)
        refine c_facts (X2.keeps F9.keep) (T2.keeps F9.keep) (by simp only [depth_deeper]; omega) (by simp only [Around.deeper_units]; omega) rfl hmo (by omega) (ln_log doc pl (by omega)) (cn_log doc pl (by omega) hbp.1 hbp.2) (logB (by omega) (by omega)) ?_
        intro a h10 tk10 u1 u2 hk10 ha0 ha
        have hg0 : g₀.get? a = none := by
          cases q : g₀.get? a with
          | none => rfl
          | some o => have := F9.keep _ _ q; rw [ha0] at this; cases this
        replace F9 := F9.keeps hk10
        replace N9 := N9.grown hk10
        w_strict (k_steps)
        unfold Stop
        (rename Fr _ _ _ _ => F10); (rename News _ _ _ _ => N10)
        refine c_right X2 T2 F10.keep (by simp only [depth_deeper]; omega) (by simp only [Around.deeper_units]; omega) rfl (by k_asm) hg0 (N10 (hA.objs.size, _) (by simp)).1 (N10 (hA.objs.size, { cls := .type "list", data := .seq (strValues l).toArray }) (by simp)).2.2 aS (by rw [e5]; exact rightAt doc pl) (by omega) ?_ ?_ ?_
        · rw [e5]; exact Nat.le_trans (split_le doc _) (by omega)
        · exact fun y hy => Nat.le_trans (aL y hy) (by omega)
        · intro h11 tk11 hk11
          replace F10 := F10.keeps hk11
          replace N10 := N10.grown hk11
          w_strict (k_steps)
          (rename Fr _ _ _ _ => F11); (rename News _ _ _ _ => N11)
          refine ⟨_, _, _, (hA.objs.size, _) :: own, rfl, F11, N11, ?_, _, m_put4 rfl rfl rfl rfl, rfl⟩
          intro p hp
          exact .inl (List.mem_map.mpr ⟨p, hp, rfl⟩)
      · rintro m₁ news₁ h7 tk7 ⟨m3, rfl, rfl⟩ F7 N7
        clear F6 N6
        w_strict (k_steps)
        refine ⟨_, _, _, [], rfl, F7, (fun p hp => N7 p (.tail _ hp)), (fun p hp => nomatch hp), _, m_put rfl⟩
  · rintro m₁ news₁ h4 tk4 ⟨m', rfl⟩ F4 N4
    show wpAny _ _ _ _ _ _
    w_strict (k_steps)
    exact h _ (hfin F4) hos2 hg2
end
end Mine

-- part B1
open PySem PySem.W PyProof.Rows PySem.Calls PyProof.V PySem.Spec
set_option Elab.async false
set_option maxRecDepth 100000
set_option maxHeartbeats 8000000
set_option rowWalk.seconds 0
namespace Mine
theorem lawHolds : PySem.Challenge.rw_dm0193_01.Holds := by
  refine Mine.hd ?_
  k_fill
  intro w s₀ s₁ mg mb G Y fa o pm cd doc dV kV ho hd hcd hD hmg hg args vals as hpre hlay hrd hwl hlo
  have KX := kIn_of Y
  refine Ground.open G ?_
  intro T B D TE TW
  try (refine guard_noD D (by decide +kernel) ?_; clear D)
  obtain ⟨_, _, M⟩ := bmod_of_top T
  wrow_args hpre hlay hrd hwl hlo
  rename_i ns _ _ _ _ _ _ _ S vs _ hL _ _ _ hI _ hcond _
  have e83 : mg (Str.ofString "law") = some (.ref 83) := mg_of KX T.g (by k_is)
  have e62 : mg (Str.ofString "_law_text") = some (.ref 62) := mg_of KX T.g (by k_is)
  have hfa : fa = 83 := by
    have h1 : mg (Str.ofString "law") = some (.ref fa) := hmg
    rw [e83] at h1; cases h1; rfl
  subst hfa
  obtain ⟨c, P, hc, BB⟩ := based_of_top T (name := Str.ofString "_law_text") (by rfl) e62 (KX 62 _ (by rfl)) (by rfl)
  have hc' : c = 61 := by cases hc; rfl
  subst hc'
  show wpAny _ callerA (call (Value.ref 83) [Value.ref S]) _ _ s₁
  refine c_law KX (topRead_of T) BB M (by decide) (by decide) rfl (AllBare.of_eq hg) hL hI (by omega) ?_
  intro s' hok hos hgn
  refine ⟨.inl ⟨.bool true, ofPy (.bool true), [], rfl, raisesW_false (by wrow_none_raised), ?_, ?_, unshared_nil⟩, hok, hos, hgn⟩
  · exact readsW_of_reads (Reads.bool true)
  · exact postW_of (by wrow_shape) (by wtm_val) (by str_meet; first | done | w_fin)
end Mine


theorem PySem.Challenge.cw_dm0193_01_holds : PySem.Challenge.rw_dm0193_01.Holds :=
  Mine.lawHolds
