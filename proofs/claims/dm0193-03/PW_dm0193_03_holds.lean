import PyProof.Rows.All
import Wide.All
import OpenK.AllK
import Wide.FinOn
import PySem.Challenge.RW_dm0193_03

-- part Top03
open PySem PySem.W PyProof.Rows
set_option Elab.async false
set_option maxRecDepth 100000
set_option maxHeartbeats 8000000
namespace Mine
open_top hd for PySem.Challenge.rw_dm0193_03
end Mine

open PySem PySem.W PyProof.Rows
set_option compiler.extract_closed false
local macro_rules | `(tactic| walk_at $s:str) => `(tactic| k_extra $s)

-- part Cm1
open PySem PySem.W PyProof.Rows PySem.Calls
set_option Elab.async false
set_option maxRecDepth 100000
set_option maxHeartbeats 8000000
namespace Mine
open PySem.Builtin PySem.Builtin.Str

abbrev Keeps (h h' : Heap) : Prop := ∀ b o, h.get? b = some o → h'.get? b = some o

/-- the right bound of a search -/
def hiOf (len : Nat) (p : Int) : Nat := min (max 0 (if p < 0 then p + len else p)).toNat len
def cnt (x y : Str) (p : Int) : Int := ((occurrences x y 0 (hiOf x.length p) (x.length + 1)).length : Int)
def rfd (x y : Str) (p : Int) : Int := match lastOccurrence x y 0 (hiOf x.length p) with | some i => (i : Int) | none => -1

theorem gives_count4 (x y : Str) (p : Int) (t u v z : Tok) : Gives («str.count» ⟨[.str x t, .str y u, .int 0 v, .int p z], []⟩) (.int (cnt x y p)) := by
  show Gives (retInt (occurrences x y 0 (hiOf x.length p) (x.length + 1)).length) _
  exact .of_eq rfl
theorem gives_rfind4 (x y : Str) (p : Int) (t u v z : Tok) : Gives («str.rfind» ⟨[.str x t, .str y u, .int 0 v, .int p z], []⟩) (.int (rfd x y p)) := by
  show Gives (match lastOccurrence x y 0 (hiOf x.length p) with | some k => retInt k | none => (do rule "str.rfind.not-found"; retInt (-1))) _
  unfold rfd
  cases lastOccurrence x y 0 (hiOf x.length p) with
  | none => exact .rule (.of_eq rfl)
  | some k => exact .of_eq rfl
section
variable {prog : Program} {w : World} {A : Around} {E : Value → Shared → Prop} {s : Shared} {x y : Str} {t u v z : Tok} {p : Int} {Q : Value → Shared → Prop}
theorem call_count4 (hq : Q (.int (cnt x y p) s.toks) { s with toks := s.toks + 1 }) : wpAny (model prog w) A (call (.builtin "str.count") [.str x t, .str y u, .int 0 v, .int p z]) Q E s :=
  call_gives F.slot_str_count (typeIs_str _ _ _) F.entry_str_count (F.args_str_count_4 _ _ _ _) (gives_count4 x y p t u v z) hq
theorem call_rfind4 (hq : Q (.int (rfd x y p) s.toks) { s with toks := s.toks + 1 }) : wpAny (model prog w) A (call (.builtin "str.rfind") [.str x t, .str y u, .int 0 v, .int p z]) Q E s :=
  call_gives F.slot_str_rfind (typeIs_str _ _ _) F.entry_str_rfind (F.args_str_rfind_4 _ _ _ _) (gives_rfind4 x y p t u v z) hq
end

/-- the text of an int -/
def intS (n : Int) : Str := Str.ofString (toString n)

def wordsOf (msg : Str) (l c p : Int) : Str := msg ++ Str.ofString ": line " ++ intS l ++ Str.ofString " column " ++ intS c ++ Str.ofString " (char " ++ intS p ++ Str.ofString ")"

theorem intS_len {n : Int} (h : n.natAbs.log2 < 1920) : (intS n).length ≤ 2000 := by
  have e := int_text_length_le (k := 1920) (by decide) h
  unfold intS
  rw [PySem.ofString_length]; omega

theorem intS_cps (n : Int) : (intS n).cps.toList = (toString n).toList.map Char.toNat := by
  unfold intS; rw [Str.ofString_eq_toList]
theorem toString_neg {n : Int} (hn : n < 0) : toString n = "-" ++ toString ((n.natAbs : Nat) : Int) := by
  obtain ⟨k, rfl⟩ : ∃ k : Nat, n = Int.negSucc k := by
    cases n with
    | ofNat a => exact absurd hn (by have := Int.natCast_nonneg a; simp only [Int.ofNat_eq_natCast]; omega)
    | negSucc k => exact ⟨k, rfl⟩
  rfl
theorem percentInt_text (c : Percent) (h1 : c.alt = false) (h2 : c.type = 100) (h3 : c.prec = none) (n : Int) :
    percentInt c (decide (n < 0)) (intS ((n.natAbs : Nat) : Int)).cps.toList = (intS n).cps.toList := by
  unfold percentInt
  by_cases hn : n < 0
  · simp only [intS_cps, toString_neg hn]
    simp [h1, h2, h3, hn]
  · have en : ((n.natAbs : Nat) : Int) = n := Int.natAbs_of_nonneg (by omega)
    simp [h1, h2, h3, hn, en]

section
variable {M : Model} {A : Around} {E : Value → Shared → Prop} {s : Shared} {l : List Nat} {p : List Value} {r : List Nat}
  {f : Nat → List Value × Writer × List Nat → Sem (ForInStep (List Value × Writer × List Nat))} {Q : List Value × Writer × List Nat → Shared → Prop}
  {w : Writer} {T : PySem.Str} {N : Nat} {o : Option Value}
theorem after_intAny {c : Percent} {n : Int} {d : List Nat} (g : KPc.Good w T N) (h1 : c.alt = false) (h2 : c.type = 100) (h3 : c.prec = none) (hn : n.natAbs.log2 < 1920)
    (hd : d = (PySem.Str.ofString (toString ((n.natAbs : Nat) : Int))).cps.toList) (ho : o = none) (h : ∀ w', KPc.Good w' (T ++ intS n) (N + 2000) → wpAny M A (forIn l (p, w', r) f) Q E s) :
    wpAny M A (forIn l (p, w.add ⟨(percentInt c (decide (n < 0)) d).toArray⟩ o, r) f) Q E s := by
  rw [hd]
  rw [show (PySem.Str.ofString (toString ((n.natAbs : Nat) : Int))) = intS ((n.natAbs : Nat) : Int) from rfl, percentInt_text c h1 h2 h3]
  exact KPc.after_str g (intS_len hn) (KPc.obj_none ho) h
end

theorem meets_words {b : Addr} {msg : Str} {l c p : Int} {t t1 t2 t3 t4 : Tok} (hm : msg.length ≤ 1000000) (hl : l.natAbs.log2 < 1920) (hc : c.natAbs.log2 < 1920) (hp : p.natAbs.log2 < 1920) :
    Meets («str.__mod__» ⟨[.str (Str.mk #[37, 115, 58, 32, 108, 105, 110, 101, 32, 37, 100, 32, 99, 111, 108, 117, 109, 110, 32, 37, 100, 32, 40, 99, 104, 97, 114, 32, 37, 100, 41]) t, .ref b], []⟩)
      (fun _ R s => IsTup s.heap b #[.str msg t1, .int l t2, .int c t3, .int p t4] ∧ ∀ t' k, R (.ok (.ret (.str (wordsOf msg l c p) t'))) { s with toks := k }) := by
  apply KPt.meets_tup
  intro _ _ _ _ _ _ kptH hfin
  obtain ⟨kptO, kptG, kptC, kptN, kptD⟩ := kptH
  rw [KPt.entry_is_r]
  unfold Builtin.Str.percentFormat
  refine wpAny_bind (wpAny_isInstance (T := "tuple") ⟨kptO, kptG, kptC⟩ KPt.sub_tt ?_)
  refine wpAny_bind (KPt.asStr_ref kptG kptD ?_)
  refine wpAny_bind (KPt.fills_ref ⟨kptO, kptG, kptC⟩ ?_)
  intro _
  kpc_if
  refine wpAny_bind (wpAny_seqItems kptG kptD ?_)
  refine wpAny_bind (wpAny_pure ?_)
  refine wpAny_bind ?_
  rw [KPc.range_list]
  refine KPc.start ?_
  intro _ _
  -- %s
  refine KPc.turn ?_; kpc_check; (repeat kpc_if)
  refine wpAny_bind ?_; refine wpAny_holding ?_; (repeat kpc_if)
  refine wpAny_bind ?_; kpc_if; refine wpAny_of_eq (KPc.strOf_str _ _) ?_; refine wpAny_bind (wpAny_of_eq (a := some _) rfl ?_)
  refine wpAny_pure ?_; refine wpAny_pure ?_
  refine KPc.after_str0 (by kpc_g) hm (by kpc_obj) ?_; intro _ _
  -- ": line "
  refine KPc.turn ?_; kpc_check; (repeat kpc_if)
  refine wpAny_pure ?_; refine KPc.after_add (by kpc_g) (by kpc_text) (by kpc_obj) ?_; intro _ _
  -- %d
  refine KPc.turn ?_; kpc_check; (repeat kpc_if)
  refine wpAny_bind ?_; refine wpAny_holding ?_; (repeat kpc_if)
  refine wpAny_bind (wpAny_of_eq (a := _) rfl ?_); (repeat kpc_if)
  refine wpAny_bind (wpAny_mkInt ?_)
  refine wpAny_bind (call_gives F.slot_int_repr (typeIs_int _ _ _) F.entry_int_repr (F.args_int_repr_1 _) (gives_int_repr _ _ (KPt.hd2 hl)) ⟨int_text_fits (KPt.hd2 hl), ?_⟩)
  refine wpAny_bind (wpAny_of_eq (a := some _) rfl ?_)
  refine wpAny_pure ?_; refine wpAny_pure ?_
  refine after_intAny (by kpc_g) rfl rfl rfl hl rfl (by kpc_none) ?_; intro _ _
  -- " column "
  refine KPc.turn ?_; kpc_check; (repeat kpc_if)
  refine wpAny_pure ?_; refine KPc.after_add (by kpc_g) (by kpc_text) (by kpc_obj) ?_; intro _ _
  -- %d
  refine KPc.turn ?_; kpc_check; (repeat kpc_if)
  refine wpAny_bind ?_; refine wpAny_holding ?_; (repeat kpc_if)
  refine wpAny_bind (wpAny_of_eq (a := _) rfl ?_); (repeat kpc_if)
  refine wpAny_bind (wpAny_mkInt ?_)
  refine wpAny_bind (call_gives F.slot_int_repr (typeIs_int _ _ _) F.entry_int_repr (F.args_int_repr_1 _) (gives_int_repr _ _ (KPt.hd2 hc)) ⟨int_text_fits (KPt.hd2 hc), ?_⟩)
  refine wpAny_bind (wpAny_of_eq (a := some _) rfl ?_)
  refine wpAny_pure ?_; refine wpAny_pure ?_
  refine after_intAny (by kpc_g) rfl rfl rfl hc rfl (by kpc_none) ?_; intro _ _
  -- " (char "
  refine KPc.turn ?_; kpc_check; (repeat kpc_if)
  refine wpAny_pure ?_; refine KPc.after_add (by kpc_g) (by kpc_text) (by kpc_obj) ?_; intro _ _
  -- %d
  refine KPc.turn ?_; kpc_check; (repeat kpc_if)
  refine wpAny_bind ?_; refine wpAny_holding ?_; (repeat kpc_if)
  refine wpAny_bind (wpAny_of_eq (a := _) rfl ?_); (repeat kpc_if)
  refine wpAny_bind (wpAny_mkInt ?_)
  refine wpAny_bind (call_gives F.slot_int_repr (typeIs_int _ _ _) F.entry_int_repr (F.args_int_repr_1 _) (gives_int_repr _ _ (KPt.hd2 hp)) ⟨int_text_fits (KPt.hd2 hp), ?_⟩)
  refine wpAny_bind (wpAny_of_eq (a := some _) rfl ?_)
  refine wpAny_pure ?_; refine wpAny_pure ?_
  refine after_intAny (by kpc_g) rfl rfl rfl hp rfl (by kpc_none) ?_; intro _ _
  -- ")"
  refine KPc.turn ?_; kpc_check; (repeat kpc_if)
  refine wpAny_pure ?_; refine KPc.after_add (by kpc_g) (by kpc_text) (by kpc_obj) ?_; intro _ _
  -- the end
  refine KPc.turn ?_; kpc_check; (repeat kpc_if)
  refine wpAny_pure ?_; kpc_if
  refine KPc.finish_ok (by kpc_g) (by decide +kernel) rfl ?_
  exact hfin
section
variable {prog : Program} {w : World} {A : Around} {E : Value → Shared → Prop} {s : Shared} {Q : Value → Shared → Prop} {b : Addr} {msg : Str} {l c p : Int} {t t1 t2 t3 t4 : Tok}
theorem mod_words (ht : IsTup s.heap b #[.str msg t1, .int l t2, .int c t3, .int p t4]) (hm : msg.length ≤ 1000000) (hl : l.natAbs.log2 < 1920) (hc : c.natAbs.log2 < 1920) (hp : p.natAbs.log2 < 1920)
    (h : ∀ t' k, Q (.str (wordsOf msg l c p) t') { s with toks := k }) : wpAny (model prog w) A (binaryOp .Mod (.str (Str.ofString "%s: line %d column %d (char %d)") t) (.ref b)) Q E s := by
  rw [show Str.ofString "%s: line %d column %d (char %d)" = Str.mk #[37, 115, 58, 32, 108, 105, 110, 101, 32, 37, 100, 32, 99, 111, 108, 117, 109, 110, 32, 37, 100, 32, 40, 99, 104, 97, 114, 32, 37, 100, 41] from by decide +kernel]
  have hT : s.TypeIs (.ref b) "tuple" := by
    obtain ⟨o, ho, hc, _⟩ := ht
    exact ⟨o, ho, hc⟩
  exact KPt.bin_left (T := "str") (U := "tuple") (op := .Mod) (by decide) (typeIs_str s _ t) hT F.fills_str_mod KPt.fills_tuple F.slot_str_mod
    (call_meets F.slot_str_mod (typeIs_str s _ t) F.entry_str_mod (F.args_str_mod_2 _ _) (meets_words hm hl hc hp) ⟨ht, fun t' k => ⟨(fun e => nomatch e), h t' k⟩⟩)
end
end Mine

-- part Cm2
open PySem PySem.W PyProof.Rows PySem.Calls
set_option Elab.async false
set_option maxRecDepth 100000
set_option maxHeartbeats 8000000
namespace Mine
open PySem.Builtin PySem.Builtin.ObjectAttr

abbrev vbm : List Value := [.type "ValueError", .type "Exception", .type "BaseException", .type "object"]

/-- what the walk asks of the written part about the error's class -/
structure ErrK (K : Frag) (C : Addr) : Prop where
  cls : ∃ cd, clsIn K C = some cd ∧ cd.mro = .ref C :: vbm ∧ cd.hasDict = true
  sa : findIn K (.ref C) "__setattr__" = some (some (.builtin "object.__setattr__"))
  ga : findIn K (.ref C) "__getattribute__" = some (some (.builtin "BaseException.__getattribute__"))
  hook : findIn K (.ref C) "__getattr__" = some none
  str : findIn K (.ref C) "__str__" = some (some (.builtin "BaseException.__str__"))
  args : findIn K (.ref C) "args" = some (some (.builtin "BaseException.args"))
  nmsg : findIn K (.ref C) "msg" = some none
  ndoc : findIn K (.ref C) "doc" = some none
  npos : findIn K (.ref C) "pos" = some none
  nlin : findIn K (.ref C) "lineno" = some none
  ncol : findIn K (.ref C) "colno" = some none

theorem refuse_exc (self : Value) (C : Addr) : refuseLoop self "__setattr__" (.ref C :: vbm) = pure () := by
  rw [refuseLoop_ref]; kernel_rfl

section
variable {prog : Program} {w : World} {A : Around} {E : Value → Shared → Prop} {s : Shared} {K : Frag} {x C d : Addr} {h : Heap}

theorem ErrK.mro (H : ErrK K C) {M : Model} (X : K.In h) : Looks M h (mroOf (.ref C)) (.ref C :: vbm) := by
  obtain ⟨cd, h1, h2, _⟩ := H.cls
  rw [← h2]; exact (looks_clsIn X h1).andThen .now
theorem ErrK.sub (H : ErrK K C) {M : Model} (X : K.In h) (b : Value) : Looks M h (isSubtype (.ref C) b) ((Value.ref C :: vbm).contains b) := by
  obtain ⟨cd, h1, h2, _⟩ := H.cls
  exact looks_mroIn X (by unfold mroIn; rw [h1, Option.bind_some, h2]; rfl)
theorem looks_cls {M : Model} {o : Obj} (e : h.get? x = some o) : Looks M h (typeOf (.ref x)) o.cls := (Looks.ld e).andThen .now
theorem ErrK.inst (H : ErrK K C) {M : Model} (X : K.In h) {o : Obj} (e : h.get? x = some o) (ho : o.cls = .ref C) (b : Value) : Looks M h (isInstance (.ref x) b) ((Value.ref C :: vbm).contains b) :=
  (ho ▸ looks_cls e).andThen (H.sub X b)

/-- the entry of a store into an object of the class, of a name that no class has -/
theorem osa_exc {R : Result → Shared → Prop} {o : Obj} {name : Str} {tk : Tok} {v : Value} (H : ErrK K C) (X : K.In s.heap) (e : s.heap.get? x = some o) (ho : o.cls = .ref C)
    (hf : findIn K (.ref C) name = some none)
    (h : wpAny (model prog w) A.in1 (storeInOwnDict (.ref x) (.ref C) (.str name tk) name v false)
      (fun fin s' => match fin with | .done f => R (.ok f) s' | .again c' => c'.quiet = true ∧ codeAny (model prog w) A c' R s') (fun e s' => R (.error e) s') s) :
    codeAny (model prog w) A (.call (.builtin "object.__setattr__") ⟨[.ref x, .str name tk, v], []⟩) R s := by
  have SF := PySem.F.store_object
  have sub : Looks (model prog w) s.heap (isInstance (.ref x) (.type "object")) true := H.inst X e ho (.type "object")
  have T : Looks (model prog w) s.heap (typeOf (.ref x)) (.ref C) := ho ▸ looks_cls e
  refine codeAny_call_builtin SF.slot.plain SF.entry (@check_slot (model prog w) _ _ s "object.__setattr__" "object" "__setattr__" (.ref x) [.str name tk, v] [] _ SF.kind SF.split sub (SF.args (.ref x) (.str name tk) v) ?_)
  rw [osa_eq, refuse_eq]
  refine wpAny_bind (wpAny_bind (T.here (wpAny_bind ((H.mro X).here ?_))))
  rw [refuse_exc]
  refine wpAny_pure (wpAny_bind (T.here (wpAny_bind ((looks_findIn X hf).here (wpAny_bind ?_)))))
  exact wpAny_pure h

theorem set_exc {o : Obj} {name : Str} {v : Value} {Q : Unit → Shared → Prop} (H : ErrK K C) (X : K.In s.heap) (e : s.heap.get? x = some o) (ho : o.cls = .ref C)
    (hf : findIn K (.ref C) name = some none)
    (h : wpAny (model prog w) A.in1 (storeInOwnDict (.ref x) (.ref C) (.str name s.toks) name v false) (fun fin s' => fin = .done (.ret .none) ∧ Q () s') (fun _ _ => False) { s with toks := s.toks + 1 }) :
    wpAny (model prog w) A (setAttr (.ref x) name v) Q E s := by
  have T : Looks (model prog w) s.heap (typeOf (.ref x)) (.ref C) := ho ▸ looks_cls e
  refine wpAny_bind (wpAny_mkText (wpAny_bind (wpAny_bind (wpAny_bind (T _ _ _ _ (fun _ _ e => e) (looks_findIn X H.sa _ _ _ _ (fun _ _ e => e) (wpAny_holding ?_)))))))
  rw [PySem.F.store_object.slot.bind]
  refine wpAny_bind (wpAny_pure (wpAny_bind (wpAny_call (osa_exc (s := { s with toks := s.toks + 1 }) (R := fun r s' => match r with | .ok (.ret v) => wpAny (model prog w) A (pure (some v)) (fun a s' => wpAny (model prog w) A _ Q E s') E s' | .ok _ => False | .error e => E e s') H X e ho hf (wpAny_mono h (fun fin s' z => ?_) fun _ _ z => z.elim)))))
  obtain ⟨rfl, z⟩ := z
  exact wpAny_pure (wpAny_pure z)
end
end Mine

-- part Cm3
open PySem PySem.W PyProof.Rows PySem.Calls
set_option Elab.async false
set_option maxRecDepth 100000
set_option maxHeartbeats 8000000
namespace Mine
open PySem.Builtin PySem.Builtin.ObjectAttr

theorem fr_but {h₀ h h' : Heap} {L : Addr} {m : Str → Option Value} {X : List Addr} (F : Fr h₀ L h m) (hk : ∀ b o, b ∉ X → h.get? b = some o → h'.get? b = some o) (hL : L ∉ X) (hX : ∀ a ∈ X, h₀.get? a = none) : Fr h₀ L h' m := by
  obtain ⟨oL, es, ep, hLg, r⟩ := F.ns
  exact ⟨⟨oL, es, ep, hk _ _ hL hLg, r⟩, fun b o e => hk b o (fun hb => by rw [hX b hb] at e; cases e) (F.keep b o e), F.above⟩
theorem news_but {h₀ h h' : Heap} {L : Addr} {news : List (Addr × Obj)} {X : List Addr} (N : News h₀ L h news) (hk : ∀ b o, b ∉ X → h.get? b = some o → h'.get? b = some o) (hX : ∀ p ∈ news, p.1 ∉ X) : News h₀ L h' news :=
  fun p hp => ⟨hk _ _ (hX p hp) (N p hp).1, (N p hp).2⟩

section
variable {prog : Program} {w : World} {A : Around} {E : Value → Shared → Prop} {s : Shared} {K : Frag} {x C d : Addr}

abbrev ent (w : World) (name : Str) (tk : Tok) (v : Value) : DictEntry := ⟨PyData.keyHash w.params name, .str name tk, v⟩

theorem storeInDict_at {name : Str} {tk : Tok} {v : Value} {Q : Fin → Shared → Prop} {es : List DictEntry} {n : Nat}
    (hd : s.heap.get? d = some (dictOf es n)) (hl : (getL name es).isSome = true) (hz : es.length ≤ 100)
    (h : ∀ h', h'.get? d = some (dictOf (putL name (PyData.keyHash w.params name) (.str name s.toks) v es) (putN name es n)) →
      (∀ b o, b ≠ d → s.heap.get? b = some o → h'.get? b = some o) → Q (.done (.ret .none)) { s with heap := h', toks := s.toks + 1 }) :
    wpAny (model prog w) A (storeInDict d (.str name tk) name v) Q E s := by
  unfold storeInDict nsSet
  refine wpAny_bind (wpAny_pure ?_)
  refine wpAny_bind ?_
  refine wpAny_bind ?_
  refine wpAny_bind (wpAny_askSetting (wpAny_pure ?_))
  refine wpAny_bind (wpAny_mkText ?_)
  refine wpAny_bind (wpAny_loadPart hd ?_)
  dsimp only
  have c : (!es.toArray.any (·.key.isStr name) && es.toArray.any (·.refKey)) = false := by
    rw [← Array.any_toList, ← Array.any_toList]
    unfold getL at hl
    split at hl
    · rename_i en he
      rw [List.any_eq_true.mpr ⟨en, List.mem_of_find?_eq_some he, List.find?_some he⟩]; rfl
    · split at hl
      · cases hl
      · rename_i z; rw [Bool.not_eq_true] at z; rw [z, Bool.and_false]
  rw [aRefKeyMayBeTheName_at, c]
  refine wpAny_updatePart hd ?_
  have hput : (putL name (PyData.keyHash w.params name) (.str name s.toks) v es).length ≤ es.length + 1 := by
    generalize PyData.keyHash w.params name = hsh
    clear h hd hl hz c
    induction es with
    | nil => simp [putL]
    | cons e r ih => unfold putL; split <;> simp; exact ih
  have hd2 : (s.heap.update d (Obj.putName name (PyData.keyHash w.params name) (.str name s.toks) v)).get? d = some (dictOf (putL name (PyData.keyHash w.params name) (.str name s.toks) v es) (putN name es n)) := by
    refine (Heap.get?_update_self _ hd ?_).trans ?_
    · rw [putName_dict]; rfl
    · rw [putName_dict]
  refine wpAny_bind (wpAny_lookBehind hd2 (pastItsLine_dict (by rw [List.size_toArray, sizeLine_eq]; omega)) ?_)
  exact wpAny_pure (h _ hd2 fun b o hb e => (Heap.get?_update_ne _ _ _ _ hb).trans e)

theorem store_first {name : Str} {tk : Tok} {v : Value} {vs : Array Value} {sl : Array (Option Value)} {Q : Fin → Shared → Prop} (H : ErrK K C) (X : K.In s.heap) (hx : s.heap.get? x = some ⟨.ref C, none, .fields vs, sl⟩)
    (h : ∀ h', h'.get? x = some ⟨.ref C, some s.heap.objs.size, .fields vs, sl⟩ → h'.get? s.heap.objs.size = some (dictOf [ent w name s.toks v] 1) →
      (∀ b o, b ≠ x → s.heap.get? b = some o → h'.get? b = some o) → Q (.done (.ret .none)) { s with heap := h', toks := s.toks + 1 }) :
    wpAny (model prog w) A (storeInOwnDict (.ref x) (.ref C) (.str name tk) name v false) Q E s := by
  obtain ⟨cd, h1, h2, h3⟩ := H.cls
  unfold storeInOwnDict ownDictForStores instanceDict
  refine wpAny_bind (wpAny_pure ?_)
  refine wpAny_bind (wpAny_bind (wpAny_loadPart hx ?_))
  refine wpAny_bind ((looks_clsIn X h1).here ?_)
  rw [h3]
  refine wpAny_bind (wpAny_alloc ?_)
  have hx1 := Heap.get?_push_of_some { cls := .type "dict", data := .dict #[] } hx
  have hne : x ≠ s.heap.objs.size := Nat.ne_of_lt (Heap.lt_size hx)
  refine wpAny_bind (wpAny_update hx1 ?_)
  refine wpAny_pure ?_
  have hd0 : (s.heap.push { cls := .type "dict", data := .dict #[] }).get? s.heap.objs.size = some (dictOf [] 0) := Heap.get?_push_size _ rfl
  have hd1 : ((s.heap.push { cls := .type "dict", data := .dict #[] }).update x fun o => { o with dict := some s.heap.objs.size }).get? s.heap.objs.size = some (dictOf [] 0) := (Heap.get?_update_ne _ _ _ _ (Ne.symm hne)).trans hd0
  have hx2 : ((s.heap.push { cls := .type "dict", data := .dict #[] }).update x fun o => { o with dict := some s.heap.objs.size }).get? x = some ⟨.ref C, some s.heap.objs.size, .fields vs, sl⟩ := Heap.get?_update_self _ hx1 rfl
  refine storeInDict_at hd1 rfl (by simp) fun h' hd2 hk => ?_
  refine h _ (hk _ _ hne hx2) hd2 fun b o hb e => ?_
  have hb2 : b ≠ s.heap.objs.size := Nat.ne_of_lt (Heap.lt_size e)
  exact hk _ _ hb2 ((Heap.get?_update_ne _ _ _ _ hb).trans (Heap.get?_push_of_some _ e))

theorem store_more {name : Str} {tk : Tok} {v : Value} {vs : Array Value} {sl : Array (Option Value)} {Q : Fin → Shared → Prop} {es : List DictEntry} {n : Nat} (H : ErrK K C) (X : K.In s.heap) (hx : s.heap.get? x = some ⟨.ref C, some d, .fields vs, sl⟩)
    (hd : s.heap.get? d = some (dictOf es n)) (hl : (getL name es).isSome = true) (hz : es.length ≤ 100)
    (h : ∀ h', h'.get? d = some (dictOf (putL name (PyData.keyHash w.params name) (.str name s.toks) v es) (putN name es n)) →
      (∀ b o, b ≠ d → s.heap.get? b = some o → h'.get? b = some o) → Q (.done (.ret .none)) { s with heap := h', toks := s.toks + 1 }) :
    wpAny (model prog w) A (storeInOwnDict (.ref x) (.ref C) (.str name tk) name v false) Q E s := by
  obtain ⟨cd, h1, h2, h3⟩ := H.cls
  unfold storeInOwnDict ownDictForStores instanceDict
  refine wpAny_bind (wpAny_pure ?_)
  refine wpAny_bind (wpAny_bind (wpAny_loadPart hx ?_))
  refine wpAny_bind ((looks_clsIn X h1).here ?_)
  rw [h3]
  refine wpAny_pure ?_
  exact storeInDict_at hd hl hz h

/-- the first store into an error, in the ledger's words -/
theorem set_firstN {h₀ : Heap} {L : Addr} {m : Str → Option Value} {news : List (Addr × Obj)} {name : Str} {v : Value} {vs : Array Value} {sl : Array (Option Value)} {Q : Unit → Shared → Prop} {g : Obj → List (Addr × Obj)} (H : ErrK K C) (F : Fr h₀ L s.heap m) (X : K.In h₀) (N : News h₀ L s.heap news)
    (U : UpdF x ⟨.ref C, none, .fields vs, sl⟩ news g) (hf : findIn K (.ref C) name = some none)
    (h : ∀ d h', Fr h₀ L h' m → News h₀ L h' ((d, dictOf [ent w name (s.toks + 1) v] 1) :: g ⟨.ref C, some d, .fields vs, sl⟩) → (∀ p ∈ news, p.1 < d) → Q () { s with heap := h', toks := s.toks + 2 }) :
    wpAny (model prog w) A (setAttr (.ref x) name v) Q E s := by
  obtain ⟨pre, post, rfl, hg, a, b⟩ := U.split
  have D := N (x, ⟨.ref C, none, .fields vs, sl⟩) (by simp)
  have hs := X.keeps F.keep
  obtain ⟨oL, esL, epL, hLg, rL⟩ := F.ns
  refine set_exc H hs D.1 rfl hf (store_first (s := { s with toks := s.toks + 1 }) H hs D.1 fun h' h1 h2 h3 => ⟨rfl, ?_⟩)
  have hk : ∀ b o, b ∉ [x] → s.heap.get? b = some o → h'.get? b = some o := fun b o hb e => h3 b o (fun q => hb (by simp [q])) e
  refine h s.heap.objs.size h' (fr_but F hk (by simpa using Ne.symm D.2.1) (by simpa using D.2.2)) ?_ (fun p hp => Heap.lt_size (N p hp).1)
  rw [hg]
  intro p hp
  rcases List.mem_cons.mp hp with rfl | hp
  · refine ⟨h2, Nat.ne_of_gt (Heap.lt_size hLg), ?_⟩
    cases q : h₀.get? s.heap.objs.size with
    | none => rfl
    | some o => exact absurd (Heap.lt_size (F.keep _ _ q)) (Nat.lt_irrefl _)
  · rcases List.mem_append.mp hp with hp | hp
    · have P := N p (List.mem_append_left _ hp); exact ⟨h3 _ _ (a p hp) P.1, P.2⟩
    · rcases List.mem_cons.mp hp with rfl | hp
      · exact ⟨h1, D.2⟩
      · have P := N p (List.mem_append_right _ (.tail _ hp)); exact ⟨h3 _ _ (b p hp) P.1, P.2⟩

theorem set_moreN {h₀ : Heap} {L : Addr} {m : Str → Option Value} {news : List (Addr × Obj)} {name : Str} {v : Value} {vs : Array Value} {sl : Array (Option Value)} {Q : Unit → Shared → Prop} {g : Obj → List (Addr × Obj)} {es es' : List DictEntry} {n n' : Nat} (H : ErrK K C) (F : Fr h₀ L s.heap m) (X : K.In h₀) (N : News h₀ L s.heap news)
    (hx : (x, ⟨.ref C, some d, .fields vs, sl⟩) ∈ news) (U : UpdF d (dictOf es n) news g) (hf : findIn K (.ref C) name = some none) (hl : (getL name es).isSome = true) (hz : es.length ≤ 100)
    (e : (putL name (PyData.keyHash w.params name) (.str name (s.toks + 1)) v es, putN name es n) = (es', n'))
    (h : ∀ h', Fr h₀ L h' m → News h₀ L h' (g (dictOf es' n')) → Q () { s with heap := h', toks := s.toks + 2 }) :
    wpAny (model prog w) A (setAttr (.ref x) name v) Q E s := by
  obtain ⟨pre, post, rfl, hg, a, b⟩ := U.split
  obtain ⟨e1, e2⟩ := Prod.mk.inj e
  have D := N (d, dictOf es n) (by simp)
  have Dx := N _ hx
  have hs := X.keeps F.keep
  refine set_exc H hs Dx.1 rfl hf (store_more (s := { s with toks := s.toks + 1 }) H hs Dx.1 D.1 hl hz fun h' h1 h3 => ⟨rfl, ?_⟩)
  rw [e1, e2] at h1
  have hk : ∀ b o, b ∉ [d] → s.heap.get? b = some o → h'.get? b = some o := fun b o hb e => h3 b o (fun q => hb (by simp [q])) e
  refine h h' (fr_but F hk (by simpa using Ne.symm D.2.1) (by simpa using D.2.2)) ?_
  rw [hg]
  intro p hp
  rcases List.mem_append.mp hp with hp | hp
  · have P := N p (List.mem_append_left _ hp); exact ⟨h3 _ _ (a p hp) P.1, P.2⟩
  · rcases List.mem_cons.mp hp with rfl | hp
    · exact ⟨h1, D.2⟩
    · have P := N p (List.mem_append_right _ (.tail _ hp)); exact ⟨h3 _ _ (b p hp) P.1, P.2⟩
end
end Mine

-- part Cm4
open PySem PySem.W PyProof.Rows PySem.Calls
set_option Elab.async false
set_option maxRecDepth 100000
set_option maxHeartbeats 8000000
namespace Mine
open PySem.Builtin PySem.Builtin.ObjectAttr

theorem typeOf_VE : typeOf (.type "ValueError") = pure (.type "type") := by rfl
theorem stub_VE : Manifest.isStub "ValueError" = false := by kernel_rfl
theorem hand_VE : handedIn (.builtin "ValueError.__init__") = true := by decide +kernel
theorem find_VEK (K : Frag) : findCls K (.type "ValueError") (.type "type") "__init__" = some (.val (.builtin "ValueError.__init__")) := by kernel_rfl
section
variable {prog : Program} {w : World} {A : Around} {E : Value → Shared → Prop} {s : Shared} {K : Frag} {x C d : Addr} {h₀ : Heap} {L : Addr} {m : Str → Option Value} {news : List (Addr × Obj)}
theorem method_vinit {pl : Sem Bool} {Q : Value × List Value → Shared → Prop} (F : Fr h₀ L s.heap m) (X₀ : K.In h₀) (h : Q (.builtin "ValueError.__init__", []) { s with toks := s.toks + 1 }) : wpAny (model prog w) A (getMethod (.type "ValueError") (Str.ofString "__init__") pl) Q E s :=
  method_type (K := K) (T := "ValueError") (name := Str.ofString "__init__") (v := .builtin "ValueError.__init__") F X₀ typeOf_VE stub_VE (find_VEK K) hand_VE h

theorem check_vinit {M : Model} {o : Obj} {rest : List Value} {Q : Unit → Shared → Prop} (H : ErrK K C) (X : K.In s.heap) (e : s.heap.get? x = some o) (ho : o.cls = .ref C) (h : Q () s) :
    wpAny M A (checkBuiltinCall "ValueError.__init__" ⟨.ref x :: rest, []⟩) Q E s := by
  have F := PySem.F.excBase_ValueError
  have hshort := F.noStar
  have HI := H.inst (M := M) X e ho (.type "ValueError")
  obtain ⟨oc, odd, oda, osl⟩ := o
  dsimp only at ho
  subst ho
  obtain ⟨cd, h1, h2, h3⟩ := H.cls
  have LC := looks_clsIn (M := M) X h1
  simp only [checkBuiltinCall, F.initKind, F.initSplit, F.initRow]
  refine wpAny_bind (HI.here ?_)
  rw [show (Value.ref C :: vbm).contains (.type "ValueError") = true from rfl]
  repeat (first | with_reducible refine Looks.here LC ?_ | wp_step)
  refine wpAny_onRaise ?_
  rw [show ∀ (a b : String) (n : Nat), Bind.check ⟨.positional, "*", "ValueError", .self, [⟨"args", .varPos, false⟩]⟩ a b n (List.map (fun x => x.fst) ({ pos := .ref x :: rest } : Args).kw) = pure () from
    fun a b n => check_star_args _ _ _ _ _ _]
  exact wpAny_pure h

/-- ValueError.__init__(self, words) on an object of the own class -/
theorem vinit_raw {v : Value} {t : Addr} {dd : Option Addr} {r1 r2 r3 r4 r5 : Value} {sl : Array (Option Value)} {Q : Value → Shared → Prop} (H : ErrK K C) (X : K.In s.heap) (hx : s.heap.get? x = some ⟨.ref C, dd, .fields #[.ref t, r1, r2, r3, r4, r5], sl⟩)
    (h : ∀ h', h'.get? x = some ⟨.ref C, dd, .fields #[.ref s.heap.objs.size, r1, r2, r3, r4, r5], sl⟩ → h'.get? s.heap.objs.size = some { cls := .type "tuple", data := .seq #[v] } →
      (∀ b o, b ≠ x → s.heap.get? b = some o → h'.get? b = some o) → Q .none { s with heap := h' }) :
    wpAny (model prog w) A (call (.builtin "ValueError.__init__") [.ref x, v]) Q E s := by
  have F := PySem.F.excBase_ValueError
  refine wpAny_call (codeAny_call_builtin F.init.plain F.initEntry (check_vinit H X hx rfl ?_))
  unfold Builtin.«BaseException.__init__»
  have hx1 := Heap.get?_push_of_some { cls := .type "tuple", data := .seq #[v] } hx
  have hne : x ≠ s.heap.objs.size := Nat.ne_of_lt (Heap.lt_size hx)
  show wpAny _ _ (newTuple [v] >>= fun t => BaseException.bexcPut (.ref x) 0 t >>= fun _ => ret .none) _ _ _
  refine wpAny_bind (wpAny_newObj_type ?_ (by show ([v].toArray).size ≤ sizeLine; rw [sizeLine_eq]; simp))
  unfold BaseException.bexcPut
  refine wpAny_bind ?_
  refine wpAny_bind (wpAny_field hx1 rfl (x := .ref t) rfl ?_)
  refine wpAny_bind (wpAny_setField hx1 rfl (by simp) ?_)
  refine wpAny_letGo ?_
  refine wpAny_pure ?_
  refine h _ (Heap.get?_update_self _ hx1 rfl) ((Heap.get?_update_ne _ _ _ _ (Ne.symm hne)).trans (Heap.get?_push_size _ rfl)) fun b o hb e => ?_
  exact (Heap.get?_update_ne _ _ _ _ hb).trans (Heap.get?_push_of_some _ e)

theorem vinitN {v : Value} {t : Addr} {dd : Option Addr} {r1 r2 r3 r4 r5 : Value} {sl : Array (Option Value)} {Q : Value → Shared → Prop} {g : Obj → List (Addr × Obj)} (H : ErrK K C) (F : Fr h₀ L s.heap m) (X : K.In h₀) (N : News h₀ L s.heap news)
    (U : UpdF x ⟨.ref C, dd, .fields #[.ref t, r1, r2, r3, r4, r5], sl⟩ news g)
    (h : ∀ d h', Fr h₀ L h' m → News h₀ L h' ((d, { cls := .type "tuple", data := .seq #[v] }) :: g ⟨.ref C, dd, .fields #[.ref d, r1, r2, r3, r4, r5], sl⟩) → (∀ p ∈ news, p.1 < d) → Q .none { s with heap := h' }) :
    wpAny (model prog w) A (call (.builtin "ValueError.__init__") [.ref x, v]) Q E s := by
  obtain ⟨pre, post, rfl, hg, a, b⟩ := U.split
  have D := N (x, ⟨.ref C, dd, .fields #[.ref t, r1, r2, r3, r4, r5], sl⟩) (by simp)
  have hs := X.keeps F.keep
  obtain ⟨oL, esL, epL, hLg, rL⟩ := F.ns
  refine vinit_raw H hs D.1 fun h' h1 h2 h3 => ?_
  have hk : ∀ b o, b ∉ [x] → s.heap.get? b = some o → h'.get? b = some o := fun b o hb e => h3 b o (fun q => hb (by simp [q])) e
  refine h s.heap.objs.size h' (fr_but F hk (by simpa using Ne.symm D.2.1) (by simpa using D.2.2)) ?_ (fun p hp => Heap.lt_size (N p hp).1)
  rw [hg]
  intro p hp
  rcases List.mem_cons.mp hp with rfl | hp
  · refine ⟨h2, Nat.ne_of_gt (Heap.lt_size hLg), ?_⟩
    cases q : h₀.get? s.heap.objs.size with
    | none => rfl
    | some o => exact absurd (Heap.lt_size (F.keep _ _ q)) (Nat.lt_irrefl _)
  · rcases List.mem_append.mp hp with hp | hp
    · have P := N p (List.mem_append_left _ hp); exact ⟨h3 _ _ (a p hp) P.1, P.2⟩
    · rcases List.mem_cons.mp hp with rfl | hp
      · exact ⟨h1, D.2⟩
      · have P := N p (List.mem_append_right _ (.tail _ hp)); exact ⟨h3 _ _ (b p hp) P.1, P.2⟩
end
end Mine

-- part Cm5
open PySem PySem.W PyProof.Rows PySem.Calls
set_option Elab.async false
set_option maxRecDepth 100000
set_option maxHeartbeats 8000000
namespace Mine
open PySem.Builtin PySem.Builtin.ObjectAttr

/-- entering a def whose mutable arguments are the listed objects; the base is `g` -/
theorem enterM {prog : Program} {w : World} {A : Around} {s : Shared} {Q E : Value → Shared → Prop} {K : Frag} {p : Program} {loose : List Str} {mg mb : Str → Option Value}
    {name qual : Str} {params : Arguments} {body : List Stmt} {scope : Scope} {dV kV doc pm cdv ct oc : Value} {an od : Option Addr} {osl : Array (Option Value)} {f : Addr} {vals : List Value} {binds : List (Str × Value)}
    (muts : List (Addr × Obj)) (g : Heap) (hk : Keeps g s.heap) (hsz : g.objs.size ≤ s.heap.objs.size) (hm : ∀ q ∈ muts, s.heap.get? q.1 = some q.2 ∧ g.get? q.1 = none)
    (X : K.In g) (T : TopRead p loose mg mb g)
    (ho : K.lookup f = some ⟨oc, od, .func (fnOf name qual params body scope dV kV doc pm an cdv ct), osl⟩) (hcd : codeIn K cdv qual = true) (hroom : A.depth < recursionLimit)
    (hbind : BindsTo s (fnOf name qual params body scope dV kV doc pm an cdv ct) ⟨vals, []⟩ binds) (hloc : ∀ y ∈ binds, scope.names.lookup y.1 = some .local)
    (h : ∀ L h₁, Fr g L h₁ (fun y => binds.reverse.lookup y) → News g L h₁ muts → (∀ q ∈ muts, q.1 < L) →
      wpAny (model prog w) (A.deeper (envOf qual scope L f cdv)) (execs body (envOf qual scope L f cdv))
        (fun fl s' => Q (match fl with | .ret v => v | _ => .none) s')
        (fun _ _ => False)
        { s with heap := h₁, toks := s.toks + binds.length })
    (hco : scope.isCoroutine = false := by rfl) (hgen : scope.isGenerator = false := by rfl) (hkf : scope.kind = .function := by rfl)
    (hcell : ∀ x ∈ scope.names, x.2 ≠ .cell := by decide) : wpAny (model prog w) A (call (.ref f) vals) Q E s := by
  refine wpAny_call (codeAny_call_def (fd := fnOf name qual params body scope dV kV doc pm an cdv ct) (body := body) (binds := binds) hroom (X.keeps hk _ _ ho) rfl (T.nolimit.keeps hk) (codeRec_of (X.keeps hk) hcd) rfl hbind hcell hloc (fun h₁ hns hk₁ => ?_) hco hgen hkf)
  exact wpAny_mono (h s.heap.objs.size h₁ ⟨hns, fun b o e => hk₁ _ _ (hk _ _ e), hsz⟩ (fun q hq => ⟨hk₁ _ _ (hm q hq).1, Nat.ne_of_lt (Heap.lt_size (hm q hq).1), (hm q hq).2⟩) (fun q hq => Heap.lt_size (hm q hq).1)) (fun _ _ x => x) (fun _ _ x => x.elim)

theorem of_hide_base {h h' : Heap} {as : List Addr} (hk : Keeps h h') (hn : ∀ a ∈ as, h.get? a = none) : Keeps h (hideAll h' as) := fun b o e =>
  hideAll_get as (hk b o e) (fun hb => by have := hn b hb; rw [e] at this; cases this)

/-- entering a def that changes nothing that stood -/
theorem enterK {prog : Program} {w : World} {A : Around} {s : Shared} {Q E : Value → Shared → Prop} {K : Frag} {p : Program} {loose : List Str} {mg mb : Str → Option Value}
    {name qual : Str} {params : Arguments} {body : List Stmt} {scope : Scope} {dV kV doc pm cdv ct oc : Value} {an od : Option Addr} {osl : Array (Option Value)} {f : Addr} {vals : List Value} {binds : List (Str × Value)}
    (X : K.In s.heap) (T : TopRead p loose mg mb s.heap)
    (ho : K.lookup f = some ⟨oc, od, .func (fnOf name qual params body scope dV kV doc pm an cdv ct), osl⟩) (hcd : codeIn K cdv qual = true) (hroom : A.depth < recursionLimit)
    (hbind : BindsTo s (fnOf name qual params body scope dV kV doc pm an cdv ct) ⟨vals, []⟩ binds) (hloc : ∀ y ∈ binds, scope.names.lookup y.1 = some .local)
    (h : ∀ L h₁, Fr s.heap L h₁ (fun y => binds.reverse.lookup y) → News s.heap L h₁ [] →
      wpAny (model prog w) (A.deeper (envOf qual scope L f cdv)) (execs body (envOf qual scope L f cdv))
        (fun fl s' => Q (match fl with | .ret v => v | _ => .none) s')
        (fun _ _ => False)
        { s with heap := h₁, toks := s.toks + binds.length })
    (hco : scope.isCoroutine = false := by rfl) (hgen : scope.isGenerator = false := by rfl) (hkf : scope.kind = .function := by rfl)
    (hcell : ∀ x ∈ scope.names, x.2 ≠ .cell := by decide) : wpAny (model prog w) A (call (.ref f) vals) Q E s :=
  enterM [] s.heap (fun _ _ e => e) (Nat.le_refl _) (fun _ hq => nomatch hq) X T ho hcd hroom hbind hloc (fun L h₁ F N _ => h L h₁ F N) hco hgen hkf hcell

/-- an error of the class at e: its message, text, place, line, column and words -/
def ErrAt (w : World) (C : Addr) (h : Heap) (e : Addr) (msg doc : Str) (pos ln cn : Int) (ws : Str) : Prop :=
  ∃ d t r1 r2 r3 r4 r5 sl tw k1 k2 k3 k4 k5 t1 t2 t3 t4 t5,
    h.get? e = some ⟨.ref C, some d, .fields #[.ref t, r1, r2, r3, r4, r5], sl⟩ ∧
    h.get? t = some { cls := .type "tuple", data := .seq #[.str ws tw] } ∧
    h.get? d = some (dictOf [ent w "msg" k1 (.str msg t1), ent w "doc" k2 (.str doc t2), ent w "pos" k3 (.int pos t3), ent w "lineno" k4 (.int ln t4), ent w "colno" k5 (.int cn t5)] 5)

theorem ErrAt.keeps {w : World} {C : Addr} {h h' : Heap} {e : Addr} {msg doc : Str} {pos ln cn : Int} {ws : Str} (x : ErrAt w C h e msg doc pos ln cn ws) (k : Keeps h h') : ErrAt w C h' e msg doc pos ln cn ws := by
  obtain ⟨d, t, r1, r2, r3, r4, r5, sl, tw, k1, k2, k3, k4, k5, t1, t2, t3, t4, t5, a, b, c⟩ := x
  exact ⟨d, t, r1, r2, r3, r4, r5, sl, tw, k1, k2, k3, k4, k5, t1, t2, t3, t4, t5, k _ _ a, k _ _ b, k _ _ c⟩

abbrev nl : Str := Str.ofString "\n"
def lnOf (doc : Str) (pos : Int) : Int := cnt doc nl pos + 1
def cnOf (doc : Str) (pos : Int) : Int := pos - rfd doc nl pos
end Mine

-- part Cm6
open PySem PySem.W PyProof.Rows PySem.Calls
set_option Elab.async false
set_option maxRecDepth 100000
set_option maxHeartbeats 8000000
namespace Mine
open PySem.Builtin PySem.Builtin.ObjectAttr

section
variable {prog : Program} {w : World} {A : Around} {E : Value → Shared → Prop} {s : Shared} {K : Frag} {x C d t : Addr} {o : Obj}

theorem oga_eq (self : Value) (name : Str) (tk : Tok) : Builtin.«object.__getattribute__» ⟨[self, .str name tk], []⟩ = (typeOf self >>= fun tp => find self tp name >>= fun r => match r with
  | .value v => ret v
  | .bind g a => bindTo g a self tp
  | .missing => do
    if tp == .type "module" then
      if ← isOpaqueModuleObj self then
        let byTheModulesOwnEntry := match (← stack).drop 1 with
          | (.builtin "module.__getattribute__" ⟨m :: _, _⟩, _) :: _ => m == self
          | _ => false
        if !byTheModulesOwnEntry then unsupported "thirdparty:object.__getattribute__:a-miss-on-an-opaque-module"
    if tp == .type "type" then
      if let some key ← opaqueClassAbove self then unsupported s!"thirdparty:{key.toString}.{name.toString}:object.__getattribute__-misses-on-an-opaque-class"
    noSuchAttribute self name) := by kernel_rfl

/-- the road of a read of an attribute of an error -/
theorem get_err {name : Str} {expr : Bool} {Q : Value → Shared → Prop} {r : Found} {v : Value} (H : ErrK K C) (X : K.In s.heap) (e : s.heap.get? x = some o) (ho : o.cls = .ref C)
    (hf : Looks (model prog w) s.heap (find (.ref x) (.ref C) name) r) (hh : handedIn v = true)
    (hr : wpAny (model prog w) A.in1 (match r with | .value v => ret v | .bind g a => bindTo g a (.ref x) (.ref C) | .missing => noSuchAttribute (.ref x) name)
      (fun fin s' => fin = .done (.ret v) ∧ Q v s') (fun _ _ => False) { s with toks := s.toks + 1 }) (hm : r ≠ .missing) :
    wpAny (model prog w) A (getAttr (.ref x) name expr) Q E s := by
  have T : Looks (model prog w) s.heap (typeOf (.ref x)) (.ref C) := ho ▸ looks_cls e
  have G := looks_findIn (M := model prog w) X H.ga
  have Hk := looks_findIn (M := model prog w) X H.hook
  have FA := PySem.F.attr_ValueError
  have hkind : builtinKind "BaseException.__getattribute__" = some .slot := by decide +kernel
  have hsplit : splitId "BaseException.__getattribute__" = some ("BaseException", "__getattribute__") := by decide +kernel
  have HI : Looks (model prog w) s.heap (isInstance (.ref x) (.type "BaseException")) true := H.inst X e ho (.type "BaseException")
  unfold getAttr getAttrBy
  refine wpAny_bind (wpAny_mkText (wpAny_holding ?_))
  refine wpAny_bind (T.here (s := { s with toks := s.toks + 1 }) (wpAny_bind (G.here (s := { s with toks := s.toks + 1 }) ?_)))
  dsimp only
  rw [show (onTheHeap (Value.ref C) && Value.builtin "BaseException.__getattribute__" == Value.builtin "object.__getattribute__") = false from by rw [show (Value.builtin "BaseException.__getattribute__" == Value.builtin "object.__getattribute__") = false from by decide +kernel]; rfl]
  unfold getAttrByItsOwn hookBefore
  refine wpAny_bind (Hk.here (s := { s with toks := s.toks + 1 }) ?_)
  refine wpAny_bind (wpAny_attempt (wpAny_holding ?_))
  unfold callGetattribute
  rw [show (expr && onTheHeap (Value.builtin "BaseException.__getattribute__")) = false from by cases expr <;> rfl]
  unfold boundAndCalled
  rw [FA.ga.bind]
  refine wpAny_bind (wpAny_pure (wpAny_call (codeAny_call_builtin FA.ga.plain F.entry_bexc_ga (@check_slot (model prog w) _ _ { s with toks := s.toks + 1 } _ _ _ (.ref x) [.str name s.toks] [] _ hkind hsplit HI (F.args_bexc_ga _ _) ?_))))
  show wpAny _ _ (Builtin.«object.__getattribute__» ⟨[.ref x, .str name s.toks], []⟩) _ _ _
  rw [oga_eq]
  refine wpAny_bind (T.here (s := { s with toks := s.toks + 1 }) (wpAny_bind (hf.here (s := { s with toks := s.toks + 1 }) ?_)))
  refine wpAny_mono (Q := fun fin s' => fin = .done (.ret v) ∧ Q v s') (E := fun _ _ => False) ?_ (fun fin s' z => ?_) (fun _ _ z => z.elim)
  · cases r with
    | value v => exact hr
    | bind g a => exact hr
    | missing => exact absurd rfl hm
  · obtain ⟨rfl, z⟩ := z
    show wpAny _ _ (handedOut v) _ _ _
    rw [handedOut_of hh]; exact wpAny_pure z

theorem get_err_own {name : Str} {expr : Bool} {Q : Value → Shared → Prop} {v : Value} {es : List DictEntry} {n : Nat} {vs : Array Value} {sl : Array (Option Value)} (H : ErrK K C) (X : K.In s.heap) (e : s.heap.get? x = some ⟨.ref C, some d, .fields vs, sl⟩) (hd : s.heap.get? d = some (dictOf es n))
    (hf : findIn K (.ref C) name = some none) (hl : getL name es = some (some v)) (hh : handedIn v = true) (h : Q v { s with toks := s.toks + 1 }) :
    wpAny (model prog w) A (getAttr (.ref x) name expr) Q E s := by
  obtain ⟨cd, h1, h2, h3⟩ := H.cls
  refine get_err (r := .value v) H X e rfl (looks_find (od := some (dictOf es n)) X (I := ⟨e, rfl, rfl, hd⟩) ?_) hh (wpAny_pure ⟨rfl, h⟩) (by intro q; cases q)
  unfold findObj
  rw [h1, hf]
  simp only [Option.bind_some]
  unfold W.ownOf
  rw [h3, if_pos rfl]
  dsimp only
  rw [show lookIn name (dictOf es n) = getL name es from rfl, hl]
  rfl

theorem find_args {vs : Array Value} {sl : Array (Option Value)} {dd : Option Addr} (H : ErrK K C) (X : K.In s.heap) (e : s.heap.get? x = some ⟨.ref C, dd, .fields vs, sl⟩) :
    Looks (model prog w) s.heap (find (.ref x) (.ref C) "args") (.bind (.builtin "getset_descriptor.__get__") (.builtin "BaseException.args")) := by
  have L1 := looks_findIn (M := model prog w) X H.args
  have T5 : Looks (model prog w) s.heap (typeOf (.builtin "BaseException.args")) (.type "getset_descriptor") := Looks.of_pure F.typeOf_bexc_args
  have g1 : Looks (model prog w) s.heap (specialOf (.builtin "BaseException.args") "__get__") (some (.builtin "getset_descriptor.__get__")) := T5.andThen (Looks.of_pure F.slot_gs_get.lookup)
  have g2 : Looks (model prog w) s.heap (specialOf (.builtin "BaseException.args") "__set__") (some (.builtin "getset_descriptor.__set__")) := T5.andThen (Looks.of_pure F.slot_gs_set.lookup)
  unfold find
  refine L1.andThen ?_
  unfold getOf
  refine g1.andThen ?_
  have g3 : Looks (model prog w) s.heap (takesStores (.builtin "BaseException.args")) true := g2.andThen .now
  have D : Looks (model prog w) s.heap (dataDescriptor? (some (.builtin "BaseException.args")) (some (.builtin "getset_descriptor.__get__"))) (some (.builtin "getset_descriptor.__get__", .builtin "BaseException.args")) := g3.andThen .now
  exact D.andThen (Looks.tag .now)

theorem get_err_args {expr : Bool} {Q : Value → Shared → Prop} {dd : Option Addr} {r1 r2 r3 r4 r5 : Value} {sl : Array (Option Value)} (H : ErrK K C) (X : K.In s.heap) (e : s.heap.get? x = some ⟨.ref C, dd, .fields #[.ref t, r1, r2, r3, r4, r5], sl⟩)
    (h : Q (.ref t) { s with toks := s.toks + 1 }) :
    wpAny (model prog w) A (getAttr (.ref x) (Str.ofString "args") expr) Q E s := by
  refine get_err (r := .bind _ _) (v := .ref t) H X e rfl (find_args H X e) rfl ?_ (by intro q; cases q)
  show wpAny _ _ (bindTo _ _ _ _) _ _ _
  unfold bindTo
  dsimp only
  refine wpAny_bind (wpAny_holding (wpAny_call ?_))
  have hT5 : Shared.TypeIs { s with toks := s.toks + 1 } (.builtin "BaseException.args") "getset_descriptor" := F.typeOf_bexc_args
  refine codeAny_call_builtin F.slot_gs_get.plain F.entry_gs_get (F.slot_gs_get.check _ _ _ _ _ _ _ _ hT5 (F.args_gs_get _ _ _) ?_)
  have HS := H.sub (M := model prog w) X (.type (".".intercalate ("BaseException.args".cutAt '.').dropLast))
  rw [show (Value.ref C :: vbm).contains (.type (".".intercalate ("BaseException.args".cutAt '.').dropLast)) = true from by rw [F.owner_bexc_args]; rfl] at HS
  obtain ⟨hp, g, dr, tk, os⟩ := s
  dsimp only at e X HS
  repeat (any_goals (first | assumption | (with_reducible refine wpAny_loadPart_at e ?_) | (with_reducible refine Looks.at HS ?_) | wp_step))
  refine ⟨Code.quiet_builtin _ (by decide +kernel), codeAny_builtin F.entry_bexc_args ?_⟩
  have hnd : (Value.ref t == doubtfulMember) = false := by first | rfl | decide | simp [doubtfulMember, rawInt]
  unfold Builtin.«BaseException.args»
  refine wpAny_bind (wpAny_field e rfl (x := .ref t) rfl ?_)
  rw [hnd]
  exact wpAny_pure (wpAny_pure ⟨rfl, h⟩)

theorem call_errStr {ws : Str} {tw : Tok} {dd : Option Addr} {r1 r2 r3 r4 r5 : Value} {sl : Array (Option Value)} {Q : Value → Shared → Prop} (H : ErrK K C) (X : K.In s.heap) (e : s.heap.get? x = some ⟨.ref C, dd, .fields #[.ref t, r1, r2, r3, r4, r5], sl⟩)
    (ht : s.heap.get? t = some { cls := .type "tuple", data := .seq #[.str ws tw] }) (h : Q (.str ws tw) s) :
    wpAny (model prog w) A (call (.builtin "BaseException.__str__") [.ref x]) Q E s := by
  have FS := PySem.F.excStr_ValueError
  have hkind : builtinKind "BaseException.__str__" = some .slot := by decide +kernel
  have hsplit : splitId "BaseException.__str__" = some ("BaseException", "__str__") := by decide +kernel
  have HI : Looks (model prog w) s.heap (isInstance (.ref x) (.type "BaseException")) true := H.inst X e rfl (.type "BaseException")
  refine wpAny_call (codeAny_call_builtin FS.str.plain F.entry_bexc_str (@check_slot (model prog w) _ _ s _ _ _ (.ref x) [] [] _ hkind hsplit HI (F.args_bexc_str _) ?_))
  show wpAny _ _ (BaseException.bexcArgs (.ref x) >>= fun a => match a with
    | (_, []) => (do rule "BaseException.__str__.no-argument"; retStr Str.empty)
    | (_, [y]) => (do rule "BaseException.__str__.one-argument"; ret (← BaseException.bexcText "__str__" y))
    | (t, _) => (do ret (← BaseException.bexcText "__str__" t))) _ _ _
  unfold BaseException.bexcArgs
  refine wpAny_bind (wpAny_bind (wpAny_field e rfl (x := .ref t) rfl (wpAny_bind (wpAny_seqItems ht rfl ?_))))
  refine wpAny_pure ?_
  refine wpAny_bind (wpAny_rule ?_)
  refine wpAny_bind (wpAny_pure ?_)
  exact wpAny_pure h

theorem strOf_err {ws : Str} {tw : Tok} {dd : Option Addr} {r1 r2 r3 r4 r5 : Value} {sl : Array (Option Value)} {Q : Value → Shared → Prop} (H : ErrK K C) (hu : A.units < cLine) (X : K.In s.heap) (e : s.heap.get? x = some ⟨.ref C, dd, .fields #[.ref t, r1, r2, r3, r4, r5], sl⟩)
    (ht : s.heap.get? t = some { cls := .type "tuple", data := .seq #[.str ws tw] }) (h : Q (.str ws tw) s) :
    wpAny (model prog w) A (Builtin.Str.strOf (.ref x)) Q E s := by
  have FS := PySem.F.excStr_ValueError
  have T : Looks (model prog w) s.heap (typeOf (.ref x)) (.ref C) := looks_cls e
  have G := looks_findIn (M := model prog w) X H.str
  unfold Builtin.Str.strOf
  refine wpAny_ite ?_
  rw [if_neg (show ¬ (Str.isExactStr (.ref x) = true) from Bool.false_ne_true)]
  refine wpAny_bind (wpAny_cRoomFor hu ?_)
  refine wpAny_bind ?_
  refine wpAny_bind (wpAny_bind (T.here (G.here ?_)))
  refine wpAny_holding ?_
  rw [FS.str.bind]
  refine wpAny_bind (wpAny_pure (wpAny_bind (call_errStr H X e ht ?_)))
  exact wpAny_pure (wpAny_bind (wpAny_of_eq (a := some ws) rfl (wpAny_pure h)))

/-- str(e) -/
theorem str_err {ws : Str} {tw : Tok} {dd : Option Addr} {r1 r2 r3 r4 r5 : Value} {sl : Array (Option Value)} {Q : Value → Shared → Prop} (H : ErrK K C) (hu : A.units + 2 < cLine) (X : K.In s.heap) (e : s.heap.get? x = some ⟨.ref C, dd, .fields #[.ref t, r1, r2, r3, r4, r5], sl⟩)
    (ht : s.heap.get? t = some { cls := .type "tuple", data := .seq #[.str ws tw] }) (h : Q (.str ws tw) s) :
    wpAny (model prog w) A (call (.type "str") [.ref x]) Q E s :=
  callType_new F.called_str (by decide) (F.typeCall_str_1 _) (F.newCall_str_1 _) (fun obj => F.args_object_init_2 obj _) F.entry_str_new
    (meets_str_new (S := fun A' R s' => A'.units + 1 < cLine ∧ s'.heap = s.heap ∧ R (.ok (.ret (.str ws tw))) s')
      fun _ _ A' _ s' hq => strOf_err (A := A'.in1) (s := s') H hq.1 (hq.2.1 ▸ X) (hq.2.1 ▸ e) (hq.2.1 ▸ ht) hq.2.2)
    ⟨(show A.units + 1 + 1 < cLine from hu), rfl, typeIs_str _ _ _, h⟩

/-- isinstance(e, ValueError) -/
theorem isi_err {Q : Value → Shared → Prop} (H : ErrK K C) (X : K.In s.heap) (e : s.heap.get? x = some o) (ho : o.cls = .ref C) (h : Q (.bool true) s) :
    wpAny (model prog w) A (call (.builtin "isinstance") [.ref x, .type "ValueError"]) Q E s := by
  refine call_isinstance (S := fun _ R s' => s'.heap = s.heap ∧ R (.ok (.ret (.bool true))) s') (fun prog w A R s' hs => isinstance_outer ?_ (by intro q; cases q)) ⟨rfl, h⟩
  obtain ⟨hp, g, dr, tk, os⟩ := s'
  obtain ⟨hh, hR⟩ := hs
  dsimp only at hh
  subst hh
  have T : Looks (model prog w) s.heap (typeOf (.ref x)) (.ref C) := ho ▸ looks_cls e
  have L1 : Looks (model prog w) s.heap (typeOf (.type "ValueError")) (.type "type") := Looks.of_pure typeOf_VE
  have L3 : Looks (model prog w) s.heap (isInstance (.ref x) (.type "ValueError")) true := H.inst X e ho (.type "ValueError")
  unfold Builtin.«isinstance.nested»
  refine wpAny_bind (T.at ?_)
  rw [if_neg (show ¬ ((Value.ref C == Value.type "ValueError") = true) from Bool.false_ne_true)]
  refine wpAny_bind (L1.at ?_)
  rw [if_pos (by decide)]
  k_delta "plainIsInstance"
  have L2 : Looks (model prog w) s.heap (isType (.type "ValueError")) true := Looks.of_pure (by kernel_rfl)
  refine wpAny_bind (wpAny_bind (L2.at ?_))
  simp only [Bool.not_true, Bool.false_eq_true, if_false]
  refine wpAny_bind (L3.at ?_)
  simp only [if_true]
  exact wpAny_pure (wpAny_pure hR)
end
end Mine

-- part Cm7
open PySem PySem.W PyProof.Rows PySem.Calls
set_option Elab.async false
set_option maxRecDepth 100000
set_option maxHeartbeats 8000000
namespace Mine

section
variable {prog : Program} {w : World} {A : Around} {E : Value → Shared → Prop} {s : Shared} {env : Env} {h₀ : Heap} {x : Str} {body : List Stmt} {Q : Flow → Shared → Prop}

/-- how a turn of a loop ends -/
def TurnEnd (h₀ : Heap) (L : Addr) (own : List (Addr × Obj)) (J : (Str → Option Value) → List (Addr × Obj) → Prop) (news₁ : List (Addr × Obj)) (h : Heap) (s : Shared) (Q : Flow → Shared → Prop) (f : Flow) (s₂ : Shared) : Prop :=
  match f with
  | .ret v => Q (.ret v) s₂
  | .brk => Q .next s₂
  | _ => ∃ h' tk m' news', s₂ = { s with heap := h', toks := tk } ∧ Fr h₀ L h' m' ∧ News h₀ L h' (news' ++ own) ∧ (∀ p ∈ news', p.1 ∈ news₁.map (·.1) ∨ h.get? p.1 = none) ∧ J m' news'

theorem loop_W {it : Value} {I : Addr} {fp wr : List Addr} {n : Nat} {P : Nat → Value → Prop} {St : Nat → Heap → Prop} {m : Str → Option Value} {news : List (Addr × Obj)}
    (W : Walks prog w A I fp wr n P St) (hit : it = .ref I) (hLf : env.locals ∉ fp) (hwr : ∀ b ∈ wr, h₀.get? b = none) (hlive : ∀ i h, St i h → ∀ b ∈ wr, ∃ o, h.get? b = some o)
    (hnw : ∀ p ∈ news, p.1 ∉ wr) (hst : St 0 s.heap) (F : Fr h₀ env.locals s.heap m) (N : News h₀ env.locals s.heap news)
    (J : Nat → (Str → Option Value) → List (Addr × Obj) → Prop) (hj : J 0 m news) (muts : List Addr) (hmf : ∀ a ∈ muts, a ∉ fp)
    (turn : ∀ i v m₁ news₁ h tk own, i < n → P i v → J i m₁ news₁ → OwnOff own muts → St (i + 1) h → Fr h₀ env.locals h (fun y => if y = x then some v else m₁ y) → News h₀ env.locals h (news₁ ++ own) →
      wpAny (model prog w) A (execs body env) (TurnEnd h₀ env.locals own (J (i + 1)) news₁ h s Q) E { s with heap := h, toks := tk })
    (done : ∀ m₁ news₁ h tk, J n m₁ news₁ → Fr h₀ env.locals h m₁ → News h₀ env.locals h news₁ → Q .next { s with heap := h, toks := tk }) :
    LoopAtV prog w A h₀ env x body Q E it s := by
  refine ⟨I, fp, wr, n, P, St, m, news, J, hit, W, hLf, hwr, hnw, hst, F, N, hj, ?_, fun h' tk m' news' F' N' _ hJ => done m' news' h' tk hJ F' N'⟩
  rintro i v m₁ news₁ s₁ own ⟨hh', tk', rfl⟩ hin hP hJ hoff hown _ _ hSt F₁ N₁
  have N₂ : News h₀ env.locals hh' (news₁ ++ own) := fun p hp => N₁ p ((List.mem_append.mp hp).elim (fun h => List.mem_append.mpr (.inr h)) fun h => List.mem_append.mpr (.inl h))
  refine wpAny_mono (turn i v m₁ news₁ hh' tk' own hin hP hJ (fun p hp b hb e => hmf b hb (e ▸ hown p hp)) hSt F₁ N₂) (fun f s₂ p => ?_) fun _ _ e => e
  have fin : (∃ h' tk m' news', s₂ = { s with heap := h', toks := tk } ∧ Fr h₀ env.locals h' m' ∧ News h₀ env.locals h' (news' ++ own) ∧ (∀ p ∈ news', p.1 ∈ news₁.map (·.1) ∨ hh'.get? p.1 = none) ∧ J (i + 1) m' news') → LoopStepU h₀ env.locals wr own (J (i + 1)) { s with heap := hh', toks := tk' } .next s₂ := by
    rintro ⟨h', tk, m', news', e, F', N', ha, hm⟩
    refine ⟨rfl, h', tk, m', news', e, F', fun p hp => N' p ((List.mem_append.mp hp).elim (fun h => List.mem_append.mpr (.inr h)) fun h => List.mem_append.mpr (.inl h)), fun p hp hq => ?_, hm⟩
    rcases ha p hp with h1 | h1
    · obtain ⟨q, hq1, hq2⟩ := List.mem_map.mp h1
      exact hoff q hq1 (hq2 ▸ hq)
    · obtain ⟨o, ho⟩ := hlive _ _ hSt _ hq
      rw [h1] at ho; cases ho
  cases f with
  | ret v => exact .ret p
  | brk => exact .brk p
  | next => exact .next (fin p)
  | cont => exact .cont (fin p)

/-- a for over a list, wherever the list lies -/
theorem iter_L {l : Addr} {vs : List Value} {m : Str → Option Value} {news : List (Addr × Obj)}
    (hh : A.handled = none) (hl : s.heap.IsList l vs.toArray) (hlL : l ≠ env.locals) (F : Fr h₀ env.locals s.heap m) (N : News h₀ env.locals s.heap news)
    (J : Nat → (Str → Option Value) → List (Addr × Obj) → Prop) (hj : J 0 m news) (muts : List Addr) (hmf : ∀ a ∈ muts, a ≠ l ∧ ∃ o, s.heap.get? a = some o)
    (turn : ∀ i v m₁ news₁ h tk own, vs[i]? = some v → J i m₁ news₁ → OwnOff own muts → h.IsList l vs.toArray → Fr h₀ env.locals h (fun y => if y = x then some v else m₁ y) → News h₀ env.locals h (news₁ ++ own) →
      wpAny (model prog w) A (execs body env) (TurnEnd h₀ env.locals own (J (i + 1)) news₁ h s Q) E { s with heap := h, toks := tk })
    (done : ∀ m₁ news₁ h tk, J vs.length m₁ news₁ → Fr h₀ env.locals h m₁ → News h₀ env.locals h news₁ → Q .next { s with heap := h, toks := tk }) :
    wpAny (model prog w) A (pyIter (.ref l)) (fun it s₂ => LoopAtV prog w A h₀ env x body Q E it s₂) E s := by
  obtain ⟨ol, hol, hrest⟩ := id hl
  have hne : l ≠ s.heap.objs.size := Nat.ne_of_lt (Heap.lt_size hol)
  refine wpAny_pyIter_list hl ?_
  have W := Walks.list (prog := prog) (w := w) hh s.heap.objs.size l hne vs.toArray
  have hlen : vs.toArray.size = vs.length := by simp
  rw [hlen] at W
  refine loop_W (J := J) W rfl ?_ ?_ ?_ ?_ ⟨⟨_, Heap.get?_push_size _ rfl, rfl, rfl⟩, hl.at fun o e => Heap.get?_push_of_some _ e⟩ (F.push _) (fun p hp => ⟨Heap.get?_push_of_some _ (N p hp).1, (N p hp).2⟩) hj muts ?_ ?_ (fun m₁ news₁ h tk hJ F' N' => done m₁ news₁ h tk hJ F' N')
  · intro hm
    rcases List.mem_cons.mp hm with e | hm
    · exact absurd F.ns.lt (e ▸ Nat.lt_irrefl _)
    · exact hlL (List.mem_singleton.mp hm).symm
  · intro b hb
    rw [List.mem_singleton.mp hb]
    exact next_is_new F
  · intro i h hst b hb
    rw [List.mem_singleton.mp hb]
    obtain ⟨⟨o, ho, _⟩, _⟩ := hst
    exact ⟨o, ho⟩
  · intro p hp hI
    exact absurd (Heap.lt_size (N p hp).1) ((List.mem_singleton.mp hI) ▸ Nat.lt_irrefl _)
  · intro a ha hm
    obtain ⟨h1, o, h2⟩ := hmf a ha
    rcases List.mem_cons.mp hm with e | hm
    · exact absurd (Heap.lt_size h2) (e ▸ Nat.lt_irrefl _)
    · exact h1 (List.mem_singleton.mp hm)
  · intro i v m₁ news₁ h tk own hin hP hJ hoff hSt F' N'
    exact turn i v m₁ news₁ h tk own (by simpa using hP) hJ hoff hSt.2 F' N'
end

theorem getD_len {l : List Str} {i k : Nat} {d : Str} (h : ∀ x ∈ l, x.length ≤ k) (hd : d.length ≤ k) : (l.getD i d).length ≤ k := by
  rw [List.getD_eq_getElem?_getD]
  cases q : l[i]? with
  | none => exact hd
  | some x => exact h x (List.mem_of_getElem? q)
end Mine

-- part Cm8
open PySem PySem.W PyProof.Rows PySem.Calls
set_option Elab.async false
set_option maxRecDepth 100000
set_option maxHeartbeats 8000000
namespace Mine
open PySem.Builtin PySem.Builtin.Str

/-- a text by its signs -/
abbrev lst (x : Str) : List Nat := x.cps.toList
theorem lst_append (x y : Str) : lst (x ++ y) = lst x ++ lst y := by simp [lst, Str.cps_append]
theorem lst_ext {x y : Str} (h : lst x = lst y) : x = y := by
  obtain ⟨a⟩ := x; obtain ⟨b⟩ := y
  simp only [lst] at h
  rw [show a = b from Array.toList_inj.mp h]
theorem lst_len (x : Str) : (lst x).length = x.length := by simp [lst, Str.length]
theorem lst_mk (l : List Nat) : lst ⟨l.toArray⟩ = l := by simp [lst]

theorem slice_from {x : Str} {i : Int} (h0 : 0 ≤ i) (h1 : i ≤ x.length) : lst (Txt.slice x (some i) none) = (lst x).drop i.toNat := by
  have := beq_iff_eq.mp (slice_closes_from (x := x) (i := i) ⟨h0, by rw [show x.cps.toList.length = x.length from lst_len x]; exact h1⟩)
  rw [this, lst_mk]
  refine List.take_of_length_le ?_
  rw [List.length_drop]
  lia
theorem slice_to {x : Str} {j : Int} (h0 : 0 ≤ j) (h1 : j ≤ x.length) : lst (Txt.slice x none (some j)) = (lst x).take j.toNat := by
  have := beq_iff_eq.mp (slice_closes_to (x := x) (j := j) ⟨h0, by rw [show x.cps.toList.length = x.length from lst_len x]; exact h1⟩)
  rw [this, lst_mk]
  simp
theorem slice_in {x : Str} {i j : Int} (h0 : 0 ≤ i) (h1 : i ≤ j) (h2 : j ≤ x.length) : lst (Txt.slice x (some i) (some j)) = ((lst x).drop i.toNat).take (j - i).toNat := by
  have := beq_iff_eq.mp (slice_closes (x := x) (i := i) (j := j) ⟨h0, h1, by rw [show x.cps.toList.length = x.length from lst_len x]; exact h2⟩)
  rw [this, lst_mk]
theorem idx_neg_lo {i : Int} {u : Option Int} {n : Nat} (h0 : i < 0) (h1 : -n ≤ i) : strSliceIndices (some i) u 1 n = strSliceIndices (some (i + n)) u 1 n := by
  have a : ¬ (i + n < 0) := by lia
  simp only [strSliceIndices, if_pos h0, if_neg a]
theorem idx_neg_hi {i : Int} {l : Option Int} {n : Nat} (h0 : i < 0) (h1 : -n ≤ i) : strSliceIndices l (some i) 1 n = strSliceIndices l (some (i + n)) 1 n := by
  have a : ¬ (i + n < 0) := by lia
  simp only [strSliceIndices, if_pos h0, if_neg a]
theorem slice_neg_lo {x : Str} {i : Int} {u : Option Int} (h0 : i < 0) (h1 : -x.length ≤ i) : Txt.slice x (some i) u = Txt.slice x (some (i + x.length)) u := by
  unfold Txt.slice; rw [idx_neg_lo h0 h1]
theorem slice_neg_hi {x : Str} {i : Int} {l : Option Int} (h0 : i < 0) (h1 : -x.length ≤ i) : Txt.slice x l (some i) = Txt.slice x l (some (i + x.length)) := by
  unfold Txt.slice; rw [idx_neg_hi h0 h1]

/-- x[:k] and x[k:] of a glued text -/
theorem slice_to_app {x a b : Str} {k : Int} (hx : x = a ++ b) (hk : k = a.length) : Txt.slice x none (some k) = a := by
  subst hx hk
  refine lst_ext ?_
  rw [slice_to (by lia) (by rw [Str.length_append]; lia), lst_append]
  simp [← lst_len]
theorem slice_from_app {x a b : Str} {k : Int} (hx : x = a ++ b) (hk : k = a.length) : Txt.slice x (some k) none = b := by
  subst hx hk
  refine lst_ext ?_
  rw [slice_from (by lia) (by rw [Str.length_append]; lia), lst_append]
  simp [← lst_len]
theorem slice_last_app {x a b : Str} {k : Int} (hx : x = a ++ b) (hk : k = -b.length) (hb : 0 < b.length) : Txt.slice x (some k) none = b := by
  subst hx
  rw [slice_neg_lo (by lia) (by rw [Str.length_append]; lia)]
  exact slice_from_app rfl (by rw [Str.length_append]; lia)
theorem slice_init_app {x a b : Str} {k : Int} (hx : x = a ++ b) (hk : k = -b.length) (hb : 0 < b.length) : Txt.slice x none (some k) = a := by
  subst hx
  rw [slice_neg_hi (by lia) (by rw [Str.length_append]; lia)]
  exact slice_to_app rfl (by rw [Str.length_append]; lia)

theorem at_iff (x y : Str) (hi i : Nat) : StrLaws.At x y hi i ↔ i + y.length ≤ hi ∧ ((lst x).drop i).take y.length = lst y := by
  unfold StrLaws.At
  rw [StrLaws.subAt_eq]
  constructor
  · rintro ⟨h1, h2⟩; exact ⟨h1, beq_iff_eq.mp h2⟩
  · rintro ⟨h1, h2⟩; exact ⟨h1, beq_iff_eq.mpr h2⟩

/-- the last place of a mark whose first two signs come nowhere behind it -/
theorem rfind_mid {x a y b : Str} {c0 c1 : Nat} {r : List Nat} (hx : x = a ++ y ++ b) (hy : lst y = c0 :: c1 :: r)
    (h1 : ∀ i, 1 ≤ i → i + 1 < (lst y).length → ¬ ((lst y)[i]? = some c0 ∧ (lst y)[i + 1]? = some c1))
    (h2 : (lst b)[0]? ≠ some c1) (h3 : c0 ∉ lst b) : Txt.rfind x y = a.length := by
  subst hx
  have hA : StrLaws.At (a ++ y ++ b) y (a ++ y ++ b).length a.length := by
    rw [at_iff]
    refine ⟨by rw [Str.length_append, Str.length_append]; lia, ?_⟩
    rw [lst_append, lst_append, List.append_assoc, ← lst_len a, List.drop_left, ← lst_len y, List.take_left]
  have hno : ∀ k, a.length < k → ¬ StrLaws.At (a ++ y ++ b) y (a ++ y ++ b).length k := by
    intro k hk hat
    obtain ⟨hle, he⟩ := (at_iff _ _ _ _).mp hat
    have g : ∀ j, j < (lst y).length → (lst (a ++ y ++ b))[k + j]? = (lst y)[j]? := by
      intro j hj
      rw [← he, List.getElem?_take, if_pos (by rw [← lst_len]; exact hj), List.getElem?_drop]
    have hlen : 2 ≤ (lst y).length := by rw [hy]; simp
    have g0 := g 0 (by lia)
    have g1 := g 1 (by lia)
    rw [hy] at g0 g1
    simp only [List.getElem?_cons_zero, List.getElem?_cons_succ, Nat.add_zero] at g0 g1
    obtain ⟨d, rfl⟩ : ∃ d, k = a.length + (d + 1) := ⟨k - a.length - 1, by lia⟩
    have e : ∀ j, (lst (a ++ y ++ b))[a.length + j]? = (lst y ++ lst b)[j]? := by
      intro j
      rw [lst_append, lst_append, List.append_assoc, List.getElem?_append_right (by rw [lst_len]; lia), lst_len]
      congr 1; lia
    rw [e] at g0
    rw [Nat.add_assoc, e] at g1
    by_cases q1 : d + 1 + 1 < (lst y).length
    · rw [List.getElem?_append_left (by lia)] at g0
      rw [List.getElem?_append_left q1] at g1
      exact h1 (d + 1) (by lia) q1 ⟨g0, g1⟩
    · by_cases q2 : d + 1 < (lst y).length
      · rw [List.getElem?_append_right (by lia)] at g1
        rw [show d + 1 + 1 - (lst y).length = 0 by lia] at g1
        exact h2 g1
      · rw [List.getElem?_append_right (by lia)] at g0
        exact h3 (List.mem_of_getElem? g0)
  rcases rfind_whole (a ++ y ++ b) y with ⟨_, hn⟩ | ⟨i, hi, hat, hn⟩
  · exact absurd hA (hn _)
  · rw [hi]
    congr 1
    rcases Nat.lt_trichotomy i a.length with q | q | q
    · exact absurd hA (hn _ q)
    · exact q
    · exact absurd hat (hno _ q)

theorem intS_free {k : Nat} (hk : k ≠ 45 ∧ (k < 48 ∨ 57 < k)) (i : Int) : k ∉ lst (intS i) := int_text_free' k hk i
theorem intS_nat (m : Nat) : lst (intS (m : Int)) = (Nat.toDigits 10 m).map Char.toNat := KIN.signs_num m
theorem intS_digit {n : Int} (h0 : 0 ≤ n) : ∀ c ∈ lst (intS n), 48 ≤ c ∧ c ≤ 57 := by
  obtain ⟨m, rfl⟩ := Int.eq_ofNat_of_zero_le h0
  intro c hc
  rw [intS_nat] at hc
  obtain ⟨ch, hch, e⟩ := List.mem_map.mp hc
  have r := digit_range (Nat.isDigit_of_mem_toDigits (by decide) (by decide) hch)
  rw [← e]
  exact r
theorem intS_ne0 {n : Int} (h0 : 0 ≤ n) : 0 < (intS n).length := by
  obtain ⟨m, rfl⟩ := Int.eq_ofNat_of_zero_le h0
  rw [← lst_len, intS_nat, List.length_map]
  have h := toDigits_len_ge 10 m
  lia
theorem intS_ne {n : Int} : 0 < (intS n).length := by
  by_cases h : 0 ≤ n
  · exact intS_ne0 h
  · rw [← lst_len, show lst (intS n) = (toString n).toList.map Char.toNat from intS_cps n, toString_neg (by lia)]
    simp

abbrev mkC : Str := Str.ofString " (char "
abbrev mkO : Str := Str.ofString " column "
abbrev mkL : Str := Str.ofString ": line "
abbrev mkE : Str := Str.ofString ")"

theorem words_eq (msg : Str) (l c p : Int) : wordsOf msg l c p = (msg ++ mkL ++ intS l ++ mkO ++ intS c) ++ mkC ++ (intS p ++ mkE) := by
  unfold wordsOf; simp only [Str.append_assoc]
theorem lst_C : lst mkC = [32, 40, 99, 104, 97, 114, 32] := by decide
theorem lst_O : lst mkO = [32, 99, 111, 108, 117, 109, 110, 32] := by decide
theorem lst_L : lst mkL = [58, 32, 108, 105, 110, 101, 32] := by decide
theorem lst_E : lst mkE = [41] := by decide
theorem intS_head {k : Nat} (hk : k ≠ 45 ∧ (k < 48 ∨ 57 < k)) (i : Int) (r : List Nat) : (lst (intS i) ++ r)[0]? ≠ some k := by
  intro h
  have hp : 0 < (lst (intS i)).length := by rw [lst_len]; exact intS_ne
  rw [List.getElem?_append_left hp] at h
  exact intS_free hk i (List.mem_of_getElem? h)
/-- the three marks' last places -/
theorem rfind_C (msg : Str) (l c p : Int) : Txt.rfind (wordsOf msg l c p) mkC = (msg ++ mkL ++ intS l ++ mkO ++ intS c).length := by
  refine rfind_mid (words_eq msg l c p) lst_C (by rw [lst_C]; intro i h1 h2 h3; simp only [List.length_cons, List.length_nil] at h2; rcases i with _ | _ | _ | _ | _ | _ | i <;> first | (exfalso; lia) | simp_all) ?_ ?_
  · rw [lst_append]; exact intS_head (by decide) _ _
  · rw [lst_append, lst_E]
    intro h
    rcases List.mem_append.mp h with h | h
    · exact intS_free (by decide) _ h
    · simp at h
theorem rfind_O (msg : Str) (l c : Int) : Txt.rfind (msg ++ mkL ++ intS l ++ mkO ++ intS c) mkO = (msg ++ mkL ++ intS l).length := by
  refine rfind_mid rfl lst_O (by rw [lst_O]; intro i h1 h2 h3; simp only [List.length_cons, List.length_nil] at h2; rcases i with _ | _ | _ | _ | _ | _ | _ | i <;> first | (exfalso; lia) | simp_all) ?_ ?_
  · have := intS_head (k := 99) (by decide) c []; simpa using this
  · exact intS_free (by decide) _
theorem rfind_L (msg : Str) (l : Int) : Txt.rfind (msg ++ mkL ++ intS l) mkL = msg.length := by
  refine rfind_mid rfl lst_L (by rw [lst_L]; intro i h1 h2 h3; simp only [List.length_cons, List.length_nil] at h2; rcases i with _ | _ | _ | _ | _ | _ | i <;> first | (exfalso; lia) | simp_all) ?_ ?_
  · have := intS_head (k := 32) (by decide) l []; simpa using this
  · exact intS_free (by decide) _
theorem len_C : mkC.length = 7 := by decide
theorem len_O : mkO.length = 8 := by decide
theorem len_L : mkL.length = 7 := by decide
theorem len_E : mkE.length = 1 := by decide

section
variable {prog : Program} {w : World} {A : Around} {E : Value → Shared → Prop} {s : Shared} {x y : Str} {t u : Tok} {k : Int} {Q : Value → Shared → Prop}
theorem call_rfindE (e : Txt.rfind x y = k) (hq : Q (.int k s.toks) { s with toks := s.toks + 1 }) : wpAny (model prog w) A (call (.builtin "str.rfind") [.str x t, .str y u]) Q E s := by
  subst e
  exact call_gives F.slot_str_rfind (typeIs_str _ _ _) F.entry_str_rfind (F.args_str_rfind_2 _ _) (gives_str_rfind x y t u) hq
end
section
variable {prog : Program} {w : World} {A : Around} {E : Value → Shared → Prop} {s : Shared} {value slice : Expr} {x z : Str} {t : Tok} {h₀ : Heap} {L : Addr} {m : Str → Option Value} {news : List (Addr × Obj)} {Q : Value → Shared → Prop}
theorem sliceE_ns {j : Int} {uj : Tok} (hF : Fr h₀ L s.heap m) (hN : News h₀ L s.heap news) (e : Txt.slice x none (some j) = z) (h : ∀ h' t' k, Fr h₀ L h' m → News h₀ L h' news → Q (.str z t') { s with heap := h', toks := k })
    (hs : subscripted slice false (.str x t) (.ref s.heap.objs.size) = operate [.ref s.heap.objs.size, .str x t] (getItem (.str x t) (.ref s.heap.objs.size)) := by with_unfolding_all rfl)
    (ht : ∀ r, letTemporaryGo value (.str x t) r = pure () := by intro _; with_unfolding_all rfl) (hsz : x.length ≤ sizeLine := by size_fits) :
    wpAny (model prog w) A (subscriptTail value slice (.str x t) (.ref s.heap.objs.size)) Q E { s with heap := s.heap.push { cls := .type "slice", data := .fields #[.none, .int j uj, .none] } } := by
  subst e
  exact slice_strN_ns hF hN h hs ht hsz
theorem sliceE_sn {i : Int} {ui : Tok} (hF : Fr h₀ L s.heap m) (hN : News h₀ L s.heap news) (e : Txt.slice x (some i) none = z) (h : ∀ h' t' k, Fr h₀ L h' m → News h₀ L h' news → Q (.str z t') { s with heap := h', toks := k })
    (hs : subscripted slice false (.str x t) (.ref s.heap.objs.size) = operate [.ref s.heap.objs.size, .str x t] (getItem (.str x t) (.ref s.heap.objs.size)) := by with_unfolding_all rfl)
    (ht : ∀ r, letTemporaryGo value (.str x t) r = pure () := by intro _; with_unfolding_all rfl) (hsz : x.length ≤ sizeLine := by size_fits) :
    wpAny (model prog w) A (subscriptTail value slice (.str x t) (.ref s.heap.objs.size)) Q E { s with heap := s.heap.push { cls := .type "slice", data := .fields #[.int i ui, .none, .none] } } := by
  subst e
  exact slice_strN_sn hF hN h hs ht hsz
theorem sliceE_ss {i j : Int} {ui uj : Tok} (hF : Fr h₀ L s.heap m) (hN : News h₀ L s.heap news) (e : Txt.slice x (some i) (some j) = z) (h : ∀ h' t' k, Fr h₀ L h' m → News h₀ L h' news → Q (.str z t') { s with heap := h', toks := k })
    (hs : subscripted slice false (.str x t) (.ref s.heap.objs.size) = operate [.ref s.heap.objs.size, .str x t] (getItem (.str x t) (.ref s.heap.objs.size)) := by with_unfolding_all rfl)
    (ht : ∀ r, letTemporaryGo value (.str x t) r = pure () := by intro _; with_unfolding_all rfl) (hsz : x.length ≤ sizeLine := by size_fits) :
    wpAny (model prog w) A (subscriptTail value slice (.str x t) (.ref s.heap.objs.size)) Q E { s with heap := s.heap.push { cls := .type "slice", data := .fields #[.int i ui, .int j uj, .none] } } := by
  subst e
  exact slice_strN_ss hF hN h hs ht hsz
end
section
variable {prog : Program} {w : World} {A : Around} {E : Value → Shared → Prop} {s : Shared} {x y : Str} {t u : Tok} {b : Bool} {Q : Value → Shared → Prop}
theorem eq_strE (e : (x == y) = b) (hq : Q (.bool b) s) : wpAny (model prog w) A (compareOp .Eq (.str x t) (.str y u)) Q E s := by
  subst e; exact eq_str hq
theorem ne_strE (e : (x != y) = b) (hq : Q (.bool b) s) : wpAny (model prog w) A (compareOp .NotEq (.str x t) (.str y u)) Q E s := by
  subst e; exact ne_str hq
theorem isdigitE (e : Txt.isdigit x = b) (hq : Q (.bool b) s) : wpAny (model prog w) A (call (.builtin "str.isdigit") [.str x t]) Q E s := by
  subst e; exact SC.isdigit hq
end
theorem isDigit_of : ∀ c : Nat, 48 ≤ c → c ≤ 57 → Unicode.isDigit c = true := by
  intro c h1 h2
  obtain ⟨d, rfl⟩ : ∃ d, c = 48 + d := ⟨c - 48, by lia⟩
  have hd : d < 10 := by lia
  clear h1 h2
  revert d
  decide +kernel
theorem isdigit_true {x : Str} (h0 : 0 < x.length) (h : ∀ c ∈ lst x, 48 ≤ c ∧ c ≤ 57) : Txt.isdigit x = true := by
  unfold Txt.isdigit
  rw [Bool.and_eq_true, decide_eq_true_eq, ← Array.all_toList, List.all_eq_true]
  exact ⟨h0, fun c hc => isDigit_of c (h c hc).1 (h c hc).2⟩
theorem ne_empty {x : Str} (h : 0 < x.length) : (x == Str.ofString "") = false := by
  rw [beq_eq_false_iff_ne]
  intro e
  rw [e] at h
  exact absurd h (by decide)
end Mine

-- part Cm9
open PySem PySem.W PyProof.Rows PySem.Calls
set_option Elab.async false
set_option maxRecDepth 100000
set_option maxHeartbeats 8000000
namespace Mine

theorem intsAre_of : ∀ {vs : List Value} {ns : List Int}, vs.length = ns.length → (∀ (i : Nat) (n : Int), ns[i]? = some n → ∃ t, vs[i]? = some (.int n t)) → IntsAre vs ns
  | [], [], _, _ => .nil
  | v :: vs, n :: ns, hl, h => by
    obtain ⟨t, e⟩ := h 0 n rfl
    simp only [List.getElem?_cons_zero, Option.some.injEq] at e
    subst e
    exact .cons _ _ (intsAre_of (by simpa using hl) fun i m hm => h (i + 1) m (by simpa using hm))
  | [], _ :: _, hl, _ => by simp at hl
  | _ :: _, [], hl, _ => by simp at hl

/-- an int of a list of ints -/
theorem IntsAre.at {vs : List Value} {ns : List Int} (hi : IntsAre vs ns) {i : Nat} {v : Value} (hv : vs[i]? = some v) : ∃ n t, ns[i]? = some n ∧ v = .int n t := by
  have h1 := (List.getElem?_eq_some_iff.mp hv).1
  have hlt : i < ns.length := by rw [← hi.length]; exact h1
  obtain ⟨t, hx⟩ := hi.get i _ (List.getElem?_eq_getElem hlt)
  rw [hv] at hx
  exact ⟨_, t, List.getElem?_eq_getElem hlt, Option.some.inj hx⟩

section
variable {prog : Program} {w : World} {A : Around} {E : Value → Shared → Prop} {s : Shared} {h₀ : Heap} {L : Addr} {m : Str → Option Value} {news : List (Addr × Obj)} {Q : Value → Shared → Prop}
theorem fresh_size (F : Fr h₀ L s.heap m) : s.heap.objs.size ≠ L ∧ h₀.get? s.heap.objs.size = none := by
  obtain ⟨oL, esL, epL, hLg, rL⟩ := F.ns
  refine ⟨Nat.ne_of_gt (Heap.lt_size hLg), ?_⟩
  cases q : h₀.get? s.heap.objs.size with
  | none => rfl
  | some o => exact absurd (Heap.lt_size (F.keep _ _ q)) (Nat.lt_irrefl _)

/-- list(range(a, b)) -/
theorem list_rangeN {r : Addr} {a b : Int} {n : Nat} {t u v : Tok} (hh : A.handled = none) (F : Fr h₀ L s.heap m) (N : News h₀ L s.heap news) (hr : IsRange s.heap r a b 1 t u v)
    (ha : -(2 ^ 62) ≤ a) (hb : b < 2 ^ 62) (hab : b - a = n) (hn : n ≤ 1000000)
    (h : ∀ D h' tk vs c, Fr h₀ L h' m → News h₀ L h' ((D, W.listOf vs.toArray c) :: news) → (∀ p ∈ news, p.1 < D) → IntsAre vs (rangeInts a 1 n) → Q (.ref D) { s with heap := h', toks := tk }) :
    wpAny (model prog w) A (call (.type "list") [.ref r]) Q E s := by
  refine call_list_range (n := n) hh hr (small_one ha (by lia) (by lia) hb) ?_ (by lia) fun h' tk acc c' hk hS hacc => ?_
  · unfold Builtin.Range.rangeSize
    rw [if_pos (by decide)]
    split <;> lia
  · refine h s.heap.objs.size h' tk acc.toList c' (F.keeps hk) ?_ (fun p hp => Heap.lt_size (N p hp).1) ?_
    · intro p hp
      rcases List.mem_cons.mp hp with rfl | hp
      · exact ⟨by simpa using hS, fresh_size F⟩
      · exact ⟨hk _ _ (N p hp).1, (N p hp).2⟩
    · refine intsAre_of (by rw [rangeInts_length]; simpa using hacc.1) fun i k hi => ?_
      have hlt : i < n := by have := (List.getElem?_eq_some_iff.mp hi).1; rwa [rangeInts_length] at this
      rw [rangeInts_get hlt] at hi
      have hsz : i < acc.size := by rw [hacc.1]; exact hlt
      obtain ⟨t, ht⟩ := hacc.2 i acc[i] (by simp [hsz])
      refine ⟨t, ?_⟩
      rw [← Option.some.inj hi, ← ht]
      simp [hsz]
theorem list_range0 {r : Addr} {n : Nat} {t u v : Tok} (hh : A.handled = none) (F : Fr h₀ L s.heap m) (N : News h₀ L s.heap news) (hr : IsRange s.heap r 0 (n : Int) 1 t u v) (hn : n ≤ 1000000)
    (h : ∀ D h' tk vs c, Fr h₀ L h' m → News h₀ L h' ((D, W.listOf vs.toArray c) :: news) → (∀ p ∈ news, p.1 < D) → IntsAre vs (rangeInts 0 1 n) → Q (.ref D) { s with heap := h', toks := tk }) :
    wpAny (model prog w) A (call (.type "list") [.ref r]) Q E s := list_rangeN (n := n) hh F N hr (by lia) (by lia) (by lia) hn h
theorem list_range1 {r : Addr} {n : Nat} {t u v : Tok} (hh : A.handled = none) (F : Fr h₀ L s.heap m) (N : News h₀ L s.heap news) (hr : IsRange s.heap r 1 ((n : Int) + 1) 1 t u v) (hn : n ≤ 1000000)
    (h : ∀ D h' tk vs c, Fr h₀ L h' m → News h₀ L h' ((D, W.listOf vs.toArray c) :: news) → (∀ p ∈ news, p.1 < D) → IntsAre vs (rangeInts 1 1 n) → Q (.ref D) { s with heap := h', toks := tk }) :
    wpAny (model prog w) A (call (.type "list") [.ref r]) Q E s := list_rangeN (n := n) hh F N hr (by lia) (by lia) (by lia) hn h
end
theorem cut_at (y : Value) (q : List Value) : ∀ p : List Value, kl_cut (p ++ y :: q) p.length = some (p, y, q)
  | [] => rfl
  | x :: p => by
    show (match kl_cut (p ++ y :: q) p.length with | some (a, b, c) => some (x :: a, b, c) | none => none) = _
    rw [cut_at y q p]
theorem upd_of_updF {d : Addr} {o : Obj} : ∀ {l : List (Addr × Obj)} {g : Obj → List (Addr × Obj)}, UpdF d o l g → ∀ o', Upd d o o' l (g o')
  | _, _, .head h, _ => .head h
  | _, _, .tail h u, o' => .tail h (upd_of_updF u o')
theorem intsAre_split : ∀ {vs : List Value} {ns : List Int} {k : Nat}, IntsAre vs ns → k < ns.length → ∃ vp t vq np x nq, vs = vp ++ .int x t :: vq ∧ ns = np ++ x :: nq ∧ vp.length = k ∧ np.length = k ∧ IntsAre vp np ∧ IntsAre vq nq
  | _, _, 0, .cons n t h, _ => ⟨[], t, _, [], n, _, rfl, rfl, rfl, rfl, .nil, h⟩
  | _, _, k + 1, .cons n t h, hk => by
    obtain ⟨vp, t', vq, np, x, nq, e1, e2, e3, e4, e5, e6⟩ := intsAre_split (k := k) h (by simpa using hk)
    exact ⟨.int n t :: vp, t', vq, n :: np, x, nq, by rw [e1]; rfl, by rw [e2]; rfl, by simp [e3], by simp [e4], .cons _ _ e5, e6⟩
section
variable {prog : Program} {w : World} {A : Around} {E : Value → Shared → Prop} {s : Shared} {h₀ : Heap} {L D : Addr} {m : Str → Option Value} {news : List (Addr × Obj)} {Q : Value → Shared → Prop}
theorem pop_intsN {us : List Value} {l : List Int} {n : Nat} {i : Int} {u : Tok} {g : Obj → List (Addr × Obj)} (F : Fr h₀ L s.heap m) (N : News h₀ L s.heap news) (hi : IntsAre us l) (U : UpdF D (W.listOf us.toArray n) news g)
    (h0 : 0 ≤ i) (h1 : i < l.length) (hz : l.length ≤ 1000000)
    (h : ∀ h' t p x q us', l = p ++ x :: q → IntsAre us' (p ++ q) → Fr h₀ L h' m → News h₀ L h' (g (W.listOf us'.toArray (n + 1))) → Q (.int x t) { s with heap := h' }) :
    wpAny (model prog w) A (call (.builtin "list.pop") [.ref D, .int i u]) Q E s := by
  obtain ⟨vp, t, vq, np, x, nq, rfl, rfl, e3, e4, e5, e6⟩ := intsAre_split (k := i.toNat) hi (by lia)
  have hlen := hi.length
  simp only [List.length_append, List.length_cons] at hlen h1 hz
  refine kl_popAt (k := vp.length) (p := vp) (q := vq) (y := .int x t) F N ?_ ?_ ?_ (upd_of_updF U _) ?_ (fun h' F' N' => h h' t np x nq (vp ++ vq) rfl (e5.append e6) F' N')
  · unfold Builtin.List.listFitsIndex
    rw [Bool.and_eq_true, decide_eq_true_eq, decide_eq_true_eq]
    constructor <;> lia
  · unfold seqIndex?
    simp only [List.size_toArray, List.length_append, List.length_cons]
    have q1 : ¬ (i < 0) := by lia
    simp only [if_neg q1]
    rw [if_pos (by rw [Bool.and_eq_true, decide_eq_true_eq, decide_eq_true_eq]; constructor <;> lia), e3]
  · exact cut_at _ _ _
  · simp only [List.length_append, List.length_cons]; rw [sizeLine_eq]; lia
end
/-- an error whose three objects are among those listed -/
def ErrIn (w : World) (C : Addr) (os : List (Addr × Obj)) (e : Addr) (msg doc : Str) (pos ln cn : Int) (ws : Str) : Prop :=
  ∃ d t r1 r2 r3 r4 r5 sl tw k1 k2 k3 k4 k5 t1 t2 t3 t4 t5,
    (e, (⟨.ref C, some d, .fields #[.ref t, r1, r2, r3, r4, r5], sl⟩ : Obj)) ∈ os ∧
    (t, ({ cls := .type "tuple", data := .seq #[.str ws tw] } : Obj)) ∈ os ∧
    (d, dictOf [ent w "msg" k1 (.str msg t1), ent w "doc" k2 (.str doc t2), ent w "pos" k3 (.int pos t3), ent w "lineno" k4 (.int ln t4), ent w "colno" k5 (.int cn t5)] 5) ∈ os
theorem ErrIn.sub {w : World} {C : Addr} {os os' : List (Addr × Obj)} {e : Addr} {msg doc : Str} {pos ln cn : Int} {ws : Str} (x : ErrIn w C os e msg doc pos ln cn ws) (k : ∀ p ∈ os, p ∈ os') : ErrIn w C os' e msg doc pos ln cn ws := by
  obtain ⟨d, t, r1, r2, r3, r4, r5, sl, tw, k1, k2, k3, k4, k5, t1, t2, t3, t4, t5, a, b, c⟩ := x
  exact ⟨d, t, r1, r2, r3, r4, r5, sl, tw, k1, k2, k3, k4, k5, t1, t2, t3, t4, t5, k _ a, k _ b, k _ c⟩
theorem ErrIn.at {w : World} {C : Addr} {os : List (Addr × Obj)} {h : Heap} {e : Addr} {msg doc : Str} {pos ln cn : Int} {ws : Str} (x : ErrIn w C os e msg doc pos ln cn ws) (k : ∀ p ∈ os, h.get? p.1 = some p.2) : ErrAt w C h e msg doc pos ln cn ws := by
  obtain ⟨d, t, r1, r2, r3, r4, r5, sl, tw, k1, k2, k3, k4, k5, t1, t2, t3, t4, t5, a, b, c⟩ := x
  exact ⟨d, t, r1, r2, r3, r4, r5, sl, tw, k1, k2, k3, k4, k5, t1, t2, t3, t4, t5, k _ a, k _ b, k _ c⟩

/-- where the walk is to stand still -/
def Stop (P : Prop) : Prop := P
theorem stop {P : Prop} (h : Stop P) : P := h
end Mine

-- part Cm10
open PySem PySem.W PyProof.Rows PySem.Calls
set_option Elab.async false
set_option maxRecDepth 100000
set_option maxHeartbeats 8000000
namespace Mine

section
variable {prog : Program} {w : World} {A : Around} {E : Value → Shared → Prop} {s : Shared} {env : Env} {h₀ : Heap} {target : Expr} {body : List Stmt} {Q : Flow → Shared → Prop}

/-- the rest of a for statement, its iterator made -/
def ForAt (prog : Program) (w : World) (A : Around) (env : Env) (target : Expr) (body : List Stmt) (Q : Flow → Shared → Prop) (E : Value → Shared → Prop) (it : Value) (s : Shared) : Prop :=
  codeAny (model prog w) A (.forLoop target it body [] env) (fun r s' => match r with | .ok f => Q f s' | .error e => cameBackBy (model prog w) A env E e s') s
theorem For_G {iter : Expr} {pos : Pos}
    (h : wpAny (model prog w) A (eval iter env) (fun xv s₁ => wpAny (model prog w) A (pyIter xv) (fun it s₂ => ForAt prog w A env target body Q E it s₂) E s₁) E s)
    (hs : ∀ x, foldedSetIterable iter env x = pure x := by intro _; rfl) :
    wpAny (model prog w) A (exec (.For target iter body [] pos) env) Q E s := wpAny_For h hs

theorem for_W {I : Addr} {fp wr : List Addr} {n : Nat} {P : Nat → Value → Prop} {St : Nat → Heap → Prop} {m : Str → Option Value} {news : List (Addr × Obj)}
    (W : Walks prog w A I fp wr n P St) (hLf : env.locals ∉ fp) (hwr : ∀ b ∈ wr, h₀.get? b = none) (hlive : ∀ i h, St i h → ∀ b ∈ fp, ∃ o, h.get? b = some o)
    (hnw : ∀ p ∈ news, p.1 ∉ wr) (hst : St 0 s.heap) (F : Fr h₀ env.locals s.heap m) (N : News h₀ env.locals s.heap news)
    (J : Nat → (Str → Option Value) → List (Addr × Obj) → Prop) (hj : J 0 m news) (muts : List Addr) (hmf : ∀ a ∈ muts, a ∉ fp)
    (turn : ∀ i v m₁ news₁ h tk own, i < n → P i v → J i m₁ news₁ → OwnOff own muts → St (i + 1) h → Fr h₀ env.locals h m₁ → News h₀ env.locals h (news₁ ++ own) →
      wpAny (model prog w) A (assign target env v) (fun _ s₂ => wpAny (model prog w) A (execs body env) (TurnEnd h₀ env.locals own (J (i + 1)) news₁ h s Q) E s₂) E { s with heap := h, toks := tk })
    (done : ∀ m₁ news₁ h tk, J n m₁ news₁ → Fr h₀ env.locals h m₁ → News h₀ env.locals h news₁ → Q .next { s with heap := h, toks := tk })
    (ht : ∀ v, letOwnedTupleGo target (.ref I) v = pure () := by intro _; rfl) (hE : PassesOwn (model prog w) A env E := by passes_own) :
    ForAt prog w A env target body Q E (.ref I) s := by
  have hLw : env.locals ∉ wr := fun h => hLf (W.sub _ h)
  have old : ∀ b o, h₀.get? b = some o → b ∉ wr := fun b o e hb => by rw [hwr b hb] at e; cases e
  unfold ForAt
  refine codeAny_forLoop (fun k s' => ∃ h' tk m' news' i, s' = { s with heap := h', toks := tk } ∧ St i h' ∧ Fr h₀ env.locals h' m' ∧ News h₀ env.locals h' news' ∧ (∀ p ∈ news', p.1 ∉ wr) ∧ J i m' news' ∧ i ≤ n ∧ k = n + 1 - i) ?_ (n + 1)
    ⟨s.heap, s.toks, m, news, 0, rfl, hst, F, N, hnw, hj, Nat.zero_le _, rfl⟩ ht
  rintro k s' ⟨h', tk, m', news', i, rfl, hst', F', N', hnw', hJ, hi, rfl⟩
  have next : ∀ h₁ : Heap, (∀ b o, b ∉ wr → h'.get? b = some o → h₁.get? b = some o) → Fr h₀ env.locals h₁ m' ∧ News h₀ env.locals h₁ news' := fun h₁ hk₁ =>
    ⟨⟨F'.ns.at' fun o e => hk₁ _ o hLw e, fun b o e => hk₁ b o (old b o e) (F'.keep b o e), F'.above⟩, fun p hp => ⟨hk₁ _ _ (hnw' p hp) (N' p hp).1, (N' p hp).2⟩⟩
  by_cases hlt : i < n
  · refine W.item i _ _ _ hlt hst' fun v h₁ tk₁ hP hst₁ hk₁ => ?_
    obtain ⟨F₁, N₁⟩ := next h₁ hk₁
    have Nown : News h₀ env.locals h₁ (ownOf h₀ fp h₁) := news_ownOf hLf
    have hown : ∀ p ∈ ownOf h₀ fp h₁, p.1 ∈ fp := ownOf_sub
    have N₂ : News h₀ env.locals h₁ (news' ++ ownOf h₀ fp h₁) := fun p hp => (List.mem_append.mp hp).elim (N₁ p) (Nown p)
    refine wpAny_mono (turn i v m' news' h₁ tk₁ (ownOf h₀ fp h₁) hlt hP hJ (fun p hp b hb e => hmf b hb (e ▸ hown p hp)) hst₁ F₁ N₂) (fun _ s₂ z => wpAny_mono z (fun f s₃ h₃ => ?_) (fun _ _ e => hE _ _ e)) (fun _ _ e => hE _ _ e)
    have fin : (∃ h' tk m' news'', s₃ = { s with heap := h', toks := tk } ∧ Fr h₀ env.locals h' m' ∧ News h₀ env.locals h' (news'' ++ ownOf h₀ fp h₁) ∧ (∀ p ∈ news'', p.1 ∈ news'.map (·.1) ∨ h₁.get? p.1 = none) ∧ J (i + 1) m' news'') →
        ∃ m, m < n + 1 - i ∧ ∃ h' tk m' news' i, s₃ = { s with heap := h', toks := tk } ∧ St i h' ∧ Fr h₀ env.locals h' m' ∧ News h₀ env.locals h' news' ∧ (∀ p ∈ news', p.1 ∉ wr) ∧ J i m' news' ∧ i ≤ n ∧ m = n + 1 - i := by
      rintro ⟨h₄, tk₃, m₃, news₃, rfl, F₃, N₃, ha, hJ₃⟩
      refine ⟨n + 1 - (i + 1), by omega, h₄, tk₃, m₃, news₃, i + 1, rfl, ?_, F₃, (fun p hp => N₃ p (List.mem_append_left _ hp)), fun p hp hq => ?_, hJ₃, hlt, rfl⟩
      · refine W.frame _ _ _ hst₁ fun b hb o e => ?_
        cases hn : h₀.get? b with
        | some o₀ =>
          have : o₀ = o := by have := F₁.keep b o₀ hn; rw [e] at this; exact (Option.some.inj this).symm
          exact this ▸ F₃.keep b o₀ hn
        | none => exact (N₃ _ (List.mem_append_right _ (mem_ownOf hb hn e))).1
      · rcases ha p hp with h1 | h1
        · obtain ⟨q, hq1, hq2⟩ := List.mem_map.mp h1
          exact hnw' q hq1 (hq2 ▸ hq)
        · obtain ⟨o, ho⟩ := hlive _ _ hst₁ _ (W.sub _ hq)
          rw [h1] at ho; cases ho
    cases f with
    | ret v => exact h₃
    | brk => exact h₃
    | next => exact fin h₃
    | cont => exact fin h₃
  · have hin : i = n := by omega
    subst hin
    refine W.done _ _ _ hst' fun h₁ tk₁ hk₁ => wpAny_execs_nil ?_
    obtain ⟨F₁, N₁⟩ := next h₁ hk₁
    exact done m' news' h₁ tk₁ hJ F₁ N₁

/-- a for over a list, wherever the list lies -/
theorem for_L {l : Addr} {vs : List Value} {m : Str → Option Value} {news : List (Addr × Obj)}
    (hh : A.handled = none) (hl : s.heap.IsList l vs.toArray) (hlL : l ≠ env.locals) (F : Fr h₀ env.locals s.heap m) (N : News h₀ env.locals s.heap news)
    (J : Nat → (Str → Option Value) → List (Addr × Obj) → Prop) (hj : J 0 m news) (muts : List Addr) (hmf : ∀ a ∈ muts, a ≠ l ∧ ∃ o, s.heap.get? a = some o)
    (turn : ∀ i v m₁ news₁ h tk own, vs[i]? = some v → J i m₁ news₁ → OwnOff own muts → h.IsList l vs.toArray → Fr h₀ env.locals h m₁ → News h₀ env.locals h (news₁ ++ own) →
      wpAny (model prog w) A (assign target env v) (fun _ s₂ => wpAny (model prog w) A (execs body env) (TurnEnd h₀ env.locals own (J (i + 1)) news₁ h s Q) E s₂) E { s with heap := h, toks := tk })
    (done : ∀ m₁ news₁ h tk, J vs.length m₁ news₁ → Fr h₀ env.locals h m₁ → News h₀ env.locals h news₁ → Q .next { s with heap := h, toks := tk })
    (ht : ∀ it v, letOwnedTupleGo target it v = pure () := by intro _ _; rfl) (hE : PassesOwn (model prog w) A env E := by passes_own) :
    wpAny (model prog w) A (pyIter (.ref l)) (fun it s₂ => ForAt prog w A env target body Q E it s₂) E s := by
  obtain ⟨ol, hol, hrest⟩ := id hl
  have hne : l ≠ s.heap.objs.size := Nat.ne_of_lt (Heap.lt_size hol)
  refine wpAny_pyIter_list hl ?_
  have W := Walks.list (prog := prog) (w := w) hh s.heap.objs.size l hne vs.toArray
  have hlen : vs.toArray.size = vs.length := by simp
  rw [hlen] at W
  refine for_W (J := J) W ?_ ?_ ?_ ?_ ⟨⟨_, Heap.get?_push_size _ rfl, rfl, rfl⟩, hl.at fun o e => Heap.get?_push_of_some _ e⟩ (F.push _) (fun p hp => ⟨Heap.get?_push_of_some _ (N p hp).1, (N p hp).2⟩) hj muts ?_ ?_ (fun m₁ news₁ h tk hJ F' N' => done m₁ news₁ h tk hJ F' N') (ht _) hE
  · intro hm
    rcases List.mem_cons.mp hm with e | hm
    · exact absurd F.ns.lt (e ▸ Nat.lt_irrefl _)
    · exact hlL (List.mem_singleton.mp hm).symm
  · intro b hb
    rw [List.mem_singleton.mp hb]
    exact next_is_new F
  · intro i h hst b hb
    obtain ⟨⟨o, ho, _⟩, o2, ho2, _⟩ := hst
    rcases List.mem_cons.mp hb with rfl | hb
    · exact ⟨o, ho⟩
    · rw [List.mem_singleton.mp hb]; exact ⟨o2, ho2⟩
  · intro p hp hI
    exact absurd (Heap.lt_size (N p hp).1) ((List.mem_singleton.mp hI) ▸ Nat.lt_irrefl _)
  · intro a ha hm
    obtain ⟨h1, o, h2⟩ := hmf a ha
    rcases List.mem_cons.mp hm with e | hm
    · exact absurd (Heap.lt_size h2) (e ▸ Nat.lt_irrefl _)
    · exact h1 (List.mem_singleton.mp hm)
  · intro i v m₁ news₁ h tk own hin hP hJ hoff hSt F' N'
    exact turn i v m₁ news₁ h tk own (by simpa using hP) hJ hoff hSt.2 F' N'
end

/-- entering a def that has cells, and changes nothing that stood -/
theorem enterC {prog : Program} {w : World} {A : Around} {s : Shared} {Q E : Value → Shared → Prop} {K : Frag} {p : Program} {loose : List Str} {mg mb : Str → Option Value}
    {name qual : Str} {params : Arguments} {body : List Stmt} {scope : Scope} {dV kV doc pm cdv ct oc : Value} {an od : Option Addr} {osl : Array (Option Value)} {f : Addr} {vals : List Value} {binds : List (Str × Value)}
    (X : K.In s.heap) (T : TopRead p loose mg mb s.heap)
    (ho : K.lookup f = some ⟨oc, od, .func (fnOf name qual params body scope dV kV doc pm an cdv ct), osl⟩) (hcd : codeIn K cdv qual = true) (hroom : A.depth < recursionLimit)
    (hbind : BindsTo s (fnOf name qual params body scope dV kV doc pm an cdv ct) ⟨vals, []⟩ binds) (hkind : (binds.all fun y => scope.names.lookup y.1 == some .local || scope.names.lookup y.1 == some .cell) = true)
    (hnd : ((cellsFrom 0 scope.names []).map (·.1)).Nodup)
    (h : ∀ L h₁ tk cells, Fr s.heap L h₁ (bindL (envOfC qual scope L f cdv).kindOf binds fun _ => none) → News s.heap L h₁ cells → CellsAre (bindC (envOfC qual scope L f cdv).kindOf binds fun _ => none) (cellsFrom (L + 1) scope.names []) cells →
      wpAny (model prog w) (A.deeper (envOfC qual scope L f cdv)) (execs body (envOfC qual scope L f cdv))
        (fun fl s' => Q (match fl with | .ret v => v | _ => .none) s')
        (fun _ _ => False)
        { s with heap := h₁, toks := tk })
    (hco : scope.isCoroutine = false := by rfl) (hgen : scope.isGenerator = false := by rfl) (hk : scope.kind = .function := by rfl) : wpAny (model prog w) A (call (.ref f) vals) Q E s := by
  refine wpAny_call (codeAny_call_function hroom (X _ _ ho) rfl hco hgen rfl (codeRec_of X hcd) (hbind _ _ _ _ ?_))
  refine wpAny_newFunctionEnv_cells hk (kindsX hkind _) fun env' he s' x => ?_
  subst he
  refine ⟨T.nolimit.keeps x.toInCall.keep, codeAny_func ?_⟩
  obtain ⟨h₁, tk, rfl, _⟩ := x.done
  have hk₁ := x.toInCall.keep
  obtain ⟨cells, NC, Y⟩ := Cl.news (h₀ := s.heap) (Nat.le_refl _) fun n c hm => ⟨x.cell n c (lookup_of_mem_nodup (cellsFrom_names scope.names 0 (s.heap.objs.size + 1) [] [] rfl ▸ hnd) hm), x.above n c hm⟩
  exact wpAny_mono (h s.heap.objs.size h₁ tk cells ⟨x.toInCall.ns, hk₁, Nat.le_refl _⟩ NC Y) (fun _ _ z => z) (fun _ _ z => z.elim)
end Mine

-- part Cm11
open PySem PySem.W PyProof.Rows PySem.Calls
set_option Elab.async false
set_option maxRecDepth 100000
set_option maxHeartbeats 8000000
namespace Mine

section
variable {prog : Program} {w : World} {A : Around} {E : Value → Shared → Prop} {s : Shared} {K : Frag} {e C d t : Addr} {h₀ : Heap} {L : Addr} {m : Str → Option Value} {news : List (Addr × Obj)} {Q : Value → Shared → Prop}

/-- new objects onto the ledger -/
theorem news_more {h' : Heap} {os : List (Addr × Obj)} (F : Fr h₀ L s.heap m) (N : News h₀ L s.heap news) (hk : Keeps s.heap h') (ho : ∀ p ∈ os, h'.get? p.1 = some p.2 ∧ s.heap.get? p.1 = none) : News h₀ L h' (os ++ news) := by
  intro p hp
  rcases List.mem_append.mp hp with hp | hp
  · obtain ⟨h1, h2⟩ := ho p hp
    obtain ⟨oL, esL, epL, hLg, rL⟩ := F.ns
    refine ⟨h1, fun q => ?_, ?_⟩
    · rw [q, hLg] at h2; cases h2
    · cases q : h₀.get? p.1 with
      | none => rfl
      | some o => have := F.keep _ _ q; rw [h2] at this; cases this
  · exact ⟨hk _ _ (N p hp).1, (N p hp).2⟩

theorem news3 {h' : Heap} {a b c : Addr × Obj} (F : Fr h₀ L s.heap m) (N : News h₀ L s.heap news) (hk : Keeps s.heap h') (ha : h'.get? a.1 = some a.2 ∧ s.heap.get? a.1 = none) (hb : h'.get? b.1 = some b.2 ∧ s.heap.get? b.1 = none) (hc : h'.get? c.1 = some c.2 ∧ s.heap.get? c.1 = none) :
    News h₀ L h' (a :: b :: c :: news) := by
  refine news_more (os := [a, b, c]) F N hk fun p hp => ?_
  simp only [List.mem_cons, List.not_mem_nil, or_false] at hp
  rcases hp with rfl | rfl | rfl
  · exact ha
  · exact hb
  · exact hc

theorem getN {name : Str} {expr : Bool} {v : Value} {es : List DictEntry} {n : Nat} {vs : Array Value} {sl : Array (Option Value)} (H : ErrK K C) (F : Fr h₀ L s.heap m) (X : K.In h₀) (N : News h₀ L s.heap news)
    (he : (e, (⟨.ref C, some d, .fields vs, sl⟩ : Obj)) ∈ news) (hd : (d, dictOf es n) ∈ news) (hf : findIn K (.ref C) name = some none) (hl : getL name es = some (some v)) (hh : handedIn v = true) (h : Q v { s with toks := s.toks + 1 }) :
    wpAny (model prog w) A (getAttr (.ref e) name expr) Q E s := get_err_own H (X.keeps F.keep) (N.get he) (N.get hd) hf hl hh h
theorem getArgsN {expr : Bool} {dd : Option Addr} {r1 r2 r3 r4 r5 : Value} {sl : Array (Option Value)} (H : ErrK K C) (F : Fr h₀ L s.heap m) (X : K.In h₀) (N : News h₀ L s.heap news)
    (he : (e, (⟨.ref C, dd, .fields #[.ref t, r1, r2, r3, r4, r5], sl⟩ : Obj)) ∈ news) (h : Q (.ref t) { s with toks := s.toks + 1 }) :
    wpAny (model prog w) A (getAttr (.ref e) (Str.ofString "args") expr) Q E s := get_err_args H (X.keeps F.keep) (N.get he) h
theorem strN {ws : Str} {tw : Tok} {dd : Option Addr} {r1 r2 r3 r4 r5 : Value} {sl : Array (Option Value)} (H : ErrK K C) (hu : A.units + 2 < cLine) (F : Fr h₀ L s.heap m) (X : K.In h₀) (N : News h₀ L s.heap news)
    (he : (e, (⟨.ref C, dd, .fields #[.ref t, r1, r2, r3, r4, r5], sl⟩ : Obj)) ∈ news) (ht : (t, ({ cls := .type "tuple", data := .seq #[.str ws tw] } : Obj)) ∈ news) (h : Q (.str ws tw) s) :
    wpAny (model prog w) A (call (.type "str") [.ref e]) Q E s := str_err H hu (X.keeps F.keep) (N.get he) (N.get ht) h
theorem isiN {dd : Option Addr} {vs : Array Value} {sl : Array (Option Value)} (H : ErrK K C) (F : Fr h₀ L s.heap m) (X : K.In h₀) (N : News h₀ L s.heap news)
    (he : (e, (⟨.ref C, dd, .fields vs, sl⟩ : Obj)) ∈ news) (h : Q (.bool true) s) :
    wpAny (model prog w) A (call (.builtin "isinstance") [.ref e, .type "ValueError"]) Q E s := isi_err H (X.keeps F.keep) (N.get he) rfl h

/-- str(n) of an int -/
theorem str_intE {n : Int} {u : Tok} (hn : n.natAbs.log2 < 1920) (h : ∀ t' k, Q (.str (intS n) t') { s with toks := k }) : wpAny (model prog w) A (call (.type "str") [.int n u]) Q E s :=
  callType_new F.called_str (by decide) (F.typeCall_str_1 _) (F.newCall_str_1 _) (fun obj => F.args_object_init_2 obj _) F.entry_str_new
    (meets_str_new (S := fun _ R s' => ∀ t' k, R (.ok (.ret (.str (intS n) t'))) { s' with toks := k })
      fun _ _ _ _ _ hq => KPc.strOf_int hn (hq _ _))
    (fun t' k => ⟨typeIs_str _ _ _, h t' k⟩)
end
end Mine

-- part Cm12
open PySem PySem.W PyProof.Rows PySem.Calls
set_option Elab.async false
set_option maxRecDepth 100000
set_option maxHeartbeats 8000000
namespace Mine
section
variable {prog : Program} {w : World} {A : Around} {E : Value → Shared → Prop} {s : Shared} {env : Env} {h₀ : Heap} {body : List Stmt} {Q : Flow → Shared → Prop}

/-- a for over turns, by TurnEnd -/
theorem turns_W {target : Expr} {I : Addr} {fp wr : List Addr} {n : Nat} {P Md : Nat → Value → Heap → Prop} {St : Nat → Heap → Prop} {m : Str → Option Value} {news : List (Addr × Obj)}
    (W : KTurns prog w A target I fp wr n P Md St) (hLf : env.locals ∉ fp) (hwr : ∀ b ∈ wr, h₀.get? b = none) (hlive : ∀ i h, St i h → ∀ b ∈ wr, ∃ o, h.get? b = some o)
    (hnw : ∀ p ∈ news, p.1 ∉ wr) (hst : St 0 s.heap) (F : Fr h₀ env.locals s.heap m) (N : News h₀ env.locals s.heap news)
    (J : Nat → (Str → Option Value) → List (Addr × Obj) → Prop) (hj : J 0 m news) (muts : List Addr) (hmf : ∀ a ∈ muts, a ∉ fp)
    (turn : ∀ i v m₁ news₁ h tk own, i < n → P i v h → J i m₁ news₁ → OwnOff own muts → St (i + 1) h → Fr h₀ env.locals h m₁ → News h₀ env.locals h (news₁ ++ own) →
      wpAny (model prog w) A (assign target env v) (fun _ s₂ => wpAny (model prog w) A (execs body env) (TurnEnd h₀ env.locals own (J (i + 1)) news₁ h s Q) E s₂) E { s with heap := h, toks := tk })
    (done : ∀ m₁ news₁ h tk, J n m₁ news₁ → Fr h₀ env.locals h m₁ → News h₀ env.locals h news₁ → Q .next { s with heap := h, toks := tk }) :
    TurnsAt prog w A h₀ env target body Q E (.ref I) s := by
  refine ⟨I, fp, wr, n, P, Md, St, m, news, J, rfl, W, hLf, hwr, hnw, hst, F, N, hj, ?_, fun h' tk m' news' F' N' _ hJ => done m' news' h' tk hJ F' N'⟩
  intro i v m₁ news₁ hh' tk' own hin hP hJ hoff hown _ _ hSt F₁ N₁
  have N₂ : News h₀ env.locals hh' (news₁ ++ own) := fun p hp => N₁ p ((List.mem_append.mp hp).elim (fun h => List.mem_append.mpr (.inr h)) fun h => List.mem_append.mpr (.inl h))
  refine wpAny_mono (turn i v m₁ news₁ hh' tk' own hin hP hJ (fun p hp b hb e => hmf b hb (e ▸ hown p hp)) hSt F₁ N₂) (fun _ s₃ z => wpAny_mono z (fun f s₂ p => ?_) fun _ _ e => e) fun _ _ e => e
  have fin : (∃ h' tk m' news', s₂ = { s with heap := h', toks := tk } ∧ Fr h₀ env.locals h' m' ∧ News h₀ env.locals h' (news' ++ own) ∧ (∀ p ∈ news', p.1 ∈ news₁.map (·.1) ∨ hh'.get? p.1 = none) ∧ J (i + 1) m' news') → LoopStepU h₀ env.locals wr own (J (i + 1)) { s with heap := hh', toks := tk' } .next s₂ := by
    rintro ⟨h', tk, m', news', e, F', N', ha, hm⟩
    refine ⟨rfl, h', tk, m', news', e, F', fun p hp => N' p ((List.mem_append.mp hp).elim (fun h => List.mem_append.mpr (.inr h)) fun h => List.mem_append.mpr (.inl h)), fun p hp hq => ?_, hm⟩
    rcases ha p hp with h1 | h1
    · obtain ⟨q, hq1, hq2⟩ := List.mem_map.mp h1
      exact hoff q hq1 (hq2 ▸ hq)
    · obtain ⟨o, ho⟩ := hlive _ _ hSt _ hq
      rw [h1] at ho; cases ho
  cases f with
  | ret v => exact .ret p
  | brk => exact .brk p
  | next => exact .next (fin p)
  | cont => exact .cont (fin p)

/-- for .., .. in enumerate(a list) -/
theorem for_E {elts : List Expr} {k : Nat} {pos : Pos} {l : Addr} {vs : List Value} {m : Str → Option Value} {news : List (Addr × Obj)}
    (hh : A.handled = none) (hl : s.heap.IsList l vs.toArray) (hlL : l ≠ env.locals) (F : Fr h₀ env.locals s.heap m) (N : News h₀ env.locals s.heap news)
    (J : Nat → (Str → Option Value) → List (Addr × Obj) → Prop) (hj : J 0 m news) (muts : List Addr) (hmf : ∀ a ∈ muts, a ≠ l ∧ ∃ o, s.heap.get? a = some o)
    (turn : ∀ i x m₁ news₁ h tk own T t, vs[i]? = some x → J i m₁ news₁ → OwnOff own muts → h.IsList l vs.toArray → IsTup h T #[.int (i : Int) t, x] → Fr h₀ env.locals h m₁ → News h₀ env.locals h (news₁ ++ own) →
      wpAny (model prog w) A (assign (.Tuple elts k pos) env (.ref T)) (fun _ s₂ => wpAny (model prog w) A (execs body env) (TurnEnd h₀ env.locals own (J (i + 1)) news₁ h s Q) E s₂) E { s with heap := h, toks := tk })
    (done : ∀ m₁ news₁ h tk, J vs.length m₁ news₁ → Fr h₀ env.locals h m₁ → News h₀ env.locals h news₁ → Q .next { s with heap := h, toks := tk }) :
    wpAny (model prog w) A (call (.type "enumerate") [.ref l]) (fun xv s₁ => wpAny (model prog w) A (pyIter xv) (fun it s₂ => TurnsAt prog w A h₀ env (.Tuple elts k pos) body Q E it s₂) E s₁) E s := by
  obtain ⟨ol, hol, hrest⟩ := id hl
  have hlt : l < s.heap.objs.size := Heap.lt_size hol
  have hLs : env.locals < s.heap.objs.size := F.ns.lt
  refine call_enumerate_list hl fun h' hE hI hsz hk => ?_
  refine wpAny_pyIter_enum hE ?_
  have W := (KTurns.ofWalksU (elts := elts) (k := k) (pos := pos) (WalksT.enumerate (prog := prog) (w := w) hh (s.heap.objs.size + 1) s.heap.objs.size l (Nat.succ_ne_self _) (ktu_ne 1 hlt) (Nat.ne_of_lt hlt) vs.toArray).toU)
  have hlen : vs.toArray.size = vs.length := by simp
  rw [hlen] at W
  refine turns_W (J := J) (s := { s with heap := h' }) W ?_ ?_ ?_ ?_ ⟨⟨.none, hE⟩, hI, hl.at fun o e => hk l o e⟩ (F.keeps hk) (N.grown hk) hj muts ?_ ?_ (fun m₁ news₁ h tk hJ F' N' => done m₁ news₁ h tk hJ F' N')
  · intro hm
    have hb' : env.locals = s.heap.objs.size + 1 ∨ env.locals = s.heap.objs.size ∨ env.locals = l := by simpa using hm
    rcases hb' with e | e | e
    · exact ktu_ne 1 hLs e
    · exact Nat.ne_of_lt hLs e
    · exact hlL e.symm
  · intro b hb
    have hb' : b = s.heap.objs.size + 1 ∨ b = s.heap.objs.size := by simpa using hb
    rcases hb' with rfl | rfl
    · exact ktu_new F (Nat.le_add_right _ _)
    · exact ktu_new F (Nat.le_refl _)
  · rintro i h ⟨⟨old, he⟩, ⟨oi, hoi, hic, _⟩, _⟩ b hb
    have hb' : b = s.heap.objs.size + 1 ∨ b = s.heap.objs.size := by simpa using hb
    rcases hb' with rfl | rfl
    · exact ⟨_, he⟩
    · exact ⟨_, hoi⟩
  · intro p hp hI'
    have hb' : p.1 = s.heap.objs.size + 1 ∨ p.1 = s.heap.objs.size := by simpa using hI'
    have hlp := Heap.lt_size (N p hp).1
    rcases hb' with e | e
    · exact ktu_ne 1 hlp e
    · exact Nat.ne_of_lt hlp e
  · intro a ha hm
    obtain ⟨h1, o, h2⟩ := hmf a ha
    have h3 := Heap.lt_size h2
    have hb' : a = s.heap.objs.size + 1 ∨ a = s.heap.objs.size ∨ a = l := by simpa using hm
    rcases hb' with e | e | e
    · exact ktu_ne 1 h3 e
    · exact Nat.ne_of_lt h3 e
    · exact h1 e
  · rintro i v m₁ news₁ h tk own hin ⟨T, vals, rfl, ⟨t, x, hx, rfl⟩, hT⟩ hJ hoff hSt F' N'
    exact turn i x m₁ news₁ h tk own T t (by simpa using hx) hJ hoff hSt.2.2 hT F' N'

/-- for .. in a list / a tuple, wherever it lies -/
theorem for_LT {target : Expr} {l : Addr} {vs : List Value} {m : Str → Option Value} {news : List (Addr × Obj)}
    (hh : A.handled = none) (hl : s.heap.IsList l vs.toArray) (hlL : l ≠ env.locals) (F : Fr h₀ env.locals s.heap m) (N : News h₀ env.locals s.heap news)
    (J : Nat → (Str → Option Value) → List (Addr × Obj) → Prop) (hj : J 0 m news) (muts : List Addr) (hmf : ∀ a ∈ muts, a ≠ l ∧ ∃ o, s.heap.get? a = some o)
    (turn : ∀ i v m₁ news₁ h tk own, vs[i]? = some v → J i m₁ news₁ → OwnOff own muts → h.IsList l vs.toArray → Fr h₀ env.locals h m₁ → News h₀ env.locals h (news₁ ++ own) →
      wpAny (model prog w) A (assign target env v) (fun _ s₂ => wpAny (model prog w) A (execs body env) (TurnEnd h₀ env.locals own (J (i + 1)) news₁ h s Q) E s₂) E { s with heap := h, toks := tk })
    (done : ∀ m₁ news₁ h tk, J vs.length m₁ news₁ → Fr h₀ env.locals h m₁ → News h₀ env.locals h news₁ → Q .next { s with heap := h, toks := tk }) :
    wpAny (model prog w) A (pyIter (.ref l)) (fun it s₂ => TurnsAt prog w A h₀ env target body Q E it s₂) E s := by
  obtain ⟨ol, hol, hrest⟩ := id hl
  have hne : l ≠ s.heap.objs.size := Nat.ne_of_lt (Heap.lt_size hol)
  refine wpAny_pyIter_list hl ?_
  have W := KTurns.ofWalks (target := target) (Walks.list (prog := prog) (w := w) hh s.heap.objs.size l hne vs.toArray) fun i v s Q E st q => letGo_listiter st.1 q
  have hlen : vs.toArray.size = vs.length := by simp
  rw [hlen] at W
  refine turns_W (J := J) (s := { s with heap := _ }) W ?_ ?_ ?_ ?_ ⟨⟨_, Heap.get?_push_size _ rfl, rfl, rfl⟩, hl.at fun o e => Heap.get?_push_of_some _ e⟩ (F.push _) (fun p hp => ⟨Heap.get?_push_of_some _ (N p hp).1, (N p hp).2⟩) hj muts ?_ ?_ (fun m₁ news₁ h tk hJ F' N' => done m₁ news₁ h tk hJ F' N')
  · intro hm
    rcases List.mem_cons.mp hm with e | hm
    · exact absurd F.ns.lt (e ▸ Nat.lt_irrefl _)
    · exact hlL (List.mem_singleton.mp hm).symm
  · intro b hb
    rw [List.mem_singleton.mp hb]
    exact next_is_new F
  · intro i h hst b hb
    rw [List.mem_singleton.mp hb]
    obtain ⟨⟨o, ho, _⟩, _⟩ := hst
    exact ⟨o, ho⟩
  · intro p hp hI
    exact absurd (Heap.lt_size (N p hp).1) ((List.mem_singleton.mp hI) ▸ Nat.lt_irrefl _)
  · intro a ha hm
    obtain ⟨h1, o, h2⟩ := hmf a ha
    rcases List.mem_cons.mp hm with e | hm
    · exact absurd (Heap.lt_size h2) (e ▸ Nat.lt_irrefl _)
    · exact h1 (List.mem_singleton.mp hm)
  · intro i v m₁ news₁ h tk own hin hP hJ hoff hSt F' N'
    exact turn i v m₁ news₁ h tk own (by simpa using hP) hJ hoff hSt.2 F' N'
theorem for_TT {target : Expr} {l : Addr} {vs : List Value} {m : Str → Option Value} {news : List (Addr × Obj)}
    (hh : A.handled = none) (hl : s.heap.IsTuple l vs.toArray) (hlL : l ≠ env.locals) (F : Fr h₀ env.locals s.heap m) (N : News h₀ env.locals s.heap news)
    (J : Nat → (Str → Option Value) → List (Addr × Obj) → Prop) (hj : J 0 m news) (muts : List Addr) (hmf : ∀ a ∈ muts, a ≠ l ∧ ∃ o, s.heap.get? a = some o)
    (turn : ∀ i v m₁ news₁ h tk own, vs[i]? = some v → J i m₁ news₁ → OwnOff own muts → h.IsTuple l vs.toArray → Fr h₀ env.locals h m₁ → News h₀ env.locals h (news₁ ++ own) →
      wpAny (model prog w) A (assign target env v) (fun _ s₂ => wpAny (model prog w) A (execs body env) (TurnEnd h₀ env.locals own (J (i + 1)) news₁ h s Q) E s₂) E { s with heap := h, toks := tk })
    (done : ∀ m₁ news₁ h tk, J vs.length m₁ news₁ → Fr h₀ env.locals h m₁ → News h₀ env.locals h news₁ → Q .next { s with heap := h, toks := tk }) :
    wpAny (model prog w) A (pyIter (.ref l)) (fun it s₂ => TurnsAt prog w A h₀ env target body Q E it s₂) E s := by
  obtain ⟨ol, hol, hrest⟩ := id hl
  have hne : l ≠ s.heap.objs.size := Nat.ne_of_lt (Heap.lt_size hol)
  refine wpAny_pyIter_tuple hl ?_
  have W := KTurns.ofWalks (target := target) (Walks.tuple (prog := prog) (w := w) hh s.heap.objs.size l hne vs.toArray) fun i v s Q E st q => letGo_tupleiter st.1 q
  have hlen : vs.toArray.size = vs.length := by simp
  rw [hlen] at W
  refine turns_W (J := J) (s := { s with heap := _ }) W ?_ ?_ ?_ ?_ ⟨⟨_, Heap.get?_push_size _ rfl, rfl, rfl⟩, hl.at fun o e => Heap.get?_push_of_some _ e⟩ (F.push _) (fun p hp => ⟨Heap.get?_push_of_some _ (N p hp).1, (N p hp).2⟩) hj muts ?_ ?_ (fun m₁ news₁ h tk hJ F' N' => done m₁ news₁ h tk hJ F' N')
  · intro hm
    rcases List.mem_cons.mp hm with e | hm
    · exact absurd F.ns.lt (e ▸ Nat.lt_irrefl _)
    · exact hlL (List.mem_singleton.mp hm).symm
  · intro b hb
    rw [List.mem_singleton.mp hb]
    exact next_is_new F
  · intro i h hst b hb
    rw [List.mem_singleton.mp hb]
    obtain ⟨⟨o, ho, _⟩, _⟩ := hst
    exact ⟨o, ho⟩
  · intro p hp hI
    exact absurd (Heap.lt_size (N p hp).1) ((List.mem_singleton.mp hI) ▸ Nat.lt_irrefl _)
  · intro a ha hm
    obtain ⟨h1, o, h2⟩ := hmf a ha
    rcases List.mem_cons.mp hm with e | hm
    · exact absurd (Heap.lt_size h2) (e ▸ Nat.lt_irrefl _)
    · exact h1 (List.mem_singleton.mp hm)
  · intro i v m₁ news₁ h tk own hin hP hJ hoff hSt F' N'
    exact turn i v m₁ news₁ h tk own (by simpa using hP) hJ hoff hSt.2 F' N'
end
/-- what a map of locals is known to hold, put first -/
theorem m_put {x : Str} {m : Str → Option Value} {v : Option Value} (h : m x = v) : m = fun y => if y = x then v else m y := by
  funext z
  by_cases q : z = x
  · rw [if_pos q, q, h]
  · rw [if_neg q]
end Mine

-- part Cm14
open PySem PySem.W PyProof.Rows PySem.Calls
set_option Elab.async false
set_option maxRecDepth 100000
set_option maxHeartbeats 8000000
namespace Mine
section
variable {prog : Program} {w : World} {A : Around} {E : Value → Shared → Prop} {s : Shared} {env : Env} {h₀ : Heap} {body : List Stmt} {Q : Flow → Shared → Prop}
def TurnEndF (h₀ : Heap) (L : Addr) (own : List (Addr × Obj)) (J : (Str → Option Value) → List (Addr × Obj) → Prop) (s : Shared) (Q : Flow → Shared → Prop) (f : Flow) (s₂ : Shared) : Prop :=
  match f with
  | .ret v => Q (.ret v) s₂
  | .brk => Q .next s₂
  | _ => ∃ h' tk m' news', s₂ = { s with heap := h', toks := tk } ∧ Fr h₀ L h' m' ∧ News h₀ L h' (news' ++ own) ∧ (∀ p ∈ own, ∀ q ∈ news', p.1 ≠ q.1) ∧ J m' news'
/-- a for by an invariant; what the loop owns is off the ledger -/
theorem turns_F {target : Expr} {I : Addr} {fp wr : List Addr} {n : Nat} {P Md : Nat → Value → Heap → Prop} {St : Nat → Heap → Prop} {m : Str → Option Value} {news : List (Addr × Obj)}
    (W : KTurns prog w A target I fp wr n P Md St) (hsub : ∀ b ∈ wr, b ∈ fp) (hLf : env.locals ∉ fp) (hwr : ∀ b ∈ wr, h₀.get? b = none) (hlive : ∀ i h, St i h → ∀ b ∈ fp, ∃ o, h.get? b = some o)
    (hnw : ∀ p ∈ news, p.1 ∉ fp) (hst : St 0 s.heap) (F : Fr h₀ env.locals s.heap m) (N : News h₀ env.locals s.heap news)
    (J : Nat → (Str → Option Value) → List (Addr × Obj) → Prop) (hj : J 0 m news)
    (turn : ∀ i v m₁ news₁ h tk own, i < n → P i v h → J i m₁ news₁ → (∀ p ∈ own, ∀ q ∈ news₁, p.1 ≠ q.1) → St (i + 1) h → Fr h₀ env.locals h m₁ → News h₀ env.locals h (news₁ ++ own) →
      wpAny (model prog w) A (assign target env v) (fun _ s₂ => wpAny (model prog w) A (execs body env) (TurnEndF h₀ env.locals own (J (i + 1)) s Q) E s₂) E { s with heap := h, toks := tk })
    (done : ∀ m₁ news₁ h tk, J n m₁ news₁ → Fr h₀ env.locals h m₁ → News h₀ env.locals h news₁ → Q .next { s with heap := h, toks := tk }) :
    TurnsAt prog w A h₀ env target body Q E (.ref I) s := by
  refine ⟨I, fp, wr, n, P, Md, St, m, news, fun i m news => J i m news ∧ ∀ p ∈ news, p.1 ∉ fp, rfl, W, hLf, hwr, fun p hp hb => hnw p hp (hsub _ hb), hst, F, N, ⟨hj, hnw⟩, ?_, fun h' tk m' news' F' N' _ hJ => done m' news' h' tk hJ.1 F' N'⟩
  rintro i v m₁ news₁ hh' tk' own hin hP ⟨hJ, hJ2⟩ hoff hown _ hall hSt F₁ N₁
  have N₂ : News h₀ env.locals hh' (news₁ ++ own) := fun p hp => N₁ p ((List.mem_append.mp hp).elim (fun h => List.mem_append.mpr (.inr h)) fun h => List.mem_append.mpr (.inl h))
  refine wpAny_mono (turn i v m₁ news₁ hh' tk' own hin hP hJ (fun p hp q hq e => hJ2 q hq (e ▸ hown p hp)) hSt F₁ N₂) (fun _ s₃ z => wpAny_mono z (fun f s₂ p => ?_) fun _ _ e => e) fun _ _ e => e
  have fin : (∃ h' tk m' news', s₂ = { s with heap := h', toks := tk } ∧ Fr h₀ env.locals h' m' ∧ News h₀ env.locals h' (news' ++ own) ∧ (∀ p ∈ own, ∀ q ∈ news', p.1 ≠ q.1) ∧ J (i + 1) m' news') →
      LoopStepU h₀ env.locals wr own (fun m news => J (i + 1) m news ∧ ∀ p ∈ news, p.1 ∉ fp) { s with heap := hh', toks := tk' } .next s₂ := by
    rintro ⟨h', tk, m', news', e, F', N', ha, hm⟩
    have hf : ∀ p ∈ news', p.1 ∉ fp := fun p hp hq => by
      obtain ⟨o, ho⟩ := hlive _ _ hSt _ hq
      exact ha _ (hall _ hq (N' p (List.mem_append_left _ hp)).2.2 o ho) p hp rfl
    exact ⟨rfl, h', tk, m', news', e, F', fun p hp => N' p ((List.mem_append.mp hp).elim (fun h => List.mem_append.mpr (.inr h)) fun h => List.mem_append.mpr (.inl h)), fun p hp hq => hf p hp (hsub _ hq), hm, hf⟩
  cases f with
  | ret v => exact .ret p
  | brk => exact .brk p
  | next => exact .next (fin p)
  | cont => exact .cont (fin p)
/-- a for over a list -/
theorem for_LF {target : Expr} {l : Addr} {vs : List Value} {m : Str → Option Value} {news : List (Addr × Obj)}
    (hh : A.handled = none) (hl : s.heap.IsList l vs.toArray) (hlL : l ≠ env.locals) (F : Fr h₀ env.locals s.heap m) (N : News h₀ env.locals s.heap news) (hnl : ∀ p ∈ news, p.1 ≠ l)
    (J : Nat → (Str → Option Value) → List (Addr × Obj) → Prop) (hj : J 0 m news)
    (turn : ∀ i v m₁ news₁ h tk own, vs[i]? = some v → J i m₁ news₁ → (∀ p ∈ own, ∀ q ∈ news₁, p.1 ≠ q.1) → h.IsList l vs.toArray → Fr h₀ env.locals h m₁ → News h₀ env.locals h (news₁ ++ own) →
      wpAny (model prog w) A (assign target env v) (fun _ s₂ => wpAny (model prog w) A (execs body env) (TurnEndF h₀ env.locals own (J (i + 1)) s Q) E s₂) E { s with heap := h, toks := tk })
    (done : ∀ m₁ news₁ h tk, J vs.length m₁ news₁ → Fr h₀ env.locals h m₁ → News h₀ env.locals h news₁ → Q .next { s with heap := h, toks := tk }) :
    wpAny (model prog w) A (pyIter (.ref l)) (fun it s₂ => TurnsAt prog w A h₀ env target body Q E it s₂) E s := by
  obtain ⟨ol, hol, hrest⟩ := id hl
  have hne : l ≠ s.heap.objs.size := Nat.ne_of_lt (Heap.lt_size hol)
  refine wpAny_pyIter_list hl ?_
  have W := KTurns.ofWalks (target := target) (Walks.list (prog := prog) (w := w) hh s.heap.objs.size l hne vs.toArray) fun i v s Q E st q => letGo_listiter st.1 q
  have hlen : vs.toArray.size = vs.length := by simp
  rw [hlen] at W
  refine turns_F (J := J) (s := { s with heap := _ }) W W.sub ?_ ?_ ?_ ?_ ⟨⟨_, Heap.get?_push_size _ rfl, rfl, rfl⟩, hl.at fun o e => Heap.get?_push_of_some _ e⟩ (F.push _) (fun p hp => ⟨Heap.get?_push_of_some _ (N p hp).1, (N p hp).2⟩) hj ?_ (fun m₁ news₁ h tk hJ F' N' => done m₁ news₁ h tk hJ F' N')
  · intro hm
    rcases List.mem_cons.mp hm with e | hm
    · exact absurd F.ns.lt (e ▸ Nat.lt_irrefl _)
    · exact hlL (List.mem_singleton.mp hm).symm
  · intro b hb
    rw [List.mem_singleton.mp hb]
    exact next_is_new F
  · intro i h hst b hb
    obtain ⟨⟨o, ho, _⟩, ⟨o2, ho2, _⟩⟩ := hst
    rcases List.mem_cons.mp hb with rfl | hb
    · exact ⟨o, ho⟩
    · rw [List.mem_singleton.mp hb]; exact ⟨o2, ho2⟩
  · intro p hp hI
    rcases List.mem_cons.mp hI with e | hI
    · exact absurd (Heap.lt_size (N p hp).1) (e ▸ Nat.lt_irrefl _)
    · exact hnl p hp (List.mem_singleton.mp hI)
  · intro i v m₁ news₁ h tk own hin hP hJ hoff hSt F' N'
    exact turn i v m₁ news₁ h tk own (by simpa using hP) hJ hoff hSt.2 F' N'
/-- a for over range(a, a + n) -/
theorem for_RF {x : Str} {ps : Pos} {r : Addr} {a b : Int} {n : Nat} {t u v : Tok} {m : Str → Option Value} {news : List (Addr × Obj)}
    (hh : A.handled = none) (hr : IsRange s.heap r a b 1 t u v) (hsm : Builtin.Range.small a b 1 = true) (hn : Builtin.Range.rangeSize a b 1 = n) (F : Fr h₀ env.locals s.heap m) (N : News h₀ env.locals s.heap news)
    (J : Nat → (Str → Option Value) → List (Addr × Obj) → Prop) (hj : J 0 m news)
    (turn : ∀ i t m₁ news₁ h tk own, i < n → J i m₁ news₁ → (∀ p ∈ own, ∀ q ∈ news₁, p.1 ≠ q.1) → Fr h₀ env.locals h m₁ → News h₀ env.locals h (news₁ ++ own) →
      wpAny (model prog w) A (assign (.Name x ps) env (.int (a + i) t)) (fun _ s₂ => wpAny (model prog w) A (execs body env) (TurnEndF h₀ env.locals own (J (i + 1)) s Q) E s₂) E { s with heap := h, toks := tk })
    (done : ∀ m₁ news₁ h tk, J n m₁ news₁ → Fr h₀ env.locals h m₁ → News h₀ env.locals h news₁ → Q .next { s with heap := h, toks := tk }) :
    wpAny (model prog w) A (pyIter (.ref r)) (fun it s₂ => TurnsAt prog w A h₀ env (.Name x ps) body Q E it s₂) E s := by
  refine wpAny_pyIter_range hr hsm ?_
  rw [hn]
  have W := KTurns.ofWalks (target := .Name x ps) (Walks.range (prog := prog) (w := w) hh s.heap.objs.size a 1 n) fun i v s Q E st q => wpAny_pure q
  refine turns_F (J := J) (s := { s with heap := _ }) W W.sub ?_ ?_ ?_ ?_ ?_ (F.push _) (fun p hp => ⟨Heap.get?_push_of_some _ (N p hp).1, (N p hp).2⟩) hj ?_ (fun m₁ news₁ h tk hJ F' N' => done m₁ news₁ h tk hJ F' N')
  · intro hm
    exact absurd F.ns.lt (List.mem_singleton.mp hm ▸ Nat.lt_irrefl _)
  · intro b hb
    rw [List.mem_singleton.mp hb]
    exact next_is_new F
  · intro i h hst b hb
    rw [List.mem_singleton.mp hb]
    exact ⟨_, hst⟩
  · intro p hp hI
    exact absurd (Heap.lt_size (N p hp).1) ((List.mem_singleton.mp hI) ▸ Nat.lt_irrefl _)
  · show IsRangeIter _ _ (a + (0 : Nat) * 1) ((n : Int) - (0 : Nat)) 1
    have e1 : a + ((0 : Nat) : Int) * 1 = a := by omega
    have e2 : (n : Int) - ((0 : Nat) : Int) = n := by omega
    rw [e1, e2]
    exact Heap.get?_push_size _ rfl
  · rintro i v m₁ news₁ h tk own hin ⟨t', rfl⟩ hJ hoff hSt F' N'
    rw [Int.mul_one]
    exact turn i t' m₁ news₁ h tk own hin hJ hoff F' N'
end
end Mine

-- part Cm15
open PySem PySem.W PyProof.Rows PySem.Calls PySem.Builtin PySem.Builtin.Str
set_option Elab.async false
set_option maxRecDepth 100000
set_option maxHeartbeats 8000000
namespace Mine
section
variable {prog : Program} {w : World} {A : Around} {E : Value → Shared → Prop} {s : Shared} {h₀ : Heap} {L D l : Addr} {m : Str → Option Value} {news rest : List (Addr × Obj)} {vs : List Value} {k : Int} {u : Tok} {v : Value} {n : Nat}
theorem nsub {h : Heap} {l l' : List (Addr × Obj)} (N : News h₀ L h l) (hs : ∀ p ∈ l', p ∈ l) : News h₀ L h l' := fun p hp => N p (hs p hp)
theorem item_anyN {Q : Value → Shared → Prop} {value slice : Expr} (N : News h₀ L s.heap news) (hm : (D, W.listOf vs.toArray n) ∈ news) (hj : vs[k.toNat]? = some v) (h0 : 0 ≤ k) (hz : k ≤ 1000000) (h : Q v s)
    (hs : subscripted slice false (.ref D) (.int k u) = operate [.ref D, .int k u] (getItem (.ref D) (.int k u)) := by with_unfolding_all rfl) (hg : ∀ r, letTemporaryGo value (.ref D) r = pure () := by intro _; with_unfolding_all rfl) :
    wpAny (model prog w) A (subscriptTail value slice (.ref D) (.int k u)) Q E s :=
  item_listL (l := vs) ⟨_, (N _ hm).1, rfl, n, rfl⟩ (by omega) (by omega) hj h hs hg
theorem set_itemN {Q : Unit → Shared → Prop} (F : Fr h₀ L s.heap m) (N : News h₀ L s.heap ((D, W.listOf vs.toArray n) :: rest)) (hr : ∀ p ∈ rest, p.1 ≠ D) (h0 : 0 ≤ k) (h1 : k < vs.length) (hz : k ≤ 1000000)
    (h : ∀ h', Fr h₀ L h' m → News h₀ L h' ((D, W.listOf (vs.set k.toNat v).toArray n) :: rest) → Q () { s with heap := h' }) :
    wpAny (model prog w) A (setItem (.ref D) (.int k u) v) Q E s := by
  have z := N _ (.head _)
  refine ki_setAt z.1 h0 (by omega) (by simpa using h1) (h _ (F.change (Heap.SameBut.update ..) z.2.1 z.2.2) (ki_turn (pre := []) _ N (fun p hp => nomatch hp) hr ?_ ?_))
  · show vs.toArray.setIfInBounds k.toNat v = (vs.set k.toNat v).toArray
    apply Array.toList_inj.mp
    simp
  · simp
theorem appN {Q : Value → Shared → Prop} (F : Fr h₀ L s.heap m) (N : News h₀ L s.heap news) (hm : (l, W.listOf vs.toArray n) ∈ news) (hall : ∀ p ∈ rest, p.1 ≠ l) (hsub : ∀ p ∈ rest, p ∈ news) (hz : vs.length ≤ 1000)
    (h : ∀ h', Fr h₀ L h' m → News h₀ L h' ((l, W.listOf (vs ++ [v]).toArray (n + 1)) :: rest) → Q .none { s with heap := h' }) : wpAny (model prog w) A (call (.builtin "list.append") [.ref l, v]) Q E s := by
  have N2 : News h₀ L s.heap ((l, W.listOf vs.toArray n) :: rest) := fun p hp => (List.mem_cons.mp hp).elim (fun e => e ▸ N _ hm) fun hp => N p (hsub p hp)
  refine append_K F N2 (.head hall) (fun h' F' N' => h h' F' ?_) (by rw [sizeLine_eq, List.size_toArray]; omega)
  rw [List.push_toArray] at N'
  exact N'
end
theorem N_add {h₀ h h' : Heap} {L a : Addr} {o : Obj} {m : Str → Option Value} {news : List (Addr × Obj)} (F : Fr h₀ L h m) (N : News h₀ L h news) (hk : Keeps h h') (hf : h.get? a = none) (hg : h'.get? a = some o) :
    Fr h₀ L h' m ∧ News h₀ L h' ((a, o) :: news) ∧ ∀ q ∈ news, q.1 ≠ a := by
  have ha : a ≠ L ∧ h₀.get? a = none := by
    obtain ⟨oL, esL, epL, hLg, rL⟩ := F.ns
    refine ⟨fun q => (by rw [q, hLg] at hf; cases hf), ?_⟩
    cases q : h₀.get? a with
    | none => rfl
    | some o => have := F.keep _ _ q; rw [hf] at this; cases this
  refine ⟨F.keeps hk, fun q hq => ?_, fun q hq e => ?_⟩
  · rcases List.mem_cons.mp hq with rfl | hq
    · exact ⟨hg, ha⟩
    · exact ⟨hk _ _ (N q hq).1, (N q hq).2⟩
  · have := (N q hq).1; rw [e, hf] at this; cases this
theorem m_put2 {x1 x2 : Str} {m : Str → Option Value} {v1 v2 : Option Value} (h1 : m x1 = v1) (h2 : m x2 = v2) :
    m = fun y => if y = x1 then v1 else if y = x2 then v2 else m y := by
  funext z
  by_cases q1 : z = x1
  · rw [if_pos q1, q1, h1]
  by_cases q2 : z = x2
  · rw [if_neg q1, if_pos q2, q2, h2]
  rw [if_neg q1, if_neg q2]
theorem lt_all {d : Addr} : ∀ (l : List (Addr × Obj)), AllLt d l → ∀ p ∈ l, p.1 < d := by
  intro l
  induction l with
  | nil => intro _ p hp; cases hp
  | cons a r ih =>
    intro h p hp
    rcases List.mem_cons.mp hp with e | hp
    · rw [e]; exact h.1
    · exact ih h.2 p hp
theorem news_tail {h₀ h : Heap} {L : Addr} {p : Addr × Obj} {r : List (Addr × Obj)} (N : News h₀ L h (p :: r)) : News h₀ L h r := fun q hq => N q (.tail _ hq)
theorem nameHead {h₀ h : Heap} {L a : Addr} {o : Obj} {r : List (Addr × Obj)} (_ : News h₀ L h ((a, o) :: r)) : ∃ y, y = a := ⟨_, rfl⟩
theorem ints_setAt {t : Tok} {x : Int} : ∀ {vs : List Value} {ns : List Int}, IntsAre vs ns → ∀ k : Nat, IntsAre (vs.set k (.int x t)) (ns.set k x)
  | _, _, .nil, _ => .nil
  | _, _, .cons n t' r, 0 => .cons _ _ r
  | _, _, .cons n t' r, k + 1 => .cons _ _ (ints_setAt r k)
theorem ints_snoc {t : Tok} {x : Int} : ∀ {vs : List Value} {ns : List Int}, IntsAre vs ns → IntsAre (vs ++ [.int x t]) (ns ++ [x])
  | _, _, .nil => .cons _ _ .nil
  | _, _, .cons n t' r => .cons _ _ (ints_snoc r)
end Mine

-- part Pl
open PySem PySem.W PyProof.Rows PySem.Calls
set_option Elab.async false
set_option maxRecDepth 100000
set_option maxHeartbeats 8000000
namespace Mine
open PySem.Builtin PySem.Builtin.Str

/-- line ends among the first k signs; the column that a walk over the first k signs comes to -/
def nlc (cs : List Nat) (k : Nat) : Nat := (cs.take k).count 10
def colf (cs : List Nat) : Nat → Int
  | 0 => 1
  | k + 1 => if cs[k]? = some 10 then 1 else colf cs k + 1

theorem nlc_succ (cs : List Nat) (k : Nat) : nlc cs (k + 1) = nlc cs k + (if cs[k]? = some 10 then 1 else 0) := by
  unfold nlc
  rw [List.take_add_one, List.count_append]
  cases h : cs[k]? with
  | none => simp
  | some c => simp only [Option.toList_some, List.count_singleton, Option.some.injEq]; congr 1; simp
theorem colf_pos (cs : List Nat) : ∀ k, 1 ≤ colf cs k
  | 0 => by simp [colf]
  | k + 1 => by unfold colf; split; · lia
                · have := colf_pos cs k; lia
theorem colf_le (cs : List Nat) : ∀ k : Nat, colf cs k ≤ k + 1
  | 0 => by simp [colf]
  | k + 1 => by unfold colf; split; · lia
                · have := colf_le cs k; lia
theorem colf_none {cs : List Nat} : ∀ {k : Nat}, (∀ i, i < k → cs[i]? ≠ some 10) → colf cs k = k + 1
  | 0, _ => by simp [colf]
  | k + 1, h => by
    unfold colf
    rw [if_neg (h k (by lia)), colf_none fun i hi => h i (by lia)]
    lia
theorem colf_last {cs : List Nat} : ∀ {k i : Nat}, i < k → cs[i]? = some 10 → (∀ j, i < j → j < k → cs[j]? ≠ some 10) → colf cs k = k - i
  | 0, _, h, _, _ => absurd h (Nat.not_lt_zero _)
  | k + 1, i, h, h1, h2 => by
    unfold colf
    by_cases q : i = k
    · subst q; rw [if_pos h1]; lia
    · rw [if_neg (h2 k (by lia) (by lia)), colf_last (by lia) h1 fun j a b => h2 j a (by lia)]
      lia

theorem lst_nl : lst nl = [10] := by decide
theorem len_nl : nl.length = 1 := by decide
theorem at_nl (x : Str) (hi i : Nat) : StrLaws.At x nl hi i ↔ i + 1 ≤ hi ∧ (lst x)[i]? = some 10 := by
  rw [at_iff, len_nl, lst_nl]
  constructor
  · rintro ⟨h1, h2⟩
    refine ⟨h1, ?_⟩
    have := congrArg (fun l => l[0]?) h2
    simpa [List.getElem?_take, List.getElem?_drop] using this
  · rintro ⟨h1, h2⟩
    refine ⟨h1, ?_⟩
    have hlt := (List.getElem?_eq_some_iff.mp h2).1
    rw [List.drop_eq_getElem_cons hlt]
    have := (List.getElem?_eq_some_iff.mp h2).2
    simp [this]

theorem occ_run (x : Str) (hi limit : Nat) : ∀ (l : List Nat) (st : Array Nat × Nat), l.Pairwise (· < ·) → (∀ i ∈ l, st.2 ≤ i) → st.1.size + l.length ≤ limit →
    (forIn l st (StrLaws.occBody x nl hi limit)).run.fst.size = st.1.size + l.countP (fun i => decide (i + 1 ≤ hi ∧ (lst x)[i]? = some 10))
  | [], st, _, _, _ => by simp
  | a :: l, st, hp, hs, hl => by
    rw [List.forIn_cons]
    have hp' := List.pairwise_cons.mp hp
    simp only [List.length_cons] at hl
    unfold StrLaws.occBody
    by_cases hc : a + 1 ≤ hi ∧ (lst x)[a]? = some 10
    · have hat := (at_nl x hi a).mpr hc
      rw [if_pos ⟨⟨⟨by lia, hs a (by simp)⟩, by rw [len_nl]; exact hc.1⟩, hat.2⟩]
      have := occ_run x hi limit l (st.1.push a, a + nl.length) hp'.2 (fun i hi' => by rw [len_nl]; exact hp'.1 i hi') (by simp only [Array.size_push]; lia)
      simp only [Array.size_push] at this
      refine this.trans ?_
      rw [List.countP_cons_of_pos (by simpa using hc)]
      lia
    · rw [if_neg (fun q => hc ((at_nl x hi a).mp ⟨q.1.2, q.2⟩))]
      have := occ_run x hi limit l (st.1, st.2) hp'.2 (fun i hi' => hs i (by simp [hi'])) (by show st.1.size + l.length ≤ limit; lia)
      refine this.trans ?_
      rw [List.countP_cons_of_neg (by simpa using hc)]

theorem countP_range (cs : List Nat) : ∀ hi : Nat, (List.range' 0 (hi + 1)).countP (fun i => decide (i + 1 ≤ hi ∧ cs[i]? = some 10)) = nlc cs hi := by
  have key : ∀ hi k : Nat, k ≤ hi → (List.range' 0 k).countP (fun i => decide (i + 1 ≤ hi ∧ cs[i]? = some 10)) = nlc cs k := by
    intro hi k
    induction k with
    | zero => intro _; simp [nlc]
    | succ k ih =>
      intro hk
      rw [List.range'_1_concat, List.countP_append, ih (by lia), nlc_succ]
      congr 1
      simp only [Nat.zero_add, List.countP_singleton, decide_eq_true_eq]
      by_cases q : cs[k]? = some 10
      · rw [if_pos ⟨by lia, q⟩, if_pos q]
      · rw [if_neg (fun z => q z.2), if_neg q]
  intro hi
  rw [List.range'_1_concat, List.countP_append, key hi hi (Nat.le_refl _)]
  simp
  lia
theorem occ_nl (x : Str) (hi : Nat) (h : hi ≤ x.length) : (occurrences x nl 0 hi (x.length + 1)).length = nlc (lst x) hi := by
  rw [StrLaws.occ_eq]
  have := occ_run x hi (x.length + 1) (List.range' 0 (hi + 1 - 0)) (#[], 0) (by simpa using List.pairwise_lt_range' (s := 0) (n := hi + 1)) (fun i _ => Nat.zero_le _) (by simp; lia)
  rw [Array.length_toList]
  refine this.trans ?_
  simp only [List.size_toArray, List.length_nil, Nat.zero_add, Nat.sub_zero]
  exact countP_range (lst x) hi

theorem last_nl (x : Str) (hi : Nat) : (match lastOccurrence x nl 0 hi with | some i => (i : Int) | none => -1) = hi - colf (lst x) hi := by
  rw [StrLaws.last_eq]
  have key := StrLaws.last_run x nl hi (List.range' 0 (hi + 1 - 0)) [] none (fun _ h => nomatch h) (fun _ h => nomatch h) (by simpa using List.pairwise_lt_range' (s := 0) (n := hi + 1))
  have mem : ∀ i, i + 1 ≤ hi → i ∈ [] ++ List.range' 0 (hi + 1 - 0) := fun i hi => by simp [List.mem_range']; lia
  cases hr : (forIn (List.range' 0 (hi + 1 - 0)) none (StrLaws.lastBody x nl hi)).run with
  | none =>
    rw [hr] at key
    have : ∀ i, i < hi → (lst x)[i]? ≠ some 10 := fun i h1 h2 => key i (mem i (by lia)) ((at_nl x hi i).mpr ⟨by lia, h2⟩)
    rw [colf_none this]
    show (-1 : Int) = _
    lia
  | some a =>
    rw [hr] at key
    obtain ⟨h1, h2⟩ := key
    obtain ⟨h3, h4⟩ := (at_nl x hi a).mp h1
    rw [colf_last (by lia) h4 (fun j a1 a2 q => h2 j (mem j (by lia)) a1 ((at_nl x hi j).mpr ⟨by lia, q⟩))]
    show (a : Int) = _
    lia

theorem hiOf_le (n : Nat) (p : Int) : hiOf n p ≤ n := by unfold hiOf; lia
theorem ln_eq (x : Str) (p : Int) : lnOf x p = nlc (lst x) (hiOf x.length p) + 1 := by
  unfold lnOf cnt
  rw [occ_nl x _ (hiOf_le _ _)]
theorem cn_eq (x : Str) (p : Int) : cnOf x p = colf (lst x) (hiOf x.length p) + (p - hiOf x.length p) := by
  have := last_nl x (hiOf x.length p)
  show p - (match lastOccurrence x nl 0 (hiOf x.length p) with | some i => (i : Int) | none => -1) = _
  lia
theorem hiOf_in {n : Nat} {k : Nat} (h : k ≤ n) : hiOf n k = k := by unfold hiOf; split <;> lia
theorem ln_in (x : Str) {k : Nat} (h : k ≤ x.length) : lnOf x k = nlc (lst x) k + 1 := by rw [ln_eq, hiOf_in h]
theorem cn_in (x : Str) {k : Nat} (h : k ≤ x.length) : cnOf x k = colf (lst x) k := by rw [cn_eq, hiOf_in h]; lia
theorem nlc_le (cs : List Nat) (k : Nat) : nlc cs k ≤ k := by
  unfold nlc
  exact Nat.le_trans List.count_le_length (by rw [List.length_take]; lia)
end Mine

-- part H1
open PySem PySem.W PyProof.Rows PySem.Calls PySem.Builtin
set_option Elab.async false
set_option maxRecDepth 100000
set_option maxHeartbeats 8000000
namespace Mine
/-- an exception whose contexts come to an end -/
inductive CtxOf (h : Heap) : Nat → Addr → Prop
  | last {a : Addr} {o : Obj} {vs : Array Value} : h.get? a = some o → o.data = .fields vs → vs[2]? = some .none → CtxOf h 0 a
  | more {a b : Addr} {n : Nat} {o : Obj} {vs : Array Value} : h.get? a = some o → o.data = .fields vs → vs[2]? = some (.ref b) → CtxOf h n b → CtxOf h (n + 1) a
theorem CtxOf.keeps {h h' : Heap} (k : Keeps h h') : ∀ {n : Nat} {a : Addr}, CtxOf h n a → CtxOf h' n a
  | _, _, .last e d v => .last (k _ _ e) d v
  | _, _, .more e d v r => .more (k _ _ e) d v (r.keeps k)
theorem CtxOf.live {h : Heap} {n : Nat} {a : Addr} : CtxOf h n a → ∃ o, h.get? a = some o
  | .last e _ _ => ⟨_, e⟩
  | .more e _ _ _ => ⟨_, e⟩
/-- nothing is handled, or an exception whose contexts end -/
def Calm (A : Around) (g : Heap) : Prop := A.handled = none ∨ ∃ a n, A.handled = some (.ref a) ∧ CtxOf g n a
theorem Calm.keeps {A : Around} {g g' : Heap} (c : Calm A g) (k : Keeps g g') : Calm A g' := c.elim .inl fun ⟨a, n, e, x⟩ => .inr ⟨a, n, e, x.keeps k⟩
theorem Calm.of_none {A : Around} {g : Heap} (h : A.handled = none) : Calm A g := .inl h
theorem Calm.congr {A B : Around} {g : Heap} (c : Calm A g) (h : B.handled = A.handled) : Calm B g := c.elim (fun e => .inl (h.trans e)) fun ⟨a, n, e, x⟩ => .inr ⟨a, n, h.trans e, x⟩
section
variable {prog : Program} {w : World} {A : Around} {E : Value → Shared → Prop} {s : Shared} {g : Heap}
theorem ref_ne {a b : Addr} (h : a ≠ b) : (Value.ref a == Value.ref b) = false := by
  cases q : (Value.ref a == Value.ref b) with
  | false => rfl
  | true => exact absurd (Value.ref.inj (eq_of_beq q)) h
theorem entry_unchain : entryFor table "proto.unchain" = some Builtin.«proto.unchain» := entryFor_of_tree (by kernel_rfl)
theorem unchain {R : Result → Shared → Prop} {e : Addr} (hk : Keeps g s.heap) (he : g.get? e = none) (hR : R (.ok (.ret .none)) s) : ∀ (n : Nat) (a sl : Addr) (k : Nat) (t : Bool), n ≤ k → CtxOf g n a → CtxOf g k sl →
    codeAny (model prog w) A (.builtin "proto.unchain" ⟨[.ref e, .ref a, .ref sl, .bool t], []⟩) R s := by
  intro n
  induction n with
  | zero =>
    intro a sl k t hn ha hs
    refine codeAny_builtin entry_unchain ?_
    cases ha with
    | last h1 h2 h3 =>
      show wpAny _ _ (field (.ref a) 2 >>= _) _ _ s
      refine wpAny_bind (wpAny_field (hk _ _ h1) h2 h3 ?_)
      rw [if_pos (by rfl)]
      exact wpAny_pure hR
  | succ n ih =>
    intro a sl k t hn ha hs
    refine codeAny_builtin entry_unchain ?_
    cases ha with
    | @more _ b _ _ _ h1 h2 h3 h4 =>
      show wpAny _ _ (field (.ref a) 2 >>= _) _ _ s
      refine wpAny_bind (wpAny_field (hk _ _ h1) h2 h3 ?_)
      have hbe : b ≠ e := fun q => by
        obtain ⟨o, ho⟩ := h4.live
        rw [q, he] at ho; cases ho
      rw [if_neg (by intro q; cases q), if_neg (by rw [ref_ne hbe]; exact Bool.false_ne_true)]
      by_cases hbs : b = sl
      · subst hbs
        rw [if_pos (beq_self_eq_true _)]
        exact wpAny_bind (wpAny_rule (wpAny_pure hR))
      · rw [if_neg (by rw [ref_ne hbs]; exact Bool.false_ne_true)]
        cases hs with
        | last => omega
        | @more _ c k' _ _ g1 g2 g3 g4 =>
          cases t with
          | true =>
            show wpAny _ _ (field (.ref sl) 2 >>= _) _ _ s
            refine wpAny_bind (wpAny_field (hk _ _ g1) g2 g3 ?_)
            exact wpAny_pure ⟨Code.quiet_builtin _ (by decide +kernel), ih b c k' false (by omega) h4 g4⟩
          | false =>
            show wpAny _ _ (pure (Value.ref sl) >>= _) _ _ s
            refine wpAny_bind (wpAny_pure ?_)
            exact wpAny_pure ⟨Code.quiet_builtin _ (by decide +kernel), ih b sl (k' + 1) true (by omega) h4 (.more g1 g2 g3 g4)⟩
/-- an exception is raised, whatever is handled -/
theorem raiseNew_calm {α : Type} {e : Addr} {o : Obj} {vs : Array Value} {Q : α → Shared → Prop} (hc : Calm A g) (hk : Keeps g s.heap) (he : g.get? e = none) (ho : s.heap.get? e = some o) (hd : o.data = .fields vs) (hz : 2 < vs.size)
    (h : ∀ h' o', Heap.SameBut e s.heap h' → h'.get? e = some o' → o'.cls = o.cls → (∃ vs', o'.data = .fields vs' ∧ vs'.size = vs.size) → E (.ref e) { s with heap := h' }) :
    wpAny (model prog w) A (raiseNew (.ref e) : Sem α) Q E s := by
  unfold raiseNew
  refine wpAny_bind (wpAny_handled ?_)
  rcases hc with hn | ⟨a, n, hn, hx⟩
  · rw [hn]
    exact wpAny_bind (wpAny_pure (wpAny_throw (h _ _ (Heap.SameBut.refl _ _) ho rfl ⟨_, hd, rfl⟩)))
  · rw [hn]
    have hae : a ≠ e := fun q => by
      obtain ⟨o, ho⟩ := hx.live
      rw [q, he] at ho; cases ho
    dsimp only
    rw [if_pos (by show (!(Value.ref a == Value.ref e)) = true; rw [ref_ne hae]; rfl)]
    refine wpAny_bind (wpAny_holding (wpAny_runValue (unchain hk he ?_ n a a n false (Nat.le_refl _) hx hx)))
    refine wpAny_bind ?_
    show wpAny _ _ (updateField e 2 (Value.ref a)) _ _ _
    refine wpAny_setField (a := e) (i := 2) ho hd hz ?_
    refine wpAny_throw (h _ _ (Heap.SameBut.update ..) (Heap.get?_update_self _ ho (Obj.isFreed_of_fields (Obj.data_mapFields hd _))) (Obj.cls_mapFields ..) ⟨_, Obj.data_mapFields hd _, by simp⟩)
end
end Mine

-- part H2
open PySem PySem.W PyProof.Rows PySem.Calls PySem.Builtin
set_option Elab.async false
set_option maxRecDepth 100000
set_option maxHeartbeats 8000000
namespace Mine
/-- a row of contexts, by its addresses -/
inductive CtxL (h : Heap) : List Addr → Prop
  | last {a : Addr} {o : Obj} {vs : Array Value} : h.get? a = some o → o.data = .fields vs → vs[2]? = some .none → CtxL h [a]
  | more {a b : Addr} {r : List Addr} {o : Obj} {vs : Array Value} : h.get? a = some o → o.data = .fields vs → vs[2]? = some (.ref b) → CtxL h (b :: r) → CtxL h (a :: b :: r)
theorem CtxL.frame {h h' : Heap} : ∀ {as : List Addr}, CtxL h as → (∀ b ∈ as, ∀ o, h.get? b = some o → h'.get? b = some o) → CtxL h' as
  | _, .last e d v, k => .last (k _ (.head _) _ e) d v
  | _, .more e d v r, k => .more (k _ (.head _) _ e) d v (r.frame fun b hb => k b (.tail _ hb))
theorem CtxL.of {h : Heap} : ∀ {r : List Addr} {a : Addr}, CtxL h (a :: r) → CtxOf h r.length a
  | _, _, .last e d v => .last e d v
  | _, _, .more e d v r => .more e d v r.of
theorem CtxL.live {h : Heap} : ∀ {as : List Addr}, CtxL h as → ∀ b ∈ as, ∃ o, h.get? b = some o
  | _, .last e d v, b, hb => by rw [List.mem_singleton.mp hb]; exact ⟨_, e⟩
  | _, .more e d v r, b, hb => by
    rcases List.mem_cons.mp hb with rfl | hb
    · exact ⟨_, e⟩
    · exact r.live b hb
def CalmL (A : Around) (h : Heap) (as : List Addr) : Prop := (A.handled = none ∧ as = []) ∨ ∃ a r, as = a :: r ∧ A.handled = some (.ref a) ∧ CtxL h as
section
variable {A : Around} {h h' : Heap} {as : List Addr}
theorem CalmL.frame (c : CalmL A h as) (k : ∀ b ∈ as, ∀ o, h.get? b = some o → h'.get? b = some o) : CalmL A h' as :=
  c.elim .inl fun ⟨a, r, e, q, x⟩ => .inr ⟨a, r, e, q, x.frame k⟩
theorem CalmL.keeps (c : CalmL A h as) (k : Keeps h h') : CalmL A h' as := c.frame fun b _ o e => k b o e
theorem CalmL.calm (c : CalmL A h as) : Calm A h := c.elim (fun q => .inl q.1) fun ⟨a, r, e, q, x⟩ => .inr ⟨a, r.length, q, by subst e; exact x.of⟩
theorem CalmL.none (hh : A.handled = none) : CalmL A h [] := .inl ⟨hh, rfl⟩
theorem CalmL.live (c : CalmL A h as) : ∀ b ∈ as, ∃ o, h.get? b = some o := fun b hb => by
  rcases c with ⟨_, e⟩ | ⟨a, r, e, q, x⟩
  · rw [e] at hb; cases hb
  · exact x.live b hb
end
section
variable {prog : Program} {w : World} {A : Around} {E : Value → Shared → Prop} {s : Shared} {as : List Addr}
theorem stop_raise {α : Type} {Q : α → Shared → Prop} {f : Value → Sem α} (hf : ∀ e, f e = raiseNew e) (hc : Calm A s.heap)
    (h : ∀ h' e, Keeps s.heap h' → (∃ o, h'.get? e = some o ∧ o.cls = .type "StopIteration") → E (.ref e) { s with heap := h' }) : wpAny (model prog w) A (newExc (.type "StopIteration") [] >>= f) Q E s := by
  refine wpAny_bind ?_
  simp only [newExc, newTuple]
  refine wpAny_bind (wpAny_newObj_type ?_ (by size_fits))
  refine wpAny_bind (m := firstArgMember _ _) (wpAny_of_eq (a := Value.none) (by first | rfl | (simp only [firstArgMember]; rfl)) ?_)
  refine wpAny_newObj_type ?_ (by size_fits)
  rw [hf]
  refine raiseNew_calm (g := s.heap) hc (fun b o e => Heap.get?_push_of_some _ (Heap.get?_push_of_some _ e)) (Heap.get?_none_of_le (by simp)) (Heap.get?_push_size _ rfl) rfl (by rw [Array.size_append]; exact Nat.lt_of_lt_of_le (show 2 < 6 by decide) (Nat.le_add_right _ _)) ?_
  intro h' o' hs ho hcl _
  refine h h' _ (fun b o e => ?_) ⟨o', ho, hcl⟩
  have hb := Heap.lt_size e
  rw [hs.2 b (Nat.ne_of_lt (by rw [Heap.size_push]; exact Nat.lt_succ_of_lt hb))]
  exact Heap.get?_push_of_some _ (Heap.get?_push_of_some _ e)
theorem ext_two {it : Addr} {h1 h2 h' : Heap} (x : Heap.ExtBut it h1 h2) (k : Keeps h2 h') : Heap.ExtBut it h1 h' := fun b o hb e => k _ _ (x b o hb e)
theorem CalmL.upd {it : Addr} {h' : Heap} (c : CalmL A s.heap as) (hI : it ∉ as) (x : Heap.ExtBut it s.heap h') : CalmL A h' as := c.frame fun b hb o e => x b o (fun q => hI (q ▸ hb)) e
theorem next_tuple_endC {it t : Addr} {i : Nat} {items : Array Value} {Q : Option Value → Shared → Prop} (hc : CalmL A s.heap as) (hI : it ∉ as)
    (hit : s.heap.IsTupleIter it t i) (ht : s.heap.IsTuple t items) (hx : items[i]? = none)
    (hQ : ∀ h', Heap.ExtBut it s.heap h' → Q none { s with heap := h' }) : wpAny (model prog w) A (pyNext (.ref it)) Q E s := by
  obtain ⟨o, ho, hcl, hd⟩ := id hit
  obtain ⟨ol, hol, _, nl, hdl⟩ := ht
  unfold pyNext
  refine wpAny_bind (wpAny_attempt (wpAny_callSpecial?_slot (name := Str.ofString "__next__") hit.typeIs F.slot_tuple_iterator_next
    (wpAny_call_entry F.slot_tuple_iterator_next hit.typeIs F.entry_tuple_iterator_next ?_ (F.args_tuple_iterator_next_1 _))))
  show wpAny _ _ (field (.ref it) 0 >>= _) _ _ s
  refine wpAny_bind (wpAny_field ho hd (x := .ref t) rfl ?_)
  show wpAny _ _ (if (Value.ref t == Value.none) = true then _ else _) _ _ s
  rw [if_neg (show ¬ ((Value.ref t == Value.none) = true) from Bool.false_ne_true)]
  show wpAny _ _ (field (.ref it) 1 >>= _) _ _ s
  refine wpAny_bind (wpAny_field ho hd (x := .int i 0) rfl ?_)
  show wpAny _ _ (seqItems? (.ref t) >>= _) _ _ s
  refine wpAny_bind (wpAny_seqItems hol hdl ?_)
  simp only [Int.toNat_natCast, hx]
  refine wpAny_bind (wpAny_rule (wpAny_bind (wpAny_setField ho hd (by simp) ?_)))
  show wpAny _ _ (newExc (.type "StopIteration") [] >>= _) _ _ _
  refine stop_raise (fun _ => rfl) (Calm.congr (A := A) (hc.upd hI (Heap.SameBut.update ..).extBut).calm rfl) fun h' e hk ⟨o', ho', hcl'⟩ => ?_
  refine wpAny_bind (wpAny_isInstance (T := "StopIteration") (b := true) ⟨o', ho', hcl'⟩ isSubtype_stop ?_)
  exact wpAny_pure (hQ _ (ext_two (Heap.SameBut.update ..).extBut hk))
theorem next_ascii_endC {it : Addr} {x : Str} {t : Tok} {i : Nat} {Q : Option Value → Shared → Prop} (hc : CalmL A s.heap as) (hI : it ∉ as)
    (hit : s.heap.IsStrIter it "str_ascii_iterator" x t i) (hx : x.cps[i]? = none)
    (hQ : ∀ h', Heap.ExtBut it s.heap h' → Q none { s with heap := h' }) : wpAny (model prog w) A (pyNext (.ref it)) Q E s := by
  obtain ⟨o, ho, hcl, hd⟩ := id hit
  unfold pyNext
  refine wpAny_bind (wpAny_attempt (wpAny_callSpecial?_slot (name := Str.ofString "__next__") hit.typeIs F.slot_str_ascii_iterator_next
    (wpAny_call_entry F.slot_str_ascii_iterator_next hit.typeIs F.entry_str_ascii_iterator_next ?_ (F.args_str_ascii_iterator_next_1 _))))
  show wpAny _ _ (field (.ref it) 0 >>= _) _ _ s
  refine wpAny_bind (wpAny_field ho hd (x := .str x t) rfl ?_)
  show wpAny _ _ (field (.ref it) 1 >>= _) _ _ s
  refine wpAny_bind (wpAny_field ho hd (x := .int i 0) rfl ?_)
  simp only [Int.toNat_natCast, hx]
  refine wpAny_bind (wpAny_rule (wpAny_bind (wpAny_setField ho hd (by simp) (wpAny_bind (wpAny_letGo ?_)))))
  show wpAny _ _ (newExc (.type "StopIteration") [] >>= _) _ _ _
  refine stop_raise (fun _ => rfl) (Calm.congr (A := A) (hc.upd hI (Heap.SameBut.update ..).extBut).calm rfl) fun h' e hk ⟨o', ho', hcl'⟩ => ?_
  refine wpAny_bind (wpAny_isInstance (T := "StopIteration") (b := true) ⟨o', ho', hcl'⟩ isSubtype_stop ?_)
  exact wpAny_pure (hQ _ (ext_two (Heap.SameBut.update ..).extBut hk))
theorem next_wide_endC {it : Addr} {x : Str} {t : Tok} {i : Nat} {Q : Option Value → Shared → Prop} (hc : CalmL A s.heap as) (hI : it ∉ as)
    (hit : s.heap.IsStrIter it "str_iterator" x t i) (hx : x.cps[i]? = none)
    (hQ : ∀ h', Heap.ExtBut it s.heap h' → Q none { s with heap := h' }) : wpAny (model prog w) A (pyNext (.ref it)) Q E s := by
  obtain ⟨o, ho, hcl, hd⟩ := id hit
  unfold pyNext
  refine wpAny_bind (wpAny_attempt (wpAny_callSpecial?_slot (name := Str.ofString "__next__") hit.typeIs F.slot_str_iterator_next
    (wpAny_call_entry F.slot_str_iterator_next hit.typeIs F.entry_str_iterator_next ?_ (F.args_str_iterator_next_1 _))))
  show wpAny _ _ (field (.ref it) 0 >>= _) _ _ s
  refine wpAny_bind (wpAny_field ho hd (x := .str x t) rfl ?_)
  show wpAny _ _ (field (.ref it) 1 >>= _) _ _ s
  refine wpAny_bind (wpAny_field ho hd (x := .int i 0) rfl ?_)
  simp only [Int.toNat_natCast, hx]
  refine wpAny_bind (wpAny_rule (wpAny_bind (wpAny_setField ho hd (by simp) (wpAny_bind (wpAny_letGo ?_)))))
  show wpAny _ _ (newExc (.type "StopIteration") [] >>= _) _ _ _
  refine stop_raise (fun _ => rfl) (Calm.congr (A := A) (hc.upd hI (Heap.SameBut.update ..).extBut).calm rfl) fun h' e hk ⟨o', ho', hcl'⟩ => ?_
  refine wpAny_bind (wpAny_isInstance (T := "StopIteration") (b := true) ⟨o', ho', hcl'⟩ isSubtype_stop ?_)
  exact wpAny_pure (hQ _ (ext_two (Heap.SameBut.update ..).extBut hk))
end
end Mine

-- part H3
open PySem PySem.W PyProof.Rows PySem.Calls PySem.Builtin
set_option Elab.async false
set_option maxRecDepth 100000
set_option maxHeartbeats 8000000
namespace Mine
section
variable {prog : Program} {w : World} {A : Around} {E : Value → Shared → Prop} {s : Shared} {as : List Addr}
theorem CalmL.congr {B : Around} {h : Heap} (c : CalmL A h as) (e : B.handled = A.handled) : CalmL B h as := c.elim (fun q => .inl ⟨e.trans q.1, q.2⟩) fun ⟨a, r, q1, q2, x⟩ => .inr ⟨a, r, q1, e.trans q2, x⟩
theorem CalmL.off {h : Heap} (c : CalmL A h as) : h.objs.size ∉ as := fun q => by
  obtain ⟨o, ho⟩ := c.live _ q
  exact absurd (Heap.lt_size ho) (Nat.lt_irrefl _)
theorem walks_tupleC (I ax : Addr) (hne : ax ≠ I) (hI : I ∉ as) (items : Array Value) :
    Walks prog w A I (I :: ax :: as) [I] items.size (fun i v => items[i]? = some v) (fun i h => (h.IsTupleIter I ax i ∧ h.IsTuple ax items) ∧ CalmL A h as) where
  sub := fun b hb => by rw [List.mem_singleton.mp hb]; exact .head _
  frame := fun _ _ _ st hk => ⟨⟨st.1.1.at fun o e => hk I (.head _) o e, st.1.2.at fun o e => hk ax (.tail _ (.head _)) o e⟩, st.2.frame fun b hb o e => hk b (.tail _ (.tail _ hb)) o e⟩
  item := fun i s Q E hi st hQ => by
    refine wpAny_pyNext_tuple_item st.1.1 st.1.2 (x := items[i]) (by simp [hi]) fun h' hit' hs' => ?_
    exact hQ _ h' s.toks (by simp [hi]) ⟨⟨hit', st.1.2.extBut hs'.extBut hne⟩, st.2.upd hI hs'.extBut⟩ fun b o hb e => hs'.extBut b o (fun h => hb (by simp [h])) e
  done := fun s Q E st hQ => next_tuple_endC st.2 hI st.1.1 st.1.2 (by simp) fun h' he' => hQ h' s.toks fun b o hb e => he' b o (fun h => hb (by simp [h])) e
  self := fun _ _ _ _ st hQ => wpAny_pyIter_tupleiter st.1.1 hQ
theorem walks_asciiC (I : Addr) (hI : I ∉ as) (x : Str) (t : Tok) :
    Walks prog w A I (I :: as) [I] x.cps.size (SignAt x) (fun i h => h.IsStrIter I "str_ascii_iterator" x t i ∧ CalmL A h as) where
  sub := fun b hb => by rw [List.mem_singleton.mp hb]; exact .head _
  frame := fun _ _ _ st hk => ⟨let ⟨o, ho, r⟩ := st.1; ⟨o, hk I (.head _) o ho, r⟩, st.2.frame fun b hb o e => hk b (.tail _ hb) o e⟩
  item := fun i s Q E hi st hQ => by
    refine wpAny_pyNext_ascii_item st.1 (c := x.cps[i]) (by simp [hi]) fun h' hit' hs' => ?_
    exact hQ _ h' (s.toks + 1) ⟨_, _, by simp [hi], rfl⟩ ⟨hit', st.2.upd hI hs'.extBut⟩ fun b o hb e => hs'.extBut b o (fun h => hb (by simp [h])) e
  done := fun s Q E st hQ => next_ascii_endC st.2 hI st.1 (by simp) fun h' he' => hQ h' s.toks fun b o hb e => he' b o (fun h => hb (by simp [h])) e
  self := fun _ _ _ _ st hQ => wpAny_pyIter_striter_ascii st.1 hQ
theorem walks_wideC (I : Addr) (hI : I ∉ as) (x : Str) (t : Tok) :
    Walks prog w A I (I :: as) [I] x.cps.size (SignAt x) (fun i h => h.IsStrIter I "str_iterator" x t i ∧ CalmL A h as) where
  sub := fun b hb => by rw [List.mem_singleton.mp hb]; exact .head _
  frame := fun _ _ _ st hk => ⟨let ⟨o, ho, r⟩ := st.1; ⟨o, hk I (.head _) o ho, r⟩, st.2.frame fun b hb o e => hk b (.tail _ hb) o e⟩
  item := fun i s Q E hi st hQ => by
    refine wpAny_pyNext_wide_item st.1 (c := x.cps[i]) (by simp [hi]) fun h' hit' hs' => ?_
    exact hQ _ h' (s.toks + 1) ⟨_, _, by simp [hi], rfl⟩ ⟨hit', st.2.upd hI hs'.extBut⟩ fun b o hb e => hs'.extBut b o (fun h => hb (by simp [h])) e
  done := fun s Q E st hQ => next_wide_endC st.2 hI st.1 (by simp) fun h' he' => hQ h' s.toks fun b o hb e => he' b o (fun h => hb (by simp [h])) e
  self := fun _ _ _ _ st hQ => wpAny_pyIter_striter_wide st.1 hQ
theorem iter_strC {x : Str} {t : Tok} {Q : Value → Shared → Prop} (hc : CalmL A s.heap as)
    (hQ : ∀ (o : Obj) (St : Nat → Heap → Prop), Walks prog w A s.heap.objs.size (s.heap.objs.size :: as) [s.heap.objs.size] x.cps.size (SignAt x) St → St 0 (s.heap.push o) → (∀ i h, St i h → ∀ b ∈ s.heap.objs.size :: as, ∃ o, h.get? b = some o) →
      Q (.ref s.heap.objs.size) { s with heap := s.heap.push o }) : wpAny (model prog w) A (pyIter (.str x t)) Q E s := by
  have hc' : ∀ o, CalmL A (s.heap.push o) as := fun o => hc.keeps fun b o' e => Heap.get?_push_of_some _ e
  cases ha : x.cps.all (· < 128)
  · exact wpAny_pyIter_wide ha (hQ _ _ (walks_wideC _ hc.off x t) ⟨⟨_, Heap.get?_push_size _ rfl, rfl, rfl⟩, hc' _⟩ fun i h st b hb => by
      rcases List.mem_cons.mp hb with rfl | hb
      · obtain ⟨o, ho, _⟩ := st.1; exact ⟨o, ho⟩
      · exact st.2.live b hb)
  · exact wpAny_pyIter_ascii ha (hQ _ _ (walks_asciiC _ hc.off x t) ⟨⟨_, Heap.get?_push_size _ rfl, rfl, rfl⟩, hc' _⟩ fun i h st b hb => by
      rcases List.mem_cons.mp hb with rfl | hb
      · obtain ⟨o, ho, _⟩ := st.1; exact ⟨o, ho⟩
      · exact st.2.live b hb)
/-- a tuple unpacked, whatever is handled -/
theorem unpackItemsC {t : Addr} {items : Array Value} {Q : List Value → Shared → Prop} (hc : CalmL A s.heap as) (ht : s.heap.IsTuple t items)
    (hQ : ∀ h', Heap.ExtBut s.heap.objs.size s.heap h' → Q items.toList { s with heap := h' }) : wpAny (model prog w) A (unpackItems (.ref t) items.size none) Q E s := by
  have hlt : t ≠ s.heap.objs.size := by obtain ⟨o, ho, _⟩ := ht; exact Nat.ne_of_lt (Heap.lt_size ho)
  unfold unpackItems
  refine wpAny_bind ?_
  · unfold notIterableAtAll
    refine wpAny_bind (wpAny_specialOf ht.typeIs F.slot_tuple_iter.lookup ?_)
    refine wpAny_pure ?_
    simp only [Bool.false_eq_true, if_false]
    refine wpAny_bind (wpAny_holding (wpAny_pyIter_tuple ht ?_))
    refine wpAny_bind (wpAny_holding (wpAny_draw_tuple hlt items.size 0 _ _ ⟨_, Heap.get?_push_size _ rfl, rfl, rfl⟩ (ht.push _) (by omega) fun h₁ hit₁ hs₁ => ?_))
    have hall : List.take items.size (List.drop 0 items.toList) = items.toList := by
      rw [List.drop_zero]; exact List.take_of_length_le (by simp)
    rw [hall]
    rw [if_neg (by simp)]
    have ht₁ : h₁.IsTuple t items := (ht.push _).extBut hs₁.extBut hlt
    have hc₁ : CalmL A h₁ as := hc.frame fun b hb o e => hs₁.extBut b o (fun q => hc.off (q ▸ hb)) (Heap.get?_push_of_some _ e)
    refine wpAny_bind (wpAny_holding (next_tuple_endC (s := { s with heap := h₁ }) hc₁ hc.off hit₁ ht₁ (by simp) fun h₂ he₂ => ?_))
    simp only [Option.isSome_none, Bool.false_eq_true, if_false]
    refine wpAny_pure (hQ h₂ fun b o hb e => he₂ b o hb (hs₁.extBut b o hb (Heap.get?_push_of_some _ e)))
theorem assign_TupleC {env : Env} {elts : List Expr} {x1} {pos : Pos} {t : Addr} {items : Array Value} {Q : Unit → Shared → Prop} (hc : CalmL A s.heap as) (ht : s.heap.IsTuple t items)
    (hn : (assignEach elts env).length = items.size) (hstar : (assignEach elts env).findIdx? (·.1) = none)
    (h : ∀ h', Heap.ExtBut s.heap.objs.size s.heap h' → wpAny (model prog w) A (assignInOrder ((assignEach elts env).map (·.2)) items.toList) Q E { s with heap := h' }) :
    wpAny (model prog w) A (assign (.Tuple elts x1 pos) env (.ref t)) Q E s := by
  rw [arm_assign_Tuple]
  refine wpAny_bind (wpAny_standAt ?_)
  unfold unpack
  rw [hn, hstar]
  exact wpAny_bind (wpAny_holding (unpackItemsC hc ht h))
end
end Mine

-- part H4
open PySem PySem.W PyProof.Rows PySem.Calls PySem.Builtin
set_option Elab.async false
set_option maxRecDepth 100000
set_option maxHeartbeats 8000000
namespace Mine
section
variable {prog : Program} {w : World} {A : Around} {E : Value → Shared → Prop} {s : Shared} {as : List Addr}
theorem maxC {a b : Int} {t u : Tok} {Q : Value → Shared → Prop} (hc : CalmL A s.heap as)
    (h : ∀ h' tk, Keeps s.heap h' → Q (if b > a then .int b u else .int a t) { s with heap := h', toks := tk }) :
    wpAny (model prog w) A (call (.builtin "max") [.int a t, .int b u]) Q E s := by
  have hT : (s.heap.push { cls := .type "tuple", data := .seq #[.int a t, .int b u] }).IsTuple s.heap.objs.size (intItems #[(a, t), (b, u)]) := ⟨_, Heap.get?_push_size _ rfl, rfl, 0, by simp [intItems]⟩
  refine call_max_two (wpAny_pyIter_tuple hT ?_)
  have hsz : (s.heap.push { cls := .type "tuple", data := .seq #[.int a t, .int b u] }).objs.size = s.heap.objs.size + 1 := Heap.size_push ..
  have hcp : CalmL A.in1 (s.heap.push { cls := .type "tuple", data := .seq #[.int a t, .int b u] }) as := CalmL.congr (A := A) (hc.keeps fun b o e => Heap.get?_push_of_some _ e) rfl
  have hoff := hcp.off
  rw [hsz] at hoff
  refine ⟨_, _, [_], _, _, _, _, rfl, walks_tupleC (A := A.in1) (as := as) _ s.heap.objs.size (by rw [hsz]; exact Nat.ne_of_lt (Nat.lt_succ_self _)) (by rw [hsz]; exact hoff) (intItems #[(a, t), (b, u)]),
    ⟨⟨⟨_, Heap.get?_push_size _ rfl, rfl, rfl⟩, hT.push _⟩, hcp.keeps fun b o e => Heap.get?_push_of_some _ e⟩, fun c hc' => ?_, by simp [intItems], CmpOf.ints_gt (numAt #[(a, t), (b, u)]) (fun _ _ => intItems_at), fun v h' tk hP hk => ?_⟩
  · show c < ((s.heap.push _).push _).objs.size
    rw [Heap.size_push, hsz]
    rcases List.mem_cons.mp hc' with rfl | hc'
    · rw [hsz]; exact Nat.lt_succ_self _
    · rcases List.mem_cons.mp hc' with rfl | hc'
      · exact Nat.lt_succ_of_lt (Nat.lt_succ_self _)
      · obtain ⟨o, ho⟩ := hc.live _ hc'
        exact Nat.lt_succ_of_lt (Nat.lt_succ_of_lt (Heap.lt_size ho))
  · have hold : Keeps s.heap h' := fun c o e => by
      refine hk c o (fun hm => ?_) (Heap.get?_push_of_some _ (Heap.get?_push_of_some _ e))
      have e1 := List.mem_singleton.mp hm
      have := Heap.lt_size e; rw [e1, hsz] at this; exact Nat.lt_irrefl _ (Nat.lt_of_succ_lt this)
    have hv : v = if b > a then Value.int b u else Value.int a t := by
      have hP' : (intItems #[(a, t), (b, u)])[argBest (fun i j => decide (numAt #[(a, t), (b, u)] i > numAt #[(a, t), (b, u)] j)) 1]? = some v := by
        have hsz2 : (intItems #[(a, t), (b, u)]).size - 1 = 1 := by simp [intItems]
        rw [← hsz2]; exact hP
      by_cases hba : b > a
      · have e : argBest (fun i j => decide (numAt #[(a, t), (b, u)] i > numAt #[(a, t), (b, u)] j)) 1 = 1 := by simp [argBest, numAt, hba]
        rw [e] at hP'
        simpa [intItems, hba] using hP'.symm
      · have e : argBest (fun i j => decide (numAt #[(a, t), (b, u)] i > numAt #[(a, t), (b, u)] j)) 1 = 0 := by simp [argBest, numAt, hba]
        rw [e] at hP'
        simpa [intItems, hba] using hP'.symm
    rw [hv]; exact h h' tk hold
end
end Mine

-- part H5
open PySem PySem.W PyProof.Rows PySem.Calls PySem.Builtin
set_option Elab.async false
set_option maxRecDepth 100000
set_option maxHeartbeats 8000000
namespace Mine
section
variable {prog : Program} {w : World} {A : Around} {E : Value → Shared → Prop} {s : Shared} {env : Env} {h₀ : Heap} {L : Addr} {m : Str → Option Value} {news : List (Addr × Obj)} {as : List Addr}
theorem CalmL.of_fr (hc : CalmL A h₀ as) (F : Fr h₀ L s.heap m) : CalmL A s.heap as := hc.keeps F.keep
theorem ext_frN {h' : Heap} (F : Fr h₀ L s.heap m) (N : News h₀ L s.heap news) (x : Heap.ExtBut s.heap.objs.size s.heap h') : Fr h₀ L h' m ∧ News h₀ L h' news := by
  have hk : Keeps s.heap h' := fun b o e => x b o (Nat.ne_of_lt (Heap.lt_size e)) e
  exact ⟨F.keeps hk, N.grown hk⟩
/-- a made tuple unpacked, whatever is handled -/
theorem assignTN {elts : List Expr} {x1} {pos : Pos} {t : Addr} {items : Array Value} {n : Nat} {Q : Unit → Shared → Prop} (hc : CalmL A h₀ as) (F : Fr h₀ L s.heap m) (N : News h₀ L s.heap news) (hm : (t, ({ cls := .type "tuple", data := .seq items n } : Obj)) ∈ news)
    (h : ∀ h', Fr h₀ L h' m → News h₀ L h' news → wpAny (model prog w) A (assignInOrder ((assignEach elts env).map (·.2)) items.toList) Q E { s with heap := h' })
    (hn : (assignEach elts env).length = items.size) (hstar : (assignEach elts env).findIdx? (·.1) = none) :
    wpAny (model prog w) A (assign (.Tuple elts x1 pos) env (.ref t)) Q E s :=
  assign_TupleC (hc.of_fr F) ⟨_, (N _ hm).1, rfl, n, rfl⟩ hn hstar fun h' x => let ⟨F', N'⟩ := ext_frN F N x; h h' F' N'
theorem unpackIN {t : Addr} {items : Array Value} {n k : Nat} {Q : List Value → Shared → Prop} (hc : CalmL A h₀ as) (F : Fr h₀ L s.heap m) (N : News h₀ L s.heap news) (hm : (t, ({ cls := .type "tuple", data := .seq items n } : Obj)) ∈ news) (hn : k = items.size)
    (h : ∀ h', Fr h₀ L h' m → News h₀ L h' news → Q items.toList { s with heap := h' }) : wpAny (model prog w) A (unpackItems (.ref t) k none) Q E s := by
  subst hn
  exact unpackItemsC (hc.of_fr F) ⟨_, (N _ hm).1, rfl, n, rfl⟩ fun h' x => let ⟨F', N'⟩ := ext_frN F N x; h h' F' N'
theorem maxN {a b : Int} {t u : Tok} {Q : Value → Shared → Prop} (hc : CalmL A h₀ as) (F : Fr h₀ L s.heap m) (N : News h₀ L s.heap news)
    (h : ∀ h' tk t', Fr h₀ L h' m → News h₀ L h' news → Q (.int (if b > a then b else a) t') { s with heap := h', toks := tk }) :
    wpAny (model prog w) A (call (.builtin "max") [.int a t, .int b u]) Q E s :=
  maxC (hc.of_fr F) fun h' tk hk => by
    by_cases q : b > a
    · have := h h' tk u (F.keeps hk) (N.grown hk)
      rw [if_pos q] at this ⊢; exact this
    · have := h h' tk t (F.keeps hk) (N.grown hk)
      rw [if_neg q] at this ⊢; exact this
/-- a for over a text's signs, whatever is handled -/
theorem for_SC {body : List Stmt} {Q : Flow → Shared → Prop} {x nm : Str} {ps : Pos} {tx : Tok}
    (hc : CalmL A h₀ as) (F : Fr h₀ env.locals s.heap m) (N : News h₀ env.locals s.heap news)
    (J : Nat → (Str → Option Value) → List (Addr × Obj) → Prop) (hj : J 0 m news)
    (turn : ∀ i c t m₁ news₁ h tk own, x.cps[i]? = some c → J i m₁ news₁ → (∀ p ∈ own, ∀ q ∈ news₁, p.1 ≠ q.1) → Fr h₀ env.locals h m₁ → News h₀ env.locals h (news₁ ++ own) →
      wpAny (model prog w) A (assign (.Name nm ps) env (.str ⟨#[c]⟩ t)) (fun _ s₂ => wpAny (model prog w) A (execs body env) (TurnEndF h₀ env.locals own (J (i + 1)) s Q) E s₂) E { s with heap := h, toks := tk })
    (done : ∀ m₁ news₁ h tk, J x.length m₁ news₁ → Fr h₀ env.locals h m₁ → News h₀ env.locals h news₁ → Q .next { s with heap := h, toks := tk }) :
    wpAny (model prog w) A (pyIter (.str x tx)) (fun it s₂ => TurnsAt prog w A h₀ env (.Name nm ps) body Q E it s₂) E s := by
  refine iter_strC (hc.of_fr F) fun o St W hst hlive => ?_
  have W' := KTurns.ofWalks (target := .Name nm ps) W fun i v s Q E st q => wpAny_pure q
  refine turns_F (J := J) (s := { s with heap := _ }) W' W'.sub ?_ ?_ hlive ?_ hst (F.push _) (fun p hp => ⟨Heap.get?_push_of_some _ (N p hp).1, (N p hp).2⟩) hj ?_ (fun m₁ news₁ h tk hJ F' N' => done m₁ news₁ h tk hJ F' N')
  · intro hm
    rcases List.mem_cons.mp hm with e | hm
    · exact absurd F.ns.lt (e ▸ Nat.lt_irrefl _)
    · obtain ⟨o, ho⟩ := hc.live _ hm
      exact absurd (Nat.lt_of_lt_of_le (Heap.lt_size ho) F.above) (Nat.lt_irrefl _)
  · intro b hb
    rw [List.mem_singleton.mp hb]
    exact next_is_new F
  · intro p hp hI
    rcases List.mem_cons.mp hI with e | hI
    · exact absurd (Heap.lt_size (N p hp).1) (e ▸ Nat.lt_irrefl _)
    · obtain ⟨o, ho⟩ := hc.live _ hI
      rw [(N p hp).2.2] at ho; cases ho
  · rintro i v m₁ news₁ h tk own hin ⟨c, t, hcp, rfl⟩ hJ hoff hSt F' N'
    exact turn i c t m₁ news₁ h tk own hcp hJ hoff F' N'
end
end Mine

-- part S3
open PySem PySem.W PyProof.Rows PySem.Calls
set_option Elab.async false
set_option maxRecDepth 100000
set_option maxHeartbeats 8000000
set_option rowWalk.seconds 0
namespace Mine
theorem ok_iff {x : Str} : PyData.strOk x = true ↔ ∀ c ∈ lst x, c < 0x110000 := by
  unfold PyData.strOk lst
  rw [← Array.all_toList, List.all_eq_true]
  simp
theorem ok_append {x y : Str} (hx : PyData.strOk x = true) (hy : PyData.strOk y = true) : PyData.strOk (x ++ y) = true := by
  rw [ok_iff] at *
  rw [lst_append]
  exact fun c hc => (List.mem_append.mp hc).elim (hx c) (hy c)
theorem getD_ok {l : List Str} {i : Nat} {d : Str} (h : ∀ x ∈ l, PyData.strOk x = true) (hd : PyData.strOk d = true) : PyData.strOk (l.getD i d) = true := by
  rw [List.getD_eq_getElem?_getD]
  cases q : l[i]? with
  | none => exact hd
  | some x => exact h x (List.mem_of_getElem? q)
theorem c_piece {w : World} {A : Around} {s : Shared} {Q E : Value → Shared → Prop} {p : Program} {loose : List Str} {mg mb : Str → Option Value} {n : Int} {t : Tok}
    (X : (hd.heap_39 w.params).In s.heap) (T : TopRead p loose mg mb s.heap) (hroom : A.depth + 1 < recursionLimit)
    (h : ∀ x h' tk t', x.length ≤ 26 → PyData.strOk x = true → Keeps s.heap h' → Q (.str x t') { s with heap := h', toks := tk }) :
    wpAny (model PySem.Challenge.rw_dm0193_03.row.prog w) A (call (.ref 48) [.int n t]) Q E s := by
  k_with_none
  revert X; k_fill; intro X
  refine enterK (binds := [("m", .int n t)]) X T (by rfl) (by rfl) (by omega) (BindsTo.of_eq rfl) (locs rfl) ?_
  intro L h₁ F N
  w_strict (k_steps)
  exact h _ _ _ _ (getD_len (by decide) (by decide)) (getD_ok (by decide +kernel) (by decide +kernel)) (Fr.keep (by assumption))
theorem c_first {w : World} {A : Around} {s : Shared} {Q E : Value → Shared → Prop} {p : Program} {loose : List Str} {mg mb : Str → Option Value} {n : Int} {t : Tok}
    (X : (hd.heap_39 w.params).In s.heap) (T : TopRead p loose mg mb s.heap) (hroom : A.depth + 1 < recursionLimit)
    (h : ∀ x h' tk t', x.length ≤ 40 → PyData.strOk x = true → Keeps s.heap h' → Q (.str x t') { s with heap := h', toks := tk }) :
    wpAny (model PySem.Challenge.rw_dm0193_03.row.prog w) A (call (.ref 55) [.int n t]) Q E s := by
  k_with_none
  k_with "table" => skip
  revert X; k_fill; intro X
  refine enterK (binds := [("turn", .int n t)]) X T (by rfl) (by rfl) (by omega) (BindsTo.of_eq rfl) (locs rfl) ?_
  intro L h₁ F N
  w_strict (k_steps)
  all_goals first
    | exact h _ _ _ _ (getD_len (by decide) (by decide)) (getD_ok (by decide +kernel) (by decide +kernel)) (Fr.keep (by assumption))
    | exact h _ _ _ _ (by decide) (by decide +kernel) (Fr.keep (by assumption))
theorem c_place {w : World} {A : Around} {s : Shared} {Q E : Value → Shared → Prop} {p : Program} {loose : List Str} {mg mb : Str → Option Value} {x : Str} {n : Int} {t u : Tok}
    (X : (hd.heap_39 w.params).In s.heap) (T : TopRead p loose mg mb s.heap) (hroom : A.depth + 1 < recursionLimit) (hx : x.length ≤ 100000)
    (h : ∀ (r : Int) h' tk t', -(x.length : Int) - 5 ≤ r → r ≤ (x.length : Int) + 5 → Keeps s.heap h' → Q (.int r t') { s with heap := h', toks := tk }) :
    wpAny (model PySem.Challenge.rw_dm0193_03.row.prog w) A (call (.ref 69) [.str x u, .int n t]) Q E s := by
  k_with_none
  revert X; k_fill; intro X
  refine enterK (binds := [("doc", .str x u), ("m", .int n t)]) X T (by rfl) (by rfl) (by omega) (BindsTo.of_eq rfl) (locs rfl) ?_
  intro L h₁ F N
  w_strict (k_steps)
  · have b0 := Int.fmod_nonneg_of_pos (n.fdiv 40) (show (0 : Int) < (x.length : Int) + 5 by omega)
    have b1 := Int.fmod_lt_of_pos (n.fdiv 40) (show (0 : Int) < (x.length : Int) + 5 by omega)
    exact h _ _ _ _ (by omega) (by omega) (Fr.keep (by assumption))
  · have b0 := Int.fmod_nonneg_of_pos (n.fdiv 40) (show (0 : Int) < (x.length : Int) + 6 by omega)
    have b1 := Int.fmod_lt_of_pos (n.fdiv 40) (show (0 : Int) < (x.length : Int) + 6 by omega)
    exact h _ _ _ _ (by omega) (by omega) (Fr.keep (by assumption))
end Mine

-- part K3
open PySem PySem.W PyProof.Rows PySem.Calls PySem.Builtin PySem.Builtin.Str
set_option Elab.async false
set_option maxRecDepth 100000
set_option maxHeartbeats 8000000
set_option rowWalk.seconds 0
namespace Mine
theorem idx_hi {j : Int} {l : Option Int} {n : Nat} (h : (n : Int) ≤ j) : strSliceIndices l (some j) 1 n = strSliceIndices l (some (n : Int)) 1 n := by
  have a : ¬ (j < 0) := by omega
  have b : ¬ ((n : Int) < 0) := by omega
  have c : min j (n : Int) = n := by omega
  have d : min (n : Int) (n : Int) = n := by omega
  have e : (1 : Int) > 0 := by decide
  simp only [strSliceIndices, if_neg a, if_neg b, c, d, if_pos e]
theorem slice_hi {x : Str} {j : Int} {l : Option Int} (h : (x.length : Int) ≤ j) : Txt.slice x l (some j) = Txt.slice x l (some (x.length : Int)) := by
  unfold Txt.slice; rw [idx_hi h]
theorem slice_upto {x : Str} {j : Int} (h : 0 ≤ j) : lst (Txt.slice x none (some j)) = (lst x).take (min j.toNat x.length) := by
  by_cases q : j ≤ x.length
  · rw [slice_to h q, Nat.min_eq_left (by omega)]
  · rw [slice_hi (by omega), slice_to (by omega) (by omega), Nat.min_eq_right (by omega), Int.toNat_natCast]
/-- the locals of _law_walk -/
def mK (x : Str) (u : Tok) (pos : Int) (tp : Tok) (b : Int) (tb : Tok) (a : Int) (ta : Tok) (l : Int) (tl : Tok) (c : Int) (tc : Tok) (m' : Str → Option Value) : Str → Option Value :=
  fun z => if z = Str.ofString "doc" then some (.str x u) else if z = Str.ofString "place" then some (.int pos tp) else if z = Str.ofString "behind" then some (.int b tb) else
    if z = Str.ofString "ahead" then some (.int a ta) else if z = Str.ofString "line" then some (.int l tl) else if z = Str.ofString "column" then some (.int c tc) else m' z
theorem m_put6 {x1 x2 x3 x4 x5 x6 : Str} {m : Str → Option Value} {v1 v2 v3 v4 v5 v6 : Option Value} (h1 : m x1 = v1) (h2 : m x2 = v2) (h3 : m x3 = v3) (h4 : m x4 = v4) (h5 : m x5 = v5) (h6 : m x6 = v6) :
    m = fun y => if y = x1 then v1 else if y = x2 then v2 else if y = x3 then v3 else if y = x4 then v4 else if y = x5 then v5 else if y = x6 then v6 else m y := by
  funext z
  by_cases q1 : z = x1
  · rw [if_pos q1, q1, h1]
  by_cases q2 : z = x2
  · rw [if_neg q1, if_pos q2, q2, h2]
  by_cases q3 : z = x3
  · rw [if_neg q1, if_neg q2, if_pos q3, q3, h3]
  by_cases q4 : z = x4
  · rw [if_neg q1, if_neg q2, if_neg q3, if_pos q4, q4, h4]
  by_cases q5 : z = x5
  · rw [if_neg q1, if_neg q2, if_neg q3, if_neg q4, if_pos q5, q5, h5]
  by_cases q6 : z = x6
  · rw [if_neg q1, if_neg q2, if_neg q3, if_neg q4, if_neg q5, if_pos q6, q6, h6]
  rw [if_neg q1, if_neg q2, if_neg q3, if_neg q4, if_neg q5, if_neg q6]
def WkJ (x : Str) (u : Tok) (pos : Int) (tp : Tok) (b : Int) (tb : Tok) (a : Int) (ta : Tok) (i : Nat) (m : Str → Option Value) (news : List (Addr × Obj)) : Prop :=
  ∃ l tl c tc m', m = mK x u pos tp b tb a ta l tl c tc m' ∧ l = nlc (lst x) i + 1 ∧ c = colf (lst x) i ∧ news = []
theorem wk_fin {a : Addr} {h' : Heap} {l c l' c' : Int} {t1 t2 : Tok} (ho : h'.get? a = some { cls := .type "tuple", data := .seq #[.int l t1, .int c t2] }) (e1 : l = l') (e2 : c = c') :
    h'.get? a = some { cls := .type "tuple", data := .seq #[.int l' t1, .int c' t2] } := by subst e1 e2; exact ho
theorem one_nl (c : Nat) : ((⟨#[c]⟩ : Str) == Str.ofString "\n") = decide (c = 10) := by
  by_cases q : c = 10
  · subst q; decide
  · rw [decide_eq_false q]
    cases r : ((⟨#[c]⟩ : Str) == Str.ofString "\n") with
    | false => rfl
    | true =>
      have := congrArg lst (eq_of_beq r)
      rw [show lst (Str.ofString "\n") = [10] from lst_nl] at this
      exact absurd (by simpa [lst] using this) q
section
theorem c_walk {w : World} {A : Around} {s : Shared} {Q E : Value → Shared → Prop} {p : Program} {loose : List Str} {mg mb : Str → Option Value} {x : Str} {pos : Int} {t u : Tok} {as : List Addr}
    (X : (hd.heap_39 w.params).In s.heap) (T : TopRead p loose mg mb s.heap) (hroom : A.depth + 3 < recursionLimit) (hc : CalmL A s.heap as) (hx : x.length ≤ 100000) (hp0 : -200000 ≤ pos) (hp1 : pos ≤ 200000)
    (h : ∀ a h' tk t1 t2, Keeps s.heap h' → s.heap.get? a = none → h'.get? a = some { cls := .type "tuple", data := .seq #[.int (lnOf x pos) t1, .int (cnOf x pos) t2] } → Q (.ref a) { s with heap := h', toks := tk }) :
    wpAny (model PySem.Challenge.rw_dm0193_03.row.prog w) A (call (.ref 76) [.str x u, .int pos t]) Q E s := by
  k_with_none
  k_with "assign Tuple" => (refine assignTN (hcd _) (by with_reducible assumption) (by with_reducible assumption) (by k_mem) ?_ (by rfl) (by rfl); intro _ _ _)
  k_with "unpackItems ref" => (refine unpackIN (hcd _) (by with_reducible assumption) (by with_reducible assumption) (by k_mem) (by rfl) ?_; intro _ _ _)
  k_with "call builtin:max" => (refine maxN (hcd _) (by with_reducible assumption) (by with_reducible assumption) ?_; intro _ _ _ _ _)
  k_with "exec For Name Subscript cons nil" => ((rename Fr _ _ _ _ => lF'); (with_unfolding_all refine' For_turns lF' ?_))
  k_with "compareOp Eq str str" => (refine eq_strE (by with_reducible assumption) ?_)
  k_with "pyIter str" => (with_reducible refine stop ?_)
  revert X; k_fill; intro X
  refine enterK (binds := [("doc", .str x u), ("place", .int pos t)]) X T (by rfl) (by rfl) (by omega) (BindsTo.of_eq rfl) (locs rfl) ?_
  intro L h₁ F N
  have hcd : ∀ env, CalmL (A.deeper env) s.heap as := fun _ => hc.congr rfl
  w_strict (k_steps)
  · unfold Stop
    (rename Fr _ _ _ _ => F2)
    have hah : (0 : Int) ≤ pos := by omega
    refine for_SC (hcd _) F2 News.nil (WkJ x u pos t x.length _ pos _) ⟨_, _, _, _, _, m_put6 rfl rfl rfl rfl rfl rfl, rfl, rfl, rfl⟩ ?_ ?_
    · rintro i c tc m₁ news₁ h3 tk3 own hcp ⟨l, tl, cl, tcl, m', rfl, el, ec, rfl⟩ hoff F3 N3
      have hcs : (lst x)[i]? = some c := by
        have h1 : (lst (Txt.slice x none (some pos)))[i]? = some c := by rw [lst, Array.getElem?_toList]; exact hcp
        rw [slice_upto hah] at h1
        have hlt := (List.getElem?_eq_some_iff.mp h1).1
        rw [List.getElem?_take_of_lt (by simp at hlt; omega)] at h1
        exact h1
      have n1 := nlc_succ (lst x) i
      have n2 : colf (lst x) (i + 1) = if (lst x)[i]? = some 10 then 1 else colf (lst x) i + 1 := rfl
      have hi : i ≤ 100000 := by
        have := (List.getElem?_eq_some_iff.mp hcs).1
        rw [lst_len] at this; omega
      have n3 := nlc_le (lst x) i
      have n4 := colf_le (lst x) i
      have n5 := colf_pos (lst x) i
      have hone := one_nl c
      clear F2
      unfold mK at F3
      by_cases q : c = 10
      · rw [decide_eq_true q] at hone
        rw [hcs, q, if_pos rfl] at n1 n2
        w_strict (k_steps)
        (rename Fr _ _ _ _ => F4); (rename News _ _ _ _ => N4)
        exact ⟨_, _, _, [], rfl, F4, fun p hp => N4 p (by simp at hp; simp [hp]), (fun p hp q hq => nomatch hq), _, _, _, _, _, m_put6 rfl rfl rfl rfl rfl rfl, by omega, by omega, rfl⟩
      · rw [decide_eq_false q] at hone
        rw [hcs, if_neg (fun z => q (Option.some.inj z))] at n1 n2
        w_strict (k_steps)
        (rename Fr _ _ _ _ => F4); (rename News _ _ _ _ => N4)
        exact ⟨_, _, _, [], rfl, F4, fun p hp => N4 p (by simp at hp; simp [hp]), (fun p hp q hq => nomatch hq), _, _, _, _, _, m_put6 rfl rfl rfl rfl rfl rfl, by omega, by omega, rfl⟩
    · rintro m₁ news₁ h3 tk3 ⟨l, tl, cl, tcl, m', rfl, el, ec, rfl⟩ F3 N3
      show wpAny _ _ _ _ _ _
      have hyl : (Txt.slice x none (some pos)).length = min (pos).toNat x.length := by rw [← lst_len, slice_upto hah, List.length_take, lst_len]; omega
      rw [hyl] at el ec
      have e1 := ln_eq x pos
      have e2 := cn_eq x pos
      have e3 : hiOf x.length pos = min (pos).toNat x.length := by unfold hiOf; rw [if_neg (by omega)]; omega
      rw [e3] at e1 e2
      have n3 := nlc_le (lst x) (min (pos).toNat x.length)
      have n4 := colf_le (lst x) (min (pos).toNat x.length)
      have n5 := colf_pos (lst x) (min (pos).toNat x.length)
      clear F2
      unfold mK at F3
      w_strict (k_steps)
      all_goals
        (rename Fr _ _ _ _ => F4); (rename News _ _ _ _ => N4)
        refine h _ _ _ _ _ F4.keep (N4 _ (.head _)).2.2 (wk_fin (N4 _ (.head _)).1 ?_ ?_)
        · omega
        · omega
  · unfold Stop
    (rename Fr _ _ _ _ => F2)
    have hah : (0 : Int) ≤ (if (0 : Int) > (x.length : Int) + pos then 0 else (x.length : Int) + pos) := by split <;> omega
    refine for_SC (hcd _) F2 News.nil (WkJ x u pos t x.length _ (if (0 : Int) > (x.length : Int) + pos then 0 else (x.length : Int) + pos) _) ⟨_, _, _, _, _, m_put6 rfl rfl rfl rfl rfl rfl, rfl, rfl, rfl⟩ ?_ ?_
    · rintro i c tc m₁ news₁ h3 tk3 own hcp ⟨l, tl, cl, tcl, m', rfl, el, ec, rfl⟩ hoff F3 N3
      have hcs : (lst x)[i]? = some c := by
        have h1 : (lst (Txt.slice x none (some (if (0 : Int) > (x.length : Int) + pos then 0 else (x.length : Int) + pos))))[i]? = some c := by rw [lst, Array.getElem?_toList]; exact hcp
        rw [slice_upto hah] at h1
        have hlt := (List.getElem?_eq_some_iff.mp h1).1
        rw [List.getElem?_take_of_lt (by simp at hlt; omega)] at h1
        exact h1
      have n1 := nlc_succ (lst x) i
      have n2 : colf (lst x) (i + 1) = if (lst x)[i]? = some 10 then 1 else colf (lst x) i + 1 := rfl
      have hi : i ≤ 100000 := by
        have := (List.getElem?_eq_some_iff.mp hcs).1
        rw [lst_len] at this; omega
      have n3 := nlc_le (lst x) i
      have n4 := colf_le (lst x) i
      have n5 := colf_pos (lst x) i
      have hone := one_nl c
      clear F2
      unfold mK at F3
      by_cases q : c = 10
      · rw [decide_eq_true q] at hone
        rw [hcs, q, if_pos rfl] at n1 n2
        w_strict (k_steps)
        (rename Fr _ _ _ _ => F4); (rename News _ _ _ _ => N4)
        exact ⟨_, _, _, [], rfl, F4, fun p hp => N4 p (by simp at hp; simp [hp]), (fun p hp q hq => nomatch hq), _, _, _, _, _, m_put6 rfl rfl rfl rfl rfl rfl, by omega, by omega, rfl⟩
      · rw [decide_eq_false q] at hone
        rw [hcs, if_neg (fun z => q (Option.some.inj z))] at n1 n2
        w_strict (k_steps)
        (rename Fr _ _ _ _ => F4); (rename News _ _ _ _ => N4)
        exact ⟨_, _, _, [], rfl, F4, fun p hp => N4 p (by simp at hp; simp [hp]), (fun p hp q hq => nomatch hq), _, _, _, _, _, m_put6 rfl rfl rfl rfl rfl rfl, by omega, by omega, rfl⟩
    · rintro m₁ news₁ h3 tk3 ⟨l, tl, cl, tcl, m', rfl, el, ec, rfl⟩ F3 N3
      show wpAny _ _ _ _ _ _
      have hyl : (Txt.slice x none (some (if (0 : Int) > (x.length : Int) + pos then 0 else (x.length : Int) + pos))).length = min ((if (0 : Int) > (x.length : Int) + pos then 0 else (x.length : Int) + pos)).toNat x.length := by rw [← lst_len, slice_upto hah, List.length_take, lst_len]; omega
      rw [hyl] at el ec
      have e1 := ln_eq x pos
      have e2 := cn_eq x pos
      have e3 : hiOf x.length pos = min ((if (0 : Int) > (x.length : Int) + pos then 0 else (x.length : Int) + pos)).toNat x.length := by unfold hiOf; rw [if_pos (by omega)]; split <;> omega
      rw [e3] at e1 e2
      have n3 := nlc_le (lst x) (min ((if (0 : Int) > (x.length : Int) + pos then 0 else (x.length : Int) + pos)).toNat x.length)
      have n4 := colf_le (lst x) (min ((if (0 : Int) > (x.length : Int) + pos then 0 else (x.length : Int) + pos)).toNat x.length)
      have n5 := colf_pos (lst x) (min ((if (0 : Int) > (x.length : Int) + pos then 0 else (x.length : Int) + pos)).toNat x.length)
      clear F2
      unfold mK at F3
      w_strict (k_steps)
      all_goals
        (rename Fr _ _ _ _ => F4); (rename News _ _ _ _ => N4)
        refine h _ _ _ _ _ F4.keep (N4 _ (.head _)).2.2 (wk_fin (N4 _ (.head _)).1 ?_ ?_)
        · omega
        · omega
end
end Mine

-- part C3
open PySem PySem.W PyProof.Rows PySem.Calls PySem.Builtin PySem.Builtin.Str
set_option Elab.async false
set_option maxRecDepth 100000
set_option maxHeartbeats 8000000
set_option rowWalk.seconds 0
namespace Mine
/-- the cells, ready -/
def Cells (cs : List Int) : Prop := ∀ c ∈ cs, 0 ≤ c ∧ c < 1000000
def CeJ (C l : Addr) (i : Nat) (m : Str → Option Value) (news : List (Addr × Obj)) : Prop :=
  ∃ (cs : List Int) (us : List Value) (c : Nat) (m' : Str → Option Value), m = (fun z => if z = Str.ofString "cells" then some (.ref C) else if z = Str.ofString "script" then some (.ref l) else m' z) ∧ news = [(C, W.listOf us.toArray c)] ∧ IntsAre us cs ∧ cs.length = 3 + min i 9 ∧ Cells cs
section
theorem c_cells {w : World} {A : Around} {s : Shared} {Q E : Value → Shared → Prop} {p : Program} {loose : List Str} {mg mb : Str → Option Value} {l : Addr} {vs : List Value} {ns : List Int}
    (X : (hd.heap_39 w.params).In s.heap) (T : TopRead p loose mg mb s.heap) (hroom : A.depth + 3 < recursionLimit) (hh : A.handled = none) (hl : s.heap.IsList l vs.toArray) (hi : IntsAre vs ns)
    (h : ∀ a h' tk us cs c, Keeps s.heap h' → s.heap.get? a = none → h'.get? a = some (W.listOf us.toArray c) → IntsAre us cs → 3 ≤ cs.length → cs.length ≤ 12 → Cells cs → Q (.ref a) { s with heap := h', toks := tk }) :
    wpAny (model PySem.Challenge.rw_dm0193_03.row.prog w) A (call (.ref 62) [.ref l]) Q E s := by
  k_with_none
  k_with "exec For Tuple Call cons nil" => ((rename Fr _ _ _ _ => lF'); (with_unfolding_all refine' For_turns lF' ?_))
  k_with "call type:enumerate" => (with_reducible refine stop ?_)
  k_with "subscriptTail" => ((with_reducible show wpAny _ _ (subscriptTail _ _ (Value.ref _) (Value.int _ _)) _ _ _); (refine item_anyN (by with_reducible assumption) (by k_mem) (by with_reducible assumption) (by omega) (by omega) ?_))
  k_with "setItem ref int" => (with_reducible refine stop ?_)
  k_with "call builtin:list.append" => (refine appN (by with_reducible assumption) (by with_reducible assumption) (by k_mem) (by with_reducible assumption) (fun p hp => by simp [hp]) (by omega) ?_; intro _ _ _)
  obtain ⟨hd', dp, fr, gd, un⟩ := A
  dsimp only at hh hroom
  subst hh
  revert X; k_fill; intro X
  refine enterK (binds := [("script", .ref l)]) X T (by rfl) (by rfl) (by show dp < _; omega) (BindsTo.of_eq rfl) (locs rfl) ?_
  intro L h₁ F N
  have hlL : l ≠ L := by
    obtain ⟨o, ho, _⟩ := id hl
    exact Nat.ne_of_lt (Nat.lt_of_lt_of_le (Heap.lt_size ho) F.above)
  w_strict (k_steps)
  unfold Stop
  (rename Fr _ _ _ _ => F2); (rename News _ _ _ _ => N2)
  obtain ⟨C, rfl⟩ := nameHead N2
  have hlF : ∀ {h m}, Fr s.heap L h m → h.IsList l vs.toArray := fun F => hl.at fun o e => F.keep _ _ e
  refine for_E (vs := vs) rfl (hlF F2) hlL F2 N2 (CeJ C l) ⟨[3, 4017, 12345], _, _, _, m_put2 rfl rfl, rfl, IntsAre.cons _ _ (.cons _ _ (.cons _ _ .nil)), rfl, by unfold Cells; decide⟩ [C] (fun a ha => ?_) ?_ ?_
  · rw [List.mem_singleton.mp ha]
    obtain ⟨o, ho, _⟩ := id hl
    refine ⟨fun e => ?_, _, (N2 _ (.head _)).1⟩
    have := (N2 _ (.head _)).2.2
    rw [e, ho] at this; cases this
  · rintro i v m₁ news₁ h3 tk3 own TT t3 hv ⟨cs, us, c, m', rfl, rfl, hU, hlen, hC⟩ hoff hL3 hT F3 N3
    obtain ⟨n, tn, hn, rfl⟩ := Mine.IntsAre.at hi hv
    clear F2 N2
    have hul := hU.length
    have hall : ∀ p ∈ own, p.1 ≠ C := fun p hp => hoff p hp _ (.head _)
    have f0 := Int.fmod_nonneg_of_pos n (show (0 : Int) < 1000000 by decide)
    have f1 := Int.fmod_lt_of_pos n (show (0 : Int) < 1000000 by decide)
    by_cases hi9 : i < 9
    · w_strict (k_steps)
      (rename Fr _ _ _ _ => F4); (rename News _ _ _ _ => N4)
      rw [List.push_toArray] at N4
      refine ⟨_, _, _, [(C, W.listOf (us ++ [Value.int (n.fmod 1000000) _]).toArray (c + 1))], rfl, F4, N4, fun p hp => .inl ?_, cs ++ [n.fmod 1000000], _, _, _, m_put2 rfl rfl, rfl, ints_snoc hU, ?_, ?_⟩
      · rw [List.mem_singleton.mp hp]; simp
      · rw [List.length_append, hlen, List.length_singleton]; omega
      · intro d hd
        rcases List.mem_append.mp hd with hd | hd
        · exact hC d hd
        · rw [List.mem_singleton.mp hd]; exact ⟨f0, f1⟩
    · have g0 := Int.fmod_nonneg_of_pos (i : Int) (show (0 : Int) < 12 by decide)
      have g1 := Int.fmod_lt_of_pos (i : Int) (show (0 : Int) < 12 by decide)
      have hlt : ((i : Int).fmod 12).toNat < cs.length := by omega
      w_strict (k_steps)
      unfold Stop
      (rename Fr _ _ _ _ => F4); (rename News _ _ _ _ => N4)
      refine set_itemN F4 (rest := own) N4 hall (by omega) (by omega) (by omega) ?_
      intro h5 F5 N5
      w_strict (k_steps)
      have e0 := Int.fmod_nonneg_of_pos (cs.getD ((i : Int).fmod 12).toNat 0 * 31 + n) (show (0 : Int) < 1000000 by decide)
      have e1 := Int.fmod_lt_of_pos (cs.getD ((i : Int).fmod 12).toNat 0 * 31 + n) (show (0 : Int) < 1000000 by decide)
      refine ⟨_, _, _, [(C, W.listOf (us.set ((i : Int).fmod 12).toNat (Value.int ((cs.getD ((i : Int).fmod 12).toNat 0 * 31 + n).fmod 1000000) _)).toArray c)], rfl, F5, N5, fun p hp => .inl ?_, cs.set ((i : Int).fmod 12).toNat ((cs.getD ((i : Int).fmod 12).toNat 0 * 31 + n).fmod 1000000), _, _, _, m_put2 rfl rfl, rfl, ints_setAt hU _, ?_, ?_⟩
      · rw [List.mem_singleton.mp hp]; simp
      · rw [List.length_set]; omega
      · intro d hd
        rcases List.mem_or_eq_of_mem_set hd with hd | rfl
        · exact hC d hd
        · exact ⟨e0, e1⟩
  · rintro m₁ news₁ h3 tk3 ⟨cs, us, c, m', rfl, rfl, hU, hlen, hC⟩ F3 N3
    show wpAny _ _ _ _ _ _
    clear F2 N2
    w_strict (k_steps)
    exact h _ _ _ us cs c F3.keep (N3 _ (.head _)).2.2 (N3 _ (.head _)).1 hU (by omega) (by omega) hC
end
end Mine

-- part A3
open PySem PySem.W PyProof.Rows PySem.Calls PySem.Builtin PySem.Builtin.Str
set_option Elab.async false
set_option maxRecDepth 100000
set_option maxHeartbeats 8000000
set_option rowWalk.seconds 0
namespace Mine
section
local macro_rules | `(tactic| walk_at "subscriptTail Name Slice str ref") => `(tactic| ((with_reducible show wpAny _ _ (subscriptTail _ (Expr.Slice (some _) none none _) _ _) _ _ _); (with_reducible rename Fr _ _ _ _ => F'); (with_reducible rename News _ _ _ _ => N'); (refine sliceE_sn (hsz := ?hsz) (s := ⟨_, _, _, _, _⟩) F' N' (by assumption) ?_); (case hsz => first | assumption | omega); intro h' t' k' F' N'))
local macro_rules | `(tactic| walk_at "subscriptTail Name Slice str ref") => `(tactic| ((with_reducible show wpAny _ _ (subscriptTail _ (Expr.Slice none (some _) none _) _ _) _ _ _); (with_reducible rename Fr _ _ _ _ => F'); (with_reducible rename News _ _ _ _ => N'); (refine sliceE_ns (hsz := ?hsz) (s := ⟨_, _, _, _, _⟩) F' N' (by assumption) ?_); (case hsz => first | assumption | omega); intro h' t' k' F' N'))
theorem c_last {w : World} {A : Around} {s : Shared} {Q E : Value → Shared → Prop} {p : Program} {loose : List Str} {mg mb : Str → Option Value} {x mk a b : Str} {t u : Tok}
    (X : (hd.heap_39 w.params).In s.heap) (T : TopRead p loose mg mb s.heap) (hroom : A.depth + 3 < recursionLimit) (hx : x = a ++ mk ++ b) (hr : Txt.rfind x mk = a.length) (hl : x.length ≤ 1000000)
    (h : ∀ r h' tk t1 t2, Keeps s.heap h' → s.heap.get? r = none → h'.get? r = some { cls := .type "tuple", data := .seq #[.str a t1, .str b t2] } → Q (.ref r) { s with heap := h', toks := tk }) :
    wpAny (model PySem.Challenge.rw_dm0193_03.row.prog w) A (call (.ref 90) [.str x t, .str mk u]) Q E s := by
  k_with_none
  k_with "call builtin:str.rfind" => (refine call_rfindE (by with_reducible assumption) ?_)
  revert X; k_fill; intro X
  have hsl := sizeLine_eq
  have hlen : x.length = a.length + mk.length + b.length := by rw [hx, Str.length_append, Str.length_append]
  have s1 : Txt.slice x none (some (a.length : Int)) = a := slice_to_app (b := mk ++ b) (by rw [hx, Str.append_assoc]) rfl
  have s2 : Txt.slice x (some ((a.length : Int) + mk.length)) none = b := slice_from_app (a := a ++ mk) hx (by rw [Str.length_append]; omega)
  clear hx
  refine enterK (binds := [("words", .str x t), ("mark", .str mk u)]) X T (by rfl) (by rfl) (by omega) (BindsTo.of_eq rfl) (locs rfl) ?_
  intro L h₁ F N
  w_strict (k_steps)
  (rename Fr _ _ _ _ => F9); (rename News _ _ _ _ => N9)
  exact h _ _ _ _ _ F9.keep (N9 _ (.head _)).2.2 (N9 _ (.head _)).1
end
end Mine

-- part P3
open PySem PySem.W PyProof.Rows PySem.Calls PySem.Builtin PySem.Builtin.Str
set_option Elab.async false
set_option maxRecDepth 100000
set_option maxHeartbeats 8000000
namespace Mine
/-- a step of the row: a text and a place in it; the words of its error -/
abbrev Stp := Str × Int
def lnS (q : Stp) : Int := lnOf q.1 q.2
def cnS (q : Stp) : Int := cnOf q.1 q.2
def wd (m : Str) (q : Stp) : Str := wordsOf m (lnS q) (cnS q) q.2
def finalW (m : Str) (qs : List Stp) : Str := qs.foldl wd m
theorem finalW_snoc (m : Str) (qs : List Stp) (q : Stp) : finalW m (qs ++ [q]) = wd (finalW m qs) q := by simp [finalW]
theorem finalW_cons (m : Str) (q : Stp) (qs : List Stp) : finalW m (q :: qs) = finalW (wd m q) qs := rfl
structure StepOk (q : Stp) : Prop where
  len : q.1.length ≤ 100000
  lo : -200000 ≤ q.2
  hi : q.2 ≤ 200000
theorem log_md {x : Int} (h1 : -1000000 ≤ x) (h2 : x ≤ 1000000) : x.natAbs.log2 < 1920 := shown (N := 10 ^ 100) (by omega) (by omega) (by decide +kernel)
theorem StepOk.ln {q : Stp} (h : StepOk q) : 1 ≤ lnS q ∧ lnS q ≤ 100001 := by
  unfold lnS
  rw [ln_eq]
  have h1 := nlc_le (lst q.1) (hiOf q.1.length q.2)
  have h2 := hiOf_le q.1.length q.2
  have := h.len
  omega
theorem StepOk.cn {q : Stp} (h : StepOk q) : -1000000 ≤ cnS q ∧ cnS q ≤ 1000000 := by
  unfold cnS
  rw [cn_eq]
  have h1 := colf_le (lst q.1) (hiOf q.1.length q.2)
  have h3 := colf_pos (lst q.1) (hiOf q.1.length q.2)
  have h2 := hiOf_le q.1.length q.2
  have := h.len
  have := h.lo
  have := h.hi
  omega
theorem StepOk.l1 {q : Stp} (h : StepOk q) : (lnS q).natAbs.log2 < 1920 := log_md (by have := h.ln; omega) (by have := h.ln; omega)
theorem StepOk.l2 {q : Stp} (h : StepOk q) : (cnS q).natAbs.log2 < 1920 := log_md h.cn.1 h.cn.2
theorem StepOk.l3 {q : Stp} (h : StepOk q) : q.2.natAbs.log2 < 1920 := log_md (by have := h.lo; omega) (by have := h.hi; omega)
theorem wd_len {q : Stp} (h : StepOk q) (m : Str) : (wd m q).length ≤ m.length + 6100 ∧ m.length + 23 ≤ (wd m q).length := by
  unfold wd
  rw [words_eq]
  have b1 := intS_len h.l1
  have b2 := intS_len h.l2
  have b3 := intS_len h.l3
  simp only [Str.length_append, len_L, len_O, len_C, len_E]
  omega
theorem finalW_len : ∀ (qs : List Stp) (m : Str), (∀ q ∈ qs, StepOk q) → (finalW m qs).length ≤ m.length + 6100 * qs.length
  | [], m, _ => by simp [finalW]
  | q :: qs, m, h => by
    rw [finalW_cons]
    have h1 := finalW_len qs (wd m q) fun z hz => h z (.tail _ hz)
    have h2 := (wd_len (h q (.head _)) m).1
    simp only [List.length_cons]
    omega
/-- the words less their last sign, and the last mark in them -/
theorem rfind_C' (msg : Str) (l c p : Int) : Txt.rfind ((msg ++ mkL ++ intS l ++ mkO ++ intS c) ++ mkC ++ intS p) mkC = (msg ++ mkL ++ intS l ++ mkO ++ intS c).length := by
  refine rfind_mid rfl lst_C (by rw [lst_C]; intro i h1 h2 h3; simp only [List.length_cons, List.length_nil] at h2; rcases i with _ | _ | _ | _ | _ | _ | i <;> first | (exfalso; lia) | simp_all) ?_ ?_
  · have := intS_head (k := 40) (by decide) p []; simpa using this
  · exact intS_free (by decide) _
theorem words_init (msg : Str) (l c p : Int) : Txt.slice (wordsOf msg l c p) none (some (-1)) = (msg ++ mkL ++ intS l ++ mkO ++ intS c) ++ mkC ++ intS p :=
  slice_init_app (b := mkE) (by rw [words_eq, Str.append_assoc _ (intS p), Str.append_assoc]) (by rw [len_E]; rfl) (by decide)
theorem words_last (msg : Str) (l c p : Int) : Txt.slice (wordsOf msg l c p) (some (-1)) none = mkE :=
  slice_last_app (a := (msg ++ mkL ++ intS l ++ mkO ++ intS c) ++ mkC ++ intS p) (by rw [words_eq, Str.append_assoc _ (intS p), Str.append_assoc]) (by rw [len_E]; rfl) (by decide)
end Mine

-- part A3b
open PySem PySem.W PyProof.Rows PySem.Calls PySem.Builtin PySem.Builtin.Str
set_option Elab.async false
set_option maxRecDepth 100000
set_option maxHeartbeats 8000000
set_option rowWalk.seconds 0
namespace Mine
/-- a tuple of three texts -/
abbrev tup3 (a b c : Str) (t1 t2 t3 : Tok) : Obj := { cls := .type "tuple", data := .seq #[.str a t1, .str b t2, .str c t3] }
/-- a value that is the told triple of a step -/
def TriAt (os : List (Addr × Obj)) (q : Stp) (v : Value) : Prop := ∃ a t1 t2 t3, v = .ref a ∧ (a, tup3 (intS (lnS q)) (intS (cnS q)) (intS q.2) t1 t2 t3) ∈ os
def Tris (os : List (Addr × Obj)) (qs : List Stp) (us : List Value) : Prop := us.length = qs.length ∧ ∀ (k : Nat) (v : Value) (q : Stp), us[k]? = some v → qs[k]? = some q → TriAt os q v
theorem TriAt.sub {os os' : List (Addr × Obj)} {q : Stp} {v : Value} (h : TriAt os q v) (hs : ∀ p ∈ os, p ∈ os') : TriAt os' q v := let ⟨a, t1, t2, t3, e, m⟩ := h; ⟨a, t1, t2, t3, e, hs _ m⟩
theorem Tris.sub {os os' : List (Addr × Obj)} {qs : List Stp} {us : List Value} (h : Tris os qs us) (hs : ∀ p ∈ os, p ∈ os') : Tris os' qs us := ⟨h.1, fun k v q a b => (h.2 k v q a b).sub hs⟩
theorem Tris.snoc {os : List (Addr × Obj)} {qs : List Stp} {us : List Value} {q : Stp} {v : Value} (h : Tris os qs us) (hv : TriAt os q v) : Tris os (qs ++ [q]) (us ++ [v]) := by
  refine ⟨by simp [h.1], fun k v' q' a b => ?_⟩
  by_cases hk : k < us.length
  · rw [List.getElem?_append_left hk] at a
    rw [List.getElem?_append_left (by rw [← h.1]; exact hk)] at b
    exact h.2 k v' q' a b
  · have e : k = us.length := by
      have := (List.getElem?_eq_some_iff.mp a).1
      simp at this; omega
    subst e
    have e1 : v = v' := by simpa using a
    have e2 : q = q' := by rw [h.1] at b; simpa using b
    subst e1 e2; exact hv
theorem Tris.rev {os : List (Addr × Obj)} {qs : List Stp} {us : List Value} (h : Tris os qs us) : Tris os qs.reverse us.reverse := by
  refine ⟨by simp [h.1], fun k v q a b => ?_⟩
  have hk : k < us.length := by have := (List.getElem?_eq_some_iff.mp a).1; simpa using this
  rw [List.getElem?_reverse hk] at a
  rw [List.getElem?_reverse (by rw [← h.1]; exact hk)] at b
  rw [← h.1] at b
  exact h.2 _ v q a b
def ApJ (f : Str) (qs : List Stp) (n : Nat) (R : Addr) (i : Nat) (m : Str → Option Value) (news : List (Addr × Obj)) : Prop :=
  ∃ (ws : Str) (tw : Tok) (us : List Value) (c : Nat) (os : List (Addr × Obj)) (m' : Str → Option Value), m = (fun z => if z = Str.ofString "words" then some (.str ws tw) else if z = Str.ofString "row" then some (.ref R) else m' z) ∧
    news = (R, W.listOf us.toArray c) :: os ∧ ws = finalW f (qs.take (n - i)) ∧ Tris os (qs.drop (n - i)).reverse us ∧ ∀ p ∈ os, p.1 ≠ R
theorem ap_step {qs : List Stp} {n i : Nat} (hn : qs.length = n) (hi : i < n) : ∃ q, qs[n - i - 1]? = some q ∧ q ∈ qs ∧ qs.take (n - i) = qs.take (n - (i + 1)) ++ [q] ∧ (qs.drop (n - (i + 1))).reverse = (qs.drop (n - i)).reverse ++ [q] := by
  obtain ⟨j, rfl⟩ : ∃ j, n = j + 1 + i := ⟨n - i - 1, by omega⟩
  have hlt : j < qs.length := by omega
  rw [show j + 1 + i - i - 1 = j by omega, show j + 1 + i - i = j + 1 by omega, show j + 1 + i - (i + 1) = j by omega]
  refine ⟨qs[j], List.getElem?_eq_getElem hlt, List.getElem_mem hlt, ?_, ?_⟩
  · rw [List.take_add_one, List.getElem?_eq_getElem hlt]; rfl
  · rw [List.drop_eq_getElem_cons hlt, List.reverse_cons]
section
local macro_rules | `(tactic| walk_at "subscriptTail Name Slice str ref") => `(tactic| ((with_reducible show wpAny _ _ (subscriptTail _ (Expr.Slice (some _) none none _) _ _) _ _ _); (with_reducible rename Fr _ _ _ _ => F'); (with_reducible rename News _ _ _ _ => N'); (refine sliceE_sn (hsz := ?hsz) (s := ⟨_, _, _, _, _⟩) F' N' (by assumption) ?_); (case hsz => first | assumption | omega); intro h' t' k' F' N'))
local macro_rules | `(tactic| walk_at "subscriptTail Name Slice str ref") => `(tactic| ((with_reducible show wpAny _ _ (subscriptTail _ (Expr.Slice none (some _) none _) _ _) _ _ _); (with_reducible rename Fr _ _ _ _ => F'); (with_reducible rename News _ _ _ _ => N'); (refine sliceE_ns (hsz := ?hsz) (s := ⟨_, _, _, _, _⟩) F' N' (by assumption) ?_); (case hsz => first | assumption | omega); intro h' t' k' F' N'))
theorem c_apart {w : World} {A : Around} {s : Shared} {Q E : Value → Shared → Prop} {p : Program} {loose : List Str} {mg mb : Str → Option Value} {f : Str} {qs : List Stp} {n : Nat} {t u : Tok}
    (X : (hd.heap_39 w.params).In s.heap) (T : TopRead p loose mg mb s.heap) (hroom : A.depth + 6 < recursionLimit) (hh : A.handled = none) (hq : ∀ q ∈ qs, StepOk q) (hf : f.length ≤ 100) (hn : qs.length = n) (hn12 : n ≤ 12)
    (h : ∀ r h' tk t1 R us c os, Keeps s.heap h' → (∀ p ∈ (r, ({ cls := .type "tuple", data := .seq #[.str f t1, .ref R] } : Obj)) :: (R, W.listOf us.toArray c) :: os, s.heap.get? p.1 = none ∧ h'.get? p.1 = some p.2) → Tris os qs us → Q (.ref r) { s with heap := h', toks := tk }) :
    wpAny (model PySem.Challenge.rw_dm0193_03.row.prog w) A (call (.ref 97) [.str (finalW f qs) t, .int n u]) Q E s := by
  k_with_none
  k_with "exec For Name Call cons nil" => ((rename Fr _ _ _ _ => lF'); (with_unfolding_all refine' For_turns lF' ?_))
  k_with "pyIter ref" => (with_reducible refine stop ?_)
  k_with "call ref" => (with_reducible refine stop ?_)
  k_with "compareOp NotEq str str" => (refine ne_strE (by with_reducible assumption) ?_)
  k_with "call builtin:list.append" => (refine appN (by with_reducible assumption) (by with_reducible assumption) (by k_mem) (by with_reducible assumption) (by with_reducible assumption) (by omega) ?_; intro _ _ _)
  obtain ⟨hd', dp, fr, gd, un⟩ := A
  dsimp only at hh hroom
  subst hh
  revert X; k_fill; intro X
  refine enterK (binds := [("words", .str (finalW f qs) t), ("count", .int n u)]) X T (by rfl) (by rfl) (by show dp < _; omega) (BindsTo.of_eq rfl) (locs rfl) ?_
  intro L h₁ F N
  w_strict (k_steps)
  unfold Stop
  (rename Fr _ _ _ _ => F2); (rename News _ _ _ _ => N2); (rename IsRange _ _ _ _ _ _ _ _ => R2)
  obtain ⟨R, rfl⟩ := nameHead N2
  refine for_RF (n := n) rfl R2 (small_one (by omega) (by omega) (by omega) (by omega)) (by unfold Builtin.Range.rangeSize; rw [if_pos (by decide)]; split <;> omega) F2 N2 (ApJ f qs n R) ?_ ?_ ?_
  · refine ⟨_, _, [], _, [], _, m_put2 rfl rfl, rfl, ?_, ?_, fun p hp => nomatch hp⟩
    · rw [Nat.sub_zero, ← hn, List.take_length]
    · rw [Nat.sub_zero, ← hn, List.drop_length]
      exact ⟨rfl, fun k v q a b => by simp at a⟩
  · rintro i ti m₁ news₁ h3 tk3 own hin ⟨ws, tw, us, c, os, m', rfl, rfl, hws, hT, hne⟩ hoff F3 N3
    obtain ⟨q, hq1, hqm, hq2, hq3⟩ := ap_step hn hin
    have hok := hq q hqm
    rw [hq2, finalW_snoc] at hws
    obtain ⟨m0, hm0⟩ : ∃ m0, m0 = finalW f (qs.take (n - (i + 1))) := ⟨_, rfl⟩
    have hl0 : m0.length ≤ 80000 := by
      have h1 := finalW_len (qs.take (n - (i + 1))) f fun z hz => hq z (List.mem_of_mem_take hz)
      have h2 := List.length_take_le (n - (i + 1)) qs
      rw [← hm0] at h1
      omega
    rw [← hm0] at hws
    have hwl := (wd_len hok m0).1
    unfold wd at hws hwl
    rw [← hws] at hwl
    have hsl := sizeLine_eq
    have s1 : Txt.slice ws (some (-1)) none = mkE := by rw [hws]; exact words_last _ _ _ _
    have s2 : Txt.slice ws none (some (-1)) = (m0 ++ mkL ++ intS (lnS q) ++ mkO ++ intS (cnS q)) ++ mkC ++ intS q.2 := by rw [hws]; exact words_init _ _ _ _
    have e1 : (mkE != Str.ofString ")") = false := by decide
    have b1 := intS_len hok.l1
    have b2 := intS_len hok.l2
    have b3 := intS_len hok.l3
    clear F2 N2 R2 hws
    have z1 : (m0 ++ mkL ++ intS (lnS q)).length = m0.length + 7 + (intS (lnS q)).length := by simp only [Str.length_append, len_L]
    have z2 : (m0 ++ mkL ++ intS (lnS q) ++ mkO ++ intS (cnS q)).length = m0.length + 7 + (intS (lnS q)).length + 8 + (intS (cnS q)).length := by simp only [Str.length_append, len_L, len_O]
    have z3 : ((m0 ++ mkL ++ intS (lnS q) ++ mkO ++ intS (cnS q)) ++ mkC ++ intS q.2).length = m0.length + 7 + (intS (lnS q)).length + 8 + (intS (cnS q)).length + 7 + (intS q.2).length := by simp only [Str.length_append, len_L, len_O, len_C]
    have hul : us.length ≤ 12 := by rw [hT.1, List.length_reverse, List.length_drop]; omega
    w_strict (k_steps)
    unfold Stop
    (rename Fr _ _ _ _ => F4); (rename News _ _ _ _ => N4)
    refine c_last (X.keeps F4.keep) (T.keeps F4.keep) (by simp only [depth_deeper]; omega) rfl (rfind_C' _ _ _ _) (by omega) ?_
    intro r1 h5 tk5 t51 t52 hk5 hf5 hg5
    obtain ⟨F5, N5, hn5⟩ := N_add F4 N4 hk5 hf5 hg5
    clear F4 N4 F3 N3 hk5 hf5 hg5
    w_strict (k_steps)
    unfold Stop
    (rename Fr _ _ _ _ => F6); (rename News _ _ _ _ => N6)
    refine c_last (X.keeps F6.keep) (T.keeps F6.keep) (by simp only [depth_deeper]; omega) rfl (rfind_O _ _ _) (by omega) ?_
    intro r2 h7 tk7 t71 t72 hk7 hf7 hg7
    obtain ⟨F7, N7, hn7⟩ := N_add F6 N6 hk7 hf7 hg7
    clear F6 N6 hk7 hf7 hg7
    w_strict (k_steps)
    unfold Stop
    (rename Fr _ _ _ _ => F8); (rename News _ _ _ _ => N8)
    refine c_last (X.keeps F8.keep) (T.keeps F8.keep) (by simp only [depth_deeper]; omega) rfl (rfind_L _ _) (by omega) ?_
    intro r3 h9 tk9 t91 t92 hk9 hf9 hg9
    obtain ⟨F9, N9, hn9⟩ := N_add F8 N8 hk9 hf9 hg9
    clear F8 N8 hk9 hf9 hg9
    w_strict (k_steps)
    (rename Fr _ _ _ _ => F10); (rename News _ _ _ _ => N10); (rename (_ < _ ∧ _ < _ ∧ _ < _ ∧ AllLt _ _) => l10)
    obtain ⟨Dt, rfl⟩ := nameHead N10
    have hlt := lt_all _ l10.2.2.2
    have hall : ∀ p ∈ (Dt, tup3 (intS (lnS q)) (intS (cnS q)) (intS q.2) t92 t72 t52) :: (os ++ own), p.1 ≠ R := fun p hp => by
      rcases List.mem_cons.mp hp with rfl | hp
      · exact Nat.ne_of_gt (hlt (R, W.listOf us.toArray c) (.head _))
      · rcases List.mem_append.mp hp with hp | hp
        · exact hne p hp
        · exact hoff p hp _ (.head _)
    refine appN F10 N10 (by k_mem) hall (fun p hp => ?_) (by omega) ?_
    · rcases List.mem_cons.mp hp with rfl | hp
      · exact .head _
      · exact .tail _ (.tail _ (.tail _ (.tail _ (.tail _ hp))))
    intro h11 F11 N11
    w_strict (k_steps)
    refine ⟨_, _, _, (R, W.listOf (us ++ [Value.ref Dt]).toArray (c + 1)) :: (Dt, tup3 (intS (lnS q)) (intS (cnS q)) (intS q.2) t92 t72 t52) :: os, rfl, F11, N11, ?_, _, _, us ++ [Value.ref Dt], c + 1, _, _, m_put2 rfl rfl, rfl, hm0, ?_, fun p hp => ?_⟩
    · intro p hp z hz
      rcases List.mem_cons.mp hz with rfl | hz
      · exact hoff p hp (R, W.listOf us.toArray c) (.head _)
      · rcases List.mem_cons.mp hz with rfl | hz
        · exact Nat.ne_of_lt (hlt p (.tail _ (List.mem_append_right _ hp)))
        · exact hoff p hp z (.tail _ hz)
    · rw [hq3]
      exact (hT.sub fun p hp => .tail _ hp).snoc ⟨_, _, _, _, rfl, .head _⟩
    · rcases List.mem_cons.mp hp with rfl | hp
      · exact hall _ (.head _)
      · exact hne p hp
  · rintro m₁ news₁ h3 tk3 ⟨ws, tw, us, c, os, m', rfl, rfl, hws, hT, hne⟩ F3 N3
    show wpAny _ _ _ _ _ _
    rw [Nat.sub_self, List.take_zero] at hws
    rw [Nat.sub_self, List.drop_zero] at hT
    have hul : us.length ≤ 12 := by rw [hT.1, List.length_reverse]; omega
    clear F2 N2 R2
    w_strict (k_steps)
    (rename Fr _ _ _ _ => F4); (rename News _ _ _ _ => N4)
    rw [krv_pick, show us.toArray.toList = us from rfl] at N4
    have hT2 := hT.rev
    rw [List.reverse_reverse] at hT2
    subst hws
    obtain ⟨Rv, hRv⟩ := nameHead (news_tail N4)
    rw [← hRv] at N4
    refine h _ _ _ tw Rv us.reverse 0 os F4.keep (fun p hp => ?_) hT2
    have := N4 p (by
      rcases List.mem_cons.mp hp with rfl | hp
      · exact .head _
      · rcases List.mem_cons.mp hp with rfl | hp
        · exact .tail _ (.head _)
        · exact .tail _ (.tail _ (.tail _ hp)))
    exact ⟨this.2.2, this.1⟩
end
end Mine

-- part Er3
open PySem PySem.W PyProof.Rows PySem.Calls
set_option Elab.async false
set_option maxRecDepth 100000
set_option maxHeartbeats 8000000
set_option rowWalk.seconds 0
namespace Mine
theorem errK (w : World) : ErrK (hd.heap_39 w.params) 38 where
  cls := ⟨_, rfl, rfl, rfl⟩
  sa := by rfl
  ga := by rfl
  hook := by rfl
  str := by rfl
  args := by rfl
  nmsg := by rfl
  ndoc := by rfl
  npos := by rfl
  nlin := by rfl
  ncol := by rfl
/-- a new error: nothing raised it yet -/
def ErrNew (w : World) (C : Addr) (os : List (Addr × Obj)) (e : Addr) (msg doc : Str) (pos ln cn : Int) (ws : Str) : Prop :=
  ∃ d t sl tw k1 k2 k3 k4 k5 t1 t2 t3 t4 t5,
    (e, (⟨.ref C, some d, .fields #[.ref t, .none, .none, .none, .bool false, .none], sl⟩ : Obj)) ∈ os ∧
    (t, ({ cls := .type "tuple", data := .seq #[.str ws tw] } : Obj)) ∈ os ∧
    (d, dictOf [ent w "msg" k1 (.str msg t1), ent w "doc" k2 (.str doc t2), ent w "pos" k3 (.int pos t3), ent w "lineno" k4 (.int ln t4), ent w "colno" k5 (.int cn t5)] 5) ∈ os
section
theorem c_init {w : World} {A : Around} {s : Shared} {Q E : Value → Shared → Prop} {p : Program} {loose : List Str} {mg mb : Str → Option Value} {g : Heap} {e t : Addr} {msg doc : Str} {pos : Int} {t1 t2 t3 : Tok}
    (hk : Keeps g s.heap) (hsz : g.objs.size ≤ s.heap.objs.size)
    (he : s.heap.get? e = some { cls := .ref 38, data := .fields #[.ref t, .none, .none, .none, .bool false, .none] }) (hge : g.get? e = none)
    (X : (hd.heap_39 w.params).In g) (T : TopRead p loose mg mb g) (hroom : A.depth + 1 < recursionLimit)
    (hm : msg.length ≤ 1000000) (hl : (cnt doc (Str.ofString "\n") pos + 1).natAbs.log2 < 1920) (hc : (pos - rfd doc (Str.ofString "\n") pos).natAbs.log2 < 1920) (hp : pos.natAbs.log2 < 1920)
    (h : ∀ h' tk os, Keeps g h' → (∀ p ∈ os, h'.get? p.1 = some p.2 ∧ g.get? p.1 = none) → ErrNew w 38 os e msg doc pos (lnOf doc pos) (cnOf doc pos) (wordsOf msg (lnOf doc pos) (cnOf doc pos) pos) → Q (.none) { s with heap := h', toks := tk }) :
    wpAny (model PySem.Challenge.rw_dm0193_03.row.prog w) A (call (.ref 28) [.ref e, .str msg t1, .str doc t2, .int pos t3]) Q E s := by
  k_with_none
  k_with "call builtin:str.count" => (refine call_count4 ?_)
  k_with "call builtin:str.rfind" => (refine call_rfind4 ?_)
  k_with "binaryOp Mod str ref" => (refine mod_words (News.isTup (by assumption) (by k_mem)) (by assumption) (by assumption) (by assumption) (by assumption) ?_; intro _ _)
  k_with "getMethod type:ValueError" => (refine method_vinit (K := hd.heap_39 _) (by assumption) (by assumption) ?_)
  k_with "call builtin:ValueError.__init__" => (refine vinitN (errK _) (by assumption) (by assumption) (by assumption) (by k_updF) ?_; intro _ _ _ _ l1; (try k_lt l1))
  k_with "setAttr ref" => (refine set_moreN (errK _) (by assumption) (by assumption) (by assumption) (by k_mem) (by k_updF) (by rfl) (by k_get) (Nat.le_of_ble_eq_true rfl) (by k_put) ?_; intro _ _ _)
  k_with "setAttr ref" => (refine set_firstN (errK _) (by assumption) (by assumption) (by assumption) (by k_updF) (by rfl) ?_; intro _ _ _ _ l1; (try k_lt l1))
  revert X; k_fill; intro X
  refine enterM (binds := [("self", .ref e), ("msg", .str msg t1), ("doc", .str doc t2), ("pos", .int pos t3)]) [(e, _)] g hk hsz (by intro q hq; cases hq with | head => exact ⟨he, hge⟩ | tail _ hq => cases hq) X T (by rfl) (by rfl) (by omega) (BindsTo.of_eq rfl) (locs rfl) ?_
  intro L h₁ F N hlt
  w_strict (k_steps)
  (rename News _ _ _ _ => N9)
  refine h _ _ _ (Fr.keep (by assumption)) (fun p hp => ⟨(N9 p hp).1, (N9 p hp).2.2⟩) ⟨_, _, _, _, _, _, _, _, _, _, _, _, _, _, (by k_mem), (by k_mem), (by k_mem)⟩
end

theorem ns_some_of {K : Frag} {h : Heap} {N : Addr} {mN : Str → Option Value} {n : Str} {v : Value} (X : K.In h) (G : h.Ns N mN) (e : nsIn K N n = some (some v)) : mN n = some v := by
  obtain ⟨o, es, ep, ho, hd, _, hf⟩ := G
  simp only [nsIn] at e
  split at e <;> try contradiction
  next q =>
    have hx := X _ _ q
    rw [ho] at hx
    injection hx with hx
    subst hx
    injection hd with h1 h2
    subst h1
    rw [← hf, nsFind, findBy, ← Array.find?_toList]
    split at e
    next en he => rw [he]; exact Option.some.inj e
    next => split at e <;> cases e

theorem c_make {w : World} {A : Around} {s : Shared} {Q E : Value → Shared → Prop} {p : Program} {loose : List Str} {mg mb : Str → Option Value} {msg doc : Str} {pos : Int} {t1 t2 t3 : Tok}
    (X : (hd.heap_39 w.params).In s.heap) (T : TopRead p loose mg mb s.heap) (hroom : A.depth + 2 < recursionLimit)
    (hm : msg.length ≤ 1000000) (hl : (lnOf doc pos).natAbs.log2 < 1920) (hc : (cnOf doc pos).natAbs.log2 < 1920) (hp : pos.natAbs.log2 < 1920)
    (h : ∀ h' tk e os, Keeps s.heap h' → (∀ p ∈ os, h'.get? p.1 = some p.2 ∧ s.heap.get? p.1 = none) → ErrNew w 38 os e msg doc pos (lnOf doc pos) (cnOf doc pos) (wordsOf msg (lnOf doc pos) (cnOf doc pos) pos) → Q (.ref e) { s with heap := h', toks := tk }) :
    wpAny (model PySem.Challenge.rw_dm0193_03.row.prog w) A (call (.ref 38) [.str msg t1, .str doc t2, .int pos t3]) Q E s := by
  have hC := X 38 _ rfl
  have hN : s.heap.Ns 37 _ := .of_isNs (isNs_of_in X (by kernel_rfl))
  have hi : s.heap.nsMap 37 "__init__" = some (.ref 28) := ns_some_of X hN (by kernel_rfl)
  refine wpAny_call_exc_init (h := s.heap) PySem.F.excBase_ValueError hC hN hi (X 28 _ rfl) rfl (fun h' e hm' => ?_)
  obtain ⟨hk, hne, t, het, _⟩ := hm'
  have hkg : Keeps s.heap (hideAll h' [e]) := of_hide_base hk (by intro a ha; rw [List.mem_singleton.mp ha]; exact hne)
  refine c_init (g := hideAll h' [e]) (fun b o q => of_hideAll _ q) (by rw [hideAll_size]; exact Nat.le_refl _) het (hideAll_none _ (by simp)) (X.keeps hkg) (T.keeps hkg) (by rw [depth_under_make]; omega) hm hl hc hp (fun h'' tk os k1 k2 k3 => ⟨rfl, ?_⟩)
  refine h h'' tk e os (fun b o q => k1 _ _ (hkg _ _ q)) (fun p hp => ⟨(k2 p hp).1, ?_⟩) k3
  cases q : s.heap.get? p.1 with
  | none => rfl
  | some o => have := hkg _ _ q; rw [(k2 p hp).2] at this; cases this
end Mine

-- part R3a
open PySem PySem.W PyProof.Rows PySem.Calls PySem.Builtin
set_option Elab.async false
set_option maxRecDepth 100000
set_option maxHeartbeats 8000000
namespace Mine
/-- the namespaces of frames -/
abbrev frs (l : List Env) : List Addr := l.filterMap (·.frame)
abbrev noHeap : Heap := hideAll default []
theorem mapFields_eq {o : Obj} {vs : Array Value} (hd : o.data = .fields vs) (f : Array Value → Array Value) : Obj.mapFields f o = { o with data := .fields (f vs) } := by
  obtain ⟨c, d, dt, sl⟩ := o
  dsimp only at hd
  subst hd
  rfl
/-- what is handled, as a context -/
def ctxV (A : Around) : Value := A.handled.getD .none
section
variable {prog : Program} {w : World} {A : Around} {E : Value → Shared → Prop} {s : Shared} {env : Env} {g : Heap}
theorem raiseNew_ctx {α : Type} {e : Addr} {o : Obj} {vs : Array Value} {Q : α → Shared → Prop} (hc : Calm A g) (hk : Keeps g s.heap) (he : g.get? e = none) (ho : s.heap.get? e = some o) (hd : o.data = .fields vs) (h2 : vs[2]? = some .none)
    (h : ∀ h', Heap.SameBut e s.heap h' → h'.get? e = some { o with data := .fields (vs.setIfInBounds 2 (ctxV A)) } → E (.ref e) { s with heap := h' }) :
    wpAny (model prog w) A (raiseNew (.ref e) : Sem α) Q E s := by
  have hz : 2 < vs.size := (Array.getElem?_eq_some_iff.mp h2).1
  unfold raiseNew
  refine wpAny_bind (wpAny_handled ?_)
  rcases hc with hn | ⟨a, n, hn, hx⟩
  · rw [hn]
    refine wpAny_bind (wpAny_pure (wpAny_throw (h _ (Heap.SameBut.refl _ _) ?_)))
    have e1 : vs.setIfInBounds 2 (ctxV A) = vs := by
      unfold ctxV; rw [hn]
      apply Array.ext
      · simp
      · intro i h1 h3
        rw [Array.getElem_setIfInBounds]
        split
        · next q => subst q; exact (Option.some.inj ((Array.getElem?_eq_getElem hz).symm.trans h2)).symm
        · rfl
    rw [e1, ho, ← hd]
  · rw [hn]
    have hae : a ≠ e := fun q => by
      obtain ⟨o, ho⟩ := hx.live
      rw [q, he] at ho; cases ho
    dsimp only
    rw [if_pos (by show (!(Value.ref a == Value.ref e)) = true; rw [ref_ne hae]; rfl)]
    refine wpAny_bind (wpAny_holding (wpAny_runValue (unchain hk he ?_ n a a n false (Nat.le_refl _) hx hx)))
    refine wpAny_bind ?_
    show wpAny _ _ (updateField e 2 (Value.ref a)) _ _ _
    refine wpAny_setField (a := e) (i := 2) ho hd hz ?_
    refine wpAny_throw (h _ (Heap.SameBut.update ..) ?_)
    rw [Heap.get?_update_self _ ho (Obj.isFreed_of_fields (Obj.data_mapFields hd _)), mapFields_eq hd]
    unfold ctxV; rw [hn]; rfl
/-- what `raise` asks of the value -/
def RaiseEnd (K : Frag) (C : Addr) (A : Around) (E : Value → Shared → Prop) (v : Value) (s₁ : Shared) : Prop :=
  ∃ x o oC vs g, v = .ref x ∧ K.In s₁.heap ∧ s₁.heap.get? C = some oC ∧ oC.cls = .type "type" ∧ Calm A g ∧ Keeps g s₁.heap ∧ g.get? x = none ∧ s₁.heap.get? x = some o ∧ o.cls = .ref C ∧ o.data = .fields vs ∧ vs[1]? = some .none ∧ vs[2]? = some .none ∧
      ∀ h', Heap.SameBut x s₁.heap h' → h'.get? x = some { o with data := .fields (vs.setIfInBounds 2 (ctxV A)) } → E (.ref x) { s₁ with heap := h' }
/-- `raise X(..)` of the own class -/
theorem Raise_err {K : Frag} {C : Addr} {ex : Expr} {pos : Pos} {Q : Flow → Shared → Prop} (H : ErrK K C)
    (h : wpAny (model prog w) A (eval ex env) (RaiseEnd K C A E) E s) :
    wpAny (model prog w) A (exec (.Raise (some ex) none pos) env) Q E s := by
  show wpAny (model prog w) A (do standAt pos; raiseStmt env (some (do let v ← eval ex env; standAt pos; pure v)) none) Q E s
  refine wpAny_bind (wpAny_standAt ?_)
  unfold raiseStmt
  dsimp only
  refine wpAny_bind (wpAny_bind (wpAny_mono h (fun v s₁ h₁ => wpAny_bind (wpAny_standAt (wpAny_pure ?_))) fun _ _ x => x))
  obtain ⟨x, o, oC, vs, g, rfl, X, hC, hCc, hcalm, hk, hgx, ha, hcls, hd, h1, h2, hE⟩ := h₁
  have hnt : ∀ {Q' : Bool → Shared → Prop}, Q' false s₁ → wpAny (model prog w) A (isType (.ref x)) Q' E s₁ := by
    intro Q' hq
    simp only [isType, loadHead]
    refine wpAny_bind (wpAny_loadPart ha ?_)
    rw [hd]; exact wpAny_pure hq
  refine wpAny_bind (wpAny_pure ?_)
  dsimp only
  refine wpAny_bind (wpAny_holding ?_)
  unfold excFromValue isExcClass
  refine wpAny_bind (wpAny_bind (hnt ?_))
  simp only [Bool.false_eq_true, if_false]
  refine wpAny_pure ?_
  simp only [Bool.false_eq_true, if_false]
  have LI : Looks (model prog w) s₁.heap (isInstance (.ref x) (.type "BaseException")) true := H.inst X ha hcls (.type "BaseException")
  refine wpAny_bind (LI.at ?_)
  simp only [if_true]
  refine wpAny_pure ?_
  refine wpAny_bind (hnt ?_)
  simp only [Bool.false_eq_true, if_false]
  unfold raisedInstance
  have LT : Looks (model prog w) s₁.heap (typeOf (.ref x)) (.ref C) := hcls ▸ looks_cls ha
  have LC : Looks (model prog w) s₁.heap (typeOf (.ref C)) (.type "type") := hCc ▸ looks_cls hC
  refine wpAny_bind (wpAny_bind (LT.at (wpAny_bind (LC.at ?_))))
  rw [if_pos (by decide)]
  refine wpAny_pure ?_
  unfold setFlight
  refine wpAny_bind (wpAny_bind (wpAny_field ha hd h1 ?_))
  rw [if_neg (by decide)]
  exact wpAny_pure (raiseNew_ctx hcalm hk hgx ha hd h2 hE)
end
end Mine

-- part R3b
open PySem PySem.W PyProof.Rows PySem.Calls PySem.Builtin
set_option Elab.async false
set_option maxRecDepth 100000
set_option maxHeartbeats 8000000
namespace Mine
/-- all stands but e and the frames' slots -/
structure Noted (S : List Addr) (e : Addr) (h h' : Heap) : Prop where
  keep : ∀ b o, h.get? b = some o → b ∉ S → b ≠ e → h'.get? b = some o
  slots : ∀ b o, h.get? b = some o → (∀ vs, o.data ≠ .fields vs) → ∃ sl, h'.get? b = some { o with slots := sl }
/-- the same, but for the frame at L too -/
structure NotedL (S : List Addr) (L e : Addr) (h h' : Heap) : Prop where
  keep : ∀ b o, h.get? b = some o → b ∉ S → b ≠ e → h'.get? b = some o
  slots : ∀ b o, h.get? b = some o → b ≠ L → (∀ vs, o.data ≠ .fields vs) → ∃ sl, h'.get? b = some { o with slots := sl }
section
variable {prog : Program} {w : World} {A : Around} {E : Value → Shared → Prop} {s : Shared} {env : Env} {outer : List Env} {L e : Addr} {oe : Obj} {vs : Array Value} {base : Heap}
/-- the first entry of a traceback -/
theorem note_first {Q : Unit → Shared → Prop} (hfr : A.frames = some (env :: outer)) (hl : s.heap.FunFrames base (env :: outer)) (hf : env.frame = some L) (he : s.heap.get? e = some oe) (hd : oe.data = .fields vs) (h1 : vs[1]? = some .none)
    (h : ∀ h' T oT ts, Noted (frs (env :: outer)) e s.heap h' → s.heap.get? T = none → T ≠ e → h'.get? e = some { oe with data := .fields (vs.setIfInBounds 1 (.ref T)) } → h'.get? T = some oT → oT.data = .fields ts → 3 < ts.size → Q () { s with heap := h' }) :
    wpAny (model prog w) A (noteFrame (.ref e) env) Q E s := by
  have hsz : 1 < vs.size := (Array.getElem?_eq_some_iff.mp h1).1
  have hene : e ∉ (env :: outer).filterMap (·.frame) := fun hm => by
    obtain ⟨_, o, ho, hnf⟩ := hl.mem hm
    rw [he] at ho; injection ho with ho; subst ho; exact hnf vs hd
  unfold noteFrame
  simp only [hf]
  refine wpAny_bind (wpAny_field he hd h1 ?_)
  rw [if_neg (by decide)]
  refine wpAny_bind (wpAny_frameOf_fun hfr hl hf fun h₁ hs₁ => ?_)
  refine wpAny_bind (wpAny_entryPlaceOf fun pl hpl => ?_)
  unfold EntryCells.newEntry newFields
  refine wpAny_bind (wpAny_newObj_type ?_ (hpl.sizeOk5 _ _ _ _ _))
  have he₁ : h₁.get? e = some oe := (hs₁.2.1 e hene).trans he
  have he₂ := Heap.get?_push_of_some (h := h₁) { cls := .type "traceback", dict := none, data := .fields ([Value.none, .ref L, .none, rawInt L, .none] ++ (if pl.isEmpty then List.replicate 6 Value.none else pl)).toArray } he₁
  refine wpAny_setField he₂ hd hsz ?_
  have hTe : h₁.objs.size ≠ e := Nat.ne_of_gt (Heap.lt_size he₁)
  have hT₃ := (Heap.get?_update_other (h₁.push { cls := .type "traceback", dict := none, data := .fields ([Value.none, .ref L, .none, rawInt L, .none] ++ (if pl.isEmpty then List.replicate 6 Value.none else pl)).toArray })
    (Obj.mapFields (·.setIfInBounds 1 (Value.ref h₁.objs.size))) (Ne.symm hTe)).trans (Heap.get?_push_size h₁ rfl)
  refine h _ h₁.objs.size _ _ ⟨fun b o hb hS hbe => ?_, fun b o hb hnf => ?_⟩ (Heap.get?_none_of_le (Nat.le_of_eq hs₁.1.symm)) hTe ?_ hT₃ rfl (by simp only [List.size_toArray, List.length_append, List.length_cons, List.length_nil] <;> omega)
  · rw [Heap.get?_update_other _ _ (Ne.symm hbe)]
    exact Heap.get?_push_of_some _ ((hs₁.2.1 b hS).trans hb)
  · obtain ⟨sl, hs⟩ := hs₁.2.2 b o hb
    have hbe : b ≠ e := fun q => by rw [q, he] at hb; injection hb with hb; subst hb; exact hnf vs hd
    refine ⟨sl, ?_⟩
    rw [Heap.get?_update_other _ _ (Ne.symm hbe)]
    exact Heap.get?_push_of_some _ hs
  · rw [Heap.get?_update_self _ he₂ (Obj.isFreed_of_fields (Obj.data_mapFields hd _)), mapFields_eq hd]
/-- the flight of a noted exception ends -/
theorem flight_off {Q : Unit → Shared → Prop} {T : Addr} {oT : Obj} {ts : Array Value} (he : s.heap.get? e = some oe) (hd : oe.data = .fields vs) (h1 : vs[1]? = some (.ref T)) (hT : s.heap.get? T = some oT) (hdT : oT.data = .fields ts) (h3 : 3 < ts.size)
    (h : ∀ h', Heap.SameBut T s.heap h' → (∃ oT' ts', h'.get? T = some oT' ∧ oT'.data = .fields ts' ∧ 3 < ts'.size) → Q () { s with heap := h' }) : wpAny (model prog w) A (setFlight (.ref e) none) Q E s := by
  unfold setFlight
  refine wpAny_bind (wpAny_field he hd h1 ?_)
  rw [if_pos (show (Value.ref T != Value.none) = true from by simp)]
  refine wpAny_setField hT hdT h3 (h _ (Heap.SameBut.update ..) ⟨_, _, Heap.get?_update_self _ hT (Obj.isFreed_of_fields (Obj.data_mapFields hdT _)), Obj.data_mapFields hdT _, by simp [h3]⟩)
end
section
variable {w : World} {A : Around} {E : Value → Shared → Prop} {s : Shared} {outer : List Env} {L a e : Addr} {oe : Obj} {vs : Array Value} {base g : Heap} {m : Str → Option Value} {qual : Str} {scope : Scope} {cd : Value} {p : Program} {loose : List Str} {mg mb : Str → Option Value}
/-- an error of the own class raised in this frame and caught here, by its base's name -/
theorem catch_here {n : Str} {np pos : Pos} {b₀ : Stmt} {suite : List Stmt} {Q : Flow → Shared → Prop} (hfr : A.frames = some (envOf qual scope L a cd :: outer)) (hl : s.heap.FunFrames base (envOf qual scope L a cd :: outer))
    (he : s.heap.get? e = some oe) (hcls : oe.cls = .ref 38) (hde : oe.data = .fields vs) (h1 : vs[1]? = some .none)
    (F : Fr g L s.heap m) (hgS : ∀ b ∈ frs (envOf qual scope L a cd :: outer), g.get? b = none) (hge : g.get? e = none) (X : (hd.heap_39 w.params).In g) (T : TopRead p loose mg mb g)
    (k : ∀ h' tk Tb oT (E' : Value → Shared → Prop), NotedL (frs (envOf qual scope L a cd :: outer)) L e s.heap h' → s.heap.get? Tb = none → h'.get? Tb = some oT → h'.get? e = some { oe with data := .fields (vs.setIfInBounds 1 (.ref Tb)) } → Fr g L h' (fun y => if y = n then some (.ref e) else m y) →
      wpAny (model PySem.Challenge.rw_dm0193_03.row.prog w) (A.mark (some (.ref e))) (execs (b₀ :: suite) (envOf qual scope L a cd))
        (fun f s₄ => wpAny (model PySem.Challenge.rw_dm0193_03.row.prog w) A (do bindName (envOf qual scope L a cd) n .none; unbindBehindTheSuite (envOf qual scope L a cd) n pos) (fun _ s₅ => Q f s₅) E s₄) E' { s with heap := h', toks := tk })
    (hk : scope.kind = .function := by rfl) (hlo : (envOf qual scope L a cd).kindOf n = some .local := by rfl) (hx : (envOf qual scope L a cd).kindOf (Str.ofString "ValueError") = some .globalImplicit := by rfl) :
    wpAny (model PySem.Challenge.rw_dm0193_03.row.prog w) A (noteFrame (.ref e) (envOf qual scope L a cd))
      (fun _ s₂ => wpAny (model PySem.Challenge.rw_dm0193_03.row.prog w) A (setFlight (.ref e) none) (fun _ s₃ =>
        wpAny (model PySem.Challenge.rw_dm0193_03.row.prog w) A (handleBy (.ref e) (envOf qual scope L a cd) [.ExceptHandler (some (.Name (Str.ofString "ValueError") np)) (some n) (b₀ :: suite) pos]) Q E s₃) E s₂) E s := by
  have hLm : L ∈ frs (envOf qual scope L a cd :: outer) := List.mem_filterMap.mpr ⟨_, .head _, rfl⟩
  refine note_first hfr hl rfl he hde h1 fun h₂ Tb oT ts hN hTb hTe he₂ hT₂ hdT h3 => ?_
  have hz : 1 < vs.size := (Array.getElem?_eq_some_iff.mp h1).1
  have F₂ : Fr g L h₂ m := by
    refine ⟨?_, fun b o q => hN.keep b o (F.keep b o q) (fun hS => by rw [hgS b hS] at q; cases q) (fun z => by rw [z, hge] at q; cases q), F.above⟩
    obtain ⟨oL, es, ep, hL, hdL, r⟩ := F.ns
    obtain ⟨sl, hs⟩ := hN.slots L oL hL fun vs q => by rw [hdL] at q; cases q
    exact ⟨_, es, ep, hs, hdL, r⟩
  have hgT : g.get? Tb = none := by
    cases q : g.get? Tb with
    | none => rfl
    | some o => have := F.keep _ _ q; rw [hTb] at this; cases this
  have hTL : L ≠ Tb := fun q => by
    obtain ⟨oL, es, ep, hL, _⟩ := F.ns
    rw [q, hTb] at hL; cases hL
  have step : ∀ {h₃ h₄ : Heap}, Heap.SameBut Tb h₃ h₄ → Fr g L h₃ m → Fr g L h₄ m := fun hs F => F.change hs (Ne.symm hTL) hgT
  refine flight_off (s := { s with heap := h₂ }) he₂ rfl (by simp [hz]) hT₂ hdT h3 fun h₃ hs₃ ⟨oT₃, ts₃, hT₃, hdT₃, h3₃⟩ => ?_
  have F₃ := step hs₃ F₂
  have he₃ := (hs₃.2 e (Ne.symm hTe)).trans he₂
  have hC := X 38 _ rfl
  refine wpAny_handleBy_cons (codeAny_handlers_test (name_B (s := { s with heap := h₃ }) F₃ X T (by kernel_rfl) (v := .type "ValueError") (by first | exact PyProof.Rows.boot_ValueError | kernel_rfl) (by decide +kernel) ?_ hk hx (by decide))) (by intro q; cases q)
  show wpAny _ _ _ _ _ ⟨h₃, s.gens, s.drawn, s.toks, s.os⟩
  refine wpAny_excMatches_sub_type (F₃.keep _ _ hC) he₃ hcls (by rw [isSubtype_type]; kernel_rfl) (by rw [isSubtype_type]; kernel_rfl) ?_
  refine codeAny_handlers_suite_as ?_
  refine flight_off (s := { s with heap := h₃ }) he₃ rfl (by simp [hz]) hT₃ hdT₃ h3₃ fun h₄ hs₄ ⟨oT₄, ts₄, hT₄, _, _⟩ => ?_
  have F₄ := step hs₄ F₃
  have he₄ := (hs₄.2 e (Ne.symm hTe)).trans he₃
  have heL : e ≠ L := fun q => by
    obtain ⟨oL, es, ep, hL, hdL, _⟩ := F.ns
    rw [← q, he] at hL; injection hL with hL; subst hL; rw [hde] at hdL; cases hdL
  refine wpAny_storeName_local hlo F₄.ns (fun h₅ hn₅ hs₅ => ?_) (by show (scope.kind == .class || (scope.kind == .module && L != mainGlobals)) = false; rw [hk]; rfl)
  refine k h₅ _ Tb oT₄ _ ⟨fun b o q hS hbe => ?_, fun b o q hbL hnf => ?_⟩ hTb ((hs₅.2 Tb (Ne.symm hTL)).trans hT₄) ((hs₅.2 e heL).trans he₄) (F₄.set hn₅ hs₅)
  · have hbT : b ≠ Tb := fun z => by rw [z, hTb] at q; cases q
    have hbL : b ≠ L := fun z => hS (z ▸ hLm)
    rw [hs₅.2 b hbL, hs₄.2 b hbT, hs₃.2 b hbT]
    exact hN.keep b o q hS hbe
  · have hbT : b ≠ Tb := fun z => by rw [z, hTb] at q; cases q
    obtain ⟨sl, hs⟩ := hN.slots b o q hnf
    refine ⟨sl, ?_⟩
    rw [hs₅.2 b hbL, hs₄.2 b hbT, hs₃.2 b hbT]
    exact hs
end
end Mine

-- part R3c
open PySem PySem.W PyProof.Rows PySem.Calls PySem.Builtin
set_option Elab.async false
set_option maxRecDepth 100000
set_option maxHeartbeats 8000000
namespace Mine
/-- the objects of the frames below -/
structure FrameL (h : Heap) (outer : List Env) (FL : List (Addr × Obj)) : Prop where
  adr : FL.map (·.1) = frs outer
  live : ∀ p ∈ FL, h.get? p.1 = some p.2
  nf : ∀ p ∈ FL, ∀ vs, p.2.data ≠ .fields vs
  kinds : ∀ env ∈ outer, env.scope.kind ≠ .module ∧ ∃ L, env.frame = some L
theorem funFrames_of {h base : Heap} : ∀ {l : List Env}, (∀ env ∈ l, env.scope.kind ≠ .module ∧ ∃ L o, env.frame = some L ∧ base.get? L = none ∧ h.get? L = some o ∧ ∀ vs, o.data ≠ .fields vs) → h.FunFrames base l
  | [], _ => trivial
  | env :: r, H => ⟨(H env (.head _)).1, (H env (.head _)).2, funFrames_of fun e he => H e (.tail _ he)⟩
theorem FrameL.mem {h : Heap} {outer : List Env} {FL : List (Addr × Obj)} (x : FrameL h outer FL) {b : Addr} (hb : b ∈ frs outer) : ∃ o, (b, o) ∈ FL := by
  rw [← x.adr] at hb
  obtain ⟨p, hp, rfl⟩ := List.mem_map.mp hb
  exact ⟨p.2, hp⟩
theorem FrameL.mem' {h : Heap} {outer : List Env} {FL : List (Addr × Obj)} (x : FrameL h outer FL) {p : Addr × Obj} (hp : p ∈ FL) : p.1 ∈ frs outer := by
  rw [← x.adr]; exact List.mem_map.mpr ⟨p, hp, rfl⟩
theorem FrameL.funF {h base : Heap} {outer : List Env} {FL : List (Addr × Obj)} (x : FrameL h outer FL) (hb : ∀ b ∈ frs outer, base.get? b = none) : h.FunFrames base outer :=
  funFrames_of fun env he => by
    obtain ⟨h1, L, hL⟩ := x.kinds env he
    have hm : L ∈ frs outer := List.mem_filterMap.mpr ⟨env, he, hL⟩
    obtain ⟨o, ho⟩ := x.mem hm
    exact ⟨h1, L, o, hL, hb L hm, x.live _ ho, x.nf _ ho⟩
/-- the frames' objects behind a change of slots -/
theorem FrameL.moved {h h' : Heap} {outer : List Env} {FL : List (Addr × Obj)} (x : FrameL h outer FL) (hs : ∀ b ∈ frs outer, ∀ o, h.get? b = some o → ∃ sl, h'.get? b = some { o with slots := sl }) :
    ∃ FL', FrameL h' outer FL' ∧ ∀ p ∈ FL', ∃ q ∈ FL, p.1 = q.1 ∧ ∃ sl, p.2 = { q.2 with slots := sl } := by
  have key : ∀ l : List (Addr × Obj), (∀ p ∈ l, p ∈ FL) → ∃ l' : List (Addr × Obj), l'.map (·.1) = l.map (·.1) ∧ (∀ p ∈ l', h'.get? p.1 = some p.2) ∧ ∀ p ∈ l', ∃ q ∈ l, p.1 = q.1 ∧ ∃ sl, p.2 = { q.2 with slots := sl } := by
    intro l
    induction l with
    | nil => intro _; exact ⟨[], rfl, (fun p hp => nomatch hp), (fun p hp => nomatch hp)⟩
    | cons q r ih =>
      intro hl
      obtain ⟨l', a1, a2, a3⟩ := ih fun p hp => hl p (.tail _ hp)
      have hq := hl q (.head _)
      obtain ⟨sl, hsl⟩ := hs q.1 (x.mem' hq) q.2 (x.live q hq)
      refine ⟨(q.1, { q.2 with slots := sl }) :: l', by simp [a1], fun p hp => ?_, fun p hp => ?_⟩
      · rcases List.mem_cons.mp hp with rfl | hp
        · exact hsl
        · exact a2 p hp
      · rcases List.mem_cons.mp hp with rfl | hp
        · exact ⟨q, .head _, rfl, sl, rfl⟩
        · obtain ⟨z, hz, e⟩ := a3 p hp
          exact ⟨z, .tail _ hz, e⟩
  obtain ⟨l', a1, a2, a3⟩ := key FL fun p hp => hp
  refine ⟨l', ⟨a1.trans x.adr, a2, fun p hp vs q => ?_, x.kinds⟩, a3⟩
  obtain ⟨z, hz, _, sl, e⟩ := a3 p hp
  rw [e] at q
  exact x.nf z hz vs q
theorem CtxL.flds {h : Heap} : ∀ {as : List Addr}, CtxL h as → ∀ b ∈ as, ∃ o vs, h.get? b = some o ∧ o.data = .fields vs
  | _, .last e d v, b, hb => by rw [List.mem_singleton.mp hb]; exact ⟨_, _, e, d⟩
  | _, .more e d v r, b, hb => by
    rcases List.mem_cons.mp hb with rfl | hb
    · exact ⟨_, _, e, d⟩
    · exact r.flds b hb
theorem CalmL.flds {A : Around} {h : Heap} {as : List Addr} (c : CalmL A h as) : ∀ b ∈ as, ∃ o vs, h.get? b = some o ∧ o.data = .fields vs := fun b hb => by
  rcases c with ⟨_, e⟩ | ⟨a, r, e, q, x⟩
  · rw [e] at hb; cases hb
  · exact x.flds b hb
/-- the chain grows by the exception that is now handled -/
theorem CalmL.grow {A B : Around} {h : Heap} {as : List Addr} {e : Addr} {o : Obj} {vs : Array Value} (c : CalmL A h as) (hB : B.handled = some (.ref e)) (ho : h.get? e = some o) (hd : o.data = .fields vs) (h2 : vs[2]? = some (ctxV A)) : CalmL B h (e :: as) := by
  refine .inr ⟨e, as, rfl, hB, ?_⟩
  rcases c with ⟨q, rfl⟩ | ⟨a, r, rfl, q, x⟩
  · unfold ctxV at h2; rw [q] at h2; exact .last ho hd h2
  · unfold ctxV at h2; rw [q] at h2; exact .more ho hd h2 x
theorem ok_lit (z : String) : PyData.strOk (Str.ofString z) = true := by
  unfold PyData.strOk
  rw [← Array.all_toList, signs_ofString, List.all_eq_true]
  intro c hc
  obtain ⟨ch, _, rfl⟩ := List.mem_map.mp hc
  rw [decide_eq_true_eq]
  have := ch.valid
  rcases this with q | q
  · exact Nat.lt_trans q (by decide)
  · exact q.2
theorem ok_wd {msg : Str} (hm : PyData.strOk msg = true) (q : Stp) : PyData.strOk (wd msg q) = true := by
  unfold wd wordsOf
  exact ok_append (ok_append (ok_append (ok_append (ok_append (ok_append (ok_append hm (ok_lit _)) (ok_lit _)) (ok_lit _)) (ok_lit _)) (ok_lit _)) (ok_lit _)) (ok_lit _)
theorem fr_moved {g h h' : Heap} {L : Addr} {m : Str → Option Value} (F : Fr g L h m) (hk : ∀ b o, g.get? b = some o → h.get? b = some o → h'.get? b = some o) (hs : ∀ o, h.get? L = some o → ∃ sl, h'.get? L = some { o with slots := sl }) : Fr g L h' m := by
  refine ⟨?_, fun b o q => hk b o q (F.keep b o q), F.above⟩
  obtain ⟨oL, es, ep, hL, hd, r⟩ := F.ns
  obtain ⟨sl, hs'⟩ := hs oL hL
  exact ⟨_, es, ep, hs', hd, r⟩
/-- the tuple that is due for a step -/
abbrev due5 (m : Str) (q : Stp) (t1 t2 t3 t4 t5 : Tok) : Obj := { cls := .type "tuple", data := .seq #[.str m t1, .str q.1 t2, .int q.2 t3, .int (lnS q) t4, .int (cnS q) t5] }
def DueAt (os : List (Addr × Obj)) (m : Str) (q : Stp) (v : Value) : Prop := ∃ a t1 t2 t3 t4 t5, v = .ref a ∧ (a, due5 m q t1 t2 t3 t4 t5) ∈ os
def ErrOn (w : World) (os : List (Addr × Obj)) (m : Str) (q : Stp) (v : Value) : Prop := ∃ e, v = .ref e ∧ ErrIn w 38 os e m q.1 q.2 (lnS q) (cnS q) (wd m q)
/-- errors and due tuples of a row of steps -/
def Rows3 (w : World) (os : List (Addr × Obj)) : Str → List Stp → List Value → List Value → Prop
  | _, [], [], [] => True
  | m, q :: qs, e :: es, d :: ds => ErrOn w os m q e ∧ DueAt os m q d ∧ Rows3 w os (wd m q) qs es ds
  | _, _, _, _ => False
theorem Rows3.sub {w : World} {os os' : List (Addr × Obj)} (hs : ∀ p ∈ os, p ∈ os') : ∀ {m : Str} {qs : List Stp} {es ds : List Value}, Rows3 w os m qs es ds → Rows3 w os' m qs es ds
  | _, [], [], [], _ => trivial
  | _, q :: qs, e :: es, d :: ds, ⟨⟨a, h1, h2⟩, ⟨b, t1, t2, t3, t4, t5, h3, h4⟩, r⟩ => ⟨⟨a, h1, h2.sub hs⟩, ⟨b, t1, t2, t3, t4, t5, h3, hs _ h4⟩, Rows3.sub hs r⟩
/-- what a call of _law_row leaves -/
structure RowPost (w : World) (S : List Addr) (ER DU : Addr) (es ds : List Value) (m : Str) (h h' : Heap) (qs : List Stp) (es' ds' : List Value) (os : List (Addr × Obj)) : Prop where
  keep : ∀ b o, h.get? b = some o → b ∉ S → b ≠ ER → b ≠ DU → h'.get? b = some o
  slots : ∀ b ∈ S, ∀ o, h.get? b = some o → ∃ sl, h'.get? b = some { o with slots := sl }
  er : ∃ c, h'.get? ER = some (W.listOf (es ++ es').toArray c)
  du : ∃ c, h'.get? DU = some (W.listOf (ds ++ ds').toArray c)
  new : ∀ p ∈ os, h.get? p.1 = none ∧ h'.get? p.1 = some p.2
  rows : Rows3 w os m qs es' ds'
  ok : ∀ q ∈ qs, StepOk q ∧ PyData.strOk q.1 = true
end Mine

-- part R3
open PySem PySem.W PyProof.Rows PySem.Calls PySem.Builtin
set_option Elab.async false
set_option maxRecDepth 100000
set_option maxHeartbeats 8000000
set_option rowWalk.seconds 0
namespace Mine
section
theorem c_row {w : World} {p : Program} {loose : List Str} {mg mb : Str → Option Value} {b₀ : Heap} (X₀ : (hd.heap_39 w.params).In b₀) (T₀ : TopRead p loose mg mb b₀) {CL ER DU : Addr} {cvs : List Value} {cs : List Int} (hCi : IntsAre cvs cs) (hC12 : cs.length ≤ 12) (hCe : Cells cs) :
    ∀ (k : Nat) {A : Around} {s : Shared} {Q E : Value → Shared → Prop} {i : Nat} {msg : Str} {t1 t2 : Tok} {outer : List Env} {FL : List (Addr × Obj)} {es ds : List Value} {c1 c2 : Nat} {as : List Addr},
      i + k = cs.length → A.frames = some outer → FrameL s.heap outer FL → CalmL A s.heap as → A.depth + 2 * k + 10 < recursionLimit → A.units + 3 * k + 50 < cLine →
      Keeps b₀ s.heap → (∀ b ∈ frs outer, b₀.get? b = none) → b₀.get? ER = none → b₀.get? DU = none → ER ∉ frs outer → DU ∉ frs outer → CL ∉ frs outer → ER ≠ DU → CL ≠ ER → CL ≠ DU →
      s.heap.IsList CL cvs.toArray → s.heap.get? ER = some (W.listOf es.toArray c1) → s.heap.get? DU = some (W.listOf ds.toArray c2) → es.length = i → ds.length = i → msg.length ≤ 100 + 6100 * i → PyData.strOk msg = true →
      (∀ h' tk t' qs es' ds' os, qs.length = k → RowPost w (frs outer) ER DU es ds msg s.heap h' qs es' ds' os → Q (.str (finalW msg qs) t') { s with heap := h', toks := tk }) →
      wpAny (model PySem.Challenge.rw_dm0193_03.row.prog w) A (call (.ref 83) [.ref CL, .str msg t1, .int i t2, .ref ER, .ref DU]) Q E s := by
  intro k
  induction k with
  | zero =>
    intro A s Q E i msg t1 t2 outer FL es ds c1 c2 as hik hfr hFL hcalm hroom hu hb hbS hbE hbD hES hDS hCS hED hCE hCD hCl hE hD hel hdl hml hmo h
    k_with_none
    revert X₀; k_fill; intro X₀
    have hg : Keeps b₀ (hideAll s.heap (ER :: DU :: frs outer)) := of_hide_base hb fun a ha => by
      rcases List.mem_cons.mp ha with rfl | ha
      · exact hbE
      · rcases List.mem_cons.mp ha with rfl | ha
        · exact hbD
        · exact hbS a ha
    have X : (hd.heap_39 w.params).In (hideAll s.heap (ER :: DU :: frs outer)) := X₀.keeps hg
    have T := T₀.keeps hg
    have hCg : (hideAll s.heap (ER :: DU :: frs outer)).IsList CL cvs.toArray := hCl.at fun o e => hideAll_get _ e (by
      intro q
      rcases List.mem_cons.mp q with q | q
      · exact hCE q
      · rcases List.mem_cons.mp q with q | q
        · exact hCD q
        · exact hCS q)
    have hgk : ∀ b o, s.heap.get? b = some o → b ∉ frs outer → b ≠ ER → b ≠ DU → (hideAll s.heap (ER :: DU :: frs outer)).get? b = some o := fun b o e h1 h2 h3 => hideAll_get _ e (by
      intro q
      rcases List.mem_cons.mp q with q | q
      · exact h2 q
      · rcases List.mem_cons.mp q with q | q
        · exact h3 q
        · exact h1 q)
    have hgS : ∀ b ∈ frs outer, (hideAll s.heap (ER :: DU :: frs outer)).get? b = none := fun b hb => hideAll_none _ (.tail _ (.tail _ hb))
    refine enterM (binds := [("cells", .ref CL), ("message", .str msg t1), ("i", .int i t2), ("errors", .ref ER), ("due", .ref DU)]) ((ER, W.listOf es.toArray c1) :: (DU, W.listOf ds.toArray c2) :: FL) (hideAll s.heap (ER :: DU :: frs outer)) (fun b o e => of_hideAll _ e) (by rw [hideAll_size]; exact Nat.le_refl _) (fun q hq => ?_) X T (by rfl) (by rfl) (by omega) (BindsTo.of_eq rfl) (locs rfl) ?_
    · rcases List.mem_cons.mp hq with rfl | hq
      · exact ⟨hE, hideAll_none _ (.head _)⟩
      · rcases List.mem_cons.mp hq with rfl | hq
        · exact ⟨hD, hideAll_none _ (.tail _ (.head _))⟩
        · exact ⟨hFL.live q hq, hideAll_none _ (.tail _ (.tail _ (hFL.mem' hq)))⟩
    intro L h₁ F N hlt
    clear T₀ X₀
    have hie : (i : Int) = cs.length := by omega
    w_strict (k_steps)
    all_goals (try exact absurd hie (by with_reducible assumption))
    (rename Fr _ _ _ _ => F2); (rename News _ _ _ _ => N2)
    refine h _ _ _ [] [] [] [] rfl ⟨fun b o e h1 h2 h3 => F2.keep _ _ (hgk b o e h1 h2 h3), fun b hb o e => ?_, ⟨c1, by rw [List.append_nil]; exact (N2 _ (.head _)).1⟩, ⟨c2, by rw [List.append_nil]; exact (N2 _ (.tail _ (.head _))).1⟩, (fun q hq => nomatch hq), trivial, (fun q hq => nomatch hq)⟩
    obtain ⟨o', ho'⟩ := hFL.mem hb
    have e1 := hFL.live _ ho'
    rw [e] at e1
    injection e1 with e1
    subst e1
    exact ⟨o.slots, (N2 _ (.tail _ (.tail _ ho'))).1⟩
  | succ k ih =>
    intro A s Q E i msg t1 t2 outer FL es ds c1 c2 as hik hfr hFL hcalm hroom hu hb hbS hbE hbD hES hDS hCS hED hCE hCD hCl hE hD hel hdl hml hmo h
    k_with_none
    k_with "call ref" => (with_reducible refine stop ?_)
    k_with "exec Try" => (with_reducible refine stop ?_)
    k_with "exec Raise some none" => (with_reducible refine stop ?_)
    k_with "call builtin:list.append" => (with_reducible refine stop ?_)
    k_with "call type:str" => (refine strN (errK _) (by show A.units + 3 + 2 < _; omega) (by with_reducible assumption) (by with_reducible assumption) (by with_reducible assumption) (by k_mem) (by k_mem) ?_)
    k_with "binaryOp Add str str" => (refine PyProof.Rows.add_str ?_ (by simp only [Str.length_append]; omega); intro _ _)
    revert X₀; k_fill; intro X₀
    have hg : Keeps b₀ (hideAll s.heap (ER :: DU :: frs outer)) := of_hide_base hb fun a ha => by
      rcases List.mem_cons.mp ha with rfl | ha
      · exact hbE
      · rcases List.mem_cons.mp ha with rfl | ha
        · exact hbD
        · exact hbS a ha
    have X : (hd.heap_39 w.params).In (hideAll s.heap (ER :: DU :: frs outer)) := X₀.keeps hg
    have T := T₀.keeps hg
    have hCg : (hideAll s.heap (ER :: DU :: frs outer)).IsList CL cvs.toArray := hCl.at fun o e => hideAll_get _ e (by
      intro q
      rcases List.mem_cons.mp q with q | q
      · exact hCE q
      · rcases List.mem_cons.mp q with q | q
        · exact hCD q
        · exact hCS q)
    have hgk : ∀ b o, s.heap.get? b = some o → b ∉ frs outer → b ≠ ER → b ≠ DU → (hideAll s.heap (ER :: DU :: frs outer)).get? b = some o := fun b o e h1 h2 h3 => hideAll_get _ e (by
      intro q
      rcases List.mem_cons.mp q with q | q
      · exact h2 q
      · rcases List.mem_cons.mp q with q | q
        · exact h3 q
        · exact h1 q)
    have hgS : ∀ b ∈ frs outer, (hideAll s.heap (ER :: DU :: frs outer)).get? b = none := fun b hb => hideAll_none _ (.tail _ (.tail _ hb))
    refine enterM (binds := [("cells", .ref CL), ("message", .str msg t1), ("i", .int i t2), ("errors", .ref ER), ("due", .ref DU)]) ((ER, W.listOf es.toArray c1) :: (DU, W.listOf ds.toArray c2) :: FL) (hideAll s.heap (ER :: DU :: frs outer)) (fun b o e => of_hideAll _ e) (by rw [hideAll_size]; exact Nat.le_refl _) (fun q hq => ?_) X T (by rfl) (by rfl) (by omega) (BindsTo.of_eq rfl) (locs rfl) ?_
    · rcases List.mem_cons.mp hq with rfl | hq
      · exact ⟨hE, hideAll_none _ (.head _)⟩
      · rcases List.mem_cons.mp hq with rfl | hq
        · exact ⟨hD, hideAll_none _ (.tail _ (.head _))⟩
        · exact ⟨hFL.live q hq, hideAll_none _ (.tail _ (.tail _ (hFL.mem' hq)))⟩
    intro L h₁ F N hlt
    clear T₀ X₀
    have hil : i < cs.length := by omega
    have hie : (i : Int) ≠ cs.length := by omega
    have hsl := sizeLine_eq
    have hml2 : msg.length ≤ 73300 := by omega
    obtain ⟨mm, hmm⟩ : ∃ mm, mm = cs.getD (i : Int).toNat 0 := ⟨_, rfl⟩
    w_strict (k_steps)
    all_goals (try exact absurd (by with_reducible assumption) hie)
    unfold Stop
    rw [← hmm] at *
    (rename Fr _ _ _ _ => F2); (rename News _ _ _ _ => N2)
    refine c_piece (X.keeps F2.keep) (T.keeps F2.keep) (by simp only [depth_deeper]; omega) ?_
    intro x1 h3 tk3 t3 hl1 ho1 hk3
    replace F2 := F2.keeps hk3
    replace N2 := N2.grown hk3
    w_strict (k_steps)
    unfold Stop
    (rename Fr _ _ _ _ => F4); (rename News _ _ _ _ => N4)
    refine c_piece (X.keeps F4.keep) (T.keeps F4.keep) (by simp only [depth_deeper]; omega) ?_
    intro x2 h5 tk5 t5 hl2 ho2 hk5
    replace F4 := F4.keeps hk5
    replace N4 := N4.grown hk5
    w_strict (k_steps)
    unfold Stop
    (rename Fr _ _ _ _ => F6); (rename News _ _ _ _ => N6)
    refine c_piece (X.keeps F6.keep) (T.keeps F6.keep) (by simp only [depth_deeper]; omega) ?_
    intro x3 h7 tk7 t7 hl3 ho3 hk7
    replace F6 := F6.keeps hk7
    replace N6 := N6.grown hk7
    w_strict (k_steps)
    unfold Stop
    (rename Fr _ _ _ _ => F8); (rename News _ _ _ _ => N8)
    have hdl2 : (x1 ++ msg ++ x2 ++ x3).length ≤ 80000 := by simp only [Str.length_append]; omega
    have hdo : PyData.strOk (x1 ++ msg ++ x2 ++ x3) = true := ok_append (ok_append (ok_append ho1 hmo) ho2) ho3
    generalize x1 ++ msg ++ x2 ++ x3 = doc at hdl2 hdo F8 ⊢
    refine c_place (X.keeps F8.keep) (T.keeps F8.keep) (by simp only [depth_deeper]; omega) (by omega) ?_
    intro pl h9 tk9 t9 hp0 hp1 hk9
    replace F8 := F8.keeps hk9
    replace N8 := N8.grown hk9
    have hcg : CalmL A (hideAll s.heap (ER :: DU :: frs outer)) as := hcalm.frame fun b hb o e => by
      obtain ⟨o', vs', e1, e2⟩ := hcalm.flds b hb
      rw [e] at e1
      injection e1 with e1
      subst e1
      refine hgk b o e (fun q => ?_) (fun q => ?_) (fun q => ?_)
      · obtain ⟨o2, ho2⟩ := hFL.mem q
        have e3 := hFL.live _ ho2
        rw [e] at e3
        injection e3 with e3
        subst e3
        exact hFL.nf _ ho2 _ e2
      · rw [q, hE] at e; injection e with e; subst e; cases e2
      · rw [q, hD] at e; injection e with e; subst e; cases e2
    have hELt : ER < L := hlt (ER, _) (.head _)
    have hDLt : DU < L := hlt (DU, _) (.tail _ (.head _))
    w_strict (k_steps)
    unfold Stop
    (rename Fr _ _ _ _ => F10); (rename News _ _ _ _ => N10)
    have hgL : (hideAll s.heap (ER :: DU :: frs outer)).get? L = none := Heap.get?_none_of_le F10.above
    have hstep : StepOk (doc, pl) := ⟨by show doc.length ≤ _; omega, by show _ ≤ pl; omega, by show pl ≤ _; omega⟩
    refine wpAny_Try_except ?_
    w_strict (k_steps)
    unfold Stop
    refine Raise_err (errK w) ?_
    w_strict (k_steps)
    unfold Stop
    refine c_make (X.keeps F10.keep) (T.keeps F10.keep) (by simp only [depth_deeper]; omega) (by omega) hstep.l1 hstep.l2 hstep.l3 ?_
    intro h11 tk11 e os hk11 hos HE
    obtain ⟨d, tu, sl, tw, k1, k2, k3, k4, k5, u1, u2, u3, u4, u5, me, mt, md⟩ := HE
    have F11 := F10.keeps hk11
    have N11 := N10.grown hk11
    w_strict (k_steps)
    have hre : ∀ q ∈ os, (hideAll s.heap (ER :: DU :: frs outer)).get? q.1 = none := fun q hq => by
      cases z : (hideAll s.heap (ER :: DU :: frs outer)).get? q.1 with
      | none => rfl
      | some o => have := F10.keep _ _ z; rw [(hos q hq).2] at this; cases this
    refine ⟨e, _, _, _, _, rfl, X.keeps F11.keep, F11.keep _ _ (X 38 _ rfl), rfl, (CalmL.congr (A := A) (hcg.keeps F10.keep) rfl).calm, hk11, (hos _ me).2, (hos _ me).1, rfl, rfl, rfl, rfl, ?_⟩
    intro h12 hs12 he12
    replace he12 : h12.get? e = some ⟨.ref 38, some d, .fields #[.ref tu, .none, ctxV A, .none, .bool false, .none], sl⟩ := he12
    have hfe := (hos _ me).2
    have hne : ∀ q ∈ (ER, W.listOf es.toArray c1) :: (DU, W.listOf ds.toArray c2) :: FL, ∀ z ∈ os, q.1 ≠ z.1 := fun q hq z hz n => by
      have h1 := (N10 q hq).1
      rw [n, (hos z hz).2] at h1; cases h1
    have hLo : ∀ z ∈ os, z.1 ≠ L := fun z hz n => by
      obtain ⟨oL, _, _, hL, _⟩ := F10.ns
      have h1 := (hos z hz).2
      rw [n, hL] at h1; cases h1
    have F12 := F11.change hs12 (hLo _ me) (hre _ me)
    have N12 : News (hideAll s.heap (ER :: DU :: frs outer)) L h12 ((ER, W.listOf es.toArray c1) :: (DU, W.listOf ds.toArray c2) :: FL) := fun q hq => ⟨(hs12.2 q.1 (hne q hq _ me)).trans (N11 q hq).1, (N11 q hq).2⟩
    have hFL12 : FrameL h12 outer FL := ⟨hFL.adr, fun q hq => (N12 q (.tail _ (.tail _ hq))).1, hFL.nf, hFL.kinds⟩
    have hte : tu ≠ e := fun n => by
      have h1 := (hos _ mt).1
      rw [show (tu, _).1 = e from n, (hos _ me).1] at h1; cases h1
    have hde : d ≠ e := fun n => by
      have h1 := (hos _ md).1
      rw [show (d, _).1 = e from n, (hos _ me).1] at h1; cases h1
    have hSo : ∀ z ∈ os, z.1 ∉ frs outer := fun z hz hm => by
      obtain ⟨o, ho⟩ := hFL.mem hm
      exact hne _ (.tail _ (.tail _ ho)) z hz rfl
    clear F10 N10 F11 N11
    refine catch_here (Around.frames_deeper hfr) (base := hideAll s.heap (ER :: DU :: frs outer)) ?_ he12 rfl rfl rfl F12 ?_ (hre _ me) X T ?_
    · refine ⟨show ScopeKind.function ≠ ScopeKind.module by decide, ?_, hFL12.funF hgS⟩
      obtain ⟨oL, _, _, hL, hdL, _⟩ := F12.ns
      exact ⟨L, oL, rfl, hgL, hL, fun vs q => by rw [hdL] at q; cases q⟩
    · intro b hb
      rcases List.mem_cons.mp (show b ∈ L :: frs outer from hb) with rfl | hb
      · exact hgL
      · exact hgS b hb
    intro h13 tk13 Tb oT E' hN13 hTb hT13 he13 F13
    replace he13 : h13.get? e = some ⟨.ref 38, some d, .fields #[.ref tu, .ref Tb, ctxV A, .none, .bool false, .none], sl⟩ := he13
    have keep13 : ∀ b o, h12.get? b = some o → b ≠ L → b ∉ frs outer → b ≠ e → h13.get? b = some o := fun b o q h1 h2 h3 => hN13.keep b o q (fun hm => by
      rcases List.mem_cons.mp (show b ∈ L :: frs outer from hm) with hm | hm
      · exact h1 hm
      · exact h2 hm) h3
    obtain ⟨FL13, hFL13, hFLd⟩ := hFL12.moved (h' := h13) fun b hb o q => by
      obtain ⟨o', ho'⟩ := hFL.mem hb
      have e1 := hFL12.live _ ho'
      rw [q] at e1
      injection e1 with e1
      subst e1
      exact hN13.slots b o q (Nat.ne_of_lt (hlt (b, o) (.tail _ (.tail _ ho')))) (hFL.nf _ ho')
    have hERe : ER ≠ e := hne _ (.head _) _ me
    have hLe : e ≠ L := hLo _ me
    have hge : (hideAll s.heap (ER :: DU :: frs outer)).get? e = none := hre _ me
    have hDUe : DU ≠ e := hne _ (.tail _ (.head _)) _ me
    have at12 : ∀ z ∈ os, z.1 ≠ e → h12.get? z.1 = some z.2 := fun z hz n => (hs12.2 z.1 n).trans (hos z hz).1
    have N13 : News (hideAll s.heap (ER :: DU :: frs outer)) L h13 ((ER, W.listOf es.toArray c1) :: (DU, W.listOf ds.toArray c2) :: (e, ⟨.ref 38, some d, .fields #[.ref tu, .ref Tb, ctxV A, .none, .bool false, .none], sl⟩) ::
        (tu, { cls := .type "tuple", data := .seq #[.str (wd msg (doc, pl)) tw] }) :: (d, dictOf [ent w "msg" k1 (.str msg u1), ent w "doc" k2 (.str doc u2), ent w "pos" k3 (.int pl u3), ent w "lineno" k4 (.int (lnS (doc, pl)) u4), ent w "colno" k5 (.int (cnS (doc, pl)) u5)] 5) :: FL13) := fun q hq => by
      rcases List.mem_cons.mp hq with rfl | hq
      · exact ⟨keep13 _ _ (N12 _ (.head _)).1 (Nat.ne_of_lt hELt) hES hERe, (N12 _ (.head _)).2⟩
      rcases List.mem_cons.mp hq with rfl | hq
      · exact ⟨keep13 _ _ (N12 _ (.tail _ (.head _))).1 (Nat.ne_of_lt hDLt) hDS hDUe, (N12 _ (.tail _ (.head _))).2⟩
      rcases List.mem_cons.mp hq with rfl | hq
      · exact ⟨he13, hLe, hge⟩
      rcases List.mem_cons.mp hq with rfl | hq
      · exact ⟨keep13 _ _ (at12 _ mt hte) (hLo _ mt) (hSo _ mt) hte, hLo _ mt, hre _ mt⟩
      rcases List.mem_cons.mp hq with rfl | hq
      · exact ⟨keep13 _ _ (at12 _ md hde) (hLo _ md) (hSo _ md) hde, hLo _ md, hre _ md⟩
      have hm := hFL13.mem' hq
      obtain ⟨o', ho'⟩ := hFL.mem hm
      exact ⟨hFL13.live q hq, Nat.ne_of_lt (hlt (q.1, o') (.tail _ (.tail _ ho'))), hgS _ hm⟩
    have hcW : ∀ {h : Heap} {m : Str → Option Value} (env : Env), Fr (hideAll s.heap (ER :: DU :: frs outer)) L h m → h.get? e = some ⟨.ref 38, some d, .fields #[.ref tu, .ref Tb, ctxV A, .none, .bool false, .none], sl⟩ → CalmL ((A.deeper env).mark (some (.ref e))) h (e :: as) :=
      fun env F he => CalmL.grow (A := A) (hcg.keeps F.keep) rfl he rfl rfl
    clear keep13 at12 hFL12 N12 F12 he12 hs12 hk11 hos
    w_strict (k_steps)
    unfold Stop
    (rename Fr _ _ _ _ => F14); (rename News _ _ _ _ => N14)
    have hTE : ER ≠ tu := hne _ (.head _) _ mt
    have hDE : ER ≠ d := hne _ (.head _) _ md
    have hTD : DU ≠ tu := hne _ (.tail _ (.head _)) _ mt
    have hDD : DU ≠ d := hne _ (.tail _ (.head _)) _ md
    have hall1 : ∀ q ∈ (DU, W.listOf ds.toArray c2) :: (e, ⟨.ref 38, some d, .fields #[.ref tu, .ref Tb, ctxV A, .none, .bool false, .none], sl⟩) ::
        (tu, { cls := .type "tuple", data := .seq #[.str (wd msg (doc, pl)) tw] }) :: (d, dictOf [ent w "msg" k1 (.str msg u1), ent w "doc" k2 (.str doc u2), ent w "pos" k3 (.int pl u3), ent w "lineno" k4 (.int (lnS (doc, pl)) u4), ent w "colno" k5 (.int (cnS (doc, pl)) u5)] 5) :: FL13, q.1 ≠ ER := fun q hq => by
      rcases List.mem_cons.mp hq with rfl | hq
      · exact hED.symm
      rcases List.mem_cons.mp hq with rfl | hq
      · exact hERe.symm
      rcases List.mem_cons.mp hq with rfl | hq
      · exact hTE.symm
      rcases List.mem_cons.mp hq with rfl | hq
      · exact hDE.symm
      exact fun n => hES (n ▸ hFL13.mem' hq)
    refine appN F14 N14 (.head _) hall1 (fun q hq => .tail _ hq) (by omega) ?_
    intro h15 F15 N15
    w_strict (k_steps)
    unfold Stop
    (rename Fr _ _ _ _ => F16); (rename News _ _ _ _ => N16)
    refine c_walk (X.keeps F16.keep) (T.keeps F16.keep) (by show A.depth + 1 + 3 < _; omega) (hcW _ F16 (N16 (e, _) (by k_mem)).1) (by omega) (by omega) (by omega) ?_
    intro r1 h17 tk17 t171 t172 hk17 hf17 hg17
    obtain ⟨F17, N17, hn17⟩ := N_add F16 N16 hk17 hf17 hg17
    clear F16 N16 hk17 hf17 hg17
    w_strict (k_steps)
    unfold Stop
    (rename Fr _ _ _ _ => F18); (rename News _ _ _ _ => N18); (rename (_ < _ ∧ _ < _ ∧ _ < _ ∧ _ < _ ∧ _ < _ ∧ _ < _ ∧ _ < _ ∧ AllLt _ _) => l18)
    obtain ⟨Du, rfl⟩ := nameHead N18
    have hlt18 := lt_all _ l18.2.2.2.2.2.2.2
    obtain ⟨td, N19⟩ : ∃ td, News (hideAll s.heap (ER :: DU :: frs outer)) L _ ((Du, due5 msg (doc, pl) t1 td t9 t171 t172) :: _) := ⟨_, N18⟩
    have hall2 : ∀ q ∈ (Du, due5 msg (doc, pl) t1 td t9 t171 t172) :: (ER, W.listOf (es ++ [Value.ref e]).toArray (c1 + 1)) :: (e, ⟨.ref 38, some d, .fields #[.ref tu, .ref Tb, ctxV A, .none, .bool false, .none], sl⟩) ::
        (tu, { cls := .type "tuple", data := .seq #[.str (wd msg (doc, pl)) tw] }) :: (d, dictOf [ent w "msg" k1 (.str msg u1), ent w "doc" k2 (.str doc u2), ent w "pos" k3 (.int pl u3), ent w "lineno" k4 (.int (lnS (doc, pl)) u4), ent w "colno" k5 (.int (cnS (doc, pl)) u5)] 5) :: FL13, q.1 ≠ DU := fun q hq => by
      rcases List.mem_cons.mp hq with rfl | hq
      · exact Nat.ne_of_gt l18.2.2.2.1
      rcases List.mem_cons.mp hq with rfl | hq
      · exact hED
      rcases List.mem_cons.mp hq with rfl | hq
      · exact hDUe.symm
      rcases List.mem_cons.mp hq with rfl | hq
      · exact hTD.symm
      rcases List.mem_cons.mp hq with rfl | hq
      · exact hDD.symm
      exact fun n => hDS (n ▸ hFL13.mem' hq)
    refine appN F18 N19 (by k_mem) hall2 (fun q hq => ?_) (by omega) ?_
    · rcases List.mem_cons.mp hq with rfl | hq
      · exact .head _
      rcases List.mem_cons.mp hq with rfl | hq
      · exact .tail _ (.tail _ (.tail _ (.head _)))
      exact .tail _ (.tail _ (.tail _ (.tail _ (.tail _ hq))))
    intro h20 F20 N20
    have hDuL : Du ≠ L := (N19 _ (.head _)).2.1
    have hDug : (hideAll s.heap (ER :: DU :: frs outer)).get? Du = none := (N19 _ (.head _)).2.2
    clear N18 N19 F18
    w_strict (k_steps)
    unfold Stop
    (rename Fr _ _ _ _ => F21); (rename News _ _ _ _ => N21)
    rw [show ((i : Int) + 1) = ((i + 1 : Nat) : Int) from rfl]
    obtain ⟨oL, esL, epL, hLg, hLd, hLr⟩ := id F21.ns
    have hFL21 : FrameL _ outer FL13 := ⟨hFL13.adr, fun q hq => (N21 q (by simp [hq])).1, hFL13.nf, hFL13.kinds⟩
    have hb0L : b₀.get? L = none := by
      cases z : b₀.get? L with
      | none => rfl
      | some o => have := hg _ _ z; rw [hgL] at this; cases this
    have hCLL : CL ≠ L := by
      obtain ⟨o, ho, _⟩ := hCg
      exact Nat.ne_of_lt (Nat.lt_of_lt_of_le (Heap.lt_size ho) F21.above)
    have hnot : ∀ {b : Addr}, b ≠ L → b ∉ frs outer → b ∉ L :: frs outer := fun h1 h2 h3 => (List.mem_cons.mp h3).elim h1 h2
    have hwl := (wd_len hstep msg).1
    refine ih (FL := (L, oL) :: FL13) (es := es ++ [Value.ref e]) (ds := ds ++ [Value.ref Du]) (as := e :: as) (by omega) (Around.frames_deeper hfr) ⟨?_, ?_, ?_, ?_⟩ (hcW _ F21 (N21 (e, _) (by k_mem)).1) (by show A.depth + 1 + 2 * k + 10 < _; omega) (by show A.units + 3 + 3 * k + 50 < _; omega) (fun b o q => F21.keep _ _ (hg _ _ q)) ?_ hbE hbD
      (hnot (Nat.ne_of_lt hELt) hES) (hnot (Nat.ne_of_lt hDLt) hDS) (hnot hCLL hCS) hED hCE hCD (hCg.at fun o q => F21.keep _ _ q) (N21 (ER, _) (by k_mem)).1 (N21 (DU, _) (by k_mem)).1 (by simp [hel]) (by simp [hdl]) (by omega) (ok_wd hmo _) ?_
    · show L :: FL13.map (·.1) = L :: frs outer
      rw [hFL13.adr]
    · intro q hq
      rcases List.mem_cons.mp hq with rfl | hq
      · exact hLg
      · exact hFL21.live q hq
    · intro q hq vs z
      rcases List.mem_cons.mp hq with rfl | hq
      · rw [hLd] at z; cases z
      · exact hFL21.nf q hq vs z
    · intro ev hev
      rcases List.mem_cons.mp hev with rfl | hev
      · exact ⟨show ScopeKind.function ≠ ScopeKind.module by decide, L, rfl⟩
      · exact hFL.kinds ev hev
    · intro b hb'
      rcases List.mem_cons.mp (show b ∈ L :: frs outer from hb') with rfl | hb'
      · exact hb0L
      · exact hbS b hb'
    intro h22 tk22 t22 qs es' ds' os' hql HP
    have F22 := fr_moved (h' := h22) F21 (fun b o q q2 => HP.keep b o q2 (fun hm => by
      rcases List.mem_cons.mp (show b ∈ L :: frs outer from hm) with n | n
      · rw [n, hgL] at q; cases q
      · rw [hgS b n] at q; cases q) (fun n => by rw [n, hideAll_none _ (.head _)] at q; cases q) (fun n => by rw [n, hideAll_none _ (.tail _ (.head _))] at q; cases q)) (fun o q => HP.slots L (.head _) o q)
    obtain ⟨FL22, hFL22, hFLd2⟩ := hFL21.moved (h' := h22) fun b hb' o q => HP.slots b (.tail _ hb') o q
    obtain ⟨c1', hER22⟩ := HP.er
    obtain ⟨c2', hDU22⟩ := HP.du
    have hDuS : Du ∉ frs outer := fun hm => by
      obtain ⟨o, ho⟩ := hFL13.mem hm
      exact absurd (hlt18 _ ho) (Nat.lt_irrefl _)
    have hDuE : Du ≠ ER := Nat.ne_of_gt l18.2.2.1
    have hDuD : Du ≠ DU := Nat.ne_of_gt l18.2.2.2.1
    have heS : e ∉ frs outer := hSo _ me
    have htS : tu ∉ frs outer := hSo _ mt
    have hdS : d ∉ frs outer := hSo _ md
    have htL : tu ≠ L := hLo _ mt
    have hdL : d ≠ L := hLo _ md
    have htg : (hideAll s.heap (ER :: DU :: frs outer)).get? tu = none := hre _ mt
    have hdg : (hideAll s.heap (ER :: DU :: frs outer)).get? d = none := hre _ md
    have N22 : News (hideAll s.heap (ER :: DU :: frs outer)) L h22 ((ER, W.listOf (es ++ [Value.ref e] ++ es').toArray c1') :: (DU, W.listOf (ds ++ [Value.ref Du] ++ ds').toArray c2') :: (e, ⟨.ref 38, some d, .fields #[.ref tu, .ref Tb, ctxV A, .none, .bool false, .none], sl⟩) ::
        (tu, { cls := .type "tuple", data := .seq #[.str (wd msg (doc, pl)) tw] }) :: (d, dictOf [ent w "msg" k1 (.str msg u1), ent w "doc" k2 (.str doc u2), ent w "pos" k3 (.int pl u3), ent w "lineno" k4 (.int (lnS (doc, pl)) u4), ent w "colno" k5 (.int (cnS (doc, pl)) u5)] 5) :: (Du, due5 msg (doc, pl) t1 td t9 t171 t172) :: (FL22 ++ os')) := fun q hq => by
      rcases List.mem_cons.mp hq with rfl | hq
      · exact ⟨hER22, Nat.ne_of_lt hELt, hideAll_none _ (.head _)⟩
      rcases List.mem_cons.mp hq with rfl | hq
      · exact ⟨hDU22, Nat.ne_of_lt hDLt, hideAll_none _ (.tail _ (.head _))⟩
      rcases List.mem_cons.mp hq with rfl | hq
      · exact ⟨HP.keep _ _ (N21 (e, ⟨.ref 38, some d, .fields #[.ref tu, .ref Tb, ctxV A, .none, .bool false, .none], sl⟩) (by k_mem)).1 (hnot hLe heS) hERe.symm hDUe.symm, hLe, hge⟩
      rcases List.mem_cons.mp hq with rfl | hq
      · exact ⟨HP.keep _ _ (N21 (tu, { cls := .type "tuple", data := .seq #[.str (wd msg (doc, pl)) tw] }) (by k_mem)).1 (hnot htL htS) hTE.symm hTD.symm, htL, htg⟩
      rcases List.mem_cons.mp hq with rfl | hq
      · exact ⟨HP.keep _ _ (N21 (d, dictOf [ent w "msg" k1 (.str msg u1), ent w "doc" k2 (.str doc u2), ent w "pos" k3 (.int pl u3), ent w "lineno" k4 (.int (lnS (doc, pl)) u4), ent w "colno" k5 (.int (cnS (doc, pl)) u5)] 5) (by k_mem)).1 (hnot hdL hdS) hDE.symm hDD.symm, hdL, hdg⟩
      rcases List.mem_cons.mp hq with rfl | hq
      · exact ⟨HP.keep _ _ (N21 (Du, due5 msg (doc, pl) t1 td t9 t171 t172) (by k_mem)).1 (hnot hDuL hDuS) hDuE hDuD, hDuL, hDug⟩
      rcases List.mem_append.mp hq with hq | hq
      · have hm := hFL22.mem' hq
        obtain ⟨o', ho'⟩ := hFL.mem hm
        exact ⟨hFL22.live q hq, Nat.ne_of_lt (hlt (q.1, o') (.tail _ (.tail _ ho'))), hgS _ hm⟩
      · obtain ⟨a1, a2⟩ := HP.new q hq
        refine ⟨a2, fun n => ?_, ?_⟩
        · rw [n] at a1; exact absurd (hLg.symm.trans a1) (by simp)
        · cases z : (hideAll s.heap (ER :: DU :: frs outer)).get? q.1 with
          | none => rfl
          | some o => exact absurd ((F21.keep _ _ z).symm.trans a1) (by simp)
    have hE21 := (N21 (ER, _) (by k_mem)).1
    have hD21 := (N21 (DU, _) (by k_mem)).1
    clear F21 N21
    show wpAny _ _ _ _ _ _
    refine name_goes_keeps F22 N22 ?_
    intro h23 v23 F23 N23
    have hnew : ∀ b, b ≠ ER → b ≠ DU → b ∉ frs outer → (hideAll s.heap (ER :: DU :: frs outer)).get? b = none → s.heap.get? b = none := fun b h1 h2 h3 h4 => by
      cases z : s.heap.get? b with
      | none => rfl
      | some o => rw [hgk b o z h3 h1 h2] at h4; cases h4
    refine h _ _ _ ((doc, pl) :: qs) (Value.ref e :: es') (Value.ref Du :: ds') ((e, ⟨.ref 38, some d, .fields #[.ref tu, .ref Tb, ctxV A, .none, .bool false, .none], sl⟩) :: (tu, { cls := .type "tuple", data := .seq #[.str (wd msg (doc, pl)) tw] }) :: (d, dictOf [ent w "msg" k1 (.str msg u1), ent w "doc" k2 (.str doc u2), ent w "pos" k3 (.int pl u3), ent w "lineno" k4 (.int (lnS (doc, pl)) u4), ent w "colno" k5 (.int (cnS (doc, pl)) u5)] 5) :: (Du, due5 msg (doc, pl) t1 td t9 t171 t172) :: os') (by simp [hql])
      ⟨fun b o q h1 h2 h3 => F23.keep _ _ (hgk b o q h1 h2 h3), fun b hb' o q => ?_, ⟨c1', ?_⟩, ⟨c2', ?_⟩, fun q hq => ?_, ⟨⟨e, rfl, ?_⟩, ⟨Du, t1, td, t9, t171, t172, rfl, .tail _ (.tail _ (.tail _ (.head _)))⟩, HP.rows.sub fun q hq => .tail _ (.tail _ (.tail _ (.tail _ hq)))⟩, fun q hq => ?_⟩
    · obtain ⟨o', ho'⟩ := hFL22.mem hb'
      obtain ⟨q1, hq1, e1, sl1, e2⟩ := hFLd2 _ ho'
      obtain ⟨q2, hq2, e3, sl2, e4⟩ := hFLd _ hq1
      have e5 := hFL.live _ hq2
      rw [← e3, ← e1, q] at e5
      injection e5 with e5
      refine ⟨sl1, ?_⟩
      have e6 := (N23 (b, o') (by simp [ho'])).1
      rw [e6]
      show some o' = _
      rw [show o' = _ from e2, e4, ← e5]
    · rw [show es ++ (Value.ref e :: es') = es ++ [Value.ref e] ++ es' by simp]
      exact (N23 (ER, _) (by k_mem)).1
    · rw [show ds ++ (Value.ref Du :: ds') = ds ++ [Value.ref Du] ++ ds' by simp]
      exact (N23 (DU, _) (by k_mem)).1
    · rcases List.mem_cons.mp hq with rfl | hq
      · exact ⟨hnew _ hERe.symm hDUe.symm heS hge, (N23 _ (by k_mem)).1⟩
      rcases List.mem_cons.mp hq with rfl | hq
      · exact ⟨hnew _ hTE.symm hTD.symm htS htg, (N23 _ (by k_mem)).1⟩
      rcases List.mem_cons.mp hq with rfl | hq
      · exact ⟨hnew _ hDE.symm hDD.symm hdS hdg, (N23 _ (by k_mem)).1⟩
      rcases List.mem_cons.mp hq with rfl | hq
      · exact ⟨hnew _ hDuE hDuD hDuS hDug, (N23 _ (by k_mem)).1⟩
      have hz := N23 q (by simp [hq])
      obtain ⟨a1, a2⟩ := HP.new q hq
      refine ⟨hnew _ (fun n => ?_) (fun n => ?_) (fun n => ?_) hz.2.2, hz.1⟩
      · rw [n] at a1; exact absurd (hE21.symm.trans a1) (by simp)
      · rw [n] at a1; exact absurd (hD21.symm.trans a1) (by simp)
      · obtain ⟨o, ho⟩ := hFL21.mem n
        exact absurd ((hFL21.live _ ho).symm.trans a1) (by simp)
    · exact ⟨d, tu, _, _, _, _, _, sl, tw, k1, k2, k3, k4, k5, u1, u2, u3, u4, u5, .head _, .tail _ (.head _), .tail _ (.tail _ (.head _))⟩
    · rcases List.mem_cons.mp hq with rfl | hq
      · exact ⟨hstep, hdo⟩
      · exact HP.ok q hq
end
end Mine

-- part Zi3
open PySem PySem.W PyProof.Rows PySem.Calls PySem.Builtin
set_option Elab.async false
set_option maxRecDepth 100000
set_option maxHeartbeats 8000000
namespace Mine
abbrev IsTri (h : Heap) (T : Addr) (a b c : Value) : Prop := h.get? T = some { cls := .type "tuple", data := .seq #[a, b, c] }
structure Zp (z TI TO i1 i2 i3 l1 l2 l3 : Addr) : Prop where
  TIz : TI ≠ z
  TOz : TO ≠ z
  TITO : TI ≠ TO
  i1z : i1 ≠ z
  TIi1 : TI ≠ i1
  TOi1 : TO ≠ i1
  i2z : i2 ≠ z
  TIi2 : TI ≠ i2
  TOi2 : TO ≠ i2
  i3z : i3 ≠ z
  TIi3 : TI ≠ i3
  TOi3 : TO ≠ i3
  i12 : i1 ≠ i2
  i13 : i1 ≠ i3
  i23 : i2 ≠ i3
  l1z : l1 ≠ z
  l1TO : l1 ≠ TO
  l1i1 : l1 ≠ i1
  l1i2 : l1 ≠ i2
  l1i3 : l1 ≠ i3
  l2z : l2 ≠ z
  l2TO : l2 ≠ TO
  l2i1 : l2 ≠ i1
  l2i2 : l2 ≠ i2
  l2i3 : l2 ≠ i3
  l3z : l3 ≠ z
  l3TO : l3 ≠ TO
  l3i1 : l3 ≠ i1
  l3i2 : l3 ≠ i2
  l3i3 : l3 ≠ i3
section
variable {prog : Program} {w : World} {A : Around} {E : Value → Shared → Prop} {s : Shared}
theorem upd_tri {T : Addr} {a b c x : Value} {k : Nat} {Q : Unit → Shared → Prop} (hT : IsTri s.heap T a b c)
    (h : ∀ h', h'.get? T = some { cls := .type "tuple", data := .seq ((#[a, b, c] : Array Value).setIfInBounds k x) } → Heap.SameBut T s.heap h' → Q () { s with heap := h' }) :
    wpAny (model prog w) A (updateSeq T (·.setIfInBounds k x)) Q E s := by
  refine wpAny_updateSeq hT rfl (h _ ?_ (Heap.SameBut.update ..))
  rw [Heap.get?_update_self _ hT rfl]
  simp [Obj.mapSeq]
variable {z TI TO i1 i2 i3 l1 l2 l3 : Addr} {k : Nat} {xs ys zs : Array Value} {a b c : Value}
/-- the start of a turn of zip -/
theorem zip3_item {x y u : Value} {Q : Value → Shared → Prop} (D : Zp z TI TO i1 i2 i3 l1 l2 l3)
    (hz : IsZip s.heap z TI TO .none) (hTI : IsTri s.heap TI (.ref i1) (.ref i2) (.ref i3)) (hTO : IsTri s.heap TO a b c)
    (h1 : s.heap.IsListIter i1 l1 k) (h2 : s.heap.IsListIter i2 l2 k) (h3 : s.heap.IsListIter i3 l3 k) (hl1 : s.heap.IsList l1 xs) (hl2 : s.heap.IsList l2 ys) (hl3 : s.heap.IsList l3 zs) (hx : xs[k]? = some x) (hy : ys[k]? = some y) (hu : zs[k]? = some u)
    (hQ : ∀ h', IsZip h' z TI TO (rawInt s.heap.objs.size) → IsTri h' TO x y u → h'.IsListIter i1 l1 (k + 1) → h'.IsListIter i2 l2 (k + 1) → h'.IsListIter i3 l3 (k + 1) → IsTri h' s.heap.objs.size x y u → h'.objs.size = s.heap.objs.size + 1 →
      (∀ c o, c ≠ z → c ≠ TO → c ≠ i1 → c ≠ i2 → c ≠ i3 → s.heap.get? c = some o → h'.get? c = some o) → Q (.ref s.heap.objs.size) { s with heap := h' }) :
    wpAny (model prog w) A (Builtin.«zip.__next__» ⟨[.ref z], []⟩) (fun fin s' => ∃ v, fin = .done (.ret v) ∧ Q v s') E s := by
  show wpAny _ _ (field (.ref z) 2 >>= _) _ _ _
  refine wpAny_bind (wpAny_field hz rfl (x := .bool false) rfl ?_)
  show wpAny _ _ (field (.ref z) 3 >>= _) _ _ _
  refine wpAny_bind (wpAny_field hz rfl (x := .ref TI) rfl ?_)
  refine wpAny_bind (wpAny_seqItems hTI rfl ?_)
  show wpAny _ _ (Builtin.SmallTypes.ownedTupleIsFree (.ref z) >>= _) _ _ _
  refine wpAny_bind ?_
  unfold Builtin.SmallTypes.ownedTupleIsFree
  refine wpAny_bind (wpAny_field hz rfl (x := .none) rfl (wpAny_pure ?_))
  simp only [if_true]
  refine wpAny_bind (wpAny_rule ?_)
  refine wpAny_bind (wpAny_field hz rfl (x := .ref TO) rfl ?_)
  refine wpAny_bind (wpAny_setField_rec hz (by simp) fun H₁ hz₁ hs₁ => ?_)
  replace hz₁ : IsZip H₁ z TI TO .ellipsis := hz₁
  refine wpAny_bind ?_
  simp only [List.zipIdx_cons, List.zipIdx_nil, List.forIn_cons, List.forIn_nil]
  refine wpAny_bind (wpAny_bind (wpAny_onRaise ?_))
  show wpAny _ _ (Builtin.SmallTypes.nextOf (.ref i1) >>= _) _ _ _
  refine wpAny_bind (wpAny_nextOf_list_item (h1.extBut hs₁.extBut D.i1z) (hl1.extBut hs₁.extBut D.l1z) hx fun H₂ h1₂ hs₂ => wpAny_pure ?_)
  have hTO₂ : IsTri H₂ TO a b c := hs₂.extBut _ _ D.TOi1 (hs₁.extBut _ _ D.TOz hTO)
  refine wpAny_bind (wpAny_seqItems hTO₂ rfl ?_)
  refine wpAny_bind (upd_tri hTO₂ fun H₃ hTO₃ hs₃ => ?_)
  replace hTO₃ : IsTri H₃ TO x b c := hTO₃
  refine wpAny_bind (wpAny_letGo (wpAny_pure ?_))
  refine wpAny_bind (wpAny_bind (wpAny_onRaise ?_))
  show wpAny _ _ (Builtin.SmallTypes.nextOf (.ref i2) >>= _) _ _ _
  refine wpAny_bind (wpAny_nextOf_list_item (((h2.extBut hs₁.extBut D.i2z).extBut hs₂.extBut D.i12.symm).extBut hs₃.extBut D.TOi2.symm)
    (((hl2.extBut hs₁.extBut D.l2z).extBut hs₂.extBut D.l2i1).extBut hs₃.extBut D.l2TO) hy fun H₄ h2₄ hs₄ => wpAny_pure ?_)
  have hTO₄ : IsTri H₄ TO x b c := hs₄.extBut _ _ D.TOi2 hTO₃
  refine wpAny_bind (wpAny_seqItems hTO₄ rfl ?_)
  refine wpAny_bind (upd_tri hTO₄ fun H₅ hTO₅ hs₅ => ?_)
  replace hTO₅ : IsTri H₅ TO x y c := hTO₅
  refine wpAny_bind (wpAny_letGo (wpAny_pure ?_))
  refine wpAny_bind (wpAny_bind (wpAny_onRaise ?_))
  show wpAny _ _ (Builtin.SmallTypes.nextOf (.ref i3) >>= _) _ _ _
  refine wpAny_bind (wpAny_nextOf_list_item (((((h3.extBut hs₁.extBut D.i3z).extBut hs₂.extBut D.i13.symm).extBut hs₃.extBut D.TOi3.symm).extBut hs₄.extBut D.i23.symm).extBut hs₅.extBut D.TOi3.symm)
    (((((hl3.extBut hs₁.extBut D.l3z).extBut hs₂.extBut D.l3i1).extBut hs₃.extBut D.l3TO).extBut hs₄.extBut D.l3i2).extBut hs₅.extBut D.l3TO) hu fun H₆ h3₆ hs₆ => wpAny_pure ?_)
  have hTO₆ : IsTri H₆ TO x y c := hs₆.extBut _ _ D.TOi3 hTO₅
  refine wpAny_bind (wpAny_seqItems hTO₆ rfl ?_)
  refine wpAny_bind (upd_tri hTO₆ fun H₇ hTO₇ hs₇ => ?_)
  replace hTO₇ : IsTri H₇ TO x y u := hTO₇
  refine wpAny_bind (wpAny_letGo (wpAny_pure (wpAny_pure ?_)))
  refine wpAny_bind (wpAny_seqItems hTO₇ rfl ?_)
  refine wpAny_bind (wpAny_newTuple ?_)
  have hsz : H₇.objs.size = s.heap.objs.size := by rw [hs₇.1, hs₆.1, hs₅.1, hs₄.1, hs₃.1, hs₂.1, hs₁.1]
  have hk₇ : ∀ c o, c ≠ TO → c ≠ i1 → c ≠ i2 → c ≠ i3 → H₁.get? c = some o → H₇.get? c = some o := fun c o c2 c3 c4 c5 e =>
    hs₇.extBut _ _ c2 (hs₆.extBut _ _ c5 (hs₅.extBut _ _ c2 (hs₄.extBut _ _ c4 (hs₃.extBut _ _ c2 (hs₂.extBut _ _ c3 e)))))
  have hz₇ : IsZip H₇ z TI TO .ellipsis := hk₇ _ _ D.TOz.symm D.i1z.symm D.i2z.symm D.i3z.symm hz₁
  have h1₇ : H₇.IsListIter i1 l1 (k + 1) := ((((h1₂.extBut hs₃.extBut D.TOi1.symm).extBut hs₄.extBut D.i12).extBut hs₅.extBut D.TOi1.symm).extBut hs₆.extBut D.i13).extBut hs₇.extBut D.TOi1.symm
  have h2₇ : H₇.IsListIter i2 l2 (k + 1) := ((h2₄.extBut hs₅.extBut D.TOi2.symm).extBut hs₆.extBut D.i23).extBut hs₇.extBut D.TOi2.symm
  have h3₇ : H₇.IsListIter i3 l3 (k + 1) := h3₆.extBut hs₇.extBut D.TOi3.symm
  have hzlt : z < H₇.objs.size := Heap.lt_size hz₇
  show wpAny _ _ (Builtin.SmallTypes.ownedTupleHandOut (.ref z) (.ref H₇.objs.size) >>= _) _ _ _
  refine wpAny_bind ?_
  unfold Builtin.SmallTypes.ownedTupleHandOut
  have hz₈ : IsZip (H₇.push { cls := .type "tuple", data := .seq #[x, y, u] }) z TI TO .ellipsis := Heap.get?_push_of_some _ hz₇
  refine wpAny_bind (wpAny_setField_rec hz₈ (by simp) fun H₉ hz₉ hs₉ => ?_)
  replace hz₉ : IsZip H₉ z TI TO (rawInt H₇.objs.size) := hz₉
  refine wpAny_setField_rec hz₉ (by simp) fun Hx hzx hsx => ?_
  replace hzx : IsZip Hx z TI TO (rawInt H₇.objs.size) := hzx
  have up : ∀ c o, c ≠ z → H₇.get? c = some o → Hx.get? c = some o := fun c o c1 e => hsx.extBut _ _ c1 (hs₉.extBut _ _ c1 (Heap.get?_push_of_some _ e))
  have hTx : IsTri Hx H₇.objs.size x y u := hsx.extBut _ _ (Nat.ne_of_gt hzlt) (hs₉.extBut _ _ (Nat.ne_of_gt hzlt) (Heap.get?_push_size _ rfl))
  have hzs : Hx.objs.size = H₇.objs.size + 1 := by rw [hsx.1, hs₉.1, Heap.size_push]
  rw [hsz] at hzx hTx hzs
  refine wpAny_pure ⟨_, rfl, ?_⟩
  show Q (.ref H₇.objs.size) _
  rw [hsz]
  exact hQ Hx hzx (up _ _ D.TOz hTO₇) (h1₇.at fun o e => up _ o D.i1z e) (h2₇.at fun o e => up _ o D.i2z e) (h3₇.at fun o e => up _ o D.i3z e) hTx hzs fun c o c1 c2 c3 c4 c5 e => up c o c1 (hk₇ c o c2 c3 c4 c5 (hs₁.extBut _ _ c1 e))
theorem zip3_end {Q : Fin → Shared → Prop} (hh : A.handled = none) (D : Zp z TI TO i1 i2 i3 l1 l2 l3)
    (hz : IsZip s.heap z TI TO .none) (hTI : IsTri s.heap TI (.ref i1) (.ref i2) (.ref i3)) (h1 : s.heap.IsListIter i1 l1 k) (hl1 : s.heap.IsList l1 xs) (hx : xs[k]? = none)
    (hE : ∀ h' e, (∀ c o, c ≠ z → c ≠ i1 → s.heap.get? c = some o → h'.get? c = some o) → (∃ o, h'.get? e = some o ∧ o.cls = .type "StopIteration") → E (.ref e) { s with heap := h' }) :
    wpAny (model prog w) A (Builtin.«zip.__next__» ⟨[.ref z], []⟩) Q E s := by
  show wpAny _ _ (field (.ref z) 2 >>= _) _ _ _
  refine wpAny_bind (wpAny_field hz rfl (x := .bool false) rfl ?_)
  show wpAny _ _ (field (.ref z) 3 >>= _) _ _ _
  refine wpAny_bind (wpAny_field hz rfl (x := .ref TI) rfl ?_)
  refine wpAny_bind (wpAny_seqItems hTI rfl ?_)
  show wpAny _ _ (Builtin.SmallTypes.ownedTupleIsFree (.ref z) >>= _) _ _ _
  refine wpAny_bind ?_
  unfold Builtin.SmallTypes.ownedTupleIsFree
  refine wpAny_bind (wpAny_field hz rfl (x := .none) rfl (wpAny_pure ?_))
  simp only [if_true]
  refine wpAny_bind (wpAny_rule ?_)
  refine wpAny_bind (wpAny_field hz rfl (x := .ref TO) rfl ?_)
  refine wpAny_bind (wpAny_setField_rec hz (by simp) fun H₁ hz₁ hs₁ => ?_)
  replace hz₁ : IsZip H₁ z TI TO .ellipsis := hz₁
  refine wpAny_bind ?_
  simp only [List.zipIdx_cons, List.zipIdx_nil, List.forIn_cons, List.forIn_nil]
  refine wpAny_bind (wpAny_bind (wpAny_onRaise ?_))
  show wpAny _ _ (Builtin.SmallTypes.nextOf (.ref i1) >>= _) _ _ _
  refine wpAny_bind (wpAny_nextOf_list_end hh (h1.extBut hs₁.extBut D.i1z) (hl1.extBut hs₁.extBut D.l1z) hx fun H₂ e hs₂ he => ?_)
  obtain ⟨oe, hoe, hce⟩ := he
  have hz₂ : IsZip H₂ z TI TO .ellipsis := hs₂ _ _ D.i1z.symm hz₁
  have hez : e ≠ z := fun x => by subst x; rw [hz₂] at hoe; cases hoe; simp at hce
  exact wpAny_setField_rec hz₂ (by simp) fun H₃ _ hs₃ => hE H₃ e (fun c o c1 c3 x => hs₃.extBut _ _ c1 (hs₂ _ _ c3 (hs₁.extBut _ _ c1 x))) ⟨oe, hs₃.extBut _ _ hez hoe, hce⟩
end
end Mine

-- part Zi3b
open PySem PySem.W PyProof.Rows PySem.Calls PySem.Builtin
set_option Elab.async false
set_option maxRecDepth 100000
set_option maxHeartbeats 8000000
namespace Mine
section
variable {prog : Program} {w : World} {A : Around} {E : Value → Shared → Prop} {s : Shared}
theorem walks_zip3 (hh : A.handled = none) (z TI TO i1 i2 i3 l1 l2 l3 : Addr) (D : Zp z TI TO i1 i2 i3 l1 l2 l3) (xs ys zs : Array Value) (n : Nat) (n1 : xs.size = n) (n2 : ys.size = n) (n3 : zs.size = n) :
    WalksT prog w A z [z, TI, TO, i1, i2, i3, l1, l2, l3] [z, TO, i1, i2, i3] n
      (fun i vals => ∃ x y u, xs[i]? = some x ∧ ys[i]? = some y ∧ zs[i]? = some u ∧ vals = #[x, y, u])
      (fun i h => IsZip h z TI TO .none ∧ IsTri h TI (.ref i1) (.ref i2) (.ref i3) ∧ (∃ a b c, IsTri h TO a b c) ∧ h.IsListIter i1 l1 i ∧ h.IsListIter i2 l2 i ∧ h.IsListIter i3 l3 i ∧ h.IsList l1 xs ∧ h.IsList l2 ys ∧ h.IsList l3 zs)
      (fun i T h => IsZip h z TI TO (rawInt T) ∧ IsTri h TI (.ref i1) (.ref i2) (.ref i3) ∧ (∃ a b c, IsTri h TO a b c) ∧ h.IsListIter i1 l1 (i + 1) ∧ h.IsListIter i2 l2 (i + 1) ∧ h.IsListIter i3 l3 (i + 1) ∧ h.IsList l1 xs ∧ h.IsList l2 ys ∧ h.IsList l3 zs ∧
        T ≠ z ∧ T ≠ TO ∧ T ≠ i1 ∧ T ≠ i2 ∧ T ≠ i3) where
  sub := fun c hc => by simp at hc ⊢; rcases hc with rfl | rfl | rfl | rfl | rfl <;> simp
  frame := fun i h h' hst hk => by
    obtain ⟨hz, hTI, ⟨a, b, c, hTO⟩, h1, h2, h3, hl1, hl2, hl3⟩ := hst
    exact ⟨hk z (by simp) _ hz, hk TI (by simp) _ hTI, ⟨a, b, c, hk TO (by simp) _ hTO⟩, h1.at fun o e => hk i1 (by simp) o e, h2.at fun o e => hk i2 (by simp) o e, h3.at fun o e => hk i3 (by simp) o e,
      hl1.at fun o e => hk l1 (by simp) o e, hl2.at fun o e => hk l2 (by simp) o e, hl3.at fun o e => hk l3 (by simp) o e⟩
  item := fun i s Q E hi hst hQ => by
    obtain ⟨hz, hTI, ⟨a, b, c, hTO⟩, h1, h2, h3, hl1, hl2, hl3⟩ := hst
    have hT : s.TypeIs (.ref z) "zip" := ⟨_, hz, rfl⟩
    have e1 : xs[i]? = some xs[i] := Array.getElem?_eq_getElem (by omega)
    have e2 : ys[i]? = some ys[i] := Array.getElem?_eq_getElem (by omega)
    have e3 : zs[i]? = some zs[i] := Array.getElem?_eq_getElem (by omega)
    have lt : ∀ {c o}, s.heap.get? c = some o → s.heap.objs.size ≠ c := fun e => Nat.ne_of_gt (Heap.lt_size e)
    unfold pyNext
    refine wpAny_bind (wpAny_attempt (wpAny_callSpecial?_slot (name := Str.ofString "__next__") hT F.slot_zip_next
      (wpAny_call_entry F.slot_zip_next hT F.entry_zip_next (zip3_item D hz hTI hTO h1 h2 h3 hl1 hl2 hl3 e1 e2 e3 fun h' a1 a2 a3 a4 a5 a6 a7 hk => wpAny_pure ?_) (F.args_zip_next_1 _))))
    exact hQ s.heap.objs.size #[xs[i], ys[i], zs[i]] h' s.toks ⟨_, _, _, e1, e2, e3, rfl⟩ (Nat.le_refl _) ⟨_, a6, rfl, _, rfl⟩
      ⟨a1, hk _ _ D.TIz D.TITO D.TIi1 D.TIi2 D.TIi3 hTI, ⟨_, _, _, a2⟩, a3, a4, a5, hl1.at fun o e => hk _ o D.l1z D.l1TO D.l1i1 D.l1i2 D.l1i3 e, hl2.at fun o e => hk _ o D.l2z D.l2TO D.l2i1 D.l2i2 D.l2i3 e, hl3.at fun o e => hk _ o D.l3z D.l3TO D.l3i1 D.l3i2 D.l3i3 e,
        lt hz, lt hTO, (by obtain ⟨_, e, _⟩ := h1; exact lt e), (by obtain ⟨_, e, _⟩ := h2; exact lt e), (by obtain ⟨_, e, _⟩ := h3; exact lt e)⟩
      fun c o hc e => hk c o (fun x => hc (by simp [x])) (fun x => hc (by simp [x])) (fun x => hc (by simp [x])) (fun x => hc (by simp [x])) (fun x => hc (by simp [x])) e
  go := fun elts k pos i T s Q E hm hQ => by
    obtain ⟨hz, hTI, ⟨a, b, c, hTO⟩, h1, h2, h3, hl1, hl2, hl3, _⟩ := hm
    refine wpAny_letOwnedTupleGo_zip hz fun h' hz' hs' => hQ h' ⟨hz', hs'.extBut _ _ D.TIz hTI, ⟨a, b, c, hs'.extBut _ _ D.TOz hTO⟩, h1.extBut hs'.extBut D.i1z, h2.extBut hs'.extBut D.i2z, h3.extBut hs'.extBut D.i3z,
      hl1.extBut hs'.extBut D.l1z, hl2.extBut hs'.extBut D.l2z, hl3.extBut hs'.extBut D.l3z⟩ fun c o hc e => hs'.extBut _ _ (fun x => hc (by simp [x])) e
  apart := fun i T h hm hT => by
    obtain ⟨_, _, _, _, _, _, _, _, _, t1, t2, t3, t4, t5⟩ := hm
    simp at hT
    rcases hT with rfl | rfl | rfl | rfl | rfl
    · exact t1 rfl
    · exact t2 rfl
    · exact t3 rfl
    · exact t4 rfl
    · exact t5 rfl
  done := fun s Q E hst hQ => by
    obtain ⟨hz, hTI, ⟨a, b, c, hTO⟩, h1, h2, h3, hl1, hl2, hl3⟩ := hst
    have hT : s.TypeIs (.ref z) "zip" := ⟨_, hz, rfl⟩
    unfold pyNext
    refine wpAny_bind (wpAny_attempt (wpAny_callSpecial?_slot (name := Str.ofString "__next__") hT F.slot_zip_next
      (wpAny_call_entry F.slot_zip_next hT F.entry_zip_next (zip3_end hh D hz hTI h1 hl1 (Array.getElem?_eq_none (by omega)) fun h' e hk he => ?_) (F.args_zip_next_1 _))))
    obtain ⟨o, ho, hc⟩ := he
    refine wpAny_bind (wpAny_isInstance (T := "StopIteration") (b := true) ⟨o, ho, hc⟩ isSubtype_stop ?_)
    exact wpAny_pure (hQ h' s.toks fun c o hc e => hk c o (fun x => hc (by simp [x])) (fun x => hc (by simp [x])) e)
  self := fun i s Q E hst hQ => wpAny_pyIter_zip hst.1 hQ
theorem typeCall_zip_3 (a b c : Value) : checkTypeCall "zip" ⟨[a, b, c], []⟩ = pure () := by kernel_rfl
theorem newCall_zip_3 (a b c : Value) : checkBuiltinCall "zip.__new__" ⟨[.type "zip", a, b, c], []⟩ = pure () := by kernel_rfl
theorem args_object_init_4 (a b c d : Value) : argsOk "object.__init__" ⟨[a, b, c, d], []⟩ := by
  unfold argsOk; rw [signature?_of (id := "object.__init__") (n := ['_', '_', 't', 'i', 'n', 'i', '_', '_']) (o := ['t', 'c', 'e', 'j', 'b', 'o']) (by kernel_rfl) F.owner_object]; kernel_rfl
theorem zp_at (I l1 l2 l3 : Nat) (h1 : l1 < I) (h2 : l2 < I) (h3 : l3 < I) : Zp (I + 5) (I + 3) (I + 4) I (I + 1) (I + 2) l1 l2 l3 := by
  constructor <;> (refine neN ?_; omega)
end
end Mine

-- part Zi3c
open PySem PySem.W PyProof.Rows PySem.Calls PySem.Builtin
set_option Elab.async false
set_option maxRecDepth 100000
set_option maxHeartbeats 8000000
namespace Mine
abbrev zH1 (h : Heap) (l1 : Addr) : Heap := h.push { cls := .type "list_iterator", data := .fields #[.ref l1, .int 0 0] }
abbrev zH2 (h : Heap) (l1 l2 : Addr) : Heap := (zH1 h l1).push { cls := .type "list_iterator", data := .fields #[.ref l2, .int 0 0] }
abbrev zH3 (h : Heap) (l1 l2 l3 : Addr) : Heap := (zH2 h l1 l2).push { cls := .type "list_iterator", data := .fields #[.ref l3, .int 0 0] }
abbrev zH4 (h : Heap) (l1 l2 l3 : Addr) : Heap := (zH3 h l1 l2 l3).push { cls := .type "tuple", data := .seq #[.ref h.objs.size, .ref (zH1 h l1).objs.size, .ref (zH2 h l1 l2).objs.size] }
abbrev zH5 (h : Heap) (l1 l2 l3 : Addr) : Heap := (zH4 h l1 l2 l3).push { cls := .type "tuple", data := .seq #[.none, .none, .none] }
abbrev zH6 (h : Heap) (l1 l2 l3 : Addr) : Heap := (zH5 h l1 l2 l3).push { cls := .type "zip", data := .fields #[.none, .bool false, .bool false, .ref (zH3 h l1 l2 l3).objs.size, .ref (zH4 h l1 l2 l3).objs.size] }
theorem meets_zip3 (l1 l2 l3 : Addr) (xs ys zs : Array Value) :
    Meets (Builtin.«zip.__new__» ⟨[.type "zip", .ref l1, .ref l2, .ref l3], []⟩) (fun _ R s => s.heap.IsList l1 xs ∧ s.heap.IsList l2 ys ∧ s.heap.IsList l3 zs ∧
      R (.ok (.ret (.ref (zH5 s.heap l1 l2 l3).objs.size))) { s with heap := zH6 s.heap l1 l2 l3 }) :=
  .of_wp fun prog w A R s h => by
    obtain ⟨hp, g, d, tk, os⟩ := s; obtain ⟨hl1, hl2, hl3, h⟩ := h
    have hsub := sub_zip
    have hL1 : Heap.IsList (Shared.heap ⟨hp, g, d, tk, os⟩) l1 xs := hl1
    have hL2 : Heap.IsList (Shared.heap ⟨zH1 hp l1, g, d, tk, os⟩) l2 ys := Heap.IsList.push hl2 _
    have hL3 : Heap.IsList (Shared.heap ⟨zH2 hp l1 l2, g, d, tk, os⟩) l3 zs := Heap.IsList.push (Heap.IsList.push hl3 _) _
    wp_walk using wpAny_pyIter_list hL1, wpAny_pyIter_list hL2, wpAny_pyIter_list hL3
    exact ⟨_, rfl, h⟩
section
variable {prog : Program} {w : World} {A : Around} {E : Value → Shared → Prop} {s : Shared}
theorem call_zip3 {l1 l2 l3 : Addr} {xs ys zs : Array Value} {Q : Value → Shared → Prop} (hl1 : s.heap.IsList l1 xs) (hl2 : s.heap.IsList l2 ys) (hl3 : s.heap.IsList l3 zs)
    (h : ∀ h', IsZip h' (s.heap.objs.size + 5) (s.heap.objs.size + 3) (s.heap.objs.size + 4) .none → IsTri h' (s.heap.objs.size + 3) (.ref s.heap.objs.size) (.ref (s.heap.objs.size + 1)) (.ref (s.heap.objs.size + 2)) →
      IsTri h' (s.heap.objs.size + 4) .none .none .none → h'.IsListIter s.heap.objs.size l1 0 → h'.IsListIter (s.heap.objs.size + 1) l2 0 → h'.IsListIter (s.heap.objs.size + 2) l3 0 →
      Keeps s.heap h' → Q (.ref (s.heap.objs.size + 5)) { s with heap := h' }) :
    wpAny (model prog w) A (call (.type "zip") [.ref l1, .ref l2, .ref l3]) Q E s := by
  refine callType_new F.called_zip (by decide) (typeCall_zip_3 _ _ _) (newCall_zip_3 _ _ _) (fun obj => args_object_init_4 obj _ _ _) F.entry_zip_new
    (meets_zip3 l1 l2 l3 xs ys zs) ⟨hl1, hl2, hl3, ?_⟩
  have z1 : (zH1 s.heap l1).objs.size = s.heap.objs.size + 1 := Heap.size_push ..
  have z2 : (zH2 s.heap l1 l2).objs.size = s.heap.objs.size + 2 := by rw [Heap.size_push, z1]
  have z3 : (zH3 s.heap l1 l2 l3).objs.size = s.heap.objs.size + 3 := by rw [Heap.size_push, z2]
  have z4 : (zH4 s.heap l1 l2 l3).objs.size = s.heap.objs.size + 4 := by rw [Heap.size_push, z3]
  have z5 : (zH5 s.heap l1 l2 l3).objs.size = s.heap.objs.size + 5 := by rw [Heap.size_push, z4]
  have g6 : (zH6 s.heap l1 l2 l3).get? (zH5 s.heap l1 l2 l3).objs.size = some _ := Heap.get?_push_size _ rfl
  have g5 : (zH6 s.heap l1 l2 l3).get? (zH4 s.heap l1 l2 l3).objs.size = some _ := Heap.get?_push_of_some _ (Heap.get?_push_size _ rfl)
  have g4 : (zH6 s.heap l1 l2 l3).get? (zH3 s.heap l1 l2 l3).objs.size = some _ := Heap.get?_push_of_some _ (Heap.get?_push_of_some _ (Heap.get?_push_size _ rfl))
  have g3 : (zH6 s.heap l1 l2 l3).get? (zH2 s.heap l1 l2).objs.size = some _ := Heap.get?_push_of_some _ (Heap.get?_push_of_some _ (Heap.get?_push_of_some _ (Heap.get?_push_size _ rfl)))
  have g2 : (zH6 s.heap l1 l2 l3).get? (zH1 s.heap l1).objs.size = some _ := Heap.get?_push_of_some _ (Heap.get?_push_of_some _ (Heap.get?_push_of_some _ (Heap.get?_push_of_some _ (Heap.get?_push_size _ rfl))))
  have g1 : (zH6 s.heap l1 l2 l3).get? s.heap.objs.size = some _ := Heap.get?_push_of_some _ (Heap.get?_push_of_some _ (Heap.get?_push_of_some _ (Heap.get?_push_of_some _ (Heap.get?_push_of_some _ (Heap.get?_push_size _ rfl)))))
  show _ ∧ _
  rw [z3, z4, z5] at g6
  rw [z4] at g5
  rw [z1, z2, z3] at g4
  rw [z2] at g3
  rw [z1] at g2
  rw [z5]
  exact ⟨⟨_, g6, rfl⟩, h _ g6 g4 g5 ⟨_, g1, rfl, rfl⟩ ⟨_, g2, rfl, rfl⟩ ⟨_, g3, rfl, rfl⟩ fun c o x =>
    Heap.get?_push_of_some _ (Heap.get?_push_of_some _ (Heap.get?_push_of_some _ (Heap.get?_push_of_some _ (Heap.get?_push_of_some _ (Heap.get?_push_of_some _ x)))))⟩
end
section
variable {prog : Program} {w : World} {A : Around} {E : Value → Shared → Prop} {s : Shared} {env : Env} {h₀ : Heap} {body : List Stmt} {Q : Flow → Shared → Prop}
/-- for .., .., .. in zip(three lists of one length) -/
theorem for_Z3 {elts : List Expr} {k : Nat} {pos : Pos} {l1 l2 l3 : Addr} {xs ys zs : List Value} {n : Nat} {m : Str → Option Value} {news : List (Addr × Obj)}
    (hh : A.handled = none) (hl1 : s.heap.IsList l1 xs.toArray) (hl2 : s.heap.IsList l2 ys.toArray) (hl3 : s.heap.IsList l3 zs.toArray) (n1 : xs.length = n) (n2 : ys.length = n) (n3 : zs.length = n)
    (e1 : l1 ≠ env.locals) (e2 : l2 ≠ env.locals) (e3 : l3 ≠ env.locals) (F : Fr h₀ env.locals s.heap m) (N : News h₀ env.locals s.heap news) (hnl : ∀ p ∈ news, p.1 ≠ l1 ∧ p.1 ≠ l2 ∧ p.1 ≠ l3)
    (J : Nat → (Str → Option Value) → List (Addr × Obj) → Prop) (hj : J 0 m news)
    (turn : ∀ i x y u m₁ news₁ h tk own T, xs[i]? = some x → ys[i]? = some y → zs[i]? = some u → J i m₁ news₁ → (∀ p ∈ own, ∀ q ∈ news₁, p.1 ≠ q.1) → IsTup h T #[x, y, u] → Fr h₀ env.locals h m₁ → News h₀ env.locals h (news₁ ++ own) →
      wpAny (model prog w) A (assign (.Tuple elts k pos) env (.ref T)) (fun _ s₂ => wpAny (model prog w) A (execs body env) (TurnEndF h₀ env.locals own (J (i + 1)) s Q) E s₂) E { s with heap := h, toks := tk })
    (done : ∀ m₁ news₁ h tk, J n m₁ news₁ → Fr h₀ env.locals h m₁ → News h₀ env.locals h news₁ → Q .next { s with heap := h, toks := tk }) :
    wpAny (model prog w) A (call (.type "zip") [.ref l1, .ref l2, .ref l3]) (fun xv s₁ => wpAny (model prog w) A (pyIter xv) (fun it s₂ => TurnsAt prog w A h₀ env (.Tuple elts k pos) body Q E it s₂) E s₁) E s := by
  have lt1 : l1 < s.heap.objs.size := by obtain ⟨o, ho, _⟩ := id hl1; exact Heap.lt_size ho
  have lt2 : l2 < s.heap.objs.size := by obtain ⟨o, ho, _⟩ := id hl2; exact Heap.lt_size ho
  have lt3 : l3 < s.heap.objs.size := by obtain ⟨o, ho, _⟩ := id hl3; exact Heap.lt_size ho
  have hLs : env.locals < s.heap.objs.size := F.ns.lt
  refine call_zip3 hl1 hl2 hl3 fun h' hz hTI hTO h1 h2 h3 hk => ?_
  refine wpAny_pyIter_zip hz ?_
  have W := KTurns.ofWalksU (elts := elts) (k := k) (pos := pos) (walks_zip3 (prog := prog) (w := w) hh (s.heap.objs.size + 5) (s.heap.objs.size + 3) (s.heap.objs.size + 4) s.heap.objs.size (s.heap.objs.size + 1) (s.heap.objs.size + 2) l1 l2 l3 (zp_at _ _ _ _ lt1 lt2 lt3) xs.toArray ys.toArray zs.toArray n (by simpa using n1) (by simpa using n2) (by simpa using n3)).toU
  have ltn : ∀ {b : Nat} (j : Nat), b < s.heap.objs.size → b ≠ s.heap.objs.size + j := fun j h => ktu_ne j h
  refine turns_F (J := J) (s := { s with heap := h' }) W W.sub ?_ ?_ ?_ ?_ ⟨hz, hTI, ⟨_, _, _, hTO⟩, h1, h2, h3, hl1.at fun o e => hk _ o e, hl2.at fun o e => hk _ o e, hl3.at fun o e => hk _ o e⟩ (F.keeps hk) (N.grown hk) hj ?_ (fun m₁ news₁ h tk hJ F' N' => done m₁ news₁ h tk hJ F' N')
  · intro hm
    simp only [List.mem_cons, List.not_mem_nil, or_false] at hm
    rcases hm with e | e | e | e | e | e | e | e | e
    · exact ltn 5 hLs e
    · exact ltn 3 hLs e
    · exact ltn 4 hLs e
    · exact Nat.ne_of_lt hLs e
    · exact ltn 1 hLs e
    · exact ltn 2 hLs e
    · exact e1 e.symm
    · exact e2 e.symm
    · exact e3 e.symm
  · intro b hb
    simp only [List.mem_cons, List.not_mem_nil, or_false] at hb
    rcases hb with rfl | rfl | rfl | rfl | rfl
    · exact ktu_new F (Nat.le_add_right _ _)
    · exact ktu_new F (Nat.le_add_right _ _)
    · exact ktu_new F (Nat.le_refl _)
    · exact ktu_new F (Nat.le_add_right _ _)
    · exact ktu_new F (Nat.le_add_right _ _)
  · rintro i h ⟨a1, a2, ⟨_, _, _, a3⟩, ⟨_, a4, _⟩, ⟨_, a5, _⟩, ⟨_, a6, _⟩, ⟨_, a7, _⟩, ⟨_, a8, _⟩, ⟨_, a9, _⟩⟩ b hb
    simp only [List.mem_cons, List.not_mem_nil, or_false] at hb
    rcases hb with rfl | rfl | rfl | rfl | rfl | rfl | rfl | rfl | rfl
    · exact ⟨_, a1⟩
    · exact ⟨_, a2⟩
    · exact ⟨_, a3⟩
    · exact ⟨_, a4⟩
    · exact ⟨_, a5⟩
    · exact ⟨_, a6⟩
    · exact ⟨_, a7⟩
    · exact ⟨_, a8⟩
    · exact ⟨_, a9⟩
  · intro p hp hm
    have hlp : p.1 < s.heap.objs.size := Heap.lt_size (N p hp).1
    simp only [List.mem_cons, List.not_mem_nil, or_false] at hm
    rcases hm with e | e | e | e | e | e | e | e | e
    · exact ltn 5 hlp e
    · exact ltn 3 hlp e
    · exact ltn 4 hlp e
    · exact Nat.ne_of_lt hlp e
    · exact ltn 1 hlp e
    · exact ltn 2 hlp e
    · exact (hnl p hp).1 e
    · exact (hnl p hp).2.1 e
    · exact (hnl p hp).2.2 e
  · rintro i v m₁ news₁ h tk own hin ⟨T, vals, rfl, ⟨x, y, u, hx, hy, hu, rfl⟩, hT⟩ hJ hoff hSt F' N'
    exact turn i x y u m₁ news₁ h tk own T (by simpa using hx) (by simpa using hy) (by simpa using hu) hJ hoff hT F' N'
end
end Mine

-- part Zi3d
open PySem PySem.W PyProof.Rows PySem.Calls PySem.Builtin
set_option Elab.async false
set_option maxRecDepth 100000
set_option maxHeartbeats 8000000
namespace Mine
section
variable {prog : Program} {w : World} {A : Around} {E : Value → Shared → Prop} {s : Shared} {env : Env} {h₀ : Heap} {body : List Stmt} {Q : Flow → Shared → Prop}
def TurnEndC (h₀ : Heap) (L : Addr) (own news : List (Addr × Obj)) (J : (Str → Option Value) → Prop) (s : Shared) (Q : Flow → Shared → Prop) (f : Flow) (s₂ : Shared) : Prop :=
  match f with
  | .ret v => Q (.ret v) s₂
  | .brk => Q .next s₂
  | _ => ∃ h' tk m', s₂ = { s with heap := h', toks := tk } ∧ Fr h₀ L h' m' ∧ News h₀ L h' (news ++ own) ∧ J m'
/-- a for by an invariant over the locals; the ledger stays -/
theorem turns_C {target : Expr} {I : Addr} {fp wr : List Addr} {n : Nat} {P Md : Nat → Value → Heap → Prop} {St : Nat → Heap → Prop} {m : Str → Option Value} {news : List (Addr × Obj)}
    (W : KTurns prog w A target I fp wr n P Md St) (hLf : env.locals ∉ fp) (hwr : ∀ b ∈ wr, h₀.get? b = none)
    (hnw : ∀ p ∈ news, p.1 ∉ wr) (hst : St 0 s.heap) (F : Fr h₀ env.locals s.heap m) (N : News h₀ env.locals s.heap news)
    (J : Nat → (Str → Option Value) → Prop) (hj : J 0 m)
    (turn : ∀ i v m₁ h tk own, i < n → P i v h → J i m₁ → Fr h₀ env.locals h m₁ → News h₀ env.locals h (news ++ own) →
      wpAny (model prog w) A (assign target env v) (fun _ s₂ => wpAny (model prog w) A (execs body env) (TurnEndC h₀ env.locals own news (J (i + 1)) s Q) E s₂) E { s with heap := h, toks := tk })
    (done : ∀ m₁ h tk, J n m₁ → Fr h₀ env.locals h m₁ → News h₀ env.locals h news → Q .next { s with heap := h, toks := tk }) :
    TurnsAt prog w A h₀ env target body Q E (.ref I) s := by
  refine ⟨I, fp, wr, n, P, Md, St, m, news, fun i m nw => J i m ∧ nw = news, rfl, W, hLf, hwr, hnw, hst, F, N, ⟨hj, rfl⟩, ?_, fun h' tk m' news' F' N' _ hJ => done m' h' tk hJ.1 F' (hJ.2 ▸ N')⟩
  rintro i v m₁ news₁ hh' tk' own hin hP ⟨hJ, e1⟩ hoff hown _ hall hSt F₁ N₁
  subst e1
  have N₂ : News h₀ env.locals hh' (news₁ ++ own) := fun p hp => N₁ p ((List.mem_append.mp hp).elim (fun h => List.mem_append.mpr (.inr h)) fun h => List.mem_append.mpr (.inl h))
  refine wpAny_mono (turn i v m₁ hh' tk' own hin hP hJ F₁ N₂) (fun _ s₃ z => wpAny_mono z (fun f s₂ p => ?_) fun _ _ e => e) fun _ _ e => e
  have fin : (∃ h' tk m', s₂ = { s with heap := h', toks := tk } ∧ Fr h₀ env.locals h' m' ∧ News h₀ env.locals h' (news₁ ++ own) ∧ J (i + 1) m') →
      LoopStepU h₀ env.locals wr own (fun m nw => J (i + 1) m ∧ nw = news₁) { s with heap := hh', toks := tk' } .next s₂ := by
    rintro ⟨h', tk, m', e, F', N', hm⟩
    exact ⟨rfl, h', tk, m', news₁, e, F', fun p hp => N' p ((List.mem_append.mp hp).elim (fun h => List.mem_append.mpr (.inr h)) fun h => List.mem_append.mpr (.inl h)), hnw, hm, rfl⟩
  cases f with
  | ret v => exact .ret p
  | brk => exact .brk p
  | next => exact .next (fin p)
  | cont => exact .cont (fin p)
/-- for .., .., .. in zip(three lists of one length); the ledger stays -/
theorem for_Z3C {elts : List Expr} {k : Nat} {pos : Pos} {l1 l2 l3 : Addr} {xs ys zs : List Value} {n : Nat} {m : Str → Option Value} {news : List (Addr × Obj)}
    (hh : A.handled = none) (hl1 : s.heap.IsList l1 xs.toArray) (hl2 : s.heap.IsList l2 ys.toArray) (hl3 : s.heap.IsList l3 zs.toArray) (n1 : xs.length = n) (n2 : ys.length = n) (n3 : zs.length = n)
    (e1 : l1 ≠ env.locals) (e2 : l2 ≠ env.locals) (e3 : l3 ≠ env.locals) (F : Fr h₀ env.locals s.heap m) (N : News h₀ env.locals s.heap news)
    (J : Nat → (Str → Option Value) → Prop) (hj : J 0 m)
    (turn : ∀ i x y u m₁ h tk own T, xs[i]? = some x → ys[i]? = some y → zs[i]? = some u → J i m₁ → IsTup h T #[x, y, u] → Fr h₀ env.locals h m₁ → News h₀ env.locals h (news ++ own) →
      wpAny (model prog w) A (assign (.Tuple elts k pos) env (.ref T)) (fun _ s₂ => wpAny (model prog w) A (execs body env) (TurnEndC h₀ env.locals own news (J (i + 1)) s Q) E s₂) E { s with heap := h, toks := tk })
    (done : ∀ m₁ h tk, J n m₁ → Fr h₀ env.locals h m₁ → News h₀ env.locals h news → Q .next { s with heap := h, toks := tk }) :
    wpAny (model prog w) A (call (.type "zip") [.ref l1, .ref l2, .ref l3]) (fun xv s₁ => wpAny (model prog w) A (pyIter xv) (fun it s₂ => TurnsAt prog w A h₀ env (.Tuple elts k pos) body Q E it s₂) E s₁) E s := by
  have lt1 : l1 < s.heap.objs.size := by obtain ⟨o, ho, _⟩ := id hl1; exact Heap.lt_size ho
  have lt2 : l2 < s.heap.objs.size := by obtain ⟨o, ho, _⟩ := id hl2; exact Heap.lt_size ho
  have lt3 : l3 < s.heap.objs.size := by obtain ⟨o, ho, _⟩ := id hl3; exact Heap.lt_size ho
  have hLs : env.locals < s.heap.objs.size := F.ns.lt
  refine call_zip3 hl1 hl2 hl3 fun h' hz hTI hTO h1 h2 h3 hk => ?_
  refine wpAny_pyIter_zip hz ?_
  have W := KTurns.ofWalksU (elts := elts) (k := k) (pos := pos) (walks_zip3 (prog := prog) (w := w) hh (s.heap.objs.size + 5) (s.heap.objs.size + 3) (s.heap.objs.size + 4) s.heap.objs.size (s.heap.objs.size + 1) (s.heap.objs.size + 2) l1 l2 l3 (zp_at _ _ _ _ lt1 lt2 lt3) xs.toArray ys.toArray zs.toArray n (by simpa using n1) (by simpa using n2) (by simpa using n3)).toU
  have ltn : ∀ {b : Nat} (j : Nat), b < s.heap.objs.size → b ≠ s.heap.objs.size + j := fun j h => ktu_ne j h
  refine turns_C (J := J) (s := { s with heap := h' }) W ?_ ?_ ?_ ⟨hz, hTI, ⟨_, _, _, hTO⟩, h1, h2, h3, hl1.at fun o e => hk _ o e, hl2.at fun o e => hk _ o e, hl3.at fun o e => hk _ o e⟩ (F.keeps hk) (N.grown hk) hj ?_ (fun m₁ h tk hJ F' N' => done m₁ h tk hJ F' N')
  · intro hm
    simp only [List.mem_cons, List.not_mem_nil, or_false] at hm
    rcases hm with e | e | e | e | e | e | e | e | e
    · exact ltn 5 hLs e
    · exact ltn 3 hLs e
    · exact ltn 4 hLs e
    · exact Nat.ne_of_lt hLs e
    · exact ltn 1 hLs e
    · exact ltn 2 hLs e
    · exact e1 e.symm
    · exact e2 e.symm
    · exact e3 e.symm
  · intro b hb
    simp only [List.mem_cons, List.not_mem_nil, or_false] at hb
    rcases hb with rfl | rfl | rfl | rfl | rfl
    · exact ktu_new F (Nat.le_add_right _ _)
    · exact ktu_new F (Nat.le_add_right _ _)
    · exact ktu_new F (Nat.le_refl _)
    · exact ktu_new F (Nat.le_add_right _ _)
    · exact ktu_new F (Nat.le_add_right _ _)
  · intro p hp hm
    have hlp : p.1 < s.heap.objs.size := Heap.lt_size (N p hp).1
    simp only [List.mem_cons, List.not_mem_nil, or_false] at hm
    rcases hm with e | e | e | e | e
    · exact ltn 5 hlp e
    · exact ltn 4 hlp e
    · exact Nat.ne_of_lt hlp e
    · exact ltn 1 hlp e
    · exact ltn 2 hlp e
  · rintro i v m₁ h tk own hin ⟨T, vals, rfl, ⟨x, y, u, hx, hy, hu, rfl⟩, hT⟩ hJ F' N'
    exact turn i x y u m₁ h tk own T (by simpa using hx) (by simpa using hy) (by simpa using hu) hJ hT F' N'
end
end Mine

-- part Cm16
open PySem PySem.W PyProof.Rows PySem.Calls PySem.Builtin
set_option Elab.async false
set_option maxRecDepth 100000
set_option maxHeartbeats 8000000
namespace Mine
section
open LCg
variable {prog : Program} {w : World} {A : Around} {s : Shared} {h₀ : Heap} {L : Addr} {m : Str → Option Value} {env : Env}
/-- one element of a comprehension is made; the ledger may grow -/
def EltEndG (h₀ : Heap) (L : Addr) (m : Str → Option Value) (s : Shared) (I : Addr) (oI : Obj) (C : Addr) (oC : Obj) (D : Addr) (ys : List Value) (R : Value → List (Addr × Obj) → Prop) (y : Value) (s₂ : Shared) : Prop :=
  ∃ h' tk news', s₂ = { s with heap := h', toks := tk } ∧ Fr h₀ L h' m ∧ News h₀ L h' ((I, oI) :: (C, oC) :: (D, LCg.lst ys) :: news') ∧ Off3 I C D news' ∧ R y news'
/-- a comprehension by an invariant over its elements and the ledger -/
theorem comp_invG {elt : Expr} {x : Str} {scope : Scope} {cl : List (Str × Addr)} {S : List (Addr × Obj) → Prop} {P : Nat → Value → Prop} {Fin : List Value → List (Addr × Obj) → Prop} {n : Nat}
    (J : Nat → List Value → List (Addr × Obj) → Prop) (hS : ∀ i ys news, J i ys news → S news)
    (step : ∀ i ys news v I oI C oC D m₂ h tk (E' : Value → Shared → Prop), i < n → P i v → J i ys news → NsObj oC m₂ → m₂ x = some v → Fr h₀ L h m → News h₀ L h ((I, oI) :: (C, oC) :: (D, LCg.lst ys) :: news) → Off3 I C D news → ((@Ne Nat I C) ∧ (@Ne Nat I D) ∧ (@Ne Nat C D)) →
      wpAny (model prog w) A (eval elt (compEnvC scope cl C env)) (EltEndG h₀ L m s I oI C oC D ys fun y news' => J (i + 1) (ys ++ [y]) news') E' { s with heap := h, toks := tk })
    (fin : ∀ ys news, J n ys news → Fin ys news) : ∀ k i ys news, i + k = n → J i ys news → CompRest prog w A h₀ L m env elt x scope cl s S P Fin k i ys news
  | 0, i, ys, news, h, hJ => by
    have : i = n := by omega
    subst this
    exact .zero (fin ys news hJ)
  | k + 1, i, ys, news, h, hJ => .succ fun v I oI C oC D m₂ h' tk E' hP hN hx F N off ne => by
    refine wpAny_mono (step i ys news v I oI C oC D m₂ h' tk E' (by omega) hP hJ hN hx F N off ne) (fun y s₂ r => ?_) fun _ _ e => e
    obtain ⟨h2, tk2, news', e, F2, N2, off2, hJ2⟩ := r
    exact ⟨h2, tk2, news', e, F2, N2, off2, hS _ _ _ hJ2, comp_invG J hS step fin k (i + 1) _ news' (by omega) hJ2⟩
theorem off3_cons {I C D a : Addr} {o : Obj} {l : List (Addr × Obj)} (h : Off3 I C D l) (h1 : a ≠ I) (h2 : a ≠ C) (h3 : a ≠ D) : Off3 I C D ((a, o) :: l) := ⟨⟨h1, h2, h3⟩, h⟩
end
end Mine

-- part L3a
open PySem PySem.W PyProof.Rows PySem.Calls PySem.Builtin
set_option Elab.async false
set_option maxRecDepth 100000
set_option maxHeartbeats 8000000
namespace Mine
theorem Rows3.len {w : World} {os : List (Addr × Obj)} : ∀ {m : Str} {qs : List Stp} {es ds : List Value}, Rows3 w os m qs es ds → es.length = qs.length ∧ ds.length = qs.length
  | _, [], [], [], _ => ⟨rfl, rfl⟩
  | _, _ :: _, _ :: _, _ :: _, ⟨_, _, r⟩ => by
    have := Rows3.len r
    simp [this.1, this.2]
theorem Rows3.get {w : World} {os : List (Addr × Obj)} : ∀ {m : Str} {qs : List Stp} {es ds : List Value}, Rows3 w os m qs es ds → ∀ (k : Nat) (q : Stp), qs[k]? = some q →
    ∃ e d, es[k]? = some e ∧ ds[k]? = some d ∧ ErrOn w os (finalW m (qs.take k)) q e ∧ DueAt os (finalW m (qs.take k)) q d
  | _, [], [], [], _, k, q, h => by simp at h
  | m, q :: qs, e :: es, d :: ds, ⟨h1, h2, r⟩, 0, q', h => by
    have : q = q' := by simpa using h
    subst this
    exact ⟨e, d, rfl, rfl, h1, h2⟩
  | m, q :: qs, e :: es, d :: ds, ⟨h1, h2, r⟩, k + 1, q', h => by
    obtain ⟨e', d', a1, a2, a3, a4⟩ := Rows3.get r k q' (by simpa using h)
    exact ⟨e', d', by simpa using a1, by simpa using a2, a3, a4⟩
end Mine

-- part M3
open PySem PySem.W PyProof.Rows PySem.Calls PySem.Builtin
set_option Elab.async false
set_option maxRecDepth 100000
set_option maxHeartbeats 8000000
set_option rowWalk.seconds 0
namespace Mine
section
variable {prog : Program} {w : World} {A : Around} {s : Shared} {Q E : Value → Shared → Prop} {h₀ : Heap} {L a b : Addr} {news : List (Addr × Obj)}
/-- a built-in name inside a comprehension -/
theorem ld_builtR {M : Model} {K : Frag} {C : Addr} {m mg mb : Str → Option Value} {scope : Scope} {cl : List (Str × Addr)} {env : Env} {p : Program} {loose : List Str} {x : Str} {pos : Pos} {v : Value}
    (F : Fr h₀ L s.heap m) (X : K.In h₀) (T : TopRead p loose mg mb h₀) (e : nsIn K mainGlobals x = some none) (hv : bootBuiltins x = some v) (hn : x ≠ "__name__") (h : Q v s) (hg : env.globals = mainGlobals := by rfl) (hb : env.builtins = builtinsNs := by rfl)
    (hk : (compEnvC scope cl C env).scope.kind = .function := by rfl) (hx : (compEnvC scope cl C env).kindOf x = some .globalImplicit := by rfl) (hd : (x == ("__debug__" : Str)) = false := by decide) :
    wpAny M A (eval (.Name x pos) (compEnvC scope cl C env)) Q E s :=
  Name_function_global hk hx (loadGlobal_builtin (env := compEnvC scope cl C env) (show s.heap.Ns env.globals mg from hg ▸ (T.keeps F.keep).g) (mg_none_of X T.g e) (show s.heap.Ns env.builtins mb from hb ▸ (T.keeps F.keep).b) ((T.builtins x hn).trans hv) h) hd
/-- `!=` of two tuples of one text each -/
theorem ne_tup1 {x y : Str} {t u : Tok} (N : News h₀ L s.heap news)
    (ha : (a, ({ cls := .type "tuple", data := .seq #[.str x t] } : Obj)) ∈ news) (hb : (b, ({ cls := .type "tuple", data := .seq #[.str y u] } : Obj)) ∈ news) (hu : A.units + 64 < cLine)
    (hx : PyData.strOk x = true) (e : x = y) (h : Q (.bool false) s) : wpAny (model prog w) A (compareOp .NotEq (.ref a) (.ref b)) Q E s := by
  subst e
  refine ne_dataH (reads_tuple_at (N.get ha) rfl rfl (ReadsAll.cons (Reads.str _ _) ReadsAll.nil)) (reads_tuple_at (N.get hb) rfl rfl (ReadsAll.cons (Reads.str _ _) ReadsAll.nil)) (by simp [SeqAt.shaped, PyData.canLay0, PyData.canLayAll0, PyData.depth, PyData.depthAll, hx]) (by simp [SeqAt.shaped, PyData.canLay0, PyData.canLayAll0, PyData.depth, PyData.depthAll, hx]) hu ?_
  have : (!PyData.eqv (.tuple [.str x]) (.tuple [.str x])) = false := by
    simp [PyData.eqv, PyData.eqvAll]
  rw [this]; exact h
/-- `!=` of two tuples of two texts and three ints -/
theorem ne_tup5 {x y : Str} {i j k : Int} {t1 t2 t3 t4 t5 u1 u2 u3 u4 u5 : Tok} (N : News h₀ L s.heap news)
    (ha : (a, ({ cls := .type "tuple", data := .seq #[.str x t1, .str y t2, .int i t3, .int j t4, .int k t5] } : Obj)) ∈ news) (hb : (b, ({ cls := .type "tuple", data := .seq #[.str x u1, .str y u2, .int i u3, .int j u4, .int k u5] } : Obj)) ∈ news) (hu : A.units + 64 < cLine)
    (hx : PyData.strOk x = true) (hy : PyData.strOk y = true) (h : Q (.bool false) s) : wpAny (model prog w) A (compareOp .NotEq (.ref a) (.ref b)) Q E s := by
  refine ne_dataH (reads_tuple_at (N.get ha) rfl rfl (ReadsAll.cons (Reads.str _ _) (ReadsAll.cons (Reads.str _ _) (ReadsAll.cons (Reads.int _ _) (ReadsAll.cons (Reads.int _ _) (ReadsAll.cons (Reads.int _ _) ReadsAll.nil)))))) (reads_tuple_at (N.get hb) rfl rfl (ReadsAll.cons (Reads.str _ _) (ReadsAll.cons (Reads.str _ _) (ReadsAll.cons (Reads.int _ _) (ReadsAll.cons (Reads.int _ _) (ReadsAll.cons (Reads.int _ _) ReadsAll.nil)))))) (by simp [SeqAt.shaped, PyData.canLay0, PyData.canLayAll0, PyData.depth, PyData.depthAll, hx, hy]) (by simp [SeqAt.shaped, PyData.canLay0, PyData.canLayAll0, PyData.depth, PyData.depthAll, hx, hy]) hu ?_
  have : (!PyData.eqv (.tuple [.str x, .str y, .int i, .int j, .int k]) (.tuple [.str x, .str y, .int i, .int j, .int k])) = false := by
    simp [PyData.eqv, PyData.eqvAll]
  rw [this]; exact h
end
/-- the told triple of a step, as data -/
def triD (q : Stp) : PyData := .tuple [.str (intS (lnS q)), .str (intS (cnS q)), .str (intS q.2)]
theorem reads_tri {h : Heap} {os : List (Addr × Obj)} (N : ∀ p ∈ os, h.get? p.1 = some p.2) {q : Stp} {v : Value} (x : TriAt os q v) : ∃ as, Reads h v (triD q) as := by
  obtain ⟨a, t1, t2, t3, rfl, hm⟩ := x
  exact ⟨_, reads_tuple_at (N _ hm) rfl rfl (ReadsAll.cons (Reads.str _ _) (ReadsAll.cons (Reads.str _ _) (ReadsAll.cons (Reads.str _ _) ReadsAll.nil)))⟩
theorem reads_tris {h : Heap} {os : List (Addr × Obj)} (N : ∀ p ∈ os, h.get? p.1 = some p.2) : ∀ {qs : List Stp} {us : List Value}, Tris os qs us → ∃ as, ReadsAll h us (qs.map triD) as
  | [], [], _ => ⟨_, ReadsAll.nil⟩
  | [], _ :: _, x => by have := x.1; simp at this
  | _ :: _, [], x => by have := x.1; simp at this
  | q :: qs, u :: us, x => by
    obtain ⟨as, r⟩ := reads_tri N (x.2 0 u q rfl rfl)
    obtain ⟨bs, r2⟩ := reads_tris N (qs := qs) (us := us) ⟨by have := x.1; simpa using this, fun k v q' a b => x.2 (k + 1) v q' (by simpa using a) (by simpa using b)⟩
    exact ⟨_, ReadsAll.cons r r2⟩
theorem shaped_tris : ∀ qs : List Stp, PyData.canLayAll0 (qs.map triD) = true ∧ PyData.depthAll (qs.map triD) ≤ 2
  | [] => ⟨rfl, by simp [PyData.depthAll]⟩
  | q :: r => by
    have := shaped_tris r
    have o : ∀ i : Int, PyData.strOk (intS i) = true := fun i => ok_lit _
    refine ⟨by simp [triD, PyData.canLayAll0, PyData.canLay0, this.1, o], ?_⟩
    have h2 := this.2
    simp only [List.map_cons, triD, PyData.depthAll, PyData.depth]
    omega
theorem eqv_tris : ∀ qs : List Stp, PyData.eqvAll (qs.map triD) (qs.map triD) = true
  | [] => rfl
  | q :: r => by
    have := eqv_tris r
    simp [PyData.eqvAll, this]
    simp [triD, PyData.eqv, PyData.eqvAll]
/-- `!=` of two lists of the told triples -/
theorem ne_tris {prog : Program} {w : World} {A : Around} {s : Shared} {Q E : Value → Shared → Prop} {h₀ : Heap} {L a b : Addr} {news os1 os2 : List (Addr × Obj)} {qs : List Stp} {us vs : List Value} {c1 c2 : Nat} (N : News h₀ L s.heap news)
    (ha : (a, W.listOf us.toArray c1) ∈ news) (hb : (b, W.listOf vs.toArray c2) ∈ news) (s1 : ∀ p ∈ os1, p ∈ news) (s2 : ∀ p ∈ os2, p ∈ news) (h1 : Tris os1 qs us) (h2 : Tris os2 qs vs) (hu : A.units + 64 < cLine)
    (h : Q (.bool false) s) : wpAny (model prog w) A (compareOp .NotEq (.ref a) (.ref b)) Q E s := by
  obtain ⟨as, r1⟩ := reads_tris (h := s.heap) (fun p hp => N.get (s1 p hp)) h1
  obtain ⟨bs, r2⟩ := reads_tris (h := s.heap) (fun p hp => N.get (s2 p hp)) h2
  have hsh : SeqAt.shaped (.list (qs.map triD)) = true := by
    have := shaped_tris qs
    simp [SeqAt.shaped, PyData.canLay0, PyData.depth, this.1]
    omega
  refine ne_dataH (reads_list_at (N.get ha) rfl rfl r1) (reads_list_at (N.get hb) rfl rfl r2) hsh hsh hu ?_
  have : (!PyData.eqv (.list (qs.map triD)) (.list (qs.map triD))) = false := by
    simp [PyData.eqv, eqv_tris]
  rw [this]; exact h
theorem ok_final {qs : List Stp} : ∀ {m : Str}, PyData.strOk m = true → PyData.strOk (finalW m qs) = true := by
  induction qs with
  | nil => intro m h; exact h
  | cons q r ih => intro m h; rw [finalW_cons]; exact ih (ok_wd h q)
/-- texts of a list: the k-th is the words of the first k + 1 steps -/
def Nxt (f : Str) (qs : List Stp) (i : Nat) (ys : List Value) : Prop := ys.length = i ∧ ∀ (k : Nat) (v : Value), ys[k]? = some v → ∃ t, v = .str (finalW f (qs.take (k + 1))) t
theorem Nxt.snoc {f : Str} {qs : List Stp} {i : Nat} {ys : List Value} (h : Nxt f qs i ys) (t : Tok) : Nxt f qs (i + 1) (ys ++ [.str (finalW f (qs.take (i + 1))) t]) := by
  refine ⟨by simp [h.1], fun k v a => ?_⟩
  by_cases hk : k < ys.length
  · rw [List.getElem?_append_left hk] at a
    exact h.2 k v a
  · have e : k = ys.length := by
      have := (List.getElem?_eq_some_iff.mp a).1
      simp at this; omega
    subst e
    have e1 : v = .str (finalW f (qs.take (i + 1))) t := by simpa using a.symm
    rw [e1, h.1]; exact ⟨t, rfl⟩
theorem pick_one (vs : List Value) : (slicePick vs.toArray (some 1) none none).toList = vs.drop 1 := by
  have := slicePick_from' vs.toArray 1
  rw [show ((1 : Nat) : Int) = 1 from rfl] at this
  rw [this]
theorem Nxt.get {f : Str} {qs : List Stp} {i k : Nat} {ys : List Value} {v : Value} (h : Nxt f qs i ys) (hv : ys[k]? = some v) : ∃ t, v = .str (finalW f (qs.take (k + 1))) t := h.2 k v hv
/-- the locals of law that are asked again -/
def mV (f : Str) (tf tl : Tok) (ws : Str) (tw : Tok) (R ER DU CL : Addr) (m' : Str → Option Value) : Str → Option Value :=
  fun z => if z = Str.ofString "told" then some (.str f tl) else if z = Str.ofString "first" then some (.str f tf) else if z = Str.ofString "words" then some (.str ws tw) else
    if z = Str.ofString "row" then some (.ref R) else if z = Str.ofString "errors" then some (.ref ER) else if z = Str.ofString "due" then some (.ref DU) else if z = Str.ofString "cells" then some (.ref CL) else m' z
theorem m_put7 {x1 x2 x3 x4 x5 x6 x7 : Str} {m : Str → Option Value} {v1 v2 v3 v4 v5 v6 v7 : Option Value} (h1 : m x1 = v1) (h2 : m x2 = v2) (h3 : m x3 = v3) (h4 : m x4 = v4) (h5 : m x5 = v5) (h6 : m x6 = v6) (h7 : m x7 = v7) :
    m = fun y => if y = x1 then v1 else if y = x2 then v2 else if y = x3 then v3 else if y = x4 then v4 else if y = x5 then v5 else if y = x6 then v6 else if y = x7 then v7 else m y := by
  funext z
  by_cases q1 : z = x1
  · rw [if_pos q1, q1, h1]
  by_cases q2 : z = x2
  · rw [if_neg q1, if_pos q2, q2, h2]
  by_cases q3 : z = x3
  · rw [if_neg q1, if_neg q2, if_pos q3, q3, h3]
  by_cases q4 : z = x4
  · rw [if_neg q1, if_neg q2, if_neg q3, if_pos q4, q4, h4]
  by_cases q5 : z = x5
  · rw [if_neg q1, if_neg q2, if_neg q3, if_neg q4, if_pos q5, q5, h5]
  by_cases q6 : z = x6
  · rw [if_neg q1, if_neg q2, if_neg q3, if_neg q4, if_neg q5, if_pos q6, q6, h6]
  by_cases q7 : z = x7
  · rw [if_neg q1, if_neg q2, if_neg q3, if_neg q4, if_neg q5, if_neg q6, if_pos q7, q7, h7]
  rw [if_neg q1, if_neg q2, if_neg q3, if_neg q4, if_neg q5, if_neg q6, if_neg q7]
theorem mV_of {h₀ h : Heap} {L : Addr} {m : Str → Option Value} {f ws : Str} {tf tl tw : Tok} {R ER DU CL : Addr} (F : Fr h₀ L h m) (h1 : m (Str.ofString "told") = some (.str f tl)) (h2 : m (Str.ofString "first") = some (.str f tf)) (h3 : m (Str.ofString "words") = some (.str ws tw))
    (h4 : m (Str.ofString "row") = some (.ref R)) (h5 : m (Str.ofString "errors") = some (.ref ER)) (h6 : m (Str.ofString "due") = some (.ref DU)) (h7 : m (Str.ofString "cells") = some (.ref CL)) : ∃ m', Fr h₀ L h (mV f tf tl ws tw R ER DU CL m') :=
  ⟨m, by have e : m = mV f tf tl ws tw R ER DU CL m := m_put7 h1 h2 h3 h4 h5 h6 h7; rw [← e]; exact F⟩
end Mine

-- part L6
open PySem PySem.W PyProof.Rows PySem.Calls PySem.Builtin
set_option Elab.async false
set_option maxRecDepth 100000
set_option maxHeartbeats 8000000
set_option rowWalk.seconds 0
namespace Mine
section
theorem c_law6 {w : World} {A : Around} {s : Shared} {Q : Value → Shared → Prop} {p : Program} {loose : List Str} {mg mb : Str → Option Value}
    {name qual : Str} {params : Arguments} {body : List Stmt} {scope : Scope} {dV kV doc pm cdv ct ov : Value} {an od : Option Addr} {osl : Array (Option Value)}
    (hfn : (hd.heap_39 w.params).lookup 102 = some ⟨ov, od, .func (fnOf name qual params body scope dV kV doc pm an cdv ct), osl⟩)
    {L ER DU CL R : Addr} {es ds cvs : List Value} {c1 c2 cc : Nat} {os : List (Addr × Obj)} {qs : List Stp} {f : Str} {tf tl tw : Tok} {m' : Str → Option Value} {h4 : Heap} {tk4 : Tok}
    (X : (hd.heap_39 w.params).In s.heap) (T : TopRead p loose mg mb s.heap) (hroom : A.depth + 100 < recursionLimit) (hu : A.units + 300 < cLine) (hh : A.handled = none)
    (hrows : Rows3 w os f qs es ds) (hqok : ∀ q ∈ qs, StepOk q ∧ PyData.strOk q.1 = true) (hql : qs.length = cvs.length) (hc12 : cvs.length ≤ 12) (hc1 : 1 ≤ cvs.length) (hfl : f.length ≤ 100) (hfo : PyData.strOk f = true)
    (F0 : Fr s.heap L h4 (mV f tf tl (finalW f qs) tw R ER DU CL m')) (N0 : News s.heap L h4 ((ER, W.listOf es.toArray c1) :: (DU, W.listOf ds.toArray c2) :: (CL, W.listOf cvs.toArray cc) :: os))
    (h : ∀ h' tk, Keeps s.heap h' → Q (.bool true) { s with heap := h', toks := tk }) :
    wpAny (model PySem.Challenge.rw_dm0193_03.row.prog w) (A.deeper (envOf qual scope L 102 cdv)) (execs (body.drop 6) (envOf qual scope L 102 cdv)) (fun fl s' => Q (match fl with | .ret v => v | _ => .none) s') (fun _ _ => False) {s with heap := h4, toks := tk4} := by
  have hlen := hrows.len
  have hsl := sizeLine_eq
  k_with_none
  k_with "eval ListComp" => (refine LCg.ListComp_U (F₀ := by k_asm) (by with_unfolding_all rfl) (by decide) (by rfl) (by decide) (by rfl) ?_)
  k_with "CompSrc" => (with_reducible refine stop ?_)
  k_with "subscriptTail Name Slice ref ref" => ((refine kmk_slice_lit (by k_asm) (by k_asm) (News.isList (by k_asm) (by k_mem)) (by kmk_part) (by kmk_part) (pick_one _) ?_ (by with_unfolding_all rfl) (by kmk_pure) (by rw [hsl, List.size_toArray]; omega)); intro _ _ _ _ l1; (try k_lt l1))
  k_with "binaryOp Add ref ref" => (with_reducible refine stop ?_)
  k_with "EltEndG" => (with_reducible refine stop ?_)
  k_with "exec For Tuple Call cons nil" => ((rename Fr _ _ _ _ => lF'); (with_unfolding_all refine' For_turns lF' ?_))
  k_with "getAttr ref" => (first | (refine getN (errK _) (by with_reducible assumption) (by with_reducible assumption) (by with_reducible assumption) (by k_mem) (by k_mem) (by rfl) (by k_get) (by rfl) ?_) | ((with_reducible show wpAny _ _ (getAttr (Value.ref _) (Str.ofString "args") _) _ _ _); refine getArgsN (errK _) (by with_reducible assumption) (by with_reducible assumption) (by with_reducible assumption) (by k_mem) ?_))
  k_with "call type:str" => ((with_reducible show wpAny _ _ (call _ [Value.ref _]) _ _ _); refine strN (errK _) (by simp only [Around.deeper_units]; omega) (by with_reducible assumption) (by with_reducible assumption) (by with_reducible assumption) (by k_mem) (by k_mem) ?_)
  k_with "compareOp NotEq ref ref" => (first | (refine ne_tup5 (by with_reducible assumption) (by k_mem) (by k_mem) (by simp only [Around.deeper_units]; omega) (by with_reducible assumption) (by with_reducible assumption) ?_) | (refine ne_tup1 (by with_reducible assumption) (by k_mem) (by k_mem) (by simp only [Around.deeper_units]; omega) (by with_reducible assumption) rfl ?_))
  k_with "compareOp NotEq str str" => (refine ne_strE (bne_self_eq_false _) ?_)
  k_with "call builtin:len" => (refine kun_lenL (k := (cvs.length : Int)) (News.isList (by with_reducible assumption) (by k_mem)) (by simp only [List.size_toArray] <;> omega) (by omega) ?_)
  k_with "call type:zip" => (with_reducible refine stop ?_)
  obtain ⟨hd', dp, fr, gd, un⟩ := A
  dsimp only at hh hroom hu
  subst hh
  have hfn0 := hfn
  cases hfn
  dsimp only [List.drop]
  revert X; k_fill; intro X
  unfold mV at F0
  w_strict (k_steps)
  unfold Stop
  (rename Fr _ _ _ _ => F1); (rename News _ _ _ _ => N1)
  obtain ⟨DS, rfl⟩ := nameHead N1
  have hdl : (ds.drop 1).length + 1 = cvs.length := by rw [List.length_drop]; omega
  refine LCg.CompSrc.ledger rfl F1 N1 (its := (ds.drop 1).toArray) (k := 0) (by k_mem) (by rw [sizeLine_eq, List.size_toArray]; omega) ?_
  intro g
  rw [List.size_toArray]
  refine comp_invG (n := (ds.drop 1).length) (fun i ys news => news = ((DS, W.listOf (ds.drop 1).toArray 0) :: (ER, W.listOf es.toArray c1) :: (DU, W.listOf ds.toArray c2) :: (CL, W.listOf cvs.toArray cc) :: os) ∧ Nxt f qs i ys) ?_ ?_ ?_ (ds.drop 1).length 0 [] _ (by omega) ⟨rfl, rfl, fun k v a => by simp at a⟩
  · rintro i ys news ⟨rfl, _⟩
    exact .inr ⟨_, .head _, rfl, _, rfl⟩
  · rintro i ys news v I oI C oC D m₂ h14 tk14 E' hi hP ⟨rfl, hNx⟩ hNs hm2 F14 N14 off14 ne14
    obtain ⟨q, hq⟩ : ∃ q, qs[i + 1]? = some q := ⟨_, List.getElem?_eq_getElem (by omega)⟩
    obtain ⟨e0, d0, _, hd0, _, ⟨a, u1, u2, u3, u4, u5, rfl, hmem⟩⟩ := hrows.get (i + 1) q hq
    have hv : v = .ref a := by
      have : ds[i + 1]? = some v := by simpa [Nat.add_comm] using hP
      rw [hd0] at this; exact (Option.some.inj this).symm
    subst hv
    have N15 : News s.heap L h14 ((a, due5 (finalW f (qs.take (i + 1))) q u1 u2 u3 u4 u5) :: (I, oI) :: (C, oC) :: (D, LCg.lst ys) :: (DS, W.listOf (ds.drop 1).toArray 0) :: (ER, W.listOf es.toArray c1) :: (DU, W.listOf ds.toArray c2) :: (CL, W.listOf cvs.toArray cc) :: os) := fun z hz => by
      rcases List.mem_cons.mp hz with rfl | hz
      · exact N14 _ (.tail _ (.tail _ (.tail _ (.tail _ (.tail _ (.tail _ (.tail _ hmem)))))))
      · exact N14 z hz
    clear F0 N0 F1 N1
    w_strict (k_steps)
    unfold Stop
    (rename Fr _ _ _ _ => F16)
    refine ⟨_, _, _, rfl, F16, fun z hz => N15 z (.tail _ hz), off14, rfl, hNx.snoc _⟩
  · rintro ys news ⟨rfl, hNx⟩
    intro D' h16 tk16 F16 N16 o16
    clear F0 N0 F1 N1
    w_strict (k_steps)
    unfold Stop
    (rename Fr _ _ _ _ => F17); (rename News _ _ _ _ => N17)
    obtain ⟨WL, rfl⟩ := nameHead N17
    obtain ⟨nx, hnx⟩ : ∃ nx, nx = ys ++ [Value.str (finalW f qs) tw] := ⟨_, rfl⟩
    have hNN : Nxt f qs cvs.length nx := by
      have := hNx.snoc (f := f) (qs := qs) tw
      rw [hdl, List.take_of_length_le (by omega)] at this
      rw [hnx]; exact this
    refine kmk_add_lit (zs := nx) F17 N17 (News.isList N17 (.tail _ (.head _))) (News.isList N17 (.head _)) hnx.symm ?_ (by have := hNx.1; simp only [List.length_cons, List.length_nil, sizeLine_eq]; omega)
    intro NX h18 F18 N18' l18
    have N18 : News s.heap L h18 ((NX, W.listOf nx.toArray 0) :: (ER, W.listOf es.toArray c1) :: (DU, W.listOf ds.toArray c2) :: (CL, W.listOf cvs.toArray cc) :: os) := fun z hz => by
      rcases List.mem_cons.mp hz with rfl | hz
      · exact N18' _ (.head _)
      · exact N18' z (.tail _ (.tail _ (.tail _ (.tail _ hz))))
    clear N17 N18' l18 o16
    w_strict (k_steps)
    unfold Stop
    (rename Fr _ _ _ _ => F19); (rename News _ _ _ _ => N19)
    refine for_Z3C (xs := es) (ys := ds) (zs := nx) (n := cvs.length) rfl (News.isList N19 (.tail _ (.head _))) (News.isList N19 (.tail _ (.tail _ (.head _)))) (News.isList N19 (.head _)) (by omega) (by omega) hNN.1
      (N19 _ (.tail _ (.head _))).2.1 (N19 _ (.tail _ (.tail _ (.head _)))).2.1 (N19 _ (.head _)).2.1 F19 N19
      (fun _ m => ∃ m' : Str → Option Value, m = fun z => if z = Str.ofString "errors" then some (.ref ER) else if z = Str.ofString "cells" then some (.ref CL) else m' z) ⟨_, m_put2 rfl rfl⟩ ?_ ?_
    · rintro i x y u m₁ h20 tk20 own TT hx hy hu ⟨m20, rfl⟩ hTT F20 N20
      have hi : i < qs.length := by have := (List.getElem?_eq_some_iff.mp hx).1; omega
      obtain ⟨q, hq⟩ : ∃ q, qs[i]? = some q := ⟨_, List.getElem?_eq_getElem hi⟩
      obtain ⟨e0, d0, he0, hd0, ⟨e, re, d, t, r1, r2, r3, r4, r5, sl, tz, k1, k2, k3, k4, k5, t1, t2, t3, t4, t5, hEe, hEt, hEd⟩, ⟨a, u1, u2, u3, u4, u5, rd, hmem⟩⟩ := hrows.get i q hq
      have ex : x = .ref e := by rw [he0] at hx; rw [← re]; exact (Option.some.inj hx).symm
      have ey : y = .ref a := by rw [hd0] at hy; rw [← rd]; exact (Option.some.inj hy).symm
      obtain ⟨tu, eu⟩ := hNN.get hu
      rw [List.take_add_one, hq, show (some q).toList = [q] from rfl, finalW_snoc] at eu
      obtain ⟨hqk, hqo⟩ := hqok q (List.mem_of_getElem? hq)
      have hmo : PyData.strOk (finalW f (qs.take i)) = true := ok_final hfo
      generalize finalW f (qs.take i) = M at *
      have hwo : PyData.strOk (wd M q) = true := ok_wd hmo q
      subst ex ey eu
      have N21 : News s.heap L h20 ((e, (⟨.ref 38, some d, .fields #[.ref t, r1, r2, r3, r4, r5], sl⟩ : Obj)) :: (t, ({ cls := .type "tuple", data := .seq #[.str (wd M q) tz] } : Obj)) ::
          (d, dictOf [ent w "msg" k1 (.str M t1), ent w "doc" k2 (.str q.1 t2), ent w "pos" k3 (.int q.2 t3), ent w "lineno" k4 (.int (lnS q) t4), ent w "colno" k5 (.int (cnS q) t5)] 5) :: (a, due5 M q u1 u2 u3 u4 u5) ::
          (((NX, W.listOf nx.toArray 0) :: (ER, W.listOf es.toArray c1) :: (DU, W.listOf ds.toArray c2) :: (CL, W.listOf cvs.toArray cc) :: os) ++ own)) := fun z hz => by
        have old : ∀ {z}, z ∈ os → h20.get? z.1 = some z.2 ∧ z.1 ≠ L ∧ s.heap.get? z.1 = none := fun hz => N20 _ (List.mem_append_left _ (.tail _ (.tail _ (.tail _ (.tail _ hz)))))
        rcases List.mem_cons.mp hz with rfl | hz
        · exact old hEe
        rcases List.mem_cons.mp hz with rfl | hz
        · exact old hEt
        rcases List.mem_cons.mp hz with rfl | hz
        · exact old hEd
        rcases List.mem_cons.mp hz with rfl | hz
        · exact old hmem
        · exact N20 z hz
      clear N20 N19 F19 hrows he0 hd0 hx hy hu hEe hEt hEd hmem hNx hNN
      w_strict (k_steps)
      (rename Fr _ _ _ _ => F22); (rename News _ _ _ _ => N22)
      exact ⟨_, _, _, rfl, F22, fun z hz => N22 z (.tail _ (.tail _ (.tail _ (.tail _ (.tail _ (.tail _ hz)))))), _, m_put2 rfl rfl⟩
    · rintro m₁ h20 tk20 ⟨m20, rfl⟩ F20 N20
      show wpAny _ _ _ _ _ _
      change Fr s.heap L h20 _ at F20
      change News s.heap L h20 _ at N20
      clear F19 N19
      w_strict (k_steps)
      rw [show ((cvs.length : Int) == (cvs.length : Int)) = true from beq_self_eq_true _]
      exact h _ _ F20.keep
end
end Mine

-- part L5
open PySem PySem.W PyProof.Rows PySem.Calls PySem.Builtin
set_option Elab.async false
set_option maxRecDepth 100000
set_option maxHeartbeats 8000000
set_option rowWalk.seconds 0
namespace Mine
section
theorem c_law5 {w : World} {A : Around} {s : Shared} {Q : Value → Shared → Prop} {p : Program} {loose : List Str} {mg mb : Str → Option Value}
    {name qual : Str} {params : Arguments} {body : List Stmt} {scope : Scope} {dV kV doc pm cdv ct ov : Value} {an od : Option Addr} {osl : Array (Option Value)}
    (hfn : (hd.heap_39 w.params).lookup 102 = some ⟨ov, od, .func (fnOf name qual params body scope dV kV doc pm an cdv ct), osl⟩)
    {L ER DU CL R : Addr} {es ds us cvs : List Value} {c1 c2 c9 cc : Nat} {os : List (Addr × Obj)} {qs : List Stp} {f : Str} {tf tl tw : Tok} {m' : Str → Option Value} {h4 : Heap} {tk4 : Tok}
    (X : (hd.heap_39 w.params).In s.heap) (T : TopRead p loose mg mb s.heap) (hroom : A.depth + 100 < recursionLimit) (hu : A.units + 300 < cLine) (hh : A.handled = none)
    (hrows : Rows3 w os f qs es ds) (hT9 : Tris os qs us) (hqok : ∀ q ∈ qs, StepOk q ∧ PyData.strOk q.1 = true) (hql : qs.length = cvs.length) (hc12 : cvs.length ≤ 12) (hc1 : 1 ≤ cvs.length) (hfl : f.length ≤ 100) (hfo : PyData.strOk f = true)
    (F10 : Fr s.heap L h4 (mV f tf tl (finalW f qs) tw R ER DU CL m')) (N10 : News s.heap L h4 ((R, W.listOf us.toArray c9) :: (ER, W.listOf es.toArray c1) :: (DU, W.listOf ds.toArray c2) :: (CL, W.listOf cvs.toArray cc) :: os))
    (h : ∀ h' tk, Keeps s.heap h' → Q (.bool true) { s with heap := h', toks := tk }) :
    wpAny (model PySem.Challenge.rw_dm0193_03.row.prog w) (A.deeper (envOf qual scope L 102 cdv)) (execs (body.drop 5) (envOf qual scope L 102 cdv)) (fun fl s' => Q (match fl with | .ret v => v | _ => .none) s') (fun _ _ => False) {s with heap := h4, toks := tk4} := by
  k_with_none
  k_with "eval ListComp" => (refine LCg.ListComp_U (F₀ := by k_asm) (by with_unfolding_all rfl) (by decide) (by rfl) (by decide) (by rfl) ?_)
  k_with "CompSrc" => (with_reducible refine stop ?_)
  k_with "compareOp NotEq str str" => (refine ne_strE (bne_self_eq_false _) ?_)
  k_with "compareOp NotEq ref ref" => (with_reducible refine stop ?_)
  k_with "eval Name" => (refine ld_builtR (by k_asm) (by k_asm) (by k_asm) (by k_is) (by boot_by_name) (by decide) ?_)
  k_with "call type:str" => (refine str_intE (by with_reducible assumption) ?_; intro _ _)
  k_with "EltEndG" => (with_reducible refine stop ?_)
  k_with "execs nil" => (with_reducible refine stop ?_)
  obtain ⟨hd', dp, fr, gd, un⟩ := A
  dsimp only at hh hroom hu
  subst hh
  have hfn0 := hfn
  cases hfn
  dsimp only [List.drop]
  revert X; k_fill; intro X
  unfold mV at F10
  have hlen := hrows.len
  w_strict (k_steps)
  unfold Stop
  refine LCg.CompSrc.ledger rfl F10 N10 (its := ds.toArray) (k := c2) (by k_mem) (by rw [sizeLine_eq, List.size_toArray]; omega) ?_
  intro g
  rw [List.size_toArray]
  refine comp_invG (n := ds.length) (fun i ys news => ∃ osC, news = osC ++ ((R, W.listOf us.toArray c9) :: (ER, W.listOf es.toArray c1) :: (DU, W.listOf ds.toArray c2) :: (CL, W.listOf cvs.toArray cc) :: os) ∧ Tris osC (qs.take i) ys) ?_ ?_ ?_ ds.length 0 [] _ (by omega) ⟨[], rfl, rfl, fun k v q a b => by simp at a⟩
  · rintro i ys news ⟨osC, rfl, _⟩
    exact .inr ⟨_, List.mem_append_right _ (.tail _ (.tail _ (.head _))), rfl, _, rfl⟩
  · rintro i ys news v I oI C oC D m₂ h14 tk14 E' hi hP ⟨osC, rfl, hTr⟩ hNs hm2 F14 N14 off14 ne14
    obtain ⟨q, hq⟩ : ∃ q, qs[i]? = some q := ⟨_, List.getElem?_eq_getElem (by omega)⟩
    obtain ⟨e0, d0, _, hd0, _, ⟨a, u1, u2, u3, u4, u5, rfl, hmem⟩⟩ := hrows.get i q hq
    have hv : v = .ref a := by
      have : ds[i]? = some v := by simpa using hP
      rw [hd0] at this; exact (Option.some.inj this).symm
    subst hv
    have N15 : News s.heap L h14 ((a, due5 (finalW f (qs.take i)) q u1 u2 u3 u4 u5) :: (I, oI) :: (C, oC) :: (D, LCg.lst ys) :: (osC ++ ((R, W.listOf us.toArray c9) :: (ER, W.listOf es.toArray c1) :: (DU, W.listOf ds.toArray c2) :: (CL, W.listOf cvs.toArray cc) :: os))) := fun z hz => by
      rcases List.mem_cons.mp hz with rfl | hz
      · exact N14 _ (.tail _ (.tail _ (.tail _ (List.mem_append_right _ (.tail _ (.tail _ (.tail _ (.tail _ hmem))))))))
      · exact N14 z hz
    have hok := (hqok q (List.mem_of_getElem? hq)).1
    have k1 := hok.l1
    have k2 := hok.l2
    have k3 := hok.l3
    clear F10 N10 N14
    w_strict (k_steps)
    unfold Stop
    (rename Fr _ _ _ _ => F16); (rename News _ _ _ _ => N16); (rename (_ < _ ∧ _ < _ ∧ _ < _ ∧ _ < _ ∧ AllLt _ _) => l16)
    rename_i x1 _ x2 _ x3 _ Dt _
    refine ⟨_, _, (Dt, tup3 (intS (lnS q)) (intS (cnS q)) (intS q.2) x1 x2 x3) :: (osC ++ ((R, W.listOf us.toArray c9) :: (ER, W.listOf es.toArray c1) :: (DU, W.listOf ds.toArray c2) :: (CL, W.listOf cvs.toArray cc) :: os)), rfl, F16, fun z hz => N16 z ?_, off3_cons off14 (Nat.ne_of_gt l16.2.1) (Nat.ne_of_gt l16.2.2.1) (Nat.ne_of_gt l16.2.2.2.1), (Dt, tup3 (intS (lnS q)) (intS (cnS q)) (intS q.2) x1 x2 x3) :: osC, rfl, ?_⟩
    · rcases List.mem_cons.mp hz with rfl | hz
      · exact .tail _ (.tail _ (.head _))
      rcases List.mem_cons.mp hz with rfl | hz
      · exact .tail _ (.tail _ (.tail _ (.head _)))
      rcases List.mem_cons.mp hz with rfl | hz
      · exact .tail _ (.tail _ (.tail _ (.tail _ (.head _))))
      rcases List.mem_cons.mp hz with rfl | hz
      · exact .head _
      · exact .tail _ (.tail _ (.tail _ (.tail _ (.tail _ hz))))
    · rw [List.take_add_one, hq]
      exact (hTr.sub fun p hp => .tail _ hp).snoc ⟨_, _, _, _, rfl, .head _⟩
  · rintro ys news ⟨osC, rfl, hTr⟩
    intro D' h16 tk16 F16 N16 o16
    rw [List.take_of_length_le (by omega)] at hTr
    clear F10 N10
    w_strict (k_steps)
    unfold Stop
    (rename Fr _ _ _ _ => F17); (rename News _ _ _ _ => N17)
    refine ne_tris N17 (.tail _ (List.mem_append_right _ (.head _))) (.head _) (os1 := os) (os2 := osC) (fun p hp => .tail _ (List.mem_append_right _ (.tail _ (.tail _ (.tail _ (.tail _ hp)))))) (fun p hp => .tail _ (List.mem_append_left _ hp)) hT9 hTr (by simp only [Around.deeper_units]; omega) ?_
    have N18 : News s.heap L h16 ((ER, W.listOf es.toArray c1) :: (DU, W.listOf ds.toArray c2) :: (CL, W.listOf cvs.toArray cc) :: os) := fun p hp => N17 p (.tail _ (List.mem_append_right _ (.tail _ hp)))
    clear N17 o16
    w_strict (k_steps)
    unfold Stop
    refine wpAny_execs_nil ?_
    exact c_law6 (s := s) (Q := Q) hfn0 X T hroom hu rfl hrows hqok hql hc12 hc1 hfl hfo F17 N18 h
end
end Mine

-- part L3
open PySem PySem.W PyProof.Rows PySem.Calls PySem.Builtin
set_option Elab.async false
set_option maxRecDepth 100000
set_option maxHeartbeats 8000000
set_option rowWalk.seconds 0
namespace Mine
section
theorem c_law {w : World} {A : Around} {s : Shared} {Q E : Value → Shared → Prop} {p : Program} {loose : List Str} {mg mb : Str → Option Value} {l : Addr} {vs : List Value} {ns : List Int}
    (X : (hd.heap_39 w.params).In s.heap) (T : TopRead p loose mg mb s.heap) (hfr : A.frames = some []) (hroom : A.depth + 100 < recursionLimit) (hu : A.units + 300 < cLine) (hh : A.handled = none)
    (hl : s.heap.IsList l vs.toArray) (hi : IntsAre vs ns)
    (h : ∀ h' tk, Keeps s.heap h' → Q (.bool true) { s with heap := h', toks := tk }) :
    wpAny (model PySem.Challenge.rw_dm0193_03.row.prog w) A (call (.ref 102) [.ref l]) Q E s := by
  k_with_none
  k_with "call ref" => (with_reducible refine stop ?_)
  k_with "execs cons" => ((with_reducible show wpAny _ _ (execs (Stmt.If _ _ _ _ :: _) _) _ _ _); with_reducible refine stop ?_)
  obtain ⟨hd', dp, fr, gd, un⟩ := A
  dsimp only at hh hroom hu hfr
  subst hh
  revert X; k_fill; intro X
  refine enterK (binds := [("script", .ref l)]) X T (by rfl) (by rfl) (by show dp < _; omega) (BindsTo.of_eq rfl) (locs rfl) ?_
  intro L h₁ F N
  w_strict (k_steps)
  unfold Stop
  refine c_cells (X.keeps F.keep) (T.keeps F.keep) (by show dp + 1 + 3 < _; omega) rfl (hl.at fun o e => F.keep _ _ e) hi ?_
  intro CL h2 tk2 cvs cs cc hk2 hf2 hg2 hCi hc3 hc12 hCe
  obtain ⟨F2, N2, _⟩ := N_add F N hk2 hf2 hg2
  clear F N hk2 hf2 hg2
  w_strict (k_steps)
  unfold Stop
  (rename Fr _ _ _ _ => F3); (rename News _ _ _ _ => N3)
  refine c_first (X.keeps F3.keep) (T.keeps F3.keep) (by show dp + 1 + 1 < _; omega) ?_
  intro f h4 tk4 t4 hfl hfo hk4
  replace F3 := F3.keeps hk4
  replace N3 := N3.grown hk4
  w_strict (k_steps)
  unfold Stop
  (rename Fr _ _ _ _ => F5); (rename News _ _ _ _ => N5); (rename (_ < _ ∧ _ < _ ∧ _ < _) => l5); (rename (_ < _ ∧ _ < _) => l6)
  obtain ⟨DU, rfl⟩ := nameHead (news_tail N5)
  obtain ⟨ER, rfl⟩ := nameHead (news_tail (news_tail N5))
  have hED : ER ≠ DU := Nat.ne_of_lt l6.1
  have hCD : CL ≠ DU := Nat.ne_of_lt l6.2
  (rename (CL < ER) => l7)
  have hCE : CL ≠ ER := Nat.ne_of_lt l7
  have hE5 := N5 (ER, _) (.tail _ (.tail _ (.head _)))
  have hD5 := N5 (DU, _) (.tail _ (.head _))
  have hC5 := N5 (CL, _) (.tail _ (.tail _ (.tail _ (.head _))))
  obtain ⟨oL, esL, epL, hLg, hLd, hLr⟩ := id F5.ns
  have hs0L : s.heap.get? L = none := Heap.get?_none_of_le F5.above
  have hmL : ∀ {b : Addr}, b ≠ L → b ∉ [L] := fun h1 h2 => h1 (List.mem_singleton.mp h2)
  show wpAny _ _ (call _ [_, _, Value.int ((0 : Nat) : Int) _, _, _]) _ _ _
  refine c_row (b₀ := s.heap) X T hCi hc12 hCe cs.length (FL := [(L, oL)]) (es := []) (ds := []) (as := []) (by omega) (Around.frames_deeper hfr) ⟨rfl, ?_, ?_, ?_⟩ (CalmL.none rfl) (by show dp + 1 + 2 * cs.length + 10 < _; omega) (by show un + 3 + 3 * cs.length + 50 < _; omega) F5.keep ?_ hE5.2.2 hD5.2.2
    (hmL hE5.2.1) (hmL hD5.2.1) (hmL hC5.2.1) hED hCE hCD ⟨_, hC5.1, rfl, _, rfl⟩ hE5.1 hD5.1 rfl rfl (by omega) hfo ?_
  · intro q hq
    rw [List.mem_singleton.mp hq]; exact hLg
  · intro q hq vs z
    rw [List.mem_singleton.mp hq] at z
    rw [hLd] at z; cases z
  · intro ev hev
    rw [List.mem_singleton.mp hev]
    exact ⟨show ScopeKind.function ≠ ScopeKind.module by decide, L, rfl⟩
  · intro b hb
    rw [List.mem_singleton.mp (show b ∈ [L] from hb)]; exact hs0L
  intro h7 tk7 t7 qs es' ds' os hql HP
  have F7 := fr_moved (h' := h7) F5 (fun b o q q2 => HP.keep b o q2 (hmL fun n => by rw [n, hs0L] at q; cases q) (fun n => by rw [n, hE5.2.2] at q; cases q) (fun n => by rw [n, hD5.2.2] at q; cases q)) (fun o q => HP.slots L (.head _) o q)
  obtain ⟨c1, hE7⟩ := HP.er
  obtain ⟨c2, hD7⟩ := HP.du
  have N7 : News s.heap L h7 ((ER, W.listOf es'.toArray c1) :: (DU, W.listOf ds'.toArray c2) :: (CL, W.listOf cvs.toArray cc) :: os) := fun q hq => by
    rcases List.mem_cons.mp hq with rfl | hq
    · exact ⟨hE7, hE5.2⟩
    rcases List.mem_cons.mp hq with rfl | hq
    · exact ⟨hD7, hD5.2⟩
    rcases List.mem_cons.mp hq with rfl | hq
    · exact ⟨HP.keep _ _ hC5.1 (hmL hC5.2.1) hCE hCD, hC5.2⟩
    obtain ⟨a1, a2⟩ := HP.new q hq
    refine ⟨a2, fun n => ?_, ?_⟩
    · rw [n] at a1; exact absurd (hLg.symm.trans a1) (by simp)
    · cases z : s.heap.get? q.1 with
      | none => rfl
      | some o => exact absurd ((F5.keep _ _ z).symm.trans a1) (by simp)
  have hrows := HP.rows
  have hqok := HP.ok
  clear HP hE7 hD7 hLg hLd hLr hE5 hD5 hC5 F5 N5 l5
  w_strict (k_steps)
  unfold Stop
  (rename Fr _ _ _ _ => F8); (rename News _ _ _ _ => N8)
  refine c_apart (X.keeps F8.keep) (T.keeps F8.keep) (by show dp + 1 + 6 < _; omega) rfl (fun q hq => (hqok q hq).1) (by omega) hql hc12 ?_
  intro r h9 tk9 t9 R us c9 os9 hk9 hn9 hT9
  have F9 := F8.keeps hk9
  have N9 : News s.heap L h9 ((r, ({ cls := .type "tuple", data := .seq #[.str f t9, .ref R] } : Obj)) :: (R, W.listOf us.toArray c9) :: (ER, W.listOf es'.toArray c1) :: (DU, W.listOf ds'.toArray c2) :: (CL, W.listOf cvs.toArray cc) :: (os ++ os9)) := fun q hq => by
    have old : q ∈ (ER, W.listOf es'.toArray c1) :: (DU, W.listOf ds'.toArray c2) :: (CL, W.listOf cvs.toArray cc) :: os → h9.get? q.1 = some q.2 ∧ q.1 ≠ L ∧ s.heap.get? q.1 = none := fun hq => ⟨hk9 _ _ (N8 q hq).1, (N8 q hq).2⟩
    have new : q ∈ (r, ({ cls := .type "tuple", data := .seq #[.str f t9, .ref R] } : Obj)) :: (R, W.listOf us.toArray c9) :: os9 → h9.get? q.1 = some q.2 ∧ q.1 ≠ L ∧ s.heap.get? q.1 = none := fun hq => by
      obtain ⟨a1, a2⟩ := hn9 q hq
      refine ⟨a2, fun n => ?_, ?_⟩
      · obtain ⟨oL, _, _, hL, _⟩ := F8.ns
        rw [n, hL] at a1; cases a1
      · cases z : s.heap.get? q.1 with
        | none => rfl
        | some o => have := F8.keep _ _ z; rw [a1] at this; cases this
    rcases List.mem_cons.mp hq with rfl | hq
    · exact new (.head _)
    rcases List.mem_cons.mp hq with rfl | hq
    · exact new (.tail _ (.head _))
    rcases List.mem_cons.mp hq with rfl | hq
    · exact old (.head _)
    rcases List.mem_cons.mp hq with rfl | hq
    · exact old (.tail _ (.head _))
    rcases List.mem_cons.mp hq with rfl | hq
    · exact old (.tail _ (.tail _ (.head _)))
    rcases List.mem_append.mp hq with hq | hq
    · exact old (.tail _ (.tail _ (.tail _ hq)))
    · exact new (.tail _ (.tail _ hq))
  have N10 : News s.heap L h9 ((r, ({ cls := .type "tuple", data := .seq #[.str f t9, .ref R] } : Obj)) :: (R, W.listOf us.toArray c9) :: (ER, W.listOf es'.toArray c1) :: (DU, W.listOf ds'.toArray c2) :: (CL, W.listOf cvs.toArray cc) :: (os ++ os9)) := N9
  clear F8 N8 hk9 hn9 N9
  w_strict (k_steps)
  unfold Stop
  (rename Fr _ _ _ _ => F11); (rename News _ _ _ _ => N11)
  obtain ⟨m11, F12⟩ := mV_of F11 rfl rfl rfl rfl rfl rfl rfl
  have hvl := hCi.length
  refine c_law5 (s := s) (cvs := cvs) (c1 := c1) (c2 := c2) (c9 := c9) (cc := cc) (os := os ++ os9) (A := ⟨none, dp, fr, gd, un⟩) (by rfl) X T hroom hu rfl (hrows.sub ?_) (hT9.sub ?_) hqok (by omega) (by omega) (by omega) (by omega) hfo F12 (nsub N11 ?_) h
  · exact fun p hp => List.mem_append_left _ hp
  · exact fun p hp => List.mem_append_right _ hp
  · exact fun p hp => .tail _ hp
end
end Mine

-- part B3
open PySem PySem.W PyProof.Rows PySem.Calls PyProof.V PySem.Spec
set_option Elab.async false
set_option maxRecDepth 100000
set_option maxHeartbeats 8000000
set_option rowWalk.seconds 0
namespace Mine
theorem lawHolds : PySem.Challenge.rw_dm0193_03.Holds := by
  refine Mine.hd ?_
  k_fill
  intro w s₀ s₁ mg mb G Y fa o pm cd doc dV kV ho hd hcd hD hmg hg args vals as hpre hlay hrd hwl hlo
  have KX := kIn_of Y
  refine Ground.open G ?_
  intro T B D TE TW
  try (refine guard_noD D (by decide +kernel) ?_; clear D)
  obtain ⟨_, _, M⟩ := bmod_of_top T
  wrow_args hpre hlay hrd hwl hlo
  rename_i ns _ _ _ _ _ _ _ S vs _ hL _ _ _ hI _ hcond _
  have e83 : mg (Str.ofString "law") = some (.ref 102) := mg_of KX T.g (by k_is)
  have hfa : fa = 102 := by
    have h1 : mg (Str.ofString "law") = some (.ref fa) := hmg
    rw [e83] at h1; cases h1; rfl
  subst hfa
  show wpAny _ callerA (call (Value.ref 102) [Value.ref S]) _ _ s₁
  refine c_law KX (topRead_of T) rfl (by decide) (by decide) rfl hL hI ?_
  intro h' tk hk
  refine ⟨.inl ⟨.bool true, ofPy (.bool true), [], rfl, raisesW_false (by wrow_none_raised), ?_, ?_, unshared_nil⟩, OldK.of_keep hk, rfl, AllBare.of_eq hg⟩
  · exact readsW_of_reads (Reads.bool true)
  · exact postW_of (by wrow_shape) (by wtm_val) (by str_meet; first | done | w_fin)
end Mine


theorem PySem.Challenge.cw_dm0193_03_holds : PySem.Challenge.rw_dm0193_03.Holds :=
  Mine.lawHolds
