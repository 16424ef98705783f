import PyProof.Rows.All
import Wide.All
import OpenK.AllK
import Wide.FinOn
import PySem.Challenge.RW_dm0193_02

-- part Top02
open PySem PySem.W PyProof.Rows
set_option Elab.async false
set_option maxRecDepth 100000
set_option maxHeartbeats 8000000
namespace Mine
open_top hd for PySem.Challenge.rw_dm0193_02
end Mine

open PySem PySem.W PyProof.Rows
set_option compiler.extract_closed false
local macro_rules | `(tactic| walk_at $s:str) => `(tactic| k_extra $s)

-- part Cm1
open PySem PySem.W PyProof.Rows PySem.Calls
set_option Elab.async false
set_option maxRecDepth 100000
set_option maxHeartbeats 8000000
namespace Mine
open PySem.Builtin PySem.Builtin.Str

abbrev Keeps (h h' : Heap) : Prop := ∀ b o, h.get? b = some o → h'.get? b = some o

/-- the right bound of a search -/
def hiOf (len : Nat) (p : Int) : Nat := min (max 0 (if p < 0 then p + len else p)).toNat len
def cnt (x y : Str) (p : Int) : Int := ((occurrences x y 0 (hiOf x.length p) (x.length + 1)).length : Int)
def rfd (x y : Str) (p : Int) : Int := match lastOccurrence x y 0 (hiOf x.length p) with | some i => (i : Int) | none => -1

theorem gives_count4 (x y : Str) (p : Int) (t u v z : Tok) : Gives («str.count» ⟨[.str x t, .str y u, .int 0 v, .int p z], []⟩) (.int (cnt x y p)) := by
  show Gives (retInt (occurrences x y 0 (hiOf x.length p) (x.length + 1)).length) _
  exact .of_eq rfl
theorem gives_rfind4 (x y : Str) (p : Int) (t u v z : Tok) : Gives («str.rfind» ⟨[.str x t, .str y u, .int 0 v, .int p z], []⟩) (.int (rfd x y p)) := by
  show Gives (match lastOccurrence x y 0 (hiOf x.length p) with | some k => retInt k | none => (do rule "str.rfind.not-found"; retInt (-1))) _
  unfold rfd
  cases lastOccurrence x y 0 (hiOf x.length p) with
  | none => exact .rule (.of_eq rfl)
  | some k => exact .of_eq rfl
section
variable {prog : Program} {w : World} {A : Around} {E : Value → Shared → Prop} {s : Shared} {x y : Str} {t u v z : Tok} {p : Int} {Q : Value → Shared → Prop}
theorem call_count4 (hq : Q (.int (cnt x y p) s.toks) { s with toks := s.toks + 1 }) : wpAny (model prog w) A (call (.builtin "str.count") [.str x t, .str y u, .int 0 v, .int p z]) Q E s :=
  call_gives F.slot_str_count (typeIs_str _ _ _) F.entry_str_count (F.args_str_count_4 _ _ _ _) (gives_count4 x y p t u v z) hq
theorem call_rfind4 (hq : Q (.int (rfd x y p) s.toks) { s with toks := s.toks + 1 }) : wpAny (model prog w) A (call (.builtin "str.rfind") [.str x t, .str y u, .int 0 v, .int p z]) Q E s :=
  call_gives F.slot_str_rfind (typeIs_str _ _ _) F.entry_str_rfind (F.args_str_rfind_4 _ _ _ _) (gives_rfind4 x y p t u v z) hq
end

/-- the text of an int -/
def intS (n : Int) : Str := Str.ofString (toString n)

def wordsOf (msg : Str) (l c p : Int) : Str := msg ++ Str.ofString ": line " ++ intS l ++ Str.ofString " column " ++ intS c ++ Str.ofString " (char " ++ intS p ++ Str.ofString ")"

theorem intS_len {n : Int} (h : n.natAbs.log2 < 1920) : (intS n).length ≤ 2000 := by
  have e := int_text_length_le (k := 1920) (by decide) h
  unfold intS
  rw [PySem.ofString_length]; omega

theorem intS_cps (n : Int) : (intS n).cps.toList = (toString n).toList.map Char.toNat := by
  unfold intS; rw [Str.ofString_eq_toList]
theorem toString_neg {n : Int} (hn : n < 0) : toString n = "-" ++ toString ((n.natAbs : Nat) : Int) := by
  obtain ⟨k, rfl⟩ : ∃ k : Nat, n = Int.negSucc k := by
    cases n with
    | ofNat a => exact absurd hn (by have := Int.natCast_nonneg a; simp only [Int.ofNat_eq_natCast]; omega)
    | negSucc k => exact ⟨k, rfl⟩
  rfl
theorem percentInt_text (c : Percent) (h1 : c.alt = false) (h2 : c.type = 100) (h3 : c.prec = none) (n : Int) :
    percentInt c (decide (n < 0)) (intS ((n.natAbs : Nat) : Int)).cps.toList = (intS n).cps.toList := by
  unfold percentInt
  by_cases hn : n < 0
  · simp only [intS_cps, toString_neg hn]
    simp [h1, h2, h3, hn]
  · have en : ((n.natAbs : Nat) : Int) = n := Int.natAbs_of_nonneg (by omega)
    simp [h1, h2, h3, hn, en]

section
variable {M : Model} {A : Around} {E : Value → Shared → Prop} {s : Shared} {l : List Nat} {p : List Value} {r : List Nat}
  {f : Nat → List Value × Writer × List Nat → Sem (ForInStep (List Value × Writer × List Nat))} {Q : List Value × Writer × List Nat → Shared → Prop}
  {w : Writer} {T : PySem.Str} {N : Nat} {o : Option Value}
theorem after_intAny {c : Percent} {n : Int} {d : List Nat} (g : KPc.Good w T N) (h1 : c.alt = false) (h2 : c.type = 100) (h3 : c.prec = none) (hn : n.natAbs.log2 < 1920)
    (hd : d = (PySem.Str.ofString (toString ((n.natAbs : Nat) : Int))).cps.toList) (ho : o = none) (h : ∀ w', KPc.Good w' (T ++ intS n) (N + 2000) → wpAny M A (forIn l (p, w', r) f) Q E s) :
    wpAny M A (forIn l (p, w.add ⟨(percentInt c (decide (n < 0)) d).toArray⟩ o, r) f) Q E s := by
  rw [hd]
  rw [show (PySem.Str.ofString (toString ((n.natAbs : Nat) : Int))) = intS ((n.natAbs : Nat) : Int) from rfl, percentInt_text c h1 h2 h3]
  exact KPc.after_str g (intS_len hn) (KPc.obj_none ho) h
end

theorem meets_words {b : Addr} {msg : Str} {l c p : Int} {t t1 t2 t3 t4 : Tok} (hm : msg.length ≤ 1000000) (hl : l.natAbs.log2 < 1920) (hc : c.natAbs.log2 < 1920) (hp : p.natAbs.log2 < 1920) :
    Meets («str.__mod__» ⟨[.str (Str.mk #[37, 115, 58, 32, 108, 105, 110, 101, 32, 37, 100, 32, 99, 111, 108, 117, 109, 110, 32, 37, 100, 32, 40, 99, 104, 97, 114, 32, 37, 100, 41]) t, .ref b], []⟩)
      (fun _ R s => IsTup s.heap b #[.str msg t1, .int l t2, .int c t3, .int p t4] ∧ ∀ t' k, R (.ok (.ret (.str (wordsOf msg l c p) t'))) { s with toks := k }) := by
  apply KPt.meets_tup
  intro _ _ _ _ _ _ kptH hfin
  obtain ⟨kptO, kptG, kptC, kptN, kptD⟩ := kptH
  rw [KPt.entry_is_r]
  unfold Builtin.Str.percentFormat
  refine wpAny_bind (wpAny_isInstance (T := "tuple") ⟨kptO, kptG, kptC⟩ KPt.sub_tt ?_)
  refine wpAny_bind (KPt.asStr_ref kptG kptD ?_)
  refine wpAny_bind (KPt.fills_ref ⟨kptO, kptG, kptC⟩ ?_)
  intro _
  kpc_if
  refine wpAny_bind (wpAny_seqItems kptG kptD ?_)
  refine wpAny_bind (wpAny_pure ?_)
  refine wpAny_bind ?_
  rw [KPc.range_list]
  refine KPc.start ?_
  intro _ _
  -- %s
  refine KPc.turn ?_; kpc_check; (repeat kpc_if)
  refine wpAny_bind ?_; refine wpAny_holding ?_; (repeat kpc_if)
  refine wpAny_bind ?_; kpc_if; refine wpAny_of_eq (KPc.strOf_str _ _) ?_; refine wpAny_bind (wpAny_of_eq (a := some _) rfl ?_)
  refine wpAny_pure ?_; refine wpAny_pure ?_
  refine KPc.after_str0 (by kpc_g) hm (by kpc_obj) ?_; intro _ _
  -- ": line "
  refine KPc.turn ?_; kpc_check; (repeat kpc_if)
  refine wpAny_pure ?_; refine KPc.after_add (by kpc_g) (by kpc_text) (by kpc_obj) ?_; intro _ _
  -- %d
  refine KPc.turn ?_; kpc_check; (repeat kpc_if)
  refine wpAny_bind ?_; refine wpAny_holding ?_; (repeat kpc_if)
  refine wpAny_bind (wpAny_of_eq (a := _) rfl ?_); (repeat kpc_if)
  refine wpAny_bind (wpAny_mkInt ?_)
  refine wpAny_bind (call_gives F.slot_int_repr (typeIs_int _ _ _) F.entry_int_repr (F.args_int_repr_1 _) (gives_int_repr _ _ (KPt.hd2 hl)) ⟨int_text_fits (KPt.hd2 hl), ?_⟩)
  refine wpAny_bind (wpAny_of_eq (a := some _) rfl ?_)
  refine wpAny_pure ?_; refine wpAny_pure ?_
  refine after_intAny (by kpc_g) rfl rfl rfl hl rfl (by kpc_none) ?_; intro _ _
  -- " column "
  refine KPc.turn ?_; kpc_check; (repeat kpc_if)
  refine wpAny_pure ?_; refine KPc.after_add (by kpc_g) (by kpc_text) (by kpc_obj) ?_; intro _ _
  -- %d
  refine KPc.turn ?_; kpc_check; (repeat kpc_if)
  refine wpAny_bind ?_; refine wpAny_holding ?_; (repeat kpc_if)
  refine wpAny_bind (wpAny_of_eq (a := _) rfl ?_); (repeat kpc_if)
  refine wpAny_bind (wpAny_mkInt ?_)
  refine wpAny_bind (call_gives F.slot_int_repr (typeIs_int _ _ _) F.entry_int_repr (F.args_int_repr_1 _) (gives_int_repr _ _ (KPt.hd2 hc)) ⟨int_text_fits (KPt.hd2 hc), ?_⟩)
  refine wpAny_bind (wpAny_of_eq (a := some _) rfl ?_)
  refine wpAny_pure ?_; refine wpAny_pure ?_
  refine after_intAny (by kpc_g) rfl rfl rfl hc rfl (by kpc_none) ?_; intro _ _
  -- " (char "
  refine KPc.turn ?_; kpc_check; (repeat kpc_if)
  refine wpAny_pure ?_; refine KPc.after_add (by kpc_g) (by kpc_text) (by kpc_obj) ?_; intro _ _
  -- %d
  refine KPc.turn ?_; kpc_check; (repeat kpc_if)
  refine wpAny_bind ?_; refine wpAny_holding ?_; (repeat kpc_if)
  refine wpAny_bind (wpAny_of_eq (a := _) rfl ?_); (repeat kpc_if)
  refine wpAny_bind (wpAny_mkInt ?_)
  refine wpAny_bind (call_gives F.slot_int_repr (typeIs_int _ _ _) F.entry_int_repr (F.args_int_repr_1 _) (gives_int_repr _ _ (KPt.hd2 hp)) ⟨int_text_fits (KPt.hd2 hp), ?_⟩)
  refine wpAny_bind (wpAny_of_eq (a := some _) rfl ?_)
  refine wpAny_pure ?_; refine wpAny_pure ?_
  refine after_intAny (by kpc_g) rfl rfl rfl hp rfl (by kpc_none) ?_; intro _ _
  -- ")"
  refine KPc.turn ?_; kpc_check; (repeat kpc_if)
  refine wpAny_pure ?_; refine KPc.after_add (by kpc_g) (by kpc_text) (by kpc_obj) ?_; intro _ _
  -- the end
  refine KPc.turn ?_; kpc_check; (repeat kpc_if)
  refine wpAny_pure ?_; kpc_if
  refine KPc.finish_ok (by kpc_g) (by decide +kernel) rfl ?_
  exact hfin
section
variable {prog : Program} {w : World} {A : Around} {E : Value → Shared → Prop} {s : Shared} {Q : Value → Shared → Prop} {b : Addr} {msg : Str} {l c p : Int} {t t1 t2 t3 t4 : Tok}
theorem mod_words (ht : IsTup s.heap b #[.str msg t1, .int l t2, .int c t3, .int p t4]) (hm : msg.length ≤ 1000000) (hl : l.natAbs.log2 < 1920) (hc : c.natAbs.log2 < 1920) (hp : p.natAbs.log2 < 1920)
    (h : ∀ t' k, Q (.str (wordsOf msg l c p) t') { s with toks := k }) : wpAny (model prog w) A (binaryOp .Mod (.str (Str.ofString "%s: line %d column %d (char %d)") t) (.ref b)) Q E s := by
  rw [show Str.ofString "%s: line %d column %d (char %d)" = Str.mk #[37, 115, 58, 32, 108, 105, 110, 101, 32, 37, 100, 32, 99, 111, 108, 117, 109, 110, 32, 37, 100, 32, 40, 99, 104, 97, 114, 32, 37, 100, 41] from by decide +kernel]
  have hT : s.TypeIs (.ref b) "tuple" := by
    obtain ⟨o, ho, hc, _⟩ := ht
    exact ⟨o, ho, hc⟩
  exact KPt.bin_left (T := "str") (U := "tuple") (op := .Mod) (by decide) (typeIs_str s _ t) hT F.fills_str_mod KPt.fills_tuple F.slot_str_mod
    (call_meets F.slot_str_mod (typeIs_str s _ t) F.entry_str_mod (F.args_str_mod_2 _ _) (meets_words hm hl hc hp) ⟨ht, fun t' k => ⟨(fun e => nomatch e), h t' k⟩⟩)
end
end Mine

-- part Cm2
open PySem PySem.W PyProof.Rows PySem.Calls
set_option Elab.async false
set_option maxRecDepth 100000
set_option maxHeartbeats 8000000
namespace Mine
open PySem.Builtin PySem.Builtin.ObjectAttr

abbrev vbm : List Value := [.type "ValueError", .type "Exception", .type "BaseException", .type "object"]

/-- what the walk asks of the written part about the error's class -/
structure ErrK (K : Frag) (C : Addr) : Prop where
  cls : ∃ cd, clsIn K C = some cd ∧ cd.mro = .ref C :: vbm ∧ cd.hasDict = true
  sa : findIn K (.ref C) "__setattr__" = some (some (.builtin "object.__setattr__"))
  ga : findIn K (.ref C) "__getattribute__" = some (some (.builtin "BaseException.__getattribute__"))
  hook : findIn K (.ref C) "__getattr__" = some none
  str : findIn K (.ref C) "__str__" = some (some (.builtin "BaseException.__str__"))
  args : findIn K (.ref C) "args" = some (some (.builtin "BaseException.args"))
  nmsg : findIn K (.ref C) "msg" = some none
  ndoc : findIn K (.ref C) "doc" = some none
  npos : findIn K (.ref C) "pos" = some none
  nlin : findIn K (.ref C) "lineno" = some none
  ncol : findIn K (.ref C) "colno" = some none

theorem refuse_exc (self : Value) (C : Addr) : refuseLoop self "__setattr__" (.ref C :: vbm) = pure () := by
  rw [refuseLoop_ref]; kernel_rfl

section
variable {prog : Program} {w : World} {A : Around} {E : Value → Shared → Prop} {s : Shared} {K : Frag} {x C d : Addr} {h : Heap}

theorem ErrK.mro (H : ErrK K C) {M : Model} (X : K.In h) : Looks M h (mroOf (.ref C)) (.ref C :: vbm) := by
  obtain ⟨cd, h1, h2, _⟩ := H.cls
  rw [← h2]; exact (looks_clsIn X h1).andThen .now
theorem ErrK.sub (H : ErrK K C) {M : Model} (X : K.In h) (b : Value) : Looks M h (isSubtype (.ref C) b) ((Value.ref C :: vbm).contains b) := by
  obtain ⟨cd, h1, h2, _⟩ := H.cls
  exact looks_mroIn X (by unfold mroIn; rw [h1, Option.bind_some, h2]; rfl)
theorem looks_cls {M : Model} {o : Obj} (e : h.get? x = some o) : Looks M h (typeOf (.ref x)) o.cls := (Looks.ld e).andThen .now
theorem ErrK.inst (H : ErrK K C) {M : Model} (X : K.In h) {o : Obj} (e : h.get? x = some o) (ho : o.cls = .ref C) (b : Value) : Looks M h (isInstance (.ref x) b) ((Value.ref C :: vbm).contains b) :=
  (ho ▸ looks_cls e).andThen (H.sub X b)

/-- the entry of a store into an instance of the class, of a name that no class has -/
theorem osa_exc {R : Result → Shared → Prop} {o : Obj} {name : Str} {tk : Tok} {v : Value} (H : ErrK K C) (X : K.In s.heap) (e : s.heap.get? x = some o) (ho : o.cls = .ref C)
    (hf : findIn K (.ref C) name = some none)
    (h : wpAny (model prog w) A.in1 (storeInOwnDict (.ref x) (.ref C) (.str name tk) name v false)
      (fun fin s' => match fin with | .done f => R (.ok f) s' | .again c' => c'.quiet = true ∧ codeAny (model prog w) A c' R s') (fun e s' => R (.error e) s') s) :
    codeAny (model prog w) A (.call (.builtin "object.__setattr__") ⟨[.ref x, .str name tk, v], []⟩) R s := by
  have SF := PySem.F.store_object
  have sub : Looks (model prog w) s.heap (isInstance (.ref x) (.type "object")) true := H.inst X e ho (.type "object")
  have T : Looks (model prog w) s.heap (typeOf (.ref x)) (.ref C) := ho ▸ looks_cls e
  refine codeAny_call_builtin SF.slot.plain SF.entry (@check_slot (model prog w) _ _ s "object.__setattr__" "object" "__setattr__" (.ref x) [.str name tk, v] [] _ SF.kind SF.split sub (SF.args (.ref x) (.str name tk) v) ?_)
  rw [osa_eq, refuse_eq]
  refine wpAny_bind (wpAny_bind (T.here (wpAny_bind ((H.mro X).here ?_))))
  rw [refuse_exc]
  refine wpAny_pure (wpAny_bind (T.here (wpAny_bind ((looks_findIn X hf).here (wpAny_bind ?_)))))
  exact wpAny_pure h

theorem set_exc {o : Obj} {name : Str} {v : Value} {Q : Unit → Shared → Prop} (H : ErrK K C) (X : K.In s.heap) (e : s.heap.get? x = some o) (ho : o.cls = .ref C)
    (hf : findIn K (.ref C) name = some none)
    (h : wpAny (model prog w) A.in1 (storeInOwnDict (.ref x) (.ref C) (.str name s.toks) name v false) (fun fin s' => fin = .done (.ret .none) ∧ Q () s') (fun _ _ => False) { s with toks := s.toks + 1 }) :
    wpAny (model prog w) A (setAttr (.ref x) name v) Q E s := by
  have T : Looks (model prog w) s.heap (typeOf (.ref x)) (.ref C) := ho ▸ looks_cls e
  refine wpAny_bind (wpAny_mkText (wpAny_bind (wpAny_bind (wpAny_bind (T _ _ _ _ (fun _ _ e => e) (looks_findIn X H.sa _ _ _ _ (fun _ _ e => e) (wpAny_holding ?_)))))))
  rw [PySem.F.store_object.slot.bind]
  refine wpAny_bind (wpAny_pure (wpAny_bind (wpAny_call (osa_exc (s := { s with toks := s.toks + 1 }) (R := fun r s' => match r with | .ok (.ret v) => wpAny (model prog w) A (pure (some v)) (fun a s' => wpAny (model prog w) A _ Q E s') E s' | .ok _ => False | .error e => E e s') H X e ho hf (wpAny_mono h (fun fin s' z => ?_) fun _ _ z => z.elim)))))
  obtain ⟨rfl, z⟩ := z
  exact wpAny_pure (wpAny_pure z)
end
end Mine

-- part Cm3
open PySem PySem.W PyProof.Rows PySem.Calls
set_option Elab.async false
set_option maxRecDepth 100000
set_option maxHeartbeats 8000000
namespace Mine
open PySem.Builtin PySem.Builtin.ObjectAttr

theorem fr_but {h₀ h h' : Heap} {L : Addr} {m : Str → Option Value} {X : List Addr} (F : Fr h₀ L h m) (hk : ∀ b o, b ∉ X → h.get? b = some o → h'.get? b = some o) (hL : L ∉ X) (hX : ∀ a ∈ X, h₀.get? a = none) : Fr h₀ L h' m := by
  obtain ⟨oL, es, ep, hLg, r⟩ := F.ns
  exact ⟨⟨oL, es, ep, hk _ _ hL hLg, r⟩, fun b o e => hk b o (fun hb => by rw [hX b hb] at e; cases e) (F.keep b o e), F.above⟩
theorem news_but {h₀ h h' : Heap} {L : Addr} {news : List (Addr × Obj)} {X : List Addr} (N : News h₀ L h news) (hk : ∀ b o, b ∉ X → h.get? b = some o → h'.get? b = some o) (hX : ∀ p ∈ news, p.1 ∉ X) : News h₀ L h' news :=
  fun p hp => ⟨hk _ _ (hX p hp) (N p hp).1, (N p hp).2⟩

section
variable {prog : Program} {w : World} {A : Around} {E : Value → Shared → Prop} {s : Shared} {K : Frag} {x C d : Addr}

abbrev ent (w : World) (name : Str) (tk : Tok) (v : Value) : DictEntry := ⟨PyData.keyHash w.params name, .str name tk, v⟩

theorem storeInDict_at {name : Str} {tk : Tok} {v : Value} {Q : Fin → Shared → Prop} {es : List DictEntry} {n : Nat}
    (hd : s.heap.get? d = some (dictOf es n)) (hl : (getL name es).isSome = true) (hz : es.length ≤ 100)
    (h : ∀ h', h'.get? d = some (dictOf (putL name (PyData.keyHash w.params name) (.str name s.toks) v es) (putN name es n)) →
      (∀ b o, b ≠ d → s.heap.get? b = some o → h'.get? b = some o) → Q (.done (.ret .none)) { s with heap := h', toks := s.toks + 1 }) :
    wpAny (model prog w) A (storeInDict d (.str name tk) name v) Q E s := by
  unfold storeInDict nsSet
  refine wpAny_bind (wpAny_pure ?_)
  refine wpAny_bind ?_
  refine wpAny_bind ?_
  refine wpAny_bind (wpAny_askSetting (wpAny_pure ?_))
  refine wpAny_bind (wpAny_mkText ?_)
  refine wpAny_bind (wpAny_loadPart hd ?_)
  dsimp only
  have c : (!es.toArray.any (·.key.isStr name) && es.toArray.any (·.refKey)) = false := by
    rw [← Array.any_toList, ← Array.any_toList]
    unfold getL at hl
    split at hl
    · rename_i en he
      rw [List.any_eq_true.mpr ⟨en, List.mem_of_find?_eq_some he, List.find?_some he⟩]; rfl
    · split at hl
      · cases hl
      · rename_i z; rw [Bool.not_eq_true] at z; rw [z, Bool.and_false]
  rw [aRefKeyMayBeTheName_at, c]
  refine wpAny_updatePart hd ?_
  have hput : (putL name (PyData.keyHash w.params name) (.str name s.toks) v es).length ≤ es.length + 1 := by
    generalize PyData.keyHash w.params name = hsh
    clear h hd hl hz c
    induction es with
    | nil => simp [putL]
    | cons e r ih => unfold putL; split <;> simp; exact ih
  have hd2 : (s.heap.update d (Obj.putName name (PyData.keyHash w.params name) (.str name s.toks) v)).get? d = some (dictOf (putL name (PyData.keyHash w.params name) (.str name s.toks) v es) (putN name es n)) := by
    refine (Heap.get?_update_self _ hd ?_).trans ?_
    · rw [putName_dict]; rfl
    · rw [putName_dict]
  refine wpAny_bind (wpAny_lookBehind hd2 (pastItsLine_dict (by rw [List.size_toArray, sizeLine_eq]; omega)) ?_)
  exact wpAny_pure (h _ hd2 fun b o hb e => (Heap.get?_update_ne _ _ _ _ hb).trans e)

theorem store_first {name : Str} {tk : Tok} {v : Value} {vs : Array Value} {sl : Array (Option Value)} {Q : Fin → Shared → Prop} (H : ErrK K C) (X : K.In s.heap) (hx : s.heap.get? x = some ⟨.ref C, none, .fields vs, sl⟩)
    (h : ∀ h', h'.get? x = some ⟨.ref C, some s.heap.objs.size, .fields vs, sl⟩ → h'.get? s.heap.objs.size = some (dictOf [ent w name s.toks v] 1) →
      (∀ b o, b ≠ x → s.heap.get? b = some o → h'.get? b = some o) → Q (.done (.ret .none)) { s with heap := h', toks := s.toks + 1 }) :
    wpAny (model prog w) A (storeInOwnDict (.ref x) (.ref C) (.str name tk) name v false) Q E s := by
  obtain ⟨cd, h1, h2, h3⟩ := H.cls
  unfold storeInOwnDict ownDictForStores instanceDict
  refine wpAny_bind (wpAny_pure ?_)
  refine wpAny_bind (wpAny_bind (wpAny_loadPart hx ?_))
  refine wpAny_bind ((looks_clsIn X h1).here ?_)
  rw [h3]
  refine wpAny_bind (wpAny_alloc ?_)
  have hx1 := Heap.get?_push_of_some { cls := .type "dict", data := .dict #[] } hx
  have hne : x ≠ s.heap.objs.size := Nat.ne_of_lt (Heap.lt_size hx)
  refine wpAny_bind (wpAny_update hx1 ?_)
  refine wpAny_pure ?_
  have hd0 : (s.heap.push { cls := .type "dict", data := .dict #[] }).get? s.heap.objs.size = some (dictOf [] 0) := Heap.get?_push_size _ rfl
  have hd1 : ((s.heap.push { cls := .type "dict", data := .dict #[] }).update x fun o => { o with dict := some s.heap.objs.size }).get? s.heap.objs.size = some (dictOf [] 0) := (Heap.get?_update_ne _ _ _ _ (Ne.symm hne)).trans hd0
  have hx2 : ((s.heap.push { cls := .type "dict", data := .dict #[] }).update x fun o => { o with dict := some s.heap.objs.size }).get? x = some ⟨.ref C, some s.heap.objs.size, .fields vs, sl⟩ := Heap.get?_update_self _ hx1 rfl
  refine storeInDict_at hd1 rfl (by simp) fun h' hd2 hk => ?_
  refine h _ (hk _ _ hne hx2) hd2 fun b o hb e => ?_
  have hb2 : b ≠ s.heap.objs.size := Nat.ne_of_lt (Heap.lt_size e)
  exact hk _ _ hb2 ((Heap.get?_update_ne _ _ _ _ hb).trans (Heap.get?_push_of_some _ e))

theorem store_more {name : Str} {tk : Tok} {v : Value} {vs : Array Value} {sl : Array (Option Value)} {Q : Fin → Shared → Prop} {es : List DictEntry} {n : Nat} (H : ErrK K C) (X : K.In s.heap) (hx : s.heap.get? x = some ⟨.ref C, some d, .fields vs, sl⟩)
    (hd : s.heap.get? d = some (dictOf es n)) (hl : (getL name es).isSome = true) (hz : es.length ≤ 100)
    (h : ∀ h', h'.get? d = some (dictOf (putL name (PyData.keyHash w.params name) (.str name s.toks) v es) (putN name es n)) →
      (∀ b o, b ≠ d → s.heap.get? b = some o → h'.get? b = some o) → Q (.done (.ret .none)) { s with heap := h', toks := s.toks + 1 }) :
    wpAny (model prog w) A (storeInOwnDict (.ref x) (.ref C) (.str name tk) name v false) Q E s := by
  obtain ⟨cd, h1, h2, h3⟩ := H.cls
  unfold storeInOwnDict ownDictForStores instanceDict
  refine wpAny_bind (wpAny_pure ?_)
  refine wpAny_bind (wpAny_bind (wpAny_loadPart hx ?_))
  refine wpAny_bind ((looks_clsIn X h1).here ?_)
  rw [h3]
  refine wpAny_pure ?_
  exact storeInDict_at hd hl hz h

/-- the first store into an error, in the ledger's words -/
theorem set_firstN {h₀ : Heap} {L : Addr} {m : Str → Option Value} {news : List (Addr × Obj)} {name : Str} {v : Value} {vs : Array Value} {sl : Array (Option Value)} {Q : Unit → Shared → Prop} {g : Obj → List (Addr × Obj)} (H : ErrK K C) (F : Fr h₀ L s.heap m) (X : K.In h₀) (N : News h₀ L s.heap news)
    (U : UpdF x ⟨.ref C, none, .fields vs, sl⟩ news g) (hf : findIn K (.ref C) name = some none)
    (h : ∀ d h', Fr h₀ L h' m → News h₀ L h' ((d, dictOf [ent w name (s.toks + 1) v] 1) :: g ⟨.ref C, some d, .fields vs, sl⟩) → (∀ p ∈ news, p.1 < d) → Q () { s with heap := h', toks := s.toks + 2 }) :
    wpAny (model prog w) A (setAttr (.ref x) name v) Q E s := by
  obtain ⟨pre, post, rfl, hg, a, b⟩ := U.split
  have D := N (x, ⟨.ref C, none, .fields vs, sl⟩) (by simp)
  have hs := X.keeps F.keep
  obtain ⟨oL, esL, epL, hLg, rL⟩ := F.ns
  refine set_exc H hs D.1 rfl hf (store_first (s := { s with toks := s.toks + 1 }) H hs D.1 fun h' h1 h2 h3 => ⟨rfl, ?_⟩)
  have hk : ∀ b o, b ∉ [x] → s.heap.get? b = some o → h'.get? b = some o := fun b o hb e => h3 b o (fun q => hb (by simp [q])) e
  refine h s.heap.objs.size h' (fr_but F hk (by simpa using Ne.symm D.2.1) (by simpa using D.2.2)) ?_ (fun p hp => Heap.lt_size (N p hp).1)
  rw [hg]
  intro p hp
  rcases List.mem_cons.mp hp with rfl | hp
  · refine ⟨h2, Nat.ne_of_gt (Heap.lt_size hLg), ?_⟩
    cases q : h₀.get? s.heap.objs.size with
    | none => rfl
    | some o => exact absurd (Heap.lt_size (F.keep _ _ q)) (Nat.lt_irrefl _)
  · rcases List.mem_append.mp hp with hp | hp
    · have P := N p (List.mem_append_left _ hp); exact ⟨h3 _ _ (a p hp) P.1, P.2⟩
    · rcases List.mem_cons.mp hp with rfl | hp
      · exact ⟨h1, D.2⟩
      · have P := N p (List.mem_append_right _ (.tail _ hp)); exact ⟨h3 _ _ (b p hp) P.1, P.2⟩

theorem set_moreN {h₀ : Heap} {L : Addr} {m : Str → Option Value} {news : List (Addr × Obj)} {name : Str} {v : Value} {vs : Array Value} {sl : Array (Option Value)} {Q : Unit → Shared → Prop} {g : Obj → List (Addr × Obj)} {es es' : List DictEntry} {n n' : Nat} (H : ErrK K C) (F : Fr h₀ L s.heap m) (X : K.In h₀) (N : News h₀ L s.heap news)
    (hx : (x, ⟨.ref C, some d, .fields vs, sl⟩) ∈ news) (U : UpdF d (dictOf es n) news g) (hf : findIn K (.ref C) name = some none) (hl : (getL name es).isSome = true) (hz : es.length ≤ 100)
    (e : (putL name (PyData.keyHash w.params name) (.str name (s.toks + 1)) v es, putN name es n) = (es', n'))
    (h : ∀ h', Fr h₀ L h' m → News h₀ L h' (g (dictOf es' n')) → Q () { s with heap := h', toks := s.toks + 2 }) :
    wpAny (model prog w) A (setAttr (.ref x) name v) Q E s := by
  obtain ⟨pre, post, rfl, hg, a, b⟩ := U.split
  obtain ⟨e1, e2⟩ := Prod.mk.inj e
  have D := N (d, dictOf es n) (by simp)
  have Dx := N _ hx
  have hs := X.keeps F.keep
  refine set_exc H hs Dx.1 rfl hf (store_more (s := { s with toks := s.toks + 1 }) H hs Dx.1 D.1 hl hz fun h' h1 h3 => ⟨rfl, ?_⟩)
  rw [e1, e2] at h1
  have hk : ∀ b o, b ∉ [d] → s.heap.get? b = some o → h'.get? b = some o := fun b o hb e => h3 b o (fun q => hb (by simp [q])) e
  refine h h' (fr_but F hk (by simpa using Ne.symm D.2.1) (by simpa using D.2.2)) ?_
  rw [hg]
  intro p hp
  rcases List.mem_append.mp hp with hp | hp
  · have P := N p (List.mem_append_left _ hp); exact ⟨h3 _ _ (a p hp) P.1, P.2⟩
  · rcases List.mem_cons.mp hp with rfl | hp
    · exact ⟨h1, D.2⟩
    · have P := N p (List.mem_append_right _ (.tail _ hp)); exact ⟨h3 _ _ (b p hp) P.1, P.2⟩
end
end Mine

-- part Cm4
open PySem PySem.W PyProof.Rows PySem.Calls
set_option Elab.async false
set_option maxRecDepth 100000
set_option maxHeartbeats 8000000
namespace Mine
open PySem.Builtin PySem.Builtin.ObjectAttr

theorem typeOf_VE : typeOf (.type "ValueError") = pure (.type "type") := by rfl
theorem stub_VE : Manifest.isStub "ValueError" = false := by kernel_rfl
theorem hand_VE : handedIn (.builtin "ValueError.__init__") = true := by decide +kernel
theorem find_VEK (K : Frag) : findCls K (.type "ValueError") (.type "type") "__init__" = some (.val (.builtin "ValueError.__init__")) := by kernel_rfl
section
variable {prog : Program} {w : World} {A : Around} {E : Value → Shared → Prop} {s : Shared} {K : Frag} {x C d : Addr} {h₀ : Heap} {L : Addr} {m : Str → Option Value} {news : List (Addr × Obj)}
theorem method_vinit {pl : Sem Bool} {Q : Value × List Value → Shared → Prop} (F : Fr h₀ L s.heap m) (X₀ : K.In h₀) (h : Q (.builtin "ValueError.__init__", []) { s with toks := s.toks + 1 }) : wpAny (model prog w) A (getMethod (.type "ValueError") (Str.ofString "__init__") pl) Q E s :=
  method_type (K := K) (T := "ValueError") (name := Str.ofString "__init__") (v := .builtin "ValueError.__init__") F X₀ typeOf_VE stub_VE (find_VEK K) hand_VE h

theorem check_vinit {M : Model} {o : Obj} {rest : List Value} {Q : Unit → Shared → Prop} (H : ErrK K C) (X : K.In s.heap) (e : s.heap.get? x = some o) (ho : o.cls = .ref C) (h : Q () s) :
    wpAny M A (checkBuiltinCall "ValueError.__init__" ⟨.ref x :: rest, []⟩) Q E s := by
  have F := PySem.F.excBase_ValueError
  have hshort := F.noStar
  have HI := H.inst (M := M) X e ho (.type "ValueError")
  obtain ⟨oc, odd, oda, osl⟩ := o
  dsimp only at ho
  subst ho
  obtain ⟨cd, h1, h2, h3⟩ := H.cls
  have LC := looks_clsIn (M := M) X h1
  simp only [checkBuiltinCall, F.initKind, F.initSplit, F.initRow]
  refine wpAny_bind (HI.here ?_)
  rw [show (Value.ref C :: vbm).contains (.type "ValueError") = true from rfl]
  repeat (first | with_reducible refine Looks.here LC ?_ | wp_step)
  refine wpAny_onRaise ?_
  rw [show ∀ (a b : String) (n : Nat), Bind.check ⟨.positional, "*", "ValueError", .self, [⟨"args", .varPos, false⟩]⟩ a b n (List.map (fun x => x.fst) ({ pos := .ref x :: rest } : Args).kw) = pure () from
    fun a b n => check_star_args _ _ _ _ _ _]
  exact wpAny_pure h

/-- ValueError.__init__(self, words) on an instance of the own class -/
theorem vinit_raw {v : Value} {t : Addr} {dd : Option Addr} {r1 r2 r3 r4 r5 : Value} {sl : Array (Option Value)} {Q : Value → Shared → Prop} (H : ErrK K C) (X : K.In s.heap) (hx : s.heap.get? x = some ⟨.ref C, dd, .fields #[.ref t, r1, r2, r3, r4, r5], sl⟩)
    (h : ∀ h', h'.get? x = some ⟨.ref C, dd, .fields #[.ref s.heap.objs.size, r1, r2, r3, r4, r5], sl⟩ → h'.get? s.heap.objs.size = some { cls := .type "tuple", data := .seq #[v] } →
      (∀ b o, b ≠ x → s.heap.get? b = some o → h'.get? b = some o) → Q .none { s with heap := h' }) :
    wpAny (model prog w) A (call (.builtin "ValueError.__init__") [.ref x, v]) Q E s := by
  have F := PySem.F.excBase_ValueError
  refine wpAny_call (codeAny_call_builtin F.init.plain F.initEntry (check_vinit H X hx rfl ?_))
  unfold Builtin.«BaseException.__init__»
  have hx1 := Heap.get?_push_of_some { cls := .type "tuple", data := .seq #[v] } hx
  have hne : x ≠ s.heap.objs.size := Nat.ne_of_lt (Heap.lt_size hx)
  show wpAny _ _ (newTuple [v] >>= fun t => BaseException.bexcPut (.ref x) 0 t >>= fun _ => ret .none) _ _ _
  refine wpAny_bind (wpAny_newObj_type ?_ (by show ([v].toArray).size ≤ sizeLine; rw [sizeLine_eq]; simp))
  unfold BaseException.bexcPut
  refine wpAny_bind ?_
  refine wpAny_bind (wpAny_field hx1 rfl (x := .ref t) rfl ?_)
  refine wpAny_bind (wpAny_setField hx1 rfl (by simp) ?_)
  refine wpAny_letGo ?_
  refine wpAny_pure ?_
  refine h _ (Heap.get?_update_self _ hx1 rfl) ((Heap.get?_update_ne _ _ _ _ (Ne.symm hne)).trans (Heap.get?_push_size _ rfl)) fun b o hb e => ?_
  exact (Heap.get?_update_ne _ _ _ _ hb).trans (Heap.get?_push_of_some _ e)

theorem vinitN {v : Value} {t : Addr} {dd : Option Addr} {r1 r2 r3 r4 r5 : Value} {sl : Array (Option Value)} {Q : Value → Shared → Prop} {g : Obj → List (Addr × Obj)} (H : ErrK K C) (F : Fr h₀ L s.heap m) (X : K.In h₀) (N : News h₀ L s.heap news)
    (U : UpdF x ⟨.ref C, dd, .fields #[.ref t, r1, r2, r3, r4, r5], sl⟩ news g)
    (h : ∀ d h', Fr h₀ L h' m → News h₀ L h' ((d, { cls := .type "tuple", data := .seq #[v] }) :: g ⟨.ref C, dd, .fields #[.ref d, r1, r2, r3, r4, r5], sl⟩) → (∀ p ∈ news, p.1 < d) → Q .none { s with heap := h' }) :
    wpAny (model prog w) A (call (.builtin "ValueError.__init__") [.ref x, v]) Q E s := by
  obtain ⟨pre, post, rfl, hg, a, b⟩ := U.split
  have D := N (x, ⟨.ref C, dd, .fields #[.ref t, r1, r2, r3, r4, r5], sl⟩) (by simp)
  have hs := X.keeps F.keep
  obtain ⟨oL, esL, epL, hLg, rL⟩ := F.ns
  refine vinit_raw H hs D.1 fun h' h1 h2 h3 => ?_
  have hk : ∀ b o, b ∉ [x] → s.heap.get? b = some o → h'.get? b = some o := fun b o hb e => h3 b o (fun q => hb (by simp [q])) e
  refine h s.heap.objs.size h' (fr_but F hk (by simpa using Ne.symm D.2.1) (by simpa using D.2.2)) ?_ (fun p hp => Heap.lt_size (N p hp).1)
  rw [hg]
  intro p hp
  rcases List.mem_cons.mp hp with rfl | hp
  · refine ⟨h2, Nat.ne_of_gt (Heap.lt_size hLg), ?_⟩
    cases q : h₀.get? s.heap.objs.size with
    | none => rfl
    | some o => exact absurd (Heap.lt_size (F.keep _ _ q)) (Nat.lt_irrefl _)
  · rcases List.mem_append.mp hp with hp | hp
    · have P := N p (List.mem_append_left _ hp); exact ⟨h3 _ _ (a p hp) P.1, P.2⟩
    · rcases List.mem_cons.mp hp with rfl | hp
      · exact ⟨h1, D.2⟩
      · have P := N p (List.mem_append_right _ (.tail _ hp)); exact ⟨h3 _ _ (b p hp) P.1, P.2⟩
end
end Mine

-- part Cm5
open PySem PySem.W PyProof.Rows PySem.Calls
set_option Elab.async false
set_option maxRecDepth 100000
set_option maxHeartbeats 8000000
namespace Mine
open PySem.Builtin PySem.Builtin.ObjectAttr

/-- entering a def whose mutable arguments are the listed objects; the base is `g` -/
theorem enterM {prog : Program} {w : World} {A : Around} {s : Shared} {Q E : Value → Shared → Prop} {K : Frag} {p : Program} {loose : List Str} {mg mb : Str → Option Value}
    {name qual : Str} {params : Arguments} {body : List Stmt} {scope : Scope} {dV kV doc pm cdv ct oc : Value} {an od : Option Addr} {osl : Array (Option Value)} {f : Addr} {vals : List Value} {binds : List (Str × Value)}
    (muts : List (Addr × Obj)) (g : Heap) (hk : Keeps g s.heap) (hsz : g.objs.size ≤ s.heap.objs.size) (hm : ∀ q ∈ muts, s.heap.get? q.1 = some q.2 ∧ g.get? q.1 = none)
    (X : K.In g) (T : TopRead p loose mg mb g)
    (ho : K.lookup f = some ⟨oc, od, .func (fnOf name qual params body scope dV kV doc pm an cdv ct), osl⟩) (hcd : codeIn K cdv qual = true) (hroom : A.depth < recursionLimit)
    (hbind : BindsTo s (fnOf name qual params body scope dV kV doc pm an cdv ct) ⟨vals, []⟩ binds) (hloc : ∀ y ∈ binds, scope.names.lookup y.1 = some .local)
    (h : ∀ L h₁, Fr g L h₁ (fun y => binds.reverse.lookup y) → News g L h₁ muts → (∀ q ∈ muts, q.1 < L) →
      wpAny (model prog w) (A.deeper (envOf qual scope L f cdv)) (execs body (envOf qual scope L f cdv))
        (fun fl s' => Q (match fl with | .ret v => v | _ => .none) s')
        (fun _ _ => False)
        { s with heap := h₁, toks := s.toks + binds.length })
    (hco : scope.isCoroutine = false := by rfl) (hgen : scope.isGenerator = false := by rfl) (hkf : scope.kind = .function := by rfl)
    (hcell : ∀ x ∈ scope.names, x.2 ≠ .cell := by decide) : wpAny (model prog w) A (call (.ref f) vals) Q E s := by
  refine wpAny_call (codeAny_call_def (fd := fnOf name qual params body scope dV kV doc pm an cdv ct) (body := body) (binds := binds) hroom (X.keeps hk _ _ ho) rfl (T.nolimit.keeps hk) (codeRec_of (X.keeps hk) hcd) rfl hbind hcell hloc (fun h₁ hns hk₁ => ?_) hco hgen hkf)
  exact wpAny_mono (h s.heap.objs.size h₁ ⟨hns, fun b o e => hk₁ _ _ (hk _ _ e), hsz⟩ (fun q hq => ⟨hk₁ _ _ (hm q hq).1, Nat.ne_of_lt (Heap.lt_size (hm q hq).1), (hm q hq).2⟩) (fun q hq => Heap.lt_size (hm q hq).1)) (fun _ _ x => x) (fun _ _ x => x.elim)

theorem of_hide_base {h h' : Heap} {as : List Addr} (hk : Keeps h h') (hn : ∀ a ∈ as, h.get? a = none) : Keeps h (hideAll h' as) := fun b o e =>
  hideAll_get as (hk b o e) (fun hb => by have := hn b hb; rw [e] at this; cases this)

/-- entering a def that changes nothing that stood -/
theorem enterK {prog : Program} {w : World} {A : Around} {s : Shared} {Q E : Value → Shared → Prop} {K : Frag} {p : Program} {loose : List Str} {mg mb : Str → Option Value}
    {name qual : Str} {params : Arguments} {body : List Stmt} {scope : Scope} {dV kV doc pm cdv ct oc : Value} {an od : Option Addr} {osl : Array (Option Value)} {f : Addr} {vals : List Value} {binds : List (Str × Value)}
    (X : K.In s.heap) (T : TopRead p loose mg mb s.heap)
    (ho : K.lookup f = some ⟨oc, od, .func (fnOf name qual params body scope dV kV doc pm an cdv ct), osl⟩) (hcd : codeIn K cdv qual = true) (hroom : A.depth < recursionLimit)
    (hbind : BindsTo s (fnOf name qual params body scope dV kV doc pm an cdv ct) ⟨vals, []⟩ binds) (hloc : ∀ y ∈ binds, scope.names.lookup y.1 = some .local)
    (h : ∀ L h₁, Fr s.heap L h₁ (fun y => binds.reverse.lookup y) → News s.heap L h₁ [] →
      wpAny (model prog w) (A.deeper (envOf qual scope L f cdv)) (execs body (envOf qual scope L f cdv))
        (fun fl s' => Q (match fl with | .ret v => v | _ => .none) s')
        (fun _ _ => False)
        { s with heap := h₁, toks := s.toks + binds.length })
    (hco : scope.isCoroutine = false := by rfl) (hgen : scope.isGenerator = false := by rfl) (hkf : scope.kind = .function := by rfl)
    (hcell : ∀ x ∈ scope.names, x.2 ≠ .cell := by decide) : wpAny (model prog w) A (call (.ref f) vals) Q E s :=
  enterM [] s.heap (fun _ _ e => e) (Nat.le_refl _) (fun _ hq => nomatch hq) X T ho hcd hroom hbind hloc (fun L h₁ F N _ => h L h₁ F N) hco hgen hkf hcell

abbrev nl : Str := Str.ofString "\n"
def lnOf (doc : Str) (pos : Int) : Int := cnt doc nl pos + 1
def cnOf (doc : Str) (pos : Int) : Int := pos - rfd doc nl pos
end Mine

-- part Cm6
open PySem PySem.W PyProof.Rows PySem.Calls
set_option Elab.async false
set_option maxRecDepth 100000
set_option maxHeartbeats 8000000
namespace Mine
open PySem.Builtin PySem.Builtin.ObjectAttr

section
variable {prog : Program} {w : World} {A : Around} {E : Value → Shared → Prop} {s : Shared} {K : Frag} {x C d t : Addr} {o : Obj}

theorem oga_eq (self : Value) (name : Str) (tk : Tok) : Builtin.«object.__getattribute__» ⟨[self, .str name tk], []⟩ = (typeOf self >>= fun tp => find self tp name >>= fun r => match r with
  | .value v => ret v
  | .bind g a => bindTo g a self tp
  | .missing => do
    if tp == .type "module" then
      if ← isOpaqueModuleObj self then
        let byTheModulesOwnEntry := match (← stack).drop 1 with
          | (.builtin "module.__getattribute__" ⟨m :: _, _⟩, _) :: _ => m == self
          | _ => false
        if !byTheModulesOwnEntry then unsupported "thirdparty:object.__getattribute__:a-miss-on-an-opaque-module"
    if tp == .type "type" then
      if let some key ← opaqueClassAbove self then unsupported s!"thirdparty:{key.toString}.{name.toString}:object.__getattribute__-misses-on-an-opaque-class"
    noSuchAttribute self name) := by kernel_rfl

/-- the road of a read of an attribute of an error -/
theorem get_err {name : Str} {expr : Bool} {Q : Value → Shared → Prop} {r : Found} {v : Value} (H : ErrK K C) (X : K.In s.heap) (e : s.heap.get? x = some o) (ho : o.cls = .ref C)
    (hf : Looks (model prog w) s.heap (find (.ref x) (.ref C) name) r) (hh : handedIn v = true)
    (hr : wpAny (model prog w) A.in1 (match r with | .value v => ret v | .bind g a => bindTo g a (.ref x) (.ref C) | .missing => noSuchAttribute (.ref x) name)
      (fun fin s' => fin = .done (.ret v) ∧ Q v s') (fun _ _ => False) { s with toks := s.toks + 1 }) (hm : r ≠ .missing) :
    wpAny (model prog w) A (getAttr (.ref x) name expr) Q E s := by
  have T : Looks (model prog w) s.heap (typeOf (.ref x)) (.ref C) := ho ▸ looks_cls e
  have G := looks_findIn (M := model prog w) X H.ga
  have Hk := looks_findIn (M := model prog w) X H.hook
  have FA := PySem.F.attr_ValueError
  have hkind : builtinKind "BaseException.__getattribute__" = some .slot := by decide +kernel
  have hsplit : splitId "BaseException.__getattribute__" = some ("BaseException", "__getattribute__") := by decide +kernel
  have HI : Looks (model prog w) s.heap (isInstance (.ref x) (.type "BaseException")) true := H.inst X e ho (.type "BaseException")
  unfold getAttr getAttrBy
  refine wpAny_bind (wpAny_mkText (wpAny_holding ?_))
  refine wpAny_bind (T.here (s := { s with toks := s.toks + 1 }) (wpAny_bind (G.here (s := { s with toks := s.toks + 1 }) ?_)))
  dsimp only
  rw [show (onTheHeap (Value.ref C) && Value.builtin "BaseException.__getattribute__" == Value.builtin "object.__getattribute__") = false from by rw [show (Value.builtin "BaseException.__getattribute__" == Value.builtin "object.__getattribute__") = false from by decide +kernel]; rfl]
  unfold getAttrByItsOwn hookBefore
  refine wpAny_bind (Hk.here (s := { s with toks := s.toks + 1 }) ?_)
  refine wpAny_bind (wpAny_attempt (wpAny_holding ?_))
  unfold callGetattribute
  rw [show (expr && onTheHeap (Value.builtin "BaseException.__getattribute__")) = false from by cases expr <;> rfl]
  unfold boundAndCalled
  rw [FA.ga.bind]
  refine wpAny_bind (wpAny_pure (wpAny_call (codeAny_call_builtin FA.ga.plain F.entry_bexc_ga (@check_slot (model prog w) _ _ { s with toks := s.toks + 1 } _ _ _ (.ref x) [.str name s.toks] [] _ hkind hsplit HI (F.args_bexc_ga _ _) ?_))))
  show wpAny _ _ (Builtin.«object.__getattribute__» ⟨[.ref x, .str name s.toks], []⟩) _ _ _
  rw [oga_eq]
  refine wpAny_bind (T.here (s := { s with toks := s.toks + 1 }) (wpAny_bind (hf.here (s := { s with toks := s.toks + 1 }) ?_)))
  refine wpAny_mono (Q := fun fin s' => fin = .done (.ret v) ∧ Q v s') (E := fun _ _ => False) ?_ (fun fin s' z => ?_) (fun _ _ z => z.elim)
  · cases r with
    | value v => exact hr
    | bind g a => exact hr
    | missing => exact absurd rfl hm
  · obtain ⟨rfl, z⟩ := z
    show wpAny _ _ (handedOut v) _ _ _
    rw [handedOut_of hh]; exact wpAny_pure z

theorem get_err_own {name : Str} {expr : Bool} {Q : Value → Shared → Prop} {v : Value} {es : List DictEntry} {n : Nat} {vs : Array Value} {sl : Array (Option Value)} (H : ErrK K C) (X : K.In s.heap) (e : s.heap.get? x = some ⟨.ref C, some d, .fields vs, sl⟩) (hd : s.heap.get? d = some (dictOf es n))
    (hf : findIn K (.ref C) name = some none) (hl : getL name es = some (some v)) (hh : handedIn v = true) (h : Q v { s with toks := s.toks + 1 }) :
    wpAny (model prog w) A (getAttr (.ref x) name expr) Q E s := by
  obtain ⟨cd, h1, h2, h3⟩ := H.cls
  refine get_err (r := .value v) H X e rfl (looks_find (od := some (dictOf es n)) X (I := ⟨e, rfl, rfl, hd⟩) ?_) hh (wpAny_pure ⟨rfl, h⟩) (by intro q; cases q)
  unfold findObj
  rw [h1, hf]
  simp only [Option.bind_some]
  unfold W.ownOf
  rw [h3, if_pos rfl]
  dsimp only
  rw [show lookIn name (dictOf es n) = getL name es from rfl, hl]
  rfl

theorem call_errStr {ws : Str} {tw : Tok} {dd : Option Addr} {r1 r2 r3 r4 r5 : Value} {sl : Array (Option Value)} {Q : Value → Shared → Prop} (H : ErrK K C) (X : K.In s.heap) (e : s.heap.get? x = some ⟨.ref C, dd, .fields #[.ref t, r1, r2, r3, r4, r5], sl⟩)
    (ht : s.heap.get? t = some { cls := .type "tuple", data := .seq #[.str ws tw] }) (h : Q (.str ws tw) s) :
    wpAny (model prog w) A (call (.builtin "BaseException.__str__") [.ref x]) Q E s := by
  have FS := PySem.F.excStr_ValueError
  have hkind : builtinKind "BaseException.__str__" = some .slot := by decide +kernel
  have hsplit : splitId "BaseException.__str__" = some ("BaseException", "__str__") := by decide +kernel
  have HI : Looks (model prog w) s.heap (isInstance (.ref x) (.type "BaseException")) true := H.inst X e rfl (.type "BaseException")
  refine wpAny_call (codeAny_call_builtin FS.str.plain F.entry_bexc_str (@check_slot (model prog w) _ _ s _ _ _ (.ref x) [] [] _ hkind hsplit HI (F.args_bexc_str _) ?_))
  show wpAny _ _ (BaseException.bexcArgs (.ref x) >>= fun a => match a with
    | (_, []) => (do rule "BaseException.__str__.no-argument"; retStr Str.empty)
    | (_, [y]) => (do rule "BaseException.__str__.one-argument"; ret (← BaseException.bexcText "__str__" y))
    | (t, _) => (do ret (← BaseException.bexcText "__str__" t))) _ _ _
  unfold BaseException.bexcArgs
  refine wpAny_bind (wpAny_bind (wpAny_field e rfl (x := .ref t) rfl (wpAny_bind (wpAny_seqItems ht rfl ?_))))
  refine wpAny_pure ?_
  refine wpAny_bind (wpAny_rule ?_)
  refine wpAny_bind (wpAny_pure ?_)
  exact wpAny_pure h

theorem strOf_err {ws : Str} {tw : Tok} {dd : Option Addr} {r1 r2 r3 r4 r5 : Value} {sl : Array (Option Value)} {Q : Value → Shared → Prop} (H : ErrK K C) (hu : A.units < cLine) (X : K.In s.heap) (e : s.heap.get? x = some ⟨.ref C, dd, .fields #[.ref t, r1, r2, r3, r4, r5], sl⟩)
    (ht : s.heap.get? t = some { cls := .type "tuple", data := .seq #[.str ws tw] }) (h : Q (.str ws tw) s) :
    wpAny (model prog w) A (Builtin.Str.strOf (.ref x)) Q E s := by
  have FS := PySem.F.excStr_ValueError
  have T : Looks (model prog w) s.heap (typeOf (.ref x)) (.ref C) := looks_cls e
  have G := looks_findIn (M := model prog w) X H.str
  unfold Builtin.Str.strOf
  refine wpAny_ite ?_
  rw [if_neg (show ¬ (Str.isExactStr (.ref x) = true) from Bool.false_ne_true)]
  refine wpAny_bind (wpAny_cRoomFor hu ?_)
  refine wpAny_bind ?_
  refine wpAny_bind (wpAny_bind (T.here (G.here ?_)))
  refine wpAny_holding ?_
  rw [FS.str.bind]
  refine wpAny_bind (wpAny_pure (wpAny_bind (call_errStr H X e ht ?_)))
  exact wpAny_pure (wpAny_bind (wpAny_of_eq (a := some ws) rfl (wpAny_pure h)))

/-- str(e) -/
theorem str_err {ws : Str} {tw : Tok} {dd : Option Addr} {r1 r2 r3 r4 r5 : Value} {sl : Array (Option Value)} {Q : Value → Shared → Prop} (H : ErrK K C) (hu : A.units + 2 < cLine) (X : K.In s.heap) (e : s.heap.get? x = some ⟨.ref C, dd, .fields #[.ref t, r1, r2, r3, r4, r5], sl⟩)
    (ht : s.heap.get? t = some { cls := .type "tuple", data := .seq #[.str ws tw] }) (h : Q (.str ws tw) s) :
    wpAny (model prog w) A (call (.type "str") [.ref x]) Q E s :=
  callType_new F.called_str (by decide) (F.typeCall_str_1 _) (F.newCall_str_1 _) (fun obj => F.args_object_init_2 obj _) F.entry_str_new
    (meets_str_new (S := fun A' R s' => A'.units + 1 < cLine ∧ s'.heap = s.heap ∧ R (.ok (.ret (.str ws tw))) s')
      fun _ _ A' _ s' hq => strOf_err (A := A'.in1) (s := s') H hq.1 (hq.2.1 ▸ X) (hq.2.1 ▸ e) (hq.2.1 ▸ ht) hq.2.2)
    ⟨(show A.units + 1 + 1 < cLine from hu), rfl, typeIs_str _ _ _, h⟩

end
end Mine

-- part Cm7
open PySem PySem.W PyProof.Rows PySem.Calls
set_option Elab.async false
set_option maxRecDepth 100000
set_option maxHeartbeats 8000000
namespace Mine

section
variable {prog : Program} {w : World} {A : Around} {E : Value → Shared → Prop} {s : Shared} {env : Env} {h₀ : Heap} {x : Str} {body : List Stmt} {Q : Flow → Shared → Prop}

/-- how a turn of a loop ends -/
def TurnEnd (h₀ : Heap) (L : Addr) (own : List (Addr × Obj)) (J : (Str → Option Value) → List (Addr × Obj) → Prop) (news₁ : List (Addr × Obj)) (h : Heap) (s : Shared) (Q : Flow → Shared → Prop) (f : Flow) (s₂ : Shared) : Prop :=
  match f with
  | .ret v => Q (.ret v) s₂
  | .brk => Q .next s₂
  | _ => ∃ h' tk m' news', s₂ = { s with heap := h', toks := tk } ∧ Fr h₀ L h' m' ∧ News h₀ L h' (news' ++ own) ∧ (∀ p ∈ news', p.1 ∈ news₁.map (·.1) ∨ h.get? p.1 = none) ∧ J m' news'

theorem loop_W {it : Value} {I : Addr} {fp wr : List Addr} {n : Nat} {P : Nat → Value → Prop} {St : Nat → Heap → Prop} {m : Str → Option Value} {news : List (Addr × Obj)}
    (W : Walks prog w A I fp wr n P St) (hit : it = .ref I) (hLf : env.locals ∉ fp) (hwr : ∀ b ∈ wr, h₀.get? b = none) (hlive : ∀ i h, St i h → ∀ b ∈ wr, ∃ o, h.get? b = some o)
    (hnw : ∀ p ∈ news, p.1 ∉ wr) (hst : St 0 s.heap) (F : Fr h₀ env.locals s.heap m) (N : News h₀ env.locals s.heap news)
    (J : Nat → (Str → Option Value) → List (Addr × Obj) → Prop) (hj : J 0 m news) (muts : List Addr) (hmf : ∀ a ∈ muts, a ∉ fp)
    (turn : ∀ i v m₁ news₁ h tk own, i < n → P i v → J i m₁ news₁ → OwnOff own muts → St (i + 1) h → Fr h₀ env.locals h (fun y => if y = x then some v else m₁ y) → News h₀ env.locals h (news₁ ++ own) →
      wpAny (model prog w) A (execs body env) (TurnEnd h₀ env.locals own (J (i + 1)) news₁ h s Q) E { s with heap := h, toks := tk })
    (done : ∀ m₁ news₁ h tk, J n m₁ news₁ → Fr h₀ env.locals h m₁ → News h₀ env.locals h news₁ → Q .next { s with heap := h, toks := tk }) :
    LoopAtV prog w A h₀ env x body Q E it s := by
  refine ⟨I, fp, wr, n, P, St, m, news, J, hit, W, hLf, hwr, hnw, hst, F, N, hj, ?_, fun h' tk m' news' F' N' _ hJ => done m' news' h' tk hJ F' N'⟩
  rintro i v m₁ news₁ s₁ own ⟨hh', tk', rfl⟩ hin hP hJ hoff hown _ _ hSt F₁ N₁
  have N₂ : News h₀ env.locals hh' (news₁ ++ own) := fun p hp => N₁ p ((List.mem_append.mp hp).elim (fun h => List.mem_append.mpr (.inr h)) fun h => List.mem_append.mpr (.inl h))
  refine wpAny_mono (turn i v m₁ news₁ hh' tk' own hin hP hJ (fun p hp b hb e => hmf b hb (e ▸ hown p hp)) hSt F₁ N₂) (fun f s₂ p => ?_) fun _ _ e => e
  have fin : (∃ h' tk m' news', s₂ = { s with heap := h', toks := tk } ∧ Fr h₀ env.locals h' m' ∧ News h₀ env.locals h' (news' ++ own) ∧ (∀ p ∈ news', p.1 ∈ news₁.map (·.1) ∨ hh'.get? p.1 = none) ∧ J (i + 1) m' news') → LoopStepU h₀ env.locals wr own (J (i + 1)) { s with heap := hh', toks := tk' } .next s₂ := by
    rintro ⟨h', tk, m', news', e, F', N', ha, hm⟩
    refine ⟨rfl, h', tk, m', news', e, F', fun p hp => N' p ((List.mem_append.mp hp).elim (fun h => List.mem_append.mpr (.inr h)) fun h => List.mem_append.mpr (.inl h)), fun p hp hq => ?_, hm⟩
    rcases ha p hp with h1 | h1
    · obtain ⟨q, hq1, hq2⟩ := List.mem_map.mp h1
      exact hoff q hq1 (hq2 ▸ hq)
    · obtain ⟨o, ho⟩ := hlive _ _ hSt _ hq
      rw [h1] at ho; cases ho
  cases f with
  | ret v => exact .ret p
  | brk => exact .brk p
  | next => exact .next (fin p)
  | cont => exact .cont (fin p)

/-- a for over a list, wherever the list lies -/
theorem iter_L {l : Addr} {vs : List Value} {m : Str → Option Value} {news : List (Addr × Obj)}
    (hh : A.handled = none) (hl : s.heap.IsList l vs.toArray) (hlL : l ≠ env.locals) (F : Fr h₀ env.locals s.heap m) (N : News h₀ env.locals s.heap news)
    (J : Nat → (Str → Option Value) → List (Addr × Obj) → Prop) (hj : J 0 m news) (muts : List Addr) (hmf : ∀ a ∈ muts, a ≠ l ∧ ∃ o, s.heap.get? a = some o)
    (turn : ∀ i v m₁ news₁ h tk own, vs[i]? = some v → J i m₁ news₁ → OwnOff own muts → h.IsList l vs.toArray → Fr h₀ env.locals h (fun y => if y = x then some v else m₁ y) → News h₀ env.locals h (news₁ ++ own) →
      wpAny (model prog w) A (execs body env) (TurnEnd h₀ env.locals own (J (i + 1)) news₁ h s Q) E { s with heap := h, toks := tk })
    (done : ∀ m₁ news₁ h tk, J vs.length m₁ news₁ → Fr h₀ env.locals h m₁ → News h₀ env.locals h news₁ → Q .next { s with heap := h, toks := tk }) :
    wpAny (model prog w) A (pyIter (.ref l)) (fun it s₂ => LoopAtV prog w A h₀ env x body Q E it s₂) E s := by
  obtain ⟨ol, hol, hrest⟩ := id hl
  have hne : l ≠ s.heap.objs.size := Nat.ne_of_lt (Heap.lt_size hol)
  refine wpAny_pyIter_list hl ?_
  have W := Walks.list (prog := prog) (w := w) hh s.heap.objs.size l hne vs.toArray
  have hlen : vs.toArray.size = vs.length := by simp
  rw [hlen] at W
  refine loop_W (J := J) W rfl ?_ ?_ ?_ ?_ ⟨⟨_, Heap.get?_push_size _ rfl, rfl, rfl⟩, hl.at fun o e => Heap.get?_push_of_some _ e⟩ (F.push _) (fun p hp => ⟨Heap.get?_push_of_some _ (N p hp).1, (N p hp).2⟩) hj muts ?_ ?_ (fun m₁ news₁ h tk hJ F' N' => done m₁ news₁ h tk hJ F' N')
  · intro hm
    rcases List.mem_cons.mp hm with e | hm
    · exact absurd F.ns.lt (e ▸ Nat.lt_irrefl _)
    · exact hlL (List.mem_singleton.mp hm).symm
  · intro b hb
    rw [List.mem_singleton.mp hb]
    exact next_is_new F
  · intro i h hst b hb
    rw [List.mem_singleton.mp hb]
    obtain ⟨⟨o, ho, _⟩, _⟩ := hst
    exact ⟨o, ho⟩
  · intro p hp hI
    exact absurd (Heap.lt_size (N p hp).1) ((List.mem_singleton.mp hI) ▸ Nat.lt_irrefl _)
  · intro a ha hm
    obtain ⟨h1, o, h2⟩ := hmf a ha
    rcases List.mem_cons.mp hm with e | hm
    · exact absurd (Heap.lt_size h2) (e ▸ Nat.lt_irrefl _)
    · exact h1 (List.mem_singleton.mp hm)
  · intro i v m₁ news₁ h tk own hin hP hJ hoff hSt F' N'
    exact turn i v m₁ news₁ h tk own (by simpa using hP) hJ hoff hSt.2 F' N'
end

theorem getD_len {l : List Str} {i k : Nat} {d : Str} (h : ∀ x ∈ l, x.length ≤ k) (hd : d.length ≤ k) : (l.getD i d).length ≤ k := by
  rw [List.getD_eq_getElem?_getD]
  cases q : l[i]? with
  | none => exact hd
  | some x => exact h x (List.mem_of_getElem? q)
end Mine

-- part Cm8
open PySem PySem.W PyProof.Rows PySem.Calls
set_option Elab.async false
set_option maxRecDepth 100000
set_option maxHeartbeats 8000000
namespace Mine
open PySem.Builtin PySem.Builtin.Str

/-- a text by its signs -/
abbrev lst (x : Str) : List Nat := x.cps.toList
theorem lst_append (x y : Str) : lst (x ++ y) = lst x ++ lst y := by simp [lst, Str.cps_append]
theorem lst_ext {x y : Str} (h : lst x = lst y) : x = y := by
  obtain ⟨a⟩ := x; obtain ⟨b⟩ := y
  simp only [lst] at h
  rw [show a = b from Array.toList_inj.mp h]
theorem lst_len (x : Str) : (lst x).length = x.length := by simp [lst, Str.length]
theorem lst_mk (l : List Nat) : lst ⟨l.toArray⟩ = l := by simp [lst]

theorem slice_from {x : Str} {i : Int} (h0 : 0 ≤ i) (h1 : i ≤ x.length) : lst (Txt.slice x (some i) none) = (lst x).drop i.toNat := by
  have := beq_iff_eq.mp (slice_closes_from (x := x) (i := i) ⟨h0, by rw [show x.cps.toList.length = x.length from lst_len x]; exact h1⟩)
  rw [this, lst_mk]
  refine List.take_of_length_le ?_
  rw [List.length_drop]
  lia
theorem slice_to {x : Str} {j : Int} (h0 : 0 ≤ j) (h1 : j ≤ x.length) : lst (Txt.slice x none (some j)) = (lst x).take j.toNat := by
  have := beq_iff_eq.mp (slice_closes_to (x := x) (j := j) ⟨h0, by rw [show x.cps.toList.length = x.length from lst_len x]; exact h1⟩)
  rw [this, lst_mk]
  simp
theorem slice_in {x : Str} {i j : Int} (h0 : 0 ≤ i) (h1 : i ≤ j) (h2 : j ≤ x.length) : lst (Txt.slice x (some i) (some j)) = ((lst x).drop i.toNat).take (j - i).toNat := by
  have := beq_iff_eq.mp (slice_closes (x := x) (i := i) (j := j) ⟨h0, h1, by rw [show x.cps.toList.length = x.length from lst_len x]; exact h2⟩)
  rw [this, lst_mk]
theorem idx_neg_lo {i : Int} {u : Option Int} {n : Nat} (h0 : i < 0) (h1 : -n ≤ i) : strSliceIndices (some i) u 1 n = strSliceIndices (some (i + n)) u 1 n := by
  have a : ¬ (i + n < 0) := by lia
  simp only [strSliceIndices, if_pos h0, if_neg a]
theorem idx_neg_hi {i : Int} {l : Option Int} {n : Nat} (h0 : i < 0) (h1 : -n ≤ i) : strSliceIndices l (some i) 1 n = strSliceIndices l (some (i + n)) 1 n := by
  have a : ¬ (i + n < 0) := by lia
  simp only [strSliceIndices, if_pos h0, if_neg a]
theorem slice_neg_lo {x : Str} {i : Int} {u : Option Int} (h0 : i < 0) (h1 : -x.length ≤ i) : Txt.slice x (some i) u = Txt.slice x (some (i + x.length)) u := by
  unfold Txt.slice; rw [idx_neg_lo h0 h1]
theorem slice_neg_hi {x : Str} {i : Int} {l : Option Int} (h0 : i < 0) (h1 : -x.length ≤ i) : Txt.slice x l (some i) = Txt.slice x l (some (i + x.length)) := by
  unfold Txt.slice; rw [idx_neg_hi h0 h1]

/-- x[:k] and x[k:] of a glued text -/
theorem slice_to_app {x a b : Str} {k : Int} (hx : x = a ++ b) (hk : k = a.length) : Txt.slice x none (some k) = a := by
  subst hx hk
  refine lst_ext ?_
  rw [slice_to (by lia) (by rw [Str.length_append]; lia), lst_append]
  simp [← lst_len]
theorem slice_from_app {x a b : Str} {k : Int} (hx : x = a ++ b) (hk : k = a.length) : Txt.slice x (some k) none = b := by
  subst hx hk
  refine lst_ext ?_
  rw [slice_from (by lia) (by rw [Str.length_append]; lia), lst_append]
  simp [← lst_len]
theorem slice_last_app {x a b : Str} {k : Int} (hx : x = a ++ b) (hk : k = -b.length) (hb : 0 < b.length) : Txt.slice x (some k) none = b := by
  subst hx
  rw [slice_neg_lo (by lia) (by rw [Str.length_append]; lia)]
  exact slice_from_app rfl (by rw [Str.length_append]; lia)
theorem slice_init_app {x a b : Str} {k : Int} (hx : x = a ++ b) (hk : k = -b.length) (hb : 0 < b.length) : Txt.slice x none (some k) = a := by
  subst hx
  rw [slice_neg_hi (by lia) (by rw [Str.length_append]; lia)]
  exact slice_to_app rfl (by rw [Str.length_append]; lia)

theorem at_iff (x y : Str) (hi i : Nat) : StrLaws.At x y hi i ↔ i + y.length ≤ hi ∧ ((lst x).drop i).take y.length = lst y := by
  unfold StrLaws.At
  rw [StrLaws.subAt_eq]
  constructor
  · rintro ⟨h1, h2⟩; exact ⟨h1, beq_iff_eq.mp h2⟩
  · rintro ⟨h1, h2⟩; exact ⟨h1, beq_iff_eq.mpr h2⟩

/-- the last place of a mark whose first two signs come nowhere behind it -/
theorem rfind_mid {x a y b : Str} {c0 c1 : Nat} {r : List Nat} (hx : x = a ++ y ++ b) (hy : lst y = c0 :: c1 :: r)
    (h1 : ∀ i, 1 ≤ i → i + 1 < (lst y).length → ¬ ((lst y)[i]? = some c0 ∧ (lst y)[i + 1]? = some c1))
    (h2 : (lst b)[0]? ≠ some c1) (h3 : c0 ∉ lst b) : Txt.rfind x y = a.length := by
  subst hx
  have hA : StrLaws.At (a ++ y ++ b) y (a ++ y ++ b).length a.length := by
    rw [at_iff]
    refine ⟨by rw [Str.length_append, Str.length_append]; lia, ?_⟩
    rw [lst_append, lst_append, List.append_assoc, ← lst_len a, List.drop_left, ← lst_len y, List.take_left]
  have hno : ∀ k, a.length < k → ¬ StrLaws.At (a ++ y ++ b) y (a ++ y ++ b).length k := by
    intro k hk hat
    obtain ⟨hle, he⟩ := (at_iff _ _ _ _).mp hat
    have g : ∀ j, j < (lst y).length → (lst (a ++ y ++ b))[k + j]? = (lst y)[j]? := by
      intro j hj
      rw [← he, List.getElem?_take, if_pos (by rw [← lst_len]; exact hj), List.getElem?_drop]
    have hlen : 2 ≤ (lst y).length := by rw [hy]; simp
    have g0 := g 0 (by lia)
    have g1 := g 1 (by lia)
    rw [hy] at g0 g1
    simp only [List.getElem?_cons_zero, List.getElem?_cons_succ, Nat.add_zero] at g0 g1
    obtain ⟨d, rfl⟩ : ∃ d, k = a.length + (d + 1) := ⟨k - a.length - 1, by lia⟩
    have e : ∀ j, (lst (a ++ y ++ b))[a.length + j]? = (lst y ++ lst b)[j]? := by
      intro j
      rw [lst_append, lst_append, List.append_assoc, List.getElem?_append_right (by rw [lst_len]; lia), lst_len]
      congr 1; lia
    rw [e] at g0
    rw [Nat.add_assoc, e] at g1
    by_cases q1 : d + 1 + 1 < (lst y).length
    · rw [List.getElem?_append_left (by lia)] at g0
      rw [List.getElem?_append_left q1] at g1
      exact h1 (d + 1) (by lia) q1 ⟨g0, g1⟩
    · by_cases q2 : d + 1 < (lst y).length
      · rw [List.getElem?_append_right (by lia)] at g1
        rw [show d + 1 + 1 - (lst y).length = 0 by lia] at g1
        exact h2 g1
      · rw [List.getElem?_append_right (by lia)] at g0
        exact h3 (List.mem_of_getElem? g0)
  rcases rfind_whole (a ++ y ++ b) y with ⟨_, hn⟩ | ⟨i, hi, hat, hn⟩
  · exact absurd hA (hn _)
  · rw [hi]
    congr 1
    rcases Nat.lt_trichotomy i a.length with q | q | q
    · exact absurd hA (hn _ q)
    · exact q
    · exact absurd hat (hno _ q)

theorem intS_free {k : Nat} (hk : k ≠ 45 ∧ (k < 48 ∨ 57 < k)) (i : Int) : k ∉ lst (intS i) := int_text_free' k hk i
theorem intS_nat (m : Nat) : lst (intS (m : Int)) = (Nat.toDigits 10 m).map Char.toNat := KIN.signs_num m
theorem intS_digit {n : Int} (h0 : 0 ≤ n) : ∀ c ∈ lst (intS n), 48 ≤ c ∧ c ≤ 57 := by
  obtain ⟨m, rfl⟩ := Int.eq_ofNat_of_zero_le h0
  intro c hc
  rw [intS_nat] at hc
  obtain ⟨ch, hch, e⟩ := List.mem_map.mp hc
  have r := digit_range (Nat.isDigit_of_mem_toDigits (by decide) (by decide) hch)
  rw [← e]
  exact r
theorem intS_ne0 {n : Int} (h0 : 0 ≤ n) : 0 < (intS n).length := by
  obtain ⟨m, rfl⟩ := Int.eq_ofNat_of_zero_le h0
  rw [← lst_len, intS_nat, List.length_map]
  have h := toDigits_len_ge 10 m
  lia
theorem intS_ne {n : Int} : 0 < (intS n).length := by
  by_cases h : 0 ≤ n
  · exact intS_ne0 h
  · rw [← lst_len, show lst (intS n) = (toString n).toList.map Char.toNat from intS_cps n, toString_neg (by lia)]
    simp

abbrev mkC : Str := Str.ofString " (char "
abbrev mkO : Str := Str.ofString " column "
abbrev mkL : Str := Str.ofString ": line "
abbrev mkE : Str := Str.ofString ")"

theorem words_eq (msg : Str) (l c p : Int) : wordsOf msg l c p = (msg ++ mkL ++ intS l ++ mkO ++ intS c) ++ mkC ++ (intS p ++ mkE) := by
  unfold wordsOf; simp only [Str.append_assoc]
theorem lst_C : lst mkC = [32, 40, 99, 104, 97, 114, 32] := by decide
theorem lst_O : lst mkO = [32, 99, 111, 108, 117, 109, 110, 32] := by decide
theorem lst_L : lst mkL = [58, 32, 108, 105, 110, 101, 32] := by decide
theorem lst_E : lst mkE = [41] := by decide
theorem intS_head {k : Nat} (hk : k ≠ 45 ∧ (k < 48 ∨ 57 < k)) (i : Int) (r : List Nat) : (lst (intS i) ++ r)[0]? ≠ some k := by
  intro h
  have hp : 0 < (lst (intS i)).length := by rw [lst_len]; exact intS_ne
  rw [List.getElem?_append_left hp] at h
  exact intS_free hk i (List.mem_of_getElem? h)
/-- the three marks' last places -/
theorem rfind_C (msg : Str) (l c p : Int) : Txt.rfind (wordsOf msg l c p) mkC = (msg ++ mkL ++ intS l ++ mkO ++ intS c).length := by
  refine rfind_mid (words_eq msg l c p) lst_C (by rw [lst_C]; intro i h1 h2 h3; simp only [List.length_cons, List.length_nil] at h2; rcases i with _ | _ | _ | _ | _ | _ | i <;> first | (exfalso; lia) | simp_all) ?_ ?_
  · rw [lst_append]; exact intS_head (by decide) _ _
  · rw [lst_append, lst_E]
    intro h
    rcases List.mem_append.mp h with h | h
    · exact intS_free (by decide) _ h
    · simp at h
theorem rfind_O (msg : Str) (l c : Int) : Txt.rfind (msg ++ mkL ++ intS l ++ mkO ++ intS c) mkO = (msg ++ mkL ++ intS l).length := by
  refine rfind_mid rfl lst_O (by rw [lst_O]; intro i h1 h2 h3; simp only [List.length_cons, List.length_nil] at h2; rcases i with _ | _ | _ | _ | _ | _ | _ | i <;> first | (exfalso; lia) | simp_all) ?_ ?_
  · have := intS_head (k := 99) (by decide) c []; simpa using this
  · exact intS_free (by decide) _
theorem rfind_L (msg : Str) (l : Int) : Txt.rfind (msg ++ mkL ++ intS l) mkL = msg.length := by
  refine rfind_mid rfl lst_L (by rw [lst_L]; intro i h1 h2 h3; simp only [List.length_cons, List.length_nil] at h2; rcases i with _ | _ | _ | _ | _ | _ | i <;> first | (exfalso; lia) | simp_all) ?_ ?_
  · have := intS_head (k := 32) (by decide) l []; simpa using this
  · exact intS_free (by decide) _
theorem len_C : mkC.length = 7 := by decide
theorem len_O : mkO.length = 8 := by decide
theorem len_L : mkL.length = 7 := by decide
theorem len_E : mkE.length = 1 := by decide

section
variable {prog : Program} {w : World} {A : Around} {E : Value → Shared → Prop} {s : Shared} {x y : Str} {t u : Tok} {k : Int} {Q : Value → Shared → Prop}
theorem call_rfindE (e : Txt.rfind x y = k) (hq : Q (.int k s.toks) { s with toks := s.toks + 1 }) : wpAny (model prog w) A (call (.builtin "str.rfind") [.str x t, .str y u]) Q E s := by
  subst e
  exact call_gives F.slot_str_rfind (typeIs_str _ _ _) F.entry_str_rfind (F.args_str_rfind_2 _ _) (gives_str_rfind x y t u) hq
end
section
variable {prog : Program} {w : World} {A : Around} {E : Value → Shared → Prop} {s : Shared} {value slice : Expr} {x z : Str} {t : Tok} {h₀ : Heap} {L : Addr} {m : Str → Option Value} {news : List (Addr × Obj)} {Q : Value → Shared → Prop}
theorem sliceE_ns {j : Int} {uj : Tok} (hF : Fr h₀ L s.heap m) (hN : News h₀ L s.heap news) (e : Txt.slice x none (some j) = z) (h : ∀ h' t' k, Fr h₀ L h' m → News h₀ L h' news → Q (.str z t') { s with heap := h', toks := k })
    (hs : subscripted slice false (.str x t) (.ref s.heap.objs.size) = operate [.ref s.heap.objs.size, .str x t] (getItem (.str x t) (.ref s.heap.objs.size)) := by with_unfolding_all rfl)
    (ht : ∀ r, letTemporaryGo value (.str x t) r = pure () := by intro _; with_unfolding_all rfl) (hsz : x.length ≤ sizeLine := by size_fits) :
    wpAny (model prog w) A (subscriptTail value slice (.str x t) (.ref s.heap.objs.size)) Q E { s with heap := s.heap.push { cls := .type "slice", data := .fields #[.none, .int j uj, .none] } } := by
  subst e
  exact slice_strN_ns hF hN h hs ht hsz
theorem sliceE_sn {i : Int} {ui : Tok} (hF : Fr h₀ L s.heap m) (hN : News h₀ L s.heap news) (e : Txt.slice x (some i) none = z) (h : ∀ h' t' k, Fr h₀ L h' m → News h₀ L h' news → Q (.str z t') { s with heap := h', toks := k })
    (hs : subscripted slice false (.str x t) (.ref s.heap.objs.size) = operate [.ref s.heap.objs.size, .str x t] (getItem (.str x t) (.ref s.heap.objs.size)) := by with_unfolding_all rfl)
    (ht : ∀ r, letTemporaryGo value (.str x t) r = pure () := by intro _; with_unfolding_all rfl) (hsz : x.length ≤ sizeLine := by size_fits) :
    wpAny (model prog w) A (subscriptTail value slice (.str x t) (.ref s.heap.objs.size)) Q E { s with heap := s.heap.push { cls := .type "slice", data := .fields #[.int i ui, .none, .none] } } := by
  subst e
  exact slice_strN_sn hF hN h hs ht hsz
end
section
variable {prog : Program} {w : World} {A : Around} {E : Value → Shared → Prop} {s : Shared} {x y : Str} {t u : Tok} {b : Bool} {Q : Value → Shared → Prop}
theorem eq_strE (e : (x == y) = b) (hq : Q (.bool b) s) : wpAny (model prog w) A (compareOp .Eq (.str x t) (.str y u)) Q E s := by
  subst e; exact eq_str hq
theorem ne_strE (e : (x != y) = b) (hq : Q (.bool b) s) : wpAny (model prog w) A (compareOp .NotEq (.str x t) (.str y u)) Q E s := by
  subst e; exact ne_str hq
theorem isdigitE (e : Txt.isdigit x = b) (hq : Q (.bool b) s) : wpAny (model prog w) A (call (.builtin "str.isdigit") [.str x t]) Q E s := by
  subst e; exact SC.isdigit hq
end
theorem isDigit_of : ∀ c : Nat, 48 ≤ c → c ≤ 57 → Unicode.isDigit c = true := by
  intro c h1 h2
  obtain ⟨d, rfl⟩ : ∃ d, c = 48 + d := ⟨c - 48, by lia⟩
  have hd : d < 10 := by lia
  clear h1 h2
  revert d
  decide +kernel
theorem isdigit_true {x : Str} (h0 : 0 < x.length) (h : ∀ c ∈ lst x, 48 ≤ c ∧ c ≤ 57) : Txt.isdigit x = true := by
  unfold Txt.isdigit
  rw [Bool.and_eq_true, decide_eq_true_eq, ← Array.all_toList, List.all_eq_true]
  exact ⟨h0, fun c hc => isDigit_of c (h c hc).1 (h c hc).2⟩
theorem ne_empty {x : Str} (h : 0 < x.length) : (x == Str.ofString "") = false := by
  rw [beq_eq_false_iff_ne]
  intro e
  rw [e] at h
  exact absurd h (by decide)
end Mine

-- part Cm9
open PySem PySem.W PyProof.Rows PySem.Calls
set_option Elab.async false
set_option maxRecDepth 100000
set_option maxHeartbeats 8000000
namespace Mine

theorem intsAre_of : ∀ {vs : List Value} {ns : List Int}, vs.length = ns.length → (∀ (i : Nat) (n : Int), ns[i]? = some n → ∃ t, vs[i]? = some (.int n t)) → IntsAre vs ns
  | [], [], _, _ => .nil
  | v :: vs, n :: ns, hl, h => by
    obtain ⟨t, e⟩ := h 0 n rfl
    simp only [List.getElem?_cons_zero, Option.some.injEq] at e
    subst e
    exact .cons _ _ (intsAre_of (by simpa using hl) fun i m hm => h (i + 1) m (by simpa using hm))
  | [], _ :: _, hl, _ => by simp at hl
  | _ :: _, [], hl, _ => by simp at hl

/-- an int of a list of ints -/
theorem IntsAre.at {vs : List Value} {ns : List Int} (hi : IntsAre vs ns) {i : Nat} {v : Value} (hv : vs[i]? = some v) : ∃ n t, ns[i]? = some n ∧ v = .int n t := by
  have h1 := (List.getElem?_eq_some_iff.mp hv).1
  have hlt : i < ns.length := by rw [← hi.length]; exact h1
  obtain ⟨t, hx⟩ := hi.get i _ (List.getElem?_eq_getElem hlt)
  rw [hv] at hx
  exact ⟨_, t, List.getElem?_eq_getElem hlt, Option.some.inj hx⟩

section
variable {prog : Program} {w : World} {A : Around} {E : Value → Shared → Prop} {s : Shared} {h₀ : Heap} {L : Addr} {m : Str → Option Value} {news : List (Addr × Obj)} {Q : Value → Shared → Prop}
theorem fresh_size (F : Fr h₀ L s.heap m) : s.heap.objs.size ≠ L ∧ h₀.get? s.heap.objs.size = none := by
  obtain ⟨oL, esL, epL, hLg, rL⟩ := F.ns
  refine ⟨Nat.ne_of_gt (Heap.lt_size hLg), ?_⟩
  cases q : h₀.get? s.heap.objs.size with
  | none => rfl
  | some o => exact absurd (Heap.lt_size (F.keep _ _ q)) (Nat.lt_irrefl _)

/-- list(range(a, b)) -/
theorem list_rangeN {r : Addr} {a b : Int} {n : Nat} {t u v : Tok} (hh : A.handled = none) (F : Fr h₀ L s.heap m) (N : News h₀ L s.heap news) (hr : IsRange s.heap r a b 1 t u v)
    (ha : -(2 ^ 62) ≤ a) (hb : b < 2 ^ 62) (hab : b - a = n) (hn : n ≤ 1000000)
    (h : ∀ D h' tk vs c, Fr h₀ L h' m → News h₀ L h' ((D, W.listOf vs.toArray c) :: news) → (∀ p ∈ news, p.1 < D) → IntsAre vs (rangeInts a 1 n) → Q (.ref D) { s with heap := h', toks := tk }) :
    wpAny (model prog w) A (call (.type "list") [.ref r]) Q E s := by
  refine call_list_range (n := n) hh hr (small_one ha (by lia) (by lia) hb) ?_ (by lia) fun h' tk acc c' hk hS hacc => ?_
  · unfold Builtin.Range.rangeSize
    rw [if_pos (by decide)]
    split <;> lia
  · refine h s.heap.objs.size h' tk acc.toList c' (F.keeps hk) ?_ (fun p hp => Heap.lt_size (N p hp).1) ?_
    · intro p hp
      rcases List.mem_cons.mp hp with rfl | hp
      · exact ⟨by simpa using hS, fresh_size F⟩
      · exact ⟨hk _ _ (N p hp).1, (N p hp).2⟩
    · refine intsAre_of (by rw [rangeInts_length]; simpa using hacc.1) fun i k hi => ?_
      have hlt : i < n := by have := (List.getElem?_eq_some_iff.mp hi).1; rwa [rangeInts_length] at this
      rw [rangeInts_get hlt] at hi
      have hsz : i < acc.size := by rw [hacc.1]; exact hlt
      obtain ⟨t, ht⟩ := hacc.2 i acc[i] (by simp [hsz])
      refine ⟨t, ?_⟩
      rw [← Option.some.inj hi, ← ht]
      simp [hsz]
theorem list_range0 {r : Addr} {n : Nat} {t u v : Tok} (hh : A.handled = none) (F : Fr h₀ L s.heap m) (N : News h₀ L s.heap news) (hr : IsRange s.heap r 0 (n : Int) 1 t u v) (hn : n ≤ 1000000)
    (h : ∀ D h' tk vs c, Fr h₀ L h' m → News h₀ L h' ((D, W.listOf vs.toArray c) :: news) → (∀ p ∈ news, p.1 < D) → IntsAre vs (rangeInts 0 1 n) → Q (.ref D) { s with heap := h', toks := tk }) :
    wpAny (model prog w) A (call (.type "list") [.ref r]) Q E s := list_rangeN (n := n) hh F N hr (by lia) (by lia) (by lia) hn h
theorem list_range1 {r : Addr} {n : Nat} {t u v : Tok} (hh : A.handled = none) (F : Fr h₀ L s.heap m) (N : News h₀ L s.heap news) (hr : IsRange s.heap r 1 ((n : Int) + 1) 1 t u v) (hn : n ≤ 1000000)
    (h : ∀ D h' tk vs c, Fr h₀ L h' m → News h₀ L h' ((D, W.listOf vs.toArray c) :: news) → (∀ p ∈ news, p.1 < D) → IntsAre vs (rangeInts 1 1 n) → Q (.ref D) { s with heap := h', toks := tk }) :
    wpAny (model prog w) A (call (.type "list") [.ref r]) Q E s := list_rangeN (n := n) hh F N hr (by lia) (by lia) (by lia) hn h
end
theorem cut_at (y : Value) (q : List Value) : ∀ p : List Value, kl_cut (p ++ y :: q) p.length = some (p, y, q)
  | [] => rfl
  | x :: p => by
    show (match kl_cut (p ++ y :: q) p.length with | some (a, b, c) => some (x :: a, b, c) | none => none) = _
    rw [cut_at y q p]
theorem upd_of_updF {d : Addr} {o : Obj} : ∀ {l : List (Addr × Obj)} {g : Obj → List (Addr × Obj)}, UpdF d o l g → ∀ o', Upd d o o' l (g o')
  | _, _, .head h, _ => .head h
  | _, _, .tail h u, o' => .tail h (upd_of_updF u o')
theorem intsAre_split : ∀ {vs : List Value} {ns : List Int} {k : Nat}, IntsAre vs ns → k < ns.length → ∃ vp t vq np x nq, vs = vp ++ .int x t :: vq ∧ ns = np ++ x :: nq ∧ vp.length = k ∧ np.length = k ∧ IntsAre vp np ∧ IntsAre vq nq
  | _, _, 0, .cons n t h, _ => ⟨[], t, _, [], n, _, rfl, rfl, rfl, rfl, .nil, h⟩
  | _, _, k + 1, .cons n t h, hk => by
    obtain ⟨vp, t', vq, np, x, nq, e1, e2, e3, e4, e5, e6⟩ := intsAre_split (k := k) h (by simpa using hk)
    exact ⟨.int n t :: vp, t', vq, n :: np, x, nq, by rw [e1]; rfl, by rw [e2]; rfl, by simp [e3], by simp [e4], .cons _ _ e5, e6⟩
section
variable {prog : Program} {w : World} {A : Around} {E : Value → Shared → Prop} {s : Shared} {h₀ : Heap} {L D : Addr} {m : Str → Option Value} {news : List (Addr × Obj)} {Q : Value → Shared → Prop}
theorem pop_intsN {us : List Value} {l : List Int} {n : Nat} {i : Int} {u : Tok} {g : Obj → List (Addr × Obj)} (F : Fr h₀ L s.heap m) (N : News h₀ L s.heap news) (hi : IntsAre us l) (U : UpdF D (W.listOf us.toArray n) news g)
    (h0 : 0 ≤ i) (h1 : i < l.length) (hz : l.length ≤ 1000000)
    (h : ∀ h' t p x q us', l = p ++ x :: q → IntsAre us' (p ++ q) → Fr h₀ L h' m → News h₀ L h' (g (W.listOf us'.toArray (n + 1))) → Q (.int x t) { s with heap := h' }) :
    wpAny (model prog w) A (call (.builtin "list.pop") [.ref D, .int i u]) Q E s := by
  obtain ⟨vp, t, vq, np, x, nq, rfl, rfl, e3, e4, e5, e6⟩ := intsAre_split (k := i.toNat) hi (by lia)
  have hlen := hi.length
  simp only [List.length_append, List.length_cons] at hlen h1 hz
  refine kl_popAt (k := vp.length) (p := vp) (q := vq) (y := .int x t) F N ?_ ?_ ?_ (upd_of_updF U _) ?_ (fun h' F' N' => h h' t np x nq (vp ++ vq) rfl (e5.append e6) F' N')
  · unfold Builtin.List.listFitsIndex
    rw [Bool.and_eq_true, decide_eq_true_eq, decide_eq_true_eq]
    constructor <;> lia
  · unfold seqIndex?
    simp only [List.size_toArray, List.length_append, List.length_cons]
    have q1 : ¬ (i < 0) := by lia
    simp only [if_neg q1]
    rw [if_pos (by rw [Bool.and_eq_true, decide_eq_true_eq, decide_eq_true_eq]; constructor <;> lia), e3]
  · exact cut_at _ _ _
  · simp only [List.length_append, List.length_cons]; rw [sizeLine_eq]; lia
end
/-- an error whose three objects are among those listed -/
def ErrIn (w : World) (C : Addr) (os : List (Addr × Obj)) (e : Addr) (msg doc : Str) (pos ln cn : Int) (ws : Str) : Prop :=
  ∃ d t r1 r2 r3 r4 r5 sl tw k1 k2 k3 k4 k5 t1 t2 t3 t4 t5,
    (e, (⟨.ref C, some d, .fields #[.ref t, r1, r2, r3, r4, r5], sl⟩ : Obj)) ∈ os ∧
    (t, ({ cls := .type "tuple", data := .seq #[.str ws tw] } : Obj)) ∈ os ∧
    (d, dictOf [ent w "msg" k1 (.str msg t1), ent w "doc" k2 (.str doc t2), ent w "pos" k3 (.int pos t3), ent w "lineno" k4 (.int ln t4), ent w "colno" k5 (.int cn t5)] 5) ∈ os
theorem ErrIn.sub {w : World} {C : Addr} {os os' : List (Addr × Obj)} {e : Addr} {msg doc : Str} {pos ln cn : Int} {ws : Str} (x : ErrIn w C os e msg doc pos ln cn ws) (k : ∀ p ∈ os, p ∈ os') : ErrIn w C os' e msg doc pos ln cn ws := by
  obtain ⟨d, t, r1, r2, r3, r4, r5, sl, tw, k1, k2, k3, k4, k5, t1, t2, t3, t4, t5, a, b, c⟩ := x
  exact ⟨d, t, r1, r2, r3, r4, r5, sl, tw, k1, k2, k3, k4, k5, t1, t2, t3, t4, t5, k _ a, k _ b, k _ c⟩
/-- where the walk is to stand still -/
def Stop (P : Prop) : Prop := P
theorem stop {P : Prop} (h : Stop P) : P := h
end Mine

-- part Cm10
open PySem PySem.W PyProof.Rows PySem.Calls
set_option Elab.async false
set_option maxRecDepth 100000
set_option maxHeartbeats 8000000
namespace Mine

section
variable {prog : Program} {w : World} {A : Around} {E : Value → Shared → Prop} {s : Shared} {env : Env} {h₀ : Heap} {target : Expr} {body : List Stmt} {Q : Flow → Shared → Prop}

end

/-- entering a def that has cells, and changes nothing that stood -/
theorem enterC {prog : Program} {w : World} {A : Around} {s : Shared} {Q E : Value → Shared → Prop} {K : Frag} {p : Program} {loose : List Str} {mg mb : Str → Option Value}
    {name qual : Str} {params : Arguments} {body : List Stmt} {scope : Scope} {dV kV doc pm cdv ct oc : Value} {an od : Option Addr} {osl : Array (Option Value)} {f : Addr} {vals : List Value} {binds : List (Str × Value)}
    (X : K.In s.heap) (T : TopRead p loose mg mb s.heap)
    (ho : K.lookup f = some ⟨oc, od, .func (fnOf name qual params body scope dV kV doc pm an cdv ct), osl⟩) (hcd : codeIn K cdv qual = true) (hroom : A.depth < recursionLimit)
    (hbind : BindsTo s (fnOf name qual params body scope dV kV doc pm an cdv ct) ⟨vals, []⟩ binds) (hkind : (binds.all fun y => scope.names.lookup y.1 == some .local || scope.names.lookup y.1 == some .cell) = true)
    (hnd : ((cellsFrom 0 scope.names []).map (·.1)).Nodup)
    (h : ∀ L h₁ tk cells, Fr s.heap L h₁ (bindL (envOfC qual scope L f cdv).kindOf binds fun _ => none) → News s.heap L h₁ cells → CellsAre (bindC (envOfC qual scope L f cdv).kindOf binds fun _ => none) (cellsFrom (L + 1) scope.names []) cells →
      wpAny (model prog w) (A.deeper (envOfC qual scope L f cdv)) (execs body (envOfC qual scope L f cdv))
        (fun fl s' => Q (match fl with | .ret v => v | _ => .none) s')
        (fun _ _ => False)
        { s with heap := h₁, toks := tk })
    (hco : scope.isCoroutine = false := by rfl) (hgen : scope.isGenerator = false := by rfl) (hk : scope.kind = .function := by rfl) : wpAny (model prog w) A (call (.ref f) vals) Q E s := by
  refine wpAny_call (codeAny_call_function hroom (X _ _ ho) rfl hco hgen rfl (codeRec_of X hcd) (hbind _ _ _ _ ?_))
  refine wpAny_newFunctionEnv_cells hk (kindsX hkind _) fun env' he s' x => ?_
  subst he
  refine ⟨T.nolimit.keeps x.toInCall.keep, codeAny_func ?_⟩
  obtain ⟨h₁, tk, rfl, _⟩ := x.done
  have hk₁ := x.toInCall.keep
  obtain ⟨cells, NC, Y⟩ := Cl.news (h₀ := s.heap) (Nat.le_refl _) fun n c hm => ⟨x.cell n c (lookup_of_mem_nodup (cellsFrom_names scope.names 0 (s.heap.objs.size + 1) [] [] rfl ▸ hnd) hm), x.above n c hm⟩
  exact wpAny_mono (h s.heap.objs.size h₁ tk cells ⟨x.toInCall.ns, hk₁, Nat.le_refl _⟩ NC Y) (fun _ _ z => z) (fun _ _ z => z.elim)
end Mine

-- part Cm11
open PySem PySem.W PyProof.Rows PySem.Calls
set_option Elab.async false
set_option maxRecDepth 100000
set_option maxHeartbeats 8000000
namespace Mine

section
variable {prog : Program} {w : World} {A : Around} {E : Value → Shared → Prop} {s : Shared} {K : Frag} {e C d t : Addr} {h₀ : Heap} {L : Addr} {m : Str → Option Value} {news : List (Addr × Obj)} {Q : Value → Shared → Prop}

theorem getN {name : Str} {expr : Bool} {v : Value} {es : List DictEntry} {n : Nat} {vs : Array Value} {sl : Array (Option Value)} (H : ErrK K C) (F : Fr h₀ L s.heap m) (X : K.In h₀) (N : News h₀ L s.heap news)
    (he : (e, (⟨.ref C, some d, .fields vs, sl⟩ : Obj)) ∈ news) (hd : (d, dictOf es n) ∈ news) (hf : findIn K (.ref C) name = some none) (hl : getL name es = some (some v)) (hh : handedIn v = true) (h : Q v { s with toks := s.toks + 1 }) :
    wpAny (model prog w) A (getAttr (.ref e) name expr) Q E s := get_err_own H (X.keeps F.keep) (N.get he) (N.get hd) hf hl hh h
theorem strN {ws : Str} {tw : Tok} {dd : Option Addr} {r1 r2 r3 r4 r5 : Value} {sl : Array (Option Value)} (H : ErrK K C) (hu : A.units + 2 < cLine) (F : Fr h₀ L s.heap m) (X : K.In h₀) (N : News h₀ L s.heap news)
    (he : (e, (⟨.ref C, dd, .fields #[.ref t, r1, r2, r3, r4, r5], sl⟩ : Obj)) ∈ news) (ht : (t, ({ cls := .type "tuple", data := .seq #[.str ws tw] } : Obj)) ∈ news) (h : Q (.str ws tw) s) :
    wpAny (model prog w) A (call (.type "str") [.ref e]) Q E s := str_err H hu (X.keeps F.keep) (N.get he) (N.get ht) h
end
end Mine

-- part Cm14
open PySem PySem.W PyProof.Rows PySem.Calls
set_option Elab.async false
set_option maxRecDepth 100000
set_option maxHeartbeats 8000000
namespace Mine
section
variable {prog : Program} {w : World} {A : Around} {E : Value → Shared → Prop} {s : Shared} {env : Env} {h₀ : Heap} {body : List Stmt} {Q : Flow → Shared → Prop}
def TurnEndF (h₀ : Heap) (L : Addr) (own : List (Addr × Obj)) (J : (Str → Option Value) → List (Addr × Obj) → Prop) (s : Shared) (Q : Flow → Shared → Prop) (f : Flow) (s₂ : Shared) : Prop :=
  match f with
  | .ret v => Q (.ret v) s₂
  | .brk => Q .next s₂
  | _ => ∃ h' tk m' news', s₂ = { s with heap := h', toks := tk } ∧ Fr h₀ L h' m' ∧ News h₀ L h' (news' ++ own) ∧ (∀ p ∈ own, ∀ q ∈ news', p.1 ≠ q.1) ∧ J m' news'
/-- a for by an invariant; what the loop owns is off the ledger -/
theorem turns_F {target : Expr} {I : Addr} {fp wr : List Addr} {n : Nat} {P Md : Nat → Value → Heap → Prop} {St : Nat → Heap → Prop} {m : Str → Option Value} {news : List (Addr × Obj)}
    (W : KTurns prog w A target I fp wr n P Md St) (hsub : ∀ b ∈ wr, b ∈ fp) (hLf : env.locals ∉ fp) (hwr : ∀ b ∈ wr, h₀.get? b = none) (hlive : ∀ i h, St i h → ∀ b ∈ fp, ∃ o, h.get? b = some o)
    (hnw : ∀ p ∈ news, p.1 ∉ fp) (hst : St 0 s.heap) (F : Fr h₀ env.locals s.heap m) (N : News h₀ env.locals s.heap news)
    (J : Nat → (Str → Option Value) → List (Addr × Obj) → Prop) (hj : J 0 m news)
    (turn : ∀ i v m₁ news₁ h tk own, i < n → P i v h → J i m₁ news₁ → (∀ p ∈ own, ∀ q ∈ news₁, p.1 ≠ q.1) → St (i + 1) h → Fr h₀ env.locals h m₁ → News h₀ env.locals h (news₁ ++ own) →
      wpAny (model prog w) A (assign target env v) (fun _ s₂ => wpAny (model prog w) A (execs body env) (TurnEndF h₀ env.locals own (J (i + 1)) s Q) E s₂) E { s with heap := h, toks := tk })
    (done : ∀ m₁ news₁ h tk, J n m₁ news₁ → Fr h₀ env.locals h m₁ → News h₀ env.locals h news₁ → Q .next { s with heap := h, toks := tk }) :
    TurnsAt prog w A h₀ env target body Q E (.ref I) s := by
  refine ⟨I, fp, wr, n, P, Md, St, m, news, fun i m news => J i m news ∧ ∀ p ∈ news, p.1 ∉ fp, rfl, W, hLf, hwr, fun p hp hb => hnw p hp (hsub _ hb), hst, F, N, ⟨hj, hnw⟩, ?_, fun h' tk m' news' F' N' _ hJ => done m' news' h' tk hJ.1 F' N'⟩
  rintro i v m₁ news₁ hh' tk' own hin hP ⟨hJ, hJ2⟩ hoff hown _ hall hSt F₁ N₁
  have N₂ : News h₀ env.locals hh' (news₁ ++ own) := fun p hp => N₁ p ((List.mem_append.mp hp).elim (fun h => List.mem_append.mpr (.inr h)) fun h => List.mem_append.mpr (.inl h))
  refine wpAny_mono (turn i v m₁ news₁ hh' tk' own hin hP hJ (fun p hp q hq e => hJ2 q hq (e ▸ hown p hp)) hSt F₁ N₂) (fun _ s₃ z => wpAny_mono z (fun f s₂ p => ?_) fun _ _ e => e) fun _ _ e => e
  have fin : (∃ h' tk m' news', s₂ = { s with heap := h', toks := tk } ∧ Fr h₀ env.locals h' m' ∧ News h₀ env.locals h' (news' ++ own) ∧ (∀ p ∈ own, ∀ q ∈ news', p.1 ≠ q.1) ∧ J (i + 1) m' news') →
      LoopStepU h₀ env.locals wr own (fun m news => J (i + 1) m news ∧ ∀ p ∈ news, p.1 ∉ fp) { s with heap := hh', toks := tk' } .next s₂ := by
    rintro ⟨h', tk, m', news', e, F', N', ha, hm⟩
    have hf : ∀ p ∈ news', p.1 ∉ fp := fun p hp hq => by
      obtain ⟨o, ho⟩ := hlive _ _ hSt _ hq
      exact ha _ (hall _ hq (N' p (List.mem_append_left _ hp)).2.2 o ho) p hp rfl
    exact ⟨rfl, h', tk, m', news', e, F', fun p hp => N' p ((List.mem_append.mp hp).elim (fun h => List.mem_append.mpr (.inr h)) fun h => List.mem_append.mpr (.inl h)), fun p hp hq => hf p hp (hsub _ hq), hm, hf⟩
  cases f with
  | ret v => exact .ret p
  | brk => exact .brk p
  | next => exact .next (fin p)
  | cont => exact .cont (fin p)
/-- a for over a list -/
theorem for_LF {target : Expr} {l : Addr} {vs : List Value} {m : Str → Option Value} {news : List (Addr × Obj)}
    (hh : A.handled = none) (hl : s.heap.IsList l vs.toArray) (hlL : l ≠ env.locals) (F : Fr h₀ env.locals s.heap m) (N : News h₀ env.locals s.heap news) (hnl : ∀ p ∈ news, p.1 ≠ l)
    (J : Nat → (Str → Option Value) → List (Addr × Obj) → Prop) (hj : J 0 m news)
    (turn : ∀ i v m₁ news₁ h tk own, vs[i]? = some v → J i m₁ news₁ → (∀ p ∈ own, ∀ q ∈ news₁, p.1 ≠ q.1) → h.IsList l vs.toArray → Fr h₀ env.locals h m₁ → News h₀ env.locals h (news₁ ++ own) →
      wpAny (model prog w) A (assign target env v) (fun _ s₂ => wpAny (model prog w) A (execs body env) (TurnEndF h₀ env.locals own (J (i + 1)) s Q) E s₂) E { s with heap := h, toks := tk })
    (done : ∀ m₁ news₁ h tk, J vs.length m₁ news₁ → Fr h₀ env.locals h m₁ → News h₀ env.locals h news₁ → Q .next { s with heap := h, toks := tk }) :
    wpAny (model prog w) A (pyIter (.ref l)) (fun it s₂ => TurnsAt prog w A h₀ env target body Q E it s₂) E s := by
  obtain ⟨ol, hol, hrest⟩ := id hl
  have hne : l ≠ s.heap.objs.size := Nat.ne_of_lt (Heap.lt_size hol)
  refine wpAny_pyIter_list hl ?_
  have W := KTurns.ofWalks (target := target) (Walks.list (prog := prog) (w := w) hh s.heap.objs.size l hne vs.toArray) fun i v s Q E st q => letGo_listiter st.1 q
  have hlen : vs.toArray.size = vs.length := by simp
  rw [hlen] at W
  refine turns_F (J := J) (s := { s with heap := _ }) W W.sub ?_ ?_ ?_ ?_ ⟨⟨_, Heap.get?_push_size _ rfl, rfl, rfl⟩, hl.at fun o e => Heap.get?_push_of_some _ e⟩ (F.push _) (fun p hp => ⟨Heap.get?_push_of_some _ (N p hp).1, (N p hp).2⟩) hj ?_ (fun m₁ news₁ h tk hJ F' N' => done m₁ news₁ h tk hJ F' N')
  · intro hm
    rcases List.mem_cons.mp hm with e | hm
    · exact absurd F.ns.lt (e ▸ Nat.lt_irrefl _)
    · exact hlL (List.mem_singleton.mp hm).symm
  · intro b hb
    rw [List.mem_singleton.mp hb]
    exact next_is_new F
  · intro i h hst b hb
    obtain ⟨⟨o, ho, _⟩, ⟨o2, ho2, _⟩⟩ := hst
    rcases List.mem_cons.mp hb with rfl | hb
    · exact ⟨o, ho⟩
    · rw [List.mem_singleton.mp hb]; exact ⟨o2, ho2⟩
  · intro p hp hI
    rcases List.mem_cons.mp hI with e | hI
    · exact absurd (Heap.lt_size (N p hp).1) (e ▸ Nat.lt_irrefl _)
    · exact hnl p hp (List.mem_singleton.mp hI)
  · intro i v m₁ news₁ h tk own hin hP hJ hoff hSt F' N'
    exact turn i v m₁ news₁ h tk own (by simpa using hP) hJ hoff hSt.2 F' N'
/-- a for over range(a, a + n) -/
theorem for_RF {x : Str} {ps : Pos} {r : Addr} {a b : Int} {n : Nat} {t u v : Tok} {m : Str → Option Value} {news : List (Addr × Obj)}
    (hh : A.handled = none) (hr : IsRange s.heap r a b 1 t u v) (hsm : Builtin.Range.small a b 1 = true) (hn : Builtin.Range.rangeSize a b 1 = n) (F : Fr h₀ env.locals s.heap m) (N : News h₀ env.locals s.heap news)
    (J : Nat → (Str → Option Value) → List (Addr × Obj) → Prop) (hj : J 0 m news)
    (turn : ∀ i t m₁ news₁ h tk own, i < n → J i m₁ news₁ → (∀ p ∈ own, ∀ q ∈ news₁, p.1 ≠ q.1) → Fr h₀ env.locals h m₁ → News h₀ env.locals h (news₁ ++ own) →
      wpAny (model prog w) A (assign (.Name x ps) env (.int (a + i) t)) (fun _ s₂ => wpAny (model prog w) A (execs body env) (TurnEndF h₀ env.locals own (J (i + 1)) s Q) E s₂) E { s with heap := h, toks := tk })
    (done : ∀ m₁ news₁ h tk, J n m₁ news₁ → Fr h₀ env.locals h m₁ → News h₀ env.locals h news₁ → Q .next { s with heap := h, toks := tk }) :
    wpAny (model prog w) A (pyIter (.ref r)) (fun it s₂ => TurnsAt prog w A h₀ env (.Name x ps) body Q E it s₂) E s := by
  refine wpAny_pyIter_range hr hsm ?_
  rw [hn]
  have W := KTurns.ofWalks (target := .Name x ps) (Walks.range (prog := prog) (w := w) hh s.heap.objs.size a 1 n) fun i v s Q E st q => wpAny_pure q
  refine turns_F (J := J) (s := { s with heap := _ }) W W.sub ?_ ?_ ?_ ?_ ?_ (F.push _) (fun p hp => ⟨Heap.get?_push_of_some _ (N p hp).1, (N p hp).2⟩) hj ?_ (fun m₁ news₁ h tk hJ F' N' => done m₁ news₁ h tk hJ F' N')
  · intro hm
    exact absurd F.ns.lt (List.mem_singleton.mp hm ▸ Nat.lt_irrefl _)
  · intro b hb
    rw [List.mem_singleton.mp hb]
    exact next_is_new F
  · intro i h hst b hb
    rw [List.mem_singleton.mp hb]
    exact ⟨_, hst⟩
  · intro p hp hI
    exact absurd (Heap.lt_size (N p hp).1) ((List.mem_singleton.mp hI) ▸ Nat.lt_irrefl _)
  · show IsRangeIter _ _ (a + (0 : Nat) * 1) ((n : Int) - (0 : Nat)) 1
    have e1 : a + ((0 : Nat) : Int) * 1 = a := by omega
    have e2 : (n : Int) - ((0 : Nat) : Int) = n := by omega
    rw [e1, e2]
    exact Heap.get?_push_size _ rfl
  · rintro i v m₁ news₁ h tk own hin ⟨t', rfl⟩ hJ hoff hSt F' N'
    rw [Int.mul_one]
    exact turn i t' m₁ news₁ h tk own hin hJ hoff F' N'
end
end Mine

-- part Pl
open PySem PySem.W PyProof.Rows PySem.Calls
set_option Elab.async false
set_option maxRecDepth 100000
set_option maxHeartbeats 8000000
namespace Mine
open PySem.Builtin PySem.Builtin.Str

/-- line ends among the first k signs; the column that a walk over the first k signs comes to -/
def nlc (cs : List Nat) (k : Nat) : Nat := (cs.take k).count 10
def colf (cs : List Nat) : Nat → Int
  | 0 => 1
  | k + 1 => if cs[k]? = some 10 then 1 else colf cs k + 1

theorem nlc_succ (cs : List Nat) (k : Nat) : nlc cs (k + 1) = nlc cs k + (if cs[k]? = some 10 then 1 else 0) := by
  unfold nlc
  rw [List.take_add_one, List.count_append]
  cases h : cs[k]? with
  | none => simp
  | some c => simp only [Option.toList_some, List.count_singleton, Option.some.injEq]; congr 1; simp
theorem colf_pos (cs : List Nat) : ∀ k, 1 ≤ colf cs k
  | 0 => by simp [colf]
  | k + 1 => by unfold colf; split; · lia
                · have := colf_pos cs k; lia
theorem colf_le (cs : List Nat) : ∀ k : Nat, colf cs k ≤ k + 1
  | 0 => by simp [colf]
  | k + 1 => by unfold colf; split; · lia
                · have := colf_le cs k; lia
theorem colf_none {cs : List Nat} : ∀ {k : Nat}, (∀ i, i < k → cs[i]? ≠ some 10) → colf cs k = k + 1
  | 0, _ => by simp [colf]
  | k + 1, h => by
    unfold colf
    rw [if_neg (h k (by lia)), colf_none fun i hi => h i (by lia)]
    lia
theorem colf_last {cs : List Nat} : ∀ {k i : Nat}, i < k → cs[i]? = some 10 → (∀ j, i < j → j < k → cs[j]? ≠ some 10) → colf cs k = k - i
  | 0, _, h, _, _ => absurd h (Nat.not_lt_zero _)
  | k + 1, i, h, h1, h2 => by
    unfold colf
    by_cases q : i = k
    · subst q; rw [if_pos h1]; lia
    · rw [if_neg (h2 k (by lia) (by lia)), colf_last (by lia) h1 fun j a b => h2 j a (by lia)]
      lia

theorem lst_nl : lst nl = [10] := by decide
theorem len_nl : nl.length = 1 := by decide
theorem at_nl (x : Str) (hi i : Nat) : StrLaws.At x nl hi i ↔ i + 1 ≤ hi ∧ (lst x)[i]? = some 10 := by
  rw [at_iff, len_nl, lst_nl]
  constructor
  · rintro ⟨h1, h2⟩
    refine ⟨h1, ?_⟩
    have := congrArg (fun l => l[0]?) h2
    simpa [List.getElem?_take, List.getElem?_drop] using this
  · rintro ⟨h1, h2⟩
    refine ⟨h1, ?_⟩
    have hlt := (List.getElem?_eq_some_iff.mp h2).1
    rw [List.drop_eq_getElem_cons hlt]
    have := (List.getElem?_eq_some_iff.mp h2).2
    simp [this]

theorem occ_run (x : Str) (hi limit : Nat) : ∀ (l : List Nat) (st : Array Nat × Nat), l.Pairwise (· < ·) → (∀ i ∈ l, st.2 ≤ i) → st.1.size + l.length ≤ limit →
    (forIn l st (StrLaws.occBody x nl hi limit)).run.fst.size = st.1.size + l.countP (fun i => decide (i + 1 ≤ hi ∧ (lst x)[i]? = some 10))
  | [], st, _, _, _ => by simp
  | a :: l, st, hp, hs, hl => by
    rw [List.forIn_cons]
    have hp' := List.pairwise_cons.mp hp
    simp only [List.length_cons] at hl
    unfold StrLaws.occBody
    by_cases hc : a + 1 ≤ hi ∧ (lst x)[a]? = some 10
    · have hat := (at_nl x hi a).mpr hc
      rw [if_pos ⟨⟨⟨by lia, hs a (by simp)⟩, by rw [len_nl]; exact hc.1⟩, hat.2⟩]
      have := occ_run x hi limit l (st.1.push a, a + nl.length) hp'.2 (fun i hi' => by rw [len_nl]; exact hp'.1 i hi') (by simp only [Array.size_push]; lia)
      simp only [Array.size_push] at this
      refine this.trans ?_
      rw [List.countP_cons_of_pos (by simpa using hc)]
      lia
    · rw [if_neg (fun q => hc ((at_nl x hi a).mp ⟨q.1.2, q.2⟩))]
      have := occ_run x hi limit l (st.1, st.2) hp'.2 (fun i hi' => hs i (by simp [hi'])) (by show st.1.size + l.length ≤ limit; lia)
      refine this.trans ?_
      rw [List.countP_cons_of_neg (by simpa using hc)]

theorem countP_range (cs : List Nat) : ∀ hi : Nat, (List.range' 0 (hi + 1)).countP (fun i => decide (i + 1 ≤ hi ∧ cs[i]? = some 10)) = nlc cs hi := by
  have key : ∀ hi k : Nat, k ≤ hi → (List.range' 0 k).countP (fun i => decide (i + 1 ≤ hi ∧ cs[i]? = some 10)) = nlc cs k := by
    intro hi k
    induction k with
    | zero => intro _; simp [nlc]
    | succ k ih =>
      intro hk
      rw [List.range'_1_concat, List.countP_append, ih (by lia), nlc_succ]
      congr 1
      simp only [Nat.zero_add, List.countP_singleton, decide_eq_true_eq]
      by_cases q : cs[k]? = some 10
      · rw [if_pos ⟨by lia, q⟩, if_pos q]
      · rw [if_neg (fun z => q z.2), if_neg q]
  intro hi
  rw [List.range'_1_concat, List.countP_append, key hi hi (Nat.le_refl _)]
  simp
  lia
theorem occ_nl (x : Str) (hi : Nat) (h : hi ≤ x.length) : (occurrences x nl 0 hi (x.length + 1)).length = nlc (lst x) hi := by
  rw [StrLaws.occ_eq]
  have := occ_run x hi (x.length + 1) (List.range' 0 (hi + 1 - 0)) (#[], 0) (by simpa using List.pairwise_lt_range' (s := 0) (n := hi + 1)) (fun i _ => Nat.zero_le _) (by simp; lia)
  rw [Array.length_toList]
  refine this.trans ?_
  simp only [List.size_toArray, List.length_nil, Nat.zero_add, Nat.sub_zero]
  exact countP_range (lst x) hi

theorem last_nl (x : Str) (hi : Nat) : (match lastOccurrence x nl 0 hi with | some i => (i : Int) | none => -1) = hi - colf (lst x) hi := by
  rw [StrLaws.last_eq]
  have key := StrLaws.last_run x nl hi (List.range' 0 (hi + 1 - 0)) [] none (fun _ h => nomatch h) (fun _ h => nomatch h) (by simpa using List.pairwise_lt_range' (s := 0) (n := hi + 1))
  have mem : ∀ i, i + 1 ≤ hi → i ∈ [] ++ List.range' 0 (hi + 1 - 0) := fun i hi => by simp [List.mem_range']; lia
  cases hr : (forIn (List.range' 0 (hi + 1 - 0)) none (StrLaws.lastBody x nl hi)).run with
  | none =>
    rw [hr] at key
    have : ∀ i, i < hi → (lst x)[i]? ≠ some 10 := fun i h1 h2 => key i (mem i (by lia)) ((at_nl x hi i).mpr ⟨by lia, h2⟩)
    rw [colf_none this]
    show (-1 : Int) = _
    lia
  | some a =>
    rw [hr] at key
    obtain ⟨h1, h2⟩ := key
    obtain ⟨h3, h4⟩ := (at_nl x hi a).mp h1
    rw [colf_last (by lia) h4 (fun j a1 a2 q => h2 j (mem j (by lia)) a1 ((at_nl x hi j).mpr ⟨by lia, q⟩))]
    show (a : Int) = _
    lia

theorem hiOf_le (n : Nat) (p : Int) : hiOf n p ≤ n := by unfold hiOf; lia
theorem ln_eq (x : Str) (p : Int) : lnOf x p = nlc (lst x) (hiOf x.length p) + 1 := by
  unfold lnOf cnt
  rw [occ_nl x _ (hiOf_le _ _)]
theorem cn_eq (x : Str) (p : Int) : cnOf x p = colf (lst x) (hiOf x.length p) + (p - hiOf x.length p) := by
  have := last_nl x (hiOf x.length p)
  show p - (match lastOccurrence x nl 0 (hiOf x.length p) with | some i => (i : Int) | none => -1) = _
  lia
theorem hiOf_in {n : Nat} {k : Nat} (h : k ≤ n) : hiOf n k = k := by unfold hiOf; split <;> lia
theorem ln_in (x : Str) {k : Nat} (h : k ≤ x.length) : lnOf x k = nlc (lst x) k + 1 := by rw [ln_eq, hiOf_in h]
theorem cn_in (x : Str) {k : Nat} (h : k ≤ x.length) : cnOf x k = colf (lst x) k := by rw [cn_eq, hiOf_in h]; lia
theorem nlc_le (cs : List Nat) (k : Nat) : nlc cs k ≤ k := by
  unfold nlc
  exact Nat.le_trans List.count_le_length (by rw [List.length_take]; lia)
end Mine

-- part Er02
open PySem PySem.W PyProof.Rows PySem.Calls
set_option Elab.async false
set_option maxRecDepth 100000
set_option maxHeartbeats 8000000
set_option rowWalk.seconds 0
namespace Mine
theorem errK (w : World) : ErrK (hd.heap_39 w.params) 38 where
  cls := ⟨_, rfl, rfl, rfl⟩
  sa := by rfl
  ga := by rfl
  hook := by rfl
  str := by rfl
  args := by rfl
  nmsg := by rfl
  ndoc := by rfl
  npos := by rfl
  nlin := by rfl
  ncol := by rfl
section
theorem c_init {w : World} {A : Around} {s : Shared} {Q E : Value → Shared → Prop} {p : Program} {loose : List Str} {mg mb : Str → Option Value} {g : Heap} {e t : Addr} {msg doc : Str} {pos : Int} {t1 t2 t3 : Tok}
    (hk : Keeps g s.heap) (hsz : g.objs.size ≤ s.heap.objs.size)
    (he : s.heap.get? e = some { cls := .ref 38, data := .fields #[.ref t, .none, .none, .none, .bool false, .none] }) (hge : g.get? e = none)
    (X : (hd.heap_39 w.params).In g) (T : TopRead p loose mg mb g) (hroom : A.depth + 1 < recursionLimit)
    (hm : msg.length ≤ 1000000) (hl : (cnt doc (Str.ofString "\n") pos + 1).natAbs.log2 < 1920) (hc : (pos - rfd doc (Str.ofString "\n") pos).natAbs.log2 < 1920) (hp : pos.natAbs.log2 < 1920)
    (h : ∀ h' tk os, Keeps g h' → (∀ p ∈ os, h'.get? p.1 = some p.2 ∧ g.get? p.1 = none) → ErrIn w 38 os e msg doc pos (lnOf doc pos) (cnOf doc pos) (wordsOf msg (lnOf doc pos) (cnOf doc pos) pos) → Q (.none) { s with heap := h', toks := tk }) :
    wpAny (model PySem.Challenge.rw_dm0193_02.row.prog w) A (call (.ref 28) [.ref e, .str msg t1, .str doc t2, .int pos t3]) Q E s := by
  k_with_none
  k_with "call builtin:str.count" => (refine call_count4 ?_)
  k_with "call builtin:str.rfind" => (refine call_rfind4 ?_)
  k_with "binaryOp Mod str ref" => (refine mod_words (News.isTup (by assumption) (by k_mem)) (by assumption) (by assumption) (by assumption) (by assumption) ?_; intro _ _)
  k_with "getMethod type:ValueError" => (refine method_vinit (K := hd.heap_39 _) (by assumption) (by assumption) ?_)
  k_with "call builtin:ValueError.__init__" => (refine vinitN (errK _) (by assumption) (by assumption) (by assumption) (by k_updF) ?_; intro _ _ _ _ l1; (try k_lt l1))
  k_with "setAttr ref" => (refine set_moreN (errK _) (by assumption) (by assumption) (by assumption) (by k_mem) (by k_updF) (by rfl) (by k_get) (Nat.le_of_ble_eq_true rfl) (by k_put) ?_; intro _ _ _)
  k_with "setAttr ref" => (refine set_firstN (errK _) (by assumption) (by assumption) (by assumption) (by k_updF) (by rfl) ?_; intro _ _ _ _ l1; (try k_lt l1))
  revert X; k_fill; intro X
  refine enterM (binds := [("self", .ref e), ("msg", .str msg t1), ("doc", .str doc t2), ("pos", .int pos t3)]) [(e, _)] g hk hsz (by intro q hq; cases hq with | head => exact ⟨he, hge⟩ | tail _ hq => cases hq) X T (by rfl) (by rfl) (by omega) (BindsTo.of_eq rfl) (locs rfl) ?_
  intro L h₁ F N hlt
  w_strict (k_steps)
  (rename News _ _ _ _ => N9)
  refine h _ _ _ (Fr.keep (by assumption)) (fun p hp => ⟨(N9 p hp).1, (N9 p hp).2.2⟩) ⟨_, _, _, _, _, _, _, _, _, _, _, _, _, _, _, _, _, _, _, (by k_mem), (by k_mem), (by k_mem)⟩
end

theorem ns_some_of {K : Frag} {h : Heap} {N : Addr} {mN : Str → Option Value} {n : Str} {v : Value} (X : K.In h) (G : h.Ns N mN) (e : nsIn K N n = some (some v)) : mN n = some v := by
  obtain ⟨o, es, ep, ho, hd, _, hf⟩ := G
  simp only [nsIn] at e
  split at e <;> try contradiction
  next q =>
    have hx := X _ _ q
    rw [ho] at hx
    injection hx with hx
    subst hx
    injection hd with h1 h2
    subst h1
    rw [← hf, nsFind, findBy, ← Array.find?_toList]
    split at e
    next en he => rw [he]; exact Option.some.inj e
    next => split at e <;> cases e

theorem c_make {w : World} {A : Around} {s : Shared} {Q E : Value → Shared → Prop} {p : Program} {loose : List Str} {mg mb : Str → Option Value} {msg doc : Str} {pos : Int} {t1 t2 t3 : Tok}
    (X : (hd.heap_39 w.params).In s.heap) (T : TopRead p loose mg mb s.heap) (hroom : A.depth + 2 < recursionLimit)
    (hm : msg.length ≤ 1000000) (hl : (lnOf doc pos).natAbs.log2 < 1920) (hc : (cnOf doc pos).natAbs.log2 < 1920) (hp : pos.natAbs.log2 < 1920)
    (h : ∀ h' tk e os, Keeps s.heap h' → (∀ p ∈ os, h'.get? p.1 = some p.2 ∧ s.heap.get? p.1 = none) → ErrIn w 38 os e msg doc pos (lnOf doc pos) (cnOf doc pos) (wordsOf msg (lnOf doc pos) (cnOf doc pos) pos) → Q (.ref e) { s with heap := h', toks := tk }) :
    wpAny (model PySem.Challenge.rw_dm0193_02.row.prog w) A (call (.ref 38) [.str msg t1, .str doc t2, .int pos t3]) Q E s := by
  have hC := X 38 _ rfl
  have hN : s.heap.Ns 37 _ := .of_isNs (isNs_of_in X (by kernel_rfl))
  have hi : s.heap.nsMap 37 "__init__" = some (.ref 28) := ns_some_of X hN (by kernel_rfl)
  refine wpAny_call_exc_init (h := s.heap) PySem.F.excBase_ValueError hC hN hi (X 28 _ rfl) rfl (fun h' e hm' => ?_)
  obtain ⟨hk, hne, t, het, _⟩ := hm'
  have hkg : Keeps s.heap (hideAll h' [e]) := of_hide_base hk (by intro a ha; rw [List.mem_singleton.mp ha]; exact hne)
  refine c_init (g := hideAll h' [e]) (fun b o q => of_hideAll _ q) (by rw [hideAll_size]; exact Nat.le_refl _) het (hideAll_none _ (by simp)) (X.keeps hkg) (T.keeps hkg) (by rw [depth_under_make]; omega) hm hl hc hp (fun h'' tk os k1 k2 k3 => ⟨rfl, ?_⟩)
  refine h h'' tk e os (fun b o q => k1 _ _ (hkg _ _ q)) (fun p hp => ⟨(k2 p hp).1, ?_⟩) k3
  cases q : s.heap.get? p.1 with
  | none => rfl
  | some o => have := hkg _ _ q; rw [(k2 p hp).2] at this; cases this
end Mine

-- part S2
open PySem PySem.W PyProof.Rows PySem.Calls
set_option Elab.async false
set_option maxRecDepth 100000
set_option maxHeartbeats 8000000
set_option rowWalk.seconds 0
namespace Mine
theorem m2 {x y : Str} {a b c d : Option Value} {m : Str → Option Value} : (fun z => if z = x then a else if z = y then b else if z = x then c else if z = y then d else m z) = (fun z => if z = x then a else if z = y then b else m z) := by
  funext z
  by_cases h1 : z = x
  · simp only [h1, if_true]
  · by_cases h2 : z = y
    · simp only [if_neg h1, if_pos h2]
    · simp only [if_neg h1, if_neg h2]
theorem len_one (c : Nat) : (Str.mk #[c]).length = 1 := rfl
end Mine

-- part R2
open PySem PySem.W PyProof.Rows PySem.Calls
set_option Elab.async false
set_option maxRecDepth 100000
set_option maxHeartbeats 8000000
set_option rowWalk.seconds 0
namespace Mine
theorem call_numS {prog : Program} {w : World} {A : Around} {E : Value → Shared → Prop} {s : Shared} {Q : Value → Shared → Prop} {t : Tok} {n : Int} (h0 : 0 ≤ n) (h1 : n < 10 ^ 10) (h : Q (.int n s.toks) { s with toks := s.toks + 1 }) :
    wpAny (model prog w) A (call (.type "int") [.str (intS n) t]) Q E s := KIN.call_num h0 h1 h
theorem log_small {n : Int} (h0 : 0 ≤ n) (h1 : n < 10 ^ 10) : n.natAbs.log2 < 1920 := shown (N := 10 ^ 10) (by lia) (by lia) (by decide)
section
theorem c_read {w : World} {A : Around} {s : Shared} {Q E : Value → Shared → Prop} {p : Program} {loose : List Str} {mg mb : Str → Option Value} {msg : Str} {l c pl : Int} {t : Tok}
    (X : (hd.heap_39 w.params).In s.heap) (T : TopRead p loose mg mb s.heap) (hroom : A.depth + 5 < recursionLimit) (hh : A.handled = none) (hm : msg.length ≤ 1)
    (hl0 : 0 ≤ l) (hl1 : l < 10 ^ 10) (hc0 : 0 ≤ c) (hc1 : c < 10 ^ 10) (hp0 : 0 ≤ pl) (hp1 : pl < 10 ^ 10)
    (h : ∀ a h' tk t1 t2 t3 t4, Keeps s.heap h' → s.heap.get? a = none → h'.get? a = some { cls := .type "tuple", data := .seq #[.str msg t1, .int l t2, .int c t3, .int pl t4] } → Q (.ref a) { s with heap := h', toks := tk }) :
    wpAny (model PySem.Challenge.rw_dm0193_02.row.prog w) A (call (.ref 62) [.str (wordsOf msg l c pl) t]) Q E s := by
  k_with_none
  k_with "subscriptTail Name Slice str ref" => ((with_reducible show wpAny _ _ (subscriptTail _ (Expr.Slice (some _) none none _) _ _) _ _ _); (with_reducible rename Fr _ _ _ _ => F'); (with_reducible rename News _ _ _ _ => N'); (refine sliceE_sn (hsz := ?hsz) (s := ⟨_, _, _, _, _⟩) F' N' (by assumption) ?_); (case hsz => first | assumption | lia); intro _ _ _ _ _)
  k_with "subscriptTail Name Slice str ref" => ((with_reducible show wpAny _ _ (subscriptTail _ (Expr.Slice none (some _) none _) _ _) _ _ _); (with_reducible rename Fr _ _ _ _ => F'); (with_reducible rename News _ _ _ _ => N'); (refine sliceE_ns (hsz := ?hsz) (s := ⟨_, _, _, _, _⟩) F' N' (by assumption) ?_); (case hsz => first | assumption | lia); intro _ _ _ _ _)
  k_with "compareOp Eq str str" => (refine eq_strE (by assumption) ?_)
  k_with "compareOp NotEq str str" => (refine ne_strE (by assumption) ?_)
  k_with "call builtin:str.isdigit" => (refine isdigitE (by assumption) ?_)
  k_with "binaryOp Add str str" => (refine PyProof.Rows.add_str ?_ (by simp only [Str.length_append]; lia); intro _ _)
  k_with "call type:int" => (refine call_numS (by assumption) (by assumption) ?_)
  k_with "call builtin:str.rfind" => (refine call_rfindE (by assumption) ?_)
  obtain ⟨hd', dp, fr, gd, un⟩ := A
  dsimp only at hh hroom
  subst hh
  revert X; k_fill; intro X
  have r1 := rfind_C msg l c pl
  have r2 := rfind_O msg l c
  have r3 := rfind_L msg l
  have b1 := intS_len (n := l) (log_small hl0 hl1)
  have b2 := intS_len (n := c) (log_small hc0 hc1)
  have b3 := intS_len (n := pl) (log_small hp0 hp1)
  have z3 : (msg ++ mkL ++ intS l).length = msg.length + 7 + (intS l).length := by simp only [Str.length_append, len_L]
  have z2 : (msg ++ mkL ++ intS l ++ mkO ++ intS c).length = msg.length + 7 + (intS l).length + 8 + (intS c).length := by simp only [Str.length_append, len_L, len_O]
  have z1 : (wordsOf msg l c pl).length = msg.length + 7 + (intS l).length + 8 + (intS c).length + 7 + (intS pl).length + 1 := by rw [words_eq]; simp only [Str.length_append, len_L, len_O, len_C, len_E]; lia
  have z4 : (intS pl ++ mkE).length = (intS pl).length + 1 := by simp only [Str.length_append, len_E]
  have hsl := sizeLine_eq
  have s1 : Txt.slice (wordsOf msg l c pl) (some (((msg ++ mkL ++ intS l ++ mkO ++ intS c).length : Int) + 7)) none = intS pl ++ mkE := slice_from_app (a := (msg ++ mkL ++ intS l ++ mkO ++ intS c) ++ mkC) (words_eq msg l c pl) (by simp only [Str.length_append, len_C]; lia)
  have s2 : Txt.slice (wordsOf msg l c pl) none (some ((msg ++ mkL ++ intS l ++ mkO ++ intS c).length : Int)) = msg ++ mkL ++ intS l ++ mkO ++ intS c := slice_to_app (b := mkC ++ (intS pl ++ mkE)) (by rw [words_eq, Str.append_assoc]) rfl
  have s3 : Txt.slice (msg ++ mkL ++ intS l ++ mkO ++ intS c) (some (((msg ++ mkL ++ intS l).length : Int) + 8)) none = intS c := slice_from_app (a := msg ++ mkL ++ intS l ++ mkO) rfl (by rw [Str.length_append _ mkO, len_O]; lia)
  have s4 : Txt.slice (msg ++ mkL ++ intS l ++ mkO ++ intS c) none (some ((msg ++ mkL ++ intS l).length : Int)) = msg ++ mkL ++ intS l := slice_to_app (b := mkO ++ intS c) (by rw [Str.append_assoc]) rfl
  have s5 : Txt.slice (msg ++ mkL ++ intS l) (some ((msg.length : Int) + 7)) none = intS l := slice_from_app (a := msg ++ mkL) rfl (by rw [Str.length_append, len_L]; lia)
  have s6 : Txt.slice (msg ++ mkL ++ intS l) none (some (msg.length : Int)) = msg := slice_to_app (b := mkL ++ intS l) (by rw [Str.append_assoc]) rfl
  have s7 : Txt.slice (intS pl ++ mkE) (some (-1)) none = mkE := slice_last_app rfl (by rw [len_E]; rfl) (by decide)
  have s8 : Txt.slice (intS pl ++ mkE) none (some (-1)) = intS pl := slice_init_app rfl (by rw [len_E]; rfl) (by decide)
  have e1 : (mkE != Str.ofString ")") = false := by decide
  have e2 : (intS pl == Str.ofString "") = false := ne_empty intS_ne
  have e3 : (intS c == Str.ofString "") = false := ne_empty intS_ne
  have e4 : (intS l == Str.ofString "") = false := ne_empty intS_ne
  have e5 : Txt.isdigit (intS pl ++ intS c ++ intS l) = true := isdigit_true (by simp only [Str.length_append]; have := intS_ne (n := l); lia) (by
    intro q hq
    rw [lst_append, lst_append] at hq
    rcases List.mem_append.mp hq with hq | hq
    · rcases List.mem_append.mp hq with hq | hq
      · exact intS_digit hp0 q hq
      · exact intS_digit hc0 q hq
    · exact intS_digit hl0 q hq)
  refine enterK (binds := [("words", .str (wordsOf msg l c pl) t)]) X T (by rfl) (by rfl) (by show dp < _; lia) (BindsTo.of_eq rfl) (locs rfl) ?_
  intro L h₁ F N
  w_strict (k_steps)
  (rename Fr _ _ _ _ => F9); (rename News _ _ _ _ => N9)
  exact h _ _ _ _ _ _ _ F9.keep (News.fresh N9 (.head _)) (News.get N9 (.head _))
end
end Mine

-- part O2
open PySem PySem.W PyProof.Rows PySem.Calls
set_option Elab.async false
set_option maxRecDepth 100000
set_option maxHeartbeats 8000000
set_option rowWalk.seconds 0
namespace Mine
theorem m_self {x : Str} {m : Str → Option Value} : (fun z => if z = x then m x else m z) = m := by
  funext z; split <;> simp_all
theorem m1 {x : Str} {a b : Option Value} {m : Str → Option Value} : (fun z => if z = x then a else if z = x then b else m z) = (fun z => if z = x then a else m z) := by
  funext z; split <;> simp_all
def OrderJ (n : Nat) (Lf od : Addr) (t1 t2 : Tok) (tv0 : Int) (k : Nat) (m : Str → Option Value) (news : List (Addr × Obj)) : Prop :=
  ∃ (vl : List Value) (lf : List Int) (vo : List Value) (odl : List Int) (cl co : Nat) (tv : Int) (t : Tok),
    m = (fun y => if y = Str.ofString "turn" then some (.int tv t) else (fun y => if y = Str.ofString "left" then some (Value.ref Lf) else if y = Str.ofString "order" then some (Value.ref od)
      else List.lookup y [(Str.ofString "size", Value.int n t1), (Str.ofString "turn", Value.int tv0 t2)].reverse) y) ∧
    news = [(od, W.listOf vo.toArray co), (Lf, W.listOf vl.toArray cl)] ∧ IntsAre vl lf ∧ IntsAre vo odl ∧ vo.length + lf.length ≤ n ∧ (lf ++ odl).Perm ((List.range n).map Int.ofNat) ∧ lf.length = k ∧ 0 ≤ tv ∧ tv ≤ 2000
section
local macro_rules | `(tactic| walk_at "call builtin:list.pop") => `(tactic| (refine pop_intsN (by assumption) (by assumption) (by assumption) (by k_updF) (fmod_lo _ (by lia)) (fmod_hi _ (by lia)) (by lia) ?_; intro h' t' p' x' q' us' e' I' F' N'))
local macro_rules | `(tactic| walk_at "call type:list") => `(tactic| ((with_reducible rename IsRange _ _ _ _ _ _ _ _ => R'); refine list_range0 (by rfl) (by assumption) (by assumption) R' (by lia) ?_; intro D' h' tk' vs' c' F' N' l1 I'; (try k_lt l1)))
local macro_rules | `(tactic| walk_at "exec While Name cons nil") => `(tactic| (with_reducible refine stop ?_))
theorem c_order {w : World} {A : Around} {s : Shared} {Q E : Value → Shared → Prop} {p : Program} {loose : List Str} {mg mb : Str → Option Value} {n : Nat} {tv : Int} {t1 t2 : Tok}
    (X : (hd.heap_39 w.params).In s.heap) (T : TopRead p loose mg mb s.heap) (hroom : A.depth + 5 < recursionLimit) (hh : A.handled = none)
    (hn : n ≤ 1000) (ht0 : 0 ≤ tv) (ht1 : tv ≤ 2000)
    (h : ∀ a h' tk vs ord c, Keeps s.heap h' → s.heap.get? a = none → h'.get? a = some (W.listOf vs.toArray c) → IntsAre vs ord → ord.Perm ((List.range n).map Int.ofNat) → Q (.ref a) { s with heap := h', toks := tk }) :
    wpAny (model PySem.Challenge.rw_dm0193_02.row.prog w) A (call (.ref 69) [.int n t1, .int tv t2]) Q E s := by
  k_with_none
  obtain ⟨hd', dp, fr, gd, un⟩ := A
  dsimp only at hh hroom
  subst hh
  revert X; k_fill; intro X
  refine enterK (binds := [("size", .int n t1), ("turn", .int tv t2)]) X T (by rfl) (by rfl) (by show dp < _; lia) (BindsTo.of_eq rfl) (locs rfl) ?_
  intro L h₁ F N
  w_strict (k_steps)
  (rename Fr _ _ _ _ => F1); (rename News _ _ _ _ => N1); (rename IntsAre _ _ => I1)
  rename_i Lf _ _ vs c _ od _ lt1 tp _ lt2 _ _ _
  unfold Stop
  refine While_inv (OrderJ n Lf od t1 t2 tv) (n₀ := n) F1 (cb_drop (news := [(od, W.listOf #[] 0), (Lf, W.listOf vs.toArray c)]) N1 (fun p hp => .tail _ hp)) ?_ ?_
  · refine ⟨vs, rangeInts 0 1 n, [], [], c, 0, tv, t2, ?_, rfl, I1, .nil, by simp [rangeInts_length], ?_, rangeInts_length _ _ _, ht0, ht1⟩
    · exact (m_self (x := Str.ofString "turn")).symm
    · rw [List.append_nil, rangeInts]
      refine List.Perm.of_eq (List.map_congr_left fun i _ => ?_)
      show (0 : Int) + (i : Int) * 1 = (i : Int)
      lia
  · rintro k m₁ news₁ h2 tk2 F2 N2 ⟨vl, lf, vo, odl, cl, co, tv', t', rfl, rfl, hl, ho, hb, hperm, hlen, h0, h1⟩
    have ne1 : od ≠ Lf := Nat.ne_of_gt lt1
    w_strict (k_steps)
    · (rename Fr _ _ _ _ => F3); (rename News _ _ _ _ => N3); (rename lf = _ => e'); (rename IntsAre _ (_ ++ _) => I3)
      rename_i t3 p3 x3 q3 us3 _ _ _
      rw [List.push_toArray] at N3
      refine ⟨rfl, _, _, _, _, k - 1, rfl, F3, N3, by lia, us3, p3 ++ q3, vo ++ [.int x3 t3], odl ++ [x3], _, _, _, _, (m1.trans m1), rfl, I3, ho.append (.cons _ _ .nil), ?_, ?_, ?_, fmod_lo _ (by decide), ?_⟩
      · rw [e'] at hb; simp only [List.length_append, List.length_cons, List.length_nil] at hb ⊢; lia
      · rw [e'] at hperm
        refine List.Perm.trans ?_ hperm
        rw [List.perm_iff_count]
        intro a
        simp only [List.count_append, List.count_cons, List.count_nil]
        lia
      · rw [e'] at hlen; simp only [List.length_append, List.length_cons] at hlen ⊢; lia
      · have := fmod_hi (tv' * 5 + 3) (n := 1009) (by decide); lia
    · have : lf = [] := List.length_eq_zero_iff.mp (by lia)
      subst this
      exact h _ _ _ _ _ _ F2.keep (News.fresh N2 (.head _)) (News.get N2 (.head _)) ho hperm
end
end Mine

-- part So1
open PySem PySem.W PyProof.Rows PySem.Calls
set_option Elab.async false
set_option maxRecDepth 100000
set_option maxHeartbeats 2000000
namespace Mine
abbrev gallopF : Bool → Keyed → Array Keyed → Nat → Nat → Nat → StateT SortSt Sem (Option Nat) := sortPriv% PySem.Builtin.gallop
section
variable {prog : Program} {w : World} {A : Around} {E : Value → Shared → Prop} {s : Shared}
theorem wpS_lt {st : SortSt} {a b : Int} {t u : Tok} {p q : Value} {Q : Option Bool → SortSt → Prop} (hk : kindOf st = oneType') (h : Q (some (decide (a < b))) st) :
    wpS (model prog w) A E s (lt' (.int a t, p) (.int b u, q)) Q st := by
  rw [lt'_eq]
  refine wpS_bind (wpS_get ?_)
  rw [hk, keyLt'_oneType]
  refine wpS_bind (wpS_lift (wpAny_attempt (oneLt_int ⟨rfl, ?_⟩)))
  exact wpS_pure h
/-- the end of gallop's search -/
def gfin (beyond : Nat → StateT SortSt Sem (Option Bool)) (n lo₀ hi₀ : Nat) : StateT SortSt Sem (Option Nat) := do
  let mut lo := lo₀
  let mut hi := hi₀
  for _ in [0:n] do
    if lo ≥ hi then break
    let m := lo + (hi - lo) / 2
    let some more ← beyond m | return none
    if more then lo := m + 1 else hi := m
  return some hi
/-- the search of gallop, over any test -/
def gcore (beyond : Nat → StateT SortSt Sem (Option Bool)) (n hint : Nat) : StateT SortSt Sem (Option Nat) := do
  let mut lastofs := 0
  let mut ofs := 1
  let some right ← beyond hint | return none
  if right then
    let maxofs := n - hint
    for _ in [0:n] do
      if ofs ≥ maxofs then break
      let some more ← beyond (hint + ofs) | return none
      if !more then break
      lastofs := ofs
      ofs := 2 * ofs + 1
    gfin beyond n (hint + lastofs + 1) (hint + min ofs maxofs)
  else
    let maxofs := hint + 1
    for _ in [0:n] do
      if ofs ≥ maxofs then break
      let some found ← beyond (hint - ofs) | return none
      if found then break
      lastofs := ofs
      ofs := 2 * ofs + 1
    gfin beyond n (hint + 1 - min ofs maxofs) (hint - lastofs)
theorem gallop_eq (left : Bool) (key : Keyed) (arr : Array Keyed) (base n hint : Nat) : gallopF left key arr base n hint =
    gcore (fun i => do let x ← elem' arr (base + i); if left then lt' x key else return (← lt' key x).map (!·)) n hint := rfl
section
variable {beyond : Nat → StateT SortSt Sem (Option Bool)} {bd : Nat → Bool} {n hint : Nat} {st : SortSt} {Q : Option Nat → SortSt → Prop}
theorem gcore_wp (hb : ∀ i (R : Option Bool → SortSt → Prop), i < n → R (some (bd i)) st → wpS (model prog w) A E s (beyond i) R st) (hm : ∀ i j, i ≤ j → j < n → bd j = true → bd i = true) (hh : hint < n)
    (h : ∀ k, k ≤ n → (∀ i, i < k → bd i = true) → (∀ i, k ≤ i → i < n → bd i = false) → Q (some k) st) : wpS (model prog w) A E s (gcore beyond n hint) Q st := by
  have last : ∀ lo hi, lo ≤ hi → hi ≤ n → (∀ i, i < lo → bd i = true) → (∀ i, hi ≤ i → i < n → bd i = false) →
      wpS (model prog w) A E s (gfin beyond n lo hi) Q st := by
    intro lo hi h1 h2 h3 h4
    unfold gfin
    refine wpS_bind (wpS_mono (wpS_forRange
      (I := fun x c st' => st' = st ∧ ∃ lo hi, c = (none, lo, hi) ∧ lo ≤ hi ∧ hi ≤ n ∧ hi - lo ≤ n - x ∧ (∀ i, i < lo → bd i = true) ∧ (∀ i, hi ≤ i → i < n → bd i = false))
      (Q := fun c st' => st' = st ∧ ∃ k, c = (none, k, k) ∧ k ≤ n ∧ (∀ i, i < k → bd i = true) ∧ (∀ i, k ≤ i → i < n → bd i = false)) ?step ?fin ⟨rfl, lo, hi, rfl, h1, h2, by omega, h3, h4⟩) ?post)
    case fin =>
      rintro c st' ⟨rfl, lo, hi, rfl, a1, a2, a3, a4, a5⟩
      have : lo = hi := by omega
      subst this
      exact ⟨rfl, lo, rfl, a2, a4, a5⟩
    case step =>
      rintro x c st' _ hx ⟨rfl, lo, hi, rfl, a1, a2, a3, a4, a5⟩
      dsimp only
      by_cases q : lo ≥ hi
      · rw [if_pos q]
        have : lo = hi := by omega
        subst this
        exact wpS_pure ⟨rfl, lo, rfl, a2, a4, a5⟩
      · rw [if_neg q]
        refine wpS_bind (hb _ _ (by omega) ?_)
        dsimp only
        cases hc : bd (lo + (hi - lo) / 2) with
        | true =>
          rw [if_pos rfl]
          exact wpS_pure ⟨rfl, _, _, rfl, by omega, a2, by omega, (fun i hi' => hm i (lo + (hi - lo) / 2) (by omega) (by omega) hc), a5⟩
        | false =>
          rw [if_neg Bool.false_ne_true]
          refine wpS_pure ⟨rfl, _, _, rfl, by omega, by omega, by omega, a4, fun i h5 h6 => ?_⟩
          cases hd : bd i with
          | false => rfl
          | true => rw [hm _ i h5 h6 hd] at hc; cases hc
    case post =>
      rintro c st' ⟨rfl, k, rfl, a1, a2, a3⟩
      exact wpS_pure (h k a1 a2 a3)
  unfold gcore
  refine wpS_bind (hb _ _ hh ?_)
  dsimp only
  cases hc : bd hint with
  | true =>
    rw [if_pos rfl]
    refine wpS_bind (wpS_mono (wpS_forRange
      (I := fun x c st' => st' = st ∧ ∃ lo of, c = (none, lo, of) ∧ lo < of ∧ x + 1 ≤ of ∧ hint + lo < n ∧ bd (hint + lo) = true)
      (Q := fun c st' => st' = st ∧ ∃ lo of, c = (none, lo, of) ∧ lo < of ∧ hint + lo < n ∧ bd (hint + lo) = true ∧ (n - hint ≤ of ∨ bd (hint + of) = false)) ?step ?fin ⟨rfl, 0, 1, rfl, by omega, by omega, hh, hc⟩) ?post)
    case fin =>
      rintro c st' ⟨rfl, lo, of, rfl, a1, a2, a3, a4⟩
      exact ⟨rfl, lo, of, rfl, a1, a3, a4, .inl (by omega)⟩
    case step =>
      rintro x c st' _ hx ⟨rfl, lo, of, rfl, a1, a2, a3, a4⟩
      dsimp only
      by_cases q : of ≥ n - hint
      · rw [if_pos q]
        exact wpS_pure ⟨rfl, lo, of, rfl, a1, a3, a4, .inl q⟩
      · rw [if_neg q]
        refine wpS_bind (hb _ _ (by omega) ?_)
        dsimp only
        cases hd : bd (hint + of) with
        | true =>
          rw [if_neg (by decide)]
          exact wpS_pure ⟨rfl, _, _, rfl, by omega, by omega, by omega, hd⟩
        | false =>
          rw [if_pos (by decide)]
          exact wpS_pure ⟨rfl, lo, of, rfl, a1, a3, a4, .inr hd⟩
    case post =>
      rintro c st' ⟨rfl, lo, of, rfl, a1, a2, a3, a4⟩
      dsimp only
      refine last (hint + lo + 1) (hint + min of (n - hint)) (by omega) (by omega) (fun i hi => hm i (hint + lo) (by omega) (by omega) a3) fun i h5 h6 => ?_
      rcases a4 with a4 | a4
      · omega
      · cases hd : bd i with
        | false => rfl
        | true => rw [hm (hint + of) i (by omega) h6 hd] at a4; cases a4
  | false =>
    rw [if_neg Bool.false_ne_true]
    refine wpS_bind (wpS_mono (wpS_forRange
      (I := fun x c st' => st' = st ∧ ∃ lo of, c = (none, lo, of) ∧ lo < of ∧ x + 1 ≤ of ∧ lo ≤ hint ∧ bd (hint - lo) = false)
      (Q := fun c st' => st' = st ∧ ∃ lo of, c = (none, lo, of) ∧ lo < of ∧ lo ≤ hint ∧ bd (hint - lo) = false ∧ (hint + 1 ≤ of ∨ bd (hint - of) = true)) ?step ?fin ⟨rfl, 0, 1, rfl, by omega, by omega, by omega, hc⟩) ?post)
    case fin =>
      rintro c st' ⟨rfl, lo, of, rfl, a1, a2, a3, a4⟩
      exact ⟨rfl, lo, of, rfl, a1, a3, a4, .inl (by omega)⟩
    case step =>
      rintro x c st' _ hx ⟨rfl, lo, of, rfl, a1, a2, a3, a4⟩
      dsimp only
      by_cases q : of ≥ hint + 1
      · rw [if_pos q]
        exact wpS_pure ⟨rfl, lo, of, rfl, a1, a3, a4, .inl q⟩
      · rw [if_neg q]
        refine wpS_bind (hb _ _ (by omega) ?_)
        dsimp only
        cases hd : bd (hint - of) with
        | true =>
          rw [if_pos rfl]
          exact wpS_pure ⟨rfl, lo, of, rfl, a1, a3, a4, .inr hd⟩
        | false =>
          rw [if_neg Bool.false_ne_true]
          exact wpS_pure ⟨rfl, _, _, rfl, by omega, by omega, by omega, hd⟩
    case post =>
      rintro c st' ⟨rfl, lo, of, rfl, a1, a2, a3, a4⟩
      dsimp only
      refine last (hint + 1 - min of (hint + 1)) (hint - lo) (by omega) (by omega) (fun i hi => ?_) fun i h5 h6 => ?_
      · rcases a4 with a4 | a4
        · omega
        · exact hm i (hint - of) (by omega) (by omega) a4
      · cases hd : bd i with
        | false => rfl
        | true => rw [hm (hint - lo) i h5 h6 hd] at a3; cases a3
end
/-- the key at i of an array of int keys -/
def kAt (xs : Array Keyed) (i : Nat) (n : Int) : Prop := ∃ t p, xs[i]? = some (.int n t, p)
section
variable {st : SortSt} {arr : Array Keyed} {base n hint : Nat} {key : Int} {tk : Tok} {pk : Value} {f : Nat → Int} {Q : Option Nat → SortSt → Prop}
theorem wpS_gallopL (hk : kindOf st = oneType') (hf : ∀ i, i < n → kAt arr (base + i) (f i)) (hs : ∀ i j, i ≤ j → j < n → f i ≤ f j) (hh : hint < n)
    (h : ∀ k, k ≤ n → (∀ i, i < k → f i < key) → (∀ i, k ≤ i → i < n → key ≤ f i) → Q (some k) st) :
    wpS (model prog w) A E s (gallopF true (.int key tk, pk) arr base n hint) Q st := by
  rw [gallop_eq]
  refine gcore_wp (bd := fun i => decide (f i < key)) (fun i R hi hR => ?_) (fun i j hij hj hb => ?_) hh fun k hk h1 h2 => h k hk (fun i hi => of_decide_eq_true (h1 i hi)) (fun i a b => Int.not_lt.mp (of_decide_eq_false (h2 i a b)))
  · obtain ⟨t, p, e⟩ := hf i hi
    rw [elem'_eq, e]
    exact wpS_bind (wpS_pure (wpS_lt hk hR))
  · have := of_decide_eq_true hb
    have := hs i j hij hj
    exact decide_eq_true (by omega)
theorem wpS_gallopR (hk : kindOf st = oneType') (hf : ∀ i, i < n → kAt arr (base + i) (f i)) (hs : ∀ i j, i ≤ j → j < n → f i ≤ f j) (hh : hint < n)
    (h : ∀ k, k ≤ n → (∀ i, i < k → f i ≤ key) → (∀ i, k ≤ i → i < n → key < f i) → Q (some k) st) :
    wpS (model prog w) A E s (gallopF false (.int key tk, pk) arr base n hint) Q st := by
  rw [gallop_eq]
  refine gcore_wp (bd := fun i => !decide (key < f i)) (fun i R hi hR => ?_) (fun i j hij hj hb => ?_) hh fun k hk h1 h2 => h k hk (fun i hi => ?_) (fun i a b => ?_)
  · obtain ⟨t, p, e⟩ := hf i hi
    rw [elem'_eq, e]
    exact wpS_bind (wpS_pure (wpS_bind (wpS_lt hk (wpS_pure hR))))
  · have h1 := of_decide_eq_false (Bool.not_eq_true' _ ▸ hb)
    have := hs i j hij hj
    rw [Bool.not_eq_true']
    exact decide_eq_false (by omega)
  · have := of_decide_eq_false (Bool.not_eq_true' _ ▸ h1 i hi)
    omega
  · have := h2 i a b
    rw [Bool.not_eq_false'] at this
    exact of_decide_eq_true this
end
end
end Mine

-- part So2
open PySem PySem.W PyProof.Rows PySem.Calls
set_option Elab.async false
set_option maxRecDepth 100000
set_option maxHeartbeats 2000000
namespace Mine
def kOf (p : Keyed) : Int := numOf p.1
def Srt (f : Keyed → Int) (l : List Keyed) : Prop := l.Pairwise fun x y => f x ≤ f y
/-- a merge under way: what has been put out, and where the two lists stand -/
structure MI (f : Keyed → Int) (a b out : List Keyed) (ia ib : Nat) : Prop where
  len : out.length = ia + ib
  perm : (out ++ (a.drop ia ++ b.drop ib)).Perm (a ++ b)
  srt : Srt f out
  le : ∀ x ∈ out, ∀ y ∈ a.drop ia ++ b.drop ib, f x ≤ f y
theorem Srt.drop {f : Keyed → Int} {l : List Keyed} (h : Srt f l) (i : Nat) : Srt f (l.drop i) := List.Pairwise.drop h
theorem Srt.head_le {f : Keyed → Int} {l : List Keyed} {i : Nat} {y : Keyed} (h : Srt f l) (hy : l[i]? = some y) : ∀ z ∈ l.drop i, f y ≤ f z := by
  have hlt := (List.getElem?_eq_some_iff.mp hy).1
  have e := (List.getElem?_eq_some_iff.mp hy).2
  intro z hz
  have h2 := h.drop i
  rw [List.drop_eq_getElem_cons hlt, e] at h2 hz
  rcases List.mem_cons.mp hz with rfl | hz
  · exact Int.le_refl _
  · exact (List.pairwise_cons.mp h2).1 z hz
theorem MI.pushA {f : Keyed → Int} {a b out : List Keyed} {ia ib : Nat} {y : Keyed} (m : MI f a b out ia ib) (ha : Srt f a) (hy : a[ia]? = some y) (hb : ∀ z ∈ b.drop ib, f y ≤ f z) : MI f a b (out ++ [y]) (ia + 1) ib := by
  have hlt := (List.getElem?_eq_some_iff.mp hy).1
  have e := (List.getElem?_eq_some_iff.mp hy).2
  have ed : a.drop ia = y :: a.drop (ia + 1) := by rw [List.drop_eq_getElem_cons hlt, e]
  have hle := ha.head_le hy
  refine ⟨by simp [m.len]; omega, ?_, ?_, ?_⟩
  · have := m.perm
    rw [ed] at this
    simpa using this
  · refine List.pairwise_append.mpr ⟨m.srt, List.pairwise_singleton _ _, fun x hx z hz => ?_⟩
    rw [List.mem_singleton.mp hz]
    exact m.le x hx y (by rw [ed]; simp)
  · intro x hx z hz
    rcases List.mem_append.mp hx with hx | hx
    · refine m.le x hx z ?_
      rw [ed]; simp at hz ⊢; rcases hz with hz | hz
      · exact .inr (.inl hz)
      · exact .inr (.inr hz)
    · rw [List.mem_singleton.mp hx]
      rcases List.mem_append.mp hz with hz | hz
      · exact hle z (by rw [ed]; exact List.mem_cons_of_mem _ hz)
      · exact hb z hz
theorem MI.pushB {f : Keyed → Int} {a b out : List Keyed} {ia ib : Nat} {y : Keyed} (m : MI f a b out ia ib) (hbs : Srt f b) (hy : b[ib]? = some y) (hb : ∀ z ∈ a.drop ia, f y ≤ f z) : MI f a b (out ++ [y]) ia (ib + 1) := by
  have hlt := (List.getElem?_eq_some_iff.mp hy).1
  have e := (List.getElem?_eq_some_iff.mp hy).2
  have ed : b.drop ib = y :: b.drop (ib + 1) := by rw [List.drop_eq_getElem_cons hlt, e]
  have hle := hbs.head_le hy
  refine ⟨by simp [m.len]; omega, ?_, ?_, ?_⟩
  · have := m.perm
    rw [ed] at this
    refine List.Perm.trans ?_ this
    simp only [List.append_assoc]
    refine List.Perm.append_left _ ?_
    rw [List.singleton_append]
    exact List.perm_middle.symm
  · refine List.pairwise_append.mpr ⟨m.srt, List.pairwise_singleton _ _, fun x hx z hz => ?_⟩
    rw [List.mem_singleton.mp hz]
    exact m.le x hx y (by rw [ed]; simp)
  · intro x hx z hz
    rcases List.mem_append.mp hx with hx | hx
    · refine m.le x hx z ?_
      rw [ed]; simp at hz ⊢; rcases hz with hz | hz
      · exact .inl hz
      · exact .inr (.inr hz)
    · rw [List.mem_singleton.mp hx]
      rcases List.mem_append.mp hz with hz | hz
      · exact hb z hz
      · exact hle z (by rw [ed]; exact List.mem_cons_of_mem _ hz)
theorem MI.takeA {f : Keyed → Int} {a b out : List Keyed} {ia ib : Nat} (ha : Srt f a) : ∀ (k : Nat), MI f a b out ia ib → ia + k ≤ a.length → (∀ i, i < k → ∀ y, a[ia + i]? = some y → ∀ z ∈ b.drop ib, f y ≤ f z) → MI f a b (out ++ (a.drop ia).take k) (ia + k) ib
  | 0, m, _, _ => by simpa using m
  | k + 1, m, hk, hl => by
    have h1 := MI.takeA ha k m (by omega) fun i hi => hl i (by omega)
    have hlt : ia + k < a.length := by omega
    have h2 := h1.pushA ha (List.getElem?_eq_getElem hlt) (hl k (by omega) _ (List.getElem?_eq_getElem hlt))
    have e : (a.drop ia).take (k + 1) = (a.drop ia).take k ++ [a[ia + k]] := by
      rw [List.take_add_one, List.getElem?_drop, List.getElem?_eq_getElem hlt]; rfl
    rw [e, ← List.append_assoc]
    exact h2
theorem MI.takeB {f : Keyed → Int} {a b out : List Keyed} {ia ib : Nat} (hb : Srt f b) : ∀ (k : Nat), MI f a b out ia ib → ib + k ≤ b.length → (∀ i, i < k → ∀ y, b[ib + i]? = some y → ∀ z ∈ a.drop ia, f y ≤ f z) → MI f a b (out ++ (b.drop ib).take k) ia (ib + k)
  | 0, m, _, _ => by simpa using m
  | k + 1, m, hk, hl => by
    have h1 := MI.takeB hb k m (by omega) fun i hi => hl i (by omega)
    have hlt : ib + k < b.length := by omega
    have h2 := h1.pushB hb (List.getElem?_eq_getElem hlt) (hl k (by omega) _ (List.getElem?_eq_getElem hlt))
    have e : (b.drop ib).take (k + 1) = (b.drop ib).take k ++ [b[ib + k]] := by
      rw [List.take_add_one, List.getElem?_drop, List.getElem?_eq_getElem hlt]; rfl
    rw [e, ← List.append_assoc]
    exact h2
/-- what a merge is to give -/
def Mg (f : Keyed → Int) (a b r : List Keyed) : Prop := r.Perm (a ++ b) ∧ Srt f r
theorem MI.endA {f : Keyed → Int} {a b out : List Keyed} {ia : Nat} (m : MI f a b out ia b.length) (ha : Srt f a) : Mg f a b (out ++ a.drop ia ++ b.drop b.length) := by
  refine ⟨by simpa using m.perm, ?_⟩
  rw [List.drop_length, List.append_nil]
  exact List.pairwise_append.mpr ⟨m.srt, ha.drop ia, fun x hx y hy => m.le x hx y (by simp [hy])⟩
theorem MI.endB {f : Keyed → Int} {a b out : List Keyed} {ia ib : Nat} (m : MI f a b out ia ib) (ha : Srt f a) (hb : Srt f b) (hl : ∀ x ∈ b, ∀ y ∈ a.drop ia, f x ≤ f y) : Mg f a b (out ++ b.drop ib ++ a.drop ia) := by
  refine ⟨?_, ?_⟩
  · refine List.Perm.trans ?_ m.perm
    rw [List.append_assoc]
    exact List.Perm.append_left _ List.perm_append_comm
  · rw [List.append_assoc]
    refine List.pairwise_append.mpr ⟨m.srt, List.pairwise_append.mpr ⟨hb.drop ib, ha.drop ia, fun x hx y hy => hl x (List.mem_of_mem_drop hx) y hy⟩, fun x hx y hy => m.le x hx y ?_⟩
    rcases List.mem_append.mp hy with h | h <;> simp [h]
end Mine

-- part So3
open PySem PySem.W PyProof.Rows PySem.Calls
set_option Elab.async false
set_option maxRecDepth 100000
set_option maxHeartbeats 2000000
namespace Mine
abbrev mergeLoF : Array Keyed → Array Keyed → StateT SortSt Sem (Array Keyed) := sortPriv% PySem.Builtin.mergeLo
abbrev setG (st : SortSt) (g : Nat) : SortSt := SortSt.mk' (kindOf st) (arrOf st) (pendingOf st) g (failedOf st)
theorem kOf_get {a : Array Keyed} {i : Nat} (h : i < a.size) : kOf a[i] = K a i := (K_eq h).symm
theorem kAtK {a : Array Keyed} (hk : IntKeys a) {i : Nat} (h : i < a.size) : ∃ t p, a[i] = (.int (K a i) t, p) := by
  obtain ⟨n, t, e⟩ := hk a[i] (by simp)
  refine ⟨t, a[i].2, ?_⟩
  rw [← kOf_get h]
  exact Prod.ext (by rw [kOf, e]; rfl) rfl
theorem kAtQ {a : Array Keyed} (hk : IntKeys a) {i : Nat} (h : i < a.size) : kAt a i (K a i) := by
  obtain ⟨t, p, e⟩ := kAtK hk h
  exact ⟨t, p, by rw [getElem?_pos a i h, e]⟩
theorem srtK {a : Array Keyed} (h : Srt kOf a.toList) {i j : Nat} (hij : i ≤ j) (hj : j < a.size) : K a i ≤ K a j := by
  rcases Nat.eq_or_lt_of_le hij with rfl | hij
  · exact Int.le_refl _
  · have := (List.pairwise_iff_getElem.mp h) i j (by simpa using (by lia : i < a.size)) (by simpa using hj) hij
    rw [← kOf_get (by lia), ← kOf_get hj]
    simpa using this
theorem dropK {a : Array Keyed} {i : Nat} {P : Int → Prop} (h : ∀ j, i ≤ j → j < a.size → P (K a j)) : ∀ z ∈ a.toList.drop i, P (kOf z) := by
  intro z hz
  obtain ⟨n, hn, e⟩ := List.mem_iff_getElem.mp hz
  have hl : i + n < a.size := by simp at hn; lia
  rw [List.getElem_drop, Array.getElem_toList] at e
  rw [← e, kOf_get hl]
  exact h _ (by lia) hl
theorem getT {a : Array Keyed} {i : Nat} (h : i < a.size) : a.toList[i]? = some a[i] := by
  rw [Array.getElem?_toList]; exact getElem?_pos a i h
section
variable {a b out : Array Keyed} {ia ib : Nat}
theorem mi_pushA (m : MI kOf a.toList b.toList out.toList ia ib) (sa : Srt kOf a.toList) (h : ia < a.size) (hb : ∀ j, ib ≤ j → j < b.size → K a ia ≤ K b j) : MI kOf a.toList b.toList (out.push a[ia]).toList (ia + 1) ib := by
  rw [Array.toList_push]
  refine m.pushA sa (getT h) ?_
  rw [kOf_get h]
  exact dropK hb
theorem mi_pushB (m : MI kOf a.toList b.toList out.toList ia ib) (sb : Srt kOf b.toList) (h : ib < b.size) (hb : ∀ j, ia ≤ j → j < a.size → K b ib ≤ K a j) : MI kOf a.toList b.toList (out.push b[ib]).toList ia (ib + 1) := by
  rw [Array.toList_push]
  refine m.pushB sb (getT h) ?_
  rw [kOf_get h]
  exact dropK hb
theorem ext_list {a : Array Keyed} {i k : Nat} : (a.extract i (i + k)).toList = (a.toList.drop i).take k := by
  rw [Array.toList_extract, List.extract_eq_take_drop, Nat.add_sub_cancel_left]
theorem ext_all {a : Array Keyed} {i : Nat} : (a.extract i).toList = a.toList.drop i := by
  rw [Array.toList_extract, List.extract_eq_take_drop]
  exact List.take_of_length_le (by simp)
theorem mi_takeA (m : MI kOf a.toList b.toList out.toList ia ib) (sa : Srt kOf a.toList) {k : Nat} (h : ia + k ≤ a.size) (hb : ∀ i, i < k → ∀ j, ib ≤ j → j < b.size → K a (ia + i) ≤ K b j) : MI kOf a.toList b.toList (out ++ a.extract ia (ia + k)).toList (ia + k) ib := by
  rw [Array.toList_append, ext_list]
  refine MI.takeA sa k m (by simpa using h) fun i hi y hy => ?_
  have hlt : ia + i < a.size := by lia
  rw [getT hlt] at hy
  rw [← Option.some.inj hy, kOf_get hlt]
  exact dropK (hb i hi)
theorem mi_takeB (m : MI kOf a.toList b.toList out.toList ia ib) (sb : Srt kOf b.toList) {k : Nat} (h : ib + k ≤ b.size) (hb : ∀ i, i < k → ∀ j, ia ≤ j → j < a.size → K b (ib + i) ≤ K a j) : MI kOf a.toList b.toList (out ++ b.extract ib (ib + k)).toList ia (ib + k) := by
  rw [Array.toList_append, ext_list]
  refine MI.takeB sb k m (by simpa using h) fun i hi y hy => ?_
  have hlt : ib + i < b.size := by lia
  rw [getT hlt] at hy
  rw [← Option.some.inj hy, kOf_get hlt]
  exact dropK (hb i hi)
/-- what is known of two runs to be merged -/
structure Two (a b : Array Keyed) : Prop where
  ka : IntKeys a
  kb : IntKeys b
  sa : Srt kOf a.toList
  sb : Srt kOf b.toList
  a0 : 0 < a.size
  b0 : 0 < b.size
  first : ∀ j, j < a.size → K b 0 ≤ K a j
  last : ∀ j, j < b.size → K b j ≤ K a (a.size - 1)
theorem mi_done (T : Two a b) (m : MI kOf a.toList b.toList out.toList ia ib) (h : ib = b.size ∨ ia = a.size) : Mg kOf a.toList b.toList (out ++ a.extract ia ++ b.extract ib).toList := by
  rw [Array.toList_append, Array.toList_append, ext_all, ext_all]
  rcases h with rfl | rfl
  · have := m.endA T.sa
    simpa using this
  · refine ⟨by simpa using m.perm, ?_⟩
    have e : a.toList.drop a.size = [] := by simp
    rw [e, List.append_nil]
    exact List.pairwise_append.mpr ⟨m.srt, T.sb.drop ib, fun x hx y hy => m.le x hx y (by simp [hy])⟩
theorem mi_last (T : Two a b) (m : MI kOf a.toList b.toList out.toList ia ib) (h : ia + 1 = a.size) : Mg kOf a.toList b.toList (out ++ b.extract ib ++ a.extract ia).toList := by
  rw [Array.toList_append, Array.toList_append, ext_all, ext_all]
  refine m.endB T.sa T.sb fun x hx => dropK fun j h1 h2 => ?_
  have e : j = a.size - 1 := by lia
  subst e
  exact dropK (i := 0) (P := fun q => q ≤ K a (a.size - 1)) (fun j _ h2 => T.last j h2) x (by simpa using hx)
end
section
variable {prog : Program} {w : World} {A : Around} {E : Value → Shared → Prop} {s : Shared} {a b : Array Keyed} {st : SortSt}
theorem wpS_elem {i : Nat} {Q : Keyed → SortSt → Prop} (h : i < a.size) (hq : Q a[i] st) : wpS (model prog w) A E s (elem' a i) Q st := by
  rw [elem'_eq, getElem?_pos a i h]
  exact wpS_pure hq
theorem wpS_ltQ {i j : Nat} {Q : Option Bool → SortSt → Prop} (hk : kindOf st = oneType') (ka : IntKeys a) (kb : IntKeys b) (hi : i < a.size) (hj : j < b.size)
    (h : Q (some (decide (K a i < K b j))) st) : wpS (model prog w) A E s (lt' a[i] b[j]) Q st := by
  obtain ⟨t, p, e1⟩ := kAtK ka hi
  obtain ⟨u, q, e2⟩ := kAtK kb hj
  rw [e1, e2]
  exact wpS_lt hk h
theorem wpS_galL {i base n hint : Nat} {Q : Option Nat → SortSt → Prop} (hk : kindOf st = oneType') (ka : IntKeys a) (kb : IntKeys b) (sb : Srt kOf b.toList) (hi : i < a.size) (hn : base + n ≤ b.size) (hh : hint < n)
    (h : ∀ k, k ≤ n → (∀ j, j < k → K b (base + j) < K a i) → (∀ j, k ≤ j → j < n → K a i ≤ K b (base + j)) → Q (some k) st) :
    wpS (model prog w) A E s (gallopF true a[i] b base n hint) Q st := by
  obtain ⟨t, p, e1⟩ := kAtK ka hi
  rw [e1]
  exact wpS_gallopL (f := fun j => K b (base + j)) hk (fun j hj => kAtQ kb (by lia)) (fun x y hxy hy => srtK sb (by lia) (by lia)) hh h
theorem wpS_galR {i base n hint : Nat} {Q : Option Nat → SortSt → Prop} (hk : kindOf st = oneType') (ka : IntKeys a) (kb : IntKeys b) (sb : Srt kOf b.toList) (hi : i < a.size) (hn : base + n ≤ b.size) (hh : hint < n)
    (h : ∀ k, k ≤ n → (∀ j, j < k → K b (base + j) ≤ K a i) → (∀ j, k ≤ j → j < n → K a i < K b (base + j)) → Q (some k) st) :
    wpS (model prog w) A E s (gallopF false a[i] b base n hint) Q st := by
  obtain ⟨t, p, e1⟩ := kAtK ka hi
  rw [e1]
  exact wpS_gallopR (f := fun j => K b (base + j)) hk (fun j hj => kAtQ kb (by lia)) (fun x y hxy hy => srtK sb (by lia) (by lia)) hh h
theorem wpS_setG {g : Nat} {Q : Unit → SortSt → Prop} (h : Q () (setG st g)) : wpS (model prog w) A E s ((sortPriv% PySem.Builtin.setMinGallop) g) Q st := by
  k_delta "setMinGallop"
  exact wpS_modify h
def LoI (a b out : Array Keyed) (ia ib : Nat) : Prop := MI kOf a.toList b.toList out.toList ia ib ∧ ia + 1 < a.size ∧ ib < b.size
theorem LoI.size {a b out : Array Keyed} {ia ib : Nat} (h : LoI a b out ia ib) : out.size = ia + ib := by have := h.1.len; simpa using this
theorem wpS_mergeLo {Q : Array Keyed → SortSt → Prop} (hk : kindOf st = oneType') (T : Two a b) (h : ∀ r g, Mg kOf a.toList b.toList r.toList → Q r (setG st g)) : wpS (model prog w) A E s (mergeLoF a b) Q st := by
  show wpS _ _ _ _ (mergeLoF a b) _ _
  unfold mergeLoF
  k_delta "mergeLo"
  have hk' : ∀ g, kindOf (setG st g) = oneType' := fun _ => hk
  have hb0 := T.b0
  have ha0 := T.a0
  refine wpS_bind (wpS_lift (wpAny_rule ⟨rfl, ?_⟩))
  refine wpS_bind (wpS_elem T.b0 ?_)
  have m0 : MI kOf a.toList b.toList (#[] : Array Keyed).toList 0 0 := ⟨rfl, by simp, .nil, fun x hx => nomatch hx⟩
  have m1 : MI kOf a.toList b.toList (#[b[0]] : Array Keyed).toList 0 1 := mi_pushB m0 T.sb T.b0 fun j _ hj => T.first j hj
  dsimp only
  by_cases h1 : (1 == b.size) = true
  · rw [if_pos h1]
    exact wpS_pure (h _ _ (mi_done T m1 (.inl (by simpa using h1))))
  rw [if_neg h1]
  by_cases h2 : (0 + 1 == a.size) = true
  · rw [if_pos h2]
    exact wpS_pure (h _ _ (mi_last T m1 (by simpa using h2)))
  rw [if_neg h2]
  have i1 : LoI a b #[b[0]] 0 1 := ⟨m1, by simp at h2; lia, by simp at h1; lia⟩
  refine wpS_bind (wpS_get ?_)
  refine wpS_bind (wpS_mono (wpS_forRange
    (I := fun x c st' => ∃ out ia ib mg g, c = (none, out, ia, ib, mg) ∧ st' = setG st g ∧ LoI a b out ia ib ∧ x + 1 ≤ out.size)
    (Q := fun c st' => ∃ r d g, c = (some r, d) ∧ st' = setG st g ∧ Mg kOf a.toList b.toList r.toList) ?step ?fin ⟨_, _, _, _, gallopOf st, rfl, rfl, i1, by simp⟩) ?post)
  case fin =>
    rintro c st' ⟨out, ia, ib, mg, g, rfl, rfl, i, hx⟩
    have := i.size
    have := i.2
    lia
  case post =>
    rintro c st' ⟨r, d, g, rfl, rfl, hm⟩
    exact wpS_pure (h r g hm)
  case step =>
    rintro x c st' _ hx ⟨out, ia, ib, mg, g, rfl, rfl, i, hx1⟩
    dsimp only
    refine wpS_bind (wpS_mono (wpS_forRange
      (I := fun x c st' => ∃ out' ia ib ac bc, c = (none, out', ia, ib, ac, bc) ∧ st' = setG st g ∧ LoI a b out' ia ib ∧ x + out.size ≤ out'.size)
      (Q := fun c st' => st' = setG st g ∧ ((∃ r d, c = (some r, d) ∧ Mg kOf a.toList b.toList r.toList) ∨ (∃ out' ia ib ac bc, c = (none, out', ia, ib, ac, bc) ∧ LoI a b out' ia ib ∧ out.size + 1 ≤ out'.size))) ?istep ?ifin ⟨_, _, _, _, _, rfl, rfl, i, by lia⟩) ?ipost)
    case ifin =>
      rintro c st' ⟨out', ia, ib, ac, bc, rfl, rfl, i', hy⟩
      exact ⟨rfl, .inr ⟨_, _, _, _, _, rfl, i', by lia⟩⟩
    case istep =>
      rintro y c st' _ hy ⟨out', ia, ib, ac, bc, rfl, rfl, i', hy1⟩
      obtain ⟨m, h3, h4⟩ := i'
      dsimp only
      refine wpS_bind (wpS_elem h4 (wpS_bind (wpS_elem (i := ia) (by lia) ?_)))
      refine wpS_bind (wpS_ltQ (i := ib) (j := ia) (st := setG st g) hk T.kb T.ka h4 (by lia) ?_)
      by_cases q : K b ib < K a ia
      · simp only [q, decide_true, if_true]
        refine wpS_bind (wpS_elem h4 ?_)
        have m' := mi_pushB m T.sb h4 fun j h5 h6 => by have := srtK T.sa h5 h6; lia
        by_cases q2 : (ib + 1 == b.size) = true
        · rw [if_pos q2]
          exact wpS_pure ⟨rfl, .inl ⟨_, _, rfl, mi_done T m' (.inl (by simpa using q2))⟩⟩
        rw [if_neg q2]
        have i' : LoI a b (out'.push b[ib]) ia (ib + 1) := ⟨m', h3, by simp at q2; lia⟩
        split
        · exact wpS_pure ⟨rfl, .inr ⟨_, _, _, _, _, rfl, i', by simp; lia⟩⟩
        · exact wpS_pure ⟨_, _, _, _, _, rfl, rfl, i', by simp; lia⟩
      · simp only [q, decide_false, Bool.false_eq_true, if_false]
        refine wpS_bind (wpS_elem (i := ia) (by lia) ?_)
        have m' := mi_pushA (ia := ia) m T.sa (by lia) fun j h5 h6 => by have := srtK T.sb h5 h6; lia
        by_cases q2 : (ia + 1 + 1 == a.size) = true
        · rw [if_pos q2]
          exact wpS_pure ⟨rfl, .inl ⟨_, _, rfl, mi_last T m' (by simpa using q2)⟩⟩
        rw [if_neg q2]
        have i' : LoI a b (out'.push a[ia]) (ia + 1) ib := ⟨m', by simp at q2; lia, h4⟩
        split
        · exact wpS_pure ⟨rfl, .inr ⟨_, _, _, _, _, rfl, i', by simp; lia⟩⟩
        · exact wpS_pure ⟨_, _, _, _, _, rfl, rfl, i', by simp; lia⟩
    case ipost =>
      rintro c st' ⟨rfl, ⟨r, d, rfl, hm⟩ | ⟨out', ia, ib, ac, bc, rfl, i', hy⟩⟩
      · dsimp only
        exact wpS_pure ⟨r, _, g, rfl, rfl, hm⟩
      dsimp only
      refine wpS_bind (wpS_lift (wpAny_rule ⟨rfl, ?_⟩))
      refine wpS_bind (wpS_mono (wpS_forRange
        (I := fun x c st' => ∃ out' ia ib mg ac bc g, c = (none, out', ia, ib, mg, ac, bc) ∧ st' = setG st g ∧ LoI a b out' ia ib ∧ out.size + 1 ≤ out'.size)
        (Q := fun c st' => ∃ g, st' = setG st g ∧ ((∃ r d, c = (some r, d) ∧ Mg kOf a.toList b.toList r.toList) ∨ (∃ out' ia ib mg ac bc, c = (none, out', ia, ib, mg, ac, bc) ∧ LoI a b out' ia ib ∧ out.size + 1 ≤ out'.size))) ?jstep ?jfin ⟨_, _, _, _, _, _, _, rfl, rfl, i', hy⟩) ?jpost)
      case jfin =>
        rintro c st' ⟨out', ia, ib, mg, ac, bc, g, rfl, rfl, i', hy⟩
        exact ⟨g, rfl, .inr ⟨_, _, _, _, _, _, rfl, i', hy⟩⟩
      case jpost =>
        rintro c st' ⟨g, rfl, ⟨r, d, rfl, hm⟩ | ⟨out', ia, ib, mg, ac, bc, rfl, i', hy⟩⟩
        · dsimp only
          exact wpS_pure ⟨r, _, g, rfl, rfl, hm⟩
        · dsimp only
          refine wpS_bind (wpS_setG (wpS_pure ⟨_, _, _, _, _, rfl, rfl, i', by lia⟩))
      case jstep =>
        rintro z c st' _ hz ⟨out', ia, ib, mg, ac, bc, g, rfl, rfl, i', hy⟩
        dsimp only
        obtain ⟨m, h3, h4⟩ := i'
        by_cases q : mg > 1
        · rw [if_pos q]
          refine wpS_bind (wpS_setG ?_)
          refine wpS_bind (wpS_elem h4 ?_)
          refine wpS_bind (wpS_galR (i := ib) (base := ia) (n := a.size - ia) (hint := 0) (hk' _) T.kb T.ka T.sa h4 (by lia) (by lia) fun k hk1 hk2 hk3 => ?_)
          dsimp only
          have hg : ∀ j, ia + k ≤ j → j < a.size → K b ib < K a j := fun j e1 e2 => by have := hk3 (j - ia) (by lia) (by lia); rwa [show ia + (j - ia) = j by lia] at this
          by_cases q3 : k > 0
          · rw [if_pos q3]
            have m3 := mi_takeA m T.sa (k := k) (by lia) fun i hi j e1 e2 => by have := hk2 i hi; have := srtK T.sb e1 e2; lia
            by_cases q4 : (ia + k + 1 == a.size) = true
            · rw [if_pos q4]
              exact wpS_pure ⟨_, rfl, .inl ⟨_, _, rfl, mi_last T m3 (by simpa using q4)⟩⟩
            rw [if_neg q4]
            by_cases q5 : (ia + k == a.size) = true
            · rw [if_pos q5]
              exact wpS_pure ⟨_, rfl, .inl ⟨_, _, rfl, mi_done T m3 (.inr (by simpa using q5))⟩⟩
            rw [if_neg q5]
            have z3 : ia + k + 1 < a.size := by simp at q4 q5; lia
            have z4 : out.size + 1 ≤ (out' ++ a.extract ia (ia + k)).size := by simp; lia
            generalize out' ++ a.extract ia (ia + k) = out3 at m3 z4 ⊢
            generalize ia + k = ia3 at m3 z3 hg ⊢
            refine wpS_bind (wpS_elem h4 ?_)
            have m4 := mi_pushB m3 T.sb h4 fun j e1 e2 => Int.le_of_lt (hg j e1 e2)
            by_cases q6 : (ib + 1 == b.size) = true
            · rw [if_pos q6]
              exact wpS_pure ⟨_, rfl, .inl ⟨_, _, rfl, mi_done T m4 (.inl (by simpa using q6))⟩⟩
            rw [if_neg q6]
            have z5 : ib + 1 < b.size := by simp at q6; lia
            refine wpS_bind (wpS_elem (i := ia3) (by lia) ?_)
            refine wpS_bind (wpS_galL (i := ia3) (base := ib + 1) (n := b.size - (ib + 1)) (hint := 0) (hk' _) T.ka T.kb T.sb (by lia) (by lia) (by lia) fun k' hk1' hk2' hk3' => ?_)
            dsimp only
            have hg' : ∀ j, ib + 1 + k' ≤ j → j < b.size → K a ia3 ≤ K b j := fun j e1 e2 => by have := hk3' (j - (ib + 1)) (by lia) (by lia); rwa [show ib + 1 + (j - (ib + 1)) = j by lia] at this
            by_cases q7 : k' > 0
            · rw [if_pos q7]
              have m5 := mi_takeB m4 T.sb (k := k') (by lia) fun i hi j e1 e2 => by have := hk2' i hi; have := srtK T.sa e1 e2; lia
              by_cases q8 : (ib + 1 + k' == b.size) = true
              · rw [if_pos q8]
                exact wpS_pure ⟨_, rfl, .inl ⟨_, _, rfl, mi_done T m5 (.inl (by simpa using q8))⟩⟩
              rw [if_neg q8]
              have z6 : ib + 1 + k' < b.size := by simp at q8; lia
              refine wpS_bind (wpS_elem (i := ia3) (by lia) ?_)
              have m6 := mi_pushA m5 T.sa (by lia) hg'
              by_cases q9 : (ia3 + 1 + 1 == a.size) = true
              · rw [if_pos q9]
                exact wpS_pure ⟨_, rfl, .inl ⟨_, _, rfl, mi_last T m6 (by simpa using q9)⟩⟩
              rw [if_neg q9]
              have i6 : LoI a b _ (ia3 + 1) (ib + 1 + k') := ⟨m6, by simp at q9; lia, z6⟩
              split
              · exact wpS_pure ⟨_, rfl, .inr ⟨_, _, _, _, _, _, rfl, i6, by simp; lia⟩⟩
              · exact wpS_pure ⟨_, _, _, _, _, _, _, rfl, rfl, i6, by simp; lia⟩
            · rw [if_neg q7]
              have hk0' : k' = 0 := by lia
              subst hk0'
              rw [Nat.add_zero] at hg'
              refine wpS_bind (wpS_elem (i := ia3) (by lia) ?_)
              have m6 := mi_pushA m4 T.sa (by lia) hg'
              by_cases q9 : (ia3 + 1 + 1 == a.size) = true
              · rw [if_pos q9]
                exact wpS_pure ⟨_, rfl, .inl ⟨_, _, rfl, mi_last T m6 (by simpa using q9)⟩⟩
              rw [if_neg q9]
              have i6 : LoI a b _ (ia3 + 1) (ib + 1) := ⟨m6, by simp at q9; lia, z5⟩
              split
              · exact wpS_pure ⟨_, rfl, .inr ⟨_, _, _, _, _, _, rfl, i6, by simp; lia⟩⟩
              · exact wpS_pure ⟨_, _, _, _, _, _, _, rfl, rfl, i6, by simp; lia⟩
          · rw [if_neg q3]
            have hk0 : k = 0 := by lia
            subst hk0
            have m3 := m
            have z3 := h3
            have z4 := hy
            rw [Nat.add_zero] at hg
            generalize hout : out' = out3 at m3 z4 ⊢
            generalize hia : ia = ia3 at m3 z3 hg ⊢
            refine wpS_bind (wpS_elem h4 ?_)
            have m4 := mi_pushB m3 T.sb h4 fun j e1 e2 => Int.le_of_lt (hg j e1 e2)
            by_cases q6 : (ib + 1 == b.size) = true
            · rw [if_pos q6]
              exact wpS_pure ⟨_, rfl, .inl ⟨_, _, rfl, mi_done T m4 (.inl (by simpa using q6))⟩⟩
            rw [if_neg q6]
            have z5 : ib + 1 < b.size := by simp at q6; lia
            refine wpS_bind (wpS_elem (i := ia3) (by lia) ?_)
            refine wpS_bind (wpS_galL (i := ia3) (base := ib + 1) (n := b.size - (ib + 1)) (hint := 0) (hk' _) T.ka T.kb T.sb (by lia) (by lia) (by lia) fun k' hk1' hk2' hk3' => ?_)
            dsimp only
            have hg' : ∀ j, ib + 1 + k' ≤ j → j < b.size → K a ia3 ≤ K b j := fun j e1 e2 => by have := hk3' (j - (ib + 1)) (by lia) (by lia); rwa [show ib + 1 + (j - (ib + 1)) = j by lia] at this
            by_cases q7 : k' > 0
            · rw [if_pos q7]
              have m5 := mi_takeB m4 T.sb (k := k') (by lia) fun i hi j e1 e2 => by have := hk2' i hi; have := srtK T.sa e1 e2; lia
              by_cases q8 : (ib + 1 + k' == b.size) = true
              · rw [if_pos q8]
                exact wpS_pure ⟨_, rfl, .inl ⟨_, _, rfl, mi_done T m5 (.inl (by simpa using q8))⟩⟩
              rw [if_neg q8]
              have z6 : ib + 1 + k' < b.size := by simp at q8; lia
              refine wpS_bind (wpS_elem (i := ia3) (by lia) ?_)
              have m6 := mi_pushA m5 T.sa (by lia) hg'
              by_cases q9 : (ia3 + 1 + 1 == a.size) = true
              · rw [if_pos q9]
                exact wpS_pure ⟨_, rfl, .inl ⟨_, _, rfl, mi_last T m6 (by simpa using q9)⟩⟩
              rw [if_neg q9]
              have i6 : LoI a b _ (ia3 + 1) (ib + 1 + k') := ⟨m6, by simp at q9; lia, z6⟩
              split
              · exact wpS_pure ⟨_, rfl, .inr ⟨_, _, _, _, _, _, rfl, i6, by simp; lia⟩⟩
              · exact wpS_pure ⟨_, _, _, _, _, _, _, rfl, rfl, i6, by simp; lia⟩
            · rw [if_neg q7]
              have hk0' : k' = 0 := by lia
              subst hk0'
              rw [Nat.add_zero] at hg'
              refine wpS_bind (wpS_elem (i := ia3) (by lia) ?_)
              have m6 := mi_pushA m4 T.sa (by lia) hg'
              by_cases q9 : (ia3 + 1 + 1 == a.size) = true
              · rw [if_pos q9]
                exact wpS_pure ⟨_, rfl, .inl ⟨_, _, rfl, mi_last T m6 (by simpa using q9)⟩⟩
              rw [if_neg q9]
              have i6 : LoI a b _ (ia3 + 1) (ib + 1) := ⟨m6, by simp at q9; lia, z5⟩
              split
              · exact wpS_pure ⟨_, rfl, .inr ⟨_, _, _, _, _, _, rfl, i6, by simp; lia⟩⟩
              · exact wpS_pure ⟨_, _, _, _, _, _, _, rfl, rfl, i6, by simp; lia⟩
        · rw [if_neg q]
          refine wpS_bind (wpS_setG ?_)
          refine wpS_bind (wpS_elem h4 ?_)
          refine wpS_bind (wpS_galR (i := ib) (base := ia) (n := a.size - ia) (hint := 0) (hk' _) T.kb T.ka T.sa h4 (by lia) (by lia) fun k hk1 hk2 hk3 => ?_)
          dsimp only
          have hg : ∀ j, ia + k ≤ j → j < a.size → K b ib < K a j := fun j e1 e2 => by have := hk3 (j - ia) (by lia) (by lia); rwa [show ia + (j - ia) = j by lia] at this
          by_cases q3 : k > 0
          · rw [if_pos q3]
            have m3 := mi_takeA m T.sa (k := k) (by lia) fun i hi j e1 e2 => by have := hk2 i hi; have := srtK T.sb e1 e2; lia
            by_cases q4 : (ia + k + 1 == a.size) = true
            · rw [if_pos q4]
              exact wpS_pure ⟨_, rfl, .inl ⟨_, _, rfl, mi_last T m3 (by simpa using q4)⟩⟩
            rw [if_neg q4]
            by_cases q5 : (ia + k == a.size) = true
            · rw [if_pos q5]
              exact wpS_pure ⟨_, rfl, .inl ⟨_, _, rfl, mi_done T m3 (.inr (by simpa using q5))⟩⟩
            rw [if_neg q5]
            have z3 : ia + k + 1 < a.size := by simp at q4 q5; lia
            have z4 : out.size + 1 ≤ (out' ++ a.extract ia (ia + k)).size := by simp; lia
            generalize out' ++ a.extract ia (ia + k) = out3 at m3 z4 ⊢
            generalize ia + k = ia3 at m3 z3 hg ⊢
            refine wpS_bind (wpS_elem h4 ?_)
            have m4 := mi_pushB m3 T.sb h4 fun j e1 e2 => Int.le_of_lt (hg j e1 e2)
            by_cases q6 : (ib + 1 == b.size) = true
            · rw [if_pos q6]
              exact wpS_pure ⟨_, rfl, .inl ⟨_, _, rfl, mi_done T m4 (.inl (by simpa using q6))⟩⟩
            rw [if_neg q6]
            have z5 : ib + 1 < b.size := by simp at q6; lia
            refine wpS_bind (wpS_elem (i := ia3) (by lia) ?_)
            refine wpS_bind (wpS_galL (i := ia3) (base := ib + 1) (n := b.size - (ib + 1)) (hint := 0) (hk' _) T.ka T.kb T.sb (by lia) (by lia) (by lia) fun k' hk1' hk2' hk3' => ?_)
            dsimp only
            have hg' : ∀ j, ib + 1 + k' ≤ j → j < b.size → K a ia3 ≤ K b j := fun j e1 e2 => by have := hk3' (j - (ib + 1)) (by lia) (by lia); rwa [show ib + 1 + (j - (ib + 1)) = j by lia] at this
            by_cases q7 : k' > 0
            · rw [if_pos q7]
              have m5 := mi_takeB m4 T.sb (k := k') (by lia) fun i hi j e1 e2 => by have := hk2' i hi; have := srtK T.sa e1 e2; lia
              by_cases q8 : (ib + 1 + k' == b.size) = true
              · rw [if_pos q8]
                exact wpS_pure ⟨_, rfl, .inl ⟨_, _, rfl, mi_done T m5 (.inl (by simpa using q8))⟩⟩
              rw [if_neg q8]
              have z6 : ib + 1 + k' < b.size := by simp at q8; lia
              refine wpS_bind (wpS_elem (i := ia3) (by lia) ?_)
              have m6 := mi_pushA m5 T.sa (by lia) hg'
              by_cases q9 : (ia3 + 1 + 1 == a.size) = true
              · rw [if_pos q9]
                exact wpS_pure ⟨_, rfl, .inl ⟨_, _, rfl, mi_last T m6 (by simpa using q9)⟩⟩
              rw [if_neg q9]
              have i6 : LoI a b _ (ia3 + 1) (ib + 1 + k') := ⟨m6, by simp at q9; lia, z6⟩
              split
              · exact wpS_pure ⟨_, rfl, .inr ⟨_, _, _, _, _, _, rfl, i6, by simp; lia⟩⟩
              · exact wpS_pure ⟨_, _, _, _, _, _, _, rfl, rfl, i6, by simp; lia⟩
            · rw [if_neg q7]
              have hk0' : k' = 0 := by lia
              subst hk0'
              rw [Nat.add_zero] at hg'
              refine wpS_bind (wpS_elem (i := ia3) (by lia) ?_)
              have m6 := mi_pushA m4 T.sa (by lia) hg'
              by_cases q9 : (ia3 + 1 + 1 == a.size) = true
              · rw [if_pos q9]
                exact wpS_pure ⟨_, rfl, .inl ⟨_, _, rfl, mi_last T m6 (by simpa using q9)⟩⟩
              rw [if_neg q9]
              have i6 : LoI a b _ (ia3 + 1) (ib + 1) := ⟨m6, by simp at q9; lia, z5⟩
              split
              · exact wpS_pure ⟨_, rfl, .inr ⟨_, _, _, _, _, _, rfl, i6, by simp; lia⟩⟩
              · exact wpS_pure ⟨_, _, _, _, _, _, _, rfl, rfl, i6, by simp; lia⟩
          · rw [if_neg q3]
            have hk0 : k = 0 := by lia
            subst hk0
            have m3 := m
            have z3 := h3
            have z4 := hy
            rw [Nat.add_zero] at hg
            generalize hout : out' = out3 at m3 z4 ⊢
            generalize hia : ia = ia3 at m3 z3 hg ⊢
            refine wpS_bind (wpS_elem h4 ?_)
            have m4 := mi_pushB m3 T.sb h4 fun j e1 e2 => Int.le_of_lt (hg j e1 e2)
            by_cases q6 : (ib + 1 == b.size) = true
            · rw [if_pos q6]
              exact wpS_pure ⟨_, rfl, .inl ⟨_, _, rfl, mi_done T m4 (.inl (by simpa using q6))⟩⟩
            rw [if_neg q6]
            have z5 : ib + 1 < b.size := by simp at q6; lia
            refine wpS_bind (wpS_elem (i := ia3) (by lia) ?_)
            refine wpS_bind (wpS_galL (i := ia3) (base := ib + 1) (n := b.size - (ib + 1)) (hint := 0) (hk' _) T.ka T.kb T.sb (by lia) (by lia) (by lia) fun k' hk1' hk2' hk3' => ?_)
            dsimp only
            have hg' : ∀ j, ib + 1 + k' ≤ j → j < b.size → K a ia3 ≤ K b j := fun j e1 e2 => by have := hk3' (j - (ib + 1)) (by lia) (by lia); rwa [show ib + 1 + (j - (ib + 1)) = j by lia] at this
            by_cases q7 : k' > 0
            · rw [if_pos q7]
              have m5 := mi_takeB m4 T.sb (k := k') (by lia) fun i hi j e1 e2 => by have := hk2' i hi; have := srtK T.sa e1 e2; lia
              by_cases q8 : (ib + 1 + k' == b.size) = true
              · rw [if_pos q8]
                exact wpS_pure ⟨_, rfl, .inl ⟨_, _, rfl, mi_done T m5 (.inl (by simpa using q8))⟩⟩
              rw [if_neg q8]
              have z6 : ib + 1 + k' < b.size := by simp at q8; lia
              refine wpS_bind (wpS_elem (i := ia3) (by lia) ?_)
              have m6 := mi_pushA m5 T.sa (by lia) hg'
              by_cases q9 : (ia3 + 1 + 1 == a.size) = true
              · rw [if_pos q9]
                exact wpS_pure ⟨_, rfl, .inl ⟨_, _, rfl, mi_last T m6 (by simpa using q9)⟩⟩
              rw [if_neg q9]
              have i6 : LoI a b _ (ia3 + 1) (ib + 1 + k') := ⟨m6, by simp at q9; lia, z6⟩
              split
              · exact wpS_pure ⟨_, rfl, .inr ⟨_, _, _, _, _, _, rfl, i6, by simp; lia⟩⟩
              · exact wpS_pure ⟨_, _, _, _, _, _, _, rfl, rfl, i6, by simp; lia⟩
            · rw [if_neg q7]
              have hk0' : k' = 0 := by lia
              subst hk0'
              rw [Nat.add_zero] at hg'
              refine wpS_bind (wpS_elem (i := ia3) (by lia) ?_)
              have m6 := mi_pushA m4 T.sa (by lia) hg'
              by_cases q9 : (ia3 + 1 + 1 == a.size) = true
              · rw [if_pos q9]
                exact wpS_pure ⟨_, rfl, .inl ⟨_, _, rfl, mi_last T m6 (by simpa using q9)⟩⟩
              rw [if_neg q9]
              have i6 : LoI a b _ (ia3 + 1) (ib + 1) := ⟨m6, by simp at q9; lia, z5⟩
              split
              · exact wpS_pure ⟨_, rfl, .inr ⟨_, _, _, _, _, _, rfl, i6, by simp; lia⟩⟩
              · exact wpS_pure ⟨_, _, _, _, _, _, _, rfl, rfl, i6, by simp; lia⟩
end
end Mine

-- part So4
open PySem PySem.W PyProof.Rows PySem.Calls
set_option Elab.async false
set_option maxRecDepth 100000
set_option maxHeartbeats 2000000
namespace Mine
abbrev mergeHiF : Array Keyed → Array Keyed → StateT SortSt Sem (Array Keyed) := sortPriv% PySem.Builtin.mergeHi
abbrev nk (p : Keyed) : Int := -kOf p
section
variable {f : Keyed → Int} {a b out : List Keyed} {ia ib : Nat}
theorem MI.endAB (m : MI f a b out ia ib) (ha : Srt f a) (hb : Srt f b) (h : ∀ x ∈ a.drop ia, ∀ y ∈ b.drop ib, f x ≤ f y) : Mg f a b (out ++ a.drop ia ++ b.drop ib) := by
  rw [List.append_assoc]
  exact ⟨m.perm, List.pairwise_append.mpr ⟨m.srt, List.pairwise_append.mpr ⟨ha.drop ia, hb.drop ib, h⟩, m.le⟩⟩
theorem MI.endBA (m : MI f a b out ia ib) (ha : Srt f a) (hb : Srt f b) (h : ∀ x ∈ b.drop ib, ∀ y ∈ a.drop ia, f x ≤ f y) : Mg f a b (out ++ b.drop ib ++ a.drop ia) := by
  rw [List.append_assoc]
  refine ⟨(List.Perm.append_left _ List.perm_append_comm).trans m.perm, List.pairwise_append.mpr ⟨m.srt, List.pairwise_append.mpr ⟨hb.drop ib, ha.drop ia, h⟩, fun x hx y hy => m.le x hx y ?_⟩⟩
  exact (List.perm_append_comm.mem_iff).mp hy
theorem Mg.rev {r : List Keyed} (m : Mg nk a.reverse b.reverse r) : Mg kOf a b r.reverse := by
  refine ⟨(List.reverse_perm r).trans (m.1.trans (List.Perm.append (List.reverse_perm _) (List.reverse_perm _))), List.pairwise_reverse.mpr (List.Pairwise.imp (fun {x y} h => ?_) m.2)⟩
  have : -kOf x ≤ -kOf y := h
  lia
theorem Srt.rev (h : Srt kOf a) : Srt nk a.reverse := List.pairwise_reverse.mpr (List.Pairwise.imp (fun {x y} h => by show -kOf y ≤ -kOf x; lia) h)
end
theorem drop_rev {a : Array Keyed} {n : Nat} (hn : n ≤ a.size) : a.toList.reverse.drop (a.size - n) = (a.toList.take n).reverse := by
  rw [List.drop_reverse]
  congr 2
  simp only [Array.length_toList]
  lia
theorem takeK {a : Array Keyed} {n : Nat} {P : Int → Prop} (hn : n ≤ a.size) (h : ∀ j, j < n → P (K a j)) : ∀ z ∈ a.toList.reverse.drop (a.size - n), P (kOf z) := by
  rw [drop_rev hn]
  intro z hz
  obtain ⟨i, hi, e⟩ := List.mem_iff_getElem.mp (List.mem_reverse.mp hz)
  have hl : i < n := by simp at hi; lia
  rw [List.getElem_take, Array.getElem_toList] at e
  rw [← e, kOf_get (by lia)]
  exact h _ hl
theorem getR {a : Array Keyed} {n : Nat} (h0 : 0 < n) (hn : n ≤ a.size) : a.toList.reverse[a.size - n]? = some (a[n - 1]'(by lia)) := by
  rw [List.getElem?_reverse (by simp; lia), Array.getElem?_toList]
  have : a.toList.length - 1 - (a.size - n) = n - 1 := by simp; lia
  rw [this]
  exact getElem?_pos a (n - 1) (by lia)
structure HiM (a b out : Array Keyed) (na nb : Nat) : Prop where
  m : MI nk a.toList.reverse b.toList.reverse out.toList (a.size - na) (b.size - nb)
  la : na ≤ a.size
  lb : nb ≤ b.size
section
variable {a b out : Array Keyed} {na nb : Nat}
theorem hi_pushA (x : HiM a b out na nb) (T : Two a b) (h : 0 < na) (hb : ∀ j, j < nb → K b j ≤ K a (na - 1)) : HiM a b (out.push (a[na - 1]'(by have := x.la; lia))) (na - 1) nb := by
  obtain ⟨m, la, lb⟩ := x
  refine ⟨?_, by lia, lb⟩
  rw [Array.toList_push, show a.size - (na - 1) = a.size - na + 1 by lia]
  refine m.pushA T.sa.rev (getR h la) ?_
  show ∀ z ∈ _, -kOf _ ≤ -kOf z
  rw [kOf_get (by lia)]
  exact takeK (P := fun q => -K a (na - 1) ≤ -q) lb fun j hj => by have := hb j hj; lia
theorem hi_pushB (x : HiM a b out na nb) (T : Two a b) (h : 0 < nb) (hb : ∀ j, j < na → K a j ≤ K b (nb - 1)) : HiM a b (out.push (b[nb - 1]'(by have := x.lb; lia))) na (nb - 1) := by
  obtain ⟨m, la, lb⟩ := x
  refine ⟨?_, la, by lia⟩
  rw [Array.toList_push, show b.size - (nb - 1) = b.size - nb + 1 by lia]
  refine m.pushB T.sb.rev (getR h lb) ?_
  show ∀ z ∈ _, -kOf _ ≤ -kOf z
  rw [kOf_get (by lia)]
  exact takeK (P := fun q => -K b (nb - 1) ≤ -q) la fun j hj => by have := hb j hj; lia
theorem ext_rev {a : Array Keyed} {i n : Nat} (hi : i ≤ n) (hn : n ≤ a.size) : (a.extract i n).reverse.toList = (a.toList.reverse.drop (a.size - n)).take (n - i) := by
  rw [drop_rev hn, Array.toList_reverse, Array.toList_extract, List.extract_eq_take_drop, List.take_reverse]
  congr 1
  rw [List.drop_take]
  simp only [List.length_take, Array.length_toList]
  congr 2
  all_goals lia
theorem hi_takeA (x : HiM a b out na nb) (T : Two a b) {k : Nat} (h : k ≤ na) (hb : ∀ i, k ≤ i → i < na → ∀ j, j < nb → K b j ≤ K a i) : HiM a b (out ++ (a.extract k na).reverse) k nb := by
  obtain ⟨m, la, lb⟩ := x
  refine ⟨?_, by lia, lb⟩
  rw [Array.toList_append, ext_rev h la]
  have := MI.takeA T.sa.rev (na - k) m (by simp; lia) fun i hi y hy => ?_
  · rwa [show a.size - na + (na - k) = a.size - k by lia] at this
  rw [show a.size - na + i = a.size - (na - i) by lia, getR (by lia) (by lia)] at hy
  rw [← Option.some.inj hy]
  show ∀ z ∈ _, -kOf _ ≤ -kOf z
  rw [kOf_get (by lia)]
  exact takeK (P := fun q => -K a (na - i - 1) ≤ -q) lb fun j hj => by have := hb (na - i - 1) (by lia) (by lia) j hj; lia
theorem hi_takeB (x : HiM a b out na nb) (T : Two a b) {k : Nat} (h : k ≤ nb) (hb : ∀ i, k ≤ i → i < nb → ∀ j, j < na → K a j ≤ K b i) : HiM a b (out ++ (b.extract k nb).reverse) na k := by
  obtain ⟨m, la, lb⟩ := x
  refine ⟨?_, la, by lia⟩
  rw [Array.toList_append, ext_rev h lb]
  have := MI.takeB T.sb.rev (nb - k) m (by simp; lia) fun i hi y hy => ?_
  · rwa [show b.size - nb + (nb - k) = b.size - k by lia] at this
  rw [show b.size - nb + i = b.size - (nb - i) by lia, getR (by lia) (by lia)] at hy
  rw [← Option.some.inj hy]
  show ∀ z ∈ _, -kOf _ ≤ -kOf z
  rw [kOf_get (by lia)]
  exact takeK (P := fun q => -K b (nb - i - 1) ≤ -q) la fun j hj => by have := hb (nb - i - 1) (by lia) (by lia) j hj; lia
theorem ext0 {a : Array Keyed} {n : Nat} : (a.extract 0 n).toList = a.toList.take n := by
  rw [Array.toList_extract, List.extract_eq_take_drop]; simp
theorem hi_done (x : HiM a b out na nb) (T : Two a b) (h : na = 0 ∨ nb = 0) : Mg kOf a.toList b.toList (a.extract 0 na ++ b.extract 0 nb ++ out.reverse).toList := by
  have e : (a.extract 0 na ++ b.extract 0 nb ++ out.reverse).toList = (out.toList ++ b.toList.reverse.drop (b.size - nb) ++ a.toList.reverse.drop (a.size - na)).reverse := by
    rw [drop_rev x.la, drop_rev x.lb, Array.toList_append, Array.toList_append, ext0, ext0]; simp
  rw [e]
  refine (x.m.endBA T.sa.rev T.sb.rev ?_).rev
  rw [drop_rev x.la, drop_rev x.lb]
  rcases h with rfl | rfl
  · intro _ _ y hy; simp at hy
  · intro y hy; simp at hy
theorem hi_first (x : HiM a b out na nb) (T : Two a b) (h : nb = 1) : Mg kOf a.toList b.toList (b.extract 0 nb ++ a.extract 0 na ++ out.reverse).toList := by
  have e : (b.extract 0 nb ++ a.extract 0 na ++ out.reverse).toList = (out.toList ++ a.toList.reverse.drop (a.size - na) ++ b.toList.reverse.drop (b.size - nb)).reverse := by
    rw [drop_rev x.la, drop_rev x.lb, Array.toList_append, Array.toList_append, ext0, ext0]; simp
  rw [e]
  refine (x.m.endAB T.sa.rev T.sb.rev ?_).rev
  subst h
  intro p hp
  refine takeK (P := fun q => -kOf p ≤ -q) x.lb fun j hj => ?_
  have : j = 0 := by lia
  subst this
  exact takeK (P := fun q => -q ≤ -K b 0) x.la (fun j hj => by have := T.first j (by have := x.la; lia); lia) p hp
end
section
variable {prog : Program} {w : World} {A : Around} {E : Value → Shared → Prop} {s : Shared} {a b : Array Keyed} {st : SortSt}
def HiI (a b out : Array Keyed) (na nb : Nat) : Prop := HiM a b out na nb ∧ 0 < na ∧ 1 < nb
theorem HiI.size {a b out : Array Keyed} {na nb : Nat} (h : HiI a b out na nb) : out.size = (a.size - na) + (b.size - nb) := by have := h.1.m.len; simpa using this
theorem wpS_mergeHi {Q : Array Keyed → SortSt → Prop} (hk : kindOf st = oneType') (T : Two a b) (h : ∀ r g, Mg kOf a.toList b.toList r.toList → Q r (setG st g)) : wpS (model prog w) A E s (mergeHiF a b) Q st := by
  show wpS _ _ _ _ (mergeHiF a b) _ _
  unfold mergeHiF
  k_delta "mergeHi"
  have hk' : ∀ g, kindOf (setG st g) = oneType' := fun _ => hk
  have hb0 := T.b0
  have ha0 := T.a0
  refine wpS_bind (wpS_lift (wpAny_rule ⟨rfl, ?_⟩))
  refine wpS_bind (wpS_elem (i := a.size - 1) (by lia) ?_)
  have m0 : HiM a b #[] a.size b.size := ⟨⟨by simp, by simp, .nil, fun x hx => nomatch hx⟩, Nat.le_refl _, Nat.le_refl _⟩
  have m1 : HiM a b #[a[a.size - 1]] (a.size - 1) b.size := hi_pushA m0 T T.a0 fun j hj => T.last j hj
  dsimp only
  by_cases h1 : (a.size - 1 == 0) = true
  · rw [if_pos h1]
    exact wpS_pure (h _ _ (hi_done m1 T (.inl (by simpa using h1))))
  rw [if_neg h1]
  by_cases h2 : (b.size == 1) = true
  · rw [if_pos h2]
    exact wpS_pure (h _ _ (hi_first m1 T (by simpa using h2)))
  rw [if_neg h2]
  have i1 : HiI a b #[a[a.size - 1]] (a.size - 1) b.size := ⟨m1, by simp at h1; lia, by simp at h2; lia⟩
  refine wpS_bind (wpS_get ?_)
  refine wpS_bind (wpS_mono (wpS_forRange
    (I := fun x c st' => ∃ na nb out mg g, c = (none, na, nb, out, mg) ∧ st' = setG st g ∧ HiI a b out na nb ∧ x + 1 ≤ out.size)
    (Q := fun c st' => ∃ r d g, c = (some r, d) ∧ st' = setG st g ∧ Mg kOf a.toList b.toList r.toList) ?step ?fin ⟨_, _, _, _, gallopOf st, rfl, rfl, i1, by simp⟩) ?post)
  case fin =>
    rintro c st' ⟨na, nb, out, mg, g, rfl, rfl, i, hx⟩
    have := i.size
    have := i.2
    have := i.1.la
    have := i.1.lb
    lia
  case post =>
    rintro c st' ⟨r, d, g, rfl, rfl, hm⟩
    exact wpS_pure (h r g hm)
  case step =>
    rintro x c st' _ hx ⟨na, nb, out, mg, g, rfl, rfl, i, hx1⟩
    dsimp only
    refine wpS_bind (wpS_mono (wpS_forRange
      (I := fun x c st' => ∃ na nb out' ac bc, c = (none, na, nb, out', ac, bc) ∧ st' = setG st g ∧ HiI a b out' na nb ∧ x + out.size ≤ out'.size)
      (Q := fun c st' => st' = setG st g ∧ ((∃ r d, c = (some r, d) ∧ Mg kOf a.toList b.toList r.toList) ∨ (∃ na nb out' ac bc, c = (none, na, nb, out', ac, bc) ∧ HiI a b out' na nb ∧ out.size + 1 ≤ out'.size))) ?istep ?ifin ⟨_, _, _, _, _, rfl, rfl, i, by lia⟩) ?ipost)
    case ifin =>
      rintro c st' ⟨na, nb, out', ac, bc, rfl, rfl, i', hy⟩
      exact ⟨rfl, .inr ⟨_, _, _, _, _, rfl, i', by lia⟩⟩
    case istep =>
      rintro y c st' _ hy ⟨na, nb, out', ac, bc, rfl, rfl, i', hy1⟩
      obtain ⟨m, h3, h4⟩ := i'
      have la := m.la
      have lb := m.lb
      dsimp only
      refine wpS_bind (wpS_elem (i := nb - 1) (by lia) (wpS_bind (wpS_elem (i := na - 1) (by lia) ?_)))
      refine wpS_bind (wpS_ltQ (i := nb - 1) (j := na - 1) (st := setG st g) hk T.kb T.ka (by lia) (by lia) ?_)
      by_cases q : K b (nb - 1) < K a (na - 1)
      · simp only [q, decide_true, if_true]
        refine wpS_bind (wpS_elem (i := na - 1) (by lia) ?_)
        have m' := hi_pushA m T h3 fun j hj => by have := srtK T.sb (i := j) (j := nb - 1) (by lia) (by lia); lia
        by_cases q2 : (na - 1 == 0) = true
        · rw [if_pos q2]
          exact wpS_pure ⟨rfl, .inl ⟨_, _, rfl, hi_done m' T (.inl (by simpa using q2))⟩⟩
        rw [if_neg q2]
        have i' : HiI a b _ (na - 1) nb := ⟨m', by simp at q2; lia, h4⟩
        split
        · exact wpS_pure ⟨rfl, .inr ⟨_, _, _, _, _, rfl, i', by simp; lia⟩⟩
        · exact wpS_pure ⟨_, _, _, _, _, rfl, rfl, i', by simp; lia⟩
      · simp only [q, decide_false, Bool.false_eq_true, if_false]
        refine wpS_bind (wpS_elem (i := nb - 1) (by lia) ?_)
        have m' := hi_pushB m T (by lia) fun j hj => by have := srtK T.sa (i := j) (j := na - 1) (by lia) (by lia); lia
        by_cases q2 : (nb - 1 == 1) = true
        · rw [if_pos q2]
          exact wpS_pure ⟨rfl, .inl ⟨_, _, rfl, hi_first m' T (by simpa using q2)⟩⟩
        rw [if_neg q2]
        have i' : HiI a b _ na (nb - 1) := ⟨m', h3, by simp at q2; lia⟩
        split
        · exact wpS_pure ⟨rfl, .inr ⟨_, _, _, _, _, rfl, i', by simp; lia⟩⟩
        · exact wpS_pure ⟨_, _, _, _, _, rfl, rfl, i', by simp; lia⟩
    case ipost =>
      rintro c st' ⟨rfl, ⟨r, d, rfl, hm⟩ | ⟨na, nb, out', ac, bc, rfl, i', hy⟩⟩
      · dsimp only
        exact wpS_pure ⟨r, _, g, rfl, rfl, hm⟩
      dsimp only
      refine wpS_bind (wpS_lift (wpAny_rule ⟨rfl, ?_⟩))
      refine wpS_bind (wpS_mono (wpS_forRange
        (I := fun x c st' => ∃ na nb out' mg ac bc g, c = (none, na, nb, out', mg, ac, bc) ∧ st' = setG st g ∧ HiI a b out' na nb ∧ out.size + 1 ≤ out'.size)
        (Q := fun c st' => ∃ g, st' = setG st g ∧ ((∃ r d, c = (some r, d) ∧ Mg kOf a.toList b.toList r.toList) ∨ (∃ na nb out' mg ac bc, c = (none, na, nb, out', mg, ac, bc) ∧ HiI a b out' na nb ∧ out.size + 1 ≤ out'.size))) ?jstep ?jfin ⟨_, _, _, _, _, _, _, rfl, rfl, i', hy⟩) ?jpost)
      case jfin =>
        rintro c st' ⟨na, nb, out', mg, ac, bc, g, rfl, rfl, i', hy⟩
        exact ⟨g, rfl, .inr ⟨_, _, _, _, _, _, rfl, i', hy⟩⟩
      case jpost =>
        rintro c st' ⟨g, rfl, ⟨r, d, rfl, hm⟩ | ⟨na, nb, out', mg, ac, bc, rfl, i', hy⟩⟩
        · dsimp only
          exact wpS_pure ⟨r, _, g, rfl, rfl, hm⟩
        · dsimp only
          refine wpS_bind (wpS_setG (wpS_pure ⟨_, _, _, _, _, rfl, rfl, i', by lia⟩))
      case jstep =>
        rintro z c st' _ hz ⟨na, nb, out', mg, ac, bc, g, rfl, rfl, i', hy⟩
        dsimp only
        obtain ⟨m, h3, h4⟩ := i'
        have la := m.la
        have lb := m.lb
        by_cases q : mg > 1
        · rw [if_pos q]
          refine wpS_bind (wpS_setG ?_)
          refine wpS_bind (wpS_elem (i := nb - 1) (by lia) ?_)
          refine wpS_bind (wpS_galR (i := nb - 1) (base := 0) (n := na) (hint := na - 1) (hk' _) T.kb T.ka T.sa (by lia) (by lia) (by lia) fun k hk1 hk2 hk3 => ?_)
          dsimp only
          simp only [Nat.zero_add] at hk2 hk3
          by_cases q3 : na - k > 0
          · rw [if_pos q3]
            have m3 := hi_takeA m T hk1 fun i e1 e2 j e3 => by have := hk3 i e1 e2; have := srtK T.sb (i := j) (j := nb - 1) (by lia) (by lia); lia
            by_cases q5 : (k == 0) = true
            · rw [if_pos q5]
              exact wpS_pure ⟨_, rfl, .inl ⟨_, _, rfl, hi_done m3 T (.inl (by simpa using q5))⟩⟩
            rw [if_neg q5]
            have z3 : 0 < k := by simp at q5; lia
            have z4 : out.size + 1 ≤ (out' ++ (a.extract k na).reverse).size := by simp; lia
            generalize out' ++ (a.extract k na).reverse = out3 at m3 z4 ⊢
            refine wpS_bind (wpS_elem (i := nb - 1) (by lia) ?_)
            have m4 := hi_pushB m3 T (by lia) fun j hj => hk2 j hj
            by_cases q6 : (nb - 1 == 1) = true
            · rw [if_pos q6]
              exact wpS_pure ⟨_, rfl, .inl ⟨_, _, rfl, hi_first m4 T (by simpa using q6)⟩⟩
            rw [if_neg q6]
            have z5 : 1 < nb - 1 := by simp at q6; lia
            refine wpS_bind (wpS_elem (i := k - 1) (by lia) ?_)
            refine wpS_bind (wpS_galL (i := k - 1) (base := 0) (n := nb - 1) (hint := nb - 1 - 1) (hk' _) T.ka T.kb T.sb (by lia) (by lia) (by lia) fun k' hk1' hk2' hk3' => ?_)
            dsimp only
            simp only [Nat.zero_add] at hk2' hk3'
            by_cases q7 : nb - 1 - k' > 0
            · rw [if_pos q7]
              have m5 := hi_takeB m4 T hk1' fun i e1 e2 j e3 => by have := hk3' i e1 e2; have := srtK T.sa (i := j) (j := k - 1) (by lia) (by lia); lia
              by_cases q8 : (k' == 1) = true
              · rw [if_pos q8]
                exact wpS_pure ⟨_, rfl, .inl ⟨_, _, rfl, hi_first m5 T (by simpa using q8)⟩⟩
              rw [if_neg q8]
              by_cases q10 : (k' == 0) = true
              · rw [if_pos q10]
                exact wpS_pure ⟨_, rfl, .inl ⟨_, _, rfl, hi_done m5 T (.inr (by simpa using q10))⟩⟩
              rw [if_neg q10]
              have z6 : 1 < k' := by simp at q8 q10; lia
              refine wpS_bind (wpS_elem (i := k - 1) (by lia) ?_)
              have m6 := hi_pushA m5 T (by lia) fun j hj => Int.le_of_lt (hk2' j hj)
              by_cases q9 : (k - 1 == 0) = true
              · rw [if_pos q9]
                exact wpS_pure ⟨_, rfl, .inl ⟨_, _, rfl, hi_done m6 T (.inl (by simpa using q9))⟩⟩
              rw [if_neg q9]
              have i6 : HiI a b _ (k - 1) k' := ⟨m6, by simp at q9; lia, z6⟩
              split
              · exact wpS_pure ⟨_, rfl, .inr ⟨_, _, _, _, _, _, rfl, i6, by simp; lia⟩⟩
              · exact wpS_pure ⟨_, _, _, _, _, _, _, rfl, rfl, i6, by simp; lia⟩
            · rw [if_neg q7]
              have hk0' : k' = nb - 1 := by lia
              subst hk0'
              refine wpS_bind (wpS_elem (i := k - 1) (by lia) ?_)
              have m6 := hi_pushA m4 T (by lia) fun j hj => Int.le_of_lt (hk2' j hj)
              by_cases q9 : (k - 1 == 0) = true
              · rw [if_pos q9]
                exact wpS_pure ⟨_, rfl, .inl ⟨_, _, rfl, hi_done m6 T (.inl (by simpa using q9))⟩⟩
              rw [if_neg q9]
              have i6 : HiI a b _ (k - 1) (nb - 1) := ⟨m6, by simp at q9; lia, z5⟩
              split
              · exact wpS_pure ⟨_, rfl, .inr ⟨_, _, _, _, _, _, rfl, i6, by simp; lia⟩⟩
              · exact wpS_pure ⟨_, _, _, _, _, _, _, rfl, rfl, i6, by simp; lia⟩
          · rw [if_neg q3]
            have hk0 : k = na := by lia
            subst hk0
            have m3 := m
            have z3 := h3
            have z4 := hy
            generalize out' = out3 at m3 z4 ⊢
            refine wpS_bind (wpS_elem (i := nb - 1) (by lia) ?_)
            have m4 := hi_pushB m3 T (by lia) fun j hj => hk2 j hj
            by_cases q6 : (nb - 1 == 1) = true
            · rw [if_pos q6]
              exact wpS_pure ⟨_, rfl, .inl ⟨_, _, rfl, hi_first m4 T (by simpa using q6)⟩⟩
            rw [if_neg q6]
            have z5 : 1 < nb - 1 := by simp at q6; lia
            refine wpS_bind (wpS_elem (i := k - 1) (by lia) ?_)
            refine wpS_bind (wpS_galL (i := k - 1) (base := 0) (n := nb - 1) (hint := nb - 1 - 1) (hk' _) T.ka T.kb T.sb (by lia) (by lia) (by lia) fun k' hk1' hk2' hk3' => ?_)
            dsimp only
            simp only [Nat.zero_add] at hk2' hk3'
            by_cases q7 : nb - 1 - k' > 0
            · rw [if_pos q7]
              have m5 := hi_takeB m4 T hk1' fun i e1 e2 j e3 => by have := hk3' i e1 e2; have := srtK T.sa (i := j) (j := k - 1) (by lia) (by lia); lia
              by_cases q8 : (k' == 1) = true
              · rw [if_pos q8]
                exact wpS_pure ⟨_, rfl, .inl ⟨_, _, rfl, hi_first m5 T (by simpa using q8)⟩⟩
              rw [if_neg q8]
              by_cases q10 : (k' == 0) = true
              · rw [if_pos q10]
                exact wpS_pure ⟨_, rfl, .inl ⟨_, _, rfl, hi_done m5 T (.inr (by simpa using q10))⟩⟩
              rw [if_neg q10]
              have z6 : 1 < k' := by simp at q8 q10; lia
              refine wpS_bind (wpS_elem (i := k - 1) (by lia) ?_)
              have m6 := hi_pushA m5 T (by lia) fun j hj => Int.le_of_lt (hk2' j hj)
              by_cases q9 : (k - 1 == 0) = true
              · rw [if_pos q9]
                exact wpS_pure ⟨_, rfl, .inl ⟨_, _, rfl, hi_done m6 T (.inl (by simpa using q9))⟩⟩
              rw [if_neg q9]
              have i6 : HiI a b _ (k - 1) k' := ⟨m6, by simp at q9; lia, z6⟩
              split
              · exact wpS_pure ⟨_, rfl, .inr ⟨_, _, _, _, _, _, rfl, i6, by simp; lia⟩⟩
              · exact wpS_pure ⟨_, _, _, _, _, _, _, rfl, rfl, i6, by simp; lia⟩
            · rw [if_neg q7]
              have hk0' : k' = nb - 1 := by lia
              subst hk0'
              refine wpS_bind (wpS_elem (i := k - 1) (by lia) ?_)
              have m6 := hi_pushA m4 T (by lia) fun j hj => Int.le_of_lt (hk2' j hj)
              by_cases q9 : (k - 1 == 0) = true
              · rw [if_pos q9]
                exact wpS_pure ⟨_, rfl, .inl ⟨_, _, rfl, hi_done m6 T (.inl (by simpa using q9))⟩⟩
              rw [if_neg q9]
              have i6 : HiI a b _ (k - 1) (nb - 1) := ⟨m6, by simp at q9; lia, z5⟩
              split
              · exact wpS_pure ⟨_, rfl, .inr ⟨_, _, _, _, _, _, rfl, i6, by simp; lia⟩⟩
              · exact wpS_pure ⟨_, _, _, _, _, _, _, rfl, rfl, i6, by simp; lia⟩
        · rw [if_neg q]
          refine wpS_bind (wpS_setG ?_)
          refine wpS_bind (wpS_elem (i := nb - 1) (by lia) ?_)
          refine wpS_bind (wpS_galR (i := nb - 1) (base := 0) (n := na) (hint := na - 1) (hk' _) T.kb T.ka T.sa (by lia) (by lia) (by lia) fun k hk1 hk2 hk3 => ?_)
          dsimp only
          simp only [Nat.zero_add] at hk2 hk3
          by_cases q3 : na - k > 0
          · rw [if_pos q3]
            have m3 := hi_takeA m T hk1 fun i e1 e2 j e3 => by have := hk3 i e1 e2; have := srtK T.sb (i := j) (j := nb - 1) (by lia) (by lia); lia
            by_cases q5 : (k == 0) = true
            · rw [if_pos q5]
              exact wpS_pure ⟨_, rfl, .inl ⟨_, _, rfl, hi_done m3 T (.inl (by simpa using q5))⟩⟩
            rw [if_neg q5]
            have z3 : 0 < k := by simp at q5; lia
            have z4 : out.size + 1 ≤ (out' ++ (a.extract k na).reverse).size := by simp; lia
            generalize out' ++ (a.extract k na).reverse = out3 at m3 z4 ⊢
            refine wpS_bind (wpS_elem (i := nb - 1) (by lia) ?_)
            have m4 := hi_pushB m3 T (by lia) fun j hj => hk2 j hj
            by_cases q6 : (nb - 1 == 1) = true
            · rw [if_pos q6]
              exact wpS_pure ⟨_, rfl, .inl ⟨_, _, rfl, hi_first m4 T (by simpa using q6)⟩⟩
            rw [if_neg q6]
            have z5 : 1 < nb - 1 := by simp at q6; lia
            refine wpS_bind (wpS_elem (i := k - 1) (by lia) ?_)
            refine wpS_bind (wpS_galL (i := k - 1) (base := 0) (n := nb - 1) (hint := nb - 1 - 1) (hk' _) T.ka T.kb T.sb (by lia) (by lia) (by lia) fun k' hk1' hk2' hk3' => ?_)
            dsimp only
            simp only [Nat.zero_add] at hk2' hk3'
            by_cases q7 : nb - 1 - k' > 0
            · rw [if_pos q7]
              have m5 := hi_takeB m4 T hk1' fun i e1 e2 j e3 => by have := hk3' i e1 e2; have := srtK T.sa (i := j) (j := k - 1) (by lia) (by lia); lia
              by_cases q8 : (k' == 1) = true
              · rw [if_pos q8]
                exact wpS_pure ⟨_, rfl, .inl ⟨_, _, rfl, hi_first m5 T (by simpa using q8)⟩⟩
              rw [if_neg q8]
              by_cases q10 : (k' == 0) = true
              · rw [if_pos q10]
                exact wpS_pure ⟨_, rfl, .inl ⟨_, _, rfl, hi_done m5 T (.inr (by simpa using q10))⟩⟩
              rw [if_neg q10]
              have z6 : 1 < k' := by simp at q8 q10; lia
              refine wpS_bind (wpS_elem (i := k - 1) (by lia) ?_)
              have m6 := hi_pushA m5 T (by lia) fun j hj => Int.le_of_lt (hk2' j hj)
              by_cases q9 : (k - 1 == 0) = true
              · rw [if_pos q9]
                exact wpS_pure ⟨_, rfl, .inl ⟨_, _, rfl, hi_done m6 T (.inl (by simpa using q9))⟩⟩
              rw [if_neg q9]
              have i6 : HiI a b _ (k - 1) k' := ⟨m6, by simp at q9; lia, z6⟩
              split
              · exact wpS_pure ⟨_, rfl, .inr ⟨_, _, _, _, _, _, rfl, i6, by simp; lia⟩⟩
              · exact wpS_pure ⟨_, _, _, _, _, _, _, rfl, rfl, i6, by simp; lia⟩
            · rw [if_neg q7]
              have hk0' : k' = nb - 1 := by lia
              subst hk0'
              refine wpS_bind (wpS_elem (i := k - 1) (by lia) ?_)
              have m6 := hi_pushA m4 T (by lia) fun j hj => Int.le_of_lt (hk2' j hj)
              by_cases q9 : (k - 1 == 0) = true
              · rw [if_pos q9]
                exact wpS_pure ⟨_, rfl, .inl ⟨_, _, rfl, hi_done m6 T (.inl (by simpa using q9))⟩⟩
              rw [if_neg q9]
              have i6 : HiI a b _ (k - 1) (nb - 1) := ⟨m6, by simp at q9; lia, z5⟩
              split
              · exact wpS_pure ⟨_, rfl, .inr ⟨_, _, _, _, _, _, rfl, i6, by simp; lia⟩⟩
              · exact wpS_pure ⟨_, _, _, _, _, _, _, rfl, rfl, i6, by simp; lia⟩
          · rw [if_neg q3]
            have hk0 : k = na := by lia
            subst hk0
            have m3 := m
            have z3 := h3
            have z4 := hy
            generalize out' = out3 at m3 z4 ⊢
            refine wpS_bind (wpS_elem (i := nb - 1) (by lia) ?_)
            have m4 := hi_pushB m3 T (by lia) fun j hj => hk2 j hj
            by_cases q6 : (nb - 1 == 1) = true
            · rw [if_pos q6]
              exact wpS_pure ⟨_, rfl, .inl ⟨_, _, rfl, hi_first m4 T (by simpa using q6)⟩⟩
            rw [if_neg q6]
            have z5 : 1 < nb - 1 := by simp at q6; lia
            refine wpS_bind (wpS_elem (i := k - 1) (by lia) ?_)
            refine wpS_bind (wpS_galL (i := k - 1) (base := 0) (n := nb - 1) (hint := nb - 1 - 1) (hk' _) T.ka T.kb T.sb (by lia) (by lia) (by lia) fun k' hk1' hk2' hk3' => ?_)
            dsimp only
            simp only [Nat.zero_add] at hk2' hk3'
            by_cases q7 : nb - 1 - k' > 0
            · rw [if_pos q7]
              have m5 := hi_takeB m4 T hk1' fun i e1 e2 j e3 => by have := hk3' i e1 e2; have := srtK T.sa (i := j) (j := k - 1) (by lia) (by lia); lia
              by_cases q8 : (k' == 1) = true
              · rw [if_pos q8]
                exact wpS_pure ⟨_, rfl, .inl ⟨_, _, rfl, hi_first m5 T (by simpa using q8)⟩⟩
              rw [if_neg q8]
              by_cases q10 : (k' == 0) = true
              · rw [if_pos q10]
                exact wpS_pure ⟨_, rfl, .inl ⟨_, _, rfl, hi_done m5 T (.inr (by simpa using q10))⟩⟩
              rw [if_neg q10]
              have z6 : 1 < k' := by simp at q8 q10; lia
              refine wpS_bind (wpS_elem (i := k - 1) (by lia) ?_)
              have m6 := hi_pushA m5 T (by lia) fun j hj => Int.le_of_lt (hk2' j hj)
              by_cases q9 : (k - 1 == 0) = true
              · rw [if_pos q9]
                exact wpS_pure ⟨_, rfl, .inl ⟨_, _, rfl, hi_done m6 T (.inl (by simpa using q9))⟩⟩
              rw [if_neg q9]
              have i6 : HiI a b _ (k - 1) k' := ⟨m6, by simp at q9; lia, z6⟩
              split
              · exact wpS_pure ⟨_, rfl, .inr ⟨_, _, _, _, _, _, rfl, i6, by simp; lia⟩⟩
              · exact wpS_pure ⟨_, _, _, _, _, _, _, rfl, rfl, i6, by simp; lia⟩
            · rw [if_neg q7]
              have hk0' : k' = nb - 1 := by lia
              subst hk0'
              refine wpS_bind (wpS_elem (i := k - 1) (by lia) ?_)
              have m6 := hi_pushA m4 T (by lia) fun j hj => Int.le_of_lt (hk2' j hj)
              by_cases q9 : (k - 1 == 0) = true
              · rw [if_pos q9]
                exact wpS_pure ⟨_, rfl, .inl ⟨_, _, rfl, hi_done m6 T (.inl (by simpa using q9))⟩⟩
              rw [if_neg q9]
              have i6 : HiI a b _ (k - 1) (nb - 1) := ⟨m6, by simp at q9; lia, z5⟩
              split
              · exact wpS_pure ⟨_, rfl, .inr ⟨_, _, _, _, _, _, rfl, i6, by simp; lia⟩⟩
              · exact wpS_pure ⟨_, _, _, _, _, _, _, rfl, rfl, i6, by simp; lia⟩
end
end Mine

-- part So5
open PySem PySem.W PyProof.Rows PySem.Calls
set_option Elab.async false
set_option maxRecDepth 100000
set_option maxHeartbeats 2000000
namespace Mine
theorem wpAny_unmap {α β : Type} {M : Model} {A : Around} {E : Value → Shared → Prop} {s : Shared} {m : Sem α} {f : α → β} {Q : β → Shared → Prop} (h : wpAny M A (f <$> m) Q E s) : wpAny M A m (fun a s' => Q (f a) s') E s :=
  fun Γ p hΓ => by have := h Γ p hΓ; rwa [Sem.wp_map] at this
/-- m at the shown state does what m' does at the hidden one -/
def SimP (φ : SortSt → SortSt) {α : Type} (P : α → Prop) (m m' : StateT SortSt Sem α) : Prop :=
  ∃ k : SortSt → Sem ({a // P a} × SortSt), ∀ st, m'.run st = (fun r => (r.1.1, r.2)) <$> k st ∧ m.run (φ st) = (fun r => (r.1.1, φ r.2)) <$> k st
section
variable {φ : SortSt → SortSt} {α β : Type}
theorem SimP.wp {P : α → Prop} {m m' : StateT SortSt Sem α} {M : Model} {A : Around} {E : Value → Shared → Prop} {s : Shared} {st : SortSt} {Q Q' : α → SortSt → Prop}
    (h : SimP φ P m m') (hw : wpS M A E s m' Q' st) (hq : ∀ a st', Q' a st' → Q a (φ st')) : wpS M A E s m Q (φ st) := by
  obtain ⟨k, hk⟩ := h
  unfold wpS at hw ⊢
  rw [(hk st).1] at hw
  rw [(hk st).2]
  exact wpAny_map (wpAny_mono (wpAny_unmap hw) (fun a s' x => ⟨x.1, hq _ _ x.2⟩) fun _ _ e => e)
theorem SimP.pure {P : α → Prop} {a : α} (h : P a) : SimP φ P (pure a) (pure a) := ⟨fun st => Pure.pure (⟨a, h⟩, st), fun _ => ⟨rfl, rfl⟩⟩
theorem SimP.bind {P : α → Prop} {R : β → Prop} {m m' : StateT SortSt Sem α} {f f' : α → StateT SortSt Sem β} (h : SimP φ P m m') (hf : ∀ a, P a → SimP φ R (f a) (f' a)) : SimP φ R (m >>= f) (m' >>= f') := by
  obtain ⟨k, hk⟩ := h
  refine ⟨fun st => k st >>= fun r => (hf r.1.1 r.1.2).choose r.2, fun st => ⟨?_, ?_⟩⟩
  · rw [StateT.run_bind, (hk st).1, bind_map_left, map_bind]
    congr 1; funext r
    exact ((hf r.1.1 r.1.2).choose_spec r.2).1
  · rw [StateT.run_bind, (hk st).2, bind_map_left, map_bind]
    congr 1; funext r
    exact ((hf r.1.1 r.1.2).choose_spec r.2).2
theorem SimP.lift {m : Sem α} : SimP φ (fun _ => True) (liftM m : StateT SortSt Sem α) (liftM m) := by
  refine ⟨fun st => (fun a => (⟨a, trivial⟩, st)) <$> m, fun st => ⟨?_, ?_⟩⟩
  · show ((StateT.lift m : StateT SortSt Sem α).run st) = _
    rw [StateT.run_lift, Functor.map_map]; rfl
  · show ((StateT.lift m : StateT SortSt Sem α).run (φ st)) = _
    rw [StateT.run_lift, Functor.map_map]; rfl
theorem SimP.modify {f f' : SortSt → SortSt} (h : ∀ st, f (φ st) = φ (f' st)) : SimP φ (fun _ => True) (modify f : StateT SortSt Sem PUnit) (modify f') := by
  refine ⟨fun st => Pure.pure (⟨⟨⟩, trivial⟩, f' st), fun st => ⟨rfl, ?_⟩⟩
  rw [StateT.run_modify, h]; rfl
def InStep (P : β → Prop) : ForInStep β → Prop
  | .done c => P c
  | .yield c => P c
theorem SimP.forList {P : β → Prop} {f f' : Nat → β → StateT SortSt Sem (ForInStep β)} (hf : ∀ x c, P c → SimP φ (InStep P) (f x c) (f' x c)) : ∀ (l : List Nat) (c : β), P c → SimP φ P (forIn l c f) (forIn l c f')
  | [], c, h => by rw [List.forIn_nil, List.forIn_nil]; exact .pure h
  | x :: l, c, h => by
    rw [List.forIn_cons, List.forIn_cons]
    refine (hf x c h).bind fun r hr => ?_
    cases r with
    | done c' => exact .pure hr
    | yield c' => exact SimP.forList hf l c' hr
theorem SimP.forRange {P : β → Prop} {a b : Nat} {f f' : Nat → β → StateT SortSt Sem (ForInStep β)} {c : β} (h : P c) (hf : ∀ x c, P c → SimP φ (InStep P) (f x c) (f' x c)) : SimP φ P (forIn [a:b] c f) (forIn [a:b] c f') := by
  rw [Std.Legacy.Range.forIn_eq_forIn_range', Std.Legacy.Range.forIn_eq_forIn_range']
  exact SimP.forList hf _ c h
end
/-- the shown state: a part ahead, and other runs pending -/
def shown2 (pre : Array Keyed) (pend : Array (Nat × Nat × Nat)) (st : SortSt) : SortSt := SortSt.mk' (kindOf st) (pre ++ arrOf st) pend (gallopOf st) (failedOf st)
section
variable {pre : Array Keyed} {pend : Array (Nat × Nat × Nat)}
theorem app_get {xs : Array Keyed} {i : Nat} : (pre ++ xs)[pre.size + i]? = xs[i]? := by
  rw [Array.getElem?_append_right (by lia)]; congr 1; lia
theorem sim_lt (x y : Keyed) : SimP (shown2 pre pend) (fun _ => True) (lt' x y) (lt' x y) := by
  rw [lt'_eq]
  refine ⟨fun st => (keyLt' (kindOf st) x.1 y.1).attempt >>= fun r => match r with
    | .ok b => Pure.pure (⟨some b, trivial⟩, st)
    | .error e => Pure.pure (⟨none, trivial⟩, SortSt.mk' (kindOf st) (arrOf st) (pendingOf st) (gallopOf st) (some e)), fun st => ⟨?_, ?_⟩⟩
  · rw [StateT.run_bind, StateT.run_get, pure_bind, StateT.run_bind, map_bind]
    show (StateT.lift _ : StateT SortSt Sem _).run st >>= _ = _
    rw [StateT.run_lift, bind_assoc]
    congr 1; funext r
    rw [pure_bind]
    cases r <;> rfl
  · rw [StateT.run_bind, StateT.run_get, pure_bind, StateT.run_bind, map_bind]
    show (StateT.lift _ : StateT SortSt Sem _).run (shown2 pre pend st) >>= _ = _
    rw [StateT.run_lift, bind_assoc]
    congr 1; funext r
    rw [pure_bind]
    cases r <;> rfl
theorem sim_ltAt {i j : Nat} : SimP (shown2 pre pend) (fun _ => True) (ltAt' (pre.size + i) (pre.size + j)) (ltAt' i j) := by
  rw [ltAt'_eq, ltAt'_eq]
  have hg : ∀ st : SortSt, (do let a := arrOf (← get); lt' (← elem' a (pre.size + i)) (← elem' a (pre.size + j)) : StateT SortSt Sem (Option Bool)).run (shown2 pre pend st)
      = (do lt' (← elem' (arrOf st) i) (← elem' (arrOf st) j) : StateT SortSt Sem (Option Bool)).run (shown2 pre pend st) := by
    intro st
    rw [StateT.run_bind, StateT.run_get, pure_bind]
    show (do lt' (← elem' (pre ++ arrOf st) (pre.size + i)) (← elem' (pre ++ arrOf st) (pre.size + j)) : StateT SortSt Sem (Option Bool)).run (shown2 pre pend st) = _
    rw [elem'_eq, elem'_eq, app_get, app_get, ← elem'_eq, ← elem'_eq]
  have hs : ∀ st : SortSt, SimP (shown2 pre pend) (fun _ => True) (do lt' (← elem' (arrOf st) i) (← elem' (arrOf st) j) : StateT SortSt Sem (Option Bool)) (do lt' (← elem' (arrOf st) i) (← elem' (arrOf st) j)) := by
    intro st
    have he : ∀ n, SimP (shown2 pre pend) (fun _ => True) (elem' (arrOf st) n) (elem' (arrOf st) n) := by
      intro n
      rw [elem'_eq]
      cases (arrOf st)[n]? with
      | some p => exact .pure trivial
      | none => exact SimP.lift
    exact (he i).bind fun _ _ => (he j).bind fun _ _ => sim_lt _ _
  refine ⟨fun st => (hs st).choose st, fun st => ⟨?_, ?_⟩⟩
  · rw [← ((hs st).choose_spec st).1, StateT.run_bind, StateT.run_get, pure_bind]
  · rw [← ((hs st).choose_spec st).2]
    exact hg st
theorem swap_app {xs : Array Keyed} {i j : Nat} : (pre ++ xs).swapIfInBounds (pre.size + i) (pre.size + j) = pre ++ xs.swapIfInBounds i j := by
  by_cases h1 : i < xs.size
  · by_cases h2 : j < xs.size
    · refine Array.ext_getElem? fun k => ?_
      rw [getElem?_swapIB (by simp; lia) (by simp; lia), app_get, app_get]
      by_cases hk : k < pre.size
      · rw [Array.getElem?_append_left hk, Array.getElem?_append_left hk, if_neg (by lia), if_neg (by lia)]
      · obtain ⟨m, rfl⟩ : ∃ m, k = pre.size + m := ⟨k - pre.size, by lia⟩
        rw [app_get, app_get, getElem?_swapIB h1 h2]
        by_cases q1 : j = m
        · rw [if_pos (by lia), if_pos q1]
        · rw [if_neg (by lia), if_neg q1]
          by_cases q2 : i = m
          · rw [if_pos (by lia), if_pos q2]
          · rw [if_neg (by lia), if_neg q2]
    · rw [Array.swapIfInBounds_def, Array.swapIfInBounds_def, dif_pos h1, dif_neg h2, dif_pos (by simp; lia), dif_neg (by simp; lia)]
  · rw [Array.swapIfInBounds_def, Array.swapIfInBounds_def, dif_neg h1, dif_neg (by simp; lia)]
theorem fold_app {p q p' q' : Nat → Nat} : ∀ (l : List Nat) (xs : Array Keyed), (∀ k ∈ l, p k = pre.size + p' k ∧ q k = pre.size + q' k) →
    l.foldl (fun a k => a.swapIfInBounds (p k) (q k)) (pre ++ xs) = pre ++ l.foldl (fun a k => a.swapIfInBounds (p' k) (q' k)) xs
  | [], xs, _ => rfl
  | k :: l, xs, h => by
    rw [List.foldl_cons, List.foldl_cons, (h k (.head _)).1, (h k (.head _)).2, swap_app]
    exact fold_app l _ fun k' hk' => h k' (.tail _ hk')
theorem mirror_app {xs : Array Keyed} {i j : Nat} : mirror (pre ++ xs) (pre.size + i) (pre.size + j) ((pre.size + j - (pre.size + i)) / 2) = pre ++ mirror xs i j ((j - i) / 2) := by
  unfold mirror
  rw [show pre.size + j - (pre.size + i) = j - i by lia]
  refine fold_app _ _ fun k hk => ?_
  have := List.mem_range.mp hk
  exact ⟨by lia, by lia⟩
theorem bubble_app {xs : Array Keyed} {i j : Nat} : bubble (pre ++ xs) (pre.size + i) (pre.size + i - (pre.size + j)) = pre ++ bubble xs i (i - j) := by
  unfold bubble
  rw [show pre.size + i - (pre.size + j) = i - j by lia]
  refine fold_app _ _ fun k hk => ?_
  have := List.mem_range.mp hk
  exact ⟨by lia, by lia⟩
theorem sim_rev {i j : Nat} : SimP (shown2 pre pend) (fun _ => True) (reverseSlice' (pre.size + i) (pre.size + j)) (reverseSlice' i j) := by
  rw [reverseSlice'_eq, reverseSlice'_eq]
  refine SimP.modify fun st => ?_
  show SortSt.mk' _ (mirror (pre ++ arrOf st) _ _ _) _ _ _ = _
  rw [mirror_app]; rfl
theorem sim_move {i j : Nat} : SimP (shown2 pre pend) (fun _ => True) (moveDown' (pre.size + i) (pre.size + j)) (moveDown' i j) := by
  rw [moveDown'_eq, moveDown'_eq]
  refine SimP.modify fun st => ?_
  show SortSt.mk' _ (bubble (pre ++ arrOf st) _ _) _ _ _ = _
  rw [bubble_app]; rfl
theorem sim_binary {n ok : Nat} : SimP (shown2 pre pend) (fun _ => True) (binarySort' pre.size n ok) (binarySort' 0 n ok) := by
  rw [binarySort'_eq, binarySort'_eq]
  simp only [Nat.zero_add]
  refine SimP.bind (P := fun _ => True) (SimP.forRange trivial fun k c _ => ?_) fun c _ => ?_
  · refine SimP.bind (P := fun _ => True) (SimP.forRange trivial fun x c' _ => ?_) fun c' _ => ?_
    · split
      · exact .pure trivial
      · refine SimP.bind sim_ltAt fun r _ => ?_
        cases r with
        | none => exact .pure trivial
        | some r => cases r <;> exact .pure trivial
    · obtain ⟨r, l, q⟩ := c'
      cases r with
      | some r => exact .pure trivial
      | none => exact SimP.bind sim_move fun _ _ => .pure trivial
  · obtain ⟨r, u⟩ := c
    cases r <;> exact .pure trivial
theorem sim_asc {a nrem : Nat} (ha : 1 ≤ a) : SimP (shown2 pre pend) (fun c => 1 ≤ c.2) (forIn [a:nrem] ((none, a) : AscSt) fun _ __s => do
    let __x ← ltAt' (pre.size + __s.snd) (pre.size + __s.snd - 1)
    match __x with
    | some smaller => if smaller = true then pure (ForInStep.done (none, __s.snd)) else pure (ForInStep.yield (none, __s.snd + 1))
    | _ => pure (ForInStep.done (some none, __s.snd))) (ascLoop a nrem) := by
  unfold ascLoop
  refine SimP.forRange ha fun x c hc => ?_
  rw [show pre.size + c.2 - 1 = pre.size + (c.2 - 1) by lia]
  refine SimP.bind sim_ltAt fun r _ => ?_
  cases r with
  | none => exact .pure hc
  | some r => cases r with
    | false => exact .pure (by show 1 ≤ c.2 + 1; lia)
    | true => exact .pure hc
theorem sim_count {nrem : Nat} : SimP (shown2 pre pend) (fun _ => True) (countRun' pre.size nrem) (countRun' 0 nrem) := by
  rw [countRun'_eq, countRun0_eq]
  refine SimP.bind (P := fun c => 1 ≤ c.2) (sim_asc (Nat.le_refl 1)) fun c hc => ?_
  obtain ⟨r, n⟩ := c
  cases r with
  | some r => exact .pure trivial
  | none =>
    dsimp only at hc ⊢
    unfold descPart tail3 descLoop
    by_cases q1 : (n == nrem) = true
    · rw [if_pos q1, if_pos q1]
      exact .pure trivial
    rw [if_neg q1, if_neg q1]
    by_cases q2 : n > 1
    · rw [if_pos q2, if_pos q2, show pre.size + n - 1 = pre.size + (n - 1) by lia]
      refine SimP.bind (sim_ltAt (i := 0)) fun r _ => ?_
      cases r with
      | none => exact .pure trivial
      | some r => cases r with
        | true => exact .pure trivial
        | false =>
          dsimp only
          rw [if_neg Bool.false_ne_true, if_neg Bool.false_ne_true]
          refine SimP.bind (sim_rev (i := 0)) fun _ _ => ?_
          refine SimP.bind SimP.lift fun _ _ => ?_
          refine SimP.bind (P := fun c => c.2.2 + 1 ≤ c.2.1) (SimP.forRange (by show 0 + 1 ≤ n + 1; lia) fun x c hc => ?_) fun c hc => ?_
          · rw [show pre.size + c.2.1 - 1 = pre.size + (c.2.1 - 1) by lia]
            refine SimP.bind sim_ltAt fun r _ => ?_
            cases r with
            | none => exact .pure hc
            | some r => cases r with
              | false =>
                dsimp only
                rw [if_neg Bool.false_ne_true, if_neg Bool.false_ne_true]
                refine SimP.bind sim_ltAt fun r _ => ?_
                cases r with
                | none => exact .pure hc
                | some r => cases r with
                  | false => exact .pure (by show c.2.2 + 1 + 1 ≤ c.2.1 + 1; lia)
                  | true => exact .pure hc
              | true =>
                dsimp only
                rw [if_pos rfl, if_pos rfl]
                by_cases q : c.2.2 > 0
                · rw [if_pos q, if_pos q, show pre.size + c.2.1 - (c.2.2 + 1) = pre.size + (c.2.1 - (c.2.2 + 1)) by lia]
                  exact SimP.bind sim_rev fun _ _ => .pure (by show 0 + 1 ≤ c.2.1 + 1; lia)
                · rw [if_neg q, if_neg q]
                  exact .pure (by show 0 + 1 ≤ c.2.1 + 1; lia)
          · obtain ⟨r, n, z⟩ := c
            dsimp only at hc
            cases r with
            | some r => exact .pure trivial
            | none =>
              dsimp only
              by_cases q : z > 0
              · rw [if_pos q, if_pos q, show pre.size + n - (z + 1) = pre.size + (n - (z + 1)) by lia]
                refine SimP.bind sim_rev fun _ _ => ?_
                refine SimP.bind (sim_rev (i := 0)) fun _ _ => ?_
                refine SimP.bind (sim_asc (by lia)) fun c _ => ?_
                obtain ⟨r, n⟩ := c
                cases r <;> exact .pure trivial
              · rw [if_neg q, if_neg q]
                refine SimP.bind (sim_rev (i := 0)) fun _ _ => ?_
                refine SimP.bind (sim_asc (by lia)) fun c _ => ?_
                obtain ⟨r, n⟩ := c
                cases r <;> exact .pure trivial
    · rw [if_neg q2, if_neg q2]
      refine SimP.bind SimP.lift fun _ _ => ?_
      refine SimP.bind (P := fun c => c.2.2 + 1 ≤ c.2.1) (SimP.forRange (by show 0 + 1 ≤ n + 1; lia) fun x c hc => ?_) fun c hc => ?_
      · rw [show pre.size + c.2.1 - 1 = pre.size + (c.2.1 - 1) by lia]
        refine SimP.bind sim_ltAt fun r _ => ?_
        cases r with
        | none => exact .pure hc
        | some r => cases r with
          | false =>
            dsimp only
            rw [if_neg Bool.false_ne_true, if_neg Bool.false_ne_true]
            refine SimP.bind sim_ltAt fun r _ => ?_
            cases r with
            | none => exact .pure hc
            | some r => cases r with
              | false => exact .pure (by show c.2.2 + 1 + 1 ≤ c.2.1 + 1; lia)
              | true => exact .pure hc
          | true =>
            dsimp only
            rw [if_pos rfl, if_pos rfl]
            by_cases q : c.2.2 > 0
            · rw [if_pos q, if_pos q, show pre.size + c.2.1 - (c.2.2 + 1) = pre.size + (c.2.1 - (c.2.2 + 1)) by lia]
              exact SimP.bind sim_rev fun _ _ => .pure (by show 0 + 1 ≤ c.2.1 + 1; lia)
            · rw [if_neg q, if_neg q]
              exact .pure (by show 0 + 1 ≤ c.2.1 + 1; lia)
      · obtain ⟨r, n, z⟩ := c
        dsimp only at hc
        cases r with
        | some r => exact .pure trivial
        | none =>
          dsimp only
          by_cases q : z > 0
          · rw [if_pos q, if_pos q, show pre.size + n - (z + 1) = pre.size + (n - (z + 1)) by lia]
            refine SimP.bind sim_rev fun _ _ => ?_
            refine SimP.bind (sim_rev (i := 0)) fun _ _ => ?_
            refine SimP.bind (sim_asc (by lia)) fun c _ => ?_
            obtain ⟨r, n⟩ := c
            cases r <;> exact .pure trivial
          · rw [if_neg q, if_neg q]
            refine SimP.bind (sim_rev (i := 0)) fun _ _ => ?_
            refine SimP.bind (sim_asc (by lia)) fun c _ => ?_
            obtain ⟨r, n⟩ := c
            cases r <;> exact .pure trivial
end
end Mine

-- part So6
open PySem PySem.W PyProof.Rows PySem.Calls
set_option Elab.async false
set_option maxRecDepth 100000
set_option maxHeartbeats 2000000
namespace Mine
theorem srt_to {a : Array Keyed} (h : Srt kOf a.toList) : SortedTo a a.size := fun _ _ hij hj => srtK h hij hj
theorem mem_sub {a : Array Keyed} {i n : Nat} {z : Keyed} (h : z ∈ (a.toList.drop i).take n) : ∃ j, i ≤ j ∧ j < i + n ∧ j < a.size ∧ kOf z = K a j ∧ z ∈ a.toList := by
  obtain ⟨m, hm, e⟩ := List.mem_iff_getElem.mp h
  have h1 : m < n := by simp at hm; lia
  have h2 : i + m < a.size := by simp at hm; lia
  rw [List.getElem_take, List.getElem_drop, Array.getElem_toList] at e
  exact ⟨i + m, by lia, by lia, h2, by rw [← e, kOf_get h2], by rw [← e]; simp⟩
theorem srt_sub {a : Array Keyed} {i n : Nat} (h : ∀ x y, i ≤ x → x ≤ y → y < i + n → y < a.size → K a x ≤ K a y) : Srt kOf ((a.toList.drop i).take n) := by
  refine List.pairwise_iff_getElem.mpr fun p q hp hq hpq => ?_
  have h1 : q < n := by simp at hq; lia
  have h2 : i + q < a.size := by simp at hq; lia
  rw [List.getElem_take, List.getElem_drop, Array.getElem_toList, List.getElem_take, List.getElem_drop, Array.getElem_toList, kOf_get h2, kOf_get (by lia)]
  exact h _ _ (by lia) (by lia) (by lia) h2
theorem K_ext {a : Array Keyed} {lo hi j : Nat} (hj : lo + j < hi) (hh : hi ≤ a.size) : K (a.extract lo hi) j = K a (lo + j) := by
  refine K_congr ?_
  rw [Array.getElem?_extract, if_pos (by lia)]
theorem setAll : ∀ (M : List Keyed) (a : Array Keyed) (k i : Nat), k + i + M.length ≤ a.size →
    ((M.zipIdx i).foldl (fun (a : Array Keyed) (p : Keyed × Nat) => a.setIfInBounds (k + p.2) p.1) a).toList = a.toList.take (k + i) ++ M ++ a.toList.drop (k + i + M.length)
  | [], a, k, i, _ => by simp
  | p :: M, a, k, i, h => by
    have hl : k + i < a.size := by simp at h; lia
    rw [List.zipIdx_cons, List.foldl_cons]
    rw [setAll M _ k (i + 1) (by simp at h ⊢; lia)]
    dsimp only
    rw [Array.toList_setIfInBounds]
    have e1 : List.take (k + (i + 1)) (a.toList.set (k + i) p) = a.toList.take (k + i) ++ [p] := by
      rw [← Nat.add_assoc, List.take_add_one, List.getElem?_set_self (by simpa using hl), List.take_set_of_le (Nat.le_refl _)]; rfl
    have e2 : List.drop (k + (i + 1) + M.length) (a.toList.set (k + i) p) = a.toList.drop (k + i + (p :: M).length) := by
      rw [List.drop_set_of_lt (by lia)]
      congr 1
      simp; lia
    rw [e1, e2]
    simp
theorem ext_sub {a : Array Keyed} {lo hi : Nat} (h : lo ≤ hi) : (a.extract lo hi).toList = (a.toList.drop lo).take (hi - lo) := by
  have := ext_list (a := a) (i := lo) (k := hi - lo)
  rwa [show lo + (hi - lo) = hi by lia] at this
section
variable {a b : Array Keyed} {n1 n2 k nb : Nat}
/-- the parts that are merged -/
theorem two_of (h0 : IntKeys a) (hs : n1 + n2 = a.size) (hk : k < n1) (hb : 0 < nb) (hb2 : nb ≤ n2)
    (s1 : ∀ i j, i ≤ j → j < n1 → K a i ≤ K a j) (s2 : ∀ i j, n1 ≤ i → i ≤ j → j < n1 + n2 → K a i ≤ K a j)
    (u : ∀ i, k ≤ i → i < n1 → K a n1 < K a i) (v : ∀ i, i < nb → K a (n1 + i) < K a (n1 - 1)) : Two (a.extract k n1) (a.extract n1 (n1 + nb)) where
  ka := fun x hx => h0 x (by rw [ext_sub (by lia)] at hx; exact List.mem_of_mem_drop (List.mem_of_mem_take hx))
  kb := fun x hx => h0 x (by rw [ext_sub (by lia)] at hx; exact List.mem_of_mem_drop (List.mem_of_mem_take hx))
  sa := by rw [ext_sub (by lia)]; exact srt_sub fun x y _ h2 h3 _ => s1 x y h2 (by lia)
  sb := by rw [ext_sub (by lia)]; exact srt_sub fun x y h1 h2 h3 _ => s2 x y h1 h2 (by lia)
  a0 := by simp; lia
  b0 := by simp; lia
  first := fun j hj => by
    have : k + j < n1 := by simp at hj; lia
    rw [K_ext (by lia) (by lia), K_ext this (by lia)]
    exact Int.le_of_lt (u _ (by lia) this)
  last := fun j hj => by
    have : j < nb := by simp at hj; lia
    rw [K_ext (by lia) (by lia), K_ext (by simp; lia) (by lia)]
    have e : k + ((a.extract k n1).size - 1) = n1 - 1 := by simp; lia
    rw [e]
    exact Int.le_of_lt (v _ this)
/-- the merged part stands in the array -/
theorem put_of {r : List Keyed} (hs : n1 + n2 = a.size) (hk : k < n1) (hb : 0 < nb) (hb2 : nb ≤ n2)
    (s1 : ∀ i j, i ≤ j → j < n1 → K a i ≤ K a j) (s2 : ∀ i j, n1 ≤ i → i ≤ j → j < n1 + n2 → K a i ≤ K a j)
    (u : ∀ i, i < k → K a i ≤ K a n1) (v : ∀ i, nb ≤ i → i < n2 → K a (n1 - 1) ≤ K a (n1 + i))
    (m : Mg kOf (a.extract k n1).toList (a.extract n1 (n1 + nb)).toList r) (e : b.toList = a.toList.take k ++ r ++ a.toList.drop (n1 + nb)) : b.Perm a ∧ SortedTo b b.size := by
  rw [ext_sub (by lia), ext_sub (by lia)] at m
  rw [show n1 + nb - n1 = nb by lia] at m
  have hp : r.Perm ((a.toList.drop k).take (n1 - k) ++ (a.toList.drop n1).take nb) := m.1
  have el : a.toList = a.toList.take k ++ ((a.toList.drop k).take (n1 - k) ++ (a.toList.drop n1).take nb) ++ a.toList.drop (n1 + nb) := by
    have e1 : a.toList.drop (n1 + nb) = (a.toList.drop n1).drop nb := by rw [List.drop_drop]
    have e2 : a.toList.drop n1 = (a.toList.drop k).drop (n1 - k) := by rw [List.drop_drop]; congr 1; lia
    rw [e1, List.append_assoc, List.append_assoc, List.take_append_drop, e2, List.take_append_drop, List.take_append_drop]
  have ins : ∀ z ∈ r, ∃ j, k ≤ j ∧ j < n1 + nb ∧ kOf z = K a j := fun z hz => by
    rcases List.mem_append.mp (hp.mem_iff.mp hz) with h | h
    · obtain ⟨j, h1, h2, h3, h4, _⟩ := mem_sub h
      exact ⟨j, h1, by lia, h4⟩
    · obtain ⟨j, h1, h2, h3, h4, _⟩ := mem_sub h
      exact ⟨j, by lia, h2, h4⟩
  refine ⟨Array.perm_iff_toList_perm.mpr ?_, srt_to ?_⟩
  · rw [e]
    conv => rhs; rw [el]
    exact ((List.Perm.refl _).append hp).append (List.Perm.refl _)
  · rw [e]
    have t0 : a.toList.take k = (a.toList.drop 0).take k := by simp
    have t1 : a.toList.drop (n1 + nb) = (a.toList.drop (n1 + nb)).take a.size := by rw [List.take_of_length_le (by simp)]
    refine List.pairwise_append.mpr ⟨List.pairwise_append.mpr ⟨?_, m.2, fun x hx z hz => ?_⟩, ?_, fun x hx z hz => ?_⟩
    · rw [t0]; exact srt_sub fun x y _ h2 h3 _ => s1 x y h2 (by lia)
    · rw [t0] at hx
      obtain ⟨i, h1, h2, h3, h4, _⟩ := mem_sub hx
      obtain ⟨j, g1, g2, g4⟩ := ins z hz
      rw [h4, g4]
      by_cases hj : j < n1
      · exact s1 _ _ (by lia) hj
      · exact Int.le_trans (u i (by lia)) (s2 _ _ (by lia) (by lia) (by lia))
    · rw [t1]; exact srt_sub fun x y h1 h2 h3 h4 => s2 x y (by lia) h2 (by lia)
    · rw [t1] at hz
      obtain ⟨j, g1, g2, g3, g4, _⟩ := mem_sub hz
      rw [g4]
      rcases List.mem_append.mp hx with hx | hx
      · rw [t0] at hx
        obtain ⟨i, h1, h2, h3, h4, _⟩ := mem_sub hx
        rw [h4]
        exact Int.le_trans (u i (by lia)) (s2 _ _ (by lia) (by lia) (by lia))
      · obtain ⟨i, h1, h2, h4⟩ := ins x hx
        rw [h4]
        by_cases hi : i < n1
        · have := v (j - n1) (by lia) (by lia)
          rw [show n1 + (j - n1) = j by lia] at this
          exact Int.le_trans (s1 _ (n1 - 1) (by lia) (by lia)) this
        · exact s2 _ _ (by lia) (by lia) (by lia)
/-- nothing to merge -/
theorem no_merge (hs : n1 + n2 = a.size) (s1 : ∀ i j, i ≤ j → j < n1 → K a i ≤ K a j) (s2 : ∀ i j, n1 ≤ i → i ≤ j → j < n1 + n2 → K a i ≤ K a j)
    (u : ∀ i, i < n1 → K a i ≤ K a n1) : SortedTo a a.size := fun i j hij hj => by
  by_cases h : j < n1
  · exact s1 _ _ hij h
  · by_cases h' : i < n1
    · exact Int.le_trans (u i h') (s2 _ _ (by lia) (by lia) (by lia))
    · exact s2 _ _ (by lia) hij (by lia)
end
section
variable {prog : Program} {w : World} {A : Around} {E : Value → Shared → Prop} {s : Shared} {st : SortSt}
theorem wpS_set {st' : SortSt} {Q : PUnit → SortSt → Prop} (h : Q ⟨⟩ st') : wpS (model prog w) A E s (set st') Q st := wpS_modify (f := fun _ => st') h
theorem wpS_mergeAt {n1 n2 pw z : Nat} {Q} (hk : kindOf st = oneType') (hf : failedOf st = none) (h0 : IntKeys (arrOf st)) (hp : pendingOf st = #[(0, n1, pw), (n1, n2, z)]) (hn1 : 0 < n1) (hn2 : 0 < n2) (hs : n1 + n2 = (arrOf st).size)
    (s1 : ∀ i j, i ≤ j → j < n1 → K (arrOf st) i ≤ K (arrOf st) j) (s2 : ∀ i j, n1 ≤ i → i ≤ j → j < n1 + n2 → K (arrOf st) i ≤ K (arrOf st) j)
    (h : ∀ st', (arrOf st').Perm (arrOf st) → failedOf st' = none → pendingOf st' = #[(0, n1 + n2, pw)] → SortedTo (arrOf st') (arrOf st').size → Q true st') :
    wpS (model prog w) A E s (mergeAt' 0) Q st := by
  unfold mergeAt'
  k_delta "mergeAt"
  refine wpS_bind (wpS_get ?_)
  dsimp only
  have e0 : (pendingOf st)[0]? = some (0, n1, pw) := by rw [hp]; rfl
  have e1 : (pendingOf st)[0 + 1]? = some (n1, n2, z) := by rw [hp]; rfl
  rw [e0, e1]
  dsimp only
  refine wpS_bind (wpS_set ?_)
  have a1 : n1 < (arrOf st).size := by lia
  have a2 : n1 - 1 < (arrOf st).size := by lia
  obtain ⟨t1, p1, q1⟩ := kAtK h0 a1
  obtain ⟨t2, p2, q2⟩ := kAtK h0 a2
  have pe : (((pendingOf st).setIfInBounds 0 (0, n1 + n2, pw)).eraseIdxIfInBounds (0 + 1)) = #[(0, n1 + n2, pw)] := by rw [hp]; simp [Array.eraseIdxIfInBounds, Array.eraseIdx, Array.setIfInBounds]
  refine wpS_bind (wpS_elem (a := arrOf st) a1 ?_)
  rw [q1]
  refine wpS_bind (wpS_gallopR (f := fun j => K (arrOf st) (0 + j)) hk (fun j hj => kAtQ h0 (by lia)) (fun x y hxy hy => s1 _ _ (by lia) (by lia)) hn1 fun k hk1 u1 u2 => ?_)
  dsimp only
  by_cases c1 : (n1 - k == 0) = true
  · rw [if_pos c1]
    have c1' : n1 ≤ k := by have := beq_iff_eq.mp c1; lia
    refine wpS_pure (h _ (Array.Perm.refl _) hf pe (no_merge hs s1 s2 fun i hi => ?_))
    have := u1 i (by lia)
    rwa [Nat.zero_add] at this
  rw [if_neg c1]
  have c1' : k < n1 := by have : ¬ n1 - k = 0 := fun e => c1 (beq_iff_eq.mpr e); lia
  have ei : 0 + k + (n1 - k) - 1 = n1 - 1 := by lia
  rw [ei]
  refine wpS_bind (wpS_elem (a := arrOf st) a2 ?_)
  rw [q2]
  refine wpS_bind (wpS_gallopL (f := fun j => K (arrOf st) (n1 + j)) hk (fun j hj => kAtQ h0 (by lia)) (fun x y hxy hy => s2 _ _ (by lia) (by lia) (by lia)) (by lia) fun nb hb1 v1 v2 => ?_)
  dsimp only
  by_cases c2 : (nb == 0) = true
  · exfalso
    have c2' : nb = 0 := beq_iff_eq.mp c2
    have x1 := u2 (n1 - 1) (by lia) (by lia)
    have x2 := v2 0 (by lia) (by lia)
    simp only [Nat.zero_add, Nat.add_zero] at x1 x2
    lia
  rw [if_neg c2]
  have c2' : 0 < nb := by have : ¬ nb = 0 := fun e => c2 (beq_iff_eq.mpr e); lia
  have u1' : ∀ i, i < k → K (arrOf st) i ≤ K (arrOf st) n1 := fun i hi => by have := u1 i hi; rwa [Nat.zero_add] at this
  have u2' : ∀ i, k ≤ i → i < n1 → K (arrOf st) n1 < K (arrOf st) i := fun i hi hj => by have := u2 i hi hj; rwa [Nat.zero_add] at this
  rw [Nat.zero_add]
  have T := two_of h0 hs c1' c2' hb1 s1 s2 u2' v1
  have fin : ∀ (r : Array Keyed), Mg kOf ((arrOf st).extract k n1).toList ((arrOf st).extract n1 (n1 + nb)).toList r.toList → ∀ st',
      arrOf st' = r.toList.zipIdx.foldl (fun (a : Array Keyed) (x : Keyed × Nat) => a.setIfInBounds (k + x.snd) x.fst) (arrOf st) → failedOf st' = none → pendingOf st' = #[(0, n1 + n2, pw)] → Q (failedOf st').isNone st' := fun r m st' e f p => by
    have hl : r.toList.length = n1 - k + nb := by
      have := m.1.length_eq
      rw [this, List.length_append, ext_sub (by lia), ext_sub (by lia)]
      simp; lia
    have e2 := setAll r.toList (arrOf st) k 0 (by lia)
    rw [← e, hl, Nat.add_zero, show k + (n1 - k + nb) = n1 + nb by lia] at e2
    have := put_of hs c1' c2' hb1 s1 s2 u1' v2 m e2
    rw [f]
    exact h st' this.1 f p this.2
  by_cases c3 : n1 - k ≤ nb
  · rw [if_pos c3]
    refine wpS_bind (wpS_mergeLo hk T fun r g m => ?_)
    refine wpS_bind (wpS_modify ?_)
    refine wpS_bind (wpS_get ?_)
    exact wpS_pure (fin r m _ rfl hf pe)
  · rw [if_neg c3]
    refine wpS_bind (wpS_mergeHi hk T fun r g m => ?_)
    refine wpS_bind (wpS_modify ?_)
    refine wpS_bind (wpS_get ?_)
    exact wpS_pure (fin r m _ rfl hf pe)
end
end Mine

-- part So7
open PySem PySem.W PyProof.Rows PySem.Calls
set_option Elab.async false
set_option maxRecDepth 100000
set_option maxHeartbeats 2000000
namespace Mine
section
variable {prog : Program} {w : World} {A : Around} {E : Value → Shared → Prop} {s : Shared} {a₀ a₁ pre : Array Keyed} {pend : Array (Nat × Nat × Nat)} {st : SortSt}
theorem K_app1 {b : Array Keyed} {i : Nat} (h : i < pre.size) : K (pre ++ b) i = K pre i := K_congr (by rw [Array.getElem?_append_left h])
theorem K_app2 {b : Array Keyed} {i : Nat} : K (pre ++ b) (pre.size + i) = K b i := K_congr app_get
theorem perm_app {b c : Array Keyed} (h : b.Perm c) : (pre ++ b).Perm (pre ++ c) := by
  rw [Array.perm_iff_toList_perm, Array.toList_append, Array.toList_append]
  exact List.Perm.append_left _ (Array.perm_iff_toList_perm.mp h)
theorem run_count {Q : Option Nat → SortSt → Prop} (h0 : IntKeys a₁) (h1 : 1 ≤ a₁.size) (hB : SBase a₁ st)
    (h : ∀ m st', SBase a₁ st' → 1 ≤ m → m ≤ a₁.size → SortedTo (arrOf st') m → Q (some m) (shown2 pre pend st')) :
    wpS (model prog w) A E s (countRun' pre.size a₁.size) Q (shown2 pre pend st) := by
  refine sim_count.wp (wpS_countRun (Q := fun r st' => ∃ m, r = some m ∧ SBase a₁ st' ∧ 1 ≤ m ∧ m ≤ a₁.size ∧ SortedTo (arrOf st') m) h0 (Nat.le_refl _) h1 hB fun m st' x1 x2 x3 x4 => ⟨m, rfl, x1, x2, x3, x4⟩) ?_
  rintro _ st' ⟨m, rfl, x1, x2, x3, x4⟩
  exact h m st' x1 x2 x3 x4
theorem run_ins {Q : Bool → SortSt → Prop} {ok : Nat} (h0 : IntKeys a₁) (hok : ok ≤ a₁.size) (hB : SBase a₁ st) (hs : SortedTo (arrOf st) ok)
    (h : ∀ st', SBase a₁ st' → SortedTo (arrOf st') a₁.size → Q true (shown2 pre pend st')) :
    wpS (model prog w) A E s (binarySort' pre.size a₁.size ok) Q (shown2 pre pend st) := by
  refine sim_binary.wp (wpS_binarySort (Q := fun r st' => r = true ∧ SBase a₁ st' ∧ SortedTo (arrOf st') a₁.size) h0 (Nat.le_refl _) hok hB hs fun st' x1 x2 => ⟨rfl, x1, x2⟩) ?_
  rintro _ st' ⟨rfl, x1, x2⟩
  exact h st' x1 x2
/-- one run stands -/
def Run1 (a₀ : Array Keyed) (n1 : Nat) (st : SortSt) : Prop :=
  ∃ pre a₁ st0, st = shown2 pre #[(0, pre.size, 0)] st0 ∧ n1 = pre.size ∧ SBase a₁ st0 ∧ (pre ++ a₁).Perm a₀ ∧ SortedTo pre pre.size
/-- two runs stand -/
def Run2 (a₀ : Array Keyed) (st : SortSt) : Prop :=
  ∃ n1 n2 pw, (arrOf st).Perm a₀ ∧ kindOf st = oneType' ∧ failedOf st = none ∧ pendingOf st = #[(0, n1, pw), (n1, n2, 0)] ∧ 0 < n1 ∧ 0 < n2 ∧ n1 + n2 = (arrOf st).size ∧
    (∀ i j, i ≤ j → j < n1 → K (arrOf st) i ≤ K (arrOf st) j) ∧ (∀ i j, n1 ≤ i → i ≤ j → j < n1 + n2 → K (arrOf st) i ≤ K (arrOf st) j)
theorem Run1.mk0 {n1 : Nat} (hB : SBase a₀ st) (hn : n1 ≤ a₀.size) (hs : SortedTo (arrOf st) n1) : Run1 a₀ n1 (setPending st ((pendingOf st).push (0, n1, 0))) := by
  have hz := hB.size
  have hsz : ((arrOf st).extract 0 n1).size = n1 := by simp; lia
  have happ : (arrOf st).extract 0 n1 ++ (arrOf st).extract n1 (arrOf st).size = arrOf st := by
    rw [Array.extract_append_extract]
    simp
    lia
  refine ⟨(arrOf st).extract 0 n1, (arrOf st).extract n1 (arrOf st).size, SortSt.mk' (kindOf st) ((arrOf st).extract n1 (arrOf st).size) #[] (gallopOf st) (failedOf st), ?_, hsz.symm, ⟨Array.Perm.refl _, hB.kind, hB.failed, rfl⟩, ?_, ?_⟩
  · show SortSt.mk' (kindOf st) (arrOf st) ((pendingOf st).push (0, n1, 0)) (gallopOf st) (failedOf st) = SortSt.mk' (kindOf st) ((arrOf st).extract 0 n1 ++ (arrOf st).extract n1 (arrOf st).size) #[(0, ((arrOf st).extract 0 n1).size, 0)] (gallopOf st) (failedOf st)
    rw [happ, hsz, hB.pend]
    rfl
  · rw [happ]; exact hB.perm
  · rw [hsz]
    intro i j hij hj
    rw [K_ext (by lia) (by lia), K_ext (by lia) (by lia), Nat.zero_add, Nat.zero_add]
    exact hs i j hij hj
theorem Run1.all {n1 : Nat} (h : Run1 a₀ n1 st) (hn : n1 = a₀.size) : (arrOf st).Perm a₀ ∧ failedOf st = none ∧ (pendingOf st).size = 1 ∧ SortedTo (arrOf st) a₀.size := by
  obtain ⟨pre, a₁, st0, rfl, rfl, hB, hp, hs⟩ := h
  have hz := hp.size_eq
  have hz2 := hB.size
  simp at hz
  have e : arrOf st0 = #[] := by apply Array.eq_empty_of_size_eq_zero; lia
  refine ⟨?_, hB.failed, rfl, ?_⟩
  · show (pre ++ arrOf st0).Perm a₀
    exact (perm_app hB.perm).trans hp
  · show SortedTo (pre ++ arrOf st0) a₀.size
    rw [e, Array.append_empty, ← hn]
    exact hs
theorem run2_of {st3 : SortSt} {pw : Nat} {n2 : Nat} (hB : SBase a₁ st3) (hp : (pre ++ a₁).Perm a₀) (hs : SortedTo pre pre.size) (hs3 : SortedTo (arrOf st3) a₁.size) (h1 : 0 < pre.size) (h2 : 0 < n2) (hn : n2 = a₁.size)
    {st4 : SortSt} (e1 : kindOf st4 = kindOf st3) (e2 : arrOf st4 = pre ++ arrOf st3) (e3 : failedOf st4 = failedOf st3) (e4 : pendingOf st4 = #[(0, pre.size, pw), (pre.size, n2, 0)]) : Run2 a₀ st4 := by
  have hz := hB.size
  refine ⟨pre.size, n2, pw, by rw [e2]; exact (perm_app hB.perm).trans hp, e1.trans hB.kind, e3.trans hB.failed, e4, h1, h2, by rw [e2]; simp; lia, ?_, ?_⟩
  · intro i j hij hj
    rw [e2, K_app1 (by lia), K_app1 hj]
    exact hs i j hij hj
  · intro i j hi hij hj
    obtain ⟨x, rfl⟩ : ∃ x, i = pre.size + x := ⟨i - pre.size, by lia⟩
    obtain ⟨y, rfl⟩ : ∃ y, j = pre.size + y := ⟨j - pre.size, by lia⟩
    rw [e2, K_app2, K_app2]
    exact hs3 x y (by lia) (by lia)
theorem minRun_mid {n : Nat} (h : 64 ≤ n) (h2 : n < 128) : minRun' n n 0 = n / 2 + n % 2 := by
  obtain ⟨f, hf⟩ : ∃ f, n = f + 2 := ⟨n - 2, by lia⟩
  have : minRun' (f + 2) n 0 = n / 2 + n % 2 := by
    rw [minRun'_succ, if_neg (by lia), minRun'_succ, if_pos (by lia), Nat.zero_max]
  rwa [← hf] at this
theorem wpS_sortRuns2 {Q : Unit → SortSt → Prop} (h0 : IntKeys a₀) (hB : SBase a₀ st) (h64 : 64 ≤ a₀.size) (h128 : a₀.size < 128)
    (h : ∀ st', (arrOf st').Perm a₀ → failedOf st' = none → SortedTo (arrOf st') a₀.size → Q () st') : wpS (model prog w) A E s sortRuns' Q st := by
  rw [sortRuns'_eq]
  refine wpS_bind (wpS_get ?_)
  dsimp only
  simp only [hB.size, minRun_mid h64 h128]
  generalize hmr : a₀.size / 2 + a₀.size % 2 = mr
  have hm1 : a₀.size ≤ 2 * mr := by lia
  have hm2 : mr < a₀.size := by lia
  refine wpS_bind (wpS_mono (wpS_forRange
    (I := fun x c st' => (x = 0 ∧ c = (none, 0) ∧ SBase a₀ st') ∨ (x = 1 ∧ ∃ n1, c = (none, n1) ∧ mr ≤ n1 ∧ n1 ≤ a₀.size ∧ Run1 a₀ n1 st') ∨ (2 ≤ x ∧ c = (none, a₀.size) ∧ Run2 a₀ st'))
    (Q := fun c st' => c = (none, a₀.size) ∧ (Run1 a₀ a₀.size st' ∨ Run2 a₀ st')) ?step ?fin (.inl ⟨rfl, rfl, hB⟩)) ?post)
  case fin =>
    rintro c st' (⟨hx, _, _⟩ | ⟨hx, n1, rfl, g1, g2, hR⟩ | ⟨_, rfl, hD⟩)
    · lia
    · lia
    · exact ⟨rfl, .inr hD⟩
  case step =>
    rintro x c st' _ hx (⟨rfl, rfl, hB'⟩ | ⟨hx1, n1, rfl, g1, g2, hR⟩ | ⟨hx1, rfl, hD⟩)
    · dsimp only
      rw [if_neg (by lia)]
      simp only [Nat.sub_zero, Nat.zero_add]
      refine wpS_bind (wpS_countRun h0 (Nat.le_refl _) (by lia) hB' fun m st2 hB2 hm1 hm2 hs2 => ?_)
      dsimp only
      by_cases hlt : m < mr
      · rw [if_pos hlt]
        simp only [show min a₀.size mr = mr by lia]
        refine wpS_bind (wpS_lift (wpAny_rule ⟨rfl, ?_⟩))
        refine wpS_bind (wpS_binarySort h0 (by lia) (by lia) hB2 hs2 fun st3 hB3 hs3 => ?_)
        simp only [Bool.not_true, Bool.false_eq_true, if_false]
        refine wpS_bind (wpS_get ?_)
        have hb : (pendingOf st3).back? = none := by rw [hB3.pend]; rfl
        rw [hb]
        dsimp only
        exact wpS_bind (wpS_modify (wpS_pure (.inr (.inl ⟨by trivial, mr, rfl, by lia, by lia, .mk0 hB3 (by lia) hs3⟩))))
      · rw [if_neg hlt]
        refine wpS_bind (wpS_get ?_)
        have hb : (pendingOf st2).back? = none := by rw [hB2.pend]; rfl
        rw [hb]
        dsimp only
        exact wpS_bind (wpS_modify (wpS_pure (.inr (.inl ⟨by trivial, m, rfl, by lia, by lia, .mk0 hB2 (by lia) hs2⟩))))
    · dsimp only
      by_cases hn : n1 ≥ a₀.size
      · rw [if_pos hn]
        have : n1 = a₀.size := by lia
        subst this
        exact wpS_pure ⟨rfl, .inl hR⟩
      rw [if_neg hn]
      obtain ⟨pre, a₁, st0, rfl, rfl, hB1, hp, hs⟩ := hR
      have hz : pre.size + a₁.size = a₀.size := by have := hp.size_eq; simpa using this
      have h0' : IntKeys a₁ := fun x hx => h0 x ((Array.perm_iff_toList_perm.mp hp).mem_iff.mp (by rw [Array.toList_append]; exact List.mem_append_right _ hx))
      rw [show a₀.size - pre.size = a₁.size by lia]
      refine wpS_bind (run_count h0' (by lia) hB1 fun m st2 hB2 hm1 hm2 hs2 => ?_)
      dsimp only
      by_cases hlt : m < mr
      · rw [if_pos hlt]
        simp only [show min a₁.size mr = a₁.size by lia]
        refine wpS_bind (wpS_lift (wpAny_rule ⟨rfl, ?_⟩))
        refine wpS_bind (run_ins h0' (by lia) hB2 hs2 fun st3 hB3 hs3 => ?_)
        simp only [Bool.not_true, Bool.false_eq_true, if_false]
        refine wpS_bind (wpS_get ?_)
        have hb : (pendingOf (shown2 pre #[(0, pre.size, 0)] st3)).back? = some (0, pre.size, 0) := rfl
        rw [hb]
        dsimp only
        refine wpS_bind (wpS_mono (wpS_forRange (I := fun i c st5 => i = 0 ∧ c = (none, ()) ∧ st5 = shown2 pre #[(0, pre.size, 0)] st3) (Q := fun c st5 => c = (none, ()) ∧ st5 = shown2 pre #[(0, pre.size, 0)] st3) ?_ ?_ ⟨rfl, rfl, rfl⟩) ?_)
        · rintro i c st5 _ _ ⟨rfl, rfl, rfl⟩
          refine wpS_bind (wpS_get ?_)
          exact wpS_pure ⟨rfl, rfl⟩
        · rintro c st5 ⟨h5, rfl, rfl⟩
          exact ⟨rfl, rfl⟩
        · rintro c st5 ⟨rfl, rfl⟩
          dsimp only
          refine wpS_bind (wpS_modify (wpS_bind (wpS_modify (wpS_pure (.inr (.inr ⟨by lia, ?_, ?_⟩))))))
          · exact congrArg _ (by lia)
          · exact run2_of hB3 hp hs hs3 (by lia) (by lia) (by lia) rfl rfl rfl rfl
      · rw [if_neg hlt]
        have hma : m = a₁.size := by lia
        rw [hma] at hs2
        refine wpS_bind (wpS_get ?_)
        have hb : (pendingOf (shown2 pre #[(0, pre.size, 0)] st2)).back? = some (0, pre.size, 0) := rfl
        rw [hb]
        dsimp only
        refine wpS_bind (wpS_mono (wpS_forRange (I := fun i c st5 => i = 0 ∧ c = (none, ()) ∧ st5 = shown2 pre #[(0, pre.size, 0)] st2) (Q := fun c st5 => c = (none, ()) ∧ st5 = shown2 pre #[(0, pre.size, 0)] st2) ?_ ?_ ⟨rfl, rfl, rfl⟩) ?_)
        · rintro i c st5 _ _ ⟨rfl, rfl, rfl⟩
          refine wpS_bind (wpS_get ?_)
          exact wpS_pure ⟨rfl, rfl⟩
        · rintro c st5 ⟨h5, rfl, rfl⟩
          exact ⟨rfl, rfl⟩
        · rintro c st5 ⟨rfl, rfl⟩
          dsimp only
          refine wpS_bind (wpS_modify (wpS_bind (wpS_modify (wpS_pure (.inr (.inr ⟨by lia, ?_, ?_⟩))))))
          · exact congrArg _ (by lia)
          · exact run2_of hB2 hp hs hs2 (by lia) (by lia) (by lia) rfl rfl rfl rfl
    · dsimp only
      rw [if_pos (Nat.le_refl _)]
      exact wpS_pure ⟨rfl, .inr hD⟩
  case post =>
    rintro c st' ⟨rfl, hD⟩
    dsimp only
    refine wpS_bind (wpS_mono (wpS_forRange (I := fun i c st5 => c = (none, ()) ∧ ((i = 0 ∧ Run2 a₀ st5) ∨ ((arrOf st5).Perm a₀ ∧ failedOf st5 = none ∧ (pendingOf st5).size = 1 ∧ SortedTo (arrOf st5) a₀.size)))
      (Q := fun c st5 => c = (none, ()) ∧ (arrOf st5).Perm a₀ ∧ failedOf st5 = none ∧ SortedTo (arrOf st5) a₀.size) ?_ ?_ ⟨rfl, ?_⟩) ?_)
    · rintro i c st5 _ _ ⟨rfl, ⟨rfl, n1, n2, pw, r1, r2, r3, r4, r5, r6, r7, r8, r9⟩ | ⟨r1, r2, r3, r4⟩⟩
      · refine wpS_bind (wpS_get ?_)
        have ez : (pendingOf st5).size = 2 := by rw [r4]; rfl
        simp only [ez]
        rw [if_neg (by lia)]
        have hi : ∀ i, i ∈ (arrOf st5).toList → ∃ n t, i.1 = .int n t := fun x hx => h0 x ((Array.perm_iff_toList_perm.mp r1).mem_iff.mp hx)
        refine wpS_bind (wpS_mergeAt r2 r3 hi r4 r5 r6 r7 r8 r9 fun st6 x1 x2 x3 x4 => ?_)
        refine wpS_pure ⟨rfl, .inr ⟨x1.trans r1, x2, by rw [x3]; rfl, ?_⟩⟩
        have := (x1.trans r1).size_eq
        rwa [this] at x4
      · refine wpS_bind (wpS_get ?_)
        rw [if_pos (by lia)]
        exact wpS_pure ⟨rfl, r1, r2, r4⟩
    · rintro c st5 ⟨rfl, ⟨h5, _⟩ | ⟨r1, r2, r3, r4⟩⟩
      · lia
      · exact ⟨rfl, r1, r2, r4⟩
    · rcases hD with hD | hD
      · exact .inr (hD.all rfl)
      · exact .inl ⟨rfl, hD⟩
    · rintro c st5 ⟨rfl, r1, r2, r4⟩
      exact wpS_pure (h _ r1 r2 r4)
end
end Mine

-- part So8
open PySem PySem.W PyProof.Rows PySem.Calls
set_option Elab.async false
set_option maxRecDepth 100000
set_option maxHeartbeats 2000000
namespace Mine
section
variable {prog : Program} {w : World} {A : Around} {E : Value → Shared → Prop} {s : Shared}
/-- list.sort of 64 to 127 ints -/
theorem sort_big {a : Addr} {vs : List Value} {ns : List Int} {n : Nat} {P : Fin → Shared → Prop} (ho : s.heap.get? a = some (seqObj "list" vs.toArray n))
    (hI : IntsAre vs ns) (h64 : 64 ≤ vs.length) (h128 : vs.length < 128)
    (h : ∀ (out : Array Value) (ns' : List Int), IntsAre out.toList ns' → ns'.Perm ns → ns'.Pairwise (· ≤ ·) → P (.done (.ret .none)) { s with heap := sortedHeap s.heap a vs out }) :
    wpAny (model prog w) A (Builtin.«list.sort» ⟨[.ref a], []⟩) P E s := by
  rw [list_sort_plain]
  have ha : a < s.heap.objs.size := Heap.lt_size ho
  have hsz : ¬ vs.toArray.size < 2 := by simp; omega
  obtain ⟨e1, ho1⟩ : ∃ e1, (s.heap.update a (Obj.mapSeq fun _ => #[])).get? a = some (seqObj "list" #[] e1) := ⟨_, get?_update_seq ho (fun _ => #[])⟩
  have ho6 : (((s.heap.update a (Obj.mapSeq fun _ => #[])).push (seqObj "tuple" vs.toArray 0)).push (seqObj "list" #[] 0)).get? a = some (seqObj "list" #[] e1) :=
    Heap.get?_push_of_some _ (Heap.get?_push_of_some _ ho1)
  obtain ⟨v₁, v₂, rest, rfl⟩ : ∃ v₁ v₂ rest, vs = v₁ :: v₂ :: rest := by
    match vs, h64 with
    | [], h2 => simp at h2
    | [_], h2 => simp at h2
    | v₁ :: v₂ :: rest, _ => exact ⟨v₁, v₂, rest, rfl⟩
  refine wpAny_bind (listItems_at ho rfl (wpAny_bind (listUpdate_at ho rfl (wpAny_bind (seqEpoch_at ho1 rfl (wpAny_bind (wpAny_newTuple (wpAny_bind (wpAny_newList (wpAny_holding ?_))))))))))
  show wpAny (model prog w) A _ P E { s with heap := ((s.heap.update a (Obj.mapSeq fun _ => #[])).push (seqObj "tuple" (v₁ :: v₂ :: rest).toArray 0)).push (seqObj "list" #[] 0) }
  dsimp only
  rw [if_neg hsz, if_neg hsz, keyKind_ints hI]
  refine wpAny_bind (wpAny_pure ?_)
  refine wpAny_bind (wpAny_mono (wpS_sortRuns2 (a₀ := pairsOf (v₁ :: v₂ :: rest)) (st := SortSt.mk' oneType' (pairsOf (v₁ :: v₂ :: rest)) #[] 7 none)
    (Q := fun _ st' => (arrOf st').Perm (pairsOf (v₁ :: v₂ :: rest)) ∧ failedOf st' = none ∧ SortedTo (arrOf st') (pairsOf (v₁ :: v₂ :: rest)).size)
    hI.intKeys ⟨Array.Perm.refl _, rfl, rfl, rfl⟩ (by rw [pairsOf_size]; exact h64) (by rw [pairsOf_size]; exact h128) fun st' a1 a2 a3 => ⟨a1, a2, a3⟩) ?_ fun _ _ e => e)
  rintro ⟨⟨⟩, st'⟩ s' ⟨rfl, hp, hf, hs⟩
  dsimp only
  refine wpAny_bind (seqEpoch_at ho6 rfl ?_)
  refine wpAny_bind (listUpdate_at ho6 rfl ?_ (hsz2 := by refine Nat.le_trans (Nat.le_of_eq ((Array.size_map ..).trans (hp.size_eq.trans (pairsOf_size _)))) ?_; rw [sizeLine_eq]; omega))
  rw [hf]
  simp only [bne_self_eq_false, Bool.false_eq_true, if_false]
  obtain ⟨ns', h1, h2, h3⟩ := sorted_out hI hp hs
  exact wpAny_pure (h _ ns' h1 h2 h3)
theorem sort_any {a : Addr} {vs : List Value} {ns : List Int} {n : Nat} {P : Fin → Shared → Prop} (ho : s.heap.get? a = some (seqObj "list" vs.toArray n))
    (hI : IntsAre vs ns) (h128 : vs.length < 128)
    (h : ∀ (out : Array Value) (ns' : List Int), IntsAre out.toList ns' → ns'.Perm ns → ns'.Pairwise (· ≤ ·) → P (.done (.ret .none)) { s with heap := sortedHeap s.heap a vs out }) :
    wpAny (model prog w) A (Builtin.«list.sort» ⟨[.ref a], []⟩) P E s := by
  by_cases h64 : vs.length < 64
  · exact list_sort_tree ho hI h64 h
  · exact sort_big ho hI (by omega) h128 h
theorem sort_call {h₀ : Heap} {L : Addr} {m : Str → Option Value} {news : List (Addr × Obj)} {D : Addr} {vs : List Value} {ns : List Int} {n : Nat} {Q : Value → Shared → Prop}
    (F : Fr h₀ L s.heap m) (N : News h₀ L s.heap ((D, W.listOf vs.toArray n) :: news)) (l1 : ∀ q ∈ news, q.1 < D) (hI : IntsAre vs ns) (h128 : vs.length < 128)
    (h : ∀ h' vs' ns' c, Fr h₀ L h' m → News h₀ L h' ((D, W.listOf vs'.toArray c) :: news) → IntsAre vs' ns' → ns'.Perm ns → ns'.Pairwise (· ≤ ·) → Q .none { s with heap := h' }) :
    wpAny (model prog w) A (call (.builtin "list.sort") [.ref D]) Q E s := by
  have hD := N _ (.head _)
  have hg : s.heap.get? D = some (seqObj "list" vs.toArray n) := hD.1
  refine wpAny_call_entry slot_list_sort ⟨_, hg, rfl⟩ entry_list_sort (sort_any hg hI h128 fun out ns' a1 a2 a3 => ⟨_, rfl, ?_⟩) (args_list_sort _)
  obtain ⟨e, he⟩ := sortedHeap_at (out := out) hg
  have old : ∀ b o, b ≠ D → s.heap.get? b = some o → (sortedHeap s.heap D vs out).get? b = some o := fun b o hb ho => by rw [sortedHeap_old hb (Heap.lt_size ho)]; exact ho
  refine h _ out.toList ns' e ?_ ?_ a1 a2 a3
  · obtain ⟨oL, b1, b2, hL, b3⟩ := F.ns
    refine ⟨⟨oL, b1, b2, old _ _ (fun q => hD.2.1 q.symm) hL, b3⟩, fun b o q => old b o (fun e => ?_) (F.keep b o q), F.above⟩
    rw [e, hD.2.2] at q
    cases q
  · intro p hp
    rcases List.mem_cons.mp hp with rfl | hp
    · exact ⟨by rw [Array.toArray_toList]; exact he, hD.2⟩
    · have := N p (List.mem_cons_of_mem _ hp)
      exact ⟨old _ _ (Nat.ne_of_lt (l1 p hp)) this.1, this.2⟩
theorem ints_of {ks : List Int} : ∀ {vs : List Value}, vs.length = ks.length → (∀ (j : Nat) (v : Value), vs[j]? = some v → ∃ (k : Int) (t : Tok), ks[j]? = some k ∧ v = Value.int k t) → IntsAre vs ks := by
  induction ks with
  | nil => intro vs hl _; cases vs with
    | nil => exact .nil
    | cons => simp at hl
  | cons k r ih => intro vs hl hv; cases vs with
    | nil => simp at hl
    | cons v vr =>
      obtain ⟨k', t, e, rfl⟩ := hv 0 v rfl
      obtain rfl : k = k' := by simpa using e
      exact .cons _ _ (ih (by simpa using hl) fun j u hu => by have := hv (j + 1) u (by simpa using hu); simpa using this)
/-- sorted over a dict with int keys -/
theorem sorted_dict {h₀ : Heap} {L d : Addr} {od : Obj} {m : Str → Option Value} {news : List (Addr × Obj)} {kvs : List (Int × Value)} {Q : Value → Shared → Prop}
    (hh : A.handled = none) (F : Fr h₀ L s.heap m) (N : News h₀ L s.heap news) (hmd : (d, od) ∈ news) (hod : od.IsDictOf (intKind prog w) kvs) (lo : (d == sysModules) = false) (hn : kvs.length < 128)
    (h : ∀ D vs' ns' c h' tk, Fr h₀ L h' m → News h₀ L h' ((D, W.listOf vs'.toArray c) :: news) → (∀ q ∈ news, q.1 < D) → IntsAre vs' ns' → ns'.Perm (kvs.map (·.1)) → ns'.Pairwise (· ≤ ·) → Q (.ref D) { s with heap := h', toks := tk }) :
    wpAny (model prog w) A (call (.builtin "sorted") [.ref d]) Q E s := by
  obtain ⟨ep, hat⟩ := (Heap.dictOf_iff.mpr ⟨od, (N _ hmd).1, hod⟩ : s.heap.DictOf (intKind prog w) d kvs).dictAt
  refine kdu_sorted (kdl_dict (knd := intKind prog w) (kvs := kvs) (ep := ep) lo) hh F N hat (by rw [sizeLine_eq]; omega) fun D h' tk vs F' N' l1 hl hv => ?_
  refine sort_call (ns := kvs.map (·.1)) F' N' l1 (ints_of (by simpa using hl) fun j v hj => ?_) (by omega) fun h2 vs' ns' c F2 N2 a1 a2 a3 => h D vs' ns' c h2 tk F2 N2 l1 a1 a2 a3
  obtain ⟨k, x, e, hk⟩ := hv j v hj
  obtain ⟨t, rfl⟩ := Value.isInt_shape hk
  exact ⟨k, t, by simp [e], rfl⟩
end
end Mine

-- part W2a
open PySem PySem.W PyProof.Rows PySem.Calls
set_option Elab.async false
set_option maxRecDepth 100000
set_option maxHeartbeats 8000000
set_option rowWalk.seconds 0
namespace Mine
section
variable {w : World} {A : Around} {s : Shared} {Q E : Value → Shared → Prop} {p : Program} {loose : List Str} {mg mb : Str → Option Value} {h₀ : Heap} {L : Addr} {m : Str → Option Value} {news : List (Addr × Obj)}
theorem c_orderN {n : Nat} {tv : Int} {t1 t2 : Tok} (F : Fr h₀ L s.heap m) (N : News h₀ L s.heap news) (X : (hd.heap_39 w.params).In h₀) (T : TopRead p loose mg mb h₀) (hroom : A.depth + 5 < recursionLimit) (hh : A.handled = none)
    (hn : n ≤ 1000) (ht0 : 0 ≤ tv) (ht1 : tv ≤ 2000)
    (h : ∀ a h' tk vs ord c, Fr h₀ L h' m → News h₀ L h' ((a, W.listOf vs.toArray c) :: news) → (∀ q ∈ news, q.1 < a ∨ a < q.1) → IntsAre vs ord → ord.Perm ((List.range n).map Int.ofNat) → Q (.ref a) { s with heap := h', toks := tk }) :
    wpAny (model PySem.Challenge.rw_dm0193_02.row.prog w) A (call (.ref 69) [.int n t1, .int tv t2]) Q E s :=
  c_order (X.keeps F.keep) (T.keeps F.keep) hroom hh hn ht0 ht1 fun a h' tk vs ord c hk hf hg hI hp => by
    have ha : a ≠ L ∧ h₀.get? a = none := by
      obtain ⟨oL, esL, epL, hLg, rL⟩ := F.ns
      refine ⟨fun q => (by rw [q, hLg] at hf; cases hf), ?_⟩
      cases q : h₀.get? a with
      | none => rfl
      | some o => have := F.keep _ _ q; rw [hf] at this; cases this
    refine h a h' tk vs ord c (F.keeps hk) (fun q hq => ?_) (fun q hq => Nat.lt_or_gt_of_ne fun e => ?_) hI hp
    · rcases List.mem_cons.mp hq with rfl | hq
      · exact ⟨hg, ha⟩
      · exact ⟨hk _ _ (N q hq).1, (N q hq).2⟩
    · have := (N q hq).1; rw [e, hf] at this; cases this
end
section
variable {prog : Program} {w : World} {A : Around} {E : Value → Shared → Prop} {s : Shared} {h₀ : Heap} {L : Addr} {m : Str → Option Value} {news : List (Addr × Obj)} {l : Addr} {u : Tok} {Q : Value → Shared → Prop} {n : Nat}
theorem flat_none : ∀ n : Nat, (List.replicate n [Value.none]).flatten = List.replicate n Value.none
  | 0 => rfl
  | n + 1 => by rw [List.replicate_succ, List.flatten_cons, flat_none n]; rfl
theorem none_mul (Fm : Fr h₀ L s.heap m) (N : News h₀ L s.heap news) (hl : s.heap.IsList l [Value.none].toArray) (hn : n ≤ 200)
    (h : ∀ D h', Fr h₀ L h' m → News h₀ L h' ((D, W.listOf (List.replicate (n + 1) Value.none).toArray 0) :: news) → (∀ p ∈ news, p.1 < D) → Q (.ref D) { s with heap := h' }) :
    wpAny (model prog w) A (binaryOp .Mult (.ref l) (.int ((n : Int) + 1) u)) Q E s := by
  have e : ((n : Int) + 1).toNat = n + 1 := by omega
  refine KMa.mul Fm N hl (by omega) (by omega) (by rw [e]; simp; omega) (by rw [e]; exact flat_none _) h
end
end Mine

-- part W2b
open PySem PySem.W PyProof.Rows PySem.Calls
set_option Elab.async false
set_option maxRecDepth 100000
set_option maxHeartbeats 8000000
namespace Mine
section
variable {w : World} {A : Around} {s : Shared} {Q E : Value → Shared → Prop} {p : Program} {loose : List Str} {mg mb : Str → Option Value} {h₀ : Heap} {L : Addr} {m : Str → Option Value} {news : List (Addr × Obj)}
theorem c_makeN {msg doc : Str} {pos : Int} {t1 t2 t3 : Tok} (F : Fr h₀ L s.heap m) (N : News h₀ L s.heap news) (X : (hd.heap_39 w.params).In h₀) (T : TopRead p loose mg mb h₀) (hroom : A.depth + 2 < recursionLimit)
    (hm : msg.length ≤ 1000000) (hl : (lnOf doc pos).natAbs.log2 < 1920) (hc : (cnOf doc pos).natAbs.log2 < 1920) (hp : pos.natAbs.log2 < 1920)
    (h : ∀ h' tk e os, Fr h₀ L h' m → News h₀ L h' (news ++ os) → (∀ p ∈ os, s.heap.get? p.1 = none) → ErrIn w 38 os e msg doc pos (lnOf doc pos) (cnOf doc pos) (wordsOf msg (lnOf doc pos) (cnOf doc pos) pos) → Q (.ref e) { s with heap := h', toks := tk }) :
    wpAny (model PySem.Challenge.rw_dm0193_02.row.prog w) A (call (.ref 38) [.str msg t1, .str doc t2, .int pos t3]) Q E s :=
  c_make (X.keeps F.keep) (T.keeps F.keep) hroom hm hl hc hp fun h' tk e os hk ho x => by
    refine h h' tk e os (F.keeps hk) (fun q hq => ?_) (fun q hq => (ho q hq).2) x
    rcases List.mem_append.mp hq with hq | hq
    · exact ⟨hk _ _ (N q hq).1, (N q hq).2⟩
    · obtain ⟨h1, h2⟩ := ho q hq
      refine ⟨h1, fun e => ?_, ?_⟩
      · obtain ⟨oL, _, _, hL, _⟩ := F.ns
        rw [e, hL] at h2; cases h2
      · cases q' : h₀.get? q.1 with
        | none => rfl
        | some o => rw [F.keep _ _ q'] at h2; cases h2
end
theorem log_sm {x : Int} (h1 : -10000 ≤ x) (h2 : x ≤ 10000) : x.natAbs.log2 < 1920 := shown (N := 10 ^ 100) (by lia) (by lia) (by decide +kernel)
theorem ln_in' (x : Str) {k : Int} (h0 : 0 ≤ k) (h : k ≤ x.length) : lnOf x k = nlc (lst x) k.toNat + 1 := by
  obtain ⟨n, rfl⟩ := Int.eq_ofNat_of_zero_le h0
  exact ln_in x (by lia)
theorem cn_in' (x : Str) {k : Int} (h0 : 0 ≤ k) (h : k ≤ x.length) : cnOf x k = colf (lst x) k.toNat := by
  obtain ⟨n, rfl⟩ := Int.eq_ofNat_of_zero_le h0
  exact cn_in x (by lia)
theorem ln_bd (x : Str) {k : Int} (h0 : 0 ≤ k) (h : k ≤ x.length) (hx : x.length ≤ 90) : 1 ≤ lnOf x k ∧ lnOf x k ≤ 91 := by
  rw [ln_in' x h0 h]
  have := nlc_le (lst x) k.toNat
  lia
theorem cn_bd (x : Str) {k : Int} (h0 : 0 ≤ k) (h : k ≤ x.length) (hx : x.length ≤ 90) : 1 ≤ cnOf x k ∧ cnOf x k ≤ 91 := by
  rw [cn_in' x h0 h]
  have h1 := colf_pos (lst x) k.toNat
  have h2 := colf_le (lst x) k.toNat
  lia
theorem m_put3 {x1 x2 x3 : Str} {m : Str → Option Value} {v1 v2 v3 : Option Value} (h1 : m x1 = v1) (h2 : m x2 = v2) (h3 : m x3 = v3) :
    m = fun y => if y = x1 then v1 else if y = x2 then v2 else if y = x3 then v3 else m y := by
  funext z
  by_cases q1 : z = x1
  · rw [if_pos q1, q1, h1]
  by_cases q2 : z = x2
  · rw [if_neg q1, if_pos q2, q2, h2]
  by_cases q3 : z = x3
  · rw [if_neg q1, if_neg q2, if_pos q3, q3, h3]
  rw [if_neg q1, if_neg q2, if_neg q3]
theorem ne_of_or {a b : Addr} (h : a < b ∨ b < a) : a ≠ b := h.elim Nat.ne_of_lt Nat.ne_of_gt
/-- the locals of _law_whole that matter -/
def mW (x : Str) (t1 : Tok) (ER RW : Addr) (m' : Str → Option Value) : Str → Option Value :=
  fun y => if y = Str.ofString "text" then some (.str x t1) else if y = Str.ofString "errors" then some (.ref ER) else if y = Str.ofString "row" then some (.ref RW) else m' y
/-- the sign at a place -/
def sgn (x : Str) (q : Int) : Str := Txt.slice x (some q) (some (q + 1))
def ErrOf (w : World) (x : Str) (os : List (Addr × Obj)) (e : Addr) (q : Int) : Prop :=
  ErrIn w 38 os e (sgn x q) x q (lnOf x q) (cnOf x q) (wordsOf (sgn x q) (lnOf x q) (cnOf x q) q)
/-- errors built so far -/
def Errs (w : World) (x : Str) (ord : List Int) (os : List (Addr × Obj)) (es : List Value) : Prop :=
  ∀ (k : Nat) (v : Value), es[k]? = some v → ∃ e q, v = .ref e ∧ ord[k]? = some q ∧ ErrOf w x os e q
def ErJ (w : World) (x : Str) (t1 : Tok) (ER RW : Addr) (ord : List Int) (fix : List (Addr × Obj)) (i : Nat) (m : Str → Option Value) (news : List (Addr × Obj)) : Prop :=
  ∃ es c os m', m = mW x t1 ER RW m' ∧ news = (ER, W.listOf (es : List Value).toArray c) :: (fix ++ os) ∧ es.length = i ∧ Errs w x ord os es ∧ (∀ p ∈ fix ++ os, p.1 ≠ ER) ∧ ∀ q ∈ os, ∀ p ∈ fix, q.1 ≠ p.1
end Mine

-- part W2c
open PySem PySem.W PyProof.Rows PySem.Calls
set_option Elab.async false
set_option maxRecDepth 100000
set_option maxHeartbeats 8000000
namespace Mine
theorem nlc_mono (cs : List Nat) {a : Nat} : ∀ {b : Nat}, a ≤ b → nlc cs a ≤ nlc cs b := by
  intro b h
  induction b with
  | zero => have : a = 0 := by lia
            subst this; exact Nat.le_refl _
  | succ b ih =>
    by_cases q : a ≤ b
    · have := ih q; rw [nlc_succ]; lia
    · have : a = b + 1 := by lia
      subst this; exact Nat.le_refl _
theorem colf_run (cs : List Nat) {a : Nat} : ∀ {b : Nat}, a ≤ b → nlc cs a = nlc cs b → colf cs b = colf cs a + (b - a) := by
  intro b h e
  induction b with
  | zero => have : a = 0 := by lia
            subst this; simp
  | succ b ih =>
    by_cases q : a ≤ b
    · have h1 := nlc_mono cs q
      have h2 := nlc_succ cs b
      have h3 : ¬ cs[b]? = some 10 := fun z => by rw [if_pos z] at h2; lia
      rw [if_neg h3] at h2
      have := ih q (by lia)
      have h4 : colf cs (b + 1) = colf cs b + 1 := by rw [colf]; rw [if_neg h3]
      lia
    · have : a = b + 1 := by lia
      subst this; simp
theorem lc_inj (x : Str) {a b : Int} (ha : 0 ≤ a) (ha' : a ≤ x.length) (hb : 0 ≤ b) (hb' : b ≤ x.length) (h1 : lnOf x a = lnOf x b) (h2 : cnOf x a = cnOf x b) : a = b := by
  rw [ln_in' x ha ha', ln_in' x hb hb'] at h1
  rw [cn_in' x ha ha', cn_in' x hb hb'] at h2
  rcases Nat.le_total a.toNat b.toNat with h | h
  · have := colf_run (lst x) h (by lia); lia
  · have := colf_run (lst x) h (by lia); lia
/-- one line of the grid -/
structure LD where
  line : Int
  adr : Addr
  obj : Obj
  kvs : List (Int × Value)
abbrev gkv (D : List LD) : List (Int × Value) := D.map fun d => (d.line, .ref d.adr)
abbrev inn (D : List LD) : List (Addr × Obj) := D.map fun d => (d.adr, d.obj)
abbrev IK (w : World) : KeyKind PySem.Challenge.rw_dm0193_02.row.prog w Int := intKind PySem.Challenge.rw_dm0193_02.row.prog w
structure GridOk (w : World) (x : Str) (P U : List Int) (D : List LD) : Prop where
  isd : ∀ d ∈ D, d.obj.IsDictOf (IK w) d.kvs
  lo : ∀ d ∈ D, (d.adr == sysModules) = false
  keys : ∀ d ∈ D, d.kvs.map (·.1) = (P.filter (fun q => decide (lnOf x q = d.line))).map (cnOf x)
  vals : ∀ d ∈ D, ∀ q ∈ P, lnOf x q = d.line → ∃ t, valueAt d.kvs (cnOf x q) = some (.str (sgn x q) t)
  lines : ∀ q ∈ P, ∃ d ∈ D, lnOf x q = d.line
  used : ∀ d ∈ D, ∃ q ∈ U, lnOf x q = d.line
  ndl : (D.map (·.line)).Nodup
section
variable {w : World} {x : Str} {P U : List Int} {D D1 D2 : List LD} {q : Int} {d : LD}
theorem GridOk.nil : GridOk w x [] [] [] where
  isd := by intro d hd; cases hd
  lo := by intro d hd; cases hd
  keys := by intro d hd; cases hd
  vals := by intro d hd; cases hd
  lines := by intro d hd; cases hd
  used := by intro d hd; cases hd
  ndl := List.nodup_nil
theorem GridOk.weak (H : GridOk w x P P D) : GridOk w x P (P ++ [q]) D :=
  { H with used := fun d hd => by obtain ⟨p, hp, e⟩ := H.used d hd; exact ⟨p, List.mem_append_left _ hp, e⟩ }
theorem GridOk.new {a : Addr} {o : Obj} (H : GridOk w x P P D) (ho : o.IsDictOf (IK w) []) (hlo : (a == sysModules) = false) (hn : ∀ d ∈ D, lnOf x q ≠ d.line) : GridOk w x P (P ++ [q]) (D ++ [⟨lnOf x q, a, o, []⟩]) where
  isd := fun d hd => by
    rcases List.mem_append.mp hd with h | h
    · exact H.isd d h
    · rw [List.mem_singleton.mp h]; exact ho
  lo := fun d hd => by
    rcases List.mem_append.mp hd with h | h
    · exact H.lo d h
    · rw [List.mem_singleton.mp h]; exact hlo
  keys := fun d hd => by
    rcases List.mem_append.mp hd with h | h
    · exact H.keys d h
    · rw [List.mem_singleton.mp h]
      have : P.filter (fun q' => decide (lnOf x q' = lnOf x q)) = [] := List.filter_eq_nil_iff.mpr fun p hp => by
        obtain ⟨d', hd', e⟩ := H.lines p hp
        have := hn d' hd'
        simp only [decide_eq_true_eq]
        rw [e]; exact fun z => this z.symm
      show [] = _
      simp only [this, List.map_nil]
  vals := fun d hd p hp e => by
    rcases List.mem_append.mp hd with h | h
    · exact H.vals d h p hp e
    · rw [List.mem_singleton.mp h] at e
      obtain ⟨d', hd', e'⟩ := H.lines p hp
      exact absurd (e.symm.trans e') (hn d' hd')
  lines := fun p hp => by
    obtain ⟨d', hd', e⟩ := H.lines p hp
    exact ⟨d', List.mem_append_left _ hd', e⟩
  used := fun d hd => by
    rcases List.mem_append.mp hd with h | h
    · obtain ⟨p, hp, e⟩ := H.used d h; exact ⟨p, List.mem_append_left _ hp, e⟩
    · rw [List.mem_singleton.mp h]; exact ⟨q, by simp, rfl⟩
  ndl := by
    rw [List.map_append]
    refine List.nodup_append.mpr ⟨H.ndl, by simp, fun a ha b hb => ?_⟩
    obtain ⟨d', hd', rfl⟩ := List.mem_map.mp ha
    simp only [List.map_cons, List.map_nil, List.mem_singleton] at hb
    rw [hb]; exact fun z => hn d' hd' z.symm
theorem nodup_len {α : Type} [DecidableEq α] : ∀ {l k : List α}, l.Nodup → (∀ a ∈ l, a ∈ k) → l.length ≤ k.length
  | [], _, _, _ => Nat.zero_le _
  | a :: l, k, h, hs => by
    have h1 := List.nodup_cons.mp h
    have hm : a ∈ k := hs a (.head _)
    have := nodup_len (l := l) (k := k.erase a) h1.2 fun b hb => (List.mem_erase_of_ne (fun e => h1.1 (by rw [← e]; exact hb))).mpr (hs b (.tail _ hb))
    rw [List.length_erase_of_mem hm] at this
    have hpos := List.length_pos_of_mem hm
    simp only [List.length_cons]
    lia
theorem GridOk.len (H : GridOk w x P U D) {n : Nat} (hU : U.length ≤ n) : D.length ≤ n := by
  have := nodup_len (l := D.map (·.line)) (k := U.map (lnOf x)) H.ndl fun a ha => by
    obtain ⟨d, hd, rfl⟩ := List.mem_map.mp ha
    obtain ⟨q, hq, e⟩ := H.used d hd
    exact List.mem_map.mpr ⟨q, hq, e⟩
  simp at this
  lia
theorem stored_new {kvs : List (Int × Value)} {k : Int} {v : Value} (h : k ∉ kvs.map (·.1)) : stored kvs k v = kvs ++ [(k, v)] := by
  unfold stored
  rw [if_neg]
  intro z
  obtain ⟨a, ha, e⟩ := List.any_eq_true.mp z
  exact h (List.mem_map.mpr ⟨a, ha, by simpa using e⟩)
theorem valueAt_app_old {kvs : List (Int × Value)} {k k' : Int} {v u : Value} (h : valueAt kvs k' = some u) : valueAt (kvs ++ [(k, v)]) k' = some u := by
  unfold valueAt at *
  rw [List.find?_append]
  cases q : kvs.find? (fun kv => kv.1 = k') with
  | none => rw [q] at h; cases h
  | some z => rw [q] at h; exact h
theorem valueAt_app_new {kvs : List (Int × Value)} {k : Int} {v : Value} (h : k ∉ kvs.map (·.1)) : valueAt (kvs ++ [(k, v)]) k = some v := by
  have := valueAt_none_of_not_mem h
  unfold valueAt at *
  rw [List.find?_append]
  cases q : kvs.find? (fun kv => kv.1 = k) with
  | none => simp
  | some z => rw [q] at this; cases this
theorem GridOk.put {o' : Obj} {t : Tok} (H : GridOk w x P (P ++ [q]) (D1 ++ d :: D2)) (hl : d.line = lnOf x q) (hk : cnOf x q ∉ d.kvs.map (·.1))
    (ho : o'.IsDictOf (IK w) (stored d.kvs (cnOf x q) (.str (sgn x q) t))) : GridOk w x (P ++ [q]) (P ++ [q]) (D1 ++ ⟨d.line, d.adr, o', stored d.kvs (cnOf x q) (.str (sgn x q) t)⟩ :: D2) := by
  have hmem : ∀ d', d' ∈ D1 ++ ⟨d.line, d.adr, o', stored d.kvs (cnOf x q) (.str (sgn x q) t)⟩ :: D2 → d' = ⟨d.line, d.adr, o', stored d.kvs (cnOf x q) (.str (sgn x q) t)⟩ ∨ (d' ∈ D1 ++ d :: D2 ∧ d'.line ≠ d.line) := fun d' hd' => by
    have hnd := H.ndl
    rw [List.map_append, List.map_cons] at hnd
    have h2 := List.nodup_append.mp hnd
    have h3 := List.nodup_cons.mp h2.2.1
    rcases List.mem_append.mp hd' with h | h
    · exact .inr ⟨List.mem_append_left _ h, fun e => h2.2.2 _ (List.mem_map.mpr ⟨d', h, e⟩) _ (.head _) rfl⟩
    · rcases List.mem_cons.mp h with h | h
      · exact .inl h
      · exact .inr ⟨List.mem_append_right _ (.tail _ h), fun e => h3.1 (List.mem_map.mpr ⟨d', h, e⟩)⟩
  have hd0 : d ∈ D1 ++ d :: D2 := List.mem_append_right _ (.head _)
  rw [stored_new hk] at ho hmem ⊢
  have hback : ∀ d' ∈ D1 ++ d :: D2, ∃ d'' ∈ D1 ++ ⟨d.line, d.adr, o', d.kvs ++ [(cnOf x q, .str (sgn x q) t)]⟩ :: D2, d'.line = d''.line := fun d' hd' => by
    rcases List.mem_append.mp hd' with h | h
    · exact ⟨d', List.mem_append_left _ h, rfl⟩
    · rcases List.mem_cons.mp h with h | h
      · exact ⟨_, List.mem_append_right _ (.head _), by rw [h]⟩
      · exact ⟨d', List.mem_append_right _ (.tail _ h), rfl⟩
  refine ⟨fun d' hd' => ?_, fun d' hd' => ?_, fun d' hd' => ?_, fun d' hd' p hp e => ?_, fun p hp => ?_, fun d' hd' => ?_, ?_⟩
  · rcases hmem d' hd' with rfl | ⟨h, _⟩
    · exact ho
    · exact H.isd d' h
  · rcases hmem d' hd' with rfl | ⟨h, _⟩
    · exact H.lo d hd0
    · exact H.lo d' h
  · rcases hmem d' hd' with rfl | ⟨h, hne⟩
    · simp only [List.map_append, List.map_cons, List.map_nil, List.filter_append]
      rw [H.keys d hd0, hl]
      simp
    · rw [H.keys d' h, List.filter_append]
      have : ¬ lnOf x q = d'.line := fun e => hne (by rw [hl, e])
      simp [this]
  · rcases hmem d' hd' with rfl | ⟨h, hne⟩
    · rcases List.mem_append.mp hp with hp | hp
      · obtain ⟨t', e'⟩ := H.vals d hd0 p hp e
        exact ⟨t', valueAt_app_old e'⟩
      · rw [List.mem_singleton.mp hp]
        exact ⟨t, valueAt_app_new hk⟩
    · rcases List.mem_append.mp hp with hp | hp
      · exact H.vals d' h p hp e
      · rw [List.mem_singleton.mp hp] at e
        exact absurd (by rw [hl, e]) hne
  · rcases List.mem_append.mp hp with hp | hp
    · obtain ⟨d', hd', e⟩ := H.lines p hp
      obtain ⟨d'', h'', e''⟩ := hback d' hd'
      exact ⟨d'', h'', e.trans e''⟩
    · rw [List.mem_singleton.mp hp]
      exact ⟨_, List.mem_append_right _ (.head _), hl.symm⟩
  · rcases hmem d' hd' with rfl | ⟨h, hne⟩
    · exact ⟨q, by simp, hl.symm⟩
    · exact H.used d' h
  · have := H.ndl
    rw [List.map_append, List.map_cons] at this ⊢
    exact this
/-- the column is not yet taken -/
theorem GridOk.free (H : GridOk w x P U D) (hd : d ∈ D) (hr : ∀ p ∈ P, 0 ≤ p ∧ p ≤ x.length) (h0 : 0 ≤ q) (h1 : q ≤ x.length) (hq : q ∉ P) (hl : d.line = lnOf x q) : cnOf x q ∉ d.kvs.map (·.1) := by
  rw [H.keys d hd]
  intro h
  obtain ⟨p, hp, e⟩ := List.mem_map.mp h
  obtain ⟨hp1, hp2⟩ := List.mem_filter.mp hp
  have h2 := hr p hp1
  have := lc_inj x h2.1 h2.2 h0 h1 ((of_decide_eq_true hp2).trans hl) e
  exact hq (this ▸ hp1)
/-- what the row holds -/
structure RowOk (x : Str) (P : List Int) (rv : List Value) : Prop where
  len : rv.length = x.length + 1
  put : ∀ k : Nat, k ≤ x.length → (k : Int) ∈ P → ∃ t, rv[k]? = some (.str (sgn x k) t)
  free : ∀ k : Nat, k ≤ x.length → (k : Int) ∉ P → rv[k]? = some .none
theorem RowOk.set {rv : List Value} {t : Tok} {k : Nat} (H : RowOk x P rv) (hk : k ≤ x.length) : RowOk x (P ++ [(k : Int)]) (rv.set k (.str (sgn x k) t)) where
  len := by rw [List.length_set]; exact H.len
  put := fun j hj hm => by
    have hlen := H.len
    by_cases e : j = k
    · subst e; exact ⟨t, List.getElem?_set_self (by lia)⟩
    · rw [List.getElem?_set_ne (by lia)]
      refine H.put j hj ?_
      rcases List.mem_append.mp hm with h | h
      · exact h
      · have := List.mem_singleton.mp h; lia
  free := fun j hj hm => by
    have e : j ≠ k := fun e => hm (by rw [e]; simp)
    rw [List.getElem?_set_ne (by lia)]
    exact H.free j hj fun h => hm (List.mem_append_left _ h)
end
end Mine

-- part W2d
open PySem PySem.W PyProof.Rows PySem.Calls PySem.Builtin PySem.Builtin.Str
set_option Elab.async false
set_option maxRecDepth 100000
set_option maxHeartbeats 8000000
namespace Mine
section
variable {w : World} {A : Around} {s : Shared} {Q E : Value → Shared → Prop} {p : Program} {loose : List Str} {mg mb : Str → Option Value} {h₀ : Heap} {L : Addr} {m : Str → Option Value} {news : List (Addr × Obj)}
theorem c_readN {msg : Str} {l c pl : Int} {t : Tok} (F : Fr h₀ L s.heap m) (N : News h₀ L s.heap news) (X : (hd.heap_39 w.params).In h₀) (T : TopRead p loose mg mb h₀) (hroom : A.depth + 5 < recursionLimit) (hh : A.handled = none) (hm : msg.length ≤ 1)
    (hl0 : 0 ≤ l) (hl1 : l < 10 ^ 10) (hc0 : 0 ≤ c) (hc1 : c < 10 ^ 10) (hp0 : 0 ≤ pl) (hp1 : pl < 10 ^ 10)
    (h : ∀ a h' tk t1 t2 t3 t4, Fr h₀ L h' m → News h₀ L h' ((a, ({ cls := .type "tuple", data := .seq #[.str msg t1, .int l t2, .int c t3, .int pl t4] } : Obj)) :: news) → (∀ q ∈ news, q.1 ≠ a) → Q (.ref a) { s with heap := h', toks := tk }) :
    wpAny (model PySem.Challenge.rw_dm0193_02.row.prog w) A (call (.ref 62) [.str (wordsOf msg l c pl) t]) Q E s :=
  c_read (X.keeps F.keep) (T.keeps F.keep) hroom hh hm hl0 hl1 hc0 hc1 hp0 hp1 fun a h' tk t1 t2 t3 t4 hk hf hg => by
    have ha : a ≠ L ∧ h₀.get? a = none := by
      obtain ⟨oL, esL, epL, hLg, rL⟩ := F.ns
      refine ⟨fun q => (by rw [q, hLg] at hf; cases hf), ?_⟩
      cases q : h₀.get? a with
      | none => rfl
      | some o => have := F.keep _ _ q; rw [hf] at this; cases this
    refine h a h' tk t1 t2 t3 t4 (F.keeps hk) (fun q hq => ?_) (fun q hq e => ?_)
    · rcases List.mem_cons.mp hq with rfl | hq
      · exact ⟨hg, ha⟩
      · exact ⟨hk _ _ (N q hq).1, (N q hq).2⟩
    · have := (N q hq).1; rw [e, hf] at this; cases this
end
/-- `!=` of two tuples that read alike -/
theorem ne_tup4 {prog : Program} {w : World} {A : Around} {s : Shared} {Q E : Value → Shared → Prop} {h₀ : Heap} {L a b : Addr} {x : Str} {i j k : Int} {t1 t2 t3 t4 u1 u2 u3 u4 : Tok} {news : List (Addr × Obj)} (N : News h₀ L s.heap news)
    (ha : (a, ({ cls := .type "tuple", data := .seq #[.str x t1, .int i t2, .int j t3, .int k t4] } : Obj)) ∈ news) (hb : (b, ({ cls := .type "tuple", data := .seq #[.str x u1, .int i u2, .int j u3, .int k u4] } : Obj)) ∈ news) (hu : A.units + 64 < cLine)
    (hx : PyData.strOk x = true) (h : Q (.bool false) s) : wpAny (model prog w) A (compareOp .NotEq (.ref a) (.ref b)) Q E s := by
  refine ne_dataH (reads_tuple_at (N.get ha) rfl rfl (ReadsAll.cons (Reads.str _ _) (ReadsAll.cons (Reads.int _ _) (ReadsAll.cons (Reads.int _ _) (ReadsAll.cons (Reads.int _ _) ReadsAll.nil))))) (reads_tuple_at (N.get hb) rfl rfl (ReadsAll.cons (Reads.str _ _) (ReadsAll.cons (Reads.int _ _) (ReadsAll.cons (Reads.int _ _) (ReadsAll.cons (Reads.int _ _) ReadsAll.nil))))) (by simp [SeqAt.shaped, PyData.canLay0, PyData.canLayAll0, PyData.depth, PyData.depthAll, hx]) (by simp [SeqAt.shaped, PyData.canLay0, PyData.canLayAll0, PyData.depth, PyData.depthAll, hx]) hu ?_
  have : (!PyData.eqv (.tuple [.str x, .int i, .int j, .int k]) (.tuple [.str x, .int i, .int j, .int k])) = false := by
    simp [PyData.eqv, PyData.eqvAll]
  rw [this]; exact h
theorem idx_hi {j : Int} {l : Option Int} {n : Nat} (h : (n : Int) ≤ j) : strSliceIndices l (some j) 1 n = strSliceIndices l (some (n : Int)) 1 n := by
  have a : ¬ (j < 0) := by lia
  have b : ¬ ((n : Int) < 0) := by lia
  have c : min j (n : Int) = n := by lia
  have d : min (n : Int) (n : Int) = n := by lia
  have e : (1 : Int) > 0 := by decide
  simp only [strSliceIndices, if_neg a, if_neg b, c, d, if_pos e]
theorem slice_hi {x : Str} {j : Int} {l : Option Int} (h : (x.length : Int) ≤ j) : Txt.slice x l (some j) = Txt.slice x l (some (x.length : Int)) := by
  unfold Txt.slice; rw [idx_hi h]
theorem lst_sgn {x : Str} {q : Int} (h0 : 0 ≤ q) (h1 : q ≤ x.length) : lst (sgn x q) = ((lst x).drop q.toNat).take 1 := by
  unfold sgn
  by_cases h : q + 1 ≤ x.length
  · rw [slice_in h0 (by lia) h]
    congr 1
    lia
  · rw [slice_hi (by lia), slice_in h0 h1 (by lia)]
    have e : q.toNat = x.length := by lia
    rw [e, List.drop_of_length_le (by rw [lst_len]; exact Nat.le_refl _)]
    simp
theorem ok_iff {x : Str} : PyData.strOk x = true ↔ ∀ c ∈ lst x, c < 0x110000 := by
  unfold PyData.strOk lst
  rw [← Array.all_toList, List.all_eq_true]
  simp
theorem ok_sgn {x : Str} {q : Int} (h0 : 0 ≤ q) (h1 : q ≤ x.length) (h : PyData.strOk x = true) : PyData.strOk (sgn x q) = true := by
  rw [ok_iff] at h ⊢
  rw [lst_sgn h0 h1]
  exact fun c hc => h c (List.mem_of_mem_drop (List.mem_of_mem_take hc))
theorem sgn_len {x : Str} {q : Int} (h0 : 0 ≤ q) (h1 : q ≤ x.length) : (sgn x q).length ≤ 1 := by
  rw [← lst_len, lst_sgn h0 h1, List.length_take]
  lia
theorem upd_off {l pre post T : List (Addr × Obj)} {a : Addr} {o : Obj} (hnd : (l.map (·.1)).Nodup) (e : l = pre ++ (a, o) :: post) (hT : ∀ p ∈ T, p.1 ∉ l.map (·.1)) : ∀ p ∈ pre ++ (post ++ T), p.1 ≠ a := by
  subst e
  rw [List.map_append, List.map_cons] at hnd hT
  have h2 := List.nodup_append.mp hnd
  have h3 := List.nodup_cons.mp h2.2.1
  intro p hp
  rcases List.mem_append.mp hp with h | h
  · exact h2.2.2 _ (List.mem_map.mpr ⟨p, h, rfl⟩) _ (.head _)
  · rcases List.mem_append.mp h with h | h
    · exact fun q => h3.1 (List.mem_map.mpr ⟨p, h, q⟩)
    · exact fun q => hT p h (List.mem_append_right _ (q ▸ .head _))
/-- the front of the ledger in the loops over the errors and the lines -/
abbrev frt (G RW L : Addr) (oG o1 oc : Obj) (rv : List Value) (cr : Nat) (D : List LD) : List (Addr × Obj) :=
  (G, oG) :: (RW, W.listOf rv.toArray cr) :: (L + 1 + 1, o1) :: (L + 1, oc) :: inn D
theorem frt_adr {G RW L : Addr} {oG o1 oc : Obj} {rv : List Value} {cr : Nat} {D : List LD} : (frt G RW L oG o1 oc rv cr D).map (·.1) = G :: RW :: (L + 1 + 1) :: (L + 1) :: D.map (·.adr) := by
  simp [frt, inn, Function.comp_def]
section
variable {prog : Program} {w : World} {A : Around} {E : Value → Shared → Prop} {s : Shared} {h₀ : Heap} {L D : Addr} {m : Str → Option Value} {news rest : List (Addr × Obj)} {vs : List Value} {k : Int} {u : Tok} {v : Value} {n : Nat}
theorem item_anyN {Q : Value → Shared → Prop} {value slice : Expr} (N : News h₀ L s.heap news) (hm : (D, W.listOf vs.toArray n) ∈ news) (hj : vs[k.toNat]? = some v) (h0 : 0 ≤ k) (hz : k ≤ 1000000) (h : Q v s)
    (hs : subscripted slice false (.ref D) (.int k u) = operate [.ref D, .int k u] (getItem (.ref D) (.int k u)) := by with_unfolding_all rfl) (hg : ∀ r, letTemporaryGo value (.ref D) r = pure () := by intro _; with_unfolding_all rfl) :
    wpAny (model prog w) A (subscriptTail value slice (.ref D) (.int k u)) Q E s :=
  item_listL (l := vs) ⟨_, (N _ hm).1, rfl, n, rfl⟩ (by lia) (by lia) hj h hs hg
theorem set_itemN {Q : Unit → Shared → Prop} (F : Fr h₀ L s.heap m) (N : News h₀ L s.heap ((D, W.listOf vs.toArray n) :: rest)) (hr : ∀ p ∈ rest, p.1 ≠ D) (h0 : 0 ≤ k) (h1 : k < vs.length) (hz : k ≤ 1000000)
    (h : ∀ h', Fr h₀ L h' m → News h₀ L h' ((D, W.listOf (vs.set k.toNat v).toArray n) :: rest) → Q () { s with heap := h' }) :
    wpAny (model prog w) A (setItem (.ref D) (.int k u) v) Q E s := by
  have z := N _ (.head _)
  refine ki_setAt z.1 h0 (by lia) (by simpa using h1) (h _ (F.change (Heap.SameBut.update ..) z.2.1 z.2.2) (ki_turn (pre := []) _ N (fun p hp => nomatch hp) hr ?_ ?_))
  · show vs.toArray.setIfInBounds k.toNat v = (vs.set k.toNat v).toArray
    apply Array.toList_inj.mp
    simp
  · simp
end
theorem inn_mem {D : List LD} {d : LD} (h : d ∈ D) : (d.adr, d.obj) ∈ inn D := List.mem_map.mpr ⟨d, h, rfl⟩
theorem val_gkv {D : List LD} (hnd : (D.map (·.line)).Nodup) {d : LD} (h : d ∈ D) : valueAt (gkv D) d.line = some (.ref d.adr) := by
  obtain ⟨i, hi, e⟩ := List.mem_iff_getElem.mp h
  refine valueAt_of_get (i := i) ?_ ?_
  · simpa [gkv, Function.comp_def] using hnd
  · simp [gkv, hi, e]
theorem val_none {D : List LD} {l : Int} (h : ∀ d ∈ D, l ≠ d.line) : valueAt (gkv D) l = none := by
  refine valueAt_none_of_not_mem fun hm => ?_
  simp only [gkv, List.map_map, List.mem_map, Function.comp] at hm
  obtain ⟨d, hd, e⟩ := hm
  exact h d hd e.symm
theorem val_free {kvs : List (Int × Value)} {k : Int} (h : k ∉ kvs.map (·.1)) : (valueAt kvs k).isSome = false := by rw [valueAt_none_of_not_mem h]; rfl
theorem gkv_len (D : List LD) : (gkv D).length = D.length := by simp [gkv]
/-- the locals in the second loop, behind the unpacking -/
def mQ (x : Str) (t1 : Tok) (ER RW : Addr) (sg : Str) (ts : Tok) (c : Int) (tc : Tok) (q : Int) (tq : Tok) (m' : Str → Option Value) : Str → Option Value :=
  fun y => if y = Str.ofString "sign" then some (.str sg ts) else if y = Str.ofString "column" then some (.int c tc) else if y = Str.ofString "place" then some (.int q tq) else
    if y = Str.ofString "text" then some (.str x t1) else if y = Str.ofString "errors" then some (.ref ER) else if y = Str.ofString "row" then some (.ref RW) else m' y
theorem m_putQ {x : Str} {t1 : Tok} {ER RW : Addr} {sg : Str} {ts : Tok} {c : Int} {tc : Tok} {q : Int} {tq : Tok} {m : Str → Option Value} (h1 : m (Str.ofString "sign") = some (.str sg ts)) (h2 : m (Str.ofString "column") = some (.int c tc)) (h3 : m (Str.ofString "place") = some (.int q tq))
    (h4 : m (Str.ofString "text") = some (.str x t1)) (h5 : m (Str.ofString "errors") = some (.ref ER)) (h6 : m (Str.ofString "row") = some (.ref RW)) : m = mQ x t1 ER RW sg ts c tc q tq m := by
  unfold mQ
  funext z
  by_cases q1 : z = Str.ofString "sign"
  · rw [if_pos q1, q1, h1]
  by_cases q2 : z = Str.ofString "column"
  · rw [if_neg q1, if_pos q2, q2, h2]
  by_cases q3 : z = Str.ofString "place"
  · rw [if_neg q1, if_neg q2, if_pos q3, q3, h3]
  by_cases q4 : z = Str.ofString "text"
  · rw [if_neg q1, if_neg q2, if_neg q3, if_pos q4, q4, h4]
  by_cases q5 : z = Str.ofString "errors"
  · rw [if_neg q1, if_neg q2, if_neg q3, if_neg q4, if_pos q5, q5, h5]
  by_cases q6 : z = Str.ofString "row"
  · rw [if_neg q1, if_neg q2, if_neg q3, if_neg q4, if_neg q5, if_pos q6, q6, h6]
  rw [if_neg q1, if_neg q2, if_neg q3, if_neg q4, if_neg q5, if_neg q6]
theorem fr_putQ {h₀ h : Heap} {L : Addr} {x : Str} {t1 : Tok} {ER RW : Addr} {sg : Str} {ts : Tok} {c : Int} {tc : Tok} {q : Int} {tq : Tok} {m : Str → Option Value} (F : Fr h₀ L h m) (h1 : m (Str.ofString "sign") = some (.str sg ts)) (h2 : m (Str.ofString "column") = some (.int c tc)) (h3 : m (Str.ofString "place") = some (.int q tq))
    (h4 : m (Str.ofString "text") = some (.str x t1)) (h5 : m (Str.ofString "errors") = some (.ref ER)) (h6 : m (Str.ofString "row") = some (.ref RW)) : ∃ mm, Fr h₀ L h (mQ x t1 ER RW sg ts c tc q tq mm) := ⟨m, m_putQ h1 h2 h3 h4 h5 h6 ▸ F⟩
theorem nsub {h₀ h : Heap} {L : Addr} {l l' : List (Addr × Obj)} (N : News h₀ L h l) (hs : ∀ p ∈ l', p ∈ l) : News h₀ L h l' := fun p hp => N p (hs p hp)
theorem newsSwap {h₀ h : Heap} {L : Addr} {p q : Addr × Obj} {rest : List (Addr × Obj)} (N : News h₀ L h (p :: q :: rest)) : News h₀ L h (q :: p :: rest) := fun z hz => N z (by
  rcases List.mem_cons.mp hz with h | hz
  · rw [h]; exact .tail _ (.head _)
  · rcases List.mem_cons.mp hz with h | hz
    · rw [h]; exact .head _
    · exact .tail _ (.tail _ hz))
theorem lt_all {d : Addr} : ∀ (l : List (Addr × Obj)), AllLt d l → ∀ p ∈ l, p.1 < d := by
  intro l
  induction l with
  | nil => intro _ p hp; cases hp
  | cons a r ih =>
    intro h p hp
    rcases List.mem_cons.mp hp with e | hp
    · rw [e]; exact h.1
    · exact ih h.2 p hp
theorem nodup_snoc {α : Type} {l : List α} {a : α} (h : l.Nodup) (ha : a ∉ l) : (l ++ [a]).Nodup :=
  List.nodup_append.mpr ⟨h, by simp, fun x hx y hy e => ha (by rw [List.mem_singleton.mp hy] at e; exact e ▸ hx)⟩
theorem GridOk.kvl {w : World} {x : Str} {P U : List Int} {D : List LD} {d : LD} (H : GridOk w x P U D) (hd : d ∈ D) : d.kvs.length ≤ P.length := by
  have := congrArg List.length (H.keys d hd)
  simp only [List.length_map] at this
  rw [this]
  exact List.length_filter_le _ _
/-- behind `if line not in grid` -/
def Mid2 (w : World) (x : Str) (L RW G : Addr) (P : List Int) (q : Int) (oc o11 : Obj) (rv : List Value) (cr : Nat) (T : List (Addr × Obj)) (h₀ : Heap) (mq : Str → Option Value) (s : Shared) (fl : Flow) (s' : Shared) : Prop :=
  fl = Flow.next ∧ ∃ D' oG'' h' tk, s' = { s with heap := h', toks := tk } ∧ Fr h₀ L h' mq ∧ News h₀ L h' ((G, oG'') :: (RW, W.listOf rv.toArray cr) :: (L + 1 + 1, o11) :: (L + 1, oc) :: (inn D' ++ T)) ∧
    oG''.IsDictOf (IK w) (gkv D') ∧ GridOk w x P (P ++ [q]) D' ∧ (∃ d ∈ D', d.line = lnOf x q) ∧ D'.length ≤ 92 ∧ (G :: RW :: (L + 1 + 1) :: (L + 1) :: D'.map (·.adr)).Nodup ∧ ∀ p ∈ T, p.1 ∉ G :: RW :: (L + 1 + 1) :: (L + 1) :: D'.map (·.adr)
/-- the ledger of the second loop -/
def GrJ (w : World) (x : Str) (t1 : Tok) (L ER RW G : Addr) (ord : List Int) (oc : Obj) (os : List (Addr × Obj)) (i : Nat) (m : Str → Option Value) (news : List (Addr × Obj)) : Prop :=
  ∃ D oG o1 v1 rv c m', m = mW x t1 ER RW m' ∧ news = (G, oG) :: (RW, W.listOf (rv : List Value).toArray c) :: (L + 1 + 1, o1) :: (L + 1, oc) :: (inn D ++ os) ∧
    oG.IsDictOf (IK w) (gkv D) ∧ o1.data = .cell v1 ∧ GridOk w x (ord.take i) (ord.take i) D ∧ RowOk x (ord.take i) rv ∧
    (G :: RW :: (L + 1 + 1) :: (L + 1) :: D.map (·.adr)).Nodup ∧ ∀ p ∈ os, p.1 ∉ G :: RW :: (L + 1 + 1) :: (L + 1) :: D.map (·.adr)
end Mine

-- part S2b
open PySem PySem.W PyProof.Rows PySem.Calls
set_option Elab.async false
set_option maxRecDepth 100000
set_option maxHeartbeats 8000000
set_option rowWalk.seconds 0
namespace Mine
theorem getD_ok {l : List Str} {i : Nat} {d : Str} (h : ∀ x ∈ l, PyData.strOk x = true) (hd : PyData.strOk d = true) : PyData.strOk (l.getD i d) = true := by
  rw [List.getD_eq_getElem?_getD]
  cases q : l[i]? with
  | none => exact hd
  | some x => exact h x (List.mem_of_getElem? q)
theorem ok_append {x y : Str} (hx : PyData.strOk x = true) (hy : PyData.strOk y = true) : PyData.strOk (x ++ y) = true := by
  rw [ok_iff] at *
  rw [lst_append]
  exact fun c hc => (List.mem_append.mp hc).elim (hx c) (hy c)
theorem ok_one {c : Nat} (h : c < 0x110000) : PyData.strOk (Str.mk #[c]) = true := by
  rw [ok_iff]
  intro d hd
  have : d = c := by simpa [lst] using hd
  lia
theorem ok_sliceTo {x : Str} {j : Int} (h : PyData.strOk x = true) (h0 : 0 ≤ j) (h1 : j ≤ x.length) : PyData.strOk (Txt.slice x none (some j)) = true := by
  rw [ok_iff] at h ⊢
  rw [slice_to h0 h1]
  exact fun c hc => h c (List.mem_of_mem_take hc)
theorem chr_ok (k : Int) : (k.fmod 55296).toNat < 0x110000 := by
  have := Int.fmod_lt_of_pos k (show (0 : Int) < 55296 by decide)
  lia
theorem c_sgn {w : World} {A : Around} {s : Shared} {Q E : Value → Shared → Prop} {p : Program} {loose : List Str} {mg mb : Str → Option Value} {n : Int} {t : Tok}
    (X : (hd.heap_39 w.params).In s.heap) (T : TopRead p loose mg mb s.heap) (hroom : A.depth + 1 < recursionLimit)
    (h : ∀ x h' tk t', x.length ≤ 1 → PyData.strOk x = true → Keeps s.heap h' → Q (.str x t') { s with heap := h', toks := tk }) :
    wpAny (model PySem.Challenge.rw_dm0193_02.row.prog w) A (call (.ref 48) [.int n t]) Q E s := by
  k_with_none
  revert X; k_fill; intro X
  refine enterK (binds := [("n", .int n t)]) X T (by rfl) (by rfl) (by lia) (BindsTo.of_eq rfl) (locs rfl) ?_
  intro L h₁ F N
  w_strict (k_steps)
  refine h _ _ _ _ (getD_len (by decide) (by decide)) (getD_ok (by decide +kernel) (by decide +kernel)) (Fr.keep (by assumption))

theorem c_signM {w : World} {A : Around} {s : Shared} {Q E : Value → Shared → Prop} {p : Program} {loose : List Str} {mg mb : Str → Option Value} {n : Int} {t : Tok} {h₀ : Heap} {L : Addr} {m : Str → Option Value} {news : List (Addr × Obj)}
    (F : Fr h₀ L s.heap m) (N : News h₀ L s.heap news) (X : (hd.heap_39 w.params).In h₀) (T : TopRead p loose mg mb h₀) (hroom : A.depth + 1 < recursionLimit)
    (h : ∀ x h' tk t', x.length ≤ 1 → PyData.strOk x = true → Fr h₀ L h' m → News h₀ L h' news → Q (.str x t') { s with heap := h', toks := tk }) :
    wpAny (model PySem.Challenge.rw_dm0193_02.row.prog w) A (call (.ref 48) [.int n t]) Q E s :=
  c_sgn (X.keeps F.keep) (T.keeps F.keep) hroom fun x h' tk t' hx ho hk => h x h' tk t' hx ho (F.keeps hk) (N.grown hk)

section
def TextK (l : Addr) (i : Nat) (m : Str → Option Value) (news : List (Addr × Obj)) : Prop :=
  ∃ (txt : Str) (t : Tok) (u : Option Value), m = (fun z => if z = Str.ofString "text" then some (.str txt t) else if z = Str.ofString "n" then u else List.lookup z [(Str.ofString "script", Value.ref l)].reverse) ∧ txt.length ≤ i ∧ PyData.strOk txt = true ∧ news = []
theorem c_txt {w : World} {A : Around} {s : Shared} {Q E : Value → Shared → Prop} {p : Program} {loose : List Str} {mg mb : Str → Option Value} {l : Addr} {vs : List Value} {ns : List Int}
    (X : (hd.heap_39 w.params).In s.heap) (T : TopRead p loose mg mb s.heap) (hroom : A.depth + 5 < recursionLimit) (hh : A.handled = none)
    (hl : s.heap.IsList l vs.toArray) (hi : IntsAre vs ns) (hn : ns.length ≤ 63)
    (h : ∀ x h' tk t', x.length ≤ 90 → PyData.strOk x = true → Keeps s.heap h' → Q (.str x t') { s with heap := h', toks := tk }) :
    wpAny (model PySem.Challenge.rw_dm0193_02.row.prog w) A (call (.ref 55) [.ref l]) Q E s := by
  k_with_none
  k_with "inplaceOp Add str str" => (refine PyProof.Rows.iadd_str ?_ (by rw [sizeLine_eq]; (try rw [len_one]); lia); intro _ _)
  k_with "pyIter ref" => fail "mine"
  k_with "exec For Name BinOp cons nil" => ((with_reducible rename Fr _ _ _ _ => lF'); (with_unfolding_all refine' For_invVF lF' ?k1 ?k2 ?_; (case k1 => exact rfl); (case k2 => exact rfl)))
  k_with "call ref" => (refine c_signM (by assumption) (by assumption) (by assumption) (by assumption) (by simp only [depth_deeper]; lia) ?_; intro _ _ _ _ _ _ _ _)
  revert X; k_fill; intro X
  refine enterK (binds := [("script", .ref l)]) X T (by rfl) (by rfl) (by lia) (BindsTo.of_eq rfl) (locs rfl) ?_
  intro L h₁ F N
  w_strict (k_steps)
  rename IntsAre _ (ns ++ _) => hI
  (rename Fr _ _ _ _ => F1); (rename News _ _ _ _ => N1)
  refine iter_L (J := TextK l)
    hh (News.isList N1 (by k_mem)) (N1 _ (.head _)).2.1 F1 News.nil ?_ [] (fun _ h => nomatch h) ?_ ?_
  · exact ⟨Str.ofString "", tk, none, by funext z; repeat' split
                                         all_goals simp_all (config := { decide := true }), by decide, by decide +kernel, rfl⟩
  · rintro i v m₁ news₁ h2 tk own hv ⟨txt, t, u, rfl, hlen, hto, rfl⟩ hoff hL F2 N2
    obtain ⟨k, tv, rfl⟩ : ∃ k tv, v = .int k tv := by
      have hlt : i < (ns ++ [4, 0, 0, 13, 16359]).length := by
        rw [← hI.length]; exact (List.getElem?_eq_some_iff.mp hv).1
      obtain ⟨t, hx⟩ := hI.get i _ (List.getElem?_eq_getElem hlt)
      rw [hv] at hx
      exact ⟨_, t, Option.some.inj hx⟩
    have hlt : i < 68 := by
      have h1 := (List.getElem?_eq_some_iff.mp hv).1
      rw [hI.length] at h1; simp at h1; lia
    dsimp only at F2
    w_strict (k_steps)
    all_goals
      (rename Fr _ _ _ _ => F3); (rename News _ _ _ _ => N3)
      refine ⟨_, _, _, [], rfl, F3, N3, (fun p hp => nomatch hp), _, _, _, m2, ?_, ?_, rfl⟩
      · rw [Str.length_append]; (try rw [len_one]); lia
      · first | exact ok_append hto (by with_reducible assumption) | exact ok_append hto (ok_one (chr_ok _))
  · rintro m₁ news₁ h2 tk ⟨txt, t, u, rfl, hlen, hto, rfl⟩ F2 N2
    have hlt : txt.length ≤ 68 := by
      rw [hI.length] at hlen; simp at hlen; lia
    show wpAny _ _ _ _ _ _
    w_strict (k_steps)
    have hs := Txt.slice_le (Str.ofString "line 3 column") none (some ((ns.length : Int).fmod 13))
    rw [show (Str.ofString "line 3 column").length = 13 from by decide] at hs
    refine PyProof.Rows.add_str ?_ (by rw [sizeLine_eq]; lia)
    intro t' tk'
    exact h _ _ _ _ (by rw [Str.length_append]; lia) (ok_append hto (ok_sliceTo (by decide +kernel) (Int.fmod_nonneg_of_pos _ (by decide)) (by have := Int.fmod_lt_of_pos (ns.length : Int) (show (0 : Int) < 13 by decide); rw [show (Str.ofString "line 3 column").length = 13 from by decide]; lia))) (Fr.keep (by assumption))
end
end Mine

-- part W3a
open PySem PySem.W PyProof.Rows PySem.Calls PySem.Builtin PySem.Builtin.Str
set_option Elab.async false
set_option maxRecDepth 100000
set_option maxHeartbeats 8000000
namespace Mine
section
variable {w : World} {A : Around} {s : Shared} {Q E : Value → Shared → Prop} {h₀ : Heap} {L d : Addr} {m : Str → Option Value} {news : List (Addr × Obj)} {D : List LD} {o : Obj} {kvs : List (Int × Value)}
theorem len_grid {prog : Program} (N : News h₀ L s.heap news) (hp : (d, o) ∈ news) (hd : o.IsDictOf (intKind prog w) (gkv D)) (lo : (d == sysModules) = false) (hfit : D.length ≤ 1000) (h : Q (.int D.length (s.toks + 1)) { s with toks := s.toks + 1 + 1 }) :
    wpAny (model prog w) A (call (.builtin "len") [.ref d]) Q E s := kda_len N hp hd lo (by rw [gkv_len]; lia) (by rw [gkv_len]; exact h)
theorem len_line {prog : Program} {n : Nat} (N : News h₀ L s.heap news) (hp : (d, o) ∈ news) (hd : o.IsDictOf (intKind prog w) kvs) (lo : (d == sysModules) = false) (e : kvs.length = n) (hfit : n ≤ 1000) (h : Q (.int n (s.toks + 1)) { s with toks := s.toks + 1 + 1 }) :
    wpAny (model prog w) A (call (.builtin "len") [.ref d]) Q E s := kda_len N hp hd lo (by lia) (by rw [e]; exact h)
end
/-- the lines of a text, as runs of places -/
theorem runs (cs : List Nat) : ∀ N l : Nat, l ≤ nlc cs N → ∃ b e, b < e ∧ e ≤ N + 1 ∧ (∀ k, k ≤ N → (nlc cs k = l ↔ b ≤ k ∧ k < e)) ∧ (∀ k, b ≤ k → k < e → colf cs k = k - b + 1) ∧ (∀ k, b ≤ k → k + 1 < e → cs[k]? ≠ some 10) ∧
    (l < nlc cs N → cs[e - 1]? = some 10) ∧ (l = nlc cs N → e = N + 1) := by
  intro N
  induction N with
  | zero =>
    intro l hl
    have h0 : nlc cs 0 = 0 := by simp [nlc]
    have c0 : colf cs 0 = 1 := rfl
    refine ⟨0, 1, by lia, by lia, fun k hk => ?_, fun k h1 h2 => ?_, fun k h1 h2 => by lia, fun h => by lia, fun _ => rfl⟩
    · have : k = 0 := by lia
      subst this; lia
    · have : k = 0 := by lia
      subst this; lia
  | succ N ih =>
    intro l hl
    have hs := nlc_succ cs N
    by_cases hc : cs[N]? = some 10
    · rw [if_pos hc] at hs
      have hcol : colf cs (N + 1) = 1 := by rw [colf]; rw [if_pos hc]
      by_cases hl2 : l = nlc cs (N + 1)
      · refine ⟨N + 1, N + 2, by lia, by lia, fun k hk => ?_, fun k h1 h2 => ?_, fun k h1 h2 => by lia, fun h => by lia, fun _ => rfl⟩
        · constructor
          · intro e
            refine ⟨Nat.le_of_not_lt fun hlt => ?_, by lia⟩
            have := nlc_mono cs (show k ≤ N by lia)
            lia
          · intro h
            have : k = N + 1 := by lia
            subst this; exact hl2.symm
        · have : k = N + 1 := by lia
          subst this; lia
      · obtain ⟨b, e, h1, h2, h3, h4, h5, h6, h7⟩ := ih l (by lia)
        refine ⟨b, e, h1, by lia, fun k hk => ?_, h4, h5, fun _ => ?_, fun h => absurd h hl2⟩
        · by_cases hkN : k ≤ N
          · exact h3 k hkN
          · have : k = N + 1 := by lia
            subst this
            constructor
            · intro h; exact absurd h.symm hl2
            · intro h; lia
        · by_cases hl3 : l < nlc cs N
          · exact h6 hl3
          · have := h7 (by lia)
            rw [this]; exact hc
    · rw [if_neg hc] at hs
      have hcol : colf cs (N + 1) = colf cs N + 1 := by rw [colf]; rw [if_neg hc]
      obtain ⟨b, e, h1, h2, h3, h4, h5, h6, h7⟩ := ih l (by lia)
      by_cases hl2 : l = nlc cs N
      · have he := h7 hl2
        refine ⟨b, N + 2, by lia, by lia, fun k hk => ?_, fun k k1 k2 => ?_, fun k k1 k2 => ?_, fun h => by lia, fun _ => rfl⟩
        · by_cases hkN : k ≤ N
          · have := h3 k hkN; lia
          · have : k = N + 1 := by lia
            subst this
            have := h3 N (Nat.le_refl _)
            constructor
            · intro _; lia
            · intro _; lia
        · by_cases hkN : k ≤ N
          · exact h4 k k1 (by lia)
          · have : k = N + 1 := by lia
            subst this
            have := h4 N (by lia) (by lia)
            lia
        · by_cases hkN : k + 1 ≤ N
          · exact h5 k k1 (by lia)
          · have : k = N := by lia
            subst this; exact hc
      · refine ⟨b, e, h1, by lia, fun k hk => ?_, h4, h5, fun h => h6 (by lia), fun h => by lia⟩
        by_cases hkN : k ≤ N
        · exact h3 k hkN
        · have : k = N + 1 := by lia
          subst this
          constructor
          · intro h; lia
          · intro h; lia
end Mine

-- part W3b
open PySem PySem.W PyProof.Rows PySem.Calls PySem.Builtin PySem.Builtin.Str
set_option Elab.async false
set_option maxRecDepth 100000
set_option maxHeartbeats 8000000
namespace Mine
theorem ri_mem {n : Nat} {a : Int} : a ∈ rangeInts 1 1 n ↔ 1 ≤ a ∧ a ≤ n := by
  unfold rangeInts
  simp only [List.mem_map, List.mem_range]
  constructor
  · rintro ⟨k, hk, rfl⟩; lia
  · rintro ⟨h1, h2⟩; exact ⟨(a - 1).toNat, by lia, by lia⟩
theorem ri_sorted (n : Nat) : (rangeInts 1 1 n).Pairwise (· < ·) := by
  unfold rangeInts
  refine List.Pairwise.map _ (R := fun a b : Nat => a < b) (fun a b h => by lia) ?_
  exact List.pairwise_lt_range
theorem ri_nodup (n : Nat) : (rangeInts 1 1 n).Nodup := (ri_sorted n).imp fun h => Int.ne_of_lt h
/-- a sorted list that holds the same is the same -/
theorem sorted_same {l k : List Int} (p : l.Perm k) (h1 : l.Pairwise (· ≤ ·)) (h2 : k.Pairwise (· < ·)) : l = k :=
  p.eq_of_pairwise (fun a b _ _ x y => Int.le_antisymm x y) h1 (h2.imp fun h => Int.le_of_lt h)
section
variable {w : World} {x : Str} {ord : List Int} {D : List LD}
theorem ord_mem (hord : ord.Perm ((List.range (x.length + 1)).map Int.ofNat)) {q : Int} : q ∈ ord ↔ 0 ≤ q ∧ q ≤ x.length := by
  rw [hord.mem_iff, List.mem_map]
  constructor
  · rintro ⟨k, hk, rfl⟩
    have := List.mem_range.mp hk
    constructor
    · exact Int.natCast_nonneg k
    · show (k : Int) ≤ _; lia
  · rintro ⟨h1, h2⟩
    exact ⟨q.toNat, List.mem_range.mpr (by lia), by show (q.toNat : Int) = q; lia⟩
/-- all lines stand in the grid -/
theorem grid_len (H : GridOk w x ord ord D) (hord : ord.Perm ((List.range (x.length + 1)).map Int.ofNat)) : D.length = nlc (lst x) x.length + 1 := by
  have p : (D.map (·.line)).Perm (rangeInts 1 1 (nlc (lst x) x.length + 1)) := by
    refine (List.perm_ext_iff_of_nodup H.ndl (ri_nodup _)).mpr fun a => ?_
    rw [ri_mem, List.mem_map]
    constructor
    · rintro ⟨d, hd, rfl⟩
      obtain ⟨q, hq, e⟩ := H.used d hd
      obtain ⟨h0, h1⟩ := (ord_mem hord).mp hq
      rw [← e, ln_in' x h0 h1]
      have := nlc_mono (lst x) (show q.toNat ≤ x.length by lia)
      lia
    · rintro ⟨h1, h2⟩
      obtain ⟨b, e, r1, r2, r3, _⟩ := runs (lst x) x.length (a - 1).toNat (by lia)
      have hb : nlc (lst x) b = (a - 1).toNat := (r3 b (by lia)).mpr ⟨Nat.le_refl _, r1⟩
      obtain ⟨d, hd, e'⟩ := H.lines (b : Int) ((ord_mem hord).mpr ⟨by lia, by lia⟩)
      refine ⟨d, hd, ?_⟩
      rw [← e', ln_in x (by lia), hb]
      lia
  have := p.length_eq
  simpa [rangeInts_length] using this
/-- one line of the grid, whole -/
structure LineAt (w : World) (x : Str) (D : List LD) (l : Nat) (d : LD) (b e : Nat) : Prop where
  mem : d ∈ D
  line : d.line = (l : Int) + 1
  lt : b < e
  le : e ≤ x.length + 1
  run : ∀ k, k ≤ x.length → (nlc (lst x) k = l ↔ b ≤ k ∧ k < e)
  mid : ∀ k, b ≤ k → k + 1 < e → (lst x)[k]? ≠ some 10
  last : l < nlc (lst x) x.length → (lst x)[e - 1]? = some 10
  stop : l = nlc (lst x) x.length → e = x.length + 1
  klen : d.kvs.length = e - b
  keys : (d.kvs.map (·.1)).Perm (rangeInts 1 1 (e - b))
  vals : ∀ j, j < e - b → ∃ t, valueAt d.kvs (1 + (j : Int)) = some (.str (sgn x ((b + j : Nat) : Int)) t)
theorem line_at (H : GridOk w x ord ord D) (hord : ord.Perm ((List.range (x.length + 1)).map Int.ofNat)) {l : Nat} (hl : l ≤ nlc (lst x) x.length) : ∃ d b e, LineAt w x D l d b e := by
  obtain ⟨b, e, r1, r2, r3, r4, r5, r6, r7⟩ := runs (lst x) x.length l hl
  have hb : nlc (lst x) b = l := (r3 b (by lia)).mpr ⟨Nat.le_refl _, r1⟩
  obtain ⟨d, hd, e'⟩ := H.lines (b : Int) ((ord_mem hord).mpr ⟨by lia, by lia⟩)
  have hdl : d.line = (l : Int) + 1 := by rw [← e', ln_in x (by lia), hb]
  have pl : ∀ k : Nat, b ≤ k → k < e → (k : Int) ∈ ord ∧ lnOf x (k : Int) = d.line ∧ cnOf x (k : Int) = (k : Int) - b + 1 := fun k h1 h2 => by
    refine ⟨(ord_mem hord).mpr ⟨by lia, by lia⟩, ?_, ?_⟩
    · rw [ln_in x (by lia), hdl, (r3 k (by lia)).mpr ⟨h1, h2⟩]
    · rw [cn_in x (by lia), r4 k h1 h2]; (try lia)
  have hp : (d.kvs.map (·.1)).Perm (rangeInts 1 1 (e - b)) := by
    have hnd : (d.kvs.map (·.1)).Nodup := by obtain ⟨_, _, _, _, _, _, hn⟩ := H.isd d hd; exact hn
    refine (List.perm_ext_iff_of_nodup hnd (ri_nodup _)).mpr fun a => ?_
    rw [ri_mem, H.keys d hd, List.mem_map]
    constructor
    · rintro ⟨q, hq, rfl⟩
      obtain ⟨h1, h2⟩ := List.mem_filter.mp hq
      obtain ⟨h3, h4⟩ := (ord_mem hord).mp h1
      have h5 := of_decide_eq_true h2
      rw [ln_in' x h3 h4, hdl] at h5
      have h6 := (r3 q.toNat (by lia)).mp (by lia)
      rw [cn_in' x h3 h4, r4 _ h6.1 h6.2]
      lia
    · rintro ⟨h1, h2⟩
      have hk := pl (b + (a - 1).toNat) (by lia) (by lia)
      exact ⟨_, List.mem_filter.mpr ⟨hk.1, decide_eq_true hk.2.1⟩, by rw [hk.2.2]; lia⟩
  refine ⟨d, b, e, hd, hdl, r1, r2, r3, r5, r6, r7, ?_, hp, fun j hj => ?_⟩
  · have := hp.length_eq
    simpa [rangeInts_length] using this
  · have hk := pl (b + j) (by lia) (by lia)
    obtain ⟨t, ht⟩ := H.vals d hd _ hk.1 hk.2.1
    rw [hk.2.2, show ((b + j : Nat) : Int) - b + 1 = 1 + (j : Int) by lia] at ht
    exact ⟨t, ht⟩
end
end Mine
namespace Mine
section
variable {prog : Program} {w : World} {A : Around} {s : Shared} {Q E : Value → Shared → Prop} {h₀ : Heap} {L a b : Addr} {news : List (Addr × Obj)} {us vs : List Value} {ns : List Int} {c1 c2 : Nat}
end
/-- the locals in the third loop -/
def mL (x : Str) (t1 : Tok) (LS RW : Addr) (m' : Str → Option Value) : Str → Option Value :=
  fun y => if y = Str.ofString "text" then some (.str x t1) else if y = Str.ofString "lines" then some (.ref LS) else if y = Str.ofString "row" then some (.ref RW) else m' y
/-- the ledger of the third loop -/
def LnJ (x : Str) (t1 : Tok) (L LS RW G : Addr) (oG oc : Obj) (rv : List Value) (cr : Nat) (D : List LD) (os : List (Addr × Obj)) (i : Nat) (m : Str → Option Value) (news : List (Addr × Obj)) : Prop :=
  ∃ lsv cl o1 v1 m' ys b, m = mL x t1 LS RW m' ∧ news = (LS, W.listOf (lsv : List Value).toArray cl) :: (G, oG) :: (RW, W.listOf rv.toArray cr) :: (L + 1 + 1, o1) :: (L + 1, oc) :: (inn D ++ os) ∧
    o1.data = .cell v1 ∧ StrsAre lsv ys ∧ ys.length = i ∧ (ys.map Mine.lst).flatten = (Mine.lst x).take b ∧ ∀ k, k ≤ x.length → (nlc (Mine.lst x) k < i ↔ k < b)
end Mine
namespace Mine
end Mine
namespace Mine
theorem nameLt {g z : Addr} {R : Prop} (_ : g < z ∧ R) : ∃ y, y = z := ⟨_, rfl⟩
end Mine
namespace Mine
theorem sorted_line {prog : Program} {w : World} {A : Around} {E : Value → Shared → Prop} {s : Shared} {h₀ : Heap} {L d : Addr} {od : Obj} {m : Str → Option Value} {news : List (Addr × Obj)} {kvs : List (Int × Value)} {n : Nat} {Q : Value → Shared → Prop}
    (hh : A.handled = none) (F : Fr h₀ L s.heap m) (N : News h₀ L s.heap news) (hmd : (d, od) ∈ news) (hod : od.IsDictOf (intKind prog w) kvs) (lo : (d == sysModules) = false) (hp : (kvs.map (·.1)).Perm (rangeInts 1 1 n)) (hn : n < 128)
    (h : ∀ D vs' c h' tk, Fr h₀ L h' m → News h₀ L h' ((D, W.listOf vs'.toArray c) :: news) → (∀ q ∈ news, q.1 < D) → IntsAre vs' (rangeInts 1 1 n) → Q (.ref D) { s with heap := h', toks := tk }) :
    wpAny (model prog w) A (call (.builtin "sorted") [.ref d]) Q E s := by
  have hl : kvs.length = n := by have := hp.length_eq; simpa [rangeInts_length] using this
  refine sorted_dict hh F N hmd hod lo (by lia) fun D vs' ns' c h' tk F' N' l1 I' P' S' => h D vs' c h' tk F' N' l1 ?_
  rw [← sorted_same (P'.trans hp) S' (ri_sorted n)]
  exact I'
end Mine
namespace Mine
section
open LCg
variable {prog : Program} {w : World} {A : Around} {s : Shared} {h₀ : Heap} {L : Addr} {m : Str → Option Value} {env : Env}
/-- one element of a comprehension is made -/
def EltEnd (h₀ : Heap) (L : Addr) (m : Str → Option Value) (s : Shared) (all : List (Addr × Obj)) (J : Value → Prop) (y : Value) (s₂ : Shared) : Prop :=
  ∃ h' tk, s₂ = { s with heap := h', toks := tk } ∧ Fr h₀ L h' m ∧ News h₀ L h' all ∧ J y
/-- a comprehension by an invariant over its elements -/
theorem comp_inv {elt : Expr} {x : Str} {scope : Scope} {cl : List (Str × Addr)} {S : List (Addr × Obj) → Prop} {P : Nat → Value → Prop} {Fin : List Value → List (Addr × Obj) → Prop} {news : List (Addr × Obj)} {n : Nat}
    (J : Nat → List Value → Prop) (hS : S news)
    (step : ∀ i ys v I oI C oC D m₂ h tk (E' : Value → Shared → Prop), i < n → P i v → J i ys → NsObj oC m₂ → m₂ x = some v → Fr h₀ L h m → News h₀ L h ((I, oI) :: (C, oC) :: (D, LCg.lst ys) :: news) → Off3 I C D news → ((@Ne Nat I C) ∧ (@Ne Nat I D) ∧ (@Ne Nat C D)) →
      wpAny (model prog w) A (eval elt (compEnvC scope cl C env)) (EltEnd h₀ L m s ((I, oI) :: (C, oC) :: (D, LCg.lst ys) :: news) fun y => J (i + 1) (ys ++ [y])) E' { s with heap := h, toks := tk })
    (fin : ∀ ys, J n ys → Fin ys news) : ∀ k i ys, i + k = n → J i ys → CompRest prog w A h₀ L m env elt x scope cl s S P Fin k i ys news
  | 0, i, ys, h, hJ => by
    have : i = n := by lia
    subst this
    exact .zero (fin ys hJ)
  | k + 1, i, ys, h, hJ => .succ fun v I oI C oC D m₂ h' tk E' hP hN hx F N off ne => by
    refine wpAny_mono (step i ys v I oI C oC D m₂ h' tk E' (by lia) hP hJ hN hx F N off ne) (fun y s₂ r => ?_) fun _ _ e => e
    obtain ⟨h2, tk2, e, F2, N2, hJ2⟩ := r
    exact ⟨h2, tk2, news, e, F2, N2, off, hS, comp_inv J hS step fin k (i + 1) _ (by lia) hJ2⟩
end
end Mine

-- part W4a
open PySem PySem.W PyProof.Rows PySem.Calls PySem.Builtin PySem.Builtin.Str
set_option Elab.async false
set_option maxRecDepth 100000
set_option maxHeartbeats 8000000
namespace Mine
abbrev mt : Str := Str.ofString ""
theorem lst_mt : Mine.lst mt = [] := by decide
theorem lst_join0 : ∀ ys : List Str, Mine.lst (Str.join mt ys) = (ys.map Mine.lst).flatten
  | [] => rfl
  | [a] => by show Mine.lst a = _; simp
  | a :: b :: r => by
    show Mine.lst (a ++ mt ++ Str.join mt (b :: r)) = _
    rw [lst_append, lst_append, lst_mt, List.append_nil, lst_join0 (b :: r)]
    simp
/-- the signs of n places from b on -/
def sgs (x : Str) (b n : Nat) : List Str := (List.range n).map fun k => sgn x ((b + k : Nat) : Int)
theorem sgs_len (x : Str) (b n : Nat) : (sgs x b n).length = n := by simp [sgs]
theorem sgs_succ (x : Str) (b n : Nat) : sgs x b (n + 1) = sgs x b n ++ [sgn x ((b + n : Nat) : Int)] := by
  simp [sgs, List.range_succ]
theorem sgs_flat (x : Str) (b : Nat) : ∀ n, b + n ≤ x.length + 1 → ((sgs x b n).map Mine.lst).flatten = ((Mine.lst x).drop b).take n
  | 0, _ => by simp [sgs]
  | n + 1, h => by
    rw [sgs_succ, List.map_append, List.flatten_append, sgs_flat x b n (by lia)]
    simp only [List.map_cons, List.map_nil, List.flatten_cons, List.flatten_nil, List.append_nil]
    rw [lst_sgn (by lia) (by lia), Int.toNat_natCast, ← List.drop_drop]
    exact List.take_add.symm
theorem sgs_le {x : Str} {b n : Nat} (h : b + n ≤ x.length + 1) : ∀ y ∈ sgs x b n, y.length ≤ 1000 := fun y hy => by
  obtain ⟨k, hk, rfl⟩ := List.mem_map.mp hy
  have := List.mem_range.mp hk
  have := sgn_len (x := x) (q := ((b + k : Nat) : Int)) (by lia) (by lia)
  lia
theorem sgn_end (x : Str) : sgn x (x.length : Int) = mt := by
  refine lst_ext ?_
  rw [lst_sgn (by lia) (by lia), lst_mt, Int.toNat_natCast, List.drop_of_length_le (by rw [lst_len]; exact Nat.le_refl _)]
  rfl
theorem sgn_nl {x : Str} {k : Nat} (hk : k ≤ x.length) (h : (Mine.lst x)[k]? = some 10) : sgn x (k : Int) = nl := by
  refine lst_ext ?_
  rw [lst_sgn (by lia) (by lia), lst_nl, Int.toNat_natCast, List.take_one, List.head?_drop, h]
  rfl
theorem nl_sgn {x : Str} {k : Nat} (hk : k ≤ x.length) (h : sgn x (k : Int) = nl) : (Mine.lst x)[k]? = some 10 := by
  have := congrArg Mine.lst h
  rw [lst_sgn (by lia) (by lia), lst_nl, Int.toNat_natCast, List.take_one, List.head?_drop] at this
  cases q : (Mine.lst x)[k]? with
  | none => rw [q] at this; cases this
  | some c => rw [q] at this; simpa using this
section
variable {w : World} {x : Str} {D : List LD} {d : LD} {l b e : Nat}
/-- the last sign of a line -/
theorem LineAt.lastS (LA : LineAt w x D l d b e) (hl : l ≤ nlc (Mine.lst x) x.length) : (sgs x b (e - b)).getD (e - b - 1) Str.empty = if l < nlc (Mine.lst x) x.length then nl else mt := by
  have h1 := LA.lt
  have h2 := LA.le
  have e1 : (sgs x b (e - b)).getD (e - b - 1) Str.empty = sgn x ((e - 1 : Nat) : Int) := by
    rw [List.getD_eq_getElem?_getD, sgs, List.getElem?_map, List.getElem?_range (by lia)]
    simp only [Option.map_some, Option.getD_some]
    rw [show b + (e - b - 1) = e - 1 by lia]
  rw [e1]
  by_cases q : l < nlc (Mine.lst x) x.length
  · rw [if_pos q]
    exact sgn_nl (by lia) (LA.last q)
  · rw [if_neg q]
    have := LA.stop (by lia)
    rw [show e - 1 = x.length by lia]
    exact sgn_end x
/-- no line end within a line -/
theorem LineAt.midS (LA : LineAt w x D l d b e) : (sgs x b (e - b - 1)).any (· == nl) = false := by
  refine List.any_eq_false.mpr fun y hy => ?_
  obtain ⟨k, hk, rfl⟩ := List.mem_map.mp hy
  have := List.mem_range.mp hk
  have h2 := LA.le
  intro q
  exact LA.mid (b + k) (by lia) (by lia) (nl_sgn (by lia) (beq_iff_eq.mp q))
/-- the run begins where the lines ahead of it end -/
theorem LineAt.front (LA : LineAt w x D l d b e) {b0 : Nat} (hb : ∀ k, k ≤ x.length → (nlc (Mine.lst x) k < l ↔ k < b0)) : b0 = b := by
  have h1 := LA.lt
  have h2 := LA.le
  have r := LA.run
  have hb1 := (r b (by lia)).mpr ⟨Nat.le_refl _, h1⟩
  have hb2 := hb b (by lia)
  by_cases q : b0 < b
  · have h3 := hb b0 (by lia)
    have h4 := nlc_mono (Mine.lst x) (show b0 ≤ b by lia)
    have h5 := r b0 (by lia)
    lia
  · lia
theorem LineAt.next (LA : LineAt w x D l d b e) (hb : ∀ k, k ≤ x.length → (nlc (Mine.lst x) k < l ↔ k < b)) : ∀ k, k ≤ x.length → (nlc (Mine.lst x) k < l + 1 ↔ k < e) := fun k hk => by
  have h1 := LA.lt
  have h3 := hb k hk
  have h4 := LA.run k hk
  lia
theorem LineAt.joined (LA : LineAt w x D l d b e) {ys : List Str} {z : Str} (hy : (ys.map Mine.lst).flatten = (Mine.lst x).take b) (hz : Mine.lst z = ((sgs x b (e - b)).map Mine.lst).flatten) : ((ys ++ [z]).map Mine.lst).flatten = (Mine.lst x).take e := by
  have h1 := LA.lt
  have h2 := LA.le
  rw [List.map_append, List.flatten_append, hy]
  simp only [List.map_cons, List.map_nil, List.flatten_cons, List.flatten_nil, List.append_nil]
  rw [hz, sgs_flat x b (e - b) (by lia), ← List.take_add, show b + (e - b) = e by lia]
end
/-- the row, all its places filled -/
theorem row_strs {x : Str} {P : List Int} {rv : List Value} (H : RowOk x P rv) (hP : ∀ k : Nat, k ≤ x.length → (k : Int) ∈ P) : StrsAre rv (sgs x 0 (x.length + 1)) := by
  refine kdy_strs (by rw [H.len, sgs_len]) fun j v hj => ?_
  have hjl : j < rv.length := (List.getElem?_eq_some_iff.mp hj).1
  rw [H.len] at hjl
  obtain ⟨t, ht⟩ := H.put j (by lia) (hP j (by lia))
  refine ⟨sgn x (j : Int), ?_, t, ?_⟩
  · rw [sgs, List.getElem?_map, List.getElem?_range (by lia)]
    simp
  · rw [hj] at ht; exact Option.some.inj ht
theorem row_join {x : Str} : Str.join mt (sgs x 0 (x.length + 1)) = x := by
  refine lst_ext ?_
  rw [lst_join0, sgs_flat x 0 _ (by lia), List.drop_zero, List.take_of_length_le (by rw [lst_len]; lia)]
theorem lines_join0 {x : Str} {ys : List Str} {b l : Nat} (h : (ys.map Mine.lst).flatten = (Mine.lst x).take b) (hb : ∀ k, k ≤ x.length → (nlc (Mine.lst x) k < l ↔ k < b)) (hl : l = nlc (Mine.lst x) x.length + 1) : Str.join mt ys = x := by
  refine lst_ext ?_
  have := (hb x.length (Nat.le_refl _)).mp (by lia)
  rw [lst_join0, h, List.take_of_length_le (by rw [lst_len]; lia)]
theorem rs_one (n : Nat) : Builtin.Range.rangeSize 1 ((n : Int) + 1) 1 = n := by
  unfold Builtin.Range.rangeSize
  rw [if_pos (by decide)]
  split <;> lia
end Mine

-- part W4b
open PySem PySem.W PyProof.Rows PySem.Calls PySem.Builtin PySem.Builtin.Str
set_option Elab.async false
set_option maxRecDepth 100000
set_option maxHeartbeats 8000000
namespace Mine
section
variable {prog : Program} {w : World} {A : Around} {E : Value → Shared → Prop} {s : Shared} {h₀ : Heap} {L D l : Addr} {m : Str → Option Value} {news : List (Addr × Obj)} {vs : List Value} {ys zs : List Str} {x z : Str} {t u : Tok} {Q : Value → Shared → Prop} {value slice : PySem.Expr} {vl vu : Value} {c : Nat}
theorem lastN (N : News h₀ L s.heap news) (hm : (l, W.listOf vs.toArray c) ∈ news) (hi : StrsAre vs ys) {k : Nat} (hk : ys.length = k) (h0 : 0 < k) (e : ys.getD (k - 1) Str.empty = z) (h : ∀ t, Q (.str z t) s)
    (hs : subscripted slice false (.ref l) (.int (-1) u) = operate [.ref l, .int (-1) u] (getItem (.ref l) (.int (-1) u)) := by with_unfolding_all rfl) (hg : ∀ r, letTemporaryGo value (.ref l) r = pure () := by intro _; with_unfolding_all rfl) :
    wpAny (model prog w) A (subscriptTail value slice (.ref l) (.int (-1) u)) Q E s := by
  subst hk
  refine item_strs_neg (N.isList hm) hi (by lia) (by lia) (by decide) (fun t => ?_) hs hg
  rw [show (-1 + (ys.length : Int)).toNat = ys.length - 1 by lia, e]
  exact h t
theorem pick_init (vs : List Value) : (slicePick vs.toArray none (some (-1)) none).toList = vs.take (vs.length - 1) := by
  have e : sliceBounds none (some (-1)) none vs.toArray.size = (((0 : Nat) : Int), ((vs.toArray.size - 1 : Nat) : Int), 1) := by
    simp only [sliceBounds, Option.getD_none, show (1 : Int) > 0 by decide, if_true, if_pos (show (-1 : Int) < 0 by decide)]
    congr 1
    congr 1
    lia
  rw [kmk_pick_nat _ e]
  simp
theorem initN (F : Fr h₀ L s.heap m) (N : News h₀ L s.heap news) (hm : (l, W.listOf vs.toArray c) ∈ news) (pl : IsPart vl none) (pu : IsPart vu (some (-1))) (hi : StrsAre vs ys) (e : ys.take (ys.length - 1) = zs) (hz : ys.length ≤ 1000)
    (h : ∀ D ws h', Fr h₀ L h' m → News h₀ L h' ((D, W.listOf (List.toArray ws) 0) :: news) → (∀ p ∈ news, p.1 < D) → StrsAre ws zs → Q (.ref D) { s with heap := h' })
    (hs : subscripted slice false (.ref l) (.ref s.heap.objs.size) = operate [.ref s.heap.objs.size, .ref l] (getItem (.ref l) (.ref s.heap.objs.size))) (ht : ∀ r, letTemporaryGo value (.ref l) r = pure ()) :
    wpAny (model prog w) A (subscriptTail value slice (.ref l) (.ref s.heap.objs.size)) Q E { s with heap := s.heap.push { cls := .type "slice", data := .fields #[vl, vu, .none] } } := by
  refine kmk_slice_lit F N (N.isList hm) pl pu (pick_init vs) (fun D h' F' N' l1 => h D _ h' F' N' l1 ?_) hs ht (by rw [sizeLine_eq, List.size_toArray, hi.length]; lia)
  rw [← e, hi.length]
  exact hi.take' _
theorem joinN (N : News h₀ L s.heap news) (hm : (l, W.listOf vs.toArray c) ∈ news) (hi : StrsAre vs ys) (hsep : x.length ≤ 64) (hB : ∀ y ∈ ys, y.length ≤ 1000) (hn : ys.length ≤ 2000)
    (e : Str.join x ys = z) (h : ∀ t' k, Q (.str z t') { s with toks := k }) : wpAny (model prog w) A (call (.builtin "str.join") [.str x t, .ref l]) Q E s := by
  refine join_listC (ys := ys) (N.isList hm) (by simpa using hi) hsep ?_ ?_
  · have := StrLaws.sumLen_le ys hB
    lia
  · have : Txt.join x ys = z := by rw [← e]; exact StrLaws.glued_eq_join x ys
    rw [this]; exact h
theorem appN {rest : List (Addr × Obj)} {v : Value} (F : Fr h₀ L s.heap m) (N : News h₀ L s.heap news) (hm : (l, W.listOf vs.toArray c) ∈ news) (hall : ∀ p ∈ rest, p.1 ≠ l) (hsub : ∀ p ∈ rest, p ∈ news) (hz : vs.length ≤ 1000)
    (h : ∀ h', Fr h₀ L h' m → News h₀ L h' ((l, W.listOf (vs ++ [v]).toArray (c + 1)) :: rest) → Q .none { s with heap := h' }) : wpAny (model prog w) A (call (.builtin "list.append") [.ref l, v]) Q E s := by
  have N2 : News h₀ L s.heap ((l, W.listOf vs.toArray c) :: rest) := fun p hp => (List.mem_cons.mp hp).elim (fun e => e ▸ N _ hm) fun hp => N p (hsub p hp)
  refine append_K F N2 (.head hall) (fun h' F' N' => h h' F' ?_) (by rw [sizeLine_eq, List.size_toArray]; lia)
  rw [List.push_toArray] at N'
  exact N'
theorem eqSelf (h : Q (.bool true) s) : wpAny (model prog w) A (compareOp .Eq (.str x t) (.str x u)) Q E s := eq_str (by rw [beq_self_eq_true]; exact h)
end
theorem mid_str {M : Model} {A : Around} {t : Sem Value} {Q : Value → Shared → Prop} {E : Value → Shared → Prop} {s : Shared} {z : Str} (h1 : wpAny M A t (fun v s' => ∃ t tk, v = .str z t ∧ s' = { s with toks := tk }) E s) (h2 : ∀ t tk, Q (.str z t) { s with toks := tk }) : wpAny M A t Q E s :=
  wpAny_mono h1 (fun v s' h => by obtain ⟨t, tk, e1, e2⟩ := h; subst e1 e2; exact h2 t tk) fun _ _ e => e
theorem flat_len {x : Str} {ys : List Str} {b : Nat} (h : (ys.map Mine.lst).flatten = (Mine.lst x).take b) (hx : x.length ≤ 90) : ∀ y ∈ ys, y.length ≤ 1000 := fun y hy => by
  have h1 : (Mine.lst y).length ≤ (ys.map Mine.lst).flatten.length := (List.sublist_flatten_of_mem (List.mem_map.mpr ⟨y, hy, rfl⟩)).length_le
  rw [h, List.length_take, lst_len, lst_len] at h1
  lia
theorem sgs_init (x : Str) (b n : Nat) : (sgs x b n).take ((sgs x b n).length - 1) = sgs x b (n - 1) := by
  rw [sgs_len, sgs, sgs, ← List.map_take, List.take_range]
  rw [Nat.min_eq_left (by lia)]
end Mine

-- part W4
open PySem PySem.W PyProof.Rows PySem.Calls
set_option Elab.async false
set_option maxRecDepth 100000
set_option maxHeartbeats 8000000
set_option rowWalk.seconds 0
namespace Mine
section
local macro_rules | `(tactic| walk_at "subscriptTail Name Slice ref ref") => `(tactic| (k_here; (refine' initN ?F ?N ?l ?p ?q ?i ?e ?z ?_ ?s ?t; (case F => k_asm); (case N => k_asm); (case l => k_mem); (case p => kmk_part); (case q => kmk_part); (case i => with_reducible assumption); (case e => exact sgs_init _ _ _); (case z => lia); (case s => with_unfolding_all rfl); (case t => kmk_pure)); intro D' ws' h' F' N' l1 hI'; (try k_lt l1); (try k_sweep)))
theorem c_seg3 {w : World} {A : Around} {s : Shared} {Q : Value → Shared → Prop} {p : Program} {loose : List Str} {mg mb : Str → Option Value} {x : Str} {t1 : Tok}
    {name qual : Str} {params : Arguments} {body : List Stmt} {scope : Scope} {dV kV doc pm cdv ct ov : Value} {an od : Option Addr} {osl : Array (Option Value)}
    (hfn : (hd.heap_39 w.params).lookup 74 = some ⟨ov, od, .func (fnOf name qual params body scope dV kV doc pm an cdv ct), osl⟩)
    {L ER RW G : Addr} {oG o1 oc : Obj} {v1 : Option Value} {rv : List Value} {cr : Nat} {D : List LD} {ord : List Int} {os : List (Addr × Obj)} {m'' : Str → Option Value} {h5 : Heap} {tk5 : Tok}
    (X : (hd.heap_39 w.params).In s.heap) (T : TopRead p loose mg mb s.heap) (hroom : A.depth + 20 < recursionLimit) (hu : A.units + 100 < cLine) (hh : A.handled = none)
    (hx : x.length ≤ 90) (loG : (G == sysModules) = false) (dc : oc.data = .cell (some (.ref G)))
    (hord : ord.Perm ((List.range (x.length + 1)).map Int.ofNat))
    (hGd : oG.IsDictOf (IK w) (gkv D)) (hc1 : o1.data = .cell v1) (HG : GridOk w x ord ord D) (HR : RowOk x ord rv)
    (hnd : (G :: RW :: (L + 1 + 1) :: (L + 1) :: D.map (·.adr)).Nodup) (hos : ∀ p ∈ os, p.1 ∉ G :: RW :: (L + 1 + 1) :: (L + 1) :: D.map (·.adr))
    (F5 : Fr s.heap L h5 (mW x t1 ER RW m'')) (N5 : News s.heap L h5 ((G, oG) :: (RW, W.listOf rv.toArray cr) :: (L + 1 + 1, o1) :: (L + 1, oc) :: (inn D ++ os)))
    (h : ∀ h' tk, Keeps s.heap h' → Q (.bool true) { s with heap := h', toks := tk }) :
    wpAny (model PySem.Challenge.rw_dm0193_02.row.prog w) (A.deeper (envOfC qual scope L 74 cdv)) (execs (body.drop 3) (envOfC qual scope L 74 cdv)) (fun fl s' => Q (match fl with | .ret v => v | _ => .none) s') (fun _ _ => False) {s with heap := h5, toks := tk5} := by
  k_with_none
  k_with "mem" => (repeat (first | (with_reducible exact List.mem_append_left _ (by with_reducible assumption)) | (with_reducible refine List.mem_cons_of_mem _ ?_)))
  k_with "sub" => (intro p hp; (simp only [inn, frt, List.map_append, List.map_cons, List.map_nil, List.mem_append, List.mem_cons, List.not_mem_nil, or_false, false_or, or_assoc] at hp ⊢); (repeat' (with_reducible refine Or.elim hp (fun hp => ?_) (fun hp => ?_))) <;> simp only [hp, true_or, or_true])
  k_with "call ref" => (with_reducible refine stop ?_)
  k_with "pyIter ref" => (with_reducible refine stop ?_)
  k_with "exec For Name Name cons nil" => ((rename Fr _ _ _ _ => lF'); (with_unfolding_all refine' For_turns lF' ?_))
  k_with "exec For Name Call cons nil" => ((rename Fr _ _ _ _ => lF'); (with_unfolding_all refine' For_turns lF' ?_))
  k_with "binaryOp Mult ref int" => (refine none_mul (by k_asm) (by k_asm) (by is_list) (by lia) ?_; intro _ _ _ _ l1; (try k_lt l1); (try k_sweep))
  k_with "getAttr ref" => (refine getN (errK _) (by with_reducible assumption) (by with_reducible assumption) (by with_reducible assumption) (by k_mem) (by k_mem) (by rfl) (by k_get) (by rfl) ?_)
  k_with "call type:str" => ((with_reducible show wpAny _ _ (call _ [Value.ref _]) _ _ _); refine strN (errK _) (by simp only [Around.deeper_units]; lia) (by with_reducible assumption) (by with_reducible assumption) (by with_reducible assumption) (by k_mem) (by k_mem) ?_)
  k_with "compareOp NotEq ref ref" => (refine ne_tup4 (by with_reducible assumption) (by k_mem) (by k_mem) (by simp only [Around.deeper_units]; lia) (by with_reducible assumption) ?_)
  k_with "compareOp NotEq str str" => (refine ne_strE (by first | (with_reducible assumption) | exact bne_self_eq_false _) ?_)
  k_with "exec If" => ((with_reducible show wpAny _ _ (exec (Stmt.If (Expr.Compare _ _ _ _) _ _ _) _) _ _ _); (rename Obj.IsDictOf _ _ (gkv _) => hZ); (with_reducible refine stop ?_))
  k_with "compareOp NotIn int ref" => (refine kdg_notin (knd := PySem.intKind _ _) (by with_reducible assumption) (by k_mem) (by with_reducible assumption) (by with_reducible assumption) (intKind_is _ _ _ _) _ (by with_reducible assumption) ?_)
  k_with "subscriptTail" => ((with_reducible show wpAny _ _ (subscriptTail _ _ (Value.ref _) (Value.int _ _)) _ _ _); (refine kda_item (knd := PySem.intKind _ _) (by with_reducible assumption) (by k_mem) (by with_reducible assumption) (intKind_is _ _ _ _) (by with_reducible assumption) ?_))
  k_with "subscriptTail" => ((with_reducible show wpAny _ _ (subscriptTail _ _ (Value.ref (LD.adr _)) (Value.int _ _)) _ _ _); (refine kda_item (knd := PySem.intKind _ _) (by with_reducible assumption) (by walk_at "mem") (by with_reducible assumption) (intKind_is _ _ _ _) (by with_reducible assumption) ?_))
  k_with "subscriptTail Name Name ref int" => ((with_reducible show wpAny _ _ (subscriptTail _ _ (Value.ref _) (Value.int _ _)) _ _ _); (refine kda_item (knd := PySem.intKind _ _) (by with_reducible assumption) (by k_mem) (by with_reducible assumption) (intKind_is _ _ _ _) (by with_reducible assumption) ?_))
  k_with "subscriptTail Name Name ref int" => ((with_reducible show wpAny _ _ (subscriptTail _ _ (Value.ref (LD.adr _)) (Value.int _ _)) _ _ _); (refine kda_item (knd := PySem.intKind _ _) (by with_reducible assumption) (by walk_at "mem") (by with_reducible assumption) (intKind_is _ _ _ _) (by with_reducible assumption) ?_))
  k_with "call builtin:len" => ((with_reducible show wpAny _ _ (call _ [Value.ref _]) _ _ _); (refine len_grid (by with_reducible assumption) (by k_mem) (by with_reducible assumption) (by with_reducible assumption) (by lia) ?_))
  k_with "call builtin:len" => ((with_reducible show wpAny _ _ (call _ [Value.ref (LD.adr _)]) _ _ _); (refine len_line (by with_reducible assumption) (by walk_at "mem") (by with_reducible assumption) (by with_reducible assumption) (by with_reducible assumption) (by lia) ?_))
  k_with "call builtin:sorted" => (refine sorted_line rfl (by with_reducible assumption) (by with_reducible assumption) (by walk_at "mem") (by with_reducible assumption) (by with_reducible assumption) (by with_reducible assumption) (by lia) ?_; intro _ _ _ _ _ _ _ l1 _; (try k_lt l1); (try k_sweep))
  k_with "call type:list" => (refine list_range1 rfl (by with_reducible assumption) (by with_reducible assumption) (by with_reducible assumption) (by lia) ?_; intro _ _ _ _ _ _ _ l1 _; (try k_lt l1); (try k_sweep))
  k_with "exec Assign cons ListComp" => (refine LCg.Assign_ListComp_U (F₀ := by k_asm) (by rfl) (by with_unfolding_all rfl) (by with_unfolding_all rfl) (by decide) (by rfl) (by decide) (by rfl) (by rfl) (by rfl) ?_)
  k_with "eval IfExp" => (with_reducible refine stop ?_)
  k_with "CompSrc" => (with_reducible refine stop ?_)
  k_with "subscriptTail Name UnaryOp ref int" => (refine lastN (by with_reducible assumption) (by k_mem) (by with_reducible assumption) (by with_reducible assumption) (by with_reducible assumption) (by with_reducible assumption) ?_; intro _)
  k_with "subscriptTail Name UnaryOp" => (refine lastN (by with_reducible assumption) (by k_mem) (by with_reducible assumption) (by with_reducible assumption) (by with_reducible assumption) (by with_reducible assumption) ?_; intro _)
  k_with "call builtin:str.join" => (refine joinN (by with_reducible assumption) (by k_mem) (by with_reducible assumption) (by decide) (by with_reducible assumption) (by lia) (by first | (with_reducible assumption) | rfl) ?_; intro _ _)
  k_with "call builtin:list.append" => (refine appN (by with_reducible assumption) (by with_reducible assumption) (by k_mem) (by with_reducible assumption) (by walk_at "sub") (by lia) ?_; intro _ _ _)
  k_with "compareOp Eq str str" => (with_reducible refine eqSelf ?_)
  obtain ⟨hd', dp, fr, gd, un⟩ := A
  dsimp only at hh hroom hu
  subst hh
  cases hfn
  dsimp only [List.drop]
  revert X; k_fill; intro X
  unfold mW at F5
  have hol : ord.length = x.length + 1 := by have := hord.length_eq; simpa using this
  have hDl : D.length ≤ 91 := HG.len (by lia)
  have hgl : (gkv D).length = D.length := gkv_len D
  w_strict (k_steps)
  unfold Stop
  have hDn := grid_len HG hord
  (rename Fr _ _ _ _ => F7); (rename News _ _ _ _ => N7); (rename IsRange _ _ _ _ _ _ _ _ => R7); (rename (_ < _ ∧ _ < _ ∧ _ < _ ∧ _ < _ ∧ AllLt _ _) => l7)
  obtain ⟨LS, rfl⟩ := nameLt l7
  have hlt7 := lt_all _ l7.2.2.2.2
  have hnd3 : (LS :: G :: RW :: (L + 1 + 1) :: (L + 1) :: D.map (·.adr)).Nodup := by
    refine List.nodup_cons.mpr ⟨fun hm => ?_, hnd⟩
    simp only [List.mem_cons] at hm
    rcases hm with e | e | e | e | e
    · exact absurd l7.1 (e ▸ Nat.lt_irrefl _)
    · exact absurd l7.2.1 (e ▸ Nat.lt_irrefl _)
    · exact absurd l7.2.2.1 (e ▸ Nat.lt_irrefl _)
    · exact absurd l7.2.2.2.1 (e ▸ Nat.lt_irrefl _)
    · obtain ⟨d, hd, e⟩ := List.mem_map.mp e
      exact absurd (hlt7 _ (List.mem_append_left _ (inn_mem hd))) (e ▸ Nat.lt_irrefl _)
  have hos3 : ∀ p ∈ os, p.1 ∉ LS :: G :: RW :: (L + 1 + 1) :: (L + 1) :: D.map (·.adr) := fun p hp hm => by
    rcases List.mem_cons.mp hm with e | hm
    · exact absurd (hlt7 p (List.mem_append_right _ hp)) (e ▸ Nat.lt_irrefl _)
    · exact hos p hp hm
  refine for_RF (n := D.length) rfl R7 (small_one (by lia) (by lia) (by lia) (by lia)) (rs_one D.length) F7 N7 (LnJ x t1 L LS RW G oG oc rv cr D os) ?_ ?_ ?_
  · refine ⟨[], 0, o1, v1, _, [], 0, m_put3 rfl rfl rfl, rfl, hc1, .nil, rfl, rfl, fun k _ => by lia⟩
  · rintro i t m₁ news₁ h8 tk8 own hin ⟨lsv, cl, o1', v1'', m3, ys, b0, rfl, rfl, hc8, hys, hyl, hjoin, hb0⟩ hoff8 F8 N8
    obtain ⟨d, b, e, LA⟩ := line_at HG hord (l := i) (by lia)
    unfold mL at F8
    clear F7 N7 R7 l7
    w_strict (k_steps)
    (rename Fr _ _ _ _ => F9); (rename News _ _ _ _ => N9)
    have hT : ∀ p ∈ os ++ own, p.1 ∉ LS :: G :: RW :: (L + 1 + 1) :: (L + 1) :: D.map (·.adr) := fun p hp hm => by
      rcases List.mem_append.mp hp with h | h
      · exact hos3 p h hm
      · have h1 := hoff8 p h
        have h2 : p.1 ∈ ((LS, W.listOf lsv.toArray cl) :: frt G RW L oG o1' oc rv cr D).map (·.1) := by rw [List.map_cons, frt_adr]; exact hm
        obtain ⟨z, hz, e⟩ := List.mem_map.mp h2
        have hs : ∀ z ∈ (LS, W.listOf lsv.toArray cl) :: frt G RW L oG o1' oc rv cr D, z ∈ (LS, W.listOf lsv.toArray cl) :: (G, oG) :: (RW, W.listOf rv.toArray cr) :: (L + 1 + 1, o1') :: (L + 1, oc) :: (inn D ++ os) := by walk_at "sub"
        exact h1 z (hs z hz) e.symm
    have N10 : News s.heap L _ ((L + 1 + 1, o1') :: ([(LS, W.listOf lsv.toArray cl), (G, oG), (RW, W.listOf rv.toArray cr)] ++ ((L + 1, oc) :: inn D ++ (os ++ own)))) := nsub N9 (by walk_at "sub")
    clear N9
    refine storeX_C F9 N10 (c := L + 1 + 1) (by rfl) (.head (upd_off (l := (LS, W.listOf lsv.toArray cl) :: frt G RW L oG o1' oc rv cr D) (by rw [List.map_cons, frt_adr]; exact hnd3) (pre := [(LS, W.listOf lsv.toArray cl), (G, oG), (RW, W.listOf rv.toArray cr)]) rfl (by rw [List.map_cons, frt_adr]; exact hT))) hc8 ?_ (by rfl) (by rfl)
    intro h11 o11 F11 N11 hc11
    replace N11 : News s.heap L h11 ((LS, W.listOf lsv.toArray cl) :: (G, oG) :: (RW, W.listOf rv.toArray cr) :: (L + 1 + 1, o11) :: (L + 1, oc) :: (inn D ++ (os ++ own))) := nsub N11 (by walk_at "sub")
    have hval : valueAt (gkv D) (1 + (i : Int)) = some (.ref d.adr) := by rw [show (1 + (i : Int)) = d.line by rw [LA.line]; lia]; exact val_gkv HG.ndl LA.mem
    have hisS : (valueAt (gkv D) (1 + (i : Int))).isSome = true := by rw [hval]; rfl
    have hmi := inn_mem LA.mem
    have hisd := HG.isd d LA.mem
    have hlod := HG.lo d LA.mem
    obtain ⟨n, hn⟩ : ∃ n, n = e - b := ⟨_, rfl⟩
    have hkl : d.kvs.length = n := LA.klen.trans hn.symm
    have hkp : (d.kvs.map (·.1)).Perm (rangeInts 1 1 n) := hn ▸ LA.keys
    have hn92 : n ≤ 92 := by have := LA.le; lia
    clear N10 F9
    clear hos hos3 hnd HR
    w_strict (k_steps)
    unfold Stop
    (rename Fr _ _ _ _ => F12); (rename News _ _ _ _ => N12); (rename IsRange _ _ _ _ _ _ _ _ => R12)
    have N13 : News s.heap L _ ((LS, W.listOf lsv.toArray cl) :: (G, oG) :: (RW, W.listOf rv.toArray cr) :: (L + 1 + 1, o11) :: (L + 1, oc) :: (inn D ++ (os ++ own))) := nsub N12 (by walk_at "sub")
    refine LCg.CompSrc.range (n := n) rfl F12 N13 R12 (small_one (by lia) (by lia) (by lia) (by lia)) (rs_one n) (by rw [sizeLine_eq]; lia) ?_
    intro g
    refine comp_inv (n := n) (fun j ys => StrsAre ys (sgs x b j)) trivial ?_ ?_ n 0 [] (by lia) .nil
    · rintro j ys v I oI C oC DD m₂ h14 tk14 E' hj ⟨tv', rfl⟩ hJ hNs hm2 F14 N14 off14 ne14
      obtain ⟨ts, hvj⟩ := LA.vals j (by lia)
      clear N13 N12 F12 R12
      w_strict (k_steps)
      (rename Fr _ _ _ _ => F15); (rename News _ _ _ _ => N15)
      refine ⟨_, _, rfl, F15, N15, ?_⟩
      rw [sgs_succ]
      exact kct_snoc hJ
    · intro zs hzs
      clear N13 N12 F12 R12
      have hnp : 0 < n := by have := LA.lt; lia
      have hlS := LA.lastS (by lia)
      have hmS := LA.midS
      rw [← hn] at hlS hmS
      have hsl := sgs_len x b n
      have hsB := sgs_le (x := x) (b := b) (n := n) (by have := LA.le; lia)
      have hall : ∀ p ∈ (G, oG) :: (RW, W.listOf rv.toArray cr) :: (L + 1 + 1, o11) :: (L + 1, oc) :: (inn D ++ (os ++ own)), p.1 ≠ LS := fun p hp => by
        refine upd_off (l := (LS, W.listOf lsv.toArray cl) :: frt G RW L oG o11 oc rv cr D) (pre := []) (post := frt G RW L oG o11 oc rv cr D) (T := os ++ own) (by rw [List.map_cons, frt_adr]; exact hnd3) rfl (by rw [List.map_cons, frt_adr]; exact hT) p ?_
        exact hp
      have hlsl : lsv.length ≤ 92 := by rw [hys.length]; lia
      have hbb := LA.front hb0
      subst hbb
      have hdis : ∀ o16, ∀ p ∈ own, ∀ q ∈ (LS, o16) :: (G, oG) :: (RW, W.listOf rv.toArray cr) :: (L + 1 + 1, o11) :: (L + 1, oc) :: (inn D ++ os), p.1 ≠ q.1 := fun o16 p hp q hq e => by
        have h1 := hT p (List.mem_append_right _ hp)
        rcases List.mem_append.mp (show q ∈ ((LS, o16) :: frt G RW L oG o11 oc rv cr D) ++ os from hq) with h | h
        · refine h1 ?_
          rw [e]
          have : q.1 ∈ ((LS, o16) :: frt G RW L oG o11 oc rv cr D).map (·.1) := List.mem_map.mpr ⟨q, h, rfl⟩
          rwa [List.map_cons, frt_adr] at this
        · exact hoff8 p hp q (.tail _ (.tail _ (.tail _ (.tail _ (.tail _ (List.mem_append_right _ h)))))) e
      w_strict (k_steps)
      unfold Stop
      refine mid_str (z := if i < nlc (Mine.lst x) x.length then nl else mt) (IfExp_ ?_) ?_
      · by_cases hla : i < nlc (Mine.lst x) x.length
        · rw [if_pos hla]
          w_strict (k_steps)
        · rw [if_neg hla]
          w_strict (k_steps)
      intro ti tki
      w_strict (k_steps)
      (rename Fr _ _ _ _ => F16); (rename News _ _ _ _ => N16)
      obtain ⟨tz, N17⟩ : ∃ tz, News s.heap L _ ((LS, W.listOf (lsv ++ [Value.str (Str.join mt (sgs x b0 n)) tz]).toArray (cl + 1)) :: (G, oG) :: (RW, W.listOf rv.toArray cr) :: (L + 1 + 1, o11) :: (L + 1, oc) :: (inn D ++ (os ++ own))) := ⟨_, N16⟩
      refine ⟨_, _, _, (LS, W.listOf (lsv ++ [Value.str (Str.join mt (sgs x b0 n)) tz]).toArray (cl + 1)) :: (G, oG) :: (RW, W.listOf rv.toArray cr) :: (L + 1 + 1, o11) :: (L + 1, oc) :: (inn D ++ os), rfl, F16, nsub N17 (by walk_at "sub"), ?_, lsv ++ [Value.str (Str.join mt (sgs x b0 n)) tz], cl + 1, o11, _, _, ys ++ [Str.join mt (sgs x b0 n)], e, m_put3 rfl rfl rfl, rfl, hc11, kct_snoc hys, by rw [List.length_append, hyl]; rfl, LA.joined hjoin (by rw [lst_join0, hn]), LA.next hb0⟩
      exact hdis _
  · rintro m₁ news₁ h9 tk9 ⟨lsv, cl, o1', v1'', m3, ys, b0, rfl, rfl, hc8, hys, hyl, hjoin, hb0⟩ F9 N9
    show wpAny _ _ _ _ _ _
    unfold mL at F9
    clear F7 N7 R7 l7
    have hB1 := flat_len hjoin hx
    have hje := lines_join0 hjoin hb0 hDn
    have hrs := row_strs HR fun k hk => (ord_mem hord).mpr ⟨by lia, by lia⟩
    have hrj := row_join (x := x)
    have hrl := sgs_len x 0 (x.length + 1)
    have hB2 := sgs_le (x := x) (b := 0) (n := x.length + 1) (by lia)
    w_strict (k_steps)
    exact h _ _ F9.keep
end
end Mine

-- part W5
open PySem PySem.W PyProof.Rows PySem.Calls
set_option Elab.async false
set_option maxRecDepth 100000
set_option maxHeartbeats 8000000
set_option rowWalk.seconds 0
namespace Mine
section
theorem c_seg2 {w : World} {A : Around} {s : Shared} {Q : Value → Shared → Prop} {p : Program} {loose : List Str} {mg mb : Str → Option Value} {x : Str} {t1 : Tok}
    {name qual : Str} {params : Arguments} {body : List Stmt} {scope : Scope} {dV kV doc pm cdv ct ov : Value} {an od : Option Addr} {osl : Array (Option Value)}
    (hfn : (hd.heap_39 w.params).lookup 74 = some ⟨ov, od, .func (fnOf name qual params body scope dV kV doc pm an cdv ct), osl⟩)
    {L ER RW G : Addr} {oG o1 oc : Obj} {es : List Value} {c : Nat} {ord : List Int} {os : List (Addr × Obj)} {m' : Str → Option Value} {h4 : Heap} {tk4 : Tok}
    (X : (hd.heap_39 w.params).In s.heap) (T : TopRead p loose mg mb s.heap) (hroom : A.depth + 20 < recursionLimit) (hu : A.units + 100 < cLine) (hh : A.handled = none)
    (hx : x.length ≤ 90) (hok : PyData.strOk x = true) (loG : (G == sysModules) = false) (dc : oc.data = .cell (some (.ref G))) (hG : oG.IsDictOf (IK w) []) (d1 : o1.data = .cell none)
    (hord : ord.Perm ((List.range (x.length + 1)).map Int.ofNat)) (hel : es.length = x.length + 1) (hes : Errs w x ord os es)
    (hnd0 : (G :: RW :: (L + 1 + 1) :: (L + 1) :: ([] : List LD).map (·.adr)).Nodup) (hos0 : ∀ p ∈ os, p.1 ∉ G :: RW :: (L + 1 + 1) :: (L + 1) :: ([] : List LD).map (·.adr))
    (hne : ∀ p ∈ (G, oG) :: (RW, W.listOf (List.replicate (x.length + 1) Value.none).toArray 0) :: (L + 1 + 1, o1) :: (L + 1, oc) :: (inn [] ++ os), p.1 ≠ ER)
    (F4 : Fr s.heap L h4 (mW x t1 ER RW m')) (N4 : News s.heap L h4 ((ER, W.listOf es.toArray c) :: (G, oG) :: (RW, W.listOf (List.replicate (x.length + 1) Value.none).toArray 0) :: (L + 1 + 1, o1) :: (L + 1, oc) :: (inn [] ++ os)))
    (h : ∀ h' tk, Keeps s.heap h' → Q (.bool true) { s with heap := h', toks := tk }) :
    wpAny (model PySem.Challenge.rw_dm0193_02.row.prog w) (A.deeper (envOfC qual scope L 74 cdv)) (execs (body.drop 2) (envOfC qual scope L 74 cdv)) (fun fl s' => Q (match fl with | .ret v => v | _ => .none) s') (fun _ _ => False) {s with heap := h4, toks := tk4} := by
  k_with_none
  k_with "sub" => (intro p hp; (simp only [inn, frt, List.map_append, List.map_cons, List.map_nil, List.mem_append, List.mem_cons, List.not_mem_nil, or_false, false_or, or_assoc] at hp ⊢); (repeat' (with_reducible refine Or.elim hp (fun hp => ?_) (fun hp => ?_))) <;> simp only [hp, true_or, or_true])
  k_with "call ref" => (with_reducible refine stop ?_)
  k_with "pyIter ref" => (with_reducible refine stop ?_)
  k_with "exec For Name Name cons nil" => ((rename Fr _ _ _ _ => lF'); (with_unfolding_all refine' For_turns lF' ?_))
  k_with "exec For Name Call cons nil" => ((rename Fr _ _ _ _ => lF'); (with_unfolding_all refine' For_turns lF' ?_))
  k_with "binaryOp Mult ref int" => (refine none_mul (by k_asm) (by k_asm) (by is_list) (by lia) ?_; intro _ _ _ _ l1; (try k_lt l1); (try k_sweep))
  k_with "getAttr ref" => (refine getN (errK _) (by with_reducible assumption) (by with_reducible assumption) (by with_reducible assumption) (by k_mem) (by k_mem) (by rfl) (by k_get) (by rfl) ?_)
  k_with "call type:str" => ((with_reducible show wpAny _ _ (call _ [Value.ref _]) _ _ _); refine strN (errK _) (by simp only [Around.deeper_units]; lia) (by with_reducible assumption) (by with_reducible assumption) (by with_reducible assumption) (by k_mem) (by k_mem) ?_)
  k_with "compareOp NotEq ref ref" => (refine ne_tup4 (by with_reducible assumption) (by k_mem) (by k_mem) (by simp only [Around.deeper_units]; lia) (by with_reducible assumption) ?_)
  k_with "compareOp NotEq str str" => (refine ne_strE (by first | (with_reducible assumption) | exact bne_self_eq_false _) ?_)
  k_with "exec If" => ((with_reducible show wpAny _ _ (exec (Stmt.If (Expr.Compare _ _ _ _) _ _ _) _) _ _ _); (rename Obj.IsDictOf _ _ (gkv _) => hZ); (with_reducible refine stop ?_))
  k_with "compareOp NotIn int ref" => (refine kdg_notin (knd := PySem.intKind _ _) (by with_reducible assumption) (by k_mem) (by with_reducible assumption) (by with_reducible assumption) (intKind_is _ _ _ _) _ (by with_reducible assumption) ?_)
  k_with "compareOp In int ref" => (refine kda_in (knd := PySem.intKind _ _) (by with_reducible assumption) (by with_reducible assumption) (by with_reducible assumption) (by with_reducible assumption) (intKind_is _ _ _ _) _ (by with_reducible assumption) ?_)
  k_with "subscriptTail" => ((with_reducible show wpAny _ _ (subscriptTail _ _ (Value.ref _) (Value.int _ _)) _ _ _); first | (refine kda_item (knd := PySem.intKind _ _) (by with_reducible assumption) (by k_mem) (by with_reducible assumption) (intKind_is _ _ _ _) (by with_reducible assumption) ?_) | (refine item_anyN (by with_reducible assumption) (by k_mem) (by with_reducible assumption) (by with_reducible assumption) (by lia) ?_))
  k_with "subscriptTail Name Name ref int" => ((with_reducible show wpAny _ _ (subscriptTail _ _ (Value.ref _) (Value.int _ _)) _ _ _); first | (refine kda_item (knd := PySem.intKind _ _) (by with_reducible assumption) (by k_mem) (by with_reducible assumption) (intKind_is _ _ _ _) (by with_reducible assumption) ?_) | (refine item_anyN (by with_reducible assumption) (by k_mem) (by with_reducible assumption) (by with_reducible assumption) (by lia) ?_))
  k_with "setItem ref int" => (with_reducible refine stop ?_)
  obtain ⟨hd', dp, fr, gd, un⟩ := A
  dsimp only at hh hroom hu
  subst hh
  have hfn0 := hfn
  cases hfn
  dsimp only [List.drop]
  revert X; k_fill; intro X
  have hq : ∀ {k : Nat} {q : Int}, ord[k]? = some q → 0 ≤ q ∧ q ≤ x.length := fun {k q} hk => by
    have h1 := hord.mem_iff.mp (List.mem_of_getElem? hk)
    obtain ⟨j, hj, rfl⟩ := List.mem_map.mp h1
    have := List.mem_range.mp hj
    constructor
    · exact Int.natCast_nonneg j
    · show (j : Int) ≤ _; lia
  unfold mW at F4
  w_strict (k_steps)
  unfold Stop
  (rename Fr _ _ _ _ => F4)
  have hol : ord.length = x.length + 1 := by have := hord.length_eq; simpa using this
  refine for_LF (vs := es) rfl (News.isList N4 (.head _)) (N4 _ (.head _)).2.1 F4 (fun p hp => N4 p (.tail _ hp)) hne
    (GrJ w x t1 L ER RW G ord oc os) ?_ ?_ ?_
  · refine ⟨[], oG, o1, none, _, 0, _, m_put3 rfl rfl rfl, rfl, hG, d1, ?_, ?_, hnd0, hos0⟩
    · exact GridOk.nil
    · refine ⟨by simp, fun k hk hm => by simp at hm, fun k hk _ => ?_⟩
      rw [List.getElem?_replicate, if_pos (by lia)]
  · rintro i v m₁ news₁ h5 tk5 own hv ⟨D, oG', o1', v1, rv, cr, m'', rfl, rfl, hGd, hc1, HG, HR, hnd, hos⟩ hoff hL5 F5 N5
    obtain ⟨e, q, rfl, hqi, HE⟩ := hes i v hv
    obtain ⟨hq0, hq1⟩ := hq hqi
    obtain ⟨de, te, r1, r2, r3, r4, r5, sl, tw, k1, k2, k3, k4, k5, u1, u2, u3, u4, u5, me, mt, md⟩ := HE
    have b1 := ln_bd x hq0 hq1 hx
    have b2 := cn_bd x hq0 hq1 hx
    have hsl := sgn_len hq0 hq1
    have hsok := ok_sgn hq0 hq1 hok
    have N6 : News s.heap L h5 ((G, oG') :: (RW, W.listOf rv.toArray cr) :: (L + 1 + 1, o1') :: (L + 1, oc) :: (e, _) :: (te, _) :: (de, _) :: (inn D ++ (os ++ own))) := fun p hp => N5 p (by
      simp only [List.mem_append, List.mem_cons] at hp ⊢
      rcases hp with h | h | h | h | h | h | h | h | h | h
      · simp [h]
      · simp [h]
      · simp [h]
      · simp [h]
      · rw [h]; exact .inl (.inr (.inr (.inr (.inr (.inr me)))))
      · rw [h]; exact .inl (.inr (.inr (.inr (.inr (.inr mt)))))
      · rw [h]; exact .inl (.inr (.inr (.inr (.inr (.inr md)))))
      · exact .inl (.inr (.inr (.inr (.inr (.inl h)))))
      · exact .inl (.inr (.inr (.inr (.inr (.inr h)))))
      · exact .inr h)
    clear N5 N4 F4
    unfold mW at F5
    w_strict (k_steps)
    unfold Stop
    (rename Fr _ _ _ _ => F7); (rename News _ _ _ _ => N7)
    refine c_readN F7 N7 X T (by simp only [depth_deeper]; lia) rfl hsl (by lia) (by lia) (by lia) (by lia) (by lia) (by lia) ?_
    intro a h8 tk8 v1' v2' v3' v4' F8 N8 hna
    clear F7 N7
    w_strict (k_steps)
    (rename Fr _ _ _ _ => F9); (rename News _ _ _ _ => N9)
    have hT : ∀ p ∈ os ++ own, p.1 ∉ G :: RW :: (L + 1 + 1) :: (L + 1) :: D.map (·.adr) := fun p hp hm => by
      rcases List.mem_append.mp hp with h | h
      · exact hos p h hm
      · have h1 := hoff p h
        have h2 : p.1 ∈ (frt G RW L oG' o1' oc rv cr D).map (·.1) := by rw [frt_adr]; exact hm
        obtain ⟨z, hz, e⟩ := List.mem_map.mp h2
        refine h1 z ?_ e.symm
        simp only [frt, List.mem_cons, List.mem_append] at hz ⊢
        rcases hz with h | h | h | h | h <;> simp [h]
    have N10 : News s.heap L _ ((L + 1 + 1, o1') :: ([(G, oG'), (RW, W.listOf rv.toArray cr)] ++ ((L + 1, oc) :: inn D ++ (os ++ own)))) := nsub N9 (by walk_at "sub")
    clear N9 hna me mt md
    refine storeX_C F9 N10 (c := L + 1 + 1) (by rfl) (.head (upd_off (l := frt G RW L oG' o1' oc rv cr D) (by rw [frt_adr]; exact hnd) (pre := [(G, oG'), (RW, W.listOf rv.toArray cr)]) rfl (by rw [frt_adr]; exact hT))) hc1 ?_ (by rfl) (by rfl)
    intro h11 o11 F11 N11 hc11
    replace N11 : News s.heap L h11 ((G, oG') :: (RW, W.listOf rv.toArray cr) :: (L + 1 + 1, o11) :: (L + 1, oc) :: (inn D ++ (os ++ own))) := nsub N11 (by walk_at "sub")
    have hond : ord.Nodup := hord.nodup_iff.mpr (List.Pairwise.map _ (fun a b h e => h (Int.ofNat.inj e)) List.nodup_range)
    have hrg : ∀ p ∈ ord.take i, 0 ≤ p ∧ p ≤ x.length := fun p hp => by
      obtain ⟨k, hk⟩ := List.mem_iff_getElem?.mp (List.mem_of_mem_take hp)
      exact hq hk
    have hqn : q ∉ ord.take i := fun hm => by
      obtain ⟨k, hk, e⟩ := List.mem_iff_getElem.mp hm
      have hk' : k < i := by simp at hk; lia
      have hi := (List.getElem?_eq_some_iff.mp hqi)
      obtain ⟨hi1, hi2⟩ := hi
      rw [List.getElem_take] at e
      exact absurd ((List.getElem_inj hond).mp (e.trans hi2.symm)) (by lia)
    have hDl : D.length ≤ 91 := HG.len (Nat.le_trans (List.length_take_le _ _) (by have := (List.getElem?_eq_some_iff.mp hv).1; lia))
    w_strict (k_steps)
    unfold Stop
    (rename Fr _ _ _ _ => F12); (rename News _ _ _ _ => N12); (rename Obj.IsDictOf _ _ (gkv _) => hGd)
    obtain ⟨mm, F12⟩ : ∃ mm, Fr s.heap L _ (mQ x t1 ER RW (sgn x q) v1' (cnOf x q) v3' q v4' mm) := fr_putQ F12 rfl rfl rfl rfl rfl rfl
    unfold mQ at F12
    refine wpAny_mono (Q := Mid2 w x L RW G (ord.take i) q oc o11 rv cr (os ++ own) s.heap (mQ x t1 ER RW (sgn x q) v1' (cnOf x q) v3' q v4' mm) s) ?_ ?_ (fun _ _ e => e)
    · by_cases hex : ∃ d ∈ D, d.line = lnOf x q
      · obtain ⟨d, hd, hdl⟩ := id hex
        have hb : (valueAt (gkv D) (lnOf x q)).isSome = true := by rw [← hdl, val_gkv HG.ndl hd]; rfl
        refine wpAny_If ?_
        w_strict (k_steps)
        exact ⟨rfl, D, oG', _, _, rfl, F12, N12, hGd, HG.weak, hex, by lia, hnd, hT⟩
      · have hn : ∀ d ∈ D, lnOf x q ≠ d.line := fun d hd e => hex ⟨d, hd, e.symm⟩
        have hb : (valueAt (gkv D) (lnOf x q)).isSome = false := by rw [val_none hn]; rfl
        refine wpAny_If ?_
        w_strict (k_steps)
        unfold Stop
        (rename Fr _ _ _ _ => F14); (rename News _ _ _ _ => N14); (rename Obj.IsDictOf (PySem.intKind _ _) _ [] => hI14); (rename ((_ == sysModules) = false) => lo14); (rename (_ < _ ∧ _ < _ ∧ _ < _ ∧ _ < _ ∧ AllLt _ _) => l14)
        have hkn : lnOf x q ∉ (gkv D).map (·.1) := fun hm => by
          simp only [gkv, List.map_map, List.mem_map, Function.comp] at hm
          obtain ⟨d, hd, e⟩ := hm
          exact hn d hd e.symm
        have hlt := lt_all _ l14.2.2.2.2
        refine kda_set (knd := IK w) F14 (newsSwap N14) (.head fun p hp => (List.mem_cons.mp hp).elim (fun e => by rw [e]; exact Nat.ne_of_gt l14.1) fun hp => upd_off (l := frt G RW L oG' o11 oc rv cr D) (pre := []) (by rw [frt_adr]; exact hnd) rfl (by rw [frt_adr]; exact hT) p hp) hGd (intKind_is _ _ _ _) (by rw [gkv_len, sizeLine_eq]; lia) ?_
        intro h15 o15 F15 N15 hd15
        rw [stored_new hkn] at hd15
        w_strict (k_steps)
        refine ⟨rfl, D ++ [⟨lnOf x q, _, _, []⟩], o15, _, _, rfl, F15, nsub N15 ?_, ?_, HG.new hI14 lo14 hn, ⟨_, List.mem_append_right _ (.head _), rfl⟩, ?_, ?_, ?_⟩
        · walk_at "sub"
        · simpa [gkv] using hd15
        · simp; lia
        · rw [List.map_append]
          refine nodup_snoc hnd fun hm => ?_
          simp only [List.mem_cons] at hm
          rcases hm with e | e | e | e | e
          · exact absurd l14.1 (e ▸ Nat.lt_irrefl _)
          · exact absurd l14.2.1 (e ▸ Nat.lt_irrefl _)
          · exact absurd l14.2.2.1 (e ▸ Nat.lt_irrefl _)
          · exact absurd l14.2.2.2.1 (e ▸ Nat.lt_irrefl _)
          · obtain ⟨d, hd, e⟩ := List.mem_map.mp e
            have := hlt _ (List.mem_append_left _ (inn_mem hd))
            exact absurd this (e ▸ Nat.lt_irrefl _)
        · intro p hp hm
          rw [List.map_append] at hm
          rcases List.mem_append.mp (show p.1 ∈ (G :: RW :: (L + 1 + 1) :: (L + 1) :: D.map (·.adr)) ++ _ from hm) with h | h
          · exact hT p hp h
          · have := hlt p (List.mem_append_right _ hp)
            simp only [List.map_cons, List.map_nil, List.mem_singleton] at h
            exact absurd this (h ▸ Nat.lt_irrefl _)
    · rintro _ _ ⟨rfl, D', oG'', h13, tk13, rfl, F13, N13, hGd', HG', ⟨d, hd, hdl⟩, hDl', hnd', hT'⟩
      clear F12 N12
      unfold mQ at F13
      have hval : valueAt (gkv D') (lnOf x q) = some (.ref d.adr) := by rw [← hdl]; exact val_gkv HG'.ndl hd
      have hfree := HG'.free hd hrg hq0 hq1 hqn hdl
      have hisS := val_free hfree
      have hmd : (d.adr, d.obj) ∈ (G, oG'') :: (RW, W.listOf rv.toArray cr) :: (L + 1 + 1, o11) :: (L + 1, oc) :: (inn D' ++ (os ++ own)) := .tail _ (.tail _ (.tail _ (.tail _ (List.mem_append_left _ (inn_mem hd)))))
      have hisd := HG'.isd d hd
      have hlod := HG'.lo d hd
      have hrq : rv[q.toNat]? = some .none := HR.free q.toNat (by lia) (by rw [Int.toNat_of_nonneg hq0]; exact hqn)
      have hkl : d.kvs.length ≤ 91 := Nat.le_trans (HG'.kvl hd) (Nat.le_trans (List.length_take_le _ _) (by have := (List.getElem?_eq_some_iff.mp hv).1; lia))
      w_strict (k_steps)
      unfold Stop
      (rename Fr _ _ _ _ => F15); (rename News _ _ _ _ => N15)
      obtain ⟨D1, D2, rfl⟩ := List.append_of_mem hd
      have N16 : News s.heap L _ ((d.adr, d.obj) :: ((G, oG'') :: (RW, W.listOf rv.toArray cr) :: (L + 1 + 1, o11) :: (L + 1, oc) :: inn D1 ++ (inn D2 ++ (os ++ own)))) := nsub N15 (by walk_at "sub")
      refine kda_set (knd := IK w) F15 N16 (.head (upd_off (l := frt G RW L oG'' o11 oc rv cr (D1 ++ d :: D2)) (pre := (G, oG'') :: (RW, W.listOf rv.toArray cr) :: (L + 1 + 1, o11) :: (L + 1, oc) :: inn D1) (o := d.obj) (by rw [frt_adr]; exact hnd') (by simp [frt, inn]) (by rw [frt_adr]; exact hT'))) hisd (intKind_is _ _ _ _) (by rw [sizeLine_eq]; lia) ?_
      intro h17 o17 F17 N17 hd17
      clear N15 N16 F15
      have hnd2 : (G :: RW :: (L + 1 + 1) :: (L + 1) :: (D1 ++ (⟨d.line, d.adr, o17, stored d.kvs (cnOf x q) (.str (sgn x q) v1')⟩ : LD) :: D2).map (·.adr)).Nodup := by
        rw [List.map_append, List.map_cons] at hnd' ⊢; exact hnd'
      have hT2 : ∀ p ∈ os ++ own, p.1 ∉ G :: RW :: (L + 1 + 1) :: (L + 1) :: (D1 ++ (⟨d.line, d.adr, o17, stored d.kvs (cnOf x q) (.str (sgn x q) v1')⟩ : LD) :: D2).map (·.adr) := by
        rw [List.map_append, List.map_cons] at hT' ⊢; exact hT'
      have HG2 := HG'.put hdl hfree hd17
      have hgk : gkv (D1 ++ (⟨d.line, d.adr, o17, stored d.kvs (cnOf x q) (.str (sgn x q) v1')⟩ : LD) :: D2) = gkv (D1 ++ d :: D2) := by simp [gkv]
      rw [← hgk] at hGd'
      generalize hD2 : D1 ++ (⟨d.line, d.adr, o17, stored d.kvs (cnOf x q) (.str (sgn x q) v1')⟩ : LD) :: D2 = DD at hnd2 hT2 HG2 hGd'
      replace N17 : News s.heap L h17 ((RW, W.listOf rv.toArray cr) :: ([(G, oG'')] ++ ((L + 1 + 1, o11) :: (L + 1, oc) :: inn DD ++ (os ++ own)))) := nsub N17 (by rw [← hD2]; walk_at "sub")
      w_strict (k_steps)
      unfold Stop
      (rename Fr _ _ _ _ => F18); (rename News _ _ _ _ => N18)
      refine set_itemN F18 N18 (upd_off (l := frt G RW L oG'' o11 oc rv cr DD) (pre := [(G, oG'')]) (by rw [frt_adr]; exact hnd2) rfl (by rw [frt_adr]; exact hT2)) hq0 (by rw [HR.len]; lia) (by lia) ?_
      intro h19 F19 N19
      w_strict (k_steps)
      have htk : ord.take (i + 1) = ord.take i ++ [q] := by rw [List.take_add_one, hqi]; rfl
      refine ⟨_, _, _, (G, oG'') :: (RW, W.listOf (rv.set q.toNat (.str (sgn x q) v1')).toArray cr) :: (L + 1 + 1, o11) :: (L + 1, oc) :: (inn DD ++ os), rfl, F19, ?_, ?_, DD, oG'', o11, _, _, cr, _, m_put3 rfl rfl rfl, rfl, hGd', hc11, ?_, ?_, hnd2, fun p hp => hT2 p (List.mem_append_left _ hp)⟩
      · exact nsub N19 (by walk_at "sub")
      · intro p hp z hz e
        have h1 := hT2 p (List.mem_append_right _ hp)
        rcases List.mem_append.mp (show z ∈ frt G RW L oG'' o11 oc (rv.set q.toNat (.str (sgn x q) v1')) cr DD ++ os from hz) with h | h
        · exact h1 (by rw [← frt_adr (oG := oG'') (o1 := o11) (oc := oc) (rv := rv.set q.toNat (.str (sgn x q) v1')) (cr := cr)]; exact List.mem_map.mpr ⟨z, h, e.symm⟩)
        · exact hoff p hp z (.tail _ (.tail _ (.tail _ (.tail _ (List.mem_append_right _ h))))) e
      · rw [htk]; exact HG2
      · rw [htk]
        have := HR.set (t := v1') (k := q.toNat) (by lia)
        rwa [Int.toNat_of_nonneg hq0] at this
  · rintro m₁ news₁ h5 tk5 ⟨D, oG', o1', v1, rv, cr, m'', rfl, rfl, hGd, hc1, HG, HR, hnd, hos⟩ F5 N5
    rw [hel, ← hol, List.take_length] at HG HR
    exact c_seg3 (s := s) (A := ⟨none, dp, fr, gd, un⟩) hfn0 X T hroom hu rfl hx loG dc hord hGd hc1 HG HR hnd hos F5 N5 h
end
end Mine

-- part W6
open PySem PySem.W PyProof.Rows PySem.Calls
set_option Elab.async false
set_option maxRecDepth 100000
set_option maxHeartbeats 8000000
set_option rowWalk.seconds 0
namespace Mine
section
local macro_rules | `(tactic| walk_at "binaryOp Mult ref int") => `(tactic| (refine none_mul (by k_asm) (by k_asm) (by is_list) (by lia) ?_; intro D' h' F' N' l1; (try k_lt l1); (try k_sweep)))
theorem c_whole {w : World} {A : Around} {s : Shared} {Q E : Value → Shared → Prop} {p : Program} {loose : List Str} {mg mb : Str → Option Value} {x : Str} {tv : Int} {t1 t2 : Tok}
    (X : (hd.heap_39 w.params).In s.heap) (T : TopRead p loose mg mb s.heap) (hroom : A.depth + 20 < recursionLimit) (hu : A.units + 100 < cLine) (hh : A.handled = none)
    (hx : x.length ≤ 90) (hok : PyData.strOk x = true) (ht0 : 0 ≤ tv) (ht1 : tv ≤ 2000)
    (h : ∀ h' tk, Keeps s.heap h' → Q (.bool true) { s with heap := h', toks := tk }) :
    wpAny (model PySem.Challenge.rw_dm0193_02.row.prog w) A (call (.ref 74) [.str x t1, .int tv t2]) Q E s := by
  k_with_none
  k_with "sub" => (intro p hp; (simp only [inn, frt, List.map_append, List.map_cons, List.map_nil, List.mem_append, List.mem_cons, List.not_mem_nil, or_false, false_or, or_assoc] at hp ⊢); (repeat' (with_reducible refine Or.elim hp (fun hp => ?_) (fun hp => ?_))) <;> simp only [hp, true_or, or_true])
  k_with "call ref" => (with_reducible refine stop ?_)
  k_with "pyIter ref" => (with_reducible refine stop ?_)
  k_with "exec For Name Name cons nil" => ((rename Fr _ _ _ _ => lF'); (with_unfolding_all refine' For_turns lF' ?_))
  k_with "exec For Name Call cons nil" => ((rename Fr _ _ _ _ => lF'); (with_unfolding_all refine' For_turns lF' ?_))
  k_with "getAttr ref" => (refine getN (errK _) (by with_reducible assumption) (by with_reducible assumption) (by with_reducible assumption) (by k_mem) (by k_mem) (by rfl) (by k_get) (by rfl) ?_)
  k_with "call type:str" => ((with_reducible show wpAny _ _ (call _ [Value.ref _]) _ _ _); refine strN (errK _) (by simp only [Around.deeper_units]; lia) (by with_reducible assumption) (by with_reducible assumption) (by with_reducible assumption) (by k_mem) (by k_mem) ?_)
  k_with "compareOp NotEq ref ref" => (refine ne_tup4 (by with_reducible assumption) (by k_mem) (by k_mem) (by simp only [Around.deeper_units]; lia) (by with_reducible assumption) ?_)
  k_with "compareOp NotEq str str" => (refine ne_strE (by first | (with_reducible assumption) | exact bne_self_eq_false _) ?_)
  k_with "exec If" => ((with_reducible show wpAny _ _ (exec (Stmt.If (Expr.Compare _ _ _ _) _ _ _) _) _ _ _); (rename Obj.IsDictOf _ _ (gkv _) => hZ); (with_reducible refine stop ?_))
  k_with "compareOp NotIn int ref" => (refine kdg_notin (knd := PySem.intKind _ _) (by with_reducible assumption) (by k_mem) (by with_reducible assumption) (by with_reducible assumption) (intKind_is _ _ _ _) _ (by with_reducible assumption) ?_)
  k_with "compareOp In int ref" => (refine kda_in (knd := PySem.intKind _ _) (by with_reducible assumption) (by with_reducible assumption) (by with_reducible assumption) (by with_reducible assumption) (intKind_is _ _ _ _) _ (by with_reducible assumption) ?_)
  k_with "subscriptTail" => ((with_reducible show wpAny _ _ (subscriptTail _ _ (Value.ref _) (Value.int _ _)) _ _ _); first | (refine kda_item (knd := PySem.intKind _ _) (by with_reducible assumption) (by k_mem) (by with_reducible assumption) (intKind_is _ _ _ _) (by with_reducible assumption) ?_) | (refine item_anyN (by with_reducible assumption) (by k_mem) (by with_reducible assumption) (by with_reducible assumption) (by lia) ?_))
  k_with "subscriptTail Name Name ref int" => ((with_reducible show wpAny _ _ (subscriptTail _ _ (Value.ref _) (Value.int _ _)) _ _ _); first | (refine kda_item (knd := PySem.intKind _ _) (by with_reducible assumption) (by k_mem) (by with_reducible assumption) (intKind_is _ _ _ _) (by with_reducible assumption) ?_) | (refine item_anyN (by with_reducible assumption) (by k_mem) (by with_reducible assumption) (by with_reducible assumption) (by lia) ?_))
  k_with "setItem ref int" => (with_reducible refine stop ?_)
  obtain ⟨hd', dp, fr, gd, un⟩ := A
  dsimp only at hh hroom hu
  subst hh
  revert X; k_fill; intro X
  refine enterC (binds := [("text", .str x t1), ("turn", .int tv t2)]) X T (by rfl) (by rfl) (by show dp < _; lia) (BindsTo.of_eq rfl) (by rfl) (by decide +kernel) ?_
  intro L h₁ tk cells F N Y
  obtain ⟨o1, o2, rfl, d1, d2⟩ := CellsAre.two Y
  replace d1 : o1.data = .cell none := d1
  replace d2 : o2.data = .cell none := d2
  clear Y
  w_strict (k_steps)
  unfold Stop
  (rename Fr _ _ _ _ => F2); (rename News _ _ _ _ => N2)
  rename_i ER _ lE G _ oG loG _ _ hG _ lG RWs _ lRs RW _ lR TP _ lT _ _ _ oc dc _
  rw [show ((x.length : Int) + 1) = ((x.length + 1 : Nat) : Int) from rfl]
  refine c_orderN (n := x.length + 1) F2 (news := [(RW, W.listOf (List.replicate (x.length + 1) Value.none).toArray 0), (G, oG), (ER, W.listOf #[] 0), (L + 1 + 1, o1), (L + 1, oc)]) ?_ X T (by simp only [depth_deeper]; lia) rfl (by lia) ht0 ht1 ?_
  · intro p hp
    refine N2 p ?_
    simp only [List.mem_cons, List.not_mem_nil, or_false] at hp ⊢
    rcases hp with rfl | rfl | rfl | rfl | rfl <;> simp
  intro OR h3 tk3 vs ord c3 F3 N3 lO I3 hord
  w_strict (k_steps)
  unfold Stop
  have hq : ∀ {k : Nat} {q : Int}, ord[k]? = some q → 0 ≤ q ∧ q ≤ x.length := fun {k q} hk => by
    have h1 := hord.mem_iff.mp (List.mem_of_getElem? hk)
    obtain ⟨j, hj, rfl⟩ := List.mem_map.mp h1
    have := List.mem_range.mp hj
    constructor
    · exact Int.natCast_nonneg j
    · show (j : Int) ≤ _; lia
  have lO' : ER ≠ OR := ne_of_or (lO (ER, W.listOf #[] 0) (by simp))
  refine for_LF (vs := vs) rfl (News.isList N3 (.head _)) (N3 _ (.head _)).2.1 F3
    (news := (ER, W.listOf ([] : List Value).toArray 0) :: ([(RW, W.listOf (List.replicate (x.length + 1) Value.none).toArray 0), (G, oG), (L + 1 + 1, o1), (L + 1, oc)] ++ [])) ?_ ?_
    (ErJ w x t1 ER RW ord [(RW, W.listOf (List.replicate (x.length + 1) Value.none).toArray 0), (G, oG), (L + 1 + 1, o1), (L + 1, oc)]) ?_ ?_ ?_
  · intro p hp
    refine N3 p ?_
    simp only [List.append_nil, List.mem_cons, List.not_mem_nil, or_false] at hp ⊢
    rcases hp with rfl | rfl | rfl | rfl | rfl <;> simp
  · intro p hp
    exact ne_of_or (lO p (by
      simp only [List.append_nil, List.mem_cons, List.not_mem_nil, or_false] at hp ⊢
      rcases hp with rfl | rfl | rfl | rfl | rfl <;> simp))
  · refine ⟨[], 0, [], _, m_put3 rfl rfl rfl, rfl, rfl, fun k v hk => by simp at hk, ?_, fun q hq => nomatch hq⟩
    intro p hp
    simp only [List.append_nil, List.mem_cons, List.not_mem_nil, or_false] at hp
    rcases hp with rfl | rfl | rfl | rfl
    · exact Nat.ne_of_gt lR.2.2.1
    · exact Nat.ne_of_gt lG.1
    · exact Nat.ne_of_lt lE.1
    · exact Nat.ne_of_lt lE.2
  · rintro i v m₁ news₁ h4 tk4 own hv ⟨es, c, os, m', rfl, rfl, hlen, hes, hne, hof⟩ hoff hL4 F4 N4
    obtain ⟨q, tq, hqi, rfl⟩ := Mine.IntsAre.at I3 hv
    obtain ⟨hq0, hq1⟩ := hq hqi
    have hoff' : OwnOff (os ++ own) [ER] := fun p hp b hb => by
      rw [List.mem_singleton.mp hb]
      rcases List.mem_append.mp hp with hp | hp
      · exact hne p (List.mem_append_right _ hp)
      · exact hoff p hp _ (.head _)
    have N5 : News s.heap L h4 ((ER, W.listOf es.toArray c) :: (RW, W.listOf (List.replicate (x.length + 1) Value.none).toArray 0) :: (G, oG) :: (L + 1 + 1, o1) :: (L + 1, oc) :: (os ++ own)) := fun p hp => N4 p (by simpa [List.append_assoc] using hp)
    clear N4 N3 F3 N2 F2
    unfold mW at F4
    w_strict (k_steps)
    unfold Stop
    (rename Fr _ _ _ _ => F6); (rename News _ _ _ _ => N6); (rename (Txt.slice x _ _).length ≤ _ => hsl)
    have b1 := ln_bd x hq0 hq1 hx
    have b2 := cn_bd x hq0 hq1 hx
    refine c_makeN F6 N6 X T (by simp only [depth_deeper]; lia) (by lia) (log_sm (by lia) (by lia)) (log_sm (by lia) (by lia)) (log_sm (by lia) (by lia)) ?_
    intro h7 tk7 e os' F7 N7 hfr HE
    have hoff7 : OwnOff (os' ++ (os ++ own)) [ER] := fun p hp b hb => by
      rcases List.mem_append.mp hp with hp | hp
      · rw [List.mem_singleton.mp hb]
        intro e
        have h1 := (N6 _ (.head _)).1
        have h2 := hfr p hp
        rw [e] at h2
        exact absurd (h1.symm.trans h2) (by simp)
      · exact hoff' p hp b hb
    replace N7 : News s.heap L h7 ((ER, W.listOf es.toArray c) :: (RW, W.listOf (List.replicate (x.length + 1) Value.none).toArray 0) :: (G, oG) :: (L + 1 + 1, o1) :: (L + 1, oc) :: (os' ++ (os ++ own))) := fun p hp => N7 p (by
      simp only [List.mem_append, List.mem_cons] at hp ⊢
      rcases hp with h | h | h | h | h | h | h | h <;> simp [h])
    have hoo : ∀ p ∈ own, ∀ q ∈ os', p.1 ≠ q.1 := fun p hp q hq e => by
      have h1 := (N6 p (by simp [hp])).1
      have h2 := hfr q hq
      rw [← e] at h2
      exact absurd (h1.symm.trans h2) (by simp)
    have hof' : ∀ q ∈ os', ∀ p ∈ [(RW, W.listOf (List.replicate (x.length + 1) Value.none).toArray 0), (G, oG), (L + 1 + 1, o1), (L + 1, oc)], q.1 ≠ p.1 := fun q hq p hp e => by
      have h1 := (N6 p (.tail _ (List.mem_append_left _ hp))).1
      have h2 := hfr q hq
      rw [e] at h2
      exact absurd (h1.symm.trans h2) (by simp)
    clear F6 N6
    have hall : ∀ p ∈ (RW, W.listOf (List.replicate (x.length + 1) Value.none).toArray 0) :: (G, oG) :: (L + 1 + 1, o1) :: (L + 1, oc) :: (os' ++ (os ++ own)), p.1 ≠ ER := fun p hp => by
      have hp' : p ∈ [(RW, W.listOf (List.replicate (x.length + 1) Value.none).toArray 0), (G, oG), (L + 1 + 1, o1), (L + 1, oc)] ++ os ∨ p ∈ os' ++ (os ++ own) := by
        simp only [List.mem_append, List.mem_cons] at hp ⊢
        rcases hp with h | h | h | h | h | h | h <;> simp [h]
      rcases hp' with hp | hp
      · exact hne p hp
      · exact hoff7 p hp _ (.head _)
    have hle : es.length ≤ 91 := by
      have h1 := (List.getElem?_eq_some_iff.mp hqi).1
      have h2 := hord.length_eq
      simp at h2; lia
    w_strict (k_steps)
    (rename Fr _ _ _ _ => F8); (rename News _ _ _ _ => N8)
    rw [List.push_toArray] at N8
    refine ⟨_, _, _, (ER, W.listOf (es ++ [Value.ref e]).toArray (c + 1)) :: ([(RW, W.listOf (List.replicate (x.length + 1) Value.none).toArray 0), (G, oG), (L + 1 + 1, o1), (L + 1, oc)] ++ (os' ++ os)), rfl, F8, ?_, ?_, es ++ [Value.ref e], c + 1, os' ++ os, _, m_put3 rfl rfl rfl, rfl, ?_, ?_, ?_, ?_⟩
    · intro p hp
      exact N8 p (by simpa [List.append_assoc] using hp)
    · intro p hp q hq
      have : q ∈ (ER, W.listOf es.toArray c) :: ([(RW, W.listOf (List.replicate (x.length + 1) Value.none).toArray 0), (G, oG), (L + 1 + 1, o1), (L + 1, oc)] ++ os) ∨ q ∈ os' ∨ q.1 = ER := by
        simp only [List.mem_append, List.mem_cons, List.not_mem_nil, or_false] at hq ⊢
        rcases hq with h | h | h | h
        · exact .inr (.inr (by rw [h]))
        · exact .inl (.inr (.inl h))
        · exact .inr (.inl h)
        · exact .inl (.inr (.inr h))
      rcases this with h | h | h
      · exact hoff p hp q h
      · exact hoo p hp q h
      · rw [h]; exact hoff p hp _ (.head _)
    · simp [hlen]
    · intro k v hk
      by_cases hki : k < es.length
      · rw [List.getElem?_append_left hki] at hk
        obtain ⟨e0, q0, r1, r2, r3⟩ := hes k v hk
        exact ⟨e0, q0, r1, r2, ErrIn.sub r3 fun p hp => List.mem_append_right _ hp⟩
      · have hk2 : k = es.length := by
          have := (List.getElem?_eq_some_iff.mp hk).1
          simp at this; lia
        subst hk2
        have : v = .ref e := by simpa using hk.symm
        rw [this]
        exact ⟨e, q, rfl, by rw [hlen]; exact hqi, ErrIn.sub HE fun p hp => List.mem_append_left _ hp⟩
    · intro p hp
      have : p ∈ [(RW, W.listOf (List.replicate (x.length + 1) Value.none).toArray 0), (G, oG), (L + 1 + 1, o1), (L + 1, oc)] ++ os ∨ p ∈ os' := by
        simp only [List.mem_append, List.mem_cons, List.not_mem_nil, or_false] at hp ⊢
        rcases hp with h | h | h
        · exact .inl (.inl h)
        · exact .inr h
        · exact .inl (.inr h)
      rcases this with h | h
      · exact hne p h
      · exact hoff7 p (List.mem_append_left _ h) _ (.head _)
    · intro q hq
      rcases List.mem_append.mp hq with h | h
      · exact hof' q h
      · exact hof q h
  · rintro m₁ news₁ h4 tk4 ⟨es, c, os, m', rfl, rfl, hlen, hes, hne, hof⟩ F4 N4
    have hol : ord.length = x.length + 1 := by have := hord.length_eq; simpa using this
    have hel : es.length = x.length + 1 := by rw [hlen, ← hol]; exact I3.length
    have hnd0 : (G :: RW :: (L + 1 + 1) :: (L + 1) :: ([] : List LD).map (·.adr)).Nodup := by
      have a1 : G ≠ RW := Nat.ne_of_lt lR.2.1
      have a2 : G ≠ L + 1 + 1 := Nat.ne_of_gt lG.2.1
      have a3 : G ≠ L + 1 := Nat.ne_of_gt lG.2.2
      have a4 : RW ≠ L + 1 + 1 := Nat.ne_of_gt lR.2.2.2.1
      have a5 : RW ≠ L + 1 := Nat.ne_of_gt lR.2.2.2.2
      have a6 : L + 1 + 1 ≠ L + 1 := Nat.succ_ne_self _
      simp only [List.map_nil, List.nodup_cons, List.mem_cons, List.not_mem_nil, or_false, not_or, not_false_eq_true, List.nodup_nil, and_true]
      exact ⟨⟨a1, a2, a3⟩, ⟨a4, a5⟩, a6⟩
    have hos0 : ∀ p ∈ os, p.1 ∉ G :: RW :: (L + 1 + 1) :: (L + 1) :: ([] : List LD).map (·.adr) := fun p hp hm => by
      have h1 := hof p hp
      simp only [List.map_nil, List.mem_cons, List.not_mem_nil, or_false] at hm
      rcases hm with e | e | e | e
      · exact h1 (G, oG) (by simp) e
      · exact h1 (RW, _) (.head _) e
      · exact h1 (L + 1 + 1, o1) (by simp) e
      · exact h1 (L + 1, oc) (by simp) e
    refine c_seg2 (s := s) (c := c) (A := ⟨none, dp, fr, gd, un⟩) (by rfl) X T hroom hu rfl hx hok loG dc hG d1 hord hel hes hnd0 hos0 ?_ F4 (nsub N4 ?_) h
    · intro p hp
      refine hne p ?_
      simp only [List.mem_append, List.mem_cons, List.not_mem_nil, or_false, inn, List.map_nil, false_or] at hp ⊢
      rcases hp with h | h | h | h | h <;> simp [h]
    · intro p hp
      simp only [List.mem_append, List.mem_cons, List.not_mem_nil, or_false, inn, List.map_nil, false_or] at hp ⊢
      rcases hp with h | h | h | h | h | h <;> simp [h]
end
end Mine

-- part L2
open PySem PySem.W PyProof.Rows PySem.Calls
set_option Elab.async false
set_option maxRecDepth 100000
set_option maxHeartbeats 8000000
set_option rowWalk.seconds 0
namespace Mine
theorem ok_rev {x : Str} {u : Tok} (h : PyData.strOk x = true) : PyData.strOk (Txt.sliceBy x none none (-1, u)) = true := by
  rw [ok_iff] at h ⊢
  intro c hc
  rw [show Mine.lst (Txt.sliceBy x none none (-1, u)) = _ from step_rev_list x u] at hc
  obtain ⟨k, hk, rfl⟩ := List.mem_map.mp hc
  have hk' := List.mem_range.mp hk
  have hlt : x.length - 1 - k < x.cps.size := by show x.length - 1 - k < x.length; omega
  refine h _ ?_
  rw [Array.getD_eq_getD_getElem?, Array.getElem?_eq_getElem hlt]
  exact Array.getElem_mem_toList hlt
section
theorem c_law {w : World} {A : Around} {s : Shared} {Q E : Value → Shared → Prop} {p : Program} {loose : List Str} {mg mb : Str → Option Value} {l : Addr} {vs : List Value} {ns : List Int}
    (X : (hd.heap_39 w.params).In s.heap) (T : TopRead p loose mg mb s.heap) (hroom : A.depth + 30 < recursionLimit) (hu : A.units + 110 < cLine) (hh : A.handled = none)
    (hl : s.heap.IsList l vs.toArray) (hi : IntsAre vs ns) (hn : ns.length ≤ 63)
    (h : ∀ h' tk, Keeps s.heap h' → Q (.bool true) { s with heap := h', toks := tk }) :
    wpAny (model PySem.Challenge.rw_dm0193_02.row.prog w) A (call (.ref 81) [.ref l]) Q E s := by
  k_with_none
  k_with "call ref" => (with_reducible refine stop ?_)
  obtain ⟨hd', dp, fr, gd, un⟩ := A
  dsimp only at hh hroom hu
  subst hh
  revert X; k_fill; intro X
  refine enterK (binds := [("script", .ref l)]) X T (by rfl) (by rfl) (by show dp < _; omega) (BindsTo.of_eq rfl) (locs rfl) ?_
  intro L h₁ F N
  w_strict (k_steps)
  unfold Stop
  refine c_txt (X.keeps F.keep) (T.keeps F.keep) (by simp only [depth_deeper]; omega) rfl (hl.at fun o e => F.keep _ _ e) hi hn ?_
  intro x h2 tk2 t2 hx hok hk2
  replace F := F.keeps hk2
  replace N := N.grown hk2
  w_strict (k_steps)
  unfold Stop
  (rename Fr _ _ _ _ => F3); (rename News _ _ _ _ => N3)
  have b0 := Int.fmod_nonneg_of_pos ns.sum (show (0 : Int) < 1009 by decide)
  have b1 := Int.fmod_lt_of_pos ns.sum (show (0 : Int) < 1009 by decide)
  refine c_whole (X.keeps F3.keep) (T.keeps F3.keep) (by simp only [depth_deeper]; omega) (by simp only [Around.deeper_units]; omega) rfl hx hok b0 (by omega) ?_
  intro h4 tk4 hk4
  replace F3 := F3.keeps hk4
  replace N3 := N3.grown hk4
  w_strict (k_steps)
  unfold Stop
  (rename Fr _ _ _ _ => F5)
  refine c_whole (X.keeps F5.keep) (T.keeps F5.keep) (by simp only [depth_deeper]; omega) (by simp only [Around.deeper_units]; omega) rfl (by rw [step_rev_len]; exact hx) (ok_rev hok) (by omega) (by omega) ?_
  intro h6 tk6 hk6
  exact h _ _ (F5.keeps hk6).keep
end
end Mine

-- part B2
open PySem PySem.W PyProof.Rows PySem.Calls PyProof.V PySem.Spec
set_option Elab.async false
set_option maxRecDepth 100000
set_option maxHeartbeats 8000000
set_option rowWalk.seconds 0
namespace Mine
theorem lawHolds : PySem.Challenge.rw_dm0193_02.Holds := by
  refine Mine.hd ?_
  k_fill
  intro w s₀ s₁ mg mb G Y fa o pm cd doc dV kV ho hd hcd hD hmg hg args vals as hpre hlay hrd hwl hlo
  have KX := kIn_of Y
  refine Ground.open G ?_
  intro T B D TE TW
  try (refine guard_noD D (by decide +kernel) ?_; clear D)
  obtain ⟨_, _, M⟩ := bmod_of_top T
  wrow_args hpre hlay hrd hwl hlo
  rename_i ns _ _ _ _ _ _ _ S vs _ hL _ _ _ hI _ hcond _
  have e83 : mg (Str.ofString "law") = some (.ref 81) := mg_of KX T.g (by k_is)
  have hfa : fa = 81 := by
    have h1 : mg (Str.ofString "law") = some (.ref fa) := hmg
    rw [e83] at h1; cases h1; rfl
  subst hfa
  show wpAny _ callerA (call (Value.ref 81) [Value.ref S]) _ _ s₁
  refine c_law KX (topRead_of T) (by decide) (by decide) rfl hL hI (by omega) ?_
  intro h' tk hk
  refine ⟨.inl ⟨.bool true, ofPy (.bool true), [], rfl, raisesW_false (by wrow_none_raised), ?_, ?_, unshared_nil⟩, OldK.of_keep hk, rfl, AllBare.of_eq hg⟩
  · exact readsW_of_reads (Reads.bool true)
  · exact postW_of (by wrow_shape) (by wtm_val) (by str_meet; first | done | w_fin)
end Mine


theorem PySem.Challenge.cw_dm0193_02_holds : PySem.Challenge.rw_dm0193_02.Holds :=
  Mine.lawHolds
