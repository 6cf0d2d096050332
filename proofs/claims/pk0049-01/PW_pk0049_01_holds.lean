import PyProof.Rows.All
import Wide.All
import OpenK.AllK
import Wide.FinOn
import KE.KNest
import PyProof.Rows.StrWeight2
import KE.KxSplit
import KE.KItemsList
import PyProof.Rows.GenRowsTF
import PyProof.SumAny
import KE.KNestM
import Lean
import PySem.Challenge.RW_pk0049_01
set_option Elab.async false
set_option compiler.extract_closed false
set_option maxRecDepth 100000
set_option maxHeartbeats 8000000
set_option linter.all false
/- Head -/
section
open PySem PySem.W PyProof.Rows
set_option maxHeartbeats 8000000
namespace Mine
def view : Program := { PySem.Challenge.pw_pk0049_01 with main := { PySem.Challenge.pw_pk0049_01.main with body := (PySem.Challenge.pw_pk0049_01.main.body.zipIdx.filter fun x => x.2 != 1 && x.2 != 4 && x.2 != 9).map (·.1) } }
set_option hygiene false in
local macro_rules | `(tactic| o_head (kHook $K $as $pf)) => `(tactic| (refine holds_open (q := Mine.view) (loose := [Str.ofString "_Accumulator"]) (Xt := fun s => xlAt Mine.view [] s && recOk (RowW.records PySem.Challenge.rw_pk0049_01.row.toRowW) s) (XP := XL Mine.view []) (Yf := Hook.obs (kmHook $K $as $pf [63, 70])) (Ya := Hook.val (kmHook $K $as $pf [63, 70])) (YP := Hook.says (kmHook $K $as $pf [63, 70])) (N := 2614) ?hl (Hook.of (kmHook $K $as $pf [63, 70])) (Hook.keeps (kmHook $K $as $pf [63, 70])) (fun s e => xl_of s (Bool.and_eq_true_iff.mp e).1) XL.keeps (by rfl) (by rfl) (by rfl) (fun s e => recFacts_of (Bool.and_eq_true_iff.mp e).2) (by first | rfl | fail "writes") (by first | assumption | decide +kernel) (by decide +kernel) ⟨rfl, rfl, rfl, rfl, rfl, by decide +kernel⟩ ?hw ?hc; case hl => exact fun w => by kernel_rfl))
open_top hd for PySem.Challenge.rw_pk0049_01
theorem top_off : True := by w_top off; exact trivial
end Mine

end
local macro_rules | `(tactic| walk_at $s:str) => `(tactic| k_extra $s)
local macro_rules | `(tactic| omega) => `(tactic| lia)
/- A1 -/
section
open PySem PySem.W PyProof.Rows PySem.Calls PySem.Spec Builtin
set_option maxHeartbeats 8000000
namespace Mine

abbrev accO (D : Addr) (its : Array Value) (n : Nat) : Obj := { cls := .ref 101, dict := some D, data := .seq its n }

theorem clsAcc (w : World) : ∃ cd, clsIn (hd.heap_39 w.params) 101 = some cd ∧ cd.mro = [.ref 101, .type "list", .type "object"] ∧ cd.abstract = false ∧ cd.hasDel = false ∧ cd.hasDict = true :=
  ⟨_, by k_is, rfl, rfl, rfl, rfl⟩

theorem made_acc {w : World} {M : Model} {h : Heap} (X : (hd.heap_39 w.params).In h) : Looks M h (Bind.madeBy (.ref 101)) (some "list.__new__") := by
  intro A Q E s k q
  have hm : Looks M h (mroOf (.ref 101)) [.ref 101, .type "list", .type "object"] := (looks_clsIn X (by k_is)).andThen .now
  unfold Bind.madeBy
  refine wpAny_bind (hm A _ E s k ?_)
  rw [List.forIn_cons]
  refine wpAny_bind (wpAny_bind (wpAny_bind (wpAny_bind (wpAny_loadPart (k _ _ (X 101 _ (by k_is))) (wpAny_pure ?_)))))
  exact wpAny_pure (wpAny_pure (wpAny_pure q))
theorem base_acc {w : World} {M : Model} {h : Heap} (X : (hd.heap_39 w.params).In h) : Looks M h (Bind.staticBase (.ref 101)) (.ref 101) := by
  intro A Q E s k q
  have hm : Looks M h (mroOf (.ref 101)) [.ref 101, .type "list", .type "object"] := (looks_clsIn X (by k_is)).andThen .now
  unfold Bind.staticBase
  refine wpAny_bind (hm A _ E s k ?_)
  rw [List.forIn_cons]
  exact wpAny_bind (wpAny_bind (wpAny_bind (made_acc X A _ E s k (wpAny_pure (wpAny_pure (wpAny_pure q))))))

theorem new_acc {prog : Program} {w : World} {A : Around} {R : Result → Shared → Prop} {h : Heap} {g : Array GenState} {d : Drawn} {t : Nat} {os : OsState} {a : Value} (X : (hd.heap_39 w.params).In h)
    (hq : R (.ok (.ret (.ref (h.objs.size + 1)))) ⟨(h.push emptyDict).push (accO h.objs.size #[] 0), g, d, t, os⟩) :
    codeAny (model prog w) A (.call (.builtin "list.__new__") ⟨[.ref 101, a], []⟩) R ⟨h, g, d, t, os⟩ := by
  refine codeAny_of_tree ?_
  show wpAny _ A.in1 (do checkBuiltinCall "list.__new__" ⟨[.ref 101, a], []⟩; again (.builtin "list.__new__" ⟨[.ref 101, a], []⟩)) _ _ _
  have hk : builtinKind "list.__new__" = some .builtinFn := by decide +kernel
  have hsp : splitId "list.__new__" = some ("list", "__new__") := by decide +kernel
  have made := made_acc (M := model prog w) X
  have base := base_acc (M := model prog w) X
  have hty : Looks (model prog w) h (isType (.ref 101)) true := by
    have h101 := X 101 _ (by k_is)
    intro A Q E s k q
    have := k _ _ h101
    unfold isType
    repeat (first | exact q | lk)
  have hsub : Looks (model prog w) h (isSubtype (.ref 101) (.type "list")) true := looks_mroIn X (by k_is)
  simp only [checkBuiltinCall, hk, hsp]
  repeat (first | simp only [bne_self_eq_false, Bool.false_eq_true, if_false, Bool.not_true] | lk)
  refine ⟨plainId_quiet F.plain_list_new _, codeAny_builtin_stack F.entry_list_new rfl fun p st => ?_⟩
  rw [Around.under_plainId F.plain_list_new _]
  have hown := owner_list_new
  simp only [hown]
  have h101 := X 101 _ (by k_is)
  repeat (first | exact hq | lk | wp_step | simp only [bne_self_eq_false, Bool.false_eq_true, if_false, Bool.not_true])
  refine nd_load (Heap.get?_push_of_some _ (Heap.get?_push_of_some _ h101)) ?_
  repeat (first | lk | simp only [Bool.false_eq_true, if_false])
  rw [Heap.size_push]
  exact hq

/-- the call `_Accumulator(head)`, up to its __init__ -/
theorem make_acc {prog : Program} {w : World} {A : Around} {h₀ : Heap} {L : Addr} {m : Str → Option Value} {news : List (Addr × Obj)} {s : Shared} {Q E : Value → Shared → Prop} {a : Value} (F : Fr h₀ L s.heap m) (N : News h₀ L s.heap news) (X₀ : (hd.heap_39 w.params).In h₀)
    (hq : ∀ x dx h', Fr h₀ L h' m → News h₀ L h' ((x, accO dx #[] 0) :: (dx, dictOf [] 0) :: news) → (∀ p ∈ news, p.1 < dx) → dx < x →
      codeAny (model prog w) (A.under (.builtin "type.__call__" ⟨[.ref 101, a], []⟩)) (.call (.ref 38) ⟨[.ref x, a], []⟩) (InitBack x fun r s' => match r with | .ok (.ret v) => Q v s' | .ok _ => False | .error e => E e s') { s with heap := h' }) :
    wpAny (model prog w) A (call (.ref 101) [a] []) Q E s := by
  have X := X₀.keeps F.keep
  obtain ⟨h, g, d, t, os⟩ := s
  have hC := X 101 _ (by k_is)
  have hi : Looks (model prog w) h (typeLookup (.ref 101) "__init__") (some (.ref 38)) := looks_findIn X (by k_is)
  have hb : ∀ self, Looks (model prog w) h (bindSpecial (.ref 38) self) (.ref 38, [self]) := fun self => bind_fn X self (by k_is)
  have made := made_acc (M := model prog w) X
  have call : Looks (model prog w) h (specialOf (.ref 101) "__call__") (some (.builtin "type.__call__")) := looks_specialIn X (by k_is)
  have typ : Looks (model prog w) h (isInstance (.ref 101) (.type "type")) true := looks_instIn X (by k_is)
  have self : Looks (model prog w) h (isSubtype (.ref 101) (.ref 101)) true := looks_mroIn X (by k_is)
  refine wpAny_call (codeAny_of_tree ?_)
  show wpAny _ _ (callAny (.ref 101) _) _ _ _
  refine nd_load hC ?_
  show wpAny _ _ (callAny.viaDunder (.ref 101) _) _ _ _
  unfold callAny.viaDunder
  refine wpAny_bind (call.at ?_)
  dsimp only
  rw [tc_bind]
  refine wpAny_bind (wpAny_pure (wpAny_bind (wpAny_pure ?_)))
  refine wpAny_pure (a := Fin.again (.call (.builtin "type.__call__") ⟨[.ref 101, a], []⟩)) (And.intro rfl ?_)
  refine codeAny_call_builtin_at (Code.quiet_builtin _ (by decide +kernel)) entry_typeCall (check_slot tc_kind tc_split typ (tc_args _ _ _) ?_)
  unfold Builtin.«type.__call__»
  have hm : Looks (model prog w) h (mroOf (.ref 101)) [.ref 101, .type "list", .type "object"] := (looks_clsIn X (by k_is)).andThen .now
  have e4 : ([.ref 101, .type "list", .type "object"] : List Value).isEmpty = false := rfl
  repeat (first | simp only [e4, Bool.false_eq_true, if_false] | with_reducible refine wpAny_call ?_ | lk)
  refine new_acc X ?_
  have k : ∀ b o, h.get? b = some o → ((h.push emptyDict).push (accO h.objs.size #[] 0)).get? b = some o := fun b o e => Heap.get?_push_of_some _ (Heap.get?_push_of_some _ e)
  have hx : ((h.push emptyDict).push (accO h.objs.size #[] 0)).get? (h.objs.size + 1) = some (accO h.objs.size #[] 0) := by heap_get
  have t1 : Looks (model prog w) ((h.push emptyDict).push (accO h.objs.size #[] 0)) (typeOf (.ref (h.objs.size + 1))) (.ref 101) := (Looks.ld hx).andThen .now
  have s1 := self.keeps k
  have i1 := hi.keeps k
  have b1 := (hb (.ref (h.objs.size + 1))).keeps k
  unfold isInstance callSpecial? specialOf
  repeat (first | with_reducible refine wpAny_call ?_ | lk)
  have N' := (N.push F emptyDict).push (F.push _) (accO h.objs.size #[] 0)
  rw [Heap.size_push] at N'
  refine codeAny_mono (hq _ h.objs.size _ ((F.push _).push _) N' (fun p hp => Heap.lt_size (N p hp).1) (Nat.lt_succ_self _)) fun r s' z => ?_
  rcases r with e | (v | _ | _ | _) <;> first | exact z | exact z.elim | skip
  obtain ⟨rfl, z⟩ := z
  exact wpAny_pure (wpAny_pure z)
end Mine

end
/- A2 -/
section
open PySem PySem.W PyProof.Rows PySem.Calls PySem.Spec Builtin
set_option maxHeartbeats 8000000
namespace Mine

theorem wpAny_lower {α : Type} {M : Model} {A B : Around} {t : Sem α} {Q : α → Shared → Prop} {E : Value → Shared → Prop} {s : Shared} (hh : A.handled = B.handled) (hd : A.depth ≤ B.depth) (hf : A.frames = B.frames) (hg : A.guards = B.guards) (hu : A.units ≤ B.units)
    (h : wpAny M B t Q E s) : wpAny M A t Q E s := fun Γ p hΓ =>
  h Γ p ⟨hΓ.1.trans hh, Nat.le_trans hΓ.2.1 hd, hf ▸ hΓ.2.2.1, hg ▸ hΓ.2.2.2.1, Nat.le_trans hΓ.2.2.2.2 hu⟩

theorem acc_inst {h₀ h : Heap} {L x C dx : Addr} {news : List (Addr × Obj)} {od : Obj} {its : Array Value} {n : Nat} {sl : Array (Option Value)} (N : News h₀ L h news) (h1 : (x, (⟨.ref C, some dx, .seq its n, sl⟩ : Obj)) ∈ news) (h2 : (dx, od) ∈ news) :
    InstAt h x ⟨.ref C, some dx, .seq its n, sl⟩ C (some od) := ⟨(N _ h1).1, rfl, rfl, (N _ h2).1⟩

section
variable {prog : Program} {w : World} {A : Around} {h₀ : Heap} {L P D : Addr} {m : Str → Option Value} {news : List (Addr × Obj)} {s : Shared} {E : Value → Shared → Prop} {its : Array Value} {n : Nat} {es : List DictEntry} {k : Nat}

/-- a method that `_Accumulator` takes from list -/
theorem acc_method {f tf : Value} {name : Str} {pl : Sem Bool} {Q : Value × List Value → Shared → Prop} (F : Fr h₀ L s.heap m) (X₀ : (hd.heap_39 w.params).In h₀) (I : InstAt s.heap P (accO D its n) 101 (some (dictOf es k)))
    (hf : findIn (hd.heap_39 w.params) (.ref 101) name = some (some f)) (ht : typeIn (hd.heap_39 w.params) f = some tf) (htf : (tf != .type "function" && tf != .type "method_descriptor" && tf != .type "wrapper_descriptor") = false)
    (hl : getL name es = some none) (h : Q (f, [.ref P]) s) : wpAny (model prog w) A (getMethod (.ref P) name pl) Q E s := by
  have X := X₀.keeps F.keep
  have hcan : (Manifest.canonical "list.__getattribute__" != "object.__getattribute__") = false := by decide +kernel
  have hga : findIn (hd.heap_39 w.params) (.ref 101) "__getattribute__" = some (some (.builtin "list.__getattribute__")) := by k_is
  have hk : findIn (hd.heap_39 w.params) (.ref 101) "__getattr__" = some none := by k_is
  unfold getMethod specialOf
  refine wpAny_bind (wpAny_bind (I.type.here ((looks_findIn X hga).here ?_)))
  dsimp only
  rw [hcan, if_neg (by decide)]
  refine wpAny_bind (wpAny_bind (I.type.here ((looks_findIn X hk).here ?_)))
  refine wpAny_bind (wpAny_bind (I.type.here ((looks_findIn X hf).here (wpAny_bind ((looks_typeIn X ht).here ?_)))))
  rw [if_neg (by rw [htf]; decide)]
  refine wpAny_bind (wpAny_loadPart I.at_ ?_)
  have hd := I.dict
  have hs : shadowIn (some (dictOf es k)) name = some false := by show (lookIn name (dictOf es k)).map _ = _; rw [lookIn_dict, hl]; rfl
  obtain ⟨r, a, b⟩ := Option.map_eq_some_iff.mp hs
  refine wpAny_bind (wpAny_bind (wpAny_loadPart hd ?_))
  rw [nsLook_of a]
  refine wpAny_pure ?_
  rw [b]
  exact wpAny_bind (wpAny_rule (wpAny_pure h))

theorem acc_entry {id nm : String} {b : Builtin} {rest : List Value} {Q : Value → Shared → Prop} {o : Obj} {kd : Manifest.AttrKind} (hk : builtinKind id = some kd) (hkd : kd = .method ∨ kd = .slot) (hsp : splitId id = some ("list", nm)) (hpl : plainId id = true) (hb : entryFor table id = some b)
    (ha : argsOk id ⟨.ref P :: rest, []⟩) (X : (hd.heap_39 w.params).In s.heap) (hP : s.heap.get? P = some o) (hc : o.cls = .ref 101)
    (h : wpAny (model prog w) A.in1 (b ⟨.ref P :: rest, []⟩) (fun fin s' => ∃ v, fin = .done (.ret v) ∧ Q v s') E s) :
    wpAny (model prog w) A (call (.builtin id) (.ref P :: rest)) Q E s := by
  have hi : Looks (model prog w) s.heap (isInstance (.ref P) (.type "list")) true := (hc ▸ (Looks.ld hP).andThen .now : Looks (model prog w) s.heap (typeOf (.ref P)) (.ref 101)).andThen (looks_mroIn X (by k_is))
  refine wpAny_call (codeAny_call_builtin hpl hb ?_)
  have h2 : wpAny (model prog w) A.in1 (b ⟨.ref P :: rest, []⟩) (fun fin s' => match fin with | .done f => (fun r s' => match r with | .ok (.ret v) => Q v s' | .ok _ => False | .error e => E e s') (Except.ok f) s' | .again c' => c'.quiet = true ∧ codeAny (model prog w) A c' (fun r s' => match r with | .ok (.ret v) => Q v s' | .ok _ => False | .error e => E e s') s') E s :=
    wpAny_mono h (fun fin s' h' => by obtain ⟨v, rfl, hv⟩ := h'; exact hv) fun _ _ x => x
  rcases hkd with rfl | rfl <;> simp only [checkBuiltinCall, hk, hsp]
  all_goals
    refine wpAny_bind (hi.here ?_)
    simp only [Bool.not_true, Bool.false_eq_true, if_false]
    cases hsig : Manifest.signature? id with
    | none => exact wpAny_pure h2
    | some sig =>
      simp only [argsOk, hsig] at ha
      have h3 : Bind.checkArgs id sig ⟨.ref P :: rest, []⟩ = pure () := ha
      show wpAny _ _ (Bind.checkArgs id sig ⟨.ref P :: rest, []⟩) _ _ _
      rw [h3]; exact wpAny_pure h2
end
end Mine

end
/- A3 -/
section
open PySem PySem.W PyProof.Rows PySem.Calls PySem.Spec Builtin
set_option maxHeartbeats 1000000
namespace Mine

abbrev boundO (kind id : String) (x : Addr) : Obj := { cls := .type kind, dict := none, data := .fields #[.builtin id, .ref x], slots := #[] }

theorem slot_md_get : Slot "method_descriptor" "__get__" "method_descriptor.__get__" := .of (owner := "method_descriptor") (n := "__get__") (by rw [typeLookup_type, builtinLookup_eq_fast]; kernel_rfl) (by decide +kernel) (by decide +kernel) (by decide +kernel)
    (by first | exact .inl (by decide +kernel) | exact .inr (by decide +kernel)) (by rw [isSubtype_type]; kernel_rfl)
theorem slot_wd_get : Slot "wrapper_descriptor" "__get__" "wrapper_descriptor.__get__" := .of (owner := "wrapper_descriptor") (n := "__get__") (by rw [typeLookup_type, builtinLookup_eq_fast]; kernel_rfl) (by decide +kernel) (by decide +kernel) (by decide +kernel)
    (by first | exact .inl (by decide +kernel) | exact .inr (by decide +kernel)) (by rw [isSubtype_type]; kernel_rfl)
theorem entry_md_get : entryFor table "method_descriptor.__get__" = some Builtin.«method_descriptor.__get__» := entryFor_of_tree (by kernel_rfl)
theorem entry_wd_get : entryFor table "wrapper_descriptor.__get__" = some Builtin.«wrapper_descriptor.__get__» := entryFor_of_tree (by kernel_rfl)
theorem args_md_get (a b c : Value) : argsOk "method_descriptor.__get__" ⟨[a, b, c], []⟩ := by unfold argsOk; kernel_rfl
theorem args_wd_get (a b c : Value) : argsOk "wrapper_descriptor.__get__" ⟨[a, b, c], []⟩ := by unfold argsOk; kernel_rfl

section
variable {prog : Program} {w : World} {A : Around} {h₀ h : Heap} {L P D so : Addr} {m : Str → Option Value} {news : List (Addr × Obj)} {s : Shared} {E : Value → Shared → Prop} {its : Array Value} {n : Nat} {es : List DictEntry} {k : Nat}
 {g : Array GenState} {d : Drawn} {t : Nat} {os : OsState}

theorem super_ga_b {name : Str} {id dt gid bt : String} {Bg : Builtin} {tk : Tok} {Q : Fin → Shared → Prop} (sl : Slot dt "__get__" gid) (en : entryFor table gid = some Bg) (ar : ∀ a b c, argsOk gid ⟨[a, b, c], []⟩)
    (hso : h.get? so = some (ks_superObj 101 P 101)) (X : (hd.heap_39 w.params).In h) (hP : h.get? P = some (accO D its n))
    (hf : alongIn (hd.heap_39 w.params) name [.type "list", .type "object"] = some (some (.builtin id))) (hn : (name == ("__class__" : Str)) = false) (hty : typeOf (.builtin id) = pure (.type dt))
    (hget : ∀ A Q E s, s.heap.get? P = some (accO D its n) → (hd.heap_39 w.params).In s.heap → Q (.done (.ret (.ref s.heap.objs.size))) { s with heap := s.heap.push (boundO bt id P) } → wpAny (model prog w) A (Bg ⟨[.builtin id, .ref P, .ref 101], []⟩) Q E s)
    (hq : Q (.done (.ret (.ref h.objs.size))) ⟨h.push (boundO bt id P), g, d, t, os⟩) :
    wpAny (model prog w) A (Builtin.«super.__getattribute__» ⟨[.ref so, .str name tk], []⟩) Q E ⟨h, g, d, t, os⟩ := by
  have hno : Looks (model prog w) h (opaqueClassAbove (.ref 101)) none := looks_opaque X (by k_is)
  have hC : Looks (model prog w) h (mroOf (.ref 101)) [.ref 101, .type "list", .type "object"] := (looks_clsIn X (by k_is)).andThen .now
  have hxC : P ≠ 101 := by rintro rfl; rw [X 101 _ (by k_is)] at hP; cases hP
  have hne : (Value.ref P == Value.ref 101) = false := by simp [hxC]
  have hlk := sl.lookup
  have hdt : (ks_superObj 101 P 101).data = .fields #[.ref 101, .ref P, .ref 101] := rfl
  have f0 : (#[.ref 101, .ref P, .ref 101] : Array Value)[0]? = some (.ref 101) := rfl
  have f1 : (#[.ref 101, .ref P, .ref 101] : Array Value)[1]? = some (.ref P) := rfl
  have f2 : (#[.ref 101, .ref P, .ref 101] : Array Value)[2]? = some (.ref 101) := rfl
  have hl : (([.ref 101, .type "list", .type "object"] : List Value).dropWhile (· != .ref 101)).drop 1 = [.type "list", .type "object"] := by decide
  have hTf : ∀ s' : Shared, s'.TypeIs (.builtin id) dt := fun s' => hty
  unfold Builtin.«super.__getattribute__»
  repeat (first
    | (with_reducible exact hq)
    | (with_reducible refine wpAny_field hso hdt f0 ?_) | (with_reducible refine wpAny_field hso hdt f1 ?_) | (with_reducible refine wpAny_field hso hdt f2 ?_)
    | (with_reducible refine ks_wpAny_notOpaque hno ?_)
    | (with_reducible refine Looks.at hC ?_; rw [hl])
    | (refine ks_forIn_along X (fun _ _ => rfl) rfl ?_ hf)
    | (with_reducible refine wpAny_of_eq hty ?_)
    | (with_reducible refine wpAny_call_entry sl (hTf _) en ?_ (ar _ _ _))
    | (with_reducible refine hget _ _ _ _ hP X ?_)
    | (with_reducible refine ⟨_, rfl, ?_⟩)
    | (simp only [hn, hne, Bool.or_false, Bool.false_eq_true, if_false])
    | wp_step
    | dsimp only)

theorem super_method_b {name : Str} {id dt gid bt : String} {Bg : Builtin} {pl : Sem Bool} {Q : Value × List Value → Shared → Prop} (sl : Slot dt "__get__" gid) (en : entryFor table gid = some Bg) (ar : ∀ a b c, argsOk gid ⟨[a, b, c], []⟩)
    (hso : h.get? so = some (ks_superObj 101 P 101)) (X : (hd.heap_39 w.params).In h) (hP : h.get? P = some (accO D its n))
    (hf : alongIn (hd.heap_39 w.params) name [.type "list", .type "object"] = some (some (.builtin id))) (hn : (name == ("__class__" : Str)) = false) (hty : typeOf (.builtin id) = pure (.type dt))
    (hget : ∀ A Q E s, s.heap.get? P = some (accO D its n) → (hd.heap_39 w.params).In s.heap → Q (.done (.ret (.ref s.heap.objs.size))) { s with heap := s.heap.push (boundO bt id P) } → wpAny (model prog w) A (Bg ⟨[.builtin id, .ref P, .ref 101], []⟩) Q E s)
    (hq : Q (.ref h.objs.size, []) ⟨h.push (boundO bt id P), g, d, t + 1, os⟩) :
    wpAny (model prog w) A (getMethod (.ref so) name pl) Q E ⟨h, g, d, t, os⟩ := by
  have hlk := F.ks_slot_super_ga.lookup
  have hcan := F.ks_canon_super_ga
  have hT : ∀ t', (⟨h, g, d, t', os⟩ : Shared).TypeIs (.ref so) "super" := fun _ => ⟨_, hso, rfl⟩
  unfold getMethod
  refine wpAny_bind (wpAny_specialOf (hT _) hlk ?_)
  show wpAny _ _ (if (Manifest.canonical "super.__getattribute__" != "object.__getattribute__") = true then _ else _) _ _ _
  rw [if_pos hcan]
  unfold getAttr getAttrBy
  refine wpAny_bind (wpAny_bind (wpAny_mkText (wpAny_holding (wpAny_bind (wpAny_typeOf (hT _) (wpAny_bind (wpAny_of_eq hlk ?_)))))))
  show wpAny _ _ (getAttrByItsOwn (.ref so) (.str name t) (.type "super") (.builtin "super.__getattribute__") true false) _ _ _
  unfold getAttrByItsOwn hookBefore callGetattribute boundAndCalled
  refine wpAny_bind (wpAny_of_eq (show (if onTheHeap (.type "super") then typeLookup (.type "super") "__getattr__" else pure none) = pure none from rfl) ?_)
  refine wpAny_bind (wpAny_attempt (wpAny_holding ?_))
  show wpAny _ _ (bindSpecial (.builtin "super.__getattribute__") (.ref so) >>= _) _ _ _
  refine wpAny_bind (wpAny_of_eq (F.ks_slot_super_ga.bind _) ?_)
  refine wpAny_mono (Q := fun v s' => v = .ref h.objs.size ∧ s' = ⟨h.push (boundO bt id P), g, d, t + 1, os⟩) (E := fun _ _ => False)
    (wpAny_call_entry F.ks_slot_super_ga (hT _) F.ks_entry_super_ga (super_ga_b sl en ar hso X hP hf hn hty hget ⟨_, rfl, rfl, rfl⟩) (F.ks_gaArgs_super _ _)) (fun v s' hv => ?_) fun _ _ z => z.elim
  obtain ⟨rfl, rfl⟩ := hv
  exact wpAny_pure (wpAny_pure hq)

theorem get_len : ∀ A Q E s, s.heap.get? P = some (accO D its n) → (hd.heap_39 w.params).In s.heap → Q (.done (.ret (.ref s.heap.objs.size))) { s with heap := s.heap.push (boundO "method-wrapper" "list.__len__" P) } → wpAny (model prog w) A (Builtin.«wrapper_descriptor.__get__» ⟨[.builtin "list.__len__", .ref P, .ref 101], []⟩) Q E s := by
  intro A Q E s hP X q
  have hi : Looks (model prog w) s.heap (isInstance (.ref P) (.type "list")) true := ((Looks.ld hP).andThen .now : Looks (model prog w) s.heap (typeOf (.ref P)) (.ref 101)).andThen (looks_mroIn X (by k_is))
  have hown : ".".intercalate ("list.__len__".cutAt '.').dropLast = "list" := by decide +kernel
  unfold Builtin.«wrapper_descriptor.__get__»
  repeat lk
  simp only [hown]
  have h101 := X 101 _ (by k_is)
  repeat (first | with_reducible exact q | lk)
theorem get_init : ∀ A Q E s, s.heap.get? P = some (accO D its n) → (hd.heap_39 w.params).In s.heap → Q (.done (.ret (.ref s.heap.objs.size))) { s with heap := s.heap.push (boundO "method-wrapper" "list.__init__" P) } → wpAny (model prog w) A (Builtin.«wrapper_descriptor.__get__» ⟨[.builtin "list.__init__", .ref P, .ref 101], []⟩) Q E s := by
  intro A Q E s hP X q
  have hi : Looks (model prog w) s.heap (isInstance (.ref P) (.type "list")) true := ((Looks.ld hP).andThen .now : Looks (model prog w) s.heap (typeOf (.ref P)) (.ref 101)).andThen (looks_mroIn X (by k_is))
  have hown : ".".intercalate ("list.__init__".cutAt '.').dropLast = "list" := by decide +kernel
  unfold Builtin.«wrapper_descriptor.__get__»
  repeat lk
  simp only [hown]
  have h101 := X 101 _ (by k_is)
  repeat (first | with_reducible exact q | lk)
theorem get_pop : ∀ A Q E s, s.heap.get? P = some (accO D its n) → (hd.heap_39 w.params).In s.heap → Q (.done (.ret (.ref s.heap.objs.size))) { s with heap := s.heap.push (boundO "builtin_function_or_method" "list.pop" P) } → wpAny (model prog w) A (Builtin.«method_descriptor.__get__» ⟨[.builtin "list.pop", .ref P, .ref 101], []⟩) Q E s := by
  intro A Q E s hP X q
  have hi : Looks (model prog w) s.heap (isInstance (.ref P) (.type "list")) true := ((Looks.ld hP).andThen .now : Looks (model prog w) s.heap (typeOf (.ref P)) (.ref 101)).andThen (looks_mroIn X (by k_is))
  have hown : ".".intercalate ("list.pop".cutAt '.').dropLast = "list" := by decide +kernel
  have htold : Manifest.toldItsClass.contains "list.pop" = false := by decide +kernel
  unfold Builtin.«method_descriptor.__get__»
  repeat lk
  simp only [hown]
  have h101 := X 101 _ (by k_is)
  repeat (first | with_reducible exact q | lk)
end

-- super().NAME of a list method, bound
section
variable {prog : Program} {w : World} {A : Around} {h₀ h : Heap} {L P D so : Addr} {m : Str → Option Value} {news : List (Addr × Obj)} {s : Shared} {E : Value → Shared → Prop} {its : Array Value} {n : Nat}
theorem super_len {pl : Sem Bool} {Q : Value × List Value → Shared → Prop} (F : Fr h₀ L s.heap m) (X₀ : (hd.heap_39 w.params).In h₀) (N : News h₀ L s.heap news) (hso : (so, ks_superObj 101 P 101) ∈ news) (hP : (P, accO D its n) ∈ news)
    (h : ∀ q h', Fr h₀ L h' m → News h₀ L h' ((q, boundO "method-wrapper" "list.__len__" P) :: news) → (∀ p ∈ news, p.1 < q) → Q (.ref q, []) { s with heap := h', toks := s.toks + 1 }) :
    wpAny (model prog w) A (getMethod (.ref so) "__len__" pl) Q E s := by
  obtain ⟨hh, g, d, t, os⟩ := s
  refine super_method_b slot_wd_get entry_wd_get args_wd_get (N _ hso).1 (X₀.keeps F.keep) (N _ hP).1 (by kernel_rfl) (by decide +kernel) (by show builtinType _ = _; rw [builtinType_eq_fast]; kernel_rfl) get_len ?_
  exact h _ _ (F.push _) (N.push F _) (fun p hp => Heap.lt_size (N p hp).1)
theorem super_init {pl : Sem Bool} {Q : Value × List Value → Shared → Prop} (F : Fr h₀ L s.heap m) (X₀ : (hd.heap_39 w.params).In h₀) (N : News h₀ L s.heap news) (hso : (so, ks_superObj 101 P 101) ∈ news) (hP : (P, accO D its n) ∈ news)
    (h : ∀ q h', Fr h₀ L h' m → News h₀ L h' ((q, boundO "method-wrapper" "list.__init__" P) :: news) → (∀ p ∈ news, p.1 < q) → Q (.ref q, []) { s with heap := h', toks := s.toks + 1 }) :
    wpAny (model prog w) A (getMethod (.ref so) "__init__" pl) Q E s := by
  obtain ⟨hh, g, d, t, os⟩ := s
  refine super_method_b slot_wd_get entry_wd_get args_wd_get (N _ hso).1 (X₀.keeps F.keep) (N _ hP).1 (by kernel_rfl) (by decide +kernel) (by show builtinType _ = _; rw [builtinType_eq_fast]; kernel_rfl) get_init ?_
  exact h _ _ (F.push _) (N.push F _) (fun p hp => Heap.lt_size (N p hp).1)
theorem super_pop {pl : Sem Bool} {Q : Value × List Value → Shared → Prop} (F : Fr h₀ L s.heap m) (X₀ : (hd.heap_39 w.params).In h₀) (N : News h₀ L s.heap news) (hso : (so, ks_superObj 101 P 101) ∈ news) (hP : (P, accO D its n) ∈ news)
    (h : ∀ q h', Fr h₀ L h' m → News h₀ L h' ((q, boundO "builtin_function_or_method" "list.pop" P) :: news) → (∀ p ∈ news, p.1 < q) → Q (.ref q, []) { s with heap := h', toks := s.toks + 1 }) :
    wpAny (model prog w) A (getMethod (.ref so) "pop" pl) Q E s := by
  obtain ⟨hh, g, d, t, os⟩ := s
  refine super_method_b slot_md_get entry_md_get args_md_get (N _ hso).1 (X₀.keeps F.keep) (N _ hP).1 (by kernel_rfl) (by decide +kernel) (by show builtinType _ = _; rw [builtinType_eq_fast]; kernel_rfl) get_pop ?_
  exact h _ _ (F.push _) (N.push F _) (fun p hp => Heap.lt_size (N p hp).1)
end
end Mine

end
/- A4 -/
section
open PySem PySem.W PyProof.Rows PySem.Calls PySem.Spec Builtin
set_option maxHeartbeats 1000000
namespace Mine
section
variable {prog : Program} {w : World} {A : Around} {h₀ h : Heap} {L P D q : Addr} {m : Str → Option Value} {news : List (Addr × Obj)} {s : Shared} {E : Value → Shared → Prop} {its : Array Value} {n : Nat}

theorem bound_call {bt id : String} {b : Builtin} {rest : List Value} {Q : Value → Shared → Prop} (hbt : bt = "builtin_function_or_method" ∨ bt = "method-wrapper") (hq : s.heap.get? q = some (boundO bt id P))
    (hchk : ∀ A (Q : Unit → Shared → Prop) E, Q () s → wpAny (model prog w) A (checkBoundCall id ⟨.ref P :: rest, []⟩) Q E s) (hpl : plainId id = true) (hb : entryFor table id = some b)
    (h : wpAny (model prog w) A.in1 (b ⟨.ref P :: rest, []⟩) (fun fin s' => ∃ v, fin = .done (.ret v) ∧ Q v s') E s) :
    wpAny (model prog w) A (call (.ref q) rest) Q E s := by
  refine wpAny_call (codeAny_of_tree ?_)
  show wpAny _ _ (callAny (.ref q) _) _ _ _
  have fin : codeAny (model prog w) A (.builtin id ⟨.ref P :: rest, []⟩) (fun r s' => match r with | .ok (.ret v) => Q v s' | .ok _ => False | .error e => E e s') s := by
    refine codeAny_builtin hb ?_
    rw [Around.under_plainId hpl]
    exact wpAny_mono h (fun fin s' h' => by obtain ⟨v, rfl, hv⟩ := h'; exact hv) fun _ _ x => x
  refine nd_load hq ?_
  rcases hbt with rfl | rfl
  all_goals
    show wpAny _ _ (checkBoundCall id ⟨.ref P :: rest, []⟩ >>= fun _ => again (.builtin id ⟨.ref P :: rest, []⟩)) _ _ _
    exact wpAny_bind (hchk _ _ _ (wpAny_pure ⟨plainId_quiet hpl _, fin⟩))

theorem callWith_bound {bt id : String} {pos : Pos} {env : Env} {Q : Value → Shared → Prop} (hbt : bt = "builtin_function_or_method" ∨ bt = "method-wrapper") (hq : s.heap.get? q = some (boundO bt id P))
    (h : wpAny (model prog w) A (call (.ref q) []) Q E s) : wpAny (model prog w) A (callWith pos (.ref q) [] (backTo pos (starEach [] env)) []) Q E s := by
  have hk : ∀ h, h.get? q = some (boundO bt id P) → ∃ k, (k = Keeper.frame ∨ k = Keeper.machine ∨ k = Keeper.boundFrame) ∧ Looks (model prog w) h (keeperOf (.ref q)) k := by
    intro h hq'
    refine ⟨.machine, .inr (.inl rfl), ?_⟩
    intro A Q E s' k hQ
    have := k _ _ hq'
    unfold keeperOf
    rcases hbt with rfl | rfl <;> repeat (first | exact hQ | lk)
  exact callWith_of (P := fun h => h.get? q = some (boundO bt id P)) rfl hk (evalArgs_nil3 ⟨hq, h⟩)

theorem chk_len {rest : List Value} (hr : rest = []) : ∀ A (Q : Unit → Shared → Prop) E, Q () s → wpAny (model prog w) A (checkBoundCall "list.__len__" ⟨.ref P :: rest, []⟩) Q E s := by
  intro A Q E h
  subst hr
  exact wpAny_of_eq (by kernel_rfl) h
theorem chk_init {rest : List Value} (hr : rest = []) : ∀ A (Q : Unit → Shared → Prop) E, Q () s → wpAny (model prog w) A (checkBoundCall "list.__init__" ⟨.ref P :: rest, []⟩) Q E s := by
  intro A Q E h
  subst hr
  exact wpAny_of_eq (by kernel_rfl) h
theorem chk_pop (X : (hd.heap_39 w.params).In s.heap) (hP : s.heap.get? P = some (accO D its n)) : ∀ A (Q : Unit → Shared → Prop) E, Q () s → wpAny (model prog w) A (checkBoundCall "list.pop" ⟨[.ref P], []⟩) Q E s := by
  intro A Q E h
  have hk : builtinKind "list.pop" = some .method := by decide +kernel
  have hi : Looks (model prog w) s.heap (isInstance (.ref P) (.type "module")) false := ((Looks.ld hP).andThen .now : Looks (model prog w) s.heap (typeOf (.ref P)) (.ref 101)).andThen (looks_mroIn X (by k_is))
  have hv : Manifest.varargsMethods.contains "list.pop" = false := by decide +kernel
  have h101 := X 101 _ (by k_is)
  have hty : Looks (model prog w) s.heap (isType (.ref P)) false := by
    intro A Q E s' k q
    have := k _ _ hP
    unfold isType
    repeat (first | exact q | lk)
  have htp : Looks (model prog w) s.heap (typeOf (.ref P)) (.ref 101) := (Looks.ld hP).andThen .now
  have ht1 : Looks (model prog w) s.heap (typeOf (.ref 101)) (.type "type") := (Looks.ld h101).andThen .now
  have hc : (match Manifest.signature? "list.pop" with | some sig => Bind.checkArgs "list.pop" { sig with full := toString (Str.ofString "_Accumulator").toString ++ toString "." ++ toString (Bind.lastOf "list.pop") } ⟨[.ref P], []⟩ | none => pure ()) = pure () := by kernel_rfl
  unfold checkBoundCall
  cases hsig : Manifest.signature? "list.pop" with
  | none => exact wpAny_pure h
  | some sig =>
  rw [hsig] at hc
  dsimp only at hc ⊢
  rw [hk]
  dsimp only
  rw [if_neg (by decide)]
  refine wpAny_bind (hi.here ?_)
  rw [hv, if_neg (by decide)]
  refine wpAny_bind (hty.here ?_)
  rw [if_neg (by decide)]
  refine wpAny_bind (htp.here ?_)
  dsimp only
  have hcd : Looks (model prog w) s.heap (classData 101) _ := looks_clsIn X (by k_is)
  refine wpAny_bind (hcd.here ?_)
  refine wpAny_bind (ht1.here ?_)
  rw [if_pos (by decide)]
  exact wpAny_of_eq hc h
end
end Mine

end
/- A5 -/
section
open PySem PySem.W PyProof.Rows PySem.Calls PySem.Spec Builtin Builtin.ObjectAttr Builtin.Getset_descriptor
set_option maxHeartbeats 1000000
namespace Mine
section
variable {prog : Program} {w : World} {A : Around} {h₀ h : Heap} {L P D q : Addr} {m : Str → Option Value} {R : List (Addr × Obj)} {s : Shared} {E : Value → Shared → Prop} {its : Array Value} {n : Nat}

theorem acc_len_body {Q : Value → Shared → Prop} (hP : s.heap.get? P = some (accO D its n)) (h : Q (.int its.size s.toks) { s with toks := s.toks + 1 }) :
    wpAny (model prog w) A (Builtin.«list.__len__» ⟨[.ref P], []⟩) (fun fin s' => ∃ v, fin = .done (.ret v) ∧ Q v s') E s := by
  unfold Builtin.«list.__len__»
  repeat (first | exact ⟨_, rfl, h⟩ | lk)

theorem acc_init_body {Q : Value → Shared → Prop} (hP : s.heap.get? P = some (accO D #[] n)) (h : ∀ h', Heap.SameBut P s.heap h' → h'.get? P = some (accO D #[] n) → Q .none { s with heap := h' }) :
    wpAny (model prog w) A (Builtin.«list.__init__» ⟨[.ref P], []⟩) (fun fin s' => ∃ v, fin = .done (.ret v) ∧ Q v s') E s := by
  show wpAny _ _ (List.listItems (.ref P) >>= fun old => List.listUpdate (.ref P) (fun _ => #[]) >>= fun _ => letGo old.toList.reverse >>= fun _ => ret .none) _ _ _
  unfold List.listItems
  refine wpAny_bind (wpAny_bind (wpAny_seqItems hP rfl (wpAny_pure ?_)))
  show wpAny _ _ (updateSeq P (fun _ => #[]) >>= _) _ _ _
  refine wpAny_bind (wpAny_updateSeq hP rfl ?_)
  refine wpAny_bind (wpAny_letGo ?_)
  exact wpAny_pure ⟨.none, rfl, h _ (Heap.SameBut.update ..) (by rw [Heap.get?_update_self _ hP rfl]; rfl)⟩

theorem acc_append {x : Value} {R' : List (Addr × Obj)} {Q : Value → Shared → Prop} (F : Fr h₀ L s.heap m) (X₀ : (hd.heap_39 w.params).In h₀) (N : News h₀ L s.heap (R' ++ (P, accO D its n) :: R)) (h1 : ∀ p ∈ R', p.1 ≠ P) (hap : ∀ p ∈ R, p.1 ≠ P)
    (h : ∀ h', Fr h₀ L h' m → News h₀ L h' (R' ++ (P, accO D (its.push x) (n + 1)) :: R) → Q .none { s with heap := h' }) (hsz : its.size ≤ sizeLine) :
    wpAny (model prog w) A (call (.builtin "list.append") [.ref P, x]) Q E s := by
  have z := N (P, accO D its n) (by simp)
  refine acc_entry (kd := .method) (nm := "append") (by decide +kernel) (.inl rfl) (by decide +kernel) (by decide +kernel) entry_list_append (args_list_append _ _) (X₀.keeps F.keep) z.1 rfl ?_
  show wpAny _ _ (updateSeq P (·.push x) >>= fun _ => ret .none) _ _ s
  refine wpAny_bind ?_
  have hm : Obj.mapSeq (·.push x) (accO D its n) = accO D (its.push x) (n + 1) := by simp [Obj.mapSeq]
  refine wpAny_updateSeq z.1 rfl (wpAny_pure ⟨.none, rfl, h _ (F.change (Heap.SameBut.update ..) z.2.1 z.2.2) ?_⟩)
  exact news_set N h1 hap (Heap.SameBut.update ..) (by rw [Heap.get?_update_self _ z.1 (by rw [hm]; rfl), hm])

theorem acc_pop_body {x : Value} {ys : Array Value} {Q : Value → Shared → Prop} (hits : its = ys.push x) (hsz : ys.size < 2 ^ 20) (hP : s.heap.get? P = some (accO D its n)) (h : ∀ h', Heap.SameBut P s.heap h' → h'.get? P = some (accO D ys (n + 1)) → Q x { s with heap := h' }) :
    wpAny (model prog w) A (Builtin.«list.pop» ⟨[.ref P], []⟩) (fun fin s' => ∃ v, fin = .done (.ret v) ∧ Q v s') E s := by
  subst hits
  unfold Builtin.«list.pop»
  repeat (first | lk)
  rw [if_neg (by simp)]
  have e1 : seqIndex? (-1) (ys.push x).size = some ys.size := by
    unfold seqIndex?
    simp only [Array.size_push]
    have e : (-1 : Int) + ((ys.size + 1 : Nat) : Int) = (ys.size : Int) := by omega
    rw [if_pos (by decide : (-1 : Int) < 0), e]
    simp
    omega
  rw [e1]
  have e2 : (ys.push x)[ys.size]? = some x := by simp
  simp only [Option.bind_some, e2, Option.map_some]
  have e3 : (ys.push x).eraseIdxIfInBounds ys.size = ys := by
    apply Array.ext'
    simp [Array.toList_eraseIdxIfInBounds, List.eraseIdx_append_of_length_le]
  have hm : Obj.mapSeq (fun a => a.eraseIdxIfInBounds ys.size) (accO D (ys.push x) n) = accO D ys (n + 1) := by
    simp [Obj.mapSeq, e3]
  show wpAny _ _ (updateSeq P (fun a => a.eraseIdxIfInBounds ys.size) >>= fun _ => ret x) _ _ _
  refine wpAny_bind (wpAny_updateSeq hP rfl ?_ ?_ ?_)
  · exact wpAny_pure ⟨x, rfl, h _ (Heap.SameBut.update ..) (by rw [Heap.get?_update_self _ hP (by rw [hm]; rfl), hm])⟩
  · rw [sizeLine_eq]; simp; omega
  · show ((ys.push x).eraseIdxIfInBounds ys.size).size ≤ _
    rw [e3, sizeLine_eq]; omega

theorem osa_acc {od od' : Obj} {name : Str} {tk : Tok} {v : Value} {pre post : List (Addr × Obj)} {es : List DictEntry} {k : Nat} {Rr : Result → Shared → Prop} (F : Fr h₀ L s.heap m) (N : News h₀ L s.heap (pre ++ (D, od) :: post)) (X : (hd.heap_39 w.params).In s.heap)
    (I : InstAt s.heap P (accO D its n) 101 (some od)) (ht : takerIn (hd.heap_39 w.params) 101 name = some none)
    (hl : (lookIn name od).isSome = true) (h1 : ∀ p ∈ pre, p.1 ≠ D) (h2 : ∀ p ∈ post, p.1 ≠ D)
    (e : Obj.putName name (PyData.keyHash w.params name) (.str name s.toks) v od = od') (e' : od'.data = .dict es.toArray k) (hz : es.length ≤ 1000)
    (h : ∀ h', Fr h₀ L h' m → News h₀ L h' (pre ++ (D, od') :: post) → Rr (.ok (.ret .none)) { s with heap := h', toks := s.toks + 1 }) :
    codeAny (model prog w) A (.call (.builtin "object.__setattr__") ⟨[.ref P, .str name tk, v], []⟩) Rr s := by
  have SF := PySem.F.store_object
  have sub : Looks (model prog w) s.heap (isInstance (.ref P) (.type "object")) true := I.type.andThen (looks_mroIn X (by k_is))
  refine codeAny_call_builtin SF.slot.plain SF.entry (@check_slot (model prog w) _ _ s "object.__setattr__" "object" "__setattr__" (.ref P) [.str name tk, v] [] _ SF.kind SF.split sub (SF.args (.ref P) (.str name tk) v) ?_)
  obtain ⟨attr, ha, hr⟩ := Option.bind_eq_some_iff.mp ht
  have hm : Looks (model prog w) s.heap (mroOf (.ref 101)) [.ref 101, .type "list", .type "object"] := (looks_clsIn X (by k_is)).andThen .now
  have L3 : Looks (model prog w) s.heap (storeTaker? attr) none := by
    cases attr with
    | none => cases hr; exact .now
    | some a =>
      obtain ⟨b, hb, hb'⟩ := Option.map_eq_some_iff.mp hr
      refine (looks_takesIn X hb).andThen ?_
      cases b
      · exact .now
      · cases hb'
  have ho : refuseLoop (.ref P) "__setattr__" [.ref 101, .type "list", .type "object"] = pure () := by rw [refuseLoop_ref]; kernel_rfl
  rw [osa_eq, refuse_eq]
  refine wpAny_bind (wpAny_bind (I.type.here (wpAny_bind (hm.here ?_))))
  rw [ho]
  refine wpAny_pure (wpAny_bind (I.type.here (wpAny_bind ((looks_findIn X ha).here (wpAny_bind (L3.here ?_))))))
  obtain ⟨U1, U2⟩ := news_upd (f := Obj.putName name (PyData.keyHash w.params name) (.str name s.toks) v) F N h1 h2 e (by obtain ⟨_, _, dd, _⟩ := od'; cases e'; rfl)
  have DD := (N (D, od) (by simp)).1
  have D' := (U2 (D, od') (by simp)).1
  have hcd : Looks (model prog w) s.heap (classData 101) _ := looks_clsIn X (by k_is)
  refine wpAny_bind (wpAny_pure (wpAny_bind (wpAny_bind (wpAny_loadPart I.at_ (wpAny_bind (hcd.here ?_))))))
  refine wpAny_pure (a := some D) (wpAny_bind (wpAny_pure (wpAny_bind ?_)))
  unfold nsSet
  refine wpAny_bind (wpAny_bind (wpAny_askSetting (wpAny_pure (wpAny_bind (wpAny_mkText (wpAny_bind (wpAny_loadPart DD ?_)))))))
  unfold lookIn at hl
  split at hl
  · rename_i es₀ n₀ q
    rw [q]
    dsimp only
    have c : (!es₀.any (·.key.isStr name) && es₀.any (·.refKey)) = false := by
      rw [← Array.any_toList, ← Array.any_toList]
      split at hl
      · rename_i en he
        rw [List.any_eq_true.mpr ⟨en, List.mem_of_find?_eq_some he, List.find?_some he⟩]; rfl
      · split at hl
        · cases hl
        · rename_i z; rw [Bool.not_eq_true] at z; rw [z, Bool.and_false]
    rw [aRefKeyMayBeTheName_at, c]
    refine wpAny_updatePart DD ?_
    refine wpAny_bind (wpAny_lookBehind D' (by rw [e']; exact pastItsLine_dict (by rw [List.size_toArray, sizeLine_eq]; omega)) ?_)
    exact wpAny_pure (h _ U1 U2)
  · cases hl
end
end Mine

end
/- A6 -/
section
open PySem PySem.W PyProof.Rows PySem.Calls PySem.Spec Builtin
set_option maxHeartbeats 1000000
namespace Mine

/-- what a def that changes nothing old does -/
def SpecR (w : World) (D U : Nat) (f : Value) (vs : List Value) (pre : List (Addr × Obj)) (Post : Value → List (Addr × Obj) → Prop) : Prop :=
  ∀ (p : Program) (loose : List Str) (mean : ExcName → Option Value) (mg mb : Str → Option Value) (gd : Option (List Code)) (A₀ : Around) (cn : Str) (cs : Scope) (a : Addr) (ccd : Value) (cl : List (Str × Addr)) (outer : List Env) (base h₀ : Heap) (L : Addr) (m : Str → Option Value) (s : Shared) (Q E : Value → Shared → Prop) (news : List (Addr × Obj)),
    cs.kind = .function → Below A₀ base outer h₀ → Fr h₀ L s.heap m → (hd.heap_39 w.params).In h₀ → News h₀ L s.heap (pre ++ news) → Top p loose mean mg mb h₀ →
    (∀ v post h' tk, Post v post → (∀ x ∈ post, AllLt x.1 news) → (post.map (·.1)).Nodup → Fr h₀ L h' m → News h₀ L h' (post ++ news) → Q v { s with heap := h', toks := tk }) →
    wpAny (model PySem.Challenge.pw_pk0049_01 w) (ktrTop D U gd cn cs L a ccd cl outer) (call f vs) Q E s
theorem hide_post {α : Type} {M : Model} {A : Around} {t : Sem α} {Q : α → Shared → Prop} {E : Value → Shared → Prop} {s : Shared} (h : ∀ (Q' : α → Shared → Prop) (E' : Value → Shared → Prop), (∀ a s, Q a s → Q' a s) → (∀ e s, E e s → E' e s) → wpAny M A t Q' E' s) : wpAny M A t Q E s := h Q E (fun _ _ h => h) (fun _ _ h => h)
theorem pid {P : Prop} (h : P) : P := h
theorem SpecR.use {w : World} {D U : Nat} {f : Value} {vs : List Value} {pre : List (Addr × Obj)} {Post : Value → List (Addr × Obj) → Prop} (S : SpecR w D U f vs pre Post)
    {p : Program} {loose : List Str} {mean : ExcName → Option Value} {mg mb : Str → Option Value} {A A₀ : Around} {cn : Str} {cs : Scope} {a : Addr} {ccd : Value} {cl : List (Str × Addr)} {outer : List Env} {base h₀ : Heap} {L : Addr} {m : Str → Option Value} {s : Shared} {Q E : Value → Shared → Prop} {news : List (Addr × Obj)}
    (B : Below A₀ base outer h₀) (F : Fr h₀ L s.heap m) (X : (hd.heap_39 w.params).In h₀) (N : News h₀ L s.heap news) (T : Top p loose mean mg mb h₀)
    (hA : A.frames = some (envX cn cs L a ccd cl :: outer)) (hh : A.handled = none) (hd : A.depth ≤ D) (hu : A.units ≤ U) (hk : cs.kind = .function) (he : ∀ q ∈ pre, q ∈ news)
    (ret : ∀ v post h' tk, Post v post → (∀ x ∈ post, AllLt x.1 news) → (post.map (·.1)).Nodup → Fr h₀ L h' m → News h₀ L h' (post ++ news) → Q v { s with heap := h', toks := tk }) :
    wpAny (model PySem.Challenge.pw_pk0049_01 w) A (call f vs) Q E s := by
  refine wpAny_lower (B := ktrTop D U A.guards cn cs L a ccd cl outer) hh hd hA rfl hu ?_
  refine S p loose mean mg mb A.guards A₀ cn cs a ccd cl outer base h₀ L m s Q E news hk B F X (fun q hq => ?_) T ret
  rcases List.mem_append.mp hq with hq | hq
  · exact N q (he q hq)
  · exact N q hq

theorem SpecR.use0 {w : World} {D U : Nat} {f : Value} {vs : List Value} {pre : List (Addr × Obj)} {g : Tok → Value} (S : SpecR w D U f vs pre (fun v post => (∃ t, v = g t) ∧ post = []))
    {p : Program} {loose : List Str} {mean : ExcName → Option Value} {mg mb : Str → Option Value} {A A₀ : Around} {cn : Str} {cs : Scope} {a : Addr} {ccd : Value} {cl : List (Str × Addr)} {outer : List Env} {base h₀ : Heap} {L : Addr} {m : Str → Option Value} {s : Shared} {Q E : Value → Shared → Prop} {news : List (Addr × Obj)}
    (B : Below A₀ base outer h₀) (F : Fr h₀ L s.heap m) (X : (hd.heap_39 w.params).In h₀) (N : News h₀ L s.heap news) (T : Top p loose mean mg mb h₀)
    (hA : A.frames = some (envX cn cs L a ccd cl :: outer)) (hh : A.handled = none) (hd : A.depth ≤ D) (hu : A.units ≤ U) (hk : cs.kind = .function) (he : ∀ q ∈ pre, q ∈ news)
    (ret : ∀ t h' tk, Fr h₀ L h' m → News h₀ L h' news → Q (g t) { s with heap := h', toks := tk }) :
    wpAny (model PySem.Challenge.pw_pk0049_01 w) A (call f vs) Q E s :=
  SpecR.use S B F X N T hA hh hd hu hk he (fun v post h' tk ⟨⟨t, e⟩, e'⟩ _ _ F' N' => by subst e e'; exact ret t h' tk F' N')
/-- what a def does that changes one thing, P -/
def SpecM (w : World) (D U : Nat) (f : Value) (vs : List Value) (P : Addr) (oP : Obj) (pre : List (Addr × Obj)) (Post : Value → Obj → List (Addr × Obj) → Prop) : Prop :=
  ∀ (p : Program) (loose : List Str) (mean : ExcName → Option Value) (mg mb : Str → Option Value) (gd : Option (List Code)) (A₀ : Around) (cn : Str) (cs : Scope) (a : Addr) (ccd : Value) (cl : List (Str × Addr)) (outer : List Env) (base h₀ : Heap) (L : Addr) (m : Str → Option Value) (s : Shared) (Q E : Value → Shared → Prop) (news : List (Addr × Obj)),
    cs.kind = .function → Below A₀ base outer h₀ → Fr h₀ L s.heap m → (hd.heap_39 w.params).In h₀ → News h₀ L s.heap ((P, oP) :: (pre ++ news)) → Top p loose mean mg mb h₀ → (∀ p ∈ pre ++ news, p.1 ≠ P) →
    (∀ v oP' post h' tk, Post v oP' post → (∀ x ∈ post, AllLt x.1 ((P, oP) :: news)) → Fr h₀ L h' m → News h₀ L h' ((P, oP') :: (post ++ news)) → Q v { s with heap := h', toks := tk }) →
    wpAny (model PySem.Challenge.pw_pk0049_01 w) (ktrTop D U gd cn cs L a ccd cl outer) (call f vs) Q E s
theorem SpecM.use {w : World} {D U : Nat} {f : Value} {vs : List Value} {P : Addr} {oP : Obj} {pre : List (Addr × Obj)} {Post : Value → Obj → List (Addr × Obj) → Prop} (S : SpecM w D U f vs P oP pre Post)
    {p : Program} {loose : List Str} {mean : ExcName → Option Value} {mg mb : Str → Option Value} {A A₀ : Around} {cn : Str} {cs : Scope} {a : Addr} {ccd : Value} {cl : List (Str × Addr)} {outer : List Env} {base h₀ : Heap} {L : Addr} {m : Str → Option Value} {s : Shared} {Q E : Value → Shared → Prop} {news : List (Addr × Obj)}
    (B : Below A₀ base outer h₀) (F : Fr h₀ L s.heap m) (X : (hd.heap_39 w.params).In h₀) (N : News h₀ L s.heap ((P, oP) :: news)) (T : Top p loose mean mg mb h₀)
    (hA : A.frames = some (envX cn cs L a ccd cl :: outer)) (hh : A.handled = none) (hd : A.depth ≤ D) (hu : A.units ≤ U) (hk : cs.kind = .function) (he : ∀ q ∈ pre, q ∈ news) (hne : ∀ p ∈ news, p.1 ≠ P)
    (ret : ∀ v oP' post h' tk, Post v oP' post → (∀ x ∈ post, AllLt x.1 ((P, oP) :: news)) → Fr h₀ L h' m → News h₀ L h' ((P, oP') :: (post ++ news)) → Q v { s with heap := h', toks := tk }) :
    wpAny (model PySem.Challenge.pw_pk0049_01 w) A (call f vs) Q E s := by
  refine wpAny_lower (B := ktrTop D U A.guards cn cs L a ccd cl outer) hh hd hA rfl hu ?_
  refine S p loose mean mg mb A.guards A₀ cn cs a ccd cl outer base h₀ L m s Q E news hk B F X (fun q hq => ?_) T (fun q hq => ?_) ret
  · rcases List.mem_cons.mp hq with rfl | hq
    · exact N _ (.head _)
    rcases List.mem_append.mp hq with hq | hq
    · exact N q (.tail _ (he q hq))
    · exact N q (.tail _ hq)
  · rcases List.mem_append.mp hq with hq | hq
    · exact hne q (he q hq)
    · exact hne q hq

abbrev accD (hs : Int) (tk : Tok) (head : Int) (th : Tok) : Obj := dictOf [⟨hs, .str "_initial_size" tk, .int head th⟩] 1
abbrev tupO (vs : List Value) : Obj := { cls := .type "tuple", data := .seq vs.toArray }

-- the walk's own lines
local macro_rules | `(tactic| k_inst) => `(tactic| (refine' acc_inst ?N ?h1 ?h2; (case N => k_asm); (case h1 => k_mem); (case h2 => k_mem)))
-- entering a def that closes over __class__
theorem lines_A6_1 : True := by
  k_with_none
  k_with "Mine.superEnter" => (apply ks_code_super; rotate_left 5; exact rfl; exact rfl; assumption; rotate_right 5; k_asm; k_asm; k_asm; k_asm; k_asm; k_is; k_is; k_room; (first | exact BindsTo.of_eq rfl | exact binds_K (by k_in) rfl (by k_is) rfl rfl rfl); exact locs rfl; rotate_left; decide; exact rfl; exact rfl; exact rfl; intro _ _ _ _ _ _ B' _ _ l1; (try k_lt l1); (try dsimp only); (try k_lift B'); revert B' l1; intro _ _)
  k_with "getMethod ref" => ((with_reducible show wpAny _ _ (getMethod (Value.ref _) (PySem.Str.ofString "__len__") _) _ _ _); k_dflt (apply super_len; k_asm; k_asm; k_asm; k_mem; k_mem); intro _ _ _ _ l1; (try k_lt l1); revert l1; intro _)
  k_with "callWith ref" => ((with_reducible show wpAny _ _ (callWith _ (Value.ref _) [] _ _) _ _ _); k_dflt (apply callWith_bound; rotate_left; exact (News.get (by k_asm) (by k_mem)); rotate_right; decide))
  k_with "call ref" => ((with_reducible show wpAny _ _ (call (Value.ref _) []) _ _ _); k_dflt (apply bound_call (id := "list.__len__"); rotate_left; exact (News.get (by k_asm) (by k_mem)); rotate_right; decide; exact chk_len rfl; decide +kernel; exact entry_list_len; (apply acc_len_body; exact (News.get (by k_asm) (by k_mem)))))
  exact trivial
theorem lt_of_all {d : Nat} {l : List (Addr × Obj)} : AllLt d l → ∀ p ∈ l, p.1 < d := by
  induction l with
  | nil => intro _ p hp; cases hp
  | cons q l ih =>
    intro h p hp
    rcases List.mem_cons.mp hp with e | hp
    · rw [e]; exact h.1
    · exact ih h.2 p hp
theorem nd_cons {x : Addr} {o : Obj} {l : List (Addr × Obj)} (h : AllLt x l) (nd : (l.map (·.1)).Nodup) : (((x, o) :: l).map (·.1)).Nodup := by
  refine List.nodup_cons.mpr ⟨fun hm => ?_, nd⟩
  obtain ⟨p, hp, e⟩ := List.mem_map.mp hm
  have := lt_of_all h p hp
  dsimp only at e
  rw [e] at this
  exact Nat.lt_irrefl _ this
theorem nd_head {x : Addr} {o : Obj} {l : List (Addr × Obj)} (nd : (((x, o) :: l).map (·.1)).Nodup) : ∀ p ∈ l, p.1 ≠ x := fun p hp e => (List.nodup_cons.mp nd).1 (List.mem_map.mpr ⟨p, hp, e⟩)
def Hold (p : Prop) : Prop := p
theorem if_false_at {M : Model} {A : Around} {c : Code} {E : Value → Shared → Prop} {s : Shared} {env : Env} {test : Expr} {body rest : List Stmt} {pos : Pos} {Q : Flow → Shared → Prop}
    (h : wpAny M A (isTrue test env (eval test env)) (fun b s₁ => b = false ∧ Hold (PySem.wpAt M A c (execs rest env) Q E s₁)) E s) : PySem.wpAt M A c (execs (.If test body [] pos :: rest) env) Q E s := by
  refine ks_wpAt_execs_cons (ks_wpAt_If (wpAt_of_wpAny (wpAny_mono h (fun b s₁ hb => ?_) fun _ _ x => x)))
  obtain ⟨rfl, hb⟩ := hb
  exact wpAt_of_wpAny (wpAny_pure hb)
theorem seq_at {M : Model} {A : Around} {c : Code} {E : Value → Shared → Prop} {s : Shared} {env : Env} {st : Stmt} {rest : List Stmt} {Q : Flow → Shared → Prop}
    (h : wpAny M A (exec st env) (fun f s₁ => f = .next ∧ Hold (PySem.wpAt M A c (execs rest env) Q E s₁)) E s) : PySem.wpAt M A c (execs (st :: rest) env) Q E s := by
  refine ks_wpAt_execs_cons (wpAt_of_wpAny (wpAny_mono h (fun f s₁ hb => ?_) fun _ _ x => x))
  obtain ⟨rfl, hb⟩ := hb
  exact hb
theorem drop1 {h₀ h : Heap} {L : Addr} {x : Addr × Obj} {l : List (Addr × Obj)} (N : News h₀ L h (x :: l)) : News h₀ L h l := fun p hp => N p (.tail _ hp)

theorem swap2 {h₀ h : Heap} {L : Addr} {a b c : Addr × Obj} {l : List (Addr × Obj)} (N : News h₀ L h (a :: b :: c :: l)) : News h₀ L h (b :: ([a] ++ l)) := fun p hp => N p (by
  rcases List.mem_cons.mp hp with rfl | hp
  · exact .tail _ (.head _)
  rcases List.mem_cons.mp hp with rfl | hp
  · exact .head _
  · exact .tail _ (.tail _ (.tail _ hp)))
theorem drop2nd {h₀ h : Heap} {L : Addr} {a b : Addr × Obj} {l : List (Addr × Obj)} (N : News h₀ L h (a :: b :: l)) : News h₀ L h (a :: ([] ++ l)) := fun p hp => N p (by
  rcases List.mem_cons.mp hp with rfl | hp
  · exact .head _
  · exact .tail _ (.tail _ hp))
theorem part_count_spec {w : World} {P D : Addr} {its : Array Value} {n : Nat} {hs head : Int} {tk th : Tok} :
    SpecR w 890 2500 (.ref 98) [.ref P] [(P, accO D its n), (D, accD hs tk head th)] (fun v post => (∃ t, v = .int its.size t) ∧ post = []) := by
  intro p loose mean mg mb gd A₀ cn cs a ccd cl outer base h₀ L m s Q E R hk B F X N T ret
  simp only [List.cons_append, List.nil_append] at N
  refine wpAny_call ?_
  k_dflt (walk_at "Mine.superEnter")
  k_steps
  rename Fr _ _ _ _ => FF
  rename News _ _ _ _ => NN
  refine ret _ _ _ _ ⟨⟨_, rfl⟩, rfl⟩ (fun _ h => nomatch h) .nil FF ?_
  repeat (first | exact NN | replace NN := drop1 NN)

theorem lines_A6_2 : True := by
  k_with "getMethod ref" => ((with_reducible show wpAny _ _ (getMethod (Value.ref _) (PySem.Str.ofString "part_count") _) _ _ _); k_dflt (apply acc_method; k_asm; k_asm; k_inst; k_is; k_is; decide; k_get))
  k_with "call ref" => ((with_reducible show wpAny _ _ (call (Value.ref 98) _) _ _ _); k_dflt (apply SpecR.use0 part_count_spec; rotate_left; k_asm; rotate_right; rotate_left 4; exact rfl; rotate_right 4; k_asm; k_asm; k_asm; k_asm; exact rfl; exact Nat.le_of_ble_eq_true rfl; exact Nat.le_of_ble_eq_true rfl; exact rfl; (refine' List.forall_mem_cons.mpr ⟨?_, List.forall_mem_cons.mpr ⟨?_, List.forall_mem_nil _⟩⟩ <;> k_mem)); intro _ _ _ _ _; (try dsimp only))
  exact trivial
theorem pop_spec0 {w : World} {P D : Addr} {n : Nat} {hs head : Int} {tk th : Tok} :
    SpecM w 880 2400 (.ref 61) [.ref P] P (accO D #[] n) [(D, accD hs tk head th)] (fun v oP' post => oP' = accO D #[] n ∧ ∃ T t1 t2, v = .ref T ∧ post = [(T, tupO [.str "" t1, .str "" t2])]) := by
  intro p loose mean mg mb gd A₀ cn cs a ccd cl outer base h₀ L m s Q E R hk B F X N T hnp ret
  simp only [List.cons_append, List.nil_append] at N hnp
  refine wpAny_call ?_
  k_dflt (walk_at "Mine.superEnter")
  k_steps
  rename Fr _ _ _ _ => FF
  rename News _ _ _ _ => NN
  rename_i l9 _ _
  refine ret _ _ _ _ _ ⟨rfl, _, _, _, rfl, rfl⟩ (fun q hq => ?_) FF (swap2 NN)
  rw [List.mem_singleton.mp hq]
  exact ⟨l9.1, l9.2.2⟩

theorem lines_A6_3 : True := by
  k_with "getMethod ref" => ((with_reducible show wpAny _ _ (getMethod (Value.ref _) (PySem.Str.ofString "pop") _) _ _ _); k_dflt (apply super_pop; k_asm; k_asm; k_asm; k_mem; k_mem); intro _ _ _ _ l1; (try k_lt l1); revert l1; intro _)
  exact trivial
theorem acc_pop {w : World} {prog : Program} {A : Around} {h₀ : Heap} {L P D q : Addr} {m : Str → Option Value} {R R' : List (Addr × Obj)} {s : Shared} {E Q : Value → Shared → Prop} {its ys : Array Value} {x : Value} {n : Nat} (hits : its = ys.push x) (F : Fr h₀ L s.heap m) (X₀ : (hd.heap_39 w.params).In h₀)
    (N : News h₀ L s.heap (R' ++ (P, accO D its n) :: R)) (hq : (q, boundO "builtin_function_or_method" "list.pop" P) ∈ R') (h1 : ∀ p ∈ R', p.1 ≠ P) (h2 : ∀ p ∈ R, p.1 ≠ P) (hsz : ys.size < 2 ^ 20)
    (h : ∀ h', Fr h₀ L h' m → News h₀ L h' (R' ++ (P, accO D ys (n + 1)) :: R) → Q x { s with heap := h' }) : wpAny (model prog w) A (call (.ref q) []) Q E s := by
  subst hits
  have z := N (P, accO D (ys.push x) n) (by simp)
  refine bound_call (id := "list.pop") (.inl rfl) (N _ (List.mem_append_left _ hq)).1 (chk_pop (X₀.keeps F.keep) z.1) (by decide +kernel) PySem.F.entry_list_pop ?_
  refine acc_pop_body rfl hsz z.1 fun h' hs ho => ?_
  exact h h' (F.change hs z.2.1 z.2.2) (news_set N h1 h2 hs ho)

theorem lines_A6_4 : True := by
  k_with "call ref" => ((with_reducible show wpAny _ _ (call (Value.ref _) []) _ _ _); k_dflt (apply acc_pop (R' := [_, _]); rotate_left; k_asm; k_asm; k_asm; k_mem; rotate_right; assumption; rotate_left 2; assumption; rotate_right 2; k_all; assumption); intro _ _ N'; (try dsimp only [List.cons_append, List.nil_append] at N'); revert N'; intro _)
  exact trivial
theorem pop_spec1 {w : World} {P D : Addr} {n : Nat} {its ys : Array Value} {x : Value} {hs head : Int} {tk th : Tok} (hits : its = ys.push x) (hsz : ys.size < 2 ^ 20) :
    SpecM w 880 2400 (.ref 61) [.ref P] P (accO D its n) [(D, accD hs tk head th)] (fun v oP' post => oP' = accO D ys (n + 1) ∧ v = x ∧ post = []) := by
  intro p loose mean mg mb gd A₀ cn cs a ccd cl outer base h₀ L m s Q E R hk B F X N T hnp ret
  simp only [List.cons_append, List.nil_append] at N hnp
  refine wpAny_call ?_
  k_dflt (walk_at "Mine.superEnter")
  refine if_false_at ?_
  k_steps
  · rw [hits]; simp; omega
  unfold Hold
  refine ks_wpAt_execs_cons (ks_wpAt_Return_some ?_)
  refine ks_wpAt_MethodCall ?_
  k_steps
  rename Fr _ _ _ _ => FF
  rename News _ _ _ _ => NN
  exact ret _ _ _ _ _ ⟨rfl, rfl, rfl⟩ (fun _ h => nomatch h) FF (drop2nd (drop1 (drop1 NN)))

theorem lines_A6_5 : True := by
  k_with "getMethod ref" => ((with_reducible show wpAny _ _ (getMethod (Value.ref _) (PySem.Str.ofString "append") _) _ _ _); k_dflt (apply acc_method; k_asm; k_asm; k_inst; k_is; k_is; decide; k_get))
  k_with "call builtin:list.append" => ((with_reducible show wpAny _ _ (call (Value.builtin _) [Value.ref _, _]) _ _ _); k_dflt (apply acc_append (R' := [_]); k_asm; k_asm; k_asm; k_all; assumption; rotate_left; assumption); intro _ _ N'; (try dsimp only [List.cons_append, List.nil_append] at N'); revert N'; intro _)
  exact trivial
theorem push_spec {w : World} {P D : Addr} {its : Array Value} {n : Nat} {hs head : Int} {tk th : Tok} {x y : Str} {tx ty : Tok} (hsz : its.size ≤ sizeLine) :
    SpecM w 880 2400 (.ref 45) [.ref P, .str x tx, .str y ty] P (accO D its n) [(D, accD hs tk head th)] (fun v oP' post => v = .none ∧ ∃ T, oP' = accO D (its.push (.ref T)) (n + 1) ∧ post = [(T, tupO [.str x tx, .str y ty])]) := by
  intro p loose mean mg mb gd A₀ cn cs a ccd cl outer base h₀ L m s Q E R hk B F X N T hnp ret
  simp only [List.cons_append, List.nil_append] at N hnp
  refine wpAny_call ?_
  k_dflt cell_enter
  k_steps
  rename Fr _ _ _ _ => FF
  rename News _ _ _ _ => NN
  rename_i l9 _ _ _ _ _
  refine ret _ _ _ _ _ ⟨rfl, _, rfl, rfl⟩ (fun q hq => ?_) FF (swap2 NN)
  rw [List.mem_singleton.mp hq]
  exact ⟨l9.1, l9.2.2⟩

theorem acc_setattr {w : World} {prog : Program} {A : Around} {h₀ : Heap} {L P D : Addr} {m : Str → Option Value} {R : List (Addr × Obj)} {s : Shared} {E : Value → Shared → Prop} {Q : Unit → Shared → Prop} {its : Array Value} {n : Nat} {head : Int} {th : Tok} (F : Fr h₀ L s.heap m) (X₀ : (hd.heap_39 w.params).In h₀)
    (N : News h₀ L s.heap ((P, accO D its n) :: (D, dictOf [] 0) :: R)) (hne : P ≠ D) (h2 : ∀ p ∈ R, p.1 ≠ D)
    (h : ∀ h', Fr h₀ L h' m → News h₀ L h' ((P, accO D its n) :: (D, accD (PyData.keyHash w.params "_initial_size") (s.toks + 1) head th) :: R) → Q () { s with heap := h', toks := s.toks + 1 + 1 }) :
    wpAny (model prog w) A (setAttr (.ref P) "_initial_size" (.int head th)) Q E s := by
  have I : InstAt s.heap P (accO D its n) 101 (some (dictOf [] 0)) := acc_inst N (.head _) (.tail _ (.head _))
  refine set_plain (X₀.keeps F.keep) I (by k_is) ?_
  refine osa_acc (s := { s with toks := s.toks + 1 }) (pre := [(P, accO D its n)]) (post := R) (od := dictOf [] 0) (es := [⟨PyData.keyHash w.params "_initial_size", .str "_initial_size" (s.toks + 1), .int head th⟩]) (k := 1) F N (X₀.keeps F.keep) I (by k_is) (by decide) (fun p hp => by rw [List.mem_singleton.mp hp]; exact hne) h2 (by rw [putName_dict]) rfl (by simp) ?_
  intro h' F' N'
  exact h h' F' N'

theorem lines_A6_6 : True := by
  k_with "setAttr ref" => (k_dflt (apply acc_setattr; k_asm; k_asm; k_asm; k_ne; assumption); intro _ _ _)
  k_with "getMethod ref" => ((with_reducible show wpAny _ _ (getMethod (Value.ref _) (PySem.Str.ofString "__init__") _) _ _ _); k_dflt (apply super_init; k_asm; k_asm; k_asm; k_mem; k_mem); intro _ _ _ _ l1; (try k_lt l1); revert l1; intro _)
  exact trivial
theorem acc_init {w : World} {prog : Program} {A : Around} {h₀ : Heap} {L P D q : Addr} {m : Str → Option Value} {R R' : List (Addr × Obj)} {s : Shared} {E Q : Value → Shared → Prop} {n : Nat} (F : Fr h₀ L s.heap m)
    (N : News h₀ L s.heap (R' ++ (P, accO D #[] n) :: R)) (hq : (q, boundO "method-wrapper" "list.__init__" P) ∈ R') (h1 : ∀ p ∈ R', p.1 ≠ P) (h2 : ∀ p ∈ R, p.1 ≠ P)
    (h : ∀ h', Fr h₀ L h' m → News h₀ L h' (R' ++ (P, accO D #[] n) :: R) → Q .none { s with heap := h' }) : wpAny (model prog w) A (call (.ref q) []) Q E s := by
  have z := N (P, accO D #[] n) (by simp)
  refine bound_call (id := "list.__init__") (.inr rfl) (N _ (List.mem_append_left _ hq)).1 (chk_init rfl) (by decide +kernel) PySem.F.entry_list_init ?_
  refine acc_init_body z.1 fun h' hs ho => ?_
  exact h h' (F.change hs z.2.1 z.2.2) (news_set N h1 h2 hs ho)
theorem lines_A6_7 : True := by
  k_with "call ref" => ((with_reducible show wpAny _ _ (call (Value.ref _) []) _ _ _); k_dflt (apply acc_init (R' := [_, _]); k_asm; k_asm; k_mem; k_all; assumption); intro _ _ N'; (try dsimp only [List.cons_append, List.nil_append] at N'); revert N'; intro _)
  exact trivial
theorem tailNe {h₀ h : Heap} {L P D : Addr} {x o : Obj} {R : List (Addr × Obj)} (_ : News h₀ L h ((P, x) :: (D, o) :: R)) (hne : D ≠ P) (hR : ∀ p ∈ R, p.1 ≠ P) : ∀ p ∈ ((D, o) :: R), p.1 ≠ P := fun p hp => by
  rcases List.mem_cons.mp hp with rfl | hp
  · exact hne
  · exact hR p hp
theorem make_spec {w : World} {head : Int} {th : Tok} :
    SpecR w 880 2400 (.ref 101) [.int head th] [] (fun v post => ∃ P D hs tk, v = .ref P ∧ post = [(P, accO D #[] 0), (D, accD hs tk head th)]) := by
  intro p loose mean mg mb gd A₀ cn cs a ccd cl outer base h₀ L m s Q E R hk B F X N T ret
  simp only [List.nil_append] at N
  refine make_acc F N X ?_
  intro P D h1 F1 N1 l1 l2
  have l1' := allLt_of l1
  have hPD : P ≠ D := Nat.ne_of_gt l2
  have hRD : ∀ p ∈ R, p.1 ≠ D := fun p hp => Nat.ne_of_lt (l1 p hp)
  have hRP : ∀ p ∈ R, p.1 ≠ P := fun p hp => Nat.ne_of_lt (Nat.lt_trans (l1 p hp) l2)
  k_dflt (walk_at "Mine.superEnter")
  refine seq_at ?_
  k_steps
  unfold Hold
  refine ks_wpAt_execs_cons (ks_wpAt_Expr_any (ks_wpAt_MethodCall ?_))
  rename News _ _ _ _ => NN
  have hRP' := tailNe NN hPD.symm hRP
  k_steps
  clear hRP'
  rename Fr _ _ _ _ => FF
  rename News _ _ _ _ => NN
  refine ret _ _ _ _ ⟨_, _, _, _, rfl, rfl⟩ ?_ ?_ FF (drop1 (drop1 NN))
  · intro q hq
    rcases List.mem_cons.mp hq with rfl | hq
    · exact allLt_of fun p hp => Nat.lt_trans (l1 p hp) l2
    · rw [List.mem_singleton.mp hq]; exact l1'
  · simp only [List.map_cons, List.map_nil, List.nodup_cons, List.mem_singleton, List.not_mem_nil, not_false_eq_true, List.nodup_nil, and_true]
    exact hPD
end Mine

end
/- A7 -/
section
open PySem PySem.W PyProof.Rows PySem.Calls PySem.Spec Builtin
set_option maxHeartbeats 1000000
namespace Mine
abbrev sliceO (a b c : Value) : Obj := { cls := .type "slice", data := .fields #[a, b, c] }

theorem range_filterMap_drop (l : List Value) (a c : Nat) : ((List.range c).map fun k => a + k).filterMap (fun k => l[k]?) = (l.drop a).take c := by
  induction c with
  | zero => simp
  | succ c ih =>
    rw [List.range_succ, List.map_append, List.filterMap_append, ih, List.take_add_one]
    congr 1
    simp only [List.map_cons, List.map_nil, List.filterMap_cons, List.filterMap_nil, List.getElem?_drop]
    cases l[a + c]? <;> rfl
theorem slice_is (its : Array Value) (a b : Nat) : (sliceRange (a : Int) (b : Int) 1).filterMap (fun k => its[k]?) = (its.toList.take b).drop a := by
  have e : sliceRange (a : Int) (b : Int) 1 = (List.range (b - a)).map fun k => a + k := by
    unfold sliceRange
    have hc : (if (1 : Int) > 0 then (if (a : Int) < b then ((b : Int) - a + 1 - 1) / 1 else 0) else (if (a : Int) > b then ((a : Int) - b - 1 - 1) / (-1) else 0)).toNat = b - a := by
      rw [if_pos (by decide)]
      split
      · rw [Int.ediv_one]; omega
      · simp; omega
    simp only [hc]
    apply List.map_congr_left
    intro k _
    omega
  rw [e]
  have := range_filterMap_drop its.toList a (b - a)
  simp only [Array.getElem?_toList] at this
  rw [this, List.drop_take]

section
variable {prog : Program} {w : World} {A : Around} {h₀ h : Heap} {L P D q sl : Addr} {m : Str → Option Value} {R : List (Addr × Obj)} {s : Shared} {E : Value → Shared → Prop} {its : Array Value} {n : Nat}

theorem acc_getAll_body {t : Tok} {Q : Value → Shared → Prop} (hP : s.heap.get? P = some (accO D its n)) (hsl : s.heap.get? sl = some (sliceO (.int 0 t) .none .none))
    (hsz : its.size ≤ sizeLine) (h : Q (.ref s.heap.objs.size) { s with heap := s.heap.push (listOf its 0) }) :
    wpAny (model prog w) A (Builtin.«list.__getitem__» ⟨[.ref P, .ref sl], []⟩) (fun fin s' => ∃ v, fin = .done (.ret v) ∧ Q v s') E s := by
  unfold Builtin.«list.__getitem__»
  repeat (first | lk)
  have e0 : (Max.max (0 : Int) (Min.min (if (0 : Int) < 0 then 0 + (its.size : Int) else 0) its.size)) = ((0 : Nat) : Int) := by
    rw [if_neg (by decide)]; omega
  have e1 : (List.filterMap (fun x => its[x]?) (sliceRange (Max.max 0 (Min.min (if (0 : Int) < 0 then 0 + (its.size : Int) else 0) its.size)) (if (1 : Int) > 0 then (its.size : Int) else -1) 1)).toArray = its := by
    rw [e0, if_pos (by decide), slice_is, List.drop_zero, List.take_of_length_le (by simp)]
  simp only [e1]
  rw [if_neg (by omega)]
  repeat (first | exact ⟨_, rfl, h⟩ | lk)
theorem acc_setAll_body {t : Tok} {e : Addr} {ne : Nat} {Q : Value → Shared → Prop} (hP : s.heap.get? P = some (accO D its n)) (hsl : s.heap.get? sl = some (sliceO (.int 0 t) .none .none)) (he : s.heap.get? e = some (listOf #[] ne)) (hne : P ≠ e) (hsz : its.size ≤ 2 ^ 20)
    (h : ∀ h' n', Heap.SameBut P s.heap h' → h'.get? P = some (accO D #[] n') → Q .none { s with heap := h' }) :
    wpAny (model prog w) A (Builtin.«list.__setitem__» ⟨[.ref P, .ref sl, .ref e], []⟩) (fun fin s' => ∃ v, fin = .done (.ret v) ∧ Q v s') E s := by
  unfold Builtin.«list.__setitem__»
  repeat (first | lk)
  have e1 : List.listSameRef (.ref P) (.ref e) = false := by simp [List.listSameRef, hne]
  rw [e1, if_neg (by decide)]
  repeat (first | lk)
  have e0 : (Max.max (0 : Int) (Min.min (if (0 : Int) < 0 then 0 + (its.size : Int) else 0) its.size)) = ((0 : Nat) : Int) := by
    rw [if_neg (by decide)]; omega
  have e2 : List.listTooLong (its.size + (#[] : Array Value).size) = false := by
    unfold List.listTooLong
    rw [sizeLine_eq]
    simp
    omega
  have e3 : (Max.max ((0 : Nat) : Int) (if (1 : Int) > 0 then (its.size : Int) else -1)).toNat = its.size := by rw [if_pos (by decide)]; omega
  simp only [e0, e2, e3]
  rw [if_neg (by decide)]
  have hf : (fun xs : Array Value => xs.extract 0 ((0 : Nat) : Int).toNat ++ #[] ++ xs.extract its.size) its = #[] := by simp
  have hm : ∃ n', Obj.mapSeq (fun xs : Array Value => xs.extract 0 ((0 : Nat) : Int).toNat ++ #[] ++ xs.extract its.size) (accO D its n) = accO D #[] n' := by
    exact ⟨if 0 = its.size then n else n + 1, by simp [Obj.mapSeq]⟩
  obtain ⟨n', hm⟩ := hm
  show wpAny _ _ (updateSeq P _ >>= _) _ _ _
  refine wpAny_bind (wpAny_updateSeq hP rfl ?_ (by rw [sizeLine_eq]; omega) (by simp))
  refine wpAny_bind (wpAny_letGo ?_)
  exact wpAny_pure ⟨.none, rfl, h _ n' (Heap.SameBut.update ..) (by rw [Heap.get?_update_self _ hP (by rw [hm]; rfl), hm])⟩

theorem acc_seqKey {M : Model} {k : Value} {name : Str} (X : (hd.heap_39 w.params).In s.heap) (hP : s.heap.get? P = some (accO D its n)) : Looks M s.heap (sequenceKey (.ref P) k name) k := by
  have ht : Looks M s.heap (typeOf (.ref P)) (.ref 101) := (Looks.ld hP).andThen .now
  have hm : Looks M s.heap (mroOf (.ref 101)) [.ref 101, .type "list", .type "object"] := (looks_clsIn X (by k_is)).andThen .now
  have hany : Looks M s.heap (seqItemTypes.anyM fun n => isSubtype (.ref 101) (.type n)) false := by
    intro A Q E s' kk q
    have h101 := kk _ _ (X 101 _ (by k_is))
    unfold seqItemTypes
    repeat (first | exact q | lk)
  intro A Q E s' kk q
  unfold sequenceKey
  refine wpAny_bind (ht _ _ _ _ kk ?_)
  dsimp only
  refine wpAny_bind (hany _ _ _ _ kk ?_)
  exact wpAny_pure q

theorem acc_getAll {t : Tok} {Q : Value → Shared → Prop} (F : Fr h₀ L s.heap m) (X₀ : (hd.heap_39 w.params).In h₀) (N : News h₀ L s.heap R) (hP : (P, accO D its n) ∈ R) (hsl : (sl, sliceO (.int 0 t) .none .none) ∈ R) (hsz : its.size ≤ sizeLine)
    (h : ∀ l h', Fr h₀ L h' m → News h₀ L h' ((l, listOf its 0) :: R) → (∀ p ∈ R, p.1 < l) → Q (.ref l) { s with heap := h' }) : wpAny (model prog w) A (getItem (.ref P) (.ref sl)) Q E s := by
  have X := X₀.keeps F.keep
  have z := (N _ hP).1
  have ht : Looks (model prog w) s.heap (typeOf (.ref P)) (.ref 101) := (Looks.ld z).andThen .now
  have hg : Looks (model prog w) s.heap (typeLookup (.ref 101) "__getitem__") (some (.builtin "list.__getitem__")) := looks_findIn X (by k_is)
  unfold getItem
  refine wpAny_holding (wpAny_bind ((acc_seqKey X z).here ?_))
  unfold callSpecial? specialOf
  refine wpAny_bind (wpAny_bind (wpAny_bind (ht.here (hg.here (wpAny_holding ?_)))))
  rw [slot_list_getitem.bind]
  refine wpAny_bind (wpAny_pure (wpAny_bind ?_))
  refine acc_entry (kd := .method) (nm := "__getitem__") (by decide +kernel) (.inl rfl) (by decide +kernel) (by decide +kernel) entry_list_getitem (args_list_getitem _ _) X z rfl ?_
  refine acc_getAll_body z (N _ hsl).1 hsz ?_
  exact wpAny_pure (wpAny_pure (h _ _ (F.push _) (N.push F _) (fun p hp => Heap.lt_size (N p hp).1)))

theorem acc_setAll {R' : List (Addr × Obj)} {t : Tok} {e : Addr} {ne : Nat} {Q : Unit → Shared → Prop} (F : Fr h₀ L s.heap m) (X₀ : (hd.heap_39 w.params).In h₀) (N : News h₀ L s.heap (R' ++ (P, accO D its n) :: R)) (hsl : (sl, sliceO (.int 0 t) .none .none) ∈ R') (he : (e, listOf #[] ne) ∈ R')
    (h1 : ∀ p ∈ R', p.1 ≠ P) (h2 : ∀ p ∈ R, p.1 ≠ P) (hsz : its.size ≤ 2 ^ 20)
    (h : ∀ h' n', Fr h₀ L h' m → News h₀ L h' (R' ++ (P, accO D #[] n') :: R) → Q () { s with heap := h' }) : wpAny (model prog w) A (setItem (.ref P) (.ref sl) (.ref e)) Q E s := by
  have X := X₀.keeps F.keep
  have hz := N (P, accO D its n) (by simp)
  have z := hz.1
  have ht : Looks (model prog w) s.heap (typeOf (.ref P)) (.ref 101) := (Looks.ld z).andThen .now
  have hg : Looks (model prog w) s.heap (typeLookup (.ref 101) "__setitem__") (some (.builtin "list.__setitem__")) := looks_findIn X (by k_is)
  unfold setItem
  refine wpAny_holding (wpAny_bind ((acc_seqKey X z).here ?_))
  unfold callSpecial? specialOf
  refine wpAny_bind (wpAny_bind (wpAny_bind (ht.here (hg.here (wpAny_holding ?_)))))
  rw [PySem.F.slot_list_setitem.bind]
  refine wpAny_bind (wpAny_pure (wpAny_bind ?_))
  refine acc_entry (kd := .slot) (nm := "__setitem__") (by decide +kernel) (.inr rfl) (by decide +kernel) (by decide +kernel) PySem.F.entry_list_setitem (PySem.F.args_list_setitem_3 _ _ _) X z rfl ?_
  refine acc_setAll_body z (N _ (List.mem_append_left _ hsl)).1 (N _ (List.mem_append_left _ he)).1 (h1 _ he).symm hsz fun h' n' hs ho => ?_
  exact wpAny_pure (wpAny_pure (h h' n' (F.change hs hz.2.1 hz.2.2) (news_set N h1 h2 hs ho)))

theorem acc_noPy (X : (hd.heap_39 w.params).In s.heap) (hP : s.heap.get? P = some (accO D its n)) : Looks (model prog w) s.heap (getitemInPython (.ref P)) false := by
  have ht : Looks (model prog w) s.heap (typeOf (.ref P)) (.ref 101) := (Looks.ld hP).andThen .now
  have hg : Looks (model prog w) s.heap (typeLookup (.ref 101) "__getitem__") (some (.builtin "list.__getitem__")) := looks_findIn X (by k_is)
  intro A Q E s' k q
  unfold getitemInPython specialOf
  refine wpAny_bind (wpAny_bind (ht _ _ _ _ k (hg _ _ _ _ k ?_)))
  exact wpAny_pure q

theorem acc_tailAll {value slice : Expr} {hh : Heap} {g : Array GenState} {d : Drawn} {tk : Nat} {os : OsState} {t : Tok} {Q : Value → Shared → Prop} (F : Fr h₀ L hh m) (X₀ : (hd.heap_39 w.params).In h₀) (N : News h₀ L hh R) (hP : (P, accO D its n) ∈ R) (hsz : its.size ≤ sizeLine)
    (h : ∀ l sl h', Fr h₀ L h' m → News h₀ L h' ((l, listOf its 0) :: (sl, sliceO (.int 0 t) .none .none) :: R) → (∀ p ∈ R, p.1 < sl) → sl < l → Q (.ref l) ⟨h', g, d, tk, os⟩)
    (hs : subscripted slice false (.ref P) (.ref hh.objs.size) = operate [.ref hh.objs.size, .ref P] (getItem (.ref P) (.ref hh.objs.size)) := by with_unfolding_all rfl) :
    wpAny (model prog w) A (subscriptTail value slice (.ref P) (.ref hh.objs.size)) Q E ⟨hh.push (sliceO (.int 0 t) .none .none), g, d, tk, os⟩ := by
  have N' := N.push F (sliceO (.int 0 t) .none .none)
  have F' := F.push (sliceO (.int 0 t) .none .none)
  unfold subscriptTail
  refine wpAny_bind ((acc_noPy (s := ⟨hh.push (sliceO (.int 0 t) .none .none), g, d, tk, os⟩) (X₀.keeps F'.keep) (N' _ (.tail _ hP)).1).here ?_)
  rw [hs]
  refine wpAny_bind ?_
  refine wpAny_operating (acc_getAll (s := ⟨hh.push (sliceO (.int 0 t) .none .none), g, d, tk, os⟩) F' X₀ N' (.tail _ hP) (.head _) hsz ?_)
  intro l h' F2 N2 l2
  refine wpAny_bind (wpAny_letTemporaryGo (wpAny_pure ?_))
  exact h l _ h' F2 N2 (fun p hp => Heap.lt_size (N p hp).1) (l2 _ (.head _))

theorem acc_setTail {R' : List (Addr × Obj)} {hh : Heap} {g : Array GenState} {d : Drawn} {tk : Nat} {os : OsState} {t : Tok} {e : Addr} {ne : Nat} {Q : Unit → Shared → Prop} (F : Fr h₀ L hh m) (X₀ : (hd.heap_39 w.params).In h₀) (N : News h₀ L hh (R' ++ (P, accO D its n) :: R)) (he : (e, listOf #[] ne) ∈ R')
    (h1 : ∀ p ∈ R', p.1 ≠ P) (h2 : ∀ p ∈ R, p.1 ≠ P) (hsz : its.size ≤ 2 ^ 20)
    (h : ∀ h' n', Fr h₀ L h' m → News h₀ L h' (R' ++ (P, accO D #[] n') :: R) → Q () ⟨h', g, d, tk, os⟩) : wpAny (model prog w) A (setItem (.ref P) (.ref hh.objs.size) (.ref e)) Q E ⟨hh.push (sliceO (.int 0 t) .none .none), g, d, tk, os⟩ := by
  have N' := N.push F (sliceO (.int 0 t) .none .none)
  have F' := F.push (sliceO (.int 0 t) .none .none)
  have hlt := Heap.lt_size (N (P, accO D its n) (by simp)).1
  refine acc_setAll (s := ⟨hh.push (sliceO (.int 0 t) .none .none), g, d, tk, os⟩) (R' := (hh.objs.size, sliceO (.int 0 t) .none .none) :: R') F' X₀ N' (.head _) (.tail _ he) ?_ h2 hsz fun h' n' F2 N2 => ?_
  · intro p hp
    rcases List.mem_cons.mp hp with rfl | hp
    · exact Nat.ne_of_gt hlt
    · exact h1 p hp
  · exact h h' n' F2 (drop1 N2)
end
end Mine

end
/- A8 -/
section
open PySem PySem.W PyProof.Rows PySem.Calls PySem.Spec Builtin
set_option maxHeartbeats 1000000
namespace Mine
theorem allLt_mono {a b : Nat} {l : List (Addr × Obj)} (h : AllLt a l) (hab : a ≤ b) : AllLt b l := allLt_of fun p hp => Nat.lt_of_lt_of_le (lt_of_all h p hp) hab
theorem pick2 {h₀ h : Heap} {L : Addr} {a b c : Addr × Obj} {l : List (Addr × Obj)} (N : News h₀ L h (a :: b :: c :: l)) : News h₀ L h (b :: l) := fun p hp => N p (by
  rcases List.mem_cons.mp hp with rfl | hp
  · exact .tail _ (.head _)
  · exact .tail _ (.tail _ (.tail _ hp)))
theorem lines_A8_1 : True := by
  k_with_none
  k_with "subscriptTail" => ((with_reducible show wpAny _ _ (subscriptTail _ (Expr.Slice _ _ _ _) (Value.ref _) (Value.ref _)) _ _ _); k_dflt (apply acc_tailAll; k_asm; k_asm; k_asm; k_mem; assumption; rotate_left; with_unfolding_all rfl); intro _ _ _ _ _ l1 l2; (try k_lt l1); (try k_lt2 l2); revert l1 l2; intro _ _)
  k_with "setItem ref ref" => ((with_reducible show wpAny _ _ (setItem (Value.ref _) (Value.ref _) (Value.ref _)) _ _ _); k_dflt (apply acc_setTail (R' := [_, _, _]); k_asm; k_asm; k_asm; k_mem; k_all; assumption; assumption); intro _ _ _ N'; (try dsimp only [List.cons_append, List.nil_append] at N'); revert N'; intro _)
  exact trivial
theorem pop_from_spec {w : World} {P D : Addr} {its : Array Value} {n : Nat} {hs head : Int} {tk0 th : Tok} (hsz : its.size ≤ 2 ^ 20) :
    SpecM w 880 2400 (.ref 53) [.ref P] P (accO D its n) [(D, accD hs tk0 head th)] (fun v oP' post => ∃ l n', v = .ref l ∧ oP' = accO D #[] n' ∧ post = [(l, listOf its 0)]) := by
  intro p loose mean mg mb gd A₀ cn cs a ccd cl outer base h₀ L m s Q E R hk B F X N T hnp ret
  simp only [List.cons_append, List.nil_append] at N hnp
  have hsz' : its.size ≤ sizeLine := by rw [sizeLine_eq]; omega
  refine wpAny_call ?_
  k_dflt ((refine' code_def ?zzk1 ?zzk2 ?zzk3 ?zzk4 ?zzk5 ?zzkA ?zzkF ?zzkK ?zzk6 ?zzk7 ?zzk8 ?zzk9 ?zzkB ?_ ?zzc2 ?zzc3 ?zzc4 ?zzc5; (case zzkA => exact rfl); (case zzkF => exact rfl); (case zzkK => assumption); (case zzk1 => k_asm); (case zzk2 => k_asm); (case zzk3 => k_asm); (case zzk4 => k_asm); (case zzk5 => k_asm); (case zzk6 => k_is); (case zzk7 => k_is); (case zzk8 => k_room); (case zzk9 => exact binds_K (by k_in) rfl (by k_is) rfl rfl rfl); (case zzc5 => decide); (case zzkB => exact locs rfl); (case zzc2 => exact rfl); (case zzc3 => exact rfl); (case zzc4 => exact rfl); k_whole; intro g' L' h' FG' F' N' B' X' T'; (try dsimp only); (try k_lift B'); (try k_fold)))
  k_steps
  rename Fr _ _ _ _ => FF
  rename News _ _ _ _ => NN
  refine ret _ _ _ _ _ ⟨_, _, rfl, rfl, rfl⟩ (fun q hq => ?_) FF (swap2 (pick2 NN))
  rw [List.mem_singleton.mp hq]
  have lq : AllLt _ ((P, accO D its n) :: (D, accD hs tk0 head th) :: R) := allLt_mono (by assumption) (Nat.le_of_lt (by assumption))
  exact ⟨lq.1, lq.2.2⟩
end Mine

end
/- B0 -/
section
open PySem PySem.W PyProof.Rows PySem.Calls PySem.Spec Builtin
set_option maxHeartbeats 1000000
namespace Mine
abbrev iterO (l : Addr) (i : Nat) : Obj := { cls := .type "list_iterator", data := .fields #[.ref l, .int i 0] }


section
variable {prog : Program} {w : World} {A : Around} {E : Value → Shared → Prop} {s : Shared} {env : Env} {h₀ : Heap} {l : Addr} {items : Array Value} {target : Expr} {body : List Stmt} {m : Str → Option Value} {news : List (Addr × Obj)} {Q : Flow → Shared → Prop}

/-- a for loop, turn by turn; nothing is raised -/
theorem forLoop_gen {R : Result → Shared → Prop} {it : Value} {orelse : List Stmt} (I : Nat → Shared → Prop)
    (turn : ∀ n s, I n s → wpAny (model prog w) A (pyNext it) (fun r s₁ => match r with
      | none => wpAny (model prog w) A (execs orelse env) (fun f s₃ => R (.ok f) s₃) (fun _ _ => False) s₁
      | some v => wpAny (model prog w) A (letOwnedTupleGo target it v) (fun _ s₁ => wpAny (model prog w) A (assign target env v) (fun _ s₂ => wpAny (model prog w) A (execs body env) (fun f s₃ => match f with
          | .next | .cont => ∃ m, m < n ∧ I m s₃
          | .brk => R (.ok .next) s₃
          | .ret v => R (.ok (.ret v)) s₃) (fun _ _ => False) s₂) (fun _ _ => False) s₁) (fun _ _ => False) s₁) (fun _ _ => False) s)
    (n : Nat) (h : I n s) : codeAny (model prog w) A (.forLoop target it body orelse env) R s := by
  refine codeAny_loop' rfl I (fun n s hI => ?_) n h
  show wpAny _ _ ((forTurn target it body orelse env).onRaise (fun x => do noteFrame x env; theTreesLotGoes x)) _ _ s
  refine wpAny_noted (wpAny_mono ?_ (fun _ _ x => x) (fun _ _ (x : False) => x.elim))
  simp only [forTurn]
  refine wpAny_bind (wpAny_standAt (wpAny_bind (wpAny_onRaise (wpAny_mono (turn n s hI) (fun r s₁ h₁ => ?_) fun _ _ x => x.elim))))
  cases r with
  | none => exact wpAny_pure (.inr ⟨rfl, codeAny_block (wpAny_mono h₁ (fun _ _ x => x) fun _ _ x => x.elim)⟩)
  | some v =>
    refine wpAny_bind (wpAny_mono h₁ (fun _ s₁ h₁ => wpAny_bind (wpAny_mono h₁ (fun _ s₂ h₂ => wpAny_bind (wpAny_mono h₂ (fun f s₃ h₃ => ?_) fun _ _ h' => h')) fun _ _ h' => h')) fun _ _ h' => h')
    cases f with
    | next => exact wpAny_pure (.inl ⟨rfl, h₃⟩)
    | cont => exact wpAny_pure (.inl ⟨rfl, h₃⟩)
    | brk => exact wpAny_pure h₃
    | ret v => exact wpAny_pure h₃

theorem owned_list {I l : Addr} {i : Nat} {v : Value} {Q' : Unit → Shared → Prop} (hit : s.heap.IsListIter I l i) (hQ : Q' () s) : wpAny (model prog w) A (letOwnedTupleGo target (.ref I) v) Q' E s := by
  obtain ⟨o, ho, hc, hd⟩ := hit
  obtain ⟨oc, od, da, sl⟩ := o
  dsimp only at hc hd
  subst hc hd
  unfold letOwnedTupleGo
  split
  · cases v with
    | ref a => exact wpAny_bind (wpAny_load ho (wpAny_pure hQ))
    | _ => exact wpAny_pure hQ
  · cases v with
    | ref a => exact wpAny_bind (wpAny_load ho (wpAny_pure hQ))
    | _ => exact wpAny_pure hQ
  · exact wpAny_pure hQ

/-- one turn's end -/
inductive TEnd (h₀ : Heap) (L : Addr) (s : Shared) (it : Addr) (oi : Obj) (I : Array GenState → (Str → Option Value) → List (Addr × Obj) → Prop) (s₃ : Shared) : Prop
  | mk (h' : Heap) (tk' : Tok) (g' : Array GenState) (m₂ : Str → Option Value) (news₂ : List (Addr × Obj)) (e : s₃ = { s with heap := h', toks := tk', gens := g' }) (F : Fr h₀ L h' m₂) (N : News h₀ L h' ((it, oi) :: news₂)) (D : ∀ p ∈ news₂, p.1 ≠ it) (i : I g' m₂ news₂) : TEnd h₀ L s it oi I s₃
def TurnEnd (h₀ : Heap) (L : Addr) (s : Shared) (it : Addr) (oi : Obj) (I : Array GenState → (Str → Option Value) → List (Addr × Obj) → Prop) (Q : Flow → Shared → Prop) (f : Flow) (s₃ : Shared) : Prop :=
  match f with
  | .ret v => Q (.ret v) s₃
  | .brk => Q .next s₃
  | _ => TEnd h₀ L s it oi I s₃

theorem news_extBut {h h' : Heap} {L it : Addr} {news : List (Addr × Obj)} (N : News h₀ L h news) (hs : Heap.ExtBut it h h') (hne : ∀ p ∈ news, p.1 ≠ it) : News h₀ L h' news :=
  fun p hp => ⟨hs _ _ (hne p hp) (N p hp).1, (N p hp).2⟩
theorem fr_extBut {h h' : Heap} {L it : Addr} {m : Str → Option Value} (F : Fr h₀ L h m) (hs : Heap.ExtBut it h h') (hL : L ≠ it) (hn : h₀.get? it = none) : Fr h₀ L h' m := by
  obtain ⟨oL, a1, a2, hoL, a3⟩ := F.ns
  refine ⟨⟨oL, a1, a2, hs _ _ hL hoL, a3⟩, fun b x e => hs b x ?_ (F.keep b x e), F.above⟩
  rintro rfl
  rw [hn] at e; cases e

/-- between the turns of a loop: the iterator, as P tells it -/
inductive GInv (h₀ : Heap) (L : Addr) (s : Shared) (n : Nat) (P : Heap → Nat → Prop) (I : Nat → Array GenState → (Str → Option Value) → List (Addr × Obj) → Prop) (k : Nat) (s₁ : Shared) : Prop
  | mk (i : Nat) (g : Array GenState) (h : Heap) (tk : Tok) (m₁ : Str → Option Value) (news₁ : List (Addr × Obj)) (hit : P h i) (e : k = n - i) (hi : i ≤ n) (e2 : s₁ = { s with heap := h, toks := tk, gens := g }) (F : Fr h₀ L h m₁) (N : News h₀ L h news₁) (D : ∀ p ∈ news₁, p.1 ≠ s.heap.objs.size) (h' : I i g m₁ news₁) : GInv h₀ L s n P I k s₁
theorem GInv.go {h₀ : Heap} {L : Addr} {s s₃ : Shared} {n i : Nat} {oi : Obj} {P : Heap → Nat → Prop} {I : Nat → Array GenState → (Str → Option Value) → List (Addr × Obj) → Prop} (hi : i < n) (hp : ∀ h4 : Heap, h4.get? s.heap.objs.size = some oi → P h4 (i + 1)) (h : TEnd h₀ L s s.heap.objs.size oi (I (i + 1)) s₃) : ∃ m, m < n - i ∧ GInv h₀ L s n P I m s₃ := by
  obtain ⟨h4, tk4, g4, m4, news4, e4, F4, N4, ND4, I4⟩ := h
  exact ⟨n - (i + 1), by omega, i + 1, g4, h4, tk4, m4, news4, hp _ (N4 _ (.head _)).1, rfl, by omega, e4, F4, fun q hq => N4 q (.tail _ hq), ND4, I4⟩
/-- between the turns of a loop over a list -/
inductive LIInv (h₀ : Heap) (L : Addr) (s : Shared) (l : Addr) (items : Array Value) (I : Nat → Array GenState → (Str → Option Value) → List (Addr × Obj) → Prop) (nt : Nat) (k : Nat) (s₁ : Shared) : Prop
  | mk (i : Nat) (g : Array GenState) (h : Heap) (tk : Tok) (m₁ : Str → Option Value) (news₁ : List (Addr × Obj)) (oi : Obj) (htk : nt ≤ tk) (hc : oi.cls = .type "list_iterator") (hd : oi.data = .fields #[.ref l, .int i 0]) (e : k = items.size - i) (hi : i ≤ items.size) (e2 : s₁ = { s with heap := h, toks := tk, gens := g }) (F : Fr h₀ L h m₁)
    (N : News h₀ L h ((s.heap.objs.size, oi) :: news₁)) (D : ∀ p ∈ news₁, p.1 ≠ s.heap.objs.size) (h' : I i g m₁ news₁) : LIInv h₀ L s l items I nt k s₁
/-- a loop over a list, the count of tokens known from below -/
theorem for_listGT {nt : Nat} (hnt : nt ≤ s.toks) (I : Nat → Array GenState → (Str → Option Value) → List (Addr × Obj) → Prop) (hh : A.handled = none) (hl : (∃ n, (l, listOf items n) ∈ news) ∨ h₀.IsList l items) (F : Fr h₀ env.locals s.heap m) (N : News h₀ env.locals s.heap news)
    (hI : ∀ i g m news, I i g m news → (∃ n, (l, listOf items n) ∈ news) ∨ h₀.IsList l items) (h0 : I 0 s.gens m news)
    (turn : ∀ i v g m₁ news₁ it oi h tk, nt ≤ tk → items[i]? = some v → I i g m₁ news₁ → Fr h₀ env.locals h m₁ → News h₀ env.locals h ((it, oi) :: news₁) → (∀ p ∈ news₁, p.1 ≠ it) → ∀ TT : Flow → Shared → Prop, (∀ h' tk' g' m₂ news₂, Fr h₀ env.locals h' m₂ → News h₀ env.locals h' ((it, oi) :: news₂) → (∀ p ∈ news₂, p.1 ≠ it) → I (i + 1) g' m₂ news₂ → TT .next { s with heap := h', toks := tk', gens := g' }) → (∀ v s₃, Q (.ret v) s₃ → TT (.ret v) s₃) →
      wpAny (model prog w) A (assign target env v) (fun _ s₂ => wpAny (model prog w) A (execs body env) TT (fun _ _ => False) s₂) (fun _ _ => False) { s with heap := h, toks := tk, gens := g })
    (done : ∀ g m₁ news₁ h tk, nt ≤ tk → I items.size g m₁ news₁ → Fr h₀ env.locals h m₁ → News h₀ env.locals h news₁ → Q .next { s with heap := h, toks := tk, gens := g }) :
    wpAny (model prog w) A (pyIter (.ref l)) (fun it s₂ => codeAny (model prog w) A (.forLoop target it body [] env) (fun r s' => match r with | .ok f => Q f s' | .error e => cameBackBy (model prog w) A env E e s') s₂) E s := by
  have isl : ∀ {h : Heap} {m₁ : Str → Option Value} {news₁ : List (Addr × Obj)}, Fr h₀ env.locals h m₁ → News h₀ env.locals h news₁ → ((∃ n, (l, listOf items n) ∈ news₁) ∨ h₀.IsList l items) → h.IsList l items := fun F N e => by
    rcases e with ⟨n, hm⟩ | hb
    · exact ⟨_, (N _ hm).1, rfl, n, rfl⟩
    · exact hb.at fun o e => F.keep l o e
  refine wpAny_pyIter_list (isl F N hl) ?_
  have hnL : s.heap.objs.size ≠ env.locals := by have := F.ns.lt; exact Nat.ne_of_gt this
  have hn0 : h₀.get? s.heap.objs.size = none := next_is_new F
  refine forLoop_gen (LIInv h₀ env.locals s l items I nt) ?_ items.size ?_
  · rintro k s₁ ⟨i, g, h, tk, m₁, news₁, oi, htk, hoc, hod, rfl, hle, rfl, F₁, N₁, ND₁, hi₁⟩
    have hL := isl F₁ (drop1 N₁) (hI _ _ _ _ hi₁)
    have hit : h.IsListIter s.heap.objs.size l i := ⟨_, (N₁ _ (.head _)).1, hoc, hod⟩
    have hne := ND₁
    cases hx : items[i]? with
    | some v =>
      refine wpAny_pyNext_list_item (s := { s with heap := h, toks := tk, gens := g }) hit hL hx fun h' hit' hs' => ?_
      obtain ⟨oi', hoi, hc, hd⟩ := hit'
      have hlt : i < items.size := by
        rcases Nat.lt_or_ge i items.size with h | h
        · exact h
        · rw [Array.getElem?_eq_none h] at hx; cases hx
      have z := N₁ _ (.head _)
      have F₂ : Fr h₀ env.locals h' m₁ := F₁.change hs' z.2.1 z.2.2
      have N₂ : News h₀ env.locals h' ((s.heap.objs.size, oi') :: news₁) := news_set (pre := []) N₁ (fun _ h => nomatch h) hne hs' hoi
      refine owned_list (s := { s with heap := h', toks := tk, gens := g }) ⟨_, hoi, hc, hd⟩ ?_
      refine wpAny_mono (wpAny_toks_of (n := nt) (by exact htk) (turn i v g m₁ news₁ _ oi' h' tk htk hx hi₁ F₂ N₂ ND₁ (TurnEnd h₀ env.locals s s.heap.objs.size oi' (I (i + 1)) Q) (fun h4 tk4 g4 m4 news4 F4 N4 D4 I4 => ⟨h4, tk4, g4, m4, news4, rfl, F4, N4, D4, I4⟩) (fun _ _ h => h))) (fun _ s₂ h₂ => wpAny_mono (wpAny_toks_of h₂.1 h₂.2) (fun f s₃ h₃ => ?_) fun _ _ x => x.2.elim) fun _ _ x => x.2.elim
      obtain ⟨htk3, h₃⟩ := h₃
      have go : TEnd h₀ env.locals s s.heap.objs.size oi' (I (i + 1)) s₃ → ∃ m, m < items.size - i ∧ LIInv h₀ env.locals s l items I nt m s₃ := by
        rintro ⟨h4, tk4, g4, m4, news4, e4, F4, N4, ND4, I4⟩
        exact ⟨items.size - (i + 1), by omega, i + 1, g4, h4, tk4, m4, news4, oi', by rw [e4] at htk3; exact htk3, hc, hd, rfl, by omega, e4, F4, N4, ND4, I4⟩
      cases f with
      | ret v => exact h₃
      | brk => exact h₃
      | next => exact go h₃
      | cont => exact go h₃
    | none =>
      refine wpAny_pyNext_list_end (s := { s with heap := h, toks := tk, gens := g }) hh hit hL hx fun h' hs' => ?_
      have he : i = items.size := by
        have : items.size ≤ i := by
          rcases Nat.lt_or_ge i items.size with h | h
          · rw [Array.getElem?_eq_getElem h] at hx; cases hx
          · exact h
        omega
      subst he
      exact wpAny_pure (done g m₁ news₁ h' tk htk hi₁ (fr_extBut F₁ hs' hnL.symm hn0) (news_extBut (drop1 N₁) hs' hne))
  · refine ⟨0, s.gens, _, s.toks, m, news, iterO l 0, hnt, rfl, rfl, rfl, Nat.zero_le _, rfl, F.push _, N.push F _, fun p hp => Nat.ne_of_lt (Heap.lt_size (N p hp).1), h0⟩

theorem for_listG (I : Nat → Array GenState → (Str → Option Value) → List (Addr × Obj) → Prop) (hh : A.handled = none) (hl : (∃ n, (l, listOf items n) ∈ news) ∨ h₀.IsList l items) (F : Fr h₀ env.locals s.heap m) (N : News h₀ env.locals s.heap news)
    (hI : ∀ i g m news, I i g m news → (∃ n, (l, listOf items n) ∈ news) ∨ h₀.IsList l items) (h0 : I 0 s.gens m news)
    (turn : ∀ i v g m₁ news₁ it oi h tk, items[i]? = some v → I i g m₁ news₁ → Fr h₀ env.locals h m₁ → News h₀ env.locals h ((it, oi) :: news₁) → (∀ p ∈ news₁, p.1 ≠ it) → ∀ TT : Flow → Shared → Prop, (∀ h' tk' g' m₂ news₂, Fr h₀ env.locals h' m₂ → News h₀ env.locals h' ((it, oi) :: news₂) → (∀ p ∈ news₂, p.1 ≠ it) → I (i + 1) g' m₂ news₂ → TT .next { s with heap := h', toks := tk', gens := g' }) → (∀ v s₃, Q (.ret v) s₃ → TT (.ret v) s₃) →
      wpAny (model prog w) A (assign target env v) (fun _ s₂ => wpAny (model prog w) A (execs body env) TT (fun _ _ => False) s₂) (fun _ _ => False) { s with heap := h, toks := tk, gens := g })
    (done : ∀ g m₁ news₁ h tk, I items.size g m₁ news₁ → Fr h₀ env.locals h m₁ → News h₀ env.locals h news₁ → Q .next { s with heap := h, toks := tk, gens := g }) :
    wpAny (model prog w) A (pyIter (.ref l)) (fun it s₂ => codeAny (model prog w) A (.forLoop target it body [] env) (fun r s' => match r with | .ok f => Q f s' | .error e => cameBackBy (model prog w) A env E e s') s₂) E s :=
  for_listGT (nt := 0) (Nat.zero_le _) I hh hl F N hI h0 (fun i v g m₁ news₁ it oi h tk _ => turn i v g m₁ news₁ it oi h tk) (fun g m₁ news₁ h tk _ => done g m₁ news₁ h tk)

theorem For_hold {iter : Expr} {pos : Pos} (h : wpAny (model prog w) A (eval iter env) (fun x s₁ => Hold (wpAny (model prog w) A (pyIter x) (fun it s₂ => codeAny (model prog w) A (.forLoop target it body [] env) (fun r s' => match r with | .ok f => Q f s' | .error e => cameBackBy (model prog w) A env E e s') s₂) E s₁)) E s)
    (hs : ∀ x, foldedSetIterable iter env x = pure x := by intro _; rfl) : wpAny (model prog w) A (exec (.For target iter body [] pos) env) Q E s := wpAny_For h hs

/-- a name's value, written into the frame's map -/
theorem know {L : Addr} {h : Heap} {x : Str} {v : Value} (F : Fr h₀ L h m) (e : m x = some v) : Fr h₀ L h (fun y => if y = x then some v else m y) := by
  have : (fun y => if y = x then some v else m y) = m := by
    funext y
    by_cases hy : y = x
    · subst hy; rw [if_pos rfl, e]
    · rw [if_neg hy]
  rw [this]; exact F
theorem knows (kvs : List (Str × Value)) {L : Addr} {h : Heap} (F : Fr h₀ L h m) (e : ∀ p ∈ kvs, m p.1 = some p.2) : Fr h₀ L h (fun y => (kvs.lookup y).or (m y)) := by
  have : (fun y => (kvs.lookup y).or (m y)) = m := by
    funext y
    induction kvs with
    | nil => rfl
    | cons p kvs ih =>
      rw [List.lookup_cons]
      by_cases hy : (y == p.1) = true
      · rw [hy]
        have : y = p.1 := beq_iff_eq.mp hy
        rw [this, e p (.head _)]; rfl
      · rw [Bool.not_eq_true] at hy
        rw [hy]
        exact ih fun q hq => e q (.tail _ hq)
  rw [this]; exact F
end
end Mine

end
/- B1 -/
section
open PySem PySem.W PyProof.Rows PySem.Calls PySem.Spec Builtin
set_option maxHeartbeats 1000000
namespace Mine
theorem lines_B1_1 : True := by
  k_with_none
  k_with "exec For" => (refine For_hold ?_)
  exact trivial
def verd (x y f1 f2 : Int) : Int := if x < y then 1 else if x > y then -1 else if f1 < f2 then -1 else if f1 > f2 then 1 else 0
theorem compare_spec {w : World} {J d l T1 T2 LT RT : Addr} {hs : Int} {tk t1 t2 t3 t4 u1 u2 u3 u4 : Tok} {f1 f2 x y : Int} :
    SpecR w 820 2200 (.ref 126) [.ref J, .ref LT, .ref RT] [(LT, tupO [.int f1 u1, .int x u2]), (RT, tupO [.int f2 u3, .int y u4]), (J, instObj 129 d), (d, dictOf [⟨hs, .str "comp_select_list" tk, .ref l⟩] 1), (l, listOf #[.ref T1, .ref T2] 0), (T1, tupO [.int 1 t1, .int (-1) t2]), (T2, tupO [.int 0 t3, .int 1 t4])]
      (fun v post => (∃ t, v = .int (verd x y f1 f2) t) ∧ post = []) := by
  intro p loose mean mg mb gd A₀ cn cs a ccd cl outer base h₀ L m s Q E R hk B F X N T ret
  simp only [List.cons_append, List.nil_append] at N
  have fin : ∀ (v : Int) t h' tk news', v = verd x y f1 f2 → Fr h₀ L h' m → News h₀ L h' news' → (∀ q ∈ R, q ∈ news') → Q (.int v t) { s with heap := h', toks := tk } := fun v t h' tk news' e F' N' hR => ret _ _ _ _ ⟨⟨t, by rw [e]⟩, rfl⟩ (fun _ h => nomatch h) .nil F' (fun q hq => N' q (hR q hq))
  refine wpAny_call ?_
  k_dflt cell_enter
  refine hide_post fun QQ EE hQQ hEE => ?_
  k_steps
  unfold Hold
  rename Fr _ _ _ _ => FF
  rename News _ _ _ _ => NN
  refine for_listG (items := #[.ref T1, .ref T2]) (fun i g m' news' => g = s.gens ∧ m' "left" = some (.ref LT) ∧ m' "right" = some (.ref RT) ∧ (∀ q ∈ ((LT, tupO [.int f1 u1, .int x u2]) :: (RT, tupO [.int f2 u3, .int y u4]) :: (l, listOf #[.ref T1, .ref T2] 0) :: (T1, tupO [.int 1 t1, .int (-1) t2]) :: (T2, tupO [.int 0 t3, .int 1 t4]) :: R), q ∈ news') ∧ (1 ≤ i → x = y) ∧ (2 ≤ i → f1 = f2)) rfl (.inl ⟨0, ?_⟩) FF NN ?_ ?_ ?_ ?_
  · simp
  · intro i g m' n' h; exact .inl ⟨0, h.2.2.2.1 _ (by simp)⟩
  · exact ⟨rfl, rfl, rfl, fun q hq => by simp only [List.mem_cons] at hq ⊢; grind, by omega, by omega⟩
  · intro i v g m₁ news₁ it oi h tk9 hv zzp10 F1 N1 ND1 TT hT hR
    obtain ⟨rfl, hl, hr, hmem, hx, hf⟩ := zzp10
    have F2 := knows [("left", .ref LT), ("right", .ref RT)] F1 (by simp [hl, hr])
    have N2 : News _ _ h ((LT, tupO [.int f1 u1, .int x u2]) :: (RT, tupO [.int f2 u3, .int y u4]) :: (T1, tupO [.int 1 t1, .int (-1) t2]) :: (T2, tupO [.int 0 t3, .int 1 t4]) :: (it, oi) :: news₁) := fun q hq => by
      simp only [List.mem_cons] at hq
      rcases hq with rfl | rfl | rfl | rfl | rfl | hq
      · exact N1 _ (.tail _ (hmem _ (by simp)))
      · exact N1 _ (.tail _ (hmem _ (by simp)))
      · exact N1 _ (.tail _ (hmem _ (by simp)))
      · exact N1 _ (.tail _ (hmem _ (by simp)))
      · exact N1 _ (.head _)
      · exact N1 _ (.tail _ hq)
    clear F1 N1 FF NN N F
    match i, hv with
    | 0, hv =>
      cases hv
      dsimp only
      refine unpackN_ F2 N2 (News.isTup N2 (by k_mem)) rfl rfl rfl ?_
      intro h5 F5 N5
      k_steps
      · refine hR _ _ ?_
        k_steps
        refine hQQ _ _ ?_
        k_steps
        rename Fr _ _ _ _ => FF
        rename News _ _ _ _ => NN
        refine fin _ _ _ _ _ ?_ FF NN fun q hq => ?_
        · unfold verd; rw [if_pos (by assumption)]; rfl
        · have := hmem q (by simp [hq])
          simp only [List.mem_cons]; simp [this]
      · refine hR _ _ ?_
        k_steps
        refine hQQ _ _ ?_
        k_steps
        rename Fr _ _ _ _ => FF
        rename News _ _ _ _ => NN
        refine fin _ _ _ _ _ ?_ FF NN fun q hq => ?_
        · unfold verd; rw [if_neg (by assumption), if_pos (by assumption)]
        · have := hmem q (by simp [hq])
          simp only [List.mem_cons]; simp [this]
      · rename Fr _ _ _ _ => FF
        rename News _ _ _ _ => NN
        refine hT _ _ _ _ news₁ FF (fun q hq => NN q ?_) ND1 ⟨rfl, rfl, rfl, hmem, by omega, by omega⟩
        simp only [List.mem_cons] at hq ⊢; grind
    | 1, hv =>
      cases hv
      dsimp only
      have hxy := hx (Nat.le_refl _)
      refine unpackN_ F2 N2 (News.isTup N2 (by k_mem)) rfl rfl rfl ?_
      intro h5 F5 N5
      k_steps
      · refine hR _ _ ?_
        k_steps
        refine hQQ _ _ ?_
        k_steps
        rename Fr _ _ _ _ => FF
        rename News _ _ _ _ => NN
        refine fin _ _ _ _ _ ?_ FF NN fun q hq => ?_
        · unfold verd; rw [if_neg (by omega), if_neg (by omega), if_pos (by assumption)]
        · have := hmem q (by simp [hq])
          simp only [List.mem_cons]; simp [this]
      · refine hR _ _ ?_
        k_steps
        refine hQQ _ _ ?_
        k_steps
        rename Fr _ _ _ _ => FF
        rename News _ _ _ _ => NN
        refine fin _ _ _ _ _ ?_ FF NN fun q hq => ?_
        · unfold verd; rw [if_neg (by omega), if_neg (by omega), if_neg (by assumption), if_pos (by assumption)]
        · have := hmem q (by simp [hq])
          simp only [List.mem_cons]; simp [this]
      · rename Fr _ _ _ _ => FF
        rename News _ _ _ _ => NN
        refine hT _ _ _ _ news₁ FF (fun q hq => NN q ?_) ND1 ⟨rfl, rfl, rfl, hmem, fun _ => hxy, by omega⟩
        simp only [List.mem_cons] at hq ⊢; grind
    | i + 2, hv => simp at hv
  · intro g m₁ news₁ h tk9 zzp5 F1 N1
    obtain ⟨rfl, hl, hr, hmem, hx, hf⟩ := zzp5
    have hx' := hx (by simp)
    have hf' := hf (by simp)
    clear FF NN N F
    dsimp only
    k_steps
    refine hQQ _ _ ?_
    k_steps
    rename Fr _ _ _ _ => FF
    rename News _ _ _ _ => NN
    refine fin _ _ _ _ _ ?_ FF NN fun q hq => hmem q (by simp [hq])
    unfold verd; rw [if_neg (by omega), if_neg (by omega), if_neg (by omega), if_neg (by omega)]

theorem lines_B1_2 : True := by
  k_with "call ref" => ((with_reducible show wpAny _ _ (call (Value.ref 126) _) _ _ _); k_dflt (apply SpecR.use0 compare_spec; rotate_left; k_asm; rotate_right; rotate_left 4; exact rfl; rotate_right 4; k_asm; k_asm; k_asm; k_asm; exact rfl; exact Nat.le_of_ble_eq_true rfl; exact Nat.le_of_ble_eq_true rfl; exact rfl; (refine' List.forall_mem_cons.mpr ⟨?_, List.forall_mem_cons.mpr ⟨?_, List.forall_mem_cons.mpr ⟨?_, List.forall_mem_cons.mpr ⟨?_, List.forall_mem_cons.mpr ⟨?_, List.forall_mem_cons.mpr ⟨?_, List.forall_mem_cons.mpr ⟨?_, List.forall_mem_nil _⟩⟩⟩⟩⟩⟩⟩ <;> k_mem)); intro _ _ _ _ _; (try dsimp only))
  exact trivial
theorem verdict_spec {w : World} {o1 o2 : Addr} {c1 p1 l1 c2 p2 l2 : Value} {sg1 pr1 sg2 pr2 f1 f2: Int} {tf1 tf2 t1 t2 t3 t4 : Tok} (hs1 : 0 < sg1 ∧ sg1 ≤ 1000) (hs2 : 0 < sg2 ∧ sg2 ≤ 1000) :
    SpecR w 800 2000 (.ref 168) [.ref o1, .int f1 tf1, .ref o2, .int f2 tf2] [(o1, tupO [c1, .int sg1 t1, .int pr1 t2, p1, l1]), (o2, tupO [c2, .int sg2 t3, .int pr2 t4, p2, l2])]
      (fun v post => (∃ t, v = .int (verd (pr1 * sg2) (pr2 * sg1) f1 f2) t) ∧ post = []) := by
  intro p loose mean mg mb gd A₀ cn cs a ccd cl outer base h₀ L m s Q E R hk B F X N T ret
  simp only [List.cons_append, List.nil_append] at N
  have hm1 : IntMulOk pr1 sg2 := .of_right (intBits_le_64 (by omega) (by omega))
  have hm2 : IntMulOk pr2 sg1 := .of_right (intBits_le_64 (by omega) (by omega))
  refine wpAny_call ?_
  k_dflt cell_enter
  refine hide_post fun QQ EE hQQ hEE => ?_
  k_steps
  refine hQQ _ _ ?_
  k_steps
  rename Fr _ _ _ _ => FF
  rename News _ _ _ _ => NN
  refine ret _ _ _ _ ⟨⟨_, rfl⟩, rfl⟩ (fun _ h => nomatch h) .nil FF ?_
  repeat (first | exact NN | replace NN := drop1 NN)
end Mine

end
/- B2 -/
section
open PySem PySem.W PyProof.Rows PySem.Calls PySem.Spec Builtin
set_option maxHeartbeats 1000000
namespace Mine
section
variable {prog : Program} {w : World} {A : Around} {E : Value → Shared → Prop} {s : Shared} {env : Env} {h₀ : Heap} {d v : Addr} {od : Obj} {kvs : List (Str × Value)} {elts : List Expr} {kx : Nat} {px : Pos} {body : List Stmt} {m : Str → Option Value} {news : List (Addr × Obj)} {Q : Flow → Shared → Prop}
abbrev viewO (d : Addr) : Obj := { cls := .type "dict_items", data := .fields #[.ref d] }

theorem strKind_val {k : Str} {key : Value} (h : (strKind prog w).is k key = true) : ∃ t, key = .str k t := by
  cases key with
  | str x t => exact ⟨t, by have : (x == k) = true ∨ (k == x) = true := by first | exact .inl h | exact .inr h
                            rcases this with h | h <;> rw [beq_iff_eq.mp h]⟩
  | _ => exact nomatch h

theorem for_itemsG (I : Nat → Array GenState → (Str → Option Value) → List (Addr × Obj) → Prop) (hh : A.handled = none) (hod : od.IsDictOf (strKind prog w) kvs) (hd : (d, od) ∈ news) (hv : (v, viewO d) ∈ news) (F : Fr h₀ env.locals s.heap m) (N : News h₀ env.locals s.heap news) {news0 : List (Addr × Obj)} (N0 : News h₀ env.locals s.heap news0)
    (hI : ∀ i g m news, I i g m news → (d, od) ∈ news) (h0 : I 0 s.gens m news0)
    (turn : ∀ i k x g m₁ news₁ T t it oi h tk, kvs[i]? = some (k, x) → I i g m₁ news₁ → Fr h₀ env.locals h m₁ → News h₀ env.locals h ((T, tupO [.str k t, x]) :: (it, oi) :: news₁) → AllLt T ((it, oi) :: news₁) → (∀ p ∈ news₁, p.1 ≠ it) → ∀ TT : Flow → Shared → Prop, (∀ h' tk' g' m₂ news₂, Fr h₀ env.locals h' m₂ → News h₀ env.locals h' ((it, oi) :: news₂) → (∀ p ∈ news₂, p.1 ≠ it) → I (i + 1) g' m₂ news₂ → TT .next { s with heap := h', toks := tk', gens := g' }) → (∀ v s₃, Q (.ret v) s₃ → TT (.ret v) s₃) →
      wpAny (model prog w) A (assign (.Tuple elts kx px) env (.ref T)) (fun _ s₂ => wpAny (model prog w) A (execs body env) TT (fun _ _ => False) s₂) (fun _ _ => False) { s with heap := h, toks := tk, gens := g })
    (done : ∀ g m₁ news₁ h tk, I kvs.length g m₁ news₁ → Fr h₀ env.locals h m₁ → News h₀ env.locals h news₁ → Q .next { s with heap := h, toks := tk, gens := g }) :
    wpAny (model prog w) A (pyIter (.ref v)) (fun it s₂ => codeAny (model prog w) A (.forLoop (.Tuple elts kx px) it body [] env) (fun r s' => match r with | .ok f => Q f s' | .error e => cameBackBy (model prog w) A env E e s') s₂) E s := by
  obtain ⟨es, ep, hex, hdat, hkeys, hpairs, hnd⟩ := id hod
  have hat : ∀ {h : Heap} {news₁ : List (Addr × Obj)}, News h₀ env.locals h news₁ → (d, od) ∈ news₁ → h.DictAt (strKind prog w) d kvs ep := fun N hm => ⟨od, es, (N _ hm).1, hex, hdat, hkeys, hpairs, hnd⟩
  refine wpAny_pyIter_items (knd := strKind prog w) ⟨_, (N _ hv).1, rfl, rfl⟩ (hat N hd) ?_
  have hnL : s.heap.objs.size ≠ env.locals := by have := F.ns.lt; exact Nat.ne_of_gt this
  have hn0 : h₀.get? s.heap.objs.size = none := next_is_new F
  refine forLoop_gen (GInv h₀ env.locals s kvs.length (fun h i => ∃ ok ov, IsItemIter h s.heap.objs.size d i kvs.length ep ok ov) I) ?_ kvs.length ?_
  · rintro k s₁ ⟨i, g, h, tk, m₁, news₁, ⟨ok, ov, hit⟩, rfl, hle, rfl, F₁, N₁, hne, hi₁⟩
    have hD := hat N₁ (hI _ _ _ _ hi₁)
    cases hx : kvs[i]? with
    | some kv =>
      obtain ⟨k, x⟩ := kv
      have hlt : i < kvs.length := by
        rcases Nat.lt_or_ge i kvs.length with h | h
        · exact h
        · rw [List.getElem?_eq_none h] at hx; cases hx
      refine wpAny_pyNext_items_item (knd := strKind prog w) (s := { s with heap := h, toks := tk, gens := g }) hit hD hx fun key h' hkey hit' hT hsz hk' => ?_
      obtain ⟨t, rfl⟩ := strKind_val hkey
      refine wpAny_letOwnedTupleGo_items (s := { s with heap := h', toks := tk, gens := g }) hit' fun h2 hit2 hs2 => ?_
      have hlt2 := Heap.lt_size hit
      have keep : ∀ b o, b ≠ s.heap.objs.size → h.get? b = some o → h2.get? b = some o := fun b o hb e => (hs2.2 b hb).trans (hk' b o hb e)
      have hTit : h.objs.size ≠ s.heap.objs.size := Nat.ne_of_gt hlt2
      have N₂ : News h₀ env.locals h2 ((h.objs.size, tupO [.str k t, x]) :: (s.heap.objs.size, { cls := .type "dict_itemiterator", dict := none, data := .fields #[.none, .bool false, .ref d, .int (i + 1 : Nat) 0, .int kvs.length 0, .int ep 0, .str k t, x], slots := #[] }) :: news₁) := by
        intro p hp
        rcases List.mem_cons.mp hp with rfl | hp
        · exact ⟨(hs2.2 _ hTit).trans hT, by have := F₁.ns.lt; exact Nat.ne_of_gt this, next_is_new F₁⟩
        rcases List.mem_cons.mp hp with rfl | hp
        · exact ⟨hit2, hnL, hn0⟩
        · exact ⟨keep _ _ (hne p hp) (N₁ p hp).1, (N₁ p hp).2⟩
      have F₂ : Fr h₀ env.locals h2 m₁ := by
        obtain ⟨oL, a1, a2, hoL, a3⟩ := F₁.ns
        refine ⟨⟨oL, a1, a2, keep _ _ hnL.symm hoL, a3⟩, fun b y e => keep b y ?_ (F₁.keep b y e), F₁.above⟩
        rintro rfl
        rw [hn0] at e; cases e
      refine wpAny_mono (turn i k x g m₁ news₁ _ t _ _ h2 tk hx hi₁ F₂ N₂ (allLt_of fun p hp => ?_) hne (TurnEnd h₀ env.locals s s.heap.objs.size _ (I (i + 1)) Q) (fun h4 tk4 g4 m4 news4 F4 N4 D4 I4 => ⟨h4, tk4, g4, m4, news4, rfl, F4, N4, D4, I4⟩) (fun _ _ h => h)) (fun _ s₂ h₂ => wpAny_mono h₂ (fun f s₃ h₃ => ?_) fun _ _ x => x.elim) fun _ _ x => x.elim
      · rcases List.mem_cons.mp hp with rfl | hp
        · exact hlt2
        · exact Heap.lt_size (N₁ p hp).1
      cases f with
      | ret v => exact h₃
      | brk => exact h₃
      | next => exact GInv.go hlt (fun _ e => ⟨_, _, e⟩) h₃
      | cont => exact GInv.go hlt (fun _ e => ⟨_, _, e⟩) h₃
    | none =>
      refine wpAny_pyNext_items_end (knd := strKind prog w) (s := { s with heap := h, toks := tk, gens := g }) hh hit hD hx fun h' hs' => ?_
      have he : i = kvs.length := by
        have : kvs.length ≤ i := by
          rcases Nat.lt_or_ge i kvs.length with h | h
          · rw [List.getElem?_eq_getElem h] at hx; cases hx
          · exact h
        omega
      subst he
      exact wpAny_pure (done g m₁ news₁ h' tk hi₁ (fr_extBut F₁ hs' hnL.symm hn0) (news_extBut N₁ hs' hne))
  · exact ⟨0, s.gens, _, s.toks, m, news0, ⟨.none, .none, Heap.get?_push_size _ rfl⟩, rfl, Nat.zero_le _, rfl, F.push _, drop1 (N0.push F _), fun p hp => Nat.ne_of_lt (Heap.lt_size (N0 p hp).1), h0⟩
end
end Mine

end
/- B3 -/
section
open PySem PySem.W PyProof.Rows PySem.Calls PySem.Spec Builtin
set_option maxHeartbeats 1000000
namespace Mine
section
variable {prog : Program} {w : World} {A : Around} {E : Value → Shared → Prop} {s : Shared} {env : Env} {h₀ : Heap} {L d v : Addr} {od : Obj} {kvs : List (Str × Value)} {target : Expr} {body : List Stmt} {m : Str → Option Value} {news pre post : List (Addr × Obj)}
abbrev valsO (d : Addr) : Obj := { cls := .type "dict_values", data := .fields #[.ref d] }

theorem for_valuesG {Q : Flow → Shared → Prop} (I : Nat → Array GenState → (Str → Option Value) → List (Addr × Obj) → Prop) (hh : A.handled = none) (hod : od.IsDictOf (strKind prog w) kvs) (hd : (d, od) ∈ news) (hv : (v, valsO d) ∈ news) (F : Fr h₀ env.locals s.heap m) (N : News h₀ env.locals s.heap news) {news0 : List (Addr × Obj)} (N0 : News h₀ env.locals s.heap news0)
    (hI : ∀ i g m news, I i g m news → (d, od) ∈ news) (h0 : I 0 s.gens m news0)
    (turn : ∀ i k x g m₁ news₁ it oi h tk, kvs[i]? = some (k, x) → I i g m₁ news₁ → Fr h₀ env.locals h m₁ → News h₀ env.locals h ((it, oi) :: news₁) → (∀ p ∈ news₁, p.1 ≠ it) → ∀ TT : Flow → Shared → Prop, (∀ h' tk' g' m₂ news₂, Fr h₀ env.locals h' m₂ → News h₀ env.locals h' ((it, oi) :: news₂) → (∀ p ∈ news₂, p.1 ≠ it) → I (i + 1) g' m₂ news₂ → TT .next { s with heap := h', toks := tk', gens := g' }) → (∀ v s₃, Q (.ret v) s₃ → TT (.ret v) s₃) →
      wpAny (model prog w) A (assign target env x) (fun _ s₂ => wpAny (model prog w) A (execs body env) TT (fun _ _ => False) s₂) (fun _ _ => False) { s with heap := h, toks := tk, gens := g })
    (done : ∀ g m₁ news₁ h tk, I kvs.length g m₁ news₁ → Fr h₀ env.locals h m₁ → News h₀ env.locals h news₁ → Q .next { s with heap := h, toks := tk, gens := g })
    (ht : ∀ it v, letOwnedTupleGo target it v = pure () := by intro _ _; rfl) :
    wpAny (model prog w) A (pyIter (.ref v)) (fun it s₂ => codeAny (model prog w) A (.forLoop target it body [] env) (fun r s' => match r with | .ok f => Q f s' | .error e => cameBackBy (model prog w) A env E e s') s₂) E s := by
  obtain ⟨es, ep, hex, hdat, hkeys, hpairs, hnd⟩ := id hod
  have hat : ∀ {h : Heap} {news₁ : List (Addr × Obj)}, News h₀ env.locals h news₁ → (d, od) ∈ news₁ → h.DictAt (strKind prog w) d kvs ep := fun N hm => ⟨od, es, (N _ hm).1, hex, hdat, hkeys, hpairs, hnd⟩
  refine wpAny_pyIter_values (knd := strKind prog w) ⟨_, (N _ hv).1, rfl, rfl⟩ (hat N hd) ?_
  have hnL : s.heap.objs.size ≠ env.locals := by have := F.ns.lt; exact Nat.ne_of_gt this
  have hn0 : h₀.get? s.heap.objs.size = none := next_is_new F
  refine forLoop_gen (GInv h₀ env.locals s kvs.length (fun h i => h.IsValIter s.heap.objs.size d i kvs.length ep) I) ?_ kvs.length ?_
  · rintro k s₁ ⟨i, g, h, tk, m₁, news₁, hit, rfl, hle, rfl, F₁, N₁, hne, hi₁⟩
    have hD := hat N₁ (hI _ _ _ _ hi₁)
    cases hx : kvs[i]? with
    | some kv =>
      obtain ⟨k, x⟩ := kv
      have hlt : i < kvs.length := by
        rcases Nat.lt_or_ge i kvs.length with h | h
        · exact h
        · rw [List.getElem?_eq_none h] at hx; cases hx
      refine wpAny_pyNext_values_item (knd := strKind prog w) (s := { s with heap := h, toks := tk, gens := g }) hit hD hx fun h' hit' hs' => ?_
      refine wpAny_of_eq (ht _ _) ?_
      obtain ⟨oi', hoi, hc, hd'⟩ := hit'
      have F₂ : Fr h₀ env.locals h' m₁ := F₁.change hs' hnL hn0
      have N₂ : News h₀ env.locals h' ((s.heap.objs.size, oi') :: news₁) := by
        intro p hp
        rcases List.mem_cons.mp hp with rfl | hp
        · exact ⟨hoi, hnL, hn0⟩
        · exact ⟨(hs'.2 _ (hne p hp)).trans (N₁ p hp).1, (N₁ p hp).2⟩
      refine wpAny_mono (turn i k x g m₁ news₁ _ oi' h' tk hx hi₁ F₂ N₂ hne (TurnEnd h₀ env.locals s s.heap.objs.size oi' (I (i + 1)) Q) (fun h4 tk4 g4 m4 news4 F4 N4 D4 I4 => ⟨h4, tk4, g4, m4, news4, rfl, F4, N4, D4, I4⟩) (fun _ _ h => h)) (fun _ s₂ h₂ => wpAny_mono h₂ (fun f s₃ h₃ => ?_) fun _ _ x => x.elim) fun _ _ x => x.elim
      cases f with
      | ret v => exact h₃
      | brk => exact h₃
      | next => exact GInv.go hlt (fun _ e => ⟨_, e, hc, hd'⟩) h₃
      | cont => exact GInv.go hlt (fun _ e => ⟨_, e, hc, hd'⟩) h₃
    | none =>
      refine wpAny_pyNext_values_end (knd := strKind prog w) (s := { s with heap := h, toks := tk, gens := g }) hh hit hD hx fun h' hs' => ?_
      have he : i = kvs.length := by
        have : kvs.length ≤ i := by
          rcases Nat.lt_or_ge i kvs.length with h | h
          · rw [List.getElem?_eq_getElem h] at hx; cases hx
          · exact h
        omega
      subst he
      exact wpAny_pure (done g m₁ news₁ h' tk hi₁ (fr_extBut F₁ hs' hnL.symm hn0) (news_extBut N₁ hs' hne))
  · exact ⟨0, s.gens, _, s.toks, m, news0, ⟨_, Heap.get?_push_size _ rfl, rfl, rfl⟩, rfl, Nat.zero_le _, rfl, F.push _, drop1 (N0.push F _), fun p hp => Nat.ne_of_lt (Heap.lt_size (N0 p hp).1), h0⟩

-- a dict of the ledger, its keys texts
theorem dictOf_news {h : Heap} (N : News h₀ L h news) (hm : (d, od) ∈ news) (hod : od.IsDictOf (strKind prog w) kvs) : h.DictOf (strKind prog w) d kvs := Heap.dictOf_iff.mpr ⟨od, (N _ hm).1, hod⟩

theorem dict_get {value slice : Expr} {k : Str} {t : Tok} {x : Value} {Q : Value → Shared → Prop} (N : News h₀ L s.heap news) (hm : (d, od) ∈ news) (hod : od.IsDictOf (strKind prog w) kvs) (hv : valueAt kvs k = some x) (h : Q x { s with toks := s.toks + 1 })
    (hs : subscripted slice false (.ref d) (.str k t) = operate [.ref d, .str k t] (getItem (.ref d) (.str k t)) := by with_unfolding_all rfl) :
    wpAny (model prog w) A (subscriptTail value slice (.ref d) (.str k t)) Q E s :=
  have hd := dictOf_news N hm hod
  tail_any hd.typeIs slot_dict_getitem.lookup (wpAny_getItem_of (strKind_is prog w k t) hd.mapOf hv h) hs

theorem dict_set {k : Str} {t : Tok} {x : Value} {Q : Unit → Shared → Prop} (F : Fr h₀ L s.heap m) (N : News h₀ L s.heap (pre ++ (d, od) :: post)) (h1 : ∀ p ∈ pre, p.1 ≠ d) (h2 : ∀ p ∈ post, p.1 ≠ d) (hod : od.IsDictOf (strKind prog w) kvs) (hsz : kvs.length ≤ sizeLine)
    (h : ∀ h' od', Fr h₀ L h' m → News h₀ L h' (pre ++ (d, od') :: post) → od'.IsDictOf (strKind prog w) (stored kvs k x) → Q () { s with heap := h', toks := s.toks + 1 }) :
    wpAny (model prog w) A (setItem (.ref d) (.str k t) x) Q E s := by
  have z := N (d, od) (by simp)
  refine wpAny_setItem_pairs (hsz := hsz) (strKind_is prog w k t) (Heap.dictOf_iff.mpr ⟨od, z.1, hod⟩) fun h' hd' hs' => ?_
  obtain ⟨od', ho', hod'⟩ := Heap.dictOf_iff.mp hd'
  exact h h' od' (F.change hs' z.2.1 z.2.2) (news_set N h1 h2 hs' ho') hod'

theorem dict_in {k : Str} {t : Tok} {Q : Value → Shared → Prop} (N : News h₀ L s.heap news) (hm : (d, od) ∈ news) (hod : od.IsDictOf (strKind prog w) kvs) (hd : (d == sysModules) = false) (h : Q (.bool (valueAt kvs k).isSome) { s with toks := s.toks + 1 }) :
    wpAny (model prog w) A (compareOp .In (.str k t) (.ref d)) Q E s := wpAny_in_of (strKind_is prog w k t) hd (dictOf_news N hm hod).mapOf h

theorem dict_method_items {pl : Sem Bool} {Q : Value × List Value → Shared → Prop} (N : News h₀ L s.heap news) (hm : (d, od) ∈ news) (hod : od.IsDictOf (strKind prog w) kvs) (h : Q (.builtin "dict.items", [.ref d]) s) : wpAny (model prog w) A (getMethod (.ref d) "items" pl) Q E s :=
  have hd := dictOf_news N hm hod
  getMethod_builtin hd.typeIs PySem.F.plainAttrs_dict PySem.F.slot_dict_items PySem.F.type_dict_items hd.mapOf.noDict h
theorem dict_method_values {pl : Sem Bool} {Q : Value × List Value → Shared → Prop} (N : News h₀ L s.heap news) (hm : (d, od) ∈ news) (hod : od.IsDictOf (strKind prog w) kvs) (h : Q (.builtin "dict.values", [.ref d]) s) : wpAny (model prog w) A (getMethod (.ref d) "values" pl) Q E s :=
  have hd := dictOf_news N hm hod
  getMethod_builtin hd.typeIs PySem.F.plainAttrs_dict PySem.F.slot_dict_values PySem.F.type_dict_values hd.mapOf.noDict h
theorem dict_items_call {Q : Value → Shared → Prop} (F : Fr h₀ L s.heap m) (N : News h₀ L s.heap news) (hm : (d, od) ∈ news) (hod : od.IsDictOf (strKind prog w) kvs) (hd : (d == sysModules) = false)
    (h : ∀ v h', Fr h₀ L h' m → News h₀ L h' ((v, viewO d) :: news) → (∀ p ∈ news, p.1 < v) → Q (.ref v) { s with heap := h' }) : wpAny (model prog w) A (call (.builtin "dict.items") [.ref d]) Q E s := by
  have hD := dictOf_news N hm hod
  refine wpAny_call_entry PySem.F.slot_dict_items hD.typeIs PySem.F.entry_dict_items ?_ (PySem.F.args_dict_items_1 _)
  unfold Builtin.«dict.items»
  refine wpAny_bind ?_
  unfold Builtin.Dict.noArgs
  refine wpAny_bind (wpAny_notOrdered_dict hD.typeIs ?_)
  show wpAny _ _ (pure d) _ _ s
  refine wpAny_pure ?_
  show wpAny _ _ (Builtin.Dict.showsAll d >>= _) _ _ s
  unfold Builtin.Dict.showsAll
  rw [if_neg (by rw [hd]; exact Bool.false_ne_true)]
  refine wpAny_bind (wpAny_pure ?_)
  exact wpAny_bind (wpAny_newObj_type (wpAny_pure ⟨_, rfl, h _ _ (F.push _) (N.push F _) fun p hp => Heap.lt_size (N p hp).1⟩))
theorem dict_values_call {Q : Value → Shared → Prop} (F : Fr h₀ L s.heap m) (N : News h₀ L s.heap news) (hm : (d, od) ∈ news) (hod : od.IsDictOf (strKind prog w) kvs) (hd : (d == sysModules) = false)
    (h : ∀ v h', Fr h₀ L h' m → News h₀ L h' ((v, valsO d) :: news) → (∀ p ∈ news, p.1 < v) → Q (.ref v) { s with heap := h' }) : wpAny (model prog w) A (call (.builtin "dict.values") [.ref d]) Q E s := by
  have hD := dictOf_news N hm hod
  refine wpAny_call_entry PySem.F.slot_dict_values hD.typeIs PySem.F.entry_dict_values ?_ (PySem.F.args_dict_values_1 _)
  unfold Builtin.«dict.values»
  refine wpAny_bind ?_
  unfold Builtin.Dict.noArgs
  refine wpAny_bind (wpAny_notOrdered_dict hD.typeIs ?_)
  show wpAny _ _ (pure d) _ _ s
  refine wpAny_pure ?_
  show wpAny _ _ (Builtin.Dict.showsAll d >>= _) _ _ s
  unfold Builtin.Dict.showsAll
  rw [if_neg (by rw [hd]; exact Bool.false_ne_true)]
  refine wpAny_bind (wpAny_pure ?_)
  exact wpAny_bind (wpAny_newObj_type (wpAny_pure ⟨_, rfl, h _ _ (F.push _) (N.push F _) fun p hp => Heap.lt_size (N p hp).1⟩))
end
end Mine

end
/- B4 -/
section
open PySem PySem.W PyProof.Rows PySem.Calls PySem.Spec Builtin
set_option maxHeartbeats 1000000
namespace Mine
theorem lines_B4_1 : True := by
  k_with_none
  k_with "exec For" => (refine For_hold ?_)
  k_with "getMethod ref" => ((with_reducible show wpAny _ _ (getMethod (Value.ref _) (PySem.Str.ofString "items") _) _ _ _); k_dflt (apply dict_method_items; k_asm; k_mem; assumption))
  k_with "call builtin:dict.items" => (k_dflt (apply dict_items_call; k_asm; k_asm; k_mem; assumption; assumption); intro _ _ _ _ l1; (try k_lt l1); revert l1; intro _)
  k_with "setItem ref str" => (k_dflt (apply dict_set (pre := [_, _]); k_asm; k_asm; rotate_left 2; assumption; rotate_right 2; k_all; assumption; assumption); intro _ _ _ N' _; (try dsimp only [List.cons_append, List.nil_append] at N'); revert N'; intro _)
  exact trivial
theorem dict_in_no {prog : Program} {w : World} {A : Around} {E : Value → Shared → Prop} {s : Shared} {h₀ : Heap} {L d : Addr} {od : Obj} {kvs : List (Str × Value)} {news : List (Addr × Obj)} {k : Str} {t : Tok} {Q : Value → Shared → Prop} (N : News h₀ L s.heap news) (hm : (d, od) ∈ news) (hod : od.IsDictOf (strKind prog w) kvs) (hd : (d == sysModules) = false) (hv : valueAt kvs k = none) (h : Q (.bool false) { s with toks := s.toks + 1 }) :
    wpAny (model prog w) A (compareOp .In (.str k t) (.ref d)) Q E s := dict_in N hm hod hd (by rw [hv]; exact h)
theorem lines_B4_2 : True := by
  k_with "compareOp In str ref" => (k_dflt (apply dict_in_no; k_asm; k_mem; assumption; assumption; assumption))
  exact trivial
theorem valueAt_none {kvs : List (Str × Value)} {k : Str} (h : k ∉ kvs.map (·.1)) : valueAt kvs k = none := by
  unfold valueAt
  rw [List.find?_eq_none.mpr]
  · rfl
  · intro x hx
    simp only [decide_eq_true_eq]
    rintro rfl
    exact h (List.mem_map_of_mem hx)
theorem stored_new {kvs : List (Str × Value)} {k : Str} {x : Value} (h : k ∉ kvs.map (·.1)) : stored kvs k x = kvs ++ [(k, x)] := by
  unfold stored
  rw [if_neg]
  intro hc
  obtain ⟨y, hy, e⟩ := List.any_eq_true.mp hc
  have : y.1 = k := of_decide_eq_true e
  exact h (this ▸ List.mem_map_of_mem hy)
theorem nodup_prefix {l : List (Str × Value)} {i : Nat} {k : Str} {x : Value} (nd : (l.map (·.1)).Nodup) (e : l[i]? = some (k, x)) : k ∉ (l.take i).map (·.1) := by
  have hlt : i < l.length := by
    rcases Nat.lt_or_ge i l.length with h | h
    · exact h
    · rw [List.getElem?_eq_none h] at e; cases e
  have e2 : l = l.take i ++ (k, x) :: l.drop (i + 1) := by
    have h1 : l.drop i = (k, x) :: l.drop (i + 1) := by
      rw [List.drop_eq_getElem_cons hlt]
      rw [List.getElem?_eq_getElem hlt] at e
      rw [Option.some.inj e]
    rw [← h1, List.take_append_drop]
  rw [e2] at nd
  rw [List.map_append, List.map_cons] at nd
  intro hm
  exact (List.nodup_append.mp nd).2.2 _ hm _ (.head _) rfl
theorem take_one {α : Type} {l : List α} {i : Nat} {x : α} (e : l[i]? = some x) : l.take (i + 1) = l.take i ++ [x] := by rw [List.take_add_one, e]; rfl

theorem add_callers_spec {w : World} {dt ds : Addr} {ot os : Obj} {kt ks : List (Str × Value)} (ht : ot.IsDictOf (strKind PySem.Challenge.pw_pk0049_01 w) kt) (hs : os.IsDictOf (strKind PySem.Challenge.pw_pk0049_01 w) ks) (hdt : (dt == sysModules) = false) (hds : (ds == sysModules) = false)
    (hnd : ((kt ++ ks).map (·.1)).Nodup) (hlen : (kt ++ ks).length ≤ 1000) :
    SpecR w 820 2200 (.ref 147) [.ref dt, .ref ds] [(dt, ot), (ds, os)] (fun v post => ∃ dn on, v = .ref dn ∧ post = [(dn, on)] ∧ on.IsDictOf (strKind PySem.Challenge.pw_pk0049_01 w) (kt ++ ks) ∧ (dn == sysModules) = false) := by
  intro p loose mean mg mb gd A₀ cn cs a ccd cl outer base h₀ L m s Q E R hk B F X N T ret
  simp only [List.cons_append, List.nil_append] at N
  refine wpAny_call ?_
  k_dflt cell_enter
  k_steps
  unfold Hold
  rename_i dn hq1 on lo hs0 fs0 hi0 fi0 l1 hq2 Fq2 Nq2 vw hq3 F3 N3 l2
  have hlen' : ∀ i, (kt.take i).length ≤ sizeLine := fun i => by rw [sizeLine_eq, List.length_take]; rw [List.length_append] at hlen; omega
  have hndt : (kt.map (·.1)).Nodup := by rw [List.map_append] at hnd; exact (List.nodup_append.mp hnd).1
  refine for_itemsG (fun i g m' news' => g = s.gens ∧ m' "source" = some (.ref ds) ∧ m' "new_callers" = some (.ref dn) ∧ ∃ on rest, news' = (dn, on) :: rest ∧ on.IsDictOf (strKind PySem.Challenge.pw_pk0049_01 w) (kt.take i) ∧ (∀ q ∈ ((dt, ot) :: (ds, os) :: R), q ∈ rest) ∧ (∀ q ∈ rest, q.1 ≠ dn)) rfl ht (by k_mem) (by k_mem) F3 N3 (drop1 N3) ?_ ?_ ?_ ?_
  · rintro i g m' n' ⟨_, _, _, on', rest, rfl, _, hmem, _⟩
    exact .tail _ (hmem _ (by simp))
  · exact ⟨rfl, rfl, rfl, on, _, rfl, hs0, fun q hq => hq, fun q hq => Nat.ne_of_lt (lt_of_all (l := (dt, ot) :: (ds, os) :: R) l1 q hq)⟩
  · intro i k x g m₁ news₁ T1 t it oi h tk9 hkx zzp13 F1 N1 lT hit TT hT hR
    obtain ⟨rfl, hm1, hm2, on', rest, rfl, hod', hmem, hne⟩ := zzp13
    have F2 := knows [("source", .ref ds), ("new_callers", .ref dn)] F1 (by simp [hm1, hm2])
    clear F1 F3 N3 Fq2 Nq2 N F
    have hnk := nodup_prefix hndt hkx
    have hl9 := hlen' i
    have lT1 := ltN lT.1
    have lT2 := ltN lT.2.1
    have hit' := neN (hit _ (.head _))
    dsimp only
    refine unpackN_ F2 N1 (News.isTup N1 (by k_mem)) rfl rfl rfl ?_
    intro h5 F5 N5
    k_steps
    rename Fr _ _ _ _ => FF
    rename News _ _ _ _ => NN
    rename Obj.IsDictOf _ _ (stored _ _ _) => hd5
    rw [stored_new hnk, ← take_one hkx] at hd5
    refine hT _ _ _ _ _ FF (drop1 NN) (fun q hq => ?_) ⟨rfl, rfl, rfl, _, rest, rfl, hd5, hmem, hne⟩
    rcases List.mem_cons.mp hq with rfl | hq
    · exact hit'
    · exact hit _ (.tail _ hq)
  · intro g m₁ news₁ h tk9 zzp5 F1 N1
    obtain ⟨rfl, hm1, hm2, on1, rest1, rfl, hod1, hmem1, hne1⟩ := zzp5
    rw [List.take_length] at hod1
    have F2 := knows [("source", .ref ds), ("new_callers", .ref dn)] F1 (by simp [hm1, hm2])
    have N2 : News _ _ h ((dn, on1) :: (ds, os) :: rest1) := fun q hq => by
      rcases List.mem_cons.mp hq with rfl | hq
      · exact N1 _ (.head _)
      rcases List.mem_cons.mp hq with rfl | hq
      · exact N1 _ (.tail _ (hmem1 _ (by simp)))
      · exact N1 _ (.tail _ hq)
    clear F1 N1 F3 N3 Fq2 Nq2 N F
    dsimp only
    k_steps
    unfold Hold
    rename_i vw2 hq4 F4 N4 l4
    have hlen2 : ∀ i, (kt ++ ks.take i).length ≤ sizeLine := fun i => by rw [sizeLine_eq, List.length_append, List.length_take]; rw [List.length_append] at hlen; omega
    have hin : ∀ i k x, ks[i]? = some (k, x) → k ∉ (kt ++ ks.take i).map (·.1) := fun i k x e => by
      have e' : (kt ++ ks)[kt.length + i]? = some (k, x) := by rw [List.getElem?_append_right (by omega)]; simpa using e
      have := nodup_prefix hnd e'
      rwa [List.take_append, List.take_of_length_le (by omega), Nat.add_sub_cancel_left] at this
    refine for_itemsG (fun i g m' news' => g = s.gens ∧ m' "new_callers" = some (.ref dn) ∧ ∃ on rest, news' = (dn, on) :: rest ∧ on.IsDictOf (strKind PySem.Challenge.pw_pk0049_01 w) (kt ++ ks.take i) ∧ (∀ q ∈ ((dt, ot) :: (ds, os) :: R), q ∈ rest) ∧ (∀ q ∈ rest, q.1 ≠ dn)) rfl hs (by k_mem) (by k_mem) F4 N4 (news0 := (dn, on1) :: rest1) (fun q hq => N4 q ?_) ?_ ?_ ?_ ?_
    · rcases List.mem_cons.mp hq with rfl | hq
      · exact .tail _ (.head _)
      · exact .tail _ (.tail _ (.tail _ hq))
    · rintro i g m' n' ⟨_, _, on', rest, rfl, _, hmem, _⟩
      exact .tail _ (hmem _ (by simp))
    · exact ⟨rfl, rfl, on1, rest1, rfl, by simpa using hod1, hmem1, hne1⟩
    · intro i k x g m₁ news₁ T1 t it oi h tk9 hkx zzp13 F1 N1 lT hit TT hT hR
      obtain ⟨rfl, hm2, on', rest, rfl, hod', hmem, hne⟩ := zzp13
      have F2 := knows [("new_callers", .ref dn)] F1 (by simp [hm2])
      clear F1 F4 N4
      have hnk := hin i k x hkx
      have hnv := valueAt_none hnk
      have hl9 := hlen2 i
      have lT1 := ltN lT.1
      have lT2 := ltN lT.2.1
      have hit' := neN (hit _ (.head _))
      dsimp only
      refine unpackN_ F2 N1 (News.isTup N1 (by k_mem)) rfl rfl rfl ?_
      intro h5 F5 N5
      k_steps
      rename Fr _ _ _ _ => FF
      rename News _ _ _ _ => NN
      rename Obj.IsDictOf _ _ (stored _ _ _) => hd5
      rw [stored_new hnk, List.append_assoc, ← take_one hkx] at hd5
      refine hT _ _ _ _ _ FF (drop1 NN) (fun q hq => ?_) ⟨rfl, rfl, _, rest, rfl, hd5, hmem, hne⟩
      rcases List.mem_cons.mp hq with rfl | hq
      · exact hit'
      · exact hit _ (.tail _ hq)
    · intro g m₁ news₁ h tk9 zzp5 F1 N1
      obtain ⟨rfl, hm2, on2, rest2, rfl, hod2, hmem2, hne2⟩ := zzp5
      rw [List.take_length] at hod2
      have F2 := knows [("new_callers", .ref dn)] F1 (by simp [hm2])
      clear F1 F4 N4
      dsimp only
      k_steps
      rename Fr _ _ _ _ => FF
      rename News _ _ _ _ => NN
      refine ret _ _ _ _ ⟨dn, on2, rfl, rfl, hod2, lo⟩ (fun q hq => ?_) (by simp) FF (fun q hq => NN q ?_)
      · rw [List.mem_singleton.mp hq]; exact l1.2.2
      · rcases List.mem_cons.mp hq with rfl | hq
        · exact .head _
        · exact .tail _ (hmem2 _ (.tail _ (.tail _ hq)))
end Mine

end
/- B5 -/
section
open PySem PySem.W PyProof.Rows PySem.Calls PySem.Spec Builtin
set_option maxHeartbeats 1000000
namespace Mine
theorem lines_B5_1 : True := by
  k_with_none
  k_with "exec For" => (k_dflt (refine For_hold ?_))
  k_with "exec For Name Call cons nil" => (k_dflt (refine For_hold ?_))
  k_with "exec For Name Call" => (k_dflt (refine For_hold ?_))
  k_with "exec For Name Name cons nil" => (k_dflt (refine For_hold ?_))
  k_with "exec For Tuple Call cons nil" => (k_dflt (refine For_hold ?_))
  k_with "exec For Tuple Name cons nil" => (k_dflt (refine For_hold ?_))
  k_with "getMethod ref" => ((with_reducible show wpAny _ _ (getMethod (Value.ref _) (PySem.Str.ofString "values") _) _ _ _); k_dflt (apply dict_method_values; k_asm; k_mem; assumption))
  k_with "call builtin:dict.values" => (k_dflt (apply dict_values_call; k_asm; k_asm; k_mem; assumption; assumption); intro _ _ _ _ l1; (try k_lt l1); revert l1; intro _)
  exact trivial
/-- the texts with their ints, as a dict bears them -/
def IntKvs : List (Str × Value) → List (Str × Int) → Prop
  | [], [] => True
  | (k, v) :: a, (k', p) :: b => k = k' ∧ (∃ t, v = .int p t) ∧ IntKvs a b
  | _, _ => False
theorem IntKvs.get : ∀ {a : List (Str × Value)} {b : List (Str × Int)} {i : Nat} {k : Str} {v : Value}, IntKvs a b → a[i]? = some (k, v) → ∃ p t, b[i]? = some (k, p) ∧ v = .int p t
  | (k, v) :: a, (k', p) :: b, 0, _, _, h, e => by
    cases e
    obtain ⟨rfl, ⟨t, rfl⟩, _⟩ := h
    exact ⟨p, t, rfl, rfl⟩
  | (k, v) :: a, (k', p) :: b, i + 1, _, _, h, e => by
    exact IntKvs.get (a := a) (b := b) (i := i) h.2.2 (by simpa using e)
  | [], _, _, _, _, _, e => by simp at e
  | _ :: _, [], _, _, _, h, _ => h.elim
theorem IntKvs.length : ∀ {a : List (Str × Value)} {b : List (Str × Int)}, IntKvs a b → a.length = b.length
  | [], [], _ => rfl
  | (_, _) :: a, (_, _) :: b, h => by rw [List.length_cons, List.length_cons, IntKvs.length h.2.2]
  | [], _ :: _, h => h.elim
  | _ :: _, [], h => h.elim
theorem IntKvs.keys : ∀ {a : List (Str × Value)} {b : List (Str × Int)}, IntKvs a b → a.map (·.1) = b.map (·.1)
  | [], [], _ => rfl
  | (_, _) :: a, (_, _) :: b, h => by rw [List.map_cons, List.map_cons, IntKvs.keys h.2.2, h.1]
  | [], _ :: _, h => h.elim
  | _ :: _, [], h => h.elim
theorem IntKvs.append : ∀ {a a' : List (Str × Value)} {b b' : List (Str × Int)}, IntKvs a b → IntKvs a' b' → IntKvs (a ++ a') (b ++ b')
  | [], _, [], _, _, h => h
  | (_, _) :: a, _, (_, _) :: b, _, h, h' => ⟨h.1, h.2.1, IntKvs.append h.2.2 h'⟩
  | [], _, _ :: _, _, h, _ => h.elim
  | _ :: _, _, [], _, h, _ => h.elim

theorem count_calls_spec {w : World} {d : Addr} {od : Obj} {kvs : List (Str × Value)} {ps : List (Str × Int)} (hod : od.IsDictOf (strKind PySem.Challenge.pw_pk0049_01 w) kvs) (hi : IntKvs kvs ps) (hd : (d == sysModules) = false) :
    SpecR w 820 2200 (.ref 154) [.ref d] [(d, od)] (fun v post => (∃ t, v = .int (ps.map (·.2)).sum t) ∧ post = []) := by
  intro p loose mean mg mb gd A₀ cn cs a ccd cl outer base h₀ L m s Q E R hk B F X N T ret
  simp only [List.cons_append, List.nil_append] at N
  refine wpAny_call ?_
  k_dflt cell_enter
  k_steps
  unfold Hold
  rename Fr _ _ _ _ => F3
  rename News _ _ _ _ => N3
  refine for_valuesG (fun i g m' news' => g = s.gens ∧ (∃ t, m' "nc" = some (.int ((ps.take i).map (·.2)).sum t)) ∧ (∀ q ∈ ((d, od) :: R), q ∈ news')) rfl hod (by k_mem) (by k_mem) F3 N3 N3 ?_ ?_ ?_ ?_
  · rintro i g m' n' ⟨_, _, hmem⟩
    exact hmem _ (.head _)
  · exact ⟨rfl, ⟨_, rfl⟩, fun q hq => .tail _ hq⟩
  · intro i k x g m₁ news₁ it oi h tk9 hkx zzp11 F1 N1 hit TT hT hR
    obtain ⟨rfl, ⟨t1, hm1⟩, hmem⟩ := zzp11
    have F2 := knows [("nc", .int ((ps.take i).map (·.2)).sum t1)] F1 (by simp [hm1])
    obtain ⟨pp, tt, hp, rfl⟩ := hi.get hkx
    clear F1 F3 N3 N F
    dsimp only
    k_steps
    rename Fr _ _ _ _ => FF
    rename News _ _ _ _ => NN
    have hsum : ((ps.take (i + 1)).map (·.2)).sum = ((ps.take i).map (·.2)).sum + pp := by rw [take_one hp, List.map_append, List.sum_append]; simp
    refine hT _ _ _ _ news₁ FF NN hit ⟨rfl, ?_, hmem⟩
    rw [hsum]
    exact ⟨_, rfl⟩
  · intro g m₁ news₁ h tk9 zzp5 F1 N1
    obtain ⟨rfl, ⟨t1, hm1⟩, hmem⟩ := zzp5
    rw [hi.length, List.take_length] at hm1
    have F2 := knows [("nc", .int (ps.map (·.2)).sum t1)] F1 (by simp [hm1])
    clear F1 F3 N3
    dsimp only
    k_steps
    rename Fr _ _ _ _ => FF
    rename News _ _ _ _ => NN
    exact ret _ _ _ _ ⟨⟨_, rfl⟩, rfl⟩ (fun _ h => nomatch h) .nil FF (fun q hq => NN q (hmem _ (.tail _ hq)))

theorem lines_B5_2 : True := by
  k_with "call ref" => ((with_reducible show wpAny _ _ (call (Value.ref 147) _) _ _ _); k_dflt (apply SpecR.use (add_callers_spec ?_ ?_ ?_ ?_ ?_ ?_); rotate_left; k_asm; rotate_right; rotate_left 4; exact rfl; rotate_right 4; k_asm; k_asm; k_asm; k_asm; exact rfl; exact Nat.le_of_ble_eq_true rfl; exact Nat.le_of_ble_eq_true rfl; exact rfl; (refine' List.forall_mem_cons.mpr ⟨?_, List.forall_mem_cons.mpr ⟨?_, List.forall_mem_nil _⟩⟩ <;> k_mem); any_goals (refine pid ?_; assumption)); intro _ _ _ _ hp9 _ _ _ N9; obtain ⟨_, _, e9, e9', _, _⟩ := hp9; subst e9 e9'; (try dsimp only [List.cons_append, List.nil_append] at N9); (try dsimp only); revert N9; intro _)
  exact trivial
theorem keep2 {h₀ h : Heap} {L : Addr} {a b c1 c2 c3 c4 : Addr × Obj} {l : List (Addr × Obj)} (N : News h₀ L h (a :: b :: c1 :: c2 :: c3 :: c4 :: l)) : News h₀ L h (a :: b :: l) := fun p hp => N p (by
  rcases List.mem_cons.mp hp with rfl | hp
  · exact .head _
  rcases List.mem_cons.mp hp with rfl | hp
  · exact .tail _ (.head _)
  · exact .tail _ (.tail _ (.tail _ (.tail _ (.tail _ (.tail _ hp))))))
inductive FuncPost (w : World) (a b c f : Int) (k : List (Str × Value)) (v : Value) (post : List (Addr × Obj)) : Prop
  | mk (e dn : Addr) (on : Obj) (v1 v2 v3 v4 : Tok) (h : v = .ref e) (hp : post = [(e, tupO [.int a v1, .int b v2, .int c v3, .int f v4, .ref dn]), (dn, on)]) (hd : on.IsDictOf (strKind PySem.Challenge.pw_pk0049_01 w) k) (hs : (dn == sysModules) = false) : FuncPost w a b c f k v post
theorem add_func_stats_spec {w : World} {e1 e2 d1 d2 : Addr} {o1 o2 : Obj} {k1 k2 : List (Str × Value)} {a1 b1 c1 f1 a2 b2 c2 f2 : Int} {t1 t2 t3 t4 u1 u2 u3 u4 : Tok} (h1 : o1.IsDictOf (strKind PySem.Challenge.pw_pk0049_01 w) k1) (h2 : o2.IsDictOf (strKind PySem.Challenge.pw_pk0049_01 w) k2) (hd1 : (d1 == sysModules) = false) (hd2 : (d2 == sysModules) = false)
    (hnd : ((k1 ++ k2).map (·.1)).Nodup) (hlen : (k1 ++ k2).length ≤ 1000) :
    SpecR w 800 2000 (.ref 140) [.ref e1, .ref e2] [(e1, tupO [.int a1 t1, .int b1 t2, .int c1 t3, .int f1 t4, .ref d1]), (e2, tupO [.int a2 u1, .int b2 u2, .int c2 u3, .int f2 u4, .ref d2]), (d1, o1), (d2, o2)]
      (FuncPost w (a1 + a2) (b1 + b2) (c1 + c2) (f1 + f2) (k1 ++ k2)) := by
  intro p loose mean mg mb gd A₀ cn cs a ccd cl outer base h₀ L m s Q E R hk B F X N T ret
  simp only [List.cons_append, List.nil_append] at N
  refine wpAny_call ?_
  k_dflt cell_enter
  k_steps
  rename Fr _ _ _ _ => FF
  rename News _ _ _ _ => NN
  rename Obj.IsDictOf _ _ (k1 ++ k2) => hn5
  rename_i dn9 on9 hm9 hl9 hd9 D9 h9 F9 N9 l9 Tc kX
  rw [Int.add_comm a2 a1, Int.add_comm b2 b1, Int.add_comm c2 c1, Int.add_comm f2 f1] at NN
  refine ret _ _ _ _ ⟨D9, dn9, on9, _, _, _, _, rfl, rfl, hn5, hm9⟩ ?_ ?_ FF (keep2 NN)
  · intro q hq
    rcases List.mem_cons.mp hq with rfl | hq
    · exact l9.2.2.2.2.2
    · have := hl9 _ (.head _)
      rw [List.mem_singleton.mp hq]; exact this.2.2.2.2
  · have := l9.1
    simp only [List.map_cons, List.map_nil, List.nodup_cons, List.mem_singleton, List.not_mem_nil, not_false_eq_true, List.nodup_nil, and_true]
    exact Nat.ne_of_gt this
end Mine

end
/- B6 -/
section
open PySem PySem.W PyProof.Rows PySem.Calls PySem.Spec Builtin
set_option maxHeartbeats 1000000
namespace Mine
def white (n : Nat) : Str := Txt.item (Str.ofString " \t") (((n : Int).fdiv 2).fmod 2)
theorem white_spec {w : World} {n : Nat} {t : Tok} (hn : n < 7) :
    SpecR w 820 2200 (.ref 175) [.int n t] [] (fun v post => (∃ t, v = .str (white n) t) ∧ post = []) := by
  intro p loose mean mg mb gd A₀ cn cs a ccd cl outer base h₀ L m s Q E R hk B F X N T ret
  simp only [List.nil_append] at N
  refine wpAny_call ?_
  k_dflt cell_enter
  k_steps
  rename Fr _ _ _ _ => FF
  rename News _ _ _ _ => NN
  exact ret _ _ _ _ ⟨⟨_, rfl⟩, rfl⟩ (fun _ h => nomatch h) .nil FF NN

def wtext (n : Nat) (x : Int) : Str := Txt.mul (Txt.item (Str.ofString "abcdefg") n) (1 + x.fmod 4)
theorem fmod4 (x : Int) : 0 ≤ x.fmod 4 ∧ x.fmod 4 < 4 := ⟨fmod_lo _ (by decide), fmod_hi _ (by decide)⟩
theorem lines_B6_1 : True := by
  k_with_none
  k_with "binaryOp Mult str int" => (k_dflt (refine' SB.mul (mulOk_of 1 100 (Nat.le_refl _) (by (dsimp only; omega)) (by (dsimp only; omega)) (by decide) (by decide)) ?_); intro _ _; (try dsimp only))
  exact trivial
theorem word_spec {w : World} {n : Nat} {x : Int} {t u : Tok} (hn : n < 7) :
    SpecR w 820 2200 (.ref 161) [.int n t, .int x u] [] (fun v post => ∃ e t1 t2 t3 t4 t5, v = .ref e ∧ post = [(e, tupO [.int 1 t1, .int (2 + x.fmod 4) t2, .int x t3, .int n t4, .str (wtext n x) t5])]) := by
  intro p loose mean mg mb gd A₀ cn cs a ccd cl outer base h₀ L m s Q E R hk B F X N T ret
  simp only [List.nil_append] at N
  have hf := fmod4 x
  refine wpAny_call ?_
  k_dflt cell_enter
  k_steps
  rename Fr _ _ _ _ => FF
  rename News _ _ _ _ => NN
  refine ret _ _ _ _ ⟨_, _, _, _, _, _, rfl, rfl⟩ (fun q hq => ?_) (by simp) FF NN
  rw [List.mem_singleton.mp hq]; dsimp only; first | assumption | exact allLt_of (by assumption)
end Mine

end
/- C0 -/
section
open PySem PySem.W PyProof.Rows PySem.Calls PySem.Spec Builtin
set_option maxHeartbeats 1000000
namespace Mine
structure Wd where
  sg : Int
  pr : Int
  pl : Nat
  tx : Str

def sgs (l : List Wd) : Int := (l.map (·.sg)).sum
def prs (l : List Wd) : Int := (l.map (·.pr)).sum
def pls (l : List Wd) : Int := (l.map (fun w => (w.pl : Int))).sum
def tails : List Wd → Str
  | [] => Str.empty
  | w :: r => white w.pl ++ w.tx ++ tails r
def blk : List Wd → Str
  | [] => Str.empty
  | w :: r => w.tx ++ tails r
def mark : List Wd → Str
  | [] => Str.empty
  | w :: _ => white w.pl

theorem sgs_append (a b : List Wd) : sgs (a ++ b) = sgs a + sgs b := by simp [sgs]
theorem prs_append (a b : List Wd) : prs (a ++ b) = prs a + prs b := by simp [prs]
theorem pls_append (a b : List Wd) : pls (a ++ b) = pls a + pls b := by simp [pls]
theorem sgs_pos {l : List Wd} (h : ∀ w ∈ l, 0 < w.sg) (hne : l ≠ []) : 0 < sgs l := by
  induction l with
  | nil => exact absurd rfl hne
  | cons w r ih =>
    have h1 := h w (.head _)
    show 0 < w.sg + sgs r
    cases r with
    | nil => show 0 < w.sg + 0; omega
    | cons v r =>
      have := ih (fun x hx => h x (.tail _ hx)) (by simp)
      omega

theorem s_empty_append (x : Str) : Str.empty ++ x = x := Str.empty_append x
theorem s_append_assoc (x y z : Str) : x ++ y ++ z = x ++ (y ++ z) := Str.append_assoc x y z
theorem s_append_empty (x : Str) : x ++ Str.empty = x := by first | exact Str.append_empty x | (apply Str.ext'; simp [Str.cps_append])

theorem tails_append (a b : List Wd) : tails (a ++ b) = tails a ++ tails b := by
  induction a with
  | nil => rw [List.nil_append]; exact (s_empty_append _).symm
  | cons w r ih => rw [List.cons_append, tails, tails, ih]; simp only [s_append_assoc]
theorem blk_append {a b : List Wd} (ha : a ≠ []) (hb : b ≠ []) : blk (a ++ b) = blk a ++ mark b ++ blk b := by
  cases a with
  | nil => exact absurd rfl ha
  | cons w r =>
    cases b with
    | nil => exact absurd rfl hb
    | cons v q =>
      show w.tx ++ tails (r ++ v :: q) = w.tx ++ tails r ++ white v.pl ++ (v.tx ++ tails q)
      rw [tails_append, tails]
      simp only [s_append_assoc]
theorem mark_append {a b : List Wd} (ha : a ≠ []) : mark (a ++ b) = mark a := by
  cases a with
  | nil => exact absurd rfl ha
  | cons w r => rfl

/-- less dear a sign, and so on -/
theorem dear_trans {p1 s1 p2 s2 p3 s3 : Int} (h1 : 0 < s1) (h2 : 0 < s2) (h3 : 0 < s3) (a : p1 * s2 < p2 * s1) (b : p2 * s3 ≤ p3 * s2) : p1 * s3 < p3 * s1 := by
  have e1 : p1 * s2 * s3 < p2 * s1 * s3 := Int.mul_lt_mul_of_pos_right a h3
  have e2 : p2 * s3 * s1 ≤ p3 * s2 * s1 := Int.mul_le_mul_of_nonneg_right b (by omega)
  have e3 : p1 * s3 * s2 < p3 * s1 * s2 := by
    have x1 : p1 * s3 * s2 = p1 * s2 * s3 := by rw [Int.mul_assoc, Int.mul_comm s3 s2, ← Int.mul_assoc]
    have x2 : p2 * s1 * s3 = p2 * s3 * s1 := by rw [Int.mul_assoc, Int.mul_comm s1 s3, ← Int.mul_assoc]
    have x3 : p3 * s2 * s1 = p3 * s1 * s2 := by rw [Int.mul_assoc, Int.mul_comm s2 s1, ← Int.mul_assoc]
    omega
  exact Int.lt_of_mul_lt_mul_right e3 (by omega)

def Good (l : List Wd) : Prop := ∀ p q, l = p ++ q → p ≠ [] → q ≠ [] → prs p * sgs l < prs l * sgs p

theorem good_one (w : Wd) : Good [w] := by
  intro p q e hp hq
  have : ([w] : List Wd).length = p.length + q.length := by rw [e, List.length_append]
  have h1 := List.length_pos_iff.mpr hp
  have h2 := List.length_pos_iff.mpr hq
  simp at this
  omega

theorem good_merge {t b : List Wd} (ht : Good t) (hb : Good b) (pt : ∀ w ∈ t, 0 < w.sg) (pb : ∀ w ∈ b, 0 < w.sg) (nt : t ≠ []) (nb : b ≠ []) (h : prs t * sgs b < prs b * sgs t) : Good (t ++ b) := by
  intro p q e hp hq
  have St := sgs_pos pt nt
  have Sb := sgs_pos pb nb
  rw [sgs_append, prs_append, Int.mul_add, Int.add_mul]
  rcases List.append_eq_append_iff.mp e with ⟨r, rfl, rfl⟩ | ⟨r, rfl, rfl⟩
  · -- p = t ++ r, b = r ++ q
    cases r with
    | nil =>
      simp only [List.nil_append, List.append_nil] at h ⊢
      omega
    | cons x r =>
      have Sr := sgs_pos (l := x :: r) (fun w hw => pb w (List.mem_append_left _ hw)) (by simp)
      have Sq := sgs_pos (l := q) (fun w hw => pb w (List.mem_append_right _ hw)) hq
      have g := hb (x :: r) q rfl (by simp) hq
      simp only [prs_append, sgs_append] at g h Sb ⊢
      clear hb pb nb hp e ht pt nt hq
      generalize prs (x :: r) = Pr at *
      generalize sgs (x :: r) = Sr' at *
      generalize prs q = Pq at *
      generalize sgs q = Sq' at *
      generalize prs t = Pt at *
      generalize sgs t = St' at *
      -- P_q more dear than b, b more dear than t
      have g1 : (Pr + Pq) * Sq' < Pq * (Sr' + Sq') := by
        have z1 : Pr * (Sr' + Sq') = Pr * Sr' + Pr * Sq' := Int.mul_add ..
        have z2 : (Pr + Pq) * Sr' = Pr * Sr' + Pq * Sr' := Int.add_mul ..
        have z3 : (Pr + Pq) * Sq' = Pr * Sq' + Pq * Sq' := Int.add_mul ..
        have z4 : Pq * (Sr' + Sq') = Pq * Sr' + Pq * Sq' := Int.mul_add ..
        omega
      have g2 : Pt * Sq' < Pq * St' := dear_trans St (by omega) Sq h (Int.le_of_lt g1)
      have y1 : (Pt + Pr) * St' = Pt * St' + Pr * St' := Int.add_mul ..
      have y2 : (Pt + Pr) * (Sr' + Sq') = Pt * Sr' + Pt * Sq' + (Pr * Sr' + Pr * Sq') := by rw [Int.add_mul, Int.mul_add, Int.mul_add]
      have y3 : Pt * (St' + Sr') = Pt * St' + Pt * Sr' := Int.mul_add ..
      have y4 : (Pr + Pq) * (St' + Sr') = Pr * St' + Pr * Sr' + (Pq * St' + Pq * Sr') := by rw [Int.add_mul, Int.mul_add, Int.mul_add]
      have y5 : Pr * (Sr' + Sq') = Pr * Sr' + Pr * Sq' := Int.mul_add ..
      have y6 : (Pr + Pq) * Sr' = Pr * Sr' + Pq * Sr' := Int.add_mul ..
      omega
  · -- t = p ++ r, q = r ++ b
    cases r with
    | nil =>
      simp only [List.append_nil] at *
      omega
    | cons x r =>
      have g := ht p (x :: r) rfl hp (by simp)
      have Sp := sgs_pos (l := p) (fun w hw => pt w (List.mem_append_left _ hw)) hp
      have g2 := dear_trans Sp St Sb g (Int.le_of_lt h)
      omega
end Mine

end
/- M1 -/
section
open PySem PySem.W PyProof.Rows PySem.Calls PySem.Spec Builtin
set_option maxHeartbeats 1000000
namespace Mine
def cl (s : Str) : List Nat := s.cps.toList
theorem cl_append (a b : Str) : cl (a ++ b) = cl a ++ cl b := by simp [cl, Str.cps_append]
theorem cl_inj {a b : Str} (h : cl a = cl b) : a = b := Str.ext' (Array.toList_inj.mp h)
theorem cl_empty : cl Str.empty = [] := rfl
theorem cl_length (s : Str) : (cl s).length = s.length := by simp [cl, Str.length]
theorem white_cl {n : Nat} (h : n < 7) : ∃ c, cl (white n) = [c] ∧ (c = 32 ∨ c = 9) := by
  match n, h with
  | 0, _ => exact ⟨32, by decide +kernel, .inl rfl⟩
  | 1, _ => exact ⟨32, by decide +kernel, .inl rfl⟩
  | 2, _ => exact ⟨9, by decide +kernel, .inr rfl⟩
  | 3, _ => exact ⟨9, by decide +kernel, .inr rfl⟩
  | 4, _ => exact ⟨32, by decide +kernel, .inl rfl⟩
  | 5, _ => exact ⟨32, by decide +kernel, .inl rfl⟩
  | 6, _ => exact ⟨9, by decide +kernel, .inr rfl⟩
theorem white_ne {n : Nat} (h : n < 7) : white n ≠ Str.ofString "" := by
  obtain ⟨c, hc, _⟩ := white_cl h
  intro e
  rw [e] at hc
  have : cl (Str.ofString "") = [] := by decide +kernel
  rw [this] at hc; cases hc

structure Proper (W : List Wd) : Prop where
  sg : ∀ x ∈ W, x.sg = 1 + (x.tx.length : Int)
  len : ∀ x ∈ W, 1 ≤ x.tx.length ∧ x.tx.length ≤ 4
  ch : ∀ x ∈ W, ∀ c ∈ cl x.tx, c = 97 + x.pl
  pl : ∀ x ∈ W, x.pl < 7
  inj : ∀ x ∈ W, ∀ y ∈ W, x.pl = y.pl → x = y
def OkB (W : List Wd) (g : List Wd) : Prop := g ≠ [] ∧ ∀ x ∈ g, x ∈ W
theorem Proper.tx {W : List Wd} (hW : Proper W) {x y : Wd} (hx : x ∈ W) (hy : y ∈ W) (e : x.tx = y.tx) : x = y := by
  have h1 := hW.ch x hx
  have h2 := hW.ch y hy
  have l1 := (hW.len x hx).1
  rw [← cl_length] at l1
  obtain ⟨c, hc⟩ : ∃ c, c ∈ cl x.tx := by
    cases h : cl x.tx with
    | nil => rw [h] at l1; simp at l1
    | cons c r => exact ⟨c, .head _⟩
  have a := h1 c hc
  have b := h2 c (e ▸ hc)
  exact hW.inj x hx y hy (by omega)
theorem Proper.sgp {W : List Wd} (hW : Proper W) {x : Wd} (hx : x ∈ W) : 2 ≤ x.sg ∧ x.sg ≤ 5 := by
  have := hW.sg x hx; have := hW.len x hx; omega

def wc (c : Nat) : Prop := c = 32 ∨ c = 9
def Br (l : List Nat) : Prop := l = [] ∨ ∃ c r, l = c :: r ∧ wc c
theorem part_inj {a a' r r' : List Nat} (ha : ∀ c ∈ a, ¬ wc c) (ha' : ∀ c ∈ a', ¬ wc c) (hr : Br r) (hr' : Br r') (e : a ++ r = a' ++ r') : a = a' ∧ r = r' := by
  induction a generalizing a' with
  | nil =>
    cases a' with
    | nil => exact ⟨rfl, e⟩
    | cons c a' =>
      rcases hr with rfl | ⟨d, q, rfl, hd⟩
      · simp at e
      · simp only [List.nil_append, List.cons_append, List.cons.injEq] at e
        exact absurd (e.1 ▸ hd) (ha' c (.head _))
  | cons c a ih =>
    cases a' with
    | nil =>
      rcases hr' with rfl | ⟨d, q, rfl, hd⟩
      · simp at e
      · simp only [List.nil_append, List.cons_append, List.cons.injEq] at e
        exact absurd (e.1 ▸ hd) (ha c (.head _))
    | cons d a' =>
      simp only [List.cons_append, List.cons.injEq] at e
      obtain ⟨rfl, e⟩ := e
      obtain ⟨rfl, rfl⟩ := ih (fun x hx => ha x (.tail _ hx)) (fun x hx => ha' x (.tail _ hx)) e
      exact ⟨rfl, rfl⟩
theorem tails_br {W g : List Wd} (hW : Proper W) (h : ∀ x ∈ g, x ∈ W) : Br (cl (tails g)) := by
  cases g with
  | nil => exact .inl rfl
  | cons x r =>
    obtain ⟨c, hc, hw⟩ := white_cl (hW.pl x (h x (.head _)))
    exact .inr ⟨c, cl x.tx ++ cl (tails r), by rw [tails, cl_append, cl_append, hc]; rfl, hw⟩
theorem Proper.nw {W : List Wd} (hW : Proper W) {x : Wd} (hx : x ∈ W) : ∀ c ∈ cl x.tx, ¬ wc c := by
  intro c hc h
  have := hW.ch x hx c hc
  rcases h with rfl | rfl <;> omega
theorem tails_inj {W g g' : List Wd} (hW : Proper W) (h : ∀ x ∈ g, x ∈ W) (h' : ∀ x ∈ g', x ∈ W) (e : cl (tails g) = cl (tails g')) : g = g' := by
  induction g generalizing g' with
  | nil =>
    cases g' with
    | nil => rfl
    | cons y r' =>
      obtain ⟨c, hc, _⟩ := white_cl (hW.pl y (h' y (.head _)))
      rw [tails, tails, cl_append, cl_append, hc] at e
      simp [cl_empty] at e
  | cons x r ih =>
    obtain ⟨c, hc, _⟩ := white_cl (hW.pl x (h x (.head _)))
    cases g' with
    | nil =>
      rw [tails, tails, cl_append, cl_append, hc] at e
      simp [cl_empty] at e
    | cons y r' =>
      obtain ⟨c', hc', _⟩ := white_cl (hW.pl y (h' y (.head _)))
      rw [tails, tails, cl_append, cl_append, cl_append, cl_append, hc, hc'] at e
      simp only [List.cons_append, List.nil_append, List.cons.injEq] at e
      have hr := fun z hz => h z (.tail x hz)
      have hr' := fun z hz => h' z (.tail y hz)
      obtain ⟨e1, e2⟩ := part_inj (hW.nw (h x (.head _))) (hW.nw (h' y (.head _))) (tails_br hW hr) (tails_br hW hr') e.2
      rw [hW.tx (h x (.head _)) (h' y (.head _)) (cl_inj e1), ih hr hr' e2]
theorem blk_inj {W g g' : List Wd} (hW : Proper W) (h : OkB W g) (h' : OkB W g') (e : blk g = blk g') : g = g' := by
  obtain ⟨hn, h⟩ := h
  obtain ⟨hn', h'⟩ := h'
  cases g with
  | nil => exact absurd rfl hn
  | cons x r =>
    cases g' with
    | nil => exact absurd rfl hn'
    | cons y r' =>
      have e := congrArg cl e
      rw [blk, blk, cl_append, cl_append] at e
      have hr := fun z hz => h z (.tail x hz)
      have hr' := fun z hz => h' z (.tail y hz)
      obtain ⟨e1, e2⟩ := part_inj (hW.nw (h x (.head _))) (hW.nw (h' y (.head _))) (tails_br hW hr) (tails_br hW hr') e
      rw [hW.tx (h x (.head _)) (h' y (.head _)) (cl_inj e1), tails_inj hW hr hr' e2]

-- texts: replace and split
theorem join_cons (c : Nat) (a b : Str) (r : List Str) : cl (Str.join ⟨#[c]⟩ (a :: b :: r)) = cl a ++ c :: cl (Str.join ⟨#[c]⟩ (b :: r)) := by
  show cl (a ++ ⟨#[c]⟩ ++ Str.join ⟨#[c]⟩ (b :: r)) = _
  rw [cl_append, cl_append]; simp [cl]
theorem join_inj (c : Nat) : ∀ (a b : List Str), a ≠ [] → b ≠ [] → (∀ p ∈ a, c ∉ cl p) → (∀ p ∈ b, c ∉ cl p) → Str.join ⟨#[c]⟩ a = Str.join ⟨#[c]⟩ b → a = b
  | [], _, h, _, _, _, _ => absurd rfl h
  | _, [], _, h, _, _, _ => absurd rfl h
  | [x], [y], _, _, _, _, e => by rw [show x = y from e]
  | [x], y :: z :: r, _, _, hx, _, e => by
    have e := congrArg cl e
    rw [join_cons] at e
    have : c ∈ cl x := by show c ∈ cl (Str.join ⟨#[c]⟩ [x]); rw [e]; simp
    exact absurd this (hx x (.head _))
  | x :: z :: r, [y], _, _, _, hy, e => by
    have e := congrArg cl e
    rw [join_cons] at e
    have : c ∈ cl y := by show c ∈ cl (Str.join ⟨#[c]⟩ [y]); rw [← e]; simp
    exact absurd this (hy y (.head _))
  | x :: x' :: r, y :: y' :: r', _, _, hx, hy, e => by
    have e := congrArg cl e
    rw [join_cons, join_cons] at e
    have key : ∀ (a b p q : List Nat), c ∉ a → c ∉ b → a ++ c :: p = b ++ c :: q → a = b ∧ p = q := by
      intro a
      induction a with
      | nil =>
        intro b p q _ hb e
        cases b with
        | nil => simpa using e
        | cons d b => simp only [List.nil_append, List.cons_append, List.cons.injEq] at e; exact absurd (e.1 ▸ List.mem_cons_self) hb
      | cons d a ih =>
        intro b p q ha hb e
        cases b with
        | nil => simp only [List.nil_append, List.cons_append, List.cons.injEq] at e; exact absurd (e.1 ▸ List.mem_cons_self) ha
        | cons f b =>
          simp only [List.cons_append, List.cons.injEq] at e
          obtain ⟨rfl, e⟩ := e
          obtain ⟨rfl, rfl⟩ := ih b p q (fun h => ha (.tail _ h)) (fun h => hb (.tail _ h)) e
          exact ⟨rfl, rfl⟩
    obtain ⟨e1, e2⟩ := key _ _ _ _ (hx x (.head _)) (hy y (.head _)) e
    have ih := join_inj c (x' :: r) (y' :: r') (by simp) (by simp) (fun p hp => hx p (.tail _ hp)) (fun p hp => hy p (.tail _ hp)) (cl_inj e2)
    rw [cl_inj e1, ih]
theorem split_ne (x y : Str) : Txt.split x y ≠ [] := by
  intro h
  have := StrLaws.join_split x y
  rw [h] at this
  have hx : x = Str.empty := this.symm
  subst hx
  unfold Txt.split at h
  split at h
  · cases h
  · split at h
    · cases h
    · rename_i h1 h2
      cases ho : Builtin.Str.occurrences Str.empty y 0 Str.empty.length (Str.empty.length + 1) with
      | nil => rw [ho] at h2; simp at h2
      | cons i r => rw [ho] at h; simp [Builtin.Str.partsBetween] at h
theorem split_join (c : Nat) (parts : List Str) (hne : parts ≠ []) (h : ∀ p ∈ parts, c ∉ cl p) : Txt.split (Str.join ⟨#[c]⟩ parts) ⟨#[c]⟩ = parts :=
  join_inj c _ _ (split_ne _ _) hne (fun p hp => StrLaws.split_free _ c p hp) h (StrLaws.join_split _ _)
def sub1 (c d : Nat) (l : List Nat) : List Nat := l.map fun k => if k = c then d else k
theorem sub_free {c d : Nat} {l : List Nat} (h : c ∉ l) : sub1 c d l = l := by
  induction l with
  | nil => rfl
  | cons k r ih =>
    show (if k = c then d else k) :: sub1 c d r = k :: r
    rw [if_neg (fun e => h (by rw [e]; exact .head _)), ih fun hm => h (.tail _ hm)]
theorem sub_append {c d : Nat} {a b : List Nat} : sub1 c d (a ++ b) = sub1 c d a ++ sub1 c d b := by simp [sub1]
theorem sub_join {c d : Nat} : ∀ parts : List Str, (∀ p ∈ parts, c ∉ cl p) → cl (Str.join ⟨#[d]⟩ parts) = sub1 c d (cl (Str.join ⟨#[c]⟩ parts))
  | [], _ => rfl
  | [p], h => (sub_free (h p (.head _))).symm
  | p :: q :: r, h => by
    rw [join_cons, join_cons, sub_append, sub_free (h p (.head _)), sub_join (q :: r) fun a ha => h a (.tail _ ha)]
    simp [sub1]
theorem replace_cl (x : Str) (c d : Nat) : cl (Txt.replace x ⟨#[c]⟩ ⟨#[d]⟩) = sub1 c d (cl x) := by
  rw [StrLaws.replace_one, sub_join _ (fun p hp => StrLaws.split_free x c p hp), StrLaws.join_split]
theorem sub_white {n : Nat} (h : n < 7) : sub1 9 32 (cl (white n)) = [32] := by
  obtain ⟨c, hc, rfl | rfl⟩ := white_cl h <;> rw [hc] <;> rfl
theorem sub_tails {W g : List Wd} (hW : Proper W) (h : ∀ x ∈ g, x ∈ W) : sub1 9 32 (cl (tails g)) = g.flatMap fun x => 32 :: cl x.tx := by
  induction g with
  | nil => rfl
  | cons x r ih =>
    have hx := h x (.head _)
    rw [tails, cl_append, cl_append, sub_append, sub_append, sub_white (hW.pl x hx), sub_free (fun hc => hW.nw hx 9 hc (.inr rfl)), ih fun z hz => h z (.tail _ hz)]
    simp
theorem join_texts : ∀ g : List Wd, g ≠ [] → cl (Str.join ⟨#[32]⟩ (g.map (·.tx))) = match g with | [] => [] | x :: r => cl x.tx ++ r.flatMap fun x => 32 :: cl x.tx
  | [], h => absurd rfl h
  | [x], _ => by show cl x.tx = _; simp
  | x :: y :: r, _ => by
    show cl (Str.join ⟨#[32]⟩ (x.tx :: y.tx :: r.map (·.tx))) = _
    rw [join_cons]
    have := join_texts (y :: r) (by simp)
    rw [List.map_cons] at this
    rw [this]; simp
theorem replace_blk {W g : List Wd} (hW : Proper W) (h : OkB W g) : Txt.replace (blk g) ⟨#[9]⟩ ⟨#[32]⟩ = Str.join ⟨#[32]⟩ (g.map (·.tx)) := by
  apply cl_inj
  obtain ⟨hn, h⟩ := h
  rw [replace_cl, join_texts g hn]
  cases g with
  | nil => exact absurd rfl hn
  | cons x r =>
    have hx := h x (.head _)
    rw [blk, cl_append, sub_append, sub_free (fun hc => hW.nw hx 9 hc (.inr rfl)), sub_tails hW fun z hz => h z (.tail _ hz)]
theorem split_texts {W g : List Wd} (hW : Proper W) (h : OkB W g) : Txt.split (Str.join ⟨#[32]⟩ (g.map (·.tx))) ⟨#[32]⟩ = g.map (·.tx) := by
  refine split_join 32 _ (by simpa using h.1) fun p hp hc => ?_
  obtain ⟨x, hx, rfl⟩ := List.mem_map.mp hp
  exact hW.nw (h.2 x hx) 32 hc (.inl rfl)
/-- the blocks of a line, a blank between -/
theorem replace_line {W : List Wd} (hW : Proper W) : ∀ gs : List (List Wd), gs ≠ [] → (∀ g ∈ gs, OkB W g) → cl (Txt.replace (Str.join ⟨#[32]⟩ (gs.map blk)) ⟨#[9]⟩ ⟨#[32]⟩) = cl (Str.join ⟨#[32]⟩ (gs.flatten.map (·.tx)))
  | [], h, _ => absurd rfl h
  | [g], _, h => by
    show cl (Txt.replace (blk g) _ _) = _
    rw [replace_blk hW (h g (.head _))]; simp
  | g :: g' :: r, _, h => by
    have ih := replace_line hW (g' :: r) (by simp) fun a ha => h a (.tail _ ha)
    have hg := h g (.head _)
    have hg' := h g' (.tail _ (.head _))
    rw [replace_cl] at ih ⊢
    rw [List.map_cons, List.map_cons, join_cons, ← List.map_cons, sub_append]
    have e0 := congrArg cl (replace_blk hW hg)
    rw [replace_cl] at e0
    have e1 : sub1 9 32 (32 :: cl (Str.join ⟨#[32]⟩ (List.map blk (g' :: r)))) = 32 :: sub1 9 32 (cl (Str.join ⟨#[32]⟩ (List.map blk (g' :: r)))) := rfl
    have hne : (g' :: r).flatten ≠ [] := by
      intro e
      rw [List.flatten_cons] at e
      exact hg'.1 (List.append_eq_nil_iff.mp e).1
    have e2 : (g :: g' :: r).flatten = g ++ (g' :: r).flatten := rfl
    rw [e0, e1, ih, e2, List.map_append]
    have : ∀ (a b : List Str), a ≠ [] → b ≠ [] → cl (Str.join ⟨#[32]⟩ (a ++ b)) = cl (Str.join ⟨#[32]⟩ a) ++ 32 :: cl (Str.join ⟨#[32]⟩ b) := by
      intro a
      induction a with
      | nil => intro b h; exact absurd rfl h
      | cons p a ih =>
        intro b _ hb
        cases a with
        | nil =>
          cases b with
          | nil => exact absurd rfl hb
          | cons q b => rw [List.cons_append, List.nil_append, join_cons]; rfl
        | cons q a => rw [List.cons_append, List.cons_append, join_cons, join_cons, ← List.cons_append, ih b (by simp) hb]; simp
    exact (this _ _ (fun e => hg.1 (List.map_eq_nil_iff.mp e)) (fun e => hne (List.map_eq_nil_iff.mp e))).symm
end Mine

end
/- M2 -/
section
open PySem PySem.W PyProof.Rows PySem.Calls PySem.Spec Builtin
set_option maxHeartbeats 1000000
namespace Mine
def Falls : List (List Wd) → Prop
  | a :: b :: r => prs b * sgs a ≤ prs a * sgs b ∧ Falls (b :: r)
  | _ => True
theorem falls_init : ∀ {l : List (List Wd)} {t : List Wd}, Falls (l ++ [t]) → Falls l
  | [], _, _ => trivial
  | [_], _, _ => trivial
  | a :: b :: r, t, h => ⟨h.1, falls_init (l := b :: r) h.2⟩
theorem falls_snoc : ∀ {l : List (List Wd)} {t b : List Wd}, Falls (l ++ [t]) → prs b * sgs t ≤ prs t * sgs b → Falls (l ++ [t] ++ [b])
  | [], _, _, _, h => ⟨h, trivial⟩
  | [a], _, _, h, h' => ⟨h.1, h', trivial⟩
  | a :: b :: r, t, c, h, h' => ⟨h.1, falls_snoc (l := b :: r) h.2 h'⟩
theorem falls_one (b : List Wd) : Falls [b] := trivial
structure Segs (ws : List Wd) (segs : List (List Wd)) : Prop where
  flat : segs.flatten = ws
  good : ∀ g ∈ segs, g ≠ [] ∧ Good g
  falls : Falls segs
theorem segs_nil : Segs [] [] := ⟨rfl, (fun _ h => nomatch h), trivial⟩

theorem falls_head {W : List Wd} (hW : Proper W) : ∀ {r : List (List Wd)} {a : List Wd}, Falls (a :: r) → (∀ g ∈ a :: r, OkB W g) → ∀ b ∈ r, prs b * sgs a ≤ prs a * sgs b
  | [], _, _, _, _, h => nomatch h
  | c :: r, a, h, ok, b, hb => by
    have p : ∀ g ∈ a :: c :: r, 0 < sgs g := fun g hg => sgs_pos (fun w hw => by have := hW.sgp ((ok g hg).2 w hw); omega) (ok g hg).1
    rcases List.mem_cons.mp hb with rfl | hb
    · exact h.1
    · have h2 := falls_head hW h.2 (fun g hg => ok g (.tail _ hg)) b hb
      have pa := p a (.head _)
      have pc := p c (.tail _ (.head _))
      have pb := p b (.tail _ (.tail _ hb))
      have h1 := h.1
      generalize prs a = Pa at *
      generalize prs b = Pb at *
      generalize prs c = Pc at *
      generalize sgs a = Sa at *
      generalize sgs b = Sb at *
      generalize sgs c = Sc at *
      have e1 : Pb * Sc * Sa ≤ Pc * Sb * Sa := Int.mul_le_mul_of_nonneg_right h2 (by omega)
      have e2 : Pc * Sa * Sb ≤ Pa * Sc * Sb := Int.mul_le_mul_of_nonneg_right h1 (by omega)
      have x1 : Pb * Sa * Sc = Pb * Sc * Sa := by rw [Int.mul_assoc, Int.mul_comm Sa Sc, ← Int.mul_assoc]
      have x2 : Pc * Sb * Sa = Pc * Sa * Sb := by rw [Int.mul_assoc, Int.mul_comm Sb Sa, ← Int.mul_assoc]
      have x3 : Pa * Sc * Sb = Pa * Sb * Sc := by rw [Int.mul_assoc, Int.mul_comm Sc Sb, ← Int.mul_assoc]
      exact Int.le_of_mul_le_mul_right (by omega) pc

-- interleavings
inductive Inter : List Wd → List Wd → List Wd → Prop
  | nil : Inter [] [] []
  | left {x : Wd} {X Y Z : List Wd} : Inter X Y Z → Inter (x :: X) Y (x :: Z)
  | right {y : Wd} {X Y Z : List Wd} : Inter X Y Z → Inter X (y :: Y) (y :: Z)
theorem Inter.allL : ∀ X : List Wd, Inter X [] X
  | [] => .nil
  | _ :: X => .left (Inter.allL X)
theorem Inter.allR : ∀ Y : List Wd, Inter [] Y Y
  | [] => .nil
  | _ :: Y => .right (Inter.allR Y)
theorem Inter.onlyL {X Z : List Wd} (h : Inter X [] Z) : Z = X := by
  generalize hY : ([] : List Wd) = Y at h
  induction h with
  | nil => rfl
  | left _ ih => rw [ih hY]
  | right _ _ => cases hY
theorem Inter.onlyR {Y Z : List Wd} (h : Inter [] Y Z) : Z = Y := by
  generalize hX : ([] : List Wd) = X at h
  induction h with
  | nil => rfl
  | left _ _ => cases hX
  | right _ ih => rw [ih hX]
theorem Inter.preL {X Y Z : List Wd} (h : Inter X Y Z) : ∀ a : List Wd, Inter (a ++ X) Y (a ++ Z)
  | [] => h
  | _ :: a => .left (h.preL a)
theorem Inter.preR {X Y Z : List Wd} (h : Inter X Y Z) : ∀ a : List Wd, Inter X (a ++ Y) (a ++ Z)
  | [] => h
  | _ :: a => .right (h.preR a)
theorem Inter.symm {X Y Z : List Wd} (h : Inter X Y Z) : Inter Y X Z := by
  induction h with
  | nil => exact .nil
  | left _ ih => exact .right ih
  | right _ ih => exact .left ih
theorem Inter.snocL {X Y Z : List Wd} (h : Inter X Y Z) (x : Wd) : Inter (X ++ [x]) Y (Z ++ [x]) := by
  induction h with
  | nil => exact .left .nil
  | left _ ih => exact .left ih
  | right _ ih => exact .right ih
theorem Inter.snocR {X Y Z : List Wd} (h : Inter X Y Z) (x : Wd) : Inter X (Y ++ [x]) (Z ++ [x]) := by
  induction h with
  | nil => exact .right .nil
  | left _ ih => exact .left ih
  | right _ ih => exact .right ih
theorem Inter.mem {X Y Z : List Wd} (h : Inter X Y Z) : ∀ z ∈ Z, z ∈ X ∨ z ∈ Y := by
  induction h with
  | nil => intro z hz; cases hz
  | left _ ih =>
    intro z hz
    rcases List.mem_cons.mp hz with rfl | hz
    · exact .inl (.head _)
    · exact (ih z hz).imp (.tail _) id
  | right _ ih =>
    intro z hz
    rcases List.mem_cons.mp hz with rfl | hz
    · exact .inr (.head _)
    · exact (ih z hz).imp id (.tail _)
theorem Inter.sgs {X Y Z : List Wd} (h : Inter X Y Z) : sgs Z = sgs X + sgs Y := by
  induction h with
  | nil => rfl
  | @left x X Y Z _ ih => show x.sg + Mine.sgs Z = x.sg + Mine.sgs X + Mine.sgs Y; omega
  | @right y X Y Z _ ih => show y.sg + Mine.sgs Z = Mine.sgs X + (y.sg + Mine.sgs Y); omega

def cost (h : Int) : List Wd → Int
  | [] => 0
  | x :: r => x.pr * (h + x.sg) + cost (h + x.sg) r
theorem sgs_cons (x : Wd) (r : List Wd) : sgs (x :: r) = x.sg + sgs r := rfl
theorem prs_cons (x : Wd) (r : List Wd) : prs (x :: r) = x.pr + prs r := rfl
theorem cost_append : ∀ (a b : List Wd) (h : Int), cost h (a ++ b) = cost h a + cost (h + sgs a) b
  | [], b, h => by show cost h b = 0 + cost (h + 0) b; simp
  | x :: a, b, h => by
    rw [List.cons_append, cost, cost, cost_append a b, sgs_cons]
    rw [Int.add_assoc h x.sg, Int.add_assoc]
theorem cost_shift : ∀ (a : List Wd) (h k : Int), cost (h + k) a = cost h a + k * prs a
  | [], _, _ => by simp [cost, prs]
  | x :: a, h, k => by
    rw [cost, cost, prs_cons, show h + k + x.sg = h + x.sg + k by omega, cost_shift a]
    grind
theorem sgs_nonneg {l : List Wd} (h : ∀ x ∈ l, 0 < x.sg) : 0 ≤ sgs l := by
  induction l with
  | nil => exact Int.le_refl _
  | cons x r ih => have := h x (.head _); have := ih fun y hy => h y (.tail _ hy); rw [sgs_cons]; omega

/-- a block's rest goes ahead of what stands before it -/
theorem move {S P : Int} (hS : 0 < S) : ∀ {Z A' X Y' : List Wd} (h : Int) (p w : Int), Inter (A' ++ X) Y' Z → (∀ x ∈ A', 0 < x.sg) → (∀ y ∈ Y', 0 < y.sg) →
    (∀ q T, A' = q ++ T → P * sgs T ≤ S * prs T) → (∀ q T, Y' = q ++ T → (p + prs q) * S ≤ P * (w + sgs q)) →
    ∃ Z', Inter X Y' Z' ∧ S * cost h (A' ++ Z') ≤ S * cost h Z + (w * P - p * S) * sgs A' := by
  intro Z
  induction Z with
  | nil =>
    intro A' X Y' h p w hI pA pY hA hY
    generalize hL : A' ++ X = AX at hI
    cases hI
    obtain ⟨rfl, rfl⟩ := List.append_eq_nil_iff.mp hL
    exact ⟨[], .nil, by simp [cost, sgs]⟩
  | cons z Z ih =>
    intro A' X Y' h p w hI pA pY hA hY
    cases A' with
    | nil => exact ⟨z :: Z, hI, by simp [sgs]⟩
    | cons a A =>
      have h0 := hY [] Y' rfl
      simp only [prs, sgs, List.map_nil, List.sum_nil, Int.add_zero] at h0
      generalize hL : a :: A ++ X = AX at hI
      cases hI with
      | @left x X1 _ _ hI =>
        rw [List.cons_append] at hL
        obtain ⟨h1, h2⟩ := List.cons.inj hL
        subst h2
        subst h1
        obtain ⟨Z', hZ, hc⟩ := ih (h + a.sg) p w hI (fun x hx => pA x (.tail _ hx)) pY (fun q T e => hA (a :: q) T (by rw [e]; rfl)) hY
        refine ⟨Z', hZ, ?_⟩
        rw [List.cons_append, cost, cost, sgs_cons]
        have ha := pA a (.head _)
        have e1 : S * (a.pr * (h + a.sg) + cost (h + a.sg) (A ++ Z')) = S * (a.pr * (h + a.sg)) + S * cost (h + a.sg) (A ++ Z') := Int.mul_add ..
        have e2 : S * (a.pr * (h + a.sg) + cost (h + a.sg) Z) = S * (a.pr * (h + a.sg)) + S * cost (h + a.sg) Z := Int.mul_add ..
        have e3 : (w * P - p * S) * (a.sg + sgs A) = (w * P - p * S) * a.sg + (w * P - p * S) * sgs A := Int.mul_add ..
        have e4 : 0 ≤ (w * P - p * S) * a.sg := Int.mul_nonneg (by rw [Int.mul_comm w P]; omega) (by omega)
        omega
      | @right y _ Y1 _ hI =>
        subst hL
        have hy := pY z (.head _)
        obtain ⟨Z', hZ, hc⟩ := ih (A' := a :: A) (h + z.sg) (p + z.pr) (w + z.sg) hI pA (fun x hx => pY x (.tail _ hx)) hA (fun q T e => by
          have := hY (z :: q) T (by rw [e]; rfl)
          rw [prs_cons, sgs_cons] at this
          rw [show p + z.pr + prs q = p + (z.pr + prs q) by omega, show w + z.sg + sgs q = w + (z.sg + sgs q) by omega]
          exact this)
        refine ⟨z :: Z', .right hZ, ?_⟩
        have hT := hA [] (a :: A) rfl
        generalize a :: A = B at *
        have c1 : cost h (B ++ z :: Z') = cost h B + (z.pr * (h + sgs B + z.sg) + cost (h + sgs B + z.sg) Z') := by rw [cost_append]; rfl
        have c2 : cost (h + z.sg) (B ++ Z') = cost h B + z.sg * prs B + cost (h + z.sg + sgs B) Z' := by rw [cost_append, cost_shift]
        have c3 : cost h (z :: Z) = z.pr * (h + z.sg) + cost (h + z.sg) Z := rfl
        rw [show h + z.sg + sgs B = h + sgs B + z.sg by omega] at c2
        generalize cost (h + sgs B + z.sg) Z' = K at *
        generalize cost h B = KB at *
        generalize cost (h + z.sg) Z = KZ at *
        generalize prs B = PB at *
        generalize sgs B = SB at *
        rw [c2] at hc
        rw [c1, c3]
        have hq : z.sg * (P * SB) ≤ z.sg * (S * PB) := Int.mul_le_mul_of_nonneg_left hT (by omega)
        clear c1 c2 c3 ih hI hA hY hZ hT pA pY h0
        generalize z.sg = sy at *
        generalize z.pr = py at *
        grind
theorem good_suffix {A : List Wd} (hg : Good A) (q T : List Wd) (e : A = q ++ T) : prs A * sgs T ≤ sgs A * prs T := by
  cases q with
  | nil => rw [List.nil_append] at e; subst e; rw [Int.mul_comm]; exact Int.le_refl _
  | cons x q =>
    cases T with
    | nil => simp [sgs, prs]
    | cons y T =>
      have h := hg (x :: q) (y :: T) e (by simp) (by simp)
      have e1 : prs A = prs (x :: q) + prs (y :: T) := by rw [e, prs_append]
      have e2 : sgs A = sgs (x :: q) + sgs (y :: T) := by rw [e, sgs_append]
      rw [e1, e2] at h ⊢
      generalize prs (x :: q) = a at *
      generalize sgs (x :: q) = b at *
      generalize prs (y :: T) = c at *
      generalize sgs (y :: T) = d at *
      grind
theorem good_prefix {A : List Wd} (hg : Good A) (q T : List Wd) (e : A = q ++ T) : prs q * sgs A ≤ prs A * sgs q := by
  cases q with
  | nil => simp [sgs, prs]
  | cons x q =>
    cases T with
    | nil => rw [List.append_nil] at e; subst e; exact Int.le_refl _
    | cons y T => exact Int.le_of_lt (hg (x :: q) (y :: T) e (by simp) (by simp))
theorem rows_prefix {S P : Int} (hS : 0 < S) : ∀ (bs : List (List Wd)), (∀ b ∈ bs, b ≠ [] ∧ Good b ∧ (∀ x ∈ b, 0 < x.sg) ∧ prs b * S ≤ P * sgs b) → ∀ q T, bs.flatten = q ++ T → prs q * S ≤ P * sgs q
  | [], _, q, T, e => by
    obtain ⟨rfl, -⟩ := List.append_eq_nil_iff.mp (show q ++ T = [] from e.symm)
    simp [prs, sgs]
  | b :: bs, h, q, T, e => by
    obtain ⟨hn, hg, hp, hd⟩ := h b (.head _)
    rw [List.flatten_cons] at e
    rcases List.append_eq_append_iff.mp e with ⟨r, rfl, e⟩ | ⟨r, e, -⟩
    · have ih := rows_prefix hS bs (fun b hb => h b (.tail _ hb)) r T (List.append_cancel_left (by rw [e, List.append_assoc]))
      rw [prs_append, sgs_append, Int.add_mul, Int.mul_add]
      omega
    · have g := good_prefix hg q r e
      have Sb := sgs_pos hp hn
      have hq : 0 ≤ sgs q := sgs_nonneg fun x hx => hp x (by rw [e]; exact List.mem_append_left _ hx)
      have m1 : prs q * sgs b * S ≤ prs b * sgs q * S := Int.mul_le_mul_of_nonneg_right g (by omega)
      have m2 : prs b * S * sgs q ≤ P * sgs b * sgs q := Int.mul_le_mul_of_nonneg_right hd hq
      refine Int.le_of_mul_le_mul_right (a := sgs b) ?_ Sb
      have x1 : prs q * S * sgs b = prs q * sgs b * S := by rw [Int.mul_assoc, Int.mul_comm S, ← Int.mul_assoc]
      have x2 : prs b * sgs q * S = prs b * S * sgs q := by rw [Int.mul_assoc, Int.mul_comm _ S, ← Int.mul_assoc]
      have x3 : P * sgs b * sgs q = P * sgs q * sgs b := by rw [Int.mul_assoc, Int.mul_comm (sgs b), ← Int.mul_assoc]
      omega
/-- the blocks of two rows, laid into one line -/
inductive Merge : List (List Wd) → List (List Wd) → List (List Wd) → Prop
  | restL (L : List (List Wd)) : Merge L [] L
  | restR (R : List (List Wd)) : Merge [] R R
  | left {a b : List Wd} {L R C : List (List Wd)} : prs b * sgs a ≤ prs a * sgs b → Merge L (b :: R) C → Merge (a :: L) (b :: R) (a :: C)
  | right {a b : List Wd} {L R C : List (List Wd)} : prs a * sgs b < prs b * sgs a → Merge (a :: L) R C → Merge (a :: L) (b :: R) (b :: C)
theorem Merge.inter {L R C : List (List Wd)} (h : Merge L R C) : Inter L.flatten R.flatten C.flatten := by
  induction h with
  | restL L => exact Inter.allL _
  | restR R => exact Inter.allR _
  | left _ _ ih => simp only [List.flatten_cons] at ih ⊢; exact ih.preL _
  | right _ _ ih => simp only [List.flatten_cons] at ih ⊢; exact ih.preR _
theorem Merge.mem {L R C : List (List Wd)} (h : Merge L R C) : ∀ g ∈ C, g ∈ L ∨ g ∈ R := by
  induction h with
  | restL L => exact fun g h => .inl h
  | restR R => exact fun g h => .inr h
  | left _ _ ih =>
    intro g hg
    rcases List.mem_cons.mp hg with rfl | hg
    · exact .inl (.head _)
    · exact (ih g hg).imp (.tail _) id
  | right _ _ ih =>
    intro g hg
    rcases List.mem_cons.mp hg with rfl | hg
    · exact .inr (.head _)
    · exact (ih g hg).imp id (.tail _)
/-- one block first -/
theorem first {A X Y Z : List Wd} {bs : List (List Wd)} (hn : A ≠ []) (hg : Good A) (hp : ∀ x ∈ A, 0 < x.sg) (hb : ∀ b ∈ bs, b ≠ [] ∧ Good b ∧ (∀ x ∈ b, 0 < x.sg) ∧ prs b * sgs A ≤ prs A * sgs b) (hY : Y = bs.flatten) (hI : Inter (A ++ X) Y Z) (h : Int) :
    ∃ Z', Inter X Y Z' ∧ cost h (A ++ Z') ≤ cost h Z := by
  have hS := sgs_pos hp hn
  obtain ⟨Z', hZ, hc⟩ := move (P := prs A) hS h 0 0 hI hp (fun y hy => by
    rw [hY] at hy
    obtain ⟨b, hb', hyb⟩ := List.mem_flatten.mp hy
    exact (hb b hb').2.2.1 y hyb) (good_suffix hg) (fun q T e => by
      have := rows_prefix hS bs hb q T (hY ▸ e)
      rw [Int.zero_add, Int.zero_add]; exact this)
  refine ⟨Z', hZ, ?_⟩
  simp only [Int.zero_mul, Int.sub_zero, Int.add_zero] at hc
  exact Int.le_of_mul_le_mul_left hc hS
theorem merge_least {W : List Wd} (hW : Proper W) {L R C : List (List Wd)} (hM : Merge L R C) : ∀ {Z : List Wd} (h : Int), Falls L → Falls R → (∀ g ∈ L, OkB W g ∧ Good g) → (∀ g ∈ R, OkB W g ∧ Good g) → Inter L.flatten R.flatten Z → cost h C.flatten ≤ cost h Z := by
  have pos : ∀ g, OkB W g → ∀ x ∈ g, 0 < x.sg := fun g ok x hx => by have := hW.sgp (ok.2 x hx); omega
  induction hM with
  | restL L => intro Z h _ _ _ _ hI; rw [Inter.onlyL hI]; exact Int.le_refl _
  | restR R => intro Z h _ _ _ _ hI; rw [Inter.onlyR hI]; exact Int.le_refl _
  | @left a b L R C hab hM ih =>
    intro Z h fL fR gL gR hI
    obtain ⟨oka, ga⟩ := gL a (.head _)
    rw [List.flatten_cons] at hI
    have hb := falls_head hW fR fun g hg => (gR g hg).1
    have pb := pos b (gR b (.head _)).1
    have hD : ∀ g ∈ b :: R, prs g * sgs a ≤ prs a * sgs g := by
      intro g hg
      rcases List.mem_cons.mp hg with rfl | hg'
      · exact hab
      · have h2 := hb g hg'
        have Sa := sgs_pos (pos a oka) oka.1
        have Sb := sgs_pos pb (gR b (.head _)).1.1
        have Sg := sgs_pos (pos g (gR g hg).1) (gR g hg).1.1
        have := falls_head hW (r := [b, g]) (a := a) ⟨hab, h2, trivial⟩ (fun z hz => by
          simp only [List.mem_cons, List.not_mem_nil, or_false] at hz
          rcases hz with rfl | rfl | rfl
          · exact oka
          · exact (gR _ (.head _)).1
          · exact (gR _ hg).1) g (by simp)
        exact this
    obtain ⟨Z', hZ, hc⟩ := first (bs := b :: R) oka.1 ga (pos a oka) (fun g hg => ⟨(gR g hg).1.1, (gR g hg).2, pos g (gR g hg).1, hD g hg⟩) rfl hI h
    refine Int.le_trans ?_ hc
    rw [List.flatten_cons, cost_append, cost_append]
    have := ih (h + sgs a) (by cases L with | nil => trivial | cons c L => exact fL.2) fR (fun g hg => gL g (.tail _ hg)) gR hZ
    omega
  | @right a b L R C hab hM ih =>
    intro Z h fL fR gL gR hI
    obtain ⟨okb, gb⟩ := gR b (.head _)
    rw [List.flatten_cons] at hI
    have ha := falls_head hW fL fun g hg => (gL g hg).1
    have hI' := hI.symm
    rw [List.flatten_cons] at hI'
    have hD : ∀ g ∈ a :: L, prs g * sgs b ≤ prs b * sgs g := by
      intro g hg
      rcases List.mem_cons.mp hg with rfl | hg'
      · exact Int.le_of_lt hab
      · have h2 := ha g hg'
        have := falls_head hW (r := [a, g]) (a := b) ⟨Int.le_of_lt hab, h2, trivial⟩ (fun z hz => by
          simp only [List.mem_cons, List.not_mem_nil, or_false] at hz
          rcases hz with rfl | rfl | rfl
          · exact okb
          · exact (gL _ (.head _)).1
          · exact (gL _ hg).1) g (by simp)
        exact this
    obtain ⟨Z', hZ, hc⟩ := first (bs := a :: L) okb.1 gb (pos b okb) (fun g hg => ⟨(gL g hg).1.1, (gL g hg).2, pos g (gL g hg).1, hD g hg⟩) rfl hI' h
    refine Int.le_trans ?_ hc
    rw [List.flatten_cons, cost_append, cost_append]
    have := ih (h + sgs b) fL (by cases R with | nil => trivial | cons c R => exact fR.2) gL (fun g hg => gR g (.tail _ hg)) hZ.symm
    omega
end Mine

end
/- M3 -/
section
open PySem PySem.W PyProof.Rows PySem.Calls PySem.Spec Builtin
set_option maxHeartbeats 1000000
namespace Mine
def prAt (l : List Wd) (i : Nat) : Int := match l[i]? with | some x => x.pr | none => 0
def endAt (us ls : List Wd) (h : Int) (i k : Nat) : Int := h + (sgs (us.take i) + sgs (ls.take k))
def dp (us ls : List Wd) (h : Int) : Nat → Nat → Int
  | 0, 0 => 0
  | i + 1, 0 => dp us ls h i 0 + prAt us i * endAt us ls h (i + 1) 0
  | 0, k + 1 => dp us ls h 0 k + prAt ls k * endAt us ls h 0 (k + 1)
  | i + 1, k + 1 => min (dp us ls h i (k + 1) + prAt us i * endAt us ls h (i + 1) (k + 1)) (dp us ls h (i + 1) k + prAt ls k * endAt us ls h (i + 1) (k + 1))
termination_by i k => i + k
theorem take_snoc {l : List Wd} {i : Nat} {x : Wd} (h : l[i]? = some x) : l.take (i + 1) = l.take i ++ [x] := by rw [List.take_add_one, h]; rfl
theorem drop_cons' {l : List Wd} {i : Nat} {x : Wd} {r : List Wd} (h : l.drop i = x :: r) : l[i]? = some x ∧ l.drop (i + 1) = r := by
  constructor
  · have := List.getElem?_drop (xs := l) (i := i) (j := 0)
    rw [h] at this; simpa using this.symm
  · rw [← List.tail_drop, h]; rfl
theorem sgs_take {l : List Wd} {i : Nat} {x : Wd} (h : l[i]? = some x) : sgs (l.take (i + 1)) = sgs (l.take i) + x.sg := by rw [take_snoc h, sgs_append]; simp [sgs]
theorem dp_left (us ls : List Wd) (h : Int) (i k : Nat) : dp us ls h (i + 1) k ≤ dp us ls h i k + prAt us i * endAt us ls h (i + 1) k := by
  cases k with
  | zero => rw [dp]; exact Int.le_refl _
  | succ k => rw [dp]; exact Int.min_le_left ..
theorem dp_right (us ls : List Wd) (h : Int) (i k : Nat) : dp us ls h i (k + 1) ≤ dp us ls h i k + prAt ls k * endAt us ls h i (k + 1) := by
  cases i with
  | zero => rw [dp]; exact Int.le_refl _
  | succ i => rw [dp]; exact Int.min_le_right ..
theorem dp_le {us ls : List Wd} {h : Int} {X Y Z : List Wd} (hI : Inter X Y Z) : ∀ (i k : Nat), i ≤ us.length → k ≤ ls.length → us.drop i = X → ls.drop k = Y → dp us ls h us.length ls.length ≤ dp us ls h i k + cost (endAt us ls h i k) Z := by
  induction hI with
  | nil =>
    intro i k hi hk e1 e2
    have h1 := List.drop_eq_nil_iff.mp e1
    have h2 := List.drop_eq_nil_iff.mp e2
    rw [show i = us.length by omega, show k = ls.length by omega]
    simp [cost]
  | @left x X Y Z hI ih =>
    intro i k hi hk e1 e2
    obtain ⟨hx, e1'⟩ := drop_cons' e1
    have hlt : i < us.length := by
      rcases Nat.lt_or_ge i us.length with h | h
      · exact h
      · rw [List.getElem?_eq_none h] at hx; cases hx
    have := ih (i + 1) k hlt hk e1' e2
    have h2 := dp_left us ls h i k
    have e3 : endAt us ls h (i + 1) k = endAt us ls h i k + x.sg := by unfold endAt; rw [sgs_take hx]; omega
    have e4 : prAt us i = x.pr := by unfold prAt; rw [hx]
    rw [e3] at this h2
    rw [e4] at h2
    rw [cost]; omega
  | @right y X Y Z hI ih =>
    intro i k hi hk e1 e2
    obtain ⟨hx, e2'⟩ := drop_cons' e2
    have hlt : k < ls.length := by
      rcases Nat.lt_or_ge k ls.length with h | h
      · exact h
      · rw [List.getElem?_eq_none h] at hx; cases hx
    have := ih i (k + 1) hi hlt e1 e2'
    have h2 := dp_right us ls h i k
    have e3 : endAt us ls h i (k + 1) = endAt us ls h i k + y.sg := by unfold endAt; rw [sgs_take hx]; omega
    have e4 : prAt ls k = y.pr := by unfold prAt; rw [hx]
    rw [e3] at this h2
    rw [e4] at h2
    rw [cost]; omega
theorem cost_snoc (h : Int) (Z : List Wd) (x : Wd) : cost h (Z ++ [x]) = cost h Z + x.pr * (h + sgs Z + x.sg) := by
  rw [cost_append]
  show _ + (x.pr * (h + sgs Z + x.sg) + 0) = _
  omega
theorem dp_is (us ls : List Wd) (h : Int) : ∀ (n i k : Nat), i + k = n → i ≤ us.length → k ≤ ls.length → ∃ Z, Inter (us.take i) (ls.take k) Z ∧ dp us ls h i k = cost h Z := by
  intro n
  induction n using Nat.strongRecOn with
  | _ n ih =>
    intro i k e hi hk
    have L : ∀ i', i = i' + 1 → ∃ Z, Inter (us.take i) (ls.take k) Z ∧ dp us ls h i' k + prAt us i' * endAt us ls h i k = cost h Z := by
      rintro i' rfl
      obtain ⟨Z, hZ, e1⟩ := ih (i' + k) (by omega) i' k rfl (by omega) hk
      obtain ⟨x, hx⟩ : ∃ x, us[i']? = some x := ⟨_, List.getElem?_eq_getElem (by omega)⟩
      refine ⟨Z ++ [x], by rw [take_snoc hx]; exact hZ.snocL x, ?_⟩
      have e3 : endAt us ls h (i' + 1) k = h + sgs Z + x.sg := by unfold endAt; rw [sgs_take hx, hZ.sgs]; omega
      have e4 : prAt us i' = x.pr := by unfold prAt; rw [hx]
      rw [cost_snoc, e1, e3, e4]
    have R : ∀ k', k = k' + 1 → ∃ Z, Inter (us.take i) (ls.take k) Z ∧ dp us ls h i k' + prAt ls k' * endAt us ls h i k = cost h Z := by
      rintro k' rfl
      obtain ⟨Z, hZ, e1⟩ := ih (i + k') (by omega) i k' rfl hi (by omega)
      obtain ⟨x, hx⟩ : ∃ x, ls[k']? = some x := ⟨_, List.getElem?_eq_getElem (by omega)⟩
      refine ⟨Z ++ [x], by rw [take_snoc hx]; exact hZ.snocR x, ?_⟩
      have e3 : endAt us ls h i (k' + 1) = h + sgs Z + x.sg := by unfold endAt; rw [sgs_take hx, hZ.sgs]; omega
      have e4 : prAt ls k' = x.pr := by unfold prAt; rw [hx]
      rw [cost_snoc, e1, e3, e4]
    match i, k with
    | 0, 0 => exact ⟨[], .nil, by rw [dp]; rfl⟩
    | i' + 1, 0 =>
      obtain ⟨Z, hZ, e1⟩ := L i' rfl
      exact ⟨Z, hZ, by rw [dp]; exact e1⟩
    | 0, k' + 1 =>
      obtain ⟨Z, hZ, e1⟩ := R k' rfl
      exact ⟨Z, hZ, by rw [dp]; exact e1⟩
    | i' + 1, k' + 1 =>
      obtain ⟨Z, hZ, e1⟩ := L i' rfl
      obtain ⟨Z2, hZ2, e2⟩ := R k' rfl
      rcases Int.le_total (dp us ls h i' (k' + 1) + prAt us i' * endAt us ls h (i' + 1) (k' + 1)) (dp us ls h (i' + 1) k' + prAt ls k' * endAt us ls h (i' + 1) (k' + 1)) with hle | hle
      · exact ⟨Z, hZ, by rw [dp, Int.min_eq_left hle]; exact e1⟩
      · exact ⟨Z2, hZ2, by rw [dp, Int.min_eq_right hle]; exact e2⟩
/-- the table's last is what the merged line costs -/
theorem least_is {W : List Wd} (hW : Proper W) {L R C : List (List Wd)} (h : Int) (hM : Merge L R C) (fL : Falls L) (fR : Falls R) (gL : ∀ g ∈ L, OkB W g ∧ Good g) (gR : ∀ g ∈ R, OkB W g ∧ Good g) :
    dp L.flatten R.flatten h L.flatten.length R.flatten.length = cost h C.flatten := by
  apply Int.le_antisymm
  · have := dp_le (h := h) (us := L.flatten) (ls := R.flatten) hM.inter 0 0 (Nat.zero_le _) (Nat.zero_le _) rfl rfl
    rw [dp] at this
    have e : endAt L.flatten R.flatten h 0 0 = h := by unfold endAt; simp [sgs]
    rw [e] at this
    omega
  · obtain ⟨Z, hZ, e⟩ := dp_is L.flatten R.flatten h _ L.flatten.length R.flatten.length rfl (Nat.le_refl _) (Nat.le_refl _)
    rw [e]
    rw [List.take_length, List.take_length] at hZ
    exact merge_least hW hM h fL fR gL gR hZ
end Mine

end
/- C1 -/
section
open PySem PySem.W PyProof.Rows PySem.Calls PySem.Spec Builtin
set_option maxHeartbeats 1000000
namespace Mine
/-- two lists, alike item by item -/
def Al {α β : Type} (P : α → β → Prop) (a : List α) (b : List β) : Prop := a.length = b.length ∧ ∀ (i : Nat) x y, a[i]? = some x → b[i]? = some y → P x y
section
variable {α β : Type} {P P' : α → β → Prop} {a : List α} {b : List β} {x : α} {y : β}
theorem Al.nil : Al P [] [] := ⟨rfl, fun i x y h => by simp at h⟩
theorem Al.mono (h : Al P a b) (f : ∀ x y, P x y → P' x y) : Al P' a b := ⟨h.1, fun i x y e e' => f _ _ (h.2 i x y e e')⟩
theorem Al.get {i : Nat} (h : Al P a b) (e : a[i]? = some x) : ∃ y, b[i]? = some y ∧ P x y := by
  have hi : i < a.length := by
    rcases Nat.lt_or_ge i a.length with h | h
    · exact h
    · rw [List.getElem?_eq_none h] at e; cases e
  have hb : b[i]? = some (b[i]'(h.1 ▸ hi)) := List.getElem?_eq_getElem _
  exact ⟨_, hb, h.2 i _ _ e hb⟩
theorem Al.get' {i : Nat} (h : Al P a b) (e : b[i]? = some y) : ∃ x, a[i]? = some x ∧ P x y := by
  have hi : i < b.length := by
    rcases Nat.lt_or_ge i b.length with h | h
    · exact h
    · rw [List.getElem?_eq_none h] at e; cases e
  have hb : a[i]? = some (a[i]'(h.1 ▸ hi)) := List.getElem?_eq_getElem _
  exact ⟨_, hb, h.2 i _ _ hb e⟩
theorem Al.cons (h : P x y) (t : Al P a b) : Al P (x :: a) (y :: b) := by
  refine ⟨by simp [t.1], fun i u v e e' => ?_⟩
  cases i with
  | zero => cases e; cases e'; exact h
  | succ i => exact t.2 i u v (by simpa using e) (by simpa using e')
theorem Al.head (h : Al P (x :: a) (y :: b)) : P x y := h.2 0 x y rfl rfl
theorem Al.tail (h : Al P (x :: a) (y :: b)) : Al P a b := ⟨by simpa using h.1, fun i u v e e' => h.2 (i + 1) u v (by simpa using e) (by simpa using e')⟩
theorem Al.append {a' : List α} {b' : List β} (h : Al P a b) (h' : Al P a' b') : Al P (a ++ a') (b ++ b') := by
  induction a generalizing b with
  | nil =>
    cases b with
    | nil => exact h'
    | cons _ _ => exact absurd h.1 (by simp)
  | cons x a ih =>
    cases b with
    | nil => exact absurd h.1 (by simp)
    | cons y b => exact Al.cons h.head (ih h.tail)
theorem Al.snoc (h : Al P a b) (e : P x y) : Al P (a ++ [x]) (b ++ [y]) := h.append (Al.cons e Al.nil)
theorem Al.take (h : Al P a b) (n : Nat) : Al P (a.take n) (b.take n) := by
  refine ⟨by simp [h.1], fun i u v e e' => ?_⟩
  rw [List.getElem?_take] at e e'
  by_cases hi : i < n
  · rw [if_pos hi] at e e'; exact h.2 i u v e e'
  · rw [if_neg hi] at e; cases e
theorem Al.drop (h : Al P a b) (n : Nat) : Al P (a.drop n) (b.drop n) := by
  refine ⟨by simp [h.1], fun i u v e e' => ?_⟩
  rw [List.getElem?_drop] at e e'
  exact h.2 _ u v e e'
theorem Al.unsnoc (h : Al P a (b ++ [y])) : ∃ a' x, a = a' ++ [x] ∧ Al P a' b ∧ P x y := by
  have hl : a.length = b.length + 1 := by rw [h.1]; simp
  obtain ⟨x, hx, hp⟩ := h.get' (i := b.length) (y := y) (by simp)
  refine ⟨a.take b.length, x, ?_, ?_, hp⟩
  · have := List.take_add_one (l := a) (i := b.length)
    rw [hx, List.take_of_length_le (by omega)] at this
    exact this
  · have := h.take b.length
    rwa [List.take_left' rfl] at this
end

abbrev PW := PySem.Challenge.pw_pk0049_01
/-- a word's tuple -/
inductive IsWord (news : List (Addr × Obj)) (v : Value) (x : Wd) : Prop
  | mk (e : Addr) (t1 t2 t3 t4 t5 : Tok) (h : v = .ref e) (m : (e, tupO [.int 1 t1, .int x.sg t2, .int x.pr t3, .int x.pl t4, .str x.tx t5]) ∈ news) : IsWord news v x
/-- a block's entry -/
inductive EntryAt (w : World) (news : List (Addr × Obj)) (v : Value) (g : List Wd) : Prop
  | mk (e c : Addr) (t1 t2 t3 t4 : Tok) (oc : Obj) (kvs : List (Str × Value)) (h : v = .ref e) (m : (e, tupO [.int g.length t1, .int (sgs g) t2, .int (prs g) t3, .int (pls g) t4, .ref c]) ∈ news) (mc : (c, oc) ∈ news) (hd : oc.IsDictOf (strKind PW w) kvs) (hk : IntKvs kvs (g.map fun x => (x.tx, x.pr))) (hs : (c == sysModules) = false) : EntryAt w news v g
def BookHas (w : World) (news : List (Addr × Obj)) (kvs : List (Str × Value)) (g : List Wd) : Prop := ∃ v, valueAt kvs (blk g) = some v ∧ EntryAt w news v g
/-- a piece: the white sign ahead, and the block's text -/
inductive IsPiece (news : List (Addr × Obj)) (v : Value) (g : List Wd) : Prop
  | mk (T : Addr) (t1 t2 : Tok) (h : v = .ref T) (m : (T, tupO [.str (mark g) t1, .str (blk g) t2]) ∈ news) : IsPiece news v g

theorem IsWord.mono {n n' : List (Addr × Obj)} {v : Value} {x : Wd} (h : IsWord n v x) (s : ∀ p ∈ n, p ∈ n') : IsWord n' v x := by
  obtain ⟨e, t1, t2, t3, t4, t5, rfl, h⟩ := h
  exact ⟨e, t1, t2, t3, t4, t5, rfl, s _ h⟩
theorem EntryAt.mono {w : World} {n n' : List (Addr × Obj)} {v : Value} {g : List Wd} (h : EntryAt w n v g) (s : ∀ p ∈ n, p ∈ n') : EntryAt w n' v g := by
  obtain ⟨e, c, t1, t2, t3, t4, oc, kvs, rfl, h1, h2, h3, h4, h5⟩ := h
  exact ⟨e, c, t1, t2, t3, t4, oc, kvs, rfl, s _ h1, s _ h2, h3, h4, h5⟩
theorem BookHas.mono {w : World} {n n' : List (Addr × Obj)} {kvs : List (Str × Value)} {g : List Wd} (h : BookHas w n kvs g) (s : ∀ p ∈ n, p ∈ n') : BookHas w n' kvs g := by
  obtain ⟨v, h1, h2⟩ := h
  exact ⟨v, h1, h2.mono s⟩
theorem IsPiece.mono {n n' : List (Addr × Obj)} {v : Value} {g : List Wd} (h : IsPiece n v g) (s : ∀ p ∈ n, p ∈ n') : IsPiece n' v g := by
  obtain ⟨T, t1, t2, rfl, h⟩ := h
  exact ⟨T, t1, t2, rfl, s _ h⟩

theorem valueAt_cons {k k' : Str} {v : Value} {l : List (Str × Value)} : valueAt ((k', v) :: l) k = if k' = k then some v else valueAt l k := by
  unfold valueAt
  rw [List.find?_cons]
  by_cases h : k' = k
  · simp [h]
  · simp [h]
theorem valueAt_map {k k' : Str} {x : Value} {l : List (Str × Value)} : valueAt (l.map fun kv => if kv.1 = k then (kv.1, x) else kv) k' = if k' = k then (valueAt l k').map fun _ => x else valueAt l k' := by
  induction l with
  | nil => simp [valueAt]
  | cons p l ih =>
    obtain ⟨a, v⟩ := p
    rw [List.map_cons, valueAt_cons]
    dsimp only
    by_cases h : a = k
    · rw [if_pos h, valueAt_cons, ih]
      by_cases h' : k' = k
      · simp [h, h']
      · have : a ≠ k' := fun e => h' (e ▸ h)
        simp [h', this]
    · rw [if_neg h, valueAt_cons, ih]
      by_cases h' : k' = k
      · have : a ≠ k' := fun e => h (e.trans h')
        simp [h', this, h]
      · simp [h']
theorem valueAt_snoc {k k' : Str} {x : Value} {l : List (Str × Value)} : valueAt (l ++ [(k, x)]) k' = (valueAt l k').or (if k = k' then some x else none) := by
  induction l with
  | nil => rw [List.nil_append, valueAt_cons]; simp [valueAt]
  | cons p l ih =>
    obtain ⟨a, v⟩ := p
    rw [List.cons_append, valueAt_cons, valueAt_cons, ih]
    by_cases h : a = k'
    · simp [h]
    · simp [h]
theorem any_valueAt {k : Str} {l : List (Str × Value)} (h : l.any (fun kv => kv.1 = k) = true) : ∃ v, valueAt l k = some v := by
  induction l with
  | nil => simp at h
  | cons p l ih =>
    obtain ⟨a, v⟩ := p
    rw [valueAt_cons]
    by_cases e : a = k
    · exact ⟨v, by rw [if_pos e]⟩
    · rw [if_neg e]
      refine ih ?_
      simpa [e] using h
theorem none_valueAt {k : Str} {l : List (Str × Value)} (h : ¬ l.any (fun kv => kv.1 = k) = true) : valueAt l k = none := by
  induction l with
  | nil => rfl
  | cons p l ih =>
    obtain ⟨a, v⟩ := p
    rw [valueAt_cons]
    by_cases e : a = k
    · exact absurd (by simp [e]) h
    · rw [if_neg e]
      refine ih fun h' => h ?_
      rw [List.any_cons, h', Bool.or_true]
theorem valueAt_stored_self {kvs : List (Str × Value)} {k : Str} {x : Value} : valueAt (stored kvs k x) k = some x := by
  unfold stored
  split
  · rename_i h
    obtain ⟨v, hv⟩ := any_valueAt h
    rw [valueAt_map, if_pos rfl, hv]; rfl
  · rename_i h
    rw [valueAt_snoc, none_valueAt h, if_pos rfl]; rfl
theorem valueAt_stored_ne {kvs : List (Str × Value)} {k k' : Str} {x : Value} (h : k' ≠ k) : valueAt (stored kvs k x) k' = valueAt kvs k' := by
  unfold stored
  split
  · rw [valueAt_map, if_neg h]
  · rw [valueAt_snoc, if_neg (Ne.symm h)]; simp

section
variable {prog : Program} {w : World} {A : Around} {E : Value → Shared → Prop} {s : Shared} {env : Env} {test : Expr} {body : List Stmt} {Q : Flow → Shared → Prop} {pos : Pos}
def WEnd (I : Nat → Shared → Prop) (n : Nat) (Q : Flow → Shared → Prop) (f : Flow) (s : Shared) : Prop :=
  match f with
  | .ret v => Q (.ret v) s
  | .brk => Q .next s
  | _ => ∃ m, m < n ∧ I m s
theorem While_hold (I : Nat → Shared → Prop) (n : Nat) (h0 : I n s)
    (turn : ∀ n s, I n s → ∀ (T : Flow → Shared → Prop) (D : Shared → Prop), (∀ m s, m < n → I m s → T .next s) → (∀ v s, Q (.ret v) s → T (.ret v) s) → (∀ s, Q .next s → D s) → wpAny (model prog w) A (isTrue test env (eval test env)) (fun b s₂ => Hold ((b = true → wpAny (model prog w) A (execs body env) T (fun _ _ => False) s₂) ∧ (b = false → D s₂))) (fun _ _ => False) s) :
    wpAny (model prog w) A (exec (.While test body [] pos) env) Q E s := by
  refine wpAny_While (codeAny_whileLoop I (fun n s hI => ?_) n h0)
  refine wpAny_mono (turn n s hI (WEnd I n Q) (Q .next) (fun m s h i => ⟨m, h, i⟩) (fun _ _ h => h) (fun _ h => h)) (fun b s₂ h₂ => ?_) (fun _ _ x => x.elim)
  cases b with
  | true =>
    rw [if_pos rfl]
    refine wpAny_mono (h₂.1 rfl) (fun f s₃ h₃ => ?_) (fun _ _ x => x.elim)
    cases f <;> exact h₃
  | false =>
    rw [if_neg (by decide)]
    exact wpAny_pure (h₂.2 rfl)
end
end Mine

end
/- C2a -/
section
open PySem PySem.W PyProof.Rows PySem.Calls PySem.Spec Builtin
set_option maxHeartbeats 1000000
namespace Mine
theorem unhold {p : Prop} (h : Hold p) : p := h
theorem up {h₀ h : Heap} {L : Addr} {x : Addr × Obj} {l : List (Addr × Obj)} (N : News h₀ L h l) (hx : x ∈ l) : News h₀ L h (x :: l) := fun p hp => by
  rcases List.mem_cons.mp hp with rfl | hp
  · exact N _ hx
  · exact N _ hp
theorem sub {h₀ h : Heap} {L : Addr} {l l' : List (Addr × Obj)} (N : News h₀ L h l) (hx : ∀ p ∈ l', p ∈ l) : News h₀ L h l' := fun p hp => N p (hx p hp)

def Known (w : World) (X : List (Addr × Obj)) (kvs : List (Str × Value)) (ks : List (List Wd)) : Prop := ∀ g ∈ ks, BookHas w X kvs g
theorem Known.add {w : World} {X : List (Addr × Obj)} {kvs : List (Str × Value)} {ks : List (List Wd)} {W g : List Wd} {v : Value} (hW : Proper W) (hk : Known w X kvs ks) (ok : ∀ g ∈ ks, OkB W g) (og : OkB W g) (he : EntryAt w X v g) : Known w X (stored kvs (blk g) v) (g :: ks) := by
  intro g' hg'
  by_cases e : g' = g
  · subst e; exact ⟨v, valueAt_stored_self, he⟩
  · rcases List.mem_cons.mp hg' with rfl | hg'
    · exact absurd rfl e
    · obtain ⟨v', h1, h2⟩ := hk g' hg'
      exact ⟨v', by rw [valueAt_stored_ne fun e' => e (blk_inj hW (ok g' hg') og e')]; exact h1, h2⟩
theorem Known.mono {w : World} {X X' : List (Addr × Obj)} {kvs : List (Str × Value)} {ks : List (List Wd)} (hk : Known w X kvs ks) (s : ∀ p ∈ X, p ∈ X') : Known w X' kvs ks := fun g hg => (hk g hg).mono s
theorem stored_length {kvs : List (Str × Value)} {k : Str} {x : Value} : (stored kvs k x).length ≤ kvs.length + 1 := by
  unfold stored
  split
  · rw [List.length_map]; omega
  · rw [List.length_append]; simp
structure Pile (w : World) (W : List Wd) (X : List (Addr × Obj)) (its : Array Value) (kvs : List (Str × Value)) (segs ks : List (List Wd)) : Prop where
  its : Al (IsPiece X) its.toList segs
  good : ∀ g ∈ segs, OkB W g ∧ Good g
  falls : Falls segs
  known : Known w X kvs ks
  okk : ∀ g ∈ ks, OkB W g
  sub : ∀ g ∈ segs, g ∈ ks
theorem Pile.mono {w : World} {W : List Wd} {X X' : List (Addr × Obj)} {its : Array Value} {kvs : List (Str × Value)} {segs ks : List (List Wd)} (h : Pile w W X its kvs segs ks) (s : ∀ p ∈ X, p ∈ X') : Pile w W X' its kvs segs ks :=
  { h with its := h.its.mono fun _ _ x => x.mono s, known := h.known.mono s }
theorem Pile.add {w : World} {W g : List Wd} {X : List (Addr × Obj)} {its : Array Value} {kvs : List (Str × Value)} {segs ks : List (List Wd)} {v : Value} (hW : Proper W) (h : Pile w W X its kvs segs ks) (og : OkB W g) (he : EntryAt w X v g) : Pile w W X its (stored kvs (blk g) v) segs (g :: ks) :=
  { h with known := h.known.add hW h.okk og he, okk := fun g' hg' => by rcases List.mem_cons.mp hg' with rfl | hg'; exact og; exact h.okk _ hg', sub := fun g' hg' => .tail _ (h.sub g' hg') }
theorem Pile.pop {w : World} {W t : List Wd} {X : List (Addr × Obj)} {its : Array Value} {kvs : List (Str × Value)} {segs ks : List (List Wd)} (h : Pile w W X its kvs (segs ++ [t]) ks) : ∃ ys x, its = ys.push x ∧ IsPiece X x t ∧ Pile w W X ys kvs segs ks := by
  obtain ⟨a', x, e, h1, h2⟩ := h.its.unsnoc
  refine ⟨a'.toArray, x, Array.ext' (by simpa using e), h2, { h with its := h1, good := fun g hg => h.good g (List.mem_append_left _ hg), falls := falls_init h.falls, sub := fun g hg => h.sub g (List.mem_append_left _ hg) }⟩
theorem Pile.push {w : World} {W t : List Wd} {X : List (Addr × Obj)} {its : Array Value} {kvs : List (Str × Value)} {segs ks : List (List Wd)} {x : Value} (h : Pile w W X its kvs segs ks) (hx : IsPiece X x t) (ot : OkB W t) (gt : Good t) (ht : t ∈ ks) (hf : Falls (segs ++ [t])) : Pile w W X (its.push x) kvs (segs ++ [t]) ks :=
  { h with
    its := by rw [Array.toList_push]; exact h.its.snoc hx
    good := fun g hg => by rcases List.mem_append.mp hg with hg | hg; exact h.good g hg; rw [List.mem_singleton.mp hg]; exact ⟨ot, gt⟩
    falls := hf
    sub := fun g hg => by rcases List.mem_append.mp hg with hg | hg; exact h.sub g hg; rw [List.mem_singleton.mp hg]; exact ht }
theorem mark_ne {W t : List Wd} (hW : Proper W) (ot : OkB W t) : mark t ≠ Str.ofString "" := by
  obtain ⟨hn, h⟩ := ot
  cases t with
  | nil => exact absurd rfl hn
  | cons x r => exact white_ne (hW.pl x (h x (.head _)))

section
variable {prog : Program} {w : World} {A : Around} {E : Value → Shared → Prop} {s : Shared} {h₀ : Heap} {L d : Addr} {od : Obj} {kvs : List (Str × Value)} {m : Str → Option Value} {news : List (Addr × Obj)}
theorem dict_set' {k : Str} {t : Tok} {x : Value} {Q : Unit → Shared → Prop} (F : Fr h₀ L s.heap m) (N : News h₀ L s.heap news) (hm : (d, od) ∈ news) (hod : od.IsDictOf (strKind prog w) kvs) (hsz : kvs.length ≤ sizeLine)
    (h : ∀ h' od', Fr h₀ L h' m → (∀ rest, (∀ p ∈ rest, p ∈ news ∧ p.1 ≠ d) → News h₀ L h' ((d, od') :: rest)) → od'.IsDictOf (strKind prog w) (stored kvs k x) → Q () { s with heap := h', toks := s.toks + 1 }) :
    wpAny (model prog w) A (setItem (.ref d) (.str k t) x) Q E s := by
  have z := N (d, od) hm
  refine wpAny_setItem_pairs (hsz := hsz) (strKind_is prog w k t) (Heap.dictOf_iff.mpr ⟨od, z.1, hod⟩) fun h' hd' hs' => ?_
  obtain ⟨od', ho', hod'⟩ := Heap.dictOf_iff.mp hd'
  refine h h' od' (F.change hs' z.2.1 z.2.2) (fun rest hr p hp => ?_) hod'
  rcases List.mem_cons.mp hp with rfl | hp
  · exact ⟨ho', z.2⟩
  · obtain ⟨h1, h2⟩ := hr p hp
    exact ⟨(hs'.2 _ h2).trans (N p h1).1, (N p h1).2⟩
end
theorem allLt_up {a : Nat} {l l' : List (Addr × Obj)} (h : AllLt a l) (s : ∀ p ∈ l', p ∈ l) : AllLt a l' := allLt_of fun p hp => lt_of_all h p (s p hp)
def tmk : Option (List Wd) → Str
  | none => Str.ofString ""
  | some t => mark t
def ttx : Option (List Wd) → Str
  | none => Str.ofString ""
  | some t => blk t
theorem SpecM.weaken {w : World} {D U : Nat} {f : Value} {vs : List Value} {P : Addr} {oP : Obj} {pre pre' : List (Addr × Obj)} {Post Post' : Value → Obj → List (Addr × Obj) → Prop} (S : SpecM w D U f vs P oP pre Post) (hs : ∀ q ∈ pre, q ∈ pre') (hP : ∀ v o post, Post v o post → Post' v o post) : SpecM w D U f vs P oP pre' Post' := by
  intro p loose mean mg mb gd A₀ cn cs a ccd cl outer base h₀ L m s Q E R hk B F X N T hnp ret
  refine S p loose mean mg mb gd A₀ cn cs a ccd cl outer base h₀ L m s Q E (pre' ++ R) hk B F X (fun q hq => N q ?_) T (fun q hq => ?_) (fun v oP' post h' tk hp hl F' N' => ret v oP' post h' tk (hP _ _ _ hp) (fun x hx => allLt_up (hl x hx) fun q hq => ?_) F' fun q hq => N' q ?_)
  · simp only [List.mem_cons, List.mem_append] at hq ⊢
    rcases hq with hq | hq | hq
    · exact .inl hq
    · exact .inr (.inl (hs q hq))
    · exact .inr hq
  · simp only [List.mem_append] at hq
    refine hnp q (List.mem_append.mpr ?_)
    rcases hq with hq | hq
    · exact .inl (hs q hq)
    · exact hq
  · simp only [List.mem_cons, List.mem_append] at hq ⊢
    rcases hq with hq | hq
    · exact .inl hq
    · exact .inr (.inr hq)
  · simp only [List.mem_cons, List.mem_append] at hq ⊢
    rcases hq with hq | hq | hq
    · exact .inl hq
    · exact .inr (.inl hq)
    · exact .inr (.inr (.inr hq))
inductive PopPost (w : World) (W : List Wd) (X : List (Addr × Obj)) (kvs : List (Str × Value)) (segs ks : List (List Wd)) (D : Addr) (v : Value) (oP' : Obj) (post : List (Addr × Obj)) : Prop
  | mk (T : Addr) (t1 t2 : Tok) (ys : Array Value) (n' : Nat) (segs' : List (List Wd)) (tl : Option (List Wd)) (h : v = .ref T) (ho : oP' = accO D ys n') (hm : (T, tupO [.str (tmk tl) t1, .str (ttx tl) t2]) ∈ post ++ X) (hs : segs = segs' ++ tl.toList) (hp : Pile w W X ys kvs segs' ks) (hn : tl = none → segs' = []) : PopPost w W X kvs segs ks D v oP' post
theorem pop_specU {w : World} {W : List Wd} {X : List (Addr × Obj)} {kvs : List (Str × Value)} {segs ks : List (List Wd)} {P D : Addr} {n : Nat} {its : Array Value} {hs head : Int} {tk th : Tok} (hp : Pile w W X its kvs segs ks) (hsz : segs.length ≤ 1000) :
    SpecM w 880 2400 (.ref 61) [.ref P] P (accO D its n) ((D, accD hs tk head th) :: X) (PopPost w W X kvs segs ks D) := by
  rcases List.eq_nil_or_concat segs with rfl | ⟨segs', t, rfl⟩
  · have : its = #[] := by
      have := hp.its.1
      simpa using this
    subst this
    refine SpecM.weaken pop_spec0 (fun q hq => by rw [List.mem_singleton.mp hq]; exact .head _) ?_
    rintro v o post ⟨rfl, T, t1, t2, rfl, rfl⟩
    exact ⟨T, t1, t2, #[], _, [], none, rfl, rfl, by simp [tmk, ttx], rfl, hp, fun _ => rfl⟩
  · rw [List.concat_eq_append] at hp ⊢
    obtain ⟨ys, x, e, ⟨T, t1, t2, rfl, hT⟩, hp'⟩ := hp.pop
    refine SpecM.weaken (pop_spec1 e ?_) (fun q hq => by rw [List.mem_singleton.mp hq]; exact .head _) ?_
    · have := hp'.its.1
      simp at this hsz
      omega
    rintro v o post ⟨rfl, rfl, rfl⟩
    exact ⟨T, t1, t2, ys, _, segs', some t, rfl, rfl, hT, rfl, hp', fun h => nomatch h⟩
structure WSt (w : World) (W ws : List Wd) (known : List (List Wd)) (i N0 : Nat) (X : List (Addr × Obj)) (its : Array Value) (kvs : List (Str × Value)) (segs ks : List (List Wd)) (tl : Option (List Wd)) (b : List Wd) (n : Nat) : Prop where
  pile : Pile w W X its kvs segs ks
  flat : (segs ++ tl.toList ++ [b]).flatten = ws.take (i + 1)
  sing : ∀ x ∈ ws.take (i + 1), [x] ∈ ks
  kn : ∀ g ∈ known, g ∈ ks
  ok : ∀ g ∈ tl.toList ++ [b], OkB W g ∧ Good g ∧ g ∈ ks
  none : tl = none → segs = []
  falls : Falls (segs ++ tl.toList)
  cnt : kvs.length + segs.length + tl.toList.length ≤ N0 + 2 * i + 1
  n : n = segs.length + tl.toList.length
section
variable {w : World} {W ws : List Wd} {known : List (List Wd)} {i N0 : Nat} {X X' : List (Addr × Obj)} {its its' : Array Value} {kvs : List (Str × Value)} {segs segs' ks : List (List Wd)} {tl tl' : Option (List Wd)} {t b : List Wd} {n : Nat}
theorem WSt.mono (h : WSt w W ws known i N0 X its kvs segs ks tl b n) (s : ∀ p ∈ X, p ∈ X') : WSt w W ws known i N0 X' its kvs segs ks tl b n := { h with pile := h.pile.mono s }
theorem okb_append (h : OkB W t) (h' : OkB W b) : OkB W (t ++ b) := ⟨fun e => h.1 (List.append_eq_nil_iff.mp e).1, fun x hx => by rcases List.mem_append.mp hx with hx | hx; exact h.2 x hx; exact h'.2 x hx⟩
theorem okb_pos (hW : Proper W) (h : OkB W t) : ∀ x ∈ t, 0 < x.sg := fun x hx => by have := hW.sgp (h.2 x hx); omega
theorem WSt.join {v : Value} (hW : Proper W) (h : WSt w W ws known i N0 X its kvs segs ks (some t) b n) (c : prs t * sgs b < prs b * sgs t) (he : segs = segs' ++ tl'.toList) (hp : Pile w W X its' (stored kvs (blk (t ++ b)) v) segs' ((t ++ b) :: ks)) (hn : tl' = Option.none → segs' = []) :
    WSt w W ws known i N0 X its' (stored kvs (blk (t ++ b)) v) segs' ((t ++ b) :: ks) tl' (t ++ b) (segs'.length + tl'.toList.length) ∧ segs'.length + tl'.toList.length < n := by
  subst he
  have ht := h.ok t (by simp)
  have hb := h.ok b (by simp)
  have l1 := @stored_length kvs (blk (t ++ b)) v
  have l2 := h.cnt
  have l3 := h.n
  simp only [List.length_append, Option.toList_some, List.length_singleton] at l2 l3
  refine ⟨{ pile := hp, flat := ?_, sing := fun x hx => .tail _ (h.sing x hx), kn := fun g hg => .tail _ (h.kn g hg), ok := ?_, none := hn, falls := ?_, cnt := by omega, n := rfl }, by omega⟩
  · have := h.flat
    simp only [List.flatten_append, Option.toList_some, List.flatten_cons, List.flatten_nil, List.append_nil, List.append_assoc] at this ⊢
    exact this
  · intro g hg
    rcases List.mem_append.mp hg with hg | hg
    · have hs := h.pile.good g (List.mem_append_right _ hg)
      exact ⟨hs.1, hs.2, .tail _ (h.pile.sub g (List.mem_append_right _ hg))⟩
    · rw [List.mem_singleton.mp hg]
      exact ⟨okb_append ht.1 hb.1, good_merge ht.2.1 hb.2.1 (okb_pos hW ht.1) (okb_pos hW hb.1) ht.1.1 hb.1.1 c, .head _⟩
  · exact falls_init h.falls
/-- what the pile is behind a word -/
theorem WSt.push0 (h : WSt w W ws known i N0 X its kvs segs ks Option.none b n) {x : Value} (hx : IsPiece X x b) : Pile w W X (its.push x) kvs [b] ks ∧ [b].flatten = ws.take (i + 1) ∧ kvs.length + 1 ≤ N0 + 2 * (i + 1) := by
  have e := h.none rfl
  subst e
  have hb := h.ok b (by simp)
  have l2 := h.cnt
  simp at l2
  exact ⟨h.pile.push hx hb.1 hb.2.1 hb.2.2 (falls_one b), h.flat, by omega⟩
theorem WSt.push1 (h : WSt w W ws known i N0 X its kvs segs ks (some t) b n) (c : ¬ prs b * sgs t > prs t * sgs b) {x y : Value} (hx : IsPiece X x t) (hy : IsPiece X y b) : Pile w W X ((its.push x).push y) kvs (segs ++ [t] ++ [b]) ks ∧ (segs ++ [t] ++ [b]).flatten = ws.take (i + 1) ∧ kvs.length + (segs ++ [t] ++ [b]).length ≤ N0 + 2 * (i + 1) := by
  have ht := h.ok t (by simp)
  have hb := h.ok b (by simp)
  have l2 := h.cnt
  simp at l2
  exact ⟨(h.pile.push hx ht.1 ht.2.1 ht.2.2 h.falls).push hy hb.1 hb.2.1 hb.2.2 (falls_snoc h.falls (by omega)), h.flat, by simp; omega⟩
end
theorem entry_join {w : World} {W t b ws : List Wd} {X : List (Addr × Obj)} (hW : Proper W) {e dn : Addr} {on : Obj} {k1 k2 : List (Str × Value)} {v1 v2 v3 v4 : Tok} (h1 : IntKvs k1 (t.map fun x => (x.tx, x.pr))) (h2 : IntKvs k2 (b.map fun x => (x.tx, x.pr)))
    (he : (e, tupO [.int ((t.length : Int) + b.length) v1, .int (sgs t + sgs b) v2, .int (prs t + prs b) v3, .int (pls t + pls b) v4, .ref dn]) ∈ X) (hd : (dn, on) ∈ X) (hon : on.IsDictOf (strKind PW w) (k1 ++ k2)) (hdn : (dn == sysModules) = false) : EntryAt w X (.ref e) (t ++ b) := by
  refine ⟨e, dn, v1, v2, v3, v4, on, k1 ++ k2, rfl, ?_, hd, hon, ?_, hdn⟩
  · rw [sgs_append, prs_append, pls_append, List.length_append]; exact he
  · rw [List.map_append]; exact h1.append h2
theorem kvs_nodup {k1 k2 : List (Str × Value)} {t b W ws pfx : List Wd} (hW : Proper W) (hnd : ws.Nodup) (hws : ∀ x ∈ ws, x ∈ W) {n : Nat} (hf : pfx ++ (t ++ b) = ws.take n) (h1 : IntKvs k1 (t.map fun x => (x.tx, x.pr))) (h2 : IntKvs k2 (b.map fun x => (x.tx, x.pr))) :
    ((k1 ++ k2).map (·.1)).Nodup ∧ (k1 ++ k2).length ≤ ws.length := by
  have hsub : (t ++ b).Sublist ws := ((List.sublist_append_right pfx (t ++ b)).trans (by rw [hf]; exact List.Sublist.refl _)).trans (List.take_sublist _ _)
  constructor
  · rw [List.map_append, h1.keys, h2.keys, ← List.map_append, ← List.map_append, List.map_map]
    have nd := hnd.sublist hsub
    have hin : ∀ x ∈ t ++ b, x ∈ W := fun x hx => hws x (hsub.subset hx)
    clear hf h1 h2 hsub
    generalize t ++ b = l at *
    induction l with
    | nil => exact List.nodup_nil
    | cons x r ih =>
      rw [List.map_cons]
      obtain ⟨n1, n2⟩ := List.nodup_cons.mp nd
      refine List.nodup_cons.mpr ⟨fun hm => ?_, ih n2 fun y hy => hin y (.tail _ hy)⟩
      obtain ⟨y, hy, e⟩ := List.mem_map.mp hm
      have := hW.tx (hin y (.tail _ hy)) (hin x (.head _)) e
      exact n1 (this ▸ hy)
  · rw [List.length_append, h1.length, h2.length, ← List.length_append, ← List.map_append, List.length_map]
    exact hsub.length_le
theorem sgs_bound {W g : List Wd} (hW : Proper W) (ok : OkB W g) (hl : g.length ≤ 100) : 0 < sgs g ∧ sgs g ≤ 1000 := by
  refine ⟨sgs_pos (okb_pos hW ok) ok.1, ?_⟩
  have : sgs g ≤ 5 * g.length := by
    have h := ok.2
    clear hl
    induction g with
    | nil => simp [sgs]
    | cons x r ih =>
      have := (hW.sgp (h x (.head _))).2
      have ih' : sgs r ≤ 5 * r.length := by
        cases r with
        | nil => simp [sgs]
        | cons y q => exact ih ⟨by simp, fun z hz => ok.2 z (.tail _ hz)⟩ fun z hz => h z (.tail _ hz)
      rw [sgs_cons, List.length_cons]; omega
  omega
theorem slen_append (a b : Str) : (a ++ b).length = a.length + b.length := by rw [← cl_length, cl_append, List.length_append, cl_length, cl_length]
theorem white_len {n : Nat} (h : n < 7) : (white n).length = 1 := by
  obtain ⟨c, hc, _⟩ := white_cl h
  rw [← cl_length, hc]; rfl
theorem tails_len {W g : List Wd} (hW : Proper W) (h : ∀ x ∈ g, x ∈ W) : ((tails g).length : Int) = sgs g := by
  induction g with
  | nil => rfl
  | cons x r ih =>
    have hx := h x (.head _)
    have := hW.sg x hx
    rw [tails, slen_append, slen_append, white_len (hW.pl x hx), sgs_cons, ← ih fun y hy => h y (.tail _ hy)]
    omega
theorem blk_len {W g : List Wd} (hW : Proper W) (h : OkB W g) : ((blk g).length : Int) + 1 = sgs g := by
  obtain ⟨hn, h⟩ := h
  cases g with
  | nil => exact absurd rfl hn
  | cons x r =>
    have := hW.sg x (h x (.head _))
    rw [blk, slen_append, sgs_cons, ← tails_len hW fun y hy => h y (.tail _ hy)]
    omega
theorem mark_len {W g : List Wd} (hW : Proper W) (h : OkB W g) : (mark g).length = 1 := by
  obtain ⟨hn, h⟩ := h
  cases g with
  | nil => exact absurd rfl hn
  | cons x r => exact white_len (hW.pl x (h x (.head _)))
theorem verd_lt {x y : Int} (h : verd x y 0 0 < 0) : y < x := by
  unfold verd at h
  split at h
  · omega
  · split at h
    · omega
    · simp at h
theorem verd_ge {x y : Int} (h : ¬ verd x y 0 0 < 0) : ¬ x > y := by
  intro c
  apply h
  unfold verd
  rw [if_neg (by omega), if_pos c]
  omega
section
variable {α : Type} {a : α} {l l' l1 l2 : List α}
theorem mr : ∀ q ∈ l, q ∈ l := fun _ h => h
theorem mn : ∀ q ∈ ([] : List α), q ∈ l := fun _ h => nomatch h
theorem mc (h : a ∈ l') (t : ∀ q ∈ l, q ∈ l') : ∀ q ∈ a :: l, q ∈ l' := fun q hq => by
  rcases List.mem_cons.mp hq with rfl | hq
  · exact h
  · exact t q hq
theorem ma (h : ∀ q ∈ l1, q ∈ l') (t : ∀ q ∈ l2, q ∈ l') : ∀ q ∈ l1 ++ l2, q ∈ l' := fun q hq => (List.mem_append.mp hq).elim (h q) (t q)
theorem md (t : ∀ q ∈ l, q ∈ l') : ∀ q ∈ l, q ∈ a :: l' := fun q hq => .tail _ (t q hq)
theorem mdl (t : ∀ q ∈ l, q ∈ l1) : ∀ q ∈ l, q ∈ l1 ++ l2 := fun q hq => List.mem_append_left _ (t q hq)
theorem mdr (t : ∀ q ∈ l, q ∈ l2) : ∀ q ∈ l, q ∈ l1 ++ l2 := fun q hq => List.mem_append_right _ (t q hq)
theorem mml (t : a ∈ l1) : a ∈ l1 ++ l2 := List.mem_append_left _ t
theorem mmr (t : a ∈ l2) : a ∈ l1 ++ l2 := List.mem_append_right _ t
end
theorem strOk_iff {x : Str} : PyData.strOk x = true ↔ ∀ c ∈ cl x, c < 1114112 := by
  unfold PyData.strOk cl
  rw [Array.all_eq_true']
  simp
theorem strOk_append {x y : Str} (h : PyData.strOk x = true) (h' : PyData.strOk y = true) : PyData.strOk (x ++ y) = true := strOk_iff.mpr fun c hc => by
  rw [cl_append] at hc
  rcases List.mem_append.mp hc with hc | hc
  · exact strOk_iff.mp h c hc
  · exact strOk_iff.mp h' c hc
theorem strOk_white {n : Nat} (h : n < 7) : PyData.strOk (white n) = true := strOk_iff.mpr fun c hc => by
  obtain ⟨d, hd, hw⟩ := white_cl h
  rw [hd] at hc
  rw [List.mem_singleton.mp hc]
  rcases hw with rfl | rfl <;> omega
theorem strOk_tx {W : List Wd} {x : Wd} (hW : Proper W) (hx : x ∈ W) : PyData.strOk x.tx = true := strOk_iff.mpr fun c hc => by
  have := hW.ch x hx c hc
  have := hW.pl x hx
  omega
theorem strOk_tails {W g : List Wd} (hW : Proper W) (h : ∀ x ∈ g, x ∈ W) : PyData.strOk (tails g) = true := by
  induction g with
  | nil => exact strOk_iff.mpr (fun c hc => nomatch hc)
  | cons x r ih => exact strOk_append (strOk_append (strOk_white (hW.pl x (h x (.head _)))) (strOk_tx hW (h x (.head _)))) (ih fun y hy => h y (.tail _ hy))
theorem strOk_blk {W g : List Wd} (hW : Proper W) (h : OkB W g) : PyData.strOk (blk g) = true := by
  obtain ⟨hn, h⟩ := h
  cases g with
  | nil => exact absurd rfl hn
  | cons x r => exact strOk_append (strOk_tx hW (h x (.head _))) (strOk_tails hW fun y hy => h y (.tail _ hy))
theorem strOk_mark {W g : List Wd} (hW : Proper W) (h : OkB W g) : PyData.strOk (mark g) = true := by
  obtain ⟨hn, h⟩ := h
  cases g with
  | nil => exact absurd rfl hn
  | cons x r => exact strOk_white (hW.pl x (h x (.head _)))
theorem ne_tup2 {prog : Program} {w : World} {A : Around} {E : Value → Shared → Prop} {s : Shared} {h₀ : Heap} {L D1 D2 : Addr} {news : List (Addr × Obj)} {x y x' y' : Str} {t u t' u' : Tok} {Q : Value → Shared → Prop} (N : News h₀ L s.heap news)
    (h1 : (D1, ({ cls := .type "tuple", data := .seq #[.str x t, .str y u] } : Obj)) ∈ news) (h2 : (D2, ({ cls := .type "tuple", data := .seq #[.str x' t', .str y' u'] } : Obj)) ∈ news) (hne : x ≠ x') (k1 : PyData.strOk x = true) (k2 : PyData.strOk y = true) (k3 : PyData.strOk x' = true) (k4 : PyData.strOk y' = true) (hu : A.units + 64 < cLine) (h : Q (.bool true) s) : wpAny (model prog w) A (compareOp .NotEq (.ref D1) (.ref D2)) Q E s := by
  have lay : ∀ a b : Str, PyData.strOk a = true → PyData.strOk b = true → SeqAt.shaped (.tuple [.str a, .str b]) = true := fun a b ha hb => by
    simp [SeqAt.shaped, PyData.canLay0, PyData.canLayAll0, ha, hb, PyData.depth, PyData.depthAll]
  refine SeqAt.compareNe_shaped (da := .tuple [.str x, .str y]) (db := .tuple [.str x', .str y']) (reads_tuple_at (N _ h1).1 rfl rfl (.cons (.str _ _) (.cons (.str _ _) .nil))) (reads_tuple_at (N _ h2).1 rfl rfl (.cons (.str _ _) (.cons (.str _ _) .nil))) (lay _ _ k1 k2) (lay _ _ k3 k4) hu ?_
  have : PyData.eqv (.tuple [.str x, .str y]) (.tuple [.str x', .str y']) = false := by
    simp [PyData.eqv, PyData.eqvAll, hne]
  rw [this]; exact h
end Mine

end
local macro_rules | `(tactic| walk_at "Mine.mem") => `(tactic| first | exact List.Mem.head _ | (refine List.Mem.tail _ ?_; walk_at "Mine.mem") | (with_reducible assumption) | (refine Mine.mml ?_; walk_at "Mine.mem") | (refine Mine.mmr ?_; walk_at "Mine.mem"))
local macro_rules | `(tactic| walk_at "Mine.in") => `(tactic| first | (with_reducible exact Mine.mr) | ((with_reducible refine Mine.md ?_); walk_at "Mine.in") | ((with_reducible refine Mine.mdl ?_); walk_at "Mine.in") | ((with_reducible refine Mine.mdr ?_); walk_at "Mine.in"))
local macro_rules | `(tactic| walk_at "Mine.sub") => `(tactic| first | (with_reducible exact Mine.mr) | (with_reducible exact Mine.mn) | ((with_reducible refine Mine.mc ?_ ?_); (walk_at "Mine.mem"); (walk_at "Mine.sub")) | (walk_at "Mine.in") | ((with_reducible refine Mine.ma ?_ ?_); (walk_at "Mine.sub"); (walk_at "Mine.sub")))
/- C4a -/
section
open PySem PySem.W PyProof.Rows PySem.Calls PySem.Spec Builtin
set_option maxHeartbeats 1000000
namespace Mine
section
variable {prog : Program} {w : World} {A : Around} {E : Value → Shared → Prop} {s : Shared} {env : Env} {h₀ : Heap} {target : Expr} {body : List Stmt} {m : Str → Option Value} {news : List (Addr × Obj)} {Q : Flow → Shared → Prop}
theorem for_rangeG {r : Addr} {a b : Int} {n : Nat} {t u v : Tok} (I : Nat → Array GenState → (Str → Option Value) → List (Addr × Obj) → Prop) (hh : A.handled = none) (hr : IsRange s.heap r a b 1 t u v) (hsm : Builtin.Range.small a b 1 = true) (hn : Builtin.Range.rangeSize a b 1 = ((n : Nat) : Int))
    (ht : ∀ it v, letOwnedTupleGo target it v = pure ()) (F : Fr h₀ env.locals s.heap m) (N : News h₀ env.locals s.heap news) (h0 : I 0 s.gens m news)
    (turn : ∀ i g m₁ news₁ it oi h tk tt, i < n → I i g m₁ news₁ → Fr h₀ env.locals h m₁ → News h₀ env.locals h ((it, oi) :: news₁) → (∀ p ∈ news₁, p.1 ≠ it) → ∀ TT : Flow → Shared → Prop, (∀ h' tk' g' m₂ news₂, Fr h₀ env.locals h' m₂ → News h₀ env.locals h' ((it, oi) :: news₂) → (∀ p ∈ news₂, p.1 ≠ it) → I (i + 1) g' m₂ news₂ → TT .next { s with heap := h', toks := tk', gens := g' }) → (∀ v s₃, Q (.ret v) s₃ → TT (.ret v) s₃) →
      wpAny (model prog w) A (assign target env (.int (a + (i : Int)) tt)) (fun _ s₂ => wpAny (model prog w) A (execs body env) TT (fun _ _ => False) s₂) (fun _ _ => False) { s with heap := h, toks := tk, gens := g })
    (done : ∀ g m₁ news₁ h tk, I n g m₁ news₁ → Fr h₀ env.locals h m₁ → News h₀ env.locals h news₁ → Q .next { s with heap := h, toks := tk, gens := g }) :
    wpAny (model prog w) A (pyIter (.ref r)) (fun it s₂ => codeAny (model prog w) A (.forLoop target it body [] env) (fun r s' => match r with | .ok f => Q f s' | .error e => cameBackBy (model prog w) A env E e s') s₂) E s := by
  refine wpAny_pyIter_range hr hsm ?_
  have hnL : s.heap.objs.size ≠ env.locals := by have := F.ns.lt; exact Nat.ne_of_gt this
  have hn0 : h₀.get? s.heap.objs.size = none := next_is_new F
  have W := LCg.range_walks (prog := prog) (w := w) (I := s.heap.objs.size) hh a n
  refine forLoop_gen (GInv h₀ env.locals s n (fun h i => IsRangeIter h s.heap.objs.size (a + (i : Nat) * 1) ((n : Int) - (i : Nat)) 1) I) ?_ n ?_
  · rintro k s₁ ⟨i, g, h, tk, m₁, news₁, hit, rfl, hle, rfl, F₁, N₁, hne, hi₁⟩
    by_cases hlt : i < n
    · refine W.item i { s with heap := h, toks := tk, gens := g } _ _ hlt hit fun v h' tk' hv hit' hs' => ?_
      obtain ⟨tt, rfl⟩ := hv
      dsimp only
      refine wpAny_of_eq (ht _ _) ?_
      have hs2 : Heap.ExtBut s.heap.objs.size h h' := fun b o hb e => hs' b o (by simpa using hb) e
      have F₂ := fr_extBut F₁ hs2 hnL.symm hn0
      obtain ⟨oi, e2, e3⟩ : ∃ o, h'.get? s.heap.objs.size = some o ∧ ∀ h'' : Heap, h''.get? s.heap.objs.size = some o → IsRangeIter h'' s.heap.objs.size (a + ((i + 1 : Nat) : Int) * 1) ((n : Int) - ((i + 1 : Nat) : Int)) 1 := ⟨_, hit', fun _ e => e⟩
      have N₂ : News h₀ env.locals h' ((s.heap.objs.size, oi) :: news₁) := by
        intro p hp
        rcases List.mem_cons.mp hp with rfl | hp
        · exact ⟨e2, hnL, hn0⟩
        · exact news_extBut N₁ hs2 hne p hp
      refine wpAny_mono (turn i g m₁ news₁ _ oi h' tk' tt hlt hi₁ F₂ N₂ hne (TurnEnd h₀ env.locals s s.heap.objs.size oi (I (i + 1)) Q) (fun h4 tk4 g4 m4 news4 F4 N4 D4 I4 => ⟨h4, tk4, g4, m4, news4, rfl, F4, N4, D4, I4⟩) (fun _ _ h => h)) (fun _ s₂ h₂ => wpAny_mono h₂ (fun f s₃ h₃ => ?_) fun _ _ x => x.elim) fun _ _ x => x.elim
      cases f with
      | ret v => exact h₃
      | brk => exact h₃
      | next => exact GInv.go hlt (fun _ e => e3 _ e) h₃
      | cont => exact GInv.go hlt (fun _ e => e3 _ e) h₃
    · obtain rfl : i = n := by omega
      refine W.done { s with heap := h, toks := tk, gens := g } _ _ hit fun h' tk' hs' => ?_
      have hs2 : Heap.ExtBut s.heap.objs.size h h' := fun b o hb e => hs' b o (by simpa using hb) e
      exact wpAny_pure (done g m₁ news₁ h' tk' hi₁ (fr_extBut F₁ hs2 hnL.symm hn0) (news_extBut N₁ hs2 hne))
  · refine ⟨0, s.gens, _, s.toks, m, news, ?_, rfl, Nat.zero_le _, rfl, F.push _, drop1 (N.push F _), fun p hp => Nat.ne_of_lt (Heap.lt_size (N p hp).1), h0⟩
    show IsRangeIter _ _ _ _ _
    rw [hn]
    simpa using Heap.get?_push_size s.heap rfl
abbrev rangeO (a b : Int) (t u v : Tok) : Obj := { cls := .type "range", data := .fields #[.int a t, .int b u, .int 1 v] }
theorem range2_at {L : Addr} {a b : Int} {t u : Tok} {Q : Value → Shared → Prop} (F : Fr h₀ L s.heap m) (N : News h₀ L s.heap news)
    (h : ∀ r h' tk v, Fr h₀ L h' m → News h₀ L h' ((r, rangeO a b t u v) :: news) → (∀ p ∈ news, p.1 < r) → Q (.ref r) { s with heap := h', toks := tk }) : wpAny (model prog w) A (call (.type "range") [.int a t, .int b u]) Q E s :=
  call_range_2 (h _ _ _ _ (F.push _) (N.push F _) fun p hp => Heap.lt_size (N p hp).1)
theorem range1_at {L : Addr} {b : Int} {u : Tok} {Q : Value → Shared → Prop} (F : Fr h₀ L s.heap m) (N : News h₀ L s.heap news)
    (h : ∀ r h' tk t v, Fr h₀ L h' m → News h₀ L h' ((r, rangeO 0 b t u v) :: news) → (∀ p ∈ news, p.1 < r) → Q (.ref r) { s with heap := h', toks := tk }) : wpAny (model prog w) A (call (.type "range") [.int b u]) Q E s :=
  call_range_1 (h _ _ _ _ _ (F.push _) (N.push F _) fun p hp => Heap.lt_size (N p hp).1)
theorem len_at {L l : Addr} {xs : List Value} {n k : Nat} {Q : Value → Shared → Prop} (N : News h₀ L s.heap news) (hl : (l, listOf xs.toArray n) ∈ news) (hk : xs.length = k) (hz : k ≤ 100000) (h : Q (.int (k : Int) (s.toks + 1)) { s with toks := s.toks + 1 + 1 }) : wpAny (model prog w) A (call (.builtin "len") [.ref l]) Q E s := by
  subst hk
  refine PySem.Calls.call_len_list (News.isList N hl) (by rw [List.size_toArray]; omega) ?_
  rw [List.size_toArray]; exact h
theorem range_small {a b : Int} (h : 0 ≤ a ∧ a ≤ 1000 ∧ 0 ≤ b ∧ b ≤ 1000) : Builtin.Range.small a b 1 = true := by
  exact small_one (by omega) (by omega) (by omega) (by omega)
theorem range_size {a b : Int} {n : Nat} (h : b - a = n ∨ (b ≤ a ∧ n = 0)) : Builtin.Range.rangeSize a b 1 = ((n : Nat) : Int) := by
  unfold Builtin.Range.rangeSize
  simp
  omega
end
end Mine

end
/- C3 -/
section
open PySem PySem.W PyProof.Rows PySem.Calls PySem.Spec Builtin
set_option maxHeartbeats 1000000
namespace Mine
theorem verd01_lt {x y : Int} (h : verd x y 0 1 < 0) : y ≤ x := by
  unfold verd at h
  split at h
  · omega
  · omega
theorem verd01_ge {x y : Int} (h : ¬ verd x y 0 1 < 0) : x < y := by
  unfold verd at h
  split at h
  · assumption
  · split at h
    · omega
    · simp at h
/-- a block's text -/
def IsTx (v : Value) (g : List Wd) : Prop := ∃ t, v = .str (blk g) t
theorem reads_txs {W : List Wd} (hW : Proper W) {h : Heap} : ∀ {xs : List Value} {gs : List (List Wd)}, Al IsTx xs gs → (∀ g ∈ gs, OkB W g) → ∃ ds as, ReadsAll h xs ds as ∧ ds.length = xs.length ∧ PyData.canLayAll0 ds = true ∧ PyData.depthAll ds = 0
  | [], [], _, _ => ⟨[], _, .nil, rfl, rfl, rfl⟩
  | [], _ :: _, h, _ => absurd h.1 (by simp)
  | _ :: _, [], h, _ => absurd h.1 (by simp)
  | x :: xs, g :: gs, h, ok => by
    obtain ⟨t, rfl⟩ := h.head
    obtain ⟨ds, as, h1, h2, h3, h4⟩ := reads_txs hW (h := ‹Heap›) h.tail fun g hg => ok g (.tail _ hg)
    refine ⟨.str (blk g) :: ds, _, .cons (.str _ _) h1, by simp [h2], ?_, ?_⟩
    · simp only [PyData.canLayAll0, PyData.canLay0, h3, strOk_blk hW (ok g (.head _)), Bool.and_self]
    · simp only [PyData.depthAll, PyData.depth, h4]; rfl
section
variable {prog : Program} {w : World} {A : Around} {E : Value → Shared → Prop} {s : Shared} {h₀ : Heap} {L l e : Addr} {news : List (Addr × Obj)} {W : List Wd} {xs : List Value} {gs : List (List Wd)} {n k : Nat} {Q : Value → Shared → Prop}
theorem ne_nil_list (hW : Proper W) (N : News h₀ L s.heap news) (h1 : (l, listOf xs.toArray n) ∈ news) (h2 : (e, ({ cls := .type "list", data := .seq #[] k } : Obj)) ∈ news) (ht : Al IsTx xs gs) (ok : ∀ g ∈ gs, OkB W g) (hu : A.units + 64 < cLine) (h : Q (.bool (!xs.isEmpty)) s) :
    wpAny (model prog w) A (compareOp .NotEq (.ref l) (.ref e)) Q E s := by
  obtain ⟨ds, as, r1, r2, r3, r4⟩ := reads_txs hW (h := s.heap) ht ok
  refine SeqAt.compareNe_shaped (da := .list ds) (db := .list []) (reads_list_at (N _ h1).1 rfl rfl (by simpa using r1)) (reads_list_at (N _ h2).1 rfl rfl .nil) ?_ rfl hu ?_
  · simp [SeqAt.shaped, PyData.canLay0, r3, PyData.depth, r4]
  · have : PyData.eqv (.list ds) (.list []) = xs.isEmpty := by
      cases ds with
      | nil => cases xs with
        | nil => rfl
        | cons _ _ => simp at r2
      | cons _ _ => cases xs with
        | nil => simp at r2
        | cons _ _ => rfl
    rw [this]; exact h
end
theorem pick_upto {xs : List Value} (b : Nat) : (slicePick xs.toArray none (some (b : Int)) none).toList = xs.take b := by rw [slicePick_upto']
theorem pick_from {xs : List Value} (a : Nat) : (slicePick xs.toArray (some (a : Int)) none none).toList = xs.drop a := by rw [slicePick_from']
theorem lines_C3_1 : True := by
  k_with_none
  k_with "exec While BoolOp cons nil" => (k_dflt (refine unhold ?_))
  k_with "subscriptTail" => ((with_reducible show wpAny _ _ (subscriptTail _ _ (Value.ref _) (Value.str _ _)) _ _ _); k_dflt (apply dict_get; k_asm; k_mem; assumption; assumption; rotate_left; with_unfolding_all rfl))
  k_with "call ref" => ((with_reducible show wpAny _ _ (call (Value.ref 168) _) _ _ _); k_dflt (apply SpecR.use0 (verdict_spec ?_ ?_); rotate_left; k_asm; rotate_right; rotate_left 4; exact rfl; rotate_right 4; k_asm; k_asm; k_asm; k_asm; exact rfl; exact Nat.le_of_ble_eq_true rfl; exact Nat.le_of_ble_eq_true rfl; exact rfl; (refine' List.forall_mem_cons.mpr ⟨?_, List.forall_mem_cons.mpr ⟨?_, List.forall_mem_nil _⟩⟩ <;> k_mem); any_goals (refine pid ?_; assumption)); intro _ _ _ _ _; (try dsimp only))
  k_with "compareOp NotEq ref ref" => ((with_reducible show wpAny _ _ (compareOp CmpOp.NotEq (Value.ref _) (Value.ref _)) _ _ _); k_dflt (apply ne_nil_list; rotate_left; k_asm; k_mem; k_mem; rotate_right; assumption; assumption; assumption; ke_room); (try dsimp only [List.isEmpty_cons, List.isEmpty_nil, Bool.not_true, Bool.not_false]))
  k_with "subscriptTail" => ((with_reducible show wpAny _ _ (subscriptTail _ (PySem.Expr.Slice _ _ none _) (Value.ref _) (Value.ref _)) _ _ _); k_dflt (apply kmk_slice_lit; k_asm; k_asm; exact News.isList (by k_asm) (by k_mem); kmk_part; kmk_part; (first | exact pick_upto _ | exact pick_from _); rotate_left; with_unfolding_all rfl; kmk_pure; (rw [sizeLine_eq]; simp only [List.size_toArray, List.length_cons]; omega)); intro _ _ _ N' l1; (try k_lt l1); (try dsimp only [List.take_succ_cons, List.take_zero, List.drop_succ_cons, List.drop_zero] at N'); revert N' l1; intro _ _)
  k_with "binaryOp Add ref ref" => ((with_reducible show wpAny _ _ (binaryOp _ (Value.ref _) (Value.ref _)) _ _ _); k_dflt (apply kmk_add_lit; k_asm; k_asm; exact News.isList (by k_asm) (by k_mem); exact News.isList (by k_asm) (by k_mem); exact rfl; rotate_left; (rw [sizeLine_eq]; simp only [List.length_cons, List.length_append, List.length_nil]; omega)); intro _ _ _ N' l1; (try k_lt l1); (try dsimp only at N'); revert N' l1; intro _ _)
  exact trivial
/-- what holds ahead of a turn -/
inductive LiInv (W : List Wd) (us ls ks : List (List Wd)) (od : Obj) (d : Addr) (XR : List (Addr × Obj)) (g1 : Heap) (L1 : Addr) (s : Shared) (n : Nat) (s₁ : Shared) : Prop
  | mk (h : Heap) (tk : Tok) (m₂ : Str → Option Value) (A1 A2 A3 : Addr) (l1 l2 l3 : List Value) (n1 n2 n3 : Nat) (us2 ls2 ds2 : List (List Wd)) (e : s₁ = { s with heap := h, toks := tk }) (F : Fr g1 L1 h m₂) (N : News g1 L1 h ((A1, listOf (List.toArray l1) n1) :: (A2, listOf (List.toArray l2) n2) :: (A3, listOf (List.toArray l3) n3) :: (d, od) :: XR))
    (h1 : m₂ "line" = some (.ref A1)) (h2 : m₂ "upper" = some (.ref A2)) (h3 : m₂ "lower" = some (.ref A3)) (h4 : m₂ "book" = some (.ref d)) (h5 : Al IsTx l1 ds2) (h6 : Al IsTx l2 us2) (h7 : Al IsTx l3 ls2) (h8 : ∀ C, Merge us2 ls2 C → Merge us ls (ds2 ++ C))
    (h9 : ∀ g ∈ us2, OkB W g ∧ g ∈ ks ∧ g.length ≤ 10) (h10 : ∀ g ∈ ls2, OkB W g ∧ g ∈ ks ∧ g.length ≤ 10) (h11 : ds2.length + us2.length + ls2.length ≤ 20) (h12 : n = us2.length + ls2.length) : LiInv W us ls ks od d XR g1 L1 s n s₁
theorem line_spec {w : World} {W : List Wd} (hW : Proper W) {u l d : Addr} {lu ll : List Value} {us ls : List (List Wd)} {nu nl : Nat} {od : Obj} {kvs : List (Str × Value)} {ks : List (List Wd)} {X : List (Addr × Obj)} (hod : od.IsDictOf (strKind PW w) kvs) (hkn : Known w X kvs ks)
    (hu : Al IsTx lu us) (hl : Al IsTx ll ls) (oku : ∀ g ∈ us, OkB W g ∧ g ∈ ks ∧ g.length ≤ 10) (okl : ∀ g ∈ ls, OkB W g ∧ g ∈ ks ∧ g.length ≤ 10) (zu : us.length ≤ 10) (zl : ls.length ≤ 10) :
    SpecR w 780 1900 (.ref 189) [.ref u, .ref l, .ref d] ((u, listOf lu.toArray nu) :: (l, listOf ll.toArray nl) :: (d, od) :: X) (fun v post => ∃ r lr C, v = .ref r ∧ post = [(r, listOf lr.toArray 0)] ∧ Al IsTx lr C ∧ Merge us ls C) := by
  intro p loose mean mg mb gd A₀ cn cs a ccd cl outer base h₀ L m s Q E R hk B F X₀ N T ret
  simp only [List.cons_append] at N
  refine wpAny_call ?_
  k_dflt cell_enter
  rename_i g1 L1 hh1 FG1 FF1 NN1 B1 XX1 T1
  refine hide_post fun QQ EE hQQ hEE => ?_
  k_steps
  unfold Hold
  rename Fr _ _ _ _ => F3
  rename News _ _ _ _ => N3
  refine While_hold (LiInv W us ls ks od d (X ++ R) g1 L1 s) (us.length + ls.length) ?_ ?_
  · exact ⟨_, _, _, _, u, l, [], lu, ll, 0, nu, nl, us, ls, [], rfl, F3, N3, rfl, rfl, rfl, rfl, Al.nil, hu, hl, fun C h => h, oku, okl, by simp; omega, rfl⟩
  · intro n9 s₁ zzp2 TT DD hT hR hD
    obtain ⟨h, tk, m₂, A1, A2, A3, l1, l2, l3, n1, n2, n3, us2, ls2, ds2, rfl, Fw, Nw, hm1, hm2, hm3, hm4, ht1, ht2, ht3, hmg, ok2, ok3, zz, rfl⟩ := zzp2
    have F2 := knows [("line", .ref A1), ("upper", .ref A2), ("lower", .ref A3), ("book", .ref d)] Fw (by simp [hm1, hm2, hm3, hm4])
    have okk2 : ∀ g ∈ us2, OkB W g := fun g hg => (ok2 g hg).1
    have okk3 : ∀ g ∈ ls2, OkB W g := fun g hg => (ok3 g hg).1
    have y1 := ht1.1
    have y2 := ht2.1
    have y3 := ht3.1
    clear Fw F3 N3
    cases us2 with
    | nil =>
      cases l2 with
      | cons _ _ => exact absurd ht2.1 (by simp)
      | nil =>
      simp only [List.length_nil] at y2 zz
      k_steps
      unfold Hold
      refine ⟨(fun h => nomatch h), fun _ => hD _ ?_⟩
      k_steps
      refine hQQ _ _ ?_
      k_steps
      rename Fr _ _ _ _ => FF
      rename News _ _ _ _ => NN
      refine ret _ [(_, listOf (l1 ++ [] ++ l3).toArray 0)] _ _ ⟨_, _, ds2 ++ ls2, rfl, rfl, by simpa using ht1.append ht3, hmg _ (.restR _)⟩ (fun q hq => ?_) (by simp) FF (sub NN (by walk_at "Mine.sub"))
      rw [List.mem_singleton.mp hq]
      rename (_ < _) ∧ (_ < _) ∧ (_ < _) ∧ (_ < _) ∧ (_ < _) ∧ (_ < _) ∧ AllLt _ _ => hh
      exact allLt_up hh.2.2.2.2.2.2 fun q hq => List.mem_append_right _ hq
    | cons a us2 => 
    cases l2 with
    | nil => exact absurd ht2.1 (by simp)
    | cons va l2 =>
    simp only [List.length_cons] at y2 zz
    cases ls2 with
    | nil =>
      cases l3 with
      | cons _ _ => exact absurd ht3.1 (by simp)
      | nil => 
      simp only [List.length_nil] at y3 zz
      k_steps
      unfold Hold
      refine ⟨(fun h => nomatch h), fun _ => hD _ ?_⟩
      k_steps
      refine hQQ _ _ ?_
      k_steps
      rename Fr _ _ _ _ => FF
      rename News _ _ _ _ => NN
      refine ret _ [(_, listOf (l1 ++ va :: l2 ++ []).toArray 0)] _ _ ⟨_, _, ds2 ++ a :: us2, rfl, rfl, by simpa using ht1.append ht2, hmg _ (.restL _)⟩ (fun q hq => ?_) (by simp) FF (sub NN (by walk_at "Mine.sub"))
      rw [List.mem_singleton.mp hq]
      rename (_ < _) ∧ (_ < _) ∧ (_ < _) ∧ (_ < _) ∧ (_ < _) ∧ (_ < _) ∧ (_ < _) ∧ AllLt _ _ => hh
      exact allLt_up hh.2.2.2.2.2.2.2 fun q hq => List.mem_append_right _ hq
    | cons b ls2 =>
    cases l3 with
    | nil => exact absurd ht3.1 (by simp)
    | cons vb l3 =>
    simp only [List.length_cons] at y3 zz
    obtain ⟨ta, rfl⟩ := ht2.head
    obtain ⟨tb, rfl⟩ := ht3.head
    have haok := ok2 a (.head _)
    have hbok := ok3 b (.head _)
    obtain ⟨va, hva, ea, ca, sa1, sa2, sa3, sa4, oca, kva, rfl, hea, -⟩ := hkn a haok.2.1
    obtain ⟨vb, hvb, eb, cb, sb1, sb2, sb3, sb4, ocb, kvb, rfl, heb, -⟩ := hkn b hbok.2.1
    have hsga := sgs_bound hW haok.1 (by omega)
    have hsgb := sgs_bound hW hbok.1 (by omega)
    replace Nw := up (up Nw (.tail _ (.tail _ (.tail _ (.tail _ (List.mem_append_left _ hea)))))) (.tail _ (.tail _ (.tail _ (.tail _ (.tail _ (List.mem_append_left _ heb))))))
    k_steps
    · unfold Hold
      refine ⟨fun _ => ?_, (fun h => nomatch h)⟩
      k_steps
      · rename Fr _ _ _ _ => FF
        rename News _ _ _ _ => NN
        refine hT _ _ (show us2.length + (b :: ls2).length < _ by simp) ⟨_, _, _, _, _, _, l1 ++ [.str (blk a) ta], l2, .str (blk b) tb :: l3, 0, 0, n3, us2, b :: ls2, ds2 ++ [a], rfl, FF, sub NN (by walk_at "Mine.sub"), rfl, rfl, rfl, rfl, ht1.snoc ht2.head, ht2.tail, ht3, fun C hC => ?_, fun g hg => ok2 g (.tail _ hg), ok3, by simp; omega, rfl⟩
        rw [List.append_assoc]
        exact hmg _ (.left (verd01_lt (by assumption)) hC)
      · rename Fr _ _ _ _ => FF
        rename News _ _ _ _ => NN
        refine hT _ _ (show (a :: us2).length + ls2.length < _ by simp) ⟨_, _, _, _, _, _, l1 ++ [.str (blk b) tb], .str (blk a) ta :: l2, l3, 0, n2, 0, a :: us2, ls2, ds2 ++ [b], rfl, FF, sub NN (by walk_at "Mine.sub"), rfl, rfl, rfl, rfl, ht1.snoc ht3.head, ht2, ht3.tail, fun C hC => ?_, ok2, fun g hg => ok3 g (.tail _ hg), by simp; omega, rfl⟩
        rw [List.append_assoc]
        exact hmg _ (.right (verd01_ge (by assumption)) hC)
end Mine

end
/- C4 -/
section
open PySem PySem.W PyProof.Rows PySem.Calls PySem.Spec Builtin
set_option maxHeartbeats 1000000
namespace Mine
section
variable {prog : Program} {w : World} {A : Around} {E : Value → Shared → Prop} {s : Shared} {h₀ : Heap} {L l : Addr} {news : List (Addr × Obj)} {xs : List Value} {gs : List (List Wd)} {g : List Wd} {n : Nat} {t : Tok} {Q : Value → Shared → Prop}
def txb (x : Str) (v : Value) : Bool := match v with | .str y _ => y == x | _ => false
theorem any_txs : ∀ {xs : List Value} {gs : List (List Wd)}, Al IsTx xs gs → ∀ x : Str, xs.any (txb x) = gs.any (fun g => blk g == x)
  | [], [], _, _ => rfl
  | [], _ :: _, h, _ => absurd h.1 (by simp)
  | _ :: _, [], h, _ => absurd h.1 (by simp)
  | v :: xs, g :: gs, h, x => by
    obtain ⟨t, rfl⟩ := h.head
    rw [List.any_cons, List.any_cons, any_txs h.tail]; rfl
theorem in_txs (N : News h₀ L s.heap news) (hl : (l, listOf xs.toArray n) ∈ news) (ht : Al IsTx xs gs) {x : Str} {b : Bool} (hb : (gs.any fun g => blk g == x) = b) (h : Q (.bool b) s) : wpAny (model prog w) A (compareOp .In (.str x t) (.ref l)) Q E s := by
  refine SeqAt.in_listAt (txb x) (News.isList N hl) (fun y hy => ?_) ?_
  · have hy' : y ∈ xs := by simpa using hy
    obtain ⟨i, hi⟩ := List.getElem?_of_mem hy'
    obtain ⟨g, _, t', rfl⟩ := ht.get hi
    exact SeqAt.EqAt.str_str _ _ _ _
  · have := any_txs ht x
    rw [hb] at this
    simpa [this] using h
theorem notin_txs (N : News h₀ L s.heap news) (hl : (l, listOf xs.toArray n) ∈ news) (ht : Al IsTx xs gs) {x : Str} {b : Bool} (hb : (gs.any fun g => blk g == x) = b) (h : Q (.bool (!b)) s) : wpAny (model prog w) A (compareOp .NotIn (.str x t) (.ref l)) Q E s := by
  refine SeqAt.notIn_listAt (txb x) (News.isList N hl) (fun y hy => ?_) ?_
  · have hy' : y ∈ xs := by simpa using hy
    obtain ⟨i, hi⟩ := List.getElem?_of_mem hy'
    obtain ⟨g, _, t', rfl⟩ := ht.get hi
    exact SeqAt.EqAt.str_str _ _ _ _
  · have := any_txs ht x
    rw [hb] at this
    simpa [this] using h
end
/-- what stands at a place -/
def At (l : List Value) (i : Int) (v : Value) : Prop := 0 ≤ i ∧ i < 1000 ∧ l[i.toNat]? = some v
theorem item_at {prog : Program} {w : World} {A : Around} {E : Value → Shared → Prop} {s : Shared} {h₀ : Heap} {L l : Addr} {news : List (Addr × Obj)} {xs : List Value} {n : Nat} {i : Int} {u : Tok} {v : Value} {value slice : Expr} {Q : Value → Shared → Prop} (N : News h₀ L s.heap news) (hl : (l, listOf xs.toArray n) ∈ news) (ha : At xs i v) (h : Q v s)
    (hs : subscripted slice false (.ref l) (.int i u) = operate [.ref l, .int i u] (getItem (.ref l) (.int i u)) := by with_unfolding_all rfl) (hg : ∀ r, letTemporaryGo value (.ref l) r = pure () := by intro _; with_unfolding_all rfl) :
    wpAny (model prog w) A (subscriptTail value slice (.ref l) (.int i u)) Q E s := item_listL (News.isList N hl) ha.1 (by have := ha.2.1; omega) ha.2.2 h hs hg
/-- what is asked of a line -/
def Fine (us C : List (List Wd)) : Prop := ∀ (i : Nat) (a b : List Wd), C[i]? = some a → C[i + 1]? = some b → prs b * sgs a ≤ prs a * sgs b ∧ (prs a * sgs b = prs b * sgs a → (us.any fun g => blk g == blk a) = false → (us.any fun g => blk g == blk b) = false)
theorem lines_C4_1 : True := by
  k_with_none
  k_with "exec For" => (k_dflt (refine For_hold ?_))
  k_with "exec For Name Call cons nil" => (k_dflt (refine For_hold ?_))
  k_with "subscriptTail" => ((with_reducible show wpAny _ _ (subscriptTail _ _ (Value.ref _) (Value.str _ _)) _ _ _); k_dflt (apply dict_get; k_asm; k_mem; assumption; assumption; rotate_left; with_unfolding_all rfl))
  k_with "subscriptTail" => ((with_reducible show wpAny _ _ (subscriptTail _ _ (Value.ref _) (Value.int _ _)) _ _ _); k_dflt (apply item_at; k_asm; k_mem; assumption; rotate_left; with_unfolding_all rfl; kmk_pure))
  k_with "call builtin:len" => (k_dflt (apply len_at; k_asm; k_mem; assumption; omega))
  k_with "call type:range" => ((with_reducible show wpAny _ _ (call _ [Value.int _ _, Value.int _ _]) _ _ _); k_dflt (apply range2_at; k_asm; k_asm); intro _ _ _ _ _ _ l1; (try k_lt l1); revert l1; intro _)
  k_with "compareOp NotIn str ref" => (k_dflt (apply notin_txs; k_asm; k_mem; assumption; assumption))
  k_with "compareOp In str ref" => (k_dflt (apply in_txs; k_asm; k_mem; assumption; assumption))
  exact trivial
theorem falls_spec {w : World} {W : List Wd} (hW : Proper W) {l u d : Addr} {ll lu : List Value} {C us : List (List Wd)} {nl nu : Nat} {od : Obj} {kvs : List (Str × Value)} {ks : List (List Wd)} {X : List (Addr × Obj)} (hod : od.IsDictOf (strKind PW w) kvs) (hkn : Known w X kvs ks)
    (hl : Al IsTx ll C) (hu : Al IsTx lu us) (okl : ∀ g ∈ C, OkB W g ∧ g ∈ ks ∧ g.length ≤ 10) (zl : C.length ≤ 20) (hf : Fine us C) :
    SpecR w 780 1900 (.ref 196) [.ref l, .ref u, .ref d] ((l, listOf ll.toArray nl) :: (u, listOf lu.toArray nu) :: (d, od) :: X) (fun v post => v = .bool true ∧ post = []) := by
  intro p loose mean mg mb gd A₀ cn cs a ccd cl outer base h₀ L m s Q E R hk B F X₀ N T ret
  simp only [List.cons_append] at N
  refine wpAny_call ?_
  k_dflt cell_enter
  rename_i g1 L1 hh1 FG1 FF1 NN1 B1 XX1 T1
  refine hide_post fun QQ EE hQQ hEE => ?_
  have y1 := hl.1
  k_steps
  unfold Hold
  rename Fr _ _ _ _ => F3
  rename News _ _ _ _ => N3
  refine for_rangeG (n := C.length - 1) (fun i g m' news' => g = s.gens ∧ m' "line" = some (.ref l) ∧ m' "upper" = some (.ref u) ∧ m' "book" = some (.ref d) ∧ (∀ q ∈ (l, listOf ll.toArray nl) :: (u, listOf lu.toArray nu) :: (d, od) :: (X ++ R), q ∈ news')) rfl (News.get N3 (by k_mem)) (range_small (by omega)) (range_size (by omega)) (fun _ _ => rfl) F3 N3 ⟨rfl, rfl, rfl, rfl, by walk_at "Mine.sub"⟩ ?_ ?_
  · intro i g m₁ news₁ it oi h tk tt hi zzp10 F1 N1 hit TT hT hR
    obtain ⟨rfl, hm1, hm2, hm3, hmem⟩ := zzp10
    have F2 := knows [("line", .ref l), ("upper", .ref u), ("book", .ref d)] F1 (by simp [hm1, hm2, hm3])
    obtain ⟨ca, hca⟩ : ∃ c, C[i]? = some c := ⟨_, List.getElem?_eq_getElem (by omega)⟩
    obtain ⟨cb, hcb⟩ : ∃ c, C[i + 1]? = some c := ⟨_, List.getElem?_eq_getElem (by omega)⟩
    obtain ⟨xa, hxa, ta, rfl⟩ := hl.get' hca
    obtain ⟨xb, hxb, tb, rfl⟩ := hl.get' hcb
    have at1 : At ll (1 + (i : Int) - 1) (.str (blk ca) ta) := ⟨by omega, by omega, by rw [show (1 + (i : Int) - 1).toNat = i by omega]; exact hxa⟩
    have at2 : At ll (1 + (i : Int)) (.str (blk cb) tb) := ⟨by omega, by omega, by rw [show (1 + (i : Int)).toNat = i + 1 by omega]; exact hxb⟩
    have haok := okl ca (List.mem_of_getElem? hca)
    have hbok := okl cb (List.mem_of_getElem? hcb)
    obtain ⟨va, hva, ea, da, sa1, sa2, sa3, sa4, oca, kva, rfl, hea, -⟩ := hkn ca haok.2.1
    obtain ⟨vb, hvb, eb, db, sb1, sb2, sb3, sb4, ocb, kvb, rfl, heb, -⟩ := hkn cb hbok.2.1
    have hsga := sgs_bound hW haok.1 (by omega)
    have hsgb := sgs_bound hW hbok.1 (by omega)
    have hm1 : IntMulOk (prs ca) (sgs cb) := .of_right (intBits_le_64 (by omega) (by omega))
    have hm2 : IntMulOk (prs cb) (sgs ca) := .of_right (intBits_le_64 (by omega) (by omega))
    obtain ⟨f1, f2⟩ := hf i ca cb hca hcb
    have ia : ∃ b, (us.any fun g => blk g == blk ca) = b := ⟨_, rfl⟩
    obtain ⟨ba, hba⟩ := ia
    obtain ⟨bb, hbb⟩ : ∃ b, (us.any fun g => blk g == blk cb) = b := ⟨_, rfl⟩
    rw [hba, hbb] at f2
    have N2 := up (up (up (up (up N1 (.tail _ (hmem _ (.head _)))) (.tail _ (.tail _ (hmem _ (.tail _ (.head _)))))) (.tail _ (.tail _ (.tail _ (hmem _ (.tail _ (.tail _ (.head _)))))))) (.tail _ (.tail _ (.tail _ (.tail _ (hmem _ (.tail _ (.tail _ (.tail _ (List.mem_append_left _ hea))))))))))
      (.tail _ (.tail _ (.tail _ (.tail _ (.tail _ (hmem _ (.tail _ (.tail _ (.tail _ (List.mem_append_left _ heb))))))))))
    clear F1 F3 N3 N1
    k_steps
    all_goals first
      | (exfalso
         have f3 := f2 (by omega) (by assumption)
         exact absurd (f3.symm.trans (by assumption : bb = true)) (by decide))
      | (rename Fr _ _ _ _ => FF
         rename News _ _ _ _ => NN
         exact hT _ _ _ _ news₁ FF (sub NN (by walk_at "Mine.sub")) hit ⟨rfl, rfl, rfl, rfl, hmem⟩)
  · intro g m₁ news₁ h tk zzp5 F1 N1
    obtain ⟨rfl, hm1, hm2, hm3, hmem⟩ := zzp5
    clear F3 N3
    dsimp only
    k_steps
    refine hQQ _ _ ?_
    k_steps
    rename Fr _ _ _ _ => FF
    rename News _ _ _ _ => NN
    exact ret _ _ _ _ ⟨rfl, rfl⟩ (fun _ h => nomatch h) .nil FF (fun q hq => NN q (hmem q (.tail _ (.tail _ (.tail _ (List.mem_append_right _ hq))))))
end Mine

end
/- C5a -/
section
open PySem PySem.W PyProof.Rows PySem.Calls PySem.Spec Builtin
set_option maxHeartbeats 1000000
namespace Mine
open LCg
/-- one element's end -/
def CEnd (h₀ : Heap) (L : Addr) (m : Str → Option Value) (s : Shared) (I : Addr) (oI : Obj) (C : Addr) (oC : Obj) (D : Addr) (oD : Obj) (J : Value → List (Addr × Obj) → Prop) (y : Value) (s₂ : Shared) : Prop :=
  ∃ h' tk' news', s₂ = { s with heap := h', toks := tk' } ∧ Fr h₀ L h' m ∧ News h₀ L h' ((I, oI) :: (C, oC) :: (D, oD) :: news') ∧ Off3 I C D news' ∧ J y news'
section
variable {prog : Program} {w : World} {A : Around} {E : Value → Shared → Prop} {s : Shared} {h₀ : Heap} {L : Addr} {m : Str → Option Value} {env : Env}
theorem comp_rest {elt : Expr} {x : Str} {scope : Scope} {cl : List (Str × Addr)} {S : List (Addr × Obj) → Prop} {P : Nat → Value → Prop} {Fin : List Value → List (Addr × Obj) → Prop} (n : Nat) (J : Nat → List Value → List (Addr × Obj) → Prop) (hS : ∀ i ys news, J i ys news → S news)
    (turn : ∀ i v ys news I oI C oC D m₂ h tk (E' : Value → Shared → Prop), i < n → J i ys news → P i v → NsObj oC m₂ → m₂ x = some v → Fr h₀ L h m → News h₀ L h ((I, oI) :: (C, oC) :: (D, lst ys) :: news) → Off3 I C D news → ((@Ne Nat I C) ∧ (@Ne Nat I D) ∧ (@Ne Nat C D)) →
      ∀ T : Value → Shared → Prop, (∀ y h' tk' news', Fr h₀ L h' m → News h₀ L h' ((I, oI) :: (C, oC) :: (D, lst ys) :: news') → Off3 I C D news' → J (i + 1) (ys ++ [y]) news' → T y { s with heap := h', toks := tk' }) →
      wpAny (model prog w) A (eval elt (compEnvC scope cl C env)) T E' { s with heap := h, toks := tk })
    (fin : ∀ ys news, J n ys news → Fin ys news) : ∀ (k i : Nat) (ys : List Value) (news : List (Addr × Obj)), i + k = n → J i ys news → CompRest prog w A h₀ L m env elt x scope cl s S P Fin k i ys news
  | 0, i, ys, news, e, h => CompRest.zero (fin _ _ (by rw [← e]; exact h))
  | k + 1, i, ys, news, e, h => CompRest.succ fun v I oI C oC D m₂ hp tk E' hP hC hx F N off ne =>
    wpAny_mono (turn i v ys news I oI C oC D m₂ hp tk E' (by omega) h hP hC hx F N off ne (CEnd h₀ L m s I oI C oC D (lst ys) (fun y news' => J (i + 1) (ys ++ [y]) news')) (fun y h' tk' news' F' N' o' j' => ⟨h', tk', news', rfl, F', N', o', j'⟩)) (fun y s₂ hq => by
      obtain ⟨h', tk', news', rfl, F', N', off', hJ⟩ := hq
      exact ⟨h', tk', news', rfl, F', N', off', hS _ _ _ hJ, comp_rest n J hS turn fin k (i + 1) (ys ++ [y]) news' (by omega) hJ⟩) fun _ _ e => e
theorem comp_hold {elt iter : Expr} {x : Str} {px : Pos} {scope : Scope} {cl : List (Str × Addr)} {pos : Pos} {Q : Value → Shared → Prop} (F₀ : Fr h₀ L s.heap m)
    (hclos : closureFor scope env = pure cl) (hcell : ∀ y ∈ scope.names, y.2 ≠ .cell) (hkind : scope.kind = .function)
    (hnames : ∀ y ∈ scope.names, y.2 = .local → scope.names.lookup y.1 = some .local) (hx : scope.names.lookup x = some .local)
    (h : wpAny (model prog w) A (eval iter env) (fun xv s₁ => Hold (CompSrc prog w A h₀ L m env elt x scope cl (fun s₂ => FinE h₀ L m s₂ Q) xv s₁)) E s)
    (hs : ∀ x, foldedSetIterable iter env x = pure x) :
    wpAny (model prog w) A (eval (.ListComp elt [⟨.Name x px, iter, [], 0⟩] scope pos) env) Q E s := ListComp_U F₀ hclos hcell hkind hnames hx h hs
end
section
variable {prog : Program} {w : World} {A : Around} {E : Value → Shared → Prop} {s : Shared} {h₀ : Heap} {L : Addr} {m : Str → Option Value} {env : Env}
theorem comp_holdA {elt iter : Expr} {x y : Str} {px py : Pos} {scope : Scope} {cl : List (Str × Addr)} {pos spos : Pos} {Q : Flow → Shared → Prop} (F₀ : Fr h₀ L s.heap m) (hLe : env.locals = L)
    (hsw : swapsWith (.ListComp elt [⟨.Name x px, iter, [], 0⟩] scope pos) (some (.Name y py)) spos.line env = pure true)
    (hclos : closureFor scope env = pure cl) (hcell : ∀ z ∈ scope.names, z.2 ≠ .cell) (hkind : scope.kind = .function)
    (hnames : ∀ z ∈ scope.names, z.2 = .local → scope.names.lookup z.1 = some .local) (hx : scope.names.lookup x = some .local)
    (hy : env.kindOf y = some .local) (hp : (env.scope.kind == .class || (env.scope.kind == .module && env.locals != env.globals)) = false)
    (h : wpAny (model prog w) A (eval iter env) (fun xv s₁ => Hold (CompSrc prog w A h₀ L m env elt x scope cl (fun s₂ => FinA h₀ L m s₂ y Q) xv s₁)) E s)
    (hs : ∀ x, foldedSetIterable iter env x = pure x) :
    wpAny (model prog w) A (exec (.Assign [.Name y py] (.ListComp elt [⟨.Name x px, iter, [], 0⟩] scope pos) spos) env) Q E s := Assign_ListComp_U F₀ hLe hsw hclos hcell hkind hnames hx hy hp h hs
end
theorem off3_up {I C D : Addr} {l l' : List (Addr × Obj)} (h : Off3 I C D l) (s : ∀ p ∈ l', p ∈ l) : Off3 I C D l' := Off3.of fun p hp => h.mem p (s p hp)
theorem off3_cons {I C D a : Addr} {o : Obj} {l : List (Addr × Obj)} (h : Off3 I C D l) (h1 : I < a ∧ C < a ∧ D < a) : Off3 I C D ((a, o) :: l) := ⟨⟨Nat.ne_of_gt h1.1, Nat.ne_of_gt h1.2.1, Nat.ne_of_gt h1.2.2⟩, h⟩
theorem off1_ne {D : Addr} : ∀ {l : List (Addr × Obj)}, Off1 D l → ∀ p ∈ l, p.1 ≠ D
  | [], _, _, h => nomatch h
  | _ :: _, x, p, h => by
    rcases List.mem_cons.mp h with rfl | h
    · exact x.1
    · exact off1_ne x.2 p h
section
variable {prog : Program} {w : World} {A : Around} {E : Value → Shared → Prop} {s : Shared} {h₀ : Heap} {L l : Addr} {m : Str → Option Value} {news : List (Addr × Obj)} {xs : List Value} {n : Nat}
def RowO (o : Obj) (l : List Value) : Prop := o.cls = .type "list" ∧ ∃ n, o.data = .seq l.toArray n
theorem RowO.isList {o : Obj} (N : News h₀ L s.heap news) (hm : (l, o) ∈ news) (h : RowO o xs) : s.heap.IsList l xs.toArray := by
  obtain ⟨hc, n, hd⟩ := h
  exact ⟨o, (N _ hm).1, hc, n, hd⟩
/-- an item of a list is set -/
theorem list_set' {o : Obj} {i : Nat} {j : Int} {t : Tok} {x : Value} {Q : Unit → Shared → Prop} (F : Fr h₀ L s.heap m) (N : News h₀ L s.heap news) (hm : (l, o) ∈ news) (ho : RowO o xs) (hj : j = (i : Int)) (hi : i < xs.length) (hz : xs.length ≤ 1000)
    (h : ∀ h' o', Fr h₀ L h' m → (∀ rest, (∀ p ∈ rest, p ∈ news ∧ p.1 ≠ l) → News h₀ L h' ((l, o') :: rest)) → RowO o' (xs.set i x) → Q () { s with heap := h' }) :
    wpAny (model prog w) A (setItem (.ref l) (.int j t) x) Q E s := by
  subst hj
  have z := N _ hm
  refine wpAny_setItem_list (ho.isList N hm) (k := (i : Int)) (by omega) (by omega) (by simpa using hi) fun h' hl' hs' => ?_
  obtain ⟨o', ho', hc', n', hd'⟩ := hl'
  refine h h' o' (F.change hs' z.2.1 z.2.2) (fun rest hr p hp => ?_) ⟨hc', n', by rw [hd']; simp⟩
  rcases List.mem_cons.mp hp with rfl | hp
  · exact ⟨ho', z.2⟩
  · obtain ⟨h1, h2⟩ := hr p hp
    exact ⟨(hs'.2 _ h2).trans (N p h1).1, (N p h1).2⟩
theorem item_row {o : Obj} {i : Int} {u : Tok} {v : Value} {value slice : Expr} {Q : Value → Shared → Prop} (N : News h₀ L s.heap news) (hm : (l, o) ∈ news) (ho : RowO o xs) (ha : At xs i v) (h : Q v s)
    (hs : subscripted slice false (.ref l) (.int i u) = operate [.ref l, .int i u] (getItem (.ref l) (.int i u)) := by with_unfolding_all rfl) (hg : ∀ r, letTemporaryGo value (.ref l) r = pure () := by intro _; with_unfolding_all rfl) :
    wpAny (model prog w) A (subscriptTail value slice (.ref l) (.int i u)) Q E s := item_listL (ho.isList N hm) ha.1 (by have := ha.2.1; omega) ha.2.2 h hs hg
end
def TabAt (rows : List (Addr × Obj)) (ys : List Value) (n m : Nat) (f : Nat → Nat → Int → Prop) : Prop :=
  ys.length = n ∧ (∀ i : Nat, i < n → ∃ (r : Addr) (o : Obj) (l : List Value), ys[i]? = some (Value.ref r) ∧ (r, o) ∈ rows ∧ RowO o l ∧ l.length = m ∧ ∀ c : Nat, c < m → ∃ (x : Int) (t : Tok), l[c]? = some (Value.int x t) ∧ f i c x) ∧ (∀ (i j : Nat) (r : Addr), ys[i]? = some (Value.ref r) → ys[j]? = some (Value.ref r) → i = j)
theorem lt_len {α : Type} {l : List α} {i : Nat} {x : α} (h : l[i]? = some x) : i < l.length := by
  rcases Nat.lt_or_ge i l.length with h' | h'
  · exact h'
  · rw [List.getElem?_eq_none h'] at h; cases h
theorem TabAt.nil {m : Nat} {f : Nat → Nat → Int → Prop} : TabAt [] [] 0 m f := ⟨rfl, fun i hi => absurd hi (Nat.not_lt_zero _), fun i j r h => by simp at h⟩
theorem TabAt.snoc {rows : List (Addr × Obj)} {ys : List Value} {n m : Nat} {r : Addr} {o : Obj} {lv : List Value} (h : TabAt rows ys n m (fun _ _ _ => True)) (hr : ∀ q ∈ rows, q.1 < r) (ho : RowO o lv) (hl : lv.length = m) (hv : ∀ c : Nat, c < m → ∃ (x : Int) (t : Tok), lv[c]? = some (Value.int x t)) :
    TabAt ((r, o) :: rows) (ys ++ [.ref r]) (n + 1) m (fun _ _ _ => True) := by
  obtain ⟨h1, h2, h3⟩ := h
  have old : ∀ i r', ys[i]? = some (Value.ref r') → r' < r := fun i r' e => by
    obtain ⟨r2, o2, l2, e2, m2, _⟩ := h2 i (by have := lt_len e; omega)
    rw [e] at e2; cases e2
    exact hr _ m2
  refine ⟨by simp [h1], fun i hi => ?_, fun i j r' e1 e2 => ?_⟩
  · by_cases hin : i < n
    · obtain ⟨r2, o2, l2, e2, m2, k⟩ := h2 i hin
      exact ⟨r2, o2, l2, by rw [List.getElem?_append_left (by omega)]; exact e2, .tail _ m2, k⟩
    · have : i = n := by omega
      subst this
      exact ⟨r, o, lv, by rw [← h1]; simp, .head _, ho, hl, fun c hc => by obtain ⟨x, t, e⟩ := hv c hc; exact ⟨x, t, e, trivial⟩⟩
  · have key : ∀ i, (ys ++ [Value.ref r])[i]? = some (Value.ref r') → (i < n ∧ ys[i]? = some (Value.ref r')) ∨ (i = n ∧ r' = r) := fun i e => by
      have hi := lt_len e
      rw [List.length_append, h1] at hi
      by_cases hin : i < n
      · left; rw [List.getElem?_append_left (by omega)] at e; exact ⟨hin, e⟩
      · right
        have : i = n := by simp at hi; omega
        subst this
        rw [← h1] at e
        simp at e
        exact ⟨rfl, e.symm⟩
    rcases key i e1 with ⟨_, a⟩ | ⟨rfl, rfl⟩
    · rcases key j e2 with ⟨_, b⟩ | ⟨rfl, rfl⟩
      · exact h3 i j r' a b
      · exact absurd (old _ _ a) (Nat.lt_irrefl _)
    · rcases key j e2 with ⟨_, b⟩ | ⟨rfl, _⟩
      · exact absurd (old _ _ b) (Nat.lt_irrefl _)
      · rfl
theorem TabAt.mono {rows rows' : List (Addr × Obj)} {ys : List Value} {n m : Nat} {f f' : Nat → Nat → Int → Prop} (h : TabAt rows ys n m f) (s : ∀ q ∈ rows, q ∈ rows') (hf : ∀ i c x, c < m → f i c x → f' i c x) : TabAt rows' ys n m f' :=
  ⟨h.1, fun i hi => by obtain ⟨r, o, l, e, hm, ho, hl, hv⟩ := h.2.1 i hi; exact ⟨r, o, l, e, s _ hm, ho, hl, fun c hc => by obtain ⟨x, t, e, hx⟩ := hv c hc; exact ⟨x, t, e, hf _ _ _ hc hx⟩⟩, h.2.2⟩
/-- one cell is set -/
theorem TabAt.set {rows : List (Addr × Obj)} {ys : List Value} {n m : Nat} {f : Nat → Nat → Int → Prop} {i c : Nat} {r : Addr} {o : Obj} {l : List Value} {x : Int} {t : Tok} (h : TabAt rows ys n m f) (hi : i < n) (hc : c < m) (hr : ys[i]? = some (Value.ref r)) (hl : l.length = m)
    (hold : ∀ d : Nat, d < m → ∃ (x : Int) (t : Tok), l[d]? = some (Value.int x t) ∧ f i d x) (ho : RowO o (l.set c (.int x t))) {f' : Nat → Nat → Int → Prop} (hx : f' i c x) (hf : ∀ j d y, (j ≠ i ∨ d ≠ c) → f j d y → f' j d y) :
    TabAt ((r, o) :: rows.filter (fun q => q.1 != r)) ys n m f' := by
  obtain ⟨h1, h2, h3⟩ := h
  refine ⟨h1, fun j hj => ?_, h3⟩
  by_cases e : j = i
  · subst e
    refine ⟨r, o, _, hr, .head _, ho, by simpa using hl, fun d hd => ?_⟩
    by_cases e : c = d
    · subst e
      exact ⟨x, t, by simp [hl, hc], hx⟩
    · obtain ⟨y, t', e', hy⟩ := hold d hd
      exact ⟨y, t', by rw [List.getElem?_set_ne e]; exact e', hf _ _ _ (.inr (Ne.symm e)) hy⟩
  · obtain ⟨r2, o2, l2, e2, m2, ho2, hl2, hv⟩ := h2 j hj
    have hne : r2 ≠ r := fun q => e (h3 j i r (q ▸ e2) hr)
    exact ⟨r2, o2, l2, e2, .tail _ (List.mem_filter.mpr ⟨m2, by simpa using hne⟩), ho2, hl2, fun d hd => by
      obtain ⟨y, t', e', hy⟩ := hv d hd
      exact ⟨y, t', e', hf _ _ _ (.inl e) hy⟩⟩
/-- not among the frame's cells -/
def OffC (L : Nat) (Z : List (Addr × Obj)) : Prop := ∀ q ∈ Z, @LE.le Nat _ q.1 L ∨ @LT.lt Nat _ (L + 5) q.1
theorem offc_ne {L d : Nat} {Z : List (Addr × Obj)} (h : OffC L Z) (h1 : L < d ∧ d ≤ L + 5) : ∀ q ∈ Z, q.1 ≠ d := fun q hq e => by
  have h2 := h q hq
  rw [e] at h2
  omega
inductive Stop : Prop | mk
theorem pick_upto_eq {xs : List Value} {b : Int} {k : Nat} (h : b = (k : Int)) : (slicePick xs.toArray none (some b) none).toList = xs.take k := by subst h; rw [slicePick_upto']
inductive LInv (us ls : List Wd) (head : Int) (L1 D9 : Addr) (oTb oLo : Obj) (ys : List Value) (Y : List (Addr × Obj)) (i k : Nat) (vI : Option Value) (news' : List (Addr × Obj)) : Prop
  | mk (oEn oI oK : Obj) (vEn vK : Option Value) (rows : List (Addr × Obj)) (e : news' = (L1 + 1 + 1 + 1 + 1 + 1, oEn) :: (L1 + 1 + 1 + 1 + 1, oI) :: (L1 + 1 + 1 + 1, oTb) :: (L1 + 1 + 1, oK) :: (L1 + 1, oLo) :: ((D9, lst ys) :: (rows ++ Y))) (h1 : oEn.data = .cell vEn) (h2 : oI.data = .cell vI) (h3 : oK.data = .cell vK)
    (h4 : TabAt rows ys (us.length + 1) (ls.length + 1) (fun j c x => (j < i ∨ (j = i ∧ c < k)) → x = dp us ls head j c)) (h5 : OffC L1 ((D9, lst ys) :: (rows ++ Y))) (h6 : ∀ q ∈ rows, q.1 ≠ D9 ∧ ∀ y ∈ Y, y.1 ≠ q.1) : LInv us ls head L1 D9 oTb oLo ys Y i k vI news'
theorem ints_snoc {x : Int} {t : Tok} : ∀ {vs : List Value} {ns : List Int}, IntsAre vs ns → IntsAre (vs ++ [.int x t]) (ns ++ [x])
  | _, _, .nil => .cons _ _ .nil
  | _, _, .cons _ _ h => .cons _ _ (ints_snoc h)
inductive StopC : Prop | mk
theorem pick_lastN {xs : List Value} : (slicePick xs.toArray (some (-1)) none none).toList = xs.drop (xs.length - 1) := by
  have := slicePick_last xs.toArray 1 (Nat.le_refl _)
  rw [show (-(1 : Int)) = -((1 : Nat) : Int) from rfl, this]
  simp
theorem last_none {xs : List Value} : (slicePick (List.toArray (xs.take 0)) (some (-1)) none none).toList = [] := by rw [pick_lastN]; simp
theorem last_some {xs : List Value} {i : Nat} {v : Value} (h : xs[i]? = some v) : (slicePick (List.toArray (xs.take (i + 1))) (some (-1)) none none).toList = [v] := by
  rw [pick_lastN]
  have hi := lt_len h
  have e : xs.take (i + 1) = xs.take i ++ [v] := by rw [List.take_add_one, h]; rfl
  have hl : (xs.take i).length = i := by rw [List.length_take]; omega
  rw [e, List.length_append, hl]
  simp [hl]
theorem endAt_bound {W us ls : List Wd} (hW : Proper W) (hus : ∀ x ∈ us, x ∈ W) (hls : ∀ x ∈ ls, x ∈ W) (zu : us.length ≤ 10) (zl : ls.length ≤ 10) {head : Int} (hh : 0 ≤ head ∧ head ≤ 10) (i k : Nat) : 0 ≤ endAt us ls head i k ∧ endAt us ls head i k ≤ 1000 := by
  have key : ∀ l : List Wd, (∀ x ∈ l, x ∈ W) → l.length ≤ 10 → 0 ≤ sgs l ∧ sgs l ≤ 5 * l.length := by
    intro l hl _
    rename_i hz
    clear hz
    induction l with
    | nil => simp [sgs]
    | cons x r ih =>
      have h1 := hW.sgp (hl x (.head _))
      have h2 := ih fun y hy => hl y (.tail _ hy)
      rw [sgs_cons, List.length_cons]
      omega
  have a := key (us.take i) (fun x hx => hus x (List.mem_of_mem_take hx)) (by rw [List.length_take]; omega)
  have b := key (ls.take k) (fun x hx => hls x (List.mem_of_mem_take hx)) (by rw [List.length_take]; omega)
  have c : (us.take i).length ≤ 10 := by rw [List.length_take]; omega
  have d : (ls.take k).length ≤ 10 := by rw [List.length_take]; omega
  unfold endAt
  omega
theorem min_is {us ls : List Wd} {head M : Int} {i k : Nat} {wU wL : List Int} (hwU : wU = if i = 0 then [] else [dp us ls head (i - 1) k + prAt us (i - 1) * (head + (sgs (us.take i) + sgs (ls.take k)))])
    (hwL : wL = if k = 0 then [] else [dp us ls head i (k - 1) + prAt ls (k - 1) * (head + (sgs (us.take i) + sgs (ls.take k)))])
    (hm : M ∈ wU ++ wL ++ (List.replicate (if (0 + (i : Int) + (0 + (k : Int)) == 0) = true then 1 else 0 : Int).toNat [(0 : Int)]).flatten) (hl : ∀ a : Int, a ∈ wU ++ wL ++ (List.replicate (if (0 + (i : Int) + (0 + (k : Int)) == 0) = true then 1 else 0 : Int).toNat [(0 : Int)]).flatten → M ≤ a) : M = dp us ls head i k := by
  have e0 : ∀ i k : Nat, (i ≠ 0 ∨ k ≠ 0) → (if (0 + (i : Int) + (0 + (k : Int)) == 0) = true then 1 else 0 : Int) = 0 := fun i k h => by
    rw [if_neg]
    intro hc
    have : (0 + (i : Int) + (0 + (k : Int))) = 0 := by simpa using hc
    omega
  match i, k with
  | 0, 0 =>
    rw [if_pos rfl] at hwU hwL
    subst hwU hwL
    rw [dp]
    simpa using hm
  | i + 1, 0 =>
    rw [if_pos rfl] at hwL
    rw [if_neg (by omega)] at hwU
    rw [e0 _ _ (.inl (by omega))] at hm
    subst hwU hwL
    rw [dp]
    simpa [endAt] using hm
  | 0, k + 1 =>
    rw [if_pos rfl] at hwU
    rw [if_neg (by omega)] at hwL
    rw [e0 _ _ (.inr (by omega))] at hm
    subst hwU hwL
    rw [dp]
    simpa [endAt] using hm
  | i + 1, k + 1 =>
    rw [if_neg (by omega)] at hwL hwU
    rw [e0 _ _ (.inl (by omega))] at hm hl
    subst hwU hwL
    rw [dp]
    simp only [Nat.add_sub_cancel] at hm hl
    have h1 := hl _ (List.mem_append_left _ (List.mem_append_left _ (.head _)))
    have h2 := hl _ (List.mem_append_left _ (List.mem_append_right _ (.head _)))
    have h3 : M = dp us ls head i (k + 1) + prAt us i * (head + (sgs (us.take (i + 1)) + sgs (ls.take (k + 1)))) ∨ M = dp us ls head (i + 1) k + prAt ls k * (head + (sgs (us.take (i + 1)) + sgs (ls.take (k + 1)))) := by simpa using hm
    unfold endAt
    rcases h3 with h3 | h3 <;> omega
theorem min_pos {i k : Nat} {wU wL : List Int} {x y : Int} (hwU : wU = if i = 0 then [] else [x]) (hwL : wL = if k = 0 then [] else [y]) :
    0 < (wU ++ wL ++ (List.replicate (if (0 + (i : Int) + (0 + (k : Int)) == 0) = true then 1 else 0 : Int).toNat [(0 : Int)]).flatten).length := by
  by_cases h0 : i = 0
  · by_cases h1 : k = 0
    · subst h0; subst h1
      have : (List.replicate (if (0 + ((0 : Nat) : Int) + (0 + ((0 : Nat) : Int)) == 0) = true then 1 else 0 : Int).toNat [(0 : Int)]).flatten.length = 1 := by decide
      rw [List.length_append, this]; omega
    · rw [if_neg h1] at hwL; subst hwL
      simp only [List.length_append, List.length_cons]; omega
  · rw [if_neg h0] at hwU; subst hwU
    simp only [List.length_append, List.length_cons]; omega
theorem nits {L r : Nat} (h : @LE.le Nat _ r L ∨ @LT.lt Nat _ (L + 5) r) : L + 1 ≠ r ∧ L + 1 + 1 ≠ r ∧ L + 1 + 1 + 1 ≠ r ∧ L + 1 + 1 + 1 + 1 ≠ r ∧ L + 1 + 1 + 1 + 1 + 1 ≠ r := by omega
def Last (xs : List Value) (v : Value) : Prop := xs ≠ [] ∧ xs.length ≤ 1000 ∧ xs[xs.length - 1]? = some v
theorem item_last {prog : Program} {w : World} {A : Around} {E : Value → Shared → Prop} {s : Shared} {h₀ : Heap} {L l : Addr} {news : List (Addr × Obj)} {xs : List Value} {o : Obj} {u : Tok} {v : Value} {value slice : Expr} {Q : Value → Shared → Prop} (N : News h₀ L s.heap news) (hm : (l, o) ∈ news) (ho : RowO o xs) (ha : Last xs v) (h : Q v s)
    (hs : subscripted slice false (.ref l) (.int (-1) u) = operate [.ref l, .int (-1) u] (getItem (.ref l) (.int (-1) u))) (hg : ∀ r, letTemporaryGo value (.ref l) r = pure ()) :
    wpAny (model prog w) A (subscriptTail value slice (.ref l) (.int (-1) u)) Q E s := by
  have hl := ho.isList N hm
  have hp := List.length_pos_iff.mpr ha.1
  refine PyProof.Rows.subscriptTail_builtin hl.typeIs slot_list_getitem.lookup (wpAny_getItem_list_neg hl (by omega) (by simp; omega) (by omega) ?_ h) hs hg
  have := ha.2.2
  have e : (-1 + ((xs.toArray.size : Nat) : Int)).toNat = xs.length - 1 := by simp; omega
  rw [e]; simpa using this
theorem flat_rep {α : Type} (n : Nat) (x : α) : (List.replicate n [x]).flatten = List.replicate n x := by
  induction n with
  | zero => rfl
  | succ n ih => rw [List.replicate_succ, List.flatten_cons, ih, List.replicate_succ]; rfl
theorem offc_of {L a : Nat} (h1 : L + 1 ≠ a) (h2 : L + 1 + 1 ≠ a) (h3 : L + 1 + 1 + 1 ≠ a) (h4 : L + 1 + 1 + 1 + 1 ≠ a) (h5 : L + 1 + 1 + 1 + 1 + 1 ≠ a) : @LE.le Nat _ a L ∨ @LT.lt Nat _ (L + 5) a := by omega
theorem apart_of {L a b : Nat} (h1 : @LT.lt Nat _ a L) (h2 : @LT.lt Nat _ (L + 5) b) : a ≠ b := by omega
theorem cell5 {L a : Nat} (h : L + 1 + 1 + 1 + 1 + 1 < a) : @LT.lt Nat _ (L + 5) a := by omega
theorem last_word {X : List (Addr × Obj)} {lv : List Value} {ws : List Wd} (h : Al (IsWord X) lv ws) (i : Nat) (hi : i ≤ ws.length) : ∃ lastU : List Value, (slicePick (List.toArray (lv.take i)) (some (-1)) none none).toList = lastU ∧
    ((i = 0 ∧ lastU = []) ∨ (i ≠ 0 ∧ ∃ x e t1 t2 t3 t4 t5, lastU = [.ref e] ∧ ws[i - 1]? = some x ∧ (e, tupO [.int 1 t1, .int x.sg t2, .int x.pr t3, .int x.pl t4, .str x.tx t5]) ∈ X)) := by
  cases i with
  | zero => exact ⟨[], last_none, .inl ⟨rfl, rfl⟩⟩
  | succ i =>
    obtain ⟨x, hx⟩ : ∃ x, ws[i]? = some x := ⟨_, List.getElem?_eq_getElem (by omega)⟩
    obtain ⟨v, hv, e, t1, t2, t3, t4, t5, rfl, he⟩ := h.get' hx
    exact ⟨[.ref e], last_some hv, .inr ⟨by omega, x, e, t1, t2, t3, t4, t5, rfl, hx, he⟩⟩
theorem cg {x y : Nat} {P : Prop} (h : y < x ∧ P) : x ≠ y := Nat.ne_of_gt h.1
theorem cl' {x y : Nat} {P : Prop} (h : x < y ∧ P) : x ≠ y := Nat.ne_of_lt h.1
theorem cn {x y : Nat} {P : Prop} (h : x ≠ y ∧ P) : x ≠ y := h.1
theorem cm {x y : Nat} {P : Prop} (h : y ≠ x ∧ P) : x ≠ y := h.1.symm
theorem lt1000 {i n : Nat} (z : n ≤ 10) (h : i < n + 1) : i < 1000 := by omega
theorem at_cast {l : List Value} {i : Nat} {v : Value} (hi : i < 1000) (h : l[i]? = some v) : At l (0 + (i : Int)) v := ⟨by omega, by omega, by rw [show (0 + (i : Int)).toNat = i by omega]; exact h⟩
theorem at_pred {l : List Value} {i : Nat} {v : Value} (h0 : i ≠ 0) (hi : i < 1000) (h : l[i - 1]? = some v) : At l (0 + (i : Int) - 1) v := ⟨by omega, by omega, by rw [show (0 + (i : Int) - 1).toNat = i - 1 by omega]; exact h⟩
theorem nolt {j c : Nat} {P : Prop} (h : j < 0 ∨ (j = 0 ∧ c < 0)) : P := h.elim (fun h => absurd h (Nat.not_lt_zero _)) (fun h => absurd h.2 (Nat.not_lt_zero _))
theorem lt_step {j i d k : Nat} (h : j ≠ i ∨ d ≠ k) (hc : j < i ∨ (j = i ∧ d < k + 1)) : j < i ∨ (j = i ∧ d < k) := hc.imp id fun x => ⟨x.1, (Nat.lt_or_eq_of_le (Nat.le_of_lt_succ x.2)).resolve_right fun e => h.elim (fun n => n x.1) (fun n => n e)⟩
theorem lt_row {j i c m : Nat} (hcm : c < m) (hc : j < i + 1 ∨ (j = i + 1 ∧ c < 0)) : j < i ∨ (j = i ∧ c < m) := (Nat.lt_or_eq_of_le (Nat.le_of_lt_succ (hc.resolve_right fun x => absurd x.2 (Nat.not_lt_zero _)))).imp id fun e => ⟨e, hcm⟩
theorem size_two {l1 l2 : List Value} {i k a b : Nat} (za : a ≤ 10) (hi : i < a + 1) (zb : b ≤ 10) (hk : k < b + 1) : (l1.take i ++ l2.take k).toArray.size ≤ sizeLine := by rw [sizeLine_eq, List.size_toArray, List.length_append, List.length_take, List.length_take]; omega
theorem size_le {l : List Value} (n : Nat) (h : l.length ≤ n) (hn : n ≤ 1000) : l.toArray.size ≤ sizeLine := by rw [sizeLine_eq, List.size_toArray]; omega
end Mine

end
/- C5 -/
section
open PySem PySem.W PyProof.Rows PySem.Calls PySem.Spec Builtin
set_option maxHeartbeats 4000000
namespace Mine
-- a def with cells
theorem lines_C5_1 : True := by
  k_with_none
  k_with "Mine.cellEnter" => (apply code_defC; rotate_left 5; exact rfl; exact rfl; assumption; rotate_right 5; k_asm; k_asm; k_asm; k_asm; k_asm; k_is; k_is; ktr_room; (first | exact BindsTo.of_eq rfl | exact binds_K (by k_in) rfl (by k_is) rfl rfl rfl); exact rfl; decide +kernel; rotate_left; exact rfl; exact rfl; exact rfl; k_whole)
  k_with "exec For Name Call cons nil" => (k_dflt (refine For_hold ?_))
  k_with "call builtin:len" => (k_dflt (apply len_at; k_asm; k_mem; assumption; omega))
  k_with "call type:range" => ((with_reducible show wpAny _ _ (call _ [Value.int _ _]) _ _ _); k_dflt (apply range1_at; k_asm; k_asm); intro _ _ _ _ _ _ _ l1; (try k_lt l1); revert l1; intro _)
  k_with "eval ListComp" => ((have hs : StopC := by assumption); clear hs; k_dflt (refine comp_hold (F₀ := by k_asm) (by with_unfolding_all rfl) (by decide) (by rfl) (by decide) (by rfl) ?_ (by intro _; rfl)))
  k_with "exec Assign cons ListComp" => (k_dflt (refine comp_holdA (F₀ := by k_asm) (by rfl) (by with_unfolding_all rfl) (by with_unfolding_all rfl) (by decide) (by rfl) (by decide) (by rfl) (by rfl) (by rfl) ?_ (by intro _; rfl)))
  k_with "exec Assign cons ListComp" => ((have hs : Stop := by assumption); clear hs; k_dflt (refine unhold ?_))
  k_with "binaryOp Add ref ref" => ((with_reducible show wpAny _ _ (binaryOp _ (Value.ref _) (Value.ref _)) _ _ _); k_dflt (apply kmk_add_lit; k_asm; k_asm; exact News.isList (by k_asm) (by k_mem); exact News.isList (by k_asm) (by k_mem); exact rfl; rotate_left; (rw [sizeLine_eq]; simp only [List.length_cons, List.length_append, List.length_nil, List.length_take]; omega)); intro _ _ _ N' l1; (try k_lt l1); (try dsimp only at N'); revert N' l1; intro _ _)
  k_with "subscriptTail Name Slice ref ref" => ((with_reducible show wpAny _ _ (subscriptTail _ (PySem.Expr.Slice _ _ none _) (Value.ref _) (Value.ref _)) _ _ _); k_dflt (apply kmk_slice_lit; k_asm; k_asm; exact News.isList (by k_asm) (by k_mem); kmk_part; kmk_part; (first | exact pick_upto_eq (by assumption) | assumption); rotate_left; with_unfolding_all rfl; kmk_pure; (rw [sizeLine_eq]; (try simp only [List.size_toArray, List.length_take]); omega)); intro _ _ _ _ l1; (try k_lt l1); revert l1; intro _)
  k_with "subscriptTail Subscript Slice ref ref" => ((with_reducible show wpAny _ _ (subscriptTail _ (PySem.Expr.Slice _ _ none _) (Value.ref _) (Value.ref _)) _ _ _); k_dflt (apply kmk_slice_lit; k_asm; k_asm; exact News.isList (by k_asm) (by k_mem); kmk_part; kmk_part; assumption; rotate_left; with_unfolding_all rfl; kmk_pure; (rw [sizeLine_eq]; simp only [List.size_toArray, List.length_take]; omega)); intro _ _ _ _ l1; (try k_lt l1); revert l1; intro _)
  k_with "subscriptTail" => ((with_reducible show wpAny _ _ (subscriptTail _ _ (Value.ref _) (Value.int _ _)) _ _ _); k_dflt (apply item_at; k_asm; k_mem; assumption; rotate_left; with_unfolding_all rfl; kmk_pure))
  k_with "subscriptTail" => ((with_reducible show wpAny _ _ (subscriptTail _ _ (Value.ref _) (Value.int _ _)) _ _ _); k_dflt (apply item_row; k_asm; k_mem; assumption; assumption; rotate_left; with_unfolding_all rfl; kmk_pure))
  k_with "subscriptTail" => ((with_reducible show wpAny _ _ (subscriptTail _ _ (Value.ref _) (Value.int (-1) _)) _ _ _); k_dflt (apply item_last; k_asm; k_mem; assumption; assumption; rotate_left; with_unfolding_all rfl; kmk_pure))
  k_with "setItem ref int" => (k_dflt (refine unhold ?_))
  k_with "Mine.ne" => first | (with_reducible assumption) | (exact Ne.symm (by with_reducible assumption)) | (with_reducible exact cg ( by assumption)) | (with_reducible exact cl' ( by assumption)) | (with_reducible exact cn ( by assumption)) | (with_reducible exact cm ( by assumption)) | (with_reducible exact cg (And.right ( by assumption))) | (with_reducible exact cl' (And.right ( by assumption))) | (with_reducible exact cn (And.right ( by assumption))) | (with_reducible exact cm (And.right ( by assumption))) | (with_reducible exact cg (And.right (And.right ( by assumption)))) | (with_reducible exact cl' (And.right (And.right ( by assumption)))) | (with_reducible exact cn (And.right (And.right ( by assumption)))) | (with_reducible exact cm (And.right (And.right ( by assumption)))) | (with_reducible exact cg (And.right (And.right (And.right ( by assumption))))) | (with_reducible exact cl' (And.right (And.right (And.right ( by assumption))))) | (with_reducible exact cn (And.right (And.right (And.right ( by assumption))))) | (with_reducible exact cm (And.right (And.right (And.right ( by assumption))))) | (with_reducible exact cg (And.right (And.right (And.right (And.right ( by assumption)))))) | (with_reducible exact cl' (And.right (And.right (And.right (And.right ( by assumption)))))) | (with_reducible exact cn (And.right (And.right (And.right (And.right ( by assumption)))))) | (with_reducible exact cm (And.right (And.right (And.right (And.right ( by assumption)))))) | (with_reducible exact cg (And.right (And.right (And.right (And.right (And.right ( by assumption))))))) | (with_reducible exact cl' (And.right (And.right (And.right (And.right (And.right ( by assumption))))))) | (with_reducible exact cn (And.right (And.right (And.right (And.right (And.right ( by assumption))))))) | (with_reducible exact cm (And.right (And.right (And.right (And.right (And.right ( by assumption))))))) | (with_reducible exact cg (And.right (And.right (And.right (And.right (And.right (And.right ( by assumption)))))))) | (with_reducible exact cl' (And.right (And.right (And.right (And.right (And.right (And.right ( by assumption)))))))) | (with_reducible exact cn (And.right (And.right (And.right (And.right (And.right (And.right ( by assumption)))))))) | (with_reducible exact cm (And.right (And.right (And.right (And.right (And.right (And.right ( by assumption)))))))) | (with_reducible exact cg (And.right (And.right (And.right (And.right (And.right (And.right (And.right ( by assumption))))))))) | (with_reducible exact cl' (And.right (And.right (And.right (And.right (And.right (And.right (And.right ( by assumption))))))))) | (with_reducible exact cn (And.right (And.right (And.right (And.right (And.right (And.right (And.right ( by assumption))))))))) | (with_reducible exact cm (And.right (And.right (And.right (And.right (And.right (And.right (And.right ( by assumption))))))))) | (with_reducible exact cg (And.right (And.right (And.right (And.right (And.right (And.right (And.right (And.right ( by assumption)))))))))) | (with_reducible exact cl' (And.right (And.right (And.right (And.right (And.right (And.right (And.right (And.right ( by assumption)))))))))) | (with_reducible exact cn (And.right (And.right (And.right (And.right (And.right (And.right (And.right (And.right ( by assumption)))))))))) | (with_reducible exact cm (And.right (And.right (And.right (And.right (And.right (And.right (And.right (And.right ( by assumption)))))))))) | (with_reducible exact cg (And.right (And.right (And.right (And.right (And.right (And.right (And.right (And.right (And.right ( by assumption))))))))))) | (with_reducible exact cl' (And.right (And.right (And.right (And.right (And.right (And.right (And.right (And.right (And.right ( by assumption))))))))))) | (with_reducible exact cn (And.right (And.right (And.right (And.right (And.right (And.right (And.right (And.right (And.right ( by assumption))))))))))) | (with_reducible exact cm (And.right (And.right (And.right (And.right (And.right (And.right (And.right (And.right (And.right ( by assumption))))))))))) | (with_reducible exact cg (And.right (And.right (And.right (And.right (And.right (And.right (And.right (And.right (And.right (And.right ( by assumption)))))))))))) | (with_reducible exact cl' (And.right (And.right (And.right (And.right (And.right (And.right (And.right (And.right (And.right (And.right ( by assumption)))))))))))) | (with_reducible exact cn (And.right (And.right (And.right (And.right (And.right (And.right (And.right (And.right (And.right (And.right ( by assumption)))))))))))) | (with_reducible exact cm (And.right (And.right (And.right (And.right (And.right (And.right (And.right (And.right (And.right (And.right ( by assumption)))))))))))) | (with_reducible exact cg (And.right (And.right (And.right (And.right (And.right (And.right (And.right (And.right (And.right (And.right (And.right ( by assumption))))))))))))) | (with_reducible exact cl' (And.right (And.right (And.right (And.right (And.right (And.right (And.right (And.right (And.right (And.right (And.right ( by assumption))))))))))))) | (with_reducible exact cn (And.right (And.right (And.right (And.right (And.right (And.right (And.right (And.right (And.right (And.right (And.right ( by assumption))))))))))))) | (with_reducible exact cm (And.right (And.right (And.right (And.right (And.right (And.right (And.right (And.right (And.right (And.right (And.right ( by assumption))))))))))))) | (with_reducible exact cg (And.right (And.right (And.right (And.right (And.right (And.right (And.right (And.right (And.right (And.right (And.right (And.right ( by assumption)))))))))))))) | (with_reducible exact cl' (And.right (And.right (And.right (And.right (And.right (And.right (And.right (And.right (And.right (And.right (And.right (And.right ( by assumption)))))))))))))) | (with_reducible exact cn (And.right (And.right (And.right (And.right (And.right (And.right (And.right (And.right (And.right (And.right (And.right (And.right ( by assumption)))))))))))))) | (with_reducible exact cm (And.right (And.right (And.right (And.right (And.right (And.right (And.right (And.right (And.right (And.right (And.right (And.right ( by assumption)))))))))))))) | (with_reducible exact cg (And.right (And.right (And.right (And.right (And.right (And.right (And.right (And.right (And.right (And.right (And.right (And.right (And.right ( by assumption))))))))))))))) | (with_reducible exact cl' (And.right (And.right (And.right (And.right (And.right (And.right (And.right (And.right (And.right (And.right (And.right (And.right (And.right ( by assumption))))))))))))))) | (with_reducible exact cn (And.right (And.right (And.right (And.right (And.right (And.right (And.right (And.right (And.right (And.right (And.right (And.right (And.right ( by assumption))))))))))))))) | (with_reducible exact cm (And.right (And.right (And.right (And.right (And.right (And.right (And.right (And.right (And.right (And.right (And.right (And.right (And.right ( by assumption))))))))))))))) | (with_reducible exact cg (And.right (And.right (And.right (And.right (And.right (And.right (And.right (And.right (And.right (And.right (And.right (And.right (And.right (And.right ( by assumption)))))))))))))))) | (with_reducible exact cl' (And.right (And.right (And.right (And.right (And.right (And.right (And.right (And.right (And.right (And.right (And.right (And.right (And.right (And.right ( by assumption)))))))))))))))) | (with_reducible exact cn (And.right (And.right (And.right (And.right (And.right (And.right (And.right (And.right (And.right (And.right (And.right (And.right (And.right (And.right ( by assumption)))))))))))))))) | (with_reducible exact cm (And.right (And.right (And.right (And.right (And.right (And.right (And.right (And.right (And.right (And.right (And.right (And.right (And.right (And.right ( by assumption)))))))))))))))) | omega
  exact trivial
local macro_rules | `(tactic| k_ne) => `(tactic| (refine neN ?_; (try dsimp only); walk_at "Mine.ne"))
local macro_rules | `(tactic| k_all) => `(tactic| exact offc_ne (by assumption) (by omega))
theorem lines_C5_2 : True := by
  k_with "call type:range" => ((with_reducible show wpAny _ _ (call _ [Value.int _ _]) _ _ _); k_dflt (apply range1_at; k_asm; k_asm); intro _ _ _ _ _ _ _ l1; (try k_lt l1); revert l1; intro _)
  exact trivial
theorem least_spec {w : World} {W : List Wd} (hW : Proper W) {u l : Addr} {lu ll : List Value} {us ls : List Wd} {nu nl : Nat} {head : Int} {th : Tok} {X : List (Addr × Obj)} (hu : Al (IsWord X) lu us) (hl : Al (IsWord X) ll ls) (hus : ∀ x ∈ us, x ∈ W) (hls : ∀ x ∈ ls, x ∈ W) (zu : us.length ≤ 10) (zl : ls.length ≤ 10) (hh : 0 ≤ head ∧ head ≤ 10) :
    SpecR w 780 1900 (.ref 208) [.ref u, .ref l, .int head th] ((u, listOf lu.toArray nu) :: (l, listOf ll.toArray nl) :: X) (fun v post => (∃ t, v = .int (dp us ls head us.length ls.length) t) ∧ post = []) := by
  intro p loose mean mg mb gd A₀ cn cs a ccd cl outer base h₀ L m s Q E R hk B F X₀ N T ret
  simp only [List.cons_append] at N
  refine wpAny_call ?_
  k_dflt (walk_at "Mine.cellEnter")
  intro g1 L1 hh1 tk1 cells FG1 FF1 NN1 Y1 B1 XX1 T1 lt1
  refine hide_post fun QQ EE hQQ hEE => ?_
  have hY := kc_five Y1
  obtain ⟨oEn, oI, oTb, oK, oLo, hE, dEn, dI, dTb, dK, dLo⟩ := hY
  subst hE
  have dLo' : oLo.data = .cell (some (.ref l)) := dLo
  have dK' : oK.data = .cell none := dK
  have dTb' : oTb.data = .cell none := dTb
  have dI' : oI.data = .cell none := dI
  have dEn' : oEn.data = .cell none := dEn
  clear dLo dK dTb dI dEn Y1
  have FF2 := knows [("upper", .ref u), ("head", .int head th)] FF1 (fun p hp => by
    simp only [List.mem_cons, List.not_mem_nil, or_false] at hp
    rcases hp with rfl | rfl <;> rfl)
  clear FF1
  simp only [List.cons_append, List.nil_append] at NN1
  have y1 := hu.1
  have y2 := hl.1
  have hT1 : AllLt L1 (X ++ R) := allLt_of fun q hq => lt1 q (.tail _ (.tail _ hq))
  have hu1 : @LT.lt Nat _ u L1 := lt1 _ (.head _)
  have hl1 : @LT.lt Nat _ l L1 := lt1 _ (.tail _ (.head _))
  have hstopC : StopC := .mk
  k_steps
  unfold Hold
  rename Fr _ _ _ _ => FF
  rename News _ _ _ _ => NN
  refine LCg.CompSrc.range (n := us.length + 1) rfl FF NN (News.get NN (by k_mem)) (range_small (by omega)) (range_size (by omega)) (by rw [sizeLine_eq]; omega) fun gg => ?_
  generalize hbase : (_, rangeO _ _ _ _ _) :: (L1 + 1 + 1 + 1 + 1 + 1, oEn) :: (L1 + 1 + 1 + 1 + 1, oI) :: (L1 + 1 + 1 + 1, oTb) :: (L1 + 1 + 1, oK) :: (L1 + 1, oLo) :: (u, listOf lu.toArray nu) :: (l, listOf ll.toArray nl) :: (X ++ R) = base9 at *
  have hbLo : (L1 + 1, oLo) ∈ base9 := by rw [← hbase]; walk_at "Mine.mem"
  have hbL : (l, listOf ll.toArray nl) ∈ base9 := by rw [← hbase]; walk_at "Mine.mem"
  refine comp_rest (us.length + 1) (fun i ys news => ∃ rows, news = rows ++ base9 ∧ TabAt rows ys i (ls.length + 1) (fun _ _ _ => True) ∧ (∀ q ∈ rows, L1 + 5 < q.1)) (fun _ _ _ _ => trivial) ?_ ?_ _ 0 [] base9 (by omega) ⟨[], rfl, ⟨rfl, fun i hi => absurd hi (Nat.not_lt_zero _), fun i j r h => by simp at h⟩, fun _ h => nomatch h⟩
  · intro i v ys news I oI' C oC D m₂ h tk E' hi zzp14 zzp15 hC hx Ft Nt off ne TT hT
    obtain ⟨rows, rfl, ht, hrows⟩ := zzp14
    obtain ⟨t, rfl⟩ := zzp15
    have Nt2 := up (up Nt (x := (L1 + 1, oLo)) (.tail _ (.tail _ (.tail _ (List.mem_append_right _ hbLo))))) (x := (l, listOf ll.toArray nl)) (.tail _ (.tail _ (.tail _ (.tail _ (List.mem_append_right _ hbL)))))
    clear Nt FF NN FF2 NN1
    k_steps
    rename Fr _ _ _ _ => F8
    rename News _ _ _ _ => N8
    rename (_ < _) ∧ (_ < _) ∧ (_ < _) ∧ (_ < _) ∧ (_ < _) ∧ (_ < _) ∧ AllLt _ _ => lt8
    rename (List.flatten _).toArray.size = _ => s8
    rename 0 ≤ _ → _ => s9
    have sz := s9 (by omega)
    refine hT _ _ _ ((_, listOf (List.replicate ((ls.length : Int) + 1).toNat [Value.int 0 tk]).flatten.toArray 0) :: (rows ++ base9)) F8 (sub N8 (by walk_at "Mine.sub")) (off3_cons off ⟨lt8.2.2.2.1, lt8.2.2.2.2.1, lt8.2.2.2.2.2.1⟩) ⟨(_, listOf (List.replicate ((ls.length : Int) + 1).toNat [Value.int 0 tk]).flatten.toArray 0) :: rows, rfl,
      ht.snoc (fun q hq => lt_of_all lt8.2.2.2.2.2.2 q (List.mem_append_left _ hq)) ⟨rfl, _, rfl⟩ (by simp) (fun c hc => ⟨0, tk, ?_⟩), fun q hq => ?_⟩
    · rw [flat_rep, List.getElem?_replicate, if_pos (by omega)]
    · rcases List.mem_cons.mp hq with rfl | hq
      · exact cell5 (lt_of_all lt8.2.2.2.2.2.2 (L1 + 1 + 1 + 1 + 1 + 1, oEn) (List.mem_append_right _ (by rw [← hbase]; walk_at "Mine.mem")))
      · exact hrows q hq
  · rintro ys news ⟨rows, rfl, ht, hrows⟩
    intro D9 h9 tk9 F9 N9 off9
    dsimp only
    have hD9 : ∀ q ∈ rows ++ base9, q.1 ≠ D9 := off1_ne off9
    have hrowsD : ∀ q ∈ rows, q.1 ≠ D9 ∧ ∀ y ∈ (u, listOf lu.toArray nu) :: (l, listOf ll.toArray nl) :: (X ++ R), y.1 ≠ q.1 := fun q hq => ⟨hD9 q (List.mem_append_left _ hq), fun y hy => apart_of (lt1 y hy) (hrows q hq)⟩
    have hoff : OffC L1 ((D9, LCg.lst ys) :: (rows ++ (u, listOf lu.toArray nu) :: (l, listOf ll.toArray nl) :: (X ++ R))) := by
      intro q hq
      rcases List.mem_cons.mp hq with rfl | hq
      · exact offc_of (hD9 (L1 + 1, oLo) (List.mem_append_right _ (by rw [← hbase]; walk_at "Mine.mem"))) (hD9 (L1 + 1 + 1, oK) (List.mem_append_right _ (by rw [← hbase]; walk_at "Mine.mem"))) (hD9 (L1 + 1 + 1 + 1, oTb) (List.mem_append_right _ (by rw [← hbase]; walk_at "Mine.mem"))) (hD9 (L1 + 1 + 1 + 1 + 1, oI) (List.mem_append_right _ (by rw [← hbase]; walk_at "Mine.mem"))) (hD9 (L1 + 1 + 1 + 1 + 1 + 1, oEn) (List.mem_append_right _ (by rw [← hbase]; walk_at "Mine.mem")))
      rcases List.mem_append.mp hq with hq | hq
      · exact .inr (hrows q hq)
      · exact .inl (Nat.le_of_lt (lt1 q hq))
    have ht0 : TabAt rows ys (us.length + 1) (ls.length + 1) (fun j c x => (j < 0 ∨ (j = 0 ∧ c < 0)) → x = dp us ls head j c) := ht.mono (fun _ h => h) fun j c x _ _ h => nolt h
    have N10 : News g1 L1 h9 ((L1 + 1 + 1 + 1 + 1 + 1, oEn) :: (L1 + 1 + 1 + 1 + 1, oI) :: (L1 + 1 + 1 + 1, oTb) :: (L1 + 1 + 1, oK) :: (L1 + 1, oLo) :: (D9, LCg.lst ys) :: (rows ++ (u, listOf lu.toArray nu) :: (l, listOf ll.toArray nl) :: (X ++ R))) := by
      rw [← hbase] at N9
      exact sub N9 (by walk_at "Mine.sub")
    generalize hY : (u, listOf lu.toArray nu) :: (l, listOf ll.toArray nl) :: (X ++ R) = Y9 at *
    have hYu : (u, listOf lu.toArray nu) ∈ Y9 := by rw [← hY]; exact .head _
    have hYl : (l, listOf ll.toArray nl) ∈ Y9 := by rw [← hY]; exact .tail _ (.head _)
    have hYX : ∀ q ∈ X, q ∈ Y9 := fun q hq => by rw [← hY]; exact .tail _ (.tail _ (List.mem_append_left _ hq))
    have hYR : ∀ q ∈ R, q ∈ Y9 := fun q hq => by rw [← hY]; exact .tail _ (.tail _ (List.mem_append_right _ hq))
    generalize hZ : (D9, LCg.lst ys) :: (rows ++ Y9) = Z9 at *
    have F10 := knows [("upper", .ref u), ("head", .int head th)] F9 (fun p hp => by
      simp only [List.mem_cons, List.not_mem_nil, or_false] at hp
      rcases hp with rfl | rfl <;> rfl)
    clear FF NN FF2 NN1 N9 F9
    have hZu : (u, listOf lu.toArray nu) ∈ Z9 := by rw [← hZ]; exact .tail _ (List.mem_append_right _ hYu)
    replace N10 := up N10 (x := (u, listOf lu.toArray nu)) (.tail _ (.tail _ (.tail _ (.tail _ (.tail _ hZu)))))
    k_steps
    unfold Hold
    rename Fr _ _ _ _ => FF
    rename News _ _ _ _ => NN
    rename Obj => oTb2
    rename _ = Data.cell (some (Value.ref D9)) => dTb2
    refine for_rangeG (n := us.length + 1) (fun i g m' news' => g = s.gens ∧ m' "upper" = some (.ref u) ∧ m' "head" = some (.int head th) ∧ ∃ vI, LInv us ls head L1 D9 oTb2 oLo ys Y9 i 0 vI news') rfl (News.get NN (by k_mem)) (range_small (by omega)) (range_size (by omega)) (fun _ _ => rfl) FF
      (news := (L1 + 1 + 1 + 1 + 1 + 1, oEn) :: (L1 + 1 + 1 + 1 + 1, oI) :: (L1 + 1 + 1 + 1, oTb2) :: (L1 + 1 + 1, oK) :: (L1 + 1, oLo) :: Z9) (sub NN (by walk_at "Mine.sub")) ⟨rfl, rfl, rfl, none, oEn, oI, oK, none, none, rows, by rw [hZ], dEn', dI', dK', ht0, by rw [hZ]; exact hoff, hrowsD⟩ ?_ ?_
    · clear FF NN hZ hoff hZu ht0 hrowsD ht dEn' dI' dK'
      intro i g m₁ news₁ it oi h tk tt hi zzp10 F1 N1 hit TA hTA hRA
      obtain ⟨rfl, hm1, hm2, vI, oEn2, oI2, oK2, vEn, vK, rows2, rfl, dEn2, dI2, dK2, ht2, hoff2, hrd2⟩ := zzp10
      have F2 := knows [("upper", .ref u), ("head", .int head th)] F1 (by simp [hm1, hm2])
      have c5 := neN (hit _ (.head _))
      have c4 := neN (hit _ (.tail _ (.head _)))
      have c3 := neN (hit _ (.tail _ (.tail _ (.head _))))
      have c2 := neN (hit _ (.tail _ (.tail _ (.tail _ (.head _)))))
      have c1 := neN (hit _ (.tail _ (.tail _ (.tail _ (.tail _ (.head _))))))
      dsimp only at c1 c2 c3 c4 c5
      generalize hZ2 : (D9, LCg.lst ys) :: (rows2 ++ Y9) = Z2 at *
      have hZl : (l, listOf ll.toArray nl) ∈ Z2 := by rw [← hZ2]; exact .tail _ (List.mem_append_right _ hYl)
      have lo1 : @LT.lt Nat _ l L1 := hl1
      have N2 := up N1 (x := (l, listOf ll.toArray nl)) (.tail _ (.tail _ (.tail _ (.tail _ (.tail _ (.tail _ hZl))))))
      clear F1 N1
      k_steps
      unfold Hold
      rename Fr _ _ _ _ => FF
      rename News _ _ _ _ => NN
      rename Obj => oI3
      rename _ = Data.cell (some (Value.int (0 + (i : Int)) tt)) => dI3
      have hitr : ∀ q ∈ rows2, q.1 ≠ it := fun q hq => hit q (.tail _ (.tail _ (.tail _ (.tail _ (.tail _ (by rw [← hZ2]; exact .tail _ (List.mem_append_left _ hq)))))))
      have hitD : D9 ≠ it := hit (D9, LCg.lst ys) (.tail _ (.tail _ (.tail _ (.tail _ (.tail _ (by rw [← hZ2]; exact .head _))))))
      have hitY : ∀ q ∈ Y9, q.1 ≠ it := fun q hq => hit q (.tail _ (.tail _ (.tail _ (.tail _ (.tail _ (by rw [← hZ2]; exact .tail _ (List.mem_append_right _ hq)))))))
      have hoff3 : OffC L1 ((D9, LCg.lst ys) :: (rows2 ++ (it, oi) :: Y9)) := by
        intro q hq
        rcases List.mem_cons.mp hq with rfl | hq
        · exact hoff2 _ (by rw [← hZ2]; exact .head _)
        rcases List.mem_append.mp hq with hq | hq
        · exact hoff2 _ (by rw [← hZ2]; exact .tail _ (List.mem_append_left _ hq))
        rcases List.mem_cons.mp hq with rfl | hq
        · exact offc_of c1 c2 c3 c4 c5
        · exact hoff2 _ (by rw [← hZ2]; exact .tail _ (List.mem_append_right _ hq))
      have hrd3 : ∀ q ∈ rows2, q.1 ≠ D9 ∧ ∀ y ∈ (it, oi) :: Y9, y.1 ≠ q.1 := fun q hq => ⟨(hrd2 q hq).1, fun y hy => by
        rcases List.mem_cons.mp hy with rfl | hy
        · exact Ne.symm (hitr q hq)
        · exact (hrd2 q hq).2 y hy⟩
      rw [← hZ2] at NN
      have N3 := sub (l' := (L1 + 1 + 1 + 1 + 1 + 1, oEn2) :: (L1 + 1 + 1 + 1 + 1, oI3) :: (L1 + 1 + 1 + 1, oTb2) :: (L1 + 1 + 1, oK2) :: (L1 + 1, oLo) :: ((D9, LCg.lst ys) :: (rows2 ++ (it, oi) :: Y9))) NN (by walk_at "Mine.sub")
      refine for_rangeG (n := ls.length + 1) (fun k g m' news' => g = s.gens ∧ m' "upper" = some (.ref u) ∧ m' "head" = some (.int head th) ∧ LInv us ls head L1 D9 oTb2 oLo ys ((it, oi) :: Y9) i k (some (.int (0 + (i : Int)) tt)) news') rfl (News.get NN (by k_mem)) (range_small (by omega)) (range_size (by omega)) (fun _ _ => rfl) FF N3
        ⟨rfl, rfl, rfl, oEn2, oI3, oK2, vEn, vK, rows2, rfl, dEn2, dI3, dK2, ht2, hoff3, hrd3⟩ ?_ ?_
      · clear FF NN N3 hoff3 hoff2 hrd3 hrd2 hitr hZl hZ2 N2 ht2 dEn2 dI2 dI3 dK2
        intro k g m₁ news₁ it2 oi2 h tk tt2 hk2 zzp10 F1 N1 hit4 TB hTB hRB
        obtain ⟨rfl, hm1, hm2, oEn4, oI4, oK4, vEn4, vK4, rows4, rfl, dEn4, dI4, dK4, ht4, hoff4, hrd4⟩ := zzp10
        have F4 := knows [("upper", .ref u), ("head", .int head th)] F1 (by simp [hm1, hm2])
        have c5' := neN (hit4 _ (.head _))
        have c4' := neN (hit4 _ (.tail _ (.head _)))
        have c3' := neN (hit4 _ (.tail _ (.tail _ (.head _))))
        have c2' := neN (hit4 _ (.tail _ (.tail _ (.tail _ (.head _)))))
        have c1' := neN (hit4 _ (.tail _ (.tail _ (.tail _ (.tail _ (.head _))))))
        dsimp only at c1' c2' c3' c4' c5'
        generalize hZ4 : (D9, LCg.lst ys) :: (rows4 ++ (it, oi) :: Y9) = Z4 at *
        have hZl : (l, listOf ll.toArray nl) ∈ Z4 := by rw [← hZ4]; exact .tail _ (List.mem_append_right _ (.tail _ hYl))
        have hZu : (u, listOf lu.toArray nu) ∈ Z4 := by rw [← hZ4]; exact .tail _ (List.mem_append_right _ (.tail _ hYu))
        have lo1 : @LT.lt Nat _ l L1 := hl1
        have lo2 : @LT.lt Nat _ u L1 := hu1
        have e1 : (0 + (i : Int)) = ((i : Nat) : Int) := by omega
        have e2 : (0 + (k : Int)) = ((k : Nat) : Int) := by omega
        have N4 := up (up N1 (x := (l, listOf ll.toArray nl)) (.tail _ (.tail _ (.tail _ (.tail _ (.tail _ (.tail _ hZl))))))) (x := (u, listOf lu.toArray nu)) (.tail _ (.tail _ (.tail _ (.tail _ (.tail _ (.tail _ (.tail _ hZu)))))))
        clear F1 N1
        k_steps
        unfold Hold
        rename Fr _ _ _ _ => FF
        rename News _ _ _ _ => NN
        rename Obj => oK5
        rename _ = Data.cell (some (Value.int (0 + (k : Int)) tt2)) => dK5
        have hal : Al (IsWord X) (lu.take i ++ ll.take k) (us.take i ++ ls.take k) := (hu.take i).append (hl.take k)
        have hlen := hal.1
        refine LCg.CompSrc.ledger (its := (lu.take i ++ ll.take k).toArray) (k := 0) rfl FF NN (by k_mem) (size_two zu hi zl hk2) fun gg => ?_
        generalize hb5 : (_, listOf (lu.take i ++ ll.take k).toArray 0) :: (_, listOf (ll.take k).toArray 0) :: (_, listOf (lu.take i).toArray 0) :: (u, listOf lu.toArray nu) :: (l, listOf ll.toArray nl) :: (it2, oi2) :: (L1 + 1 + 1 + 1 + 1 + 1, oEn4) :: (L1 + 1 + 1 + 1 + 1, oI4) :: (L1 + 1 + 1 + 1, oTb2) :: (L1 + 1 + 1, oK5) :: (L1 + 1, oLo) :: Z4 = b5 at *
        have hZ4b : ∀ q ∈ Z4, q ∈ b5 := by rw [← hb5]; walk_at "Mine.sub"
        have hY9b : ∀ q ∈ X, q ∈ b5 := fun q hq => hZ4b q (by rw [← hZ4]; exact .tail _ (List.mem_append_right _ (.tail _ (hYX q hq))))
        refine comp_rest _ (fun j ys news => news = b5 ∧ IntsAre ys (((us.take i ++ ls.take k).take j).map (·.sg))) (fun _ _ _ h => .inr ⟨_, by rw [h.1, ← hb5]; exact .head _, rfl, 0, rfl⟩) ?_ ?_ _ 0 [] b5 (Nat.zero_add _) ⟨rfl, .nil⟩
        · intro j v ys5 news I oI' C oC D m₂ h tk E' hj zzp14 hv hC hx Ft Nt off ne TT hT
          obtain ⟨rfl, hys⟩ := zzp14
          obtain ⟨x, hx2, e, t1, t2, t3, t4, t5, rfl, he⟩ := hal.get (by simpa using hv)
          have Nt2 := up Nt (x := (e, tupO [.int 1 t1, .int x.sg t2, .int x.pr t3, .int x.pl t4, .str x.tx t5])) (.tail _ (.tail _ (.tail _ (hY9b _ he))))
          clear FF NN Nt F4 N4
          k_steps
          exact hT _ _ _ news Ft (sub Nt2 (by walk_at "Mine.sub")) off ⟨rfl, by rw [take_snoc hx2, List.map_append]; exact ints_snoc hys⟩
        · rintro ys5 news ⟨rfl, hys⟩
          intro D5 h5 tk5 F5 N5 off5
          clear FF NN F4 N4
          subst hb5
          simp only [LCg.Off1, and_true] at off5
          dsimp only
          rw [List.take_of_length_le (Nat.le_of_eq (by rw [List.size_toArray, hlen]))] at hys
          have hsum : (List.map (fun x : Wd => x.sg) (us.take i ++ ls.take k)).sum = sgs (us.take i) + sgs (ls.take k) := sgs_append _ _
          have hstop : Stop := .mk
          k_steps
          unfold Hold
          rename Stop => hstopA
          clear hstopA
          rename Fr _ _ _ _ => FF
          rename News _ _ _ _ => NN
          rename Obj => oE6
          rename _ = Data.cell (some (Value.int (head + _) _)) => dE6
          rw [hsum] at dE6
          have hbnd := endAt_bound hW hus hls zu zl hh i k
          unfold endAt at hbnd
          have hmul : ∀ q : Int, IntMulOk q (head + (sgs (us.take i) + sgs (ls.take k))) := fun q => .of_right (intBits_le_64 (by omega) (by omega))
          -- the row that is filled, and what is read
          obtain ⟨rI, oRI, lI, hrI, hmI, hoI, hlI, hvI⟩ := ht4.2.1 i hi
          have hi9 := lt1000 zu hi
          have hk9 := lt1000 zl hk2
          have atI : At ys (0 + (i : Int)) (.ref rI) := at_cast hi9 hrI
          have up0 : ∀ q ∈ rows4, q ∈ Z4 := fun q hq => by rw [← hZ4]; exact .tail _ (List.mem_append_left _ hq)
          have upT : (D9, LCg.lst ys) ∈ Z4 := by rw [← hZ4]; exact .head _
          have upX : ∀ q ∈ X, q ∈ Z4 := fun q hq => by rw [← hZ4]; exact .tail _ (List.mem_append_right _ (.tail _ (hYX q hq)))
          obtain ⟨lastU, hpU, hcU⟩ := last_word hu i (Nat.le_of_lt_succ hi)
          obtain ⟨wU, hwU⟩ : ∃ wU : List Int, wU = (if i = 0 then [] else [dp us ls head (i - 1) k + prAt us (i - 1) * (head + (sgs (us.take i) + sgs (ls.take k)))]) := ⟨_, rfl⟩
          obtain ⟨lastL, hpL, hcL⟩ := last_word hl k (Nat.le_of_lt_succ hk2)
          obtain ⟨wL, hwL⟩ : ∃ wL : List Int, wL = (if k = 0 then [] else [dp us ls head i (k - 1) + prAt ls (k - 1) * (head + (sgs (us.take i) + sgs (ls.take k)))]) := ⟨_, rfl⟩
          have zU : lastU.length ≤ 1 := by rcases hcU with ⟨_, rfl⟩ | ⟨_, _, _, _, _, _, _, _, rfl, _⟩ <;> simp
          have zL : lastL.length ≤ 1 := by rcases hcL with ⟨_, rfl⟩ | ⟨_, _, _, _, _, _, _, _, rfl, _⟩ <;> simp
          have zwU : wU.length = lastU.length := by rcases hcU with ⟨e, rfl⟩ | ⟨e, _, _, _, _, _, _, _, rfl, _⟩ <;> simp [hwU, e]
          have zwL : wL.length = lastL.length := by rcases hcL with ⟨e, rfl⟩ | ⟨e, _, _, _, _, _, _, _, rfl, _⟩ <;> simp [hwL, e]
          have N6 := sub (l' := (D9, LCg.lst ys) :: (rI, oRI) :: (u, listOf lu.toArray nu) :: (l, listOf ll.toArray nl) :: (it2, oi2) :: (L1 + 1 + 1 + 1 + 1 + 1, oE6) :: (L1 + 1 + 1 + 1 + 1, oI4) :: (L1 + 1 + 1 + 1, oTb2) :: (L1 + 1 + 1, oK5) :: (L1 + 1, oLo) :: Z4) NN (mc (.tail _ (.tail _ (.tail _ (.tail _ (.tail _ (.tail _ (.tail _ (.tail _ (.tail _ (.tail _ (.tail _ (.tail _ upT)))))))))))) (mc (.tail _ (.tail _ (.tail _ (.tail _ (.tail _ (.tail _ (.tail _ (.tail _ (.tail _ (.tail _ (.tail _ (.tail _ (up0 _ hmI))))))))))))) (by walk_at "Mine.sub")))
          clear NN
          k_steps
          unfold Hold
          rename Fr _ _ _ _ => FF
          rename News _ _ _ _ => NN
          refine LCg.CompSrc.ledger (its := lastU.toArray) (k := 0) rfl FF NN (by k_mem) (size_le 1 zU (by decide)) fun gg => ?_
          generalize hb6 : (_, listOf lastU.toArray 0) :: (_, listOf (lu.take i).toArray 0) :: (D9, LCg.lst ys) :: (rI, oRI) :: (u, listOf lu.toArray nu) :: (l, listOf ll.toArray nl) :: (it2, oi2) :: (L1 + 1 + 1 + 1 + 1 + 1, oE6) :: (L1 + 1 + 1 + 1 + 1, oI4) :: (L1 + 1 + 1 + 1, oTb2) :: (L1 + 1 + 1, oK5) :: (L1 + 1, oLo) :: Z4 = b6 at *
          refine comp_rest _ (fun j ys news => news = b6 ∧ IntsAre ys (wU.take j)) (fun _ _ _ h => .inr ⟨_, by rw [h.1, ← hb6]; exact .head _, rfl, 0, rfl⟩) ?_ ?_ _ 0 [] b6 (Nat.zero_add _) ⟨rfl, .nil⟩
          · intro j v ys5 news I oI' C oC D m₂ h tk E' hj zzp14 hv hC hx Ft Nt off ne TT hT
            obtain ⟨rfl, hys⟩ := zzp14
            rcases hcU with ⟨_, rfl⟩ | ⟨hi0, x, e, t1, t2, t3, t4, t5, rfl, hx2, he⟩
            · simp at hj
            have hj0 : j = 0 := by simp at hj; omega
            subst hj0
            have hv' : v = .ref e := by simpa using hv.symm
            subst hv'
            obtain ⟨rP, oRP, lP, hrP, hmP, hoP, hlP, hvP⟩ := ht4.2.1 (i - 1) (Nat.lt_of_le_of_lt (Nat.sub_le _ _) hi)
            obtain ⟨xP, tP, hxP, hfP⟩ := hvP k hk2
            have hfP' := hfP (.inl (Nat.sub_one_lt hi0))
            have atP : At ys (0 + (i : Int) - 1) (.ref rP) := at_pred hi0 hi9 hrP
            have atPk : At lP (0 + (k : Int)) (.int xP tP) := at_cast hk9 hxP
            have hmx := hmul x.pr
            have Nt2 := up (up Nt (x := (e, tupO [.int 1 t1, .int x.sg t2, .int x.pr t3, .int x.pl t4, .str x.tx t5])) (.tail _ (.tail _ (.tail _ (by rw [← hb6]; exact .tail _ (.tail _ (.tail _ (.tail _ (.tail _ (.tail _ (.tail _ (.tail _ (.tail _ (.tail _ (.tail _ (.tail _ (upX _ he))))))))))))))))) (x := (rP, oRP)) (.tail _ (.tail _ (.tail _ (.tail _ (by rw [← hb6]; exact .tail _ (.tail _ (.tail _ (.tail _ (.tail _ (.tail _ (.tail _ (.tail _ (.tail _ (.tail _ (.tail _ (.tail _ (up0 _ hmP)))))))))))))))))
            subst hb6
            clear FF NN Nt N6
            k_steps
            rename Fr _ _ _ _ => F8
            rename News _ _ _ _ => N8
            refine hT _ _ _ _ F8 (sub N8 (by walk_at "Mine.sub")) off ⟨rfl, ?_⟩
            have e8 : wU.take (0 + 1) = wU.take 0 ++ [dp us ls head (i - 1) k + x.pr * (head + (sgs (us.take i) + sgs (ls.take k)))] := by
              have : prAt us (i - 1) = x.pr := by unfold prAt; rw [hx2]
              rw [hwU, if_neg hi0, this]; rfl
            rw [e8, ← hfP']
            exact ints_snoc hys
          · rintro ys6 news ⟨rfl, hys6⟩
            intro D6 h6 tk6 F6 N6 off6
            clear FF NN
            subst hb6
            simp only [LCg.Off1, and_true] at off6
            dsimp only
            rw [List.take_of_length_le (by rw [zwU]; simp)] at hys6
            have z6 : ys6.length ≤ 1 := by rw [hys6.length, zwU]; exact zU
            k_steps
            unfold Hold
            rename Fr _ _ _ _ => FF
            rename News _ _ _ _ => NN
            replace NN := sub (l' := (_, listOf lastL.toArray 0) :: (D6, LCg.lst ys6) :: (D9, LCg.lst ys) :: (rI, oRI) :: (u, listOf lu.toArray nu) :: (l, listOf ll.toArray nl) :: (it2, oi2) :: (L1 + 1 + 1 + 1 + 1 + 1, oE6) :: (L1 + 1 + 1 + 1 + 1, oI4) :: (L1 + 1 + 1 + 1, oTb2) :: (L1 + 1 + 1, oK5) :: (L1 + 1, oLo) :: Z4) NN (by walk_at "Mine.sub")
            refine LCg.CompSrc.ledger (its := lastL.toArray) (k := 0) rfl FF NN (by k_mem) (size_le 1 zL (by decide)) fun gg => ?_
            generalize hb7 : (_, listOf lastL.toArray 0) :: (D6, LCg.lst ys6) :: (D9, LCg.lst ys) :: (rI, oRI) :: (u, listOf lu.toArray nu) :: (l, listOf ll.toArray nl) :: (it2, oi2) :: (L1 + 1 + 1 + 1 + 1 + 1, oE6) :: (L1 + 1 + 1 + 1 + 1, oI4) :: (L1 + 1 + 1 + 1, oTb2) :: (L1 + 1 + 1, oK5) :: (L1 + 1, oLo) :: Z4 = b7 at *
            refine comp_rest _ (fun j ys news => news = b7 ∧ IntsAre ys (wL.take j)) (fun _ _ _ h => .inr ⟨_, by rw [h.1, ← hb7]; exact .head _, rfl, 0, rfl⟩) ?_ ?_ _ 0 [] b7 (Nat.zero_add _) ⟨rfl, .nil⟩
            · intro j v ys5 news I oI' C oC D m₂ h tk E' hj zzp14 hv hC hx Ft Nt off ne TT hT
              obtain ⟨rfl, hys⟩ := zzp14
              rcases hcL with ⟨_, rfl⟩ | ⟨hk0, x, e, t1, t2, t3, t4, t5, rfl, hx2, he⟩
              · simp at hj
              have hj0 : j = 0 := by simp at hj; omega
              subst hj0
              have hv' : v = .ref e := by simpa using hv.symm
              subst hv'
              obtain ⟨xP, tP, hxP, hfP⟩ := hvI (k - 1) (Nat.lt_of_le_of_lt (Nat.sub_le _ _) hk2)
              have hfP' := hfP (.inr ⟨rfl, Nat.sub_one_lt hk0⟩)
              have atPk : At lI (0 + (k : Int) - 1) (.int xP tP) := at_pred hk0 hk9 hxP
              have hmx := hmul x.pr
              have Nt2 := up Nt (x := (e, tupO [.int 1 t1, .int x.sg t2, .int x.pr t3, .int x.pl t4, .str x.tx t5])) (.tail _ (.tail _ (.tail _ (by rw [← hb7]; exact .tail _ (.tail _ (.tail _ (.tail _ (.tail _ (.tail _ (.tail _ (.tail _ (.tail _ (.tail _ (.tail _ (.tail _ (upX _ he))))))))))))))))
              subst hb7
              clear FF NN Nt N6
              k_steps
              rename Fr _ _ _ _ => F8
              rename News _ _ _ _ => N8
              refine hT _ _ _ _ F8 (sub N8 (by walk_at "Mine.sub")) off ⟨rfl, ?_⟩
              have e8 : wL.take (0 + 1) = wL.take 0 ++ [dp us ls head i (k - 1) + x.pr * (head + (sgs (us.take i) + sgs (ls.take k)))] := by
                have : prAt ls (k - 1) = x.pr := by unfold prAt; rw [hx2]
                rw [hwL, if_neg hk0, this]; rfl
              rw [e8, ← hfP']
              exact ints_snoc hys
            · rintro ys7 news ⟨rfl, hys7⟩
              intro D7 h7 tk7 F7 N7 off7
              clear FF NN N6
              subst hb7
              simp only [LCg.Off1, and_true] at off7
              dsimp only
              rw [List.take_of_length_le (by rw [zwL]; simp)] at hys7
              have z7 : ys7.length ≤ 1 := by rw [hys7.length, zwL]; exact zL
              rename StopC => hstopB
              clear hstopB hcU hcL off6 off5 off9 hD9 
              have hys67 : IntsAre (ys6 ++ ys7) (wU ++ wL) := hys6.append hys7
              have zw : 0 < (wU ++ wL ++ (List.replicate (if (0 + (i : Int) + (0 + (k : Int)) == 0) = true then 1 else 0 : Int).toNat [(0 : Int)]).flatten).length := min_pos hwU hwL
              k_steps
              unfold Hold
              rename Fr _ _ _ _ => FF
              rename News _ _ _ _ => NN
              have hM := min_is hwU hwL (by assumption) (by assumption)
              have hrIoff := hoff4 (rI, oRI) (up0 _ hmI)
              refine list_set' FF NN (by walk_at "Mine.mem") hoI e2 (by omega) (by omega) fun h8 o8 F8 N8 hR8 => ?_
              have hZit : ∀ q ∈ Z4, q.1 ≠ it2 := fun q hq => hit4 q (.tail _ (.tail _ (.tail _ (.tail _ (.tail _ hq)))))
              have nit := nits hrIoff
              have hmem4 : ∀ q ∈ (D9, LCg.lst ys) :: (rows4 ++ (it, oi) :: Y9), q ∈ Z4 := by rw [hZ4]; exact mr
              have N9 := N8 ((L1 + 1 + 1 + 1 + 1 + 1, oE6) :: (L1 + 1 + 1 + 1 + 1, oI4) :: (L1 + 1 + 1 + 1, oTb2) :: (L1 + 1 + 1, oK5) :: (L1 + 1, oLo) :: (it2, oi2) :: (D9, LCg.lst ys) :: (rows4.filter (fun q => q.1 != rI) ++ (it, oi) :: Y9)) (by
                intro q hq
                simp only [List.mem_cons, List.mem_append, List.mem_filter] at hq
                rcases hq with rfl | rfl | rfl | rfl | rfl | rfl | rfl | ⟨hq, hne⟩ | rfl | hq
                · exact ⟨by walk_at "Mine.mem", nit.2.2.2.2⟩
                · exact ⟨by walk_at "Mine.mem", nit.2.2.2.1⟩
                · exact ⟨by walk_at "Mine.mem", nit.2.2.1⟩
                · exact ⟨by walk_at "Mine.mem", nit.2.1⟩
                · exact ⟨by walk_at "Mine.mem", nit.1⟩
                · exact ⟨by walk_at "Mine.mem", Ne.symm (hZit _ (up0 _ hmI))⟩
                · exact ⟨by walk_at "Mine.mem", Ne.symm (hrd4 _ hmI).1⟩
                · exact ⟨(by walk_at "Mine.sub" : ∀ q ∈ Z4, q ∈ _) q (up0 q hq), by simpa using hne⟩
                · exact ⟨(by walk_at "Mine.sub" : ∀ q ∈ Z4, q ∈ _) _ (hmem4 _ (.tail _ (List.mem_append_right _ (.head _)))), (hrd4 _ hmI).2 _ (.head _)⟩
                · exact ⟨(by walk_at "Mine.sub" : ∀ q ∈ Z4, q ∈ _) _ (hmem4 _ (.tail _ (List.mem_append_right _ (.tail _ hq)))), (hrd4 _ hmI).2 _ (.tail _ hq)⟩)
              clear NN FF
              k_steps
              have N10 := sub (l' := (it2, oi2) :: (L1 + 1 + 1 + 1 + 1 + 1, oE6) :: (L1 + 1 + 1 + 1 + 1, oI4) :: (L1 + 1 + 1 + 1, oTb2) :: (L1 + 1 + 1, oK5) :: (L1 + 1, oLo) :: ((D9, LCg.lst ys) :: (((rI, o8) :: rows4.filter (fun q => q.1 != rI)) ++ (it, oi) :: Y9))) N9 (by walk_at "Mine.sub")
              refine hTB _ _ _ _ _ F8 N10 (fun q hq => ?_) ⟨rfl, rfl, rfl, oE6, oI4, oK5, _, _, (rI, o8) :: rows4.filter (fun q => q.1 != rI), rfl, dE6, dI4, dK5, ht4.set hi hk2 hrI hlI hvI hR8 (f' := fun j c x => (j < i ∨ (j = i ∧ c < k + 1)) → x = dp us ls head j c) (fun _ => hM) (fun j d y hjd hf hc => hf (lt_step hjd hc)), fun q hq => ?_, fun q hq => ?_⟩
              · simp only [List.mem_cons, List.mem_append, List.mem_filter] at hq
                rcases hq with rfl | rfl | rfl | rfl | rfl | rfl | (rfl | ⟨hq, hne⟩) | rfl | hq
                · exact c5'
                · exact c4'
                · exact c3'
                · exact c2'
                · exact c1'
                · exact hZit _ upT
                · exact hZit (rI, oRI) (up0 _ hmI)
                · exact hZit _ (up0 _ hq)
                · exact hZit _ (hmem4 _ (.tail _ (List.mem_append_right _ (.head _))))
                · exact hZit _ (hmem4 _ (.tail _ (List.mem_append_right _ (.tail _ hq))))
              · simp only [List.mem_cons, List.mem_append, List.mem_filter] at hq
                rcases hq with rfl | (rfl | ⟨hq, hne⟩) | rfl | hq
                · exact hoff4 _ upT
                · exact hrIoff
                · exact hoff4 _ (up0 _ hq)
                · exact hoff4 _ (hmem4 _ (.tail _ (List.mem_append_right _ (.head _))))
                · exact hoff4 _ (hmem4 _ (.tail _ (List.mem_append_right _ (.tail _ hq))))
              · rcases List.mem_cons.mp hq with rfl | hq
                · exact hrd4 (rI, oRI) hmI
                · exact hrd4 q (List.mem_filter.mp hq).1
      · intro g m₁ news₁ h tk zzp5 F1 N1
        obtain ⟨rfl, hm1, hm2, oEn8, oI8, oK8, vEn8, vK8, rows8, rfl, dEn8, dI8, dK8, ht8, hoff8, hrd8⟩ := zzp5
        clear FF NN N3 N2
        dsimp only
        k_steps
        have hnit : it ≠ D9 ∧ ∀ q ∈ rows8, q.1 ≠ it := ⟨Ne.symm hitD, fun q hq => Ne.symm ((hrd8 q hq).2 _ (.head _))⟩
        have N10 := sub (l' := (it, oi) :: (L1 + 1 + 1 + 1 + 1 + 1, oEn8) :: (L1 + 1 + 1 + 1 + 1, oI8) :: (L1 + 1 + 1 + 1, oTb2) :: (L1 + 1 + 1, oK8) :: (L1 + 1, oLo) :: ((D9, LCg.lst ys) :: (rows8 ++ Y9))) N1 (by walk_at "Mine.sub")
        refine hTA _ _ _ _ _ F1 N10 (fun q hq => ?_) ⟨rfl, hm1, hm2, _, oEn8, oI8, oK8, _, _, rows8, rfl, dEn8, dI8, dK8, ht8.mono (fun _ h => h) (fun j c x hcm hf hc => hf (lt_row hcm hc)), fun q hq => ?_, fun q hq => ⟨(hrd8 q hq).1, fun y hy => (hrd8 q hq).2 y (.tail _ hy)⟩⟩
        · simp only [List.mem_cons, List.mem_append] at hq
          rcases hq with rfl | rfl | rfl | rfl | rfl | rfl | hq | hq
          · exact c5
          · exact c4
          · exact c3
          · exact c2
          · exact c1
          · exact hitD
          · exact hnit.2 q hq
          · exact hitY q hq
        · refine hoff8 q ?_
          rcases List.mem_cons.mp hq with rfl | hq
          · exact .head _
          · rcases List.mem_append.mp hq with hq | hq
            · exact .tail _ (List.mem_append_left _ hq)
            · exact .tail _ (List.mem_append_right _ (.tail _ hq))
    · intro g m₁ news₁ h tk zzp5 F1 N1
      obtain ⟨rfl, hm1, hm2, vI, oEn8, oI8, oK8, vEn8, vK8, rows8, rfl, dEn8, dI8, dK8, ht8, hoff8, hrd8⟩ := zzp5
      clear FF NN
      obtain ⟨rP, oRP, lP, hrP, hmP, hoP, hlP, hvP⟩ := ht8.2.1 us.length (by omega)
      obtain ⟨xP, tP, hxP, hfP⟩ := hvP ls.length (by omega)
      have hfP' := hfP (.inl (by omega))
      have hys8 := ht8.1
      have la1 : Last ys (.ref rP) := ⟨fun e => by rw [e] at hrP; simp at hrP, by omega, by rw [hys8]; exact hrP⟩
      have la2 : Last lP (.int xP tP) := ⟨fun e => by rw [e] at hxP; simp at hxP, by omega, by rw [hlP]; exact hxP⟩
      have ro1 : RowO (LCg.lst ys) ys := ⟨rfl, _, rfl⟩
      have N2 := up N1 (x := (rP, oRP)) (.tail _ (.tail _ (.tail _ (.tail _ (.tail _ (.tail _ (List.mem_append_left _ hmP)))))))
      replace N2 := up N2 (x := (D9, LCg.lst ys)) (.tail _ (.tail _ (.tail _ (.tail _ (.tail _ (.tail _ (.head _)))))))
      clear N1
      dsimp only
      k_steps
      refine hQQ _ _ ?_
      k_steps
      rename Fr _ _ _ _ => FF
      rename News _ _ _ _ => NN
      refine ret _ _ _ _ ⟨⟨tP, by rw [hfP']⟩, rfl⟩ (fun _ h => nomatch h) .nil FF (fun q hq => NN q ?_)
      exact (by walk_at "Mine.sub" : ∀ q ∈ rows8 ++ Y9, q ∈ _) q (List.mem_append_right _ (hYR q hq))
end Mine

end
/- E0 -/
section
open PySem PySem.W PyProof.Rows PySem.Calls PySem.Spec Builtin
set_option maxHeartbeats 1000000
namespace Mine
section
variable {prog : Program} {w : World} {A : Around} {E : Value → Shared → Prop} {s : Shared} {h₀ : Heap} {C : Addr} {m mg mb : Str → Option Value} {p : Program} {loose : List Str} {mean : ExcName → Option Value} {scope : Scope} {cl : List (Str × Addr)} {code : Value} {env : Env} {Q : Value → Shared → Prop}
theorem gen_built {M : Model} {K : Frag} {x : Str} {pos : Pos} {v : Value} (F : Fr h₀ C s.heap m) (X : K.In h₀) (T : Top p loose mean mg mb h₀) (e : nsIn K mainGlobals x = some none) (hv : bootBuiltins x = some v) (hn : x ≠ "__name__") (h : Q v s) (hg : env.globals = mainGlobals)
    (hk : scope.kind = .function) (hx : (genEnv scope cl C code builtinsNs env).kindOf x = some .globalImplicit) (hd : (x == ("__debug__" : Str)) = false := by decide) :
    wpAny M A (eval (.Name x pos) (genEnv scope cl C code builtinsNs env)) Q E s :=
  Name_function_global hk hx (loadGlobal_builtin (env := genEnv scope cl C code builtinsNs env) (show s.heap.Ns env.globals mg from hg ▸ (T.keeps F.keep).g) (mg_none_of X T.g e) (T.keeps F.keep).b ((T.builtins x hn).trans hv) h) hd
theorem gen_global {M : Model} {K : Frag} {x : Str} {pos : Pos} {v : Value} (F : Fr h₀ C s.heap m) (X : K.In h₀) (T : Top p loose mean mg mb h₀) (e : nsIn K mainGlobals x = some (some v)) (h : Q v s) (hg : env.globals = mainGlobals)
    (hk : scope.kind = .function) (hx : (genEnv scope cl C code builtinsNs env).kindOf x = some .globalImplicit) (hd : (x == ("__debug__" : Str)) = false := by decide) :
    wpAny M A (eval (.Name x pos) (genEnv scope cl C code builtinsNs env)) Q E s :=
  Name_function_global hk hx (loadGlobal_global (env := genEnv scope cl C code builtinsNs env) (show s.heap.Ns env.globals mg from hg ▸ (T.keeps F.keep).g) (mg_of X T.g e) h) hd
theorem gen_len {x : Str} {p1 p2 p3 : Pos} {tx : Tok} {v : Str} (F : Fr h₀ C s.heap m) (X : (hd.heap_39 w.params).In h₀) (T : Top p loose mean mg mb h₀) (hx : m x = some (.str v tx)) (hl : v.length < 2 ^ 62)
    (hg : env.globals = mainGlobals) (hk : scope.kind = .function) (h1 : (genEnv scope cl C code builtinsNs env).kindOf "len" = some .globalImplicit) (h2 : (genEnv scope cl C code builtinsNs env).kindOf x = some .local) (hd : (x == ("__debug__" : Str)) = false)
    (h : ∀ t, Q (.int v.length t) { s with toks := s.toks + 1 + 1 }) :
    wpAny (model prog w) A (eval (.Call (.Name "len" p1) [.Name x p2] [] p3) (genEnv scope cl C code builtinsNs env)) Q E s := by
  refine Call_Name1 ?_
  refine gen_built F X T (by k_is) (v := .builtin "len") (by boot_by_name) (by decide) ?_ hg hk h1
  refine callWith_builtin rfl (evalArgs_plain (spliced_cons (ldVarG F hx (spliced_nil ?_) hk h2 hd)))
  refine P.len_str (by omega) ?_
  exact h _
theorem len_elt {x y : Str} {p1 p2 p3 p4 p5 p6 p7 : Pos} {tx ty : Tok} {v u : Str} (F : Fr h₀ C s.heap m) (X : (hd.heap_39 w.params).In h₀) (T : Top p loose mean mg mb h₀) (hx : m x = some (.str v tx)) (hl : v.length < 2 ^ 62) (hy : m y = some (.str u ty)) (hlu : u.length < 2 ^ 62)
    (hg : env.globals = mainGlobals) (hk : scope.kind = .function) (h1 : (genEnv scope cl C code builtinsNs env).kindOf "len" = some .globalImplicit) (h2 : (genEnv scope cl C code builtinsNs env).kindOf x = some .local) (hd : (x == ("__debug__" : Str)) = false)
    (h3 : (genEnv scope cl C code builtinsNs env).kindOf y = some .local) (hd' : (y == ("__debug__" : Str)) = false) {P : Value → Prop}
    (hP : ∀ t, P (.int ((v.length : Int) + u.length) t)) :
    wpAny (model prog w) A (eval (.BinOp (.Call (.Name "len" p1) [.Name x p2] [] p3) .Add (.Call (.Name "len" p4) [.Name y p5] [] p6) p7) (genEnv scope cl C code builtinsNs env)) (fun z s₃ => P z ∧ Keeps s s₃) E s := by
  refine wpAny_BinOp (gen_len F X T hx hl hg hk h1 h2 hd fun t => ?_)
  refine gen_len (s := { s with toks := s.toks + 1 + 1 }) F X T hy hlu hg hk h1 h3 hd' fun t' => ?_
  exact wpAny_add_int ⟨hP _, _, _, rfl, fun _ _ e => e⟩
theorem str_elt {x y e : Str} {p1 p2 p3 p4 p5 p6 : Pos} {k : Nat} {te tx ty : Tok} {v u : Str} (Fq : Fr h₀ C s.heap m) (X : (hd.heap_39 w.params).In h₀) (T : Top p loose mean mg mb h₀) (hx : m x = some (.str v tx)) (hy : m y = some (.str u ty)) (hl : v.length + u.length < 1000000)
    (hln : (p2.endLine == p6.line) = true) (he : nsIn (hd.heap_39 w.params) mainGlobals e = some (some (.str "" te)))
    (hg : env.globals = mainGlobals) (hk : scope.kind = .function) (h1 : (genEnv scope cl C code builtinsNs env).kindOf e = some .globalImplicit) (hde : (e == ("__debug__" : Str)) = false) (hb : attributeBase (.Name e p1) "join" (genEnv scope cl C code builtinsNs env) (eval (.Name e p1) (genEnv scope cl C code builtinsNs env)) = eval (.Name e p1) (genEnv scope cl C code builtinsNs env)) (h2 : (genEnv scope cl C code builtinsNs env).kindOf x = some .local) (hd : (x == ("__debug__" : Str)) = false)
    (h3 : (genEnv scope cl C code builtinsNs env).kindOf y = some .local) (hd' : (y == ("__debug__" : Str)) = false) {P : Value → Prop}
    (hP : ∀ t, P (.str (Txt.join "" [v, u]) t)) :
    wpAny (model prog w) A (eval (.Call (.Attribute (.Name e p1) "join" p2) [.Tuple [.Name x p3, .Name y p4] k p5] [] p6) (genEnv scope cl C code builtinsNs env)) (fun z s₃ => P z ∧ Keeps s s₃) E s := by
  refine Call_method1 hb rfl hln ?_
  refine gen_global Fq X T he ?_ hg hk h1 hde
  refine ⟨"str", "str.join", F.plainAttrs_str, F.slot_str_join, F.type_str_join, typeIs_str _ _ _, (fun _ e => nomatch e), ?_⟩
  refine callWith_builtin rfl (evalArgs_plain (spliced_cons (wpAny_Tuple_spliced ?_)))
  refine spliced_cons (ldVarG Fq hx (spliced_cons (ldVarG Fq hy (spliced_nil ⟨(show 2 ≤ sizeLine by decide), ?_⟩) hk h3 hd')) hk h2 hd)
  refine spliced_nil ?_
  refine join_tupleW (ys := [v, u]) ⟨_, Heap.get?_push_size _ rfl, rfl, _, rfl⟩ (.cons v tx (.cons u ty .nil)) (by decide) (by simp; omega) fun t k => ⟨hP t, _, _, rfl, fun b o e => Heap.get?_push_of_some _ e⟩
end
end Mine

end
/- E1 -/
section
open PySem PySem.W PyProof.Rows PySem.Calls PySem.Spec Builtin
set_option maxHeartbeats 1000000
namespace Mine
open LCg
/-- an element's end -/
def CellEnd (h₀ : Heap) (L : Addr) (m : Str → Option Value) (s₁ : Shared) (news : List (Addr × Obj)) (P : Value → Prop) (y : Value) (s₂ : Shared) : Prop :=
  ∃ h' tk', s₂ = { s₁ with heap := h', toks := tk' } ∧ Fr h₀ L h' m ∧ News h₀ L h' news ∧ P y
inductive CellSrc (prog : Program) (w : World) (A : Around) (h₀ : Heap) (L : Addr) (m : Str → Option Value) (env : Env) (elt : Expr) (x : Str) (scope : Scope) (cl : List (Str × Addr)) (P : Nat → Value → Prop) (Q : Value → Shared → Prop) (xv : Value) (s₁ : Shared) : Prop
  | mk (r : Addr) (a b : Int) (t u v : Tok) (n : Nat) (base : List (Addr × Obj)) (e : xv = .ref r) (hh : A.handled = none) (F : Fr h₀ L s₁.heap m) (N : News h₀ L s₁.heap base) (hr : IsRange s₁.heap r a b 1 t u v) (hsm : Builtin.Range.small a b 1 = true) (hn : Builtin.Range.rangeSize a b 1 = ((n : Nat) : Int)) (hsz : n ≤ sizeLine)
      (turn : ∀ i t (ys : List Value) I oI oC oK hp tk (E' : Value → Shared → Prop), i < n → ys.length = i → (∀ j y, ys[j]? = some y → P j y) → oK.data = .cell (some (.int (a + (i : Nat)) t)) → Fr h₀ L hp m → News h₀ L hp ((I, oI) :: (I + 2, oC) :: (I + 1, lst ys) :: (I + 3, oK) :: base) → (∀ p ∈ base, p.1 < I) →
        ∀ TT : Value → Shared → Prop, (∀ y h' tk', Fr h₀ L h' m → News h₀ L h' ((I, oI) :: (I + 2, oC) :: (I + 1, lst ys) :: (I + 3, oK) :: base) → P i y → TT y { s₁ with heap := h', toks := tk' }) →
        wpAny (model prog w) A (eval elt (compEnvC scope ((x, I + 3) :: cl) (I + 2) env)) TT E' { s₁ with heap := hp, toks := tk })
      (fin : ∀ D hp tk (ys : List Value), ys.length = n → (∀ j y, ys[j]? = some y → P j y) → Fr h₀ L hp m → News h₀ L hp ((D, lst ys) :: base) → (∀ p ∈ base, p.1 < D) → Q (.ref D) { s₁ with heap := hp, toks := tk }) : CellSrc prog w A h₀ L m env elt x scope cl P Q xv s₁
inductive CLInv (h₀ : Heap) (L : Addr) (m : Str → Option Value) (s₁ : Shared) (I : Addr) (a : Int) (n : Nat) (P : Nat → Value → Prop) (base : List (Addr × Obj)) (k : Nat) (s' : Shared) : Prop
  | mk (h' : Heap) (tk : Tok) (i : Nat) (ys : List Value) (oK : Obj) (v : Option Value) (e : s' = { s₁ with heap := h', toks := tk }) (hi : i ≤ n) (hk : k = n + 1 - i) (hl : ys.length = i) (hP : ∀ j y, ys[j]? = some y → P j y) (hr : IsRangeIter h' I (a + (i : Nat) * 1) ((n : Int) - (i : Nat)) 1) (F : Fr h₀ L h' m) (hc : oK.data = .cell v)
    (N : News h₀ L h' ((I + 2, { cls := .type "dict", data := .dict #[] }) :: (I + 1, lst ys) :: (I + 3, oK) :: base)) : CLInv h₀ L m s₁ I a n P base k s'
section
variable {prog : Program} {w : World} {A : Around} {E : Value → Shared → Prop} {s : Shared} {h₀ : Heap} {L : Addr} {m : Str → Option Value} {env : Env}
/-- a list comprehension over a range, whose own name is a cell -/
theorem listcomp_cell {elt iter : Expr} {x : Str} {px : Pos} {scope : Scope} {cl : List (Str × Addr)} {pos : Pos} {Q : Value → Shared → Prop} (F₀ : Fr h₀ L s.heap m) (P : Nat → Value → Prop)
    (hclos : closureFor scope env = pure cl) (hkind : scope.kind = .function)
    (hnames : ∀ y ∈ scope.names, y.2 = .local → scope.names.lookup y.1 = some .local) (hx : (relabel scope env).names.lookup x = some .cell)
    (hcf : ∀ n, cellsFrom n scope.names cl = (x, n) :: cl) (hpc : ∀ h, pushCells h scope.names = h.push { cls := .type "cell", data := .cell none })
    (h : wpAny (model prog w) A (eval iter env) (fun xv s₁ => Hold (CellSrc prog w A h₀ L m env elt x scope cl P Q xv s₁)) E s)
    (hs : ∀ x, foldedSetIterable iter env x = pure x) :
    wpAny (model prog w) A (eval (.ListComp elt [⟨.Name x px, iter, [], 0⟩] scope pos) env) Q E s := by
  rw [eval_ListComp]
  refine wpAny_comprehension_free (use := none) rfl hs hclos hkind hnames (wpAny_mono h (fun xv s₁ h₁ => ?_) fun _ _ e => e)
  obtain ⟨r, a, b, t, u, v, n, base, rfl, hh, F, N, hr, hsm, hn, hsz, turn, fin⟩ := h₁
  refine wpAny_pyIter_range hr hsm ?_
  refine wpAny_newObj_type ?_
  unfold newFunctionEnv
  simp only [Option.isSome_some, if_true]
  refine wpAny_bind (wpAny_alloc ?_)
  refine wpAny_bind (wpAny_layCells _ (fun name kind cells => by cases hkc : kind == NameKind.cell <;> simp [hkc]) _ _ _ _ ?_)
  simp only [List.forIn_nil]
  refine wpAny_bind (wpAny_pure (wpAny_pure ?_))
  rw [hcf, hpc]
  dsimp only
  simp only [Heap.size_push]
  generalize hH : (((s₁.heap.push { cls := .type "range_iterator", data := .fields #[rawInt a, rawInt (Builtin.Range.rangeSize a b 1), rawInt 1] }).push { cls := .type "list", data := .seq ([] : List Value).toArray }).push { cls := .type "dict", data := .dict #[] }).push { cls := .type "cell", data := .cell none } = H
  have hI₁ : H.get? s₁.heap.objs.size = some { cls := .type "range_iterator", data := .fields #[rawInt a, rawInt (Builtin.Range.rangeSize a b 1), rawInt 1] } := by
    rw [← hH]; exact Heap.get?_push_of_some _ (Heap.get?_push_of_some _ (Heap.get?_push_of_some _ (Heap.get?_push_size _ rfl)))
  have hD₁ : H.get? (s₁.heap.objs.size + 1) = some (lst []) := by
    rw [← hH]; refine Heap.get?_push_of_some _ (Heap.get?_push_of_some _ ?_)
    have := Heap.get?_push_size (s₁.heap.push { cls := .type "range_iterator", data := .fields #[rawInt a, rawInt (Builtin.Range.rangeSize a b 1), rawInt 1] }) (o := lst []) rfl
    rwa [Heap.size_push] at this
  have hC₁ : H.get? (s₁.heap.objs.size + 2) = some { cls := .type "dict", data := .dict #[] } := by
    rw [← hH]; refine Heap.get?_push_of_some _ ?_
    have := Heap.get?_push_size ((s₁.heap.push { cls := .type "range_iterator", data := .fields #[rawInt a, rawInt (Builtin.Range.rangeSize a b 1), rawInt 1] }).push (lst [])) (o := { cls := .type "dict", data := .dict #[] }) rfl
    rwa [Heap.size_push, Heap.size_push] at this
  have hK₁ : H.get? (s₁.heap.objs.size + 3) = some { cls := .type "cell", data := .cell none } := by
    rw [← hH]
    have := Heap.get?_push_size (((s₁.heap.push { cls := .type "range_iterator", data := .fields #[rawInt a, rawInt (Builtin.Range.rangeSize a b 1), rawInt 1] }).push (lst [])).push { cls := .type "dict", data := .dict #[] }) (o := { cls := .type "cell", data := .cell none }) rfl
    rwa [Heap.size_push, Heap.size_push, Heap.size_push] at this
  have old : ∀ b o, s₁.heap.get? b = some o → H.get? b = some o := fun b o e => by
    rw [← hH]; exact Heap.get?_push_of_some _ (Heap.get?_push_of_some _ (Heap.get?_push_of_some _ (Heap.get?_push_of_some _ e)))
  have hbase : ∀ p ∈ base, p.1 < s₁.heap.objs.size := fun p hp => Heap.lt_size (N p hp).1
  have hLlt : L < s₁.heap.objs.size := F.ns.lt
  have F₁ : Fr h₀ L H m := F.keeps old
  have N₁ : News h₀ L H base := fun p hp => ⟨old _ _ (N p hp).1, (N p hp).2⟩
  generalize hI : s₁.heap.objs.size = I at *
  have fresh₀ : ∀ a, I ≤ a → h₀.get? a = none := fun a ha => Heap.get?_none_of_le (Nat.le_trans F.above (Nat.le_trans (Nat.le_of_lt hLlt) ha))
  clear hH hI
  have hnsC : ∀ h : Heap, h.get? (I + 2) = some { cls := .type "dict", data := .dict #[] } → h.Ns (I + 2) fun _ => none := fun h e => ⟨_, #[], 0, e, rfl, (fun _ h => by simp at h), fun _ => rfl⟩
  have hIL : I ≠ L := Nat.ne_of_gt hLlt
  have gtL : ∀ k : Nat, I + k ≠ L := fun k => Nat.ne_of_gt (Nat.lt_of_lt_of_le hLlt (Nat.le_add_right I k))
  have hDL : I + 1 ≠ L := gtL 1
  have hCL : I + 2 ≠ L := gtL 2
  have hKL : I + 3 ≠ L := gtL 3
  have nej : ∀ j k : Nat, j ≠ k → I + j ≠ I + k := fun j k h e => h (Nat.add_left_cancel e)
  have neb : ∀ p ∈ base, ∀ k : Nat, p.1 ≠ I + k := fun p hp k => Nat.ne_of_lt (Nat.lt_of_lt_of_le (hbase p hp) (Nat.le_add_right I k))
  have frk : ∀ k : Nat, h₀.get? (I + k) = none := fun k => fresh₀ _ (Nat.le_add_right I k)
  have W := range_walks (prog := prog) (w := w) (I := I) hh a n
  have loop : codeAny (model prog w) A (.compLoop (.ListComp elt [⟨.Name x px, iter, [], 0⟩] scope pos) 0 (.ref I) (.ref (I + 1)) (compEnvC scope ((x, I + 3) :: cl) (I + 2) env))
      (compPost (model prog w) A E none Q (.ref (I + 1)) (I + 2)) { s₁ with heap := H } := by
    refine codeAny_compLoop_tests
      (CLInv h₀ L m s₁ I a n P base) ?_ (n + 1)
      ⟨H, s₁.toks, 0, [], { cls := .type "cell", data := .cell none }, none, rfl, Nat.zero_le _, rfl, rfl, (fun j y h => by simp at h), ?_, F₁, rfl, ?_⟩
    · rintro k s' ⟨h', tk, i, ys, oK, vK, rfl, hi, rfl, hyl, hP, hst', F', hoK, N'⟩
      by_cases hlt : i < n
      · refine W.item i _ _ _ hlt hst' fun v h₂ tk₂ hPv hst₂ hk₂ => ?_
        obtain ⟨t, rfl⟩ := hPv
        have F₂ : Fr h₀ L h₂ m := fr_but F' hk₂ (Ne.symm hIL) (fresh₀ _ (Nat.le_refl _))
        have N₂ : News h₀ L h₂ ((I + 2, { cls := .type "dict", data := .dict #[] }) :: (I + 1, lst ys) :: (I + 3, oK) :: base) := news_but N' hk₂ fun p hp => by
          simp only [List.mem_cons] at hp
          rcases hp with rfl | rfl | rfl | hp
          · exact nej 2 0 (by decide)
          · exact nej 1 0 (by decide)
          · exact nej 3 0 (by decide)
          · exact Nat.ne_of_lt (hbase p hp)
        refine wpAny_assign_Name (wpAny_storeName_cell (c := I + 3) (v₀ := vK) (by simp [compEnvC, relabel, hkind]) hx (by simp [compEnvC]) ⟨oK, (N₂ (I + 3, oK) (.tail _ (.tail _ (.head _)))).1, hoK⟩ fun h₃ hc₃ hs₃ => ?_)
        obtain ⟨oK₃, gK₃, dK₃⟩ := hc₃
        refine wpAny_tests_nil ?_
        simp only [if_true]
        have F₃ : Fr h₀ L h₃ m := F₂.change hs₃ hKL (frk 3)
        have hst₃ : IsRangeIter h₃ I (a + (i + 1 : Nat) * 1) ((n : Int) - (i + 1 : Nat)) 1 := hs₃.extBut _ _ (nej 0 3 (by decide)) hst₂
        have N₃ : News h₀ L h₃ ((I, _) :: (I + 2, { cls := .type "dict", data := .dict #[] }) :: (I + 1, lst ys) :: (I + 3, oK₃) :: base) := fun p hp => by
          simp only [List.mem_cons] at hp
          rcases hp with rfl | rfl | rfl | rfl | hp
          · exact ⟨hst₃, hIL, fresh₀ _ (Nat.le_refl _)⟩
          · have z := N₂ (I + 2, _) (.head _)
            exact ⟨hs₃.extBut _ _ (nej 2 3 (by decide)) z.1, z.2⟩
          · have z := N₂ (I + 1, lst ys) (.tail _ (.head _))
            exact ⟨hs₃.extBut _ _ (nej 1 3 (by decide)) z.1, z.2⟩
          · exact ⟨gK₃, hKL, frk 3⟩
          · have z := N₂ p (.tail _ (.tail _ (.tail _ hp)))
            exact ⟨hs₃.extBut _ _ (neb p hp 3) z.1, z.2⟩
        refine wpAny_mono (turn i t ys I _ _ oK₃ h₃ _ _ hlt hyl hP dK₃ F₃ N₃ hbase (CellEnd h₀ L m s₁ _ (P i)) (fun y h4 tk4 F4 N4 p4 => ⟨h4, tk4, rfl, F4, N4, p4⟩)) (fun y s₄ h₄ => ?_) fun _ _ e => e
        obtain ⟨h₄, tk₄, rfl, F₄, N₄, hPy⟩ := h₄
        have zD := (N₄ (I + 1, lst ys) (.tail _ (.tail _ (.head _)))).1
        refine append_at (hsz := by show ys.toArray.size ≤ sizeLine; rw [List.size_toArray, hyl]; exact Nat.le_trans hi hsz) zD fun h₅ hs₅ hD₅ => ?_
        refine ⟨n + 1 - (i + 1), by omega, h₅, tk₄, i + 1, ys ++ [y], oK₃, _, rfl, hlt, rfl, by rw [List.length_append, List.length_singleton, hyl], fun j z hz => ?_, hs₅.extBut _ _ (nej 0 1 (by decide)) (N₄ _ (.head _)).1, F₄.change hs₅ hDL (frk 1), dK₃, fun p hp => ?_⟩
        · rcases Nat.lt_or_ge j ys.length with hj | hj
          · rw [List.getElem?_append_left hj] at hz; exact hP j z hz
          · rw [List.getElem?_append_right hj] at hz
            have : j - ys.length = 0 := by
              rcases Nat.eq_zero_or_pos (j - ys.length) with h | h
              · exact h
              · rw [List.getElem?_eq_none (by simp; omega)] at hz; cases hz
            rw [this] at hz
            cases hz
            have : j = i := by omega
            exact this ▸ hPy
        · simp only [List.mem_cons] at hp
          rcases hp with rfl | rfl | rfl | hp
          · have z := N₄ (I + 2, _) (.tail _ (.head _))
            exact ⟨hs₅.extBut _ _ (nej 2 1 (by decide)) z.1, z.2⟩
          · exact ⟨hD₅.trans (congrArg some (lst_snoc ys y)), hDL, frk 1⟩
          · have z := N₄ (I + 3, oK₃) (.tail _ (.tail _ (.tail _ (.head _))))
            exact ⟨hs₅.extBut _ _ (nej 3 1 (by decide)) z.1, z.2⟩
          · have z := N₄ p (.tail _ (.tail _ (.tail _ (.tail _ hp))))
            exact ⟨hs₅.extBut _ _ (neb p hp 1) z.1, z.2⟩
      · obtain rfl : i = n := Nat.le_antisymm hi (Nat.not_lt.mp hlt)
        refine W.done _ _ _ hst' fun h₂ tk₂ hk₂ => ?_
        have F₂ : Fr h₀ L h₂ m := fr_but F' hk₂ (Ne.symm hIL) (fresh₀ _ (Nat.le_refl _))
        have N₂ : News h₀ L h₂ ((I + 2, { cls := .type "dict", data := .dict #[] }) :: (I + 1, lst ys) :: (I + 3, oK) :: base) := news_but N' hk₂ fun p hp => by
          simp only [List.mem_cons] at hp
          rcases hp with rfl | rfl | rfl | hp
          · exact nej 2 0 (by decide)
          · exact nej 1 0 (by decide)
          · exact nej 3 0 (by decide)
          · exact Nat.ne_of_lt (hbase p hp)
        refine ⟨_, hnsC _ (N₂ _ (.head _)).1, fun h'' hs'' => fin (I + 1) h'' tk₂ ys hyl hP (F₂.change hs'' hCL (frk 2)) (fun p hp => ?_) fun p hp => Nat.lt_succ_of_lt (hbase p hp)⟩
        rcases List.mem_cons.mp hp with rfl | hp
        · have z := N₂ (I + 1, lst ys) (.tail _ (.head _))
          exact ⟨hs''.extBut _ _ (nej 1 2 (by decide)) z.1, z.2⟩
        · have z := N₂ p (.tail _ (.tail _ (.tail _ hp)))
          exact ⟨hs''.extBut _ _ (neb p hp 2) z.1, z.2⟩
    · show H.get? I = some _
      rw [hI₁, hn]; simp
    · intro p hp
      simp only [List.mem_cons] at hp
      rcases hp with rfl | rfl | rfl | hp
      · exact ⟨hC₁, hCL, frk 2⟩
      · exact ⟨hD₁, hDL, frk 1⟩
      · exact ⟨hK₁, hKL, frk 3⟩
      · exact N₁ p hp
  refine codeAny_compStart_list loop (W.self 0 _ _ _ ?_ loop)
  show H.get? I = some _
  rw [hI₁, hn]; simp
end
end Mine

end
/- E2 -/
section
open PySem PySem.W PyProof.Rows PySem.Calls PySem.Spec Builtin
set_option maxHeartbeats 1000000
namespace Mine
theorem strs_txs : ∀ {xs : List Value} {gs : List (List Wd)}, Al IsTx xs gs → StrsAre xs (gs.map blk)
  | [], [], _ => .nil
  | [], _ :: _, h => absurd h.1 (by simp)
  | _ :: _, [], h => absurd h.1 (by simp)
  | x :: xs, g :: gs, h => by
    obtain ⟨t, rfl⟩ := h.head
    exact .cons _ t (strs_txs h.tail)
theorem strs_get : ∀ {xs : List Value} {ys : List Str} {i : Nat} {v : Value}, StrsAre xs ys → xs[i]? = some v → ∃ y t, ys[i]? = some y ∧ v = .str y t
  | _, _, _, _, .nil, h => by simp at h
  | _, _, 0, _, .cons y t r, h => ⟨y, t, rfl, by simpa using h.symm⟩
  | _, _, i + 1, _, .cons y t r, h => by
    obtain ⟨y', t', e1, e2⟩ := strs_get (i := i) r (by simpa using h)
    exact ⟨y', t', by simpa using e1, e2⟩
theorem strs_len : ∀ {xs : List Value} {ys : List Str}, StrsAre xs ys → xs.length = ys.length
  | _, _, .nil => rfl
  | _, _, .cons y t r => by simp [strs_len r]
/-- how long the texts are -/
theorem sum_len : ∀ {gs : List (List Wd)} {W : List Wd}, Proper W → (∀ g ∈ gs, OkB W g) → ((((gs.map blk).map (·.length)).sum : Nat) : Int) + gs.length = sgs gs.flatten
  | [], _, _, _ => rfl
  | g :: gs, W, hW, h => by
    have h1 := blk_len hW (h g (.head _))
    have h2 := sum_len hW fun a ha => h a (.tail _ ha)
    rw [List.flatten_cons, sgs_append, ← h1, ← h2]
    simp only [List.map_cons, List.sum_cons, List.length_cons]
    push_cast
    omega
section
variable {prog : Program} {w : World} {A : Around} {E : Value → Shared → Prop} {s : Shared} {h₀ : Heap} {L l : Addr} {m : Str → Option Value} {news : List (Addr × Obj)} {xs : List Value} {n : Nat} {x sep : Str} {t u v : Tok} {Q : Value → Shared → Prop}
theorem join_at {ys : List Str} (N : News h₀ L s.heap news) (hl : (l, listOf xs.toArray n) ∈ news) (hs : StrsAre xs ys) (hw : (ys.map (·.length)).sum + ys.length ≤ 1000) (hsep : sep.length ≤ 1)
    (h : ∀ X t' k, X = Str.join sep ys → s.toks ≤ k → Q (.str X t') { s with toks := k }) : wpAny (model prog w) A (call (.builtin "str.join") [.str sep t, .ref l]) Q E s := by
  refine wpAny_with_toks (Nat.le_refl _) (join_listW (News.isList N hl) (by simpa using hs) (by omega) (by omega) fun t' k hk => h _ t' k ?_ hk)
  exact StrLaws.glued_eq_join _ _
theorem join_len {sep : Str} (hs : sep.length ≤ 1) : ∀ ys : List Str, (Str.join sep ys).length ≤ (ys.map (·.length)).sum + ys.length
  | [] => by show (0 : Nat) ≤ _; omega
  | [y] => by show y.length ≤ _; simp
  | y :: z :: r => by
    have ih := join_len hs (z :: r)
    show (y ++ sep ++ Str.join sep (z :: r)).length ≤ _
    rw [slen_append, slen_append]
    simp only [List.map_cons, List.sum_cons, List.length_cons] at ih ⊢
    omega
theorem replace_len (x : Str) (c d : Nat) : (Txt.replace x ⟨#[c]⟩ ⟨#[d]⟩).length = x.length := by
  rw [← cl_length, replace_cl, sub1, List.length_map, cl_length]
theorem sp_eq : Str.ofString " " = ⟨#[32]⟩ := by decide +kernel
theorem tab_eq : Str.ofString "\t" = ⟨#[9]⟩ := by decide +kernel
theorem repl_at {y z : Str} {c d : Nat} (hy : y = ⟨#[c]⟩) (hz : z = ⟨#[d]⟩) (hu : u ≠ 0) (hv : v ≠ 0) (huv : u ≠ v) (hcd : c ≠ d) (hx : x.length ≤ 1000)
    (h : ∀ X t' k, X = Txt.replace x ⟨#[c]⟩ ⟨#[d]⟩ → s.toks ≤ k → Q (.str X t') { s with toks := k }) : wpAny (model prog w) A (call (.builtin "str.replace") [.str x t, .str y u, .str z v]) Q E s := by
  subst hy hz
  refine wpAny_with_toks (Nat.le_refl _) (SC.replaceW hu hv huv ?_ (by omega) (show 1 ≤ 14 by decide) fun t' k hk => h _ t' k rfl hk)
  rw [beq_eq_false_iff_ne]
  intro e
  injection e with e
  simp at e
  exact hcd e
theorem split_at {y : Str} {c : Nat} (hy : y = ⟨#[c]⟩) (F : Fr h₀ L s.heap m) (N : News h₀ L s.heap news) (hx : x.length ≤ 1000)
    (h : ∀ D vs h' k, StrsAre vs (Txt.split x ⟨#[c]⟩) → Fr h₀ L h' m → News h₀ L h' ((D, listOf vs.toArray 0) :: news) → (∀ p ∈ news, p.1 < D) → s.toks ≤ k → Q (.ref D) { s with heap := h', toks := k }) :
    wpAny (model prog w) A (call (.builtin "str.split") [.str x t, .str y u]) Q E s := by
  subst hy
  refine wpAny_with_toks (Nat.le_refl _) (KSpl.split1 F N rfl (fun D l h' k e a F' N' hlt hk => h D _ h' k (e ▸ a) F' N' hlt hk) ?_)
  rw [sizeLine_eq]; omega
end
end Mine

end
/- F1 -/
section
open PySem PySem.W PyProof.Rows PySem.Calls PySem.Spec Builtin
set_option maxHeartbeats 1000000
namespace Mine
theorem seq_any {M : Model} {A : Around} {E : Value → Shared → Prop} {s : Shared} {env : Env} {st : Stmt} {rest : List Stmt} {Q : Flow → Shared → Prop}
    (h : wpAny M A (exec st env) (fun f s₁ => f = .next ∧ Hold (wpAny M A (execs rest env) Q E s₁)) E s) : wpAny M A (execs (st :: rest) env) Q E s := by
  refine wpAny_execs_cons (wpAny_mono h (fun f s₁ hb => ?_) fun _ _ x => x)
  obtain ⟨rfl, hb⟩ := hb
  exact hb
theorem four_vals {ys : List Value} {f : Nat → Int} (hl : ys.length = 4) (h : ∀ j y, ys[j]? = some y → ∃ t, y = Value.int (f j) t) : ∃ t0 t1 t2 t3, ys = [.int (f 0) t0, .int (f 1) t1, .int (f 2) t2, .int (f 3) t3] := by
  obtain ⟨a, y1, rfl⟩ := List.exists_cons_of_length_eq_add_one hl
  obtain ⟨b, y2, rfl⟩ := List.exists_cons_of_length_eq_add_one (Nat.succ.inj hl)
  obtain ⟨c, y3, rfl⟩ := List.exists_cons_of_length_eq_add_one (Nat.succ.inj (Nat.succ.inj hl))
  obtain ⟨d, y4, rfl⟩ := List.exists_cons_of_length_eq_add_one (Nat.succ.inj (Nat.succ.inj (Nat.succ.inj hl)))
  obtain rfl := List.eq_nil_of_length_eq_zero (Nat.succ.inj (Nat.succ.inj (Nat.succ.inj (Nat.succ.inj hl))))
  obtain ⟨t0, rfl⟩ := h 0 a rfl
  obtain ⟨t1, rfl⟩ := h 1 b rfl
  obtain ⟨t2, rfl⟩ := h 2 c rfl
  obtain ⟨t3, rfl⟩ := h 3 d rfl
  exact ⟨_, _, _, _, rfl⟩
theorem strs_snoc {y : Str} {t : Tok} : ∀ {xs : List Value} {ys : List Str}, StrsAre xs ys → StrsAre (xs ++ [.str y t]) (ys ++ [y])
  | _, _, .nil => .cons _ _ .nil
  | _, _, .cons _ _ h => .cons _ _ (strs_snoc h)
theorem join_nil_cl : ∀ ys : List Str, cl (Str.join (Str.ofString "") ys) = ys.flatMap cl
  | [] => rfl
  | [y] => by show cl y = _; simp
  | y :: z :: r => by
    show cl (y ++ Str.ofString "" ++ Str.join (Str.ofString "") (z :: r)) = _
    rw [cl_append, cl_append, join_nil_cl (z :: r)]
    have : cl (Str.ofString "") = [] := by decide +kernel
    rw [this]
    simp
theorem tails_cl (g : List Wd) : cl (tails g) = (g.map fun y => white y.pl ++ y.tx).flatMap cl := by
  induction g with
  | nil => rfl
  | cons x r ih => rw [tails, cl_append, ih]; rfl
theorem mark_blk {g : List Wd} (hn : g ≠ []) : mark g ++ blk g = Str.join (Str.ofString "") (g.map fun y => white y.pl ++ y.tx) := by
  apply cl_inj
  rw [join_nil_cl, ← tails_cl]
  cases g with
  | nil => exact absurd rfl hn
  | cons x r => show cl (white x.pl ++ (x.tx ++ tails r)) = cl (white x.pl ++ x.tx ++ tails r); rw [s_append_assoc]
theorem tails_sum {W g : List Wd} (hW : Proper W) (h : ∀ x ∈ g, x ∈ W) : ((((g.map fun y => white y.pl ++ y.tx).map (·.length)).sum : Nat) : Int) = sgs g := by
  induction g with
  | nil => rfl
  | cons x r ih =>
    have h1 := hW.sg x (h x (.head _))
    have h2 := ih fun y hy => h y (.tail _ hy)
    rw [List.map_cons, List.map_cons, List.sum_cons, slen_append, white_len (hW.pl x (h x (.head _))), sgs_cons]
    omega
theorem count_calls_specG {w : World} {d : Addr} {od : Obj} {kvs : List (Str × Value)} {g : List Wd} (hod : od.IsDictOf (strKind PySem.Challenge.pw_pk0049_01 w) kvs) (hi : IntKvs kvs (g.map fun x => (x.tx, x.pr))) (hd : (d == sysModules) = false) :
    SpecR w 820 2200 (.ref 154) [.ref d] [(d, od)] (fun v post => (∃ t, v = .int (prs g) t) ∧ post = []) := by
  have e : ((g.map fun x => (x.tx, x.pr)).map (·.2)).sum = prs g := by rw [List.map_map]; rfl
  have h := count_calls_spec (w := w) hod hi hd
  rw [e] at h
  exact h
theorem falls_mid {a b : List Wd} {rest : List (List Wd)} : ∀ {l : List (List Wd)}, Falls (l ++ (a :: b :: rest)) → prs b * sgs a ≤ prs a * sgs b
  | [], h => h.1
  | [c], h => falls_mid (l := []) h.2
  | c :: c' :: l, h => falls_mid (l := c' :: l) h.2
theorem pick_mid {xs : List Value} {a b : Int} {i n : Nat} (ha : a = (i : Int)) (hb : b = (i : Int) + n) (hle : i + n ≤ xs.length) : (slicePick xs.toArray (some a) (some b) none).toList = (xs.drop i).take n := by
  subst ha hb
  have := slicePick_run xs.toArray i (i + n) (by simpa using hle) (by omega)
  rw [show ((i : Int) + n) = ((i + n : Nat) : Int) by omega, this]
  simp
/-- a list of pairs, each a tuple of the ledger -/
def PairL (news : List (Addr × Obj)) (vs : List Value) (ps : List (Str × Int)) : Prop := Al (fun v p => ∃ a t t', v = .ref a ∧ (a, tupO [.str p.1 t, .int p.2 t']) ∈ news) vs ps
theorem PairL.mono {n n' : List (Addr × Obj)} {vs : List Value} {ps : List (Str × Int)} (h : PairL n vs ps) (s : ∀ p ∈ n, p ∈ n') : PairL n' vs ps :=
  Al.mono h fun v p x => by obtain ⟨a, t, t', e, hm⟩ := x; exact ⟨a, t, t', e, s _ hm⟩
def col (x : Wd) : Nat → Int
  | 0 => 1
  | 1 => x.sg
  | 2 => x.pr
  | _ => x.pl
theorem col_sums (g : List Wd) : (g.map fun x => col x 0).sum = g.length ∧ (g.map fun x => col x 1).sum = sgs g ∧ (g.map fun x => col x 2).sum = prs g ∧ (g.map fun x => col x 3).sum = pls g := by
  refine ⟨?_, rfl, rfl, rfl⟩
  induction g with
  | nil => rfl
  | cons x r ih => rw [List.map_cons, List.sum_cons, ih]; show (1 : Int) + _ = ((r.length + 1 : Nat) : Int); omega
section
variable {prog : Program} {w : World} {A : Around} {E : Value → Shared → Prop} {s : Shared} {h₀ : Heap} {L l : Addr} {m : Str → Option Value} {news : List (Addr × Obj)} {xs : List Value} {n : Nat} {x y sep : Str} {t u v : Tok} {Q : Value → Shared → Prop}
theorem word_col {e : Addr} {x : Wd} {i : Nat} {t1 t2 t3 t4 t5 : Tok} {value slice : Expr} (N : News h₀ L s.heap news) (hm : (e, tupO [.int 1 t1, .int x.sg t2, .int x.pr t3, .int x.pl t4, .str x.tx t5]) ∈ news) (hi : i < 4) (h : ∀ t, Q (.int (col x i) t) s)
    (hs : subscripted slice false (.ref e) (.int (0 + (i : Int)) u) = operate [.ref e, .int (0 + (i : Int)) u] (getItem (.ref e) (.int (0 + (i : Int)) u))) (hg : ∀ r, letTemporaryGo value (.ref e) r = pure ()) :
    wpAny (model prog w) A (subscriptTail value slice (.ref e) (.int (0 + (i : Int)) u)) Q E s := by
  have ht : IsTup s.heap e (#[.int 1 t1, .int x.sg t2, .int x.pr t3, .int x.pl t4, .str x.tx t5] : Array Value) := ⟨_, (N _ hm).1, rfl, _, rfl⟩
  have hx : ∃ t, (#[Value.int 1 t1, .int x.sg t2, .int x.pr t3, .int x.pl t4, .str x.tx t5] : Array Value)[i]? = some (.int (col x i) t) := by
    match i, hi with
    | 0, _ => exact ⟨_, rfl⟩
    | 1, _ => exact ⟨_, rfl⟩
    | 2, _ => exact ⟨_, rfl⟩
    | 3, _ => exact ⟨_, rfl⟩
  obtain ⟨t, hx⟩ := hx
  refine item_tuple ht (by omega) (by omega) (j := i) ?_ hx (h t) hs hg
  have := seqIndex_of (k := 0 + (i : Int)) (n := 5) (by omega) (by omega)
  rw [show (0 + (i : Int)).toNat = i by omega] at this
  exact this
theorem sliceApplied4 {sl : Addr} {u : Tok} {Q : Int × Int × Nat → Shared → Prop} (hs : s.heap.IsSliceOf sl .none (.int 4 u) .none) (h : Q (0, 1, 4) s) :
    wpAny (model prog w) A (Builtin.Slice.sliceApplied (.ref sl) (pure (((5 : Nat) : Int)))) Q E s := by
  obtain ⟨os, hos, hcs, hds⟩ := id hs
  unfold Builtin.Slice.sliceApplied Builtin.Slice.sliceFields
  refine wpAny_bind (wpAny_bind (wpAny_field hos hds (x := .none) rfl (wpAny_bind (wpAny_field hos hds (x := .int 4 u) rfl (wpAny_bind (wpAny_field hos hds (x := .none) rfl (wpAny_pure ?_)))))))
  refine wpAny_bind (slicePart_none ?_)
  show wpAny _ _ (if ((1 : Int) == 0) = true then _ else _) _ _ s
  rw [if_neg (by decide)]
  refine wpAny_bind (slicePart_none (wpAny_bind (slicePart_int (wpAny_bind (wpAny_pure ?_)))))
  exact wpAny_pure h
theorem slice_tup4 {value slice : Expr} {T : Addr} {a b c d e : Value} {u : Tok} (F : Fr h₀ L s.heap m) (N : News h₀ L s.heap news) (hm : (T, tupO [a, b, c, d, e]) ∈ news)
    (h : ∀ D h', Fr h₀ L h' m → News h₀ L h' ((D, tupO [a, b, c, d]) :: news) → (∀ p ∈ news, p.1 < D) → Q (.ref D) { s with heap := h' })
    (hs : subscripted slice false (.ref T) (.ref s.heap.objs.size) = operate [.ref s.heap.objs.size, .ref T] (getItem (.ref T) (.ref s.heap.objs.size)))
    (hg : ∀ r, letTemporaryGo value (.ref T) r = pure ()) :
    wpAny (model prog w) A (subscriptTail value slice (.ref T) (.ref s.heap.objs.size)) Q E { s with heap := s.heap.push { cls := .type "slice", data := .fields #[.none, .int 4 u, .none] } } := by
  have ht : IsTup s.heap T (#[a, b, c, d, e] : Array Value) := ⟨_, (N _ hm).1, rfl, _, rfl⟩
  have ht' : IsTup (s.heap.push { cls := .type "slice", data := .fields #[.none, .int 4 u, .none] }) T (#[a, b, c, d, e] : Array Value) := ht.keeps fun _ _ e => Heap.get?_push_of_some _ e
  have F1 := F.push { cls := .type "slice", data := .fields #[.none, .int 4 u, .none] }
  have N1 := News.push F1 (N.grown fun _ _ e => Heap.get?_push_of_some _ e) (tupO [a, b, c, d])
  refine subscriptTail_ops (s := { s with heap := s.heap.push { cls := .type "slice", data := .fields #[.none, .int 4 u, .none] } }) ht'.typeIs slot_tuple_getitem.lookup ?_ hs hg
  have hsl : (s.heap.push { cls := .type "slice", data := .fields #[.none, .int 4 u, .none] }).IsSliceOf s.heap.objs.size .none (.int 4 u) .none := Heap.IsSliceOf.new ..
  have hTs : Shared.TypeIs { s with heap := s.heap.push { cls := .type "slice", data := .fields #[.none, .int 4 u, .none] } } (.ref s.heap.objs.size) "slice" := ⟨_, Heap.get?_push_size _ rfl, rfl⟩
  unfold getItem
  try with_reducible refine wpAny_holding ?_
  first | refine wpAny_bind (wpAny_pure ?_) | skip
  refine wpAny_bind (wpAny_sequenceKey ht'.typeIs (by decide) ?_)
  refine wpAny_bind (wpAny_callSpecial?_slot (name := Str.ofString "__getitem__") ht'.typeIs slot_tuple_getitem
    (wpAny_call_entry slot_tuple_getitem ht'.typeIs entry_tuple_getitem ?_ (args_tuple_getitem _ _)))
  show wpAny _ _ (Builtin.Tuple.tupleItemsOf (.ref T) >>= _) _ _ _
  refine wpAny_bind (tupleItemsOf_ ht' ?_)
  refine wpAny_bind (wpAny_typeOf hTs ?_)
  rw [if_pos (by decide)]
  refine wpAny_bind (sliceApplied4 hsl ?_)
  have hq : Q (.ref (s.heap.push { cls := .type "slice", data := .fields #[.none, .int 4 u, .none] }).objs.size) { s with heap := (s.heap.push { cls := .type "slice", data := .fields #[.none, .int 4 u, .none] }).push (tupO [a, b, c, d]) } := by
    refine h _ _ (F1.push _) N1 fun p hp => ?_
    rw [Heap.size_push]
    exact Nat.lt_succ_of_lt (Heap.lt_size (N p hp).1)
  have hz : sizeOk (tupO [a, b, c, d]).data := (show 4 ≤ sizeLine by decide)
  first
    | exact wpAny_bind (m := Builtin.Tuple.tupleExact _) (wpAny_newObj_type (wpAny_pure ⟨_, rfl, wpAny_pure hq⟩) hz)
    | exact wpAny_bind (m := Builtin.Tuple.tupleExact _) (wpAny_newObj_type (wpAny_bind (wpAny_pure (wpAny_pure ⟨_, rfl, wpAny_pure hq⟩))) hz)
    | exact wpAny_bind (wpAny_bind (m := Builtin.Tuple.tupleExact _) (wpAny_newObj_type (wpAny_pure (wpAny_pure ⟨_, rfl, wpAny_pure hq⟩)) hz))
    | exact wpAny_bind (wpAny_bind (m := Builtin.Tuple.tupleExact _) (wpAny_newObj_type (wpAny_pure ⟨_, rfl, wpAny_pure hq⟩) hz))
theorem ne_str_eq (e : x = y) (h : Q (.bool false) s) : wpAny (model prog w) A (compareOp .NotEq (.str x t) (.str y u)) Q E s := by
  subst e
  refine P.ne_str ?_
  simpa using h
theorem ne_int_same {a : Int} (h : Q (.bool false) s) : wpAny (model prog w) A (compareOp .NotEq (.int a t) (.int a u)) Q E s := by
  refine PyProof.Rows.ne_int ?_
  rw [bne_self_eq_false]
  exact h
theorem ne_tup4 {D1 D2 : Addr} {a b c d : Int} {t1 t2 t3 t4 u1 u2 u3 u4 : Tok} (N : News h₀ L s.heap news) (h1 : (D1, tupO [.int a t1, .int b t2, .int c t3, .int d t4]) ∈ news) (h2 : (D2, tupO [.int a u1, .int b u2, .int c u3, .int d u4]) ∈ news) (hu : A.units + 64 < cLine) (h : Q (.bool false) s) :
    wpAny (model prog w) A (compareOp .NotEq (.ref D1) (.ref D2)) Q E s := by
  have lay : SeqAt.shaped (.tuple [.int a, .int b, .int c, .int d]) = true := by simp [SeqAt.shaped, PyData.canLay0, PyData.canLayAll0, PyData.depth, PyData.depthAll]
  refine SeqAt.compareNe_shaped (da := .tuple [.int a, .int b, .int c, .int d]) (db := .tuple [.int a, .int b, .int c, .int d]) (reads_tuple_at (N _ h1).1 rfl rfl (.cons (.int _ _) (.cons (.int _ _) (.cons (.int _ _) (.cons (.int _ _) .nil))))) (reads_tuple_at (N _ h2).1 rfl rfl (.cons (.int _ _) (.cons (.int _ _) (.cons (.int _ _) (.cons (.int _ _) .nil))))) lay lay hu ?_
  have : PyData.eqv (.tuple [.int a, .int b, .int c, .int d]) (.tuple [.int a, .int b, .int c, .int d]) = true := by
    simp [PyData.eqv, PyData.eqvAll]
  rw [this]; exact h
theorem reads_pairs : ∀ {vs : List Value} {ps : List (Str × Int)} (_ : News h₀ L s.heap news), PairL news vs ps → (∀ p ∈ ps, PyData.strOk p.1 = true) → ∃ as, ReadsAll s.heap vs (ps.map fun p => .tuple [.str p.1, .int p.2]) as ∧ PyData.canLayAll0 (ps.map fun p => .tuple [.str p.1, .int p.2]) = true ∧ PyData.depthAll (ps.map fun p => PyData.tuple [.str p.1, .int p.2]) ≤ 1
  | [], [], _, _, _ => ⟨_, .nil, rfl, by decide⟩
  | [], _ :: _, _, h, _ => absurd h.1 (by simp)
  | _ :: _, [], _, h, _ => absurd h.1 (by simp)
  | v :: vs, p :: ps, N, h, ok => by
    obtain ⟨a, t, t', rfl, hm⟩ := h.head
    obtain ⟨as, h1, h2, h3⟩ := reads_pairs N h.tail fun q hq => ok q (.tail _ hq)
    refine ⟨_, .cons (reads_tuple_at (N _ hm).1 rfl rfl (.cons (.str _ _) (.cons (.int _ _) .nil))) h1, ?_, ?_⟩
    · simp [PyData.canLayAll0, PyData.canLay0, ok p (.head _)] at h2 ⊢
      exact h2
    · simp only [List.map_cons, PyData.depthAll, PyData.depth] at h3 ⊢
      omega
theorem eqv_pairs (ps : List (Str × Int)) : PyData.eqvAll (ps.map fun p => .tuple [.str p.1, .int p.2]) (ps.map fun p => .tuple [.str p.1, .int p.2]) = true := by
  induction ps with
  | nil => rfl
  | cons p ps ih => simp [PyData.eqvAll, PyData.eqv] at ih ⊢; exact ih
theorem ne_pairs {D1 D2 : Addr} {o1 o2 : Obj} {vs us : List Value} {ps : List (Str × Int)} (N : News h₀ L s.heap news) (m1 : (D1, o1) ∈ news) (m2 : (D2, o2) ∈ news) (r1 : RowO o1 vs) (r2 : RowO o2 us) (h1 : PairL news vs ps) (h2 : PairL news us ps) (ok : ∀ p ∈ ps, PyData.strOk p.1 = true) (hu : A.units + 64 < cLine) (h : Q (.bool false) s) :
    wpAny (model prog w) A (compareOp .NotEq (.ref D1) (.ref D2)) Q E s := by
  obtain ⟨as, a1, a2, a3⟩ := reads_pairs N h1 ok
  obtain ⟨bs, b1, b2, b3⟩ := reads_pairs N h2 ok
  have lay : SeqAt.shaped (.list (ps.map fun p => .tuple [.str p.1, .int p.2])) = true := by
    refine Bool.and_eq_true_iff.mpr ⟨by rw [PyData.canLay0]; exact a2, decide_eq_true ?_⟩
    rw [PyData.depth]
    exact Nat.le_trans (Nat.add_le_add_right a3 1) (by decide)
  obtain ⟨c1, n1, d1⟩ := r1
  obtain ⟨c2, n2, d2⟩ := r2
  refine SeqAt.compareNe_shaped (da := .list _) (db := .list _) (reads_list_at (N _ m1).1 c1 d1 a1) (reads_list_at (N _ m2).1 c2 d2 b1) lay lay hu ?_
  have : PyData.eqv (.list (ps.map fun p => .tuple [.str p.1, .int p.2])) (.list (ps.map fun p => .tuple [.str p.1, .int p.2])) = true := by
    rw [PyData.eqv]; exact eqv_pairs ps
  rw [this]; exact h
theorem list_items_at {D d : Addr} {od : Obj} {kvs : List (Str × Value)} {ps : List (Str × Int)} (hh : A.handled = none) (F : Fr h₀ L s.heap m) (N : News h₀ L s.heap news) (hv : (D, viewO d) ∈ news) (hd : (d, od) ∈ news) (hod : od.IsDictOf (strKind prog w) kvs) (hi : IntKvs kvs ps) (hn : kvs.length ≤ 1000)
    (h : ∀ B h' tk vs c tups, Fr h₀ L h' m → News h₀ L h' ((B, { cls := .type "list", data := .seq vs.toArray c }) :: (tups ++ news)) → PairL tups vs ps → Q (.ref B) { s with heap := h', toks := tk }) :
    wpAny (model prog w) A (call (.type "list") [.ref D]) Q E s := by
  obtain ⟨ep, hat⟩ := KdkAt.of hod
  refine kdx_call (knd := strKind prog w) (kvs := kvs) (ep := ep) hh ⟨_, (N _ hv).1, rfl, rfl⟩ (hat.dictAt (N _ hd).1) (by rw [sizeLine_eq]; omega) fun h' tk acc c as hk hS hl hG hacc => ?_
  have ea : acc = (as.map Value.ref).toArray := by rw [← hacc, Array.toArray_toList]
  subst ea
  have key : ∀ (j : Nat) (a : Addr), as[j]? = some a → ∃ o, h'.get? a = some o ∧ ∃ p t t', ps[j]? = some p ∧ o = tupO [.str p.1 t, .int p.2 t'] := by
    intro j a ha
    obtain ⟨key, k, x, e1, e2, e3⟩ := hG.pairs j a ha
    obtain ⟨t, rfl⟩ := strKind_val e2
    obtain ⟨p, t', e4, rfl⟩ := hi.get e1
    exact ⟨_, e3, (k, p), t, t', e4, rfl⟩
  refine h _ h' tk (as.map Value.ref) c (as.map fun a => (a, (h'.get? a).getD { cls := .none, data := .plain })) (F.keeps hk) (fun q hq => ?_) ⟨?_, fun j v p hv hp => ?_⟩
  · rcases List.mem_cons.mp hq with rfl | hq
    · exact ⟨hS, kdx_fresh F (Nat.le_refl _)⟩
    rcases List.mem_append.mp hq with hq | hq
    · obtain ⟨a, ha, rfl⟩ := List.mem_map.mp hq
      obtain ⟨j, hj⟩ := List.mem_iff_getElem?.mp ha
      obtain ⟨o, ho, _⟩ := key j a hj
      exact ⟨by dsimp only; rw [ho]; rfl, kdx_fresh F (Nat.le_of_lt (hG.above a ha))⟩
    · exact ⟨hk _ _ (N q hq).1, (N q hq).2⟩
  · rw [List.length_map, hl, hi.length]
  · rw [List.getElem?_map] at hv
    obtain ⟨a, ha, rfl⟩ := Option.map_eq_some_iff.mp hv
    obtain ⟨o, ho, p', t, t', e1, rfl⟩ := key j a ha
    rw [e1] at hp
    cases hp
    exact ⟨a, t, t', rfl, List.mem_map.mpr ⟨a, List.mem_of_getElem? ha, by rw [ho]; rfl⟩⟩
end
end Mine

end
/- M4 -/
section
open PySem PySem.W PyProof.Rows PySem.Calls PySem.Spec Builtin
set_option maxHeartbeats 1000000
namespace Mine
def Fin2 (T : List Wd → Bool) : List (List Wd) → Prop
  | a :: b :: r => (prs b * sgs a ≤ prs a * sgs b ∧ (prs a * sgs b = prs b * sgs a → T a = false → T b = false)) ∧ Fin2 T (b :: r)
  | _ => True
theorem fin2_cons {T : List Wd → Bool} {a : List Wd} : ∀ {C : List (List Wd)}, Fin2 T C → (∀ b, C.head? = some b → prs b * sgs a ≤ prs a * sgs b ∧ (prs a * sgs b = prs b * sgs a → T a = false → T b = false)) → Fin2 T (a :: C)
  | [], _, _ => trivial
  | b :: r, h, hb => ⟨hb b rfl, h⟩
theorem fin2_get {T : List Wd → Bool} : ∀ {C : List (List Wd)}, Fin2 T C → ∀ (i : Nat) (a b : List Wd), C[i]? = some a → C[i + 1]? = some b → prs b * sgs a ≤ prs a * sgs b ∧ (prs a * sgs b = prs b * sgs a → T a = false → T b = false)
  | [], _, i, a, b, h, _ => by simp at h
  | [x], _, i, a, b, _, h => by simp at h
  | x :: y :: r, h, 0, a, b, e1, e2 => by cases e1; cases e2; exact h.1
  | x :: y :: r, h, i + 1, a, b, e1, e2 => fin2_get (C := y :: r) h.2 i a b (by simpa using e1) (by simpa using e2)
theorem fin2_of {T : List Wd → Bool} {b : Bool} : ∀ {C : List (List Wd)}, Falls C → (∀ g ∈ C, T g = b) → Fin2 T C
  | [], _, _ => trivial
  | [_], _, _ => trivial
  | a :: c :: r, h, ht => ⟨⟨h.1, fun _ ha => by rw [ht c (.tail _ (.head _)), ← ht a (.head _)]; exact ha⟩, fin2_of (C := c :: r) h.2 fun g hg => ht g (.tail _ hg)⟩
theorem Merge.head {L R C : List (List Wd)} (h : Merge L R C) : C.head? = L.head? ∨ C.head? = R.head? := by
  cases h with
  | restL => exact .inl rfl
  | restR => exact .inr rfl
  | left _ _ => exact .inl rfl
  | right _ _ => exact .inr rfl
theorem falls_tail {a : List Wd} {L : List (List Wd)} (h : Falls (a :: L)) : Falls L := by cases L with | nil => trivial | cons c L => exact h.2
theorem falls_head1 {a b : List Wd} {L : List (List Wd)} (h : Falls (a :: L)) (e : L.head? = some b) : prs b * sgs a ≤ prs a * sgs b := by
  cases L with
  | nil => cases e
  | cons c L => cases e; exact h.1
theorem merge_fin2 {T : List Wd → Bool} {L R C : List (List Wd)} (hM : Merge L R C) : Falls L → Falls R → (∀ g ∈ L, T g = true) → (∀ g ∈ R, T g = false) → Fin2 T C := by
  induction hM with
  | restL L => exact fun f _ t _ => fin2_of f t
  | restR R => exact fun _ f _ t => fin2_of f t
  | @left a b L R C hab hM ih =>
    intro fL fR tL tR
    refine fin2_cons (ih (falls_tail fL) fR (fun g hg => tL g (.tail _ hg)) tR) fun c hc => ?_
    have ta := tL a (.head _)
    refine ⟨?_, fun _ h => by rw [ta] at h; cases h⟩
    rcases hM.head with h | h
    · exact falls_head1 fL (h.symm.trans hc)
    · rw [hc] at h; cases h; exact hab
  | @right a b L R C hab hM ih =>
    intro fL fR tL tR
    refine fin2_cons (ih fL (falls_tail fR) tL (fun g hg => tR g (.tail _ hg))) fun c hc => ?_
    rcases hM.head with h | h
    · rw [hc] at h; cases h
      exact ⟨Int.le_of_lt hab, fun e => absurd e (by omega)⟩
    · have h2 := falls_head1 fR (h.symm.trans hc)
      refine ⟨h2, fun _ _ => ?_⟩
      cases R with
      | nil => rw [hc] at h; cases h
      | cons d R => rw [hc] at h; cases h; exact tR _ (.tail _ (.head _))
theorem merge_fine {W : List Wd} (hW : Proper W) {L R C : List (List Wd)} (hM : Merge L R C) (fL : Falls L) (fR : Falls R) (gL : ∀ g ∈ L, OkB W g) (gR : ∀ g ∈ R, OkB W g) (hd : ∀ g ∈ L, g ∉ R) : Fine L C := by
  have h := merge_fin2 (T := fun g => L.any fun u => blk u == blk g) hM fL fR (fun g hg => List.any_eq_true.mpr ⟨g, hg, by simp⟩) (fun g hg => by
    rw [Bool.eq_false_iff]
    intro hc
    obtain ⟨u, hu, e⟩ := List.any_eq_true.mp hc
    have := blk_inj hW (gL u hu) (gR g hg) (by simpa using e)
    exact hd u hu (this ▸ hg))
  exact fun i a b e1 e2 => fin2_get h i a b e1 e2
end Mine

end
/- D1 -/
section
open PySem PySem.W PyProof.Rows PySem.Calls PySem.Spec Builtin
set_option maxHeartbeats 1000000
namespace Mine

section
variable {prog : Program} {w : World} {A : Around} {E : Value → Shared → Prop} {s : Shared}

theorem next_acc_item {it P D : Addr} {i n : Nat} {items : Array Value} {x : Value} {Q : Option Value → Shared → Prop} (hit : s.heap.IsListIter it P i)
    (hol : s.heap.get? P = some (accO D items n)) (hx : items[i]? = some x)
    (hQ : ∀ h', h'.IsListIter it P (i + 1) → Heap.SameBut it s.heap h' → Q (some x) { s with heap := h' }) :
    wpAny (model prog w) A (pyNext (.ref it)) Q E s := by
  obtain ⟨o, ho, hc, hd⟩ := id hit
  unfold pyNext
  refine wpAny_bind (wpAny_attempt (wpAny_callSpecial?_slot (name := Str.ofString "__next__") hit.typeIs slot_listiter_next
    (wpAny_call_entry slot_listiter_next hit.typeIs entry_listiter_next ?_ (args_listiter_next _))))
  show wpAny _ _ (field (.ref it) 0 >>= _) _ _ s
  refine wpAny_bind (wpAny_field ho hd (x := .ref P) rfl ?_)
  show wpAny _ _ (if (Value.ref P == Value.none) = true then _ else _) _ _ s
  rw [if_neg (show ¬ ((Value.ref P == Value.none) = true) from Bool.false_ne_true)]
  show wpAny _ _ (field (.ref it) 1 >>= _) _ _ s
  refine wpAny_bind (wpAny_field ho hd (x := .int i 0) rfl ?_)
  show wpAny _ _ (seqItems? (.ref P) >>= _) _ _ s
  refine wpAny_bind (wpAny_seqItems hol rfl ?_)
  simp only [Int.toNat_natCast, hx]
  refine wpAny_bind (wpAny_setField ho hd (by simp) (wpAny_pure ⟨x, rfl, wpAny_pure (hQ _ ?_ (Heap.SameBut.update ..))⟩))
  exact ⟨_, Heap.get?_update_self _ ho (Obj.isFreed_of_fields (Obj.data_mapFields hd _)), (Obj.cls_mapFields ..).trans hc, by
    rw [Obj.data_mapFields hd]; simp [rawInt]⟩

theorem next_acc_end {it P D : Addr} {i n : Nat} {items : Array Value} {Q : Option Value → Shared → Prop} (hh : A.handled = none)
    (hit : s.heap.IsListIter it P i) (hol : s.heap.get? P = some (accO D items n)) (hx : items[i]? = none)
    (hQ : ∀ h', Heap.ExtBut it s.heap h' → Q none { s with heap := h' }) : wpAny (model prog w) A (pyNext (.ref it)) Q E s := by
  obtain ⟨o, ho, hc, hd⟩ := id hit
  unfold pyNext
  refine wpAny_bind (wpAny_attempt (wpAny_callSpecial?_slot (name := Str.ofString "__next__") hit.typeIs slot_listiter_next
    (wpAny_call_entry slot_listiter_next hit.typeIs entry_listiter_next ?_ (args_listiter_next _))))
  show wpAny _ _ (field (.ref it) 0 >>= _) _ _ s
  refine wpAny_bind (wpAny_field ho hd (x := .ref P) rfl ?_)
  show wpAny _ _ (if (Value.ref P == Value.none) = true then _ else _) _ _ s
  rw [if_neg (show ¬ ((Value.ref P == Value.none) = true) from Bool.false_ne_true)]
  show wpAny _ _ (field (.ref it) 1 >>= _) _ _ s
  refine wpAny_bind (wpAny_field ho hd (x := .int i 0) rfl ?_)
  show wpAny _ _ (seqItems? (.ref P) >>= _) _ _ s
  refine wpAny_bind (wpAny_seqItems hol rfl ?_)
  simp only [Int.toNat_natCast, hx]
  refine wpAny_bind (wpAny_rule (wpAny_bind (wpAny_setField ho hd (by simp) ?_)))
  show wpAny _ _ (newExc (.type "StopIteration") [] >>= _) _ _ _
  refine wpAny_bind ?_
  simp only [newExc, newTuple]
  refine wpAny_bind (wpAny_newObj_type ?_ (by size_fits))
  refine wpAny_bind (m := firstArgMember _ _) (wpAny_of_eq (a := Value.none) (by first | rfl | (simp only [firstArgMember]; rfl)) ?_)
  refine wpAny_newObj_type ?_ (by size_fits)
  simp only [raiseNew]
  refine wpAny_bind (wpAny_handled ?_)
  rw [show A.in1.handled = none from hh]
  refine wpAny_bind (wpAny_pure (wpAny_throw ?_))
  refine wpAny_bind (wpAny_isInstance (T := "StopIteration") (b := true) ⟨_, Heap.get?_push_size _ rfl, rfl⟩ isSubtype_stop ?_)
  exact wpAny_pure (hQ _ (((Heap.SameBut.update ..).extBut.push _).push _))

theorem walks_acc {prog : Program} {w : World} {A : Around} (hh : A.handled = none) (I P D : Addr) (n : Nat) (hne : P ≠ I) (items : Array Value) (Ts : Nat → Addr) (vals : Nat → Array Value)
    (hit : ∀ j, j < items.size → items[j]? = some (.ref (Ts j))) (hTI : ∀ j, j < items.size → Ts j ≠ I) :
    WalksU prog w A I (I :: P :: (List.range items.size).map Ts) [I] items.size (fun j v => v = vals j)
      (fun j h => h.IsListIter I P j ∧ h.get? P = some (accO D items n) ∧ ∀ k, k < items.size → h.IsTuple (Ts k) (vals k))
      (fun j T h => (j < items.size ∧ T = Ts j) ∧ h.IsListIter I P (j + 1) ∧ h.get? P = some (accO D items n) ∧ ∀ k, k < items.size → h.IsTuple (Ts k) (vals k)) where
  sub := fun b hb => by simp at hb; simp [hb]
  frame := fun _ _ _ st hk => ⟨st.1.at fun o e => hk I (by simp) o e, hk P (by simp) _ st.2.1,
    fun k hk' => (st.2.2 k hk').at fun o e => hk (Ts k) (List.mem_cons_of_mem _ (List.mem_cons_of_mem _ (List.mem_map.mpr ⟨k, List.mem_range.mpr hk', rfl⟩))) o e⟩
  item := fun i s Q E hi st hQ => by
    refine next_acc_item st.1 st.2.1 (x := .ref (Ts i)) (hit i hi) fun h' hit' hs' => ?_
    have tup : ∀ k, k < items.size → h'.IsTuple (Ts k) (vals k) := fun k hk' => (st.2.2 k hk').extBut hs'.extBut (hTI k hk')
    exact hQ (Ts i) (vals i) h' s.toks rfl (tup i hi) ⟨⟨hi, rfl⟩, hit', hs'.extBut _ _ hne st.2.1, tup⟩ fun b o hb e => hs'.extBut b o (fun h => hb (by simp [h])) e
  go := fun _ _ _ _ _ s Q _ hm hQ => wpAny_letOwnedTupleGo_listiter hm.2.1 (hQ s.heap hm.2 fun _ _ _ e => e)
  apart := fun j T _ hm hmem => by
    rcases List.mem_cons.mp hmem with e | e
    · exact hTI j hm.1.1 (hm.1.2 ▸ e)
    · cases e
  done := fun s Q E st hQ => next_acc_end hh st.1 st.2.1 (by simp) fun h' he' => hQ h' s.toks fun b o hb e => he' b o (fun h => hb (by simp [h])) e
  self := fun _ _ _ _ st hQ => wpAny_pyIter_listiter st.1 hQ

theorem acc_iter {h₀ h : Heap} {L P D : Addr} {its : Array Value} {n : Nat} {Q : Value → Shared → Prop} (X : (hd.heap_39 w.params).In s.heap) (z : s.heap.get? P = some (accO D its n))
    (h : Q (.ref s.heap.objs.size) { s with heap := s.heap.push { cls := .type "list_iterator", data := .fields #[.ref P, .int 0 0] } }) :
    wpAny (model prog w) A (pyIter (.ref P)) Q E s := by
  have ht : Looks (model prog w) s.heap (typeOf (.ref P)) (.ref 101) := (Looks.ld z).andThen .now
  have hg : Looks (model prog w) s.heap (typeLookup (.ref 101) "__iter__") (some (.builtin "list.__iter__")) := looks_findIn X (by k_is)
  unfold pyIter specialOf
  refine wpAny_bind (wpAny_bind (ht.here (hg.here ?_)))
  have hc : wpAny (model prog w) A (call (.builtin "list.__iter__") [.ref P]) (fun it s' => it = .ref s.heap.objs.size ∧ s' = { s with heap := s.heap.push { cls := .type "list_iterator", data := .fields #[.ref P, .int 0 0] } }) E s := by
    refine acc_entry (kd := .slot) (nm := "__iter__") (by decide +kernel) (.inr rfl) (by decide +kernel) (by decide +kernel) entry_list_iter (args_list_iter _) X z rfl ?_
    show wpAny _ _ (do ret (← newFields "list_iterator" [.ref P, rawInt 0])) _ _ s
    exact wpAny_bind (wpAny_newObj_type (wpAny_pure ⟨_, rfl, rfl, rfl⟩))
  have hc' : wpAny (model prog w) A (callSpecialIfBoundUnlessNone? (.ref P) "__iter__" (do rule "iter.none"; raiseError "TypeError" s!"'{← PySem.typeNameOf (.ref P)}' object is not iterable")) (fun v s' => v = some (.ref s.heap.objs.size) ∧ s' = { s with heap := s.heap.push { cls := .type "list_iterator", data := .fields #[.ref P, .int 0 0] } }) E s := by
    simp only [callSpecialIfBoundUnlessNone?, bindSpecialIfBound?, specialOf]
    refine wpAny_holding (wpAny_bind (wpAny_bind (wpAny_bind (ht.here (hg.here ?_)))))
    simp only [slot_list_iter.bind]
    refine wpAny_bind (wpAny_askSetting (wpAny_ite ?_))
    have fin : ∀ rf : Sem Value, wpAny (model prog w) A (if (Value.builtin "list.__iter__" == Value.none) = true then (rf >>= fun v => pure (some v)) else (call (.builtin "list.__iter__") [.ref P] >>= fun v => pure (some v))) (fun v s' => v = some (.ref s.heap.objs.size) ∧ s' = { s with heap := s.heap.push { cls := .type "list_iterator", data := .fields #[.ref P, .int 0 0] } }) E s := by
      intro rf
      simp only [builtin_beq_none, Bool.false_eq_true, if_false]
      exact wpAny_bind (wpAny_mono hc (fun v s' h' => wpAny_pure ⟨by rw [h'.1], h'.2⟩) fun _ _ h' => h')
    split
    · exact wpAny_bind (wpAny_pure (wpAny_pure (fin _)))
    · exact wpAny_tryCatch (wpAny_bind (wpAny_pure (wpAny_pure (fin _))))
  refine wpAny_bind (wpAny_mono hc' (fun it s' h' => ?_) fun _ _ x => x)
  obtain ⟨rfl, rfl⟩ := h'
  exact wpAny_bind (wpAny_specialOf (T := "list_iterator") ⟨_, Heap.get?_push_size _ rfl, rfl⟩ slot_listiter_next.lookup (wpAny_pure h))
end
end Mine

end
/- D2 -/
section
open PySem PySem.W PyProof.Rows PySem.Calls PySem.Spec Builtin
set_option maxHeartbeats 1000000
namespace Mine

def psum (h : Int) (val : Nat → Int) : Nat → Int
  | 0 => h
  | i + 1 => psum h val i + val i

section
variable {prog : Program} {w : World} {A : Around} {R : Result → Shared → Prop} {I : Addr} {fp wr : List Addr} {G : Array GenState → Array GenState → Prop} {n : Nat} {P : Nat → Value → Prop} {St : Nat → Shared → Prop}

theorem sum_loop_start (W : WalksS prog w A.in1 I fp wr G n P St) (h0 : Int) (val : Nat → Int) (hval : ∀ i v, P i v → ∃ t, v = .int (val i) t) (S : Addr) (hSf : S ∉ fp) :
    ∀ (k i : Nat) (s : Shared) (tA : Tok) (c : Nat) (st : Int), (st = 0 ∨ st = 2) → n - i = k → i ≤ n → St i s → s.heap.get? S = some { cls := .type "list", dict := none, data := .seq #[.int (psum h0 val i) tA] c, slots := #[] } →
    (∀ s' t', Moved (S :: wr) G s s' → R (.ok (.ret (.int (psum h0 val n) t'))) s') → codeAny (model prog w) A (.builtin "sum.loop" ⟨[.ref I, .ref S, rawInt st, rawInt 0], []⟩) R s := by
  have hSw : S ∉ wr := fun h => hSf (W.sub _ h)
  have hsub : ∀ b ∈ wr, b ∈ S :: wr := fun b hb => List.mem_cons_of_mem _ hb
  intro k
  induction k with
  | zero =>
    intro i s tA c st hst2 hk hi hst hS hR
    have hin : i = n := by omega
    subst hin
    refine codeAny_builtin F.entry_sum_loop ?_
    rw [Around.under_plainId F.plain_sum_loop _]
    show wpAny _ A.in1 (seqItems? (.ref S) >>= _) _ _ s
    refine wpAny_bind (wpAny_seqItems hS rfl ?_)
    show wpAny _ A.in1 (tryCatch (pyNext (.ref I)) _ >>= _) _ _ s
    refine wpAny_bind (wpAny_tryCatch (W.done s _ _ hst fun s' hm => ?_))
    exact wpAny_pure (hR s' tA (hm.mono hsub))
  | succ k ih =>
    intro i s tA c st hst2 hk hi hst hS hR
    have hlt : i < n := by omega
    refine codeAny_builtin F.entry_sum_loop ?_
    rw [Around.under_plainId F.plain_sum_loop _]
    show wpAny _ A.in1 (seqItems? (.ref S) >>= _) _ _ s
    refine wpAny_bind (wpAny_seqItems hS rfl ?_)
    show wpAny _ A.in1 (tryCatch (pyNext (.ref I)) _ >>= _) _ _ s
    refine wpAny_bind (wpAny_tryCatch (W.item i s _ _ hlt hst fun v s' hP hst' hm => ?_))
    obtain ⟨t, rfl⟩ := hval i v hP
    have hS' := hm.heap S _ hSw hS
    rcases hst2 with rfl | rfl
    · show wpAny _ A.in1 (if (_ : Bool) = true then (mkInt (psum h0 val i + val i) >>= _) else _) _ _ _
      split
      · refine wpAny_bind (wpAny_mkInt ?_)
        show wpAny _ A.in1 (updateSeq S (fun _ => #[.int (psum h0 val i + val i) s'.toks]) >>= _) _ _ _
        refine wpAny_bind ?_
        refine wpAny_updateSeq hS' rfl (wpAny_pure ⟨plainId_quiet F.plain_sum_loop _, ih (i + 1) _ s'.toks _ 0 (.inl rfl) (by omega) hlt (W.frame _ s' _ _ hst' (by first | exact Nat.le_refl _ | exact Nat.le_succ _ | omega) fun b hb o e => ?_) (Heap.get?_update_self _ hS' rfl) fun s'' t'' hm'' => ?_⟩)
        · exact (Heap.get?_update_other _ _ (fun h : S = b => hSf (by rw [h]; exact hb))).trans e
        · refine hR s'' t'' (Moved.trans W.gtrans ((hm.mono hsub).then_heap (by first | exact Nat.le_refl _ | exact Nat.le_succ _ | omega) fun b o hb e => ?_) hm'')
          exact (Heap.get?_update_other _ _ (fun h : S = b => hb (by rw [h]; exact List.mem_cons_self))).trans e
      · refine wpAny_bind (wpAny_rule ?_)
        refine wpAny_bind (wpAny_attempt (wpAny_holding (wpAny_add_int ?_)))
        show wpAny _ A.in1 (updateSeq S (fun _ => #[.int (psum h0 val i + val i) s'.toks]) >>= _) _ _ _
        refine wpAny_bind (wpAny_updateSeq hS' rfl ?_)
        have hS₂ := Heap.get?_update_self (Obj.mapSeq fun _ => #[Value.int (psum h0 val i + val i) s'.toks]) hS' rfl
        refine wpAny_bind (wpAny_letGo ?_)
        refine wpAny_bind (wpAny_updateSeq hS₂ rfl (wpAny_pure ⟨plainId_quiet F.plain_sum_loop _, ih (i + 1) _ s'.toks _ 2 (.inr rfl) (by omega) hlt (W.frame _ s' _ _ hst' (by first | exact Nat.le_refl _ | exact Nat.le_succ _ | omega) fun b hb o e => ?_) (Heap.get?_update_self _ hS₂ rfl) fun s'' t'' hm'' => ?_⟩))
        · exact (Heap.get?_update_other _ _ (fun h : S = b => hSf (by rw [h]; exact hb))).trans ((Heap.get?_update_other _ _ (fun h : S = b => hSf (by rw [h]; exact hb))).trans e)
        · refine hR s'' t'' (Moved.trans W.gtrans ((hm.mono hsub).then_heap (by first | exact Nat.le_refl _ | exact Nat.le_succ _ | omega) fun b o hb e => ?_) hm'')
          exact (Heap.get?_update_other _ _ (fun h : S = b => hb (by rw [h]; exact List.mem_cons_self))).trans ((Heap.get?_update_other _ _ (fun h : S = b => hb (by rw [h]; exact List.mem_cons_self))).trans e)
    · show wpAny _ A.in1 ((holding [Value.int (val i) t] (binaryOp .Add (.int (psum h0 val i) tA) (.int (val i) t))).attempt >>= _) _ _ _
      refine wpAny_bind (wpAny_attempt (wpAny_holding (wpAny_add_int ?_)))
      show wpAny _ A.in1 (updateSeq S (fun _ => #[.int (psum h0 val i + val i) s'.toks]) >>= _) _ _ _
      refine wpAny_bind (wpAny_updateSeq hS' rfl ?_)
      have hS₂ := Heap.get?_update_self (Obj.mapSeq fun _ => #[Value.int (psum h0 val i + val i) s'.toks]) hS' rfl
      refine wpAny_bind (wpAny_letGo ?_)
      refine wpAny_bind (wpAny_updateSeq hS₂ rfl (wpAny_pure ⟨plainId_quiet F.plain_sum_loop _, ih (i + 1) _ s'.toks _ 2 (.inr rfl) (by omega) hlt (W.frame _ s' _ _ hst' (by first | exact Nat.le_refl _ | exact Nat.le_succ _ | omega) fun b hb o e => ?_) (Heap.get?_update_self _ hS₂ rfl) fun s'' t'' hm'' => ?_⟩))
      · exact (Heap.get?_update_other _ _ (fun h : S = b => hSf (by rw [h]; exact hb))).trans ((Heap.get?_update_other _ _ (fun h : S = b => hSf (by rw [h]; exact hb))).trans e)
      · refine hR s'' t'' (Moved.trans W.gtrans ((hm.mono hsub).then_heap (by first | exact Nat.le_refl _ | exact Nat.le_succ _ | omega) fun b o hb e => ?_) hm'')
        exact (Heap.get?_update_other _ _ (fun h : S = b => hb (by rw [h]; exact List.mem_cons_self))).trans ((Heap.get?_update_other _ _ (fun h : S = b => hb (by rw [h]; exact List.mem_cons_self))).trans e)
end

section
variable {prog : Program} {w : World} {A : Around} {E : Value → Shared → Prop} {s : Shared}

theorem call_sum_start {x : Value} {h0 : Int} {th : Tok} {Q : Value → Shared → Prop}
    (h : wpAny (model prog w) A.in1 (pyIter x) (fun it s₂ => ∃ I fp wr G n P St val, it = .ref I ∧ WalksS prog w A.in1 I fp wr G n P St ∧ St 0 s₂ ∧ (∀ b ∈ fp, b < s₂.heap.objs.size) ∧
      (∀ i v, P i v → ∃ t, v = .int (val i) t) ∧
      ∀ s' t', Moved wr G s₂ s' → Q (.int (psum h0 val n) t') s') E s) :
    wpAny (model prog w) A (call (.builtin "sum") [x, .int h0 th]) Q E s := by
  refine call_function_tree F.kind_sum F.plain_sum F.entry_sum (by unfold argsOk; kernel_rfl) ?_
  unfold Builtin.«sum»
  simp only [List.length_cons, List.length_nil]
  rw [if_neg (by decide)]
  refine wpAny_bind (wpAny_of_eq (show Builtin.Builtins.bindParams "sum" ["start"] 0 { pos := [.int h0 th] } = pure [some (.int h0 th)] from rfl) ?_)
  refine wpAny_bind (wpAny_mono h (fun it s₂ h₂ => ?_) fun _ _ e => e)
  obtain ⟨I, fp, wr, G, n, P, St, val, rfl, W, hst, hfp, hval, hQ⟩ := h₂
  dsimp only
  split
  · refine wpAny_bind (wpAny_rule ?_)
    refine wpAny_bind (wpAny_mkInt ?_)
    refine wpAny_bind (wpAny_pure ?_)
    simp only [List.forIn_cons, List.forIn_nil]
    refine wpAny_bind (wpAny_bind (wpAny_bind (wpAny_isInstance (T := "int") (b := false) (typeIs_int _ _ _) PySem.sub_int_str ?_)))
    simp only [Bool.false_eq_true, if_false]
    refine wpAny_pure (wpAny_bind (wpAny_bind (wpAny_isInstance (T := "int") (b := false) (typeIs_int _ _ _) PySem.sub_int_bytes ?_)))
    simp only [Bool.false_eq_true, if_false]
    refine wpAny_pure (wpAny_bind (wpAny_bind (wpAny_isInstance (T := "int") (b := false) (typeIs_int _ _ _) PySem.sub_int_bytearray ?_)))
    simp only [Bool.false_eq_true, if_false]
    refine wpAny_pure (wpAny_pure ?_)
    refine wpAny_bind (wpAny_newObj_type ?_)
    have hSf : s₂.heap.objs.size ∉ fp := fun hm => Nat.lt_irrefl _ (hfp _ hm)
    refine wpAny_pure ⟨plainId_quiet F.plain_sum_loop _, sum_loop_start W h0 val hval s₂.heap.objs.size hSf n 0 _ s₂.toks 0 0 (.inl rfl) rfl (Nat.zero_le _)
      (W.frame 0 s₂ _ _ hst (by first | exact Nat.le_refl _ | exact Nat.le_succ _ | omega) fun b _ o e => Heap.get?_push_of_some _ e) (Heap.get?_push_size _ rfl) fun s' t' hm => ?_⟩
    exact hQ s' t' (hm.drop_new (by first | exact Nat.le_refl _ | exact Nat.le_succ _ | omega))
  · refine wpAny_bind (wpAny_pure ?_)
    simp only [List.forIn_cons, List.forIn_nil]
    refine wpAny_bind (wpAny_bind (wpAny_bind (wpAny_isInstance (T := "int") (b := false) (typeIs_int _ _ _) PySem.sub_int_str ?_)))
    simp only [Bool.false_eq_true, if_false]
    refine wpAny_pure (wpAny_bind (wpAny_bind (wpAny_isInstance (T := "int") (b := false) (typeIs_int _ _ _) PySem.sub_int_bytes ?_)))
    simp only [Bool.false_eq_true, if_false]
    refine wpAny_pure (wpAny_bind (wpAny_bind (wpAny_isInstance (T := "int") (b := false) (typeIs_int _ _ _) PySem.sub_int_bytearray ?_)))
    simp only [Bool.false_eq_true, if_false]
    refine wpAny_pure (wpAny_pure ?_)
    refine wpAny_bind (wpAny_newObj_type ?_)
    have hSf : s₂.heap.objs.size ∉ fp := fun hm => Nat.lt_irrefl _ (hfp _ hm)
    refine wpAny_pure ⟨plainId_quiet F.plain_sum_loop _, sum_loop_start W h0 val hval s₂.heap.objs.size hSf n 0 _ th 0 2 (.inr rfl) rfl (Nat.zero_le _)
      (W.frame 0 s₂ _ _ hst (by first | exact Nat.le_refl _ | exact Nat.le_succ _ | omega) fun b _ o e => Heap.get?_push_of_some _ e) (Heap.get?_push_size _ rfl) fun s' t' hm => ?_⟩
    exact hQ s' t' (hm.drop_new (by first | exact Nat.le_refl _ | exact Nat.le_succ _ | omega))
end
end Mine

end
/- D3 -/
section
open PySem PySem.W PyProof.Rows PySem.Calls PySem.Spec Builtin
set_option maxHeartbeats 1000000
namespace Mine

/-- a table that holds at most the code of the generator at pos -/
def TabOk (pos : Pos) (ps : Array Value) : Prop := TriplesOk ps.toList ∧ (codeAmong pos ps.toList = none ∨ ∃ c', codeAmong pos ps.toList = some (.ref c'))

section
variable {prog : Program} {w : World} {M : Model} {A : Around} {E : Value → Shared → Prop} {s : Shared} {h₀ : Heap} {c P L : Addr} {ps : Array Value} {m mg : Str → Option Value} {bm : Addr} {ob : Obj} {R : List (Addr × Obj)}

theorem code_led {env : Env} {pos : Pos} {qn : Str} {scope : Scope} {Q : Value → Shared → Prop} (hcode : env.code = .ref c) (hcd : CodeHd h₀ c P) (htr : TabOk pos ps)
    (F : Fr h₀ L s.heap m) (N : News h₀ L s.heap ((P, tabObj ps) :: R)) (hR : ∀ p ∈ R, p.1 ≠ P)
    (h : ∀ c' h' tk ps', Fr h₀ L h' m → News h₀ L h' ((P, tabObj ps') :: R) → Heap.ExtBut P s.heap h' → s.heap.objs.size ≤ h'.objs.size → TabOk pos ps' → Q (.ref c') { s with heap := h', toks := tk }) :
    wpAny M A (genexprCode env pos qn scope) Q E s := by
  have z := N _ (.head _)
  have hd := hcd.keeps F.keep
  rcases htr with ⟨ht, hn | ⟨c', hc'⟩⟩
  · refine wpAny_genexprCodeX hcode (hd.code z.1 ht) (hd.tab z.1) hn fun c' h' tk hx hge hlt hcode' _ htab _ => ?_
    have hsz : s.heap.objs.size ≤ h'.objs.size := Nat.le_trans hge (Nat.le_of_lt hlt)
    refine h c' h' tk (ps ++ #[rawInt pos.line, rawInt pos.col, .ref c']) ⟨?_, fun b o e => hx b o (fun q => ?_) (F.keep b o e), F.above⟩ (fun p hp => ?_) hx hsz ⟨?_, .inr ⟨c', ?_⟩⟩
    · exact F.ns.at' fun o e => hx _ _ (fun q => z.2.1 q.symm) e
    · rw [q, z.2.2] at e; cases e
    · rcases List.mem_cons.mp hp with rfl | hp
      · exact ⟨htab.2, z.2.1, z.2.2⟩
      · have y := N p (.tail _ hp)
        exact ⟨hx _ _ (hR p hp) y.1, y.2⟩
    · obtain ⟨o, vs, file, tf, flags, tg, inF, text, tt, op, _, _, _, _, _, _, _, hop, hpd, htr, _⟩ := hcode'
      exact htr
    · have hl : (ps ++ #[rawInt pos.line, rawInt pos.col, Value.ref c']).toList = ps.toList ++ [rawInt pos.line, rawInt pos.col, .ref c'] := by simp
      rw [hl, codeAmong_snoc _ ht hn]
  · refine wpAny_genexprCode_hit hcode (hd.code z.1 ht) hc' ?_
    exact h c' s.heap s.toks ps F N (fun _ _ _ e => e) (Nat.le_refl _) ⟨ht, .inr ⟨c', hc'⟩⟩
end
end Mine

end
/- D4 -/
section
open PySem PySem.W PyProof.Rows PySem.Calls PySem.Spec Builtin
set_option maxHeartbeats 1000000
namespace Mine
theorem passing_all (n : Nat) : passing (fun _ => true) n 0 = List.range n := by
  unfold passing
  rw [List.drop_zero]
  exact List.filter_eq_self.mpr fun _ _ => rfl

theorem walks_range {prog : Program} {w : World} {A : Around} {I : Addr} {fp wr : List Addr} {G : Array GenState → Array GenState → Prop} {n : Nat} {F : Nat → Value → Prop} {St : Nat → Shared → Prop} (e1 : (List.range n).length = n)
    (W : WalksS prog w A I fp wr G (List.range n).length (fun j y => ∃ i, (List.range n)[j]? = some i ∧ F i y) St) : WalksS prog w A I fp wr G n F St :=
  ⟨W.sub, W.grefl, W.gtrans, W.frame, fun i s' Q E hi st hQ => W.item i s' Q E (e1.symm ▸ hi) st fun v s'' hP => hQ v s'' (by
    obtain ⟨i', h1, h2⟩ := hP
    rw [List.getElem?_range hi] at h1
    cases h1
    exact h2), fun s' Q E st hQ => W.done s' Q E (e1.symm ▸ st) hQ, W.self⟩

section
variable {prog : Program} {w : World} {A : Around} {E : Value → Shared → Prop} {s : Shared} {h₀ : Heap} {c P L Pa D : Addr} {ps : Array Value} {m mg : Str → Option Value} {bm : Addr} {ob : Obj} {R : List (Addr × Obj)}

theorem gen_led {env : Env} {elt iter : Expr} {xa xb : Str} {pa pb pt : Pos} {kt : Nat} {scope : Scope} {cl : List (Str × Addr)} {pos : Pos} {Q : Value → Shared → Prop} {items : Array Value} {n : Nat} {Ts : Nat → Addr} {vals : Nat → Array Value} {F : Nat → Value → Prop}
    (M : BMod h₀ env.globals mg bm ob) (X₀ : (hd.heap_39 w.params).In h₀) (hcode : env.code = .ref c) (hcd : CodeHd h₀ c P) (htr : TabOk pos ps)
    (hh : A.handled = none) (hco : scope.isCoroutine = false) (hclos : closureFor scope env = pure cl) (hcell : ∀ y ∈ scope.names, y.2 ≠ .cell) (h0 : scope.names.lookup (".0" : Str) = some NameKind.local)
    (hxa : scope.names.lookup xa = some .local) (hxb : scope.names.lookup xb = some .local) (hab : xa ≠ xb) (hkind : scope.kind = .function) (hroom : A.depth < recursionLimit)
    (FF : Fr h₀ L s.heap m) (N : News h₀ L s.heap ((P, tabObj ps) :: R)) (hR : ∀ p ∈ R, p.1 ≠ P) (hbare : AllBare s.gens) (hlim : h₀.NoLimit)
    (hPa : (Pa, accO D items n) ∈ R) (hit : ∀ j, j < items.size → items[j]? = some (.ref (Ts j))) (hTs : ∀ j, j < items.size → (Ts j, tupO (vals j).toList) ∈ R) (hv : ∀ j, ∃ va vb, vals j = #[va, vb])
    (hev : ∀ Q : Value → Shared → Prop, Q (.ref Pa) s → wpAny (model prog w) A (eval iter env) Q E s) (hs : ∀ x, genFold iter env x = pure x)
    (helt : ∀ (c' C : Addr) (A' : Around) E' i va vb (t : Shared) m₂, A'.handled = none → A'.depth ≤ A.depth + 1 → A'.units ≤ A.units + 8 → vals i = #[va, vb] → Fr h₀ C t.heap m₂ → m₂ xa = some va → m₂ xb = some vb →
      wpAny (model prog w) A' (eval elt (genEnv scope cl C (.ref c') builtinsNs env)) (fun y s₃ => F i y ∧ Keeps t s₃) E' t)
    (ret : ∀ K a h₅ g₅ tk₅ ps', TabOk pos ps' → Fr h₀ L h₅ m → News h₀ L h₅ ((P, tabObj ps') :: R) → AllBare g₅ → L ≤ K → (∀ p ∈ (P, tabObj ps') :: R, p.1 ≤ K) →
      Gen prog w A K a items.size F { s with heap := h₅, gens := g₅, toks := tk₅ } → Q (.ref a) { s with heap := h₅, gens := g₅, toks := tk₅ }) :
    wpAny (model prog w) A (eval (.GeneratorExp elt [⟨.Tuple [.Name xa pa, .Name xb pb] kt pt, iter, [], 0⟩] scope pos) env) Q E s := by
  have zP := N _ (.head _)
  have zA := N _ (.tail _ hPa)
  have hLs : L < s.heap.objs.size := FF.ns.lt
  have hlt : ∀ p ∈ (P, tabObj ps) :: R, p.1 < s.heap.objs.size := fun p hp => Heap.lt_size (N p hp).1
  refine wpAny_GeneratorExp_walksQTD hh hco hclos hcell h0 hxa hxb hab hkind hroom ?_ hs
  refine hev _ (acc_iter (h₀ := h₀) (h := h₀) (L := L) (X₀.keeps FF.keep) zA.1 ?_)
  have F₂ : Fr h₀ L (s.heap.push { cls := .type "list_iterator", data := .fields #[.ref Pa, .int 0 0] }) m := FF.keeps fun _ _ e => Heap.get?_push_of_some _ e
  have N₂ : News h₀ L (s.heap.push { cls := .type "list_iterator", data := .fields #[.ref Pa, .int 0 0] }) ((P, tabObj ps) :: R) := fun p hp => ⟨Heap.get?_push_of_some _ (N p hp).1, (N p hp).2⟩
  refine ⟨hlim.keeps F₂.keep, ?_⟩
  refine code_led hcode hcd htr F₂ N₂ hR fun c' h₃ tk₃ ps' F₃ N₃ hx₃ hsz₃ htr' => ?_
  rw [Heap.size_push] at hsz₃
  have M₃ : BMod h₃ env.globals mg bm ob := M.keeps F₃.keep
  refine wpAny_builtinsFor M₃.ns M₃.name M₃.ne M₃.obj M₃.cls M₃.dict M₃.data ?_
  have hl₃ : h₃.NoLimit := hlim.keeps F₃.keep
  have hIlt : s.heap.objs.size < h₃.objs.size := hsz₃
  have hPI : P ≠ s.heap.objs.size := Nat.ne_of_lt (hlt _ (.head _))
  have hne : Pa ≠ s.heap.objs.size := Nat.ne_of_lt (hlt _ (.tail _ hPa))
  have hTI : ∀ j, j < items.size → Ts j ≠ s.heap.objs.size := fun j hj => Nat.ne_of_lt (hlt _ (.tail _ (hTs j hj)))
  have hcw : cStatics ∉ [s.heap.objs.size] := fun hm => by
    have e := List.mem_singleton.mp hm
    obtain ⟨_, hn, _⟩ := hlim
    have := (hn.keeps FF.keep).lt
    rw [e] at this
    exact Nat.lt_irrefl _ this
  refine ⟨s.heap.objs.size, _, [s.heap.objs.size], items.size, _, _, _, fun _ => true, F, rfl, fun A' hA => walks_acc hA s.heap.objs.size Pa D n hne items Ts vals hit hTI, fun i v hv' => hv' ▸ hv i, ⟨?_, ?_, ?_⟩, ?_, hl₃, hcw, ?_, ?_⟩
  · exact ⟨_, hx₃ _ _ (fun q => hPI q.symm) (Heap.get?_push_size _ rfl), rfl, rfl⟩
  · exact (N₃ _ (.tail _ hPa)).1
  · exact fun k hk => ⟨_, (N₃ _ (.tail _ (hTs k hk))).1, rfl, by simp⟩
  · intro b hb
    rcases List.mem_cons.mp hb with rfl | hb
    · exact hIlt
    · rcases List.mem_cons.mp hb with rfl | hb
      · exact Heap.lt_size (N₃ _ (.tail _ hPa)).1
      · obtain ⟨k, hk, rfl⟩ := List.mem_map.mp hb
        exact Heap.lt_size (N₃ _ (.tail _ (hTs k (List.mem_range.mp hk)))).1
  · intro href hhref
    have hLC : L < h₃.objs.size := Nat.lt_trans hLs hIlt
    refine ⟨fun A' E' i va vb t m₂ hA hD hU hP hn hma hmb hkp => ?_, fun A' E' i va vb t m₂ hA hD hU hP hp hn hma hmb hkp => ?_⟩
    · simp only [List.forIn_nil]
      exact wpAny_pure ⟨rfl, _, _, rfl, fun _ _ e => e⟩
    · refine helt c' _ A' E' i va vb t m₂ hA hD hU hP.symm ⟨hn, fun b o e => ?_, Nat.le_trans F₃.above (Nat.le_of_lt hLC)⟩ hma hmb
      have e3 := F₃.keep b o e
      refine hkp b (List.mem_range.mpr (Heap.lt_size e3)) (fun hm => ?_) o (hhref b o e3)
      have e4 := List.mem_singleton.mp hm
      have h9 := Heap.lt_size (FF.keep b o e)
      rw [e4] at h9
      exact Nat.lt_irrefl _ h9
  · intro a h₅ tk gs hgb hag hsz₅ hk₅ W hat
    rw [passing_all] at W
    refine ret (s.heap.objs.size - 1) a h₅ _ tk ps' htr' (F₃.keeps hk₅) (fun p hp => ⟨hk₅ _ _ (N₃ p hp).1, (N₃ p hp).2⟩) (hbare.push hgb) (Nat.le_sub_one_of_lt hLs) (fun p hp => ?_) ?_
    · have : p.1 < s.heap.objs.size := by
        rcases List.mem_cons.mp hp with rfl | hp
        · exact hlt (P, tabObj ps) (.head _)
        · exact hlt _ (.tail _ hp)
      exact Nat.le_sub_one_of_lt this
    · have e1 : (List.range items.size).length = items.size := List.length_range
      refine ⟨_, _, _, _, walks_range e1 W, hat, (fun i s' st => st.1.typeIs), List.mem_cons_self, ?_, ?_⟩
      · intro b hb
        show b < h₅.objs.size
        rw [hsz₅]
        rcases List.mem_cons.mp hb with rfl | hb
        · exact Nat.lt_succ_self _
        · rcases List.mem_cons.mp hb with rfl | hb
          · exact Nat.lt_succ_of_lt hag
          · exact Nat.lt_succ_of_lt (Nat.lt_trans (List.mem_range.mp hb) hag)
      · intro b hb
        rcases List.mem_cons.mp hb with rfl | hb
        · exact Nat.lt_of_le_of_lt (Nat.sub_le _ _) hIlt
        · rw [List.mem_singleton.mp hb]; exact Nat.sub_lt (Nat.lt_of_le_of_lt (Nat.zero_le _) hLs) Nat.one_pos
end
end Mine

end
/- D5 -/
section
open PySem PySem.W PyProof.Rows PySem.Calls PySem.Spec Builtin
set_option maxHeartbeats 1000000
namespace Mine

/-- what a def does that makes a generator at pos, the table P of its code in the ledger -/
def SpecT (w : World) (D U : Nat) (f : Value) (vs : List Value) (P : Addr) (pos : Pos) (pre : List (Addr × Obj)) (Post : Value → Prop) : Prop :=
  ∀ (p : Program) (loose : List Str) (mean : ExcName → Option Value) (mg mb : Str → Option Value) (gd : Option (List Code)) (A₀ : Around) (cn : Str) (cs : Scope) (a : Addr) (ccd : Value) (cl : List (Str × Addr)) (outer : List Env) (base h₀ : Heap) (L : Addr) (m : Str → Option Value) (s : Shared) (Q E : Value → Shared → Prop) (news : List (Addr × Obj)) (ps : Array Value),
    cs.kind = .function → Below A₀ base outer h₀ → Fr h₀ L s.heap m → (hd.heap_39 w.params).In h₀ → News h₀ L s.heap ((P, tabObj ps) :: (pre ++ news)) → Top p loose mean mg mb h₀ → (∀ p ∈ pre ++ news, p.1 ≠ P) → TabOk pos ps → AllBare s.gens →
    (∀ v ps' h' g' tk, Post v → TabOk pos ps' → AllBare g' → Fr h₀ L h' m → News h₀ L h' ((P, tabObj ps') :: news) → Q v { s with heap := h', gens := g', toks := tk }) →
    wpAny (model PySem.Challenge.pw_pk0049_01 w) (ktrTop D U gd cn cs L a ccd cl outer) (call f vs) Q E s

/-- one piece of an acc: the pair's place, its two texts -/
structure Ent where
  at' : Addr
  x : Str
  tx : Tok
  y : Str
  ty : Tok
def Ent.none : Ent := ⟨0, "", 0, "", 0⟩
abbrev Ent.vals (e : Ent) : Array Value := #[.str e.x e.tx, .str e.y e.ty]
abbrev entsIts (l : List Ent) : Array Value := (l.map fun e => Value.ref e.at').toArray
abbrev entsNews (l : List Ent) : List (Addr × Obj) := l.map fun e => (e.at', tupO [.str e.x e.tx, .str e.y e.ty])
theorem ents_it (l : List Ent) : ∀ j, j < (entsIts l).size → (entsIts l)[j]? = some (.ref (l.getD j .none).at') := by
  intro j hj
  simp only [List.size_toArray, List.length_map] at hj
  simp [List.getElem?_eq_getElem hj]
theorem ents_tup (l : List Ent) : ∀ j, j < (entsIts l).size → ((l.getD j .none).at', tupO (l.getD j .none).vals.toList) ∈ entsNews l := by
  intro j hj
  simp only [List.size_toArray, List.length_map] at hj
  rw [List.getD_eq_getElem?_getD, List.getElem?_eq_getElem hj]
  exact List.mem_map.mpr ⟨l[j], List.getElem_mem hj, rfl⟩
theorem psum_list {α : Type} (h0 : Int) (d : α) (f : α → Int) : ∀ (l : List α) , psum h0 (fun i => f (l.getD i d)) l.length = h0 + (l.map f).sum := by
  have key : ∀ (l : List α) (k : Nat), k ≤ l.length → psum h0 (fun i => f (l.getD i d)) k = h0 + ((l.take k).map f).sum := by
    intro l k
    induction k with
    | zero => intro _; simp [psum]
    | succ k ih =>
      intro hk
      have hk' : k < l.length := hk
      rw [psum, ih (Nat.le_of_lt hk'), List.take_add_one, List.getElem?_eq_getElem hk']
      rw [List.map_append, List.sum_append, Option.toList_some, List.map_cons, List.map_nil, List.sum_cons, List.sum_nil, List.getD_eq_getElem?_getD, List.getElem?_eq_getElem hk']
      simp only [Option.getD_some]
      omega
  intro l
  rw [key l _ (Nat.le_refl _), List.take_length]


local macro_rules | `(tactic| k_inst) => `(tactic| (refine' acc_inst ?N ?h1 ?h2; (case N => k_asm); (case h1 => k_mem); (case h2 => k_mem)))

theorem get_acc {prog : Program} {w : World} {A : Around} {E : Value → Shared → Prop} {s : Shared} {P D : Addr} {its : Array Value} {n : Nat} {hs head : Int} {tk th : Tok} {expr : Bool} {Q : Value → Shared → Prop} (X : (hd.heap_39 w.params).In s.heap) (I : InstAt s.heap P (accO D its n) 101 (some (accD hs tk head th)))
    (h : Q (.int head th) { s with toks := s.toks + 1 }) : wpAny (model prog w) A (getAttr (.ref P) "_initial_size" expr) Q E s := by
  have hga : findIn (hd.heap_39 w.params) (.ref 101) "__getattribute__" = some (some (.builtin "list.__getattribute__")) := by k_is
  have hk : findIn (hd.heap_39 w.params) (.ref 101) "__getattr__" = some none := by k_is
  have hf : findObj (hd.heap_39 w.params) 101 (some (accD hs tk head th)) "_initial_size" = some (.value (.int head th)) := findObj_own (attr := none) (by k_is) (by k_is) rfl (by rfl)
  have z := I.at_
  obtain ⟨hh, g, d, t, os⟩ := s
  have L0 := I.type (M := model prog w)
  have L1 := looks_findIn (M := model prog w) X hga
  have L2 := looks_find (M := model prog w) X I hf
  have L3 := looks_findIn (M := model prog w) X hk
  unfold getAttr getAttrBy
  refine wpAny_bind (wpAny_mkText (wpAny_holding (wpAny_bind (L0.at (wpAny_bind (L1.at ?_))))))
  show wpAny _ _ (getAttrByItsOwn (.ref P) _ (.ref 101) (.builtin "list.__getattribute__") true expr) _ _ _
  unfold getAttrByItsOwn hookBefore callGetattribute boundAndCalled
  refine wpAny_bind (L3.at ?_)
  refine wpAny_bind (wpAny_attempt (wpAny_holding ?_))
  show wpAny _ _ (if (expr && onTheHeap (Value.builtin "list.__getattribute__")) = true then _ else _) _ _ _
  rw [show onTheHeap (Value.builtin "list.__getattribute__") = false from rfl, Bool.and_false, if_neg (by decide)]
  refine wpAny_bind (wpAny_of_eq (PySem.F.slot_list_getattribute.bind _) ?_)
  refine acc_entry (kd := .slot) (nm := "__getattribute__") (by decide +kernel) (.inr rfl) (by decide +kernel) (by decide +kernel) am_entry_list_getattribute (PySem.F.args_list_getattribute_2 _ _) X z rfl ?_
  unfold Builtin.«object.__getattribute__»
  refine wpAny_bind (wpAny_pure (wpAny_bind (wpAny_pure (wpAny_bind (L0.at (wpAny_bind (L2.at ?_)))))))
  refine wpAny_pure ⟨_, rfl, wpAny_pure ?_⟩
  exact h

theorem ent_short {l : List Ent} {b : Nat} (hl : ∀ e ∈ l, e.x.length < b ∧ e.y.length < b) (hb : 0 < b) (i : Nat) : (l.getD i .none).x.length < b ∧ (l.getD i .none).y.length < b := by
  rw [List.getD_eq_getElem?_getD]
  cases h : l[i]? with
  | none => exact ⟨hb, hb⟩
  | some e => exact hl e (List.mem_of_getElem? h)

theorem len_spec {w : World} {P D : Addr} {l : List Ent} {n : Nat} {hs head : Int} {tk th : Tok} (hl : ∀ e ∈ l, e.x.length < 2 ^ 62 ∧ e.y.length < 2 ^ 62) :
    SpecT w 880 2400 (.ref 68) [.ref P] 63 ⟨26, 19, 26, 63⟩ ((P, accO D (entsIts l) n) :: (D, accD hs tk head th) :: entsNews l) (fun v => ∃ t, v = .int (head + (l.map fun e => ((e.x.length : Int) + e.y.length)).sum) t) := by
  intro p loose mean mg mb gd A₀ cn cs a ccd cl outer base h₀ L m s Q E R ps hk B F X N T hnp htr hbare ret
  simp only [List.cons_append, List.nil_append] at N hnp
  generalize hR : (P, accO D (entsIts l) n) :: (D, accD hs tk head th) :: (entsNews l ++ R) = R1 at N hnp
  have m1 : (P, accO D (entsIts l) n) ∈ R1 := hR ▸ .head _
  have m2 : (D, accD hs tk head th) ∈ R1 := hR ▸ .tail _ (.head _)
  have m3 : ∀ j, j < (entsIts l).size → ((l.getD j .none).at', tupO (l.getD j .none).vals.toList) ∈ R1 := fun j hj => hR ▸ .tail _ (.tail _ (List.mem_append_left _ (ents_tup l j hj)))
  refine wpAny_call ?_
  k_dflt cell_enter
  k_steps
  rename Top _ _ _ _ _ _ => TT
  obtain ⟨bm, ob, BM⟩ := bmod_of_top TT
  refine gen_led (cl := []) (c := 67) (P := 63) (Pa := P) (D := D) (items := entsIts l) (n := n) (Ts := fun j => (l.getD j .none).at') (vals := fun j => (l.getD j .none).vals) (F := fun j v => ∃ t, v = .int (((l.getD j .none).x.length : Int) + (l.getD j .none).y.length) t) BM (by assumption) rfl (codeHd_of_K (by assumption) (by kernel_rfl)) htr
    rfl rfl ?_ (by decide) rfl rfl rfl (by decide) rfl ?_ (by assumption) (by assumption) hnp hbare TT.nolimit m1 (ents_it l) m3 (fun j => ⟨_, _, rfl⟩) ?_ (fun _ => rfl) ?_ ?_
  · rfl
  · show _ < recursionLimit
    k_room
  · intro Q' hq'
    k_steps
    exact hq'
  · intro c' C A' E' i va vb t m₂ hA hD hU hv FF' ha hb
    cases hv
    exact len_elt FF' (by assumption) TT ha (ent_short hl (by decide) i).1 hb (ent_short hl (by decide) i).2 rfl rfl rfl rfl (by decide) rfl (by decide) fun t => ⟨_, rfl⟩
  · intro K a' h₅ g₅ tk₅ ps' htr' F₅ N₅ hb₅ hLK hK G
    k_steps
    refine get_acc (Frag.In.keeps (by assumption) F₅.keep) (acc_inst N₅ (.tail _ m1) (.tail _ m2)) ?_
    k_steps
    obtain ⟨fp, wr, g, St, W, hst, hT, haf, hfp, hwr⟩ := G
    have W1 := W.of_in1.of_in1.of_in1
    have hst' := W.frame 0 _ h₅ (tk₅ + 1) hst (Nat.le_succ _) (fun _ _ _ e => e)
    refine call_sum_start ?_
    refine W1.self 0 _ _ _ hst' ⟨a', fp, wr, _, _, _, St, fun j => ((l.getD j .none).x.length : Int) + (l.getD j .none).y.length, rfl, W1, hst', hfp, fun i v h => h, fun s' t' hm => ?_⟩
    have e9 : psum head (fun j => ((l.getD j .none).x.length : Int) + (l.getD j .none).y.length) (entsIts l).size = head + (l.map fun e => ((e.x.length : Int) + e.y.length)).sum := by
      have := psum_list head Ent.none (fun e : Ent => ((e.x.length : Int) + e.y.length)) l
      rw [← this]; congr 1; simp
    rw [e9]
    have hkp : ∀ p ∈ (63, tabObj ps') :: R1, s'.heap.get? p.1 = some p.2 := fun p hp => hm.heap _ _ (fun hw => Nat.lt_irrefl _ (Nat.lt_of_lt_of_le (hwr _ hw) (hK p hp))) (N₅ p hp).1
    have hb9 := hb₅.moved hm.gens
    have FN := (⟨F₅.ns.at' fun o e => hm.heap _ _ (fun hw => Nat.lt_irrefl _ (Nat.lt_of_lt_of_le (hwr _ hw) hLK)) e, fun b o e => hm.heap b o (fun hw => Nat.lt_irrefl _ (Nat.lt_of_lt_of_le (Nat.lt_of_lt_of_le (Nat.lt_of_lt_of_le (Heap.lt_size e) F₅.above) hLK) (Nat.le_of_lt (hwr _ hw)))) (F₅.keep b o e), F₅.above⟩ : Fr _ _ s'.heap _)
    obtain ⟨h9, g9, d9, t9, o9⟩ := s'
    have hd9 := hm.drawn
    have ho9 := hm.os
    dsimp only at hd9 ho9
    subst hd9 ho9
    refine leaveK_ (news' := (63, tabObj ps') :: R) FN (fun p hp => ?_) fun FR NR => ret _ ps' h9 g9 t9 ⟨_, rfl⟩ htr' hb9 FR NR
    have hp' : p ∈ (63, tabObj ps') :: R1 := by
      rcases List.mem_cons.mp hp with rfl | hp
      · exact .head _
      · exact .tail _ (hR ▸ .tail _ (.tail _ (List.mem_append_right _ hp)))
    exact ⟨hkp p hp', (N₅ p hp').2⟩
end Mine

end
/- D6 -/
section
open PySem PySem.W PyProof.Rows PySem.Calls PySem.Spec Builtin
set_option maxHeartbeats 1000000
namespace Mine
def entTx (e : Ent) : Str := Txt.join "" [e.x, e.y]
theorem entTx_eq (e : Ent) : entTx e = e.x ++ e.y := by
  show Txt.join _ _ = _
  unfold Txt.join
  rw [StrLaws.glued_eq_join]
  show e.x ++ Str.empty ++ e.y = _
  rw [s_append_assoc, s_empty_append]
theorem entTx_len (e : Ent) : (entTx e).length = e.x.length + e.y.length := by rw [entTx_eq, slen_append]
theorem str_spec {w : World} {P D : Addr} {l : List Ent} {n : Nat} {hs head : Int} {tk th : Tok} (hl : ∀ e ∈ l, e.x.length < 1000 ∧ e.y.length < 1000) (hn : l.length ≤ 100) :
    SpecT w 880 2400 (.ref 75) [.ref P] 70 ⟨29, 32, 29, 85⟩ ((P, accO D (entsIts l) n) :: (D, accD hs tk head th) :: entsNews l) (fun v => ∃ t, v = .str (Txt.join "" (l.map entTx)) t) := by
  intro p loose mean mg mb gd A₀ cn cs a ccd cl outer base h₀ L m s Q E R ps hk B F X N T hnp htr hbare ret
  simp only [List.cons_append, List.nil_append] at N hnp
  generalize hR : (P, accO D (entsIts l) n) :: (D, accD hs tk head th) :: (entsNews l ++ R) = R1 at N hnp
  have m1 : (P, accO D (entsIts l) n) ∈ R1 := hR ▸ .head _
  have m2 : (D, accD hs tk head th) ∈ R1 := hR ▸ .tail _ (.head _)
  have m3 : ∀ j, j < (entsIts l).size → ((l.getD j .none).at', tupO (l.getD j .none).vals.toList) ∈ R1 := fun j hj => hR ▸ .tail _ (.tail _ (List.mem_append_left _ (ents_tup l j hj)))
  refine wpAny_call ?_
  k_dflt cell_enter
  k_steps
  rename Top _ _ _ _ _ _ => TT
  obtain ⟨bm, ob, BM⟩ := bmod_of_top TT
  refine gen_led (cl := []) (c := 74) (P := 70) (Pa := P) (D := D) (items := entsIts l) (n := n) (Ts := fun j => (l.getD j .none).at') (vals := fun j => (l.getD j .none).vals) (F := fun j v => ∃ t, v = .str (entTx (l.getD j .none)) t) BM (by assumption) rfl (codeHd_of_K (by assumption) (by kernel_rfl)) htr
    rfl rfl ?_ (by decide) rfl rfl rfl (by decide) rfl ?_ (by assumption) (by assumption) hnp hbare TT.nolimit m1 (ents_it l) m3 (fun j => ⟨_, _, rfl⟩) ?_ (fun _ => rfl) ?_ ?_
  · rfl
  · show _ < recursionLimit
    k_room
  · intro Q' hq'
    k_steps
    exact hq'
  · intro c' C A' E' i va vb t m₂ hA hD hU hv FF' ha hb
    cases hv
    have hsh := ent_short hl (by decide) i
    exact str_elt FF' (by assumption) TT ha hb (by omega) rfl (by k_is) rfl rfl rfl (by decide) rfl rfl (by decide) rfl (by decide) fun t => ⟨_, rfl⟩
  · intro K a' h₅ g₅ tk₅ ps' htr' F₅ N₅ hb₅ hLK hK G
    k_steps
    obtain ⟨fp, wr, g, St, W, hst, hT, haf, hfp, hwr⟩ := G
    have hsz9 : (entsIts l).size = l.length := by simp
    refine SC.joinGen W.of_in1.of_in1 hT hst hfp haf (fun i v h => by obtain ⟨t, rfl⟩ := h; exact ⟨_, _, rfl⟩) (fun s' ls hm hit => ?_) (by rw [sizeLine_eq, hsz9]; omega)
    have hls : ls.map (·.1) = l.map entTx := by
      obtain ⟨h1, h2⟩ := hit
      refine List.ext_getElem? fun j => ?_
      rw [List.getElem?_map, List.getElem?_map]
      have hlen : ls.length = l.length := by simpa [strValues, hsz9] using h1
      rcases Nat.lt_or_ge j l.length with hj | hj
      · have hj2 : j < ls.length := by omega
        rw [List.getElem?_eq_getElem hj, List.getElem?_eq_getElem hj2]
        obtain ⟨t, e⟩ := h2 j (.str ls[j].1 ls[j].2) (by simp [strValues, hj2])
        injection e with e1 _
        have e3 : l.getD j .none = l[j] := by simp [hj]
        rw [e3] at e1
        simp [e1]
      · rw [List.getElem?_eq_none hj, List.getElem?_eq_none (by omega)]
        rfl
    rw [hls]
    have hwt : ((l.map entTx).map (·.length)).sum ≤ l.length * 2000 := by
      have := StrLaws.sumLen_le (B := 2000) (l.map entTx) fun y hy => by
        obtain ⟨e, he, rfl⟩ := List.mem_map.mp hy
        have := hl e he
        rw [entTx_len]; omega
      simpa using this
    refine ⟨joinOk_of_weight (by simp only [List.length_map]; omega) (by decide), fun t' k => ?_⟩
    have hkp : ∀ p ∈ (70, tabObj ps') :: R1, s'.heap.get? p.1 = some p.2 := fun p hp => hm.heap _ _ (fun hw => Nat.lt_irrefl _ (Nat.lt_of_lt_of_le (hwr _ hw) (hK p hp))) (N₅ p hp).1
    have hb9 := hb₅.moved hm.gens
    have FN := (⟨F₅.ns.at' fun o e => hm.heap _ _ (fun hw => Nat.lt_irrefl _ (Nat.lt_of_lt_of_le (hwr _ hw) hLK)) e, fun b o e => hm.heap b o (fun hw => Nat.lt_irrefl _ (Nat.lt_of_lt_of_le (Nat.lt_of_lt_of_le (Nat.lt_of_lt_of_le (Heap.lt_size e) F₅.above) hLK) (Nat.le_of_lt (hwr _ hw)))) (F₅.keep b o e), F₅.above⟩ : Fr _ _ s'.heap _)
    obtain ⟨h9, g9, d9, t9, o9⟩ := s'
    have hd9 := hm.drawn
    have ho9 := hm.os
    dsimp only at hd9 ho9
    subst hd9 ho9
    refine leaveK_ (news' := (70, tabObj ps') :: R) FN (fun p hp => ?_) fun FR NR => ret _ ps' h9 g9 k ⟨_, rfl⟩ htr' hb9 FR NR
    have hp' : p ∈ (70, tabObj ps') :: R1 := by
      rcases List.mem_cons.mp hp with rfl | hp
      · exact .head _
      · exact .tail _ (hR ▸ .tail _ (.tail _ (List.mem_append_right _ hp)))
    exact ⟨hkp p hp', (N₅ p hp').2⟩
end Mine

end
/- E3 -/
section
open PySem PySem.W PyProof.Rows PySem.Calls PySem.Spec Builtin
set_option maxHeartbeats 1000000
namespace Mine
abbrev posL : Pos := ⟨26, 19, 26, 63⟩
abbrev posS : Pos := ⟨29, 32, 29, 85⟩
theorem SpecT.use {w : World} {D U : Nat} {f : Value} {vs : List Value} {P : Addr} {pos : Pos} {ps : Array Value} {pre : List (Addr × Obj)} {Post : Value → Prop} (S : SpecT w D U f vs P pos pre Post)
    {p : Program} {loose : List Str} {mean : ExcName → Option Value} {mg mb : Str → Option Value} {A A₀ : Around} {cn : Str} {cs : Scope} {a : Addr} {ccd : Value} {cl : List (Str × Addr)} {outer : List Env} {base h₀ : Heap} {L : Addr} {m : Str → Option Value} {s : Shared} {Q E : Value → Shared → Prop} {news : List (Addr × Obj)}
    (B : Below A₀ base outer h₀) (F : Fr h₀ L s.heap m) (X : (hd.heap_39 w.params).In h₀) (N : News h₀ L s.heap ((P, tabObj ps) :: news)) (T : Top p loose mean mg mb h₀)
    (hA : A.frames = some (envX cn cs L a ccd cl :: outer)) (hh : A.handled = none) (hd : A.depth ≤ D) (hu : A.units ≤ U) (hk : cs.kind = .function) (he : ∀ q ∈ pre, q ∈ news) (hne : ∀ p ∈ news, p.1 ≠ P) (htr : TabOk pos ps) (hb : AllBare s.gens)
    (ret : ∀ v ps' h' g' tk, Post v → TabOk pos ps' → AllBare g' → Fr h₀ L h' m → News h₀ L h' ((P, tabObj ps') :: news) → Q v { s with heap := h', gens := g', toks := tk }) :
    wpAny (model PySem.Challenge.pw_pk0049_01 w) A (call f vs) Q E s := by
  refine wpAny_lower (B := ktrTop D U A.guards cn cs L a ccd cl outer) hh hd hA rfl hu ?_
  refine S p loose mean mg mb A.guards A₀ cn cs a ccd cl outer base h₀ L m s Q E news ps hk B F X (fun q hq => ?_) T (fun q hq => ?_) htr hb ret
  · rcases List.mem_cons.mp hq with rfl | hq
    · exact N _ (.head _)
    rcases List.mem_append.mp hq with hq | hq
    · exact N q (.tail _ (he q hq))
    · exact N q (.tail _ hq)
  · rcases List.mem_append.mp hq with hq | hq
    · exact hne q (he q hq)
    · exact hne q hq
/-- a def that runs generators: both tables in the ledger -/
def SpecG (w : World) (D U : Nat) (f : Value) (vs : List Value) (pre : List (Addr × Obj)) (Post : Value → List (Addr × Obj) → Prop) : Prop :=
  ∀ (p : Program) (loose : List Str) (mean : ExcName → Option Value) (mg mb : Str → Option Value) (gd : Option (List Code)) (A₀ : Around) (cn : Str) (cs : Scope) (a : Addr) (ccd : Value) (cl : List (Str × Addr)) (outer : List Env) (base h₀ : Heap) (L : Addr) (m : Str → Option Value) (s : Shared) (Q E : Value → Shared → Prop) (news : List (Addr × Obj)) (ps1 ps2 : Array Value),
    cs.kind = .function → Below A₀ base outer h₀ → Fr h₀ L s.heap m → (hd.heap_39 w.params).In h₀ → News h₀ L s.heap ((63, tabObj ps1) :: (70, tabObj ps2) :: (pre ++ news)) → Top p loose mean mg mb h₀ → (∀ p ∈ pre ++ news, p.1 ≠ 63 ∧ p.1 ≠ 70) → TabOk posL ps1 → TabOk posS ps2 → AllBare s.gens →
    (∀ v post ps1' ps2' h' g' tk, Post v post → AllBare g' → Fr h₀ L h' m → News h₀ L h' ((63, tabObj ps1') :: (70, tabObj ps2') :: (post ++ news)) → Q v { s with heap := h', gens := g', toks := tk }) →
    wpAny (model PySem.Challenge.pw_pk0049_01 w) (ktrTop D U gd cn cs L a ccd cl outer) (call f vs) Q E s
/-- the entries of a line that is made of words -/
structure Lines (Z : List Wd) (l : List Ent) : Prop where
  len : l.length ≤ Z.length
  x : ∀ e ∈ l, e.x = Str.ofString " "
  y : l.map (·.y) = (Z.take l.length).map (·.tx)
theorem Lines.nil {Z : List Wd} : Lines Z [] := ⟨Nat.zero_le _, (fun _ h => nomatch h), rfl⟩
theorem Lines.snoc {Z : List Wd} {l : List Ent} {e : Ent} {x : Wd} (h : Lines Z l) (hx : Z[l.length]? = some x) (h1 : e.x = Str.ofString " ") (h2 : e.y = x.tx) : Lines Z (l ++ [e]) := by
  have hl : l.length < Z.length := by
    rcases Nat.lt_or_ge l.length Z.length with h | h
    · exact h
    · rw [List.getElem?_eq_none h] at hx; cases hx
  refine ⟨by simp; omega, fun e' he => ?_, ?_⟩
  · rcases List.mem_append.mp he with he | he
    · exact h.x e' he
    · rw [List.mem_singleton.mp he]; exact h1
  · rw [List.map_append, h.y, List.length_append, List.length_singleton, take_snoc hx, List.map_append]
    simp [h2]
theorem Lines.short {W Z : List Wd} {l : List Ent} (hW : Proper W) (hZ : ∀ x ∈ Z, x ∈ W) (h : Lines Z l) : ∀ e ∈ l, e.x.length = 1 ∧ e.y.length ≤ 4 := by
  intro e he
  refine ⟨by rw [h.x e he]; rfl, ?_⟩
  have : e.y ∈ l.map (·.y) := List.mem_map.mpr ⟨e, he, rfl⟩
  rw [h.y] at this
  obtain ⟨x, hx, e1⟩ := List.mem_map.mp this
  rw [← e1]
  exact (hW.len x (hZ x (List.mem_of_mem_take hx))).2
theorem ents_sum (l : List Ent) (h : ∀ e ∈ l, e.x.length = 1) : (l.map fun e => ((e.x.length : Int) + e.y.length)).sum = ((l.map (·.y)).map fun y => 1 + (y.length : Int)).sum := by
  induction l with
  | nil => rfl
  | cons e r ih =>
    rw [List.map_cons, List.sum_cons, List.map_cons, List.map_cons, List.sum_cons, ih fun e he => h e (.tail _ he), h e (.head _)]
    rfl
theorem Lines.sum {W Z : List Wd} {l : List Ent} (hW : Proper W) (hZ : ∀ x ∈ Z, x ∈ W) (h : Lines Z l) : (l.map fun e => ((e.x.length : Int) + e.y.length)).sum = sgs (Z.take l.length) := by
  rw [ents_sum l fun e he => (h.short hW hZ e he).1, h.y]
  have : ∀ z : List Wd, (∀ x ∈ z, x ∈ W) → ((z.map (·.tx)).map fun y => 1 + (y.length : Int)).sum = sgs z := by
    intro z hz
    induction z with
    | nil => rfl
    | cons x r ih =>
      rw [List.map_cons, List.map_cons, List.sum_cons, sgs_cons, ih fun y hy => hz y (.tail _ hy), hW.sg x (hz x (.head _))]
  exact this _ fun x hx => hZ x (List.mem_of_mem_take hx)
theorem sgs_boundZ {W Z : List Wd} {n : Nat} (hW : Proper W) (hZ : ∀ x ∈ Z, x ∈ W) (hn : Z.length ≤ n) : 0 ≤ sgs Z ∧ sgs Z ≤ 5 * n := by
  induction Z generalizing n with
  | nil => exact ⟨Int.le_refl _, by show (0 : Int) ≤ _; omega⟩
  | cons x r ih =>
    have h1 := hW.sgp (hZ x (.head _))
    have h2 := ih (n := r.length) (fun y hy => hZ y (.tail _ hy)) (Nat.le_refl _)
    rw [sgs_cons]
    simp only [List.length_cons] at hn
    omega
theorem Lines.text {Z : List Wd} {l : List Ent} (h : Lines Z l) : cl (Txt.join "" (l.map entTx)) = (Z.take l.length).flatMap fun x => 32 :: cl x.tx := by
  have e1 : ∀ ys : List Str, cl (Txt.join "" ys) = ys.flatMap cl := by
    intro ys
    unfold Txt.join
    rw [StrLaws.glued_eq_join]
    induction ys with
    | nil => rfl
    | cons y r ih =>
      cases r with
      | nil => show cl y = _; simp
      | cons z r =>
        show cl (y ++ Str.ofString "" ++ Str.join (Str.ofString "") (z :: r)) = _
        rw [cl_append, cl_append, ih]
        have : cl (Str.ofString "") = [] := by decide +kernel
        rw [this]
        simp
  have e2 : ∀ (l : List Ent) (z : List Wd), (∀ e ∈ l, e.x = Str.ofString " ") → l.map (·.y) = z.map (·.tx) → (l.map entTx).flatMap cl = z.flatMap fun x => 32 :: cl x.tx := by
    intro l
    induction l with
    | nil =>
      intro z _ h
      cases z with
      | nil => rfl
      | cons _ _ => cases h
    | cons e r ih =>
      intro z hx hy
      cases z with
      | nil => cases hy
      | cons x z =>
        rw [List.map_cons, List.map_cons] at hy
        injection hy with h1 h2
        rw [List.map_cons, List.flatMap_cons, List.flatMap_cons, ih z (fun e he => hx e (.tail _ he)) h2, entTx_eq, cl_append, hx e (.head _), h1]
        have : cl (Str.ofString " ") = [32] := by decide +kernel
        rw [this]
        rfl
  rw [e1, e2 l _ h.x h.y]
end Mine

end
/- F2 -/
section
open PySem PySem.W PyProof.Rows PySem.Calls PySem.Spec Builtin
set_option maxHeartbeats 4000000
namespace Mine
-- a def with cells
theorem lines_F2_1 : True := by
  k_with_none
  k_with "Mine.cellEnter" => (apply code_defC; rotate_left 5; exact rfl; exact rfl; assumption; rotate_right 5; k_asm; k_asm; k_asm; k_asm; k_asm; k_is; k_is; ktr_room; (first | exact BindsTo.of_eq rfl | exact binds_K (by k_in) rfl (by k_is) rfl rfl rfl); exact rfl; decide +kernel; rotate_left; exact rfl; exact rfl; exact rfl; k_whole)
  k_with "exec For Name Call cons nil" => (k_dflt (refine For_hold ?_))
  k_with "exec For Tuple Name cons nil" => (k_dflt (refine For_hold ?_))
  k_with "call builtin:str.replace" => (k_dflt (refine unhold ?_))
  k_with "call builtin:str.split" => (k_dflt (refine unhold ?_))
  k_with "call builtin:len" => (k_dflt (apply len_at; k_asm; k_mem; assumption; omega))
  k_with "eval ListComp" => (k_dflt (refine unhold ?_))
  exact trivial
inductive StopA : Prop | mk
inductive StopB : Prop | mk
-- the count of tokens is kept where this mark stands
theorem lines_F2_2 : True := by
  k_with "execs cons" => ((have hs : StopB := by assumption); clear hs; (with_reducible refine wpAny_execs_cons ?_); (try dsimp only))
  k_with "assign Tuple" => ((have hs : StopA := by assumption); clear hs; k_dflt (refine unhold ?_))
  k_with "subscriptTail Name Slice ref ref" => ((with_reducible show wpAny _ _ (subscriptTail _ (PySem.Expr.Slice _ _ none _) (Value.ref _) (Value.ref _)) _ _ _); k_dflt (apply kmk_slice_lit; k_asm; k_asm; exact News.isList (by k_asm) (by k_mem); kmk_part; kmk_part; (first | assumption | exact pick_upto_eq rfl); rotate_left; with_unfolding_all rfl; kmk_pure; (rw [sizeLine_eq]; (try simp only [List.size_toArray]); omega)); intro _ _ _ _ l1; (try k_lt l1); revert l1; intro _)
  k_with "call type:range" => ((with_reducible show wpAny _ _ (call _ [Value.int _ _]) _ _ _); k_dflt (apply range1_at; k_asm; k_asm); intro _ _ _ _ _ _ _ l1; (try k_lt l1); revert l1; intro _)
  k_with "subscriptTail" => ((with_reducible show wpAny _ _ (subscriptTail _ _ (Value.ref _) (Value.int (0 + _) _)) _ _ _); k_dflt (apply word_col; k_asm; k_mem; assumption; rotate_left; with_unfolding_all rfl; kmk_pure); intro _)
  k_with "subscriptTail" => ((with_reducible show wpAny _ _ (subscriptTail _ _ (Value.ref _) (Value.str _ _)) _ _ _); k_dflt (apply dict_get; k_asm; k_mem; assumption; assumption; rotate_left; with_unfolding_all rfl))
  k_with "binaryOp Add str str" => ((with_reducible show wpAny _ _ (binaryOp Operator.Add (Value.str _ _) (Value.str _ _)) _ _ _); k_dflt (refine' add_str (hsz := by (rw [sizeLine_eq]; (try rw [slen_append]); omega)) ?_); intro _ _; (try dsimp only))
  k_with "call ref" => ((with_reducible show wpAny _ _ (call (Value.ref 175) _) _ _ _); k_dflt (apply SpecR.use0 (white_spec ?_); rotate_left; k_asm; rotate_right; rotate_left 4; exact rfl; rotate_right 4; k_asm; k_asm; k_asm; k_asm; exact rfl; exact Nat.le_of_ble_eq_true rfl; exact Nat.le_of_ble_eq_true rfl; exact rfl; exact List.forall_mem_nil _; any_goals (refine pid ?_; assumption)); intro _ _ _ _ _; (try dsimp only))
  k_with "call builtin:str.join" => ((with_reducible show wpAny _ _ (call (Value.builtin _) [Value.str _ _, Value.ref _]) _ _ _); k_dflt (apply join_at; k_asm; k_mem; assumption; assumption; exact Nat.le_of_ble_eq_true rfl); intro _ _ _ _ _; (try dsimp only))
  k_with "compareOp NotEq str str" => (k_dflt (apply ne_str_eq; exact Eq.trans (by assumption) (Eq.symm (by assumption))))
  k_with "subscriptTail Name Slice ref ref" => ((with_reducible show wpAny _ _ (subscriptTail _ (PySem.Expr.Slice none _ none _) (Value.ref _) (Value.ref _)) _ _ _); k_dflt (apply slice_tup4; k_asm; k_asm; k_mem; rotate_left; with_unfolding_all rfl; kmk_pure); intro _ _ _ _ l1; (try k_lt l1); revert l1; intro _)
  k_with "compareOp NotEq ref ref" => ((with_reducible show wpAny _ _ (compareOp CmpOp.NotEq (Value.ref _) (Value.ref _)) _ _ _); k_dflt (apply ne_tup4; k_asm; k_mem; k_mem; ke_room))
  k_with "call type:list" => (k_dflt (refine unhold ?_))
  exact trivial
inductive StopI : Prop | mk
theorem lines_F2_3 : True := by
  k_with "exec If" => ((have hs : StopI := by assumption); clear hs; k_dflt (refine unhold ?_))
  exact trivial
inductive StopE : Prop | mk
theorem lines_F2_4 : True := by
  k_with "compareOp NotEq ref ref" => ((have hs : StopE := by assumption); clear hs; k_dflt (refine unhold ?_))
  k_with "call ref" => ((with_reducible show wpAny _ _ (call (Value.ref 154) _) _ _ _); k_dflt (apply SpecR.use0 (count_calls_specG ?_ ?_ ?_); rotate_left; k_asm; rotate_right; rotate_left 4; exact rfl; rotate_right 4; k_asm; k_asm; k_asm; k_asm; exact rfl; exact Nat.le_of_ble_eq_true rfl; exact Nat.le_of_ble_eq_true rfl; exact rfl; (refine' List.forall_mem_cons.mpr ⟨?_, List.forall_mem_nil _⟩; k_mem); any_goals (refine pid ?_; assumption)); intro _ _ _ _ _; (try dsimp only))
  k_with "compareOp NotEq int int" => (k_dflt (apply ne_int_same))
  k_with "call type:range" => ((with_reducible show wpAny _ _ (call _ [Value.int _ _, Value.int _ _]) _ _ _); k_dflt (apply range2_at; k_asm; k_asm); intro _ _ _ _ _ _ l1; (try k_lt l1); revert l1; intro _)
  exact trivial
inductive StopF : Prop | mk
theorem lines_F2_5 : True := by
  k_with "exec For Name Call cons nil" => ((have hs : StopF := by assumption); clear hs; k_dflt (refine unhold ?_))
  exact trivial
local macro_rules | `(tactic| k_all) => `(tactic| assumption)
def LastAt (Z : List (Addr × Obj)) (done : List (List Wd)) (v : Value) : Prop :=
  (done = [] ∧ v = .none) ∨ ∃ D g t1 t2 t3 t4 done', done = done' ++ [g] ∧ v = .ref D ∧ (D, tupO [.int g.length t1, .int (sgs g) t2, .int (prs g) t3, .int (pls g) t4]) ∈ Z
inductive SdInv (r pc d : Addr) (L1 : Addr) (segs : List (List Wd)) (old : List (Addr × Obj)) (G : Array GenState) (i : Nat) (g : Array GenState) (m' : Str → Option Value) (news' : List (Addr × Obj)) : Prop
  | mk (e : g = G) (h1 : m' "row" = some (.ref r)) (h2 : m' "pieces" = some (.ref pc)) (h3 : m' "book" = some (.ref d)) (h4 : ∃ t, m' "at" = some (.int ((segs.take i).flatten.length : Nat) t))
    (oP : Obj) (v : Option Value) (Z : List (Addr × Obj)) (lv : Value) (h5 : m' "last" = some lv) (e2 : news' = (L1 + 1, oP) :: Z) (h6 : oP.data = .cell v) (h7 : ∀ q ∈ Z, q.1 ≠ L1 + 1) (h8 : ∀ q ∈ old, q ∈ Z) (h9 : LastAt Z (segs.take i) lv) : SdInv r pc d L1 segs old G i g m' news'
inductive SdIn2 (r pc d Ds : Addr) (lv : Value) (at' : Int) (b9 : List (Addr × Obj)) (G : Array GenState) (i : Nat) (g' : Array GenState) (m' : Str → Option Value) (news' : List (Addr × Obj)) : Prop
  | mk (e : g' = G) (h1 : m' "row" = some (.ref r)) (h2 : m' "pieces" = some (.ref pc)) (h3 : m' "book" = some (.ref d)) (h4 : ∃ t, m' "at" = some (.int at' t)) (h5 : m' "last" = some lv) (h6 : m' "sums" = some (.ref Ds)) (e2 : news' = b9) : SdIn2 r pc d Ds lv at' b9 G i g' m' news'
theorem sound_spec {w : World} {W ws : List Wd} (hW : Proper W) {r pc d : Addr} {lrow its : List Value} {segs ks : List (List Wd)} {nr np : Nat} {od : Obj} {kvs : List (Str × Value)} {X : List (Addr × Obj)} (hod : od.IsDictOf (strKind PW w) kvs) (hpile : Pile w W X its.toArray kvs segs ks) (hrow : Al (IsWord X) lrow ws)
    (hfl : segs.flatten = ws) (hlen : ws.length ≤ 4) :
    SpecR w 780 1900 (.ref 213) [.ref r, .ref pc, .ref d] ((r, listOf lrow.toArray nr) :: (pc, listOf its.toArray np) :: (d, od) :: X) (fun v post => v = .bool true ∧ post = []) := by
  intro p loose mean mg mb gd A₀ cn cs a ccd cl outer base h₀ L m s Q E R hk B F X₀ N T ret
  simp only [List.cons_append] at N
  refine wpAny_call ?_
  k_dflt (walk_at "Mine.cellEnter")
  intro g1 L1 hh1 tk1 cells FG1 FF1 NN1 Y1 B1 XX1 T1 lt1
  refine hide_post fun QQ EE hQQ hEE => ?_
  have hY := PyProof.Rows.CellsAre.one Y1
  obtain ⟨oP, hE, dP⟩ := hY
  subst hE
  have dP' : oP.data = .cell none := dP
  clear dP Y1
  have FF2 := knows [("row", .ref r), ("pieces", .ref pc), ("book", .ref d)] FF1 (fun p hp => by
    simp only [List.mem_cons, List.not_mem_nil, or_false] at hp
    rcases hp with rfl | rfl | rfl <;> rfl)
  clear FF1
  simp only [List.cons_append, List.nil_append] at NN1
  have hstopA : StopA := .mk
  k_steps
  unfold Hold
  rename StopA => hstopA
  clear hstopA
  refine wpAny_with_toks (n := 1) (by dsimp only; omega) ?_
  have hstopB : StopB := .mk
  k_steps
  unfold Hold
  rename 1 ≤ _ => htk1
  dsimp only at htk1
  rename Fr _ _ _ _ => F3
  rename News _ _ _ _ => N3
  have hits : its.toArray.toList = its := by simp
  have hpi := hpile.its
  rw [hits] at hpi
  have hL1 : ∀ q ∈ (r, listOf lrow.toArray nr) :: (pc, listOf its.toArray np) :: (d, od) :: (X ++ R), q.1 ≠ L1 + 1 := fun q hq => Nat.ne_of_lt (Nat.lt_succ_of_lt (lt1 q hq))
  generalize hold : (r, listOf lrow.toArray nr) :: (pc, listOf its.toArray np) :: (d, od) :: (X ++ R) = old at *
  have hor : (r, listOf lrow.toArray nr) ∈ old := by rw [← hold]; exact .head _
  have hop : (pc, listOf its.toArray np) ∈ old := by rw [← hold]; exact .tail _ (.head _)
  have hod9 : (d, od) ∈ old := by rw [← hold]; exact .tail _ (.tail _ (.head _))
  have hoX : ∀ q ∈ X, q ∈ old := by rw [← hold]; exact fun q hq => .tail _ (.tail _ (.tail _ (List.mem_append_left _ hq)))
  have hoR : ∀ q ∈ R, q ∈ old := by rw [← hold]; exact fun q hq => .tail _ (.tail _ (.tail _ (List.mem_append_right _ hq)))
  refine for_listGT (nt := 1) (by exact htk1) (items := its.toArray) (SdInv r pc d L1 segs old s.gens) rfl (.inl ⟨np, .tail _ hop⟩) F3 (news := (L1 + 1, oP) :: old) (sub N3 (by walk_at "Mine.sub")) ?_
      ⟨rfl, rfl, rfl, rfl, ⟨_, rfl⟩, oP, none, old, _, rfl, rfl, dP', hL1, fun _ h => h, .inl ⟨rfl, rfl⟩⟩ ?_ ?_
  · rintro i g m' n' ⟨_, _, _, _, _, _, _, Z, _, _, rfl, _, _, hZ, _⟩
    exact .inl ⟨np, .tail _ (hZ _ hop)⟩
  · intro i v g m₁ news₁ it oi h tk htk hv zzp11 F1 N1 hit TA hTA hRA
    obtain ⟨rfl, hm1, hm2, hm3, ⟨ta, hm4⟩, oP1, v1, Z, lv, hm5, rfl, dP1, hZ1, hZo, hlast⟩ := zzp11
    obtain ⟨g, hg, T9, t1, t2, rfl, hT⟩ := hpi.get (by simpa using hv)
    have hgs := List.mem_of_getElem? hg
    obtain ⟨og, hgg⟩ := hpile.good g hgs
    have F4 := knows [("row", .ref r), ("pieces", .ref pc), ("book", .ref d), ("at", .int ((segs.take i).flatten.length : Nat) ta), ("last", lv)] F1 (by simp [hm1, hm2, hm3, hm4, hm5])
    have N4 := up (up N1 (x := (r, listOf lrow.toArray nr)) (.tail _ (.tail _ (hZo _ hor)))) (x := (T9, tupO [.str (mark g) t1, .str (blk g) t2])) (.tail _ (.tail _ (.tail _ (hZo _ (hoX _ hT)))))
    clear F1 N1 F3 N3
    dsimp only
    refine unpackN_ F4 N4 (News.isTup N4 (by k_mem)) rfl rfl rfl ?_
    intro h5 F5 N5
    clear F4 N4
    have hcut : segs = segs.take i ++ (g :: segs.drop (i + 1)) := by
      conv => lhs; rw [← List.take_append_drop i segs]
      rw [List.drop_eq_getElem_cons (lt_len hg)]
      rw [List.getElem?_eq_getElem (lt_len hg)] at hg
      rw [Option.some.inj hg]
    have hflat : ws = (segs.take i).flatten ++ (g ++ (segs.drop (i + 1)).flatten) := by
      rw [← hfl]
      conv => lhs; rw [hcut]
      rw [List.flatten_append, List.flatten_cons]
    have hpos : (segs.take i).flatten.length + g.length ≤ ws.length := by
      rw [hflat, List.length_append, List.length_append]; omega
    have hgl : g.length ≤ 4 := by omega
    have hg1 : 0 < g.length := List.length_pos_iff.mpr og.1
    have hsgb := sgs_boundZ (n := 4) hW og.2 hgl
    have hblk := blk_len hW og
    have hmkl := mark_len hW og
    have htake : (ws.drop (segs.take i).flatten.length).take g.length = g := by rw [hflat, List.drop_left, List.take_left]
    obtain ⟨n0, hn0⟩ : ∃ n0 : Nat, n0 = (segs.take i).flatten.length := ⟨_, rfl⟩
    rw [← hn0] at F5 hm4 hpos htake
    k_steps
    unfold Hold
    rename StopB => hstopB
    clear hstopB
    refine repl_at tab_eq sp_eq (show @Ne Nat _ _ by omega) (show @Ne Nat _ _ by omega) (show @Ne Nat _ _ by omega) (by decide) (by omega) fun Y tY kY eY hkY => ?_
    rw [replace_blk hW og] at eY
    have hY : Y.length ≤ 1000 := by
      have e1 := replace_blk hW og
      rw [eY, ← e1, replace_len]; omega
    have eY2 := split_texts hW og
    rw [← eY] at eY2
    clear eY
    k_steps
    unfold Hold
    rename Fr _ _ _ _ => F6
    rename News _ _ _ _ => N6
    refine split_at sp_eq F6 N6 hY fun V vs h7 k7 hvs F7 N7 hV hk7 => ?_
    rw [eY2] at hvs
    have hvl := strs_len hvs
    rw [List.length_map] at hvl
    clear F6 N6 F5 N5
    have hyr := hrow.1
    have hpart0 := (hrow.drop n0).take g.length
    rw [htake] at hpart0
    obtain ⟨lp, hlp⟩ : ∃ lp, (lrow.drop n0).take g.length = lp := ⟨_, rfl⟩
    have hpick : (slicePick lrow.toArray (some (n0 : Int)) (some ((n0 : Int) + (g.length : Nat))) none).toList = lp := by rw [← hlp]; exact pick_mid rfl rfl (by omega)
    rw [hlp] at hpart0
    have hlpl := hpart0.1
    have nT := neN (hZ1 (T9, tupO [.str (mark g) t1, .str (blk g) t2]) (hZo _ (hoX _ hT)))
    have nr := neN (hZ1 (r, listOf lrow.toArray nr) (hZo _ hor))
    have nit := neN (hit (L1 + 1, oP1) (.head _))
    dsimp only at nT nr nit
    k_lt hV
    k_steps
    unfold Hold
    rename Fr _ _ _ _ => F7
    rename_i Dp _ l1p _ oP2 dP2 _ _ _
    refine listcomp_cell F7 (fun i v => ∃ t, v = .int (g.map fun y => col y i).sum t) (by with_unfolding_all rfl) (by rfl) (by decide) (by rfl) (by intro _; rfl) (by intro _; rfl) ?_ (by intro _; rfl)
    k_steps
    unfold Hold
    rename Fr _ _ _ _ => F8
    rename News _ _ _ _ => N8
    refine ⟨_, _, _, _, _, _, 4, _, rfl, rfl, F8, N8, News.get N8 (by k_mem), range_small (by omega), range_size (by omega), by rw [sizeLine_eq]; omega, ?_, ?_⟩
    · intro j tj ys I oI oC oK hp tkp E' hj hyl hPy hoK Fp Np hbl TC hTC
      dsimp only
      clear F8 N8 F7
      k_steps
      unfold Hold
      refine comp_hold (F₀ := Fp) (by with_unfolding_all rfl) (by decide) (by rfl) (by decide) (by rfl) ?_ (by intro _; rfl)
      k_steps
      unfold Hold
      refine LCg.CompSrc.ledger (its := lp.toArray) (k := 0) rfl Fp Np (by k_mem) (by rw [sizeLine_eq]; simp; omega) fun gg => ?_
      generalize hb5 : (I, oI) :: (I + 2, oC) :: (I + 1, LCg.lst ys) :: (I + 3, oK) :: _ = b5 at *
      have hb5Z : ∀ q ∈ Z, q ∈ b5 := by rw [← hb5]; walk_at "Mine.sub"
      have hb5K : (I + 3, oK) ∈ b5 := by rw [← hb5]; walk_at "Mine.mem"
      refine comp_rest _ (fun q ys2 news => news = b5 ∧ IntsAre ys2 ((g.take q).map fun y => col y j)) (fun _ _ _ h => .inr ⟨_, by rw [h.1, ← hb5]; walk_at "Mine.mem", rfl, 0, rfl⟩) ?_ ?_ _ 0 [] b5 (Nat.zero_add _) ⟨rfl, .nil⟩
      · intro q v ys2 news I2 oI2 C2 oC2 D2 m2 h tk E' hq zzp14 hv hC hx Ft Nt off ne TT hT
        obtain ⟨rfl, hys⟩ := zzp14
        obtain ⟨x, hx2, e, u1, u2, u3, u4, u5, rfl, he⟩ := hpart0.get (by simpa using hv)
        have Nt2 := up (up Nt (x := (I + 3, oK)) (.tail _ (.tail _ (.tail _ hb5K)))) (x := (e, tupO [.int 1 u1, .int x.sg u2, .int x.pr u3, .int x.pl u4, .str x.tx u5])) (.tail _ (.tail _ (.tail _ (.tail _ (hb5Z _ (hZo _ (hoX _ he)))))))
        clear Fp Np Nt
        k_steps
        exact hT _ _ _ news Ft (sub Nt2 (by walk_at "Mine.sub")) off ⟨rfl, by rw [take_snoc hx2, List.map_append]; exact ints_snoc hys⟩
      · rintro ys2 news ⟨rfl, hys⟩
        intro D5 h5 tk5 F5 N5 off5
        clear Fp Np
        rw [List.take_of_length_le (by simp; omega)] at hys
        dsimp only
        k_steps
        rename Fr _ _ _ _ => F9
        rename News _ _ _ _ => N9
        exact hTC _ _ _ F9 (drop1 N9) ⟨_, rfl⟩
    · intro D6 h6 tk6 ys6 hyl6 hP6 F10 N10 hD6
      obtain ⟨s0, s1, s2, s3, rfl⟩ := four_vals hyl6 hP6
      obtain ⟨c0, c1, c2, c3⟩ := col_sums g
      rw [c0, c1, c2, c3] at N10
      dsimp only
      clear F8 N8 F7 hyl6 hP6 c0 c1 c2 c3
      k_lt hD6
      obtain ⟨v10, hva, e, c10, u1, u2, u3, u4, oc10, kv10, rfl, hem, hcm, hoc, hkv, hcs⟩ := hpile.known g (hpile.sub g hgs)
      have hdZ := hZo _ hod9
      have heZ := hZo _ (hoX _ hem)
      have N11 := up (up N10 (x := (d, od)) (.tail _ (.tail _ (.tail _ (.tail _ (.tail _ (.tail _ (.tail _ (.tail _ hdZ))))))))) (x := (e, tupO [.int g.length u1, .int (sgs g) u2, .int (prs g) u3, .int (pls g) u4, .ref c10])) (.tail _ (.tail _ (.tail _ (.tail _ (.tail _ (.tail _ (.tail _ (.tail _ (.tail _ heZ)))))))))
      clear N10
      have hstopI : StopI := .mk
      k_steps
      unfold Hold
      rename StopI => hstopI
      clear hstopI
      rename Fr _ _ _ _ => F12
      rename News _ _ _ _ => N12
      rename_i Ds _ l1s _ _
      have N13 := sub (l' := (Ds, tupO [.int g.length s0, .int (sgs g) s1, .int (prs g) s2, .int (pls g) s3]) :: (e, tupO [.int g.length u1, .int (sgs g) u2, .int (prs g) u3, .int (pls g) u4, .ref c10]) :: (Dp, listOf lp.toArray 0) :: (it, oi) :: (L1 + 1, oP2) :: Z) N12 (by walk_at "Mine.sub")
      obtain ⟨_, _, _, _, _, _, _, _, hDsI, hDsL, _⟩ := l1s
      have nDs : Ds ≠ L1 + 1 := Nat.ne_of_gt hDsL
      have nDi : Ds ≠ it := Nat.ne_of_gt hDsI
      clear N12 hD6 hV l1p
      k_steps
      unfold Hold
      refine comp_hold (F₀ := F12) (by with_unfolding_all rfl) (by decide) (by rfl) (by decide) (by rfl) ?_ (by intro _; rfl)
      k_steps
      unfold Hold
      refine LCg.CompSrc.ledger (its := lp.toArray) (k := 0) rfl F12 N13 (by k_mem) (by rw [sizeLine_eq]; simp; omega) fun gg => ?_
      generalize hb6 : (Ds, _) :: (e, tupO [.int g.length u1, .int (sgs g) u2, .int (prs g) u3, .int (pls g) u4, .ref c10]) :: _ = b6 at *
      have hb6Z : ∀ q ∈ Z, q ∈ b6 := by rw [← hb6]; walk_at "Mine.sub"
      refine comp_rest _ (fun q ys2 news => news = b6 ∧ StrsAre ys2 ((g.take q).map fun y => white y.pl ++ y.tx)) (fun _ _ _ h => .inr ⟨_, by rw [h.1, ← hb6]; walk_at "Mine.mem", rfl, 0, rfl⟩) ?_ ?_ _ 0 [] b6 (Nat.zero_add _) ⟨rfl, .nil⟩
      · intro q v ys2 news I2 oI2 C2 oC2 D2 m2 h tk E' hq zzp14 hv hC hx Ft Nt off ne TT hT
        obtain ⟨rfl, hys⟩ := zzp14
        obtain ⟨x, hx2, e5, w1, w2, w3, w4, w5, rfl, he⟩ := hpart0.get (by simpa using hv)
        have hxg := hW.pl x (og.2 x (List.mem_of_getElem? hx2))
        have hxl := (hW.len x (og.2 x (List.mem_of_getElem? hx2))).2
        have hwl := white_len hxg
        have Nt2 := up Nt (x := (e5, tupO [.int 1 w1, .int x.sg w2, .int x.pr w3, .int x.pl w4, .str x.tx w5])) (.tail _ (.tail _ (.tail _ (hb6Z _ (hZo _ (hoX _ he))))))
        clear F12 N13 Nt
        k_steps
        rename Fr _ _ _ _ => F13
        rename News _ _ _ _ => N13
        exact hT _ _ _ news F13 (sub N13 (by walk_at "Mine.sub")) off ⟨rfl, by rw [take_snoc hx2, List.map_append]; exact strs_snoc hys⟩
      · rintro ys2 news ⟨rfl, hys⟩
        intro D7 h7 tk7 F7 N7 off7
        clear F12 N13
        rw [List.take_of_length_le (by simp; omega)] at hys
        have hmb := mark_blk og.1
        have hts := tails_sum hW og.2
        have hw9 : ((g.map fun y => white y.pl ++ y.tx).map (·.length)).sum + (g.map fun y => white y.pl ++ y.tx).length ≤ 1000 := by rw [List.length_map]; omega
        subst hb6
        clear off7
        dsimp only
        have hstopI : StopI := .mk
        k_steps
        unfold Hold
        rename StopI => hstopI
        clear hstopI
        rename Fr _ _ _ _ => F14
        rename News _ _ _ _ => N14
        have N15 := sub (l' := (c10, oc10) :: (Ds, tupO [.int g.length s0, .int (sgs g) s1, .int (prs g) s2, .int (pls g) s3]) :: (e, tupO [.int g.length u1, .int (sgs g) u2, .int (prs g) u3, .int (pls g) u4, .ref c10]) :: (Dp, listOf lp.toArray 0) :: (it, oi) :: (L1 + 1, oP2) :: Z) N14 (mc (List.mem_append_right [_, _, _, _, _, _, _] (hZo _ (hoX _ hcm))) (by walk_at "Mine.sub"))
        clear N14 N7 F7 hys hmb hts hw9 hb6Z
        k_steps
        unfold Hold
        rename Fr _ _ _ _ => F16
        rename News _ _ _ _ => N16
        have hkl := hkv.length
        rw [List.length_map] at hkl
        refine list_items_at rfl F16 N16 (.head _) (.tail _ (.head _)) hoc hkv (by omega) fun B8 h8 tk8 vs8 c8 tups8 F17 N17 hP8 => ?_
        have N18 := sub (l' := (B8, { cls := .type "list", data := .seq vs8.toArray c8 }) :: (c10, oc10) :: (Ds, tupO [.int g.length s0, .int (sgs g) s1, .int (prs g) s2, .int (pls g) s3]) :: (e, tupO [.int g.length u1, .int (sgs g) u2, .int (prs g) u3, .int (pls g) u4, .ref c10]) :: (Dp, listOf lp.toArray 0) :: (it, oi) :: (L1 + 1, oP2) :: (tups8 ++ Z)) N17 (by walk_at "Mine.sub")
        clear N17 N16 F16
        k_steps
        unfold Hold
        rename Fr _ _ _ _ => F19
        rename News _ _ _ _ => N19
        refine comp_hold (F₀ := F19) (by with_unfolding_all rfl) (by decide) (by rfl) (by decide) (by rfl) ?_ (by intro _; rfl)
        k_steps
        unfold Hold
        refine LCg.CompSrc.ledger (its := lp.toArray) (k := 0) rfl F19 N19 (by k_mem) (by rw [sizeLine_eq]; simp; omega) fun gg => ?_
        generalize hb7 : (B8, _) :: (c10, oc10) :: _ = b7 at *
        have hb7Z : ∀ q ∈ Z, q ∈ b7 := by rw [← hb7]; walk_at "Mine.sub"
        have hb7p : (Dp, listOf lp.toArray 0) ∈ b7 := by rw [← hb7]; walk_at "Mine.mem"
        refine comp_rest _ (fun q ys2 news => ∃ new, news = new ++ b7 ∧ PairL new ys2 ((g.take q).map fun y => (y.tx, y.pr))) (fun _ _ _ h => .inr ⟨_, by obtain ⟨new, rfl, _⟩ := h; exact List.mem_append_right _ hb7p, rfl, 0, rfl⟩) ?_ ?_ _ 0 [] b7 (Nat.zero_add _) ⟨[], rfl, Al.nil⟩
        · intro q v ys2 news I2 oI2 C2 oC2 D2 m2 h tk E' hq zzp14 hv hC hx Ft Nt off ne TT hT
          obtain ⟨new, rfl, hys⟩ := zzp14
          obtain ⟨x, hx2, e5, w1, w2, w3, w4, w5, rfl, he⟩ := hpart0.get (by simpa using hv)
          have Nt2 := up Nt (x := (e5, tupO [.int 1 w1, .int x.sg w2, .int x.pr w3, .int x.pl w4, .str x.tx w5])) (.tail _ (.tail _ (.tail _ (List.mem_append_right _ (hb7Z _ (hZo _ (hoX _ he)))))))
          clear F19 N19 Nt
          k_steps
          rename Fr _ _ _ _ => F20
          rename News _ _ _ _ => N20
          rename _ < _ ∧ _ < _ ∧ _ < _ ∧ _ < _ ∧ AllLt _ _ => lt8
          refine hT _ _ _ ((_, tupO [.str x.tx w5, .int x.pr w3]) :: (new ++ b7)) F20 (sub N20 (by walk_at "Mine.sub")) (off3_cons off ⟨lt8.2.1, lt8.2.2.1, lt8.2.2.2.1⟩) ⟨(_, tupO [.str x.tx w5, .int x.pr w3]) :: new, rfl, ?_⟩
          rw [take_snoc hx2, List.map_append]
          exact Al.snoc (hys.mono fun _ h => .tail _ h) ⟨_, _, _, rfl, .head _⟩
        · rintro ys2 news ⟨new, rfl, hys⟩
          intro D8 h9 tk9 F20 N20 off9
          rw [List.take_of_length_le (by simp; omega)] at hys
          clear F19 N19 off9
          have N21 : News g1 L1 h9 ((D8, LCg.lst ys2) :: (B8, { cls := .type "list", data := .seq vs8.toArray c8 }) :: (c10, oc10) :: (Ds, tupO [.int g.length s0, .int (sgs g) s1, .int (prs g) s2, .int (pls g) s3]) :: (e, tupO [.int g.length u1, .int (sgs g) u2, .int (prs g) u3, .int (pls g) u4, .ref c10]) :: (Dp, listOf lp.toArray 0) :: (it, oi) :: (L1 + 1, oP2) :: (new ++ (tups8 ++ Z))) := by
            subst hb7
            exact sub N20 (by walk_at "Mine.sub")
          clear N20 hb7Z hb7p
          clear hb7
          dsimp only
          have hstopE : StopE := .mk
          k_steps
          unfold Hold
          rename StopE => hstopE
          clear hstopE
          refine ne_pairs N21 (.tail _ (.head _)) (.head _) ⟨rfl, _, rfl⟩ ⟨rfl, _, rfl⟩ (hP8.mono (by walk_at "Mine.sub")) (hys.mono (by walk_at "Mine.sub")) (fun q hq => ?_) (by ke_room) ?_
          · obtain ⟨x, hx, rfl⟩ := List.mem_map.mp hq
            exact strOk_tx hW (og.2 x hx)
          have N22 := sub (l' := (c10, oc10) :: (Ds, tupO [.int g.length s0, .int (sgs g) s1, .int (prs g) s2, .int (pls g) s3]) :: (e, tupO [.int g.length u1, .int (sgs g) u2, .int (prs g) u3, .int (pls g) u4, .ref c10]) :: (Dp, listOf lp.toArray 0) :: (it, oi) :: (L1 + 1, oP2) :: Z) N21 (by walk_at "Mine.sub")
          clear N21 hP8 hys
          have hstopF : StopF := .mk
          k_steps
          unfold Hold
          rename StopF => hstopF
          clear hstopF
          k_steps
          unfold Hold
          rename Fr _ _ _ _ => F24
          rename News _ _ _ _ => N24
          clear N22 F20
          obtain ⟨b9, hb9⟩ : ∃ b9, (Ds, tupO [Value.int g.length s0, .int (sgs g) s1, .int (prs g) s2, .int (pls g) s3]) :: (Dp, listOf lp.toArray 0) :: (it, oi) :: (L1 + 1, oP2) :: Z = b9 := ⟨_, rfl⟩
          have hb9Z : ∀ q ∈ Z, q ∈ b9 := by rw [← hb9]; walk_at "Mine.sub"
          have hb9p : (Dp, listOf lp.toArray 0) ∈ b9 := by rw [← hb9]; walk_at "Mine.mem"
          have hb9s : (Ds, tupO [Value.int g.length s0, .int (sgs g) s1, .int (prs g) s2, .int (pls g) s3]) ∈ b9 := by rw [← hb9]; walk_at "Mine.mem"
          have hb9c : (L1 + 1, oP2) ∈ b9 := by rw [← hb9]; walk_at "Mine.mem"
          obtain ⟨ta2, hta2⟩ : ∃ ta2 : Tok, ta2 = ta := ⟨_, rfl⟩
          refine for_rangeG (n := g.length - 1) (SdIn2 r pc d Ds lv ((n0 : Int) + g.length) b9 s.gens) rfl (News.get N24 (by k_mem)) (range_small (by omega)) (range_size (by omega)) (fun _ _ => rfl) F24
            (news := b9) (by rw [← hb9]; exact sub N24 (by walk_at "Mine.sub")) ⟨rfl, rfl, rfl, rfl, ⟨_, rfl⟩, rfl, rfl, rfl⟩ ?_ ?_
          · intro i2 g' m₂ news₂ it2 oi2 h tk tt hi2 zzp10 F25 N25 hit2 TB hTB hRB
            obtain ⟨rfl, hn1, hn2, hn3, ⟨tb, hn4⟩, hn5, hn6, rfl⟩ := zzp10
            have F26 := knows [("row", .ref r), ("pieces", .ref pc), ("book", .ref d), ("at", .int ((n0 : Int) + g.length) tb), ("last", lv), ("sums", .ref Ds)] F25 (by simp [hn1, hn2, hn3, hn4, hn5, hn6])
            have N26 := up (up (up N25 (x := (L1 + 1, oP2)) (.tail _ hb9c)) (x := (Dp, listOf lp.toArray 0)) (.tail _ (.tail _ hb9p))) (x := (Ds, tupO [Value.int g.length s0, .int (sgs g) s1, .int (prs g) s2, .int (pls g) s3])) (.tail _ (.tail _ (.tail _ hb9s)))
            clear F25 N25 F24 N24
            obtain ⟨lpk, hlpk⟩ : ∃ lpk, lp.take (i2 + 1) = lpk := ⟨_, rfl⟩
            have hpk : (slicePick lp.toArray none (some (1 + (i2 : Int))) none).toList = lpk := by rw [← hlpk]; exact pick_upto_eq (by omega)
            have hpartk := hpart0.take (i2 + 1)
            rw [hlpk] at hpartk
            have hkl2 := hpartk.1
            rw [List.length_take] at hkl2
            obtain ⟨gk, hgk⟩ : ∃ gk, g.take (i2 + 1) = gk := ⟨_, rfl⟩
            rw [hgk] at hpartk
            have hgkl : lpk.length = gk.length := hpartk.1
            have hgood := hgg (g.take (i2 + 1)) (g.drop (i2 + 1)) (List.take_append_drop _ _).symm (fun e => by have := congrArg List.length e; rw [List.length_take, List.length_nil] at this; omega) (fun e => by have := congrArg List.length e; rw [List.length_drop, List.length_nil] at this; omega)
            rw [hgk] at hgood
            have hgkm : ∀ x ∈ gk, x ∈ W := fun x hx => og.2 x (List.mem_of_mem_take (hgk ▸ hx))
            have hsgk := sgs_boundZ (n := 4) hW hgkm (by omega)
            have hm1 : IntMulOk (gk.map fun y => y.pr).sum (sgs g) := .of_right (intBits_le_64 (by omega) (by omega))
            have hm20 : IntMulOk (prs g) (sgs gk) := .of_right (intBits_le_64 (by omega) (by omega))
            have hm2 : IntMulOk (prs g) (gk.map fun y => y.sg).sum := hm20
            k_steps
            unfold Hold
            rename Fr _ _ _ _ => F27
            refine comp_hold (F₀ := F27) (by with_unfolding_all rfl) (by decide) (by rfl) (by decide) (by rfl) ?_ (by intro _; rfl)
            k_steps
            unfold Hold
            rename Fr _ _ _ _ => F28
            rename News _ _ _ _ => N28
            rename_i Dk _ l1k
            refine LCg.CompSrc.ledger (its := lpk.toArray) (k := 0) rfl F28 N28 (.head _) (by rw [sizeLine_eq]; simp; omega) fun gg => ?_
            obtain ⟨c9, hc9⟩ : ∃ c9, (Dk, listOf lpk.toArray 0) :: (Ds, tupO [Value.int g.length s0, .int (sgs g) s1, .int (prs g) s2, .int (pls g) s3]) :: (Dp, listOf lp.toArray 0) :: (L1 + 1, oP2) :: (it2, oi2) :: news₂ = c9 := ⟨_, rfl⟩
            rw [hc9]
            have hc9Z : ∀ q ∈ news₂, q ∈ c9 := by rw [← hc9]; walk_at "Mine.sub"
            refine comp_rest _ (fun q ys2 news => news = c9 ∧ IntsAre ys2 ((gk.take q).map fun y => y.pr)) (fun _ _ _ h => .inr ⟨_, by rw [h.1, ← hc9]; exact .head _, rfl, 0, rfl⟩) ?_ ?_ _ 0 [] c9 (Nat.zero_add _) ⟨rfl, .nil⟩
            · intro q v ys2 news I2 oI2 C2 oC2 D2 m2 h tk E' hq zzp14 hv hC hx Ft Nt off ne TT hT
              obtain ⟨rfl, hys⟩ := zzp14
              obtain ⟨x, hx2, e5, w1, w2, w3, w4, w5, rfl, he⟩ := hpartk.get (by simpa using hv)
              have Nt2 := up Nt (x := (e5, tupO [.int 1 w1, .int x.sg w2, .int x.pr w3, .int x.pl w4, .str x.tx w5])) (.tail _ (.tail _ (.tail _ (hc9Z _ (hb9Z _ (hZo _ (hoX _ he)))))))
              clear F28 N28 Nt
              k_steps
              exact hT _ _ _ news Ft (sub Nt2 (by walk_at "Mine.sub")) off ⟨rfl, by rw [take_snoc hx2, List.map_append]; exact ints_snoc hys⟩
            · rintro ys2 news ⟨rfl, hys⟩
              intro D5 h5 tk5 F5 N5 off5
              clear F28 N28 off5 hc9Z
              rw [List.take_of_length_le (by simp; omega)] at hys
              subst hc9
              dsimp only
              k_steps
              unfold Hold
              rename Fr _ _ _ _ => F29
              rename News _ _ _ _ => N29
              have N30 := sub (l' := (Ds, tupO [Value.int g.length s0, .int (sgs g) s1, .int (prs g) s2, .int (pls g) s3]) :: (Dp, listOf lp.toArray 0) :: (L1 + 1, oP2) :: (it2, oi2) :: news₂) N29 (by walk_at "Mine.sub")
              clear N29 F5 N5 hys
              refine comp_hold (F₀ := F29) (by with_unfolding_all rfl) (by decide) (by rfl) (by decide) (by rfl) ?_ (by intro _; rfl)
              k_steps
              unfold Hold
              rename Fr _ _ _ _ => F31
              rename News _ _ _ _ => N31
              rename_i Dk2 _ l1k2
              refine LCg.CompSrc.ledger (its := lpk.toArray) (k := 0) rfl F31 N31 (.head _) (by rw [sizeLine_eq]; simp; omega) fun gg => ?_
              obtain ⟨c9, hc9⟩ : ∃ c9, (Dk2, listOf lpk.toArray 0) :: (Ds, tupO [Value.int g.length s0, .int (sgs g) s1, .int (prs g) s2, .int (pls g) s3]) :: (Dp, listOf lp.toArray 0) :: (L1 + 1, oP2) :: (it2, oi2) :: news₂ = c9 := ⟨_, rfl⟩
              rw [hc9]
              have hc9Z : ∀ q ∈ news₂, q ∈ c9 := by rw [← hc9]; walk_at "Mine.sub"
              refine comp_rest _ (fun q ys2 news => news = c9 ∧ IntsAre ys2 ((gk.take q).map fun y => y.sg)) (fun _ _ _ h => .inr ⟨_, by rw [h.1, ← hc9]; exact .head _, rfl, 0, rfl⟩) ?_ ?_ _ 0 [] c9 (Nat.zero_add _) ⟨rfl, .nil⟩
              · intro q v ys3 news I2 oI2 C2 oC2 D2 m2 h tk E' hq zzp14 hv hC hx Ft Nt off ne TT hT
                obtain ⟨rfl, hys⟩ := zzp14
                obtain ⟨x, hx2, e5, w1, w2, w3, w4, w5, rfl, he⟩ := hpartk.get (by simpa using hv)
                have Nt2 := up Nt (x := (e5, tupO [.int 1 w1, .int x.sg w2, .int x.pr w3, .int x.pl w4, .str x.tx w5])) (.tail _ (.tail _ (.tail _ (hc9Z _ (hb9Z _ (hZo _ (hoX _ he)))))))
                clear F31 N31 Nt N30 F29
                k_steps
                exact hT _ _ _ news Ft (sub Nt2 (by walk_at "Mine.sub")) off ⟨rfl, by rw [take_snoc hx2, List.map_append]; exact ints_snoc hys⟩
              · rintro ys3 news ⟨rfl, hys⟩
                intro D5 h5 tk5 F5 N5 off5
                clear F31 N31 off5 hc9Z N30 F29
                rw [List.take_of_length_le (by simp; omega)] at hys
                subst hc9
                dsimp only
                have hgood2 : (gk.map fun y => y.pr).sum * sgs g < prs g * (gk.map fun y => y.sg).sum := hgood
                k_steps
                rename Fr _ _ _ _ => F33
                rename News _ _ _ _ => N33
                exact hTB _ _ _ _ news₂ F33 (sub N33 (by walk_at "Mine.sub")) hit2 ⟨rfl, rfl, rfl, rfl, ⟨_, rfl⟩, rfl, rfl, rfl⟩
          · intro g' m₂ news₂ h tk zzp5 F25 N25
            obtain ⟨rfl, hn1, hn2, hn3, ⟨tb, hn4⟩, hn5, hn6, rfl⟩ := zzp5
            have F26 := knows [("row", .ref r), ("pieces", .ref pc), ("book", .ref d), ("at", .int ((n0 : Int) + g.length) tb), ("last", lv), ("sums", .ref Ds)] F25 (by simp [hn1, hn2, hn3, hn4, hn5, hn6])
            clear F25 F24 N24
            subst hb9
            dsimp only
            have hstopI : StopI := .mk
            k_steps
            unfold Hold
            rename StopI => hstopI
            clear hstopI
            clear hb9Z hb9p hb9s hb9c
            have hnext : segs.take (i + 1) = segs.take i ++ [g] := by rw [List.take_add_one, hg]; rfl
            have hlen1 : ((segs.take (i + 1)).flatten.length : Int) = (n0 : Int) + g.length := by
              rw [hnext, List.flatten_append, List.length_append, hn0]; simp
            have hnz : ∀ q ∈ (Ds, tupO [Value.int g.length s0, .int (sgs g) s1, .int (prs g) s2, .int (pls g) s3]) :: Z, q.1 ≠ L1 + 1 := fun q hq => by
              rcases List.mem_cons.mp hq with rfl | hq
              · exact nDs
              · exact hZ1 q hq
            have hni : ∀ q ∈ (L1 + 1, oP2) :: (Ds, tupO [Value.int g.length s0, .int (sgs g) s1, .int (prs g) s2, .int (pls g) s3]) :: Z, q.1 ≠ it := fun q hq => by
              rcases List.mem_cons.mp hq with rfl | hq
              · exact nit
              rcases List.mem_cons.mp hq with rfl | hq
              · exact nDi
              · exact hit q (.tail _ hq)
            have hlast2 : LastAt ((Ds, tupO [Value.int g.length s0, .int (sgs g) s1, .int (prs g) s2, .int (pls g) s3]) :: Z) (segs.take (i + 1)) (.ref Ds) := .inr ⟨Ds, g, s0, s1, s2, s3, segs.take i, hnext, rfl, .head _⟩
            rcases hlast with ⟨_, rfl⟩ | ⟨D0, g0, z0, z1, z2, z3, done', hdone, rfl, hD0⟩
            · k_steps
              rename Fr _ _ _ _ => F34
              rename News _ _ _ _ => N34
              exact hTA _ _ _ _ ((L1 + 1, oP2) :: (Ds, tupO [Value.int g.length s0, .int (sgs g) s1, .int (prs g) s2, .int (pls g) s3]) :: Z) F34 (sub N34 (by walk_at "Mine.sub")) hni ⟨rfl, rfl, rfl, rfl, ⟨_, by rw [hlen1]; rfl⟩, oP2, _, _, _, rfl, rfl, dP2, hnz, fun q hq => .tail _ (hZo q hq), hlast2⟩
            · have hseg : segs = done' ++ (g0 :: g :: segs.drop (i + 1)) := by
                conv => lhs; rw [hcut, hdone]
                simp
              have hfm := falls_mid (hseg ▸ hpile.falls)
              have hg0 : g0 ∈ segs := by rw [hseg]; simp
              have og0 := (hpile.good g0 hg0).1
              have hl0 : g0.length ≤ ws.length := by
                rw [← hfl, hseg, List.flatten_append, List.flatten_cons, List.length_append, List.length_append]; omega
              have hs0 := sgs_bound hW og0 (by omega)
              have hq1 : IntMulOk (prs g) (sgs g0) := .of_right (intBits_le_64 (by omega) (by omega))
              have hq2 : IntMulOk (prs g0) (sgs g) := .of_right (intBits_le_64 (by omega) (by omega))
              have N35 := up N25 (x := (D0, tupO [.int g0.length z0, .int (sgs g0) z1, .int (prs g0) z2, .int (pls g0) z3])) (.tail _ (.tail _ (.tail _ (.tail _ hD0))))
              clear N25
              k_steps
              rename Fr _ _ _ _ => F34
              rename News _ _ _ _ => N34
              exact hTA _ _ _ _ ((L1 + 1, oP2) :: (Ds, tupO [Value.int g.length s0, .int (sgs g) s1, .int (prs g) s2, .int (pls g) s3]) :: Z) F34 (sub N34 (by walk_at "Mine.sub")) hni ⟨rfl, rfl, rfl, rfl, ⟨_, by rw [hlen1]; rfl⟩, oP2, _, _, _, rfl, rfl, dP2, hnz, fun q hq => .tail _ (hZo q hq), hlast2⟩
  · intro g m₁ news₁ h tk htk zzp6 F1 N1
    obtain ⟨rfl, hm1, hm2, hm3, ⟨ta, hm4⟩, oP1, v1, Z, lv, hm5, rfl, dP1, hZ1, hZo, hlast⟩ := zzp6
    have hits2 := hpi.1
    have hfull : (segs.take its.toArray.size).flatten = ws := by
      rw [List.take_of_length_le (by rw [List.size_toArray]; omega), hfl]
    have hyr := hrow.1
    rw [hfull] at hm4
    have F4 := knows [("row", .ref r), ("at", .int (ws.length : Nat) ta)] F1 (by simp [hm1, hm4])
    have N4 := up N1 (x := (r, listOf lrow.toArray nr)) (.tail _ (hZo _ hor))
    clear F1 N1 F3 N3
    dsimp only
    k_steps
    refine hQQ _ _ ?_
    k_steps
    rename Fr _ _ _ _ => FF
    rename News _ _ _ _ => NN
    rw [beq_self_eq_true]
    exact ret _ [] _ _ ⟨rfl, rfl⟩ (fun _ h => nomatch h) .nil FF (sub NN fun q hq => .tail _ (.tail _ (hZo _ (hoR q hq))))
end Mine

end
/- E4 -/
section
open PySem PySem.W PyProof.Rows PySem.Calls PySem.Spec Builtin
set_option maxHeartbeats 1000000
namespace Mine
theorem lines_E4_1 : True := by
  k_with_none
  k_with "exec For Name Call cons nil" => (k_dflt (refine For_hold ?_))
  k_with "call ref" => ((with_reducible show wpAny _ _ (call (Value.ref 101) _) _ _ _); k_dflt (apply SpecR.use make_spec; rotate_left; k_asm; rotate_right; rotate_left 4; exact rfl; rotate_right 4; k_asm; k_asm; k_asm; k_asm; exact rfl; exact Nat.le_of_ble_eq_true rfl; exact Nat.le_of_ble_eq_true rfl; exact rfl; exact List.forall_mem_nil _); intro _ _ _ _ hp9 _ _ _ N9; obtain ⟨_, _, _, _, e9, e9'⟩ := hp9; subst e9 e9'; (try dsimp only [List.cons_append, List.nil_append] at N9); (try dsimp only); revert N9; intro _)
  exact trivial
local macro_rules | `(tactic| k_inst) => `(tactic| (refine' acc_inst ?N ?h1 ?h2; (case N => k_asm); (case h1 => k_mem); (case h2 => k_mem)))
theorem lines_E4_2 : True := by
  k_with "getMethod ref" => ((with_reducible first | show wpAny _ _ (getMethod (Value.ref _) (PySem.Str.ofString "part_count") _) _ _ _ | show wpAny _ _ (getMethod (Value.ref _) (PySem.Str.ofString "push") _) _ _ _); k_dflt (apply acc_method; k_asm; k_asm; k_inst; k_is; k_is; decide; k_get))
  k_with "subscriptTail" => ((with_reducible show wpAny _ _ (subscriptTail _ _ (Value.ref _) (Value.str _ _)) _ _ _); k_dflt (apply dict_get; k_asm; k_mem; assumption; assumption; rotate_left; with_unfolding_all rfl))
  k_with "call builtin:str.join" => ((with_reducible show wpAny _ _ (call (Value.builtin _) [Value.str _ _, Value.ref _]) _ _ _); k_dflt (apply join_at; k_asm; k_mem; assumption; assumption; exact Nat.le_of_ble_eq_true rfl); intro _ _ _ _ _; (try dsimp only))
  k_with "call builtin:str.replace" => (k_dflt (refine unhold ?_))
  k_with "call builtin:str.split" => (k_dflt (refine unhold ?_))
  k_with "call builtin:len" => (k_dflt (refine unhold ?_))
  k_with "call type:str" => (k_dflt (refine unhold ?_))
  k_with "call ref" => ((with_reducible show wpAny _ _ (call (Value.ref 45) _) _ _ _); k_dflt (refine unhold ?_))
  k_with "call ref" => ((with_reducible show wpAny _ _ (call (Value.ref 98) _) _ _ _); k_dflt (apply SpecR.use0 part_count_spec; rotate_left; k_asm; rotate_right; rotate_left 4; exact rfl; rotate_right 4; k_asm; k_asm; k_asm; k_asm; exact rfl; exact Nat.le_of_ble_eq_true rfl; exact Nat.le_of_ble_eq_true rfl; exact rfl; (refine' List.forall_mem_cons.mpr ⟨?_, List.forall_mem_cons.mpr ⟨?_, List.forall_mem_nil _⟩⟩ <;> k_mem)); intro _ _ _ _ _; (try dsimp only))
  exact trivial
inductive CoInv (head : Int) (C : List (List Wd)) (d P9 D9 : Addr) (ps2 : Array Value) (old : List (Addr × Obj)) (i : Nat) (g : Array GenState) (m' : Str → Option Value) (news' : List (Addr × Obj)) : Prop
  | mk (h0 : AllBare g) (h1 : m' "book" = some (.ref d)) (h2 : m' "line" = some (.ref P9)) (h3 : ∃ tc, m' "cost" = some (.int (cost head (C.flatten.take i)) tc)) (ps : Array Value) (n1 : Nat) (ents : List Ent) (e : news' = (63, tabObj ps) :: (P9, accO D9 (entsIts ents) n1) :: (70, tabObj ps2) :: (entsNews ents ++ old))
    (h4 : TabOk posL ps) (h5 : ents.length = i) (h6 : Lines C.flatten ents) (h7 : ∀ e ∈ ents, e.at' ≠ 63 ∧ e.at' ≠ 70 ∧ e.at' ≠ P9) : CoInv head C d P9 D9 ps2 old i g m' news'
theorem cost_spec {w : World} {W : List Wd} (hW : Proper W) {b d : Addr} {lb : List Value} {C : List (List Wd)} {nb : Nat} {od : Obj} {kvs : List (Str × Value)} {ks : List (List Wd)} {X : List (Addr × Obj)} {head : Int} {th : Tok} (hod : od.IsDictOf (strKind PW w) kvs) (hkn : Known w X kvs ks)
    (hl : Al IsTx lb C) (okl : ∀ g ∈ C, OkB W g) (hne : C ≠ []) (hks : ∀ x ∈ C.flatten, [x] ∈ ks) (hlen : C.flatten.length ≤ 10) (hh : 0 ≤ head ∧ head ≤ 10) :
    SpecG w 780 1900 (.ref 203) [.ref b, .ref d, .int head th] ((b, listOf lb.toArray nb) :: (d, od) :: X) (fun v post => ∃ e t1 t2 t3 tt, v = .ref e ∧ post = [(e, tupO [.int (cost head C.flatten) t1, .str tt t2, .int C.flatten.length t3])] ∧ cl tt = C.flatten.flatMap fun x => 32 :: cl x.tx) := by
  intro p loose mean mg mb gd A₀ cn cs a ccd cl outer base h₀ L m s Q E R ps1 ps2 hk B F X₀ N T h6370 htr1 htr2 hbare ret
  simp only [List.cons_append] at N h6370
  refine wpAny_call ?_
  k_dflt cell_enter
  rename_i g1 L1 hh1 FG1 FF1 NN1 B1 XX1 T1
  refine hide_post fun QQ EE hQQ hEE => ?_
  have hZ : ∀ x ∈ C.flatten, x ∈ W := fun x hx => by
    obtain ⟨g, hg, hx⟩ := List.mem_flatten.mp hx
    exact (okl g hg).2 x hx
  have hsa := strs_txs hl
  have hw1 : ((C.map blk).map (·.length)).sum + (C.map blk).length ≤ 1000 := by
    have h1 := sum_len hW okl
    have h2 := sgs_boundZ hW hZ hlen
    rw [List.length_map]
    omega
  k_steps
  unfold Hold
  rename_i tkM P9 D9 hs9 tk9 hl9 hd9 D1 _ l1 _ _ _ F2 N2 X9 _ k9 eX hk9
  dsimp only at hk9
  have hX : X9.length ≤ 1000 := by
    rw [eX]
    exact Nat.le_trans (join_len (by decide) _) hw1
  refine repl_at tab_eq sp_eq (show @Ne Nat _ _ by omega) (show @Ne Nat _ _ by omega) (show @Ne Nat _ _ by omega) (by decide) hX fun Y tY kY eY hkY => ?_
  have hY : Y.length ≤ 1000 := by rw [eY, replace_len]; exact hX
  have okZ : OkB W C.flatten := ⟨fun e => by
    cases C with
    | nil => exact hne rfl
    | cons g r =>
      rw [List.flatten_cons] at e
      exact (okl g (.head _)).1 (List.append_eq_nil_iff.mp e).1, hZ⟩
  have eY2 : Txt.split Y ⟨#[32]⟩ = C.flatten.map (·.tx) := by
    rw [eY, eX, sp_eq]
    rw [cl_inj (replace_line hW C hne okl)]
    exact split_texts hW okZ
  clear eY eX
  k_steps
  unfold Hold
  rename Fr _ _ _ _ => F3
  rename News _ _ _ _ => N3
  refine split_at sp_eq F3 N3 hY fun V vs h4 k4 hvs F4 N4 hV hk4 => ?_
  rw [eY2] at hvs
  clear F3 N3
  have hPA := hl9 _ (.head _)
  have hDA := hl9 _ (.tail _ (.head _))
  have hDP : D9 ≠ P9 := by
    have hd := (List.nodup_cons.mp hd9).1
    simp only [List.map_cons, List.map_nil, List.mem_singleton] at hd
    exact Ne.symm hd
  have hP := lt_of_all hPA
  have hD := lt_of_all hDA
  have hVP : V ≠ P9 := Nat.ne_of_gt (hV (P9, accO D9 #[] 0) (.tail _ (.head _)))
  have hV63 : V ≠ 63 := Nat.ne_of_gt (hV (63, tabObj ps1) (.tail _ (.tail _ (.tail _ (.head _)))))
  have hV70 : V ≠ 70 := Nat.ne_of_gt (hV (70, tabObj ps2) (.tail _ (.tail _ (.tail _ (.tail _ (.head _))))))
  have hP63 : P9 ≠ 63 := Nat.ne_of_gt (hP (63, tabObj ps1) (.head _))
  have hP70 : P9 ≠ 70 := Nat.ne_of_gt (hP (70, tabObj ps2) (.tail _ (.head _)))
  have hD63 : D9 ≠ 63 := Nat.ne_of_gt (hD (63, tabObj ps1) (.head _))
  have hD70 : D9 ≠ 70 := Nat.ne_of_gt (hD (70, tabObj ps2) (.tail _ (.head _)))
  have hold0 : ∀ q ∈ (D9, accD hs9 tk9 head th) :: (V, listOf vs.toArray 0) :: (b, listOf lb.toArray nb) :: (d, od) :: (X ++ R), q.1 ≠ 63 ∧ q.1 ≠ 70 ∧ q.1 ≠ P9 := by
    intro q hq
    rcases List.mem_cons.mp hq with rfl | hq
    · exact ⟨hD63, hD70, hDP⟩
    rcases List.mem_cons.mp hq with rfl | hq
    · exact ⟨hV63, hV70, hVP⟩
    · exact ⟨(h6370 q hq).1, (h6370 q hq).2, Nat.ne_of_lt (hP q (.tail _ (.tail _ hq)))⟩
  have N5 : News g1 L1 h4 ((63, tabObj ps1) :: (P9, accO D9 (entsIts []) 0) :: (70, tabObj ps2) :: (entsNews [] ++ (D9, accD hs9 tk9 head th) :: (V, listOf vs.toArray 0) :: (b, listOf lb.toArray nb) :: (d, od) :: (X ++ R))) := sub N4 (by simp only [entsNews, List.map_nil, List.nil_append]; walk_at "Mine.sub")
  generalize holdE : (D9, accD hs9 tk9 head th) :: (V, listOf vs.toArray 0) :: (b, listOf lb.toArray nb) :: (d, od) :: (X ++ R) = old at hold0 N5
  have hoD9 : (D9, accD hs9 tk9 head th) ∈ old := by rw [← holdE]; exact .head _
  have hoV : (V, listOf vs.toArray 0) ∈ old := by rw [← holdE]; exact .tail _ (.head _)
  have hod9 : (d, od) ∈ old := by rw [← holdE]; walk_at "Mine.mem"
  have hoX : ∀ q ∈ X, q ∈ old := by rw [← holdE]; exact fun q hq => .tail _ (.tail _ (.tail _ (.tail _ (List.mem_append_left _ hq))))
  have hoR : ∀ q ∈ R, q ∈ old := by rw [← holdE]; exact fun q hq => .tail _ (.tail _ (.tail _ (.tail _ (List.mem_append_right _ hq))))
  have hsz := strs_len hvs
  rw [List.length_map] at hsz
  refine for_listG (items := vs.toArray) (CoInv head C d P9 D9 ps2 old) rfl (.inl ⟨0, .tail _ (.tail _ (.tail _ (List.mem_append_right _ hoV)))⟩) F4 N5 ?_ ⟨hbare, rfl, rfl, ⟨_, rfl⟩, ps1, 0, [], rfl, htr1, rfl, Lines.nil, fun _ h => nomatch h⟩ ?_ ?_
  · rintro i g m' n' ⟨_, _, _, _, ps, n1, ents, rfl, _⟩
    exact .inl ⟨0, .tail _ (.tail _ (.tail _ (List.mem_append_right _ hoV)))⟩
  · intro i v g m₁ news₁ it oi h tk hv zzp10 F1 N1 hit TT hTT hRR
    obtain ⟨hb1, hm1, hm2, ⟨tc, hm3⟩, ps, n1, ents, rfl, htr, hlen1, hlines, hents⟩ := zzp10
    obtain ⟨y, ty, hy, rfl⟩ := strs_get hvs (by simpa using hv)
    rw [List.getElem?_map] at hy
    obtain ⟨x, hx, rfl⟩ := Option.map_eq_some_iff.mp hy
    have hxZ := List.mem_of_getElem? hx
    have F5 := knows [("book", .ref d), ("line", .ref P9), ("cost", .int (cost head (C.flatten.take i)) tc)] F1 (by simp [hm1, hm2, hm3])
    have N6 := up (up N1 (x := (D9, accD hs9 tk9 head th)) (by simp [hoD9])) (x := (P9, accO D9 (entsIts ents) n1)) (by simp)
    clear F1 N1 F4 N4 N5
    k_steps
    unfold Hold
    rename Fr _ _ _ _ => F7
    rename News _ _ _ _ => N7
    have hiZ : i < C.flatten.length := lt_len hx
    have hitP : it ≠ P9 := Ne.symm (hit (P9, accO D9 (entsIts ents) n1) (.tail _ (.head _)))
    have hit63 : it ≠ 63 := Ne.symm (hit (63, tabObj ps) (.head _))
    have hito : ∀ q ∈ old, q.1 ≠ it := fun q hq => hit q (.tail _ (.tail _ (.tail _ (List.mem_append_right _ hq))))
    have hite : ∀ q ∈ entsNews ents, q.1 ≠ it := fun q hq => hit q (.tail _ (.tail _ (.tail _ (List.mem_append_left _ hq))))
    have hen : ∀ q ∈ entsNews ents, q.1 ≠ 63 ∧ q.1 ≠ 70 ∧ q.1 ≠ P9 := fun q hq => by
      obtain ⟨e, he, rfl⟩ := List.mem_map.mp hq
      exact hents e he
    have hneP : ∀ q ∈ (it, oi) :: (63, tabObj ps) :: (70, tabObj ps2) :: (entsNews ents ++ old), q.1 ≠ P9 := by
      intro q hq
      rcases List.mem_cons.mp hq with rfl | hq
      · exact hitP
      rcases List.mem_cons.mp hq with rfl | hq
      · exact Ne.symm hP63
      rcases List.mem_cons.mp hq with rfl | hq
      · exact Ne.symm hP70
      rcases List.mem_append.mp hq with hq | hq
      · exact (hen q hq).2.2
      · exact (hold0 q hq).2.2
    refine' SpecM.use (push_spec (D := D9) (hs := hs9) (tk := tk9) (head := head) (th := th) (n := n1) ?zzsz) ?zzB F7 ?zzX (sub (l' := (P9, accO D9 (entsIts ents) n1) :: (it, oi) :: (63, tabObj ps) :: (70, tabObj ps2) :: (entsNews ents ++ old)) N7 (by walk_at "Mine.sub")) ?zzT rfl rfl ?zzdd1 ?zzuu1 rfl ?zzhe1 hneP ?zzret1
    case zzsz =>
      rw [sizeLine_eq]
      simp
      omega
    case zzB => assumption
    case zzX => assumption
    case zzT => assumption
    case zzdd1 => exact Nat.le_of_ble_eq_true rfl
    case zzuu1 => exact Nat.le_of_ble_eq_true rfl
    case zzhe1 => exact mc (.tail _ (.tail _ (.tail _ (List.mem_append_right _ hoD9)))) mn
    intro v9 oP9 post9 h8 tk8 zzp5 hlt8 F8 N8
    obtain ⟨rfl, T9, rfl, rfl⟩ := zzp5
    have hT9 := hlt8 _ (.head _)
    dsimp only at hT9
    obtain ⟨ents2, he2⟩ : ∃ ents2, ents2 = ents ++ [⟨T9, Str.ofString " ", tk, x.tx, ty⟩] := ⟨_, rfl⟩
    have hits2 : (entsIts ents).push (Value.ref T9) = entsIts ents2 := by rw [he2]; simp [entsIts]
    have hnews2 : entsNews ents2 = entsNews ents ++ [(T9, tupO [.str (Str.ofString " ") tk, .str x.tx ty])] := by rw [he2]; simp [entsNews]
    have hlines2 : Lines C.flatten ents2 := by rw [he2]; exact hlines.snoc (by rw [hlen1]; exact hx) rfl rfl
    have hlen2 : ents2.length = i + 1 := by rw [he2]; simp [hlen1]
    have hents2 : ∀ e ∈ ents2, e.at' ≠ 63 ∧ e.at' ≠ 70 ∧ e.at' ≠ P9 := by
      rw [he2]
      intro e he
      rcases List.mem_append.mp he with he | he
      · exact hents e he
      · rw [List.mem_singleton.mp he]
        exact ⟨Nat.ne_of_gt hT9.2.2.1, Nat.ne_of_gt hT9.2.2.2.1, Nat.ne_of_gt hT9.1⟩
    have hen2 : ∀ q ∈ entsNews ents2, q.1 ≠ 63 ∧ q.1 ≠ it := by
      intro q hq
      rw [hnews2] at hq
      rcases List.mem_append.mp hq with hq | hq
      · exact ⟨(hen q hq).1, hite q hq⟩
      · rw [List.mem_singleton.mp hq]
        exact ⟨Nat.ne_of_gt hT9.2.2.1, Nat.ne_of_gt hT9.2.1⟩
    have hsum2 : (ents2.map fun e => ((e.x.length : Int) + e.y.length)).sum = sgs (C.flatten.take (i + 1)) := by rw [hlines2.sum hW hZ, hlen2]
    have hsh2 : ∀ e ∈ ents2, e.x.length < 2 ^ 62 ∧ e.y.length < 2 ^ 62 := fun e he => by
      have := hlines2.short hW hZ e he
      omega
    have hsg := sgs_boundZ (n := 10) hW (fun y hy => hZ y (List.mem_of_mem_take hy)) (by rw [List.length_take]; omega : (C.flatten.take (i + 1)).length ≤ 10)
    obtain ⟨nn, hnn⟩ : ∃ nn : Int, nn = head + sgs (C.flatten.take (i + 1)) := ⟨_, rfl⟩
    have hmul : IntMulOk x.pr nn := .of_right (intBits_le_64 (by omega) (by omega))
    obtain ⟨v10, hva, e, c10, u1, u2, u3, u4, oc10, kv10, rfl, hem, _⟩ := hkn [x] (hks x hxZ)
    have bx : blk [x] = x.tx := s_append_empty _
    have e1 : sgs [x] = x.sg := by simp [sgs]
    have e2 : prs [x] = x.pr := by simp [prs]
    have e3 : pls [x] = x.pl := by simp [pls]
    rw [bx] at hva
    rw [e1, e2, e3] at hem
    rw [hits2] at N8
    have N9 : News g1 L1 h8 ((e, tupO [.int ([x].length : Nat) u1, .int x.sg u2, .int x.pr u3, .int x.pl u4, .ref c10]) :: (d, od) :: (63, tabObj ps) :: (P9, accO D9 (entsIts ents2) (n1 + 1)) :: (D9, accD hs9 tk9 head th) :: (it, oi) :: (70, tabObj ps2) :: (entsNews ents2 ++ old)) := by
      rw [hnews2]
      refine sub N8 (mc ?_ (mc ?_ (mc ?_ (mc ?_ (mc ?_ ?_)))))
      · exact .tail _ (.tail _ (.tail _ (.tail _ (.tail _ (List.mem_append_right _ (hoX _ hem))))))
      · exact .tail _ (.tail _ (.tail _ (.tail _ (.tail _ (List.mem_append_right _ hod9)))))
      · walk_at "Mine.mem"
      · walk_at "Mine.mem"
      · exact .tail _ (.tail _ (.tail _ (.tail _ (.tail _ (List.mem_append_right _ hoD9)))))
      · walk_at "Mine.sub"
    clear N8 N7 F7 N6 F5
    k_steps
    unfold Hold
    rename Fr _ _ _ _ => F10
    rename News _ _ _ _ => N10
    have hne63 : ∀ q ∈ (e, tupO [.int ([x].length : Nat) u1, .int x.sg u2, .int x.pr u3, .int x.pl u4, .ref c10]) :: (d, od) :: (P9, accO D9 (entsIts ents2) (n1 + 1)) :: (D9, accD hs9 tk9 head th) :: (it, oi) :: (70, tabObj ps2) :: (entsNews ents2 ++ old), q.1 ≠ 63 := by
      intro q hq
      rcases List.mem_cons.mp hq with rfl | hq
      · exact (hold0 _ (hoX _ hem)).1
      rcases List.mem_cons.mp hq with rfl | hq
      · exact (hold0 _ hod9).1
      rcases List.mem_cons.mp hq with rfl | hq
      · exact hP63
      rcases List.mem_cons.mp hq with rfl | hq
      · exact hD63
      rcases List.mem_cons.mp hq with rfl | hq
      · exact hit63
      rcases List.mem_cons.mp hq with rfl | hq
      · exact show (70 : Nat) ≠ 63 by decide
      rcases List.mem_append.mp hq with hq | hq
      · exact (hen2 q hq).1
      · exact (hold0 q hq).1
    refine len_K F10 (by assumption) (acc_inst (x := P9) (C := 101) (dx := D9) (od := accD hs9 tk9 head th) N10 (by walk_at "Mine.mem") (by walk_at "Mine.mem")) (by k_is) (by k_is) ?_
    refine' SpecT.use (len_spec (P := P9) (D := D9) (l := ents2) (n := n1 + 1) (hs := hs9) (tk := tk9) (head := head) (th := th) hsh2) ?zzB2 F10 ?zzX2 (sub (l' := (63, tabObj ps) :: (e, tupO [.int ([x].length : Nat) u1, .int x.sg u2, .int x.pr u3, .int x.pl u4, .ref c10]) :: (d, od) :: (P9, accO D9 (entsIts ents2) (n1 + 1)) :: (D9, accD hs9 tk9 head th) :: (it, oi) :: (70, tabObj ps2) :: (entsNews ents2 ++ old)) N10 (by walk_at "Mine.sub")) ?zzT2 rfl rfl ?zzdd2 ?zzuu2 rfl ?zzhe22 hne63 htr hb1 ?zzret2
    case zzB2 => assumption
    case zzX2 => assumption
    case zzT2 => assumption
    case zzdd2 => exact Nat.le_of_ble_eq_true rfl
    case zzuu2 => exact Nat.le_of_ble_eq_true rfl
    case zzhe22 => exact mc (.tail _ (.tail _ (.head _))) (mc (.tail _ (.tail _ (.tail _ (.head _)))) (fun q hq => .tail _ (.tail _ (.tail _ (.tail _ (.tail _ (.tail _ (List.mem_append_left _ hq))))))))
    intro v11 ps11 h11 g11 tk11 zzp5 htr11 hb11 F11 N11
    obtain ⟨t11, e11⟩ := zzp5
    rw [hsum2, ← hnn] at e11
    subst e11
    refine ⟨⟨by omega, by omega⟩, ?_⟩
    dsimp only
    clear N10 F10
    k_steps
    rename Fr _ _ _ _ => F12
    rename News _ _ _ _ => N12
    have hcost : cost head (C.flatten.take i) + x.pr * nn = cost head (C.flatten.take (i + 1)) := by
      rw [take_snoc hx, cost_snoc, hnn, sgs_take hx, Int.add_assoc]
    refine hTT _ _ _ _ ((63, tabObj ps11) :: (P9, accO D9 (entsIts ents2) (n1 + 1)) :: (70, tabObj ps2) :: (entsNews ents2 ++ old)) F12 (sub N12 (by walk_at "Mine.sub")) ?_ ⟨hb11, rfl, rfl, ⟨_, by rw [← hcost]; rfl⟩, ps11, _, ents2, rfl, htr11, hlen2, hlines2, hents2⟩
    intro q hq
    rcases List.mem_cons.mp hq with rfl | hq
    · exact Ne.symm hit63
    rcases List.mem_cons.mp hq with rfl | hq
    · exact Ne.symm hitP
    rcases List.mem_cons.mp hq with rfl | hq
    · exact hit (70, tabObj ps2) (.tail _ (.tail _ (.head _)))
    rcases List.mem_append.mp hq with hq | hq
    · exact (hen2 q hq).2
    · exact hito q hq
  · intro g m₁ news₁ h tk zzp5 F1 N1
    obtain ⟨hb1, hm1, hm2, ⟨tc, hm3⟩, ps, n1, ents, rfl, htr, hlen1, hlines, hents⟩ := zzp5
    have hfull : C.flatten.take vs.toArray.size = C.flatten := List.take_of_length_le (by rw [List.size_toArray]; omega)
    have hlenE : ents.length = C.flatten.length := by rw [hlen1]; simpa using hsz
    rw [hfull] at hm3
    have F5 := knows [("line", .ref P9), ("cost", .int (cost head C.flatten) tc)] F1 (by simp [hm2, hm3])
    have N6 := up (up N1 (x := (D9, accD hs9 tk9 head th)) (by simp [hoD9])) (x := (P9, accO D9 (entsIts ents) n1)) (by simp)
    clear F1 N1 F4 N4 N5
    k_steps
    unfold Hold
    have hen : ∀ q ∈ entsNews ents, q.1 ≠ 63 ∧ q.1 ≠ 70 ∧ q.1 ≠ P9 := fun q hq => by
      obtain ⟨e, he, rfl⟩ := List.mem_map.mp hq
      exact hents e he
    have hne70 : ∀ q ∈ (P9, accO D9 (entsIts ents) n1) :: (D9, accD hs9 tk9 head th) :: (63, tabObj ps) :: (entsNews ents ++ old), q.1 ≠ 70 := by
      intro q hq
      rcases List.mem_cons.mp hq with rfl | hq
      · exact hP70
      rcases List.mem_cons.mp hq with rfl | hq
      · exact hD70
      rcases List.mem_cons.mp hq with rfl | hq
      · exact show (63 : Nat) ≠ 70 by decide
      rcases List.mem_append.mp hq with hq | hq
      · exact (hen q hq).2.1
      · exact (hold0 q hq).2.1
    have hsh2 : ∀ e ∈ ents, e.x.length < 1000 ∧ e.y.length < 1000 := fun e he => by
      have := hlines.short hW hZ e he
      omega
    refine kso_call (by k_units) (Frag.In.keeps (by assumption) F5.keep) (acc_inst (x := P9) (C := 101) (dx := D9) (od := accD hs9 tk9 head th) N6 (by walk_at "Mine.mem") (by walk_at "Mine.mem")) (by k_is) (by k_is) ?_
    refine' SpecT.use (str_spec (P := P9) (D := D9) (l := ents) (n := n1) (hs := hs9) (tk := tk9) (head := head) (th := th) hsh2 (by omega)) ?zzB3 F5 ?zzX3 (sub (l' := (70, tabObj ps2) :: (P9, accO D9 (entsIts ents) n1) :: (D9, accD hs9 tk9 head th) :: (63, tabObj ps) :: (entsNews ents ++ old)) N6 (by walk_at "Mine.sub")) ?zzT3 rfl rfl ?zzdd3 ?zzuu3 rfl ?zzhe33 hne70 htr2 hb1 ?zzret3
    case zzB3 => assumption
    case zzX3 => assumption
    case zzT3 => assumption
    case zzdd3 => exact Nat.le_of_ble_eq_true rfl
    case zzuu3 => exact Nat.le_of_ble_eq_true rfl
    case zzhe33 => exact mc (.head _) (mc (.tail _ (.head _)) (fun q hq => .tail _ (.tail _ (.tail _ (List.mem_append_left _ hq)))))
    intro v11 ps11 h11 g11 tk11 zzp5 htr11 hb11 F11 N11
    obtain ⟨t11, rfl⟩ := zzp5
    have htext := hlines.text
    rw [hlenE, List.take_length] at htext
    generalize htt : Txt.join (Str.ofString "") (ents.map entTx) = tt at htext
    unfold StrBack
    dsimp only
    clear N6 F5
    k_steps
    refine hQQ _ _ ?_
    k_steps
    rename Fr _ _ _ _ => FF
    rename News _ _ _ _ => NN
    have hE : (entsIts ents).size = C.flatten.length := by simpa [entsIts] using hlenE
    rw [hE] at NN
    exact ret _ _ _ _ _ _ _ ⟨_, _, _, _, _, rfl, rfl, htext⟩ hb11 FF (sub NN (mc (by walk_at "Mine.mem") (mc (by walk_at "Mine.mem") (mc (.head _) fun q hq => .tail _ (.tail _ (.tail _ (.tail _ (.tail _ (List.mem_append_right _ (hoR q hq))))))))))
end Mine

end
/- G0 -/
section
open PySem PySem.W PyProof.Rows PySem.Calls PySem.Spec Builtin
set_option maxHeartbeats 1000000
namespace Mine
def wd (n : Nat) (x : Int) : Wd := ⟨2 + x.fmod 4, x, n, wtext n x⟩
theorem mul_cl : ∀ n : Nat, n < 7 → ∀ k : Nat, k < 4 → cl (Txt.mul (Txt.item (Str.ofString "abcdefg") ((n : Nat) : Int)) (1 + ((k : Nat) : Int))) = List.replicate (k + 1) (97 + n) := by decide +kernel
theorem wtext_cl {n : Nat} (hn : n < 7) (x : Int) : ∃ k : Nat, k < 4 ∧ x.fmod 4 = (k : Int) ∧ cl (wtext n x) = List.replicate (k + 1) (97 + n) := by
  have hf := fmod4 x
  refine ⟨(x.fmod 4).toNat, by omega, by omega, ?_⟩
  have := mul_cl n hn (x.fmod 4).toNat (by omega)
  rw [show (((x.fmod 4).toNat : Nat) : Int) = x.fmod 4 by omega] at this
  exact this
def words (ts : List Int) : List Wd := (List.range 7).map fun n => wd n (ts.getD n 0)
theorem words_mem {ts : List Int} {x : Wd} (h : x ∈ words ts) : ∃ n, n < 7 ∧ x = wd n (ts.getD n 0) := by
  obtain ⟨n, hn, rfl⟩ := List.mem_map.mp h
  exact ⟨n, List.mem_range.mp hn, rfl⟩
theorem words_proper (ts : List Int) : Proper (words ts) where
  sg := fun x hx => by
    obtain ⟨n, hn, rfl⟩ := words_mem hx
    obtain ⟨k, hk, e, hc⟩ := wtext_cl hn (ts.getD n 0)
    have hl : (wtext n (ts.getD n 0)).length = k + 1 := by rw [← cl_length, hc, List.length_replicate]
    show 2 + (ts.getD n 0).fmod 4 = 1 + ((wtext n (ts.getD n 0)).length : Int)
    omega
  len := fun x hx => by
    obtain ⟨n, hn, rfl⟩ := words_mem hx
    obtain ⟨k, hk, e, hc⟩ := wtext_cl hn (ts.getD n 0)
    have hl : (wtext n (ts.getD n 0)).length = k + 1 := by rw [← cl_length, hc, List.length_replicate]
    show 1 ≤ (wtext n (ts.getD n 0)).length ∧ (wtext n (ts.getD n 0)).length ≤ 4
    omega
  ch := fun x hx c hc => by
    obtain ⟨n, hn, rfl⟩ := words_mem hx
    obtain ⟨k, hk, e, hc'⟩ := wtext_cl hn (ts.getD n 0)
    have hc2 : c ∈ cl (wtext n (ts.getD n 0)) := hc
    rw [hc'] at hc2
    exact (List.mem_replicate.mp hc2).2
  pl := fun x hx => by
    obtain ⟨n, hn, rfl⟩ := words_mem hx
    exact hn
  inj := fun x hx y hy e => by
    obtain ⟨n, hn, rfl⟩ := words_mem hx
    obtain ⟨n', hn', rfl⟩ := words_mem hy
    have : n = n' := e
    rw [this]
theorem taken_of {vs : List Value} {l d : List Int} (h : IntsAre vs ((l ++ d).take 7)) (hd : d.length = 7) : ∃ ts : List Int, ts.length = 7 ∧ IntsAre vs ts := ⟨_, by simp; omega, h⟩
theorem ints_at : ∀ {vs : List Value} {ns : List Int} {i : Nat}, IntsAre vs ns → i < ns.length → ∃ t, vs[i]? = some (.int (ns.getD i 0) t)
  | _, _, _, .nil, h => absurd h (Nat.not_lt_zero _)
  | _, _, 0, .cons a t r, _ => ⟨t, rfl⟩
  | _, _, i + 1, .cons a t r, h => by
    obtain ⟨t', e⟩ := ints_at (i := i) r (Nat.lt_of_succ_lt_succ h)
    exact ⟨t', by simpa using e⟩
theorem words_get {ts : List Int} {i : Nat} (hi : i < 7) : (words ts)[i]? = some (wd i (ts.getD i 0)) := by
  unfold words
  rw [List.getElem?_map, List.getElem?_range hi]
  rfl
def evens (ts : List Int) : List Wd := [wd 0 (ts.getD 0 0), wd 2 (ts.getD 2 0), wd 4 (ts.getD 4 0), wd 6 (ts.getD 6 0)]
def odds (ts : List Int) : List Wd := [wd 1 (ts.getD 1 0), wd 3 (ts.getD 3 0), wd 5 (ts.getD 5 0)]
theorem words_eq (ts : List Int) : words ts = [wd 0 (ts.getD 0 0), wd 1 (ts.getD 1 0), wd 2 (ts.getD 2 0), wd 3 (ts.getD 3 0), wd 4 (ts.getD 4 0), wd 5 (ts.getD 5 0), wd 6 (ts.getD 6 0)] := rfl
theorem evens_in {ts : List Int} : ∀ x ∈ evens ts, x ∈ words ts := by
  intro x hx
  rw [words_eq]
  simp only [evens, List.mem_cons, List.not_mem_nil, or_false] at hx ⊢
  rcases hx with rfl | rfl | rfl | rfl <;> simp
theorem odds_in {ts : List Int} : ∀ x ∈ odds ts, x ∈ words ts := by
  intro x hx
  rw [words_eq]
  simp only [odds, List.mem_cons, List.not_mem_nil, or_false] at hx ⊢
  rcases hx with rfl | rfl | rfl <;> simp
theorem pl_ne {n m : Nat} {x y : Int} (h : n ≠ m) : wd n x ≠ wd m y := fun e => h (congrArg Wd.pl e)
theorem evens_nd (ts : List Int) : (evens ts).Nodup := by simp [evens, pl_ne]
theorem odds_nd (ts : List Int) : (odds ts).Nodup := by simp [odds, pl_ne]
theorem apart_rows {ts : List Int} : ∀ x ∈ evens ts, x ∉ odds ts := by
  intro x hx hy
  simp only [evens, odds, List.mem_cons, List.not_mem_nil, or_false] at hx hy
  rcases hx with rfl | rfl | rfl | rfl <;> rcases hy with h | h | h <;> exact absurd h (pl_ne (by decide))
theorem split_word {new : List (Addr × Obj)} {ys : List Value} {w : Wd} {ws : List Wd} (h : Al (IsWord new) ys (w :: ws)) : ∃ e ys', ys = .ref e :: ys' ∧ IsWord new (.ref e) w ∧ Al (IsWord new) ys' ws := by
  cases ys with
  | nil => exact absurd h.1 (by simp)
  | cons v ys' =>
    have hh := h.head
    obtain ⟨e, _, _, _, _, _, rfl, _⟩ := id hh
    exact ⟨e, ys', rfl, hh, h.tail⟩
theorem seven {new : List (Addr × Obj)} {ys : List Value} {ts : List Int} (h : Al (IsWord new) ys (words ts)) : ∃ e0 e1 e2 e3 e4 e5 e6, ys = [.ref e0, .ref e1, .ref e2, .ref e3, .ref e4, .ref e5, .ref e6] ∧
    Al (IsWord new) [.ref e0, .ref e2, .ref e4, .ref e6] (evens ts) ∧ Al (IsWord new) [.ref e1, .ref e3, .ref e5] (odds ts) := by
  rw [words_eq] at h
  obtain ⟨e0, y1, rfl, h0, g1⟩ := split_word h
  obtain ⟨e1, y2, rfl, h1, g2⟩ := split_word g1
  obtain ⟨e2, y3, rfl, h2, g3⟩ := split_word g2
  obtain ⟨e3, y4, rfl, h3, g4⟩ := split_word g3
  obtain ⟨e4, y5, rfl, h4, g5⟩ := split_word g4
  obtain ⟨e5, y6, rfl, h5, g6⟩ := split_word g5
  obtain ⟨e6, y7, rfl, h6, g7⟩ := split_word g6
  obtain rfl := List.eq_nil_of_length_eq_zero g7.1
  exact ⟨e0, e1, e2, e3, e4, e5, e6, rfl, Al.cons h0 (Al.cons h2 (Al.cons h4 (Al.cons h6 Al.nil))), Al.cons h1 (Al.cons h3 (Al.cons h5 Al.nil))⟩
theorem pick_even {a b c d e f g : Value} : (slicePick #[a, b, c, d, e, f, g] none none (some 2)).toList = [a, c, e, g] := by
  unfold slicePick
  have h : sliceRange (sliceBounds none none (some 2) (#[a, b, c, d, e, f, g] : Array Value).size).1 (sliceBounds none none (some 2) (#[a, b, c, d, e, f, g] : Array Value).size).2.1 (sliceBounds none none (some 2) (#[a, b, c, d, e, f, g] : Array Value).size).2.2 = [0, 2, 4, 6] := by
    show sliceRange (sliceBounds none none (some 2) 7).1 (sliceBounds none none (some 2) 7).2.1 (sliceBounds none none (some 2) 7).2.2 = [0, 2, 4, 6]
    decide +kernel
  rw [h]
  rfl
theorem pick_odd {a b c d e f g : Value} : (slicePick #[a, b, c, d, e, f, g] (some 1) none (some 2)).toList = [b, d, f] := by
  unfold slicePick
  have h : sliceRange (sliceBounds (some 1) none (some 2) (#[a, b, c, d, e, f, g] : Array Value).size).1 (sliceBounds (some 1) none (some 2) (#[a, b, c, d, e, f, g] : Array Value).size).2.1 (sliceBounds (some 1) none (some 2) (#[a, b, c, d, e, f, g] : Array Value).size).2.2 = [1, 3, 5] := by
    show sliceRange (sliceBounds (some 1) none (some 2) 7).1 (sliceBounds (some 1) none (some 2) 7).2.1 (sliceBounds (some 1) none (some 2) 7).2.2 = [1, 3, 5]
    decide +kernel
  rw [h]
  rfl
theorem segs_len : ∀ {segs : List (List Wd)}, (∀ g ∈ segs, g ≠ []) → segs.length ≤ segs.flatten.length
  | [], _ => Nat.zero_le _
  | g :: r, h => by
    have h1 := List.length_pos_iff.mpr (h g (.head _))
    have h2 := segs_len fun a ha => h a (.tail _ ha)
    rw [List.flatten_cons, List.length_append, List.length_cons]
    omega
theorem seg_in {segs : List (List Wd)} {g : List Wd} (h : g ∈ segs) : g.length ≤ segs.flatten.length := by
  induction segs with
  | nil => cases h
  | cons a r ih =>
    rw [List.flatten_cons, List.length_append]
    rcases List.mem_cons.mp h with rfl | h
    · omega
    · have := ih h; omega
theorem inter_len {X Y Z : List Wd} (h : Inter X Y Z) : Z.length = X.length + Y.length := by
  induction h with
  | nil => rfl
  | left _ ih => simp only [List.length_cons]; omega
  | right _ ih => simp only [List.length_cons]; omega
theorem SpecG.use {w : World} {D U : Nat} {f : Value} {vs : List Value} {ps1 ps2 : Array Value} {pre : List (Addr × Obj)} {Post : Value → List (Addr × Obj) → Prop} (S : SpecG w D U f vs pre Post)
    {p : Program} {loose : List Str} {mean : ExcName → Option Value} {mg mb : Str → Option Value} {A A₀ : Around} {cn : Str} {cs : Scope} {a : Addr} {ccd : Value} {cl : List (Str × Addr)} {outer : List Env} {base h₀ : Heap} {L : Addr} {m : Str → Option Value} {s : Shared} {Q E : Value → Shared → Prop} {news : List (Addr × Obj)}
    (B : Below A₀ base outer h₀) (F : Fr h₀ L s.heap m) (X : (hd.heap_39 w.params).In h₀) (N : News h₀ L s.heap ((63, tabObj ps1) :: (70, tabObj ps2) :: news)) (T : Top p loose mean mg mb h₀)
    (hA : A.frames = some (envX cn cs L a ccd cl :: outer)) (hh : A.handled = none) (hd : A.depth ≤ D) (hu : A.units ≤ U) (hk : cs.kind = .function) (he : ∀ q ∈ pre, q ∈ news) (hne : ∀ p ∈ news, p.1 ≠ 63 ∧ p.1 ≠ 70) (htr1 : TabOk posL ps1) (htr2 : TabOk posS ps2) (hb : AllBare s.gens)
    (ret : ∀ v post ps1' ps2' h' g' tk, Post v post → AllBare g' → Fr h₀ L h' m → News h₀ L h' ((63, tabObj ps1') :: (70, tabObj ps2') :: (post ++ news)) → Q v { s with heap := h', gens := g', toks := tk }) :
    wpAny (model PySem.Challenge.pw_pk0049_01 w) A (call f vs) Q E s := by
  refine wpAny_lower (B := ktrTop D U A.guards cn cs L a ccd cl outer) hh hd hA rfl hu ?_
  refine S p loose mean mg mb A.guards A₀ cn cs a ccd cl outer base h₀ L m s Q E news ps1 ps2 hk B F X (fun q hq => ?_) T (fun q hq => ?_) htr1 htr2 hb ret
  · rcases List.mem_cons.mp hq with rfl | hq
    · exact N _ (.head _)
    rcases List.mem_cons.mp hq with rfl | hq
    · exact N _ (.tail _ (.head _))
    rcases List.mem_append.mp hq with hq | hq
    · exact N q (.tail _ (.tail _ (he q hq)))
    · exact N q (.tail _ (.tail _ hq))
  · rcases List.mem_append.mp hq with hq | hq
    · exact hne q (he q hq)
    · exact hne q hq
theorem eq_tup3 {prog : Program} {w : World} {A : Around} {E : Value → Shared → Prop} {s : Shared} {h₀ : Heap} {L : Addr} {news : List (Addr × Obj)} {Q : Value → Shared → Prop} {D1 D2 : Addr} {a b a' b' : Int} {x x' : Str} {t1 t2 t3 u1 u2 u3 : Tok} (N : News h₀ L s.heap news) (h1 : (D1, tupO [.int a t1, .str x t2, .int b t3]) ∈ news) (h2 : (D2, tupO [.int a' u1, .str x' u2, .int b' u3]) ∈ news) (ea : a = a') (ex : x = x') (eb : b = b') (ok : PyData.strOk x = true) (hu : A.units + 64 < cLine) (h : Q (.bool true) s) :
    wpAny (model prog w) A (compareOp .Eq (.ref D1) (.ref D2)) Q E s := by
  subst ea ex eb
  have lay : SeqAt.shaped (.tuple [.int a, .str x, .int b]) = true := by simp [SeqAt.shaped, PyData.canLay0, PyData.canLayAll0, PyData.depth, PyData.depthAll, ok]
  refine SeqAt.compareEq_shaped (da := .tuple [.int a, .str x, .int b]) (db := .tuple [.int a, .str x, .int b]) (reads_tuple_at (N _ h1).1 rfl rfl (.cons (.int _ _) (.cons (.str _ _) (.cons (.int _ _) .nil)))) (reads_tuple_at (N _ h2).1 rfl rfl (.cons (.int _ _) (.cons (.str _ _) (.cons (.int _ _) .nil)))) lay lay hu ?_
  have : PyData.eqv (.tuple [.int a, .str x, .int b]) (.tuple [.int a, .str x, .int b]) = true := by
    simp [PyData.eqv, PyData.eqvAll]
  rw [this]; exact h
theorem room_of {h₀ h : Heap} {L : Addr} {m : Str → Option Value} (F : Fr h₀ L h m) {a : Int} {t : Tok} (e : m "room" = some (.int (a.fmod 10) t)) :
    ∃ (room : Int) (tr : Tok) (m' : Str → Option Value), 0 ≤ room ∧ room ≤ 9 ∧ Fr h₀ L h (fun y => (List.lookup y [(Str.ofString "room", Value.int room tr)]).or (m' y)) := by
  refine ⟨a.fmod 10, t, m, fmod_lo _ (by decide), ?_, knows [(Str.ofString "room", Value.int (a.fmod 10) t)] F (fun p hp => ?_)⟩
  · have := fmod_hi a (n := 10) (by decide)
    omega
  · rw [List.mem_singleton.mp hp]; exact e
end Mine

end
/- C2 -/
section
open PySem PySem.W PyProof.Rows PySem.Calls PySem.Spec Builtin
set_option maxHeartbeats 1000000
namespace Mine
theorem lines_C2_1 : True := by
  k_with_none
  k_with "exec For" => (k_dflt (refine For_hold ?_))
  k_with "exec For Tuple Name cons nil" => (k_dflt (refine For_hold ?_))
  k_with "call ref" => ((with_reducible show wpAny _ _ (call (Value.ref 101) _) _ _ _); k_dflt (apply SpecR.use make_spec; rotate_left; k_asm; rotate_right; rotate_left 4; exact rfl; rotate_right 4; k_asm; k_asm; k_asm; k_asm; exact rfl; exact Nat.le_of_ble_eq_true rfl; exact Nat.le_of_ble_eq_true rfl; exact rfl; exact List.forall_mem_nil _); intro _ _ _ _ hp9 _ _ _ N9; obtain ⟨_, _, _, _, e9, e9'⟩ := hp9; subst e9 e9'; (try dsimp only [List.cons_append, List.nil_append] at N9); (try dsimp only); revert N9; intro _)
  k_with "call ref" => ((with_reducible show wpAny _ _ (call (Value.ref 175) _) _ _ _); k_dflt (apply SpecR.use0 (white_spec ?_); rotate_left; k_asm; rotate_right; rotate_left 4; exact rfl; rotate_right 4; k_asm; k_asm; k_asm; k_asm; exact rfl; exact Nat.le_of_ble_eq_true rfl; exact Nat.le_of_ble_eq_true rfl; exact rfl; exact List.forall_mem_nil _; any_goals (refine pid ?_; assumption)); intro _ _ _ _ _; (try dsimp only))
  k_with "exec While" => (k_dflt (refine unhold ?_))
  k_with "exec While BoolOp cons nil" => (k_dflt (refine unhold ?_))
  k_with "setItem ref str" => (k_dflt (refine unhold ?_))
  k_with "eval Dict" => (k_dflt (apply kdn_eval (knd := PySem.strKind _ _); k_asm; k_asm; exact Top.nolimit (by k_asm); rfl; rfl; exact List.cons_ne_nil _ _; exact Nat.le_of_ble_eq_true rfl); intro _ _ _ _ _ l1 _ _; (try k_lt l1); revert l1; intro _)
  k_with "KdnMade" => (k_dflt (apply kdn_made_str; k_asm; k_asm; k_updF; k_asm; rfl; exact List.nodup_cons.mpr ⟨List.not_mem_nil, List.nodup_nil⟩); intro _ _ _ N' _; (try dsimp only at N'); revert N'; intro _)
  k_with "call ref" => ((with_reducible show wpAny _ _ (call (Value.ref 61) _) _ _ _); k_dflt (refine unhold ?_))
  k_with "call ref" => ((with_reducible show wpAny _ _ (call (Value.ref 45) _) _ _ _); k_dflt (refine unhold ?_))
  k_with "call ref" => ((with_reducible show wpAny _ _ (call (Value.ref 53) _) _ _ _); k_dflt (refine unhold ?_))
  k_with "call ref" => ((with_reducible show wpAny _ _ (call (Value.ref 140) _) _ _ _); k_dflt (apply SpecR.use (add_func_stats_spec ?_ ?_ ?_ ?_ ?_ ?_); rotate_left; k_asm; rotate_right; rotate_left 4; exact rfl; rotate_right 4; k_asm; k_asm; k_asm; k_asm; exact rfl; exact Nat.le_of_ble_eq_true rfl; exact Nat.le_of_ble_eq_true rfl; exact rfl; (refine' List.forall_mem_cons.mpr ⟨?_, List.forall_mem_cons.mpr ⟨?_, List.forall_mem_cons.mpr ⟨?_, List.forall_mem_cons.mpr ⟨?_, List.forall_mem_nil _⟩⟩⟩⟩ <;> k_mem); any_goals (refine pid ?_; assumption)); intro _ _ _ _ hp9 _ _ _ N9; obtain ⟨_, _, _, _, _, _, _, e9', e9'', _, _⟩ := hp9; subst e9' e9''; (try dsimp only [List.cons_append, List.nil_append] at N9); (try dsimp only); revert N9; intro _)
  k_with "call ref" => ((with_reducible show wpAny _ _ (call (Value.ref 168) _) _ _ _); k_dflt (apply SpecR.use0 (verdict_spec ?_ ?_); rotate_left; k_asm; rotate_right; rotate_left 4; exact rfl; rotate_right 4; k_asm; k_asm; k_asm; k_asm; exact rfl; exact Nat.le_of_ble_eq_true rfl; exact Nat.le_of_ble_eq_true rfl; exact rfl; (refine' List.forall_mem_cons.mpr ⟨?_, List.forall_mem_cons.mpr ⟨?_, List.forall_mem_nil _⟩⟩ <;> k_mem); any_goals (refine pid ?_; assumption)); intro _ _ _ _ _; (try dsimp only))
  k_with "subscriptTail" => ((with_reducible show wpAny _ _ (subscriptTail _ _ (Value.ref _) (Value.str _ _)) _ _ _); k_dflt (apply dict_get; k_asm; k_mem; assumption; assumption; rotate_left; with_unfolding_all rfl))
  k_with "compareOp NotEq ref ref" => ((with_reducible show wpAny _ _ (compareOp CmpOp.NotEq (Value.ref _) (Value.ref _)) _ _ _); k_dflt (apply ne_tup2; k_asm; k_mem; k_mem; assumption; assumption; assumption; assumption; assumption; ke_room))
  k_with "binaryOp Add str str" => ((with_reducible show wpAny _ _ (binaryOp Operator.Add (Value.str _ _) (Value.str _ _)) _ _ _); k_dflt (refine' add_str (hsz := by (rw [sizeLine_eq]; (try rw [slen_append]); omega)) ?_); intro _ _; (try dsimp only))
  exact trivial
local macro_rules | `(tactic| k_inst) => `(tactic| (refine' acc_inst ?N ?h1 ?h2; (case N => k_asm); (case h1 => k_mem); (case h2 => k_mem)))
theorem lines_C2_2 : True := by
  k_with "getMethod ref" => ((with_reducible first | show wpAny _ _ (getMethod (Value.ref _) (PySem.Str.ofString "pop") _) _ _ _ | show wpAny _ _ (getMethod (Value.ref _) (PySem.Str.ofString "push") _) _ _ _ | show wpAny _ _ (getMethod (Value.ref _) (PySem.Str.ofString "pop_from") _) _ _ _); k_dflt (apply acc_method; k_asm; k_asm; k_inst; k_is; k_is; decide; k_get))
  exact trivial
/-- what holds ahead of a turn of the row's loop -/
inductive FInv (w : World) (W ws : List Wd) (known : List (List Wd)) (pre old : List (Addr × Obj)) (d P9 D9 : Addr) (od : Obj) (hs9 : Int) (tk9 : Tok) (head : Int) (th : Tok) (kn : Nat) (G : Array GenState) (i : Nat) (g : Array GenState) (m' : Str → Option Value) (news' : List (Addr × Obj)) : Prop
  | mk (e : g = G) (h1 : m' "book" = some (.ref d)) (h2 : m' "pile" = some (.ref P9)) (its : Array Value) (n1 : Nat) (od1 : Obj) (kvs1 : List (Str × Value)) (ks segs : List (List Wd)) (new : List (Addr × Obj)) (e2 : news' = (P9, accO D9 its n1) :: (d, od1) :: (new ++ old)) (h3 : od1.IsDictOf (strKind PW w) kvs1)
      (h4 : Pile w W (new ++ pre) its kvs1 segs ks) (h5 : segs.flatten = ws.take i) (h6 : ∀ x ∈ ws.take i, [x] ∈ ks) (h7 : ∀ g ∈ known, g ∈ ks) (h8 : kvs1.length + segs.length ≤ kn + 2 * i) (h9 : (D9, accD hs9 tk9 head th) ∈ new) (h10 : ∀ x ∈ new, x.1 ≠ P9 ∧ AllLt x.1 ((d, od) :: old)) : FInv w W ws known pre old d P9 D9 od hs9 tk9 head th kn G i g m' news'
/-- what holds ahead of a turn of the inner loop -/
inductive XInv (w : World) (W ws : List Wd) (known : List (List Wd)) (pre old : List (Addr × Obj)) (d P9 D9 it : Addr) (od oi : Obj) (hs9 : Int) (tk9 : Tok) (head : Int) (th : Tok) (kn i : Nat) (g1 : Heap) (L1 : Addr) (s : Shared) (n : Nat) (s₁ : Shared) : Prop
  | mk (h : Heap) (tk : Tok) (m₂ : Str → Option Value) (its' : Array Value) (n' : Nat) (od2 : Obj) (kvs2 : List (Str × Value)) (ks2 segs2 : List (List Wd)) (tl : Option (List Wd)) (b : List Wd) (new2 : List (Addr × Obj)) (tm tt : Tok) (e : s₁ = { s with heap := h, toks := tk }) (F : Fr g1 L1 h m₂) (N : News g1 L1 h ((P9, accO D9 its' n') :: (d, od2) :: (it, oi) :: (new2 ++ old)))
      (h1 : m₂ "book" = some (.ref d)) (h2 : m₂ "pile" = some (.ref P9)) (h3 : ∃ tb, m₂ "block" = some (.str (blk b) tb)) (h4 : ∃ tw, m₂ "white" = some (.str (mark b) tw)) (h5 : m₂ "mark" = some (.str (tmk tl) tm)) (h6 : m₂ "top" = some (.str (ttx tl) tt)) (h7 : od2.IsDictOf (strKind PW w) kvs2)
      (h8 : WSt w W ws known i kn (new2 ++ pre) its' kvs2 segs2 ks2 tl b n) (h9 : (D9, accD hs9 tk9 head th) ∈ new2) (h10 : ∀ z ∈ new2, z.1 ≠ P9 ∧ AllLt z.1 ((d, od) :: old) ∧ z.1 ≠ d ∧ z.1 ≠ it) : XInv w W ws known pre old d P9 D9 it od oi hs9 tk9 head th kn i g1 L1 s n s₁
inductive BlocksPost (w : World) (W ws : List Wd) (known : List (List Wd)) (pre : List (Addr × Obj)) (N0 : Nat) (v : Value) (oP' : Obj) (post : List (Addr × Obj)) : Prop
  | mk (l : Addr) (its : Array Value) (segs ks : List (List Wd)) (kvs' : List (Str × Value)) (h : v = .ref l) (hm : (l, listOf its 0) ∈ post) (hd : oP'.IsDictOf (strKind PW w) kvs') (hp : Pile w W (post ++ pre) its kvs' segs ks)
      (hf : segs.flatten = ws) (h1 : ∀ x ∈ ws, [x] ∈ ks) (h2 : ∀ g ∈ known, g ∈ ks) (h3 : kvs'.length ≤ N0 + 8) : BlocksPost w W ws known pre N0 v oP' post
theorem blocks_spec {w : World} {W ws : List Wd} {known : List (List Wd)} {r d : Addr} {items : Array Value} {n : Nat} {od : Obj} {kvs : List (Str × Value)} {head : Int} {th : Tok}
    (hW : Proper W) (hws : ∀ x ∈ ws, x ∈ W) (hnd : ws.Nodup) (hlen : ws.length ≤ 4) (hod : od.IsDictOf (strKind PW w) kvs) (pre : List (Addr × Obj)) (hrow : Al (IsWord pre) items.toList ws) (hkn : Known w pre kvs known) (hok : ∀ g ∈ known, OkB W g) (hsz : kvs.length ≤ 100) :
    SpecM w 780 1900 (.ref 182) [.ref r, .ref d, .int head th] d od ((r, listOf items n) :: pre) (BlocksPost w W ws known pre kvs.length) := by
  intro p loose mean mg mb gd A₀ cn cs a ccd cl outer base h₀ L m s Q E R hk B F X N T hnp ret
  simp only [List.cons_append, List.nil_append] at N hnp
  refine wpAny_call ?_
  k_dflt cell_enter
  rename_i g1 L1 hh1 FG1 FF1 NN1 B1 XX1 T1
  refine hide_post fun QQ EE hQQ hEE => ?_
  k_steps
  unfold Hold
  rename Fr _ _ _ _ => F3
  rename News _ _ _ _ => N3
  rename_i P9 D9 hs9 tk9 hl9 hd9 _
  generalize hold : (r, listOf items n) :: (pre ++ R) = old at *
  have hpo : ∀ q ∈ pre, q ∈ old := by rw [← hold]; exact fun q hq => .tail _ (List.mem_append_left _ hq)
  have hRo : ∀ q ∈ R, q ∈ old := by rw [← hold]; exact fun q hq => .tail _ (List.mem_append_right _ hq)
  have mpo : ∀ (nn : List (Addr × Obj)), ∀ q ∈ nn ++ pre, q ∈ nn ++ old := fun nn q hq => by
    rcases List.mem_append.mp hq with hq | hq
    · exact List.mem_append_left _ hq
    · exact List.mem_append_right _ (hpo q hq)
  have hPD : P9 ≠ d ∧ (∀ p ∈ old, p.1 ≠ P9) := by
    have hP := lt_of_all (hl9 _ (.head _))
    exact ⟨Nat.ne_of_gt (hP _ (.head _)), fun q hq => Nat.ne_of_lt (hP q (.tail _ hq))⟩
  have hDP : D9 ≠ P9 := by
    have hd := (List.nodup_cons.mp hd9).1
    simp only [List.map_cons, List.map_nil, List.mem_singleton] at hd
    exact Ne.symm hd
  have hDL : AllLt D9 ((d, od) :: old) := hl9 _ (.tail _ (.head _))
  have hro : (r, listOf items n) ∈ old := by rw [← hold]; exact .head _
  have N4 : News g1 L1 _ ((P9, accO D9 #[] 0) :: (d, od) :: ([(D9, accD hs9 tk9 head th)] ++ old)) := sub N3 (by walk_at "Mine.sub")
  refine for_listG (items := items) (FInv w W ws known pre old d P9 D9 od hs9 tk9 head th kvs.length s.gens) rfl (.inl ⟨n, .tail _ (.tail _ (List.mem_append_right _ hro))⟩) F3 N4 ?_ ?_ ?_ ?_
  · rintro i g m' n' ⟨_, _, _, _, _, _, _, _, _, _, rfl, _⟩
    exact .inl ⟨n, .tail _ (.tail _ (List.mem_append_right _ hro))⟩
  · refine ⟨rfl, rfl, rfl, #[], 0, od, kvs, known, [], [(D9, accD hs9 tk9 head th)], rfl, hod, ⟨Al.nil, (fun _ h => nomatch h), trivial, hkn.mono (fun q hq => List.mem_append_right _ hq), hok, (fun _ h => nomatch h)⟩, rfl, (fun x hx => by simp at hx), (fun g hg => hg), by simp, .head _, fun z hz => ?_⟩
    rw [List.mem_singleton.mp hz]
    exact ⟨hDP, hDL⟩
  · intro i v g m₁ news₁ it oi h tk hv zzp10 F1 N1 hit TT hTT hRR
    obtain ⟨rfl, hm1, hm2, its, n1, od1, kvs1, ks, segs, new, rfl, hod1, hpile, hfl, hsing, hknown, hcnt, hD9, hnew⟩ := zzp10
    have F2 := knows [("book", .ref d), ("pile", .ref P9)] F1 (by simp [hm1, hm2])
    obtain ⟨x, hx, e, t1, t2, t3, t4, t5, rfl, he⟩ := hrow.get (by simpa using hv)
    have hxw := List.mem_of_getElem? hx
    have hxp := hW.pl x (hws x hxw)
    have he' : (e, tupO [.int 1 t1, .int x.sg t2, .int x.pr t3, .int x.pl t4, .str x.tx t5]) ∈ old := by rw [← hold]; simp [he]
    have N2 := up (up N1 (x := (D9, accD hs9 tk9 head th)) (by simp [hD9])) (x := (e, tupO [.int 1 t1, .int x.sg t2, .int x.pr t3, .int x.pl t4, .str x.tx t5])) (by simp [he'])
    have hitP : it ≠ P9 := Ne.symm (hit _ (.head _))
    have hitd : it ≠ d := Ne.symm (hit _ (.tail _ (.head _)))
    have hito : ∀ q ∈ old, q.1 ≠ it := fun q hq => hit q (.tail _ (.tail _ (List.mem_append_right _ hq)))
    have side : ∀ (nn : List (Addr × Obj)) (o2 : Obj), (∀ z ∈ nn, z.1 ≠ P9 ∧ AllLt z.1 ((d, od) :: old) ∧ z.1 ≠ d ∧ z.1 ≠ it) → ∀ q ∈ (d, o2) :: (it, oi) :: (D9, accD hs9 tk9 head th) :: (nn ++ old), q.1 ≠ P9 := by
      intro nn o2 hnn q hq
      rcases List.mem_cons.mp hq with rfl | hq
      · exact hPD.1.symm
      rcases List.mem_cons.mp hq with rfl | hq
      · exact hitP
      rcases List.mem_cons.mp hq with rfl | hq
      · exact hDP
      rcases List.mem_append.mp hq with hq | hq
      · exact (hnn q hq).1
      · exact hPD.2 q hq
    clear F1 F3 N3 N4 N F N1
    dsimp only
    refine unpackN_ F2 N2 (News.isTup N2 (by k_mem)) rfl rfl rfl ?_
    intro h5 F5 N5
    k_steps
    unfold Hold
    clear F2 N2 F5 N5
    rename Fr _ _ _ _ => FF
    rename News _ _ _ _ => NN
    rename_i T7 _ c7 o7 _ lo7 hd70 l71 _ E7 hd7 D7 kX l72
    have hi : i < ws.length := by
      rcases Nat.lt_or_ge i ws.length with h | h
      · exact h
      · rw [List.getElem?_eq_none h] at hx; cases hx
    refine dict_set' FF NN (by k_mem) hod1 (by rw [sizeLine_eq]; omega) fun h8 od8 F8 N8 hd8 => ?_
    have og : OkB W [x] := ⟨by simp, fun y hy => by rw [List.mem_singleton.mp hy]; exact hws x hxw⟩
    have bx : blk [x] = x.tx := s_append_empty _
    rw [← bx] at hd8
    generalize hnew8 : (D7, tupO [.int 1 t1, .int x.sg t2, .int x.pr t3, .int x.pl t4, .ref c7]) :: (c7, E7) :: new = new8 at *
    have hent : EntryAt w (new8 ++ pre) (.ref D7) [x] := by
      rw [← hnew8]
      refine ⟨D7, c7, t1, t2, t3, t4, E7, _, rfl, ?_, ?_, hd7, ⟨rfl, ⟨t3, rfl⟩, trivial⟩, lo7⟩
      · have e1 : sgs [x] = x.sg := by simp [sgs]
        have e2 : prs [x] = x.pr := by simp [prs]
        have e3 : pls [x] = x.pl := by simp [pls]
        rw [e1, e2, e3]; exact .head _
      · exact .tail _ (.head _)
    have hpile8 := (hpile.mono (X' := new8 ++ pre) (fun q hq => by rw [← hnew8]; exact .tail _ (.tail _ hq))).add hW og hent
    have oldsub : ∀ (a : List (Addr × Obj)) (q : Addr × Obj), q ∈ old → q ∈ a ++ old := fun a q hq => List.mem_append_right _ hq
    have hnew8' : ∀ z ∈ new8, z.1 ≠ P9 ∧ AllLt z.1 ((d, od) :: old) ∧ z.1 ≠ d ∧ z.1 ≠ it := by
      rw [← hnew8]
      intro z hz
      have f : ∀ a : Addr, d < a → AllLt a (new ++ old) → AllLt a ((d, od) :: old) := fun a h1 h2 => ⟨h1, allLt_up h2 (oldsub new)⟩
      rcases List.mem_cons.mp hz with rfl | hz
      · have z1 := l72.2.2.2.2
        exact ⟨Nat.ne_of_gt z1.2.1, f _ z1.2.2.1 z1.2.2.2, Nat.ne_of_gt z1.2.2.1, Nat.ne_of_gt z1.1⟩
      rcases List.mem_cons.mp hz with rfl | hz
      · have z1 := l71.2.2.2
        exact ⟨Nat.ne_of_gt z1.2.1, f _ z1.2.2.1 z1.2.2.2, Nat.ne_of_gt z1.2.2.1, Nat.ne_of_gt z1.1⟩
      · exact ⟨(hnew z hz).1, (hnew z hz).2, Nat.ne_of_gt (hnew z hz).2.1, hit z (.tail _ (.tail _ (List.mem_append_left _ hz)))⟩
    clear hpile
    have N10 : News _ _ h8 ((P9, accO D9 its n1) :: (d, od8) :: (it, oi) :: (D9, accD hs9 tk9 head th) :: (new8 ++ old)) := sub (N8 ((P9, accO D9 its n1) :: (it, oi) :: (D9, accD hs9 tk9 head th) :: (new8 ++ old)) (by
      intro q hq
      simp only [List.mem_cons, List.mem_append] at hq
      rcases hq with rfl | rfl | rfl | hq | hq
      · exact ⟨by simp, hPD.1⟩
      · exact ⟨by simp, hitd⟩
      · exact ⟨by simp, Nat.ne_of_gt hDL.1⟩
      · refine ⟨?_, (hnew8' q hq).2.2.1⟩
        rw [← hnew8] at hq
        exact (by walk_at "Mine.sub" : ∀ q ∈ (_ : List (Addr × Obj)), q ∈ _) q hq
      · exact ⟨by simp [hq], hnp q hq⟩)) (by walk_at "Mine.sub")
    have hne10 := side new8 od8 hnew8'
    clear N8 NN FF
    k_steps
    unfold Hold
    refine' SpecM.use (pop_specU (D := D9) (hs := hs9) (tk := tk9) (head := head) (th := th) (n := n1) hpile8 (by omega)) ?zzB ?zzF ?zzX ?zzN ?zzT rfl rfl ?zzd ?zzu rfl ?zzhe hne10 ?zzret
    case zzB => assumption
    case zzF => assumption
    case zzX => assumption
    case zzN => assumption
    case zzT => assumption
    case zzd => exact Nat.le_of_ble_eq_true rfl
    case zzu => exact Nat.le_of_ble_eq_true rfl
    case zzhe => exact mc (.tail _ (.tail _ (.head _))) (fun q hq => .tail _ (.tail _ (.tail _ (mpo _ q hq))))
    intro v9 oP9 post9 h9 tkk zzp5 hl9' F9 N9
    obtain ⟨T9, t91, t92, ys, n9, segs', tl, rfl, rfl, hT9, rfl, hpile9, htl⟩ := zzp5
    have N11 := up N9 (x := (T9, tupO [.str (tmk tl) t91, .str (ttx tl) t92])) (ma (l2 := new8 ++ pre) (by walk_at "Mine.sub") (fun q hq => (by walk_at "Mine.sub" : ∀ q ∈ new8 ++ old, q ∈ _) q (mpo _ q hq)) _ hT9)
    dsimp only
    clear N10 N9 F8
    k_steps
    unfold Hold
    rename Fr _ _ _ _ => FF
    rename News _ _ _ _ => NN
    have newof : ∀ (a P : Addr) (o1 o2 : Obj) (nn : List (Addr × Obj)), AllLt a ((P9, o1) :: (d, o2) :: (it, oi) :: (D9, accD hs9 tk9 head th) :: (nn ++ old)) → a ≠ P9 ∧ AllLt a ((d, od) :: old) ∧ a ≠ d ∧ a ≠ it := by
      intro a P o1 o2 nn h
      exact ⟨Nat.ne_of_gt h.1, ⟨h.2.1, allLt_up h.2.2.2.2 (oldsub nn)⟩, Nat.ne_of_gt h.2.1, Nat.ne_of_gt h.2.2.1⟩
    have hpost9 : ∀ z ∈ post9, z.1 ≠ P9 ∧ AllLt z.1 ((d, od) :: old) ∧ z.1 ≠ d ∧ z.1 ≠ it := fun z hz => newof _ P9 _ _ _ (hl9' z hz)
    refine While_hold (XInv w W ws known pre old d P9 D9 it od oi hs9 tk9 head th kvs.length i g1 L1 s) (segs'.length + tl.toList.length) ?_ ?_
    · have hX : ∀ q ∈ new8 ++ pre, q ∈ (post9 ++ new8) ++ pre := fun q hq => by
        rw [List.append_assoc]; exact List.mem_append_right _ hq
      have hfx : ([[x]] : List (List Wd)).flatten = [x] := rfl
      have htake : ws.take (i + 1) = ws.take i ++ [x] := take_one hx
      refine ⟨_, _, _, ys, n9, od8, _, [x] :: ks, segs', tl, [x], post9 ++ new8, _, _, rfl, FF, ?_, rfl, rfl, ⟨_, congrArg (fun z => some (Value.str z _)) bx.symm⟩, ⟨_, rfl⟩, rfl, rfl, hd8, ⟨hpile9.mono hX, ?_, ?_, fun g hg => .tail _ (hknown g hg), ?_, htl, hpile8.falls, ?_, rfl⟩, ?_, ?_⟩
      · exact sub NN (by walk_at "Mine.sub")
      · rw [List.flatten_append, hfl, hfx, htake]
      · rw [htake]
        intro y hy
        rcases List.mem_append.mp hy with hy | hy
        · exact .tail _ (hsing y hy)
        · rw [List.mem_singleton.mp hy]; exact .head _
      · intro g hg
        rcases List.mem_append.mp hg with hg | hg
        · exact ⟨(hpile8.good g (List.mem_append_right _ hg)).1, (hpile8.good g (List.mem_append_right _ hg)).2, hpile8.sub g (List.mem_append_right _ hg)⟩
        · rw [List.mem_singleton.mp hg]; exact ⟨og, good_one x, .head _⟩
      · have := @stored_length kvs1 (blk [x]) (.ref D7)
        rw [List.length_append] at hcnt
        omega
      · rw [← hnew8]; simp [hD9]
      · intro z hz
        rcases List.mem_append.mp hz with hz | hz
        · exact hpost9 z hz
        · exact hnew8' z hz
    · intro n9 s₁ zzp2 T2 D2 hT2 hR2 hD2
      obtain ⟨h, tk, m₂, its', n', od2, kvs2, ks2, segs2, tl, b, new2, tm, tt, rfl, Fw, Nw, hm1, hm2, ⟨tb, hm3⟩, ⟨tw, hm4⟩, hm5, hm6, hod2, wst, hD92, hnew2⟩ := zzp2
      replace Nw := up Nw (x := (D9, accD hs9 tk9 head th)) (by simp [hD92])
      clear FF NN
      cases tl with
      | none =>
        have F2 := knows [("book", .ref d), ("pile", .ref P9), ("block", .str (blk b) tb), ("white", .str (mark b) tw), ("mark", .str "" tm), ("top", .str "" tt)] Fw (by simp [hm1, hm2, hm3, hm4, hm5, hm6, tmk, ttx])
        clear Fw
        k_steps
        unfold Hold
        refine ⟨(fun h => nomatch h), fun _ => hD2 _ ?_⟩
        k_steps
        unfold Hold
        rename Fr _ _ _ _ => FF
        rename News _ _ _ _ => NN
        have N12 : News g1 L1 _ ((P9, accO D9 its' n') :: (d, od2) :: (it, oi) :: (D9, accD hs9 tk9 head th) :: (new2 ++ old)) := sub NN (by walk_at "Mine.sub")
        have szi : its'.size ≤ 1000 := by
          have := wst.pile.its.1; have := wst.cnt; simp at this; simp at *; omega
        refine' SpecM.use (push_spec (D := D9) (hs := hs9) (tk := tk9) (head := head) (th := th) (n := n') (its := its') (by rw [sizeLine_eq]; omega)) ?zzB2 ?zzF2 ?zzX2 ?zzN2 ?zzT2 rfl rfl ?zzd2 ?zzu2 rfl ?zzhe2 (side new2 od2 hnew2) ?zzret2
        case zzB2 => assumption
        case zzF2 => assumption
        case zzX2 => assumption
        case zzN2 => assumption
        case zzT2 => assumption
        case zzd2 => exact Nat.le_of_ble_eq_true rfl
        case zzu2 => exact Nat.le_of_ble_eq_true rfl
        case zzhe2 => exact fun q hq => by rw [List.mem_singleton.mp hq]; exact .tail _ (.tail _ (.head _))
        intro v9 oP9 post9 h9 tkk zzp5 hlp F13 N13
        obtain ⟨rfl, Tp, rfl, rfl⟩ := zzp5
        have hTp := newof _ P9 _ _ _ (hlp _ (.head _))
        clear FF NN N12
        dsimp only
        k_steps
        obtain ⟨q1, q2, q3⟩ := (wst.mono (X' := ((Tp, tupO [.str (mark b) tw, .str (blk b) tb]) :: new2) ++ pre) (fun q hq => .tail _ hq)).push0 (x := .ref Tp) ⟨Tp, _, _, rfl, .head _⟩
        refine hTT _ _ _ _ ((P9, accO D9 (its'.push (.ref Tp)) (n' + 1)) :: (d, od2) :: (((Tp, tupO [.str (mark b) tw, .str (blk b) tb]) :: new2) ++ old)) F13 (sub N13 (by walk_at "Mine.sub")) (fun q hq => ?_) ⟨rfl, rfl, rfl, _, _, od2, kvs2, ks2, [b], (Tp, tupO [.str (mark b) tw, .str (blk b) tb]) :: new2, rfl, hod2, q1, q2, wst.sing, wst.kn, q3, .tail _ hD92, fun z hz => ?_⟩
        · rcases List.mem_cons.mp hq with rfl | hq
          · exact hitP.symm
          rcases List.mem_cons.mp hq with rfl | hq
          · exact hitd.symm
          rcases List.mem_append.mp hq with hq | hq
          · rcases List.mem_cons.mp hq with rfl | hq
            · exact hTp.2.2.2
            · exact (hnew2 q hq).2.2.2
          · exact hito q hq
        · rcases List.mem_cons.mp hz with rfl | hz
          · exact ⟨hTp.1, hTp.2.1⟩
          · exact ⟨(hnew2 z hz).1, (hnew2 z hz).2.1⟩
      | some t => 
        have F2 := knows [("book", .ref d), ("pile", .ref P9), ("block", .str (blk b) tb), ("white", .str (mark b) tw), ("mark", .str (mark t) tm), ("top", .str (blk t) tt)] Fw (by simp [hm1, hm2, hm3, hm4, hm5, hm6, tmk, ttx])
        have hbok := wst.ok b (by simp)
        have htok := wst.ok t (by simp)
        have hmk := mark_ne hW htok.1
        have sk1 := strOk_mark hW htok.1
        have sk2 := strOk_blk hW htok.1
        have sk3 : PyData.strOk (Str.ofString "") = true := by decide +kernel
        obtain ⟨vb, hvb, eb, cb, sb1, sb2, sb3, sb4, ocb, kvb, rfl, heb, hcb, hob, hib, hsb⟩ := wst.pile.known b hbok.2.2
        obtain ⟨vt, hvt, et, ct, st1, st2, st3, st4, oct, kvt, rfl, het, hct, hot, hit', hst⟩ := wst.pile.known t htok.2.2
        replace Nw := up Nw (x := (eb, tupO [.int b.length sb1, .int (sgs b) sb2, .int (prs b) sb3, .int (pls b) sb4, .ref cb])) (.tail _ (.tail _ (.tail _ (.tail _ (mpo _ _ heb)))))
        replace Nw := up Nw (x := (cb, ocb)) (.tail _ (.tail _ (.tail _ (.tail _ (.tail _ (mpo _ _ hcb))))))
        replace Nw := up Nw (x := (et, tupO [.int t.length st1, .int (sgs t) st2, .int (prs t) st3, .int (pls t) st4, .ref ct])) (.tail _ (.tail _ (.tail _ (.tail _ (.tail _ (.tail _ (mpo _ _ het)))))))
        replace Nw := up Nw (x := (ct, oct)) (.tail _ (.tail _ (.tail _ (.tail _ (.tail _ (.tail _ (.tail _ (mpo _ _ hct))))))))
        have hsgb := sgs_bound hW hbok.1 (by have := wst.flat; have := congrArg List.length this; simp at this; omega)
        have hsgt := sgs_bound hW htok.1 (by have := wst.flat; have := congrArg List.length this; simp at this; omega)
        have lb1 := blk_len hW hbok.1
        have lb2 := blk_len hW htok.1
        have lb3 := mark_len hW hbok.1
        have hnk := kvs_nodup hW hnd hws (pfx := segs2.flatten) (t := t) (b := b) (by have := wst.flat; simpa using this) hit' hib
        have hnk1 := hnk.1
        have hnk2 : (kvt ++ kvb).length ≤ 1000 := by have := hnk.2; omega
        have szi : its'.size ≤ 900 := by
          have := wst.pile.its.1; have := wst.cnt; simp at this; simp at *; omega
        clear Fw
        k_steps
        · unfold Hold
          refine ⟨fun _ => ?_, (fun h => nomatch h)⟩
          k_steps
          unfold Hold
          rename_i hverd _ _ _ F91 e9 dn9 on9 v91 v92 v93 v94 hn9 hm9 hl91 hd91 N91 _ _ _ _
          have hbt := okb_append htok.1 hbok.1
          have hkey : blk (t ++ b) = blk t ++ mark b ++ blk b := blk_append htok.1.1 hbok.1.1
          have hcnt2 := wst.cnt
          refine dict_set' F91 N91 (by k_mem) hod2 (by rw [sizeLine_eq]; omega) fun h3 od3 F3 N3 hd3 => ?_
          rw [← hkey] at hd3
          have hl1 := hl91 _ (.head _)
          have hl2 := hl91 _ (.tail _ (.head _))
          generalize hnew3 : (e9, tupO [.int ((t.length : Int) + b.length) v91, .int (sgs t + sgs b) v92, .int (prs t + prs b) v93, .int (pls t + pls b) v94, .ref dn9]) :: (dn9, on9) :: new2 = new3 at *
          have hent3 : EntryAt w (new3 ++ pre) (.ref e9) (t ++ b) := entry_join (v1 := v91) (v2 := v92) (v3 := v93) (v4 := v94) (ws := ws) hW hit' hib (by rw [← hnew3]; exact .head _) (by rw [← hnew3]; exact .tail _ (.head _)) hn9 hm9
          have hpile3 := (wst.pile.mono (X' := new3 ++ pre) (fun q hq => by rw [← hnew3]; exact .tail _ (.tail _ hq))).add hW hbt hent3
          have newof3 : ∀ a : Addr, AllLt a ((D9, accD hs9 tk9 head th) :: (P9, accO D9 its' n') :: (d, od2) :: (it, oi) :: (new2 ++ old)) → a ≠ P9 ∧ AllLt a ((d, od) :: old) ∧ a ≠ d ∧ a ≠ it := fun a h =>
            ⟨Nat.ne_of_gt h.2.1, ⟨h.2.2.1, allLt_up h.2.2.2.2 (oldsub new2)⟩, Nat.ne_of_gt h.2.2.1, Nat.ne_of_gt h.2.2.2.1⟩
          have hnew3' : ∀ z ∈ new3, z.1 ≠ P9 ∧ AllLt z.1 ((d, od) :: old) ∧ z.1 ≠ d ∧ z.1 ≠ it := by
            rw [← hnew3]
            intro z hz
            rcases List.mem_cons.mp hz with rfl | hz
            · exact newof3 _ hl1.2.2.2.2.2.2
            rcases List.mem_cons.mp hz with rfl | hz
            · exact newof3 _ hl2.2.2.2.2.2.2
            · exact hnew2 z hz
          have N32 : News g1 L1 h3 ((P9, accO D9 its' n') :: (d, od3) :: (it, oi) :: (D9, accD hs9 tk9 head th) :: (new3 ++ old)) := sub (N3 ((P9, accO D9 its' n') :: (it, oi) :: (D9, accD hs9 tk9 head th) :: (new3 ++ old)) (by
            intro q hq
            simp only [List.mem_cons, List.mem_append] at hq
            rcases hq with rfl | rfl | rfl | hq | hq
            · exact ⟨by simp, hPD.1⟩
            · exact ⟨by simp, hitd⟩
            · exact ⟨by simp, Nat.ne_of_gt hDL.1⟩
            · refine ⟨?_, (hnew3' q hq).2.2.1⟩
              rw [← hnew3] at hq
              revert q; walk_at "Mine.sub"
            · exact ⟨by simp [hq], hnp q hq⟩)) (by walk_at "Mine.sub")
          clear N3 N91 F91
          k_steps
          unfold Hold
          rename News _ _ _ _ => NN
          have N33 : News g1 L1 _ ((P9, accO D9 its' n') :: (d, od3) :: (it, oi) :: (D9, accD hs9 tk9 head th) :: (new3 ++ old)) := sub NN (by walk_at "Mine.sub")
          clear NN
          refine' SpecM.use (pop_specU (D := D9) (hs := hs9) (tk := tk9) (head := head) (th := th) (n := n') hpile3 (by omega)) ?zzB3 ?zzF3 ?zzX3 ?zzN3 ?zzT3 rfl rfl ?zzd3 ?zzu3 rfl ?zzhe3 (side new3 od3 hnew3') ?zzret3
          case zzB3 => assumption
          case zzF3 => assumption
          case zzX3 => assumption
          case zzN3 => assumption
          case zzT3 => assumption
          case zzd3 => exact Nat.le_of_ble_eq_true rfl
          case zzu3 => exact Nat.le_of_ble_eq_true rfl
          case zzhe3 => exact mc (.tail _ (.tail _ (.head _))) (fun q hq => .tail _ (.tail _ (.tail _ (mpo _ q hq))))
          intro v4 oP4 post4 h4 tkk4 zzp5 hl4 F4 N4
          obtain ⟨T4, t41, t42, ys4, n4, segs4, tl4, rfl, rfl, hT4, hseg4, hpile4, htl4⟩ := zzp5
          have N41 := up N4 (x := (T4, tupO [.str (tmk tl4) t41, .str (ttx tl4) t42])) (ma (l2 := new3 ++ pre) (by walk_at "Mine.sub") (fun q hq => (by walk_at "Mine.sub" : ∀ q ∈ new3 ++ old, q ∈ _) q (mpo _ q hq)) _ hT4)
          dsimp only
          clear N33 N4
          k_steps
          rename Fr _ _ _ _ => FF
          rename News _ _ _ _ => NN
          have hX : ∀ q ∈ new3 ++ pre, q ∈ (post4 ++ new3) ++ pre := fun q hq => by
            rw [List.append_assoc]; exact List.mem_append_right _ hq
          obtain ⟨q1, q2⟩ := (wst.mono (X' := new3 ++ pre) (fun q hq => by rw [← hnew3]; exact .tail _ (.tail _ hq))).join hW (verd_lt (by assumption)) hseg4 hpile4 htl4
          refine hT2 _ _ q2 ⟨_, _, _, ys4, n4, od3, _, (t ++ b) :: ks2, segs4, tl4, t ++ b, post4 ++ new3, _, _, rfl, FF, sub NN (by walk_at "Mine.sub"), rfl, rfl, ?_, ?_, rfl, rfl, hd3, q1.mono hX, ?_, fun z hz => ?_⟩
          · exact ⟨_, by rw [hkey]; rfl⟩
          · exact ⟨_, by rw [mark_append htok.1.1]; rfl⟩
          · rw [← hnew3]; simp [hD92]
          · rcases List.mem_append.mp hz with hz | hz
            · exact newof _ P9 _ _ _ (hl4 z hz)
            · exact hnew3' z hz
        · unfold Hold
          refine ⟨(fun h => nomatch h), fun _ => hD2 _ ?_⟩
          k_steps
          unfold Hold
          rename News _ _ _ _ => NN
          have N12 : News g1 L1 _ ((P9, accO D9 its' n') :: (d, od2) :: (it, oi) :: (D9, accD hs9 tk9 head th) :: (new2 ++ old)) := sub NN (by walk_at "Mine.sub")
          clear NN
          refine' SpecM.use (push_spec (D := D9) (hs := hs9) (tk := tk9) (head := head) (th := th) (n := n') (its := its') (by rw [sizeLine_eq]; omega)) ?zzB5 ?zzF5 ?zzX5 ?zzN5 ?zzT5 rfl rfl ?zzd5 ?zzu5 rfl ?zzhe5 (side new2 od2 hnew2) ?zzret5
          case zzB5 => assumption
          case zzF5 => assumption
          case zzX5 => assumption
          case zzN5 => assumption
          case zzT5 => assumption
          case zzd5 => exact Nat.le_of_ble_eq_true rfl
          case zzu5 => exact Nat.le_of_ble_eq_true rfl
          case zzhe5 => exact fun q hq => by rw [List.mem_singleton.mp hq]; exact .tail _ (.tail _ (.head _))
          intro v9 oP9 post9 h9 tkk zzp5 hlp F13 N13
          obtain ⟨rfl, Tp, rfl, rfl⟩ := zzp5
          have hTp := newof _ P9 _ _ _ (hlp _ (.head _))
          clear N12
          have hnewp : ∀ z ∈ (Tp, tupO [.str (mark t) tm, .str (blk t) tt]) :: new2, z.1 ≠ P9 ∧ AllLt z.1 ((d, od) :: old) ∧ z.1 ≠ d ∧ z.1 ≠ it := fun z hz => by
            rcases List.mem_cons.mp hz with rfl | hz
            · exact hTp
            · exact hnew2 z hz
          have N14 : News g1 L1 _ ((P9, accO D9 (its'.push (.ref Tp)) (n' + 1)) :: (d, od2) :: (it, oi) :: (D9, accD hs9 tk9 head th) :: (((Tp, tupO [.str (mark t) tm, .str (blk t) tt]) :: new2) ++ old)) := sub N13 (by walk_at "Mine.sub")
          clear N13
          dsimp only
          k_steps
          unfold Hold
          refine' SpecM.use (push_spec (D := D9) (hs := hs9) (tk := tk9) (head := head) (th := th) (n := n' + 1) (its := its'.push (.ref Tp)) (by rw [sizeLine_eq, Array.size_push]; omega)) ?zzB6 ?zzF6 ?zzX6 ?zzN6 ?zzT6 rfl rfl ?zzd6 ?zzu6 rfl ?zzhe6 (side _ od2 hnewp) ?zzret6
          case zzB6 => assumption
          case zzF6 => assumption
          case zzX6 => assumption
          case zzN6 => assumption
          case zzT6 => assumption
          case zzd6 => exact Nat.le_of_ble_eq_true rfl
          case zzu6 => exact Nat.le_of_ble_eq_true rfl
          case zzhe6 => exact fun q hq => by rw [List.mem_singleton.mp hq]; exact .tail _ (.tail _ (.head _))
          intro v9 oP9 post9 h9 tkk zzp5 hlq F16 N16
          obtain ⟨rfl, Tq, rfl, rfl⟩ := zzp5
          have hTq := newof _ P9 _ _ _ (hlq _ (.head _))
          clear N14
          dsimp only
          k_steps
          generalize hnew3 : (Tq, tupO [.str (mark b) tw, .str (blk b) tb]) :: (Tp, tupO [.str (mark t) tm, .str (blk t) tt]) :: new2 = new3 at *
          have hT1 : (Tq, tupO [.str (mark b) tw, .str (blk b) tb]) ∈ new3 := by rw [← hnew3]; exact .head _
          have hT2 : (Tp, tupO [.str (mark t) tm, .str (blk t) tt]) ∈ new3 := by rw [← hnew3]; exact .tail _ (.head _)
          have hnew3' : ∀ z ∈ new3, z.1 ≠ P9 ∧ AllLt z.1 ((d, od) :: old) ∧ z.1 ≠ d ∧ z.1 ≠ it := fun z hz => by
            rw [← hnew3] at hz
            rcases List.mem_cons.mp hz with rfl | hz
            · exact hTq
            · exact hnewp z hz
          obtain ⟨q1, q2, q3⟩ := (wst.mono (X' := new3 ++ pre) (fun q hq => by rw [← hnew3]; exact .tail _ (.tail _ hq))).push1 (verd_ge (by assumption)) (x := .ref Tp) (y := .ref Tq) ⟨Tp, _, _, rfl, List.mem_append_left _ hT2⟩ ⟨Tq, _, _, rfl, List.mem_append_left _ hT1⟩
          have N17 : News g1 L1 h9 ((it, oi) :: (P9, accO D9 ((its'.push (.ref Tp)).push (.ref Tq)) (n' + 1 + 1)) :: (d, od2) :: (new3 ++ old)) := by
            rw [← hnew3]
            exact sub N16 (by walk_at "Mine.sub")
          refine hTT _ _ _ _ ((P9, accO D9 ((its'.push (.ref Tp)).push (.ref Tq)) (n' + 1 + 1)) :: (d, od2) :: (new3 ++ old)) F16 N17 (fun q hq => ?_) ⟨rfl, rfl, rfl, _, _, od2, kvs2, ks2, _, new3, rfl, hod2, q1, q2, wst.sing, wst.kn, q3, ?_, fun z hz => ⟨(hnew3' z hz).1, (hnew3' z hz).2.1⟩⟩
          · rcases List.mem_cons.mp hq with rfl | hq
            · exact hitP.symm
            rcases List.mem_cons.mp hq with rfl | hq
            · exact hitd.symm
            rcases List.mem_append.mp hq with hq | hq
            · exact (hnew3' q hq).2.2.2
            · exact hito q hq
          · rw [← hnew3]; exact .tail _ (.tail _ hD92)
  · intro g m₁ news₁ h tk zzp5 F1 N1
    obtain ⟨rfl, hm1, hm2, its, n1, od1, kvs1, ks, segs, new, rfl, hod1, hpile, hfl, hsing, hknown, hcnt, hD9, hnew⟩ := zzp5
    have hil : items.size = ws.length := by have := hrow.1; simpa using this
    rw [hil, List.take_length] at hfl hsing
    have F2 := knows [("book", .ref d), ("pile", .ref P9)] F1 (by simp [hm1, hm2])
    clear F1
    have N2 : News g1 L1 h ((P9, accO D9 its n1) :: (d, od1) :: (D9, accD hs9 tk9 head th) :: (new ++ old)) := sub N1 (by walk_at "Mine.sub")
    clear N1 F3 N3 N4
    dsimp only
    k_steps
    unfold Hold
    dsimp only [List.append_nil]
    have hsz9 : its.size ≤ 1000 := by have := hpile.its.1; simp at this; omega
    refine' SpecM.use (pop_from_spec (D := D9) (hs := hs9) (tk0 := tk9) (head := head) (th := th) (n := n1) (its := its) (by omega)) ?zzB7 ?zzF7 ?zzX7 ?zzN7 ?zzT7 rfl rfl ?zzd7 ?zzu7 rfl ?zzhe7 ?zzne7 ?zzret7
    case zzB7 => assumption
    case zzF7 => assumption
    case zzX7 => assumption
    case zzN7 => assumption
    case zzT7 => assumption
    case zzd7 => exact Nat.le_of_ble_eq_true rfl
    case zzu7 => exact Nat.le_of_ble_eq_true rfl
    case zzhe7 => exact fun q hq => by rw [List.mem_singleton.mp hq]; exact .tail _ (.head _)
    case zzne7 =>
      intro q hq
      rcases List.mem_cons.mp hq with rfl | hq
      · exact hPD.1.symm
      rcases List.mem_cons.mp hq with rfl | hq
      · exact hDP
      rcases List.mem_append.mp hq with hq | hq
      · exact (hnew q hq).1
      · exact hPD.2 q hq
    intro v9 oP9 post9 h9 tkk zzp5 hlp F13 N13
    obtain ⟨l9, n9, rfl, rfl, rfl⟩ := zzp5
    dsimp only
    k_steps
    refine hQQ _ _ ?_
    k_steps
    rename Fr _ _ _ _ => FF
    rename News _ _ _ _ => NN
    have hll := hlp _ (.head _)
    refine ret _ od1 ((l9, listOf its 0) :: new) _ _ ⟨l9, its, segs, ks, kvs1, rfl, .head _, hod1, hpile.mono (fun q hq => .tail _ hq), hfl, hsing, hknown, by omega⟩ (fun z hz => ?_) FF (sub NN fun q hq => ?_)
    · rcases List.mem_cons.mp hz with rfl | hz
      · exact ⟨hll.2.1, allLt_up hll.2.2.2 fun q hq => List.mem_append_right _ (hRo q hq)⟩
      · exact allLt_up (hnew z hz).2 (mc (.head _) (md hRo))
    · rcases List.mem_cons.mp hq with rfl | hq
      · walk_at "Mine.mem"
      rcases List.mem_cons.mp hq with rfl | hq
      · walk_at "Mine.mem"
      rcases List.mem_append.mp hq with hq | hq
      · exact (by walk_at "Mine.sub" : ∀ q ∈ new ++ old, q ∈ _) q (List.mem_append_left _ hq)
      · exact (by walk_at "Mine.sub" : ∀ q ∈ new ++ old, q ∈ _) q (List.mem_append_right _ (hRo q hq))
end Mine

end
/- G1 -/
section

open PySem PySem.W PyProof.Rows PySem.Calls PySem.Spec Builtin
set_option maxHeartbeats 8000000
namespace Mine
/-- the law's end: generators may have run -/
def LawEnd (cw : ClaimW) (cl : Str → Option Addr) (mean : ExcName → Option Value) (args : List WData) (s₁ : Shared) (tabs : List (Addr × Addr)) (r : Result) (s' : Shared) : Prop :=
  (∃ v d as, r = .ok (.ret v) ∧ (∀ cls, cw.raises args cls = false) ∧ ReadsW cw.records cl s'.heap v d as ∧ cw.post args d args = true ∧ (cw.unshared = true → as.Nodup ∧ ∀ a ∈ as, (ghostOf s₁.heap tabs).get? a = none)) ∧
  (∀ b o, (ghostOf s₁.heap tabs).get? b = some o → s'.heap.get? b = some o) ∧ s'.os = s₁.os ∧ AllBare s'.gens ∧ GrownAll tabs s'.heap
theorem law_post {M : Model} {A : Around} {cd : Code} {s s₁ : Shared} {cw : ClaimW} {cl : Str → Option Addr} {mean : ExcName → Option Value} {args : List WData} {tabs : List (Addr × Addr)} (hT : TabsAt tabs s₁.heap)
    (h : codeAny M A cd (LawEnd cw cl mean args s₁ tabs) s) : codeAny M A cd (GoodWG cw cl mean args s₁) s :=
  codeAny_mono h fun r s' ⟨hc, hk, hos, hg, hgr⟩ => by
    have keep : ∀ b o, b ∉ tabs.map (·.2) → s₁.heap.get? b = some o → s'.heap.get? b = some o := fun b o hb e => hk b o (ghost_ne e hb)
    have grown : ∀ b o, b ∈ tabs.map (·.2) → s₁.heap.get? b = some o → isCodeTable s₁.heap b ∧ o = tabObj #[] ∧ ∃ ps, s'.heap.get? b = some (tabObj ps) := fun b o hb e => by
      obtain ⟨q, hq, rfl⟩ := List.mem_map.mp hb
      have e2 := (hT q hq).2
      rw [e] at e2
      exact ⟨((hT q hq).1.tab (hT q hq).2).isCodeTable, Option.some.inj e2, hgr.get q hq⟩
    refine ⟨?_, ⟨fun b o e => ?_, fun b o e => ?_⟩, hos, hg⟩
    · obtain ⟨v, d, as, r1, r2, r3, r4, r5⟩ := hc
      refine .inl ⟨v, d, as, r1, r2, r3, r4, fun q => ⟨(r5 q).1, fun a ha => ?_⟩⟩
      cases q1 : s₁.heap.get? a with
      | none => rfl
      | some o =>
        by_cases hb : a ∈ tabs.map (·.2)
        · obtain ⟨_, _, ps, hP⟩ := grown a o hb q1
          exact absurd ha (readsW_apart hP rfl r3)
        · have e3 := (r5 q).2 a ha
          rw [show (ghostOf s₁.heap tabs).get? a = some o from ghost_ne q1 hb] at e3
          cases e3
    · by_cases hb : b ∈ tabs.map (·.2)
      · obtain ⟨ht, rfl, ps, hP⟩ := grown b o hb e
        exact .inr (.inl ⟨ht, rfl, #[], ps, rfl, by rw [Array.empty_append]; exact hP⟩)
      · exact .inl (keep b o hb e)
    · by_cases hb : b ∈ tabs.map (·.2)
      · obtain ⟨_, _, ps, hP⟩ := grown b o hb e
        exact ⟨_, hP⟩
      · exact ⟨o, keep b o hb e⟩

theorem due_head {h₀ h : Heap} {L a : Addr} {x z : Int} {y : Str} {t1 t2 t3 : Tok} {l : List (Addr × Obj)} (N : News h₀ L h ((a, tupO [.int x t1, .str y t2, .int z t3]) :: l)) :
    ∃ b u1 u2 u3, b = a ∧ News h₀ L h ((b, tupO [.int x u1, .str y u2, .int z u3]) :: l) := ⟨a, t1, t2, t3, rfl, N⟩
theorem obj_ne {h₀ h : Heap} {L a P : Addr} {o : Obj} {ps : Array Value} {l : List (Addr × Obj)} (N : News h₀ L h l) (h1 : (a, o) ∈ l) (h2 : (P, tabObj ps) ∈ l) (hc : Value.none ≠ o.cls) : a ≠ P := fun e => by
  subst e
  have h3 := (N _ h1).1
  have h4 := (N _ h2).1
  dsimp only at h3 h4
  rw [h4] at h3
  exact hc (congrArg Obj.cls (Option.some.inj h3))
theorem line_strOk {W Z : List Wd} {x : Str} (hW : Proper W) (hZ : ∀ x ∈ Z, x ∈ W) (h : cl x = Z.flatMap fun x => 32 :: cl x.tx) : PyData.strOk x = true := strOk_iff.mpr fun c hc => by
  rw [h] at hc
  obtain ⟨y, hy, hc⟩ := List.mem_flatMap.mp hc
  rcases List.mem_cons.mp hc with rfl | hc
  · decide
  · have h1 := hW.ch y (hZ y hy) c hc
    have h2 := hW.pl y (hZ y hy)
    omega
theorem line_same {Z : List Wd} {x Y : Str} (hZ : Z ≠ []) (h : cl x = Z.flatMap fun x => 32 :: cl x.tx) (hY : cl Y = cl (Str.join ⟨#[32]⟩ (Z.map (·.tx)))) : x = Str.ofString " " ++ Y := cl_inj (by
  rw [h, cl_append, hY, join_texts Z hZ, show cl (Str.ofString " ") = [32] by decide +kernel]
  cases Z with
  | nil => exact absurd rfl hZ
  | cons x r => simp)

theorem lines_G1_1 : True := by
  k_with_none
  k_with "call type:range" => ((with_reducible show wpAny _ _ (call _ [Value.int _ _]) _ _ _); k_dflt (apply range1_at; k_asm; k_asm); intro _ _ _ _ _ _ _ l1; (try k_lt l1); revert l1; intro _)
  k_with "subscriptTail" => ((with_reducible show wpAny _ _ (subscriptTail _ _ (Value.ref _) (Value.int _ _)) _ _ _); k_dflt (apply item_at; k_asm; k_mem; assumption; rotate_left; with_unfolding_all rfl; kmk_pure))
  k_with "call ref" => ((with_reducible show wpAny _ _ (call (Value.ref 161) _) _ _ _); k_dflt (apply SpecR.use (word_spec ?_); rotate_left; k_asm; rotate_right; rotate_left 4; exact rfl; rotate_right 4; k_asm; k_asm; k_asm; k_asm; exact rfl; exact Nat.le_of_ble_eq_true rfl; exact Nat.le_of_ble_eq_true rfl; exact rfl; exact List.forall_mem_nil _; any_goals (refine pid ?_; assumption)); intro _ _ _ _ hp9 _ _ _ N9; obtain ⟨_, _, _, _, _, _, e9', e9''⟩ := hp9; subst e9' e9''; (try dsimp only [List.cons_append, List.nil_append] at N9); (try dsimp only); revert N9; intro _)
  k_with "subscriptTail Name Slice ref ref" => ((with_reducible show wpAny _ _ (subscriptTail (PySem.Expr.Name _ _) (PySem.Expr.Slice _ _ none _) (Value.ref _) (Value.ref _)) _ _ _); k_dflt (apply kmk_slice_ints; k_asm; k_asm; exact News.isList (by k_asm) (by k_mem); kmk_part; kmk_part; assumption; exact kmk_upto (by assumption) (by decide); exact List.length_take ..; rotate_left; with_unfolding_all rfl; kmk_pure; (refine kmk_sz (by assumption) ?_; rw [sizeLine_eq, List.length_append, List.length_take]; simp only [List.length_cons, List.length_nil]; omega)); intro _ _ _ _ _ l1 hI' hC' hL'; (try simp only [Int.reduceNeg, Int.neg_neg, Int.reduceToNat] at hI' hC' hL'); (try k_lt l1); revert l1 hI' hC' hL'; intro _ _ _ _)
  k_with "subscriptTail BinOp" => ((with_reducible show wpAny _ _ (subscriptTail (PySem.Expr.BinOp _ _ _ _) (PySem.Expr.Slice _ _ none _) (Value.ref _) (Value.ref _)) _ _ _); k_dflt (refine kba_turn (value' := PySem.Expr.Name (PySem.Str.ofString "_") ⟨0, 0, 0, 0⟩) (fun _ => rfl) ?_))
  k_with "call ref" => ((with_reducible first | show wpAny _ _ (call (Value.ref 182) _) _ _ _ | show wpAny _ _ (call (Value.ref 213) _) _ _ _ | show wpAny _ _ (call (Value.ref 189) _) _ _ _ | show wpAny _ _ (call (Value.ref 208) _) _ _ _ | show wpAny _ _ (call (Value.ref 196) _) _ _ _ | show wpAny _ _ (call (Value.ref 203) _) _ _ _); k_dflt (refine unhold ?_))
  k_with "subscriptTail Name Slice ref ref" => ((with_reducible show wpAny _ _ (subscriptTail _ (PySem.Expr.Slice _ _ (some _) _) (Value.ref _) (Value.ref _)) _ _ _); k_dflt (apply kmk_slice3_lit; k_asm; k_asm; exact News.isList (by k_asm) (by k_mem); kmk_part; kmk_part; kmk_part; decide; (first | exact pick_even | exact pick_odd); rotate_left; with_unfolding_all rfl; kmk_pure; exact Nat.le_of_ble_eq_true rfl); intro _ _ _ _ l1; (try k_lt l1); revert l1; intro _)
  k_with "call builtin:str.join" => ((with_reducible show wpAny _ _ (call (Value.builtin _) [Value.str _ _, Value.ref _]) _ _ _); k_dflt (apply join_at; k_asm; k_mem; assumption; assumption; exact Nat.le_of_ble_eq_true rfl); intro _ _ _ _ _; (try dsimp only))
  k_with "call builtin:str.replace" => (k_dflt (refine unhold ?_))
  k_with "binaryOp Add str str" => ((with_reducible show wpAny _ _ (binaryOp Operator.Add (Value.str _ _) (Value.str _ _)) _ _ _); k_dflt (refine' add_str (hsz := by (rw [sizeLine_eq]; (try rw [slen_append]); omega)) ?_); intro _ _; (try dsimp only))
  k_with "compareOp Eq ref ref" => (k_dflt (refine unhold ?_))
  k_with "eval ListComp" => (k_dflt (refine unhold ?_))
  k_with "exec Assign cons ListComp" => (k_dflt (refine unhold ?_))
  exact trivial
theorem law_holds : PySem.Challenge.rw_pk0049_01.Holds := hd (by
  k_fill
  intro w s₀ s₁ mg mb G Y fa o pm cd doc dV kV ho hd hcd hD hmg hg args vals as hpre hlay hrd hwl hlo
  have KX := km_in_of Y
  have hT8 := km_tabs_of Y
  have X := (Ground.X G).1
  have V := (Ground.X G).2
  refine Ground.open G ?_
  intro T B D TE TW
  try (refine guard_noD D (by decide +kernel) ?_; clear D)
  have hT9 : TabsAt [(67, 63), (74, 70)] _ := List.forall_mem_cons.mpr ⟨⟨codeHd_of_K (c := 67) (P := 63) KX (by kernel_rfl), hT8 63 (by k_mem)⟩, List.forall_mem_cons.mpr ⟨⟨codeHd_of_K (c := 74) (P := 70) KX (by kernel_rfl), hT8 70 (by k_mem)⟩, fun _ h => nomatch h⟩⟩
  clear hmg
  wrow_args hpre hlay hrd hwl hlo
  all_goals (
    first | refine callC_kw (enter_call ?_) | refine enter_call ?_
    w_top on
    refine law_post hT9 ?_
    w_call any ho hd hcd hD T F
    clear hd
    kn_ghosts F T
    k_drop
    skip)
  all_goals try k_fold
  show wpAny (model PySem.Challenge.pw_pk0049_01 w) _ _ _ _ _
  refine hide_post fun QQ EE hQQ hEE => ?_
  k_steps
  unfold Hold
  rename_i Dt wst _ hTk hTc hTl l1t _ oT dT _ _ tkr hh F2 N2
  obtain ⟨ts, h7, hT⟩ := taken_of hTk rfl
  obtain ⟨room, tr, m0, hr0, hr9, F3⟩ := room_of F2 rfl
  have hDtL : Dt ≠ s₁.heap.objs.size + 1 := Nat.ne_of_gt l1t.2.2.2.1
  have N3 := sub (l' := (Dt, listOf wst.toArray 0) :: (s₁.heap.objs.size + 1, oT) :: (63, tabObj #[]) :: (70, tabObj #[]) :: []) N2 (by walk_at "Mine.sub")
  clear F2 N2 hTk hTc hTl
  refine comp_holdA (F₀ := F3) (by rfl) (by with_unfolding_all rfl) (by with_unfolding_all rfl) (by decide) (by rfl) (by decide) (by rfl) (by rfl) (by rfl) ?_ (by intro _; rfl)
  k_steps
  unfold Hold
  rename Fr _ _ _ _ => F4
  rename News _ _ _ _ => N4
  refine LCg.CompSrc.range (n := 7) rfl F4 N4 (News.get N4 (by k_mem)) (range_small (by omega)) (range_size (by omega)) (by rw [sizeLine_eq]; omega) fun gg => ?_
  generalize hb4 : (_, rangeO 0 7 _ _ _) :: (Dt, listOf wst.toArray 0) :: _ = b4 at N4 ⊢
  have hb4t : (Dt, listOf wst.toArray 0) ∈ b4 := by rw [← hb4]; walk_at "Mine.mem"
  have hb4c : (s₁.heap.objs.size + 1, oT) ∈ b4 := by rw [← hb4]; walk_at "Mine.mem"
  refine comp_rest 7 (fun i ys news => ∃ new, news = new ++ b4 ∧ Al (IsWord new) ys ((words ts).take i) ∧ ∀ q ∈ new, 70 < q.1 ∧ s₁.heap.objs.size + 1 < q.1) (fun _ _ _ _ => trivial) ?_ ?_ _ 0 [] b4 (by omega) ⟨[], rfl, Al.nil, fun _ h => nomatch h⟩
  · intro i v ys news I oI C oC D2 m2 h tk E' hi zzp14 zzp15 hC hx Ft Nt off ne TT hTq
    obtain ⟨new, rfl, hys, hnew⟩ := zzp14
    obtain ⟨ti, rfl⟩ := zzp15
    rw [Int.zero_add] at hx
    obtain ⟨ui, hui⟩ := ints_at hT (show i < ts.length by omega)
    have hAt : At wst (i : Int) (.int (ts.getD i 0) ui) := ⟨by omega, by omega, by rw [Int.toNat_natCast]; exact hui⟩
    have Nt2 := up (up Nt (x := (s₁.heap.objs.size + 1, oT)) (.tail _ (.tail _ (.tail _ (List.mem_append_right _ hb4c))))) (x := (Dt, listOf wst.toArray 0)) (.tail _ (.tail _ (.tail _ (.tail _ (List.mem_append_right _ hb4t)))))
    clear F3 N3 F4 N4 Nt
    k_steps
    rename Fr _ _ _ _ => F5
    rename News _ _ _ _ => N5
    rename ∀ x ∈ [_], AllLt _ _ => hl9
    have hlt := hl9 _ (.head _)
    simp only [Int.toNat_natCast] at N5
    have hw7 := words_get (ts := ts) hi
    exact hTq _ _ _ ((_, tupO _) :: (new ++ b4)) F5 (sub N5 (by walk_at "Mine.sub")) (off3_cons off ⟨hlt.2.2.1, hlt.2.2.2.1, hlt.2.2.2.2.1⟩) ⟨(_, tupO _) :: new, rfl, by rw [take_snoc hw7]; exact Al.snoc (hys.mono fun _ _ h => h.mono fun _ h => .tail _ h) ⟨_, _, _, _, _, _, rfl, .head _⟩, fun q hq => by
      rcases List.mem_cons.mp hq with rfl | hq
      · exact ⟨Nat.lt_trans l1t.2.2.2.2.2 hlt.1, hlt.2.1⟩
      · exact hnew q hq⟩
  · rintro ys news ⟨new, rfl, hys, hnew⟩
    intro D9 h9 tk9 F9 N9 off9
    have hnewD : ∀ q ∈ new, q.1 ≠ D9 := fun q hq => off1_ne off9 q (List.mem_append_left _ hq)
    rw [List.take_of_length_le (by simp [words])] at hys
    obtain ⟨e0, e1, e2, e3, e4, e5, e6, rfl, hev, hod⟩ := seven hys
    dsimp only
    have hD63 := neN (Ne.symm (off1_ne off9 (63, tabObj #[]) (List.mem_append_right _ (by rw [← hb4]; walk_at "Mine.mem"))))
    have hD70 := neN (Ne.symm (off1_ne off9 (70, tabObj #[]) (List.mem_append_right _ (by rw [← hb4]; walk_at "Mine.mem"))))
    dsimp only at hD63 hD70
    rw [← hb4] at N9
    have N10 := sub (l' := (D9, LCg.lst [.ref e0, .ref e1, .ref e2, .ref e3, .ref e4, .ref e5, .ref e6]) :: (63, tabObj #[]) :: (70, tabObj #[]) :: new) N9 (by walk_at "Mine.sub")
    have hb4e := hb4
    clear F3 N3 F4 N4 off9 N9 hb4 hb4t hb4c hb4e hys
    k_steps
    unfold Hold
    rename_i dL _ oL loL hsL _ _ _ l1d _ _ _ De _ F11 N11 l1e
    have hP := words_proper ts
    have hdL63 : (63 : Nat) ≠ dL := Nat.ne_of_lt l1d.2.1
    have hdL70 : (70 : Nat) ≠ dL := Nat.ne_of_lt l1d.2.2.1
    have hdLn : ∀ q ∈ new, q.1 ≠ dL := fun q hq => Nat.ne_of_lt (lt_of_all l1d.2.2.2 q hq)
    refine' SpecM.use (blocks_spec (W := words ts) (ws := evens ts) (known := []) (r := De) (d := dL) (items := #[.ref e0, .ref e2, .ref e4, .ref e6]) (n := 0) (od := oL) (kvs := []) (head := room) (th := tr) hP evens_in (evens_nd ts) (show (4 : Nat) ≤ 4 by decide) hsL new hev (fun _ h => nomatch h) (fun _ h => nomatch h) (by decide)) ?zzyB F11 ?zzyX
      (sub (l' := (dL, oL) :: (De, listOf #[.ref e0, .ref e2, .ref e4, .ref e6] 0) :: (D9, LCg.lst [.ref e0, .ref e1, .ref e2, .ref e3, .ref e4, .ref e5, .ref e6]) :: (63, tabObj #[]) :: (70, tabObj #[]) :: new) N11 (by walk_at "Mine.sub")) ?zzyT rfl rfl ?zzyd ?zzyu rfl ?zzye ?zzyn ?zzyr
    case zzyB => assumption
    case zzyX => assumption
    case zzyT => assumption
    case zzyd => exact Nat.le_of_ble_eq_true rfl
    case zzyu => exact Nat.le_of_ble_eq_true rfl
    case zzye => exact mc (.head _) (by walk_at "Mine.sub")
    case zzyn =>
      intro q hq
      rcases List.mem_cons.mp hq with rfl | hq
      · exact Nat.ne_of_gt l1e.1
      rcases List.mem_cons.mp hq with rfl | hq
      · exact Nat.ne_of_lt l1d.1
      rcases List.mem_cons.mp hq with rfl | hq
      · exact hdL63
      rcases List.mem_cons.mp hq with rfl | hq
      · exact hdL70
      · exact hdLn q hq
    intro v1 oL1 post1 h12 tk12 zzp5 hlt1 F12 N12
    obtain ⟨l1, its1, segs1, ks1, kvs1, rfl, hml1, hod1, hpile1, hfl1, hsing1, _, hcnt1⟩ := zzp5
    have N13 := sub (l' := (l1, listOf its1 0) :: (dL, oL1) :: (D9, LCg.lst [.ref e0, .ref e1, .ref e2, .ref e3, .ref e4, .ref e5, .ref e6]) :: (63, tabObj #[]) :: (70, tabObj #[]) :: (post1 ++ new)) N12 (mc (.tail _ (List.mem_append_left _ hml1)) (by walk_at "Mine.sub"))
    clear N12 N11 F11
    dsimp only
    k_steps
    unfold Hold
    rename_i Do _ F13 N14 l1o
    have hltN : ∀ q ∈ post1, q.1 ≠ dL ∧ q.1 ≠ 63 ∧ q.1 ≠ 70 := fun q hq => by
      have h := lt_of_all (hlt1 q hq)
      exact ⟨Nat.ne_of_gt (h (dL, oL) (.head _)), Nat.ne_of_gt (h (63, tabObj #[]) (by walk_at "Mine.mem")), Nat.ne_of_gt (h (70, tabObj #[]) (by walk_at "Mine.mem"))⟩
    refine' SpecM.use (blocks_spec (W := words ts) (ws := odds ts) (known := ks1) (r := Do) (d := dL) (items := #[.ref e1, .ref e3, .ref e5]) (n := 0) (od := oL1) (kvs := kvs1) (head := room) (th := tr) hP odds_in (odds_nd ts) (show (3 : Nat) ≤ 4 by decide) hod1 (post1 ++ new) (hod.mono fun _ _ h => h.mono fun _ h => List.mem_append_right _ h) hpile1.known hpile1.okk (show kvs1.length ≤ 100 by simp at hcnt1; omega)) ?zzzB F13 ?zzzX
      (sub (l' := (dL, oL1) :: (Do, listOf #[.ref e1, .ref e3, .ref e5] 0) :: (D9, LCg.lst [.ref e0, .ref e1, .ref e2, .ref e3, .ref e4, .ref e5, .ref e6]) :: (63, tabObj #[]) :: (70, tabObj #[]) :: (post1 ++ new)) N14 (by walk_at "Mine.sub")) ?zzzT rfl rfl ?zzzd ?zzzu rfl ?zzze ?zzzn ?zzzr
    case zzzB => assumption
    case zzzX => assumption
    case zzzT => assumption
    case zzzd => exact Nat.le_of_ble_eq_true rfl
    case zzzu => exact Nat.le_of_ble_eq_true rfl
    case zzze => exact mc (.head _) (by walk_at "Mine.sub")
    case zzzn =>
      intro q hq
      rcases List.mem_cons.mp hq with rfl | hq
      · exact Nat.ne_of_gt l1o.2.1
      rcases List.mem_cons.mp hq with rfl | hq
      · exact Nat.ne_of_lt l1d.1
      rcases List.mem_cons.mp hq with rfl | hq
      · exact hdL63
      rcases List.mem_cons.mp hq with rfl | hq
      · exact hdL70
      rcases List.mem_append.mp hq with hq | hq
      · exact (hltN q hq).1
      · exact hdLn q hq
    intro v2 oL2 post2 h15 tk15 zzp5 hlt2 F15 N15
    obtain ⟨l2, its2, segs2, ks2, kvs2, rfl, hml2, hod2, hpile2, hfl2, hsing2, hkn2, hcnt2⟩ := zzp5
    have hltN2 : ∀ q ∈ post2, q.1 ≠ 63 ∧ q.1 ≠ 70 := fun q hq => by
      have h := lt_of_all (hlt2 q hq)
      exact ⟨Nat.ne_of_gt (h (63, tabObj #[]) (by walk_at "Mine.mem")), Nat.ne_of_gt (h (70, tabObj #[]) (by walk_at "Mine.mem"))⟩
    have hpileA : Pile w (words ts) (post2 ++ (post1 ++ new)) its1 kvs2 segs1 ks1 := { hpile1.mono (X' := post2 ++ (post1 ++ new)) fun q hq => List.mem_append_right _ hq with known := fun g hg => hpile2.known g (hkn2 g hg) }
    obtain ⟨X9, hX9⟩ : ∃ X9, post2 ++ (post1 ++ new) = X9 := ⟨_, rfl⟩
    rw [hX9] at hpileA hpile2
    have hX1 : (l1, listOf its1 0) ∈ X9 := by rw [← hX9]; exact List.mem_append_right _ (List.mem_append_left _ hml1)
    have hX2 : (l2, listOf its2 0) ∈ X9 := by rw [← hX9]; exact List.mem_append_left _ hml2
    have hXn : ∀ q ∈ new, q ∈ X9 := fun q hq => by rw [← hX9]; exact List.mem_append_right _ (List.mem_append_right _ hq)
    have hX63 : ∀ q ∈ X9, q.1 ≠ 63 ∧ q.1 ≠ 70 := fun q hq => by
      rw [← hX9] at hq
      rcases List.mem_append.mp hq with hq | hq
      · exact hltN2 q hq
      rcases List.mem_append.mp hq with hq | hq
      · exact (hltN q hq).2
      · exact ⟨Nat.ne_of_gt (Nat.lt_trans (by decide) (hnew q hq).1), Nat.ne_of_gt (hnew q hq).1⟩
    have N16 := sub (l' := (l1, listOf its1 0) :: (l2, listOf its2 0) :: (dL, oL2) :: (D9, LCg.lst [.ref e0, .ref e1, .ref e2, .ref e3, .ref e4, .ref e5, .ref e6]) :: (63, tabObj #[]) :: (70, tabObj #[]) :: (post2 ++ (post1 ++ new))) N15 (mc (.tail _ (List.mem_append_right _ (by walk_at "Mine.mem"))) (mc (.tail _ (List.mem_append_left _ hml2)) (by walk_at "Mine.sub")))
    rw [hX9] at N16
    clear N15 N14 F13 N13
    dsimp only
    k_steps
    unfold Hold
    rename_i De2 _ F17 N17 l1f
    refine' SpecR.use (sound_spec (w := w) (W := words ts) (ws := evens ts) hP (r := De2) (pc := l1) (d := dL) (lrow := [.ref e0, .ref e2, .ref e4, .ref e6]) (its := its1.toList) (nr := 0) (np := 0) (X := X9) hod2 (by rw [Array.toArray_toList]; exact hpileA) (hev.mono fun _ _ h => h.mono hXn) hfl1 (show (4 : Nat) ≤ 4 by decide)) ?zzsAB F17 ?zzsAX N17 ?zzsAT rfl rfl ?zzsAd ?zzsAu rfl ?zzsAe ?zzsAr
    case zzsAB => assumption
    case zzsAX => assumption
    case zzsAT => assumption
    case zzsAd => exact Nat.le_of_ble_eq_true rfl
    case zzsAu => exact Nat.le_of_ble_eq_true rfl
    case zzsAe =>
      rw [Array.toArray_toList]
      exact mc (by walk_at "Mine.mem") (mc (by walk_at "Mine.mem") (mc (by walk_at "Mine.mem") (by walk_at "Mine.sub")))
    intro v3 post3 h18 tk18 zzp4 _ _ F18 N18
    obtain ⟨rfl, rfl⟩ := zzp4
    have N19 := sub (l' := (l1, listOf its1 0) :: (l2, listOf its2 0) :: (dL, oL2) :: (D9, LCg.lst [.ref e0, .ref e1, .ref e2, .ref e3, .ref e4, .ref e5, .ref e6]) :: (63, tabObj #[]) :: (70, tabObj #[]) :: X9) N18 (by walk_at "Mine.sub")
    clear N18 N17 F17
    dsimp only
    k_steps
    unfold Hold
    rename_i Do2 _ F20 N20 l1g
    refine' SpecR.use (sound_spec (w := w) (W := words ts) (ws := odds ts) hP (r := Do2) (pc := l2) (d := dL) (lrow := [.ref e1, .ref e3, .ref e5]) (its := its2.toList) (nr := 0) (np := 0) (X := X9) hod2 (by rw [Array.toArray_toList]; exact hpile2) (hod.mono fun _ _ h => h.mono hXn) hfl2 (show (3 : Nat) ≤ 4 by decide)) ?zzsBB F20 ?zzsBX N20 ?zzsBT rfl rfl ?zzsBd ?zzsBu rfl ?zzsBe ?zzsBr
    case zzsBB => assumption
    case zzsBX => assumption
    case zzsBT => assumption
    case zzsBd => exact Nat.le_of_ble_eq_true rfl
    case zzsBu => exact Nat.le_of_ble_eq_true rfl
    case zzsBe =>
      rw [Array.toArray_toList]
      exact mc (by walk_at "Mine.mem") (mc (by walk_at "Mine.mem") (mc (by walk_at "Mine.mem") (by walk_at "Mine.sub")))
    intro v4 post4 h21 tk21 zzp4 _ _ F21 N21
    obtain ⟨rfl, rfl⟩ := zzp4
    have N22 := sub (l' := (l1, listOf its1 0) :: (l2, listOf its2 0) :: (dL, oL2) :: (D9, LCg.lst [.ref e0, .ref e1, .ref e2, .ref e3, .ref e4, .ref e5, .ref e6]) :: (63, tabObj #[]) :: (70, tabObj #[]) :: X9) N21 (by walk_at "Mine.sub")
    clear N21 N20 F20
    dsimp only
    k_steps
    unfold Hold
    have hn1 := hpileA.its.1
    have hn2 := hpile2.its.1
    rw [Array.length_toList] at hn1 hn2
    have hm1 := segs_len fun g hg => (hpileA.good g hg).1.1
    have hm2 := segs_len fun g hg => (hpile2.good g hg).1.1
    have hf1 : segs1.flatten.length = 4 := by rw [hfl1]; rfl
    have hf2 : segs2.flatten.length = 3 := by rw [hfl2]; rfl
    refine comp_hold (F₀ := F21) (by with_unfolding_all rfl) (by decide) (by rfl) (by decide) (by rfl) ?_ (by intro _; rfl)
    k_steps
    unfold Hold
    refine LCg.CompSrc.ledger (its := its1) (k := 0) rfl F21 N22 (by walk_at "Mine.mem") (by rw [sizeLine_eq]; omega) fun gg => ?_
    obtain ⟨b24, hb24⟩ : ∃ b24, (l1, listOf its1 0) :: (l2, listOf its2 0) :: (dL, oL2) :: (D9, LCg.lst [.ref e0, .ref e1, .ref e2, .ref e3, .ref e4, .ref e5, .ref e6]) :: (63, tabObj #[]) :: (70, tabObj #[]) :: X9 = b24 := ⟨_, rfl⟩
    rw [hb24]
    have hb24X : ∀ q ∈ X9, q ∈ b24 := by rw [← hb24]; walk_at "Mine.sub"
    refine comp_rest _ (fun q ys news => news = b24 ∧ Al IsTx ys (segs1.take q)) (fun _ _ _ h => .inr ⟨_, by rw [h.1, ← hb24]; walk_at "Mine.mem", rfl, 0, rfl⟩) ?_ ?_ _ 0 [] b24 (Nat.zero_add _) ⟨rfl, Al.nil⟩
    · intro q v ys news I oI C oC D2 m2 h tk E' hq zzp14 hv hC hx Ft Nt off ne TT hTq
      obtain ⟨rfl, hys⟩ := zzp14
      obtain ⟨g, hg, T9, t1, t2, rfl, hT9⟩ := hpileA.its.get (by simpa using hv)
      have Nt2 := up Nt (x := (T9, tupO [.str (mark g) t1, .str (blk g) t2])) (.tail _ (.tail _ (.tail _ (hb24X _ hT9))))
      clear F21 N22 Nt
      k_steps
      exact hTq _ _ _ news Ft (sub Nt2 (by walk_at "Mine.sub")) off ⟨rfl, by rw [List.take_add_one, hg]; exact Al.snoc hys ⟨_, rfl⟩⟩
    rintro ysN24 news ⟨rfl, hys24⟩
    intro D24 h24 tk24 F24 N24 off24
    rw [List.take_of_length_le (by omega)] at hys24
    rw [← hb24] at N24
    clear F21 N22 off24 hb24X hb24
    dsimp only
    k_steps
    unfold Hold
    refine comp_hold (F₀ := F24) (by with_unfolding_all rfl) (by decide) (by rfl) (by decide) (by rfl) ?_ (by intro _; rfl)
    k_steps
    unfold Hold
    refine LCg.CompSrc.ledger (its := its2) (k := 0) rfl F24 N24 (by walk_at "Mine.mem") (by rw [sizeLine_eq]; omega) fun gg => ?_
    obtain ⟨b25, hb25⟩ : ∃ b25, (D24, LCg.lst ysN24) :: (l1, listOf its1 0) :: (l2, listOf its2 0) :: (dL, oL2) :: (D9, LCg.lst [.ref e0, .ref e1, .ref e2, .ref e3, .ref e4, .ref e5, .ref e6]) :: (63, tabObj #[]) :: (70, tabObj #[]) :: X9 = b25 := ⟨_, rfl⟩
    rw [hb25]
    have hb25X : ∀ q ∈ X9, q ∈ b25 := by rw [← hb25]; walk_at "Mine.sub"
    refine comp_rest _ (fun q ys news => news = b25 ∧ Al IsTx ys (segs2.take q)) (fun _ _ _ h => .inr ⟨_, by rw [h.1, ← hb25]; walk_at "Mine.mem", rfl, 0, rfl⟩) ?_ ?_ _ 0 [] b25 (Nat.zero_add _) ⟨rfl, Al.nil⟩
    · intro q v ys news I oI C oC D2 m2 h tk E' hq zzp14 hv hC hx Ft Nt off ne TT hTq
      obtain ⟨rfl, hys⟩ := zzp14
      obtain ⟨g, hg, T9, t1, t2, rfl, hT9⟩ := hpile2.its.get (by simpa using hv)
      have Nt2 := up Nt (x := (T9, tupO [.str (mark g) t1, .str (blk g) t2])) (.tail _ (.tail _ (.tail _ (hb25X _ hT9))))
      clear F24 N24 Nt
      k_steps
      exact hTq _ _ _ news Ft (sub Nt2 (by walk_at "Mine.sub")) off ⟨rfl, by rw [List.take_add_one, hg]; exact Al.snoc hys ⟨_, rfl⟩⟩
    rintro ysN25 news ⟨rfl, hys25⟩
    intro D25 h25 tk25 F25 N25 off25
    rw [List.take_of_length_le (by omega)] at hys25
    rw [← hb25] at N25
    clear F24 N24 off25 hb25X hb25
    dsimp only
    k_steps
    unfold Hold
    rename Fr _ _ _ _ => F26
    rename News _ _ _ _ => N26
    have N27 := sub (l' := (D24, LCg.lst ysN24) :: (D25, LCg.lst ysN25) :: (l1, listOf its1 0) :: (l2, listOf its2 0) :: (dL, oL2) :: (D9, LCg.lst [.ref e0, .ref e1, .ref e2, .ref e3, .ref e4, .ref e5, .ref e6]) :: (63, tabObj #[]) :: (70, tabObj #[]) :: X9) N26 (by walk_at "Mine.sub")
    clear N26
    have okA : ∀ g ∈ segs1, OkB (words ts) g ∧ g ∈ ks2 ∧ g.length ≤ 10 := fun g hg => ⟨(hpileA.good g hg).1, hkn2 g (hpileA.sub g hg), by have := seg_in hg; omega⟩
    have okC : ∀ g ∈ segs2, OkB (words ts) g ∧ g ∈ ks2 ∧ g.length ≤ 10 := fun g hg => ⟨(hpile2.good g hg).1, hpile2.sub g hg, by have := seg_in hg; omega⟩
    refine' SpecR.use (line_spec (w := w) (W := words ts) hP (u := D24) (l := D25) (d := dL) (lu := ysN24) (ll := ysN25) (us := segs1) (ls := segs2) (nu := ysN24.length) (nl := ysN25.length) (X := X9) hod2 hpile2.known hys24 hys25 okA okC (by omega) (by omega)) ?zzlB F26 ?zzlX N27 ?zzlT rfl rfl ?zzld ?zzlu rfl ?zzle ?zzlr
    case zzlB => assumption
    case zzlX => assumption
    case zzlT => assumption
    case zzld => exact Nat.le_of_ble_eq_true rfl
    case zzlu => exact Nat.le_of_ble_eq_true rfl
    case zzle => exact mc (by walk_at "Mine.mem") (mc (by walk_at "Mine.mem") (mc (by walk_at "Mine.mem") (by walk_at "Mine.sub")))
    intro v5 post5 h28 tk28 zzp4 hlt5 _ F28 N28
    obtain ⟨rc, lr, C, rfl, rfl, hlr, hM⟩ := zzp4
    have hrc := hlt5 _ (.head _)
    dsimp only [List.cons_append, List.nil_append] at N28 hrc
    have hIn := hM.inter
    have hMm := hM.mem
    dsimp only
    clear N27 F26
    k_steps
    unfold Hold
    rename_i De3 _ _ _ l1h Do3 _ F29 N29 l1i
    have zr : 0 ≤ room ∧ room ≤ 10 := ⟨hr0, by omega⟩
    refine' SpecR.use (least_spec (w := w) (W := words ts) hP (u := De3) (l := Do3) (lu := [.ref e0, .ref e2, .ref e4, .ref e6]) (ll := [.ref e1, .ref e3, .ref e5]) (us := evens ts) (ls := odds ts) (nu := 0) (nl := 0) (head := room) (th := tr) (X := X9) (hev.mono fun _ _ h => h.mono hXn) (hod.mono fun _ _ h => h.mono hXn) evens_in odds_in (show (4 : Nat) ≤ 10 by decide) (show (3 : Nat) ≤ 10 by decide) zr) ?zzmB F29 ?zzmX N29 ?zzmT rfl rfl ?zzmd ?zzmu rfl ?zzme ?zzmr
    case zzmB => assumption
    case zzmX => assumption
    case zzmT => assumption
    case zzmd => exact Nat.le_of_ble_eq_true rfl
    case zzmu => exact Nat.le_of_ble_eq_true rfl
    case zzme => exact mc (by walk_at "Mine.mem") (mc (by walk_at "Mine.mem") (by walk_at "Mine.sub"))
    intro v6 post6 h30 tk30 zzp4 _ _ F30 N30
    obtain ⟨⟨t6, rfl⟩, rfl⟩ := zzp4
    have N31 := sub (l' := (rc, listOf lr.toArray 0) :: (D24, LCg.lst ysN24) :: (D25, LCg.lst ysN25) :: (l1, listOf its1 0) :: (l2, listOf its2 0) :: (dL, oL2) :: (D9, LCg.lst [.ref e0, .ref e1, .ref e2, .ref e3, .ref e4, .ref e5, .ref e6]) :: (63, tabObj #[]) :: (70, tabObj #[]) :: X9) N30 (by walk_at "Mine.sub")
    clear N30 N29 F29
    have hClen : C.flatten.length = 7 := by rw [inter_len hIn, hf1, hf2]
    have okAll : ∀ g ∈ C, OkB (words ts) g ∧ g ∈ ks2 ∧ g.length ≤ 10 := fun g hg => (hMm g hg).elim (okA g) (okC g)
    have okl : ∀ g ∈ C, OkB (words ts) g := fun g hg => (okAll g hg).1
    have hCm := segs_len fun g hg => (okl g hg).1
    have hZin : ∀ x ∈ C.flatten, x ∈ words ts := fun x hx => by
      obtain ⟨g, hg, hx⟩ := List.mem_flatten.mp hx
      exact (okl g hg).2 x hx
    have hsa := strs_txs hlr
    have hw1 : ((C.map blk).map (·.length)).sum + (C.map blk).length ≤ 1000 := by
      have h1 := sum_len hP okl
      have h2 := sgs_boundZ (n := 10) hP hZin (by omega)
      rw [List.length_map]
      omega
    dsimp only
    k_steps
    refine' join_at ?zzjk1 ?zzjk2 ?zzjk3 ?zzjk4 ?zzjk5 ?_
    case zzjk1 => exact N31
    case zzjk2 => exact .head _
    case zzjk3 => exact hsa
    case zzjk4 => exact hw1
    case zzjk5 => exact Nat.le_of_ble_eq_true rfl
    intro Xj tj kj eXj hkj
    dsimp only at hkj
    have hXj : Xj.length ≤ 1000 := by
      rw [eXj]
      exact Nat.le_trans (join_len (by decide) _) hw1
    dsimp only
    k_steps
    unfold Hold
    dsimp only [List.cons_append, List.nil_append]
    refine repl_at tab_eq sp_eq (show @Ne Nat _ _ by omega) (show @Ne Nat _ _ by omega) (show @Ne Nat _ _ by omega) (by decide) hXj fun Y tY kY eY hkY => ?_
    have hCne : C ≠ [] := fun e => by rw [e] at hClen; simp at hClen
    have hYl : Y.length ≤ 1000 := by rw [eY, replace_len]; exact hXj
    have hYcl : cl Y = cl (Str.join ⟨#[32]⟩ (C.flatten.map (·.tx))) := by
      rw [eY, eXj, sp_eq]
      exact replace_line hP C hCne okl
    have hspl : (Str.ofString " ").length = 1 := rfl
    clear eY eXj
    k_steps
    unfold Hold
    rename Fr _ _ _ _ => F32
    rename News _ _ _ _ => N32
    obtain ⟨aD, u1, u2, u3, haD, N33⟩ := due_head N32
    rw [← haD] at F32
    clear N32 haD
    have hapart : ∀ g ∈ segs1, g ∉ segs2 := fun g hg hg2 => by
      obtain ⟨x, hx⟩ := List.exists_mem_of_ne_nil g (okA g hg).1.1
      exact apart_rows x (by rw [← hfl1]; exact List.mem_flatten.mpr ⟨g, hg, hx⟩) (by rw [← hfl2]; exact List.mem_flatten.mpr ⟨g, hg2, hx⟩)
    have hne1 : ∀ P, (P, tabObj #[]) ∈ [(63, tabObj #[]), (70, tabObj #[])] → aD ≠ P ∧ rc ≠ P ∧ D24 ≠ P ∧ D25 ≠ P ∧ D9 ≠ P := fun P hP9 => by
      have hm : (P, tabObj #[]) ∈ (aD, tupO [.int (dp (evens ts) (odds ts) room (evens ts).length (odds ts).length) u1, .str (Str.ofString " " ++ Y) u2, .int 7 u3]) :: (rc, listOf lr.toArray 0) :: (D24, LCg.lst ysN24) :: (D25, LCg.lst ysN25) :: (l1, listOf its1 0) :: (l2, listOf its2 0) :: (dL, oL2) :: (D9, LCg.lst [.ref e0, .ref e1, .ref e2, .ref e3, .ref e4, .ref e5, .ref e6]) :: (63, tabObj #[]) :: (70, tabObj #[]) :: X9 := by
        rcases List.mem_cons.mp hP9 with e | hP9
        · rw [e]; walk_at "Mine.mem"
        · rw [List.mem_singleton.mp hP9]; walk_at "Mine.mem"
      exact ⟨obj_ne N33 (.head _) hm (fun e => nomatch e), obj_ne N33 (.tail _ (.head _)) hm (fun e => nomatch e), obj_ne N33 (.tail _ (.tail _ (.head _))) hm (fun e => nomatch e), obj_ne N33 (.tail _ (.tail _ (.tail _ (.head _)))) hm (fun e => nomatch e), obj_ne N33 (.tail _ (.tail _ (.tail _ (.tail _ (.tail _ (.tail _ (.tail _ (.head _)))))))) hm (fun e => nomatch e)⟩
    refine' SpecR.use (falls_spec (w := w) (W := words ts) hP (l := rc) (u := D24) (d := dL) (ll := lr) (lu := ysN24) (C := C) (us := segs1) (nl := 0) (nu := ysN24.length) (X := X9) hod2 hpile2.known hlr hys24 okAll (by omega) (merge_fine hP hM hpileA.falls hpile2.falls (fun g hg => (okA g hg).1) (fun g hg => (okC g hg).1) hapart)) ?zzfB F32 ?zzfX N33 ?zzfT rfl rfl ?zzfd ?zzfu rfl ?zzfe ?zzfr
    case zzfB => assumption
    case zzfX => assumption
    case zzfT => assumption
    case zzfd => exact Nat.le_of_ble_eq_true rfl
    case zzfu => exact Nat.le_of_ble_eq_true rfl
    case zzfe => exact mc (by walk_at "Mine.mem") (mc (by walk_at "Mine.mem") (mc (by walk_at "Mine.mem") (by walk_at "Mine.sub")))
    intro v7 post7 h33 tk33 zzp4 _ _ F34 N34
    obtain ⟨rfl, rfl⟩ := zzp4
    have N35 := sub (l' := (63, tabObj #[]) :: (70, tabObj #[]) :: (aD, tupO [.int (dp (evens ts) (odds ts) room (evens ts).length (odds ts).length) u1, .str (Str.ofString " " ++ Y) u2, .int 7 u3]) :: (rc, listOf lr.toArray 0) :: (l1, listOf its1 0) :: (l2, listOf its2 0) :: (dL, oL2) :: (D9, LCg.lst [.ref e0, .ref e1, .ref e2, .ref e3, .ref e4, .ref e5, .ref e6]) :: X9) N34 (by walk_at "Mine.sub")
    clear N34 N33 F32
    have hneL : ∀ q ∈ (aD, tupO [.int (dp (evens ts) (odds ts) room (evens ts).length (odds ts).length) u1, .str (Str.ofString " " ++ Y) u2, .int 7 u3]) :: (rc, listOf lr.toArray 0) :: (l1, listOf its1 0) :: (l2, listOf its2 0) :: (dL, oL2) :: (D9, LCg.lst [.ref e0, .ref e1, .ref e2, .ref e3, .ref e4, .ref e5, .ref e6]) :: X9, q.1 ≠ 63 ∧ q.1 ≠ 70 := by
      have n63 := hne1 63 (.head _)
      have n70 := hne1 70 (.tail _ (.head _))
      intro q hq
      rcases List.mem_cons.mp hq with rfl | hq
      · exact ⟨n63.1, n70.1⟩
      rcases List.mem_cons.mp hq with rfl | hq
      · exact ⟨n63.2.1, n70.2.1⟩
      rcases List.mem_cons.mp hq with rfl | hq
      · exact hX63 _ hX1
      rcases List.mem_cons.mp hq with rfl | hq
      · exact hX63 _ hX2
      rcases List.mem_cons.mp hq with rfl | hq
      · exact ⟨Ne.symm hdL63, Ne.symm hdL70⟩
      rcases List.mem_cons.mp hq with rfl | hq
      · exact ⟨n63.2.2.2.2, n70.2.2.2.2⟩
      · exact hX63 q hq
    have hks : ∀ x ∈ C.flatten, [x] ∈ ks2 := fun x hx => (hIn.mem x hx).elim (fun h => hkn2 _ (hsing1 x (by rw [← hfl1]; exact h))) (fun h => hsing2 x (by rw [← hfl2]; exact h))
    have hlat := least_is hP room hM hpileA.falls hpile2.falls hpileA.good hpile2.good
    rw [hfl1, hfl2] at hlat
    have hCfe : C.flatten ≠ [] := fun e => by rw [e] at hClen; cases hClen
    clear hne1
    dsimp only
    k_steps
    unfold Hold
    refine' SpecG.use (cost_spec (w := w) (W := words ts) hP (b := rc) (d := dL) (lb := lr) (C := C) (nb := 0) (head := room) (th := tr) (ks := ks2) (X := X9) hod2 hpile2.known hlr okl hCne hks (by omega) zr) ?zzgB F34 ?zzgX N35 ?zzgT rfl rfl ?zzgd ?zzgu rfl ?zzge hneL ⟨trivial, .inl rfl⟩ ⟨trivial, .inl rfl⟩ (AllBare.of_eq hg) ?zzgr
    case zzgB => assumption
    case zzgX => assumption
    case zzgT => assumption
    case zzgd => exact Nat.le_of_ble_eq_true rfl
    case zzgu => exact Nat.le_of_ble_eq_true rfl
    case zzge => exact mc (by walk_at "Mine.mem") (mc (by walk_at "Mine.mem") (by walk_at "Mine.sub"))
    intro v8 post8 ps1 ps2 h37 g37 tk37 zzp7 hg37 F37 N37
    obtain ⟨e37, x1, x2, x3, tt, rfl, rfl, htt⟩ := zzp7
    have htex := line_same hCfe htt hYcl
    have htok := line_strOk hP hZin htt
    dsimp only [List.cons_append, List.nil_append] at N37
    clear N35 F34
    dsimp only
    k_steps
    unfold Hold
    refine eq_tup3 N37 (.tail _ (.tail _ (.head _))) (.tail _ (.tail _ (.tail _ (.head _)))) hlat.symm htex (by rw [hClen]; rfl) htok (by ke_room) ?_
    k_steps
    refine hQQ _ _ ?_
    k_steps
    refine ⟨⟨.bool true, .bool true, [], rfl, ?zzraise9, .bool _, ?zzpost9, fun _ => ⟨List.nodup_nil, fun _ h => nomatch h⟩⟩, F37.keep, rfl, hg37, ⟨GrownAt.of N37 (.head _), GrownAt.of N37 (.tail _ (.head _)), trivial⟩⟩
    case zzraise9 => exact fun _ => rfl
    case zzpost9 => kc_post)
end Mine

end
theorem PySem.Challenge.cw_pk0049_01_holds : PySem.Challenge.rw_pk0049_01.Holds := by
  exact Mine.law_holds
