import PyProof.Rows.All
import PyProof.AttrMiss
import PyProof.FactsAll.dict_items
import PyProof.DictWalks
import PyProof.Draws
import PyProof.EnumMake
import PyProof.WalksMore
import PyProof.IsiH_dict
import PyProof.IsiHeapPairs
import KE.KDictIter
import KE.KDictList
import KE.KDictSum
import KE.KDictOf
import KE.KEqDict
import KE.KIsBytes
import KE.KItemsList
import KE.KOpsOwn
import KE.KPairComp
import KE.KParD
import KE.KSuper
import KE.RegKDeep
import Wide.FinOn
import OpenK.AllK
import Wide.All
import Lean
import PySem.Challenge.RW_be0018_01
set_option Elab.async false
section
open PySem PySem.W PyProof.Rows
set_option Elab.async false
set_option maxRecDepth 100000
set_option maxHeartbeats 8000000
namespace Mine
/-- the text as the head looks at it: the rows that are no loose names -/
noncomputable def look : Program := PySem.W.view PySem.Challenge.rw_be0018_01.row.toRowW.1 [0, 6, 8, 9, 10, 11]
-- o_head's own road (pieces) leaves 13 MB in the compiled file; here the top's run and the looks at it are one step of the kernel
open Lean in
local macro_rules | `(tactic| o_head $H:term) => do
  let (hl, hw, hc, text) := (mkIdent `hl, mkIdent `hw, mkIdent `hc, mkIdent `PySem.W.Fast.te5101254720856806098)
  `(tactic| (refine holds_open (q := look) (loose := ["to_unicode", "canonsort_keys", "canonsort_items", "CaselessDict", "_law_names"]) (Xt := fun s => xlAt look [] s && recOk (RowW.records PySem.Challenge.rw_be0018_01.row.toRowW) s) (XP := XL look []) (Yf := Hook.obs $H) (Ya := Hook.val $H) (YP := Hook.says $H) (N := 2090) ?$hl (Hook.of $H) (Hook.keeps $H) (fun s e => xl_of s (Bool.and_eq_true_iff.mp e).1) XL.keeps (by rfl) (by rfl) (by rfl) (fun s e => recFacts_of (Bool.and_eq_true_iff.mp e).2) (by rfl) (by assumption) (by decide +kernel) ⟨rfl, rfl, rfl, rfl, rfl, by decide +kernel⟩ ?$hw ?$hc
             case hl => exact fun w => by (unfold openEnds fencedOpening topFrom look; rw [PySem.W.Fast.te10274390034422433532, PySem.W.Fast.te14289696077712309145, PySem.W.Fast.te14082659384304107361, PySem.W.Fast.te1435165496053646825, PySem.W.Fast.te14364793385576792824, PySem.W.Fast.te4187177175401517315, $text:ident]; kernel_rfl)))
open_top hd for PySem.Challenge.rw_be0018_01
end Mine
end
section
open PySem PySem.W PySem.Calls PyProof.Rows
set_option Elab.async false
set_option maxRecDepth 100000
set_option maxHeartbeats 4000000
namespace Mine
noncomputable abbrev cdObj (dx : Addr) (es : List DictEntry) (n : Nat) : Obj := { cls := .ref 170, dict := some dx, data := .dict es.toArray n }
noncomputable abbrev bndObj (ty id : String) (x : Addr) : Obj := { cls := .type ty, data := .fields #[.builtin id, .ref x] }
theorem inst_cd {h₀ h : Heap} {L x dx : Addr} {news : List (Addr × Obj)} {es : List DictEntry} {n : Nat} (N : News h₀ L h news) (h1 : (x, cdObj dx es n) ∈ news) (h2 : (dx, dictOf [] 0) ∈ news) :
    PySem.W.InstAt h x (cdObj dx es n) 170 (some (dictOf [] 0)) := ⟨(N _ h1).1, rfl, rfl, (N _ h2).1⟩
theorem slot_wd_get : Slot "wrapper_descriptor" "__get__" "wrapper_descriptor.__get__" :=
  .of (owner := "wrapper_descriptor") (n := "__get__") (by rw [typeLookup_type, builtinLookup_eq_fast]; kernel_rfl) (by decide +kernel) (by decide +kernel) (by decide +kernel)
    (by first | exact .inl (by decide +kernel) | exact .inr (by decide +kernel)) (by rw [isSubtype_type]; kernel_rfl)
theorem entry_wd_get : entryFor table "wrapper_descriptor.__get__" = some Builtin.«wrapper_descriptor.__get__» := entryFor_of_tree (by kernel_rfl)
theorem args_wd_get (a b c : Value) : argsOk "wrapper_descriptor.__get__" ⟨[a, b, c], []⟩ := by unfold argsOk; kernel_rfl
theorem slot_md_get : Slot "method_descriptor" "__get__" "method_descriptor.__get__" :=
  .of (owner := "method_descriptor") (n := "__get__") (by rw [typeLookup_type, builtinLookup_eq_fast]; kernel_rfl) (by decide +kernel) (by decide +kernel) (by decide +kernel)
    (by first | exact .inl (by decide +kernel) | exact .inr (by decide +kernel)) (by rw [isSubtype_type]; kernel_rfl)
theorem entry_md_get : entryFor table "method_descriptor.__get__" = some Builtin.«method_descriptor.__get__» := entryFor_of_tree (by kernel_rfl)
theorem args_md_get (a b c : Value) : argsOk "method_descriptor.__get__" ⟨[a, b, c], []⟩ := by unfold argsOk; kernel_rfl
section
variable {prog : Program} {w : World} {A : Around} {E : Value → Shared → Prop} {h : Heap} {g : Array GenState} {d : Drawn} {t : Nat} {os : OsState}
theorem sup_ga_w {so D x C : Addr} {id : String} {l₀ l : List Value} {K : Frag} {name : Str} {tk : Tok} {Q : Fin → Shared → Prop}
    (hso : h.get? so = some { cls := .type "super", dict := none, data := .fields #[.ref D, .ref x, .ref C], slots := #[] }) (hno : Looks (model prog w) h (opaqueClassAbove (.ref C)) none)
    (hC : Looks (model prog w) h (mroOf (.ref C)) l₀) (hl : (l₀.dropWhile (· != .ref D)).drop 1 = l) (X : K.In h)
    (hf : alongIn K name l = some (some (.builtin id))) (hty : typeOf (.builtin id) = pure (.type "wrapper_descriptor")) (hxC : x ≠ C) (hn : (name == ("__class__" : Str)) = false)
    (hcut : (".".intercalate (id.cutAt '.').dropLast) = "dict") (hsub : Looks (model prog w) h (isInstance (.ref x) (.type "dict")) true)
    (hq : Q (.done (.ret (.ref h.objs.size))) ⟨h.push { cls := .type "method-wrapper", data := .fields #[.builtin id, .ref x] }, g, d, t, os⟩) :
    wpAny (model prog w) A (Builtin.«super.__getattribute__» ⟨[.ref so, .str name tk], []⟩) Q E ⟨h, g, d, t, os⟩ := by
  have hlk := slot_wd_get.lookup
  have hne : (Value.ref x == Value.ref C) = false := by simp [hxC]
  have hTf : (⟨h, g, d, t, os⟩ : Shared).TypeIs (.builtin id) "wrapper_descriptor" := hty
  have hdt : ({ cls := .type "super", dict := none, data := .fields #[.ref D, .ref x, .ref C], slots := #[] } : Obj).data = .fields #[.ref D, .ref x, .ref C] := rfl
  have f0 : (#[.ref D, .ref x, .ref C] : Array Value)[0]? = some (.ref D) := rfl
  have f1 : (#[.ref D, .ref x, .ref C] : Array Value)[1]? = some (.ref x) := rfl
  have f2 : (#[.ref D, .ref x, .ref C] : Array Value)[2]? = some (.ref C) := rfl
  unfold Builtin.«super.__getattribute__»
  repeat (first
    | (with_reducible refine wpAny_field hso hdt f0 ?_) | (with_reducible refine wpAny_field hso hdt f1 ?_) | (with_reducible refine wpAny_field hso hdt f2 ?_)
    | (with_reducible refine ks_wpAny_notOpaque hno ?_)
    | (with_reducible refine Looks.at hC ?_; rw [hl])
    | (refine ks_forIn_along X (fun _ _ => rfl) rfl ?_ hf)
    | (with_reducible refine wpAny_typeOf hTf ?_)
    | (with_reducible refine wpAny_call_entry slot_wd_get hTf entry_wd_get ?_ (args_wd_get _ _ _))
    | (with_reducible refine Looks.at hsub ?_)
    | (with_reducible refine ⟨_, rfl, ?_⟩)
    | (simp only [hn, hne, hcut, Bool.or_false, Bool.false_eq_true, if_false])
    | wp_step
    | dsimp only)
  all_goals exact hq
theorem sup_ga_m {so D x C : Addr} {id : String} {l₀ l : List Value} {K : Frag} {name : Str} {tk : Tok} {Q : Fin → Shared → Prop}
    (hso : h.get? so = some { cls := .type "super", dict := none, data := .fields #[.ref D, .ref x, .ref C], slots := #[] }) (hno : Looks (model prog w) h (opaqueClassAbove (.ref C)) none)
    (hC : Looks (model prog w) h (mroOf (.ref C)) l₀) (hl : (l₀.dropWhile (· != .ref D)).drop 1 = l) (X : K.In h)
    (hf : alongIn K name l = some (some (.builtin id))) (hty : typeOf (.builtin id) = pure (.type "method_descriptor")) (hxC : x ≠ C) (hn : (name == ("__class__" : Str)) = false)
    (hcut : (".".intercalate (id.cutAt '.').dropLast) = "dict") (hsub : Looks (model prog w) h (isInstance (.ref x) (.type "dict")) true) (htold : Manifest.toldItsClass.contains id = false)
    (hq : Q (.done (.ret (.ref h.objs.size))) ⟨h.push { cls := .type "builtin_function_or_method", data := .fields #[.builtin id, .ref x] }, g, d, t, os⟩) :
    wpAny (model prog w) A (Builtin.«super.__getattribute__» ⟨[.ref so, .str name tk], []⟩) Q E ⟨h, g, d, t, os⟩ := by
  have hlk := slot_md_get.lookup
  have hne : (Value.ref x == Value.ref C) = false := by simp [hxC]
  have hTf : (⟨h, g, d, t, os⟩ : Shared).TypeIs (.builtin id) "method_descriptor" := hty
  have hdt : ({ cls := .type "super", dict := none, data := .fields #[.ref D, .ref x, .ref C], slots := #[] } : Obj).data = .fields #[.ref D, .ref x, .ref C] := rfl
  have f0 : (#[.ref D, .ref x, .ref C] : Array Value)[0]? = some (.ref D) := rfl
  have f1 : (#[.ref D, .ref x, .ref C] : Array Value)[1]? = some (.ref x) := rfl
  have f2 : (#[.ref D, .ref x, .ref C] : Array Value)[2]? = some (.ref C) := rfl
  unfold Builtin.«super.__getattribute__»
  repeat (first
    | (with_reducible refine wpAny_field hso hdt f0 ?_) | (with_reducible refine wpAny_field hso hdt f1 ?_) | (with_reducible refine wpAny_field hso hdt f2 ?_)
    | (with_reducible refine ks_wpAny_notOpaque hno ?_)
    | (with_reducible refine Looks.at hC ?_; rw [hl])
    | (refine ks_forIn_along X (fun _ _ => rfl) rfl ?_ hf)
    | (with_reducible refine wpAny_typeOf hTf ?_)
    | (with_reducible refine wpAny_call_entry slot_md_get hTf entry_md_get ?_ (args_md_get _ _ _))
    | (with_reducible refine Looks.at hsub ?_)
    | (with_reducible refine ⟨_, rfl, ?_⟩)
    | (simp only [hn, hne, hcut, htold, Bool.or_false, Bool.false_eq_true, if_false])
    | wp_step
    | dsimp only)
  all_goals exact hq
theorem sup_gm {so x : Addr} {D C : Addr} {o' : Obj} {name : Str} {pl : Sem Bool} {Q : Value × List Value → Shared → Prop}
    (hso : h.get? so = some { cls := .type "super", dict := none, data := .fields #[.ref D, .ref x, .ref C], slots := #[] })
    (hga : ∀ A Q', Q' (.done (.ret (.ref h.objs.size))) ⟨h.push o', g, d, t + 1, os⟩ → wpAny (model prog w) A (Builtin.«super.__getattribute__» ⟨[.ref so, .str name t], []⟩) Q' (fun _ _ => False) ⟨h, g, d, t + 1, os⟩)
    (hq : Q (.ref h.objs.size, []) ⟨h.push o', g, d, t + 1, os⟩) :
    wpAny (model prog w) A (getMethod (.ref so) name pl) Q E ⟨h, g, d, t, os⟩ := by
  have hlk := F.ks_slot_super_ga.lookup
  have hcan := F.ks_canon_super_ga
  have hT : ∀ t', (⟨h, g, d, t', os⟩ : Shared).TypeIs (.ref so) "super" := fun _ => ⟨_, hso, rfl⟩
  unfold getMethod
  refine wpAny_bind (wpAny_specialOf (hT _) hlk ?_)
  show wpAny _ _ (if (Manifest.canonical "super.__getattribute__" != "object.__getattribute__") = true then _ else _) _ _ _
  rw [if_pos hcan]
  unfold getAttr getAttrBy
  refine wpAny_bind (wpAny_bind (wpAny_mkText (wpAny_holding (wpAny_bind (wpAny_typeOf (hT _) (wpAny_bind (wpAny_of_eq hlk ?_)))))))
  show wpAny _ _ (getAttrByItsOwn (.ref so) (.str name t) (.type "super") (.builtin "super.__getattribute__") true false) _ _ _
  unfold getAttrByItsOwn hookBefore callGetattribute boundAndCalled
  refine wpAny_bind (wpAny_of_eq (show (if onTheHeap (.type "super") then typeLookup (.type "super") "__getattr__" else pure none) = pure none from rfl) ?_)
  refine wpAny_bind (wpAny_attempt (wpAny_holding ?_))
  refine wpAny_bind (wpAny_of_eq (F.ks_slot_super_ga.bind _) ?_)
  refine wpAny_mono (Q := fun v s' => v = .ref h.objs.size ∧ s' = ⟨h.push o', g, d, t + 1, os⟩) (E := fun _ _ => False)
    (wpAny_call_entry F.ks_slot_super_ga (hT _) F.ks_entry_super_ga (hga _ _ ⟨_, rfl, rfl, rfl⟩) (F.ks_gaArgs_super _ _)) (fun v s' hv => ?_) fun _ _ z => z.elim
  obtain ⟨rfl, rfl⟩ := hv
  exact wpAny_pure (wpAny_pure hq)
end
section
variable {prog : Program} {w : World} {A : Around} {E : Value → Shared → Prop} {s : Shared} {h₀ : Heap} {L : Addr} {m mg mb : Str → Option Value} {news : List (Addr × Obj)} {K : Frag} {x C D so : Addr} {ox : Obj} {odx : Option Obj} {id : String}
theorem supM {dt bt : String} {name : Str} {pl : Sem Bool} {Q : Value × List Value → Shared → Prop} (hd : (dt = "wrapper_descriptor" ∧ bt = "method-wrapper") ∨ (dt = "method_descriptor" ∧ bt = "builtin_function_or_method" ∧ Manifest.toldItsClass.contains id = false))
    (F : Fr h₀ L s.heap m) (X₀ : K.In h₀) (N : News h₀ L s.heap news) (hso : (so, ks_superObj D x C) ∈ news) (I : PySem.W.InstAt s.heap x ox C odx) (ho : nsIn K cStatics "thirdparty.any" = some none)
    (hm : ks_superIn K C D name = some (some (.builtin id))) (ht : typeOf (.builtin id) = pure (.type dt)) (hn : (name == ("__class__" : Str)) = false)
    (hcut : (".".intercalate (id.cutAt '.').dropLast) = "dict") (hsub : subIn K (.ref C) (.type "dict") = some true)
    (h : ∀ q h', Fr h₀ L h' m → News h₀ L h' ((q, bndObj bt id x) :: news) → (∀ p ∈ news, p.1 < q) → Q (.ref q, []) { s with heap := h', toks := s.toks + 1 }) : wpAny (model prog w) A (getMethod (.ref so) name pl) Q E s := by
  have X : K.In s.heap := X₀.keeps F.keep
  obtain ⟨hh, g, d, t, os⟩ := s
  cases hc : clsIn K C with
  | none => unfold ks_superIn at hm; rw [hc] at hm; cases hm
  | some cd =>
    unfold ks_superIn at hm
    rw [hc] at hm
    have hC : Looks (model prog w) hh (mroOf (.ref C)) cd.mro := fun A Q E s k q => wpAny_bind ((looks_clsIn X hc) A _ E s k (wpAny_pure q))
    have hI : Looks (model prog w) hh (isInstance (.ref x) (.type "dict")) true := (I.type).andThen (looks_subIn X hsub)
    obtain ⟨F', N', l'⟩ := ks_newsPush (s := ⟨hh, g, d, t, os⟩) (o := bndObj bt id x) F N rfl (Heap.get?_push_at rfl rfl) (fun b o e => Heap.get?_push_of_some _ e)
    rcases hd with ⟨rfl, rfl⟩ | ⟨rfl, rfl, htold⟩
    · refine sup_gm (D := D) (C := C) (x := x) (o' := bndObj "method-wrapper" id x) (N _ hso).1 (fun A Q' hq => ?_) (h _ _ F' N' l')
      exact sup_ga_w (N _ hso).1 (looks_opaque X ho) hC rfl X hm ht (ks_ne X I hc) hn hcut hI hq
    · refine sup_gm (D := D) (C := C) (x := x) (o' := bndObj "builtin_function_or_method" id x) (N _ hso).1 (fun A Q' hq => ?_) (h _ _ F' N' l')
      exact sup_ga_m (N _ hso).1 (looks_opaque X ho) hC rfl X hm ht (ks_ne X I hc) hn hcut hI htold hq
end
end Mine
end
section
open PySem PySem.W PySem.Calls PyProof.Rows
set_option Elab.async false
set_option maxRecDepth 100000
set_option maxHeartbeats 4000000
namespace Mine
section
variable {M : Model} {A : Around} {E : Value → Shared → Prop} {s : Shared} {K : Frag} {env : Env} {pos : Pos} {first : List Value} {Q : Value → Shared → Prop} {h₀ : Heap} {L : Addr} {news : List (Addr × Obj)} {q x : Addr} {bt id : String}
noncomputable def BndP (bt id : String) (q x : Addr) (h : Heap) : Prop := h.get? q = some (bndObj bt id x)
theorem keeps_B (hb : bt = "method-wrapper" ∨ bt = "builtin_function_or_method") (h : Heap) (X : BndP bt id q x h) : ∃ k, (k = Keeper.frame ∨ k = Keeper.machine ∨ k = Keeper.boundFrame) ∧ Looks M h (keeperOf (.ref q)) k := by
  refine ⟨.machine, .inr (.inl rfl), ?_⟩
  unfold keeperOf
  refine (Looks.ld (part := none) X).andThen ?_
  rcases hb with rfl | rfl
  · exact Looks.now
  · exact Looks.now
theorem callWith_B {e : Expr} {rest : List Expr} (N : News h₀ L s.heap news) (hq : (q, bndObj bt id x) ∈ news) (hb : bt = "method-wrapper" ∨ bt = "builtin_function_or_method")
    (h : wpAny M A (spliced (backTo pos (starEach (e :: rest) env))) (fun vs s₁ => BndP bt id q x s₁.heap ∧ wpAny M A (call (.ref q) (first ++ vs)) Q E s₁) E s)
    (he : starEach (e :: rest) env = (false, eval e env) :: starEach rest env) (hplain : (backTo pos (starEach rest env)).any (·.1) = false) :
    wpAny M A (callWith pos (.ref q) first (backTo pos (starEach (e :: rest) env)) []) Q E s := by
  rw [he] at h ⊢
  exact callWith_of (by show ((false || (backTo pos (starEach rest env)).any (·.1)) || false) = false; rw [hplain]; rfl) (keeps_B hb) (evalArgs_plain h)
theorem callWith_B0 (X : BndP bt id q x s.heap) (hb : bt = "method-wrapper" ∨ bt = "builtin_function_or_method") (h : wpAny M A (call (.ref q) (first ++ [])) Q E s) : wpAny M A (callWith pos (.ref q) first (backTo pos (starEach [] env)) []) Q E s :=
  callWith_of rfl (keeps_B hb) (evalArgs_nil3 ⟨X, h⟩)
theorem bndP {h : Heap} (N : News h₀ L h news) (hq : (q, bndObj bt id x) ∈ news) : BndP bt id q x h := (N _ hq).1
end
section
variable {prog : Program} {w : World} {A : Around} {E : Value → Shared → Prop} {s : Shared} {K : Frag} {Q : Value → Shared → Prop} {h₀ : Heap} {L : Addr} {m : Str → Option Value} {news : List (Addr × Obj)} {q x C : Addr} {bt id : String}
/-- the arguments' number is right under the name that a complaint would bear -/
noncomputable def BArgs (id : String) (args : Args) : Prop := (match Manifest.signature? id with | some sig => Bind.checkArgs id { sig with full := s!"{(Str.ofString "CaselessDict").toString}.{Bind.lastOf id}" } args | none => pure ()) = pure ()
theorem check_bound {M : Model} {ox : Obj} {odx : Option Obj} {rest : List Value} {Q : Unit → Shared → Prop} (X : K.In s.heap) (I : PySem.W.InstAt s.heap x ox C odx) (hc : (clsIn K C).map (·.qualname) = some (Str.ofString "CaselessDict")) (hm : typeIn K (.ref C) = some (.type "type"))
    (hmod : subIn K (.ref C) (.type "module") = some false) (hva : Manifest.varargsMethods.contains id = false) (ha : argsOk id ⟨.ref x :: rest, []⟩) (ha2 : BArgs id ⟨.ref x :: rest, []⟩) (h : Q () s) : wpAny M A (checkBoundCall id ⟨.ref x :: rest, []⟩) Q E s := by
  obtain ⟨cd, hcd, hq⟩ := Option.map_eq_some_iff.mp hc
  unfold checkBoundCall
  cases hs : Manifest.signature? id with
  | none => exact wpAny_pure h
  | some sig =>
    have e0 : Bind.checkArgs id sig ⟨.ref x :: rest, []⟩ = pure () := by
      unfold argsOk at ha; rw [hs] at ha; exact ha
    have e2 : Bind.checkArgs id { sig with full := s!"{(Str.ofString "CaselessDict").toString}.{Bind.lastOf id}" } ⟨.ref x :: rest, []⟩ = pure () := by
      unfold BArgs at ha2; rw [hs] at ha2; exact ha2
    cases hk : builtinKind id with
    | none => dsimp only; rw [e0]; exact wpAny_pure h
    | some kind =>
      dsimp only
      split
      · rw [e0]; exact wpAny_pure h
      · have hi : Looks M s.heap (isInstance (.ref x) (.type "module")) false := (I.type).andThen (looks_subIn X hmod)
        refine wpAny_bind (hi.here ?_)
        rw [hva, if_neg (by simp)]
        have ht : wpAny M A (isType (.ref x)) (fun b s' => b = false ∧ s' = s) E s := by
          unfold isType loadHead
          refine wpAny_bind (wpAny_loadPart I.at_ ?_)
          have := I.no
          unfold notCls at this
          cases hdt : ox.data with
          | cls c => rw [hdt] at this; cases this
          | _ => exact wpAny_pure ⟨rfl, rfl⟩
        refine wpAny_bind (wpAny_mono ht (fun b s' hb => ?_) fun _ _ z => z)
        obtain ⟨rfl, rfl⟩ := hb
        rw [if_neg (by simp)]
        refine wpAny_bind (I.type.here ?_)
        refine wpAny_bind ((looks_clsIn X hcd).here ?_)
        refine wpAny_bind ((looks_typeIn X hm).here ?_)
        rw [if_pos (by rfl), hq]
        rw [e2]; exact wpAny_pure h
theorem call_B {ox : Obj} {odx : Option Obj} {rest : List Value} (N : News h₀ L s.heap news) (hq : (q, bndObj bt id x) ∈ news) (hb : bt = "method-wrapper" ∨ bt = "builtin_function_or_method") (X : K.In s.heap) (I : PySem.W.InstAt s.heap x ox C odx)
    (hc : (clsIn K C).map (·.qualname) = some (Str.ofString "CaselessDict")) (hm : typeIn K (.ref C) = some (.type "type")) (hmod : subIn K (.ref C) (.type "module") = some false) (hva : Manifest.varargsMethods.contains id = false) (ha : argsOk id ⟨.ref x :: rest, []⟩) (ha2 : BArgs id ⟨.ref x :: rest, []⟩) (hp : plainId id = true) {b : Builtin} (hen : entryFor table id = some b)
    (h : wpAny (model prog w) A.in1 (b ⟨.ref x :: rest, []⟩) (fun fin s' => ∃ v, fin = .done (.ret v) ∧ Q v s') E s) :
    wpAny (model prog w) A (call (.ref q) rest) Q E s := by
  refine wpAny_call ?_
  refine codeAny_of_tree ?_
  show wpAny _ A.in1 (callAny (.ref q) ⟨rest, []⟩) _ _ _
  unfold callAny
  refine wpAny_bind (wpAny_load (N _ hq).1 ?_)
  dsimp only
  have hif : ((Value.type bt == Value.type "method" || Value.type bt == Value.type "builtin_function_or_method" || Value.type bt == Value.type "method-wrapper") = true) := by
    rcases hb with rfl | rfl <;> rfl
  have hne : (Value.type bt != Value.type "method") = true := by
    rcases hb with rfl | rfl <;> decide
  rw [if_pos hif]
  simp only [List.getElem?_toArray, List.getElem?_cons_zero, List.getElem?_cons_succ]
  rw [if_pos hne]
  refine wpAny_bind (check_bound X I hc hm hmod hva ha ha2 ?_)
  refine wpAny_pure ⟨plainId_quiet hp _, ?_⟩
  refine codeAny_builtin hen ?_
  rw [Around.under_plainId hp]
  refine wpAny_mono h (fun fin s' hf => ?_) fun _ _ z => z
  obtain ⟨v, rfl, hv⟩ := hf
  exact hv
end
end Mine
end
section
open PySem PySem.W PySem.Calls PyProof.Rows
set_option Elab.async false
set_option maxRecDepth 100000
set_option maxHeartbeats 4000000
namespace Mine
theorem room {a k n m : Nat} (h : a + n < m) (hk : k ≤ n) : a + k < m := Nat.lt_of_le_of_lt (Nat.add_le_add_left hk a) h
theorem gen_q {M : Model} {A : Around} {α : Type} {t : Sem α} {Q : α → Shared → Prop} {E : Value → Shared → Prop} {s : Shared} (h : ∀ Q' : α → Shared → Prop, (∀ v s', Q v s' → Q' v s') → wpAny M A t Q' E s) : wpAny M A t Q E s := h Q fun _ _ h => h
theorem lt_cons {y : Addr} {a : Addr × Obj} {l : List (Addr × Obj)} (h : a.1 < y) (hl : ∀ q ∈ l, q.1 < y) : ∀ q ∈ a :: l, q.1 < y := List.forall_mem_cons.mpr ⟨h, hl⟩
theorem one_of {fo : List (Addr × Obj)} {I : Addr} (h : fo.map (·.1) = [I]) : ∃ o, fo = [(I, o)] := by
  rcases fo with _ | ⟨⟨p, o⟩, _ | ⟨q, r⟩⟩
  · cases h
  · cases h; exact ⟨o, rfl⟩
  · cases h
theorem two_of {α : Type} {l : List α} (h : l.length = 2) : ∃ a b, l = [a, b] := by
  rcases l with _ | ⟨a, _ | ⟨b, _ | ⟨c, r⟩⟩⟩
  · cases h
  · cases h
  · exact ⟨a, b, rfl⟩
  · cases h
theorem of_one {fo : List (Addr × Obj)} {I : Addr} (h : fo.map (·.1) = [I]) : ∀ q ∈ fo, q.1 = I := fun q hq => List.mem_singleton.mp (h ▸ List.mem_map_of_mem hq)
noncomputable abbrev dob (c : Value) (od : Option Addr) (es : List DictEntry) (n : Nat) : Obj := ⟨c, od, .dict es.toArray n, #[]⟩
structure Ent (prog : Program) (w : World) (es : List DictEntry) (D : List (Str × Value)) : Prop where
  keys : KeysOf (strKind prog w) es.toArray
  pairs : Pairs (strKind prog w) es D
  nd : (D.map (·.1)).Nodup
  short : D.length ≤ 64
noncomputable def alen (D : List (Str × Value)) : Nat := D.length
theorem upd_N {h₀ h : Heap} {L d : Addr} {m : Str → Option Value} {news news' : List (Addr × Obj)} {o o' : Obj} {f : Obj → Obj} (F : Fr h₀ L h m) (N : News h₀ L h news) (U : Upd d o o' news news') (e : f o = o') (hf : o'.isFreed = false) :
    Fr h₀ L (h.update d f) m ∧ News h₀ L (h.update d f) news' := by
  obtain ⟨pre, post, rfl, rfl, a, b⟩ := U.split
  exact news_upd F N a b e hf
theorem upd_mem {d : Addr} {o o' : Obj} {news news' : List (Addr × Obj)} (U : Upd d o o' news news') : (d, o) ∈ news := by
  obtain ⟨pre, post, rfl, rfl, a, b⟩ := U.split
  simp
section
variable {prog : Program} {w : World} {A : Around} {E : Value → Shared → Prop} {s : Shared} {h₀ : Heap} {L : Addr} {m : Str → Option Value} {news : List (Addr × Obj)} {news' : List DictEntry → Nat → List (Addr × Obj)} {d : Addr} {c : Value} {od : Option Addr} {es : List DictEntry} {n : Nat} {D : List (Str × Value)} {k : Str} {t : Tok} {v : Value}
theorem Ent.nil : Ent prog w [] [] := ⟨fun _ h => by simp at h, .nil, List.nodup_nil, by simp⟩
theorem Ent.len (H : Ent prog w es D) : es.length = D.length := H.pairs.length
theorem Ent.size (H : Ent prog w es D) : es.toArray.size ≤ sizeLine := by
  have := H.len
  have := H.short
  simp only [List.size_toArray, sizeLine]
  omega
theorem is_str (k : Str) (t : Tok) : (strKind prog w).is k (.str k t) = true := strKind_is prog w k t
theorem Ent.idx (H : Ent prog w es D) (k : Str) : (es.toArray.findIdx? fun e => (strKind prog w).is k e.key) = D.findIdx? fun kv => decide (kv.1 = k) := by
  rw [← H.pairs.findIdx k]; simp
theorem Ent.store (H : Ent prog w es D) {i : Nat} (hi : (es.toArray.findIdx? fun e => (strKind prog w).is k e.key) = some i) : Ent prog w (es.modify i fun e => { e with val := v }) (stored D k v) := by
  have hj := hi
  rw [H.idx] at hj
  have hl : (es.findIdx? fun e => (strKind prog w).is k e.key) = some i := by rw [← hi]; simp
  have e : stored D k v = D.map (fun kv => if kv.1 = k then (kv.1, v) else kv) := by rw [stored, if_pos (any_of_findIdx_some hj)]
  refine ⟨?_, ?_, ?_, ?_⟩
  · have := H.keys.modify i v
    simpa using this
  · rw [e]; exact H.pairs.modify H.nd hl v
  · rw [e, keys_map_store]; exact H.nd
  · rw [e]; simpa using H.short
theorem Ent.add (H : Ent prog w es D) (hi : (es.toArray.findIdx? fun e => (strKind prog w).is k e.key) = none) (hz : D.length < 64) : Ent prog w (es ++ [⟨(strKind prog w).hash k, .str k t, v⟩]) (stored D k v) := by
  have hj := hi
  rw [H.idx] at hj
  have hnot : k ∉ D.map (·.1) := not_mem_of_findIdx_none hj
  have hany : ¬ (D.any fun kv => decide (kv.1 = k)) = true := by
    rw [List.any_eq_true]; rintro ⟨kv, hkv, he⟩
    exact hnot (List.mem_map.mpr ⟨kv, hkv, of_decide_eq_true he⟩)
  have e : stored D k v = D ++ [(k, v)] := by rw [stored, if_neg hany]
  refine ⟨?_, ?_, ?_, ?_⟩
  · have := H.keys.push (is_str k t) v
    simpa using this
  · rw [e]; exact H.pairs.append (is_str k t) _ v
  · rw [e, List.map_append, List.nodup_append]
    refine ⟨H.nd, by simp, ?_⟩
    intro a ha b hb
    simp only [List.map_cons, List.map_nil, List.mem_singleton] at hb
    subst hb
    exact fun e => hnot (e ▸ ha)
  · rw [e]; simp; omega
theorem Ent.erase (H : Ent prog w es D) {i : Nat} (hi : (es.toArray.findIdx? fun e => (strKind prog w).is k e.key) = some i) : Ent prog w (es.eraseIdx i) (without D k) := by
  have hl : (es.findIdx? fun e => (strKind prog w).is k e.key) = some i := by rw [← hi]; simp
  refine ⟨?_, H.pairs.erase H.nd hl, nodup_without H.nd k, ?_⟩
  · have := H.keys.erase i
    simpa using this
  · exact Nat.le_trans (List.length_filter_le _ _) H.short
theorem pairs_dropLast {es : List DictEntry} {D : List (Str × Value)} (h : Pairs (strKind prog w) es D) : Pairs (strKind prog w) es.dropLast D.dropLast := by
  induction h with
  | nil => exact .nil
  | cons h1 h2 h3 ih =>
    cases h3 with
    | nil => exact .nil
    | cons a b c => exact .cons h1 h2 ih
theorem Ent.pop (H : Ent prog w es D) : Ent prog w es.dropLast D.dropLast := by
  refine ⟨fun e he => H.keys e ?_, pairs_dropLast H.pairs, ?_, ?_⟩
  · simp only [List.mem_toArray] at he ⊢; exact List.dropLast_subset _ he
  · exact List.Sublist.nodup ((List.dropLast_sublist _).map _) H.nd
  · have := H.short; simp; omega
theorem pairs_last {es : List DictEntry} {D : List (Str × Value)} (h : Pairs (strKind prog w) es D) : (es = [] ∧ D = []) ∨ ∃ e kv, es.getLast? = some e ∧ D.getLast? = some kv ∧ (strKind prog w).is kv.1 e.key = true ∧ e.val = kv.2 := by
  induction h with
  | nil => exact .inl ⟨rfl, rfl⟩
  | @cons e kv es kvs h1 h2 h3 ih =>
    rcases ih with ⟨rfl, rfl⟩ | ⟨e', kv', a, b, c, d⟩
    · exact .inr ⟨e, kv, rfl, rfl, h1, h2⟩
    · refine .inr ⟨e', kv', ?_, ?_, c, d⟩
      · rw [List.getLast?_cons, a]; rfl
      · rw [List.getLast?_cons, b]; rfl
theorem key_str {k : Str} {v : Value} (h : (strKind prog w).is k v = true) : ∃ t, v = .str k t := Value.isStrOf_shape h
/-! the dict's own steps, on any object whose data is a dict of texts -/
theorem dGet (ho : s.heap.get? d = some (dob c od es n)) (H : Ent prog w es D) {Q : Option Value → Shared → Prop} (h : Q (valueAt D k) { s with toks := s.toks + 1 }) : wpAny (model prog w) A (dictGet d (.str k t)) Q E s := by
  unfold dictGet
  try with_reducible refine wpAny_holding ?_
  refine wpAny_bind ((strKind prog w).pyHash (is_str k t) (wpAny_bind (wpAny_dictFind_of (s := { s with toks := s.toks + 1 }) (is_str k t) ho rfl H.keys ?_)))
  rw [← H.pairs.find k] at h
  cases hi : es.toArray.findIdx? fun e => (strKind prog w).is k e.key with
  | none =>
    have : (es.find? fun e => (strKind prog w).is k e.key) = none := by
      rw [List.find?_eq_none]
      intro e he
      have := Array.findIdx?_eq_none_iff.mp hi e (by simpa using he)
      simpa using this
    rw [this] at h
    exact wpAny_pure h
  | some i =>
    have hl : (es.findIdx? fun e => (strKind prog w).is k e.key) = some i := by rw [← hi]; simp
    obtain ⟨e, he, hek, hev⟩ := H.pairs.at hl
    refine wpAny_bind (wpAny_dictEntries (s := { s with toks := s.toks + 1 }) ho rfl (wpAny_pure ?_))
    have he' : es.toArray[i]? = some e := by rw [← he]; simp
    rw [he']
    rw [H.pairs.find k, hev] at h
    exact h
theorem dSet (F : Fr h₀ L s.heap m) (N : News h₀ L s.heap news) (U : ∀ es' n', Upd d (dob c od es n) (dob c od es' n') news (news' es' n')) (H : Ent prog w es D) (hz : D.length < 64) {Q : Unit → Shared → Prop}
    (h : ∀ es' n' h', Ent prog w es' (stored D k v) → Fr h₀ L h' m → News h₀ L h' (news' es' n') → Q () { s with heap := h', toks := s.toks + 1 }) : wpAny (model prog w) A (dictSet d (.str k t) v) Q E s := by
  have ho := (N _ (upd_mem (U es n))).1
  unfold dictSet
  try with_reducible refine wpAny_holding ?_
  refine wpAny_bind ((strKind prog w).pyHash (is_str k t) ?_)
  unfold dictSetHashed
  try with_reducible refine wpAny_holding ?_
  refine wpAny_bind (wpAny_dictFind_of (s := { s with toks := s.toks + 1 }) (is_str k t) ho rfl H.keys ?_)
  cases hi : es.toArray.findIdx? fun e => (strKind prog w).is k e.key with
  | some i =>
    obtain ⟨F', N'⟩ := upd_N (f := Obj.mapDict (·.modify i fun e => { e with val := v })) F N (U (es.modify i fun e => { e with val := v }) n) (by show (⟨_, _, _, _⟩ : Obj) = _; simp) rfl
    exact wpAny_bind (wpAny_rule (wpAny_bind (wpAny_updateDict (s := { s with toks := s.toks + 1 }) ho rfl (wpAny_point (h _ _ _ (H.store hi) F' N')))))
  | none =>
    have hAB := upd_N (f := Obj.mapDictKeys (·.push ⟨(strKind prog w).hash k, .str k t, v⟩)) F N (U (es ++ [⟨(strKind prog w).hash k, .str k t, v⟩]) (n + 1)) (by show (⟨_, _, _, _⟩ : Obj) = _; simp) rfl
    have F' := hAB.1
    have N' := hAB.2
    exact wpAny_bind (wpAny_rule (wpAny_updateDictKeys (hz := H.size) (s := { s with toks := s.toks + 1 }) ho rfl (h _ _ _ (H.add hi hz) F' N')))
theorem dTake (F : Fr h₀ L s.heap m) (N : News h₀ L s.heap news) (U : ∀ es' n', Upd d (dob c od es n) (dob c od es' n') news (news' es' n')) (H : Ent prog w es D) {Q : Option DictEntry → Shared → Prop}
    (h0 : valueAt D k = none → Q none { s with toks := s.toks + 1 })
    (h1 : ∀ e es' n' h', valueAt D k = some e.val → (∃ t', e.key = .str k t') → Ent prog w es' (without D k) → Fr h₀ L h' m → News h₀ L h' (news' es' n') → Q (some e) { s with heap := h', toks := s.toks + 1 }) :
    wpAny (model prog w) A (Builtin.Dict.takeOut d (.str k t)) Q E s := by
  have ho := (N _ (upd_mem (U es n))).1
  unfold Builtin.Dict.takeOut
  try with_reducible refine wpAny_holding ?_
  refine wpAny_bind ((strKind prog w).pyHash (is_str k t) ?_)
  refine wpAny_bind (wpAny_dictFind_of (s := { s with toks := s.toks + 1 }) (is_str k t) ho rfl H.keys ?_)
  cases hi : es.toArray.findIdx? fun e => (strKind prog w).is k e.key with
  | none =>
    refine wpAny_pure (h0 ?_)
    rw [← H.pairs.find k]
    have : (es.find? fun e => (strKind prog w).is k e.key) = none := by
      rw [List.find?_eq_none]
      intro e he
      have := Array.findIdx?_eq_none_iff.mp hi e (by simpa using he)
      simpa using this
    rw [this]; rfl
  | some i =>
    have hl : (es.findIdx? fun e => (strKind prog w).is k e.key) = some i := by rw [← hi]; simp
    obtain ⟨e, he, hek, hev⟩ := H.pairs.at hl
    refine wpAny_bind (wpAny_dictEntries (s := { s with toks := s.toks + 1 }) ho rfl ?_)
    have he' : es.toArray[i]? = some e := by rw [← he]; simp
    rw [he']
    obtain ⟨F', N'⟩ := upd_N (f := Obj.mapDictKeys (·.eraseIdxIfInBounds i)) F N (U (es.eraseIdx i) (n + 1)) (by show (⟨_, _, _, _⟩ : Obj) = _; simp) rfl
    exact wpAny_bind (wpAny_updateDictKeys (hz := H.size) (s := { s with toks := s.toks + 1 }) ho rfl (wpAny_pure (h1 e _ _ _ hev (key_str hek) (H.erase hi) F' N')))
/-- setdefault on the abstract rows -/
noncomputable def defaulted (D : List (Str × Value)) (k : Str) (v : Value) : List (Str × Value) := if (valueAt D k).isSome then D else stored D k v
theorem dDefault (F : Fr h₀ L s.heap m) (N : News h₀ L s.heap news) (U : ∀ es' n', Upd d (dob c od es n) (dob c od es' n') news (news' es' n')) (H : Ent prog w es D) (hz : D.length < 64) {Q : Value → Shared → Prop}
    (h : ∀ es' n' h', Ent prog w es' (defaulted D k v) → Fr h₀ L h' m → News h₀ L h' (news' es' n') → Q ((valueAt D k).getD v) { s with heap := h', toks := s.toks + 1 }) : wpAny (model prog w) A (dictSetDefault d (.str k t) v) Q E s := by
  have ho := (N _ (upd_mem (U es n))).1
  unfold dictSetDefault
  try with_reducible refine wpAny_holding ?_
  refine wpAny_bind ((strKind prog w).pyHash (is_str k t) ?_)
  refine wpAny_bind (wpAny_dictFind_of (s := { s with toks := s.toks + 1 }) (is_str k t) ho rfl H.keys ?_)
  cases hi : es.toArray.findIdx? fun e => (strKind prog w).is k e.key with
  | some i =>
    have hl : (es.findIdx? fun e => (strKind prog w).is k e.key) = some i := by rw [← hi]; simp
    obtain ⟨e, he, hek, hev⟩ := H.pairs.at hl
    refine wpAny_bind (wpAny_dictEntries (s := { s with toks := s.toks + 1 }) ho rfl ?_)
    have he' : es.toArray[i]? = some e := by rw [← he]; simp
    rw [he']
    have hN : News h₀ L s.heap (news' es n) := by
      obtain ⟨pre, post, e1, e2, _, _⟩ := (U es n).split
      rw [e2, ← e1]; exact N
    have := h es n s.heap (by unfold defaulted; rw [hev]; exact H) F hN
    rw [hev] at this
    exact wpAny_bind (wpAny_rule (wpAny_pure this))
  | none =>
    have hv : valueAt D k = none := by
      rw [← H.pairs.find k]
      have : (es.find? fun e => (strKind prog w).is k e.key) = none := by
        rw [List.find?_eq_none]
        intro e he
        have := Array.findIdx?_eq_none_iff.mp hi e (by simpa using he)
        simpa using this
      rw [this]; rfl
    obtain ⟨F', N'⟩ := upd_N (f := Obj.mapDictKeys (·.push ⟨(strKind prog w).hash k, .str k t, v⟩)) F N (U (es ++ [⟨(strKind prog w).hash k, .str k t, v⟩]) (n + 1)) (by show (⟨_, _, _, _⟩ : Obj) = _; simp) rfl
    have := h _ _ _ (by unfold defaulted; rw [hv]; exact H.add hi hz) F' N'
    rw [hv] at this
    exact wpAny_bind (wpAny_rule (wpAny_bind (wpAny_updateDictKeys (hz := H.size) (s := { s with toks := s.toks + 1 }) ho rfl (wpAny_pure this))))
end
end Mine
end
section
open PySem PySem.W PySem.Calls PyProof.Rows
set_option Elab.async false
set_option maxRecDepth 100000
set_option maxHeartbeats 4000000
namespace Mine
section
variable {P : Params}
theorem kf_ord : subIn (Mine.hd.heap_39 P) (.ref 170) (.type "collections.OrderedDict") = some false := by kernel_rfl
theorem kf_dict : subIn (Mine.hd.heap_39 P) (.ref 170) (.type "dict") = some true := by kernel_rfl
theorem kf_module : subIn (Mine.hd.heap_39 P) (.ref 170) (.type "module") = some false := by kernel_rfl
theorem kf_type : typeIn (Mine.hd.heap_39 P) (.ref 170) = some (.type "type") := by kernel_rfl
theorem kf_cls : (clsIn (Mine.hd.heap_39 P) 170).map (·.qualname) = some (Str.ofString "CaselessDict") := by kernel_rfl
theorem kf_missing : findIn (Mine.hd.heap_39 P) (.ref 170) "__missing__" = some none := by kernel_rfl
end
section
variable {prog : Program} {w : World} {A : Around} {E : Value → Shared → Prop} {s : Shared} {h₀ : Heap} {L : Addr} {m : Str → Option Value} {news : List (Addr × Obj)} {news' : List DictEntry → Nat → List (Addr × Obj)} {x : Addr} {c : Value} {od : Option Addr} {es : List DictEntry} {n : Nat} {D : List (Str × Value)} {k : Str} {t : Tok} {v : Value}
noncomputable def NoOrd (prog : Program) (w : World) (s : Shared) (x : Addr) : Prop := ∀ (A : Around) (E : Value → Shared → Prop) (name : String) (rest : List Value) (kw : List (Str × Value)) (Q : Unit → Shared → Prop), Q () s → wpAny (model prog w) A (Builtin.Dict.notOrdered name ⟨.ref x :: rest, kw⟩) Q E s
theorem noOrd_cd {dx : Addr} (X : (Mine.hd.heap_39 w.params).In s.heap) (ho : s.heap.get? x = some (cdObj dx es n)) : NoOrd prog w s x := by
  intro A E name rest kw Q h
  have ht : Looks (model prog w) s.heap (typeOf (.ref x)) (.ref 170) := (Looks.ld ho).andThen .now
  unfold Builtin.Dict.notOrdered
  split
  · refine wpAny_bind (ht.here ?_)
    have hi : Looks (model prog w) s.heap (isInstance (.ref x) (.type "collections.OrderedDict")) false := ht.andThen (looks_subIn X kf_ord)
    show wpAny _ _ (if (Value.ref 170 != Value.type "dict") = true then _ else _) _ _ s
    rw [if_pos (by decide)]
    refine wpAny_bind (hi.here ?_)
    exact wpAny_pure h
  · exact wpAny_pure h
theorem noOrd_dict (ho : s.heap.get? x = some (dictOf es n)) : NoOrd prog w s x := by
  intro A E name rest kw Q h
  exact wpAny_notOrdered_dict (show s.TypeIs (.ref x) "dict" from ⟨_, ho, rfl⟩) h
theorem b_setitem (X : NoOrd prog w s x) (F : Fr h₀ L s.heap m) (N : News h₀ L s.heap news) (U : ∀ es' n', Upd x (dob c od es n) (dob c od es' n') news (news' es' n')) (H : Ent prog w es D) (hz : D.length < 64) {Q : Value → Shared → Prop}
    (h : ∀ es' n' h', Ent prog w es' (stored D k v) → Fr h₀ L h' m → News h₀ L h' (news' es' n') → Q .none { s with heap := h', toks := s.toks + 1 }) :
    wpAny (model prog w) A (Builtin.«dict.__setitem__» ⟨[.ref x, .str k t, v], []⟩) (fun fin s' => ∃ v, fin = .done (.ret v) ∧ Q v s') E s := by
  show wpAny _ _ (Builtin.Dict.notOrdered "__setitem__" ⟨[.ref x, .str k t, v], []⟩ >>= _) _ _ s
  refine wpAny_bind (X _ _ _ _ _ _ ?_)
  show wpAny _ _ (dictSet x (.str k t) v >>= _) _ _ s
  exact wpAny_bind (dSet F N U H hz fun es' n' h' H' F' N' => wpAny_pure ⟨.none, rfl, h es' n' h' H' F' N'⟩)
theorem b_get (ho : s.heap.get? x = some (dob c od es n)) (hd : (x == sysModules) = false) (X : NoOrd prog w s x) (H : Ent prog w es D) {Q : Value → Shared → Prop} (h : Q ((valueAt D k).getD v) { s with toks := s.toks + 1 }) :
    wpAny (model prog w) A (Builtin.«dict.get» ⟨[.ref x, .str k t, v], []⟩) (fun fin s' => ∃ v, fin = .done (.ret v) ∧ Q v s') E s := by
  unfold Builtin.«dict.get»
  refine wpAny_bind ?_
  unfold Builtin.Dict.keyAndDefault
  refine wpAny_bind (X _ _ _ _ _ _ ?_)
  refine wpAny_pure ?_
  refine wpAny_bind (dGet ho H ?_)
  cases hf : valueAt D k with
  | some u => rw [hf] at h; exact wpAny_pure ⟨_, rfl, h⟩
  | none =>
    rw [hf] at h
    exact wpAny_bind (wpAny_missed_other hd (wpAny_pure ⟨_, rfl, h⟩))
theorem b_contains (ho : s.heap.get? x = some (dob c od es n)) (hd : (x == sysModules) = false) (H : Ent prog w es D) {Q : Value → Shared → Prop} (h : Q (.bool (valueAt D k).isSome) { s with toks := s.toks + 1 }) :
    wpAny (model prog w) A (Builtin.«dict.__contains__» ⟨[.ref x, .str k t], []⟩) (fun fin s' => ∃ v, fin = .done (.ret v) ∧ Q v s') E s := by
  show wpAny _ _ (dictGet x (.str k t) >>= _) _ _ s
  refine wpAny_bind (dGet ho H ?_)
  cases hf : valueAt D k with
  | some u => rw [hf] at h; exact wpAny_pure ⟨_, rfl, h⟩
  | none =>
    rw [hf] at h
    exact wpAny_bind (wpAny_pendingKey_other hd (wpAny_pure ⟨_, rfl, h⟩))
theorem b_setdefault (hd : (x == sysModules) = false) (X : NoOrd prog w s x) (F : Fr h₀ L s.heap m) (N : News h₀ L s.heap news) (U : ∀ es' n', Upd x (dob c od es n) (dob c od es' n') news (news' es' n')) (H : Ent prog w es D) (hz : D.length < 64) {Q : Value → Shared → Prop}
    (h : ∀ es' n' h', Ent prog w es' (defaulted D k v) → Fr h₀ L h' m → News h₀ L h' (news' es' n') → Q ((valueAt D k).getD v) { s with heap := h', toks := s.toks + 1 }) :
    wpAny (model prog w) A (Builtin.«dict.setdefault» ⟨[.ref x, .str k t, v], []⟩) (fun fin s' => ∃ v, fin = .done (.ret v) ∧ Q v s') E s := by
  unfold Builtin.«dict.setdefault»
  refine wpAny_bind ?_
  unfold Builtin.Dict.keyAndDefault
  refine wpAny_bind (X _ _ _ _ _ _ ?_)
  refine wpAny_pure ?_
  show wpAny _ _ (if (x == sysModules) = true then _ else (dictSetDefault x (.str k t) v >>= _)) _ _ s
  rw [if_neg (by rw [hd]; exact Bool.false_ne_true)]
  exact wpAny_bind (dDefault F N U H hz fun es' n' h' H' F' N' => wpAny_pure ⟨_, rfl, h es' n' h' H' F' N'⟩)
theorem b_pop (hd : (x == sysModules) = false) (X : NoOrd prog w s x) (F : Fr h₀ L s.heap m) (N : News h₀ L s.heap news) (U : ∀ es' n', Upd x (dob c od es n) (dob c od es' n') news (news' es' n')) (H : Ent prog w es D) {Q : Value → Shared → Prop}
    (h0 : valueAt D k = none → Q v { s with toks := s.toks + 1 })
    (h : ∀ u es' n' h', valueAt D k = some u → Ent prog w es' (without D k) → Fr h₀ L h' m → News h₀ L h' (news' es' n') → Q u { s with heap := h', toks := s.toks + 1 }) :
    wpAny (model prog w) A (Builtin.«dict.pop» ⟨[.ref x, .str k t, v], []⟩) (fun fin s' => ∃ v, fin = .done (.ret v) ∧ Q v s') E s := by
  unfold Builtin.«dict.pop»
  refine wpAny_bind ?_
  unfold Builtin.Dict.keyAndDefault
  refine wpAny_bind (X _ _ _ _ _ _ ?_)
  refine wpAny_pure ?_
  simp only [show (keyPart (Value.str k t)).isSome = true from rfl, if_true]
  refine wpAny_bind (wpAny_pure ?_)
  simp only [Bool.false_eq_true, if_false]
  refine wpAny_bind (dTake F N U H (fun hv => ?_) (fun e es' n' h' hv hk H' F' N' => ?_))
  · simp only [Option.isNone_none, if_true]
    refine wpAny_bind (wpAny_missedRemoval_other hd ?_)
    exact wpAny_bind (wpAny_rule (wpAny_pure ⟨_, rfl, h0 hv⟩))
  · simp only [Option.isNone_some, Bool.false_eq_true, if_false]
    exact wpAny_bind (wpAny_letGo (wpAny_pure ⟨_, rfl, h _ es' n' h' hv H' F' N'⟩))
theorem b_delitem (hd : (x == sysModules) = false) (hh : A.handled = none) (X : NoOrd prog w s x) (F : Fr h₀ L s.heap m) (N : News h₀ L s.heap news) (U : ∀ es' n', Upd x (dob c od es n) (dob c od es' n') news (news' es' n')) (H : Ent prog w es D) {Q : Value → Shared → Prop}
    (h0 : valueAt D k = none → ∀ h' e, Heap.NewExc s.heap h' e "KeyError" → E (.ref e) { s with heap := h', toks := s.toks + 1 })
    (h : ∀ es' n' h', (valueAt D k).isSome = true → Ent prog w es' (without D k) → Fr h₀ L h' m → News h₀ L h' (news' es' n') → Q .none { s with heap := h', toks := s.toks + 1 }) :
    wpAny (model prog w) A (Builtin.«dict.__delitem__» ⟨[.ref x, .str k t], []⟩) (fun fin s' => ∃ v, fin = .done (.ret v) ∧ Q v s') E s := by
  unfold Builtin.«dict.__delitem__»
  refine wpAny_bind ?_
  unfold Builtin.Dict.dictSlotArgs
  refine wpAny_bind (X _ _ _ _ _ _ ?_)
  refine wpAny_pure ?_
  show wpAny _ _ (Builtin.Dict.takeOut x (.str k t) >>= _) _ _ s
  refine wpAny_bind (dTake F N U H (fun hv => ?_) (fun e es' n' h' hv hk H' F' N' => ?_))
  · show wpAny _ _ (Builtin.Dict.missedRemoval x (.str k t) >>= _) _ _ _
    refine wpAny_bind (wpAny_missedRemoval_other hd ?_)
    exact wpAny_bind (wpAny_rule (wpAny_raise_newExc (A := A) plainExc_KeyError hh (h0 hv)))
  · exact wpAny_bind (wpAny_letGo (wpAny_pure ⟨_, rfl, h es' n' h' (by rw [hv]; rfl) H' F' N'⟩))
theorem b_getitem {dx : Addr} (ho : s.heap.get? x = some (cdObj dx es n)) (hdx : s.heap.get? dx = some (dictOf [] 0)) (hd : (x == sysModules) = false) (hh : A.handled = none) (X : (Mine.hd.heap_39 w.params).In s.heap) (H : Ent prog w es D) {Q : Value → Shared → Prop}
    (h0 : valueAt D k = none → ∀ h' e, Heap.NewExc s.heap h' e "KeyError" → E (.ref e) { s with heap := h', toks := s.toks + 1 })
    (h : ∀ u, valueAt D k = some u → Q u { s with toks := s.toks + 1 }) :
    wpAny (model prog w) A (Builtin.«dict.__getitem__» ⟨[.ref x, .str k t], []⟩) (fun fin s' => ∃ v, fin = .done (.ret v) ∧ Q v s') E s := by
  show wpAny _ _ (dictGet x (.str k t) >>= _) _ _ s
  refine wpAny_bind (dGet ho H ?_)
  cases hf : valueAt D k with
  | some u => exact wpAny_pure ⟨_, rfl, h u hf⟩
  | none =>
    refine wpAny_bind (wpAny_missed_other hd ?_)
    have I : PySem.W.InstAt s.heap x (cdObj dx es n) 170 (some (dictOf [] 0)) := ⟨ho, rfl, rfl, hdx⟩
    refine wpAny_bind (Looks.here (s := { s with toks := s.toks + 1 }) (I.type) ?_)
    rw [if_pos (by decide)]
    have hc : wpAny (model prog w) A (callSpecial? (.ref x) "__missing__" [.str k t]) (fun r s' => r = none ∧ s' = { s with toks := s.toks + 1 }) E { s with toks := s.toks + 1 } := by
      unfold callSpecial?
      refine wpAny_bind ?_
      unfold specialOf
      refine wpAny_bind (Looks.here (s := { s with toks := s.toks + 1 }) (I.type) ?_)
      exact Looks.here (s := { s with toks := s.toks + 1 }) (looks_findIn X kf_missing) (wpAny_pure ⟨rfl, rfl⟩)
    refine wpAny_bind (wpAny_mono hc (fun r s' hr => ?_) fun _ _ z => z)
    obtain ⟨rfl, rfl⟩ := hr
    exact wpAny_bind (wpAny_rule (wpAny_raise_newExc (A := A) plainExc_KeyError hh (h0 hf)))
theorem b_popitem (hd : (x == sysModules) = false) (hh : A.handled = none) (X : NoOrd prog w s x) (F : Fr h₀ L s.heap m) (N : News h₀ L s.heap news) (U : ∀ es' n', Upd x (dob c od es n) (dob c od es' n') news (news' es' n')) (H : Ent prog w es D) {Q : Value → Shared → Prop}
    (h0 : D = [] → ∀ h' tk e, Heap.NewExc s.heap h' e "KeyError" → E (.ref e) { s with heap := h', toks := tk })
    (h : ∀ kv t' es' n' h' q, D.getLast? = some kv → Ent prog w es' D.dropLast → Fr h₀ L h' m → News h₀ L h' ((q, { cls := .type "tuple", data := .seq #[.str kv.1 t', kv.2] }) :: news' es' n') → (∀ p ∈ news' es' n', p.1 < q) → Q (.ref q) { s with heap := h' }) :
    wpAny (model prog w) A (Builtin.«dict.popitem» ⟨[.ref x], []⟩) (fun fin s' => ∃ v, fin = .done (.ret v) ∧ Q v s') E s := by
  have ho := (N _ (upd_mem (U es n))).1
  unfold Builtin.«dict.popitem»
  refine wpAny_bind ?_
  unfold Builtin.Dict.noArgs
  refine wpAny_bind (X _ _ _ _ _ _ ?_)
  refine wpAny_pure ?_
  refine wpAny_bind ?_
  unfold Builtin.Dict.showsAll
  rw [if_neg (by rw [hd]; exact Bool.false_ne_true)]
  refine wpAny_pure ?_
  refine wpAny_bind (wpAny_dictEntries ho rfl ?_)
  rcases pairs_last H.pairs with ⟨rfl, rfl⟩ | ⟨e, kv, he, hkv, hk, hv⟩
  · refine wpAny_bind (wpAny_rule ?_)
    exact wpAny_raiseErrorWords plainExc_KeyError hh (h0 rfl)
  · have : es.toArray.back? = some e := by rw [List.back?_toArray]; exact he
    rw [this]
    obtain ⟨t', ht⟩ := key_str hk
    have hAB := upd_N (f := Obj.mapDictKeys (·.pop)) F N (U es.dropLast (n + 1)) (by show (⟨_, _, _, _⟩ : Obj) = _; simp) rfl
    have F' := hAB.1
    have N' := hAB.2
    refine wpAny_bind (wpAny_updateDictKeys (hz := H.size) ho rfl ?_)
    refine wpAny_bind ?_
    rw [ht, hv]
    refine newTuple_N (s := { s with heap := _ }) F' N' (fun h' F'' N'' => ?_) (by simp [sizeLine])
    exact wpAny_pure ⟨_, rfl, h kv t' _ _ _ _ hkv H.pop F'' N'' (fun p hp => Heap.lt_size (N' p hp).1)⟩
end
end Mine
end
section
open PySem PySem.W PySem.Calls PyProof.Rows
set_option Elab.async false
set_option maxRecDepth 100000
set_option maxHeartbeats 4000000
namespace Mine
theorem ty_setitem : typeOf (.builtin "dict.__setitem__") = pure (.type "wrapper_descriptor") := by show builtinType _ = _; rw [builtinType_eq_fast]; kernel_rfl
theorem ty_getitem : typeOf (.builtin "dict.__getitem__") = pure (.type "method_descriptor") := by show builtinType _ = _; rw [builtinType_eq_fast]; kernel_rfl
theorem ty_delitem : typeOf (.builtin "dict.__delitem__") = pure (.type "wrapper_descriptor") := by show builtinType _ = _; rw [builtinType_eq_fast]; kernel_rfl
theorem ty_contains : typeOf (.builtin "dict.__contains__") = pure (.type "method_descriptor") := by show builtinType _ = _; rw [builtinType_eq_fast]; kernel_rfl
theorem ty_get : typeOf (.builtin "dict.get") = pure (.type "method_descriptor") := by show builtinType _ = _; rw [builtinType_eq_fast]; kernel_rfl
theorem ty_setdefault : typeOf (.builtin "dict.setdefault") = pure (.type "method_descriptor") := by show builtinType _ = _; rw [builtinType_eq_fast]; kernel_rfl
theorem ty_pop : typeOf (.builtin "dict.pop") = pure (.type "method_descriptor") := by show builtinType _ = _; rw [builtinType_eq_fast]; kernel_rfl
theorem ty_popitem : typeOf (.builtin "dict.popitem") = pure (.type "method_descriptor") := by show builtinType _ = _; rw [builtinType_eq_fast]; kernel_rfl
theorem ty_init : typeOf (.builtin "dict.__init__") = pure (.type "wrapper_descriptor") := by show builtinType _ = _; rw [builtinType_eq_fast]; kernel_rfl
theorem ba_setitem (a b c : Value) : BArgs "dict.__setitem__" ⟨[a, b, c], []⟩ := by unfold BArgs; kernel_rfl
theorem ba_getitem (a b : Value) : BArgs "dict.__getitem__" ⟨[a, b], []⟩ := by unfold BArgs; kernel_rfl
theorem ba_delitem (a b : Value) : BArgs "dict.__delitem__" ⟨[a, b], []⟩ := by unfold BArgs; kernel_rfl
theorem ba_contains (a b : Value) : BArgs "dict.__contains__" ⟨[a, b], []⟩ := by unfold BArgs; kernel_rfl
theorem ba_get (a b c : Value) : BArgs "dict.get" ⟨[a, b, c], []⟩ := by unfold BArgs; kernel_rfl
theorem ba_setdefault (a b c : Value) : BArgs "dict.setdefault" ⟨[a, b, c], []⟩ := by unfold BArgs; kernel_rfl
theorem ba_pop (a b c : Value) : BArgs "dict.pop" ⟨[a, b, c], []⟩ := by unfold BArgs; kernel_rfl
theorem ba_popitem (a : Value) : BArgs "dict.popitem" ⟨[a], []⟩ := by unfold BArgs; kernel_rfl
theorem ba_init (a : Value) : BArgs "dict.__init__" ⟨[a], []⟩ := by unfold BArgs; kernel_rfl
theorem ao_setitem (a b c : Value) : argsOk "dict.__setitem__" ⟨[a, b, c], []⟩ := by unfold argsOk; kernel_rfl
theorem va_setitem : Manifest.varargsMethods.contains "dict.__setitem__" = false := by decide +kernel
theorem ao_getitem (a b : Value) : argsOk "dict.__getitem__" ⟨[a, b], []⟩ := by unfold argsOk; kernel_rfl
theorem va_getitem : Manifest.varargsMethods.contains "dict.__getitem__" = false := by decide +kernel
theorem ao_delitem (a b : Value) : argsOk "dict.__delitem__" ⟨[a, b], []⟩ := by unfold argsOk; kernel_rfl
theorem va_delitem : Manifest.varargsMethods.contains "dict.__delitem__" = false := by decide +kernel
theorem ao_contains (a b : Value) : argsOk "dict.__contains__" ⟨[a, b], []⟩ := by unfold argsOk; kernel_rfl
theorem va_contains : Manifest.varargsMethods.contains "dict.__contains__" = false := by decide +kernel
theorem ao_get (a b c : Value) : argsOk "dict.get" ⟨[a, b, c], []⟩ := by unfold argsOk; kernel_rfl
theorem va_get : Manifest.varargsMethods.contains "dict.get" = false := by decide +kernel
theorem ao_setdefault (a b c : Value) : argsOk "dict.setdefault" ⟨[a, b, c], []⟩ := by unfold argsOk; kernel_rfl
theorem va_setdefault : Manifest.varargsMethods.contains "dict.setdefault" = false := by decide +kernel
theorem ao_pop (a b c : Value) : argsOk "dict.pop" ⟨[a, b, c], []⟩ := by unfold argsOk; kernel_rfl
theorem va_pop : Manifest.varargsMethods.contains "dict.pop" = false := by decide +kernel
theorem ao_popitem (a : Value) : argsOk "dict.popitem" ⟨[a], []⟩ := by unfold argsOk; kernel_rfl
theorem va_popitem : Manifest.varargsMethods.contains "dict.popitem" = false := by decide +kernel
theorem ao_init (a : Value) : argsOk "dict.__init__" ⟨[a], []⟩ := by unfold argsOk; kernel_rfl
theorem va_init : Manifest.varargsMethods.contains "dict.__init__" = false := by decide +kernel
theorem en_setitem : entryFor table "dict.__setitem__" = some Builtin.«dict.__setitem__» := entryFor_of_tree (by kernel_rfl)
theorem en_getitem : entryFor table "dict.__getitem__" = some Builtin.«dict.__getitem__» := entryFor_of_tree (by kernel_rfl)
theorem en_delitem : entryFor table "dict.__delitem__" = some Builtin.«dict.__delitem__» := entryFor_of_tree (by kernel_rfl)
theorem en_contains : entryFor table "dict.__contains__" = some Builtin.«dict.__contains__» := entryFor_of_tree (by kernel_rfl)
theorem en_get : entryFor table "dict.get" = some Builtin.«dict.get» := entryFor_of_tree (by kernel_rfl)
theorem en_setdefault : entryFor table "dict.setdefault" = some Builtin.«dict.setdefault» := entryFor_of_tree (by kernel_rfl)
theorem en_pop : entryFor table "dict.pop" = some Builtin.«dict.pop» := entryFor_of_tree (by kernel_rfl)
theorem en_popitem : entryFor table "dict.popitem" = some Builtin.«dict.popitem» := entryFor_of_tree (by kernel_rfl)
theorem en_init : entryFor table "dict.__init__" = some Builtin.«dict.__init__» := entryFor_of_tree (by kernel_rfl)
theorem told_get : Manifest.toldItsClass.contains "dict.get" = false := by decide +kernel
theorem told_getitem : Manifest.toldItsClass.contains "dict.__getitem__" = false := by decide +kernel
theorem told_contains : Manifest.toldItsClass.contains "dict.__contains__" = false := by decide +kernel
theorem told_setdefault : Manifest.toldItsClass.contains "dict.setdefault" = false := by decide +kernel
theorem told_pop : Manifest.toldItsClass.contains "dict.pop" = false := by decide +kernel
theorem told_popitem : Manifest.toldItsClass.contains "dict.popitem" = false := by decide +kernel
theorem pl_setitem : plainId "dict.__setitem__" = true := by decide +kernel
theorem pl_getitem : plainId "dict.__getitem__" = true := by decide +kernel
theorem pl_delitem : plainId "dict.__delitem__" = true := by decide +kernel
theorem pl_contains : plainId "dict.__contains__" = true := by decide +kernel
theorem pl_get : plainId "dict.get" = true := by decide +kernel
theorem pl_setdefault : plainId "dict.setdefault" = true := by decide +kernel
theorem pl_pop : plainId "dict.pop" = true := by decide +kernel
theorem pl_popitem : plainId "dict.popitem" = true := by decide +kernel
theorem pl_init : plainId "dict.__init__" = true := by decide +kernel
end Mine
end
section
open PySem PySem.W PySem.Calls PyProof.Rows
set_option Elab.async false
set_option maxRecDepth 100000
set_option maxHeartbeats 4000000
namespace Mine
open Builtin in
theorem dec_entry {c : UInt8} {cs : List UInt8} {t t1 : Tok} : «bytes.decode» ⟨[.bytes (c :: cs).toArray t, .str (PySem.Str.ofString "utf-8") t1], []⟩ = (mkStr (PySem.Str.ofString "utf-8") >>= fun _ => mkStr (PySem.Str.ofString "utf-8") >>= fun e => mkStr (PySem.Str.ofString "bytes.decode") >>= fun d =>
    call (.builtin "_codecs.decode.text") [.bytes (c :: cs).toArray t, e, .none, d] >>= fun v => ret v) := by kernel_rfl
theorem dec_args (a b : Value) : argsOk "bytes.decode" ⟨[a, b], []⟩ := by unfold argsOk; kernel_rfl
open Builtin in
theorem decode1 {prog : Program} {w : World} {A : Around} {E : Value → Shared → Prop} {s : Shared} {c : UInt8} {cs : List UInt8} {t t1 : Tok} {x : PySem.Str} {n : Nat} {Q : Value → Shared → Prop}
    (hd : ∀ id, _codecs.runDecoder id _codecs.utf8Decoder none true (c :: cs).toArray 0 [] = pure (x.cps, n)) (hsz : x.length ≤ 16777216) (h : ∀ t' k, Q (.str x t') { s with toks := k }) :
    wpAny (model prog w) A (call (.builtin "bytes.decode") [.bytes (c :: cs).toArray t, .str (PySem.Str.ofString "utf-8") t1]) Q E s := by
  refine wpAny_call_entry FB.slot_bytes_decode (typeIs_bytes _ _ _) FB.entry_bytes_decode ?_ (dec_args _ _)
  rw [dec_entry]
  refine wpAny_bind (wpAny_mkStr ?_ (by decide))
  refine wpAny_bind (wpAny_mkStr ?_ (by decide))
  refine wpAny_bind (wpAny_mkStr ?_ (by decide))
  refine wpAny_bind (call_function_meets KBd.kind_text KBd.plain_text KBd.entry_text (KBd.args_text _ _ _ _) (KBd.meets_text hd) ⟨by rw [sizeLine_eq]; exact hsz, wpAny_pure ⟨_, rfl, h _ _⟩⟩)
/-- a key in its drawn case, as a text or as octets -/
inductive KeyV : Value → Str → Prop
  | str {k : Str} {t : Tok} : KeyV (.str k t) k
  | bytes {k : Str} {c : UInt8} {cs : List UInt8} {t : Tok} {n : Nat} (hd : ∀ id, PySem.Builtin._codecs.runDecoder id PySem.Builtin._codecs.utf8Decoder none true (c :: cs).toArray 0 [] = pure (k.cps, n)) : KeyV (.bytes (c :: cs).toArray t) k
theorem ne_of_l {q x : Addr} {o : Obj} {r : List (Addr × Obj)} (l : ∀ p ∈ r, p.1 < q) (h : (x, o) ∈ r) : q ≠ x := Nat.ne_of_gt (l _ h)
end Mine
end
section
open PySem PySem.W PySem.Calls PyProof.Rows
set_option Elab.async false
set_option maxRecDepth 100000
set_option maxHeartbeats 4000000
set_option linter.unusedVariables false
namespace Mine
noncomputable abbrev itRec (f0 f1 : Value) (d : Addr) (i n ep : Nat) (f6 f7 : Value) : Obj := { cls := .type "dict_itemiterator", dict := none, data := .fields #[f0, f1, .ref d, .int i 0, .int n 0, .int ep 0, f6, f7], slots := #[] }
noncomputable def ItAt (h : Heap) (it d : Addr) (i n ep : Nat) : Prop := ∃ f0 f1 f6 f7, (f0 = .none ∨ ∃ a : Nat, f0 = rawInt a) ∧ h.get? it = some (itRec f0 f1 d i n ep f6 f7)
section
variable {prog : Program} {w : World} {A : Around} {E : Value → Shared → Prop} {s : Shared} {c : Value} {od : Option Addr} {es : List DictEntry} {it d : Addr} {i ep : Nat}
theorem wpAny_alive {M : Model} {a : Addr} {Q : Option Obj → Shared → Prop} (h : Q (s.heap.get? a) s) : wpAny M A (loadIfAlive a) Q E s := fun Γ p _ => by
  unfold loadIfAlive
  rw [Sem.wp_loadIfAlive, Sem.wp_pure]
  exact h
/-- the pair that the iterator hands out -/
theorem pair_owner {h : Heap} {g : Array GenState} {dr : Drawn} {tk : Nat} {os : OsState} {f0 f1 f6 f7 k v : Value} {n : Nat} {Q : Value → Shared → Prop} (hf : f0 = .none ∨ ∃ a : Nat, f0 = rawInt a) (hit : h.get? it = some (itRec f0 f1 d i n ep f6 f7))
    (hQ : ∀ h', ItAt h' it d i n ep → h'.get? h.objs.size = some { cls := .type "tuple", data := .seq #[k, v] } → h'.objs.size = h.objs.size + 1 → (∀ b o, b ≠ it → h.get? b = some o → h'.get? b = some o) → Q (.ref h.objs.size) ⟨h', g, dr, tk, os⟩) :
    wpAny (model prog w) A (Builtin.Dict_items.pairFromOwner (.ref it) 6 k v) Q E ⟨h, g, dr, tk, os⟩ := by
  have hil : it < h.objs.size := Heap.lt_size hit
  unfold Builtin.Dict_items.pairFromOwner
  refine wpAny_bind (wpAny_newTuple ?_)
  have he : (h.push { cls := .type "tuple", data := .seq [k, v].toArray }).get? it = some (itRec f0 f1 d i n ep f6 f7) := Heap.get?_push_of_some _ hit
  have ht : (h.push { cls := .type "tuple", data := .seq [k, v].toArray }).get? h.objs.size = some { cls := .type "tuple", data := .seq #[k, v] } := Heap.get?_push_size _ rfl
  have hz : (h.push { cls := .type "tuple", data := .seq [k, v].toArray }).objs.size = h.objs.size + 1 := Heap.size_push ..
  have hk : ∀ b o, b ≠ it → h.get? b = some o → (h.push { cls := .type "tuple", data := .seq [k, v].toArray }).get? b = some o := fun b o _ e => Heap.get?_push_of_some _ e
  generalize (h.push { cls := .type "tuple", data := .seq [k, v].toArray }) = h₂ at he ht hz hk
  have free : wpAny (model prog w) A (do
      let o1 ← field (.ref it) 6
      let o2 ← field (.ref it) (6 + 1)
      setField (.ref it) 6 k; setField (.ref it) (6 + 1) v
      setField (.ref it) 0 (rawInt h.objs.size); setField (.ref it) 1 (.bool false)
      letGo [o1, o2] [Value.ref h.objs.size]
      pure (Value.ref h.objs.size)) Q E ⟨h₂, g, dr, tk, os⟩ := by
    refine wpAny_bind (wpAny_field he rfl (x := f6) rfl ?_)
    refine wpAny_bind (wpAny_field he rfl (x := f7) rfl ?_)
    refine wpAny_bind (wpAny_setField_rec he (by simp) fun h₃ he₃ hs₃ => ?_)
    replace hs₃ : Heap.SameBut it h₂ h₃ := hs₃
    replace he₃ : h₃.get? it = some (itRec f0 f1 d i n ep k f7) := he₃
    refine wpAny_bind (wpAny_setField_rec he₃ (by simp) fun h₄ he₄ hs₄ => ?_)
    replace hs₄ : Heap.SameBut it h₃ h₄ := hs₄
    replace he₄ : h₄.get? it = some (itRec f0 f1 d i n ep k v) := he₄
    refine wpAny_bind (wpAny_setField_rec he₄ (by simp) fun h₅ he₅ hs₅ => ?_)
    replace hs₅ : Heap.SameBut it h₄ h₅ := hs₅
    replace he₅ : h₅.get? it = some (itRec (rawInt h.objs.size) f1 d i n ep k v) := he₅
    refine wpAny_bind (wpAny_setField_rec he₅ (by simp) fun h₆ he₆ hs₆ => ?_)
    replace hs₆ : Heap.SameBut it h₅ h₆ := hs₆
    replace he₆ : h₆.get? it = some (itRec (rawInt h.objs.size) (.bool false) d i n ep k v) := he₆
    refine wpAny_bind (wpAny_letGo (wpAny_pure (hQ h₆ ⟨_, _, _, _, .inr ⟨_, rfl⟩, he₆⟩ ?_ ?_ ?_)))
    · exact hs₆.extBut _ _ (Nat.ne_of_gt hil) (hs₅.extBut _ _ (Nat.ne_of_gt hil) (hs₄.extBut _ _ (Nat.ne_of_gt hil) (hs₃.extBut _ _ (Nat.ne_of_gt hil) ht)))
    · show h₆.objs.size = h.objs.size + 1
      rw [hs₆.1, hs₅.1, hs₄.1, hs₃.1, hz]
    · exact fun b o hb e => hs₆.extBut b o hb (hs₅.extBut b o hb (hs₄.extBut b o hb (hs₃.extBut b o hb (hk b o hb e))))
  refine wpAny_bind ?_
  unfold Builtin.Dict_items.ownedTupleIsFree
  refine wpAny_bind (wpAny_field he rfl (x := f0) rfl ?_)
  rcases hf with rfl | ⟨a, rfl⟩
  · refine wpAny_pure ?_
    exact free
  · refine wpAny_bind (wpAny_alive ?_)
    dsimp only
    cases hal : h₂.get? (a : Int).toNat with
    | none =>
      refine wpAny_pure ?_
      exact free
    | some oo =>
      simp only [Option.isNone_some, Bool.false_eq_true, if_false]
      refine wpAny_bind (wpAny_field he rfl (x := f1) rfl ?_)
      have fin : ∀ h₃ : Heap, h₃.get? it = some (itRec (rawInt a) (.bool true) d i n ep f6 f7) ∨ h₃.get? it = some (itRec (rawInt a) f1 d i n ep f6 f7) → (∀ b o, b ≠ it → h₂.get? b = some o → h₃.get? b = some o) → h₃.objs.size = h₂.objs.size → Q (.ref h.objs.size) ⟨h₃, g, dr, tk, os⟩ := by
        intro h₃ h1 h2 h3
        refine hQ h₃ ?_ (h2 _ _ (Nat.ne_of_gt hil) ht) (by rw [h3, hz]) (fun b o hb e => h2 b o hb (hk b o hb e))
        rcases h1 with h1 | h1
        · exact ⟨_, _, _, _, .inr ⟨a, rfl⟩, h1⟩
        · exact ⟨_, _, _, _, .inr ⟨a, rfl⟩, h1⟩
      split
      · refine wpAny_bind (wpAny_setField_rec he (by simp) fun h₃ he₃ hs₃ => ?_)
        refine wpAny_pure ?_
        simp only [Bool.false_eq_true, if_false]
        exact wpAny_pure (fin h₃ (.inl he₃) (fun b o hb e => (show Heap.SameBut it h₂ h₃ from hs₃).extBut b o hb e) (show Heap.SameBut it h₂ h₃ from hs₃).1)
      · refine wpAny_pure ?_
        simp only [Bool.false_eq_true, if_false]
        exact wpAny_pure (fin h₂ (.inr he) (fun _ _ _ e => e) rfl)
end
end Mine
end
section
open PySem PySem.W PySem.Calls PyProof.Rows
set_option Elab.async false
set_option maxRecDepth 100000
set_option maxHeartbeats 4000000
set_option linter.unusedVariables false
namespace Mine
section
variable {prog : Program} {w : World} {A : Around} {E : Value → Shared → Prop} {s : Shared} {c : Value} {od : Option Addr} {es : List DictEntry} {it d : Addr} {i ep : Nat}
theorem next_item {e : DictEntry} {Q : Option Value → Shared → Prop} (hit : ItAt s.heap it d i es.length ep) (hd : s.heap.get? d = some (dob c od es ep)) (hx : es[i]? = some e)
    (hQ : ∀ h', ItAt h' it d (i + 1) es.length ep → h'.get? s.heap.objs.size = some { cls := .type "tuple", data := .seq #[e.key, e.val] } → h'.objs.size = s.heap.objs.size + 1 →
      (∀ b o, b ≠ it → s.heap.get? b = some o → h'.get? b = some o) → Q (some (.ref s.heap.objs.size)) { s with heap := h' }) :
    wpAny (model prog w) A (pyNext (.ref it)) Q E s := by
  obtain ⟨hp, g, dr, tk, os⟩ := s
  obtain ⟨f0, f1, f6, f7, hf, hit⟩ := hit
  have hT : Shared.TypeIs ⟨hp, g, dr, tk, os⟩ (.ref it) "dict_itemiterator" := ⟨_, hit, rfl⟩
  have hlt : i < es.length := (List.getElem?_eq_some_iff.mp hx).1
  unfold pyNext
  refine wpAny_bind (wpAny_attempt (wpAny_callSpecial?_slot (name := Str.ofString "__next__") hT F.slot_dict_itemiterator_next
    (wpAny_call_entry F.slot_dict_itemiterator_next hT F.entry_dict_itemiterator_next ?_ (F.args_dict_itemiterator_next_1 _))))
  refine wpAny_bind (wpAny_pure ?_)
  refine wpAny_bind ?_
  refine wpAny_bind ?_
  refine wpAny_bind (wpAny_typeNameOfWhole_itemiter hT (wpAny_pure ?_))
  refine wpAny_bind (wpAny_fieldsOf hit rfl ?_)
  have hown : Builtin.Dict_items.ownsTuple "dict_itemiterator" = true := by decide
  simp only [hown, if_true]
  show wpAny _ _ (if (Value.ref d == Value.none) = true then _ else _) _ _ _
  rw [if_neg (show ¬ ((Value.ref d == Value.none) = true) from Bool.false_ne_true)]
  refine wpAny_bind (wpAny_pure ?_)
  refine wpAny_bind (wpAny_dictEntries hd rfl ?_)
  rw [if_neg (by simp)]
  refine wpAny_bind (wpAny_pure ?_)
  refine wpAny_bind (wpAny_dictEpoch hd rfl ?_)
  rw [if_neg (by simp)]
  refine wpAny_pure ?_
  have he : es.toArray[(i : Int).toNat]? = some e := by simpa using hx
  simp only [show ¬ ((i : Int) < 0) from room (hk := by decide) hd, if_false, he]
  refine wpAny_bind ?_
  refine wpAny_bind (wpAny_typeNameOfWhole_itemiter hT (wpAny_pure ?_))
  refine wpAny_bind (wpAny_isOneOf_itemiter hT ?_)
  show wpAny _ _ (setField (.ref it) 3 (rawInt ((i : Int) + 1)) >>= _) _ _ ⟨hp, g, dr, tk, os⟩
  refine wpAny_bind (wpAny_setField_rec hit (by simp) fun h₁ he₁ hs₁ => ?_)
  replace hs₁ : Heap.SameBut it hp h₁ := hs₁
  replace he₁ : h₁.get? it = some (itRec f0 f1 d (i + 1) es.length ep f6 f7) := by
    have e : ((i + 1 : Nat) : Int) = (i : Int) + 1 := by omega
    unfold itRec; rw [e]; simpa [rawInt] using he₁
  have hT₁ : Shared.TypeIs ⟨h₁, g, dr, tk, os⟩ (.ref it) "dict_itemiterator" := ⟨_, he₁, rfl⟩
  refine wpAny_bind (wpAny_holding ?_)
  refine wpAny_bind (wpAny_isOneOf_itemiter hT₁ ?_)
  refine wpAny_bind (wpAny_isOneOf_itemiter hT₁ ?_)
  refine pair_owner hf he₁ (fun h' x1 x2 x3 x4 => wpAny_pure ⟨_, rfl, wpAny_pure ?_⟩)
  rw [hs₁.1] at x2 x3 ⊢
  exact hQ h' x1 x2 x3 (fun b o hb eb => x4 b o hb (hs₁.extBut b o hb eb))
theorem next_end {Q : Option Value → Shared → Prop} (hh : A.handled = none) (hit : ItAt s.heap it d es.length es.length ep) (hd : s.heap.get? d = some (dob c od es ep))
    (hQ : ∀ h', (∀ b o, b ≠ it → s.heap.get? b = some o → h'.get? b = some o) → Q none { s with heap := h' }) :
    wpAny (model prog w) A (pyNext (.ref it)) Q E s := by
  obtain ⟨f0, f1, f6, f7, hf, hit⟩ := hit
  have hT : s.TypeIs (.ref it) "dict_itemiterator" := ⟨_, hit, rfl⟩
  unfold pyNext
  refine wpAny_bind (wpAny_attempt (wpAny_callSpecial?_slot (name := Str.ofString "__next__") hT F.slot_dict_itemiterator_next
    (wpAny_call_entry F.slot_dict_itemiterator_next hT F.entry_dict_itemiterator_next ?_ (F.args_dict_itemiterator_next_1 _))))
  refine wpAny_bind (wpAny_pure ?_)
  refine wpAny_bind ?_
  refine wpAny_bind ?_
  refine wpAny_bind (wpAny_typeNameOfWhole_itemiter hT (wpAny_pure ?_))
  refine wpAny_bind (wpAny_fieldsOf hit rfl ?_)
  have hown : Builtin.Dict_items.ownsTuple "dict_itemiterator" = true := by decide
  simp only [hown, if_true]
  show wpAny _ _ (if (Value.ref d == Value.none) = true then _ else _) _ _ s
  rw [if_neg (show ¬ ((Value.ref d == Value.none) = true) from Bool.false_ne_true)]
  refine wpAny_bind (wpAny_pure ?_)
  refine wpAny_bind (wpAny_dictEntries hd rfl ?_)
  rw [if_neg (by simp)]
  refine wpAny_bind (wpAny_pure ?_)
  refine wpAny_bind (wpAny_dictEpoch hd rfl ?_)
  rw [if_neg (by simp)]
  refine wpAny_pure ?_
  have he : es.toArray[(es.length : Int).toNat]? = none := by simp
  simp only [show ¬ ((es.length : Int) < 0) from room (hk := by decide) hd, if_false, he]
  refine wpAny_bind ?_
  refine wpAny_bind (wpAny_typeNameOfWhole_itemiter hT (wpAny_pure ?_))
  show wpAny _ _ (setField (.ref it) 2 .none >>= _) _ _ s
  refine wpAny_bind (wpAny_setField hit rfl (by simp) ?_)
  refine wpAny_bind ?_
  simp only [newExc, newTuple]
  refine wpAny_bind (wpAny_newObj_type ?_ (by size_fits))
  refine wpAny_bind (m := firstArgMember _ _) (wpAny_of_eq (a := Value.none) (by first | rfl | (simp only [firstArgMember]; rfl)) ?_)
  refine wpAny_newObj_type ?_ (by size_fits)
  simp only [raiseNew]
  refine wpAny_bind (wpAny_handled ?_)
  rw [show A.in1.handled = none from hh]
  refine wpAny_bind (wpAny_pure (wpAny_throw ?_))
  refine wpAny_bind (wpAny_isInstance (T := "StopIteration") (b := true) ⟨_, Heap.get?_push_size _ rfl, rfl⟩ isSubtype_stop ?_)
  exact wpAny_pure (hQ _ fun b o hb eb => Heap.get?_push_of_some _ (Heap.get?_push_of_some _ ((Heap.SameBut.update ..).extBut b o hb eb)))
/-! the view: made, and asked for its iterator -/
theorem b_items (hd : (d == sysModules) = false) (X : NoOrd prog w s d) {Q : Value → Shared → Prop}
    (h : Q (.ref s.heap.objs.size) { s with heap := s.heap.push { cls := .type "dict_items", data := .fields #[.ref d] } }) :
    wpAny (model prog w) A (Builtin.«dict.items» ⟨[.ref d], []⟩) (fun fin s' => ∃ v, fin = .done (.ret v) ∧ Q v s') E s := by
  unfold Builtin.«dict.items»
  refine wpAny_bind ?_
  unfold Builtin.Dict.noArgs
  refine wpAny_bind (X _ _ _ _ _ _ ?_)
  refine wpAny_pure ?_
  show wpAny _ _ (Builtin.Dict.showsAll d >>= _) _ _ s
  unfold Builtin.Dict.showsAll
  rw [if_neg (by rw [hd]; exact Bool.false_ne_true)]
  refine wpAny_bind (wpAny_pure ?_)
  exact wpAny_bind (wpAny_newObj_type (wpAny_pure ⟨_, rfl, h⟩))
theorem iter_items {v : Addr} {Q : Value → Shared → Prop} (hv : s.heap.get? v = some { cls := .type "dict_items", data := .fields #[.ref d] }) (hd : s.heap.get? d = some (dob c od es ep))
    (hQ : ∀ h', ItAt h' s.heap.objs.size d 0 es.length ep → h'.objs.size = s.heap.objs.size + 1 → (∀ b o, s.heap.get? b = some o → h'.get? b = some o) → Q (.ref s.heap.objs.size) { s with heap := h' }) :
    wpAny (model prog w) A (pyIter (.ref v)) Q E s := by
  have hT : s.TypeIs (.ref v) "dict_items" := ⟨_, hv, rfl⟩
  refine wpAny_pyIter_slot hT F.slot_dict_items_iter (wpAny_call_entry F.slot_dict_items_iter hT F.entry_dict_items_iter ?_ (F.args_dict_items_iter_1 _))
  unfold Builtin.«dict_items.__iter__»
  refine wpAny_bind (wpAny_pure ?_)
  refine wpAny_bind ?_
  unfold Builtin.Dict_items.dictOf
  refine wpAny_bind (wpAny_field hv rfl (x := .ref d) rfl (wpAny_pure ?_))
  refine wpAny_bind ?_
  unfold Builtin.Dict_items.newIterator
  refine wpAny_bind (wpAny_dictEntries hd rfl ?_)
  refine wpAny_bind (wpAny_dictEpoch hd rfl ?_)
  have hown : Builtin.Dict_items.ownsTuple "dict_itemiterator" = true := by decide
  simp only [hown, if_true]
  refine wpAny_newObj_type (wpAny_pure ⟨_, rfl, "dict_itemiterator", _, ⟨_, Heap.get?_push_size _ rfl, rfl⟩, F.slot_dict_itemiterator_next.lookup, ?_⟩)
    (by simp only [sizeOk, Builtin.Dict_items.ownedTupleFields, List.size_toArray, List.length_append, List.length_cons, List.length_nil, sizeLine_eq]; omega)
  refine hQ _ ⟨.none, .bool false, .none, .none, .inl rfl, ?_⟩ (Heap.size_push ..) (fun b o e => Heap.get?_push_of_some _ e)
  rw [Heap.get?_push_size _ rfl]
  simp [itRec, rawInt, Builtin.Dict_items.ownedTupleFields]
end
end Mine
end
section
open PySem PySem.W PySem.Calls PyProof.Rows
set_option Elab.async false
set_option maxRecDepth 100000
set_option maxHeartbeats 4000000
set_option linter.unusedVariables false
set_option pp.maxSteps 3000
set_option pp.deepTerms false
set_option pp.deepTerms.threshold 6
namespace Mine
theorem has_entry : entryFor table "hasattr" = some Builtin.«hasattr» := entryFor_of_tree (by kernel_rfl)
theorem lk_dict_items : typeLookup (.type "dict") (Str.ofString "items") = pure (some (.builtin "dict.items")) := by rw [typeLookup_type, builtinLookup_eq_fast]; kernel_rfl
theorem lk_md_set : typeLookup (.type "method_descriptor") (Str.ofString "__set__") = pure none := by rw [typeLookup_type, builtinLookup_eq_fast]; kernel_rfl
theorem lk_md_delete : typeLookup (.type "method_descriptor") (Str.ofString "__delete__") = pure none := by rw [typeLookup_type, builtinLookup_eq_fast]; kernel_rfl
theorem owner_items : (".".intercalate ("dict.items".cutAt '.').dropLast) = "dict" := by decide +kernel
theorem sub_items_owner : isSubtype (.type "dict") (.type (".".intercalate ("dict.items".cutAt '.').dropLast)) = pure true := by
  rw [owner_items, isSubtype_type]; kernel_rfl
theorem ty_items : typeOf (.builtin "dict.items") = pure (.type "method_descriptor") := by kernel_rfl
section
variable {prog : Program} {w : World} {A : Around} {E : Value → Shared → Prop} {h : Heap} {g : Array GenState} {d : Drawn} {t : Nat} {os : OsState} {a : Addr} {o : Obj}
theorem ga_items {es : List DictEntry} {n : Nat} {tk : Tok} {Q : Fin → Shared → Prop} (hx : h.get? a = some (dictOf es n))
    (hq : ∀ h' t', (∀ b o, h.get? b = some o → h'.get? b = some o) → Q (.done (.ret (.ref h.objs.size))) ⟨h', g, d, t', os⟩) :
    wpAny (model prog w) A (Builtin.«object.__getattribute__» ⟨[.ref a, .str (Str.ofString "items") tk], []⟩) Q E ⟨h, g, d, t, os⟩ := by
  have hT : (⟨h, g, d, t, os⟩ : Shared).TypeIs (.ref a) "dict" := ⟨_, hx, rfl⟩
  have f4 := lk_dict_items
  have f5 := ty_items
  have hTf : (⟨h, g, d, t, os⟩ : Shared).TypeIs (.builtin "dict.items") "method_descriptor" := ty_items
  have f7 := lk_md_set
  have f8 := lk_md_delete
  have f9 := sub_items_owner
  have f6 := slot_md_get.lookup
  unfold Builtin.«object.__getattribute__»
  repeat (any_goals (first | assumption | (with_reducible refine wpAny_call_entry slot_md_get hTf entry_md_get ?_ (args_md_get _ _ _)) | wp_step))
  exact ⟨_, rfl, wpAny_pure (hq _ _ fun b o e => Heap.get?_push_of_some _ e)⟩
theorem gab_items {es : List DictEntry} {n : Nat} {tk : Tok} {Q : Value → Shared → Prop} (hx : h.get? a = some (dictOf es n))
    (hq : ∀ h' t', (∀ b o, h.get? b = some o → h'.get? b = some o) → Q (.ref h.objs.size) ⟨h', g, d, t', os⟩) :
    wpAny (model prog w) A (getAttrBy (.ref a) (.str (Str.ofString "items") tk) false) Q E ⟨h, g, d, t, os⟩ := by
  have hT : (⟨h, g, d, t, os⟩ : Shared).TypeIs (.ref a) "dict" := ⟨_, hx, rfl⟩
  have f2 := F.slot_dict_getattribute.lookup
  have f3 := F.slot_dict_getattribute.bind (.ref a)
  unfold getAttrBy
  repeat (any_goals (first | assumption | wp_step))
  refine codeAny_call_builtin F.slot_dict_getattribute.plain F.entry_dict_ga (F.slot_dict_getattribute.check _ _ _ _ _ _ _ _ hT (F.args_dict_getattribute_2 _ _) (ga_items hx fun h' t' k => ?_))
  repeat (any_goals (first | assumption | exact hq _ _ k | wp_step))
theorem has_plain : plainId "hasattr" = true := by decide +kernel
theorem has_bk : builtinKind "hasattr" = none := by decide +kernel
theorem has_args (a b : Value) : argsOk "hasattr" ⟨[a, b], []⟩ := by unfold argsOk; kernel_rfl
theorem sub_dict_module : isSubtype (.type "dict") (.type "module") = pure false := by rw [isSubtype_type]; kernel_rfl
theorem has_dict {es : List DictEntry} {n : Nat} {tk : Tok} {Q : Value → Shared → Prop} (hx : h.get? a = some (dictOf es n))
    (hq : ∀ h' t', (∀ b o, h.get? b = some o → h'.get? b = some o) → Q (.bool true) ⟨h', g, d, t', os⟩) :
    wpAny (model prog w) A (call (.builtin "hasattr") [.ref a, .str (Str.ofString "items") tk]) Q E ⟨h, g, d, t, os⟩ := by
  have hT : (⟨h, g, d, t, os⟩ : Shared).TypeIs (.ref a) "dict" := ⟨_, hx, rfl⟩
  have f1 := lk_dict_items
  have f2 := sub_dict_module
  have f3 := F.slot_dict_getattribute.lookup
  refine call_function_any has_bk has_plain has_entry (has_args _ _) ?_
  unfold Builtin.«hasattr» getAttrBy?
  repeat (any_goals (first | assumption | (with_reducible refine gab_items hx fun h' t' k => ?_) | wp_step))
  exact hq _ _ k
end
section
variable {prog : Program} {w : World} {A : Around} {E : Value → Shared → Prop} {s : Shared} {K : Frag} {x C : Addr} {ox : Obj} {odx : Option Obj}
theorem check_cd {M : Model} {id owner n : String} {rest : List Value} {Q : Unit → Shared → Prop} (X : K.In s.heap) (I : PySem.W.InstAt s.heap x ox C odx) (hsub : subIn K (.ref C) (.type owner) = some true)
    (hk : builtinKind id = some .slot ∨ builtinKind id = some .method) (hs : splitId id = some (owner, n)) (ha : argsOk id ⟨.ref x :: rest, []⟩) (h : Q () s) : wpAny M A (checkBuiltinCall id ⟨.ref x :: rest, []⟩) Q E s := by
  have hi : Looks M s.heap (isInstance (.ref x) (.type owner)) true := (I.type).andThen (looks_subIn X hsub)
  rcases hk with hk | hk <;>
  · simp only [checkBuiltinCall, hk, hs]
    refine wpAny_bind (hi.here ?_)
    simp only [Bool.not_true, Bool.false_eq_true, if_false]
    cases hsig : Manifest.signature? id with
    | none => exact wpAny_pure h
    | some sig =>
      simp only [argsOk, hsig] at ha
      have h2 : Bind.checkArgs id sig ⟨.ref x :: rest, []⟩ = pure () := ha
      show wpAny M A (Bind.checkArgs id sig ⟨.ref x :: rest, []⟩) Q E s
      rw [h2]; exact wpAny_pure h
theorem call_cd {id owner n : String} {b : Builtin} {rest : List Value} {Q : Value → Shared → Prop} (X : K.In s.heap) (I : PySem.W.InstAt s.heap x ox C odx) (hsub : subIn K (.ref C) (.type owner) = some true)
    (hk : builtinKind id = some .slot ∨ builtinKind id = some .method) (hs : splitId id = some (owner, n)) (ha : argsOk id ⟨.ref x :: rest, []⟩) (hp : plainId id = true) (hen : entryFor table id = some b)
    (h : wpAny (model prog w) A.in1 (b ⟨.ref x :: rest, []⟩) (fun fin s' => ∃ v, fin = .done (.ret v) ∧ Q v s') E s) : wpAny (model prog w) A (call (.builtin id) (.ref x :: rest)) Q E s := by
  refine wpAny_call (codeAny_call_builtin hp hen (check_cd X I hsub hk hs ha (wpAny_mono h (fun fin s' z => ?_) fun _ _ z => z)))
  obtain ⟨v, rfl, hv⟩ := z
  exact hv
/-- what the class of x says of the name -/
structure Finds (K : Frag) (C : Addr) (odx : Option Obj) : Prop where
  ga : findIn K (.ref C) "__getattribute__" = some (some (.builtin "dict.__getattribute__"))
  hook : findIn K (.ref C) "__getattr__" = some none
  items : findObj K C odx (Str.ofString "items") = some (.bind (.builtin "method_descriptor.__get__") (.builtin "dict.items"))
  dict : subIn K (.ref C) (.type "dict") = some true
  mod : subIn K (.ref C) (.type "module") = some false
theorem kf_finds {P} : Finds (Mine.hd.heap_39 P) 170 (some (dictOf [] 0)) := ⟨by kernel_rfl, by kernel_rfl, by kernel_rfl, by kernel_rfl, by kernel_rfl⟩
theorem ga_kind : builtinKind "dict.__getattribute__" = some .slot := by kernel_rfl
theorem ga_split : splitId "dict.__getattribute__" = some ("dict", "__getattribute__") := by decide +kernel
theorem md_none : specialOf (.builtin "dict.items") "__set__" = pure none := by kernel_rfl
end
section
variable {prog : Program} {w : World} {A : Around} {E : Value → Shared → Prop} {h : Heap} {g : Array GenState} {d : Drawn} {t : Nat} {os : OsState} {x C : Addr} {ox : Obj} {odx : Option Obj} {K : Frag}
theorem ga_items_cd {tk : Tok} {Q : Fin → Shared → Prop} (X : K.In h) (I : PySem.W.InstAt h x ox C odx) (f : Finds K C odx)
    (hq : ∀ h' t', (∀ b o, h.get? b = some o → h'.get? b = some o) → Q (.done (.ret (.ref h.objs.size))) ⟨h', g, d, t', os⟩) :
    wpAny (model prog w) A (Builtin.«object.__getattribute__» ⟨[.ref x, .str (Str.ofString "items") tk], []⟩) Q E ⟨h, g, d, t, os⟩ := by
  have L0 := I.type (M := model prog w)
  have L1 := looks_find (M := model prog w) X I f.items
  have L2 := looks_subIn (M := model prog w) X f.dict
  have f5 := ty_items
  have f9 := owner_items
  have hTf : (⟨h, g, d, t, os⟩ : Shared).TypeIs (.builtin "dict.items") "method_descriptor" := ty_items
  unfold Builtin.«object.__getattribute__»
  repeat (any_goals (first | assumption | (with_reducible refine Looks.at L0 ?_) | (with_reducible refine Looks.at L1 ?_) | (rw [f9]; refine Looks.at L2 ?_) | (with_reducible refine wpAny_call_entry slot_md_get hTf entry_md_get ?_ (args_md_get _ _ _)) | wp_step))
  exact ⟨_, rfl, wpAny_pure (hq _ _ fun b o e => Heap.get?_push_of_some _ e)⟩
end
end Mine
end
section
open PySem PySem.W PySem.Calls PyProof.Rows
set_option Elab.async false
set_option maxRecDepth 100000
set_option maxHeartbeats 4000000
set_option linter.unusedVariables false
set_option pp.maxSteps 3000
set_option pp.deepTerms false
set_option pp.deepTerms.threshold 6
namespace Mine
section
variable {prog : Program} {w : World} {A : Around} {E : Value → Shared → Prop} {h : Heap} {g : Array GenState} {d : Drawn} {t : Nat} {os : OsState} {x C : Addr} {ox : Obj} {odx : Option Obj} {K : Frag}
set_option maxHeartbeats 600000 in
theorem has_cd {tk : Tok} {Q : Value → Shared → Prop} (X : K.In h) (I : PySem.W.InstAt h x ox C odx) (f : Finds K C odx)
    (hq : ∀ h' t', (∀ b o, h.get? b = some o → h'.get? b = some o) → Q (.bool true) ⟨h', g, d, t', os⟩) :
    wpAny (model prog w) A (call (.builtin "hasattr") [.ref x, .str (Str.ofString "items") tk]) Q E ⟨h, g, d, t, os⟩ := by
  have L0 := I.type (M := model prog w)
  have L1 := looks_findIn (M := model prog w) X f.ga
  have L2 := looks_subIn (M := model prog w) X f.mod
  have L3 := looks_findIn (M := model prog w) X f.hook
  have f3 := F.slot_dict_getattribute.bind (.ref x)
  refine call_function_any has_bk has_plain has_entry (has_args _ _) ?_
  unfold Builtin.«hasattr» getAttrBy? getAttrBy
  repeat (any_goals (first | assumption | (with_reducible refine Looks.at L0 ?_) | (with_reducible refine Looks.at L1 ?_) | (with_reducible refine Looks.at L2 ?_) | (with_reducible refine Looks.at L3 ?_) | (with_reducible refine call_cd X I f.dict (.inl ga_kind) ga_split (F.args_dict_getattribute_2 _ _) F.slot_dict_getattribute.plain F.entry_dict_ga ?_) | (with_reducible refine ga_items_cd X I f fun h' t' k => ?_) | wp_step))
  refine codeAny_call_builtin (id := "dict.__getattribute__") F.slot_dict_getattribute.plain F.entry_dict_ga ?_
  refine check_cd (s := ⟨h, g, d, _, os⟩) (id := "dict.__getattribute__") (rest := [.str (Str.ofString "items") tk]) X I f.dict (.inl ga_kind) ga_split (F.args_dict_getattribute_2 _ _) ?_
  refine ga_items_cd X I f fun h' t' k => ?_
  repeat (any_goals (first | assumption | wp_step))
  exact hq _ _ k
end
section
variable {prog : Program} {w : World} {A : Around} {E : Value → Shared → Prop} {s : Shared} {K : Frag} {x C d : Addr} {ox : Obj} {odx : Option Obj} {h₀ : Heap} {L : Addr} {m : Str → Option Value} {news : List (Addr × Obj)}
theorem keepsFN {h h' : Heap} (F : Fr h₀ L h m) (N : News h₀ L h news) (k : ∀ b o, h.get? b = some o → h'.get? b = some o) : Fr h₀ L h' m ∧ News h₀ L h' news := by
  obtain ⟨oL, es, ep, hLo, r⟩ := F.ns
  exact ⟨⟨⟨oL, es, ep, k _ _ hLo, r⟩, fun b o e => k b o (F.keep b o e), F.above⟩, fun p hp => ⟨k _ _ (N p hp).1, (N p hp).2⟩⟩
/-- the same beside a ledger -/
theorem hasD {tk : Tok} {es : List DictEntry} {n : Nat} {Q : Value → Shared → Prop} (F : Fr h₀ L s.heap m) (N : News h₀ L s.heap news) (hd : (d, dictOf es n) ∈ news)
    (hq : ∀ h' t', Fr h₀ L h' m → News h₀ L h' news → Q (.bool true) { s with heap := h', toks := t' }) :
    wpAny (model prog w) A (call (.builtin "hasattr") [.ref d, .str (Str.ofString "items") tk]) Q E s := by
  obtain ⟨hh, g, dr, t, os⟩ := s
  refine has_dict (N _ hd).1 fun h' t' k => ?_
  obtain ⟨F', N'⟩ := keepsFN F N k
  exact hq _ _ F' N'
theorem hasC {tk : Tok} {Q : Value → Shared → Prop} (F : Fr h₀ L s.heap m) (N : News h₀ L s.heap news) (X₀ : K.In h₀) (I : PySem.W.InstAt s.heap x ox C odx) (f : Finds K C odx)
    (hq : ∀ h' t', Fr h₀ L h' m → News h₀ L h' news → Q (.bool true) { s with heap := h', toks := t' }) :
    wpAny (model prog w) A (call (.builtin "hasattr") [.ref x, .str (Str.ofString "items") tk]) Q E s := by
  obtain ⟨hh, g, dr, t, os⟩ := s
  refine has_cd (X₀.keeps F.keep) I f fun h' t' k => ?_
  obtain ⟨F', N'⟩ := keepsFN F N k
  exact hq _ _ F' N'
/-- a new dict-view or iterator is laid -/
theorem itemsD {es : List DictEntry} {n : Nat} {Q : Value → Shared → Prop} (hdm : (d == sysModules) = false) (F : Fr h₀ L s.heap m) (N : News h₀ L s.heap news) (hd : (d, dictOf es n) ∈ news)
    (hq : ∀ v h', Fr h₀ L h' m → News h₀ L h' ((v, { cls := .type "dict_items", data := .fields #[.ref d] }) :: news) → (∀ p ∈ news, p.1 < v) → Q (.ref v) { s with heap := h' }) :
    wpAny (model prog w) A (call (.builtin "dict.items") [.ref d]) Q E s := by
  refine wpAny_call_entry PySem.F.slot_dict_items (show s.TypeIs (.ref d) "dict" from ⟨_, (N _ hd).1, rfl⟩) PySem.F.entry_dict_items ?_ (PySem.F.args_dict_items_1 _)
  refine b_items hdm (noOrd_dict (N _ hd).1) ?_
  obtain ⟨F', N', l⟩ := ks_newsPush (s := s) (o := { cls := .type "dict_items", data := .fields #[.ref d] }) F N rfl (Heap.get?_push_at rfl rfl) (fun b o e => Heap.get?_push_of_some _ e)
  exact hq _ _ F' N' l
theorem items_kind : builtinKind "dict.items" = some .method := by kernel_rfl
theorem items_split : splitId "dict.items" = some ("dict", "items") := by decide +kernel
theorem itemsC {dx : Addr} {es : List DictEntry} {n : Nat} {Q : Value → Shared → Prop} (hdm : (d == sysModules) = false) (F : Fr h₀ L s.heap m) (N : News h₀ L s.heap news) (X₀ : (Mine.hd.heap_39 w.params).In h₀) (hd : (d, cdObj dx es n) ∈ news) (hdx : (dx, dictOf [] 0) ∈ news)
    (hq : ∀ v h', Fr h₀ L h' m → News h₀ L h' ((v, { cls := .type "dict_items", data := .fields #[.ref d] }) :: news) → (∀ p ∈ news, p.1 < v) → Q (.ref v) { s with heap := h' }) :
    wpAny (model prog w) A (call (.builtin "dict.items") [.ref d]) Q E s := by
  have X := X₀.keeps F.keep
  refine call_cd (rest := []) X (inst_cd N hd hdx) kf_dict (.inr items_kind) items_split (PySem.F.args_dict_items_1 _) PySem.F.slot_dict_items.plain PySem.F.entry_dict_items ?_
  refine b_items hdm (noOrd_cd X (N _ hd).1) ?_
  have hAB := ks_newsPush (s := s) (o := { cls := .type "dict_items", data := .fields #[.ref d] }) F N rfl (Heap.get?_push_at rfl rfl) (fun b o e => Heap.get?_push_of_some _ e)
  have F' := hAB.1
  have N' := hAB.2.1
  have l := hAB.2.2
  exact hq _ _ F' N' l
/-- iter of such a view -/
theorem iterV {v : Addr} {c : Value} {od : Option Addr} {es : List DictEntry} {n : Nat} {Q : Value → Shared → Prop} (F : Fr h₀ L s.heap m) (N : News h₀ L s.heap news) (hv : (v, { cls := .type "dict_items", data := .fields #[.ref d] }) ∈ news) (hd : (d, dob c od es n) ∈ news)
    (hq : ∀ i h', ItAt h' i d 0 es.length n → Fr h₀ L h' m → News h₀ L h' news → (∀ p ∈ news, p.1 ≠ i) → L ≠ i → h₀.get? i = none → Q (.ref i) { s with heap := h' }) :
    wpAny (model prog w) A (pyIter (.ref v)) Q E s := by
  refine iter_items (N _ hv).1 (N _ hd).1 fun h' a b k => ?_
  obtain ⟨F', N'⟩ := keepsFN F N k
  obtain ⟨oL, esL, epL, hLo, r⟩ := F.ns
  refine hq _ _ a F' N' (fun p hp => Nat.ne_of_lt (Heap.lt_size (N p hp).1)) (Nat.ne_of_lt (Heap.lt_size hLo)) ?_
  cases e : h₀.get? s.heap.objs.size with
  | none => rfl
  | some o => exact absurd (Heap.lt_size (F.keep _ _ e)) (Nat.lt_irrefl _)
end
end Mine
end
section
open PySem PySem.W PySem.Calls PyProof.Rows
set_option Elab.async false
set_option maxRecDepth 100000
set_option maxHeartbeats 4000000
set_option linter.unusedVariables false
namespace Mine
section
variable {prog : Program} {w : World} {A : Around} {E : Value → Shared → Prop} {s : Shared} {c : Value} {od : Option Addr} {es : List DictEntry} {it d : Addr} {i ep : Nat}
theorem iter_self {Q : Value → Shared → Prop} {n : Nat} (hit : ItAt s.heap it d i n ep) (h : Q (.ref it) s) : wpAny (model prog w) A (pyIter (.ref it)) Q E s := by
  obtain ⟨f0, f1, f6, f7, hf, hit⟩ := hit
  have hT : s.TypeIs (.ref it) "dict_itemiterator" := ⟨_, hit, rfl⟩
  refine wpAny_pyIter_slot hT F.slot_dict_itemiterator_iter (wpAny_call_entry F.slot_dict_itemiterator_iter hT kcp_entry ?_ (F.args_dict_itemiterator_iter_1 _))
  exact wpAny_pure ⟨_, rfl, "dict_itemiterator", _, hT, F.slot_dict_itemiterator_next.lookup, h⟩
theorem let_owned {elts : List Expr} {x1} {pos : Pos} {n : Nat} {v : Value} {Q : Unit → Shared → Prop} (hit : ItAt s.heap it d i n ep)
    (hQ : ∀ h', ItAt h' it d i n ep → (∀ b o, b ≠ it → s.heap.get? b = some o → h'.get? b = some o) → h'.objs.size = s.heap.objs.size → Q () { s with heap := h' }) :
    wpAny (model prog w) A (letOwnedTupleGo (.Tuple elts x1 pos) (.ref it) v) Q E s := by
  obtain ⟨f0, f1, f6, f7, hf, hit⟩ := hit
  cases v with
  | ref a =>
    unfold letOwnedTupleGo
    refine wpAny_bind (wpAny_load hit ?_)
    dsimp only
    split
    · refine wpAny_bind (wpAny_rule ?_)
      exact wpAny_setField_rec hit (by simp) fun h' he' hs' => hQ h' ⟨.none, f1, f6, f7, .inl rfl, he'⟩ (fun b o hb e => hs'.extBut b o hb e) hs'.1
    · exact wpAny_pure (hQ _ ⟨f0, f1, f6, f7, hf, hit⟩ (fun _ _ _ e => e) rfl)
  | _ => exact wpAny_pure (hQ _ ⟨f0, f1, f6, f7, hf, hit⟩ (fun _ _ _ e => e) rfl)
theorem keepFN {h₀ h h' : Heap} {L : Addr} {m : Str → Option Value} {news : List (Addr × Obj)} (F : Fr h₀ L h m) (N : News h₀ L h news) (k : ∀ b o, b ≠ it → h.get? b = some o → h'.get? b = some o) (hL : L ≠ it) (h0 : h₀.get? it = none) (hn : ∀ p ∈ news, p.1 ≠ it) :
    Fr h₀ L h' m ∧ News h₀ L h' news := by
  obtain ⟨oL, es, ep, hLo, r⟩ := F.ns
  exact ⟨⟨⟨oL, es, ep, k _ _ hL hLo, r⟩, fun b o e => k b o (fun q => by rw [q, h0] at e; cases e) (F.keep b o e), F.above⟩, fun p hp => ⟨k _ _ (hn p hp) (N p hp).1, (N p hp).2⟩⟩
end
end Mine
end
section
open PySem PySem.W PySem.Calls PyProof.Rows
set_option Elab.async false
set_option maxRecDepth 100000
set_option maxHeartbeats 1000000
set_option linter.unusedVariables false
set_option pp.maxSteps 3000
set_option pp.deepTerms false
set_option pp.deepTerms.threshold 6
namespace Mine
theorem canon_dict_ga : (Manifest.canonical "dict.__getattribute__" != "object.__getattribute__") = false := by decide +kernel
section
variable {prog : Program} {w : World} {A : Around} {E : Value → Shared → Prop} {s : Shared} {K : Frag} {x C : Addr} {ox : Obj} {od : Option Obj} {name : Str} {pl : Sem Bool} {Q : Value × List Value → Shared → Prop}
theorem method_cd {f : Value} {tf : String} (X : K.In s.heap) (I : PySem.W.InstAt s.heap x ox C od) (hga : findIn K (.ref C) "__getattribute__" = some (some (.builtin "dict.__getattribute__"))) (hk : findIn K (.ref C) "__getattr__" = some none)
    (hf : findIn K (.ref C) name = some (some f)) (ht : typeIn K f = some (.type tf)) (htf : tf = "function" ∨ tf = "method_descriptor") (hs : shadowIn od name = some false) (h : Q (f, [.ref x]) s) :
    wpAny (model prog w) A (getMethod (.ref x) name pl) Q E s := by
  have hcan := canon_dict_ga
  unfold getMethod specialOf
  refine wpAny_bind (wpAny_bind (I.type.here ((looks_findIn X hga).here ?_)))
  dsimp only
  rw [hcan, if_neg (by decide)]
  refine wpAny_bind (wpAny_bind (I.type.here ((looks_findIn X hk).here ?_)))
  refine wpAny_bind (wpAny_bind (I.type.here ((looks_findIn X hf).here (wpAny_bind ((looks_typeIn X ht).here ?_)))))
  rw [if_neg (by rcases htf with rfl | rfl <;> decide +kernel)]
  refine wpAny_bind (wpAny_loadPart I.at_ ?_)
  have hd := I.dict
  cases e : ox.dict with
  | none => exact wpAny_bind (wpAny_rule (wpAny_pure h))
  | some dx =>
    cases od with
    | none => rw [e] at hd; exact hd.elim
    | some o =>
      rw [e] at hd
      obtain ⟨r, a, b⟩ := Option.map_eq_some_iff.mp hs
      refine wpAny_bind (wpAny_bind (wpAny_loadPart hd ?_))
      rw [nsLook_of a]
      cases r with
      | none => exact wpAny_pure (wpAny_bind (wpAny_rule (wpAny_pure h)))
      | some v => cases b
end
theorem kf_ga {P} : findIn (Mine.hd.heap_39 P) (.ref 170) "__getattribute__" = some (some (.builtin "dict.__getattribute__")) := by kernel_rfl
theorem kf_hook {P} : findIn (Mine.hd.heap_39 P) (.ref 170) "__getattr__" = some none := by kernel_rfl
theorem kf_items {P} : findIn (Mine.hd.heap_39 P) (.ref 170) (Str.ofString "items") = some (some (.builtin "dict.items")) := by kernel_rfl
theorem kf_items_ty {P} : typeIn (Mine.hd.heap_39 P) (.builtin "dict.items") = some (.type "method_descriptor") := by kernel_rfl
theorem ky_items : typeOf (.builtin "dict.items") = pure (.type "method_descriptor") := by kernel_rfl
section
variable {prog : Program} {w : World} {A : Around} {E : Value → Shared → Prop} {s : Shared} {K : Frag} {h₀ : Heap} {L d : Addr} {m : Str → Option Value} {news : List (Addr × Obj)} {c : Value} {od : Option Addr} {es : List DictEntry} {n : Nat}
/-- a mapping whose items are read: a plain dict, or a CaselessDict -/
inductive Src (news : List (Addr × Obj)) (d : Addr) : Value → Option Addr → List DictEntry → Nat → Prop
  | dict {es : List DictEntry} {n : Nat} : (d, dictOf es n) ∈ news → Src news d (.type "dict") none es n
  | cd {dx : Addr} {es : List DictEntry} {n : Nat} : (d, cdObj dx es n) ∈ news → (dx, dictOf [] 0) ∈ news → Src news d (.ref 170) (some dx) es n
theorem Src.at_ (S : Src news d c od es n) : (d, dob c od es n) ∈ news := by cases S <;> assumption
theorem Src.has {tk : Tok} {Q : Value → Shared → Prop} (S : Src news d c od es n) (F : Fr h₀ L s.heap m) (N : News h₀ L s.heap news) (X₀ : (Mine.hd.heap_39 w.params).In h₀)
    (hq : ∀ h' t', Fr h₀ L h' m → News h₀ L h' news → Q (.bool true) { s with heap := h', toks := t' }) :
    wpAny (model prog w) A (call (.builtin "hasattr") [.ref d, .str (Str.ofString "items") tk]) Q E s := by
  cases S with
  | dict h => exact hasD F N h hq
  | cd h1 h2 => exact hasC F N X₀ (inst_cd N h1 h2) kf_finds hq
theorem Src.items {Q : Value → Shared → Prop} (S : Src news d c od es n) (hdm : (d == sysModules) = false) (F : Fr h₀ L s.heap m) (N : News h₀ L s.heap news) (X₀ : (Mine.hd.heap_39 w.params).In h₀)
    (hq : ∀ v h', Fr h₀ L h' m → News h₀ L h' ((v, { cls := .type "dict_items", data := .fields #[.ref d] }) :: news) → (∀ p ∈ news, p.1 < v) → Q (.ref v) { s with heap := h' }) :
    wpAny (model prog w) A (call (.builtin "dict.items") [.ref d]) Q E s := by
  cases S with
  | dict h => exact itemsD hdm F N h hq
  | cd h1 h2 => exact itemsC hdm F N X₀ h1 h2 hq
theorem Src.method {pl : Sem Bool} {Q : Value × List Value → Shared → Prop} (S : Src news d c od es n) (F : Fr h₀ L s.heap m) (N : News h₀ L s.heap news) (X₀ : (Mine.hd.heap_39 w.params).In h₀)
    (hq : Q (.builtin "dict.items", [.ref d]) s) : wpAny (model prog w) A (getMethod (.ref d) (Str.ofString "items") pl) Q E s := by
  cases S with
  | dict h => exact getMethod_builtin (show s.TypeIs (.ref d) "dict" from ⟨_, (N _ h).1, rfl⟩) PySem.F.plainAttrs_dict PySem.F.slot_dict_items ky_items (fun o e => by cases e; exact ⟨_, (N _ h).1, rfl⟩) hq
  | cd h1 h2 => exact method_cd (X₀.keeps F.keep) (inst_cd N h1 h2) kf_ga kf_hook kf_items kf_items_ty (.inr rfl) (by rfl) hq
end
section
variable {prog : Program} {w : World} {A : Around} {E : Value → Shared → Prop} {s : Shared} {c : Value} {od : Option Addr} {es : List DictEntry} {it d : Addr} {ep : Nat}
theorem Src.iter {h₀ : Heap} {L v : Addr} {m : Str → Option Value} {news : List (Addr × Obj)} {n : Nat} {Q : Value → Shared → Prop} (S : Src news d c od es n) (F : Fr h₀ L s.heap m) (N : News h₀ L s.heap news) (hv : (v, { cls := .type "dict_items", data := .fields #[.ref d] }) ∈ news)
    (hq : ∀ i f0 f1 f6 f7 h', (f0 = Value.none ∨ ∃ a : Nat, f0 = rawInt a) → Fr h₀ L h' m → News h₀ L h' ((i, itRec f0 f1 d 0 es.length n f6 f7) :: news) → (∀ p ∈ news, p.1 < i) → Q (.ref i) { s with heap := h' }) :
    wpAny (model prog w) A (call (.builtin "iter") [.ref v]) Q E s := by
  refine call_function_entry (by decide +kernel) (by decide +kernel) kdk_entry_iter (kdk_args_iter _) ?_
  unfold Builtin.«iter»
  refine wpAny_bind (m := someArgs "iter" 1 2 _) (wpAny_of_eq (a := [Value.ref v]) (by first | rfl | kernel_rfl!) ?_)
  refine wpAny_bind (iter_items (N _ hv).1 (N _ S.at_).1 fun h' a b k => ?_)
  obtain ⟨f0, f1, f6, f7, hf, hit⟩ := a
  have hAB := ks_newsPush (s := s) F N rfl hit k
  have F' := hAB.1
  have N' := hAB.2.1
  have l := hAB.2.2
  exact wpAny_pure ⟨_, rfl, hq _ _ _ _ _ h' hf F' N' l⟩
end
end Mine
end
section
open PySem PySem.W PySem.Calls PyProof.Rows
set_option Elab.async false
set_option maxRecDepth 100000
set_option maxHeartbeats 1000000
set_option linter.unusedVariables false
set_option pp.maxSteps 3000
set_option pp.deepTerms false
set_option pp.deepTerms.threshold 6
namespace Mine
section
variable {prog : Program} {w : World} {A : Around} {E : Value → Shared → Prop} {s : Shared} {c : Value} {od : Option Addr} {es : List DictEntry} {it d : Addr} {i ep : Nat}
theorem next_key {e : DictEntry} {Q : Option Value → Shared → Prop} (hit : s.heap.IsKeyIter it d i es.length ep) (hm : s.heap.get? d = some (dob c od es ep)) (hx : es[i]? = some e)
    (hQ : ∀ h', h'.IsKeyIter it d (i + 1) es.length ep → Heap.SameBut it s.heap h' → Q (some e.key) { s with heap := h' }) :
    wpAny (model prog w) A (pyNext (.ref it)) Q E s := by
  obtain ⟨o, ho, hc, hd⟩ := id hit
  unfold pyNext
  refine wpAny_bind (wpAny_attempt (wpAny_callSpecial?_slot (name := Str.ofString "__next__") hit.typeIs PySem.F.slot_dict_keyiterator_next
    (wpAny_call_entry PySem.F.slot_dict_keyiterator_next hit.typeIs PySem.F.entry_dict_keyiterator_next ?_ (PySem.F.args_dict_keyiterator_next_1 _))))
  refine wpAny_bind (wpAny_pure ?_)
  refine wpAny_bind ?_
  refine wpAny_bind ?_
  refine wpAny_bind (wpAny_typeNameOfWhole_keyiter hit.typeIs (wpAny_pure ?_))
  refine wpAny_bind (wpAny_fieldsOf ho hd ?_)
  have hown : Builtin.Dict_items.ownsTuple "dict_keyiterator" = false := by decide
  simp only [hown, Bool.false_eq_true, if_false]
  show wpAny _ _ (if (Value.ref d == Value.none) = true then _ else _) _ _ s
  rw [if_neg (show ¬ ((Value.ref d == Value.none) = true) from Bool.false_ne_true)]
  refine wpAny_bind (wpAny_pure ?_)
  refine wpAny_bind (wpAny_dictEntries hm rfl ?_)
  rw [if_neg (by simp)]
  refine wpAny_bind (wpAny_pure ?_)
  refine wpAny_bind (wpAny_dictEpoch hm rfl ?_)
  rw [if_neg (by simp)]
  refine wpAny_pure ?_
  have he : es.toArray[(i : Int).toNat]? = some e := by simpa using hx
  simp only [show ¬ ((i : Int) < 0) from room (hk := by decide) hd, if_false, he]
  refine wpAny_bind ?_
  refine wpAny_bind (wpAny_typeNameOfWhole_keyiter hit.typeIs (wpAny_pure ?_))
  refine wpAny_bind (wpAny_isOneOf_keyiter hit.typeIs ?_)
  show wpAny _ _ (setField (.ref it) 1 (rawInt ((i : Int) + 1)) >>= _) _ _ s
  refine wpAny_bind (wpAny_setField ho hd (by simp) ?_)
  have hit' : (s.heap.update it (Obj.mapFields (·.setIfInBounds 1 (rawInt ((i : Int) + 1))))).IsKeyIter it d (i + 1) es.length ep :=
    ⟨_, Heap.get?_update_self _ ho (Obj.isFreed_of_fields (Obj.data_mapFields hd _)), (Obj.cls_mapFields ..).trans hc, by rw [Obj.data_mapFields hd]; simp [rawInt]⟩
  refine wpAny_bind (wpAny_holding ?_)
  refine wpAny_bind (wpAny_isOneOf_keyiter (s := { s with heap := s.heap.update it (Obj.mapFields (·.setIfInBounds 1 (rawInt ((i : Int) + 1)))) }) hit'.typeIs ?_)
  exact wpAny_pure (wpAny_pure ⟨_, rfl, wpAny_pure (hQ _ hit' (Heap.SameBut.update ..))⟩)
theorem next_key_end {Q : Option Value → Shared → Prop} (hh : A.handled = none) (hit : s.heap.IsKeyIter it d es.length es.length ep) (hm : s.heap.get? d = some (dob c od es ep))
    (hQ : ∀ h', Heap.ExtBut it s.heap h' → Q none { s with heap := h' }) : wpAny (model prog w) A (pyNext (.ref it)) Q E s := by
  obtain ⟨o, ho, hc, hd⟩ := id hit
  unfold pyNext
  refine wpAny_bind (wpAny_attempt (wpAny_callSpecial?_slot (name := Str.ofString "__next__") hit.typeIs PySem.F.slot_dict_keyiterator_next
    (wpAny_call_entry PySem.F.slot_dict_keyiterator_next hit.typeIs PySem.F.entry_dict_keyiterator_next ?_ (PySem.F.args_dict_keyiterator_next_1 _))))
  refine wpAny_bind (wpAny_pure ?_)
  refine wpAny_bind ?_
  refine wpAny_bind ?_
  refine wpAny_bind (wpAny_typeNameOfWhole_keyiter hit.typeIs (wpAny_pure ?_))
  refine wpAny_bind (wpAny_fieldsOf ho hd ?_)
  have hown : Builtin.Dict_items.ownsTuple "dict_keyiterator" = false := by decide
  simp only [hown, Bool.false_eq_true, if_false]
  show wpAny _ _ (if (Value.ref d == Value.none) = true then _ else _) _ _ s
  rw [if_neg (show ¬ ((Value.ref d == Value.none) = true) from Bool.false_ne_true)]
  refine wpAny_bind (wpAny_pure ?_)
  refine wpAny_bind (wpAny_dictEntries hm rfl ?_)
  rw [if_neg (by simp)]
  refine wpAny_bind (wpAny_pure ?_)
  refine wpAny_bind (wpAny_dictEpoch hm rfl ?_)
  rw [if_neg (by simp)]
  refine wpAny_pure ?_
  have he : es.toArray[(es.length : Int).toNat]? = none := by simp
  simp only [show ¬ ((es.length : Int) < 0) from room (hk := by decide) hd, if_false, he]
  refine wpAny_bind ?_
  refine wpAny_bind (wpAny_typeNameOfWhole_keyiter hit.typeIs (wpAny_pure ?_))
  show wpAny _ _ (setField (.ref it) 0 .none >>= _) _ _ s
  refine wpAny_bind (wpAny_setField ho hd (by simp) ?_)
  refine wpAny_bind ?_
  simp only [newExc, newTuple]
  refine wpAny_bind (wpAny_newObj_type ?_ (by size_fits))
  refine wpAny_bind (m := firstArgMember _ _) (wpAny_of_eq (a := Value.none) (by first | rfl | (simp only [firstArgMember]; rfl)) ?_)
  refine wpAny_newObj_type ?_ (by size_fits)
  simp only [raiseNew]
  refine wpAny_bind (wpAny_handled ?_)
  rw [show A.in1.handled = none from hh]
  refine wpAny_bind (wpAny_pure (wpAny_throw ?_))
  refine wpAny_bind (wpAny_isInstance (T := "StopIteration") (b := true) ⟨_, Heap.get?_push_size _ rfl, rfl⟩ isSubtype_stop ?_)
  exact wpAny_pure (hQ _ fun b o hb eb => Heap.get?_push_of_some _ (Heap.get?_push_of_some _ ((Heap.SameBut.update ..).extBut b o hb eb)))
theorem walks_keys (hh : A.handled = none) (I d : Addr) (hne : d ≠ I) (c : Value) (od : Option Addr) (es : List DictEntry) (ep : Nat) :
    Walks prog w A I [I, d] [I] es.length (fun i v => ∃ e, es[i]? = some e ∧ v = e.key) (fun i h => h.IsKeyIter I d i es.length ep ∧ h.get? d = some (dob c od es ep)) where
  sub := fun b hb => by simp at hb; simp [hb]
  frame := fun _ _ _ st hk => ⟨let ⟨o, ho, x⟩ := st.1; ⟨o, hk I (by simp) o ho, x⟩, hk d (by simp) _ st.2⟩
  item := fun i s Q E hi st hQ => by
    have hx : es[i]? = some es[i] := by simp [hi]
    refine next_key st.1 st.2 hx fun h' hit' hs' => ?_
    exact hQ _ h' s.toks ⟨_, hx, rfl⟩ ⟨hit', hs'.extBut _ _ hne st.2⟩ fun b o hb e => hs'.extBut b o (fun h => hb (by simp [h])) e
  done := fun s Q E st hQ => next_key_end hh st.1 st.2 fun h' he' => hQ h' s.toks fun b o hb e => he' b o (fun h => hb (by simp [h])) e
  self := fun _ _ _ _ st hQ => wpAny_pyIter_keyiter st.1 hQ
theorem iter_keys {v : Addr} {Q : Value → Shared → Prop} (hv : KdlKeysView s.heap v d) (hd : s.heap.get? d = some (dob c od es ep))
    (hQ : Q (.ref s.heap.objs.size) { s with heap := s.heap.push { cls := .type "dict_keyiterator", data := .fields #[.ref d, .int 0 0, .int es.length 0, .int ep 0] } }) :
    wpAny (model prog w) A (pyIter (.ref v)) Q E s := by
  obtain ⟨ov, hov, hcv, hdv⟩ := id hv
  refine wpAny_pyIter_slot hv.typeIs kdl_slot_keys_iter (wpAny_call_entry kdl_slot_keys_iter hv.typeIs kdl_entry_keys_iter ?_ (kdl_args_keys_iter _))
  unfold Builtin.«dict_keys.__iter__»
  refine wpAny_bind (wpAny_pure ?_)
  refine wpAny_bind ?_
  unfold Builtin.Dict_items.dictOf
  refine wpAny_bind (wpAny_field hov hdv (x := .ref d) rfl (wpAny_pure ?_))
  refine wpAny_bind ?_
  unfold Builtin.Dict_items.newIterator
  refine wpAny_bind (wpAny_dictEntries hd rfl ?_)
  refine wpAny_bind (wpAny_dictEpoch hd rfl ?_)
  have hown : Builtin.Dict_items.ownsTuple "dict_keyiterator" = false := by decide
  simp only [hown, Bool.false_eq_true, if_false]
  refine wpAny_newObj_type (wpAny_pure ⟨_, rfl, "dict_keyiterator", _, ⟨_, Heap.get?_push_size _ rfl, rfl⟩, PySem.F.slot_dict_keyiterator_next.lookup, ?_⟩)
  simpa [rawInt] using hQ
theorem src_keys {r : Addr} : KdlSrc prog w "dict_keys" r d es.length (fun i v => ∃ e, es[i]? = some e ∧ v = e.key) (fun h => KdlKeysView h r d ∧ h.get? d = some (dob c od es ep)) where
  type := fun _ hm => hm.1.typeIs
  there := fun _ hm => ⟨let ⟨_, ho, _⟩ := hm.1; Heap.lt_size ho, Heap.lt_size hm.2⟩
  keep := fun _ _ hm hk => ⟨let ⟨o, ho, x⟩ := hm.1; ⟨o, hk r (.inl rfl) o ho, x⟩, hk d (.inr rfl) _ hm.2⟩
  notList := by decide
  notTuple := by decide
  hint := fun _ _ _ _ hm hq => kdl_hint_keys hm.1.typeIs hq
  iter := fun _ s hh hm => ⟨_, _, (fun _ _ hq => iter_keys hm.1 hm.2 hq), walks_keys hh _ d (Nat.ne_of_lt (Heap.lt_size hm.2)) c od es ep, ⟨⟨_, Heap.get?_push_size _ rfl, rfl, rfl⟩, Heap.get?_push_of_some _ hm.2⟩⟩
theorem b_keys (hd : (d == sysModules) = false) (X : NoOrd prog w s d) {Q : Value → Shared → Prop}
    (h : Q (.ref s.heap.objs.size) { s with heap := s.heap.push { cls := .type "dict_keys", data := .fields #[.ref d] } }) :
    wpAny (model prog w) A (Builtin.«dict.keys» ⟨[.ref d], []⟩) (fun fin s' => ∃ v, fin = .done (.ret v) ∧ Q v s') E s := by
  refine wpAny_bind ?_
  unfold Builtin.Dict.noArgs
  refine wpAny_bind (X _ _ _ _ _ _ ?_)
  refine wpAny_pure ?_
  show wpAny _ _ (Builtin.Dict.showsAll d >>= _) _ _ s
  unfold Builtin.Dict.showsAll
  rw [if_neg (by rw [hd]; exact Bool.false_ne_true)]
  refine wpAny_bind (wpAny_pure ?_)
  exact wpAny_bind (wpAny_newObj_type (wpAny_pure ⟨_, rfl, h⟩))
end
theorem kf_keys {P} : findIn (Mine.hd.heap_39 P) (.ref 170) (Str.ofString "keys") = some (some (.builtin "dict.keys")) := by kernel_rfl
theorem kf_keys_ty {P} : typeIn (Mine.hd.heap_39 P) (.builtin "dict.keys") = some (.type "method_descriptor") := by kernel_rfl
theorem ky_keys : typeOf (.builtin "dict.keys") = pure (.type "method_descriptor") := by kernel_rfl
theorem keys_kind : builtinKind "dict.keys" = some .method := by kernel_rfl
theorem keys_split : splitId "dict.keys" = some ("dict", "keys") := by decide +kernel
section
variable {prog : Program} {w : World} {A : Around} {E : Value → Shared → Prop} {s : Shared} {h₀ : Heap} {L d : Addr} {m : Str → Option Value} {news : List (Addr × Obj)} {c : Value} {od : Option Addr} {es : List DictEntry} {n : Nat}
theorem Src.keys {Q : Value → Shared → Prop} (S : Src news d c od es n) (hdm : (d == sysModules) = false) (F : Fr h₀ L s.heap m) (N : News h₀ L s.heap news) (X₀ : (Mine.hd.heap_39 w.params).In h₀)
    (hq : ∀ v h', Fr h₀ L h' m → News h₀ L h' ((v, { cls := .type "dict_keys", data := .fields #[.ref d] }) :: news) → (∀ p ∈ news, p.1 < v) → Q (.ref v) { s with heap := h' }) :
    wpAny (model prog w) A (call (.builtin "dict.keys") [.ref d]) Q E s := by
  obtain ⟨F', N', l⟩ := ks_newsPush (s := s) (o := { cls := .type "dict_keys", data := .fields #[.ref d] }) F N rfl (Heap.get?_push_at rfl rfl) (fun b o e => Heap.get?_push_of_some _ e)
  cases S with
  | dict h =>
    refine wpAny_call_entry PySem.F.slot_dict_keys (show s.TypeIs (.ref d) "dict" from ⟨_, (N _ h).1, rfl⟩) PySem.F.entry_dict_keys ?_ (PySem.F.args_dict_keys_1 _)
    exact b_keys hdm (noOrd_dict (N _ h).1) (hq _ _ F' N' l)
  | cd h1 h2 =>
    have X := X₀.keeps F.keep
    refine call_cd (rest := []) X (inst_cd N h1 h2) kf_dict (.inr keys_kind) keys_split (PySem.F.args_dict_keys_1 _) PySem.F.slot_dict_keys.plain PySem.F.entry_dict_keys ?_
    exact b_keys hdm (noOrd_cd X (N _ h1).1) (hq _ _ F' N' l)
theorem Src.method_keys {pl : Sem Bool} {Q : Value × List Value → Shared → Prop} (S : Src news d c od es n) (F : Fr h₀ L s.heap m) (N : News h₀ L s.heap news) (X₀ : (Mine.hd.heap_39 w.params).In h₀)
    (hq : Q (.builtin "dict.keys", [.ref d]) s) : wpAny (model prog w) A (getMethod (.ref d) (Str.ofString "keys") pl) Q E s := by
  cases S with
  | dict h => exact getMethod_builtin (show s.TypeIs (.ref d) "dict" from ⟨_, (N _ h).1, rfl⟩) PySem.F.plainAttrs_dict PySem.F.slot_dict_keys ky_keys (fun o e => by cases e; exact ⟨_, (N _ h).1, rfl⟩) hq
  | cd h1 h2 => exact method_cd (X₀.keeps F.keep) (inst_cd N h1 h2) kf_ga kf_hook kf_keys kf_keys_ty (.inr rfl) (by rfl) hq
/-- list(view of keys) -/
theorem list_keys {v : Addr} {Q : Value → Shared → Prop} (hh : A.handled = none) (F : Fr h₀ L s.heap m) (N : News h₀ L s.heap news) (hv : (v, { cls := .type "dict_keys", data := .fields #[.ref d] }) ∈ news) (hd : (d, dob c od es n) ∈ news) (hz : es.length ≤ 1000)
    (h : ∀ D cnt h' tk, Fr h₀ L h' m → News h₀ L h' ((D, listOf (es.map (·.key)).toArray cnt) :: news) → (∀ q ∈ news, q.1 < D) → Q (.ref D) { s with heap := h', toks := tk }) :
    wpAny (model prog w) A (call (.type "list") [.ref v]) Q E s := by
  refine kdl_N (src_keys (d := d) (r := v) (c := c) (od := od) (es := es) (ep := n)) hh F N ⟨⟨_, (N _ hv).1, rfl, rfl⟩, (N _ hd).1⟩ (by rw [sizeLine_eq]; omega) fun D cnt h' tk vs F' N' l hl hp => ?_
  have e : vs = es.map (·.key) := by
    refine List.ext_getElem? fun j => ?_
    rw [List.getElem?_map]
    cases q : vs[j]? with
    | none =>
      have : es[j]? = none := by rw [List.getElem?_eq_none_iff] at q ⊢; omega
      rw [this]; rfl
    | some u =>
      obtain ⟨e, he, rfl⟩ := hp j u q
      rw [he]; rfl
  rw [e] at N'
  exact h D cnt h' tk F' N' l
end
end Mine
end
section
open PySem PySem.W PySem.Calls PyProof.Rows
set_option Elab.async false
set_option maxRecDepth 100000
set_option maxHeartbeats 1000000
set_option linter.unusedVariables false
set_option pp.maxSteps 3000
set_option pp.deepTerms false
set_option pp.deepTerms.threshold 6
namespace Mine
noncomputable abbrev pairOb (e : DictEntry) : Obj := { cls := .type "tuple", data := .seq #[e.key, e.val] }
/-- fresh tuples, one an entry -/
structure ItG (es : List DictEntry) (lo : Addr) (h : Heap) (as : List Addr) : Prop where
  rise : as.Pairwise (· < ·)
  above : ∀ a ∈ as, lo < a
  pairs : ∀ (j : Nat) (a : Addr), as[j]? = some a → ∃ e, es[j]? = some e ∧ h.get? a = some (pairOb e)
theorem ItG.there {es : List DictEntry} {lo : Addr} {h : Heap} {as : List Addr} (g : ItG es lo h as) {a : Addr} (ha : a ∈ as) : a < h.objs.size := by
  obtain ⟨j, hj⟩ := List.mem_iff_getElem?.mp ha
  obtain ⟨_, _, e⟩ := g.pairs j a hj
  exact Heap.lt_size e
theorem ItG.low {es : List DictEntry} {lo lo' : Addr} {h : Heap} {as : List Addr} (g : ItG es lo h as) (hl : lo' ≤ lo) : ItG es lo' h as := ⟨g.rise, fun a ha => Nat.lt_of_le_of_lt hl (g.above a ha), g.pairs⟩
section
variable {prog : Program} {w : World} {A : Around} {E : Value → Shared → Prop} {s : Shared} {c : Value} {od : Option Addr} {es : List DictEntry} {r d : Addr} {i ep : Nat} {R : Result → Shared → Prop}
theorem itl_loop {S I d : Addr} (hh : A.handled = none) (hSI : S < I) (hSd : d ≠ S) (hId : d ≠ I) (hn : es.length ≤ sizeLine) (res : Value) {h₁ : Heap}
    (hR : ∀ h' tk acc cc as, (∀ b o, b ≠ S → b ≠ I → h₁.get? b = some o → h'.get? b = some o) → h'.get? S = some { cls := .type "list", dict := none, data := .seq acc cc, slots := #[] } → as.length = es.length → ItG es I h' as →
      acc.toList = as.map Value.ref → R (.ok (.ret res)) { s with heap := h', toks := tk }) :
    ∀ (k i : Nat) (h : Heap) (tk cc : Nat) (acc : Array Value) (as : List Addr), es.length - i = k → i ≤ es.length → ItAt h I d i es.length ep → h.get? d = some (dob c od es ep) → (∀ b o, b ≠ S → b ≠ I → h₁.get? b = some o → h.get? b = some o) →
      h.get? S = some { cls := .type "list", dict := none, data := .seq acc cc, slots := #[] } → acc.toList = as.map Value.ref → as.length = i → ItG es I h as → I < h.objs.size →
      codeAny (model prog w) A (.builtin "list.extend.loop" ⟨[.ref S, .ref I, res], []⟩) R { s with heap := h, toks := tk } := by
  have hne : S ≠ I := Nat.ne_of_lt hSI
  intro k
  induction k with
  | zero =>
    intro i h tk cc acc as hk hi hst hD hkeep hS hacc hal hG hIs
    have hin : i = es.length := by omega
    refine codeAny_builtin PySem.F.entry_extend_loop ?_
    rw [Around.under_plainId PySem.F.plain_extend_loop _]
    show wpAny _ A.in1 (pyNext (.ref I) >>= _) _ _ _
    refine wpAny_bind (next_end (s := { s with heap := h, toks := tk }) (A := A.in1) hh (hin ▸ hst) hD fun h' he => ?_)
    refine wpAny_pure (hR h' tk acc cc as (fun b o h1 h2 e => he b o h2 (hkeep b o h1 h2 e)) (he S _ hne hS) (by omega) ⟨hG.rise, hG.above, fun j a hj => ?_⟩ hacc)
    obtain ⟨e, e1, e3⟩ := hG.pairs j a hj
    exact ⟨e, e1, he a _ (Nat.ne_of_gt (hG.above a (List.mem_of_getElem? hj))) e3⟩
  | succ k ih =>
    intro i h tk cc acc as hk hi hst hD hkeep hS hacc hal hG hIs
    have hlt : i < es.length := by omega
    have hx : es[i]? = some es[i] := List.getElem?_eq_getElem hlt
    have hsz : acc.size = i := by rw [← Array.length_toList, hacc, List.length_map, hal]
    refine codeAny_builtin PySem.F.entry_extend_loop ?_
    rw [Around.under_plainId PySem.F.plain_extend_loop _]
    show wpAny _ A.in1 (pyNext (.ref I) >>= _) _ _ _
    refine wpAny_bind (next_item (s := { s with heap := h, toks := tk }) hst hD hx fun h' hst' ht hz hkp => ?_)
    dsimp only at ht hz hkp ⊢
    have hS' := hkp S _ hne hS
    have up : ∀ b o, b ≠ S → h'.get? b = some o → (h'.update S (Obj.mapSeq (·.push (Value.ref h.objs.size)))).get? b = some o := fun b o hb e => (Heap.get?_update_other _ _ (Ne.symm hb)).trans e
    have hSl : S < h.objs.size := Heap.lt_size hS
    refine wpAny_bind ?_
    refine wpAny_updateSeq hS' rfl (wpAny_pure ⟨plainId_quiet PySem.F.plain_extend_loop _, ih (i + 1) _ tk _ (acc.push (Value.ref h.objs.size)) (as ++ [h.objs.size]) (by omega) hlt (let ⟨f0, f1, f6, f7, hf, hit⟩ := hst'; ⟨f0, f1, f6, f7, hf, up _ _ (Ne.symm hne) hit⟩) (up d _ hSd (hkp d _ hId hD))
      (fun b o h1 h2 e => up b o h1 (hkp b o h2 (hkeep b o h1 h2 e))) (Heap.get?_update_self _ hS' rfl) (by rw [Array.toList_push, hacc, List.map_append]; rfl) (by rw [List.length_append, hal]; rfl) ⟨?_, ?_, ?_⟩ ?_⟩) (by rw [hsz]; omega) (by show (acc.push (Value.ref h.objs.size)).size ≤ sizeLine + 1; rw [Array.size_push, hsz]; omega)
    · refine List.pairwise_append.mpr ⟨hG.rise, List.pairwise_singleton _ _, fun a ha b hb => ?_⟩
      rw [List.mem_singleton.mp hb]
      exact hG.there ha
    · intro a ha
      rcases List.mem_append.mp ha with ha | ha
      · exact hG.above a ha
      · rw [List.mem_singleton.mp ha]; exact hIs
    · intro j b hj
      rcases Nat.lt_trichotomy j as.length with h1 | h1 | h1
      · rw [List.getElem?_append_left h1] at hj
        obtain ⟨e, e1, e3⟩ := hG.pairs j b hj
        have hb := hG.above b (List.mem_of_getElem? hj)
        exact ⟨e, e1, up b _ (Nat.ne_of_gt (Nat.lt_trans hSI hb)) (hkp b _ (Nat.ne_of_gt hb) e3)⟩
      · subst h1
        have hb : h.objs.size = b := by simpa using hj
        subst hb
        exact ⟨es[i], by rw [hal]; exact hx, up _ _ (Nat.ne_of_gt hSl) ht⟩
      · have hnone : (as ++ [h.objs.size])[j]? = none := List.getElem?_eq_none (by rw [List.length_append, List.length_singleton]; omega)
        rw [hnone] at hj; cases hj
    · have e : (h'.update S (Obj.mapSeq (·.push (Value.ref h.objs.size)))).get? h.objs.size = _ := up _ _ (Nat.ne_of_gt hSl) ht
      exact Nat.lt_trans hIs (Heap.lt_size e)
theorem itl_extend (hh : A.handled = none) (hv : s.heap.get? r = some { cls := .type "dict_items", data := .fields #[.ref d] }) (hm : s.heap.get? d = some (dob c od es ep)) (S : Addr) (hSr : S ≠ r) (hSd : d ≠ S) (res : Value) (c₀ : Nat) (hS : s.heap.get? S = some { cls := .type "list", data := .seq #[] c₀ })
    (hR : ∀ h' tk acc c as, (∀ b o, b ≠ S → s.heap.get? b = some o → h'.get? b = some o) → h'.get? S = some { cls := .type "list", dict := none, data := .seq acc c, slots := #[] } → as.length = es.length → ItG es s.heap.objs.size h' as →
      acc.toList = as.map Value.ref → R (.ok (.ret res)) { s with heap := h', toks := tk }) (hn : es.length ≤ sizeLine) :
    wpAny (model prog w) A.in1 (Builtin.List.listExtendWith (.ref S) (.ref r) res)
      (fun fin s' => match fin with | .done f => R (.ok f) s' | .again c' => c'.quiet = true ∧ codeAny (model prog w) A c' R s') (fun e s' => R (.error e) s') s := by
  have hSI : S < s.heap.objs.size := Heap.lt_size hS
  have hdI : d < s.heap.objs.size := Heap.lt_size hm
  unfold Builtin.List.listExtendWith
  refine wpAny_bind (wpAny_typeOf (T := "dict_items") ⟨_, hv, rfl⟩ ?_)
  have h1 : Builtin.List.listSameRef (.ref S) (.ref r) = false := by simp [Builtin.List.listSameRef, hSr]
  have h2 : (Value.type "dict_items" == Value.type "list") = false := by decide
  have h3 : (Value.type "dict_items" == Value.type "tuple") = false := by decide
  simp only [h1, h2, h3, Bool.or_false, Bool.false_eq_true, if_false]
  refine wpAny_bind (iter_items hv hm fun h₂ hit hz₂ hk₂ => ?_)
  have key : ∀ (h : Heap) (c₁ tk : Nat), (∀ b o, b ≠ S → h₂.get? b = some o → h.get? b = some o) →
      h.get? S = some { cls := .type "list", data := .seq #[] c₁ } → codeAny (model prog w) A (.builtin "list.extend.loop" ⟨[.ref S, .ref s.heap.objs.size, res], []⟩) R { s with heap := h, toks := tk } := by
    intro h c₁ tk hk hS₁
    obtain ⟨f0, f1, f6, f7, hf, hit⟩ := hit
    have hI := hk s.heap.objs.size _ (Nat.ne_of_gt hSI) hit
    refine itl_loop (c := c) (od := od) (es := es) (ep := ep) (s := s) (h₁ := s.heap) hh hSI hSd (Nat.ne_of_lt hdI) hn res (fun h' tk' acc c as hk' hS' hl hG hacc => hR h' tk' acc c as (fun b o hb e => hk' b o hb (Nat.ne_of_lt (Heap.lt_size e)) e) hS' hl hG hacc)
      es.length 0 h tk c₁ #[] [] (Nat.sub_zero _) (Nat.zero_le _) ⟨f0, f1, f6, f7, hf, hI⟩ (hk d _ hSd (hk₂ _ _ hm)) (fun b o hb _ e => hk b o hb (hk₂ _ _ e)) hS₁ rfl rfl
      ⟨List.Pairwise.nil, (fun _ ha => nomatch ha), (fun j a hj => by simp at hj)⟩ (Heap.lt_size hI)
  have hS₁ := hk₂ _ _ hS
  refine wpAny_bind (wpAny_holding (kdx_hint ⟨_, hk₂ _ _ hv, rfl⟩ ?_))
  refine wpAny_ite_split (fun _ => ?_) (fun _ => wpAny_pure ⟨plainId_quiet PySem.F.plain_extend_loop _, key _ c₀ _ (fun b o _ e => e) hS₁⟩)
  refine wpAny_bind (wpAny_rule ?_)
  refine wpAny_bind ?_
  show wpAny _ _ (updateSeq S (·.push .none) >>= fun _ => updateSeq S (·.pop)) _ _ _
  refine wpAny_bind (wpAny_updateSeq hS₁ rfl ?_)
  have hS₂ := Heap.get?_update_self (Obj.mapSeq (·.push Value.none)) hS₁ rfl
  refine wpAny_updateSeq (hz := by seq_fits) hS₂ rfl ?_
  have hS₃ := Heap.get?_update_self (Obj.mapSeq (·.pop)) hS₂ rfl
  refine wpAny_pure ⟨plainId_quiet PySem.F.plain_extend_loop _, key _ _ _ (fun b o hb e => ?_) hS₃⟩
  exact (Heap.get?_update_other _ _ (Ne.symm hb)).trans ((Heap.get?_update_other _ _ (Ne.symm hb)).trans e)
theorem itl_init (hh : A.handled = none) (hv : s.heap.get? r = some { cls := .type "dict_items", data := .fields #[.ref d] }) (hm : s.heap.get? d = some (dob c od es ep)) (S : Addr) (hSr : S ≠ r) (hSd : d ≠ S) (hS : s.heap.get? S = some { cls := .type "list", data := .seq #[] })
    (hR : ∀ h' tk acc c as, (∀ b o, b ≠ S → s.heap.get? b = some o → h'.get? b = some o) → h'.get? S = some { cls := .type "list", dict := none, data := .seq acc c, slots := #[] } → as.length = es.length → ItG es S h' as →
      acc.toList = as.map Value.ref → R (.ok (.ret .none)) { s with heap := h', toks := tk }) (hn : es.length ≤ sizeLine) :
    wpAny (model prog w) A.in1 (Builtin.«list.__init__» ⟨[.ref S, .ref r], []⟩)
      (fun fin s' => match fin with | .done f => R (.ok f) s' | .again c' => c'.quiet = true ∧ codeAny (model prog w) A c' R s') (fun e s' => R (.error e) s') s := by
  show wpAny _ _ (do let old ← Builtin.List.listItems (.ref S); Builtin.List.listUpdate (.ref S) (fun _ => #[]); letGo old.toList.reverse; Builtin.List.listExtendWith (.ref S) (.ref r) .none) _ _ s
  refine wpAny_bind ?_
  unfold Builtin.List.listItems
  refine wpAny_bind (wpAny_seqItems hS rfl (wpAny_pure ?_))
  refine wpAny_bind (wpAny_updateSeq hS rfl ?_)
  have hS₂ := Heap.get?_update_self (Obj.mapSeq (fun _ => (#[] : Array Value))) hS rfl
  have oth : ∀ b o, b ≠ S → s.heap.get? b = some o → (s.heap.update S (Obj.mapSeq (fun _ => (#[] : Array Value)))).get? b = some o :=
    fun b o hb e => (Heap.get?_update_other _ _ (Ne.symm hb)).trans e
  refine wpAny_bind (wpAny_letGo ?_)
  refine itl_extend (c := c) (od := od) (es := es) (ep := ep) hh (oth r _ hSr.symm hv) (oth d _ hSd hm) S hSr hSd .none _ hS₂ (fun h' tk acc c as hk hS' hl hG hacc => ?_) hn
  exact hR h' tk acc c as (fun b o hb e => hk b o hb (oth b o hb e)) hS' hl (hG.low (Nat.le_of_lt (Heap.lt_size hS₂))) hacc
theorem itl_call {Q : Value → Shared → Prop} (hh : A.handled = none) (hv : s.heap.get? r = some { cls := .type "dict_items", data := .fields #[.ref d] }) (hm : s.heap.get? d = some (dob c od es ep)) (hn : es.length ≤ sizeLine)
    (hQ : ∀ h' tk acc c as, (∀ b o, s.heap.get? b = some o → h'.get? b = some o) → h'.get? s.heap.objs.size = some { cls := .type "list", dict := none, data := .seq acc c, slots := #[] } → as.length = es.length → ItG es s.heap.objs.size h' as →
      acc.toList = as.map Value.ref → Q (.ref s.heap.objs.size) { s with heap := h', toks := tk }) :
    wpAny (model prog w) A (call (.type "list") [.ref r]) Q E s := by
  refine callType_codes (Q₁ := fun obj s₁ => obj = .ref s.heap.objs.size ∧ s₁ = { s with heap := s.heap.push { cls := .type "list", data := .seq #[] } }) PySem.F.called_list (PySem.F.typeCall_list_1 _) PySem.F.entry_list_init
    (code_list_new _ ⟨rfl, rfl⟩) fun obj s₁ h₁ => ?_
  obtain ⟨rfl, rfl⟩ := h₁
  have hS : (s.heap.push { cls := .type "list", data := .seq #[] }).get? s.heap.objs.size = some { cls := .type "list", data := .seq #[] } := Heap.get?_push_size _ rfl
  have hr : r < s.heap.objs.size := Heap.lt_size hv
  have hd : d < s.heap.objs.size := Heap.lt_size hm
  refine ⟨⟨_, hS, rfl⟩, PySem.F.args_list_init_2 _ _, itl_init (c := c) (od := od) (es := es) (ep := ep) (A := A.in1) hh (Heap.get?_push_of_some _ hv) (Heap.get?_push_of_some _ hm) _ (Nat.ne_of_gt hr) (Nat.ne_of_lt hd) hS (fun h' tk acc c as hk hS' hl hG hacc => ?_) hn⟩
  exact ⟨rfl, hQ h' tk acc c as (fun b o e => hk b o (Nat.ne_of_lt (Heap.lt_size e)) (Heap.get?_push_of_some _ e)) hS' hl hG hacc⟩
end
noncomputable def tupsOf (es : List DictEntry) (as : List Addr) : List (Addr × Obj) := List.zipWith (fun a e => (a, pairOb e)) as es
theorem tupsOf_mem {es : List DictEntry} {as : List Addr} {q : Addr × Obj} (h : q ∈ tupsOf es as) : ∃ (j : Nat) (e : DictEntry), as[j]? = some q.1 ∧ es[j]? = some e ∧ q.2 = pairOb e := by
  obtain ⟨j, hj⟩ := List.mem_iff_getElem?.mp h
  rw [tupsOf, List.getElem?_zipWith] at hj
  split at hj
  · next a e h1 h2 => obtain rfl := Option.some.inj hj; exact ⟨j, e, h1, h2, rfl⟩
  · cases hj
theorem tupsOf_get {es : List DictEntry} {as : List Addr} {j : Nat} {a : Addr} {e : DictEntry} (h1 : as[j]? = some a) (h2 : es[j]? = some e) : (a, pairOb e) ∈ tupsOf es as := by
  refine List.mem_iff_getElem?.mpr ⟨j, ?_⟩
  rw [tupsOf, List.getElem?_zipWith, h1, h2]
section
variable {prog : Program} {w : World} {A : Around} {E : Value → Shared → Prop} {s : Shared} {h₀ : Heap} {L d : Addr} {m : Str → Option Value} {news : List (Addr × Obj)} {c : Value} {od : Option Addr} {es : List DictEntry} {n : Nat}
/-- list(view of items) -/
theorem list_items {v : Addr} {Q : Value → Shared → Prop} (hh : A.handled = none) (F : Fr h₀ L s.heap m) (N : News h₀ L s.heap news) (hv : (v, { cls := .type "dict_items", data := .fields #[.ref d] }) ∈ news) (hd : (d, dob c od es n) ∈ news) (hz : es.length ≤ 1000)
    (h : ∀ D cnt h' tk as, as.length = es.length → as.Pairwise (· < ·) → (∀ a ∈ as, D < a) → Fr h₀ L h' m → News h₀ L h' (tupsOf es as ++ (D, listOf (as.map Value.ref).toArray cnt) :: news) → (∀ q ∈ news, q.1 < D) → Q (.ref D) { s with heap := h', toks := tk }) :
    wpAny (model prog w) A (call (.type "list") [.ref v]) Q E s := by
  refine itl_call (c := c) (od := od) (es := es) (ep := n) hh (N _ hv).1 (N _ hd).1 (by rw [sizeLine_eq]; omega) fun h' tk acc cc as hk hS hl hG hacc => ?_
  have ea : acc = (as.map Value.ref).toArray := by rw [← hacc, Array.toArray_toList]
  subst ea
  have fresh : ∀ x, s.heap.objs.size ≤ x → x ≠ L ∧ h₀.get? x = none := fun x hx => kdx_fresh F hx
  refine h _ cc h' tk as hl hG.rise hG.above (F.keeps hk) (fun q hq => ?_) fun q hq => Heap.lt_size (N q hq).1
  rcases List.mem_append.mp hq with hq | hq
  · obtain ⟨j, e, h1, h2, h3⟩ := tupsOf_mem hq
    obtain ⟨e', h4, h5⟩ := hG.pairs j _ h1
    rw [h2] at h4
    obtain rfl := Option.some.inj h4
    obtain ⟨f1, f2⟩ := fresh q.1 (Nat.le_of_lt (hG.above _ (List.mem_of_getElem? h1)))
    exact ⟨h3 ▸ h5, f1, f2⟩
  · rcases List.mem_cons.mp hq with rfl | hq
    · exact ⟨hS, fresh _ (Nat.le_refl _)⟩
    · exact ⟨hk _ _ (N q hq).1, (N q hq).2⟩
end
end Mine
end
section
open PySem PySem.W PySem.Calls PyProof.Rows
set_option Elab.async false
set_option maxRecDepth 100000
set_option maxHeartbeats 1000000
set_option linter.unusedVariables false
set_option pp.maxSteps 3000
set_option pp.deepTerms false
set_option pp.deepTerms.threshold 6
namespace Mine
theorem lk_items_getattr : typeLookup (.type "dict_items") "__getattr__" = pure none := by rw [typeLookup_type, builtinLookup_eq_fast]; kernel_rfl
theorem lk_items_keys : typeLookup (.type "dict_items") (Str.ofString "keys") = pure none := by rw [typeLookup_type, builtinLookup_eq_fast]; kernel_rfl
theorem keys_named : (["__module__", "__name__", "__qualname__", "__doc__", "__annotations__"] : List Str).contains (Str.ofString "keys") = false := by decide +kernel
theorem entry_obj_ga : entryFor table "object.__getattribute__" = some Builtin.«object.__getattribute__» := entryFor_of_tree (by kernel_rfl)
theorem miss_items (a : Addr) (fs : Array Value) (u : Tok) : Meets (Builtin.«object.__getattribute__» ⟨[.ref a, .str (Str.ofString "keys") u], []⟩) (fun A R s => s.heap.get? a = some { cls := .type "dict_items", data := .fields fs } ∧ raisesAttr (.ref a) (Str.ofString "keys") A R s) :=
  Meets.of_wp fun prog w A R s hs => by
    obtain ⟨hp, g, d, tk, os⟩ := s
    have hAB := hs
    have hx := hAB.1
    have hs := hAB.2
    have hT : (⟨hp, g, d, tk, os⟩ : Shared).TypeIs (.ref a) "dict_items" := ⟨_, hx, rfl⟩
    have hmiss := lk_items_keys
    unfold Builtin.«object.__getattribute__»
    repeat (any_goals (first | assumption | wp_step))
    exact wpAny_raiseAttrError hs.1 hs.2 (attrMsg_fits (by decide +kernel) (by decide +kernel))
section
variable {prog : Program} {w : World} {A : Around} {E : Value → Shared → Prop} {s : Shared} {c : Value} {od : Option Addr} {es : List DictEntry} {r d : Addr} {i ep : Nat} {R : Result → Shared → Prop}
theorem no_keys {a : Addr} {fs : Array Value} {Q : Option Value → Shared → Prop} (hh : A.handled = none) (hx : s.heap.get? a = some { cls := .type "dict_items", data := .fields fs })
    (h : ∀ h' tk, (∀ b o, s.heap.get? b = some o → h'.get? b = some o) → Q none { s with heap := h', toks := tk }) : wpAny (model prog w) A (getAttr? (.ref a) "keys") Q E s := by
  obtain ⟨hp, g, d, tk, os⟩ := s
  have hT : ∀ tk', (⟨hp, g, d, tk', os⟩ : Shared).TypeIs (.ref a) "dict_items" := fun _ => ⟨_, hx, rfl⟩
  have f1 := sub_AttributeError
  have f3 := F.slot_dict_items_getattribute.lookup
  have f4 := F.slot_dict_items_getattribute.bind (.ref a)
  have f5 := lk_items_getattr
  unfold getAttr? getAttrBy? getAttrBy
  repeat (any_goals (first | assumption | exact hT _ | ((with_reducible show wpAny _ _ (call (Value.builtin "object.__getattribute__") _ _) _ _ _); refine call_meets F.slot_dict_items_getattribute (hT _) entry_obj_ga (F.args_object_getattribute_2 _ _) (miss_items a fs _) ⟨hx, hh, fun h' tk' e hx' => ?_⟩) | wp_step))
  obtain ⟨t', u', he⟩ := hx'.there
  unfold getattributeRaised
  repeat (any_goals (first | assumption | exact h _ _ hx'.keeps | wp_step))
end
end Mine
end
section
open PySem PySem.W PySem.Calls PyProof.Rows
set_option Elab.async false
set_option maxRecDepth 100000
set_option maxHeartbeats 1000000
set_option linter.unusedVariables false
set_option pp.maxSteps 3000
set_option pp.deepTerms false
set_option pp.deepTerms.threshold 6
namespace Mine
theorem loop_entry : entryFor table "dict.update.loop" = some Builtin.«dict.update.loop» := entryFor_of_tree (by kernel_rfl)
theorem loop_plain : plainId "dict.update.loop" = true := by decide +kernel
theorem stored_take {D : List (Str × Value)} {i : Nat} {k : Str} {v : Value} (hn : (D.map (·.1)).Nodup) (h : D[i]? = some (k, v)) : stored (D.take i) k v = D.take (i + 1) := by
  have hl := (List.getElem?_eq_some_iff.mp h).1
  have hnot : ¬ ((D.take i).any fun kv => decide (kv.1 = k)) = true := by
    rw [List.any_eq_true]
    rintro ⟨kv, hkv, he⟩
    have he := of_decide_eq_true he
    obtain ⟨j, hj⟩ := List.mem_iff_getElem?.mp hkv
    have hji : j < i := by
      have := (List.getElem?_eq_some_iff.mp hj).1
      rw [List.length_take] at this; omega
    rw [List.getElem?_take, if_pos hji] at hj
    have a1 : (D.map (·.1))[j]? = some k := by rw [List.getElem?_map, hj]; simp [he]
    have a2 : (D.map (·.1))[i]? = some k := by rw [List.getElem?_map, h]; rfl
    have hlt : j < (D.map (·.1)).length := (List.getElem?_eq_some_iff.mp a1).1
    have e := List.pairwise_iff_getElem.mp hn j i hlt (by rw [List.length_map]; exact hl) hji
    rw [(List.getElem?_eq_some_iff.mp a1).2, (List.getElem?_eq_some_iff.mp a2).2] at e
    exact e rfl
  rw [stored, if_neg hnot, List.take_add_one, h]; rfl
section
variable {prog : Program} {w : World} {A : Around} {E : Value → Shared → Prop} {s : Shared} {c : Value} {od : Option Addr} {es : List DictEntry} {d : Addr} {ep : Nat} {R : Result → Shared → Prop} {h₀ : Heap} {L : Addr} {m : Str → Option Value} {news : List (Addr × Obj)} {D : List (Str × Value)}
theorem fill_loop {S I : Addr} (hh : A.handled = none) (hSI : S ≠ I) (hL : L ≠ I) (h0 : h₀.get? I = none) (hnI : ∀ p ∈ news, p.1 ≠ I) (hnS : ∀ p ∈ news, p.1 ≠ S) (hd : (d, dob c od es ep) ∈ news) (H : Ent prog w es D) (hz : D.length < 64)
    (hR : ∀ h' tk es2 n2, Ent prog w es2 D → Fr h₀ L h' m → News h₀ L h' ((S, dictOf es2 n2) :: news) → R (.ok (.ret .none)) { s with heap := h', toks := tk }) :
    ∀ (k i : Nat) (h : Heap) (tk : Nat) (es2 : List DictEntry) (n2 : Nat) (t : Tok), D.length - i = k → i ≤ D.length → ItAt h I d i es.length ep → Ent prog w es2 (D.take i) → Fr h₀ L h m → News h₀ L h ((S, dictOf es2 n2) :: news) →
      codeAny (model prog w) A (.builtin "dict.update.loop" ⟨[.ref S, .ref I, .int i t, .none], []⟩) R { s with heap := h, toks := tk } := by
  intro k
  have hlen : es.length = D.length := H.len
  induction k with
  | zero =>
    intro i h tk es2 n2 t hk hi hit H2 F N
    have hin : i = D.length := by omega
    have hD := (N _ (List.Mem.tail _ hd)).1
    refine codeAny_builtin loop_entry ?_
    rw [Around.under_plainId loop_plain _]
    show wpAny _ A.in1 (pyNext (.ref I) >>= _) _ _ _
    refine wpAny_bind (next_end (s := { s with heap := h, toks := tk }) (A := A.in1) hh (by rw [hin, ← hlen] at hit; exact hit) hD fun h' he => ?_)
    obtain ⟨F', N'⟩ := keepFN F N he hL h0 (fun p hp => by
      rcases List.mem_cons.mp hp with rfl | hp
      · exact hSI
      · exact hnI p hp)
    refine wpAny_bind (wpAny_pure (wpAny_pure (hR h' tk es2 n2 ?_ F' N')))
    rw [hin, List.take_length] at H2; exact H2
  | succ k ih =>
    intro i h tk es2 n2 t hk hi hit H2 F N
    have hlt : i < D.length := by omega
    have hD := (N _ (List.Mem.tail _ hd)).1
    have hx : es[i]? = some (es[i]'(by omega)) := List.getElem?_eq_getElem (by omega)
    have hxD : D[i]? = some D[i] := List.getElem?_eq_getElem hlt
    obtain ⟨hkey, hval⟩ := H.pairs.get? hx hxD
    obtain ⟨tt, hkt⟩ := key_str hkey
    refine codeAny_builtin loop_entry ?_
    rw [Around.under_plainId loop_plain _]
    show wpAny _ A.in1 (pyNext (.ref I) >>= _) _ _ _
    refine wpAny_bind (next_item (s := { s with heap := h, toks := tk }) hit hD hx fun h' hst' ht hzz hkp => ?_)
    dsimp only at ht hzz hkp ⊢
    have hnn : ∀ p ∈ (S, dictOf es2 n2) :: news, p.1 ≠ I := fun p hp => by
      rcases List.mem_cons.mp hp with rfl | hp
      · exact hSI
      · exact hnI p hp
    have hAB := keepFN F N hkp hL h0 hnn
    have F' := hAB.1
    have N' := hAB.2
    have hIl : I < h.objs.size := by obtain ⟨_, _, _, _, _, q⟩ := hit; exact Heap.lt_size q
    have hSl : S < h.objs.size := Heap.lt_size (N _ (.head _)).1
    refine wpAny_bind (wpAny_holding ?_)
    refine wpAny_bind (wpAny_tryCatch ?_)
    unfold Builtin.Dict.pairItems
    refine wpAny_bind (wpAny_typeOf (s := { s with heap := h', toks := tk }) (T := "tuple") ⟨_, ht, rfl⟩ ?_)
    rw [if_pos (by decide)]
    refine wpAny_bind (m := seqItems? _) ?_
    unfold seqItems?
    refine wpAny_bind (wpAny_load (s := { s with heap := h', toks := tk }) ht ?_)
    refine wpAny_pure (wpAny_pure ?_)
    rw [hkt]
    have hst2 := hst'
    obtain ⟨f0, f1, f6, f7, hf, hr⟩ := hst2
    have N2 : News h₀ L h' ((I, itRec f0 f1 d (i + 1) es.length ep f6 f7) :: (S, dictOf es2 n2) :: news) := fun p hp => by
      rcases List.mem_cons.mp hp with rfl | hp
      · exact ⟨hr, fun e => hL e.symm, h0⟩
      · exact N' p hp
    refine wpAny_holding (dSet (s := { s with heap := h', toks := tk }) (c := .type "dict") (od := none) (news' := fun es' n' => (I, itRec f0 f1 d (i + 1) es.length ep f6 f7) :: (S, dictOf es' n') :: news) F' N2 (fun es' n' => .tail (Ne.symm hSI) (.head hnS)) H2 (by rw [List.length_take]; omega) fun es3 n3 h3 H3 F3 N3 => ?_)
    rw [stored_take H.nd (by rw [hxD, hval]; rfl)] at H3
    refine wpAny_pure ⟨plainId_quiet loop_plain _, ih (i + 1) h3 _ es3 n3 _ (by omega) (by omega) ⟨f0, f1, f6, f7, hf, (N3 _ (List.Mem.head _)).1⟩ H3 F3 (cb_drop N3 fun _ hp => List.Mem.tail _ hp)⟩
/-- dict(view of items) -/
theorem dict_items {v : Addr} {Q : Value → Shared → Prop} (hh : A.handled = none) (F : Fr h₀ L s.heap m) (N : News h₀ L s.heap news) (hv : (v, { cls := .type "dict_items", data := .fields #[.ref d] }) ∈ news) (hd : (d, dob c od es ep) ∈ news) (H : Ent prog w es D) (hz : D.length < 64) (hlim : h₀.NoLimit)
    (h : ∀ S es2 n2 h' tk, Ent prog w es2 D → Fr h₀ L h' m → News h₀ L h' ((S, dictOf es2 n2) :: news) → (∀ q ∈ news, q.1 < S) → (S == sysModules) = false → Q (.ref S) { s with heap := h', toks := tk }) :
    wpAny (model prog w) A (call (.type "dict") [.ref v]) Q E s := by
  refine callType_codes (Q₁ := fun obj s₁ => obj = .ref s.heap.objs.size ∧ s₁ = { s with heap := s.heap.push { cls := .type "dict", data := .dict #[] } }) PySem.F.kt_called_dict (PySem.F.kt_typeCall_dict_1 _) PySem.F.entry_dict_init (kt_code_dict_new _ ⟨rfl, rfl⟩) ?_
  rintro obj s₁ ⟨rfl, rfl⟩
  have hAB := ks_newsPush (s := s) (o := { cls := .type "dict", data := .dict #[] }) F N rfl (Heap.get?_push_at rfl rfl) (fun b o e => Heap.get?_push_of_some _ e)
  have F1 := hAB.1
  have N1 := hAB.2.1
  have l1 := hAB.2.2
  have hSm : (s.heap.objs.size == sysModules) = false := F.notModules (modules_low hlim)
  generalize hS : s.heap.objs.size = S at *
  generalize hh1 : s.heap.push { cls := .type "dict", data := .dict #[] } = h1 at *
  refine ⟨⟨_, (N1 _ (List.Mem.head _)).1, rfl⟩, PySem.F.args_dict_init_2 _ _, ?_⟩
  unfold Builtin.«dict.__init__»
  refine wpAny_bind ?_
  unfold Builtin.Dict.selfAndRest
  refine wpAny_bind (wpAny_notOrdered_dict (s := { s with heap := h1 }) ⟨_, (N1 _ (List.Mem.head _)).1, rfl⟩ ?_)
  refine wpAny_pure ?_
  show wpAny _ _ (Builtin.Dict.updateFrom "dict.__init__" S (.ref v) [] .none) _ _ _
  unfold Builtin.Dict.updateFrom
  have hv1 := (N1 _ (List.Mem.tail _ hv)).1
  refine wpAny_bind (wpAny_typeOf (s := { s with heap := h1 }) (T := "dict_items") ⟨_, hv1, rfl⟩ ?_)
  rw [if_pos (by decide)]
  refine wpAny_bind (no_keys (s := { s with heap := h1 }) hh hv1 fun h2 tk2 k2 => ?_)
  have hAB := keepsFN F1 N1 k2
  have F2 := hAB.1
  have N2 := hAB.2
  simp only [Option.isNone_none, if_true]
  refine wpAny_bind (wpAny_rule ?_)
  refine wpAny_bind (iter_items (s := { s with heap := h2, toks := tk2 }) (N2 _ (List.Mem.tail _ hv)).1 (N2 _ (List.Mem.tail _ hd)).1 fun h3 hit hz3 k3 => ?_)
  have hAB := keepsFN F2 N2 k3
  have F3 := hAB.1
  have N3 := hAB.2
  have lt2 : ∀ p ∈ (S, dictOf [] 0) :: news, p.1 < h2.objs.size := fun p hp => Heap.lt_size (N2 p hp).1
  have hI0 : h₀.get? h2.objs.size = none := by
    cases e : h₀.get? h2.objs.size with
    | none => rfl
    | some o => exact absurd (Heap.lt_size (F2.keep _ _ e)) (Nat.lt_irrefl _)
  refine wpAny_pure ⟨plainId_quiet loop_plain _, fill_loop (A := A.in1) (s := s) (I := h2.objs.size) (S := S) hh (Nat.ne_of_lt (lt2 _ (List.Mem.head _))) (Nat.ne_of_lt F2.ns.lt) hI0 (fun p hp => Nat.ne_of_lt (lt2 p (List.Mem.tail _ hp))) (fun p hp => Nat.ne_of_lt (l1 p hp)) hd H hz (fun h' tk es2 n2 H2 F' N' => ?_) D.length 0 h3 tk2 [] 0 0 (Nat.sub_zero _) (Nat.zero_le _) hit Ent.nil F3 N3⟩
  exact ⟨rfl, h S es2 n2 h' tk H2 F' N' l1 hSm⟩
end
end Mine
end
section
open PySem PySem.W PySem.Calls PyProof.Rows PyProof.Rows.LCg
set_option Elab.async false
set_option maxRecDepth 100000
set_option maxHeartbeats 1000000
set_option linter.unusedVariables false
set_option pp.maxSteps 3000
set_option pp.deepTerms false
set_option pp.deepTerms.threshold 6
namespace Mine
section
variable {prog : Program} {w : World} {A : Around} {E : Value → Shared → Prop} {s : Shared} {R : Result → Shared → Prop}
noncomputable abbrev testsOf (ifs : List Expr) (env : Env) : Sem Bool := forIn ifs true fun c r => if r = true then do let ok ← isTrue c env (eval c env); pure (ForInStep.yield ok) else pure (ForInStep.yield r)
theorem comp_loop {elt target iter : Expr} {ifs : List Expr} {scope : Scope} {pos : Pos} {it acc : Value} {env : Env} (I : Nat → Shared → Prop)
    (turn : ∀ n s, I n s → wpAny (model prog w) A (pyNext it) (fun r s₁ => match r with
      | none => R (.ok .next) s₁
      | some v => wpAny (model prog w) A (letOwnedTupleGo target it v) (fun _ s₀ => wpAny (model prog w) A (assign target env v) (fun _ s₂ =>
          wpAny (model prog w) A (testsOf ifs env) (fun ok s₃ =>
            if ok = true then wpAny (model prog w) A (eval elt env) (fun x s₄ =>
              wpAny (model prog w) A (call (.builtin "list.append") [acc, x]) (fun _ s₅ => ∃ m, m < n ∧ I m s₅) (notedBy (model prog w) A env fun e s' => R (.error e) s') s₄) (notedBy (model prog w) A env fun e s' => R (.error e) s') s₃
            else ∃ m, m < n ∧ I m s₃) (notedBy (model prog w) A env fun e s' => R (.error e) s') s₂) (notedBy (model prog w) A env fun e s' => R (.error e) s') s₀) (notedBy (model prog w) A env fun e s' => R (.error e) s') s₁) (notedBy (model prog w) A env fun e s' => R (.error e) s') s)
    (n : Nat) (h : I n s) : codeAny (model prog w) A (.compLoop (.ListComp elt [⟨target, iter, ifs, 0⟩] scope pos) 0 it acc env) R s := by
  refine codeAny_loop rfl I (fun n s hI => ?_) n h
  show wpAny _ A ((compTurn (.ListComp elt [⟨target, iter, ifs, 0⟩] scope pos) 0 it acc env).onRaise (fun x => do noteFrame x env; theTreesLotGoes x)) _ _ s
  refine wpAny_noted ?_
  rw [compTurn_list]
  refine wpAny_bind (wpAny_standAt (wpAny_bind (wpAny_mono (turn n s hI) (fun r s₁ h₁ => ?_) fun _ _ h' => h')))
  cases r with
  | none => exact wpAny_pure h₁
  | some v =>
    refine wpAny_bind (wpAny_mono h₁ (fun _ s₀ h₀ => ?_) fun _ _ h' => h')
    refine wpAny_bind (wpAny_mono h₀ (fun _ s₂ h₂ => wpAny_bind (wpAny_mono h₂ (fun ok s₃ h₃ => ?_) fun _ _ h' => h')) fun _ _ h' => h')
    cases ok with
    | false => exact wpAny_pure ⟨rfl, h₃⟩
    | true =>
      exact wpAny_bind (wpAny_bind (wpAny_mono h₃ (fun x s₄ h₄ => wpAny_bind (wpAny_mono h₄ (fun _ s₅ h₅ => wpAny_pure (wpAny_pure ⟨rfl, h₅⟩)) fun _ _ h' => h')) fun _ _ h' => h'))
/-- an iterator that binds its target anew for each item -/
structure Feeds (prog : Program) (w : World) (A : Around) (it : Value) (target : Expr) (ok : Env → Prop) (own fp : List Addr) (n : Nat) (P : Nat → (Str → Option Value) → (Str → Option Value) → Prop) (St : Nat → Heap → Prop) : Prop where
  frame : ∀ i h h', St i h → (∀ b ∈ fp, ∀ o, h.get? b = some o → h'.get? b = some o) → St i h'
  item : ∀ i (env : Env) (s : Shared) (m : Str → Option Value) (Q : Unit → Shared → Prop) (E : Value → Shared → Prop), ok env → i < n → St i s.heap → s.heap.Ns env.locals m → env.locals ∉ fp →
    (∀ h' tk m', P i m m' → St (i + 1) h' → h'.Ns env.locals m' → (∀ b o, b ∉ own → b ≠ env.locals → s.heap.get? b = some o → h'.get? b = some o) → Q () { s with heap := h', toks := tk }) →
    wpAny (model prog w) A (pyNext it) (fun r s₁ => match r with | none => False | some v => wpAny (model prog w) A (letOwnedTupleGo target it v) (fun _ s₀ => wpAny (model prog w) A (assign target env v) Q E s₀) E s₁) E s
  done : ∀ (s : Shared) (Q : Option Value → Shared → Prop) (E : Value → Shared → Prop), St n s.heap →
    (∀ h' tk, (∀ b o, b ∉ own → s.heap.get? b = some o → h'.get? b = some o) → Q none { s with heap := h', toks := tk }) → wpAny (model prog w) A (pyNext it) Q E s
  self : ∀ i (s : Shared) (Q : Value → Shared → Prop) (E : Value → Shared → Prop), St i s.heap → Q it s → wpAny (model prog w) A (pyIter it) Q E s
end
section
variable {prog : Program} {w : World} {A : Around} {E : Value → Shared → Prop} {s : Shared} {h₀ : Heap} {L : Addr} {m : Str → Option Value} {env : Env}
theorem owned_of {g : Heap} {L : Addr} (own : List Addr) (h0 : ∀ b ∈ own, g.get? b = none) (hL : L ∉ own) : ∀ (l : List Addr) (h : Heap), (∀ b ∈ l, b ∈ own) → (∀ b ∈ l, ∃ o, h.get? b = some o) → ∃ fo : List (Addr × Obj), fo.map (·.1) = l ∧ News g L h fo
  | [], _, _, _ => ⟨[], rfl, fun _ hp => nomatch hp⟩
  | b :: l, h, hb, he => by
    obtain ⟨fo, e1, e2⟩ := owned_of own h0 hL l h (fun c hc => hb c (List.Mem.tail _ hc)) (fun c hc => he c (List.Mem.tail _ hc))
    obtain ⟨o, e⟩ := he b (List.Mem.head _)
    have hbo := hb b (List.Mem.head _)
    exact ⟨(b, o) :: fo, by rw [List.map_cons, e1], List.forall_mem_cons.mpr ⟨⟨e, fun q => hL (q ▸ hbo), h0 _ hbo⟩, e2⟩⟩
theorem keepO {own : List Addr} {h h' : Heap} {news : List (Addr × Obj)} (F : Fr h₀ L h m) (N : News h₀ L h news) (k : ∀ b o, b ∉ own → h.get? b = some o → h'.get? b = some o) (hL : L ∉ own) (h0 : ∀ b ∈ own, h₀.get? b = none) (hn : ∀ p ∈ news, p.1 ∉ own) :
    Fr h₀ L h' m ∧ News h₀ L h' news := by
  obtain ⟨oL, es, ep, hLo, r⟩ := F.ns
  exact ⟨⟨⟨oL, es, ep, k _ _ hL hLo, r⟩, fun b o e => k b o (fun q => by rw [h0 _ q] at e; cases e) (F.keep b o e), F.above⟩, fun p hp => ⟨k _ _ (hn p hp) (N p hp).1, (N p hp).2⟩⟩
/-- what a turn leaves -/
inductive Turned (s : Shared) (h₀ : Heap) (L : Addr) (m : Str → Option Value) (pre : List (Addr × Obj)) (P : List (Addr × Obj) → Prop) : Shared → Prop
  | mk {h' : Heap} {tk' : Nat} {nw' : List (Addr × Obj)} : Fr h₀ L h' m → News h₀ L h' (pre ++ nw') → (∀ p ∈ nw', ∀ q ∈ pre, p.1 ≠ q.1) → P nw' → Turned s h₀ L m pre P { s with heap := h', toks := tk' }
/-- what stands between the turns -/
inductive MidC (s : Shared) (h₀ : Heap) (L C D : Addr) (m : Str → Option Value) (own : List Addr) (n : Nat) (St : Nat → Heap → Prop) (J : Nat → List Value → List (Addr × Obj) → Prop) : Nat → Shared → Prop
  | mk {h' : Heap} {tk i : Nat} {ys : List Value} {m' : Str → Option Value} {nw : List (Addr × Obj)} : i ≤ n → St i h' → Fr h₀ L h' m → h'.Ns C m' → News h₀ L h' ((D, lst ys) :: nw) → (∀ p ∈ nw, p.1 ∉ own ∧ p.1 ≠ C ∧ p.1 ≠ D) → J i ys nw → MidC s h₀ L C D m own n St J (n + 1 - i) { s with heap := h', toks := tk }
/-- the block of a list comprehension, and what comes after it -/
inductive CompGo (prog : Program) (w : World) (A : Around) (E : Value → Shared → Prop) (env : Env) (h₀ : Heap) (L : Addr) (m : Str → Option Value) (scope : Scope) (cl : List (Str × Addr)) (elt target iter : Expr) (ifs : List Expr) (pos : Pos) (Fin : List Value → List (Addr × Obj) → Prop) (m₂ : Addr → Str → Option Value) (Qr : Addr → Shared → Prop) (it : Value) (s₂ : Shared) : Prop
  | mk (go : (∀ (RR : Value → Addr → Result → Shared → Prop), (∀ D C h tk m' ys nw, Fr h₀ L h m → News h₀ L h ((D, lst ys) :: nw) → (∀ p ∈ nw, p.1 ≠ D) → h.Ns C m' → h₀.get? C = none → h₀.get? D = none → C ≠ L → D ≠ L → C ≠ D → (∀ p ∈ nw, p.1 ≠ C) → Fin ys nw → RR (.ref D) C (.ok .next) { s₂ with heap := h, toks := tk }) →
        wpAny (model prog w) A (newList []) (fun acc s₃ => wpAny (model prog w) A (newFunctionEnv scope env.globals cl [] env.qual none .none (some env)) (fun cenv s₄ =>
          codeAny (model prog w) A (.compStart (.ListComp elt [⟨target, iter, ifs, 0⟩] scope pos) 0 it acc { cenv with scope := relabel scope env }) (RR acc cenv.locals) s₄) E s₃) E s₂))
      (fin : ∀ D h tk ys nw, Fin ys nw → Fr h₀ L h (m₂ D) → News h₀ L h ((D, lst ys) :: nw) → (∀ p ∈ nw, p.1 ≠ D) → Qr D { s₂ with heap := h, toks := tk }) : CompGo prog w A E env h₀ L m scope cl elt target iter ifs pos Fin m₂ Qr it s₂
/-- the block of a list comprehension, by an invariant -/
theorem comp_block {elt target iter : Expr} {ifs : List Expr} {scope : Scope} {cl : List (Str × Addr)} {pos : Pos} {s₂ : Shared} {it : Value} {ok : Env → Prop} {own fp : List Addr} {fx : List (Addr × Obj)} {n : Nat} {P : Nat → (Str → Option Value) → (Str → Option Value) → Prop} {St : Nat → Heap → Prop} {news : List (Addr × Obj)}
    {RR : Value → Addr → Result → Shared → Prop} (J : Nat → List Value → List (Addr × Obj) → Prop)
    (W : Feeds prog w A it target ok own fp n P St) (hsz : n ≤ sizeLine) (hok : ∀ C, ok (compEnvC scope cl C env))
    (hcell : ∀ y ∈ scope.names, y.2 ≠ .cell) (hkind : scope.kind = .function) (hst : St 0 s₂.heap) (hlive : ∀ i h, St i h → ∀ b ∈ own, ∃ o, h.get? b = some o)
    (F : Fr h₀ L s₂.heap m) (N : News h₀ L s₂.heap news) (hL : L ∉ own) (h0 : ∀ b ∈ own, h₀.get? b = none) (hn : ∀ p ∈ news, p.1 ∉ own)
    (hfp : ∀ b ∈ fp, b ∈ own ∨ ∃ o, (b, o) ∈ fx) (hfx : ∀ i ys nw, J i ys nw → ∀ p ∈ fx, p ∈ nw) (hJ : J 0 [] news) (hlen : ∀ i ys nw, J i ys nw → ys.length ≤ i)
    (turn : ∀ i ys nw pre C oC h tk m₁ m' (E' Qt : Value → Shared → Prop) (Qf : Shared → Prop), i < n → J i ys nw → P i m₁ m' → (C, oC) ∈ pre → NsObj oC m' → Fr h₀ L h m → News h₀ L h (pre ++ nw) → (∀ p ∈ nw, ∀ q ∈ pre, p.1 ≠ q.1) → (∀ y s₄, Turned s₂ h₀ L m pre (J (i + 1) (ys ++ [y])) s₄ → Qt y s₄) → (∀ s₃, Turned s₂ h₀ L m pre (J (i + 1) ys) s₃ → Qf s₃) →
      wpAny (model prog w) A (testsOf ifs (compEnvC scope cl C env)) (fun b s₃ => if b = true then wpAny (model prog w) A (eval elt (compEnvC scope cl C env)) Qt E' s₃ else Qf s₃) E' { s₂ with heap := h, toks := tk })
    (hRR : ∀ D C h tk m' ys nw, Fr h₀ L h m → News h₀ L h ((D, lst ys) :: nw) → (∀ p ∈ nw, p.1 ≠ D) → h.Ns C m' → h₀.get? C = none → h₀.get? D = none → C ≠ L → D ≠ L → C ≠ D → (∀ p ∈ nw, p.1 ≠ C) → J n ys nw → RR (.ref D) C (.ok .next) { s₂ with heap := h, toks := tk }) :
    wpAny (model prog w) A (newList []) (fun acc s₃ => wpAny (model prog w) A (newFunctionEnv scope env.globals cl [] env.qual none .none (some env)) (fun cenv s₄ =>
      codeAny (model prog w) A (.compStart (.ListComp elt [⟨target, iter, ifs, 0⟩] scope pos) 0 it acc { cenv with scope := relabel scope env }) (RR acc cenv.locals) s₄) E s₃) E s₂ := by
  refine wpAny_newObj_type (wpAny_newFunctionEnv hcell (by intro y hy; simp at hy) (fun h₁ hns₁ hsb₁ => ?_) hkind)
  dsimp only at hns₁ hsb₁
  generalize hH2 : s₂.heap.push { cls := .type "list", dict := none, data := .seq ([] : List Value).toArray } = H2 at hns₁ hsb₁ ⊢
  have hC : H2.objs.size = s₂.heap.objs.size + 1 := by rw [← hH2, Heap.size_push]
  have hDC : s₂.heap.objs.size ≠ H2.objs.size := by rw [hC]; exact Nat.ne_of_lt (Nat.lt_succ_self _)
  have below : ∀ b, b < s₂.heap.objs.size → b ≠ H2.objs.size ∧ b ≠ s₂.heap.objs.size := fun b hb => ⟨by rw [hC]; exact Nat.ne_of_lt (Nat.lt_succ_of_lt hb), Nat.ne_of_lt hb⟩
  have hol : ∀ b ∈ own, b < s₂.heap.objs.size := fun b hb => by obtain ⟨o, e⟩ := hlive _ _ hst b hb; exact Heap.lt_size e
  have hDo : s₂.heap.objs.size ∉ own := fun hm => Nat.lt_irrefl _ (hol _ hm)
  have hCo : H2.objs.size ∉ own := fun hm => by have := hol _ hm; rw [hC] at this; exact Nat.lt_irrefl _ (Nat.lt_of_succ_lt this)
  have hxl : ∀ p ∈ fx, p.1 < s₂.heap.objs.size := fun p hp => Heap.lt_size (N _ (hfx _ _ _ hJ _ hp)).1
  have hCf : H2.objs.size ∉ fp := fun hm => by
    rcases hfp _ hm with q | ⟨o, q⟩
    · exact hCo q
    · exact (below _ (hxl _ q)).1 rfl
  have old : ∀ b o, s₂.heap.get? b = some o → h₁.get? b = some o := fun b o e => hsb₁.extBut b o (below b (Heap.lt_size e)).1 (Heap.get?_push_of_some _ (hH2 ▸ Heap.get?_push_of_some _ e))
  have hacc : h₁.get? s₂.heap.objs.size = some (lst []) := hsb₁.extBut _ _ hDC (Heap.get?_push_of_some _ (hH2 ▸ Heap.get?_push_size _ rfl))
  have hst₁ : St 0 h₁ := W.frame _ _ _ hst fun b _ o e => old b o e
  have fresh : ∀ a, s₂.heap.objs.size ≤ a → s₂.heap.get? a = none := fun a ha => by
    cases e : s₂.heap.get? a with
    | none => rfl
    | some o' => exact absurd (Heap.lt_size e) (Nat.not_lt.mpr ha)
  have fresh₀ : ∀ a, s₂.heap.objs.size ≤ a → h₀.get? a = none := fun a ha => by
    cases e : h₀.get? a with
    | none => rfl
    | some o' => have := F.keep a o' e; rw [fresh a ha] at this; cases this
  have hD₀ : h₀.get? s₂.heap.objs.size = none := fresh₀ _ (Nat.le_refl _)
  have hC₀ : h₀.get? H2.objs.size = none := fresh₀ _ (by rw [hC]; exact Nat.le_succ _)
  have hLlt : L < s₂.heap.objs.size := F.ns.lt
  have hDL : s₂.heap.objs.size ≠ L := Ne.symm (below L hLlt).2
  have hCL : H2.objs.size ≠ L := Ne.symm (below L hLlt).1
  obtain ⟨F₁, N₁⟩ : Fr h₀ L h₁ m ∧ News h₀ L h₁ news := keepsFN F N old
  have off₁ : ∀ p ∈ news, p.1 ∉ own ∧ p.1 ≠ H2.objs.size ∧ p.1 ≠ s₂.heap.objs.size := fun p hp => ⟨hn p hp, (below _ (Heap.lt_size (N p hp).1)).1, (below _ (Heap.lt_size (N p hp).1)).2⟩
  generalize s₂.heap.objs.size = D at *
  generalize H2.objs.size = C at *
  have loop : ∀ s₃ : Shared, s₃ = { s₂ with heap := h₁, toks := s₂.toks + ([] : List (Str × Value)).length } →
      codeAny (model prog w) A (.compLoop (.ListComp elt [⟨target, iter, ifs, 0⟩] scope pos) 0 it (.ref D) (compEnvC scope cl C env)) (RR (.ref D) C) s₃ := by
    rintro s₃ rfl
    refine comp_loop
      (MidC s₂ h₀ L C D m own n St J) ?_ (n + 1)
      (MidC.mk (s := s₂) (Nat.zero_le _) hst₁ F₁ hns₁ (List.forall_mem_cons.mpr ⟨⟨hacc, hDL, hD₀⟩, N₁⟩) off₁ hJ)
    rintro k s' (@⟨h', tk, i, ys, m', nw, hi, hst', F', hn', N', off', hJ'⟩)
    have offD : ∀ p ∈ (D, lst ys) :: nw, p.1 ∉ own := fun p hp => by
      rcases List.mem_cons.mp hp with rfl | hp
      · exact hDo
      · exact (off' p hp).1
    by_cases hlt : i < n
    · have key := W.item i (compEnvC scope cl C env) { s₂ with heap := h', toks := tk } m'
        (fun _ s₂' => wpAny (model prog w) A (testsOf ifs (compEnvC scope cl C env)) (fun ok s₃ =>
          if ok = true then wpAny (model prog w) A (eval elt (compEnvC scope cl C env)) (fun x s₄ =>
            wpAny (model prog w) A (call (.builtin "list.append") [.ref D, x]) (fun _ s₅ => ∃ m₁, m₁ < n + 1 - i ∧ MidC s₂ h₀ L C D m own n St J m₁ s₅) (notedBy (model prog w) A (compEnvC scope cl C env) fun e s' => RR (.ref D) C (.error e) s') s₄) (notedBy (model prog w) A (compEnvC scope cl C env) fun e s' => RR (.ref D) C (.error e) s') s₃
          else ∃ m₁, m₁ < n + 1 - i ∧ MidC s₂ h₀ L C D m own n St J m₁ s₃) (notedBy (model prog w) A (compEnvC scope cl C env) fun e s' => RR (.ref D) C (.error e) s') s₂')
        (notedBy (model prog w) A (compEnvC scope cl C env) fun e s' => RR (.ref D) C (.error e) s') (hok C) hlt hst' hn' hCf (fun h₃ tk₃ m₃ hP hst₃ hn₃ k₃ => ?_)
      · refine wpAny_mono key (fun r s₁ hr => ?_) fun _ _ e => e
        cases r with
        | none => exact hr.elim
        | some v => exact hr
      · have k₃' : ∀ b o, b ∉ C :: own → h'.get? b = some o → h₃.get? b = some o := fun b o hb e => k₃ b o (fun q => hb (List.Mem.tail _ q)) (fun q => hb (q ▸ List.Mem.head _)) e
        obtain ⟨F₃, N₃⟩ := keepO F' N' k₃' (fun q => by
          rcases List.mem_cons.mp q with q | q
          · exact hCL q.symm
          · exact hL q) (fun b hb => by
          rcases List.mem_cons.mp hb with rfl | hb
          · exact hC₀
          · exact h0 b hb) (fun p hp q => by
          rcases List.mem_cons.mp q with q | q
          · rcases List.mem_cons.mp hp with rfl | hp
            · exact hDC q
            · exact (off' p hp).2.1 q
          · exact offD p hp q)
        obtain ⟨oC, heC, hoC⟩ := ns_obj hn₃
        obtain ⟨fo, hfo, Nfo⟩ := owned_of (L := L) own h0 hL own h₃ (fun _ hb => hb) (hlive _ _ hst₃)
        have N₃' : News h₀ L h₃ (fo ++ (C, oC) :: (D, lst ys) :: nw) := fun p hp => by
          rcases List.mem_append.mp hp with hp | hp
          · exact Nfo p hp
          rcases List.mem_cons.mp hp with rfl | hp
          · exact ⟨heC, hCL, hC₀⟩
          · exact N₃ p hp
        have stay : ∀ {h₄ : Heap} {nw'}, News h₀ L h₄ (fo ++ (C, oC) :: (D, lst ys) :: nw') → (∀ p ∈ fx, p ∈ nw') → St (i + 1) h₄ := fun {h₄ nw'} N₄ hx => W.frame _ _ _ hst₃ fun b hb o e => by
          rcases hfp b hb with q | ⟨o', q⟩
          · rw [← hfo] at q
            obtain ⟨p, hp, rfl⟩ := List.mem_map.mp q
            have e1 := (Nfo p hp).1
            rw [e] at e1; cases e1
            exact (N₄ p (List.mem_append_left _ hp)).1
          · have e1 := (N₃' (b, o') (List.mem_append_right _ (List.Mem.tail _ (List.Mem.tail _ (hfx _ _ _ hJ' _ q))))).1
            have e1' : h₃.get? b = some o' := e1
            rw [e] at e1'; cases e1'
            exact (N₄ (b, o) (List.mem_append_right _ (List.Mem.tail _ (List.Mem.tail _ (hx _ q))))).1
        have ap : ∀ nn : List (Addr × Obj), (fo ++ [(C, oC), (D, lst ys)]) ++ nn = fo ++ (C, oC) :: (D, lst ys) :: nn := fun nn => by rw [List.append_assoc]; rfl
        have off₃ : ∀ p ∈ nw, ∀ q ∈ fo ++ [(C, oC), (D, lst ys)], p.1 ≠ q.1 := fun p hp q hq => by
          rcases List.mem_append.mp hq with hq | hq
          · exact fun ee => (off' p hp).1 (by rw [ee, ← hfo]; exact List.mem_map_of_mem hq)
          rcases List.mem_cons.mp hq with rfl | hq
          · exact (off' p hp).2.1
          · rw [List.mem_singleton.mp hq]; exact (off' p hp).2.2
        have back : ∀ {nw' : List (Addr × Obj)}, (∀ p ∈ nw', ∀ q ∈ fo ++ [(C, oC), (D, lst ys)], p.1 ≠ q.1) → ∀ p ∈ nw', p.1 ∉ own ∧ p.1 ≠ C ∧ p.1 ≠ D := fun hh p hp => by
          refine ⟨fun hm => ?_, hh p hp (C, oC) (List.mem_append_right _ (List.Mem.head _)), hh p hp (D, lst ys) (List.mem_append_right _ (List.Mem.tail _ (List.Mem.head _)))⟩
          rw [← hfo] at hm
          obtain ⟨q, hq, ee⟩ := List.mem_map.mp hm
          exact hh p hp q (List.mem_append_left _ hq) ee.symm
        have less : n + 1 - (i + 1) < n + 1 - i := Nat.sub_lt_sub_left (Nat.lt_succ_of_lt hlt) (Nat.lt_succ_self i)
        refine wpAny_mono (turn i ys nw (fo ++ [(C, oC), (D, lst ys)]) C oC h₃ tk₃ m' m₃ _ _ _ hlt hJ' hP (List.mem_append_right _ (List.Mem.head _)) hoC F₃ (ap nw ▸ N₃') off₃ (fun _ _ h => h) fun _ h => h) (fun b s₃ hb => ?_) fun _ _ e => e
        cases b with
        | false =>
          cases hb with
          | @mk h₄ tk₄ nw' F₄ N₄ off₄ hJ₄ =>
          rw [ap] at N₄
          exact ⟨n + 1 - (i + 1), less, .mk hlt (stay N₄ (hfx _ _ _ hJ₄)) F₄ (hoC.ns (N₄ (C, oC) (List.mem_append_right _ (List.Mem.head _))).1) (fun p hp => N₄ p (List.mem_append_right _ (List.Mem.tail _ hp))) (back off₄) hJ₄⟩
        | true =>
          refine wpAny_mono hb (fun y s₄ hy => ?_) fun _ _ e => e
          cases hy with
          | @mk h₄ tk₄ nw' F₄ N₄ off₄ hJ₄ =>
          rw [ap] at N₄
          have off₅ := back off₄
          have zD := (N₄ (D, lst ys) (List.mem_append_right _ (List.Mem.tail _ (List.Mem.head _)))).1
          have zC := (N₄ (C, oC) (List.mem_append_right _ (List.Mem.head _))).1
          have hst₄ := stay N₄ (hfx _ _ _ hJ₄)
          refine append_at (hsz := by show ys.toArray.size ≤ sizeLine; rw [List.size_toArray]; exact Nat.le_trans (hlen _ _ _ hJ') (Nat.le_trans hi hsz)) zD fun h₅ hs₅ hD₅ => ?_
          have k₅ : ∀ b o, b ≠ D → h₄.get? b = some o → h₅.get? b = some o := fun b o hb e => hs₅.extBut b o hb e
          have hDf : D ∉ fp := fun hm => by
            rcases hfp _ hm with q | ⟨o, q⟩
            · exact hDo q
            · exact (off₅ _ (hfx _ _ _ hJ₄ _ q)).2.2 rfl
          refine ⟨n + 1 - (i + 1), less, .mk (ys := ys ++ [y]) hlt (W.frame _ _ _ hst₄ fun b hb o e => k₅ b o (fun q => hDf (q ▸ hb)) e) (F₄.change hs₅ hDL hD₀) ((hoC.ns zC).sameBut hs₅ (Ne.symm hDC)) (List.forall_mem_cons.mpr ⟨⟨hD₅.trans (congrArg some (lst_snoc ys y)), hDL, hD₀⟩, fun p hp => ?_⟩) off₅ hJ₄⟩
          have z := N₄ p (List.mem_append_right _ (List.Mem.tail _ (List.Mem.tail _ hp)))
          exact ⟨k₅ _ _ (off₅ p hp).2.2 z.1, z.2⟩
    · obtain rfl : i = n := Nat.le_antisymm hi (Nat.not_lt.mp hlt)
      refine W.done _ _ _ hst' fun h₂ tk₂ k₂ => ?_
      have hAB := keepO F' N' k₂ hL h0 offD
      have F₂ := hAB.1
      have N₂ := hAB.2
      exact hRR D C h₂ tk₂ _ ys nw F₂ N₂ (fun p hp => (off' p hp).2.2) (hn'.at' fun o e => k₂ _ o hCo e) hC₀ hD₀ hCL hDL (Ne.symm hDC) (fun p hp => (off' p hp).2.1) hJ'
  exact codeAny_compStart_list (loop _ rfl) (W.self 0 _ _ _ hst₁ (loop _ rfl))
end
end Mine
end
section
open PySem PySem.W PySem.Calls PyProof.Rows PyProof.Rows.LCg
set_option Elab.async false
set_option maxRecDepth 100000
set_option maxHeartbeats 1000000
set_option linter.unusedVariables false
set_option pp.maxSteps 3000
set_option pp.deepTerms false
set_option pp.deepTerms.threshold 6
namespace Mine
section
variable {prog : Program} {w : World} {A : Around} {E : Value → Shared → Prop} {s : Shared} {h₀ : Heap} {L : Addr} {m : Str → Option Value} {env : Env}
noncomputable def okN (x : Str) (env : Env) : Prop := env.kindOf x = some .local ∧ (env.scope.kind == .class || (env.scope.kind == .module && env.locals != env.globals)) = false
noncomputable def okP (a b : Str) (env : Env) : Prop := env.kindOf a = some .local ∧ env.kindOf b = some .local ∧ (env.scope.kind == .class || (env.scope.kind == .module && env.locals != env.globals)) = false
theorem feeds_name {I : Addr} {fp wr : List Addr} {n : Nat} {P : Nat → Value → Prop} {St : Nat → Heap → Prop} {x : Str} {px : Pos} (W : Walks prog w A I fp wr n P St) :
    Feeds prog w A (.ref I) (.Name x px) (okN x) wr fp n (fun i m m' => ∃ v, P i v ∧ m' = fun y => if y = x then some v else m y) St where
  frame := W.frame
  item := fun i env s m Q E hok hi hst hn hL hQ => by
    refine W.item i s _ _ hi hst fun v h' tk hv hst' k => ?_
    have hLw : env.locals ∉ wr := fun q => hL (W.sub _ q)
    refine wpAny_of_eq (a := ()) rfl ?_
    refine wpAny_assign_Name (wpAny_storeName_local hok.1 (hn.at' fun o e => k _ o hLw e) (fun h₂ n₂ s₂ => ?_) hok.2)
    exact hQ h₂ _ _ ⟨v, hv, rfl⟩ (W.frame _ _ _ hst' fun b hb o e => s₂.extBut b o (fun q => hL (q ▸ hb)) e) n₂ fun b o hb hbL e => s₂.extBut b o hbL (k b o hb e)
  done := W.done
  self := W.self
theorem feeds_pair {I : Addr} {fp wr : List Addr} {n : Nat} {Pt : Nat → Array Value → Prop} {St : Nat → Heap → Prop} {Mid : Nat → Addr → Heap → Prop} {a b : Str} {pa pb tp : Pos} {kk : Nat} (hh : A.handled = none) (W : WalksT prog w A I fp wr n Pt St Mid) (h2 : ∀ i vals, Pt i vals → ∃ u v, vals = #[u, v]) :
    Feeds prog w A (.ref I) (.Tuple [.Name a pa, .Name b pb] kk tp) (okP a b) wr fp n (fun i m m' => ∃ u v, Pt i #[u, v] ∧ m' = fun z => if z = b then some v else if z = a then some u else m z) St where
  frame := W.frame
  item := fun i env s m Q E hok hi hst hn hL hQ => by
    have hLw : env.locals ∉ wr := fun q => hL (W.sub _ q)
    refine W.item i s _ _ hi hst fun T vals h' tk hv hsz ht hmid k => ?_
    obtain ⟨u, v, rfl⟩ := h2 _ _ hv
    have hTL : T ≠ env.locals := fun q => by have := hn.lt; rw [← q] at this; exact Nat.lt_irrefl _ (Nat.lt_of_lt_of_le this hsz)
    refine W.go _ _ _ i T _ _ _ hmid fun h'' hst' k' => ?_
    have ht' : h''.IsTuple T #[u, v] := by
      obtain ⟨o, e, r⟩ := ht
      exact ⟨o, k' _ _ (W.apart _ _ _ hmid) e, r⟩
    refine kcp_assign (s := { s with heap := h'', toks := tk }) hh ht' hok.1 hok.2.1 hok.2.2 ((hn.at' fun o e => k _ o hLw e).at' fun o e => k' _ o hLw e) fun h₃ tk₃ n₃ k₃ => ?_
    exact hQ h₃ tk₃ _ ⟨u, v, hv, rfl⟩ (W.frame _ _ _ hst' fun b hb o e => k₃ b o (fun q => hL (q ▸ hb)) e) n₃ fun b o hb hbL e => k₃ b o hbL (k' b o hb (k b o hb e))
  done := W.done
  self := W.self
theorem lc_J {elt target iter : Expr} {ifs : List Expr} {scope : Scope} {cl : List (Str × Addr)} {pos : Pos} {Q : Value → Shared → Prop} (Fin : List Value → List (Addr × Obj) → Prop) (F₀ : Fr h₀ L s.heap m)
    (hclos : closureFor scope env = pure cl) (hkind : scope.kind = .function) (hnames : ∀ y ∈ scope.names, y.2 = .local → scope.names.lookup y.1 = some .local)
    (h : wpAny (model prog w) A (eval iter env) (fun xv s₁ => wpAny (model prog w) A (pyIter xv) (CompGo prog w A E env h₀ L m scope cl elt target iter ifs pos Fin (fun _ => m) (fun D => Q (.ref D))) E s₁) E s)
    (hs : ∀ x, foldedSetIterable iter env x = pure x) :
    wpAny (model prog w) A (eval (.ListComp elt [⟨target, iter, ifs, 0⟩] scope pos) env) Q E s := by
  rw [eval_ListComp]
  refine wpAny_comprehension_free (use := none) rfl hs hclos hkind hnames (wpAny_mono h (fun xv s₁ h₁ => ?_) fun _ _ e => e)
  refine wpAny_mono h₁ (fun it s₂ h₂ => ?_) fun _ _ e => e
  obtain ⟨go, fi⟩ := h₂
  refine go _ fun D C h tk m' ys nw F' N' o1 hn hC₀ hD₀ hCL hDL hCD offC fin => ?_
  refine ⟨m', hn, fun h'' hs'' => fi D h'' tk ys nw fin (F'.change hs'' hCL hC₀) (fun p hp => ?_) o1⟩
  refine ⟨hs''.extBut _ _ ?_ (N' p hp).1, (N' p hp).2⟩
  rcases List.mem_cons.mp hp with rfl | hp
  · exact Ne.symm hCD
  · exact offC p hp
end
end Mine
end
section
open PySem PySem.W PySem.Calls PyProof.Rows PyProof.Rows.LCg
set_option Elab.async false
set_option maxRecDepth 100000
set_option maxHeartbeats 1000000
set_option linter.unusedVariables false
set_option pp.maxSteps 3000
set_option pp.deepTerms false
set_option pp.deepTerms.threshold 6
namespace Mine
section
variable {prog : Program} {w : World} {A : Around} {E : Value → Shared → Prop} {s : Shared} {h₀ : Heap} {m : Str → Option Value} {env : Env}
/-- what a turn leaves -/
inductive OutG (s : Shared) (L : Addr) (own : List Addr) (fo : List (Addr × Obj)) (J : Heap → (Str → Option Value) → List (Addr × Obj) → Prop) : Shared → Prop
  | mk {g' h' : Heap} {tk' : Nat} {m' : Str → Option Value} {nw' : List (Addr × Obj)} : Fr g' L h' m' → News g' L h' (fo ++ nw') → (∀ p ∈ nw', p.1 ∉ own) → J g' m' nw' → OutG s L own fo J { s with heap := h', toks := tk' }
/-- what stands between the turns -/
inductive MidG (s : Shared) (L : Addr) (own : List Addr) (n : Nat) (St : Nat → Heap → Prop) (J : Nat → Heap → (Str → Option Value) → List (Addr × Obj) → Prop) : Nat → Shared → Prop
  | mk {h' : Heap} {tk i : Nat} {g : Heap} {m' : Str → Option Value} {nw : List (Addr × Obj)} : i ≤ n → St i h' → Fr g L h' m' → News g L h' nw → (∀ p ∈ nw, p.1 ∉ own) → J i g m' nw → MidG s L own n St J (n + 1 - i) { s with heap := h', toks := tk }
/-- the same where the ground may turn (an exception that was caught) -/
theorem for_feedsG {target : Expr} {body : List Stmt} {it : Value} {ok : Env → Prop} {own fp : List Addr} {fx : List (Addr × Obj)} {n : Nat} {P : Nat → (Str → Option Value) → (Str → Option Value) → Prop} {St : Nat → Heap → Prop} {news : List (Addr × Obj)} {R : Result → Shared → Prop}
    (J : Nat → Heap → (Str → Option Value) → List (Addr × Obj) → Prop) (W : Feeds prog w A it target ok own fp n P St) (hok : ok env)
    (hst : St 0 s.heap) (hlive : ∀ i h, St i h → ∀ b ∈ own, ∃ o, h.get? b = some o)
    (F : Fr h₀ env.locals s.heap m) (N : News h₀ env.locals s.heap news) (hL : env.locals ∉ own) (hg : ∀ i g m nw, J i g m nw → ∀ b ∈ own, g.get? b = none) (hn : ∀ p ∈ news, p.1 ∉ own)
    (hfp : ∀ b ∈ fp, b ∈ own ∨ ∃ o, (b, o) ∈ fx) (hfx : ∀ i g m nw, J i g m nw → ∀ p ∈ fx, p ∈ nw) (hJ : J 0 h₀ m news)
    (turn : ∀ i g m₁ m₂ nw h tk fo, i < n → J i g m₁ nw → P i m₁ m₂ → Fr g env.locals h m₂ → News g env.locals h (fo ++ nw) → fo.map (·.1) = own → (∀ p ∈ nw, p.1 ∉ own) →
      wpAny (model prog w) A (execs body env) (fun f s' => match f with
        | .next | .cont => OutG s env.locals own fo (J (i + 1)) s'
        | .brk => R (.ok .next) s'
        | .ret v => R (.ok (.ret v)) s') (notedBy (model prog w) A env fun e s' => R (.error e) s') { s with heap := h, toks := tk })
    (done : ∀ g m' nw h tk, J n g m' nw → Fr g env.locals h m' → News g env.locals h nw → R (.ok .next) { s with heap := h, toks := tk }) :
    codeAny (model prog w) A (.forLoop target it body [] env) R s := by
  refine codeAny_forLoop_any (MidG s env.locals own n St J) ?_ (n + 1) (MidG.mk (s := s) (Nat.zero_le _) hst F N hn hJ)
  rintro k s' (@⟨h', tk, i, g, m', nw, hi, hst', F', N', off', hJ'⟩)
  have h0 := hg _ _ _ _ hJ'
  have hL0 : g.get? env.locals = none := Heap.get?_none_of_le F'.above
  have hLf : env.locals ∉ fp := fun hm => by
    rcases hfp _ hm with q | ⟨o, q⟩
    · exact hL q
    · exact (N' _ (hfx _ _ _ _ hJ' _ q)).2.1 rfl
  rcases Nat.lt_or_ge i n with hlt | hge
  · have key := W.item i env { s with heap := h', toks := tk } m'
      (fun _ s₂ => wpAny (model prog w) A (execs body env) (fun f s₃ => match f with
        | .next | .cont => ∃ m₁, m₁ < n + 1 - i ∧ MidG s env.locals own n St J m₁ s₃
        | .brk => R (.ok .next) s₃
        | .ret v => R (.ok (.ret v)) s₃) (notedBy (model prog w) A env fun e s' => R (.error e) s') s₂)
      (notedBy (model prog w) A env fun e s' => R (.error e) s') hok hlt hst' F'.ns hLf (fun h₃ tk₃ m₃ hP hst₃ hn₃ k₃ => ?_)
    · refine wpAny_mono key (fun r s₁ hr => ?_) fun _ _ e => e
      cases r with
      | none => exact hr.elim
      | some v => exact hr
    · have F₃ : Fr g env.locals h₃ m₃ := ⟨hn₃, fun b o e => k₃ b o (fun q => by rw [h0 _ q] at e; cases e) (fun q => by rw [q, hL0] at e; cases e) (F'.keep b o e), F'.above⟩
      have N₃ : News g env.locals h₃ nw := fun p hp => ⟨k₃ _ _ (off' p hp) (N' p hp).2.1 (N' p hp).1, (N' p hp).2⟩
      obtain ⟨fo, hfo, Nfo⟩ := owned_of (L := env.locals) own h0 hL own h₃ (fun _ hb => hb) (hlive _ _ hst₃)
      have N₃' : News g env.locals h₃ (fo ++ nw) := fun p hp => by
        rcases List.mem_append.mp hp with hp | hp
        · exact Nfo p hp
        · exact N₃ p hp
      have stay : ∀ {g' h₄ : Heap} {nw'}, News g' env.locals h₄ (fo ++ nw') → (∀ p ∈ fx, p ∈ nw') → St (i + 1) h₄ := fun {g' h₄ nw'} N₄ hx => W.frame _ _ _ hst₃ fun b hb o e => by
        rcases hfp b hb with q | ⟨o', q⟩
        · rw [← hfo] at q
          obtain ⟨p, hp, rfl⟩ := List.mem_map.mp q
          have e1 := (Nfo p hp).1
          rw [e] at e1; cases e1
          exact (N₄ p (List.mem_append_left _ hp)).1
        · have e1 : h₃.get? b = some o' := (N₃ (b, o') (hfx _ _ _ _ hJ' _ q)).1
          rw [e] at e1; cases e1
          exact (N₄ (b, o) (List.mem_append_right _ (hx _ q))).1
      refine wpAny_mono (turn i g m' m₃ nw h₃ tk₃ fo hlt hJ' hP F₃ N₃' hfo off') (fun f s₃ hf => ?_) fun _ _ e => e
      have fin : OutG s env.locals own fo (J (i + 1)) s₃ → ∃ m₁, m₁ < n + 1 - i ∧ MidG s env.locals own n St J m₁ s₃ := fun hf => by
        cases hf with
        | mk F₄ N₄ off₄ hJ₄ => exact ⟨n + 1 - (i + 1), Nat.sub_lt_sub_left (Nat.lt_succ_of_lt hlt) (Nat.lt_succ_self i), .mk hlt (stay N₄ (hfx _ _ _ _ hJ₄)) F₄ (fun p hp => N₄ p (List.mem_append_right _ hp)) off₄ hJ₄⟩
      cases f with
      | next => exact fin hf
      | cont => exact fin hf
      | brk => exact hf
      | ret v => exact hf
  · obtain rfl : i = n := Nat.le_antisymm hi hge
    refine W.done _ _ _ hst' fun h₂ tk₂ k₂ => ?_
    have hAB := keepO F' N' k₂ hL h0 off'
    have F₂ := hAB.1
    have N₂ := hAB.2
    exact wpAny_execs_nil (done g m' nw h₂ tk₂ hJ' F₂ N₂)
/-- a for loop over any iterator that feeds its target, by an invariant; the body may return -/
theorem for_feeds {target : Expr} {body : List Stmt} {it : Value} {ok : Env → Prop} {own fp : List Addr} {fx : List (Addr × Obj)} {n : Nat} {P : Nat → (Str → Option Value) → (Str → Option Value) → Prop} {St : Nat → Heap → Prop} {news : List (Addr × Obj)} {R : Result → Shared → Prop}
    (J : Nat → (Str → Option Value) → List (Addr × Obj) → Prop) (W : Feeds prog w A it target ok own fp n P St) (hok : ok env)
    (hst : St 0 s.heap) (hlive : ∀ i h, St i h → ∀ b ∈ own, ∃ o, h.get? b = some o)
    (F : Fr h₀ env.locals s.heap m) (N : News h₀ env.locals s.heap news) (hL : env.locals ∉ own) (h0 : ∀ b ∈ own, h₀.get? b = none) (hn : ∀ p ∈ news, p.1 ∉ own)
    (hfp : ∀ b ∈ fp, b ∈ own ∨ ∃ o, (b, o) ∈ fx) (hfx : ∀ i m nw, J i m nw → ∀ p ∈ fx, p ∈ nw) (hJ : J 0 m news)
    (turn : ∀ i m₁ m₂ nw h tk fo, i < n → J i m₁ nw → P i m₁ m₂ → Fr h₀ env.locals h m₂ → News h₀ env.locals h (fo ++ nw) → fo.map (·.1) = own → (∀ p ∈ nw, p.1 ∉ own) →
      wpAny (model prog w) A (execs body env) (fun f s' => match f with
        | .next | .cont => OutG s env.locals own fo (fun g m nw => g = h₀ ∧ J (i + 1) m nw) s'
        | .brk => R (.ok .next) s'
        | .ret v => R (.ok (.ret v)) s') (notedBy (model prog w) A env fun e s' => R (.error e) s') { s with heap := h, toks := tk })
    (done : ∀ m' nw h tk, J n m' nw → Fr h₀ env.locals h m' → News h₀ env.locals h nw → R (.ok .next) { s with heap := h, toks := tk }) :
    codeAny (model prog w) A (.forLoop target it body [] env) R s := 
  for_feedsG (fun i g m nw => g = h₀ ∧ J i m nw) W hok hst hlive F N hL (fun i g m nw hj => hj.1 ▸ h0) hn hfp (fun i g m nw hj => hfx i m nw hj.2) ⟨rfl, hJ⟩
    (fun i g m₁ m₂ nw h tk fo hi hj hP F' N' hfo off => turn i m₁ m₂ nw h tk fo hi hj.2 hP (hj.1 ▸ F') (hj.1 ▸ N') hfo off)
    (fun g m' nw h tk hj F' N' => done m' nw h tk hj.2 (hj.1 ▸ F') (hj.1 ▸ N'))
end
section
variable {prog : Program} {w : World} {A : Around} {E : Value → Shared → Prop} {s : Shared}
theorem letgo_tupiter {elts : List Expr} {x1} {pos : Pos} {I l T : Addr} {i : Nat} {Q : Unit → Shared → Prop} (hit : s.heap.IsTupleIter I l i) (hQ : Q () s) :
    wpAny (model prog w) A (letOwnedTupleGo (.Tuple elts x1 pos) (.ref I) (.ref T)) Q E s := by
  obtain ⟨o, ho, hc, hd⟩ := hit
  unfold letOwnedTupleGo
  refine wpAny_bind (wpAny_load ho ?_)
  rw [hc, hd]
  show wpAny _ A (if (["enumerate", "zip", "dict_itemiterator", "dict_reverseitemiterator", "odict_iterator", "itertools.zip_longest", "itertools.pairwise"].contains "tuple_iterator" &&
      (#[.ref l, .int i 0] : Array Value)[0]? == some (rawInt T)) = true then _ else _) Q E s
  rw [if_neg (by
    intro h
    rw [show (["enumerate", "zip", "dict_itemiterator", "dict_reverseitemiterator", "odict_iterator", "itertools.zip_longest", "itertools.pairwise"].contains "tuple_iterator") = false from by decide, Bool.false_and] at h
    cases h)]
  exact wpAny_pure hQ
/-- a tuple of pairs, each a tuple, all in the ledger -/
theorem feeds_tups {I ax : Addr} {prs : List (Addr × Value × Value)} {a b : Str} {pa pb tp : Pos} {kk : Nat} (hh : A.handled = none) (hne : ax ≠ I) (hp : ∀ p ∈ prs, p.1 ≠ I) :
    Feeds prog w A (.ref I) (.Tuple [.Name a pa, .Name b pb] kk tp) (okP a b) [I] (I :: ax :: prs.map (·.1)) prs.length
      (fun i m m' => ∃ p, prs[i]? = some p ∧ m' = fun z => if z = b then some p.2.2 else if z = a then some p.2.1 else m z)
      (fun i h => h.IsTupleIter I ax i ∧ h.IsTuple ax (prs.map fun p => Value.ref p.1).toArray ∧ ∀ p ∈ prs, h.IsTuple p.1 #[p.2.1, p.2.2]) where
  frame := fun i h h' st k => ⟨st.1.at fun o e => k I (by simp) o e, st.2.1.at fun o e => k ax (by simp) o e, fun p hp => (st.2.2 p hp).at fun o e => k p.1 (List.Mem.tail _ (List.Mem.tail _ (List.mem_map_of_mem hp))) o e⟩
  item := fun i env s m Q E hok hi hst hn hL hQ => by
    have hx : (prs.map fun p => Value.ref p.1).toArray[i]? = some (.ref prs[i].1) := by simp [hi]
    have hm : prs[i] ∈ prs := List.getElem_mem hi
    have hLI : env.locals ≠ I := fun q => hL (q ▸ List.Mem.head _)
    refine wpAny_pyNext_tuple_item hst.1 hst.2.1 hx fun h' hit' hs' => ?_
    have ht : h'.IsTuple prs[i].1 #[prs[i].2.1, prs[i].2.2] := (hst.2.2 _ hm).extBut hs'.extBut (hp _ hm)
    refine letgo_tupiter (s := { s with heap := h' }) hit' ?_
    refine kcp_assign (s := { s with heap := h' }) hh ht hok.1 hok.2.1 hok.2.2 (hn.at' fun o e => hs'.extBut _ o hLI e) fun h₃ tk₃ n₃ k₃ => ?_
    have kk : ∀ b o, b ∈ I :: ax :: prs.map (·.1) → h'.get? b = some o → h₃.get? b = some o := fun b o hb e => k₃ b o (fun q => hL (q ▸ hb)) e
    refine hQ h₃ tk₃ _ ⟨prs[i], by simp [hi], rfl⟩ ⟨hit'.at fun o e => kk I o (by simp) e, (hst.2.1.extBut hs'.extBut hne).at fun o e => kk ax o (by simp) e, fun p hp' => ((hst.2.2 p hp').extBut hs'.extBut (hp _ hp')).at fun o e => kk p.1 o (List.Mem.tail _ (List.Mem.tail _ (List.mem_map_of_mem hp'))) e⟩ n₃ fun b o hb hbL e => k₃ b o hbL (hs'.extBut b o (fun q => hb (q ▸ List.Mem.head _)) e)
  done := fun s Q E st hQ => wpAny_pyNext_tuple_end hh st.1 st.2.1 (by simp) fun h' he' => hQ h' s.toks fun b o hb e => he' b o (fun h => hb (by simp [h])) e
  self := fun _ _ _ _ st hQ => wpAny_pyIter_tupleiter st.1 hQ
end
section
variable {prog : Program} {w : World} {A : Around} {E : Value → Shared → Prop} {s : Shared} {h₀ : Heap} {L : Addr} {m : Str → Option Value}
theorem append_l {l : Addr} {vs : List Value} {c : Nat} {v : Value} {nw nw' : List (Addr × Obj)} {Q : Value → Shared → Prop} (F : Fr h₀ L s.heap m) (N : News h₀ L s.heap nw) (U : Upd l (listOf vs.toArray c) (listOf (vs ++ [v]).toArray (c + 1)) nw nw') (hz : vs.length ≤ 1000)
    (h : ∀ h', Fr h₀ L h' m → News h₀ L h' nw' → Q .none { s with heap := h' }) : wpAny (model prog w) A (call (.builtin "list.append") [.ref l, v]) Q E s := by
  have hl := (N _ (by obtain ⟨pre, post, rfl, rfl, a, b⟩ := U.split; simp : (l, listOf vs.toArray c) ∈ nw))
  refine append_at (hsz := by rw [List.size_toArray, sizeLine_eq]; omega) hl.1 fun h' hs hD => ?_
  refine h h' (F.change hs hl.2.1 hl.2.2) fun p hp => ?_
  obtain ⟨pre, post, rfl, rfl, a, b⟩ := U.split
  simp only [List.mem_append, List.mem_cons] at hp
  rcases hp with hp | rfl | hp
  · have z := N p (by simp [hp]); exact ⟨hs.extBut _ _ (a p hp) z.1, z.2⟩
  · exact ⟨by rw [hD]; simp, hl.2⟩
  · have z := N p (by simp [hp]); exact ⟨hs.extBut _ _ (b p hp) z.1, z.2⟩
end
section
variable {prog : Program} {w : World} {A : Around} {E : Value → Shared → Prop} {s : Shared} {h₀ : Heap} {L : Addr} {m : Str → Option Value} {news : List (Addr × Obj)}
/-- the iterator of a list -/
theorem iter_list_ {l : Addr} {items : Array Value} {cnt : Nat} {Q : Value → Shared → Prop} (F : Fr h₀ L s.heap m) (N : News h₀ L s.heap news) (hl : (l, listOf items cnt) ∈ news)
    (h : ∀ I h', h'.IsListIter I l 0 → h'.IsList l items → Fr h₀ L h' m → News h₀ L h' news → (∀ p ∈ news, p.1 < I) → (I ≠ L ∧ h₀.get? I = none) → Q (.ref I) { s with heap := h' }) : wpAny (model prog w) A (pyIter (.ref l)) Q E s := by
  refine wpAny_pyIter_list (items := items) ⟨_, (N _ hl).1, rfl, _, rfl⟩ ?_
  obtain ⟨F', N'⟩ := keepsFN F N (fun b o e => Heap.get?_push_of_some { cls := .type "list_iterator", data := .fields #[.ref l, .int 0 0] } e)
  exact h _ _ ⟨_, Heap.get?_push_size _ rfl, rfl, rfl⟩ ⟨_, (N' _ hl).1, rfl, _, rfl⟩ F' N' (fun p hp => Heap.lt_size (N p hp).1) (kdx_fresh F (Nat.le_refl _))
end
section
variable {prog : Program} {w : World} {A : Around} {c : Value} {od : Option Addr} {es : List DictEntry} {it d : Addr} {ep : Nat}
/-- an items iterator binds two names -/
theorem feeds_items {a b : Str} {pa pb tp : Pos} {kk : Nat} (hh : A.handled = none) (hdi : d ≠ it) : Feeds prog w A (.ref it) (.Tuple [.Name a pa, .Name b pb] kk tp) (okP a b) [it] [it, d] es.length (fun i m m' => ∃ e, es[i]? = some e ∧ m' = fun z => if z = b then some e.val else if z = a then some e.key else m z) (fun i h => ItAt h it d i es.length ep ∧ h.get? d = some (dob c od es ep)) where
  frame := fun i h h' st k => ⟨let ⟨f0, f1, f6, f7, hf, hi⟩ := st.1; ⟨f0, f1, f6, f7, hf, k it (List.Mem.head _) _ hi⟩, k d (List.Mem.tail _ (List.Mem.head _)) _ st.2⟩
  item := fun i env s m Q E hok hi hst hn hL hQ => by
    have hx : es[i]? = some es[i] := List.getElem?_eq_getElem hi
    have hLi : env.locals ≠ it := fun e => hL (e ▸ List.Mem.head _)
    refine next_item hst.1 hst.2 hx fun h₁ x1 x2 x3 x4 => ?_
    have hti : s.heap.objs.size ≠ it := let ⟨_, _, _, _, _, q⟩ := hst.1; Nat.ne_of_gt (Heap.lt_size q)
    refine let_owned (s := { s with heap := h₁ }) x1 fun h₂ y1 y2 y3 => ?_
    have ht : h₂.IsTuple s.heap.objs.size #[es[i].key, es[i].val] := ⟨_, y2 _ _ hti x2, rfl, _, rfl⟩
    refine kcp_assign (s := { s with heap := h₂ }) hh ht hok.1 hok.2.1 hok.2.2 ((hn.at' fun o e => x4 _ o hLi e).at' fun o e => y2 _ o hLi e) fun h₃ tk₃ n₃ k₃ => ?_
    refine hQ h₃ tk₃ _ ⟨_, hx, rfl⟩ ⟨let ⟨f0, f1, f6, f7, hf, hi⟩ := y1; ⟨f0, f1, f6, f7, hf, k₃ _ _ (Ne.symm hLi) hi⟩, k₃ _ _ (fun e => hL (e ▸ List.Mem.tail _ (List.Mem.head _))) (y2 _ _ hdi (x4 _ _ hdi hst.2))⟩ n₃ fun b o hb hbL e => ?_
    have hbi : b ≠ it := fun q => hb (q ▸ List.Mem.head _)
    exact k₃ b o hbL (y2 b o hbi (x4 b o hbi e))
  done := fun s Q E hst hQ => next_end hh hst.1 hst.2 fun h' k => hQ h' _ fun b o hb e => k b o (fun q => hb (q ▸ List.Mem.head _)) e
  self := fun i s Q E hst hq => iter_self hst.1 hq
end
end Mine
end
section
open PySem PySem.W PySem.Spec PySem.Calls PyProof.Rows
set_option Elab.async false
set_option maxRecDepth 100000
set_option maxHeartbeats 1000000
set_option linter.unusedVariables false
namespace Mine
section
variable {prog : Program} {w : World} {A₀ A : Around} {s : Shared} {base h₀ : Heap} {L a : Addr} {m : Str → Option Value} {cn : Str} {cs : Scope} {ccd : Value} {cl : List (Str × Addr)} {news : List (Addr × Obj)} {K : Frag} {p : Program} {loose : List Str} {mean : ExcName → Option Value} {mg mb : Str → Option Value}
    {R : Result → Shared → Prop} {name qual : Str} {params : Arguments} {body : List Stmt} {scope : Scope} {dV kV doc pm cdv ct oc : Value} {an od : Option Addr} {osl : Array (Option Value)} {f : Addr} {args : Args} {binds : List (Str × Value)}
/-- a def that may catch what its callees raise, called from the bottom frame (which may have cells) -/
theorem enter_S0 (B : Below A₀ base [] h₀) (F : Fr h₀ L s.heap m) (X₀ : K.In h₀) (N : News h₀ L s.heap news) (T : Top p loose mean mg mb h₀) (hA : A.frames = some [envX cn cs L a ccd cl])
    (ho : K.lookup f = some ⟨oc, od, .func (fnOf name qual params body scope dV kV doc pm an cdv ct), osl⟩) (hcd : codeIn K cdv qual = true) (hroom : A.depth < recursionLimit)
    (hbind : BindsTo s (fnOf name qual params body scope dV kV doc pm an cdv ct) args binds) (hloc : ∀ y ∈ binds, scope.names.lookup y.1 = some .local)
    (h : ∀ g L' h₁, Fr h₀ L g m → Fr g L' h₁ (fun y => binds.reverse.lookup y) → News g L' h₁ news → Below A base [envX cn cs L a ccd cl] g → K.In g → Top p loose mean mg mb g → (∀ q ∈ news, q.1 < L') →
      wpAny (model prog w) (A.deeper (envOf qual scope L' f cdv)) (execs body (envOf qual scope L' f cdv))
        (fun fl s' => LeaveS0 ([envX cn cs L a ccd cl].filterMap (·.frame)) h₀ L m g R (match fl with | .ret v => v | _ => .none) s')
        (fun _ _ => False) { s with heap := h₁, toks := s.toks + binds.length })
    (hck : cs.kind = .function) (hco : scope.isCoroutine = false) (hgen : scope.isGenerator = false) (hk : scope.kind = .function)
    (hcell : ∀ x ∈ scope.names, x.2 ≠ .cell) : codeAny (model prog w) A (.call (.ref f) args) R s := by
  have X := X₀.keeps F.keep
  obtain ⟨FG, BG, st, lv⟩ := groundX (R := R) (env := envX cn cs L a ccd cl) B F N hA rfl hck
  refine codeAny_call_def (fd := fnOf name qual params body scope dV kV doc pm an cdv ct) (body := body) (binds := binds) hroom (X _ _ ho) rfl (T.nolimit.keeps F.keep) (codeRec_of X hcd) rfl hbind hcell hloc (fun h₁ hns hk₁ => ?_) hco hgen hk
  refine wpAny_mono (h _ s.heap.objs.size h₁ FG ⟨hns, fun b o e => hk₁ b o (of_hideAll _ e), Nat.le_of_eq (hideAll_size _ _)⟩
    (fun p hp => ⟨hk₁ _ _ (N p hp).1, Nat.ne_of_lt (Heap.lt_size (N p hp).1), hideAll_none _ (List.mem_map_of_mem hp)⟩) BG (X₀.keeps st) (T.keeps st) (fun q hq => Heap.lt_size (N q hq).1)) (fun fl s' hl => ?_) fun _ _ y => y.elim
  obtain ⟨g', L', m', news', T', F', N', k⟩ := hl
  have nL₀ : h₀.get? L = none := kts_self F
  obtain ⟨oL, es, ep, hLg, hLd, hLk, hLf⟩ := FG.ns
  obtain ⟨sl, hs⟩ := T'.up hLg
  have mem1 : ∀ b, b ∈ ([envX cn cs L a ccd cl].filterMap (·.frame)) → b = L := fun b hb => by
    have hb : b ∈ [L] := hb
    exact List.mem_singleton.mp hb
  refine k ⟨⟨_, es, ep, F'.keep _ _ hs, hLd, hLk, hLf⟩, fun b o e => F'.keep b o (T'.other b o (st b o e) (fun q => by
    rw [mem1 b q, nL₀] at e; cases e)), F.above⟩ fun p hp => ⟨(N' p hp).1, fun q => ?_, ?_⟩
  · have := (N' p hp).2.2; rw [q, hs] at this; cases this
  · cases q : h₀.get? p.1 with
    | none => rfl
    | some o =>
      obtain ⟨sl', hs'⟩ := T'.up (st _ _ q)
      have := (N' p hp).2.2
      rw [hs'] at this
      cases this
end
section
variable {prog : Program} {w : World} {A₀ : Around} {E : Value → Shared → Prop} {s' : Shared} {base g G B : Heap} {outer : List Env} {L a e : Addr} {m : Str → Option Value} {name : Str} {scope : Scope} {cd a0 : Value}
  {b₀ : Stmt} {suite : List Stmt} {pos np : Pos} {rest : List ExceptHandler} {Q : Flow → Shared → Prop} {news : List (Addr × Obj)} {KF : Frag}
  {p : Program} {loose : List Str} {mean : ExcName → Option Value} {mg mb : Str → Option Value} {x : Str} {X T' : String}
theorem held_tail (H : Heap.HeldW B (envOf name scope L a cd :: outer) e (.type X) a0 L s'.heap) (hBG : ∀ b o, G.get? b = some o → b ∉ (envOf name scope L a cd :: outer).filterMap (·.frame) → B.get? b = some o)
    (hl : ∀ q ∈ news, B.get? q.1 = some q.2 ∧ g.get? q.1 = none) (F : Fr g L G m) (K : Below A₀ base outer g) (hsm : G.UpToSlots s'.heap) (XB : KF.In base) (TB : Top p loose mean mg mb base)
    (ex : nsIn KF mainGlobals x = some none) (hv : bootBuiltins x = some (.type T')) (hn' : x ≠ "__name__")
    (hexc : isSubtype (.type T') (.type "BaseException") = pure true) (hnt : isSubtype (.type ((Manifest.find? T').elim "type" fun y => y.metatype)) (.type "tuple") = pure false) (hsub : isSubtype (.type X) (.type T') = pure true)
    (k : ∀ h' g', KtsTurn (outer.filterMap (·.frame)) g g' → Fr g' L h' m → News g' L h' news → Below A₀ base outer g' →
      wpAny (model prog w) ((A₀.deeper (envOf name scope L a cd)).mark (some (.ref e))) (execs (b₀ :: suite) (envOf name scope L a cd)) Q (fun _ _ => False) { s' with heap := h' })
    (hk : scope.kind = .function) (hx : (envOf name scope L a cd).kindOf x = some .globalImplicit) (hd : (x == ("__debug__" : Str)) = false) :
    wpAny (model prog w) (A₀.deeper (envOf name scope L a cd)) (setFlight (.ref e) none) (fun _ s₃ =>
        wpAny (model prog w) (A₀.deeper (envOf name scope L a cd)) (handleBy (.ref e) (envOf name scope L a cd) (.ExceptHandler (some (.Name x np)) none (b₀ :: suite) pos :: rest)) Q (fun _ _ => False) s₃) (fun _ _ => False) s' := by
  have hL : B.get? L = none := by
    obtain ⟨_, ⟨L', _, hf, hn', _⟩, _⟩ := H.2.2.1
    obtain rfl : L = L' := Option.some.inj hf
    exact hn'
  refine wpAny_landsW H fun h₅ hheld hsm₅ => ?_
  obtain ⟨g₅, T₅, F₅, K₅⟩ := kts_ground K F hBG hheld.1 (hsm.trans hsm₅)
  obtain ⟨ob, hob, hobc⟩ := hheld.there
  refine wpAny_handleBy_builtin (X := X) (T := T') (b := true) hexc hnt hsub (name_B F₅ (XB.keeps K₅.stays) (topRead_of (TB.keeps K₅.stays)) ex hv hn' ⟨rfl, ⟨ob, hob, hobc⟩, ?_⟩ hk hx hd)
  refine lands_againW hheld fun h₆ hfl₆ hsm₆ => ?_
  obtain ⟨g₆, T₆, F₆, K₆⟩ := kts_ground K F hBG hfl₆.1 ((hsm.trans hsm₅).trans hsm₆)
  have Nl : News g₆ L h₆ news := fun q hq => ⟨hfl₆.1 _ _ (hl q hq).1, (fun z => by have := (hl q hq).1; rw [z, hL] at this; cases this), T₆.none_ _ (hl q hq).2⟩
  exact wpAny_passesOwnAt PassesOwnAt.never (k h₆ g₆ T₆ F₆ Nl K₆)
/-- a KeyError on its way: out of a callee, or just raised here -/
noncomputable def Flew (base : Heap) (env : Env) (outer : List Env) (g : Heap) (L : Addr) (m : Str → Option Value) (news : List (Addr × Obj)) (e : Value) (s' : Shared) : Prop :=
  ∃ a, e = .ref a ∧ ((∃ G, Fr g L G m ∧ RaisedSN base G (env :: outer) a (.type "KeyError") news s'.heap ∧ G.UpToSlots s'.heap) ∨
    (∃ h, Heap.NewExc h s'.heap a "KeyError" ∧ Fr g L h m ∧ News g L h news))
theorem caught_flew {ev : Value} (hfl : Flew base (envOf name scope L a cd) outer g L m news ev s') (K : Below A₀ base outer g) (XB : KF.In base) (TB : Top p loose mean mg mb base) (ex : nsIn KF mainGlobals "KeyError" = some none)
    (k : ∀ h' g' hd, KtsTurn (outer.filterMap (·.frame)) g g' → Fr g' L h' m → News g' L h' news → Below A₀ base outer g' →
      wpAny (model prog w) ((A₀.deeper (envOf name scope L a cd)).mark (some hd)) (execs (b₀ :: suite) (envOf name scope L a cd)) Q (fun _ _ => False) { s' with heap := h' })
    (hk : scope.kind = .function) (hx : (envOf name scope L a cd).kindOf "KeyError" = some .globalImplicit) :
    wpAny (model prog w) (A₀.deeper (envOf name scope L a cd)) (noteFrame ev (envOf name scope L a cd)) (fun _ s₂ => wpAny (model prog w) (A₀.deeper (envOf name scope L a cd)) (setFlight ev none) (fun _ s₃ =>
        wpAny (model prog w) (A₀.deeper (envOf name scope L a cd)) (handleBy ev (envOf name scope L a cd) (.ExceptHandler (some (.Name "KeyError" np)) none (b₀ :: suite) pos :: rest)) Q (fun _ _ => False) s₃) (fun _ _ => False) s₂) (fun _ _ => False) s' := by
  obtain ⟨e, rfl, ⟨G, F, R, U⟩ | ⟨h, hx', F, N⟩⟩ := hfl
  · obtain ⟨B, a0, hB, hBG, hl, hf⟩ := R
    refine wpAny_looks_onW (Around.frames_deeper K.stack) rfl hf fun h₄ H hs => ?_
    exact held_tail (s' := { s' with heap := h₄ }) H hBG (fun q hq => ⟨(hl q hq).1, kts_none F.keep (hl q hq).2.1⟩) F K (U.trans hs) XB TB ex PyProof.Rows.Boot.«KeyError» (by decide) kr_isExc_KeyError kr_notTuple_KeyError (by rw [isSubtype_type]; kernel_rfl)
      (fun h' g' a b c d => k h' g' _ a b c d) hk hx (by decide)
  · have K' := pushX (env := envOf name scope L a cd) K F rfl hk
    have hin : ∀ env ∈ (envOf name scope L a cd :: outer), ∀ b, env.frame = some b → b ∈ (envOf name scope L a cd :: outer).filterMap (·.frame) := fun env he b hb => List.mem_filterMap.mpr ⟨env, he, hb⟩
    have hBG : ∀ b o, h.get? b = some o → b ∉ (envOf name scope L a cd :: outer).filterMap (·.frame) → (hideAll h ((envOf name scope L a cd :: outer).filterMap (·.frame))).get? b = some o := fun b o q nm => hideAll_get _ q nm
    have hl : ∀ q ∈ news, (hideAll h ((envOf name scope L a cd :: outer).filterMap (·.frame))).get? q.1 = some q.2 ∧ g.get? q.1 = none := fun q hq => by
      refine ⟨hideAll_get _ (N q hq).1 fun hm => ?_, (N q hq).2.2⟩
      obtain ⟨env, he, hf⟩ := List.mem_filterMap.mp hm
      rcases List.mem_cons.mp he with rfl | he
      · exact (N q hq).2.1 (Option.some.inj hf).symm
      · obtain ⟨o, ho, _⟩ := (K.frames.mem (List.mem_filterMap.mpr ⟨env, he, hf⟩)).2
        rw [(N q hq).2.2] at ho; cases ho
    obtain ⟨ob, tp, he, hcls, hd⟩ := hx'.there
    have hen : (hideAll h ((envOf name scope L a cd :: outer).filterMap (·.frame))).get? e = none := by
      cases q : (hideAll h ((envOf name scope L a cd :: outer).filterMap (·.frame))).get? e with
      | none => rfl
      | some o => have := of_hideAll _ q; rw [hx'.new] at this; cases this
    unfold noteFrame
    simp only [show (envOf name scope L a cd).frame = some L from rfl]
    refine wpAny_bind (wpAny_field he hd (x := .none) rfl ?_)
    refine wpAny_entryW (a0 := tp) (Around.frames_deeper K.stack) ((funFrames_hide K'.frames hin).of_keeps fun b o hb _ => ⟨o, hx'.keeps b o hb, rfl⟩) rfl he (fun b o hb => hx'.keeps b o (of_hideAll _ hb)) hen hd (by show 1 < 6; decide) rfl fun h' hN => ?_
    obtain ⟨k1, k2, k3, k4⟩ := hN
    exact held_tail (s' := { s' with heap := h' }) (G := h) ⟨k1, hen, k2, by rw [← hcls]; exact k3⟩ hBG hl F K ((Heap.UpToSlots.of_keeps hx'.keeps).trans k4) XB TB ex PyProof.Rows.Boot.«KeyError» (by decide) kr_isExc_KeyError kr_notTuple_KeyError (by rw [isSubtype_type]; kernel_rfl)
      (fun h' g' a b c d => k h' g' _ a b c d) hk hx (by decide)
end
end Mine
end
section
open PySem PySem.W PySem.Spec PySem.Calls PyProof.Rows
set_option Elab.async false
set_option maxRecDepth 100000
set_option maxHeartbeats 4000000
set_option linter.unusedVariables false
namespace Mine
theorem memX {name : Str} {scope : Scope} {L a b : Addr} {cd : Value} {cl : List (Str × Addr)} {outer : List Env} (hm : b ∈ (envX name scope L a cd cl :: outer).filterMap (·.frame)) : b = L ∨ b ∈ outer.filterMap (·.frame) := by
  obtain ⟨env, he, hf⟩ := List.mem_filterMap.mp hm
  rcases List.mem_cons.mp he with rfl | he
  · exact .inl (Option.some.inj hf).symm
  · exact .inr (List.mem_filterMap.mpr ⟨env, he, hf⟩)
section
variable {M : Model} {A : Around} {E : Value → Shared → Prop} {s' : Shared} {base g g₂ h : Heap} {outer : List Env} {L a e : Addr} {m : Str → Option Value} {name : Str} {scope : Scope} {cd : Value} {cl : List (Str × Addr)} {Q : Unit → Shared → Prop} {news : List (Addr × Obj)}
theorem leave_newSX {cls : String} (K : Below A base outer g) (hx : Heap.NewExc h s'.heap e cls) (F : Fr g L h m) (N : News g L h news)
    (hQ : ∀ h', RaisedSN base g outer e (.type cls) news h' → g.UpToSlots h' → Q () { s' with heap := h' }) (hk : scope.kind = .function) :
    wpAny M (A.deeper (envX name scope L a cd cl)) (leaving (envX name scope L a cd cl) (.ref e)) Q E s' := by
  have K' := pushX (env := envX name scope L a cd cl) K F rfl hk
  have hin : ∀ env ∈ (envX name scope L a cd cl :: outer), ∀ b, env.frame = some b → b ∈ (envX name scope L a cd cl :: outer).filterMap (·.frame) := fun env he b hb => List.mem_filterMap.mpr ⟨env, he, hb⟩
  have st : base.StaysIn (hideAll h ((envX name scope L a cd cl :: outer).filterMap (·.frame))) := fun b o q => hideAll_get _ (K'.stays b o q) fun hm => by
    rw [(K'.frames.mem hm).1] at q; cases q
  have sg : ∀ b o, g.get? b = some o → b ∉ outer.filterMap (·.frame) → (hideAll h ((envX name scope L a cd cl :: outer).filterMap (·.frame))).get? b = some o := fun b o q nm => hideAll_get _ (F.keep b o q) fun hm => by
    rcases memX hm with z | z
    · rw [z, kts_self F] at q
      cases q
    · exact nm z
  have hl : ∀ q ∈ news, (hideAll h ((envX name scope L a cd cl :: outer).filterMap (·.frame))).get? q.1 = some q.2 ∧ g.get? q.1 = none ∧ base.get? q.1 = none := fun q hq => by
    refine ⟨hideAll_get _ (N q hq).1 fun hm => ?_, (N q hq).2.2, fresh_of_stays K.stays (N q hq).2.2⟩
    obtain ⟨env, he, hf⟩ := List.mem_filterMap.mp hm
    rcases List.mem_cons.mp he with rfl | he
    · exact (N q hq).2.1 (Option.some.inj hf).symm
    · obtain ⟨o, ho, _⟩ := (K.frames.mem (List.mem_filterMap.mpr ⟨env, he, hf⟩)).2
      rw [(N q hq).2.2] at ho; cases ho
  obtain ⟨ob, tp, he, hcls, hd⟩ := hx.there
  have hen : (hideAll h ((envX name scope L a cd cl :: outer).filterMap (·.frame))).get? e = none := by
    cases q : (hideAll h ((envX name scope L a cd cl :: outer).filterMap (·.frame))).get? e with
    | none => rfl
    | some o => have := of_hideAll _ q; rw [hx.new] at this; cases this
  refine wpAny_leaving_firstW (a0 := tp) K'.stack ((funFrames_hide K'.frames hin).of_keeps fun b o hb _ => ⟨o, hx.keeps b o hb, rfl⟩) rfl he (fun b o hb => hx.keeps b o (of_hideAll _ hb)) hen hd rfl rfl fun h' hL => ?_
  obtain ⟨k1, ⟨_, _, k2⟩, k3, k4⟩ := hL
  have R : RaisedSN base g outer e (.type cls) news h' := ⟨_, tp, st, sg, hl, k1, hen, k2, by rw [← hcls]; exact k3⟩
  exact hQ h' R (((Heap.UpToSlots.of_keeps F.keep).trans (Heap.UpToSlots.of_keeps hx.keeps)).trans k4)
end
end Mine
end
section
open PySem PySem.W PySem.Calls PyProof.Rows
set_option Elab.async false
set_option maxRecDepth 100000
set_option maxHeartbeats 1000000
set_option linter.unusedVariables false
set_option pp.maxSteps 3000
set_option pp.deepTerms false
set_option pp.deepTerms.threshold 6
namespace Mine
theorem ns_isinstance {P} : nsIn (Mine.hd.heap_39 P) mainGlobals (Str.ofString "isinstance") = some none := by kernel_rfl
theorem ns_str {P} : nsIn (Mine.hd.heap_39 P) mainGlobals (Str.ofString "str") = some none := by kernel_rfl
theorem ns_bytes {P} : nsIn (Mine.hd.heap_39 P) mainGlobals (Str.ofString "bytes") = some none := by kernel_rfl
theorem kf_tou {P} : nsIn (Mine.hd.heap_39 P) mainGlobals (Str.ofString "to_unicode") = some (some (.ref 29)) := by kernel_rfl
theorem kf_tou_k {P} : keepIn (Mine.hd.heap_39 P) (.ref 29) = true := by kernel_rfl
theorem bb_isinstance : bootBuiltins (Str.ofString "isinstance") = some (.builtin "isinstance") := by decide +kernel
theorem bb_str : bootBuiltins (Str.ofString "str") = some (.type "str") := by decide +kernel
theorem bb_bytes : bootBuiltins (Str.ofString "bytes") = some (.type "bytes") := by decide +kernel
theorem kf_bs {P} : kitOne (Mine.hd.heap_39 P) (.type "bytes") (.type "str") = some false := by kernel_rfl
theorem kf_bb {P} : kitOne (Mine.hd.heap_39 P) (.type "bytes") (.type "bytes") = some true := by kernel_rfl
theorem method_eq {env : Env} {x name : Str} {px apos pos : Pos} {args : List Expr} (hp : (apos.endLine == pos.line) = true) (hf : methodCallForm (args.length + 0) (backTo pos (starEach args env)) [] = true) :
    eval (.Call (.Attribute (.Name x px) name apos) args [] pos) env = (do
      let ov ← eval (.Name x px) env
      standAt apos.atName
      let (f, first) ← holding [ov] (getMethod ov name (do return (← importBound (.Name x px) env).getD true))
      callWith pos f first (backTo pos (starEach args env)) []) := by
  have e : eval (.Call (.Attribute (.Name x px) name apos) args [] pos) env = (do
    let ov ← eval (.Name x px) env
    standAt apos.atName
    methodCall (.Name x px) name apos pos env ov (args.length + 0) (backTo pos (starEach args env)) []) := rfl
  rw [e]
  unfold methodCall methodCallPos calleeOf
  rw [hf]
  simp only [hp, Bool.not_true, Bool.false_or, if_true]
  rfl
section
variable {w : World} {p : Program} {loose : List Str} {mean : ExcName → Option Value} {mg mb : Str → Option Value} {dp un : Nat} {gd : Option (List Code)} {cn : Str} {cs : Scope} {a : Addr} {ccd : Value} {cl : List (Str × Addr)} {outer : List Env} {A₀ : Around} {base h₀ : Heap} {L : Addr} {m : Str → Option Value} {news : List (Addr × Obj)} {s : Shared} {Q E : Value → Shared → Prop}
theorem tou_c (B : Below A₀ base outer h₀) (F : Fr h₀ L s.heap m) (X : (Mine.hd.heap_39 w.params).In h₀) (N : News h₀ L s.heap news) (T : Top p loose mean mg mb h₀) (hk : cs.kind = .function) (hd : dp + 3 < recursionLimit) (hu : un + 24 < cLine) {kv : Value} {k : Str} (hkv : KeyV kv k) (hlen : k.length ≤ 100)
    (ret : ∀ t h' tk', Fr h₀ L h' m → News h₀ L h' news → Q (.str k t) { s with heap := h', toks := tk' }) :
    wpAny (model PySem.Challenge.rw_be0018_01.row.prog w) (ktrTop dp un gd cn cs L a ccd cl outer) (call (.ref 29) [kv]) Q E s := by
  revert X
  k_fill
  intro X
  refine wpAny_call ?_
  refine' code_def (K := Mine.hd.heap_39 w.params) B F X N T rfl rfl hk ?k6 ?k7 ?k8 ?k9 ?kB ?_ ?c2 ?c3 ?c4 ?c5
  (case k6 => k_is)
  (case k7 => k_is)
  (case k8 => show dp < recursionLimit; omega)
  (case k9 => exact binds_K (X.keeps F.keep) rfl (by k_is) rfl rfl rfl)
  (case kB => exact locs rfl)
  (case c2 => exact rfl)
  (case c3 => exact rfl)
  (case c4 => exact rfl)
  (case c5 => decide)
  intro g L1 h1 FG F1 N1 B1 X1 T1
  generalize hbs : (List.filterMap (fun n => Option.map _ _) _ : List (Str × Value)).reverse = bs at F1
  have e1 : List.lookup (Str.ofString "value") bs = some kv := by rw [← hbs]; rfl
  clear hbs
  have R1 := topRead_of T1
  refine wpAny_noRaise (gen_q fun Q' hQ => ?_)
  refine wpAny_execs_cons (wpAny_If (isTrue_plain (Call_ (nameX_B F1 X1 R1 ns_isinstance bb_isinstance (by decide) ?_))))
  refine PyProof.Rows.callWith_builtin1 (spliced_more (nameX_L F1 e1 (spliced_more (nameX_B F1 X1 R1 ns_str bb_str (by decide) (spliced_none ?_)))))
  cases hkv with
  | str =>
    refine IsiPair.str_str (wpAny_truthy_bool ?_)
    exact wpAny_execs_cons (wpAny_Return_some (nameX_L F1 e1 (hQ _ _ (leaveK_ F1 N1 fun kF kN => ret _ _ _ kF kN))))
  | bytes hd =>
    refine kia_one (K := Mine.hd.heap_39 w.params) kitx_bytes (X1.keeps F1.keep) trivial kf_bs (by intro e; cases e) fun tk => wpAny_truthy_bool ?_
    refine wpAny_execs_nil (wpAny_execs_cons (wpAny_If (isTrue_plain (Call_ (nameX_B (s := { s with heap := h1, toks := tk }) F1 X1 R1 ns_isinstance bb_isinstance (by decide) ?_)))))
    refine PyProof.Rows.callWith_builtin1 (spliced_more (nameX_L F1 e1 (spliced_more (nameX_B F1 X1 R1 ns_bytes bb_bytes (by decide) (spliced_none ?_)))))
    refine kia_one (s := { s with heap := h1, toks := tk }) (K := Mine.hd.heap_39 w.params) kitx_bytes (X1.keeps F1.keep) trivial kf_bb (by intro e; cases e) fun tk2 => wpAny_truthy_bool ?_
    refine wpAny_execs_cons (wpAny_Return_some (MethodCall_ (nameX_L (s := { s with heap := h1, toks := tk2 }) F1 e1 ?_) (method_eq rfl rfl)))
    with_reducible refine getMethod_builtin (T := "bytes") (id := "bytes.decode") ?ga ?gb ?gc ?gd ?ge ?gf
    case ga => exact typeIs_bytes _ _ _
    case gb => exact FB.plainAttrs_bytes
    case gc => exact FB.slot_bytes_decode
    case gd => exact FB.type_bytes_decode
    case ge => exact fun _ e => nomatch e
    refine callWith_method1 (spliced_more (wpAny_Constant_str (spliced_none ?_)))
    exact decode1 hd (Nat.le_trans hlen (by decide)) fun t' tk3 => hQ _ _ (leaveK_ (s' := { s with heap := h1, toks := tk3 }) F1 N1 fun kF kN => ret _ _ _ kF kN)
end
noncomputable def codeAt (K : Frag) (file : Str) (c : Addr) : Bool := match K.lookup c with
  | some ⟨_, _, .fields vs, _⟩ => (match vs.toList with | _ :: _ :: Value.str f _ :: _ => file == f | _ => false)
  | _ => false
noncomputable def cellAt (K : Frag) (c : Addr) : Option Value := match K.lookup c with
  | some ⟨_, _, .cell v, _⟩ => v
  | _ => none
theorem codeAt_is {K : Frag} {f : Str} {c : Addr} (h : codeAt K f c = true) : ∃ ccl cdd vs ccs file tf, K.lookup c = some ⟨ccl, cdd, .fields vs, ccs⟩ ∧ vs[2]? = some (.str file tf) ∧ (f == file) = true := by
  unfold codeAt at h
  generalize K.lookup c = o at h
  rcases o with _ | ⟨a, b, dt, c⟩
  · exact absurd h Bool.false_ne_true
  cases dt with
  | fields vs =>
    obtain ⟨l⟩ := vs
    rcases l with _ | ⟨x, _ | ⟨y, _ | ⟨z, r⟩⟩⟩
    · exact absurd h Bool.false_ne_true
    · exact absurd h Bool.false_ne_true
    · exact absurd h Bool.false_ne_true
    · cases z with
      | str fl t => exact ⟨a, b, _, c, fl, t, rfl, rfl, h⟩
      | _ => exact absurd h Bool.false_ne_true
  | _ => exact absurd h Bool.false_ne_true
theorem cellAt_is {K : Frag} {c : Addr} {v : Value} (h : cellAt K c = some v) : ∃ clv cld csl, K.lookup c = some ⟨clv, cld, .cell (some v), csl⟩ := by
  unfold cellAt at h
  generalize K.lookup c = o at h
  rcases o with _ | ⟨a, b, dt, c⟩
  · cases (show Option.none = some v from h)
  cases dt with
  | cell u =>
    have h : u = some v := h
    exact ⟨a, b, c, by rw [h]⟩
  | _ => cases (show Option.none = some v from h)
theorem kf_cell {P} : cellAt (Mine.hd.heap_39 P) 45 = some (.ref 170) := by kernel_rfl
theorem kf_mro {P} : mroIn (Mine.hd.heap_39 P) 170 (.ref 170) = some true := by kernel_rfl
theorem kf_super {P} : nsIn (Mine.hd.heap_39 P) mainGlobals "super" = some none := by kernel_rfl
theorem kf_third {P} : nsIn (Mine.hd.heap_39 P) cStatics "thirdparty.any" = some none := by kernel_rfl
theorem bb_super : bootBuiltins "super" = some (.type "super") := by decide +kernel
section
variable {w : World} {p : Program} {loose : List Str} {mean : ExcName → Option Value} {mg mb : Str → Option Value} {dp un : Nat} {gd : Option (List Code)} {cn : Str} {cs : Scope} {a : Addr} {ccd : Value} {cl : List (Str × Addr)} {outer : List Env} {A₀ : Around} {base h₀ : Heap} {L : Addr} {m : Str → Option Value} {news : List (Addr × Obj)} {s : Shared} {Q E : Value → Shared → Prop}
/-- super().name(..) up to the call of the bound builtin -/
theorem super_get {A : Around} {qual mname : Str} {scope : Scope} {f cda x dx : Addr} {es : List DictEntry} {n : Nat} {p0 p1 ap pos : Pos} {args : List Expr} {fd : FuncData} {oc : Value} {od : Option Addr} {osl : Array (Option Value)} {bt dt id : String} {body : List Stmt} {ar : Arg} {pl : Sem Bool}
    (F : Fr h₀ L s.heap m) (X : (Mine.hd.heap_39 w.params).In h₀) (N : News h₀ L s.heap news) (T : Top p loose mean mg mb h₀) (hx : (x, cdObj dx es n) ∈ news) (hdx : (dx, dictOf [] 0) ∈ news)
    (hf : (Mine.hd.heap_39 w.params).lookup f = some ⟨oc, od, .func fd, osl⟩) (hp : (fd.params.posonlyargs ++ fd.params.args).head? = some ar) (hv : m ar.arg = some (.ref x)) (hcode : codeAt (Mine.hd.heap_39 w.params) PySem.Challenge.rw_be0018_01.row.prog.main.file cda = true)
    (hks : scope.names.lookup ("super" : Str) = some .globalImplicit) (hkc : scope.names.lookup ("__class__" : Str) = some .free) (hka : scope.names.lookup ar.arg = some .local) (hk : scope.kind = .function)
    (hd : (dt = "wrapper_descriptor" ∧ bt = "method-wrapper") ∨ (dt = "method_descriptor" ∧ bt = "builtin_function_or_method" ∧ Manifest.toldItsClass.contains id = false)) (hm : ks_superIn (Mine.hd.heap_39 w.params) 170 170 mname = some (some (.builtin id))) (ht : typeOf (.builtin id) = pure (.type dt)) (hn : (mname == ("__class__" : Str)) = false)
    (hcut : (".".intercalate (id.cutAt '.').dropLast) = "dict")
    (he : eval (.Call (.Attribute (.Call (.Name "super" p0) [] [] p1) mname ap) args [] pos) (ksEnv qual scope L f (.ref cda) 45) = (do
      let ov ← attributeBase (.Call (.Name "super" p0) [] [] p1) mname (ksEnv qual scope L f (.ref cda) 45) (eval (.Call (.Name "super" p0) [] [] p1) (ksEnv qual scope L f (.ref cda) 45))
      standAt ap.atName
      let (fv, first) ← holding [ov] (getMethod ov mname pl)
      callWith pos fv first (backTo pos (starEach args (ksEnv qual scope L f (.ref cda) 45))) []))
    (h : ∀ so q h', Fr h₀ L h' m → News h₀ L h' ((q, bndObj bt id x) :: (so, ks_superObj 170 x 170) :: news) → (∀ p ∈ news, p.1 < so) → so < q →
      wpAny (model PySem.Challenge.rw_be0018_01.row.prog w) A (callWith pos (.ref q) [] (backTo pos (starEach args (ksEnv qual scope L f (.ref cda) 45))) []) Q E { s with heap := h', toks := s.toks + 1 }) :
    _root_.PySem.wpAt (model PySem.Challenge.rw_be0018_01.row.prog w) A (.func body (ksEnv qual scope L f (.ref cda) 45)) (eval (.Call (.Attribute (.Call (.Name "super" p0) [] [] p1) mname ap) args [] pos) (ksEnv qual scope L f (.ref cda) 45)) Q E s := by
  obtain ⟨ccl, cdd, vs, ccs, file, tf, hl, hvs, hfile⟩ := codeAt_is hcode
  obtain ⟨clv, cld, csl, hcell⟩ := cellAt_is (kf_cell (P := w.params))
  obtain ⟨cdD, hD, _⟩ := Option.map_eq_some_iff.mp (kf_cls (P := w.params))
  refine ks_wpAt_MethodCall ?_ he
  refine ks_node F X N T hf hp hv (inst_cd N hx hdx) hl hvs hfile hcell hD kf_mro kf_super hn hks hkc hka hk (by decide +kernel) bb_super fun so h1 F1 N1 l1 => ?_
  refine supM (s := { s with heap := h1 }) hd F1 X N1 (List.Mem.head _) (inst_cd N1 (List.Mem.tail _ hx) (List.Mem.tail _ hdx)) kf_third hm ht hn hcut kf_dict fun q h2 F2 N2 l2 => ?_
  exact h so q h2 F2 N2 l1 (l2 _ (List.Mem.head _))
/-- a method that asks its base for the key in upper letters -/
theorem up_meth {name qual mname : Str} {params : Arguments} {scope : Scope} {dV kV doc pm ct oc : Value} {an od : Option Addr} {osl : Array (Option Value)} {f cda x dx : Addr} {es : List DictEntry} {n : Nat} {p0 p1 ap pos p2 ap2 p3 q0 q1 q2 q3 q4 pr : Pos} {rest : List Expr} {extra : List Value} {exb : List (Str × Value)} {bt dt id : String} {b : Builtin} {isRet : Bool} {st2 : Stmt} {ar : Arg} {kv : Value} {k : Str}
    (B : Below A₀ base outer h₀) (F : Fr h₀ L s.heap m) (X : (Mine.hd.heap_39 w.params).In h₀) (N : News h₀ L s.heap news) (T : Top p loose mean mg mb h₀) (hk : cs.kind = .function) (hdp : dp + 10 < recursionLimit) (hu : un + 80 < cLine) (hx : (x, cdObj dx es n) ∈ news) (hdx : (dx, dictOf [] 0) ∈ news) (hkv : KeyV kv k) (hlen : k.length ≤ 100)
    (ho : (Mine.hd.heap_39 w.params).lookup f = some ⟨oc, od, .func (ksFn name qual params [.Assign [.Name "key" q0] (.Call (.Name "to_unicode" q1) [.Name "key" q2] [] q3) q4, st2] scope dV kV doc pm an (.ref cda) ct 45), osl⟩)
    (hst : (isRet = true ∧ st2 = .Return (some (.Call (.Attribute (.Call (.Name "super" p0) [] [] p1) mname ap) (.Call (.Attribute (.Name "key" p2) "upper" ap2) [] [] p3 :: rest) [] pos)) pr) ∨ (isRet = false ∧ st2 = .Expr (.Call (.Attribute (.Call (.Name "super" p0) [] [] p1) mname ap) (.Call (.Attribute (.Name "key" p2) "upper" ap2) [] [] p3 :: rest) [] pos) pr))
    (hcd : codeIn (Mine.hd.heap_39 w.params) (.ref cda) qual = true) (hcode : codeAt (Mine.hd.heap_39 w.params) PySem.Challenge.rw_be0018_01.row.prog.main.file cda = true)
    (hbind : BindsTo s (ksFn name qual params [.Assign [.Name "key" q0] (.Call (.Name "to_unicode" q1) [.Name "key" q2] [] q3) q4, st2] scope dV kV doc pm an (.ref cda) ct 45) ⟨.ref x :: kv :: extra, []⟩ (("self", .ref x) :: ("key", kv) :: exb)) (hloc : ∀ y ∈ (("self" : Str), Value.ref x) :: ("key", kv) :: exb, scope.names.lookup y.1 = some .local) (hcell : ∀ x ∈ scope.names, x.2 ≠ .cell)
    (hp : (params.posonlyargs ++ params.args).head? = some ar) (har : ar.arg = ("self" : Str)) (hex : (exb.reverse ++ [(("key" : Str), kv), ("self", Value.ref x)]).lookup ("self" : Str) = some (.ref x)) (hexk : (exb.reverse ++ [(("key" : Str), kv), ("self", Value.ref x)]).lookup ("key" : Str) = some kv)
    (hks : scope.names.lookup ("super" : Str) = some .globalImplicit) (hkc : scope.names.lookup ("__class__" : Str) = some .free) (hku : scope.names.lookup ("to_unicode" : Str) = some .globalImplicit) (hksf : scope.names.lookup ("self" : Str) = some .local) (hkk : scope.names.lookup ("key" : Str) = some .local) (hkd : scope.kind = .function) (hco : scope.isCoroutine = false) (hgen : scope.isGenerator = false)
    (hd : (dt = "wrapper_descriptor" ∧ bt = "method-wrapper") ∨ (dt = "method_descriptor" ∧ bt = "builtin_function_or_method" ∧ Manifest.toldItsClass.contains id = false)) (hm : ks_superIn (Mine.hd.heap_39 w.params) 170 170 mname = some (some (.builtin id))) (ht : typeOf (.builtin id) = pure (.type dt)) (hn : (mname == ("__class__" : Str)) = false)
    (hcut : (".".intercalate (id.cutAt '.').dropLast) = "dict")
    (he : ∀ L1, eval (.Call (.Attribute (.Call (.Name "super" p0) [] [] p1) mname ap) (.Call (.Attribute (.Name "key" p2) "upper" ap2) [] [] p3 :: rest) [] pos) (ksEnv qual scope L1 f (.ref cda) 45) = (do
      let ov ← attributeBase (.Call (.Name "super" p0) [] [] p1) mname (ksEnv qual scope L1 f (.ref cda) 45) (eval (.Call (.Name "super" p0) [] [] p1) (ksEnv qual scope L1 f (.ref cda) 45))
      standAt ap.atName
      let (fv, first) ← holding [ov] (getMethod ov mname (pure false))
      callWith pos fv first (backTo pos (starEach (.Call (.Attribute (.Name "key" p2) "upper" ap2) [] [] p3 :: rest) (ksEnv qual scope L1 f (.ref cda) 45))) []))
    (hes : ∀ L1, starEach (.Call (.Attribute (.Name "key" p2) "upper" ap2) [] [] p3 :: rest) (ksEnv qual scope L1 f (.ref cda) 45) = (false, eval (.Call (.Attribute (.Name "key" p2) "upper" ap2) [] [] p3) (ksEnv qual scope L1 f (.ref cda) 45)) :: starEach rest (ksEnv qual scope L1 f (.ref cda) 45)) (hplain : ∀ L1, (backTo pos (starEach rest (ksEnv qual scope L1 f (.ref cda) 45))).any (·.1) = false)
    (hup : (ap2.endLine == p3.line) = true) (hin : ∀ L1, interactive (ksEnv qual scope L1 f (.ref cda) 45) = false)
    (hrest : ∀ g L1 (s' : Shared) m1 (Q' : List Value → Shared → Prop) E', Fr g L1 s'.heap m1 → (∀ y, y ≠ ("key" : Str) → m1 y = (exb.reverse ++ [(("key" : Str), kv), ("self", Value.ref x)]).lookup y) → Q' extra s' → wpAny (model PySem.Challenge.rw_be0018_01.row.prog w) (ktrTop (dp + 1) (un + 3) gd qual scope L1 f (.ref cda) [("__class__", 45)] (envX cn cs L a ccd cl :: outer)) (spliced (backTo pos (starEach rest (ksEnv qual scope L1 f (.ref cda) 45)))) Q' E' s')
    (hva : Manifest.varargsMethods.contains id = false) (hao : ∀ t, argsOk id ⟨.ref x :: .str (Txt.upper k) t :: extra, []⟩) (hba : ∀ t, BArgs id ⟨.ref x :: .str (Txt.upper k) t :: extra, []⟩) (hpl : plainId id = true) (hen : entryFor table id = some b)
    (h : ∀ g L1 h1 m1 so q tk t, Fr h₀ L g m → Fr g L1 h1 m1 → News g L1 h1 ((q, bndObj bt id x) :: (so, ks_superObj 170 x 170) :: news) → Below (ktrTop dp un gd cn cs L a ccd cl outer) base (envX cn cs L a ccd cl :: outer) g → (Mine.hd.heap_39 w.params).In g → q ≠ x → so ≠ x →
      wpAny (model PySem.Challenge.rw_be0018_01.row.prog w) (ktrTop (dp + 1) (un + 3) gd qual scope L1 f (.ref cda) [("__class__", 45)] (envX cn cs L a ccd cl :: outer)).in1 (b ⟨.ref x :: .str (Txt.upper k) t :: extra, []⟩)
        (fun fin s' => ∃ v, fin = .done (.ret v) ∧ LeaveK h₀ L m g (wants Q E) (if isRet then v else .none) s')
        (fun e s' => wpAny (model PySem.Challenge.rw_be0018_01.row.prog w) ((ktrTop dp un gd cn cs L a ccd cl outer).deeper (ksEnv qual scope L1 f (.ref cda) 45)) (leaving (ksEnv qual scope L1 f (.ref cda) 45) e) (fun _ s'' => E e s'') (fun e' s'' => E e' s'') s') { s with heap := h1, toks := tk }) :
    wpAny (model PySem.Challenge.rw_be0018_01.row.prog w) (ktrTop dp un gd cn cs L a ccd cl outer) (call (.ref f) (.ref x :: kv :: extra)) Q E s := by
  have hdx' := hdx
  refine wpAny_call ?_
  refine ks_code_super (K := (Mine.hd.heap_39 w.params)) B F X N T rfl rfl hk ho hcd (by show dp < recursionLimit; omega) hbind hloc (fun g L1 h1 FG F1 N1 B1 X1 T1 l1 => ?_) hcell hco hgen hkd
  have R1 := topRead_of T1
  have em : ∀ y : Str, List.lookup y ((("self" : Str), Value.ref x) :: (("key" : Str), kv) :: exb).reverse = (exb.reverse ++ [(("key" : Str), kv), ("self", Value.ref x)]).lookup y := fun y => by
    rw [List.reverse_cons, List.reverse_cons, List.append_assoc]; rfl
  generalize hm1 : (fun y : Str => List.lookup y ((("self" : Str), Value.ref x) :: (("key" : Str), kv) :: exb).reverse) = m1 at F1
  have em : ∀ y : Str, m1 y = (exb.reverse ++ [(("key" : Str), kv), ("self", Value.ref x)]).lookup y := fun y => by rw [← hm1]; exact em y
  clear hm1
  show _root_.PySem.wpAt _ (ktrTop (dp + 1) (un + 3) gd qual scope L1 f (.ref cda) [("__class__", 45)] (envX cn cs L a ccd cl :: outer)) _ _ _ _ _
  refine ks_wpAt_execs_cons (wpAt_of_wpAny (wpAny_Assign_Name (Call_ (nameX_K F1 X1 R1 kf_tou ?_ hkd hku (by decide)))))
  refine callWith_K X1 kf_tou_k (spliced_more (nameX_L F1 ((em _).trans hexk) (spliced_none ⟨X1.keeps F1.keep, ?_⟩) hkd hkk (by decide)))
  refine tou_c B1 F1 X1 N1 T1 hkd (by omega) (by omega) hkv hlen fun t h2 tk2 F2 N2 => ?_
  refine storeX_L F2 N2 (fun h3 F3 N3 => ?_) hkd hkk
  dsimp only
  have ev : ∀ {Q' : Value → Shared → Prop}, (∀ h4 m4 so q tk t, Fr g L1 h4 m4 → News g L1 h4 ((q, bndObj bt id x) :: (so, ks_superObj 170 x 170) :: news) → q ≠ x → so ≠ x → wpAny (model PySem.Challenge.rw_be0018_01.row.prog w) (ktrTop (dp + 1) (un + 3) gd qual scope L1 f (.ref cda) [("__class__", 45)] (envX cn cs L a ccd cl :: outer)).in1 (b ⟨.ref x :: .str (Txt.upper k) t :: extra, []⟩) (fun fin s' => ∃ v, fin = .done (.ret v) ∧ Q' v s')
      (fun e s' => wpAny (model PySem.Challenge.rw_be0018_01.row.prog w) ((ktrTop dp un gd cn cs L a ccd cl outer).deeper (ksEnv qual scope L1 f (.ref cda) 45)) (leaving (ksEnv qual scope L1 f (.ref cda) 45) e) (fun _ s'' => E e s'') (fun e' s'' => E e' s'') s') { s with heap := h4, toks := tk }) →
      _root_.PySem.wpAt (model PySem.Challenge.rw_be0018_01.row.prog w) (ktrTop (dp + 1) (un + 3) gd qual scope L1 f (.ref cda) [("__class__", 45)] (envX cn cs L a ccd cl :: outer)) (.func [.Assign [.Name "key" q0] (.Call (.Name "to_unicode" q1) [.Name "key" q2] [] q3) q4, st2] (ksEnv qual scope L1 f (.ref cda) 45)) (eval (.Call (.Attribute (.Call (.Name "super" p0) [] [] p1) mname ap) (.Call (.Attribute (.Name "key" p2) "upper" ap2) [] [] p3 :: rest) [] pos) (ksEnv qual scope L1 f (.ref cda) 45)) Q'
        (fun e s' => wpAny (model PySem.Challenge.rw_be0018_01.row.prog w) ((ktrTop dp un gd cn cs L a ccd cl outer).deeper (ksEnv qual scope L1 f (.ref cda) 45)) (leaving (ksEnv qual scope L1 f (.ref cda) 45) e) (fun _ s'' => E e s'') (fun e' s'' => E e' s'') s') { s with heap := h3, toks := tk2 + 1 } := by
    intro Q' hq
    refine super_get (s := { s with heap := h3, toks := tk2 + 1 }) F3 X1 N3 T1 hx hdx ho hp ((if_neg (by rw [har]; decide)).trans ((em _).trans (by rw [har]; exact hex))) hcode hks hkc (by rw [har]; exact hksf) hkd hd hm ht hn hcut (he L1) fun so q h4 F4 N4 l4 l5 => ?_
    refine callWith_B (s := { s with heap := h4, toks := tk2 + 1 + 1 }) N4 (List.Mem.head _) (hd.elim (fun e => .inl e.2) fun e => .inr e.2.1) (spliced_more (MethodCall_ (nameX_L F4 (if_pos rfl) ?_ hkd hkk (by decide)) (method_eq hup rfl))) (hes L1) (hplain L1)
    with_reducible refine PySem.GM.upper ?_
    refine callWith_method0 (SC.upper (fit_upper (Nat.le_trans hlen (by decide))) ?_)
    refine hrest g L1 { s with heap := h4, toks := tk2 + 1 + 1 + 1 } _ _ _ F4 (fun y hy => (if_neg hy).trans (em y)) ⟨(N4 _ (List.Mem.head _)).1, ?_⟩
    have hx4 := List.Mem.tail (q, bndObj bt id x) (List.Mem.tail (so, ks_superObj 170 x 170) hx)
    refine call_B (s := { s with heap := h4, toks := tk2 + 1 + 1 + 1 }) N4 (List.Mem.head _) (hd.elim (fun e => .inl e.2) fun e => .inr e.2.1) (X1.keeps F4.keep) (inst_cd N4 hx4 (List.Mem.tail _ (List.Mem.tail _ hdx))) kf_cls kf_type kf_module hva (hao _) (hba _) hpl hen ?_
    exact hq h4 _ so q _ _ F4 N4 (Nat.ne_of_gt (Nat.lt_trans (l4 _ hx) l5)) (Nat.ne_of_gt (l4 _ hx))
  rcases hst with ⟨rfl, rfl⟩ | ⟨rfl, rfl⟩
  · exact ks_wpAt_execs_cons (ks_wpAt_Return_some (ev fun h4 m4 so q tk t F4 N4 n1 n2 => h g L1 h4 m4 so q tk t FG F4 N4 B1 X1 n1 n2))
  · exact ks_wpAt_execs_cons (ks_wpAt_Expr_any (ev fun h4 m4 so q tk t F4 N4 n1 n2 => wpAny_mono (h g L1 h4 m4 so q tk t FG F4 N4 B1 X1 n1 n2) (fun fin s' hf => by
      obtain ⟨v, e, hl⟩ := hf
      exact ⟨v, e, wpAt_of_wpAny (wpAny_execs_nil hl)⟩) fun _ _ z => z) (hi := hin L1))
end
end Mine
end
section
open PySem PySem.W PySem.Calls PyProof.Rows
set_option Elab.async false
set_option maxRecDepth 100000
set_option maxHeartbeats 1000000
set_option linter.unusedVariables false
set_option pp.maxSteps 3000
set_option pp.deepTerms false
set_option pp.deepTerms.threshold 6
namespace Mine
section
variable {w : World} {p : Program} {loose : List Str} {mean : ExcName → Option Value} {mg mb : Str → Option Value} {dp un : Nat} {gd : Option (List Code)} {cn : Str} {cs : Scope} {a : Addr} {ccd : Value} {cl : List (Str × Addr)} {outer : List Env} {A₀ : Around} {base h₀ : Heap} {L : Addr} {m : Str → Option Value} {news : List (Addr × Obj)} {s : Shared} {Q E : Value → Shared → Prop}
theorem set_c {news' : List DictEntry → Nat → List (Addr × Obj)} {x dx : Addr} {es : List DictEntry} {n : Nat} {D : List (Str × Value)} (B : Below A₀ base outer h₀) (F : Fr h₀ L s.heap m) (X : (Mine.hd.heap_39 w.params).In h₀) (N : News h₀ L s.heap news) (T : Top p loose mean mg mb h₀) (hk : cs.kind = .function) (hd : dp + 10 < recursionLimit) (hu : un + 80 < cLine) (hx : (x, cdObj dx es n) ∈ news) (hdx : (dx, dictOf [] 0) ∈ news) (U : ∀ es' n', Upd x (cdObj dx es n) (cdObj dx es' n') news (news' es' n')) (H : Ent PySem.Challenge.rw_be0018_01.row.prog w es D) (hz : D.length < 64) {kv : Value} {k : Str} (hkv : KeyV kv k) (hlen : k.length ≤ 100) {v : Value}
    (ret : ∀ es' n' h' tk', Ent PySem.Challenge.rw_be0018_01.row.prog w es' (stored D (Txt.upper k) v) → Fr h₀ L h' m → News h₀ L h' (news' es' n') → Q .none { s with heap := h', toks := tk' }) :
    wpAny (model PySem.Challenge.rw_be0018_01.row.prog w) (ktrTop dp un gd cn cs L a ccd cl outer) (call (.ref 73) [.ref x, kv, v]) Q E s := by
  revert X
  k_fill
  intro X
  refine' up_meth B F X N T hk hd hu hx hdx hkv hlen ?ho ?hst ?hcd ?hcode ?hb ?hl ?hce ?hp ?har ?hex ?hexk ?hks ?hkc ?hku ?hksf ?hkk ?hkd ?hco ?hgen ?hd ?hm ty_setitem ?hn ?hcut ?he ?hes ?hpl ?hup ?hin ?hrest va_setitem (fun _ => ao_setitem _ _ _) (fun _ => ba_setitem _ _ _) pl_setitem en_setitem ?_
  (case ho => k_is)
  (case hst => exact .inr ⟨rfl, rfl⟩)
  (case hcd => k_is)
  (case hcode => kernel_rfl)
  (case hb => first | exact BindsTo.of_eq rfl | exact binds_K (X.keeps F.keep) rfl (by k_is) rfl rfl rfl)
  (case hl => exact locs rfl)
  (case hce => decide)
  (case hd => exact .inl ⟨rfl, rfl⟩)
  (case hm => ks_is)
  (case hn => decide)
  (case hcut => decide +kernel)
  (case hrest => exact fun g L1 s1 m1 Q1 E1 F1 hm1 hq => spliced_more (nameX_L F1 ((hm1 _ (by decide)).trans rfl) (spliced_none hq)))
  (case he => exact fun _ => rfl)
  (case hes => exact fun _ => rfl)
  (case hpl => exact fun _ => rfl)
  (case hin => exact fun _ => rfl)
  (case hp => exact rfl)
  (case har => exact rfl)
  (case hex => exact rfl)
  (case hexk => exact rfl)
  (case hks => exact rfl)
  (case hkc => exact rfl)
  (case hku => exact rfl)
  (case hksf => exact rfl)
  (case hkk => exact rfl)
  (case hkd => exact rfl)
  (case hco => exact rfl)
  (case hgen => exact rfl)
  (case hup => exact rfl)
  intro g L1 h1 m1 so q tk t FG F1 N1 B1 X1 n1 n2
  exact b_setitem (news' := fun es' n' => (q, _) :: (so, _) :: news' es' n') (noOrd_cd (X1.keeps F1.keep) (N1 _ (List.Mem.tail _ (List.Mem.tail _ hx))).1) F1 N1 (fun es' n' => Upd.tail n1 (Upd.tail n2 (U es' n'))) H hz fun es' n' h' H' F' N' => leaveK_ F' N' fun kF kN => ret _ _ _ _ H' kF (cb_drop kN fun _ hp => List.Mem.tail _ (List.Mem.tail _ hp))
theorem setdefault_c {news' : List DictEntry → Nat → List (Addr × Obj)} {x dx : Addr} {es : List DictEntry} {n : Nat} {D : List (Str × Value)} (B : Below A₀ base outer h₀) (F : Fr h₀ L s.heap m) (X : (Mine.hd.heap_39 w.params).In h₀) (N : News h₀ L s.heap news) (T : Top p loose mean mg mb h₀) (hk : cs.kind = .function) (hd : dp + 10 < recursionLimit) (hu : un + 80 < cLine) (hx : (x, cdObj dx es n) ∈ news) (hdx : (dx, dictOf [] 0) ∈ news) (U : ∀ es' n', Upd x (cdObj dx es n) (cdObj dx es' n') news (news' es' n')) (H : Ent PySem.Challenge.rw_be0018_01.row.prog w es D) (hz : D.length < 64) (hxm : (x == sysModules) = false) {kv : Value} {k : Str} (hkv : KeyV kv k) (hlen : k.length ≤ 100) {v : Value}
    (ret : ∀ es' n' h' tk', Ent PySem.Challenge.rw_be0018_01.row.prog w es' (defaulted D (Txt.upper k) v) → Fr h₀ L h' m → News h₀ L h' (news' es' n') → Q ((valueAt D (Txt.upper k)).getD v) { s with heap := h', toks := tk' }) :
    wpAny (model PySem.Challenge.rw_be0018_01.row.prog w) (ktrTop dp un gd cn cs L a ccd cl outer) (call (.ref 107) [.ref x, kv, v]) Q E s := by
  revert X
  k_fill
  intro X
  refine' up_meth B F X N T hk hd hu hx hdx hkv hlen ?ho ?hst ?hcd ?hcode ?hb ?hl ?hce ?hp ?har ?hex ?hexk ?hks ?hkc ?hku ?hksf ?hkk ?hkd ?hco ?hgen ?hd ?hm ty_setdefault ?hn ?hcut ?he ?hes ?hpl ?hup ?hin ?hrest va_setdefault (fun _ => ao_setdefault _ _ _) (fun _ => ba_setdefault _ _ _) pl_setdefault en_setdefault ?_
  (case ho => k_is)
  (case hst => exact .inl ⟨rfl, rfl⟩)
  (case hcd => k_is)
  (case hcode => kernel_rfl)
  (case hb => first | exact BindsTo.of_eq rfl | exact binds_K (X.keeps F.keep) rfl (by k_is) rfl rfl rfl)
  (case hl => exact locs rfl)
  (case hce => decide)
  (case hd => exact .inr ⟨rfl, rfl, told_setdefault⟩)
  (case hm => ks_is)
  (case hn => decide)
  (case hcut => decide +kernel)
  (case hrest => exact fun g L1 s1 m1 Q1 E1 F1 hm1 hq => spliced_more (nameX_L F1 ((hm1 _ (by decide)).trans rfl) (spliced_none hq)))
  (case he => exact fun _ => rfl)
  (case hes => exact fun _ => rfl)
  (case hpl => exact fun _ => rfl)
  (case hin => exact fun _ => rfl)
  (case hp => exact rfl)
  (case har => exact rfl)
  (case hex => exact rfl)
  (case hexk => exact rfl)
  (case hks => exact rfl)
  (case hkc => exact rfl)
  (case hku => exact rfl)
  (case hksf => exact rfl)
  (case hkk => exact rfl)
  (case hkd => exact rfl)
  (case hco => exact rfl)
  (case hgen => exact rfl)
  (case hup => exact rfl)
  intro g L1 h1 m1 so q tk t FG F1 N1 B1 X1 n1 n2
  exact b_setdefault (news' := fun es' n' => (q, _) :: (so, _) :: news' es' n') hxm (noOrd_cd (X1.keeps F1.keep) (N1 _ (List.Mem.tail _ (List.Mem.tail _ hx))).1) F1 N1 (fun es' n' => Upd.tail n1 (Upd.tail n2 (U es' n'))) H hz fun es' n' h' H' F' N' => leaveK_ F' N' fun kF kN => ret _ _ _ _ H' kF (cb_drop kN fun _ hp => List.Mem.tail _ (List.Mem.tail _ hp))
theorem pop_c {news' : List DictEntry → Nat → List (Addr × Obj)} {x dx : Addr} {es : List DictEntry} {n : Nat} {D : List (Str × Value)} (B : Below A₀ base outer h₀) (F : Fr h₀ L s.heap m) (X : (Mine.hd.heap_39 w.params).In h₀) (N : News h₀ L s.heap news) (T : Top p loose mean mg mb h₀) (hk : cs.kind = .function) (hd : dp + 10 < recursionLimit) (hu : un + 80 < cLine) (hx : (x, cdObj dx es n) ∈ news) (hdx : (dx, dictOf [] 0) ∈ news) (U : ∀ es' n', Upd x (cdObj dx es n) (cdObj dx es' n') news (news' es' n')) (H : Ent PySem.Challenge.rw_be0018_01.row.prog w es D) (hxm : (x == sysModules) = false) {kv : Value} {k : Str} (hkv : KeyV kv k) (hlen : k.length ≤ 100) {v : Value}
    (ret0 : valueAt D (Txt.upper k) = none → ∀ h' tk', Fr h₀ L h' m → News h₀ L h' news → Q v { s with heap := h', toks := tk' })
    (ret : ∀ u es' n' h' tk', valueAt D (Txt.upper k) = some u → Ent PySem.Challenge.rw_be0018_01.row.prog w es' (without D (Txt.upper k)) → Fr h₀ L h' m → News h₀ L h' (news' es' n') → Q u { s with heap := h', toks := tk' }) :
    wpAny (model PySem.Challenge.rw_be0018_01.row.prog w) (ktrTop dp un gd cn cs L a ccd cl outer) (call (.ref 116) [.ref x, kv, v]) Q E s := by
  revert X
  k_fill
  intro X
  refine' up_meth B F X N T hk hd hu hx hdx hkv hlen ?ho ?hst ?hcd ?hcode ?hb ?hl ?hce ?hp ?har ?hex ?hexk ?hks ?hkc ?hku ?hksf ?hkk ?hkd ?hco ?hgen ?hd ?hm ty_pop ?hn ?hcut ?he ?hes ?hpl ?hup ?hin ?hrest va_pop (fun _ => ao_pop _ _ _) (fun _ => ba_pop _ _ _) pl_pop en_pop ?_
  (case ho => k_is)
  (case hst => exact .inl ⟨rfl, rfl⟩)
  (case hcd => k_is)
  (case hcode => kernel_rfl)
  (case hb => first | exact BindsTo.of_eq rfl | exact binds_K (X.keeps F.keep) rfl (by k_is) rfl rfl rfl)
  (case hl => exact locs rfl)
  (case hce => decide)
  (case hd => exact .inr ⟨rfl, rfl, told_pop⟩)
  (case hm => ks_is)
  (case hn => decide)
  (case hcut => decide +kernel)
  (case hrest => exact fun g L1 s1 m1 Q1 E1 F1 hm1 hq => spliced_more (nameX_L F1 ((hm1 _ (by decide)).trans rfl) (spliced_none hq)))
  (case he => exact fun _ => rfl)
  (case hes => exact fun _ => rfl)
  (case hpl => exact fun _ => rfl)
  (case hin => exact fun _ => rfl)
  (case hp => exact rfl)
  (case har => exact rfl)
  (case hex => exact rfl)
  (case hexk => exact rfl)
  (case hks => exact rfl)
  (case hkc => exact rfl)
  (case hku => exact rfl)
  (case hksf => exact rfl)
  (case hkk => exact rfl)
  (case hkd => exact rfl)
  (case hco => exact rfl)
  (case hgen => exact rfl)
  (case hup => exact rfl)
  intro g L1 h1 m1 so q tk t FG F1 N1 B1 X1 n1 n2
  exact b_pop (news' := fun es' n' => (q, _) :: (so, _) :: news' es' n') hxm (noOrd_cd (X1.keeps F1.keep) (N1 _ (List.Mem.tail _ (List.Mem.tail _ hx))).1) F1 N1 (fun es' n' => Upd.tail n1 (Upd.tail n2 (U es' n'))) H (fun hv => leaveK_ F1 N1 fun kF kN => ret0 hv _ _ kF (cb_drop kN fun _ hp => List.Mem.tail _ (List.Mem.tail _ hp))) fun u es' n' h' hv H' F' N' => leaveK_ F' N' fun kF kN => ret _ _ _ _ _ hv H' kF (cb_drop kN fun _ hp => List.Mem.tail _ (List.Mem.tail _ hp))
theorem get_c {x dx : Addr} {es : List DictEntry} {n : Nat} {D : List (Str × Value)} (B : Below A₀ base outer h₀) (F : Fr h₀ L s.heap m) (X : (Mine.hd.heap_39 w.params).In h₀) (N : News h₀ L s.heap news) (T : Top p loose mean mg mb h₀) (hk : cs.kind = .function) (hd : dp + 10 < recursionLimit) (hu : un + 80 < cLine) (hx : (x, cdObj dx es n) ∈ news) (hdx : (dx, dictOf [] 0) ∈ news) (H : Ent PySem.Challenge.rw_be0018_01.row.prog w es D) (hxm : (x == sysModules) = false) {kv : Value} {k : Str} (hkv : KeyV kv k) (hlen : k.length ≤ 100) {v : Value}
    (ret : ∀ h' tk', Fr h₀ L h' m → News h₀ L h' news → Q ((valueAt D (Txt.upper k)).getD v) { s with heap := h', toks := tk' }) :
    wpAny (model PySem.Challenge.rw_be0018_01.row.prog w) (ktrTop dp un gd cn cs L a ccd cl outer) (call (.ref 98) [.ref x, kv, v]) Q E s := by
  revert X
  k_fill
  intro X
  refine' up_meth B F X N T hk hd hu hx hdx hkv hlen ?ho ?hst ?hcd ?hcode ?hb ?hl ?hce ?hp ?har ?hex ?hexk ?hks ?hkc ?hku ?hksf ?hkk ?hkd ?hco ?hgen ?hd ?hm ty_get ?hn ?hcut ?he ?hes ?hpl ?hup ?hin ?hrest va_get (fun _ => ao_get _ _ _) (fun _ => ba_get _ _ _) pl_get en_get ?_
  (case ho => k_is)
  (case hst => exact .inl ⟨rfl, rfl⟩)
  (case hcd => k_is)
  (case hcode => kernel_rfl)
  (case hb => first | exact BindsTo.of_eq rfl | exact binds_K (X.keeps F.keep) rfl (by k_is) rfl rfl rfl)
  (case hl => exact locs rfl)
  (case hce => decide)
  (case hd => exact .inr ⟨rfl, rfl, told_get⟩)
  (case hm => ks_is)
  (case hn => decide)
  (case hcut => decide +kernel)
  (case hrest => exact fun g L1 s1 m1 Q1 E1 F1 hm1 hq => spliced_more (nameX_L F1 ((hm1 _ (by decide)).trans rfl) (spliced_none hq)))
  (case he => exact fun _ => rfl)
  (case hes => exact fun _ => rfl)
  (case hpl => exact fun _ => rfl)
  (case hin => exact fun _ => rfl)
  (case hp => exact rfl)
  (case har => exact rfl)
  (case hex => exact rfl)
  (case hexk => exact rfl)
  (case hks => exact rfl)
  (case hkc => exact rfl)
  (case hku => exact rfl)
  (case hksf => exact rfl)
  (case hkk => exact rfl)
  (case hkd => exact rfl)
  (case hco => exact rfl)
  (case hgen => exact rfl)
  (case hup => exact rfl)
  intro g L1 h1 m1 so q tk t FG F1 N1 B1 X1 n1 n2
  exact b_get (N1 _ (List.Mem.tail _ (List.Mem.tail _ hx))).1 hxm (noOrd_cd (X1.keeps F1.keep) (N1 _ (List.Mem.tail _ (List.Mem.tail _ hx))).1) H (leaveK_ F1 N1 fun kF kN => ret _ _ kF (cb_drop kN fun _ hp => List.Mem.tail _ (List.Mem.tail _ hp)))
theorem contains_c {x dx : Addr} {es : List DictEntry} {n : Nat} {D : List (Str × Value)} (B : Below A₀ base outer h₀) (F : Fr h₀ L s.heap m) (X : (Mine.hd.heap_39 w.params).In h₀) (N : News h₀ L s.heap news) (T : Top p loose mean mg mb h₀) (hk : cs.kind = .function) (hd : dp + 10 < recursionLimit) (hu : un + 80 < cLine) (hx : (x, cdObj dx es n) ∈ news) (hdx : (dx, dictOf [] 0) ∈ news) (H : Ent PySem.Challenge.rw_be0018_01.row.prog w es D) (hxm : (x == sysModules) = false) {kv : Value} {k : Str} (hkv : KeyV kv k) (hlen : k.length ≤ 100)
    (ret : ∀ h' tk', Fr h₀ L h' m → News h₀ L h' news → Q (.bool (valueAt D (Txt.upper k)).isSome) { s with heap := h', toks := tk' }) :
    wpAny (model PySem.Challenge.rw_be0018_01.row.prog w) (ktrTop dp un gd cn cs L a ccd cl outer) (call (.ref 89) [.ref x, kv]) Q E s := by
  revert X
  k_fill
  intro X
  refine' up_meth B F X N T hk hd hu hx hdx hkv hlen ?ho ?hst ?hcd ?hcode ?hb ?hl ?hce ?hp ?har ?hex ?hexk ?hks ?hkc ?hku ?hksf ?hkk ?hkd ?hco ?hgen ?hd ?hm ty_contains ?hn ?hcut ?he ?hes ?hpl ?hup ?hin ?hrest va_contains (fun _ => ao_contains _ _) (fun _ => ba_contains _ _) pl_contains en_contains ?_
  (case ho => k_is)
  (case hst => exact .inl ⟨rfl, rfl⟩)
  (case hcd => k_is)
  (case hcode => kernel_rfl)
  (case hb => first | exact BindsTo.of_eq rfl | exact binds_K (X.keeps F.keep) rfl (by k_is) rfl rfl rfl)
  (case hl => exact locs rfl)
  (case hce => decide)
  (case hd => exact .inr ⟨rfl, rfl, told_contains⟩)
  (case hm => ks_is)
  (case hn => decide)
  (case hcut => decide +kernel)
  (case hrest => exact fun g L1 s1 m1 Q1 E1 F1 hm1 hq => spliced_none hq)
  (case he => exact fun _ => rfl)
  (case hes => exact fun _ => rfl)
  (case hpl => exact fun _ => rfl)
  (case hin => exact fun _ => rfl)
  (case hp => exact rfl)
  (case har => exact rfl)
  (case hex => exact rfl)
  (case hexk => exact rfl)
  (case hks => exact rfl)
  (case hkc => exact rfl)
  (case hku => exact rfl)
  (case hksf => exact rfl)
  (case hkk => exact rfl)
  (case hkd => exact rfl)
  (case hco => exact rfl)
  (case hgen => exact rfl)
  (case hup => exact rfl)
  intro g L1 h1 m1 so q tk t FG F1 N1 B1 X1 n1 n2
  exact b_contains (N1 _ (List.Mem.tail _ (List.Mem.tail _ hx))).1 hxm H (leaveK_ F1 N1 fun kF kN => ret _ _ kF (cb_drop kN fun _ hp => List.Mem.tail _ (List.Mem.tail _ hp)))
theorem haskey_c {x dx : Addr} {es : List DictEntry} {n : Nat} {D : List (Str × Value)} (B : Below A₀ base outer h₀) (F : Fr h₀ L s.heap m) (X : (Mine.hd.heap_39 w.params).In h₀) (N : News h₀ L s.heap news) (T : Top p loose mean mg mb h₀) (hk : cs.kind = .function) (hd : dp + 10 < recursionLimit) (hu : un + 80 < cLine) (hx : (x, cdObj dx es n) ∈ news) (hdx : (dx, dictOf [] 0) ∈ news) (H : Ent PySem.Challenge.rw_be0018_01.row.prog w es D) (hxm : (x == sysModules) = false) {kv : Value} {k : Str} (hkv : KeyV kv k) (hlen : k.length ≤ 100)
    (ret : ∀ h' tk', Fr h₀ L h' m → News h₀ L h' news → Q (.bool (valueAt D (Txt.upper k)).isSome) { s with heap := h', toks := tk' }) :
    wpAny (model PySem.Challenge.rw_be0018_01.row.prog w) (ktrTop dp un gd cn cs L a ccd cl outer) (call (.ref 132) [.ref x, kv]) Q E s := by
  revert X
  k_fill
  intro X
  refine' up_meth B F X N T hk hd hu hx hdx hkv hlen ?ho ?hst ?hcd ?hcode ?hb ?hl ?hce ?hp ?har ?hex ?hexk ?hks ?hkc ?hku ?hksf ?hkk ?hkd ?hco ?hgen ?hd ?hm ty_contains ?hn ?hcut ?he ?hes ?hpl ?hup ?hin ?hrest va_contains (fun _ => ao_contains _ _) (fun _ => ba_contains _ _) pl_contains en_contains ?_
  (case ho => k_is)
  (case hst => exact .inl ⟨rfl, rfl⟩)
  (case hcd => k_is)
  (case hcode => kernel_rfl)
  (case hb => first | exact BindsTo.of_eq rfl | exact binds_K (X.keeps F.keep) rfl (by k_is) rfl rfl rfl)
  (case hl => exact locs rfl)
  (case hce => decide)
  (case hd => exact .inr ⟨rfl, rfl, told_contains⟩)
  (case hm => ks_is)
  (case hn => decide)
  (case hcut => decide +kernel)
  (case hrest => exact fun g L1 s1 m1 Q1 E1 F1 hm1 hq => spliced_none hq)
  (case he => exact fun _ => rfl)
  (case hes => exact fun _ => rfl)
  (case hpl => exact fun _ => rfl)
  (case hin => exact fun _ => rfl)
  (case hp => exact rfl)
  (case har => exact rfl)
  (case hex => exact rfl)
  (case hexk => exact rfl)
  (case hks => exact rfl)
  (case hkc => exact rfl)
  (case hku => exact rfl)
  (case hksf => exact rfl)
  (case hkk => exact rfl)
  (case hkd => exact rfl)
  (case hco => exact rfl)
  (case hgen => exact rfl)
  (case hup => exact rfl)
  intro g L1 h1 m1 so q tk t FG F1 N1 B1 X1 n1 n2
  exact b_contains (N1 _ (List.Mem.tail _ (List.Mem.tail _ hx))).1 hxm H (leaveK_ F1 N1 fun kF kN => ret _ _ kF (cb_drop kN fun _ hp => List.Mem.tail _ (List.Mem.tail _ hp)))
end
end Mine
end
section
open PySem PySem.W PySem.Calls PyProof.Rows
set_option Elab.async false
set_option maxRecDepth 100000
set_option maxHeartbeats 1000000
set_option linter.unusedVariables false
set_option pp.maxSteps 3000
set_option pp.deepTerms false
set_option pp.deepTerms.threshold 6
namespace Mine
section
variable {w : World} {p : Program} {loose : List Str} {mean : ExcName → Option Value} {mg mb : Str → Option Value} {dp un : Nat} {gd : Option (List Code)} {cn : Str} {cs : Scope} {a : Addr} {ccd : Value} {cl : List (Str × Addr)} {outer : List Env} {A₀ : Around} {base h₀ : Heap} {L : Addr} {m : Str → Option Value} {news : List (Addr × Obj)} {s : Shared} {Q E : Value → Shared → Prop}
theorem kf_noseq {P} : noSeq (Mine.hd.heap_39 P) 170 = true := by kernel_rfl
theorem kf_set {P} : findIn (Mine.hd.heap_39 P) (.ref 170) "__setitem__" = some (some (.ref 73)) := by kernel_rfl
theorem kf_set_fn {P} : isFn (Mine.hd.heap_39 P) (.ref 73) = true := by kernel_rfl
theorem ns_list {P} : nsIn (Mine.hd.heap_39 P) mainGlobals (Str.ofString "list") = some none := by kernel_rfl
theorem bb_list : bootBuiltins (Str.ofString "list") = some (.type "list") := by decide +kernel
theorem ns_hasattr {P} : nsIn (Mine.hd.heap_39 P) mainGlobals (Str.ofString "hasattr") = some none := by kernel_rfl
theorem bb_hasattr : bootBuiltins (Str.ofString "hasattr") = some (.builtin "hasattr") := by decide +kernel
theorem ns_iter {P} : nsIn (Mine.hd.heap_39 P) mainGlobals (Str.ofString "iter") = some none := by kernel_rfl
theorem bb_iter : bootBuiltins (Str.ofString "iter") = some (.builtin "iter") := by decide +kernel
theorem dict_empty {prog : Program} {w : World} {o : Obj} (h : o.IsDictOf (strKind prog w) []) : ∃ ep, o = dictOf [] ep := by
  obtain ⟨es, ep, ⟨h1, h2, h3⟩, h4, _, h5, _⟩ := h
  have : es.toList = [] := List.length_eq_zero_iff.mp (by rw [h5.length]; rfl)
  obtain ⟨c, d, dt, sl⟩ := o
  dsimp only at h1 h2 h3 h4
  subst h1 h2 h3 h4
  refine ⟨ep, ?_⟩
  have e : es = #[] := by
    obtain ⟨l⟩ := es
    rw [show l = [] from this]
  rw [e]
inductive KeysV : List DictEntry → List (Str × Value) → Prop
  | nil : KeysV [] []
  | cons {e : DictEntry} {es : List DictEntry} {k : Str} {KV : List (Str × Value)} : KeyV e.key k → k.length ≤ 100 → KeysV es KV → KeysV (e :: es) ((k, e.val) :: KV)
noncomputable def addAll (D : List (Str × Value)) (KV : List (Str × Value)) : List (Str × Value) := KV.foldl (fun D p => stored D (Txt.upper p.1) p.2) D
theorem Upd.re {d : Addr} {o o₁ o₂ : Obj} {l l₁ l₂ : List (Addr × Obj)} (a : Upd d o o₁ l l₁) (b : Upd d o o₂ l l₂) : Upd d o₁ o₂ l₁ l₂ := by
  induction a generalizing l₂ with
  | head h =>
    cases b with
    | head _ => exact .head h
    | tail q _ => exact (q rfl).elim
  | tail q _ ih =>
    cases b with
    | head _ => exact (q rfl).elim
    | tail _ b => exact .tail q (ih b)
theorem upd_other {d b : Addr} {o o' ob : Obj} {l l' : List (Addr × Obj)} (U : Upd d o o' l l') (h : (b, ob) ∈ l) (hb : b ≠ d) : (b, ob) ∈ l' := by
  obtain ⟨pre, post, rfl, rfl, _, _⟩ := U.split
  simp only [List.mem_append, List.mem_cons, Prod.mk.injEq] at h ⊢
  rcases h with h | ⟨h, _⟩ | h
  · exact .inl h
  · exact (hb h).elim
  · exact .inr (.inr h)
theorem upd_keys {d : Addr} {o o' : Obj} {l l' : List (Addr × Obj)} (U : Upd d o o' l l') : l'.map (·.1) = l.map (·.1) := by
  obtain ⟨pre, post, rfl, rfl, _, _⟩ := U.split
  simp
theorem upd_eq {d : Addr} {o o' : Obj} {l l' : List (Addr × Obj)} (U : Upd d o o' l l') (e : o = o') : l = l' := by
  obtain ⟨pre, post, rfl, rfl, _, _⟩ := U.split
  rw [e]
theorem Src.tail {p : Addr × Obj} {l : List (Addr × Obj)} {d : Addr} {c : Value} {od : Option Addr} {es : List DictEntry} {n : Nat} (S : Src l d c od es n) : Src (p :: l) d c od es n := by
  cases S with
  | dict h => exact .dict (List.Mem.tail _ h)
  | cd h1 h2 => exact .cd (List.Mem.tail _ h1) (List.Mem.tail _ h2)
theorem Src.upd {x : Addr} {o o' : Obj} {l l' : List (Addr × Obj)} {d : Addr} {c : Value} {od : Option Addr} {es : List DictEntry} {n : Nat} (S : Src l d c od es n) (U : Upd x o o' l l') (hd : d ≠ x) (hod : od ≠ some x) : Src l' d c od es n := by
  cases S with
  | dict h => exact .dict (upd_other U h hd)
  | cd h1 h2 => exact .cd (upd_other U h1 hd) (upd_other U h2 fun e => hod (by rw [e]))
theorem stored_len {D : List (Str × Value)} {k : Str} {v : Value} : D.length ≤ (stored D k v).length ∧ (stored D k v).length ≤ D.length + 1 := by
  refine ⟨?_, stored_length_le D k v⟩
  unfold stored
  split <;> simp
theorem addAll_len {D KV : List (Str × Value)} : D.length ≤ (addAll D KV).length ∧ (addAll D KV).length ≤ D.length + KV.length := by
  induction KV generalizing D with
  | nil => exact ⟨Nat.le_refl _, Nat.le_refl _⟩
  | cons p KV ih =>
    have h1 := (ih (D := stored D (Txt.upper p.1) p.2))
    have h2 : D.length ≤ (stored D (Txt.upper p.1) p.2).length ∧ (stored D (Txt.upper p.1) p.2).length ≤ D.length + 1 := stored_len
    show _ ≤ (addAll (stored D (Txt.upper p.1) p.2) KV).length ∧ (addAll (stored D (Txt.upper p.1) p.2) KV).length ≤ _
    simp only [List.length_cons]
    omega
theorem KeysV.length {es : List DictEntry} {KV : List (Str × Value)} (h : KeysV es KV) : es.length = KV.length := by
  induction h with
  | nil => rfl
  | cons _ _ _ ih => simp [ih]
theorem KeysV.at {es : List DictEntry} {KV : List (Str × Value)} (h : KeysV es KV) : ∀ {j : Nat} {e : DictEntry}, es[j]? = some e → ∃ k, KV[j]? = some (k, e.val) ∧ KeyV e.key k ∧ k.length ≤ 100 := by
  induction h with
  | nil => intro j e h; simp at h
  | cons a b _ ih =>
    intro j e h
    cases j with
    | zero => cases h; exact ⟨_, rfl, a, b⟩
    | succ j => exact ih h
theorem addAll_succ {D KV : List (Str × Value)} {j : Nat} {k : Str} {v : Value} (h : KV[j]? = some (k, v)) : addAll D (KV.take (j + 1)) = stored (addAll D (KV.take j)) (Txt.upper k) v := by
  rw [List.take_add_one, h]
  simp [addAll, List.foldl_append]
theorem allLt_at {d : Addr} : ∀ {l : List (Addr × Obj)}, AllLt d l → ∀ p ∈ l, p.1 < d
  | [], _, p, hp => nomatch hp
  | _ :: _, h, p, hp => by
    rcases List.mem_cons.mp hp with rfl | hp
    · exact h.1
    · exact allLt_at h.2 p hp
theorem Src.lift {l l' : List (Addr × Obj)} {d : Addr} {c : Value} {od : Option Addr} {es : List DictEntry} {n : Nat} (S : Src l d c od es n) (k : ∀ p ∈ l, p ∈ l') : Src l' d c od es n := by
  cases S with
  | dict h => exact .dict (k _ h)
  | cd h1 h2 => exact .cd (k _ h1) (k _ h2)
/-- the mapping of a turn: the argument, then the keywords -/
inductive Pick (D1 ep' : Nat) (news' : List DictEntry → Nat → List (Addr × Obj)) (D KV : List (Str × Value)) (i : Nat) : Value → Prop
  | mk (dd : Addr) (cX : Value) (odX : Option Addr) (esX : List DictEntry) (nX : Nat) (KVX : List (Str × Value)) : (∀ es₁ n₁, Src ((D1, dictOf [] ep') :: news' es₁ n₁) dd cX odX esX nX) → (dd == sysModules) = false → KeysV esX KVX → addAll (if i = 0 then D else addAll D KV) KVX = (if i + 1 = 0 then D else addAll D KV) → (if i = 0 then D else addAll D KV).length + esX.length < 64 → Pick D1 ep' news' D KV i (.ref dd)
theorem pick_of {D1 ep' : Nat} {news : List (Addr × Obj)} {news' : List DictEntry → Nat → List (Addr × Obj)} {x : Addr} {dx : Addr} {es : List DictEntry} {n : Nat} {D : List (Str × Value)} {d : Addr} {c : Value} {od : Option Addr} {esM : List DictEntry} {nM : Nat} {KV : List (Str × Value)} {i : Nat} {v : Value}
    {S : Src news d c od esM nM} {U : ∀ es' n', Upd x (cdObj dx es n) (cdObj dx es' n') news (news' es' n')} (hne : d ≠ x) (hne2 : od ≠ some x) (hdm : (d == sysModules) = false) (hKV : KeysV esM KV) (hz : D.length + esM.length < 64) (lo1 : (D1 == sysModules) = false) (hv : #[Value.ref d, .ref D1][i]? = some v) : Pick D1 ep' news' D KV i v := by
  rcases i with _ | _ | i
  · cases hv
    exact .mk d c od esM nM KV (fun es₁ n₁ => Src.tail (S.upd (U es₁ n₁) hne hne2)) hdm hKV rfl hz
  · cases hv
    exact .mk D1 _ _ [] ep' [] (fun _ _ => .dict (List.Mem.head _)) lo1 .nil rfl (Nat.lt_of_le_of_lt (addAll_len (D := D) (KV := KV)).2 (hKV.length ▸ hz))
  · cases hv
/-- what stands between the turns over the mappings -/
inductive JU (w : World) (x : Addr) (D : List (Str × Value)) (KV : List (Str × Value)) (hd : List (Addr × Obj)) (news' : List DictEntry → Nat → List (Addr × Obj)) (i : Nat) (m₁ : Str → Option Value) : List (Addr × Obj) → Prop
  | mk {es₁ : List DictEntry} {n₁ : Nat} : Ent PySem.Challenge.rw_be0018_01.row.prog w es₁ (if i = 0 then D else addAll D KV) → m₁ (Str.ofString "self") = some (.ref x) → JU w x D KV hd news' i m₁ (hd ++ news' es₁ n₁)
/-- what stands between the turns over the pairs -/
inductive JV (w : World) (x : Addr) (D0 KVX : List (Str × Value)) (hd : List (Addr × Obj)) (news' : List DictEntry → Nat → List (Addr × Obj)) (j : Nat) (m₁ : Str → Option Value) : List (Addr × Obj) → Prop
  | mk {esj : List DictEntry} {nj : Nat} : Ent PySem.Challenge.rw_be0018_01.row.prog w esj (addAll D0 (KVX.take j)) → m₁ (Str.ofString "self") = some (.ref x) → JV w x D0 KVX hd news' j m₁ (hd ++ news' esj nj)
theorem keys_off {P : Addr → Prop} {l l' : List (Addr × Obj)} (h : ∀ p ∈ l, P p.1) (e : l'.map (·.1) = l.map (·.1)) : ∀ p ∈ l', P p.1 := fun p hp => by
  have : p.1 ∈ l.map (·.1) := by rw [← e]; exact List.mem_map_of_mem hp
  obtain ⟨q, hq, eq⟩ := List.mem_map.mp this
  exact eq ▸ h q hq
theorem update_code {news' : List DictEntry → Nat → List (Addr × Obj)} {x dx : Addr} {es : List DictEntry} {n : Nat} {D : List (Str × Value)} {d : Addr} {c : Value} {od : Option Addr} {esM : List DictEntry} {nM : Nat} {KV : List (Str × Value)} (B : Below A₀ base outer h₀) (F : Fr h₀ L s.heap m) (X : (Mine.hd.heap_39 w.params).In h₀) (N : News h₀ L s.heap news) (T : Top p loose mean mg mb h₀) (hk : cs.kind = .function) (hdp : dp + 30 < recursionLimit) (hu : un + 240 < cLine) (hx : (x, cdObj dx es n) ∈ news) (hdx : (dx, dictOf [] 0) ∈ news) (U : ∀ es' n', Upd x (cdObj dx es n) (cdObj dx es' n') news (news' es' n')) (H : Ent PySem.Challenge.rw_be0018_01.row.prog w es D) (S : Src news d c od esM nM) (hdm : (d == sysModules) = false) (hne : d ≠ x) (hne2 : od ≠ some x) (hdx2 : dx ≠ x) (hKV : KeysV esM KV) (hz : D.length + esM.length < 64)
    (ret : ∀ es' n' h' tk', Ent PySem.Challenge.rw_be0018_01.row.prog w es' (addAll D KV) → Fr h₀ L h' m → News h₀ L h' (news' es' n') → Q .none { s with heap := h', toks := tk' }) :
    codeAny (model PySem.Challenge.rw_be0018_01.row.prog w) (ktrTop dp un gd cn cs L a ccd cl outer) (.call (.ref 139) ⟨[.ref x, .ref d], []⟩) (fun r s' => match r with | .ok (.ret v) => Q v s' | .ok _ => False | .error e => E e s') s := by
  revert X
  k_fill
  intro X
  refine' kp_both (K := Mine.hd.heap_39 w.params) B F X N T rfl rfl hk ?k6 ?k7 ?k8 ?kV ?kX ?kQ ?kM ?kN ?kD ?kR ?kP ?kS ?kT ?kB ?_ ?c2 ?c3 ?c4 ?c5
  (case k6 => k_is)
  (case k7 => k_is)
  (case k8 => show dp < recursionLimit; omega)
  (case kV => kp_lit)
  (case kX => kp_lit)
  (case kQ => exact rfl)
  (case kM => exact rfl)
  (case kN => exact rfl)
  (case kD => kp_flats)
  (case kR => exact rfl)
  (case kP => exact rfl)
  (case kS => exact fun _ => rfl)
  (case kT => exact fun _ _ => rfl)
  (case kB => exact fun _ _ => locs rfl)
  (case c5 => decide)
  (case c2 => exact rfl)
  (case c3 => exact rfl)
  (case c4 => exact rfl)
  intro C1 D1 o1 g1 L1 h1 tk1 l1 l2 lo1 hs1 fs1 FG1 F1 N1 B1 X1 T1
  obtain ⟨ep', rfl⟩ := dict_empty hs1
  clear fs1 hs1
  generalize hm1 : (fun y : Str => List.lookup y _) = m1 at F1
  have es1 : m1 (Str.ofString "self") = some (.ref x) := by rw [← hm1]; rfl
  have ea1 : m1 (Str.ofString "args") = some (.ref C1) := by rw [← hm1]; rfl
  have ek1 : m1 (Str.ofString "kwargs") = some (.ref D1) := by rw [← hm1]; rfl
  clear hm1
  have R1 := topRead_of T1
  show wpAny _ (ktrTop (dp + 1) (un + 3) gd _ _ L1 139 _ [] (envX cn cs L a ccd cl :: outer)) _ _ _ _
  refine wpAny_noRaise (gen_q fun Q0 hQ0 => ?_)
  refine wpAny_execs_cons (wpAny_Assign_Name (wpAny_BinOp (Call_ (nameX_B F1 X1 R1 ns_list bb_list (by decide) ?_))))
  refine PyProof.Rows.callWith_type1 (spliced_more (nameX_L F1 ea1 (spliced_none (list_copyKT (items := #[.ref d]) F1 N1 ⟨_, (N1 _ (List.Mem.tail _ (List.Mem.head _))).1, rfl, _, rfl⟩ (fun Da ca h2 F2 N2 l3 => ?_) (by rw [sizeLine_eq]; exact (by decide : 1 ≤ 16777216))))))
  refine List_ (spliced_more (nameX_L F2 ek1 (spliced_none (newList_N F2 N2 (fun h3 F3 N3 => ?_) (by rw [sizeLine_eq]; exact (by decide : 1 ≤ 16777216))))))
  refine add_arrays F3 N3 (its := #[.ref d]) (its2 := #[.ref D1]) ⟨_, (N3 _ (List.Mem.tail _ (List.Mem.head _))).1, rfl, _, rfl⟩ ⟨_, (N3 _ (List.Mem.head _)).1, rfl, _, rfl⟩ (fun h4 F4 N4 => ?_) (by rw [sizeLine_eq]; exact (by decide : 2 ≤ 16777216))
  have lDl : ∀ p ∈ (D1, dictOf [] ep') :: news, p.1 < h3.objs.size := fun p hp => Heap.lt_size (N3 p (List.Mem.tail _ (List.Mem.tail _ ((List.mem_cons.mp hp).elim (fun e => by rw [e]; exact List.Mem.head _) fun hp => List.Mem.tail _ (List.Mem.tail _ hp))))).1
  generalize h3.objs.size = Dl at N4 lDl
  refine storeX_L F4 N4 fun hE FE NE => ?_
  have Ns : News g1 L1 hE ((Dl, listOf #[.ref d, .ref D1] 0) :: (D1, dictOf [] ep') :: news) := cb_drop NE (fun p hp => by
    rcases List.mem_cons.mp hp with rfl | hp
    · exact List.Mem.head _
    rcases List.mem_cons.mp hp with rfl | hp
    · exact List.Mem.tail _ (List.Mem.tail _ (List.Mem.tail _ (List.Mem.head _)))
    · exact List.Mem.tail _ (List.Mem.tail _ (List.Mem.tail _ (List.Mem.tail _ (List.Mem.tail _ hp)))))
  clear N1 N2 N3 N4 NE F1 F2 F3 F4 l3
  have e0 : news = news' es n := upd_eq (U es n) rfl
  have UU : ∀ es₁ n₁ es₂ n₂, Upd x (cdObj dx es₁ n₁) (cdObj dx es₂ n₂) (news' es₁ n₁) (news' es₂ n₂) := fun es₁ n₁ es₂ n₂ => Upd.re (U es₁ n₁) (U es₂ n₂)
  have hkeys : ∀ es₁ n₁ es₂ n₂, (news' es₁ n₁).map (·.1) = (news' es₂ n₂).map (·.1) := fun es₁ n₁ es₂ n₂ => upd_keys (UU es₂ n₂ es₁ n₁)
  refine wpAny_execs_cons (wpAny_For (nameX_L FE (if_pos rfl) (iter_list_ FE Ns (List.Mem.head _) fun I hF hI hIl FF NF lI fI => ?_)))
  rw [e0] at NF
  refine for_feeds (own := [I]) (fp := [I, Dl]) (fx := [(Dl, listOf #[.ref d, .ref D1] 0)]) (fun i m₁ nw => JU w x D KV [(Dl, listOf #[.ref d, .ref D1] 0), (D1, dictOf [] ep')] news' i m₁ nw)
    (feeds_name (Walks.list rfl I Dl (Nat.ne_of_lt (lI _ (List.Mem.head _))) #[.ref d, .ref D1])) ⟨rfl, rfl⟩ ⟨hI, hIl⟩ (fun i h hh b hb => List.mem_singleton.mp hb ▸ let ⟨o, e, _⟩ := hh.1; ⟨o, e⟩) FF NF (fun hm => fI.1 (List.mem_singleton.mp hm).symm) (fun b hb => List.mem_singleton.mp hb ▸ fI.2) ?_ ?_ ?_ ?_ ?_ ?_
  · rw [← e0]
    exact fun p hp hm => Nat.ne_of_lt (lI p hp) (List.mem_singleton.mp hm)
  · exact List.forall_mem_cons.mpr ⟨.inl (List.Mem.head _), List.forall_mem_cons.mpr ⟨.inr ⟨_, List.Mem.head _⟩, fun _ h => nomatch h⟩⟩
  · intro i m₁ nw hJ p hp
    cases hJ with
    | mk => exact List.mem_singleton.mp hp ▸ List.Mem.head _
  · exact .mk (es₁ := es) (n₁ := n) H ((if_neg (by decide)).trans es1)
  · intro i m₁ m₂ nw h tk fo hi hJ hP F₁ N₁ hfo hn₁
    refine wpAny_noRaise (gen_q fun Q' hQ => ?_)
    obtain ⟨r, rfl⟩ := one_of hfo
    obtain ⟨v, hv, rfl⟩ := hP
    cases hJ with
    | @mk es₁ n₁ H₁ hself =>
    have PK : Pick D1 ep' news' D KV i v := pick_of (S := S) (U := U) hne hne2 hdm hKV hz lo1 hv
    clear hv
    cases PK with
    | mk dd cX odX esX nX KVX SXa hddm hKX hnx hzx =>
    refine wpAny_execs_cons (wpAny_If (isTrue_plain (Call_ (nameX_B (s := { s with heap := h, toks := tk }) F₁ X1 R1 ns_hasattr bb_hasattr (by decide) ?_))))
    refine PyProof.Rows.callWith_builtin1 (spliced_more (nameX_L F₁ (if_pos rfl) (spliced_more (wpAny_Constant_str (spliced_none ?_)))))
    refine (SXa es₁ n₁).tail.tail.has (s := { s with heap := h, toks := _ }) F₁ N₁ X1 fun hA tkA FA NA => wpAny_truthy_bool ?_
    rw [if_pos rfl]
    refine wpAny_execs_cons (wpAny_Assign_Name (Call_ (nameX_B (s := { s with heap := hA, toks := _ }) FA X1 R1 ns_iter bb_iter (by decide) ?_)))
    refine PyProof.Rows.callWith_builtin1 (spliced_more (MethodCall_ (nameX_L FA (if_pos rfl) ?_) (method_eq rfl rfl)))
    refine (SXa es₁ n₁).tail.tail.method FA NA X1 (callWith_method0 ?_)
    refine (SXa es₁ n₁).tail.tail.items hddm FA NA X1 fun vv hB FB NB lB => spliced_none ?_
    refine (SXa es₁ n₁).tail.tail.tail.iter (s := { s with heap := hB, toks := _ }) FB NB (List.Mem.head _) fun it f0 f1 f6 f7 hC hf FC NC lC => ?_
    refine storeX_L (s := { s with heap := hC, toks := _ }) FC NC fun hD FD ND => ?_
    refine wpAny_execs_nil ?_
    generalize hD0 : (if i = 0 then D else addAll D KV) = D0 at H₁ hnx hzx
    clear F₁ N₁ FA NA FB NB FC NC
    have hdI : dd ≠ it := Nat.ne_of_lt (lC _ (List.Mem.tail _ (List.Mem.tail _ (List.Mem.tail _ (SXa es₁ n₁).at_))))
    have hit : ItAt hD it dd 0 esX.length nX := ⟨f0, f1, f6, f7, hf, (ND _ (List.Mem.head _)).1⟩
    refine wpAny_execs_cons (wpAny_For (nameX_L (s := { s with heap := hD, toks := _ }) FD (if_pos rfl) (iter_self hit ?_)))
    refine for_feeds (s := { s with heap := hD, toks := _ }) (own := [it]) (fp := [it, dd]) (fx := [(dd, dob cX odX esX nX)]) (fun j m₁ nw => JV w x D0 KVX [(vv, { cls := .type "dict_items", data := .fields #[.ref dd] }), (I, r), (Dl, listOf #[.ref d, .ref D1] 0), (D1, dictOf [] ep')] news' j m₁ nw)
      (feeds_items (c := cX) (od := odX) (es := esX) (ep := nX) rfl hdI) ⟨rfl, rfl, rfl⟩ ⟨hit, (ND _ (List.Mem.tail _ (List.Mem.tail _ (List.Mem.tail _ (List.Mem.tail _ (SXa es₁ n₁).at_))))).1⟩ (fun i h hh b hb => List.mem_singleton.mp hb ▸ let ⟨_, _, _, _, _, e⟩ := hh.1; ⟨_, e⟩) FD (fun p hp => ND p (List.Mem.tail _ hp)) (fun hm => (ND _ (List.Mem.head _)).2.1 (List.mem_singleton.mp hm).symm) (fun b hb => List.mem_singleton.mp hb ▸ (ND _ (List.Mem.head _)).2.2) (fun p hp hm => Nat.ne_of_lt (lC p hp) (List.mem_singleton.mp hm)) ?_ ?_ (.mk H₁ ((if_neg (by decide)).trans ((if_neg (by decide)).trans hself))) ?_ ?_
    · exact List.forall_mem_cons.mpr ⟨.inl (List.Mem.head _), List.forall_mem_cons.mpr ⟨.inr ⟨_, List.Mem.head _⟩, fun _ h => nomatch h⟩⟩
    · intro j m₂ nw hJ p hp
      cases hJ with
      | @mk esj nj => exact List.mem_singleton.mp hp ▸ List.Mem.tail _ (List.Mem.tail _ (List.Mem.tail _ (SXa esj nj).at_))
    · intro j m₂ m₃ nw h6 tk6 fo hj hJ hP F6 N6 hfo off
      refine wpAny_noRaise (gen_q fun Q2 hQ2 => ?_)
      obtain ⟨r6, rfl⟩ := one_of hfo
      obtain ⟨e, hje, rfl⟩ := hP
      cases hJ with
      | @mk esj nj Hj hs2 =>
      obtain ⟨kk, hkk, hkv, hkl⟩ := hKX.at hje
      have hxj := List.Mem.tail (it, r6) (List.Mem.tail (vv, ({ cls := .type "dict_items", data := .fields #[.ref dd] } : Obj)) (List.Mem.tail (I, r) (List.Mem.tail (Dl, listOf #[.ref d, .ref D1] 0) (List.Mem.tail (D1, dictOf [] ep') (upd_mem (UU esj nj esj nj))))))
      have hdxj := List.Mem.tail (it, r6) (List.Mem.tail (vv, ({ cls := .type "dict_items", data := .fields #[.ref dd] } : Obj)) (List.Mem.tail (I, r) (List.Mem.tail (Dl, listOf #[.ref d, .ref D1] 0) (List.Mem.tail (D1, dictOf [] ep') (upd_other (U esj nj) hdx hdx2)))))
      have hzj : (addAll D0 (KVX.take j)).length < 64 := by
        have h1 := (addAll_len (D := D0) (KV := KVX.take j)).2
        rw [List.length_take] at h1
        exact Nat.lt_of_le_of_lt h1 (Nat.lt_of_le_of_lt (Nat.add_le_add_left (Nat.min_le_right _ _) _) (hKX.length ▸ hzx))
      have hxa : (x, cdObj dx es₁ n₁) ∈ news' es₁ n₁ := upd_mem (UU es₁ n₁ es₁ n₁)
      have q1 : it ≠ x := Nat.ne_of_gt (lC _ (List.Mem.tail _ (List.Mem.tail _ (List.Mem.tail _ (List.Mem.tail _ hxa)))))
      have q2 : vv ≠ x := Nat.ne_of_gt (lB _ (List.Mem.tail _ (List.Mem.tail _ (List.Mem.tail _ hxa))))
      have q3 : I ≠ x := fun e => hn₁ _ (List.Mem.tail _ (List.Mem.tail _ hxa)) (e ▸ List.Mem.head _)
      have q4 : Dl ≠ x := Nat.ne_of_gt (lDl _ (List.Mem.tail _ hx))
      have q5 : D1 ≠ x := Nat.ne_of_gt (Nat.lt_trans (l1 _ hx) l2)
      refine wpAny_execs_cons (wpAny_Assign_Subscript (nameX_L (s := { s with heap := h6, toks := tk6 }) F6 (if_pos rfl) (nameX_L F6 ((if_neg (by decide)).trans ((if_neg (by decide)).trans hs2)) (nameX_L F6 ((if_neg (by decide)).trans (if_pos rfl)) ?_))))
      refine ksp_setItem (f := 73) F6 X1 (inst_cd N6 hxj hdxj) kf_noseq kf_set kf_set_fn ?_
      refine set_c (s := { s with heap := h6, toks := tk6 }) (news' := fun es' n' => (it, r6) :: (vv, { cls := .type "dict_items", data := .fields #[.ref dd] }) :: (I, r) :: (Dl, listOf #[.ref d, .ref D1] 0) :: (D1, dictOf [] ep') :: news' es' n') B1 F6 X1 N6 T1 rfl (by omega) (by omega) hxj hdxj (fun es' n' => .tail q1 (.tail q2 (.tail q3 (.tail q4 (.tail q5 (UU esj nj es' n')))))) Hj hzj hkv hkl fun es' n' h9 tk9 H9 F9 N9 => ?_
      rw [← addAll_succ hkk] at H9
      exact wpAny_execs_nil (hQ2 .next _ (.mk F9 N9 (keys_off (P := (· ∉ [it])) off (by show _ :: _ :: _ :: _ :: (news' es' n').map (·.1) = _ :: _ :: _ :: _ :: (news' esj nj).map (·.1); rw [hkeys es' n' esj nj])) ⟨rfl, .mk H9 ((if_neg (by decide)).trans ((if_neg (by decide)).trans hs2))⟩))
    · intro m' nw h7 tk7 hJ F7 N7
      cases hJ with
      | @mk esj nj Hj hs2 =>
      rw [List.take_of_length_le (Nat.le_of_eq hKX.length.symm), hnx] at Hj
      exact wpAny_execs_nil (hQ .next _ (.mk F7 (fun p hp => N7 p (List.Mem.tail _ hp)) (keys_off (P := (· ∉ [I])) hn₁ (by show _ :: _ :: (news' esj nj).map (·.1) = _ :: _ :: (news' es₁ n₁).map (·.1); rw [hkeys esj nj es₁ n₁])) ⟨rfl, .mk Hj hs2⟩))
  · intro m' nw h8 tk8 hJ F8 N8
    cases hJ with
    | @mk es₁ n₁ H₁ _ => exact wpAny_execs_nil (hQ0 .next _ (leaveK_ (s' := { s with heap := h8, toks := tk8 }) F8 N8 fun kF kN => ret es₁ n₁ _ _ H₁ kF (cb_drop kN fun p hp => List.Mem.tail _ (List.Mem.tail _ hp))))
theorem update_c {news' : List DictEntry → Nat → List (Addr × Obj)} {x dx : Addr} {es : List DictEntry} {n : Nat} {D : List (Str × Value)} {d : Addr} {c : Value} {od : Option Addr} {esM : List DictEntry} {nM : Nat} {KV : List (Str × Value)} (B : Below A₀ base outer h₀) (F : Fr h₀ L s.heap m) (X : (Mine.hd.heap_39 w.params).In h₀) (N : News h₀ L s.heap news) (T : Top p loose mean mg mb h₀) (hk : cs.kind = .function) (hdp : dp + 30 < recursionLimit) (hu : un + 240 < cLine) (hx : (x, cdObj dx es n) ∈ news) (hdx : (dx, dictOf [] 0) ∈ news) (U : ∀ es' n', Upd x (cdObj dx es n) (cdObj dx es' n') news (news' es' n')) (H : Ent PySem.Challenge.rw_be0018_01.row.prog w es D) (S : Src news d c od esM nM) (hdm : (d == sysModules) = false) (hne : d ≠ x) (hne2 : od ≠ some x) (hdx2 : dx ≠ x) (hKV : KeysV esM KV) (hz : D.length + esM.length < 64)
    (ret : ∀ es' n' h' tk', Ent PySem.Challenge.rw_be0018_01.row.prog w es' (addAll D KV) → Fr h₀ L h' m → News h₀ L h' (news' es' n') → Q .none { s with heap := h', toks := tk' }) :
    wpAny (model PySem.Challenge.rw_be0018_01.row.prog w) (ktrTop dp un gd cn cs L a ccd cl outer) (call (.ref 139) [.ref x, .ref d]) Q E s := wpAny_call (update_code B F X N T hk hdp hu hx hdx U H S hdm hne hne2 hdx2 hKV hz ret)
end
end Mine
end
section
open PySem PySem.W PySem.Calls PyProof.Rows
set_option Elab.async false
set_option maxRecDepth 100000
set_option maxHeartbeats 1000000
set_option linter.unusedVariables false
set_option pp.maxSteps 3000
set_option pp.deepTerms false
set_option pp.deepTerms.threshold 6
namespace Mine
section
variable {w : World} {p : Program} {loose : List Str} {mean : ExcName → Option Value} {mg mb : Str → Option Value} {dp un : Nat} {gd : Option (List Code)} {cn : Str} {cs : Scope} {a : Addr} {ccd : Value} {cl : List (Str × Addr)} {outer : List Env} {A₀ : Around} {base h₀ : Heap} {L : Addr} {m : Str → Option Value} {news : List (Addr × Obj)} {s : Shared} {Q E : Value → Shared → Prop}
theorem rdrop {base G : Heap} {l : List Env} {e : Addr} {cls : Value} {news news₂ : List (Addr × Obj)} {h : Heap} (R : RaisedSN base G l e cls news₂ h) (hs : ∀ p ∈ news, p ∈ news₂) : RaisedSN base G l e cls news h := by
  obtain ⟨B, a0, x1, x2, x3, x4⟩ := R
  exact ⟨B, a0, x1, x2, fun q hq => x3 q (hs q hq), x4⟩
theorem getitem_c {x dx : Addr} {es : List DictEntry} {n : Nat} {D : List (Str × Value)} (B : Below A₀ base outer h₀) (F : Fr h₀ L s.heap m) (X : (Mine.hd.heap_39 w.params).In h₀) (N : News h₀ L s.heap news) (T : Top p loose mean mg mb h₀) (hk : cs.kind = .function) (hd : dp + 10 < recursionLimit) (hu : un + 80 < cLine) (hx : (x, cdObj dx es n) ∈ news) (hdx : (dx, dictOf [] 0) ∈ news) (H : Ent PySem.Challenge.rw_be0018_01.row.prog w es D) (hxm : (x == sysModules) = false) {kv : Value} {k : Str} (hkv : KeyV kv k) (hlen : k.length ≤ 100)
    (ret : ∀ u h' tk', valueAt D (Txt.upper k) = some u → Fr h₀ L h' m → News h₀ L h' news → Q u { s with heap := h', toks := tk' })
    (retE : valueAt D (Txt.upper k) = none → ∀ g' h' tk' e, Fr h₀ L g' m → RaisedSN base g' (envX cn cs L a ccd cl :: outer) e (.type "KeyError") news h' → g'.UpToSlots h' → E (.ref e) { s with heap := h', toks := tk' }) :
    wpAny (model PySem.Challenge.rw_be0018_01.row.prog w) (ktrTop dp un gd cn cs L a ccd cl outer) (call (.ref 65) [.ref x, kv]) Q E s := by
  revert X
  k_fill
  intro X
  refine' up_meth B F X N T hk hd hu hx hdx hkv hlen ?ho ?hst ?hcd ?hcode ?hb ?hl ?hce ?hp ?har ?hex ?hexk ?hks ?hkc ?hku ?hksf ?hkk ?hkd ?hco ?hgen ?hd ?hm ty_getitem ?hn ?hcut ?he ?hes ?hpl ?hup ?hin ?hrest va_getitem (fun _ => ao_getitem _ _) (fun _ => ba_getitem _ _) pl_getitem en_getitem ?_
  (case ho => k_is)
  (case hst => exact .inl ⟨rfl, rfl⟩)
  (case hcd => k_is)
  (case hcode => kernel_rfl)
  (case hb => first | exact BindsTo.of_eq rfl | exact binds_K (X.keeps F.keep) rfl (by k_is) rfl rfl rfl)
  (case hl => exact locs rfl)
  (case hce => decide)
  (case hd => exact .inr ⟨rfl, rfl, told_getitem⟩)
  (case hm => ks_is)
  (case hn => decide)
  (case hcut => decide +kernel)
  (case hrest => exact fun g L1 s1 m1 Q1 E1 F1 hm1 hq => spliced_none hq)
  (case he => exact fun _ => rfl)
  (case hes => exact fun _ => rfl)
  (case hpl => exact fun _ => rfl)
  (case hin => exact fun _ => rfl)
  (case hp => exact rfl)
  (case har => exact rfl)
  (case hex => exact rfl)
  (case hexk => exact rfl)
  (case hks => exact rfl)
  (case hkc => exact rfl)
  (case hku => exact rfl)
  (case hksf => exact rfl)
  (case hkk => exact rfl)
  (case hkd => exact rfl)
  (case hco => exact rfl)
  (case hgen => exact rfl)
  (case hup => exact rfl)
  intro g L1 h1 m1 so q tk t FG F1 N1 B1 X1 n1 n2
  refine b_getitem (N1 _ (List.Mem.tail _ (List.Mem.tail _ hx))).1 (N1 _ (List.Mem.tail _ (List.Mem.tail _ hdx))).1 hxm rfl (X1.keeps F1.keep) H (fun hv h' e hx' => ?_) fun u hv => leaveK_ F1 N1 fun kF kN => ret _ _ _ hv kF (cb_drop kN fun _ hp => List.Mem.tail _ (List.Mem.tail _ hp))
  exact leave_newSX (hk := by rfl) B1 hx' F1 N1 fun h' R U => retE hv _ _ _ _ FG (rdrop R fun _ hp => List.Mem.tail _ (List.Mem.tail _ hp)) U
theorem delitem_c {news' : List DictEntry → Nat → List (Addr × Obj)} {x dx : Addr} {es : List DictEntry} {n : Nat} {D : List (Str × Value)} (B : Below A₀ base outer h₀) (F : Fr h₀ L s.heap m) (X : (Mine.hd.heap_39 w.params).In h₀) (N : News h₀ L s.heap news) (T : Top p loose mean mg mb h₀) (hk : cs.kind = .function) (hd : dp + 10 < recursionLimit) (hu : un + 80 < cLine) (hx : (x, cdObj dx es n) ∈ news) (hdx : (dx, dictOf [] 0) ∈ news) (U : ∀ es' n', Upd x (cdObj dx es n) (cdObj dx es' n') news (news' es' n')) (H : Ent PySem.Challenge.rw_be0018_01.row.prog w es D) (hxm : (x == sysModules) = false) {kv : Value} {k : Str} (hkv : KeyV kv k) (hlen : k.length ≤ 100)
    (ret : ∀ es' n' h' tk', (valueAt D (Txt.upper k)).isSome = true → Ent PySem.Challenge.rw_be0018_01.row.prog w es' (without D (Txt.upper k)) → Fr h₀ L h' m → News h₀ L h' (news' es' n') → Q .none { s with heap := h', toks := tk' })
    (retE : valueAt D (Txt.upper k) = none → ∀ g' h' tk' e, Fr h₀ L g' m → RaisedSN base g' (envX cn cs L a ccd cl :: outer) e (.type "KeyError") news h' → g'.UpToSlots h' → E (.ref e) { s with heap := h', toks := tk' }) :
    wpAny (model PySem.Challenge.rw_be0018_01.row.prog w) (ktrTop dp un gd cn cs L a ccd cl outer) (call (.ref 81) [.ref x, kv]) Q E s := by
  revert X
  k_fill
  intro X
  refine' up_meth B F X N T hk hd hu hx hdx hkv hlen ?ho ?hst ?hcd ?hcode ?hb ?hl ?hce ?hp ?har ?hex ?hexk ?hks ?hkc ?hku ?hksf ?hkk ?hkd ?hco ?hgen ?hd ?hm ty_delitem ?hn ?hcut ?he ?hes ?hpl ?hup ?hin ?hrest va_delitem (fun _ => ao_delitem _ _) (fun _ => ba_delitem _ _) pl_delitem en_delitem ?_
  (case ho => k_is)
  (case hst => exact .inr ⟨rfl, rfl⟩)
  (case hcd => k_is)
  (case hcode => kernel_rfl)
  (case hb => first | exact BindsTo.of_eq rfl | exact binds_K (X.keeps F.keep) rfl (by k_is) rfl rfl rfl)
  (case hl => exact locs rfl)
  (case hce => decide)
  (case hd => exact .inl ⟨rfl, rfl⟩)
  (case hm => ks_is)
  (case hn => decide)
  (case hcut => decide +kernel)
  (case hrest => exact fun g L1 s1 m1 Q1 E1 F1 hm1 hq => spliced_none hq)
  (case he => exact fun _ => rfl)
  (case hes => exact fun _ => rfl)
  (case hpl => exact fun _ => rfl)
  (case hin => exact fun _ => rfl)
  (case hp => exact rfl)
  (case har => exact rfl)
  (case hex => exact rfl)
  (case hexk => exact rfl)
  (case hks => exact rfl)
  (case hkc => exact rfl)
  (case hku => exact rfl)
  (case hksf => exact rfl)
  (case hkk => exact rfl)
  (case hkd => exact rfl)
  (case hco => exact rfl)
  (case hgen => exact rfl)
  (case hup => exact rfl)
  intro g L1 h1 m1 so q tk t FG F1 N1 B1 X1 n1 n2
  refine b_delitem (news' := fun es' n' => (q, _) :: (so, _) :: news' es' n') hxm rfl (noOrd_cd (X1.keeps F1.keep) (N1 _ (List.Mem.tail _ (List.Mem.tail _ hx))).1) F1 N1 (fun es' n' => Upd.tail n1 (Upd.tail n2 (U es' n'))) H (fun hv h' e hx' => ?_) fun es' n' h' hv H' F' N' => leaveK_ F' N' fun kF kN => ret _ _ _ _ hv H' kF (cb_drop kN fun _ hp => List.Mem.tail _ (List.Mem.tail _ hp))
  exact leave_newSX (hk := by rfl) B1 hx' F1 N1 fun h' R U => retE hv _ _ _ _ FG (rdrop R fun _ hp => List.Mem.tail _ (List.Mem.tail _ hp)) U
theorem popitem_c {news' : List DictEntry → Nat → List (Addr × Obj)} {x dx : Addr} {es : List DictEntry} {n : Nat} {D : List (Str × Value)} (B : Below A₀ base outer h₀) (F : Fr h₀ L s.heap m) (X : (Mine.hd.heap_39 w.params).In h₀) (N : News h₀ L s.heap news) (T : Top p loose mean mg mb h₀) (hk : cs.kind = .function) (hd : dp + 10 < recursionLimit) (hu : un + 80 < cLine) (hx : (x, cdObj dx es n) ∈ news) (hdx : (dx, dictOf [] 0) ∈ news) (U : ∀ es' n', Upd x (cdObj dx es n) (cdObj dx es' n') news (news' es' n')) (H : Ent PySem.Challenge.rw_be0018_01.row.prog w es D) (hxm : (x == sysModules) = false)
    (ret : ∀ kv t' q es' n' h' tk', D.getLast? = some kv → Ent PySem.Challenge.rw_be0018_01.row.prog w es' D.dropLast → Fr h₀ L h' m → News h₀ L h' ((q, { cls := .type "tuple", data := .seq #[.str kv.1 t', kv.2] }) :: news' es' n') → (∀ p ∈ news' es' n', p.1 < q) → Q (.ref q) { s with heap := h', toks := tk' })
    (retE : D = [] → ∀ g' h' tk' e, Fr h₀ L g' m → RaisedSN base g' (envX cn cs L a ccd cl :: outer) e (.type "KeyError") news h' → g'.UpToSlots h' → E (.ref e) { s with heap := h', toks := tk' }) :
    wpAny (model PySem.Challenge.rw_be0018_01.row.prog w) (ktrTop dp un gd cn cs L a ccd cl outer) (call (.ref 124) [.ref x]) Q E s := by
  revert X
  k_fill
  intro X
  refine wpAny_call ?_
  refine' ks_code_super (K := Mine.hd.heap_39 w.params) B F X N T rfl rfl hk ?k6 ?k7 ?k8 ?k9 ?kB ?_ ?c1 ?c2 ?c3 ?c4
  (case k6 => k_is)
  (case k7 => k_is)
  (case k9 => exact BindsTo.of_eq rfl)
  (case kB => exact locs rfl)
  (case c1 => decide)
  (case c2 => exact rfl)
  (case c3 => exact rfl)
  (case c4 => exact rfl)
  (case k8 => show dp < recursionLimit; omega)
  intro g L1 h1 FG F1 N1 B1 X1 T1 l1
  generalize hm1 : (fun y : Str => List.lookup y _) = m1 at F1
  have e1 : m1 ("self" : Str) = some (.ref x) := by rw [← hm1]; rfl
  clear hm1
  refine ks_wpAt_execs_cons (ks_wpAt_Return_some ?_)
  refine' super_get F1 X1 N1 T1 hx hdx ?hf ?hp ?hv ?hcode ?a1 ?a2 ?a3 ?a4 (.inr ⟨rfl, rfl, told_popitem⟩) ?hm ty_popitem ?hn (by decide +kernel) (pl := pure false) ?he ?_
  (case hf => k_is)
  (case hp => exact rfl)
  (case hv => exact e1)
  (case a1 => exact rfl)
  (case a2 => exact rfl)
  (case a3 => exact rfl)
  (case a4 => exact rfl)
  (case hn => decide)
  (case he => exact rfl)
  (case hcode => kernel_rfl)
  (case hm => ks_is)
  intro so q h2 F2 N2 l2 l3
  have hx2 := List.Mem.tail (q, bndObj "builtin_function_or_method" "dict.popitem" x) (List.Mem.tail (so, ks_superObj 170 x 170) hx)
  refine callWith_B0 (N2 _ (List.Mem.head _)).1 (.inr rfl) ?_
  refine call_B (s := { s with heap := h2, toks := _ }) N2 (List.Mem.head _) (.inr rfl) (X1.keeps F2.keep) (inst_cd N2 hx2 (List.Mem.tail _ (List.Mem.tail _ hdx))) kf_cls kf_type kf_module va_popitem (ao_popitem _) (ba_popitem _) pl_popitem en_popitem ?_
  refine b_popitem (news' := fun es' n' => (q, _) :: (so, _) :: news' es' n') hxm rfl (noOrd_cd (X1.keeps F2.keep) (N2 _ hx2).1) F2 N2 (fun es' n' => Upd.tail (Nat.ne_of_gt (Nat.lt_trans (l2 _ hx) l3)) (Upd.tail (Nat.ne_of_gt (l2 _ hx)) (U es' n'))) H (fun hv h' tk e hx' => ?_) fun kv t' es' n' h' q hv H' F' N' l9 => leaveK_ F' N' fun kF kN => ret _ _ _ _ _ _ _ hv H' kF (cb_drop kN fun _ hp => (List.mem_cons.mp hp).elim (fun e => by rw [e]; exact List.Mem.head _) fun hp => List.Mem.tail _ (List.Mem.tail _ (List.Mem.tail _ hp))) fun p hp => l9 p (List.Mem.tail _ (List.Mem.tail _ hp))
  exact leave_newSX (hk := by rfl) (A := ktrTop dp un gd cn cs L a ccd cl outer) B1 hx' F2 N2 fun h' R U => retE hv _ _ _ _ FG (rdrop R fun _ hp => List.Mem.tail _ (List.Mem.tail _ hp)) U
end
end Mine
end
section
open PySem PySem.W PySem.Calls PyProof.Rows
set_option Elab.async false
set_option maxRecDepth 100000
set_option maxHeartbeats 1000000
set_option linter.unusedVariables false
set_option pp.maxSteps 3000
set_option pp.deepTerms false
set_option pp.deepTerms.threshold 6
namespace Mine
section
variable {prog : Program} {w : World} {A₀ A : Around} {s : Shared} {base h₀ : Heap} {outer : List Env} {L : Addr} {m : Str → Option Value} {env : Env} {news : List (Addr × Obj)}
  {R : Result → Shared → Prop} {name qual : Str} {params : Arguments} {body : List Stmt} {scope : Scope} {cl : List (Str × Addr)} {dV kV doc pm cdv ct : Value} {an : Option Addr} {f : Addr} {args : Args} {binds : List (Str × Value)}
theorem frame_at {E : Value → Shared → Prop} (B : Below A₀ base outer h₀) (F : Fr h₀ L s.heap m) (N : News h₀ L s.heap news) (hlim : h₀.NoLimit) (hA : A.frames = some (env :: outer)) (hf : env.frame = some L) (hke : env.scope.kind = .function)
    (hloc : ∀ y ∈ binds, scope.names.lookup y.1 = some .local)
    (h : ∀ g L' h₁, Fr h₀ L g m → Fr g L' h₁ (fun y => binds.reverse.lookup y) → News g L' h₁ news → Below A base (env :: outer) g → h₀.StaysIn g → (∀ p ∈ news, p.1 < L') →
      _root_.PySem.wpAt (model prog w) (A.deeper (envX qual scope L' f cdv cl)) (.func body (envX qual scope L' f cdv cl)) (execs body (envX qual scope L' f cdv cl))
        (fun fl s' => LeaveK h₀ L m g R (match fl with | .ret v => v | _ => .none) s')
        (fun e s' => wpAny (model prog w) (A.deeper (envX qual scope L' f cdv cl)) (leaving (envX qual scope L' f cdv cl) e) (fun _ s'' => R (.error e) s'') (fun e' s'' => R (.error e') s'') s')
        { s with heap := h₁, toks := s.toks + binds.length })
    (hcell : ∀ x ∈ scope.names, x.2 ≠ .cell) (hk : scope.kind = .function) :
    wpAny (model prog w) A.in1 (newFunctionEnv scope mainGlobals cl binds (qual ++ ".<locals>.") (some f) cdv none builtinsNs) (fun env' s₂ => s₂.heap.NoLimit ∧ codeAny (model prog w) A (.func body env') R s₂) E s := by
  obtain ⟨FG, BG, st, lv⟩ := groundX (R := R) B F N hA hf hke
  refine wpAny_newFunctionEnv hcell hloc (fun h₁ hns hsb => ⟨(hlim.keeps F.keep).fresh _ hsb, ks_codeAny_funcAt ?_⟩) hk
  have hk₁ : ∀ b o, s.heap.get? b = some o → h₁.get? b = some o := fun b o e => hsb.extBut b o (Nat.ne_of_lt (Heap.lt_size e)) (Heap.get?_push_of_some _ e)
  exact ks_wpAt_mono (h _ s.heap.objs.size h₁ FG ⟨hns, fun b o e => hk₁ b o (of_hideAll _ e), Nat.le_of_eq (hideAll_size _ _)⟩
    (fun p hp => ⟨hk₁ _ _ (N p hp).1, Nat.ne_of_lt (Heap.lt_size (N p hp).1), hideAll_none _ (List.mem_map_of_mem hp)⟩) BG st (fun p hp => Heap.lt_size (N p hp).1)) (fun fl s' hl => lv _ _ hl) fun _ _ y => y
end
section
variable {prog : Program} {w : World} {A A₀ : Around} {s : Shared} {K : Frag} {L : Addr} {h₀ base : Heap} {m mg mb : Str → Option Value} {news : List (Addr × Obj)} {p : Program} {loose : List Str} {mean : ExcName → Option Value}
theorem super_both {env : Env} {outer : List Env} {R : Result → Shared → Prop} {name qual : Str} {params : Arguments} {body : List Stmt} {scope : Scope} {dV kV doc pm cdv ct oc : Value} {an od : Option Addr} {osl : Array (Option Value)} {f cc : Addr} {args : Args} {vs : List Value} {nm nr : Str} {ex front : List (Str × Value)} {g₁ : Addr → Sem (List (Str × Value))} {g₂ : Addr → Addr → Sem (List (Str × Value))}
    (B : Below A₀ base outer h₀) (F : Fr h₀ L s.heap m) (X₀ : K.In h₀) (N : News h₀ L s.heap news) (T : Top p loose mean mg mb h₀) (hA : A.frames = some (env :: outer)) (hf : env.frame = some L) (hke : env.scope.kind = .function)
    (ho : K.lookup f = some ⟨oc, od, .func (ksFn name qual params body scope dV kV doc pm an cdv ct cc), osl⟩) (hcd : codeIn K cdv qual = true) (hroom : A.depth < recursionLimit)
    (hv : args.pos.drop (params.posonlyargs.length + params.args.length) = vs) (hx : args.kw.filter (fun x => !ownKw params x.1) = ex) (hnr : params.vararg.map (·.arg) = some nr) (hnm : params.kwarg.map (·.arg) = some nm) (hn : kwDistinct ex = true)
    (_hfr : peek K ⟨prog, w.params⟩ (bindArgs (fnCut (ksFn name qual params body scope dV kV doc pm an cdv ct cc)) (argsCut params args)) = some front)
    (hp : peekA K ⟨prog, w.params⟩ (bindArgs (ksFn name qual params body scope dV kV doc pm an cdv ct cc) args) = some (({ cls := .type "tuple", data := .seq vs.toArray } : Obj), g₁))
    (hp₂ : ∀ D, peekA K ⟨prog, w.params⟩ (g₁ D) = some (dictOf [] 0, g₂ D))
    (hk₂ : ∀ C D, g₂ C D = (forIn ex PUnit.unit (fun x _ => (nsSet D x.1 x.2 >>= fun _ => pure (ForInStep.yield PUnit.unit))) >>= fun _ => pure (front ++ [(nr, Value.ref C)] ++ [(nm, Value.ref D)])))
    (hloc : ∀ C D, ∀ y ∈ front ++ [(nr, Value.ref C)] ++ [(nm, Value.ref D)], scope.names.lookup y.1 = some .local)
    (h : ∀ C D o g L' h₁ tk, (∀ p ∈ news, p.1 < C) → C < D → (D == sysModules) = false → o.IsDictOf (strKind prog w) ex → Fr h₀ L g m → Fr g L' h₁ (fun y => (front ++ [(nr, Value.ref C)] ++ [(nm, Value.ref D)]).reverse.lookup y) →
      News g L' h₁ ((D, o) :: (C, ({ cls := .type "tuple", data := .seq vs.toArray } : Obj)) :: news) → Below A base (env :: outer) g → K.In g → Top p loose mean mg mb g → D < L' →
      _root_.PySem.wpAt (model prog w) (A.deeper (ksEnv qual scope L' f cdv cc)) (.func body (ksEnv qual scope L' f cdv cc)) (execs body (ksEnv qual scope L' f cdv cc))
        (fun fl s' => LeaveK h₀ L m g R (match fl with | .ret v => v | _ => .none) s')
        (fun e s' => wpAny (model prog w) (A.deeper (ksEnv qual scope L' f cdv cc)) (leaving (ksEnv qual scope L' f cdv cc) e) (fun _ s'' => R (.error e) s'') (fun e' s'' => R (.error e') s'') s')
        { s with heap := h₁, toks := tk })
    (hco : scope.isCoroutine = false) (hgen : scope.isGenerator = false) (hk : scope.kind = .function)
    (hcell : ∀ x ∈ scope.names, x.2 ≠ .cell) : codeAny (model prog w) A (.call (.ref f) args) R s := by
  have hn' := kwDistinct_nodup hn
  refine codeAny_call_function (fd := ksFn name qual params body scope dV kV doc pm an cdv ct cc) (body := body) hroom ((X₀.keeps F.keep) _ _ ho) rfl hco hgen rfl (codeRec_of (X₀.keeps F.keep) hcd) ?_
  refine wp_of_peekA (o := ({ cls := .type "tuple", data := .seq vs.toArray } : Obj)) F N (X₀.keeps F.keep) rfl _ g₁ hp fun h' F' N' l => ?_
  refine wp_of_peekA (s := { s with heap := h' }) (o := dictOf [] 0) F' N' (X₀.keeps F'.keep) rfl _ (g₂ s.heap.objs.size) (hp₂ _) fun h'' F'' N'' l' => ?_
  rw [hk₂]
  refine wpAny_bind (kp_fill ex { s with heap := h'' } [] 0 F'' N'' (fun p hp => Nat.ne_of_lt (l' p hp)) (fun _ he => nomatch he) (fun _ he => nomatch he) hn' fun h₃ F₃ N₃ => wpAny_pure ?_)
  exact frame_at (cl := [("__class__", cc)]) (s := { s with heap := h₃, toks := s.toks + ex.length }) B F₃ N₃ T.nolimit hA hf hke (hloc _ _)
    (fun g L' h₁ FG FL NG BG st ll => h _ _ _ g L' h₁ _ l (l' _ (.head _)) (F'.notModules (modules_low T.nolimit)) (kp_isDict s.toks (0 + ex.length) hn') FG FL NG BG (X₀.keeps st) (T.keeps st) (ll _ (.head _))) hcell hk
end
section
variable {prog : Program} {w : World} {A : Around} {E : Value → Shared → Prop} {s : Shared} {d : Addr}
theorem b_init (X : NoOrd prog w s d) {Q : Value → Shared → Prop} (h : Q .none s) :
    wpAny (model prog w) A (Builtin.«dict.__init__» ⟨[.ref d], []⟩) (fun fin s' => ∃ v, fin = .done (.ret v) ∧ Q v s') E s := by
  unfold Builtin.«dict.__init__»
  refine wpAny_bind ?_
  unfold Builtin.Dict.selfAndRest
  refine wpAny_bind (X _ _ _ _ _ _ ?_)
  refine wpAny_bind (wpAny_pure ?_)
  refine wpAny_pure ?_
  show wpAny _ _ (Builtin.Dict.addKeywords d [] >>= fun _ => ret .none) _ _ s
  unfold Builtin.Dict.addKeywords
  rw [List.forIn_nil]
  exact wpAny_bind (wpAny_pure (wpAny_pure ⟨_, rfl, h⟩))
theorem merge_nil {a t : Addr} {ep : Nat} {Q : Unit → Shared → Prop} (ha : s.heap.get? a = some (dictOf [] ep)) (ht : s.heap.get? t = some (dictOf [] 0)) (lo : (a == sysModules) = false) (h : Q () s) :
    wpAny (model prog w) A (mergeMapping t (.ref a) true) Q E s := by
  have hT : s.TypeIs (.ref a) "dict" := ⟨_, ha, rfl⟩
  have f1 := PySem.F.slot_dict_iter.lookup
  have f2 : isSubtype (.type "dict") (.type "dict") = pure true := by rw [isSubtype_type]; kernel_rfl
  unfold mergeMapping
  repeat (any_goals (first | assumption | (with_reducible refine wpAny_dictEntries ht rfl ?_) | (with_reducible refine wpAny_dictEntries ha rfl ?_) | (with_reducible refine wpAny_dictEpoch ha rfl ?_) | (with_reducible refine wpAny_isInstance hT f2 ?_) | (with_reducible refine wpAny_specialOf hT f1 ?_) | (simp only [lo, Bool.false_eq_true, if_false]) | wp_step))
  all_goals trace_state
end
end Mine
end
section
open PySem PySem.W PySem.Calls PyProof.Rows
set_option Elab.async false
set_option maxRecDepth 100000
set_option maxHeartbeats 400000
set_option linter.unusedVariables false
set_option pp.maxSteps 3000
set_option pp.deepTerms false
set_option pp.deepTerms.threshold 6
namespace Mine
section
variable {prog : Program} {w : World} {A : Around} {E : Value → Shared → Prop} {h : Heap} {g : Array GenState} {d : Drawn} {t : Nat} {os : OsState} {x C f : Addr} {ox : Obj} {odx : Option Obj} {K : Frag} {name : Str}
theorem ga_fn_cd {tk : Tok} {Q : Fin → Shared → Prop} (X : K.In h) (I : PySem.W.InstAt h x ox C odx) (hf : findObj K C odx name = some (.bind (.builtin "function.__get__") (.ref f))) (ht : typeIn K (.ref f) = some (.type "function"))
    (hq : Q (.done (.ret (.ref h.objs.size))) ⟨h.push (methodObj (.ref f) (.ref x)), g, d, t, os⟩) :
    wpAny (model prog w) A (Builtin.«object.__getattribute__» ⟨[.ref x, .str name tk], []⟩) Q E ⟨h, g, d, t, os⟩ := by
  have L0 := I.type (M := model prog w)
  have L1 := looks_find (M := model prog w) X I hf
  unfold Builtin.«object.__getattribute__»
  repeat (any_goals (first | assumption | (with_reducible refine Looks.at L0 ?_) | (with_reducible refine Looks.at L1 ?_) | (with_reducible refine wpAny_call (fn_get X ht ?_)) | wp_step))
theorem gab_fn_cd {e b : Bool} {tk : Tok} {Q : Value → Shared → Prop} (X : K.In h) (I : PySem.W.InstAt h x ox C odx) (hga : findIn K (.ref C) "__getattribute__" = some (some (.builtin "dict.__getattribute__"))) (hk : findIn K (.ref C) "__getattr__" = some none) (hd : subIn K (.ref C) (.type "dict") = some true)
    (hf : findObj K C odx name = some (.bind (.builtin "function.__get__") (.ref f))) (ht : typeIn K (.ref f) = some (.type "function"))
    (hq : Q (.ref h.objs.size) ⟨h.push (methodObj (.ref f) (.ref x)), g, d, t, os⟩) :
    wpAny (model prog w) A (getAttrBy (.ref x) (.str name tk) b e) Q E ⟨h, g, d, t, os⟩ := by
  have L0 := I.type (M := model prog w)
  have L1 := looks_findIn (M := model prog w) X hga
  have L3 := looks_findIn (M := model prog w) X hk
  have f3 := F.slot_dict_getattribute.bind (.ref x)
  unfold getAttrBy
  refine wpAny_holding (wpAny_bind (L0.at (wpAny_bind (L1.at ?_))))
  unfold getAttrByItsOwn
  refine wpAny_bind (show wpAny _ _ (hookBefore (.ref C)) _ _ _ from L3.at ?_)
  refine wpAny_bind (wpAny_attempt (wpAny_holding ?_))
  show wpAny _ _ (callGetattribute (.ref x) (.str name tk) (.builtin "dict.__getattribute__") e) _ _ _
  unfold callGetattribute
  rw [if_neg (by cases e <;> decide)]
  unfold boundAndCalled
  refine wpAny_bind (wpAny_of_eq f3 ?_)
  refine call_cd (s := ⟨h, g, d, t, os⟩) (id := "dict.__getattribute__") (rest := [.str name tk]) X I hd (.inl ga_kind) ga_split (F.args_dict_getattribute_2 _ _) F.slot_dict_getattribute.plain F.entry_dict_ga ?_
  exact ga_fn_cd X I hf ht ⟨_, rfl, handed_on rfl hq⟩
end
section
variable {prog : Program} {w : World} {A : Around} {E : Value → Shared → Prop} {s : Shared} {K : Frag} {h₀ : Heap} {L x C f : Addr} {m : Str → Option Value} {news : List (Addr × Obj)} {ox : Obj} {odx : Option Obj} {name : Str}
theorem attr_fn_cd {e : Bool} {Q : Value → Shared → Prop} (F : Fr h₀ L s.heap m) (X₀ : K.In h₀) (N : News h₀ L s.heap news) (I : PySem.W.InstAt s.heap x ox C odx) (hga : findIn K (.ref C) "__getattribute__" = some (some (.builtin "dict.__getattribute__"))) (hk : findIn K (.ref C) "__getattr__" = some none) (hd : subIn K (.ref C) (.type "dict") = some true)
    (hf : findObj K C odx name = some (.bind (.builtin "function.__get__") (.ref f))) (ht : typeIn K (.ref f) = some (.type "function"))
    (h : ∀ q h', Fr h₀ L h' m → News h₀ L h' ((q, methodObj (.ref f) (.ref x)) :: news) → (∀ p ∈ news, p.1 < q) → Q (.ref q) { s with heap := h', toks := s.toks + 1 }) :
    wpAny (model prog w) A (getAttr (.ref x) name e) Q E s := by
  obtain ⟨F', N', l'⟩ := ks_newsPush (s := s) (o := methodObj (.ref f) (.ref x)) F N rfl (Heap.get?_push_at rfl rfl) (fun b o e => Heap.get?_push_of_some _ e)
  have X := X₀.keeps F.keep
  obtain ⟨hh, g, d, t, os⟩ := s
  unfold getAttr
  refine wpAny_bind (wpAny_mkText ?_)
  exact gab_fn_cd X I hga hk hd hf ht (h _ _ F' N' l')
theorem merged_nil {fv : Value} {ey : Sem Value} {pos : Pos} {D : Addr} {ep : Nat} {Q : Addr → Shared → Prop} (F : Fr h₀ L s.heap m) (N : News h₀ L s.heap news) (hD : (D, dictOf [] ep) ∈ news) (lo : (D == sysModules) = false)
    (ev : ∀ {s' : Shared} {Q' : Value → Shared → Prop} {E' : Value → Shared → Prop}, Fr h₀ L s'.heap m → Q' (.ref D) s' → wpAny (model prog w) A ey Q' E' s')
    (h : ∀ t h', Fr h₀ L h' m → News h₀ L h' ((t, dictOf [] 0) :: news) → (∀ p ∈ news, p.1 < t) → Q t { s with heap := h' }) :
    wpAny (model prog w) A (mergedKeywords fv [(none, do let v ← ey; standAt pos; pure v)]) Q E s := by
  unfold mergedKeywords
  refine wpAny_bind (wpAny_alloc ?_)
  have hAB := ks_newsPush (s := s) (o := dictOf [] 0) F N rfl (Heap.get?_push_at rfl rfl) (fun b o e => Heap.get?_push_of_some _ e)
  have F' := hAB.1
  have N' := hAB.2.1
  have l' := hAB.2.2
  have hm : ∀ {Q' : Unit → Shared → Prop} {E' : Value → Shared → Prop}, Q' () { s with heap := s.heap.push (dictOf [] 0) } → wpAny (model prog w) A (mergeMapping s.heap.objs.size (.ref D) true) Q' E' { s with heap := s.heap.push (dictOf [] 0) } := fun q => merge_nil (N' _ (List.Mem.tail _ hD)).1 (N' _ (List.Mem.head _)).1 lo q
  repeat (any_goals (first | assumption | (with_reducible refine ev F' ?_) | (with_reducible refine hm ?_) | (refine hm ?_) | (with_reducible refine wpAny_tryCatch ?_) | (refine wpAny_tryCatch ?_) | (with_reducible refine wpAny_standAt ?_) | (with_reducible refine wpAny_bind ?_) | (with_reducible refine wpAny_holding ?_) | (with_reducible refine wpAny_onRaise ?_) | (with_reducible refine wpAny_pure ?_) | rw [List.forIn_cons] | rw [List.forIn_nil] | wp_step))
  exact h _ _ F' N' l'
/-- f(*a, **k): a names a tuple, k an empty dict -/
theorem both_args {fv : Value} {ex ey : Sem Value} {pos : Pos} {C D : Addr} {ep : Nat} {vs : List Value} {Q : Args → Shared → Prop} (F : Fr h₀ L s.heap m) (N : News h₀ L s.heap news) (hC : (C, ({ cls := .type "tuple", data := .seq vs.toArray } : Obj)) ∈ news) (hD : (D, dictOf [] ep) ∈ news) (lo : (D == sysModules) = false) (hz : vs.length ≤ sizeLine)
    (ea : ∀ {s' : Shared} {Q' : Value → Shared → Prop} {E' : Value → Shared → Prop}, Fr h₀ L s'.heap m → Q' (.ref C) s' → wpAny (model prog w) A ex Q' E' s')
    (ev : ∀ {s' : Shared} {Q' : Value → Shared → Prop} {E' : Value → Shared → Prop}, Fr h₀ L s'.heap m → Q' (.ref D) s' → wpAny (model prog w) A ey Q' E' s')
    (h : ∀ h', Fr h₀ L h' m → News h₀ L h' news → Q ⟨vs, []⟩ { s with heap := h' }) :
    wpAny (model prog w) A (evalArgs fv true [(true, do let v ← ex; standAt pos; pure v)] [(none, do let v ← ey; standAt pos; pure v)]) Q E s := by
  unfold evalArgs
  have st : ∀ {t h'}, Fr h₀ L h' m → News h₀ L h' ((t, dictOf [] 0) :: news) → StarOf (model prog w) A E (.ref C) (fun here s₂ => wpAny (model prog w) A (keywordsIn fv t) (fun kw s₃ => Q ⟨here, kw⟩ s₃) E s₂) { s with heap := h' } := fun F' N' => by
    refine star_seq (s := { s with heap := _ }) (ws := vs) (E := E) F' N' (List.Mem.tail _ hC) rfl rfl (.inr rfl) (by simp) (by simpa using hz) fun h'' F'' N'' => ?_
    unfold keywordsIn
    refine wpAny_bind (wpAny_dictEntries (N'' _ (List.Mem.head _)).1 rfl ?_)
    exact wpAny_bind (wpAny_pure (wpAny_pure (h _ F'' (cb_drop N'' fun p hp => List.Mem.tail _ hp))))
  refine wpAny_bind ?_
  refine wpAny_bind ?_
  refine ea F ?_
  refine wpAny_bind (wpAny_standAt (wpAny_pure ?_))
  first | refine wpAny_bind (wpAny_pure ?_) | refine wpAny_pure ?_
  refine wpAny_holding ?_
  dsimp only
  rw [if_neg (by exact Bool.false_ne_true)]
  refine wpAny_bind (merged_nil F N hD lo ev fun t h' F' N' l' => ?_)
  have z := st F' N'
  unfold StarOf at z
  refine wpAny_bind (wpAny_bind (wpAny_mono z (fun b s₂ h₂ => ?_) fun _ _ x => x))
  obtain ⟨rfl, h₂⟩ := h₂
  simp only [Bool.false_eq_true, if_false]
  refine wpAny_holding (wpAny_mono h₂ (fun here s₃ h₃ => ?_) fun _ _ x => x)
  exact wpAny_bind (wpAny_holding (wpAny_mono h₃ (fun kw s₄ h₄ => wpAny_pure h₄) fun _ _ x => x))
theorem call_both {q f : Addr} {self : Value} {ex ey : Sem Value} {pos : Pos} {C D : Addr} {ep : Nat} {vs : List Value} {Q : Value → Shared → Prop} (X₀ : K.In h₀) (hf : fnIn K f = true) (F : Fr h₀ L s.heap m) (N : News h₀ L s.heap news) (hq : (q, methodObj (.ref f) self) ∈ news) (hC : (C, ({ cls := .type "tuple", data := .seq vs.toArray } : Obj)) ∈ news) (hD : (D, dictOf [] ep) ∈ news) (lo : (D == sysModules) = false) (hz : vs.length ≤ sizeLine)
    (ea : ∀ {s' : Shared} {Q' : Value → Shared → Prop} {E' : Value → Shared → Prop}, Fr h₀ L s'.heap m → Q' (.ref C) s' → wpAny (model prog w) A ex Q' E' s')
    (ev : ∀ {s' : Shared} {Q' : Value → Shared → Prop} {E' : Value → Shared → Prop}, Fr h₀ L s'.heap m → Q' (.ref D) s' → wpAny (model prog w) A ey Q' E' s')
    (h : ∀ h', Fr h₀ L h' m → News h₀ L h' news → codeAny (model prog w) A (.call (.ref f) ⟨self :: vs, []⟩) (fun r s' => match r with | .ok (.ret v) => Q v s' | .ok _ => False | .error e => E e s') { s with heap := h' }) :
    wpAny (model prog w) A (callWith pos (.ref q) [] [(true, do let v ← ex; standAt pos; pure v)] [(none, do let v ← ey; standAt pos; pure v)]) Q E s := by
  unfold callWith
  refine wpAny_bind (wpAny_holding (both_args F N hC hD lo hz ea ev fun h' F' N' => wpAny_bind (wpAny_standAt ?_)))
  obtain ⟨k, hk', L⟩ := keeps_M (M := model prog w) hf h' ⟨(N' _ hq).1, X₀.keeps F'.keep⟩
  have hc : wpAny (model prog w) A (call (.ref q) ([] ++ vs) []) Q E { s with heap := h' } := wpAny_call (ks_codeAny_call_bound (N' _ hq).1 (h h' F' N'))
  refine wpAny_bind (L.here ?_)
  have tail : ∀ {t : Sem Value}, wpAny (model prog w) A t Q E { s with heap := h' } → wpAny (model prog w) A (t >>= fun r => holding [r] point >>= fun _ => pure r) Q E { s with heap := h' } :=
    fun ht => wpAny_bind (wpAny_mono ht (fun r s₂ hr => wpAny_bind (wpAny_holding (wpAny_point (wpAny_pure hr)))) fun _ _ x => x)
  have marked (mk : Value) : wpAny (model prog w) A (callMarked mk (.ref q) ([] ++ vs) []) Q E { s with heap := h' } := by unfold callMarked; exact Calls.wpAny_keep hc
  rcases hk' with rfl | rfl | rfl <;> dsimp only <;> first | exact tail (marked _) | exact tail (wpAny_operating hc)
end
section
variable {prog : Program} {w : World} {A : Around} {E : Value → Shared → Prop} {s : Shared} {env : Env}
theorem eval_both {o a k : Str} {po ap sp kp kpos apos pos : Pos} {name : Str} {Q : Value → Shared → Prop}
    (h : wpAny (model prog w) A (eval (.Name o po) env) (fun ov s₁ => wpAny (model prog w) A (getAttr ov name true) (fun f s₂ => wpAny (model prog w) A (callWith pos f [] [(true, do let v ← eval (.Name a ap) env; standAt pos; pure v)] [(none, do let v ← eval (.Name k kp) env; standAt pos; pure v)]) Q E s₂) E s₁) E s) :
    wpAny (model prog w) A (eval (.Call (.Attribute (.Name o po) name apos) [.Starred (.Name a ap) sp] [⟨none, .Name k kp, kpos⟩] pos) env) Q E s := by
  have he : eval (.Call (.Attribute (.Name o po) name apos) [.Starred (.Name a ap) sp] [⟨none, .Name k kp, kpos⟩] pos) env = (do
      let ov ← eval (.Name o po) env
      standAt apos.atName
      let (f, first) ← holding [ov] (do let v ← getAttr ov name true; pure (v, ([] : List Value)))
      callWith pos f first [(true, do let v ← eval (.Name a ap) env; standAt pos; pure v)] [(none, do let v ← eval (.Name k kp) env; standAt pos; pure v)]) := by rfl
  rw [he]
  exact wpAny_bind (wpAny_mono h (fun ov s₁ h₁ => wpAny_bind (wpAny_standAt (wpAny_bind (wpAny_holding (wpAny_bind (wpAny_mono h₁ (fun f s₂ h₂ => wpAny_pure h₂) fun _ _ x => x)))))) fun _ _ x => x)
end
end Mine
end
section
open PySem PySem.W PySem.Calls PyProof.Rows
set_option Elab.async false
set_option maxRecDepth 100000
set_option maxHeartbeats 400000
set_option linter.unusedVariables false
set_option pp.maxSteps 3000
set_option pp.deepTerms false
set_option pp.deepTerms.threshold 6
namespace Mine
noncomputable def makesD (K : Frag) (C : Addr) : Bool := match K.lookup C with
  | some ⟨_, _, .cls cd, sl⟩ => !cd.abstract && !cd.hasDel && (sl.toList[4]?).join == some (.builtin "dict.__new__") && cd.mro == [.ref C, .type "dict", .type "object"] &&
      specialIn K (.ref C) "__call__" == some (some (.builtin "type.__call__")) && instIn K (.ref C) (.type "type") == some true
  | _ => false
theorem kf_makes {P} : makesD (Mine.hd.heap_39 P) 170 = true := by kernel_rfl
structure MadeD (M : Model) (h : Heap) (C : Addr) : Prop where
  obj : ∃ oc od cd sl, h.get? C = some ⟨oc, od, .cls cd, sl⟩ ∧ cd.abstract = false ∧ cd.hasDel = false ∧ cd.mro.isEmpty = false ∧ cd.mro = [.ref C, .type "dict", .type "object"]
  made : Looks M h (Bind.madeBy (.ref C)) (some "dict.__new__")
  base : Looks M h (Bind.staticBase (.ref C)) (.ref C)
  self : Looks M h (isSubtype (.ref C) (.ref C)) true
  top : Looks M h (isSubtype (.ref C) (.type "dict")) true
  call : Looks M h (specialOf (.ref C) "__call__") (some (.builtin "type.__call__"))
  typ : Looks M h (isInstance (.ref C) (.type "type")) true
theorem made_of {K : Frag} {M : Model} {h : Heap} (X : K.In h) {C : Addr} (e : makesD K C = true) : MadeD M h C := by
  unfold makesD at e
  split at e
  · rename_i oc od cd sl ho
    simp only [Bool.and_eq_true, Bool.not_eq_true', beq_iff_eq] at e
    obtain ⟨⟨⟨⟨⟨e1, e2⟩, e3⟩, e5⟩, e7⟩, e8⟩ := e
    have e4 : cd.mro.isEmpty = false := by rw [e5]; rfl
    have hc : clsIn K C = some cd := by unfold clsIn; rw [ho]
    have hm : Looks M h (mroOf (.ref C)) cd.mro := (looks_clsIn X hc).andThen .now
    have made : Looks M h (Bind.madeBy (.ref C)) (some "dict.__new__") := by
      intro A Q E s k q
      unfold Bind.madeBy
      refine wpAny_bind (hm A _ E s k ?_)
      rw [e5, List.forIn_cons]
      refine wpAny_bind (wpAny_bind (wpAny_bind (wpAny_bind (wpAny_loadPart (k _ _ (X _ _ ho)) (wpAny_pure ?_)))))
      rw [← Array.getElem?_toList, e3]
      exact wpAny_pure (wpAny_pure (wpAny_pure q))
    refine ⟨⟨oc, od, cd, sl, X _ _ ho, e1, e2, e4, e5⟩, made, ?_, looks_mroIn X ?_, looks_mroIn X ?_, looks_specialIn X e7, looks_instIn X e8⟩
    · intro A Q E s k q
      unfold Bind.staticBase
      refine wpAny_bind (hm A _ E s k ?_)
      rw [e5, List.forIn_cons]
      exact wpAny_bind (wpAny_bind (wpAny_bind (made A _ E s k (wpAny_pure (wpAny_pure (wpAny_pure q))))))
    · unfold mroIn; rw [hc, Option.bind_some, if_neg (by rw [e4]; decide), e5]; simp
    · unfold mroIn; rw [hc, Option.bind_some, if_neg (by rw [e4]; decide), e5]; simp
  · cases e
theorem dn_kind : builtinKind "dict.__new__" = some .builtinFn := by kernel_rfl
theorem dn_split : splitId "dict.__new__" = some ("dict", "__new__") := by kernel_rfl
theorem dn_plain : plainId "dict.__new__" = true := by decide +kernel
theorem dn_entry : entryFor table "dict.__new__" = some Builtin.«dict.__new__» := entryFor_of_tree (by kernel_rfl)
theorem dn_args (a b : Value) : (match Manifest.signature? "dict.__new__" with | some sig => Bind.checkArgs "dict.__new__" sig ⟨[a, b], []⟩ | none => pure ()) = pure () := by kernel_rfl
section
variable {prog : Program} {w : World} {A : Around} {K : Frag} {C : Addr} {R : Result → Shared → Prop} {h : Heap} {g : Array GenState} {d : Drawn} {t : Nat} {os : OsState}
theorem check_new {M : Model} {E : Value → Shared → Prop} {v : Value} {Q : Unit → Shared → Prop} (Y : MadeD M h C) (q : Q () ⟨h, g, d, t, os⟩) : wpAny M A (checkBuiltinCall "dict.__new__" ⟨[.ref C, v], []⟩) Q E ⟨h, g, d, t, os⟩ := by
  obtain ⟨⟨oc, od, cd, sl, hC, e1, e2, e4, e5⟩, made, base, self, top, call, typ⟩ := Y
  have ha := dn_args (.ref C) v
  have hit : Looks M h (isType (.ref C)) true := by
    intro A Q E s k q
    unfold isType loadHead
    exact wpAny_bind (wpAny_loadPart (k _ _ hC) (wpAny_pure q))
  simp only [checkBuiltinCall, dn_kind, dn_split]
  repeat (first | simp only [bne_self_eq_false, beq_self_eq_true, Bool.false_eq_true, if_false, if_true, Bool.not_true] | lk)
  exact q
theorem new_cd {v : Value} (Y : MadeD (model prog w) h C)
    (hq : R (.ok (.ret (.ref (h.objs.size + 1)))) ⟨(h.push emptyDict).push { cls := .ref C, dict := some h.objs.size, data := .dict #[] }, g, d, t, os⟩) :
    codeAny (model prog w) A (.call (.builtin "dict.__new__") ⟨[.ref C, v], []⟩) R ⟨h, g, d, t, os⟩ := by
  refine codeAny_call_builtin dn_plain dn_entry (check_new Y ?_)
  obtain ⟨⟨oc, od, cd, sl, hC, e1, e2, e4, e5⟩, made, base, self, top, call, typ⟩ := Y
  have hit : Looks (model prog w) h (isType (.ref C)) true := by
    intro A Q E s k q
    unfold isType loadHead
    exact wpAny_bind (wpAny_loadPart (k _ _ hC) (wpAny_pure q))
  have hm : Looks (model prog w) h (mroOf (.ref C)) cd.mro := ((Looks.ld (part := none) hC).andThen .now).andThen .now
  unfold Builtin.«dict.__new__»
  dsimp only
  refine wpAny_bind (hit.at ?_)
  simp only [Bool.not_true, Bool.false_eq_true, if_false]
  refine wpAny_bind (top.at ?_)
  simp only [Bool.not_true, Bool.false_eq_true, if_false]
  refine wpAny_bind (hm.at ?_)
  rw [e5]
  split
  · rename_i hh
    first | (simp at hh; done) | exact absurd hh (by simp)
  refine wpAny_bind (wpAny_alloc (wpAny_bind ?_))
  show wpAny _ _ (newObjAsIs _ _ _) _ _ _
  unfold newObjAsIs classHasDel
  refine wpAny_bind (wpAny_alloc (wpAny_bind (wpAny_bind (wpAny_load (Heap.get?_push_of_some _ (Heap.get?_push_of_some _ hC)) (wpAny_pure ?_)))))
  rw [e2]
  refine wpAny_pure (wpAny_pure ?_)
  show R _ _
  rw [Heap.size_push]
  exact hq
theorem make_core_cd {v init : Value} (Y : MadeD (model prog w) h C) (hi : Looks (model prog w) h (typeLookup (.ref C) "__init__") (some init))
    (hb : ∀ self, Looks (model prog w) h (bindSpecial init self) (init, [self]))
    (hq : codeAny (model prog w) (A.under (.builtin "type.__call__" ⟨[.ref C, v], []⟩)) (.call init ⟨[.ref (h.objs.size + 1), v], []⟩) (InitBack (h.objs.size + 1) R) ⟨(h.push emptyDict).push { cls := .ref C, dict := some h.objs.size, data := .dict #[] }, g, d, t, os⟩) :
    codeAny (model prog w) A (.call (.ref C) ⟨[v], []⟩) R ⟨h, g, d, t, os⟩ := by
  have Y' := Y
  obtain ⟨⟨oc, od, cd, sl, hC, e1, e2, e4, e5⟩, made, base, self, top, call, typ⟩ := Y
  refine codeAny_of_tree ?_
  refine nd_load hC ?_
  show wpAny _ _ (callAny.viaDunder (.ref C) _) _ _ _
  unfold callAny.viaDunder
  refine wpAny_bind (call.at ?_)
  dsimp only
  rw [tc_bind]
  refine wpAny_bind (wpAny_pure (wpAny_bind (wpAny_pure ?_)))
  refine wpAny_pure (a := Fin.again (.call (.builtin "type.__call__") ⟨[.ref C, v], []⟩)) (And.intro rfl ?_)
  with_reducible refine codeAny_call_builtin_at ?qa entry_typeCall ?qb
  case qa => exact Code.quiet_builtin _ (by decide +kernel)
  with_reducible refine check_slot tc_kind tc_split typ ?qt ?qu
  case qt => exact tc_args _ _ _
  unfold Builtin.«type.__call__»
  have hm : Looks (model prog w) h (mroOf (.ref C)) cd.mro := ((Looks.ld (part := none) hC).andThen .now).andThen .now
  repeat (first | simp only [e4, Bool.false_eq_true, if_false] | with_reducible refine wpAny_call ?_ | lk)
  refine new_cd Y' ?_
  have k : ∀ b o, h.get? b = some o → ((h.push emptyDict).push { cls := .ref C, dict := some h.objs.size, data := .dict #[] }).get? b = some o := fun b o e => Heap.get?_push_of_some _ (Heap.get?_push_of_some _ e)
  have hx : ((h.push emptyDict).push { cls := .ref C, dict := some h.objs.size, data := .dict #[] }).get? (h.objs.size + 1) = some { cls := .ref C, dict := some h.objs.size, data := .dict #[] } := by heap_get
  have t1 : Looks (model prog w) ((h.push emptyDict).push { cls := .ref C, dict := some h.objs.size, data := .dict #[] }) (typeOf (.ref (h.objs.size + 1))) (.ref C) := (Looks.ld hx).andThen .now
  have s1 := self.keeps k
  have i1 := hi.keeps k
  have b1 := (hb (.ref (h.objs.size + 1))).keeps k
  unfold isInstance callSpecial? specialOf
  repeat (first | with_reducible refine wpAny_call ?_ | lk)
  refine codeAny_mono hq fun r s' z => ?_
  rcases r with e | (v | _ | _ | _) <;> first | exact z | exact z.elim | skip
  obtain ⟨rfl, z⟩ := z
  exact wpAny_pure (wpAny_pure z)
end
section
variable {prog : Program} {w : World} {A : Around} {K : Frag} {C x : Addr} {s : Shared} {h₀ : Heap} {L : Addr} {m : Str → Option Value} {news : List (Addr × Obj)} {R : Result → Shared → Prop}
theorem make_cd {v : Value} {fI : Addr} (F : Fr h₀ L s.heap m) (N : News h₀ L s.heap news) (X : K.In s.heap) (hm : makesD K 170 = true)
    (hi : findIn K (.ref 170) "__init__" = some (some (.ref fI))) (hf : typeIn K (.ref fI) = some (.type "function"))
    (h : ∀ x dx h', Fr h₀ L h' m → News h₀ L h' ((x, cdObj dx [] 0) :: (dx, dictOf [] 0) :: news) → (∀ p ∈ news, p.1 < dx) → dx < x →
      codeAny (model prog w) (A.under (.builtin "type.__call__" ⟨[.ref 170, v], []⟩)) (.call (.ref fI) ⟨[.ref x, v], []⟩) (InitBack x R) { s with heap := h' }) :
    codeAny (model prog w) A (.call (.ref 170) ⟨[v], []⟩) R s := by
  obtain ⟨hh, g, d, t, os⟩ := s
  refine make_core_cd (made_of X hm) (looks_findIn X hi) (fun self => bind_fn X self hf) (h _ hh.objs.size _ ((F.push _).push _) ?_ (fun p hp => Heap.lt_size (N p hp).1) (Nat.lt_succ_self _))
  have := (N.push F emptyDict).push (F.push _) (cdObj hh.objs.size [] 0)
  rwa [Heap.size_push] at this
theorem kf_init {P} : findIn (Mine.hd.heap_39 P) (.ref 170) "__init__" = some (some (.ref 57)) := by kernel_rfl
theorem kf_init_ty {P} : typeIn (Mine.hd.heap_39 P) (.ref 57) = some (.type "function") := by kernel_rfl
end
end Mine
end
section
open PySem PySem.W PySem.Calls PyProof.Rows
set_option Elab.async false
set_option maxRecDepth 100000
set_option maxHeartbeats 1000000
set_option linter.unusedVariables false
set_option pp.maxSteps 3000
set_option pp.deepTerms false
set_option pp.deepTerms.threshold 6
namespace Mine
section
variable {w : World} {p : Program} {loose : List Str} {mean : ExcName → Option Value} {mg mb : Str → Option Value} {dp un : Nat} {gd : Option (List Code)} {cn : Str} {cs : Scope} {a : Addr} {ccd : Value} {cl : List (Str × Addr)} {outer : List Env} {A₀ : Around} {base h₀ : Heap} {L : Addr} {m : Str → Option Value} {news : List (Addr × Obj)} {s : Shared} {Q E : Value → Shared → Prop}
theorem kf_upd {P} : findObj (Mine.hd.heap_39 P) 170 (some (dictOf [] 0)) (Str.ofString "update") = some (.bind (.builtin "function.__get__") (.ref 139)) := by kernel_rfl
theorem kf_upd_ty {P} : typeIn (Mine.hd.heap_39 P) (.ref 139) = some (.type "function") := by kernel_rfl
theorem init_code {news' : List DictEntry → Nat → List (Addr × Obj)} {x dx : Addr} {es : List DictEntry} {n : Nat} {D : List (Str × Value)} {d : Addr} {c : Value} {od : Option Addr} {esM : List DictEntry} {nM : Nat} {KV : List (Str × Value)} (B : Below A₀ base outer h₀) (F : Fr h₀ L s.heap m) (X : (Mine.hd.heap_39 w.params).In h₀) (N : News h₀ L s.heap news) (T : Top p loose mean mg mb h₀) (hk : cs.kind = .function) (hdp : dp + 40 < recursionLimit) (hu : un + 320 < cLine) (hx : (x, cdObj dx es n) ∈ news) (hdx : (dx, dictOf [] 0) ∈ news) (U : ∀ es' n', Upd x (cdObj dx es n) (cdObj dx es' n') news (news' es' n')) (H : Ent PySem.Challenge.rw_be0018_01.row.prog w es D) (S : Src news d c od esM nM) (hdm : (d == sysModules) = false) (hne : d ≠ x) (hne2 : od ≠ some x) (hdx2 : dx ≠ x) (hKV : KeysV esM KV) (hz : D.length + esM.length < 64)
    (ret : ∀ es' n' h' tk', Ent PySem.Challenge.rw_be0018_01.row.prog w es' (addAll D KV) → Fr h₀ L h' m → News h₀ L h' (news' es' n') → Q .none { s with heap := h', toks := tk' }) :
    codeAny (model PySem.Challenge.rw_be0018_01.row.prog w) (ktrTop dp un gd cn cs L a ccd cl outer) (.call (.ref 57) ⟨[.ref x, .ref d], []⟩) (fun r s' => match r with | .ok (.ret v) => Q v s' | .ok _ => False | .error e => E e s') s := by
  revert X
  k_fill
  intro X
  refine' super_both (K := Mine.hd.heap_39 w.params) B F X N T rfl rfl hk ?k6 ?k7 ?k8 ?kV ?kX ?kQ ?kM ?kN ?kR ?kP ?kS ?kT ?kB ?_ ?c2 ?c3 ?c4 ?c5
  (case k6 => k_is)
  (case k7 => k_is)
  (case k8 => show dp < recursionLimit; omega)
  (case kV => kp_lit)
  (case kX => kp_lit)
  (case kQ => exact rfl)
  (case kM => exact rfl)
  (case kN => exact rfl)
  (case kR => exact rfl)
  (case kP => exact rfl)
  (case kS => exact fun _ => rfl)
  (case kT => exact fun _ _ => rfl)
  (case kB => exact fun _ _ => locs rfl)
  (case c5 => decide)
  (case c2 => exact rfl)
  (case c3 => exact rfl)
  (case c4 => exact rfl)
  intro C1 D1 o1 g1 L1 h1 tk1 l1 l2 lo1 hs1 FG1 F1 N1 B1 X1 T1 l3
  obtain ⟨ep', rfl⟩ := dict_empty hs1
  clear hs1
  generalize hm1 : (fun y : Str => List.lookup y _) = m1 at F1
  have e1 : m1 ("self" : Str) = some (.ref x) := by rw [← hm1]; rfl
  have e2 : m1 (Str.ofString "args") = some (.ref C1) := by rw [← hm1]; rfl
  have e3 : m1 (Str.ofString "kwargs") = some (.ref D1) := by rw [← hm1]; rfl
  clear hm1
  show _root_.PySem.wpAt _ (ktrTop (dp + 1) (un + 3) gd _ _ L1 57 _ [("__class__", 45)] (envX cn cs L a ccd cl :: outer)) _ _ _ _ _
  refine ks_wpAt_execs_cons (ks_wpAt_Expr_any ?_)
  refine' super_get (dt := "wrapper_descriptor") F1 X1 N1 T1 (List.Mem.tail _ (List.Mem.tail _ hx)) (List.Mem.tail _ (List.Mem.tail _ hdx)) ?hf ?hp ?hv ?hcode ?a1 ?a2 ?a3 ?a4 (.inl ⟨rfl, rfl⟩) ?hm ty_init ?hn (by decide +kernel) (pl := pure false) ?he ?_
  (case hf => k_is)
  (case hp => exact rfl)
  (case hv => exact e1)
  (case hcode => kernel_rfl)
  (case a1 => exact rfl)
  (case a2 => exact rfl)
  (case a3 => exact rfl)
  (case a4 => exact rfl)
  (case hm => ks_is)
  (case hn => decide)
  (case he => exact rfl)
  intro so q h2 F2 N2 l4 l5
  have N3 : News g1 L1 h2 ((D1, dictOf [] ep') :: (C1, _) :: news) := fun p hp => N2 p (List.Mem.tail _ (List.Mem.tail _ hp))
  have hx2 := List.Mem.tail (q, bndObj "method-wrapper" "dict.__init__" x) (List.Mem.tail (so, ks_superObj 170 x 170) (List.Mem.tail (D1, dictOf [] ep') (List.Mem.tail (C1, ({ cls := .type "tuple", data := .seq #[.ref d] } : Obj)) hx)))
  refine callWith_B0 (N2 _ (List.Mem.head _)).1 (.inl rfl) ?_
  refine call_B (s := { s with heap := h2, toks := _ }) N2 (List.Mem.head _) (.inl rfl) (X1.keeps F2.keep) (inst_cd N2 hx2 (List.Mem.tail _ (List.Mem.tail _ (List.Mem.tail _ (List.Mem.tail _ hdx))))) kf_cls kf_type kf_module va_init (ao_init _) (ba_init _) pl_init en_init ?_
  refine b_init (noOrd_cd (X1.keeps F2.keep) (N2 _ hx2).1) ?_
  refine wpAt_of_wpAny (wpAny_execs_cons (wpAny_Expr_any (eval_both (nameX_L (s := { s with heap := h2, toks := _ }) F2 e1 ?_))))
  refine attr_fn_cd (s := { s with heap := h2, toks := _ }) (C := 170) (f := 139) F2 X1 N3 (inst_cd N2 hx2 (List.Mem.tail _ (List.Mem.tail _ (List.Mem.tail _ (List.Mem.tail _ hdx))))) kf_ga kf_hook kf_dict kf_upd kf_upd_ty fun q5 h5 F5 N5 l6 => ?_
  refine' call_both (s := { s with heap := h5, toks := _ }) (C := C1) (D := D1) (vs := [.ref d]) X1 ?k2 F5 N5 (List.Mem.head _) (List.Mem.tail _ (List.Mem.tail _ (List.Mem.head _))) (List.Mem.tail _ (List.Mem.head _)) lo1 (by rw [sizeLine_eq]; exact (by decide : 1 ≤ 16777216)) (fun F' q => wpAny_Name (wpAny_loadName_local rfl rfl F'.ns e2 q) rfl) (fun F' q => wpAny_Name (wpAny_loadName_local rfl rfl F'.ns e3 q) rfl) ?_
  (case k2 => k_is)
  intro h6 F6 N6
  refine update_code (s := { s with heap := h6, toks := _ }) (news' := news') B1 F6 X1 (cb_drop N6 fun p hp => ?_) T1 rfl (by omega) (by omega) hx hdx U H S hdm hne hne2 hdx2 hKV hz fun es' n' h9 tk9 H9 F9 N9 => ?_
  · exact List.Mem.tail _ (List.Mem.tail _ (List.Mem.tail _ hp))
  · exact wpAny_execs_nil (leaveK_ (s' := { s with heap := h9, toks := tk9 }) F9 N9 fun kF kN => ret es' n' _ _ H9 kF kN)
theorem tc_under {C : Addr} {v : Value} : (ktrTop dp un gd cn cs L a ccd cl outer).under (.builtin "type.__call__" ⟨[.ref C, v], []⟩) = ktrTop (dp + 1) (un + 1) gd cn cs L a ccd cl outer := by cases gd <;> rfl
theorem made_c {d : Addr} {c : Value} {od : Option Addr} {esM : List DictEntry} {nM : Nat} {KV : List (Str × Value)} (B : Below A₀ base outer h₀) (F : Fr h₀ L s.heap m) (X : (Mine.hd.heap_39 w.params).In h₀) (N : News h₀ L s.heap news) (T : Top p loose mean mg mb h₀) (hk : cs.kind = .function) (hdp : dp + 41 < recursionLimit) (hu : un + 340 < cLine) (S : Src news d c od esM nM) (hdm : (d == sysModules) = false) (hKV : KeysV esM KV) (hz : esM.length < 64)
    (ret : ∀ x dx es' n' h' tk', Ent PySem.Challenge.rw_be0018_01.row.prog w es' (addAll [] KV) → Fr h₀ L h' m → News h₀ L h' ((x, cdObj dx es' n') :: (dx, dictOf [] 0) :: news) → (∀ p ∈ news, p.1 < dx) → dx < x → Q (.ref x) { s with heap := h', toks := tk' }) :
    wpAny (model PySem.Challenge.rw_be0018_01.row.prog w) (ktrTop dp un gd cn cs L a ccd cl outer) (call (.ref 170) [.ref d]) Q E s := by
  refine wpAny_call (make_cd F N (X.keeps F.keep) kf_makes kf_init kf_init_ty fun x dx h' F' N' l lt => ?_)
  rw [tc_under]
  have hne : ∀ {es n}, ∀ p ∈ (dx, dictOf [] 0) :: news, p.1 ≠ (x, cdObj dx es n).1 := fun p hp => by
    rcases List.mem_cons.mp hp with rfl | hp
    · exact Nat.ne_of_lt lt
    · exact Nat.ne_of_lt (Nat.lt_trans (l p hp) lt)
  have hdx : d < x := Nat.lt_trans (l _ S.at_) lt
  have hodx : od ≠ some x := by
    cases S with
    | dict h => exact fun e => nomatch e
    | cd h1 h2 => exact fun e => by cases e; exact Nat.lt_irrefl _ (Nat.lt_trans (l _ h2) lt)
  have z := init_code (dp := dp + 1) (un := un + 1) (gd := gd) (cn := cn) (L := L) (a := a) (ccd := ccd) (cl := cl) (news' := fun es' n' => (x, cdObj dx es' n') :: (dx, dictOf [] 0) :: news) (Q := fun v s' => InitBack x (fun r s' => match r with | .ok (.ret v) => Q v s' | .ok _ => False | .error e => E e s') (.ok (.ret v)) s') (E := fun e s' => E e s') (s := { s with heap := h' })
    B F' X N' T hk (by omega) (by omega) (List.Mem.head _) (List.Mem.tail _ (List.Mem.head _)) (fun es' n' => .head fun p hp => hne (es := []) (n := 0) p hp) Ent.nil (Src.tail (Src.tail S)) hdm (Nat.ne_of_lt hdx) hodx (Nat.ne_of_lt lt) hKV (by simpa using hz)
    (fun es' n' h'' tk' H F'' N'' => ⟨rfl, ret x dx es' n' h'' tk' H F'' N'' l lt⟩)
  refine codeAny_mono z fun r s' z => ?_
  rcases r with e | (v | _ | _ | _) <;> first | exact z | exact z.elim
end
end Mine
end
section
open PySem PySem.W PySem.Calls PyProof.Rows
set_option Elab.async false
set_option maxRecDepth 100000
set_option maxHeartbeats 4000000
set_option linter.unusedVariables false
namespace Mine
noncomputable def nm8 : List Str := [Str.ofString "SUMMARY", Str.ofString "DTSTART", Str.ofString "UID", Str.ofString "X-A", Str.ofString "X-B", Str.ofString "RRULE", Str.ofString "ABC", Str.ofString "Z"]
noncomputable def pick (b : Nat → Bool) (i c : Nat) : Str := if b (i % 3) then Txt.lower ⟨#[c]⟩ else ⟨#[c]⟩
noncomputable def bits (q : Bool × Bool × Bool) (j : Nat) : Bool := if j = 0 then q.1 else if j = 1 then q.2.1 else q.2.2
theorem pick_bits (b : Nat → Bool) : pick b = pick (bits (b 0, b 1, b 2)) := by
  funext i c
  unfold pick
  have : i % 3 < 3 := Nat.mod_lt _ (by decide)
  generalize i % 3 = j at this
  rcases j with _ | _ | _ | j
  · rfl
  · rfl
  · rfl
  · exact absurd this (by omega)
noncomputable def eight : List (Bool × Bool × Bool) := [(false, false, false), (false, false, true), (false, true, false), (false, true, true), (true, false, false), (true, false, true), (true, true, false), (true, true, true)]
theorem mem_eight (q : Bool × Bool × Bool) : q ∈ eight := by
  obtain ⟨a, b, c⟩ := q
  cases a <;> cases b <;> cases c <;> decide
open Builtin._codecs
noncomputable def partsOf (nm : Str) (q : Bool × Bool × Bool) : List Str := nm.cps.toList.mapIdx (pick (bits q))
noncomputable def keyOf (nm : Str) (q : Bool × Bool × Bool) : Str := Txt.join (Str.ofString "") (partsOf nm q)
noncomputable def octets (nm : Str) (q : Bool × Bool × Bool) : List UInt8 := (keyOf nm q).cps.toList.map Nat.toUInt8
noncomputable def chk (nm : Str) (q : Bool × Bool × Bool) : Bool :=
  Nat.ble (((partsOf nm q).map (·.length)).sum + (partsOf nm q).length) 1000 && Nat.ble (keyOf nm q).length 100 && Txt.upper (keyOf nm q) == nm && Nat.ble (octets nm q).length 1000 && !(octets nm q).isEmpty
noncomputable def enc (self : Value) (nm : Str) : Prop := eight.map (fun q => encodeNarrow "str.encode" utf8Codec none self (keyOf nm q)) = eight.map fun q => pure (octets nm q).toArray
noncomputable def dec (id : String) (nm : Str) : Prop := eight.map (fun q => runDecoder id utf8Decoder none true (octets nm q).toArray 0 []) = eight.map fun q => pure ((keyOf nm q).cps, (keyOf nm q).cps.size)
theorem chk_all : (nm8.all fun nm => eight.all (chk nm)) = true := by kernel_rfl
theorem enc0 (self : Value) : enc self (Str.ofString "SUMMARY") := by unfold enc; kernel_rfl
theorem enc1 (self : Value) : enc self (Str.ofString "DTSTART") := by unfold enc; kernel_rfl
theorem enc2 (self : Value) : enc self (Str.ofString "UID") := by unfold enc; kernel_rfl
theorem enc3 (self : Value) : enc self (Str.ofString "X-A") := by unfold enc; kernel_rfl
theorem enc4 (self : Value) : enc self (Str.ofString "X-B") := by unfold enc; kernel_rfl
theorem enc5 (self : Value) : enc self (Str.ofString "RRULE") := by unfold enc; kernel_rfl
theorem enc6 (self : Value) : enc self (Str.ofString "ABC") := by unfold enc; kernel_rfl
theorem enc7 (self : Value) : enc self (Str.ofString "Z") := by unfold enc; kernel_rfl
theorem dec0 (id : String) : dec id (Str.ofString "SUMMARY") := by unfold dec; kernel_rfl
theorem dec1 (id : String) : dec id (Str.ofString "DTSTART") := by unfold dec; kernel_rfl
theorem dec2 (id : String) : dec id (Str.ofString "UID") := by unfold dec; kernel_rfl
theorem dec3 (id : String) : dec id (Str.ofString "X-A") := by unfold dec; kernel_rfl
theorem dec4 (id : String) : dec id (Str.ofString "X-B") := by unfold dec; kernel_rfl
theorem dec5 (id : String) : dec id (Str.ofString "RRULE") := by unfold dec; kernel_rfl
theorem dec6 (id : String) : dec id (Str.ofString "ABC") := by unfold dec; kernel_rfl
theorem dec7 (id : String) : dec id (Str.ofString "Z") := by unfold dec; kernel_rfl
theorem both_all (self : Value) : ∀ nm ∈ nm8, enc self nm ∧ ∀ id, dec id nm :=
  List.forall_mem_cons.mpr ⟨⟨enc0 self, dec0⟩, List.forall_mem_cons.mpr ⟨⟨enc1 self, dec1⟩, List.forall_mem_cons.mpr ⟨⟨enc2 self, dec2⟩, List.forall_mem_cons.mpr ⟨⟨enc3 self, dec3⟩, List.forall_mem_cons.mpr ⟨⟨enc4 self, dec4⟩, List.forall_mem_cons.mpr ⟨⟨enc5 self, dec5⟩, List.forall_mem_cons.mpr ⟨⟨enc6 self, dec6⟩, List.forall_mem_cons.mpr ⟨⟨enc7 self, dec7⟩, fun _ h => nomatch h⟩⟩⟩⟩⟩⟩⟩⟩
theorem key_facts {nm : Str} (hn : nm ∈ nm8) (b : Nat → Bool) : ∃ xs, xs = nm.cps.toList.mapIdx (pick b) ∧ (xs.map (·.length)).sum + xs.length ≤ 1000 ∧
    (Txt.join (Str.ofString "") xs).length ≤ 100 ∧ Txt.upper (Txt.join (Str.ofString "") xs) = nm ∧
    ∀ self, ∃ c cs, encodeNarrow "str.encode" utf8Codec none self (Txt.join (Str.ofString "") xs) = pure (c :: cs).toArray ∧ (c :: cs).toArray.size ≤ 1000 ∧ ∀ id, runDecoder id utf8Decoder none true (c :: cs).toArray 0 [] = pure ((Txt.join (Str.ofString "") xs).cps, (Txt.join (Str.ofString "") xs).cps.size) := by
  have k0 := List.all_eq_true.mp (List.all_eq_true.mp chk_all nm hn) _ (mem_eight (b 0, b 1, b 2))
  have k1 := Bool.and_eq_true_iff.mp k0
  have k2 := Bool.and_eq_true_iff.mp k1.1
  have k3 := Bool.and_eq_true_iff.mp k2.1
  have k4 := Bool.and_eq_true_iff.mp k3.1
  refine ⟨partsOf nm (b 0, b 1, b 2), by rw [pick_bits b]; rfl, Nat.le_of_ble_eq_true k4.1, Nat.le_of_ble_eq_true k4.2, eq_of_beq k3.2, fun self => ?_⟩
  have he := List.map_inj_left.mp (both_all self nm hn).1 _ (mem_eight (b 0, b 1, b 2))
  have hd := fun id => List.map_inj_left.mp ((both_all self nm hn).2 id) _ (mem_eight (b 0, b 1, b 2))
  have hl := Nat.le_of_ble_eq_true k2.2
  cases ho : octets nm (b 0, b 1, b 2) with
  | nil => rw [ho] at k1; exact absurd k1.2 (by decide)
  | cons c cs =>
    rw [ho] at he hd hl
    exact ⟨c, cs, he, by rw [List.size_toArray]; exact hl, hd⟩
end Mine
end
section
open PySem PySem.W PySem.Calls PyProof.Rows PyProof.Rows.LCg
set_option Elab.async false
set_option maxRecDepth 100000
set_option maxHeartbeats 4000000
set_option linter.unusedVariables false
set_option pp.maxSteps 3000
set_option pp.deepTerms false
set_option pp.deepTerms.threshold 6
namespace Mine
section
variable {w : World} {p : Program} {loose : List Str} {mean : ExcName → Option Value} {mg mb : Str → Option Value} {dp un : Nat} {gd : Option (List Code)} {cn : Str} {cs : Scope} {a : Addr} {ccd : Value} {cl : List (Str × Addr)} {outer : List Env} {A₀ : Around} {base h₀ : Heap} {L : Addr} {m : Str → Option Value} {news : List (Addr × Obj)} {s : Shared} {Q E : Value → Shared → Prop}
theorem asc8 : ∀ nm ∈ nm8, strIterType nm = "str_ascii_iterator" := by decide +kernel
theorem len8 : ∀ nm ∈ nm8, nm.cps.size ≤ 7 := by decide +kernel
section
variable {prog : Program} {A : Around}
open Builtin Builtin._codecs in
theorem enc_entry {x : Str} {t t1 : Tok} : «str.encode» ⟨[.str x t, .str (Str.ofString "utf-8") t1], []⟩ = (do ret (← encodeRoad "str.encode" (.str x t) x (Str.ofString "utf-8") none)) := by kernel_rfl
theorem encode_key {k : Str} {t t1 : Tok} {c : UInt8} {cs : List UInt8} {Q : Value → Shared → Prop} (he : Builtin._codecs.encodeNarrow "str.encode" Builtin._codecs.utf8Codec none (.str k t) k = pure (c :: cs).toArray) (hz : (c :: cs).toArray.size ≤ 1000) (h : ∀ t' tk, Q (.bytes (c :: cs).toArray t') { s with toks := tk }) :
    wpAny (model prog w) A (call (.builtin "str.encode") [.str k t, .str (Str.ofString "utf-8") t1]) Q E s := by
  refine wpAny_call_entry PySem.F.slot_str_encode (typeIs_str _ _ _) PySem.F.entry_str_encode ?_ (PySem.F.args_str_encode_2 _ _)
  rw [enc_entry]
  rw [PySem.encodeRoad_utf8, he]
  refine wpAny_bind (wpAny_bind (wpAny_pure ?_))
  exact wpAny_mkBytes (wpAny_pure ⟨_, rfl, h _ _⟩) (by rw [sizeLine_eq]; omega)
end
noncomputable def texts8 : List Value → List Str := fun vs => vs.filterMap fun | .str x _ => some x | _ => none
noncomputable def list8 (o : Obj) : Bool := match o with
  | ⟨.type "list", none, .seq vs _, _⟩ => texts8 vs.toList == nm8 && vs.size == 8
  | _ => false
theorem kf_names {P} : ((Mine.hd.heap_39 P).lookup 175).any list8 = true := by kernel_rfl
theorem texts8_at : ∀ {vs : List Value}, vs.length ≤ (texts8 vs).length → ∀ {i : Nat} {v : Value}, vs[i]? = some v → ∃ x t, v = .str x t ∧ x ∈ texts8 vs := by
  intro vs
  induction vs with
  | nil => intro _ i v h; simp at h
  | cons a vs ih =>
    intro hl i v h
    have hle : ∀ l : List Value, (texts8 l).length ≤ l.length := fun l => List.length_filterMap_le _ _
    cases a with
    | str x t =>
      have e : texts8 (.str x t :: vs) = x :: texts8 vs := rfl
      rw [e] at hl ⊢
      cases i with
      | zero => cases h; exact ⟨x, t, rfl, List.Mem.head _⟩
      | succ i =>
        obtain ⟨y, u, e1, e2⟩ := ih (by simpa using hl) (i := i) (by simpa using h)
        exact ⟨y, u, e1, List.Mem.tail _ e2⟩
    | _ => exact absurd (Nat.le_trans hl (hle vs)) (by simp)
section
variable {prog : Program} {A : Around}
theorem names_item {value slice : PySem.Expr} {k : Int} {u : Tok} {Q : Value → Shared → Prop} (X : (Mine.hd.heap_39 w.params).In s.heap) (h0 : 0 ≤ k) (h1 : k < 8) (h : ∀ nm t, nm ∈ nm8 → Q (.str nm t) s)
    (hs : subscripted slice false (.ref 175) (.int k u) = operate [.ref 175, .int k u] (getItem (.ref 175) (.int k u))) :
    wpAny (model prog w) A (subscriptTail value slice (.ref 175) (.int k u)) Q E s := by
  have hb := kf_names (P := w.params)
  cases hl : (Mine.hd.heap_39 w.params).lookup 175 with
  | none => rw [hl] at hb; cases hb
  | some o =>
    rw [hl] at hb
    have hb : list8 o = true := hb
    have ho := X _ _ hl
    unfold list8 at hb
    split at hb
    · rename_i vs c sl heq
      simp only [Bool.and_eq_true, beq_iff_eq] at hb
      have hL : s.heap.IsList 175 vs := ⟨_, ho, rfl, c, rfl⟩
      have hlt : k.toNat < vs.toList.length := by rw [Array.length_toList, hb.2]; omega
      have hx : vs.toList[k.toNat]? = some vs.toList[k.toNat] := by simp [hlt]
      obtain ⟨x, t, e, hm⟩ := texts8_at (by rw [hb.1, Array.length_toList, hb.2]; decide) hx
      rw [hb.1] at hm
      refine item_litK (vs := vs.toList) (by simpa using hL) h0 (by omega) (by rw [hx, e]) (h x t hm) hs
    · cases hb
end
section
variable {prog : Program} {A : Around}
theorem enum_str {x : Str} {t : Tok} {Q : Value → Shared → Prop} (F : Fr h₀ L s.heap m) (N : News h₀ L s.heap news)
    (h : ∀ e it h' oe oi, IsEnum h' e it 0 .none → h'.IsStrIter it (strIterType x) x t 0 → Fr h₀ L h' m → News h₀ L h' ((e, oe) :: (it, oi) :: news) → (∀ p ∈ news, p.1 < it) → it < e → Q (.ref e) { s with heap := h' }) :
    wpAny (model prog w) A (call (.type "enumerate") [.str x t]) Q E s := by
  refine call_enumerate_str fun h' he hi hz k => ?_
  obtain ⟨F', N'⟩ := keepsFN F N k
  obtain ⟨oi, e1, _⟩ := id hi
  have n0 : ∀ a, s.heap.objs.size ≤ a → a ≠ L ∧ h₀.get? a = none := fun a ha => by
    refine ⟨fun q => ?_, ?_⟩
    · have := F.ns.lt
      rw [← q] at this
      exact Nat.lt_irrefl _ (Nat.lt_of_lt_of_le this ha)
    · cases q : h₀.get? a with
      | none => rfl
      | some o => exact absurd (Nat.lt_of_lt_of_le (Heap.lt_size (F.keep _ _ q)) ha) (Nat.lt_irrefl _)
  have c : ∀ {a : Addr} {o : Obj} {l : List (Addr × Obj)}, h'.get? a = some o → s.heap.objs.size ≤ a → News h₀ L h' l → News h₀ L h' ((a, o) :: l) := fun e ha Nl p hp => by
    rcases List.mem_cons.mp hp with rfl | hp
    · exact ⟨e, n0 _ ha⟩
    · exact Nl p hp
  exact h _ _ h' _ _ he hi F' (c he (Nat.le_succ _) (c e1 (Nat.le_refl _) N')) (fun p hp => Heap.lt_size (N p hp).1) (Nat.lt_succ_self _)
end
section
variable {prog : Program} {A : Around}
theorem enum_self {nm : Str} {tn : Tok} {e it : Addr} {Q : Value → Shared → Prop} (hh : A.handled = none) (hei : e ≠ it) (he : IsEnum s.heap e it 0 .none) (hi : s.heap.IsStrIter it "str_ascii_iterator" nm tn 0) (h : Q (.ref e) s) : wpAny (model prog w) A (pyIter (.ref e)) Q E s :=
  (WalksT.enumerateD (prog := prog) (w := w) (A := A) (Draws.strAscii (A := A.in1) hh it nm tn) e hei (by simp [hei]) (List.Mem.head _)).self 0 _ _ _ ⟨⟨_, he⟩, hi⟩ h
theorem enum_feeds {nm : Str} {tn : Tok} {e it : Addr} {a b : Str} {pa pb tp : Pos} {kk : Nat} (hh : A.handled = none) (hei : e ≠ it) : Feeds prog w A (.ref e) (.Tuple [.Name a pa, .Name b pb] kk tp) (okP a b) [e, it] [e, it] nm.cps.size
    (fun i m m' => ∃ t c u, nm.cps[i]? = some c ∧ m' = fun z => if z = b then some (.str ⟨#[c]⟩ u) else if z = a then some (.int i t) else m z) (fun i h => (∃ old, IsEnum h e it i old) ∧ h.IsStrIter it "str_ascii_iterator" nm tn i) := by
  have W := feeds_pair (a := a) (b := b) (pa := pa) (pb := pb) (tp := tp) (kk := kk) hh (WalksT.enumerateD (prog := prog) (w := w) (A := A) (Draws.strAscii (A := A.in1) hh it nm tn) e hei (by simp [hei]) (List.Mem.head _)) (fun i vals h => by obtain ⟨t, x, _, rfl⟩ := h; exact ⟨_, _, rfl⟩)
  refine ⟨W.frame, fun i env s m Q E hok hi hst hn hL hQ => W.item i env s m Q E hok hi hst hn hL fun h' tk m' hP a b c => hQ h' tk m' ?_ a b c, W.done, W.self⟩
  obtain ⟨u, v, ⟨t, x, ⟨c, u', hc, rfl⟩, hv⟩, rfl⟩ := hP
  cases hv
  exact ⟨t, c, u', hc, rfl⟩
end
theorem strs_len {vs : List Value} {ss : List Str} (H : StrsAre vs ss) : vs.length = ss.length := by
  induction H with
  | nil => rfl
  | cons _ _ _ ih => rw [List.length_cons, List.length_cons, ih]
theorem picks_snoc {b : Nat → Bool} {cs : List Nat} {i c : Nat} {ys : List Value} {x : Str} {t : Tok} (hp : StrsAre ys ((cs.take i).mapIdx (pick b))) (hc : cs[i]? = some c) (hx : x = pick b i c) : StrsAre (ys ++ [.str x t]) ((cs.take (i + 1)).mapIdx (pick b)) := by
  have hi : (cs.take i).length = i := by
    rw [List.length_take]
    exact Nat.min_eq_left (Nat.le_of_lt (List.getElem?_eq_some_iff.mp hc).1)
  rw [List.take_add_one, hc, Option.toList_some, List.mapIdx_concat, hi, hx]
  exact StrsAre.append' hp (.cons _ _ .nil)
theorem pow_small {j : Nat} (h : j < 3) : (Builtin.Int.intBits 2 : Int) * (j : Int) ≤ 2 ^ 27 := by
  rcases j with _ | _ | _ | j
  · decide +kernel
  · decide +kernel
  · decide +kernel
  · exact absurd h (by omega)
theorem pow_few {j : Nat} (h : j < 3) : (2 : Int) ^ j ≠ 0 ∧ ((2 : Int) ^ j).natAbs < 1073741824 := by
  rcases j with _ | _ | _ | j
  · decide
  · decide
  · decide
  · exact absurd h (by omega)
theorem eq_intB {prog : Program} {A : Around} {x y : Int} {t u : Tok} {c : Bool} {Q : Value → Shared → Prop} (e : (x == y) = c) (h : Q (.bool c) s) : wpAny (model prog w) A (compareOp .Eq (.int x t) (.int y u)) Q E s := PyProof.Rows.eq_int (by rw [e]; exact h)
theorem kf_lnames {P} : nsIn (Mine.hd.heap_39 P) mainGlobals (Str.ofString "_law_names") = some (some (.ref 175)) := by kernel_rfl
theorem ns_enumK {P} : nsIn (Mine.hd.heap_39 P) mainGlobals (Str.ofString "enumerate") = some none := by kernel_rfl
theorem bb_enumK : bootBuiltins (Str.ofString "enumerate") = some (.type "enumerate") := by decide +kernel
theorem ld_cellK {M : Model} {A : Around} {env : Env} {scope : Scope} {cl : List (Str × Addr)} {C c : Addr} {x : Str} {pos : Pos} {o : Obj} {v : Value} {Q : Value → Shared → Prop} (N : News h₀ L s.heap news) (hc : cl.lookup x = some c) (hm : (c, o) ∈ news) (hd : o.data = .cell (some v)) (h : Q v s)
    (hk : (compEnvC scope cl C env).scope.kind = .function) (hx : (compEnvC scope cl C env).kindOf x = some .cell) (hb : (x == ("__debug__" : Str)) = false) :
    wpAny M A (eval (.Name x pos) (compEnvC scope cl C env)) Q E s := wpAny_Name (wpAny_loadName_cell hk hx hc ⟨o, N.get hm, hd⟩ h) hb
theorem mstr_eq {env : Env} {x name : Str} {kx : Nat} {px apos pos : Pos} {args : List Expr} (hp : (apos.endLine == pos.line) = true) (hf : methodCallForm (args.length + 0) (backTo pos (starEach args env)) [] = true) :
    eval (.Call (.Attribute (.Constant (.str x) kx px) name apos) args [] pos) env = (do
      let ov ← eval (.Constant (.str x) kx px) env
      standAt apos.atName
      let (f, first) ← holding [ov] (getMethod ov name (do return (← importBound (.Constant (.str x) kx px) env).getD true))
      callWith pos f first (backTo pos (starEach args env)) []) := by
  have e : eval (.Call (.Attribute (.Constant (.str x) kx px) name apos) args [] pos) env = (do
    let ov ← eval (.Constant (.str x) kx px) env
    standAt apos.atName
    methodCall (.Constant (.str x) kx px) name apos pos env ov (args.length + 0) (backTo pos (starEach args env)) []) := rfl
  rw [e]
  unfold methodCall methodCallPos calleeOf
  rw [hf]
  simp only [hp, Bool.not_true, Bool.false_or, if_true]
  rfl
theorem lower_1 {prog : Program} {A : Around} {c : Nat} {t : Tok} {Q : Value → Shared → Prop} (h : ∀ t' k, Q (.str (Txt.lower ⟨#[c]⟩) t') { s with toks := k }) : wpAny (model prog w) A (call (.builtin "str.lower") [.str ⟨#[c]⟩ t]) Q E s :=
  SC.lower (fit_lower (Nat.le_trans (Nat.le_refl 1) (by decide))) (h _ _)
theorem key_c {n : Int} {t0 : Tok} (B : Below A₀ base outer h₀) (F : Fr h₀ L s.heap m) (X : (Mine.hd.heap_39 w.params).In h₀) (N : News h₀ L s.heap news) (T : Top p loose mean mg mb h₀) (hk : cs.kind = .function) (hd : dp + 10 < recursionLimit) (hu : un + 80 < cLine) (hn : 0 ≤ n)
    (ret : ∀ T kv k nm t' h' tk', nm ∈ nm8 → KeyV kv k → k.length ≤ 100 → Txt.upper k = nm → Fr h₀ L h' m → News h₀ L h' ((T, { cls := .type "tuple", data := .seq #[kv, .str nm t'] }) :: news) → (∀ p ∈ news, p.1 < T) → Q (.ref T) { s with heap := h', toks := tk' }) :
    wpAny (model PySem.Challenge.rw_be0018_01.row.prog w) (ktrTop dp un gd cn cs L a ccd cl outer) (call (.ref 180) [.int n t0]) Q E s := by
  revert X
  k_fill
  intro X
  refine wpAny_call ?_
  refine' code_defC (K := Mine.hd.heap_39 w.params) B F X N T rfl rfl hk ?k6 ?k7 ?k8 ?k9 ?kB ?kD ?_ ?c2 ?c3 ?c4
  (case k6 => k_is)
  (case k7 => k_is)
  (case k8 => show dp < recursionLimit; omega)
  (case k9 => first | exact BindsTo.of_eq rfl | exact binds_K (by k_in) rfl (by k_is) rfl rfl rfl)
  (case kB => exact rfl)
  (case kD => decide +kernel)
  (case c2 => exact rfl)
  (case c3 => exact rfl)
  (case c4 => exact rfl)
  intro g L1 h1 tk1 cells FG F1 N1 Y B1 X1 T1 l1
  obtain ⟨o1, rfl, d1⟩ := CellsAre.one Y
  clear Y
  replace d1 : o1.data = .cell (some (.int n t0)) := d1
  generalize bindL _ _ _ = m1 at F1
  have R1 := topRead_of T1
  refine wpAny_noRaise (gen_q fun Q' hQ => ?_)
  have hB : ∃ b : Nat → Bool, ∀ j : Nat, (((n.fdiv 8).fdiv ((2 : Int) ^ j)).fmod 2 == 1) = b j := ⟨_, fun _ => rfl⟩
  obtain ⟨b, hB⟩ := hB
  refine wpAny_execs_cons (wpAny_Assign_Name (Subscript_ (nameX_K (K := Mine.hd.heap_39 w.params) F1 X1 R1 kf_lnames (wpAny_BinOp (nameX_C N1 rfl (List.Mem.head _) d1 (wpAny_Constant_int (mod_int (by decide) ?_)))))))
  refine names_item (X1.keeps F1.keep) (Int.fmod_nonneg_of_pos _ (by decide)) (Int.fmod_lt_of_pos _ (by decide)) (fun nm tn hnm => ?_) rfl
  refine storeX_L F1 N1 fun h2 F2 N2 => ?_
  dsimp only
  with_reducible refine wpAny_execs_cons (wpAny_Assign_Name ?za ?zb)
  case zb => rfl
  with_reducible refine' MethodCall_ ?ma ?mb
  case mb => exact mstr_eq rfl rfl
  refine wpAny_Constant_str ?_
  with_reducible refine PySem.GM.join ?_
  refine (callWith_method1 (spliced_more (lc_J (hs := by intro _; rfl) (s := { s with heap := h2, toks := _ }) (F₀ := F2) (fun ys nw => nw = (L1 + 1, o1) :: news ∧ StrsAre ys (nm.cps.toList.mapIdx (pick b))) (cl := [(Str.ofString "number", L1 + 1)]) (by rfl) rfl (by decide) ?_)))
  refine Call_ (nameX_B F2 X1 R1 ns_enumK bb_enumK (by decide) ?_)
  refine PyProof.Rows.callWith_type1 (spliced_more (nameX_L F2 (if_pos rfl) (spliced_none ?_)))
  refine enum_str F2 N2 fun e it h3 oe oi he hi F3 N3 l3 l4 => ?_
  dsimp only
  rw [asc8 nm hnm] at hi
  have hei : e ≠ it := Nat.ne_of_gt l4
  refine enum_self rfl hei he hi ?_
  refine ⟨fun RR hRR => comp_block (s₂ := { s with heap := h3, toks := _ }) (own := [e, it]) (fp := [e, it]) (fx := []) (fun i ys nw => nw = (L1 + 1, o1) :: news ∧ StrsAre ys ((nm.cps.toList.take i).mapIdx (pick b))) (enum_feeds (nm := nm) (tn := tn) rfl hei) ?_ (fun C => ⟨rfl, rfl, rfl⟩) (by decide) rfl ⟨⟨_, he⟩, hi⟩ ?_ F3 (cb_drop N3 fun p hp => List.Mem.tail _ (List.Mem.tail _ hp)) ?_ ?_ ?_ ?_ ?_ ⟨rfl, .nil⟩ ?_ ?_ ?_, fun D h tk ys nw hf F4 N4 off => ?_⟩
  · have := len8 nm hnm
    rw [sizeLine_eq]; omega
  · rintro i h ⟨⟨old, h1⟩, ⟨o, h2, _⟩⟩ b hb
    rcases List.mem_cons.mp hb with rfl | hb
    · exact ⟨_, h1⟩
    · rw [List.mem_singleton.mp hb]; exact ⟨_, h2⟩
  · intro hm
    rcases List.mem_cons.mp hm with q | q
    · exact (N3 _ (List.Mem.head _)).2.1 q.symm
    · exact (N3 _ (List.Mem.tail _ (List.Mem.head _))).2.1 (List.mem_singleton.mp q).symm
  · intro b hb
    rcases List.mem_cons.mp hb with rfl | hb
    · exact (N3 _ (List.Mem.head _)).2.2
    · rw [List.mem_singleton.mp hb]; exact (N3 _ (List.Mem.tail _ (List.Mem.head _))).2.2
  · intro p hp hm
    have := l3 p hp
    rcases List.mem_cons.mp hm with q | q
    · exact Nat.lt_irrefl _ (Nat.lt_trans (q ▸ this) l4)
    · exact Nat.lt_irrefl _ ((List.mem_singleton.mp q) ▸ this)
  · exact fun b hb => .inl hb
  · exact fun _ _ _ _ p hp => nomatch hp
  · rintro i ys nw ⟨_, hp⟩
    rw [strs_len hp, List.length_mapIdx, List.length_take]; exact Nat.min_le_left _ _
  · intro i ys nw pre C oC h tk m₁ m' E' Qt Qf hi hJ hP hCm0 hoC F4 N4 off hQ2 _
    refine wpAny_tests_nil ?_
    rw [if_pos rfl]
    obtain ⟨rfl, hp⟩ := hJ
    obtain ⟨t, c, u, hc, rfl⟩ := hP
    have hCm := List.mem_append_left ((L1 + 1, o1) :: news) hCm0
    have fin : ∀ (x : Str) (t' : Tok), x = pick b i c → StrsAre (ys ++ [.str x t']) ((nm.cps.toList.take (i + 1)).mapIdx (pick b)) := fun x t' hx => picks_snoc hp (by rw [Array.getElem?_toList]; exact hc) hx
    refine IfExp_ (wpAny_isTrue_Compare1 (wpAny_BinOp (wpAny_BinOp (wpAny_BinOp (ld_cellK (s := { s with heap := h, toks := tk }) N4 rfl (List.mem_append_right _ (List.Mem.head _)) d1 (wpAny_Constant_int (floordiv_int (by decide) ?_ (.inl (PyProof.noPylong_small (by decide))))) rfl rfl (by decide))))))
    refine wpAny_BinOp (wpAny_Constant_int (wpAny_BinOp (LCgL.ld_own (s := { s with heap := h, toks := _ }) N4 hCm hoC ((if_neg (by decide)).trans (if_pos rfl)) (wpAny_Constant_int (mod_int (by decide) ?_)) rfl rfl (by decide))))
    have hkm : (i : Int).fmod 3 = ((i % 3 : Nat) : Int) := by rw [Int.fmod_eq_emod_of_nonneg _ (by decide)]; rfl
    have hk3 : i % 3 < 3 := Nat.mod_lt _ (by decide)
    rw [hkm]
    refine pow_int (Int.natCast_nonneg _) (pow_small hk3) ?_
    rw [Int.toNat_natCast]
    have hpw := pow_few hk3
    refine floordiv_int (fun e => by rw [e] at hpw; exact hpw.1 rfl) (wpAny_Constant_int (mod_int (by decide) (wpAny_Constant_int (eq_intB (hB _) (wpAny_truthy_bool ?_))))) (.inl (PyProof.noPylong_small hpw.2))
    unfold pick at fin
    generalize b (i % 3) = bb at fin
    cases bb with
    | true =>
      refine MethodCall_ (LCgL.ld_own (s := { s with heap := h, toks := _ }) N4 hCm hoC (if_pos rfl) ?_ rfl rfl (by decide)) (method_eq rfl rfl)
      with_reducible refine PySem.GM.lower ?_
      refine callWith_method0 (lower_1 (fun t' k' => ?_))
      exact hQ2 _ _ (.mk F4 N4 off ⟨rfl, fin _ _ rfl⟩)
    | false =>
      refine LCgL.ld_own (s := { s with heap := h, toks := _ }) N4 hCm hoC (if_pos rfl) ?_ rfl rfl (by decide)
      exact hQ2 _ _ (.mk F4 N4 off ⟨rfl, fin _ _ rfl⟩)
  · rintro D C h tk m' ys nw F4 N4 a1 a2 a3 a4 a5 a6 a7 a8 ⟨rfl, hp⟩
    refine hRR D C h tk m' ys _ F4 N4 a1 a2 a3 a4 a5 a6 a7 a8 ⟨rfl, ?_⟩
    rwa [List.take_of_length_le (by rw [Array.length_toList]; exact Nat.le_refl _)] at hp
  · obtain ⟨rfl, hsa⟩ := hf
    obtain ⟨xs, hxs, hw, hk1, hk2, hk3⟩ := key_facts hnm b
    rw [← hxs] at hsa
    clear hxs
    refine spliced_none ?_
    refine join_listW (items := ys.toArray) (ys := xs) ⟨_, (N4 _ (List.Mem.head _)).1, rfl, _, rfl⟩ (by simpa using hsa) (by decide) ?_ fun t5 tk5 => ?_
    · exact Nat.le_trans hw (by decide)
    generalize hkk : Txt.join (Str.ofString "") xs = kk at hk1 hk2 hk3 ⊢
    have N5 := cb_drop N4 fun p hp => List.Mem.tail _ hp
    refine storeX_L (s := { s with heap := h, toks := _ }) F4 N5 fun h6 F6 N6 => ?_
    dsimp only
    obtain ⟨bb, hbb⟩ : ∃ bb, ((n.fdiv 64).fmod 5 == 4) = bb := ⟨_, rfl⟩
    refine wpAny_execs_cons (wpAny_Return_some (Tuple_ (spliced_more (IfExp_ (wpAny_isTrue_Compare1 (wpAny_BinOp (wpAny_BinOp (nameX_C N6 rfl (List.Mem.head _) d1 (wpAny_Constant_int (floordiv_int (by decide) (wpAny_Constant_int (mod_int (by decide) (wpAny_Constant_int (eq_intB hbb (wpAny_truthy_bool ?_))))) (.inl (PyProof.noPylong_small (by decide)))))))))))))
    cases bb with
    | true =>
      refine MethodCall_ (nameX_L (s := { s with heap := h6, toks := _ }) F6 (if_pos rfl) ?_) (method_eq rfl rfl)
      with_reducible refine getMethod_builtin (T := "str") (id := "str.encode") ?ga ?gb ?gc ?gd ?ge ?gf
      case ga => exact typeIs_str _ _ _
      case gb => exact PySem.F.plainAttrs_str
      case gc => exact PySem.F.slot_str_encode
      case gd => exact PySem.F.type_str_encode
      case ge => exact fun _ e => nomatch e
      refine callWith_method1 (spliced_more (wpAny_Constant_str (spliced_none ?_)))
      obtain ⟨c5, cs5, he5, hz5, hd5⟩ := hk3 (.str kk t5)
      refine encode_key he5 hz5 fun t6 tk6 => ?_
      refine spliced_more (nameX_L (s := { s with heap := h6, toks := _ }) F6 ((if_neg (by decide)).trans (if_pos rfl)) (spliced_none (newTuple_N (s := { s with heap := h6, toks := _ }) F6 N6 (fun h7 F7 N7 => ?_) (by rw [sizeLine_eq]; exact (by decide : 2 ≤ 16777216)))))
      refine hQ (.ret _) _ (leaveK_ F7 N7 fun kF kN => ?_)
      exact ret _ _ kk nm _ _ _ hnm (.bytes hd5) hk1 hk2 kF (cb_drop kN fun p hp => (List.mem_cons.mp hp).elim (fun e => by rw [e]; exact List.Mem.head _) (fun h => List.Mem.tail _ (List.Mem.tail _ h))) (fun q hq => Heap.lt_size (N6 q (List.Mem.tail _ hq)).1)
    | false =>
      refine nameX_L (s := { s with heap := h6, toks := _ }) F6 (if_pos rfl) ?_
      refine spliced_more (nameX_L (s := { s with heap := h6, toks := _ }) F6 ((if_neg (by decide)).trans (if_pos rfl)) (spliced_none (newTuple_N (s := { s with heap := h6, toks := _ }) F6 N6 (fun h7 F7 N7 => ?_) (by rw [sizeLine_eq]; exact (by decide : 2 ≤ 16777216)))))
      refine hQ (.ret _) _ (leaveK_ F7 N7 fun kF kN => ?_)
      exact ret _ _ kk nm _ _ _ hnm .str hk1 hk2 kF (cb_drop kN fun p hp => (List.mem_cons.mp hp).elim (fun e => by rw [e]; exact List.Mem.head _) (fun h => List.Mem.tail _ (List.Mem.tail _ h))) (fun q hq => Heap.lt_size (N6 q (List.Mem.tail _ hq)).1)
end
end Mine
end
section
open PySem PySem.W PySem.Spec PySem.Calls PyProof.Rows
set_option Elab.async false
set_option maxRecDepth 100000
set_option maxHeartbeats 1000000
set_option linter.unusedVariables false
set_option pp.maxSteps 3000
set_option pp.deepTerms false
set_option pp.deepTerms.threshold 6
namespace Mine
section
variable {P : Params}
theorem kf_del : findIn (Mine.hd.heap_39 P) (.ref 170) "__delitem__" = some (some (.ref 81)) := by kernel_rfl
theorem kf_del_fn : isFn (Mine.hd.heap_39 P) (.ref 81) = true := by kernel_rfl
theorem kf_get : findIn (Mine.hd.heap_39 P) (.ref 170) "__getitem__" = some (some (.ref 65)) := by kernel_rfl
theorem kf_get_fn : isFn (Mine.hd.heap_39 P) (.ref 65) = true := by kernel_rfl
theorem kf_get_fi : fnIn (Mine.hd.heap_39 P) 65 = true := by kernel_rfl
theorem kf_sdf : findIn (Mine.hd.heap_39 P) (.ref 170) (Str.ofString "setdefault") = some (some (.ref 107)) := by kernel_rfl
theorem kf_sdf_ty : typeIn (Mine.hd.heap_39 P) (.ref 107) = some (.type "function") := by kernel_rfl
theorem kf_sdf_k : keepIn (Mine.hd.heap_39 P) (.ref 107) = true := by kernel_rfl
theorem kf_pop : findIn (Mine.hd.heap_39 P) (.ref 170) (Str.ofString "pop") = some (some (.ref 116)) := by kernel_rfl
theorem kf_pop_ty : typeIn (Mine.hd.heap_39 P) (.ref 116) = some (.type "function") := by kernel_rfl
theorem kf_pop_k : keepIn (Mine.hd.heap_39 P) (.ref 116) = true := by kernel_rfl
theorem kf_popi : findIn (Mine.hd.heap_39 P) (.ref 170) (Str.ofString "popitem") = some (some (.ref 124)) := by kernel_rfl
theorem kf_popi_ty : typeIn (Mine.hd.heap_39 P) (.ref 124) = some (.type "function") := by kernel_rfl
theorem kf_popi_k : keepIn (Mine.hd.heap_39 P) (.ref 124) = true := by kernel_rfl
theorem kf_updm : findIn (Mine.hd.heap_39 P) (.ref 170) (Str.ofString "update") = some (some (.ref 139)) := by kernel_rfl
theorem kf_updm_k : keepIn (Mine.hd.heap_39 P) (.ref 139) = true := by kernel_rfl
theorem kf_kerr : nsIn (Mine.hd.heap_39 P) mainGlobals "KeyError" = some none := by kernel_rfl
end
/-- what stands around a frame -/
structure Ctx (w : World) (p : Program) (loose : List Str) (mean : ExcName → Option Value) (mg mb : Str → Option Value) (A₀ : Around) (base : Heap) (outer : List Env) (h₀ : Heap) (cs : Scope) (dp un : Nat) : Prop where
  B : Below A₀ base outer h₀
  X : (Mine.hd.heap_39 w.params).In h₀
  T : Top p loose mean mg mb h₀
  hk : cs.kind = .function
  hdp : dp + 40 < recursionLimit
  hu : un + 400 < cLine
/-- a book (a CaselessDict, or a plain dict) with the key that it is asked by -/
inductive Book (news : List (Addr × Obj)) (b : Addr) (kv : Value) (nm : Str) : Value → Option Addr → List DictEntry → Nat → Prop
  | cd {dx : Addr} {es : List DictEntry} {n : Nat} {k : Str} : (b, cdObj dx es n) ∈ news → (dx, dictOf [] 0) ∈ news → KeyV kv k → k.length ≤ 100 → Txt.upper k = nm → Book news b kv nm (.ref 170) (some dx) es n
  | dict {es : List DictEntry} {n : Nat} {t : Tok} : (b, dictOf es n) ∈ news → kv = .str nm t → Book news b kv nm (.type "dict") none es n
section
variable {w : World} {p : Program} {loose : List Str} {mean : ExcName → Option Value} {mg mb : Str → Option Value} {dp un : Nat} {gd : Option (List Code)} {cn : Str} {cs : Scope} {a : Addr} {ccd : Value} {outer : List Env} {A₀ : Around} {base h₀ : Heap} {L : Addr} {m : Str → Option Value} {news : List (Addr × Obj)} {s : Shared} {E : Value → Shared → Prop}
  {b : Addr} {kv : Value} {nm : Str} {c : Value} {od : Option Addr} {es : List DictEntry} {n : Nat} {D : List (Str × Value)} {v : Value} {news' : List DictEntry → Nat → List (Addr × Obj)}
theorem in1_top {cl : List (Str × Addr)} : (ktrTop dp un gd cn cs L a ccd cl outer).in1 = ktrTop dp (un + 1) gd cn cs L a ccd cl outer := rfl
theorem bk_set {Q : Unit → Shared → Prop} (C : Ctx w p loose mean mg mb A₀ base outer h₀ cs dp un) (F : Fr h₀ L s.heap m) (N : News h₀ L s.heap news) (Bk : Book news b kv nm c od es n) (U : ∀ es' n', Upd b (dob c od es n) (dob c od es' n') news (news' es' n')) (H : Ent PySem.Challenge.rw_be0018_01.row.prog w es D) (hz : D.length < 64)
    (ret : ∀ es' n' h' tk', Ent PySem.Challenge.rw_be0018_01.row.prog w es' (stored D nm v) → Fr h₀ L h' m → News h₀ L h' (news' es' n') → Q () { s with heap := h', toks := tk' }) :
    wpAny (model PySem.Challenge.rw_be0018_01.row.prog w) (ktrTop dp un gd cn cs L a ccd [] outer) (setItem (.ref b) kv v) Q E s := by
  cases Bk with
  | cd h1 h2 hkv hlen hup =>
    subst hup
    refine ksp_setItem (f := 73) F C.X (inst_cd N h1 h2) kf_noseq kf_set kf_set_fn ?_
    exact set_c C.B F C.X N C.T C.hk (by have := C.hdp; omega) (by have := C.hu; omega) h1 h2 U H hz hkv hlen ret
  | dict h1 hkv =>
    subst hkv
    have hT : s.TypeIs (.ref b) "dict" := ⟨_, (N _ h1).1, rfl⟩
    unfold setItem
    refine wpAny_holding (wpAny_bind (wpAny_sequenceKey hT (by decide) ?_))
    refine wpAny_bind (wpAny_callSpecial?_slot (name := Str.ofString "__setitem__") hT PySem.F.slot_dict_setitem (wpAny_call_entry PySem.F.slot_dict_setitem hT PySem.F.entry_dict_setitem ?_ (PySem.F.args_dict_setitem_3 _ _ _)))
    exact b_setitem (noOrd_dict (N _ h1).1) F N U H hz fun es' n' h' H' F' N' => wpAny_pure (ret es' n' h' _ H' F' N')
theorem bk_del {Q : Unit → Shared → Prop} (C : Ctx w p loose mean mg mb A₀ base outer h₀ cs dp un) (F : Fr h₀ L s.heap m) (N : News h₀ L s.heap news) (Bk : Book news b kv nm c od es n) (U : ∀ es' n', Upd b (dob c od es n) (dob c od es' n') news (news' es' n')) (H : Ent PySem.Challenge.rw_be0018_01.row.prog w es D) (hbm : (b == sysModules) = false)
    (ret : ∀ es' n' h' tk', (valueAt D nm).isSome = true → Ent PySem.Challenge.rw_be0018_01.row.prog w es' (without D nm) → Fr h₀ L h' m → News h₀ L h' (news' es' n') → Q () { s with heap := h', toks := tk' })
    (retE : valueAt D nm = none → ∀ ev h' tk', Flew base (envX cn cs L a ccd []) outer h₀ L m news ev { s with heap := h', toks := tk' } → E ev { s with heap := h', toks := tk' }) :
    wpAny (model PySem.Challenge.rw_be0018_01.row.prog w) (ktrTop dp un gd cn cs L a ccd [] outer) (delItem (.ref b) kv) Q E s := by
  cases Bk with
  | cd h1 h2 hkv hlen hup =>
    subst hup
    have X := C.X.keeps F.keep
    have I := inst_cd N h1 h2
    unfold delItem sequenceKey
    refine wpAny_holding (wpAny_bind (wpAny_bind (I.type.here ?_)))
    refine wpAny_bind ((anyM_none X kf_noseq).here ?_)
    rw [if_pos (show (!false) = true from rfl)]
    refine wpAny_pure (wpAny_bind (special_fn X I kf_del (beq_iff_eq.mp kf_del_fn) ?_))
    exact delitem_c C.B F C.X N C.T C.hk (by have := C.hdp; omega) (by have := C.hu; omega) h1 h2 U H hbm hkv hlen (fun es' n' h' tk' x1 x2 x3 x4 => wpAny_pure (ret es' n' h' tk' x1 x2 x3 x4))
      (fun hv g' h' tk' e x1 x2 x3 => retE hv _ _ _ ⟨e, rfl, .inl ⟨g', x1, x2, x3⟩⟩)
  | dict h1 hkv =>
    subst hkv
    have hT : s.TypeIs (.ref b) "dict" := ⟨_, (N _ h1).1, rfl⟩
    refine wpAny_delItem_slot hT (by decide) PySem.F.slot_dict_delitem (wpAny_call_entry PySem.F.slot_dict_delitem hT PySem.F.entry_dict_delitem ?_ (PySem.F.args_dict_delitem_2 _ _))
    exact b_delitem (A := (ktrTop dp un gd cn cs L a ccd [] outer).in1) hbm rfl (noOrd_dict (N _ h1).1) F N U H (fun hv h' e hx => retE hv _ _ _ ⟨e, rfl, .inr ⟨s.heap, hx, F, N⟩⟩) fun es' n' h' x1 x2 x3 x4 => ret es' n' h' _ x1 x2 x3 x4
theorem bk_get {value slice : Expr} {Q : Value → Shared → Prop} (C : Ctx w p loose mean mg mb A₀ base outer h₀ cs dp un) (F : Fr h₀ L s.heap m) (N : News h₀ L s.heap news) (Bk : Book news b kv nm c od es n) (H : Ent PySem.Challenge.rw_be0018_01.row.prog w es D) (hbm : (b == sysModules) = false)
    (ret : ∀ u h' tk', valueAt D nm = some u → Fr h₀ L h' m → News h₀ L h' news → Q u { s with heap := h', toks := tk' })
    (retE : valueAt D nm = none → ∀ ev h' tk', Flew base (envX cn cs L a ccd []) outer h₀ L m news ev { s with heap := h', toks := tk' } → E ev { s with heap := h', toks := tk' })
    (hs1 : subscripted slice true (.ref b) kv = runValue (.builtin "lifetime.subscript" ⟨[.ref b, kv], []⟩)) (hs2 : subscripted slice false (.ref b) kv = operate [.ref b, kv] (getItem (.ref b) kv)) (ht : ∀ r, letTemporaryGo value (.ref b) r = pure ()) :
    wpAny (model PySem.Challenge.rw_be0018_01.row.prog w) (ktrTop dp un gd cn cs L a ccd [] outer) (subscriptTail value slice (.ref b) kv) Q E s := by
  cases Bk with
  | cd h1 h2 hkv hlen hup =>
    subst hup
    refine sub_K (f := 65) F C.X (inst_cd N h1 h2) kf_get kf_get_fi kf_get_fn ?_ hs1
    rw [in1_top]
    exact getitem_c C.B F C.X N C.T C.hk (by have := C.hdp; omega) (by have := C.hu; omega) h1 h2 H hbm hkv hlen ret
      (fun hv g' h' tk' e x1 x2 x3 => retE hv _ _ _ ⟨e, rfl, .inl ⟨g', x1, x2, x3⟩⟩)
  | dict h1 hkv =>
    subst hkv
    have hT : s.TypeIs (.ref b) "dict" := ⟨_, (N _ h1).1, rfl⟩
    refine subscriptTail_builtin hT PySem.F.slot_dict_getitem.lookup (wpAny_getItem_slot hT (by decide) PySem.F.slot_dict_getitem (wpAny_call_entry PySem.F.slot_dict_getitem hT PySem.F.entry_dict_getitem ?_ (PySem.F.args_dict_getitem_2 _ _))) hs2 ht
    show wpAny _ _ (dictGet b (.str nm _) >>= _) _ _ s
    refine wpAny_bind (dGet (N _ h1).1 H ?_)
    cases hf : valueAt D nm with
    | some u => exact wpAny_pure ⟨_, rfl, ret u _ _ hf F N⟩
    | none =>
      refine wpAny_bind (wpAny_missed_other hbm ?_)
      refine wpAny_bind (wpAny_typeOf (s := { s with toks := s.toks + 1 }) hT ?_)
      exact wpAny_bind (wpAny_rule (wpAny_raise_newExc (A := (ktrTop dp un gd cn cs L a ccd [] outer).in1) plainExc_KeyError rfl fun h' e hx => retE hf _ _ _ ⟨e, rfl, .inr ⟨s.heap, hx, F, N⟩⟩))
end
end Mine
end
section
open PySem PySem.W PySem.Calls PyProof.Rows
set_option Elab.async false
set_option maxRecDepth 100000
set_option maxHeartbeats 1000000
set_option linter.unusedVariables false
set_option pp.maxSteps 3000
set_option pp.deepTerms false
set_option pp.deepTerms.threshold 6
namespace Mine
section
variable {prog : Program} {w : World} {A : Around} {E : Value → Shared → Prop} {s : Shared} {x : Addr}
theorem isd_nested {dx : Addr} {es : List DictEntry} {n : Nat} {dep : Int} {tk : Tok} {Q : Fin → Shared → Prop} {M : Model} (X : (Mine.hd.heap_39 w.params).In s.heap) (ho : s.heap.get? x = some (cdObj dx es n)) (h : Q (.done (.ret (.bool true))) s) :
    wpAny M A (Builtin.«isinstance.nested» ⟨[.ref x, .type "dict", .int dep tk], []⟩) Q E s := by
  obtain ⟨hh, g, d, tt, os⟩ := s
  have ht : Looks M hh (typeOf (.ref x)) (.ref 170) := (Looks.ld ho).andThen .now
  have L3 : Looks M hh (isInstance (.ref x) (.type "dict")) true := ht.andThen (looks_subIn X kf_dict)
  unfold Builtin.«isinstance.nested»
  refine wpAny_bind (ht.at ?_)
  refine wpAny_bind (m := typeOf (.type "dict")) (wpAny_of_eq (a := Value.type "type") (by kernel_rfl) ?_)
  rw [if_pos (by decide)]
  k_delta "plainIsInstance"
  refine wpAny_bind ?_
  refine wpAny_bind (m := isType (.type "dict")) ?_
  refine wpAny_pure ?_
  simp only [Bool.not_true, Bool.false_eq_true, if_false]
  refine wpAny_bind (L3.at ?_)
  exact wpAny_pure (wpAny_pure h)
theorem isd_call {dx : Addr} {es : List DictEntry} {n : Nat} {Q : Value → Shared → Prop} (X : (Mine.hd.heap_39 w.params).In s.heap) (ho : s.heap.get? x = some (cdObj dx es n)) (h : Q (.bool true) s) :
    wpAny (model prog w) A (call (.builtin "isinstance") [.ref x, .type "dict"]) Q E s :=
  call_isinstance (S := fun _ R s => ((Mine.hd.heap_39 w.params).In s.heap ∧ s.heap.get? x = some (cdObj dx es n)) ∧ R (.ok (.ret (.bool true))) s) (fun prog w' A R s hs => isinstance_outer (isd_nested hs.1.1 hs.1.2 hs.2) (by intro e; cases e)) ⟨⟨X, ho⟩, h⟩
theorem Src.isd {h₀ : Heap} {L d : Addr} {m : Str → Option Value} {news : List (Addr × Obj)} {c : Value} {od : Option Addr} {es : List DictEntry} {n : Nat} {Q : Value → Shared → Prop} (S : Src news d c od es n) (F : Fr h₀ L s.heap m) (N : News h₀ L s.heap news) (X₀ : (Mine.hd.heap_39 w.params).In h₀) (h : Q (.bool true) s) :
    wpAny (model prog w) A (call (.builtin "isinstance") [.ref d, .type "dict"]) Q E s := by
  cases S with
  | dict h1 => exact IsiPair.dict_dict (N _ h1).1 rfl h
  | cd h1 h2 => exact isd_call (X₀.keeps F.keep) (N _ h1).1 h
end
end Mine
end
section
open PySem PySem.W PySem.Spec PySem.Calls PyProof.Rows
set_option Elab.async false
set_option maxRecDepth 100000
set_option maxHeartbeats 1000000
set_option linter.unusedVariables false
set_option pp.maxSteps 3000
set_option pp.deepTerms false
set_option pp.deepTerms.threshold 6
namespace Mine
section
variable {w : World} {p : Program} {loose : List Str} {mean : ExcName → Option Value} {mg mb : Str → Option Value} {dp un : Nat} {gd : Option (List Code)} {cn : Str} {cs : Scope} {a : Addr} {ccd : Value} {outer : List Env} {A₀ : Around} {base h₀ : Heap} {L : Addr} {m : Str → Option Value} {news : List (Addr × Obj)} {s : Shared} {E : Value → Shared → Prop}
  {b : Addr} {kv : Value} {nm : Str} {c : Value} {od : Option Addr} {es : List DictEntry} {n : Nat} {D : List (Str × Value)} {v : Value} {news' : List DictEntry → Nat → List (Addr × Obj)}
noncomputable abbrev lcl (cn : Str) (cs : Scope) (L a : Addr) (ccd : Value) (x : Str) : Prop := (envX cn cs L a ccd []).kindOf x = some .local ∧ (x == ("__debug__" : Str)) = false
theorem bk_setdefault {Q : Value → Shared → Prop} {x y z : Str} {px py pz ap pos : Pos} (hp : (ap.endLine == pos.line) = true) (C : Ctx w p loose mean mg mb A₀ base outer h₀ cs dp un) (F : Fr h₀ L s.heap m) (N : News h₀ L s.heap news) (Bk : Book news b kv nm c od es n) (U : ∀ es' n', Upd b (dob c od es n) (dob c od es' n') news (news' es' n')) (H : Ent PySem.Challenge.rw_be0018_01.row.prog w es D) (hz : D.length < 64) (hbm : (b == sysModules) = false)
    (mx : m x = some (.ref b)) (my : m y = some kv) (mz : m z = some v) (lx : lcl cn cs L a ccd x) (ly : lcl cn cs L a ccd y) (lz : lcl cn cs L a ccd z)
    (ret : ∀ es' n' h' tk', Ent PySem.Challenge.rw_be0018_01.row.prog w es' (defaulted D nm v) → Fr h₀ L h' m → News h₀ L h' (news' es' n') → Q ((valueAt D nm).getD v) { s with heap := h', toks := tk' }) :
    wpAny (model PySem.Challenge.rw_be0018_01.row.prog w) (ktrTop dp un gd cn cs L a ccd [] outer) (eval (.Call (.Attribute (.Name x px) (Str.ofString "setdefault") ap) [.Name y py, .Name z pz] [] pos) (envX cn cs L a ccd [])) Q E s := by
  refine MethodCall_ (nameX_L F mx ?_ C.hk lx.1 lx.2) (method_eq hp rfl)
  cases Bk with
  | cd h1 h2 hkv hlen hup =>
    subst hup
    refine method_cd (C.X.keeps F.keep) (inst_cd N h1 h2) kf_ga kf_hook kf_sdf kf_sdf_ty (.inl rfl) (by rfl) ?_
    refine callWith_K C.X kf_sdf_k (spliced_more (nameX_L F my (spliced_more (nameX_L F mz (spliced_none ⟨C.X.keeps F.keep, ?_⟩) C.hk lz.1 lz.2)) C.hk ly.1 ly.2))
    exact setdefault_c C.B F C.X N C.T C.hk (by have := C.hdp; omega) (by have := C.hu; omega) h1 h2 U H hz hbm hkv hlen ret
  | dict h1 hkv =>
    subst hkv
    have hT : s.TypeIs (.ref b) "dict" := ⟨_, (N _ h1).1, rfl⟩
    refine getMethod_builtin hT PySem.F.plainAttrs_dict PySem.F.slot_dict_setdefault PySem.F.type_dict_setdefault (fun o e => by cases e; exact ⟨_, (N _ h1).1, rfl⟩) ?_
    refine callWith_method1 (spliced_more (nameX_L F my (spliced_more (nameX_L F mz (spliced_none ?_) C.hk lz.1 lz.2)) C.hk ly.1 ly.2))
    refine wpAny_call_entry PySem.F.slot_dict_setdefault hT PySem.F.entry_dict_setdefault ?_ (PySem.F.args_dict_setdefault_3 _ _ _)
    exact b_setdefault hbm (noOrd_dict (N _ h1).1) F N U H hz fun es' n' h' H' F' N' => ret es' n' h' _ H' F' N'
theorem bk_pop {Q : Value → Shared → Prop} {x y : Str} {px py pz ap pos : Pos} {kk : Nat} (hp : (ap.endLine == pos.line) = true) (C : Ctx w p loose mean mg mb A₀ base outer h₀ cs dp un) (F : Fr h₀ L s.heap m) (N : News h₀ L s.heap news) (Bk : Book news b kv nm c od es n) (U : ∀ es' n', Upd b (dob c od es n) (dob c od es' n') news (news' es' n')) (H : Ent PySem.Challenge.rw_be0018_01.row.prog w es D) (hbm : (b == sysModules) = false)
    (mx : m x = some (.ref b)) (my : m y = some kv) (lx : lcl cn cs L a ccd x) (ly : lcl cn cs L a ccd y)
    (ret0 : valueAt D nm = none → ∀ h' tk', Fr h₀ L h' m → News h₀ L h' news → Q .none { s with heap := h', toks := tk' })
    (ret : ∀ u es' n' h' tk', valueAt D nm = some u → Ent PySem.Challenge.rw_be0018_01.row.prog w es' (without D nm) → Fr h₀ L h' m → News h₀ L h' (news' es' n') → Q u { s with heap := h', toks := tk' }) :
    wpAny (model PySem.Challenge.rw_be0018_01.row.prog w) (ktrTop dp un gd cn cs L a ccd [] outer) (eval (.Call (.Attribute (.Name x px) (Str.ofString "pop") ap) [.Name y py, .Constant .none kk pz] [] pos) (envX cn cs L a ccd [])) Q E s := by
  refine MethodCall_ (nameX_L F mx ?_ C.hk lx.1 lx.2) (method_eq hp rfl)
  cases Bk with
  | cd h1 h2 hkv hlen hup =>
    subst hup
    refine method_cd (C.X.keeps F.keep) (inst_cd N h1 h2) kf_ga kf_hook kf_pop kf_pop_ty (.inl rfl) (by rfl) ?_
    refine callWith_K C.X kf_pop_k (spliced_more (nameX_L F my (spliced_more (wpAny_Constant_none (spliced_none ⟨C.X.keeps F.keep, ?_⟩))) C.hk ly.1 ly.2))
    exact pop_c C.B F C.X N C.T C.hk (by have := C.hdp; omega) (by have := C.hu; omega) h1 h2 U H hbm hkv hlen ret0 ret
  | dict h1 hkv =>
    subst hkv
    have hT : s.TypeIs (.ref b) "dict" := ⟨_, (N _ h1).1, rfl⟩
    refine getMethod_builtin hT PySem.F.plainAttrs_dict PySem.F.slot_dict_pop PySem.F.type_dict_pop (fun o e => by cases e; exact ⟨_, (N _ h1).1, rfl⟩) ?_
    refine callWith_method1 (spliced_more (nameX_L F my (spliced_more (wpAny_Constant_none (spliced_none ?_))) C.hk ly.1 ly.2))
    refine wpAny_call_entry PySem.F.slot_dict_pop hT PySem.F.entry_dict_pop ?_ (PySem.F.args_dict_pop_3 _ _ _)
    exact b_pop hbm (noOrd_dict (N _ h1).1) F N U H (fun hv => ret0 hv _ _ F N) fun u es' n' h' hv H' F' N' => ret u es' n' h' _ hv H' F' N'
theorem bk_popitem {Q : Value → Shared → Prop} {x : Str} {px ap pos : Pos} (hp : (ap.endLine == pos.line) = true) (C : Ctx w p loose mean mg mb A₀ base outer h₀ cs dp un) (F : Fr h₀ L s.heap m) (N : News h₀ L s.heap news) (Bk : Book news b kv nm c od es n) (U : ∀ es' n', Upd b (dob c od es n) (dob c od es' n') news (news' es' n')) (H : Ent PySem.Challenge.rw_be0018_01.row.prog w es D) (hbm : (b == sysModules) = false)
    (mx : m x = some (.ref b)) (lx : lcl cn cs L a ccd x)
    (ret : ∀ kv t' q es' n' h' tk', D.getLast? = some kv → Ent PySem.Challenge.rw_be0018_01.row.prog w es' D.dropLast → Fr h₀ L h' m → News h₀ L h' ((q, { cls := .type "tuple", data := .seq #[.str kv.1 t', kv.2] }) :: news' es' n') → (∀ p ∈ news' es' n', p.1 < q) → Q (.ref q) { s with heap := h', toks := tk' })
    (retE : D = [] → ∀ ev h' tk', Flew base (envX cn cs L a ccd []) outer h₀ L m news ev { s with heap := h', toks := tk' } → E ev { s with heap := h', toks := tk' }) :
    wpAny (model PySem.Challenge.rw_be0018_01.row.prog w) (ktrTop dp un gd cn cs L a ccd [] outer) (eval (.Call (.Attribute (.Name x px) (Str.ofString "popitem") ap) [] [] pos) (envX cn cs L a ccd [])) Q E s := by
  refine MethodCall_ (nameX_L F mx ?_ C.hk lx.1 lx.2) (method_eq hp rfl)
  cases Bk with
  | cd h1 h2 hkv hlen hup =>
    subst hup
    refine method_cd (C.X.keeps F.keep) (inst_cd N h1 h2) kf_ga kf_hook kf_popi kf_popi_ty (.inl rfl) (by rfl) ?_
    refine callWith_K0 (C.X.keeps F.keep) kf_popi_k ?_
    exact popitem_c C.B F C.X N C.T C.hk (by have := C.hdp; omega) (by have := C.hu; omega) h1 h2 U H hbm ret
      (fun hv g' h' tk' e x1 x2 x3 => retE hv _ _ _ ⟨e, rfl, .inl ⟨g', x1, x2, x3⟩⟩)
  | dict h1 hkv =>
    subst hkv
    have hT : s.TypeIs (.ref b) "dict" := ⟨_, (N _ h1).1, rfl⟩
    refine getMethod_builtin hT PySem.F.plainAttrs_dict PySem.F.slot_dict_popitem PySem.F.type_dict_popitem (fun o e => by cases e; exact ⟨_, (N _ h1).1, rfl⟩) ?_
    refine callWith_method0 ?_
    refine wpAny_call_entry PySem.F.slot_dict_popitem hT PySem.F.entry_dict_popitem ?_ (PySem.F.args_dict_popitem_1 _)
    exact b_popitem (A := (ktrTop dp un gd cn cs L a ccd [] outer).in1) hbm rfl (noOrd_dict (N _ h1).1) F N U H (fun hv h' tk e hx => retE hv _ _ _ ⟨e, rfl, .inr ⟨s.heap, hx, F, N⟩⟩) fun kv t' es' n' h' q x1 x2 x3 x4 x5 => ret kv t' q es' n' h' _ x1 x2 x3 x4 x5
end
end Mine
end
section
open PySem PySem.W PySem.Calls PyProof.Rows
set_option Elab.async false
set_option maxRecDepth 100000
set_option maxHeartbeats 1000000
set_option linter.unusedVariables false
set_option pp.maxSteps 3000
set_option pp.deepTerms false
set_option pp.deepTerms.threshold 6
namespace Mine
theorem ns_dict {P} : nsIn (Mine.hd.heap_39 P) mainGlobals (Str.ofString "dict") = some none := by kernel_rfl
theorem bb_dict : bootBuiltins (Str.ofString "dict") = some (.type "dict") := by decide +kernel
section
variable {prog : Program} {w : World} {A : Around} {cn : Str} {cs : Scope} {a : Addr} {ccd : Value} {cl : List (Str × Addr)} {h₀ : Heap} {L : Addr} {m mg mb : Str → Option Value} {p : Program} {loose : List Str} {news : List (Addr × Obj)} {s : Shared} {E : Value → Shared → Prop} {d : Addr} {c : Value} {od : Option Addr} {es : List DictEntry} {n : Nat} {D : List (Str × Value)}
theorem Src.sub {news' : List (Addr × Obj)} (S : Src news d c od es n) (h : ∀ q ∈ news, q ∈ news') : Src news' d c od es n := by
  cases S with
  | dict q => exact .dict (h _ q)
  | cd q1 q2 => exact .cd (h _ q1) (h _ q2)
theorem items_of {Q : Value → Shared → Prop} {x : Str} {px ap pos : Pos} (hp : (ap.endLine == pos.line) = true) (S : Src news d c od es n) (hdm : (d == sysModules) = false) (F : Fr h₀ L s.heap m) (N : News h₀ L s.heap news) (X : (Mine.hd.heap_39 w.params).In h₀)
    (ev : ∀ Q' : Value → Shared → Prop, Q' (.ref d) s → wpAny (model prog w) A (eval (.Name x px) (envX cn cs L a ccd cl)) Q' E s)
    (hq : ∀ v h', Fr h₀ L h' m → News h₀ L h' ((v, { cls := .type "dict_items", data := .fields #[.ref d] }) :: news) → (∀ p ∈ news, p.1 < v) → Q (.ref v) { s with heap := h' }) :
    wpAny (model prog w) A (eval (.Call (.Attribute (.Name x px) (Str.ofString "items") ap) [] [] pos) (envX cn cs L a ccd cl)) Q E s := by
  refine MethodCall_ (ev _ ?_) (method_eq hp rfl)
  refine S.method F N X ?_
  exact callWith_method0 (S.items hdm F N X hq)
theorem keys_of {Q : Value → Shared → Prop} {x : Str} {px ap pos : Pos} (hp : (ap.endLine == pos.line) = true) (S : Src news d c od es n) (hdm : (d == sysModules) = false) (F : Fr h₀ L s.heap m) (N : News h₀ L s.heap news) (X : (Mine.hd.heap_39 w.params).In h₀)
    (ev : ∀ Q' : Value → Shared → Prop, Q' (.ref d) s → wpAny (model prog w) A (eval (.Name x px) (envX cn cs L a ccd cl)) Q' E s)
    (hq : ∀ v h', Fr h₀ L h' m → News h₀ L h' ((v, { cls := .type "dict_keys", data := .fields #[.ref d] }) :: news) → (∀ p ∈ news, p.1 < v) → Q (.ref v) { s with heap := h' }) :
    wpAny (model prog w) A (eval (.Call (.Attribute (.Name x px) (Str.ofString "keys") ap) [] [] pos) (envX cn cs L a ccd cl)) Q E s := by
  refine MethodCall_ (ev _ ?_) (method_eq hp rfl)
  refine S.method_keys F N X ?_
  exact callWith_method0 (S.keys hdm F N X hq)
noncomputable abbrev bltn (cn : Str) (cs : Scope) (L a : Addr) (ccd : Value) (cl : List (Str × Addr)) (x : Str) : Prop := (envX cn cs L a ccd cl).kindOf x = some .globalImplicit
/-- dict(NAME.items()) -/
theorem dict_of {Q : Value → Shared → Prop} {x : Str} {p1 px ap ip pos : Pos} (hh : A.handled = none) (hk : cs.kind = .function) (hp : (ap.endLine == ip.line) = true) (S : Src news d c od es n) (hdm : (d == sysModules) = false) (F : Fr h₀ L s.heap m) (N : News h₀ L s.heap news) (X : (Mine.hd.heap_39 w.params).In h₀) (T : TopRead p loose mg mb h₀)
    (H : Ent prog w es D) (hz : D.length < 64) (hb : bltn cn cs L a ccd cl (Str.ofString "dict"))
    (ev : ∀ (Q' E' : Value → Shared → Prop), Q' (.ref d) s → wpAny (model prog w) A (eval (.Name x px) (envX cn cs L a ccd cl)) Q' E' s)
    (h : ∀ S es2 n2 h' tk, Ent prog w es2 D → Fr h₀ L h' m → News h₀ L h' ((S, dictOf es2 n2) :: news) → (∀ q ∈ news, q.1 < S) → (S == sysModules) = false → Q (.ref S) { s with heap := h', toks := tk }) :
    wpAny (model prog w) A (eval (.Call (.Name (Str.ofString "dict") p1) [.Call (.Attribute (.Name x px) (Str.ofString "items") ap) [] [] ip] [] pos) (envX cn cs L a ccd cl)) Q E s := by
  refine Call_ (nameX_B F X T ns_dict bb_dict (by decide) ?_ hk hb (by decide))
  refine PyProof.Rows.callWith_type1 (spliced_more (items_of hp S hdm F N X (fun Q' => ev Q' _) fun v h1 F1 N1 l1 => spliced_none ?_))
  refine dict_items (s := { s with heap := h1 }) hh F1 N1 (List.Mem.head _) (List.Mem.tail _ S.at_) H hz T.nolimit fun S es2 n2 h2 tk2 H2 F2 N2 l2 sm => ?_
  refine h S es2 n2 h2 tk2 H2 F2 (cb_drop N2 fun q hq => ?_) (fun q hq => l2 q (List.Mem.tail _ hq)) sm
  rcases List.mem_cons.mp hq with rfl | hq
  · exact List.Mem.head _
  · exact List.Mem.tail _ (List.Mem.tail _ hq)
/-- list(NAME.items()) -/
theorem list_items_of {Q : Value → Shared → Prop} {x : Str} {p1 px ap ip pos : Pos} (hh : A.handled = none) (hk : cs.kind = .function) (hp : (ap.endLine == ip.line) = true) (S : Src news d c od es n) (hdm : (d == sysModules) = false) (F : Fr h₀ L s.heap m) (N : News h₀ L s.heap news) (X : (Mine.hd.heap_39 w.params).In h₀) (T : TopRead p loose mg mb h₀)
    (hz : es.length ≤ 1000) (hb : bltn cn cs L a ccd cl (Str.ofString "list"))
    (ev : ∀ (Q' E' : Value → Shared → Prop), Q' (.ref d) s → wpAny (model prog w) A (eval (.Name x px) (envX cn cs L a ccd cl)) Q' E' s)
    (h : ∀ D cnt h' tk as, as.length = es.length → as.Pairwise (· < ·) → (∀ a ∈ as, D < a) → Fr h₀ L h' m → News h₀ L h' (tupsOf es as ++ (D, listOf (as.map Value.ref).toArray cnt) :: news) → (∀ q ∈ news, q.1 < D) → Q (.ref D) { s with heap := h', toks := tk }) :
    wpAny (model prog w) A (eval (.Call (.Name (Str.ofString "list") p1) [.Call (.Attribute (.Name x px) (Str.ofString "items") ap) [] [] ip] [] pos) (envX cn cs L a ccd cl)) Q E s := by
  refine Call_ (nameX_B F X T ns_list bb_list (by decide) ?_ hk hb (by decide))
  refine PyProof.Rows.callWith_type1 (spliced_more (items_of hp S hdm F N X (fun Q' => ev Q' _) fun v h1 F1 N1 l1 => spliced_none ?_))
  refine list_items (s := { s with heap := h1 }) hh F1 N1 (List.Mem.head _) (List.Mem.tail _ S.at_) hz fun D cnt h2 tk2 as a1 a2 a3 F2 N2 l2 => ?_
  refine h D cnt h2 tk2 as a1 a2 a3 F2 (cb_drop N2 fun q hq => ?_) (fun q hq => l2 q (List.Mem.tail _ hq))
  rcases List.mem_append.mp hq with hq | hq
  · exact List.mem_append_left _ hq
  · rcases List.mem_cons.mp hq with rfl | hq
    · exact List.mem_append_right _ (List.Mem.head _)
    · exact List.mem_append_right _ (List.Mem.tail _ (List.Mem.tail _ hq))
/-- list(NAME.keys()) -/
theorem list_keys_of {Q : Value → Shared → Prop} {x : Str} {p1 px ap ip pos : Pos} (hh : A.handled = none) (hk : cs.kind = .function) (hp : (ap.endLine == ip.line) = true) (S : Src news d c od es n) (hdm : (d == sysModules) = false) (F : Fr h₀ L s.heap m) (N : News h₀ L s.heap news) (X : (Mine.hd.heap_39 w.params).In h₀) (T : TopRead p loose mg mb h₀)
    (hz : es.length ≤ 1000) (hb : bltn cn cs L a ccd cl (Str.ofString "list"))
    (ev : ∀ (Q' E' : Value → Shared → Prop), Q' (.ref d) s → wpAny (model prog w) A (eval (.Name x px) (envX cn cs L a ccd cl)) Q' E' s)
    (h : ∀ D cnt h' tk, Fr h₀ L h' m → News h₀ L h' ((D, listOf (es.map (·.key)).toArray cnt) :: news) → (∀ q ∈ news, q.1 < D) → Q (.ref D) { s with heap := h', toks := tk }) :
    wpAny (model prog w) A (eval (.Call (.Name (Str.ofString "list") p1) [.Call (.Attribute (.Name x px) (Str.ofString "keys") ap) [] [] ip] [] pos) (envX cn cs L a ccd cl)) Q E s := by
  refine Call_ (nameX_B F X T ns_list bb_list (by decide) ?_ hk hb (by decide))
  refine PyProof.Rows.callWith_type1 (spliced_more (keys_of hp S hdm F N X (fun Q' => ev Q' _) fun v h1 F1 N1 l1 => spliced_none ?_))
  refine list_keys (s := { s with heap := h1 }) hh F1 N1 (List.Mem.head _) (List.Mem.tail _ S.at_) hz fun D cnt h2 tk2 F2 N2 l2 => ?_
  refine h D cnt h2 tk2 F2 (cb_drop N2 fun q hq => ?_) (fun q hq => l2 q (List.Mem.tail _ hq))
  rcases List.mem_cons.mp hq with rfl | hq
  · exact List.Mem.head _
  · exact List.Mem.tail _ (List.Mem.tail _ hq)
end
end Mine
end
section
open PySem PySem.W PySem.Spec PySem.Calls PyProof.Rows
set_option Elab.async false
set_option maxRecDepth 100000
set_option maxHeartbeats 1000000
set_option linter.unusedVariables false
set_option pp.maxSteps 3000
set_option pp.deepTerms false
set_option pp.deepTerms.threshold 6
namespace Mine
/-- what a deed hands back, and the rows behind it -/
inductive RowT
  | txt (x : Str)
  | val (u : Value)
  | pair (k : Str) (u : Value)
noncomputable def deedOf (k : Int) (D : List (Str × Value)) (nm : Str) (v : Value) : RowT × List (Str × Value) :=
  if k = 0 then (.txt (Str.ofString "set"), stored D nm v)
  else if k = 1 then (if (valueAt D nm).isSome then (.txt (Str.ofString "gone"), without D nm) else (.txt (Str.ofString "KeyError"), D))
  else if k = 2 then (match valueAt D nm with | some u => (.val u, D) | none => (.txt (Str.ofString "KeyError"), D))
  else if k = 3 then (.val ((valueAt D nm).getD v), defaulted D nm v)
  else if k = 4 then (match valueAt D nm with | some u => (.val u, without D nm) | none => (.val .none, D))
  else if k = 5 then (match D.getLast? with | some kv => (.pair kv.1 kv.2, D.dropLast) | none => (.txt (Str.ofString "KeyError"), D))
  else (.txt (Str.ofString "updated"), stored D nm v)
inductive RowIs (nw : List (Addr × Obj)) : RowT → Value → Prop
  | txt {x : Str} {t : Tok} : RowIs nw (.txt x) (.str x t)
  | val {u : Value} : RowIs nw (.val u) u
  | pair {k : Str} {t : Tok} {u : Value} {q : Addr} : (q, ({ cls := .type "tuple", data := .seq #[.str k t, u] } : Obj)) ∈ nw → RowIs nw (.pair k u) (.ref q)
structure Loc (m : Str → Option Value) (b : Addr) (kv : Value) (l : Addr) (k : Int) (tt : Tok) (v : Value) : Prop where
  book : m (Str.ofString "book") = some (.ref b)
  at_ : m (Str.ofString "at") = some kv
  rows : m (Str.ofString "rows") = some (.ref l)
  kind : m (Str.ofString "kind") = some (.int k tt)
  value : m (Str.ofString "value") = some v
structure Scp (cn : Str) (cs : Scope) (L a : Addr) (ccd : Value) : Prop where
  book : lcl cn cs L a ccd (Str.ofString "book")
  at_ : lcl cn cs L a ccd (Str.ofString "at")
  rows : lcl cn cs L a ccd (Str.ofString "rows")
  kind : lcl cn cs L a ccd (Str.ofString "kind")
  value : lcl cn cs L a ccd (Str.ofString "value")
section
variable {prog : Program} {w : World} {A : Around} {cn : Str} {cs : Scope} {a : Addr} {ccd : Value} {h₀ : Heap} {L : Addr} {m : Str → Option Value} {news : List (Addr × Obj)} {s : Shared} {E : Value → Shared → Prop}
theorem if_eq {x : Str} {k i : Int} {tt : Tok} {kk : Nat} {p1 p2 p3 p4 : Pos} {body orelse : List Stmt} {Q : Flow → Shared → Prop} (F : Fr h₀ L s.heap m) (hk : cs.kind = .function) (lx : lcl cn cs L a ccd x) (mx : m x = some (.int k tt))
    (h : if k = i then wpAny (model prog w) A (execs body (envX cn cs L a ccd [])) Q E { s with toks := s.toks + 1 } else wpAny (model prog w) A (execs orelse (envX cn cs L a ccd [])) Q E { s with toks := s.toks + 1 }) :
    wpAny (model prog w) A (exec (.If (.Compare (.Name x p1) [.Eq] [.Constant (.int i) kk p2] p3) body orelse p4) (envX cn cs L a ccd [])) Q E s := by
  refine wpAny_If (wpAny_isTrue_Compare1 (nameX_L F mx (wpAny_Constant_int (PyProof.Rows.eq_int (wpAny_truthy_bool ?_))) hk lx.1 lx.2))
  by_cases e : k = i
  · rw [if_pos e] at h
    rw [if_pos (by simp [e])]
    exact h
  · rw [if_neg e] at h
    rw [if_neg (by simp [e])]
    exact h
theorem rows_append {x : Str} {l : Addr} {rows : List Value} {cnt : Nat} {e : Expr} {px ap pos pos' : Pos} {Q : Flow → Shared → Prop} (hp : (ap.endLine == pos.line) = true) (hf : methodCallForm 1 (backTo pos (starEach [e] (envX cn cs L a ccd []))) [] = true) (hse : starEach [e] (envX cn cs L a ccd []) = [(false, eval e (envX cn cs L a ccd []))])
    (F : Fr h₀ L s.heap m) (N : News h₀ L s.heap news) (hl : (l, listOf rows.toArray cnt) ∈ news) (hz : rows.length ≤ 1000) (hk : cs.kind = .function) (lx : lcl cn cs L a ccd x) (mx : m x = some (.ref l))
    (h : wpAny (model prog w) A (eval e (envX cn cs L a ccd [])) (fun v s₁ => ∃ nw₁ nw₂, Fr h₀ L s₁.heap m ∧ News h₀ L s₁.heap nw₁ ∧ Upd l (listOf rows.toArray cnt) (listOf (rows ++ [v]).toArray (cnt + 1)) nw₁ nw₂ ∧
      ∀ h', Fr h₀ L h' m → News h₀ L h' nw₂ → Q .next { s₁ with heap := h' }) E s)
    (hi : interactive (envX cn cs L a ccd []) = false) (hs : swapsWith (.Call (.Attribute (.Name x px) (Str.ofString "append") ap) [e] [] pos) none pos'.line (envX cn cs L a ccd []) = pure false) :
    wpAny (model prog w) A (exec (.Expr (.Call (.Attribute (.Name x px) (Str.ofString "append") ap) [e] [] pos) pos') (envX cn cs L a ccd [])) Q E s := by
  have hT : s.TypeIs (.ref l) "list" := ⟨_, (N _ hl).1, rfl⟩
  refine wpAny_Expr (MethodCall_ (nameX_L F mx ?_ hk lx.1 lx.2) (method_eq hp hf)) hi hs
  refine getMethod_builtin hT PySem.F.plainAttrs_list PySem.F.slot_list_append PySem.F.type_list_append (fun o e => by cases e; exact ⟨_, (N _ hl).1, rfl⟩) ?_
  refine callWith_method1 (spliced_more (wpAny_mono h (fun v s₁ h₁ => spliced_none ?_) fun _ _ x => x) hse) hse
  obtain ⟨nw₁, nw₂, F₁, N₁, U, fin⟩ := h₁
  exact append_l F₁ N₁ U hz fun h' F' N' => fin h' F' N'
end
end Mine
end
section
open PySem PySem.W PySem.Spec PySem.Calls PyProof.Rows
set_option Elab.async false
set_option maxRecDepth 100000
set_option maxHeartbeats 1000000
set_option linter.unusedVariables false
set_option pp.maxSteps 3000
set_option pp.deepTerms false
set_option pp.deepTerms.threshold 6
namespace Mine
section
variable {w : World} {p : Program} {loose : List Str} {mean : ExcName → Option Value} {mg mb : Str → Option Value} {dp un : Nat} {gd : Option (List Code)} {cn : Str} {cs : Scope} {a : Addr} {ccd : Value} {outer : List Env} {A₀ : Around} {base h₀ : Heap} {L : Addr} {m : Str → Option Value} {s : Shared} {E : Value → Shared → Prop}
  {b l : Addr} {kv : Value} {nm : Str} {c : Value} {od : Option Addr} {es : List DictEntry} {n : Nat} {D : List (Str × Value)} {v : Value} {nwf : List Value → Nat → List DictEntry → Nat → List (Addr × Obj)} {rows : List Value} {cnt : Nat} {tt : Tok} {k : Int} {Q : Flow → Shared → Prop}
/-- what a turn of the deed stands on -/
structure Turn (w : World) (p : Program) (loose : List Str) (mean : ExcName → Option Value) (mg mb : Str → Option Value) (A₀ : Around) (base : Heap) (outer : List Env) (h₀ : Heap) (cn : Str) (cs : Scope) (L a : Addr) (ccd : Value) (dp un : Nat) (m : Str → Option Value) (h : Heap)
    (b l : Addr) (kv : Value) (nm : Str) (c : Value) (od : Option Addr) (es : List DictEntry) (n : Nat) (D : List (Str × Value)) (v : Value) (nwf : List Value → Nat → List DictEntry → Nat → List (Addr × Obj)) (rows : List Value) (cnt : Nat) (tt : Tok) (k : Int) : Prop where
  C : Ctx w p loose mean mg mb A₀ base outer h₀ cs dp un
  S : Scp cn cs L a ccd
  M : Loc m b kv l k tt v
  F : Fr h₀ L h m
  N : News h₀ L h (nwf rows cnt es n)
  Bk : Book (nwf rows cnt es n) b kv nm c od es n
  UL : ∀ rows c rows' c' es n, Upd l (listOf (List.toArray rows) c) (listOf (List.toArray rows') c') (nwf rows c es n) (nwf rows' c' es n)
  UB : ∀ rows cnt es n es' n', Upd b (dob c od es n) (dob c od es' n') (nwf rows cnt es n) (nwf rows cnt es' n')
  H : Ent PySem.Challenge.rw_be0018_01.row.prog w es D
  hz : D.length < 64
  hr : rows.length ≤ 1000
  hb : (b == sysModules) = false
noncomputable abbrev Ret (w : World) (h₀ : Heap) (L : Addr) (m : Str → Option Value) (s : Shared) (nm : Str) (D : List (Str × Value)) (v : Value) (nwf : List Value → Nat → List DictEntry → Nat → List (Addr × Obj)) (rows : List Value) (cnt : Nat) (k : Int) (Q : Flow → Shared → Prop) : Prop :=
  ∀ h' tk' r es' n' xs, Fr h₀ L h' m → News h₀ L h' (xs ++ nwf (rows ++ [r]) (cnt + 1) es' n') → RowIs xs (deedOf k D nm v).1 r → Ent PySem.Challenge.rw_be0018_01.row.prog w es' (deedOf k D nm v).2 →
    (∀ q ∈ xs, ∀ p ∈ nwf (rows ++ [r]) (cnt + 1) es' n', p.1 < q.1) → Q .next { s with heap := h', toks := tk' }
noncomputable abbrev RetE (base : Heap) (outer : List Env) (cn : Str) (cs : Scope) (L a : Addr) (ccd : Value) (h₀ : Heap) (m : Str → Option Value) (s : Shared) (nm : Str) (D : List (Str × Value)) (v : Value) (news : List (Addr × Obj)) (k : Int) (E : Value → Shared → Prop) : Prop :=
  ∀ ev h' tk', Flew base (envX cn cs L a ccd []) outer h₀ L m news ev { s with heap := h', toks := tk' } → deedOf k D nm v = (.txt (Str.ofString "KeyError"), D) → E ev { s with heap := h', toks := tk' }
variable (T : Turn w p loose mean mg mb A₀ base outer h₀ cn cs L a ccd dp un m s.heap b l kv nm c od es n D v nwf rows cnt tt k)
theorem body_0 {p1 p2 p3 p4 p5 p6 p7 p8 p9 p10 : Pos} {kk : Nat} (T : Turn w p loose mean mg mb A₀ base outer h₀ cn cs L a ccd dp un m s.heap b l kv nm c od es n D v nwf rows cnt tt k) (hk : k = 0) (hp : (p7.endLine == p9.line) = true) (ret : Ret w h₀ L m s nm D v nwf rows cnt k Q) (hi : interactive (envX cn cs L a ccd []) = false) :
    wpAny (model PySem.Challenge.rw_be0018_01.row.prog w) (ktrTop dp un gd cn cs L a ccd [] outer) (execs [.Assign [.Subscript (.Name (Str.ofString "book") p1) (.Name (Str.ofString "at") p2) p3] (.Name (Str.ofString "value") p4) p5,
      .Expr (.Call (.Attribute (.Name (Str.ofString "rows") p6) (Str.ofString "append") p7) [.Constant (.str (Str.ofString "set")) kk p8] [] p9) p10] (envX cn cs L a ccd [])) Q E s := by
  subst hk
  obtain ⟨C, S, M, F, N, Bk, UL, UB, H, hz, hr, hb⟩ := T
  refine wpAny_execs_cons (wpAny_Assign_Subscript (nameX_L F M.value (nameX_L F M.book (nameX_L F M.at_ ?_ C.hk S.at_.1 S.at_.2) C.hk S.book.1 S.book.2) C.hk S.value.1 S.value.2))
  refine bk_set (news' := fun es' n' => nwf rows cnt es' n') C F N Bk (fun es' n' => UB rows cnt es n es' n') H hz fun es' n' h' tk' H' F' N' => ?_
  refine wpAny_execs_cons (rows_append (hs := by rfl) hp rfl rfl F' N' (upd_mem (UL rows cnt rows cnt es' n')) hr C.hk S.rows M.rows ?_ hi)
  refine wpAny_Constant_str ⟨_, _, F', N', UL _ _ _ _ _ _, fun h'' F'' N'' => wpAny_execs_nil ?_⟩
  exact ret h'' _ _ es' n' [] F'' N'' .txt H' (fun q hq => nomatch hq)
theorem body_1 {p1 p2 p3 p5 p6 p7 p8 p9 p10 : Pos} {kk : Nat} (T : Turn w p loose mean mg mb A₀ base outer h₀ cn cs L a ccd dp un m s.heap b l kv nm c od es n D v nwf rows cnt tt k) (hk : k = 1) (hp : (p7.endLine == p9.line) = true) (ret : Ret w h₀ L m s nm D v nwf rows cnt k Q) (retE : RetE base outer cn cs L a ccd h₀ m s nm D v (nwf rows cnt es n) k E) (hi : interactive (envX cn cs L a ccd []) = false) :
    wpAny (model PySem.Challenge.rw_be0018_01.row.prog w) (ktrTop dp un gd cn cs L a ccd [] outer) (execs [.Delete [.Subscript (.Name (Str.ofString "book") p1) (.Name (Str.ofString "at") p2) p3] p5,
      .Expr (.Call (.Attribute (.Name (Str.ofString "rows") p6) (Str.ofString "append") p7) [.Constant (.str (Str.ofString "gone")) kk p8] [] p9) p10] (envX cn cs L a ccd [])) Q E s := by
  subst hk
  obtain ⟨C, S, M, F, N, Bk, UL, UB, H, hz, hr, hb⟩ := T
  refine wpAny_execs_cons (wpAny_Delete (wpAny_deleteEach_cons (wpAny_delete_Subscript (nameX_L F M.book (nameX_L F M.at_ ?_ C.hk S.at_.1 S.at_.2) C.hk S.book.1 S.book.2))))
  refine bk_del (news' := fun es' n' => nwf rows cnt es' n') C F N Bk (fun es' n' => UB rows cnt es n es' n') H hb (fun es' n' h' tk' hv H' F' N' => ?_) (fun hv ev h' tk' hf => ?_)
  · refine wpAny_deleteEach_nil (wpAny_execs_cons (rows_append (hs := by rfl) hp rfl rfl F' N' (upd_mem (UL rows cnt rows cnt es' n')) hr C.hk S.rows M.rows ?_ hi))
    refine wpAny_Constant_str ⟨_, _, F', N', UL _ _ _ _ _ _, fun h'' F'' N'' => wpAny_execs_nil ?_⟩
    have e : deedOf 1 D nm v = (.txt (Str.ofString "gone"), without D nm) := by unfold deedOf; rw [if_neg (by decide), if_pos rfl, if_pos hv]
    exact ret h'' _ _ es' n' [] F'' N'' (by rw [e]; exact .txt) (by rw [e]; exact H') (fun q hq => nomatch hq)
  · exact retE ev h' tk' hf (by unfold deedOf; rw [if_neg (by decide), if_pos rfl, if_neg (by rw [hv]; simp)])
theorem body_2 {p1 p2 p3 p6 p7 p9 p10 : Pos} (T : Turn w p loose mean mg mb A₀ base outer h₀ cn cs L a ccd dp un m s.heap b l kv nm c od es n D v nwf rows cnt tt k) (hk : k = 2) (hp : (p7.endLine == p9.line) = true) (ret : Ret w h₀ L m s nm D v nwf rows cnt k Q) (retE : RetE base outer cn cs L a ccd h₀ m s nm D v (nwf rows cnt es n) k E) (hi : interactive (envX cn cs L a ccd []) = false) :
    wpAny (model PySem.Challenge.rw_be0018_01.row.prog w) (ktrTop dp un gd cn cs L a ccd [] outer) (execs [.Expr (.Call (.Attribute (.Name (Str.ofString "rows") p6) (Str.ofString "append") p7) [.Subscript (.Name (Str.ofString "book") p1) (.Name (Str.ofString "at") p2) p3] [] p9) p10] (envX cn cs L a ccd [])) Q E s := by
  subst hk
  obtain ⟨C, S, M, F, N, Bk, UL, UB, H, hz, hr, hb⟩ := T
  refine wpAny_execs_cons (rows_append (hs := by rfl) hp rfl rfl F N (upd_mem (UL rows cnt rows cnt es n)) hr C.hk S.rows M.rows ?_ hi)
  refine Subscript_ (nameX_L F M.book (nameX_L F M.at_ ?_ C.hk S.at_.1 S.at_.2) C.hk S.book.1 S.book.2)
  refine bk_get C F N Bk H hb (fun u h' tk' hv F' N' => ?_) (fun hv ev h' tk' hf => ?_) rfl rfl (fun _ => rfl)
  · refine ⟨_, _, F', N', UL _ _ _ _ _ _, fun h'' F'' N'' => wpAny_execs_nil ?_⟩
    have e : deedOf 2 D nm v = (.val u, D) := by unfold deedOf; rw [if_neg (by decide), if_neg (by decide), if_pos rfl, hv]
    exact ret h'' _ _ es n [] F'' N'' (by rw [e]; exact .val) (by rw [e]; exact H) (fun q hq => nomatch hq)
  · exact retE ev h' tk' hf (by unfold deedOf; rw [if_neg (by decide), if_neg (by decide), if_pos rfl, hv])
theorem body_3 {p1 p2 p3 p4 p5 p6 p7 p9 p10 : Pos} (T : Turn w p loose mean mg mb A₀ base outer h₀ cn cs L a ccd dp un m s.heap b l kv nm c od es n D v nwf rows cnt tt k) (hk : k = 3) (hp : (p7.endLine == p9.line) = true) (hp2 : (p2.endLine == p5.line) = true) (ret : Ret w h₀ L m s nm D v nwf rows cnt k Q) (hi : interactive (envX cn cs L a ccd []) = false) :
    wpAny (model PySem.Challenge.rw_be0018_01.row.prog w) (ktrTop dp un gd cn cs L a ccd [] outer) (execs [.Expr (.Call (.Attribute (.Name (Str.ofString "rows") p6) (Str.ofString "append") p7) [.Call (.Attribute (.Name (Str.ofString "book") p1) (Str.ofString "setdefault") p2) [.Name (Str.ofString "at") p3, .Name (Str.ofString "value") p4] [] p5] [] p9) p10] (envX cn cs L a ccd [])) Q E s := by
  subst hk
  obtain ⟨C, S, M, F, N, Bk, UL, UB, H, hz, hr, hb⟩ := T
  refine wpAny_execs_cons (rows_append (hs := by rfl) hp rfl rfl F N (upd_mem (UL rows cnt rows cnt es n)) hr C.hk S.rows M.rows ?_ hi)
  refine bk_setdefault (news' := fun es' n' => nwf rows cnt es' n') hp2 C F N Bk (fun es' n' => UB rows cnt es n es' n') H hz hb M.book M.at_ M.value S.book S.at_ S.value fun es' n' h' tk' H' F' N' => ?_
  exact ⟨_, _, F', N', UL _ _ _ _ _ _, fun h'' F'' N'' => wpAny_execs_nil (ret h'' _ _ es' n' [] F'' N'' .val H' (fun q hq => nomatch hq))⟩
theorem body_4 {p1 p2 p3 p4 p5 p6 p7 p9 p10 : Pos} {kk : Nat} (T : Turn w p loose mean mg mb A₀ base outer h₀ cn cs L a ccd dp un m s.heap b l kv nm c od es n D v nwf rows cnt tt k) (hk : k = 4) (hp : (p7.endLine == p9.line) = true) (hp2 : (p2.endLine == p5.line) = true) (ret : Ret w h₀ L m s nm D v nwf rows cnt k Q) (hi : interactive (envX cn cs L a ccd []) = false) :
    wpAny (model PySem.Challenge.rw_be0018_01.row.prog w) (ktrTop dp un gd cn cs L a ccd [] outer) (execs [.Expr (.Call (.Attribute (.Name (Str.ofString "rows") p6) (Str.ofString "append") p7) [.Call (.Attribute (.Name (Str.ofString "book") p1) (Str.ofString "pop") p2) [.Name (Str.ofString "at") p3, .Constant .none kk p4] [] p5] [] p9) p10] (envX cn cs L a ccd [])) Q E s := by
  subst hk
  obtain ⟨C, S, M, F, N, Bk, UL, UB, H, hz, hr, hb⟩ := T
  refine wpAny_execs_cons (rows_append (hs := by rfl) hp rfl rfl F N (upd_mem (UL rows cnt rows cnt es n)) hr C.hk S.rows M.rows ?_ hi)
  refine bk_pop (news' := fun es' n' => nwf rows cnt es' n') hp2 C F N Bk (fun es' n' => UB rows cnt es n es' n') H hb M.book M.at_ S.book S.at_ (fun hv h' tk' F' N' => ?_) (fun u es' n' h' tk' hv H' F' N' => ?_)
  · refine ⟨_, _, F', N', UL _ _ _ _ _ _, fun h'' F'' N'' => wpAny_execs_nil ?_⟩
    have e : deedOf 4 D nm v = (.val .none, D) := by unfold deedOf; rw [if_neg (by decide), if_neg (by decide), if_neg (by decide), if_neg (by decide), if_pos rfl, hv]
    exact ret h'' _ _ es n [] F'' N'' (by rw [e]; exact .val) (by rw [e]; exact H) (fun q hq => nomatch hq)
  · refine ⟨_, _, F', N', UL _ _ _ _ _ _, fun h'' F'' N'' => wpAny_execs_nil ?_⟩
    have e : deedOf 4 D nm v = (.val u, without D nm) := by unfold deedOf; rw [if_neg (by decide), if_neg (by decide), if_neg (by decide), if_neg (by decide), if_pos rfl, hv]
    exact ret h'' _ _ es' n' [] F'' N'' (by rw [e]; exact .val) (by rw [e]; exact H') (fun q hq => nomatch hq)
theorem body_5 {p1 p2 p5 p6 p7 p9 p10 : Pos} (T : Turn w p loose mean mg mb A₀ base outer h₀ cn cs L a ccd dp un m s.heap b l kv nm c od es n D v nwf rows cnt tt k) (hk : k = 5) (hp : (p7.endLine == p9.line) = true) (hp2 : (p2.endLine == p5.line) = true) (ret : Ret w h₀ L m s nm D v nwf rows cnt k Q) (retE : RetE base outer cn cs L a ccd h₀ m s nm D v (nwf rows cnt es n) k E) (hi : interactive (envX cn cs L a ccd []) = false) :
    wpAny (model PySem.Challenge.rw_be0018_01.row.prog w) (ktrTop dp un gd cn cs L a ccd [] outer) (execs [.Expr (.Call (.Attribute (.Name (Str.ofString "rows") p6) (Str.ofString "append") p7) [.Call (.Attribute (.Name (Str.ofString "book") p1) (Str.ofString "popitem") p2) [] [] p5] [] p9) p10] (envX cn cs L a ccd [])) Q E s := by
  subst hk
  obtain ⟨C, S, M, F, N, Bk, UL, UB, H, hz, hr, hb⟩ := T
  refine wpAny_execs_cons (rows_append (hs := by rfl) hp rfl rfl F N (upd_mem (UL rows cnt rows cnt es n)) hr C.hk S.rows M.rows ?_ hi)
  refine bk_popitem (news' := fun es' n' => nwf rows cnt es' n') hp2 C F N Bk (fun es' n' => UB rows cnt es n es' n') H hb M.book S.book (fun kv' t' q es' n' h' tk' hv H' F' N' lq => ?_) (fun hv ev h' tk' hf => ?_)
  · have hlq : q ≠ l := Nat.ne_of_gt (lq _ (upd_mem (UL rows cnt rows cnt es' n')))
    refine ⟨_, (q, { cls := .type "tuple", data := .seq #[.str kv'.1 t', kv'.2] }) :: nwf (rows ++ [.ref q]) (cnt + 1) es' n', F', N', .tail hlq (UL _ _ _ _ _ _), fun h'' F'' N'' => wpAny_execs_nil ?_⟩
    have e : deedOf 5 D nm v = (.pair kv'.1 kv'.2, D.dropLast) := by unfold deedOf; rw [if_neg (by decide), if_neg (by decide), if_neg (by decide), if_neg (by decide), if_neg (by decide), if_pos rfl, hv]
    refine ret h'' _ _ es' n' [(q, { cls := .type "tuple", data := .seq #[.str kv'.1 t', kv'.2] })] F'' N'' (by rw [e]; exact .pair (List.Mem.head _)) (by rw [e]; exact H') (fun q' hq' p hp => ?_)
    rw [List.mem_singleton.mp hq']
    have : p.1 ∈ (nwf rows cnt es' n').map (·.1) := by rw [← upd_keys (UL rows cnt (rows ++ [.ref q]) (cnt + 1) es' n')]; exact List.mem_map_of_mem hp
    obtain ⟨p', hp', e'⟩ := List.mem_map.mp this
    exact e' ▸ lq p' hp'
  · exact retE ev h' tk' hf (by unfold deedOf; rw [if_neg (by decide), if_neg (by decide), if_neg (by decide), if_neg (by decide), if_neg (by decide), if_pos rfl, hv]; rfl)
end
end Mine
end
section
open PySem PySem.W PySem.Spec PySem.Calls PyProof.Rows
set_option Elab.async false
set_option maxRecDepth 100000
set_option maxHeartbeats 1000000
set_option linter.unusedVariables false
set_option pp.maxSteps 3000
set_option pp.deepTerms false
set_option pp.deepTerms.threshold 6
namespace Mine
theorem slot_bytes_hash : Slot "bytes" "__hash__" "bytes.__hash__" :=
  .of (owner := "bytes") (n := "__hash__") (by rw [typeLookup_type, builtinLookup_eq_fast]; kernel_rfl) (by decide +kernel) (by decide +kernel) (by decide +kernel)
    (by first | exact .inl (by decide +kernel) | exact .inr (by decide +kernel)) (by rw [isSubtype_type]; kernel_rfl)
theorem entry_bytes_hash : entryFor table "bytes.__hash__" = some Builtin.«bytes.__hash__» := entryFor_of_tree (by kernel_rfl)
theorem args_bytes_hash (a : Value) : argsOk "bytes.__hash__" ⟨[a], []⟩ := by unfold argsOk; kernel_rfl
section
variable {prog : Program} {w : World} {A : Around} {E : Value → Shared → Prop} {s : Shared}
theorem hash_bytes {b : Array UInt8} {t : Tok} {Q : Int → Shared → Prop} (h : ∀ i, Q i { s with toks := s.toks + 1 }) : wpAny (model prog w) A (pyHash (.bytes b t)) Q E s := by
  have hT : s.TypeIs (.bytes b t) "bytes" := rfl
  unfold pyHash pyHashByItsType
  have hv : [Value.bytes b t].any Value.onHeap = false := rfl
  refine wpAny_bind ?_
  rw [cRoomFor, if_neg (by rw [hv]; exact Bool.false_ne_true)]; refine wpAny_pure ?_
  refine wpAny_bind (wpAny_specialOf hT slot_bytes_hash.lookup ?_)
  rw [if_neg (by rw [beq_builtin_none]; exact Bool.false_ne_true)]
  refine wpAny_bind (wpAny_specialOf hT slot_bytes_hash.lookup ?_)
  refine wpAny_bind (wpAny_callSpecialIfBoundUnlessNone?_slot hT slot_bytes_hash (wpAny_call_entry slot_bytes_hash hT entry_bytes_hash ?_ (args_bytes_hash _)))
  show wpAny _ _ (strHash ⟨b.map (·.toNat)⟩ >>= fun i => (do ret (← mkInt i))) _ _ s
  unfold strHash
  refine wpAny_bind (wpAny_bind (wpAny_askSetting (wpAny_pure (wpAny_ret_mkInt ?_))))
  generalize hgi : (if ((⟨b.map (·.toNat)⟩ : Str).cps.isEmpty = true) then (0 : Int) else reduceHash _) = i
  show wpAny _ _ (pyHashByItsType.reduced i) Q E { s with toks := s.toks + 1 }
  unfold pyHashByItsType.reduced
  split
  · exact wpAny_pure (h _)
  · exact wpAny_bind (wpAny_rule (wpAny_pure (h _)))
/-- a key that can be hashed by its value -/
inductive Hashy : Value → Prop
  | str {x : Str} {t : Tok} : Hashy (.str x t)
  | bytes {b : Array UInt8} {t : Tok} : Hashy (.bytes b t)
theorem Hashy.hash {kv : Value} {Q : Int → Shared → Prop} (H : Hashy kv) (h : ∀ i, (∀ x t, kv = .str x t → i = (strKind prog w).hash x) → Q i { s with toks := s.toks + 1 }) : wpAny (model prog w) A (pyHash kv) Q E s := by
  cases H with
  | str => exact wpAny_pyHash_str (h _ fun x t e => by cases e; rfl)
  | bytes => exact hash_bytes fun i => h i fun x t e => nomatch e
theorem Hashy.carried {kv : Value} (H : Hashy kv) : carriedByValue kv = true := by cases H <;> rfl
theorem KeyV.hashy {kv : Value} {k : Str} (h : KeyV kv k) : Hashy kv := by cases h <;> constructor
/-- the first entry of an empty dict -/
theorem first_entry {h₀ : Heap} {L d : Addr} {m : Str → Option Value} {news : List (Addr × Obj)} {kv v : Value} {Q : Unit → Shared → Prop} (hk : Hashy kv) (F : Fr h₀ L s.heap m) (N : News h₀ L s.heap ((d, dictOf [] 0) :: news)) (hd : ∀ p ∈ news, p.1 ≠ d)
    (h : ∀ i h', (∀ x t, kv = .str x t → i = (strKind prog w).hash x) → Fr h₀ L h' m → News h₀ L h' ((d, dictOf [⟨i, kv, v⟩] 1) :: news) → Q () { s with heap := h', toks := s.toks + 1 }) : wpAny (model prog w) A (dictSet d kv v) Q E s := by
  have ho := (N _ (List.Mem.head _)).1
  have ho' : s.heap.get? d = some ({ cls := .type "dict", dict := none, data := .dict #[] 0, slots := #[] } : Obj) := ho
  unfold dictSet
  refine wpAny_holding (wpAny_bind (hk.hash fun i hi => ?_))
  unfold dictSetHashed
  refine wpAny_holding (wpAny_bind ?_)
  have key : wpAny (model prog w) A (dictFind d kv i) (fun r s' => r = none ∧ s' = { s with toks := s.toks + 1 }) E { s with toks := s.toks + 1 } := by
    unfold dictFind
    refine wpAny_holding (wpAny_bind (wpAny_dictEntries (s := { s with toks := s.toks + 1 }) ho' rfl ?_))
    cases hk with
    | str =>
      dsimp only
      rw [if_pos (by simp)]
      unfold foundByValue
      rw [show Array.findIdx? (fun e : DictEntry => e.key.isStr _) #[] = none from by simp]
      exact wpAny_pure ⟨rfl, rfl⟩
    | bytes =>
      dsimp only
      rw [if_pos (by rfl)]
      unfold dictWalkPlain
      have e : placesWithHash (#[] : Array DictEntry).size (fun i => (#[] : Array DictEntry)[i]?.map (·.hash)) i = [] := rfl
      rw [e]
      simp only [List.forIn_nil]
      exact wpAny_bind (wpAny_pure (wpAny_pure ⟨rfl, rfl⟩))
  refine wpAny_mono key (fun r s' hr => ?_) fun _ _ z => z
  obtain ⟨rfl, rfl⟩ := hr
  obtain ⟨F', N'⟩ := upd_N (d := d) (o := dictOf [] 0) (o' := dictOf [⟨i, kv, v⟩] 1) (f := Obj.mapDictKeys (·.push ⟨i, kv, v⟩)) F N (.head hd) (by rfl) rfl
  exact wpAny_bind (wpAny_rule (wpAny_updateDictKeys (hz := by simp [sizeLine]) (s := { s with toks := s.toks + 1 }) ho' rfl (h i _ hi F' N')))
theorem upd_same {h₀ h h' : Heap} {L d : Addr} {m : Str → Option Value} {news news' : List (Addr × Obj)} {o o' : Obj} (F : Fr h₀ L h m) (N : News h₀ L h news) (U : Upd d o o' news news') (hs : Heap.SameBut d h h') (ho : h'.get? d = some o') : Fr h₀ L h' m ∧ News h₀ L h' news' := by
  have hd := N _ (upd_mem U)
  refine ⟨⟨F.ns.sameBut hs (Ne.symm hd.2.1), fun b x e => (hs.2 b (fun q => by rw [q, hd.2.2] at e; cases e)).trans (F.keep b x e), F.above⟩, ?_⟩
  obtain ⟨pre, post, rfl, rfl, a, b⟩ := U.split
  intro p hp
  simp only [List.mem_append, List.mem_cons] at hp
  rcases hp with hp | rfl | hp
  · have z := N p (by simp [hp]); exact ⟨(hs.2 _ (a p hp)).trans z.1, z.2⟩
  · exact ⟨ho, hd.2⟩
  · have z := N p (by simp [hp]); exact ⟨(hs.2 _ (b p hp)).trans z.1, z.2⟩
theorem pair_dict {h₀ : Heap} {L a : Addr} {m : Str → Option Value} {news : List (Addr × Obj)} {kv v : Value} {cn : Str} {cs : Scope} {ccd : Value} {y z : Str} {py pz pos : Pos} {Q : Value → Shared → Prop} (hlim : h₀.NoLimit) (hk : cs.kind = .function) (H : Hashy kv) (F : Fr h₀ L s.heap m) (N : News h₀ L s.heap news)
    (my : m y = some kv) (mz : m z = some v) (ly : lcl cn cs L a ccd y) (lz : lcl cn cs L a ccd z)
    (h : ∀ q i h', (q == sysModules) = false → (∀ x t, kv = .str x t → i = (strKind prog w).hash x) → Fr h₀ L h' m → News h₀ L h' ((q, dictOf [⟨i, kv, v⟩] 1) :: news) → (∀ p ∈ news, p.1 < q) → Q (.ref q) { s with heap := h', toks := s.toks + 1 }) :
    wpAny (model prog w) A (eval (.Dict [some (.Name y py)] [.Name z pz] pos) (envX cn cs L a ccd [])) Q E s := by
  rw [arm_eval_Dict, zip_pairTrees _ _ _ _ rfl rfl, dictDisplay_pairs _ (by intro e; exact absurd (congrArg List.length e) (by intro h; cases h)) (by show 1 < 17; decide)]
  refine wpAny_bind (wpAny_standAt (wpAny_bind ?_))
  unfold subDict
  refine wpAny_bind (wpAny_alloc ?_)
  have hAB := ks_newsPush (s := s) (o := dictOf [] 0) F N rfl (Heap.get?_push_at rfl rfl) (fun b o e => Heap.get?_push_of_some _ e)
  have F' := hAB.1
  have N' := hAB.2.1
  have l' := hAB.2.2
  refine wpAny_bind (wpAny_holding ?_)
  rw [if_pos (by show 1 ≤ 15; decide)]
  refine wpAny_bind (pairTrees_cons_walk (nameX_L F' my (nameX_L F' mz (pairTrees_nil_walk ?_) hk lz.1 lz.2) hk ly.1 ly.2))
  refine wpAny_holding ?_
  rw [List.forIn_cons]
  dsimp only
  refine wpAny_bind ?_
  refine wpAny_bind ?_
  refine wpAny_bind (first_entry (s := { s with heap := s.heap.push _ }) H F' N' (fun p hp => Nat.ne_of_lt (l' p hp)) fun i h' hi F'' N'' => ?_)
  refine wpAny_pure ?_
  dsimp only
  rw [List.forIn_nil]
  exact wpAny_pure (wpAny_pure (wpAny_pure (wpAny_pure (h _ i h' (F.notModules (modules_low hlim)) hi F'' N'' l'))))
end
section
variable {w : World} {p : Program} {loose : List Str} {mean : ExcName → Option Value} {mg mb : Str → Option Value} {dp un : Nat} {gd : Option (List Code)} {cn : Str} {cs : Scope} {a : Addr} {ccd : Value} {outer : List Env} {A₀ : Around} {base h₀ : Heap} {L : Addr} {m : Str → Option Value} {news : List (Addr × Obj)} {s : Shared} {E : Value → Shared → Prop}
  {b l : Addr} {kv : Value} {nm : Str} {c : Value} {od : Option Addr} {es : List DictEntry} {n : Nat} {D : List (Str × Value)} {v : Value} {news' : List DictEntry → Nat → List (Addr × Obj)}
theorem dictOf_of {prog : Program} {h : Heap} {d : Addr} {kvs : List (Str × Value)} (H : Ent prog w es kvs) (ho : h.get? d = some (dictOf es n)) : h.DictOf (strKind prog w) d kvs :=
  ⟨_, _, _, ho, ⟨rfl, rfl, rfl⟩, rfl, H.keys, by simpa using H.pairs, H.nd⟩
theorem of_dictOf {prog : Program} {h : Heap} {d : Addr} {kvs : List (Str × Value)} (x : h.DictOf (strKind prog w) d kvs) (hz : kvs.length ≤ 64) : ∃ es n, Ent prog w es kvs ∧ h.get? d = some (dictOf es n) := by
  obtain ⟨o, es, ep, ho, ⟨h1, h2, h3⟩, h4, h5, h6, h7⟩ := x
  obtain ⟨c, od, dt, sl⟩ := o
  dsimp only at h1 h2 h3 h4
  subst h1 h2 h3 h4
  exact ⟨es.toList, ep, ⟨by simpa using h5, h6, h7, hz⟩, by rw [ho]⟩
theorem bk_update {Q : Value → Shared → Prop} {x y z : Str} {px py pz dp' ap pos : Pos} (hp : (ap.endLine == pos.line) = true) (C : Ctx w p loose mean mg mb A₀ base outer h₀ cs dp un) (F : Fr h₀ L s.heap m) (N : News h₀ L s.heap news) (Bk : Book news b kv nm c od es n) (U : ∀ es' n', Upd b (dob c od es n) (dob c od es' n') news (news' es' n')) (H : Ent PySem.Challenge.rw_be0018_01.row.prog w es D) (hz : D.length < 63) (hbm : (b == sysModules) = false)
    (mx : m x = some (.ref b)) (my : m y = some kv) (mz : m z = some v) (lx : lcl cn cs L a ccd x) (ly : lcl cn cs L a ccd y) (lz : lcl cn cs L a ccd z)
    (ret : ∀ es' n' h' tk', Ent PySem.Challenge.rw_be0018_01.row.prog w es' (stored D nm v) → Fr h₀ L h' m → News h₀ L h' (news' es' n') → Q .none { s with heap := h', toks := tk' }) :
    wpAny (model PySem.Challenge.rw_be0018_01.row.prog w) (ktrTop dp un gd cn cs L a ccd [] outer) (eval (.Call (.Attribute (.Name x px) (Str.ofString "update") ap) [.Dict [some (.Name y py)] [.Name z pz] dp'] [] pos) (envX cn cs L a ccd [])) Q E s := by
  refine MethodCall_ (nameX_L F mx ?_ C.hk lx.1 lx.2) (method_eq hp rfl)
  cases Bk with
  | cd h1 h2 hkv hlen hup =>
    subst hup
    refine method_cd (C.X.keeps F.keep) (inst_cd N h1 h2) kf_ga kf_hook kf_updm kf_upd_ty (.inl rfl) (by rfl) ?_
    with_reducible refine callWith_K C.X ?ua ?ub ?uc ?ud
    case ua => exact kf_updm_k
    case uc => rfl
    case ud => rfl
    refine (spliced_more (pair_dict C.T.nolimit C.hk hkv.hashy F N my mz ly lz fun q i h' hqm hi F' N' lq => spliced_none ⟨C.X.keeps F'.keep, ?_⟩))
    refine update_c (news' := fun es' n' => (q, dictOf [⟨i, kv, v⟩] 1) :: news' es' n') (KV := [(_, v)]) C.B F' C.X N' C.T C.hk (by have := C.hdp; omega) (by have := C.hu; omega) (List.Mem.tail _ h1) (List.Mem.tail _ h2) (fun es' n' => .tail (Nat.ne_of_gt (lq _ h1)) (U es' n')) H (.dict (List.Mem.head _)) hqm (Nat.ne_of_gt (lq _ h1)) (by simp) (fun e => ?_) (.cons hkv hlen .nil) (by show D.length + 1 < 64; omega) fun es' n' h'' tk' H' F'' N'' => ?_
    · have x1 := (N _ h1).1
      have x2 := (N _ h2).1
      dsimp only at x1 x2
      rw [e, x1] at x2
      cases x2
    · exact ret es' n' h'' tk' H' F'' (cb_drop N'' fun _ hp => List.Mem.tail _ hp)
  | dict h1 hkv =>
    subst hkv
    have hT : s.TypeIs (.ref b) "dict" := ⟨_, (N _ h1).1, rfl⟩
    refine getMethod_builtin hT PySem.F.plainAttrs_dict PySem.F.slot_dict_update PySem.F.type_dict_update (fun o e => by cases e; exact ⟨_, (N _ h1).1, rfl⟩) ?_
    with_reducible refine callWith_method1 ?da ?dc ?dd
    case dc => rfl
    case dd => rfl
    refine (spliced_more (pair_dict C.T.nolimit C.hk .str F N my mz ly lz fun q i h' hqm hi F' N' lq => spliced_none ?_))
    have hi' := hi _ _ rfl
    subst hi'
    have hT' : ({ s with heap := h', toks := s.toks + 1 } : Shared).TypeIs (.ref b) "dict" := ⟨_, (N' _ (List.Mem.tail _ h1)).1, rfl⟩
    have hD := dictOf_of (h := h') H (N' _ (List.Mem.tail _ h1)).1
    have hE : ∀ t, Ent PySem.Challenge.rw_be0018_01.row.prog w [⟨(strKind PySem.Challenge.rw_be0018_01.row.prog w).hash nm, .str nm t, v⟩] [(nm, v)] := fun t => Ent.add (t := t) Ent.nil (by simp) (by decide)
    have hD₂ := dictOf_of (h := h') (hE _) (N' _ (List.Mem.head _)).1
    refine call_meetsIn PySem.F.slot_dict_update hT' PySem.F.entry_dict_update (PySem.F.args_dict_update_2 _ _) (meets_dict_update (strKind _ w) b q (Nat.ne_of_lt (lq _ h1)) hqm) ⟨D, [(nm, v)], hD, hD₂, (by rw [sizeLine_eq]; simp only [List.length_cons, List.length_nil]; omega), fun h'' hmm _ hs => ?_⟩
    have hl : (merged D [(nm, v)]).length ≤ 64 := by
      have := (stored_len (D := D) (k := nm) (v := v)).2
      show (stored D nm v).length ≤ 64
      omega
    obtain ⟨es', n', H', ho'⟩ := of_dictOf hmm hl
    obtain ⟨F'', N''⟩ := upd_same F' N' (.tail (Nat.ne_of_gt (lq _ h1)) (U es' n')) hs ho'
    exact ret es' n' h'' _ H' F'' (cb_drop N'' fun _ hp => List.Mem.tail _ hp)
end
section
variable {w : World} {p : Program} {loose : List Str} {mean : ExcName → Option Value} {mg mb : Str → Option Value} {dp un : Nat} {gd : Option (List Code)} {cn : Str} {cs : Scope} {a : Addr} {ccd : Value} {outer : List Env} {A₀ : Around} {base h₀ : Heap} {L : Addr} {m : Str → Option Value} {s : Shared} {E : Value → Shared → Prop}
  {b l : Addr} {kv : Value} {nm : Str} {c : Value} {od : Option Addr} {es : List DictEntry} {n : Nat} {D : List (Str × Value)} {v : Value} {nwf : List Value → Nat → List DictEntry → Nat → List (Addr × Obj)} {rows : List Value} {cnt : Nat} {tt : Tok} {k : Int} {Q : Flow → Shared → Prop}
theorem body_6 {p1 p2 p3 p4 p5 p6 p7 p8 p9 p10 p11 p12 : Pos} {kk : Nat} (T : Turn w p loose mean mg mb A₀ base outer h₀ cn cs L a ccd dp un m s.heap b l kv nm c od es n D v nwf rows cnt tt k) (hk : k = 6) (hz : D.length < 63) (hp : (p7.endLine == p9.line) = true) (hp2 : (p2.endLine == p5.line) = true) (ret : Ret w h₀ L m s nm D v nwf rows cnt k Q) (hi : interactive (envX cn cs L a ccd []) = false) :
    wpAny (model PySem.Challenge.rw_be0018_01.row.prog w) (ktrTop dp un gd cn cs L a ccd [] outer) (execs [.Expr (.Call (.Attribute (.Name (Str.ofString "book") p1) (Str.ofString "update") p2) [.Dict [some (.Name (Str.ofString "at") p3)] [.Name (Str.ofString "value") p4] p11] [] p5) p12,
      .Expr (.Call (.Attribute (.Name (Str.ofString "rows") p6) (Str.ofString "append") p7) [.Constant (.str (Str.ofString "updated")) kk p8] [] p9) p10] (envX cn cs L a ccd [])) Q E s := by
  subst hk
  obtain ⟨C, S, M, F, N, Bk, UL, UB, H, hz', hr, hb⟩ := T
  refine wpAny_execs_cons (wpAny_Expr ?_ hi rfl)
  refine bk_update (news' := fun es' n' => nwf rows cnt es' n') hp2 C F N Bk (fun es' n' => UB rows cnt es n es' n') H hz hb M.book M.at_ M.value S.book S.at_ S.value fun es' n' h' tk' H' F' N' => ?_
  refine wpAny_execs_cons (rows_append (hs := by rfl) hp rfl rfl F' N' (upd_mem (UL rows cnt rows cnt es' n')) hr C.hk S.rows M.rows ?_ hi)
  refine wpAny_Constant_str ⟨_, _, F', N', UL _ _ _ _ _ _, fun h'' F'' N'' => wpAny_execs_nil ?_⟩
  exact ret h'' _ _ es' n' [] F'' N'' .txt H' (fun q hq => nomatch hq)
end
end Mine
end
section
open PySem PySem.W PySem.Calls PyProof.Rows
set_option Elab.async false
set_option maxRecDepth 100000
set_option maxHeartbeats 1000000
set_option linter.unusedVariables false
set_option pp.maxSteps 3000
set_option pp.deepTerms false
set_option pp.deepTerms.threshold 6
namespace Mine
section
variable {w : World} {p : Program} {loose : List Str} {mean : ExcName → Option Value} {mg mb : Str → Option Value} {dp un : Nat} {gd : Option (List Code)} {cn : Str} {cs : Scope} {a : Addr} {ccd : Value} {cl : List (Str × Addr)} {outer : List Env} {A₀ : Around} {base h₀ : Heap} {L : Addr} {m : Str → Option Value} {news : List (Addr × Obj)} {s : Shared} {Q E : Value → Shared → Prop}
theorem eq_c {x y dx : Addr} {es es2 : List DictEntry} {n n2 : Nat} {D D2 : List (Str × Value)} {c : Value} {od : Option Addr} {r : Bool}
    (B : Below A₀ base outer h₀) (F : Fr h₀ L s.heap m) (X : (Mine.hd.heap_39 w.params).In h₀) (N : News h₀ L s.heap news) (T : Top p loose mean mg mb h₀) (hk : cs.kind = .function) (hd : dp + 10 < recursionLimit) (hu : un + 200 < cLine)
    (S1 : Src news x (.ref 170) (some dx) es n) (S2 : Src news y c od es2 n2) (hxm : (x == sysModules) = false) (hym : (y == sysModules) = false) (hxy : x ≠ y)
    (H : Ent PySem.Challenge.rw_be0018_01.row.prog w es D) (H2 : Ent PySem.Challenge.rw_be0018_01.row.prog w es2 D2) (hz : D.length < 64) (hz2 : D2.length < 64)
    (hits : D.length = D2.length → ∀ A s, KeqHits A s D2 D r)
    (ret : ∀ h' tk', Fr h₀ L h' m → News h₀ L h' news → Q (.bool (D.length == D2.length && r)) { s with heap := h', toks := tk' }) :
    wpAny (model PySem.Challenge.rw_be0018_01.row.prog w) (ktrTop dp un gd cn cs L a ccd cl outer) (call (.ref 146) [.ref x, .ref y]) Q E s := by
  revert X
  k_fill
  intro X
  refine wpAny_call ?_
  refine' code_def (K := Mine.hd.heap_39 w.params) B F X N T rfl rfl hk ?k6 ?k7 ?k8 ?k9 ?kB ?_ ?c2 ?c3 ?c4 ?c5
  (case k6 => k_is)
  (case k7 => k_is)
  (case k8 => show dp < recursionLimit; omega)
  (case k9 => first | exact BindsTo.of_eq rfl | exact binds_K (by k_in) rfl (by k_is) rfl rfl rfl)
  (case kB => exact locs rfl)
  (case c2 => exact rfl)
  (case c3 => exact rfl)
  (case c4 => exact rfl)
  (case c5 => decide)
  intro g L1 h1 FG F1 N1 B1 X1 T1
  generalize hbs : (List.filterMap (fun n => Option.map _ _) _ : List (Str × Value)).reverse = bs at F1
  have e1 : List.lookup (Str.ofString "self") bs = some (.ref x) := by rw [← hbs]; rfl
  have e2 : List.lookup (Str.ofString "other") bs = some (.ref y) := by rw [← hbs]; rfl
  clear hbs
  have R1 := topRead_of T1
  refine wpAny_noRaise (gen_q fun Q' hQ => ?_)
  refine wpAny_execs_cons (wpAny_If (isTrue_not (isTrue_plain (Call_ (nameX_B F1 X1 R1 ns_isinstance bb_isinstance (by decide) ?_)))))
  refine PyProof.Rows.callWith_builtin1 (spliced_more (nameX_L F1 e2 (spliced_more (nameX_B F1 X1 R1 ns_dict bb_dict (by decide) (spliced_none ?_)))))
  refine S2.isd F1 N1 X1 ?_
  refine wpAny_truthy_bool ?_
  dsimp only [Bool.not_true, Bool.false_eq_true, if_false]
  refine wpAny_execs_nil ?_
  refine wpAny_execs_cons (wpAny_Return_some (BoolOp_or (wpAny_Compare1 (nameX_L F1 e1 (nameX_L F1 e2 ?_)))))
  refine kto_is (N1 _ S1.at_).1 (N1 _ S2.at_).1 hxy (by intro e; cases e) ?_
  refine wpAny_truthy_bool ?_
  refine BoolOp_one (wpAny_Compare1 ?_)
  refine dict_of rfl rfl rfl S1 hxm F1 N1 X1 R1 H hz rfl (fun Q' E' hq => nameX_L F1 e1 hq) fun Sa esa na h2 tk2 Ha F2 N2 l2 sa => ?_
  refine dict_of rfl rfl rfl (S2.sub fun _ hq => List.Mem.tail _ hq) hym F2 N2 X1 R1 H2 hz2 rfl (fun Q' E' hq => nameX_L F2 e2 hq) fun Sb esb nb h3 tk3 Hb F3 N3 l3 sb => ?_
  refine keq_eq (r := r) sa sb (dictOf_of Ha (N3 _ (List.Mem.tail _ (List.Mem.head _))).1) (dictOf_of Hb (N3 _ (List.Mem.head _)).1) (by show un + 3 < cLine; omega) (fun e => hits e _ _) ?_
  refine hQ (.ret _) _ (leaveK_ F3 N3 fun kF kN => ?_)
  exact ret _ _ kF (cb_drop kN fun q hq => List.Mem.tail _ (List.Mem.tail _ hq))
end
end Mine
end
section
open PySem PySem.W PySem.Calls PyProof.Rows
set_option Elab.async false
set_option maxRecDepth 100000
set_option maxHeartbeats 1000000
set_option linter.unusedVariables false
set_option pp.maxSteps 3000
set_option pp.deepTerms false
set_option pp.deepTerms.threshold 6
namespace Mine
theorem kf_eq {P} : findIn (Mine.hd.heap_39 P) (.ref 170) (cmpInfo .Eq).2.1 = some (some (.ref 146)) := by kernel_rfl
theorem kf_ne {P} : findIn (Mine.hd.heap_39 P) (.ref 170) (cmpInfo .NotEq).2.1 = some (some (.ref 153)) := by kernel_rfl
theorem kf_eq_fn {P} : isFn (Mine.hd.heap_39 P) (.ref 146) = true := by kernel_rfl
theorem kf_ne_fn {P} : isFn (Mine.hd.heap_39 P) (.ref 153) = true := by kernel_rfl
theorem kf_nf1 {P} : notFirst (Mine.hd.heap_39 P) 170 (.type "dict") = true := by kernel_rfl
theorem kf_nf2 {P} : notFirst (Mine.hd.heap_39 P) 170 (.ref 170) = true := by kernel_rfl
theorem Src.nf {news : List (Addr × Obj)} {d : Addr} {c : Value} {od : Option Addr} {es : List DictEntry} {n : Nat} {P} (S : Src news d c od es n) : notFirst (Mine.hd.heap_39 P) 170 c = true := by
  cases S with
  | dict => exact kf_nf1
  | cd => exact kf_nf2
theorem Src.inst {news : List (Addr × Obj)} {d dx L : Addr} {h h₀ : Heap} {es : List DictEntry} {n : Nat} (S : Src news d (.ref 170) (some dx) es n) (N : News h₀ L h news) : PySem.W.InstAt h d (cdObj dx es n) 170 (some (dictOf [] 0)) := by
  cases S with
  | cd q1 q2 => exact inst_cd N q1 q2
section
variable {w : World} {p : Program} {loose : List Str} {mean : ExcName → Option Value} {mg mb : Str → Option Value} {dp un : Nat} {gd : Option (List Code)} {cn : Str} {cs : Scope} {a : Addr} {ccd : Value} {cl : List (Str × Addr)} {outer : List Env} {A₀ : Around} {base h₀ : Heap} {L : Addr} {m : Str → Option Value} {news : List (Addr × Obj)} {s : Shared} {Q E : Value → Shared → Prop}
theorem cmp_eq {x y dx : Addr} {es es2 : List DictEntry} {n n2 : Nat} {D D2 : List (Str × Value)} {c : Value} {od : Option Addr} {r : Bool}
    (B : Below A₀ base outer h₀) (F : Fr h₀ L s.heap m) (X : (Mine.hd.heap_39 w.params).In h₀) (N : News h₀ L s.heap news) (T : Top p loose mean mg mb h₀) (hk : cs.kind = .function) (hd : dp + 10 < recursionLimit) (hu : un + 200 < cLine)
    (S1 : Src news x (.ref 170) (some dx) es n) (S2 : Src news y c od es2 n2) (hxm : (x == sysModules) = false) (hym : (y == sysModules) = false) (hxy : x ≠ y)
    (H : Ent PySem.Challenge.rw_be0018_01.row.prog w es D) (H2 : Ent PySem.Challenge.rw_be0018_01.row.prog w es2 D2) (hz : D.length < 64) (hz2 : D2.length < 64)
    (hits : D.length = D2.length → ∀ A s, KeqHits A s D2 D r)
    (ret : ∀ h' tk', Fr h₀ L h' m → News h₀ L h' news → Q (.bool (D.length == D2.length && r)) { s with heap := h', toks := tk' }) :
    wpAny (model PySem.Challenge.rw_be0018_01.row.prog w) (ktrTop dp un gd cn cs L a ccd cl outer) (compareOp .Eq (.ref x) (.ref y)) Q E s := by
  refine cmp_ofEq (cmp_K (K := Mine.hd.heap_39 w.params) (tb := c) (by show un < cLine; omega) F X (S1.inst N) ((Looks.ld (N _ S2.at_).1).andThen .now) S2.nf kf_eq kf_eq_fn ?_)
  exact eq_c B F X N T hk hd hu S1 S2 hxm hym hxy H H2 hz hz2 hits fun h' tk' F' N' => ret h' tk' F' N'
theorem ne_c {x y dx : Addr} {es es2 : List DictEntry} {n n2 : Nat} {D D2 : List (Str × Value)} {c : Value} {od : Option Addr} {r : Bool}
    (B : Below A₀ base outer h₀) (F : Fr h₀ L s.heap m) (X : (Mine.hd.heap_39 w.params).In h₀) (N : News h₀ L s.heap news) (T : Top p loose mean mg mb h₀) (hk : cs.kind = .function) (hd : dp + 20 < recursionLimit) (hu : un + 300 < cLine)
    (S1 : Src news x (.ref 170) (some dx) es n) (S2 : Src news y c od es2 n2) (hxm : (x == sysModules) = false) (hym : (y == sysModules) = false) (hxy : x ≠ y)
    (H : Ent PySem.Challenge.rw_be0018_01.row.prog w es D) (H2 : Ent PySem.Challenge.rw_be0018_01.row.prog w es2 D2) (hz : D.length < 64) (hz2 : D2.length < 64)
    (hits : D.length = D2.length → ∀ A s, KeqHits A s D2 D r)
    (ret : ∀ h' tk', Fr h₀ L h' m → News h₀ L h' news → Q (.bool (!(D.length == D2.length && r))) { s with heap := h', toks := tk' }) :
    wpAny (model PySem.Challenge.rw_be0018_01.row.prog w) (ktrTop dp un gd cn cs L a ccd cl outer) (call (.ref 153) [.ref x, .ref y]) Q E s := by
  revert X
  k_fill
  intro X
  refine wpAny_call ?_
  refine' code_def (K := Mine.hd.heap_39 w.params) B F X N T rfl rfl hk ?k6 ?k7 ?k8 ?k9 ?kB ?_ ?c2 ?c3 ?c4 ?c5
  (case k6 => k_is)
  (case k7 => k_is)
  (case k8 => show dp < recursionLimit; omega)
  (case k9 => first | exact BindsTo.of_eq rfl | exact binds_K (by k_in) rfl (by k_is) rfl rfl rfl)
  (case kB => exact locs rfl)
  (case c2 => exact rfl)
  (case c3 => exact rfl)
  (case c4 => exact rfl)
  (case c5 => decide)
  intro g L1 h1 FG F1 N1 B1 X1 T1
  generalize hbs : (List.filterMap (fun n => Option.map _ _) _ : List (Str × Value)).reverse = bs at F1
  have e1 : List.lookup (Str.ofString "self") bs = some (.ref x) := by rw [← hbs]; rfl
  have e2 : List.lookup (Str.ofString "other") bs = some (.ref y) := by rw [← hbs]; rfl
  clear hbs
  show wpAny _ (ktrTop (dp + 1) (un + 3) gd _ _ L1 153 _ [] (envX cn cs L a ccd cl :: outer)) _ _ _ _
  refine wpAny_noRaise (gen_q fun Q' hQ => ?_)
  refine wpAny_execs_cons (wpAny_Return_some (wpAny_UnaryOp (wpAny_Compare1 (nameX_L F1 e1 (nameX_L F1 e2 ?_)))))
  refine cmp_eq B1 F1 X1 N1 T1 rfl (by omega) (by omega) S1 S2 hxm hym hxy H H2 hz hz2 hits fun h2 tk2 F2 N2 => ?_
  refine not_of (wpAny_truthy_bool ?_)
  refine hQ (.ret _) _ (leaveK_ F2 N2 fun kF kN => ?_)
  exact ret _ _ kF kN
theorem cmp_ne {x y dx : Addr} {es es2 : List DictEntry} {n n2 : Nat} {D D2 : List (Str × Value)} {c : Value} {od : Option Addr} {r : Bool}
    (B : Below A₀ base outer h₀) (F : Fr h₀ L s.heap m) (X : (Mine.hd.heap_39 w.params).In h₀) (N : News h₀ L s.heap news) (T : Top p loose mean mg mb h₀) (hk : cs.kind = .function) (hd : dp + 20 < recursionLimit) (hu : un + 300 < cLine)
    (S1 : Src news x (.ref 170) (some dx) es n) (S2 : Src news y c od es2 n2) (hxm : (x == sysModules) = false) (hym : (y == sysModules) = false) (hxy : x ≠ y)
    (H : Ent PySem.Challenge.rw_be0018_01.row.prog w es D) (H2 : Ent PySem.Challenge.rw_be0018_01.row.prog w es2 D2) (hz : D.length < 64) (hz2 : D2.length < 64)
    (hits : D.length = D2.length → ∀ A s, KeqHits A s D2 D r)
    (ret : ∀ h' tk', Fr h₀ L h' m → News h₀ L h' news → Q (.bool (!(D.length == D2.length && r))) { s with heap := h', toks := tk' }) :
    wpAny (model PySem.Challenge.rw_be0018_01.row.prog w) (ktrTop dp un gd cn cs L a ccd cl outer) (compareOp .NotEq (.ref x) (.ref y)) Q E s := by
  refine cmp_ofNotEq (cmp_K (K := Mine.hd.heap_39 w.params) (tb := c) (by show un < cLine; omega) F X (S1.inst N) ((Looks.ld (N _ S2.at_).1).andThen .now) S2.nf kf_ne kf_ne_fn ?_)
  exact ne_c B F X N T hk hd hu S1 S2 hxm hym hxy H H2 hz hz2 hits fun h' tk' F' N' => ret h' tk' F' N'
end
/-- each key with its own value -/
theorem hits_same {D D2 : List (Str × Value)} (hD : ∀ q ∈ D2, valueAt D q.1 = some q.2) (A : Around) (s : Shared) : KeqHits A s D D2 true := by
  induction D2 with
  | nil => exact .nil
  | cons q r ih =>
    have hAB := q
    have k := hAB.1
    have v := hAB.2
    exact .hit (b := true) (e := true) (hD _ (List.Mem.head _)) (SeqAt.EqAt.same _) (ih fun q hq => hD q (List.Mem.tail _ hq))
theorem valueAt_of_mem {D : List (Str × Value)} (hn : (D.map (·.1)).Nodup) {q : Str × Value} (hq : q ∈ D) : valueAt D q.1 = some q.2 := by
  induction D with
  | nil => cases hq
  | cons p r ih =>
    rw [List.map_cons, List.nodup_cons] at hn
    unfold valueAt
    rw [List.find?_cons]
    rcases List.mem_cons.mp hq with rfl | hq
    · simp
    · have : p.1 ≠ q.1 := fun e => hn.1 (e ▸ List.mem_map_of_mem hq)
      simp only [this, decide_false]
      exact ih hn.2 hq
/-- one value differs -/
theorem hits_other {D D2 : List (Str × Value)} {k : Str} {i : Int} {t : Tok} {x : Str} {u : Tok} (hk : valueAt D k = some (.str x u)) (hD : ∀ q ∈ D2, q.1 ≠ k → valueAt D q.1 = some q.2) (hi : (k, Value.int i t) ∈ D2) (hone : ∀ q ∈ D2, q.1 = k → q.2 = .int i t) (A : Around) (s : Shared) : KeqHits A s D D2 false := by
  induction D2 with
  | nil => cases hi
  | cons q r ih =>
    obtain ⟨k', v⟩ := q
    by_cases e : k' = k
    · subst e
      have hv : v = .int i t := hone _ (List.Mem.head _) rfl
      subst hv
      have tail : ∃ b, KeqHits A s D r b := by
        clear ih hi
        have h1 : ∀ q ∈ r, q.1 ≠ k' → valueAt D q.1 = some q.2 := fun q hq => hD q (List.Mem.tail _ hq)
        have h2 : ∀ q ∈ r, q.1 = k' → q.2 = .int i t := fun q hq => hone q (List.Mem.tail _ hq)
        clear hD hone
        induction r with
        | nil => exact ⟨_, .nil⟩
        | cons q r ih =>
          obtain ⟨b, hb⟩ := ih (fun q hq => h1 q (List.Mem.tail _ hq)) (fun q hq => h2 q (List.Mem.tail _ hq))
          obtain ⟨k2, v2⟩ := q
          by_cases e : k2 = k'
          · subst e
            obtain rfl := h2 _ (List.Mem.head _) rfl
            exact ⟨_, .hit (e := false) hk (SeqAt.EqAt.int_str _ _ _ _) hb⟩
          · exact ⟨_, .hit (e := true) (h1 _ (List.Mem.head _) e) (SeqAt.EqAt.same _) hb⟩
      obtain ⟨b, hb⟩ := tail
      exact .hit (e := false) (b := b) hk (SeqAt.EqAt.int_str _ _ _ _) hb
    · refine .hit (e := true) (b := false) (hD _ (List.Mem.head _) e) (SeqAt.EqAt.same _) (ih (fun q hq => hD q (List.Mem.tail _ hq)) ?_ fun q hq => hone q (List.Mem.tail _ hq))
      rcases List.mem_cons.mp hi with h | h
      · exact absurd (congrArg Prod.fst h).symm e
      · exact h
end Mine
end
section
open PySem PySem.W PySem.Spec PySem.Calls PyProof.Rows
set_option Elab.async false
set_option maxRecDepth 100000
set_option maxHeartbeats 1000000
set_option linter.unusedVariables false
set_option pp.maxSteps 3000
set_option pp.deepTerms false
set_option pp.deepTerms.threshold 6
namespace Mine
noncomputable def stBody (x : Stmt) : List Stmt := Stmt.casesOn x (fun _ _ b _ _ _ _ _ _ _ => b) (fun _ _ _ _ _ _ _ _ _ _ => []) (fun _ _ _ _ _ _ _ _ _ _ _ => []) (fun _ _ => []) (fun _ _ => []) (fun _ _ _ => []) (fun _ _ _ _ _ _ _ => []) (fun _ _ _ _ => []) (fun _ _ _ _ _ => []) (fun _ _ b _ _ => b)
  (fun _ _ _ _ _ => []) (fun _ _ _ _ => []) (fun _ _ _ _ => []) (fun _ _ _ => []) (fun _ _ _ => []) (fun _ _ _ => []) (fun _ _ _ => []) (fun _ _ _ _ _ => []) (fun _ _ _ _ _ => []) (fun _ _ _ => []) (fun _ _ => []) (fun _ _ _ _ => []) (fun _ _ => []) (fun _ _ => []) (fun _ _ => []) (fun _ => []) (fun _ => []) (fun _ => [])
noncomputable def stAt : List Stmt → Nat → Stmt
  | s :: _, 0 => s
  | _ :: r, n + 1 => stAt r n
  | [], _ => .Pass ⟨0, 0, 0, 0⟩
noncomputable def deedTurn : List Stmt := stBody (stAt (stBody (stAt PySem.Challenge.pw_be0018_01.main.body 10)) 2)
section
variable {w : World} {p : Program} {loose : List Str} {mean : ExcName → Option Value} {mg mb : Str → Option Value} {dp un : Nat} {gd : Option (List Code)} {cn : Str} {cs : Scope} {a : Addr} {ccd : Value} {outer : List Env} {A₀ : Around} {base h₀ : Heap} {L : Addr} {m : Str → Option Value} {s : Shared}
  {b l : Addr} {kv : Value} {nm : Str} {c : Value} {od : Option Addr} {es : List DictEntry} {n : Nat} {D : List (Str × Value)} {v : Value} {nwf : List Value → Nat → List DictEntry → Nat → List (Addr × Obj)} {rows : List Value} {cnt : Nat} {tt : Tok} {k : Int} {Q : Flow → Shared → Prop}
theorem kerr_local (h : (envOf cn cs L a ccd).kindOf "KeyError" = some .globalImplicit) : (envX cn cs L a ccd []).kindOf "KeyError" = some .globalImplicit := h
theorem Turn.toks (T : Turn w p loose mean mg mb A₀ base outer h₀ cn cs L a ccd dp un m s.heap b l kv nm c od es n D v nwf rows cnt tt k) {t : Nat} : Turn w p loose mean mg mb A₀ base outer h₀ cn cs L a ccd dp un m ({ s with toks := t } : Shared).heap b l kv nm c od es n D v nwf rows cnt tt k := T
theorem gen_qe {M : Model} {A : Around} {α : Type} {t : Sem α} {Q : α → Shared → Prop} {E : Value → Shared → Prop} {s : Shared} (h : ∀ (Q' : α → Shared → Prop) (E' : Value → Shared → Prop), (∀ v s', Q v s' → Q' v s') → (∀ v s', E v s' → E' v s') → wpAny M A t Q' E' s) : wpAny M A t Q E s := h Q E (fun _ _ h => h) fun _ _ h => h
theorem last1 {M : Model} {A : Around} {st : Stmt} {ρ : Env} {Q : Flow → Shared → Prop} {E : Value → Shared → Prop} {s : Shared} (h : ∀ Q' : Flow → Shared → Prop, (∀ s', Q .next s' → Q' .next s') → wpAny M A (exec st ρ) Q' E s) : wpAny M A (execs [st] ρ) Q E s := wpAny_execs_cons (h _ fun _ hq => wpAny_execs_nil hq)
theorem int_lt {a b : Int} (h : a ≤ b) (n : ¬b = a) : a + 1 ≤ b := by omega
theorem if_eq2 {prog : Program} {A : Around} {E : Value → Shared → Prop} {x : Str} {k i : Int} {tt : Tok} {kk : Nat} {p1 p2 p3 p4 : Pos} {body orelse : List Stmt} (F : Fr h₀ L s.heap m) (hk : cs.kind = .function) (lx : lcl cn cs L a ccd x) (mx : m x = some (.int k tt))
    (h : k = i → wpAny (model prog w) A (execs body (envX cn cs L a ccd [])) Q E { s with toks := s.toks + 1 }) (h2 : ¬k = i → wpAny (model prog w) A (execs orelse (envX cn cs L a ccd [])) Q E { s with toks := s.toks + 1 }) :
    wpAny (model prog w) A (exec (.If (.Compare (.Name x p1) [.Eq] [.Constant (.int i) kk p2] p3) body orelse p4) (envX cn cs L a ccd [])) Q E s := if_eq F hk lx mx (iteInduction (motive := fun p : Prop => p) h h2)
/-- a turn of the deed, on either book -/
theorem turn_c (T : Turn w p loose mean mg mb A₀ base outer h₀ cn cs L a ccd dp un m s.heap b l kv nm c od es n D v nwf rows cnt tt k) (h0 : 0 ≤ k) (h7 : k < 7) (hz : D.length < 63) (XB : (Mine.hd.heap_39 w.params).In base) (TB : Top p loose mean mg mb base) (hi : interactive (envX cn cs L a ccd []) = false) (hke : (envOf cn cs L a ccd).kindOf "KeyError" = some .globalImplicit)
    (hcam : (ktrTop dp un gd cn cs L a ccd [] outer) = A₀.deeper (envOf cn cs L a ccd))
    (ret : ∀ g' h' tk' r es' n' xs, KtsTurn (outer.filterMap (·.frame)) h₀ g' → Below A₀ base outer g' → Fr g' L h' m → News g' L h' (xs ++ nwf (rows ++ [r]) (cnt + 1) es' n') → RowIs xs (deedOf k D nm v).1 r → Ent PySem.Challenge.rw_be0018_01.row.prog w es' (deedOf k D nm v).2 →
      (∀ q ∈ xs, ∀ p ∈ nwf (rows ++ [r]) (cnt + 1) es' n', p.1 < q.1) → Q .next { s with heap := h', toks := tk' }) :
    wpAny (model PySem.Challenge.rw_be0018_01.row.prog w) (ktrTop dp un gd cn cs L a ccd [] outer) (execs deedTurn (envX cn cs L a ccd [])) Q (fun _ _ => False) s := by
  have fin : Ret w h₀ L m s nm D v nwf rows cnt k Q := fun h' tk' r es' n' xs F' N' hr H' hq => ret h₀ h' tk' r es' n' xs KtsTurn.refl T.C.B F' N' hr H' hq
  refine wpAny_execs_cons (wpAny_Try_except (gen_qe fun Q0 E0 hQ hE => ?_))
  have f0 : Ret w h₀ L m s nm D v nwf rows cnt k Q0 := fun h' tk' r es' n' xs a1 a2 a3 a4 a5 => hQ _ _ (wpAny_execs_nil (wpAny_execs_nil (fin h' tk' r es' n' xs a1 a2 a3 a4 a5)))
  have e0 : ∀ t, RetE base outer cn cs L a ccd h₀ m { s with toks := t } nm D v (nwf rows cnt es n) k E0 := by
    intro t ev h' tk' hf he
    refine hE _ _ ?_
    rw [hcam]
    refine caught_flew (s' := { s with heap := h', toks := tk' }) hf T.C.B XB TB kf_kerr (fun h'' g' hd KT F' N' B' => ?_) T.C.hk hke
    refine wpAny_execs_cons (rows_append (hs := by rfl) (by decide) rfl rfl F' N' (upd_mem (T.UL rows cnt rows cnt es n)) T.hr T.C.hk T.S.rows T.M.rows ?_ hi)
    refine wpAny_Constant_str ⟨_, _, F', N', T.UL _ _ _ _ _ _, fun h₃ F₃ N₃ => wpAny_execs_nil (wpAny_execs_nil ?_)⟩
    exact ret g' h₃ _ _ es n [] KT B' F₃ N₃ (by rw [he]; exact .txt) (by rw [he]; exact T.H) (fun q hq => nomatch hq)
  clear ret hE hQ fin XB TB hke hcam
  refine last1 fun Q1 h1 => if_eq2 T.F T.C.hk T.S.kind T.M.kind (fun e => body_0 T.toks e (by decide) (fun h' tk' r es' n' xs a1 a2 a3 a4 a5 => h1 _ (f0 h' tk' r es' n' xs a1 a2 a3 a4 a5)) hi) fun e => ?_
  replace h0 : 1 ≤ k := int_lt h0 e
  replace f0 : Ret w h₀ L m s nm D v nwf rows cnt k Q1 := fun h' tk' r es' n' xs a1 a2 a3 a4 a5 => h1 _ (f0 h' tk' r es' n' xs a1 a2 a3 a4 a5)
  clear e h1
  refine last1 fun Q1 h1 => if_eq2 T.F T.C.hk T.S.kind T.M.kind (fun e => body_1 T.toks e (by decide) (fun h' tk' r es' n' xs a1 a2 a3 a4 a5 => h1 _ (f0 h' tk' r es' n' xs a1 a2 a3 a4 a5)) (e0 _) hi) fun e => ?_
  replace h0 : 2 ≤ k := int_lt h0 e
  replace f0 : Ret w h₀ L m s nm D v nwf rows cnt k Q1 := fun h' tk' r es' n' xs a1 a2 a3 a4 a5 => h1 _ (f0 h' tk' r es' n' xs a1 a2 a3 a4 a5)
  clear e h1
  refine last1 fun Q1 h1 => if_eq2 T.F T.C.hk T.S.kind T.M.kind (fun e => body_2 T.toks e (by decide) (fun h' tk' r es' n' xs a1 a2 a3 a4 a5 => h1 _ (f0 h' tk' r es' n' xs a1 a2 a3 a4 a5)) (e0 _) hi) fun e => ?_
  replace h0 : 3 ≤ k := int_lt h0 e
  replace f0 : Ret w h₀ L m s nm D v nwf rows cnt k Q1 := fun h' tk' r es' n' xs a1 a2 a3 a4 a5 => h1 _ (f0 h' tk' r es' n' xs a1 a2 a3 a4 a5)
  clear e h1
  refine last1 fun Q1 h1 => if_eq2 T.F T.C.hk T.S.kind T.M.kind (fun e => body_3 T.toks e (by decide) (by decide) (fun h' tk' r es' n' xs a1 a2 a3 a4 a5 => h1 _ (f0 h' tk' r es' n' xs a1 a2 a3 a4 a5)) hi) fun e => ?_
  replace h0 : 4 ≤ k := int_lt h0 e
  replace f0 : Ret w h₀ L m s nm D v nwf rows cnt k Q1 := fun h' tk' r es' n' xs a1 a2 a3 a4 a5 => h1 _ (f0 h' tk' r es' n' xs a1 a2 a3 a4 a5)
  clear e h1
  refine last1 fun Q1 h1 => if_eq2 T.F T.C.hk T.S.kind T.M.kind (fun e => body_4 T.toks e (by decide) (by decide) (fun h' tk' r es' n' xs a1 a2 a3 a4 a5 => h1 _ (f0 h' tk' r es' n' xs a1 a2 a3 a4 a5)) hi) fun e => ?_
  replace h0 : 5 ≤ k := int_lt h0 e
  replace f0 : Ret w h₀ L m s nm D v nwf rows cnt k Q1 := fun h' tk' r es' n' xs a1 a2 a3 a4 a5 => h1 _ (f0 h' tk' r es' n' xs a1 a2 a3 a4 a5)
  clear e h1
  refine last1 fun Q1 h1 => if_eq2 T.F T.C.hk T.S.kind T.M.kind (fun e => body_5 T.toks e (by decide) (by decide) (fun h' tk' r es' n' xs a1 a2 a3 a4 a5 => h1 _ (f0 h' tk' r es' n' xs a1 a2 a3 a4 a5)) (e0 _) hi) fun e => ?_
  replace h0 : 6 ≤ k := int_lt h0 e
  exact body_6 T.toks (Int.le_antisymm (Int.lt_add_one_iff.mp h7) h0) hz (by decide) (by decide) (fun h' tk' r es' n' xs a1 a2 a3 a4 a5 => h1 _ (f0 h' tk' r es' n' xs a1 a2 a3 a4 a5)) hi
end
end Mine
end
section
open PySem PySem.W PySem.Spec PySem.Calls PyProof.Rows
set_option Elab.async false
set_option maxRecDepth 100000
set_option maxHeartbeats 1000000
set_option linter.unusedVariables false
set_option pp.maxSteps 3000
set_option pp.deepTerms false
set_option pp.deepTerms.threshold 6
namespace Mine
theorem kf_key {P} : nsIn (Mine.hd.heap_39 P) mainGlobals (Str.ofString "_law_key") = some (some (.ref 180)) := by kernel_rfl
theorem kf_key_k {P} : keepIn (Mine.hd.heap_39 P) (.ref 180) = true := by kernel_rfl
theorem Upd.pre {d : Addr} {o o' : Obj} {l l' : List (Addr × Obj)} (U : Upd d o o' l l') : ∀ {pre : List (Addr × Obj)}, (∀ p ∈ pre, p.1 ≠ d) → Upd d o o' (pre ++ l) (pre ++ l')
  | [], _ => U
  | p :: pre, h => .tail (h p (List.Mem.head _)) (Upd.pre U fun q hq => h q (List.Mem.tail _ hq))
theorem setFN {h₀ h h' : Heap} {L : Addr} {m m' : Str → Option Value} {news : List (Addr × Obj)} (F : Fr h₀ L h m) (N : News h₀ L h news) (n : h'.Ns L m') (k : ∀ c o, c ≠ L → h.get? c = some o → h'.get? c = some o) : Fr h₀ L h' m' ∧ News h₀ L h' news :=
  ⟨⟨n, fun b o e => k b o (Nat.ne_of_lt (Nat.lt_of_lt_of_le (Heap.lt_size e) F.above)) (F.keep b o e), F.above⟩, fun p hp => ⟨k _ _ (N p hp).2.1 (N p hp).1, (N p hp).2⟩⟩
theorem RowIs.mono {nw nw' : List (Addr × Obj)} {R : RowT} {r : Value} (H : RowIs nw R r) (h : ∀ p ∈ nw, p ∈ nw') : RowIs nw' R r := by
  cases H with
  | txt => exact .txt
  | val => exact .val
  | pair hq => exact .pair (h _ hq)
/-- the law's names, ints alone -/
noncomputable def AllInt (D : List (Str × Value)) : Prop := ∀ p ∈ D, p.1 ∈ nm8 ∧ ∃ i t, p.2 = .int i t
theorem nm8_ok : ∀ x ∈ nm8, PyData.strOk x = true := by decide +kernel
noncomputable def dat : Value → PyData
  | .int i _ => .int i
  | .str x _ => .str x
  | _ => .none
noncomputable def rowDat : RowT → PyData
  | .txt x => .str x
  | .val u => dat u
  | .pair k u => .tuple [.str k, dat u]
noncomputable def RowT.ok : RowT → Prop
  | .txt x => PyData.strOk x = true
  | .val u => u = .none ∨ ∃ i t, u = .int i t
  | .pair k u => PyData.strOk k = true ∧ ∃ i t, u = .int i t
theorem RowIs.reads {nw : List (Addr × Obj)} {h₀ h : Heap} {L : Addr} {R : RowT} {r : Value} (H : RowIs nw R r) (N : News h₀ L h nw) (ok : R.ok) : ∃ as, Reads h r (rowDat R) as := by
  cases H with
  | txt => exact ⟨_, .str _ _⟩
  | val =>
    rcases ok with rfl | ⟨i, t, rfl⟩
    · exact ⟨_, .none⟩
    · exact ⟨_, .int _ _⟩
  | pair hq =>
    obtain ⟨_, i, t, rfl⟩ := ok
    exact ⟨_, .tuple (N _ hq).1 rfl rfl (.cons (.str _ _) (.cons (.int _ _) .nil))⟩
theorem rowDat_eqv {R : RowT} (ok : R.ok) : PyData.eqv (rowDat R) (rowDat R) = true := by
  cases R with
  | txt x => simp [rowDat, PyData.eqv]
  | val u =>
    rcases ok with rfl | ⟨i, t, rfl⟩
    · rfl
    · simp [rowDat, dat, PyData.eqv]
  | pair k u =>
    obtain ⟨_, i, t, rfl⟩ := ok
    simp [rowDat, dat, PyData.eqv, PyData.eqvAll]
theorem rowDat_shaped {R : RowT} (ok : R.ok) : SeqAt.shaped (rowDat R) = true := by
  cases R with
  | txt x =>
    have ok : PyData.strOk x = true := ok
    simp [SeqAt.shaped, rowDat, PyData.canLay0, PyData.depth, ok]
  | val u =>
    rcases ok with rfl | ⟨i, t, rfl⟩
    · rfl
    · rfl
  | pair k u =>
    obtain ⟨hk, i, t, rfl⟩ := ok
    simp [hk, SeqAt.shaped, rowDat, dat, PyData.canLay0, PyData.canLayAll0, PyData.depth, PyData.depthAll]
theorem valueAt_mem {D : List (Str × Value)} {k : Str} {u : Value} (h : valueAt D k = some u) : ∃ p ∈ D, p.2 = u := by
  unfold valueAt at h
  obtain ⟨p, hp, rfl⟩ := Option.map_eq_some_iff.mp h
  exact ⟨p, List.mem_of_find?_eq_some hp, rfl⟩
theorem stored_int {D : List (Str × Value)} {k : Str} {i : Int} {t : Tok} (h : AllInt D) (hk : k ∈ nm8) : AllInt (stored D k (.int i t)) := by
  intro p hp
  unfold stored at hp
  split at hp
  · obtain ⟨q, hq, rfl⟩ := List.mem_map.mp hp
    split
    · exact ⟨(h q hq).1, _, _, rfl⟩
    · exact h q hq
  · rcases List.mem_append.mp hp with hp | hp
    · exact h p hp
    · rw [List.mem_singleton.mp hp]; exact ⟨hk, _, _, rfl⟩
theorem deedOf_ok {k : Int} {D : List (Str × Value)} {nm : Str} {i : Int} {t : Tok} (h : AllInt D) (hn : nm ∈ nm8) : (deedOf k D nm (.int i t)).1.ok ∧ AllInt (deedOf k D nm (.int i t)).2 := by
  have hv : ∀ {u}, valueAt D nm = some u → ∃ i t, u = .int i t := fun e => by
    obtain ⟨p, hp, rfl⟩ := valueAt_mem e; exact (h p hp).2
  have hw : AllInt (without D nm) := fun p hp => h p (List.mem_filter.mp hp).1
  unfold deedOf
  split
  · exact ⟨show PyData.strOk (Str.ofString "set") = true from by decide +kernel, stored_int h hn⟩
  split
  · split
    · exact ⟨show PyData.strOk (Str.ofString "gone") = true from by decide +kernel, hw⟩
    · exact ⟨show PyData.strOk (Str.ofString "KeyError") = true from by decide +kernel, h⟩
  split
  · cases e : valueAt D nm with
    | none => exact ⟨show PyData.strOk (Str.ofString "KeyError") = true from by decide +kernel, h⟩
    | some u => exact ⟨.inr (hv e), h⟩
  split
  · refine ⟨?_, ?_⟩
    · cases e : valueAt D nm with
      | none => exact .inr ⟨_, _, rfl⟩
      | some u => exact .inr (hv e)
    · show AllInt (defaulted D nm (.int i t))
      unfold defaulted
      split
      · exact h
      · exact stored_int h hn
  split
  · cases e : valueAt D nm with
    | none => exact ⟨.inl rfl, h⟩
    | some u => exact ⟨.inr (hv e), hw⟩
  split
  · cases e : D.getLast? with
    | none => exact ⟨show PyData.strOk (Str.ofString "KeyError") = true from by decide +kernel, h⟩
    | some kv => exact ⟨⟨nm8_ok _ (h kv (List.mem_of_getLast? e)).1, (h kv (List.mem_of_getLast? e)).2⟩, fun p hp => h p (List.dropLast_subset _ hp)⟩
  · exact ⟨show PyData.strOk (Str.ofString "updated") = true from by decide +kernel, stored_int h hn⟩
section
variable {prog : Program} {w : World} {A : Around} {E : Value → Shared → Prop} {s : Shared} {h₀ : Heap} {L : Addr} {m : Str → Option Value} {news : List (Addr × Obj)}
theorem item_list {value slice : Expr} {l : Addr} {vs : List Value} {cnt : Nat} {k : Int} {u : Tok} {v : Value} {Q : Value → Shared → Prop} (N : News h₀ L s.heap news) (hl : (l, listOf vs.toArray cnt) ∈ news) (h0 : 0 ≤ k) (hhi : k < 2 ^ 63) (hx : vs[k.toNat]? = some v) (h : Q v s)
    (hs : subscripted slice false (.ref l) (.int k u) = operate [.ref l, .int k u] (getItem (.ref l) (.int k u))) :
    wpAny (model prog w) A (subscriptTail value slice (.ref l) (.int k u)) Q E s := by
  have hL : s.heap.IsList l vs.toArray := ⟨_, (N _ hl).1, rfl, cnt, rfl⟩
  exact PyProof.Rows.tail_any hL.typeIs slot_list_getitem.lookup (wpAny_getItem_list hL h0 hhi (by simpa using hx) h) hs
end
theorem nodup_len {α : Type} [DecidableEq α] : ∀ {l l' : List α}, l.Nodup → (∀ x ∈ l, x ∈ l') → l.length ≤ l'.length
  | [], _, _, _ => Nat.zero_le _
  | x :: l, l', hn, hs => by
    have hx := hs x (List.Mem.head _)
    have hn' := List.nodup_cons.mp hn
    have ih := nodup_len (l := l) (l' := l'.erase x) hn'.2 fun y hy => (List.mem_erase_of_ne (fun e => hn'.1 (by rw [← e]; exact hy))).mpr (hs y (List.Mem.tail _ hy))
    rw [List.length_erase_of_mem hx] at ih
    have : 0 < l'.length := List.length_pos_of_mem hx
    simp only [List.length_cons]
    omega
theorem nm8_len {D : List (Str × Value)} (h : AllInt D) (nd : (D.map (·.1)).Nodup) : D.length ≤ 8 := by
  have : (D.map (·.1)).length ≤ nm8.length := by
    refine nodup_len nd fun x hx => ?_
    obtain ⟨p, hp, rfl⟩ := List.mem_map.mp hx
    exact (h p hp).1
  rw [List.length_map] at this
  exact this
/-- what stands between the turns of the deed -/
inductive DJ (w : World) (R : RowT × List (Str × Value)) (D : List (Str × Value)) (I9 l : Addr) (T3 : List (Addr × Obj)) (nw2 : List DictEntry → Nat → List DictEntry → Nat → List (Addr × Obj)) (fr : List Addr) (g : Heap) (A : Around) (base : Heap) (outer : List Env) (kd vl : Value) (i : Nat) (gg : Heap) (m₁ : Str → Option Value) : List (Addr × Obj) → Prop
  | mk {rows : List Value} {c : Nat} {es₁ : List DictEntry} {n₁ : Nat} {es₂ : List DictEntry} {n₂ : Nat} {xs : List (Addr × Obj)} : rows.length = i → (∀ v ∈ rows, RowIs xs R.1 v) → (∀ q ∈ xs, I9 < q.1) → Ent PySem.Challenge.rw_be0018_01.row.prog w es₁ (if i = 0 then D else R.2) → Ent PySem.Challenge.rw_be0018_01.row.prog w es₂ (if i ≤ 1 then D else R.2) → KtsTurn fr g gg → Below A base outer gg →
      m₁ (Str.ofString "rows") = some (.ref l) → m₁ (Str.ofString "kind") = some kd → m₁ (Str.ofString "value") = some vl → DJ w R D I9 l T3 nw2 fr g A base outer kd vl i gg m₁ (xs ++ (T3 ++ (l, listOf (List.toArray rows) c) :: nw2 es₁ n₁ es₂ n₂))
theorem Book.mono {news news' : List (Addr × Obj)} {b : Addr} {kv : Value} {nm : Str} {c : Value} {od : Option Addr} {es : List DictEntry} {n : Nat} (Bk : Book news b kv nm c od es n) (h : ∀ q ∈ news, q ∈ news') : Book news' b kv nm c od es n := by
  cases Bk with
  | cd h1 h2 a b c => exact .cd (h _ h1) (h _ h2) a b c
  | dict h1 a => exact .dict (h _ h1) a
theorem rot_mid {α : Type} {a : α} {xs ys l : List α} : ∀ q ∈ a :: ((ys ++ xs) ++ l), q ∈ ys ++ a :: (xs ++ l) := fun q hq => by
  rcases List.mem_cons.mp hq with h | hq
  · exact List.mem_append_right _ (h ▸ List.Mem.head _)
  rw [List.append_assoc] at hq
  exact (List.mem_append.mp hq).elim (fun h => List.mem_append_left _ h) fun h => List.mem_append_right _ (List.Mem.tail _ h)
section
variable {w : World} {p : Program} {loose : List Str} {mean : ExcName → Option Value} {mg mb : Str → Option Value} {dp un : Nat} {gd : Option (List Code)} {cn : Str} {cs : Scope} {a : Addr} {ccd : Value} {outer : List Env} {A₀ : Around} {base h₀ : Heap} {L : Addr} {m : Str → Option Value} {s : Shared} {Q : Flow → Shared → Prop}
  {b l : Addr} {kv : Value} {nm : Str} {c : Value} {od : Option Addr} {es : List DictEntry} {n : Nat} {D : List (Str × Value)} {v : Value} {rows : List Value} {cnt : Nat} {tt : Tok} {k : Int}
theorem deed_step {oI : Obj} {I9 : Addr} {T3 xs : List (Addr × Obj)} {nx : List DictEntry → Nat → List (Addr × Obj)} (C : Ctx w p loose mean mg mb A₀ base outer h₀ cs dp un) (S : Scp cn cs L a ccd) (M : Loc m b kv l k tt v) (F : Fr h₀ L s.heap m)
    (N : News h₀ L s.heap ((I9, oI) :: (xs ++ (T3 ++ (l, listOf (List.toArray rows) cnt) :: nx es n)))) (hxs : ∀ q ∈ xs, I9 < q.1) (hT : ∀ q ∈ T3, l < q.1) (hlI : l < I9) (hl : ∀ es n, ∀ q ∈ nx es n, q.1 < l) (hbl : b < l)
    (Bk : Book (nx es n) b kv nm c od es n) (U : ∀ es n es' n', Upd b (dob c od es n) (dob c od es' n') (nx es n) (nx es' n')) (H : Ent PySem.Challenge.rw_be0018_01.row.prog w es D) (hz : D.length < 63) (hr : rows.length ≤ 1000) (hb : (b == sysModules) = false)
    (h0 : 0 ≤ k) (h7 : k < 7) (XB : (Mine.hd.heap_39 w.params).In base) (TB : Top p loose mean mg mb base) (hi : interactive (envX cn cs L a ccd []) = false) (hke : (envOf cn cs L a ccd).kindOf "KeyError" = some .globalImplicit) (hcam : (ktrTop dp un gd cn cs L a ccd [] outer) = A₀.deeper (envOf cn cs L a ccd))
    (ret : ∀ g' h' tk' r es' n' ys, KtsTurn (outer.filterMap (·.frame)) h₀ g' → Below A₀ base outer g' → Fr g' L h' m → News g' L h' ((I9, oI) :: ((ys ++ xs) ++ (T3 ++ (l, listOf (List.toArray (rows ++ [r])) (cnt + 1)) :: nx es' n'))) → RowIs ys (deedOf k D nm v).1 r → Ent PySem.Challenge.rw_be0018_01.row.prog w es' (deedOf k D nm v).2 → (∀ q ∈ ys ++ xs, I9 < q.1) → Q .next { s with heap := h', toks := tk' }) :
    wpAny (model PySem.Challenge.rw_be0018_01.row.prog w) (ktrTop dp un gd cn cs L a ccd [] outer) (execs deedTurn (envX cn cs L a ccd [])) Q (fun _ _ => False) s := by
  have up : ∀ rows cnt es n, ∀ q ∈ nx es n, q ∈ (I9, oI) :: (xs ++ (T3 ++ (l, listOf (List.toArray rows) cnt) :: nx es n)) := fun _ _ _ _ q hq => List.Mem.tail _ (List.mem_append_right _ (List.mem_append_right _ (List.Mem.tail _ hq)))
  have xb : ∀ {y : Addr}, y ≤ l → ∀ q ∈ xs, q.1 ≠ y := fun hy q hq => Nat.ne_of_gt (Nat.lt_of_le_of_lt hy (Nat.lt_trans hlI (hxs q hq)))
  have tb : ∀ {y : Addr}, y ≤ l → ∀ q ∈ T3, q.1 ≠ y := fun hy q hq => Nat.ne_of_gt (Nat.lt_of_le_of_lt hy (hT q hq))
  refine turn_c (nwf := fun rows c es' n' => (I9, oI) :: (xs ++ (T3 ++ (l, listOf (List.toArray rows) c) :: nx es' n'))) ⟨C, S, M, F, N, Bk.mono (up _ _ _ _), fun rows c rows' c' es' n' => .tail (Nat.ne_of_gt hlI) (Upd.pre (Upd.pre (.head fun q hq => Nat.ne_of_lt (hl _ _ q hq)) (tb (Nat.le_refl l))) (xb (Nat.le_refl l))), fun rows cnt es n es' n' => .tail (Nat.ne_of_gt (Nat.lt_trans hbl hlI)) (Upd.pre (Upd.pre (.tail (Nat.ne_of_gt hbl) (U es n es' n')) (tb (Nat.le_of_lt hbl))) (xb (Nat.le_of_lt hbl))), H, Nat.lt_succ_of_lt hz, hr, hb⟩ h0 h7 hz XB TB hi hke hcam ?_
  intro g' h' tk' r es' n' ys KT B' F' N' hrow H' hy
  exact ret g' h' tk' r es' n' ys KT B' F' (cb_drop N' rot_mid) hrow H' fun q hq => (List.mem_append.mp hq).elim (fun h => hy q h _ (List.Mem.head _)) (hxs q)
end
section
variable {w : World} {p : Program} {loose : List Str} {mean : ExcName → Option Value} {mg mb : Str → Option Value} {dp un : Nat} {gd : Option (List Code)} {cn : Str} {cs : Scope} {a : Addr} {ccd : Value} {cl : List (Str × Addr)} {A₀ : Around} {base h₀ : Heap} {L : Addr} {m : Str → Option Value} {news : List (Addr × Obj)} {s : Shared} {Q E : Value → Shared → Prop}
  {x dx d2 : Addr} {es es2 : List DictEntry} {n n2 : Nat} {D : List (Str × Value)} {num val k : Int} {tt tn tv : Tok} {news' : List DictEntry → Nat → List DictEntry → Nat → List (Addr × Obj)}
theorem deed_c (B : Below A₀ base [] h₀) (F : Fr h₀ L s.heap m) (X : (Mine.hd.heap_39 w.params).In base) (N : News h₀ L s.heap news) (T : Top p loose mean mg mb base) (hk : cs.kind = .function) (hdp : dp + 60 < recursionLimit) (hu : un + 600 < cLine)
    (hx : (x, cdObj dx es n) ∈ news) (hdx : ∀ es₁ n₁ es₂ n₂, (dx, dictOf [] 0) ∈ news' es₁ n₁ es₂ n₂) (hd2 : (d2, dictOf es2 n2) ∈ news) (hn : 0 ≤ num) (hk0 : 0 ≤ k) (hk7 : k < 7)
    (e0 : news = news' es n es2 n2) (UU : ∀ es₁ n₁ es₂ n₂ es₃ n₃, Upd x (cdObj dx es₁ n₁) (cdObj dx es₃ n₃) (news' es₁ n₁ es₂ n₂) (news' es₃ n₃ es₂ n₂)) (UV : ∀ es₁ n₁ es₂ n₂ es₃ n₃, Upd d2 (dictOf es₂ n₂) (dictOf es₃ n₃) (news' es₁ n₁ es₂ n₂) (news' es₁ n₁ es₃ n₃))
    (hxm : (x == sysModules) = false) (hdm : (d2 == sysModules) = false)
    (H : Ent PySem.Challenge.rw_be0018_01.row.prog w es D) (H2 : Ent PySem.Challenge.rw_be0018_01.row.prog w es2 D) (hD : AllInt D)
    (ret : ∀ es' n' es2' n2' D' h' tk', AllInt D' → Ent PySem.Challenge.rw_be0018_01.row.prog w es' D' → Ent PySem.Challenge.rw_be0018_01.row.prog w es2' D' → Fr h₀ L h' m → News h₀ L h' (news' es' n' es2' n2') → Q (.bool true) { s with heap := h', toks := tk' }) :
    wpAny (model PySem.Challenge.rw_be0018_01.row.prog w) (ktrTop dp un gd cn cs L a ccd cl []) (call (.ref 187) [.ref x, .ref d2, .int k tt, .int num tn, .int val tv]) Q E s := by
  have X₀ := X.keeps B.stays
  revert X₀
  k_fill
  intro X₀
  refine wpAny_call ?_
  refine' enter_S0 (K := Mine.hd.heap_39 w.params) B F X₀ N (T.keeps B.stays) rfl ?k6 ?k7 ?k8 ?k9 ?kB ?_ hk ?c2 ?c3 ?c4 ?c5
  (case k6 => k_is)
  (case k7 => k_is)
  (case k8 => show dp < recursionLimit; omega)
  (case k9 => first | exact BindsTo.of_eq rfl | exact binds_K (by k_in) rfl (by k_is) rfl rfl rfl)
  (case kB => exact locs rfl)
  (case c2 => exact rfl)
  (case c3 => exact rfl)
  (case c4 => exact rfl)
  (case c5 => decide)
  intro g L1 h1 FG F1 N1 B1 X1 T1 l1
  generalize hbs : (List.filterMap (fun n => Option.map _ _) _ : List (Str × Value)).reverse = bs at F1
  have e1 : List.lookup (Str.ofString "told") bs = some (.ref x) := by rw [← hbs]; rfl
  have e2 : List.lookup (Str.ofString "due") bs = some (.ref d2) := by rw [← hbs]; rfl
  have e3 : List.lookup (Str.ofString "kind") bs = some (.int k tt) := by rw [← hbs]; rfl
  have e4 : List.lookup (Str.ofString "number") bs = some (.int num tn) := by rw [← hbs]; rfl
  have e5 : List.lookup (Str.ofString "value") bs = some (.int val tv) := by rw [← hbs]; rfl
  clear hbs
  show wpAny _ (ktrTop (dp + 1) (un + 3) gd _ _ L1 187 _ [] [envX cn cs L a ccd cl]) _ _ _ _
  refine gen_q fun Q0 hQ0 => ?_
  refine wpAny_execs_cons (Assign_Tuple (Call_ (nameX_K (K := Mine.hd.heap_39 w.params) F1 X1 (topRead_of T1) kf_key ?_)))
  refine callWith_K X1 kf_key_k (spliced_more (nameX_L F1 e4 (spliced_none ⟨X1.keeps F1.keep, ?_⟩)))
  refine key_c B1 F1 X1 N1 T1 rfl (by omega) (by omega) hn fun T' kv kk nm t' h2 tk2 hnm hkv hlen hup F2 N2 lT => ?_
  refine kcp_assign (m := fun y => List.lookup y bs) rfl ⟨_, (N2 _ (List.Mem.head _)).1, rfl, _, rfl⟩ rfl rfl rfl F2.ns fun h3 tk3 n3 k3 => ?_
  dsimp only at k3 ⊢
  obtain ⟨F3, N3⟩ := setFN F2 (cb_drop N2 fun _ hp => List.Mem.tail _ hp) n3 k3
  refine wpAny_execs_cons (wpAny_Assign_Name (List_ (spliced_none (newList_N F3 N3 (fun h4 F4 N4 => storeX_L F4 N4 (fun h5 F5 N5 => ?_)) (by decide)))))
  generalize hl : h3.objs.size = l at N4 N5 F5 ⊢
  have ll : ∀ p ∈ news, p.1 < l := fun p hp => hl ▸ Heap.lt_size (N3 p hp).1
  have lL : L1 < l := hl ▸ F3.ns.lt
  refine wpAny_execs_cons (wpAny_For (Tuple_ (spliced_more (Tuple_ (spliced_more (nameX_L F5 e1 (spliced_more (nameX_L F5 rfl (spliced_none (newTuple_N F5 N5 (fun h6 F6 N6 => ?_) (by rw [sizeLine_eq]; exact (by decide : 2 ≤ 16777216))))))))))))
  generalize hD1 : h5.objs.size = D1 at N6 ⊢
  have l1' : ∀ p ∈ (l, listOf #[] 0) :: news, p.1 < D1 := fun p hp => hD1 ▸ Heap.lt_size (N5 p hp).1
  refine spliced_more (Tuple_ (spliced_more (nameX_L F6 e2 (spliced_more (nameX_L F6 rfl (spliced_none (newTuple_N F6 N6 (fun h7 F7 N7 => ?_) (by rw [sizeLine_eq]; exact (by decide : 2 ≤ 16777216)))))))))
  generalize hD2 : h6.objs.size = D2 at N7 ⊢
  have l2' : ∀ p ∈ (D1, _) :: (l, listOf #[] 0) :: news, p.1 < D2 := fun p hp => hD2 ▸ Heap.lt_size (N6 p hp).1
  refine spliced_none (newTuple_N F7 N7 (fun h8 F8 N8 => ?_) (by rw [sizeLine_eq]; exact (by decide : 2 ≤ 16777216)))
  generalize hD3 : h7.objs.size = D3 at N8 ⊢
  have l3' : ∀ p ∈ (D2, _) :: (D1, _) :: (l, listOf #[] 0) :: news, p.1 < D3 := fun p hp => hD3 ▸ Heap.lt_size (N7 p hp).1
  refine wpAny_pyIter_tuple (items := #[.ref D1, .ref D2]) ⟨_, (N8 _ (List.Mem.head _)).1, rfl, _, rfl⟩ ?_
  dsimp only
  generalize hI9 : h8.objs.size = I9
  have up : ∀ b o, h8.get? b = some o → (h8.push { cls := .type "tuple_iterator", data := .fields #[.ref D3, .int 0 0] }).get? b = some o := fun b o e => Heap.get?_push_of_some _ e
  obtain ⟨F9, N9⟩ := keepsFN F8 N8 up
  have hkeys : ∀ es₁ n₁ es₂ n₂, (news' es₁ n₁ es₂ n₂).map (·.1) = news.map (·.1) := fun es₁ n₁ es₂ n₂ => by
    rw [e0, upd_keys (UU es n es₂ n₂ es₁ n₁), upd_keys (UV es n es2 n2 es₂ n₂)]
  have hll : ∀ es₁ n₁ es₂ n₂, ∀ p ∈ news' es₁ n₁ es₂ n₂, p.1 < l := fun es₁ n₁ es₂ n₂ p hp => by
    have : p.1 ∈ news.map (·.1) := by rw [← hkeys es₁ n₁ es₂ n₂]; exact List.mem_map_of_mem hp
    obtain ⟨q, hq, e⟩ := List.mem_map.mp this
    exact e ▸ ll q hq
  have d1 : l < D1 := l1' _ (List.Mem.head _)
  have d2' : D1 < D2 := l2' _ (List.Mem.head _)
  have d3 : D2 < D3 := l3' _ (List.Mem.head _)
  have d4 : D3 < I9 := hI9 ▸ Heap.lt_size (N8 _ (List.Mem.head _)).1
  have hxl : x < l := ll _ hx
  have hdl : d2 < l := ll _ hd2
  have hI0 : g.get? I9 = none := by
    rw [← hI9]
    cases e : g.get? h8.objs.size with
    | none => rfl
    | some o => exact absurd (Heap.lt_size (F8.keep _ _ e)) (Nat.lt_irrefl _)
  have LI : L1 ≠ I9 := fun e => by have := F8.ns.lt; rw [e, ← hI9] at this; exact Nat.lt_irrefl _ this
  generalize hR : deedOf k D nm (.int val tv) = R
  have hok := deedOf_ok (k := k) (t := tv) (i := val) hD hnm
  rw [hR] at hok
  have hT3 : ∀ q ∈ [(D3, ({ cls := .type "tuple", data := .seq #[.ref D1, .ref D2] } : Obj)), (D2, { cls := .type "tuple", data := .seq #[.ref d2, .str nm t'] }), (D1, { cls := .type "tuple", data := .seq #[.ref x, kv] })], l < q.1 ∧ q.1 < I9 := by
    refine List.forall_mem_cons.mpr ⟨⟨Nat.lt_trans d1 (Nat.lt_trans d2' d3), d4⟩, List.forall_mem_cons.mpr ⟨⟨Nat.lt_trans d1 d2', Nat.lt_trans d3 d4⟩, List.forall_mem_cons.mpr ⟨⟨d1, Nat.lt_trans d2' (Nat.lt_trans d3 d4)⟩, fun _ h => nomatch h⟩⟩⟩
  have lI : l < I9 := Nat.lt_trans d1 (Nat.lt_trans d2' (Nat.lt_trans d3 d4))
  refine for_feedsG (own := [I9]) (fx := [(D3, ({ cls := .type "tuple", data := .seq #[.ref D1, .ref D2] } : Obj)), (D2, { cls := .type "tuple", data := .seq #[.ref d2, .str nm t'] }), (D1, { cls := .type "tuple", data := .seq #[.ref x, kv] })])
    (DJ w R D I9 l [(D3, ({ cls := .type "tuple", data := .seq #[.ref D1, .ref D2] } : Obj)), (D2, { cls := .type "tuple", data := .seq #[.ref d2, .str nm t'] }), (D1, { cls := .type "tuple", data := .seq #[.ref x, kv] })] news' ([envX cn cs L a ccd cl].filterMap (·.frame)) g (ktrTop dp un gd cn cs L a ccd cl []) base [envX cn cs L a ccd cl] (.int k tt) (.int val tv))
    (feeds_tups (prs := [(D1, .ref x, kv), (D2, .ref d2, .str nm t')]) (I := I9) (ax := D3) rfl (Nat.ne_of_lt d4) ?_) ⟨rfl, rfl, rfl⟩ ?_ ?_ F9 N9 ?_ ?_ ?_ ?_ ?_ ?_ ?_ ?_
  · exact List.forall_mem_cons.mpr ⟨Nat.ne_of_lt (Nat.lt_trans d2' (Nat.lt_trans d3 d4)), List.forall_mem_cons.mpr ⟨Nat.ne_of_lt (Nat.lt_trans d3 d4), fun _ h => nomatch h⟩⟩
  · refine ⟨⟨_, hI9 ▸ Heap.get?_push_size _ rfl, rfl, rfl⟩, ⟨_, (N9 _ (List.Mem.head _)).1, rfl, _, rfl⟩, List.forall_mem_cons.mpr ⟨⟨_, (N9 _ (List.Mem.tail _ (List.Mem.tail _ (List.Mem.head _)))).1, rfl, _, rfl⟩, List.forall_mem_cons.mpr ⟨⟨_, (N9 _ (List.Mem.tail _ (List.Mem.head _))).1, rfl, _, rfl⟩, fun _ h => nomatch h⟩⟩⟩
  · exact fun i h hs b hb => List.mem_singleton.mp hb ▸ let ⟨o, e, _⟩ := hs.1; ⟨o, e⟩
  · exact fun hm => LI (List.mem_singleton.mp hm)
  · intro i gg m₁ nw hJ b hb
    cases hJ with
    | mk _ _ _ _ _ KT => exact List.mem_singleton.mp hb ▸ KT.none_ _ hI0
  · exact fun p hp hm => Nat.ne_of_lt (lt_cons (a := (D3, _)) d4 (fun q hq => Nat.lt_trans (l3' q hq) d4) p hp) (List.mem_singleton.mp hm)
  · exact List.forall_mem_cons.mpr ⟨.inl (List.Mem.head _), List.forall_mem_cons.mpr ⟨.inr ⟨_, List.Mem.head _⟩, List.forall_mem_cons.mpr ⟨.inr ⟨_, List.Mem.tail _ (List.Mem.tail _ (List.Mem.head _))⟩, List.forall_mem_cons.mpr ⟨.inr ⟨_, List.Mem.tail _ (List.Mem.head _)⟩, fun _ h => nomatch h⟩⟩⟩⟩
  · intro i gg m₁ nw hJ p hp
    cases hJ with
    | mk => exact List.mem_append_right _ (List.mem_append_left _ hp)
  · rw [e0]
    exact DJ.mk (rows := []) (c := 0) (es₁ := es) (n₁ := n) (es₂ := es2) (n₂ := n2) (xs := []) rfl (fun v hv => nomatch hv) (fun q hq => nomatch hq) H H2 KtsTurn.refl B1 (rfl) (e3) (e5)
  · intro i gg m₁ m₂ nw h tk9 fo hi hJ hP F5 N5 hfo off
    refine wpAny_noRaise (gen_q fun Q' hQ => ?_)
    obtain ⟨oI, rfl⟩ := one_of hfo
    obtain ⟨p', hp', rfl⟩ := hP
    have hz : D.length < 63 := Nat.lt_of_le_of_lt (nm8_len hD H.nd) (by decide)
    have off' : ∀ {ys : List (Addr × Obj)} {rows' : List Value} {c' : Nat} {es₁' : List DictEntry} {n₁' : Nat} {es₂' : List DictEntry} {n₂' : Nat}, (∀ q ∈ ys, I9 < q.1) → ∀ p ∈ ys ++ ([(D3, ({ cls := .type "tuple", data := .seq #[.ref D1, .ref D2] } : Obj)), (D2, { cls := .type "tuple", data := .seq #[.ref d2, .str nm t'] }), (D1, { cls := .type "tuple", data := .seq #[.ref x, kv] })] ++ (l, listOf (List.toArray rows') c') :: news' es₁' n₁' es₂' n₂'), p.1 ∉ [I9] := fun hy p hp hm => by
      have e : p.1 = I9 := List.mem_singleton.mp hm
      rcases List.mem_append.mp hp with hp | hp
      · exact Nat.ne_of_gt (hy p hp) e
      rcases List.mem_append.mp hp with hp | hp
      · exact Nat.ne_of_lt (hT3 p hp).2 e
      · exact Nat.ne_of_lt (lt_cons (a := (l, _)) lI (fun q hq => Nat.lt_trans (hll _ _ _ _ q hq) lI) p hp) e
    generalize hTT : [(D3, ({ cls := .type "tuple", data := .seq #[.ref D1, .ref D2] } : Obj)), (D2, { cls := .type "tuple", data := .seq #[.ref d2, .str nm t'] }), (D1, { cls := .type "tuple", data := .seq #[.ref x, kv] })] = TT at hJ hQ off' hT3
    cases hJ with
    | @mk rows c es₁ n₁ es₂ n₂ xs hlen' hrows hxs Ha Hb KT BB m1 m2 m3 =>
    have hrow : ∀ {ys : List (Addr × Obj)} {r : Value}, RowIs ys R.1 r → ∀ v ∈ rows ++ [r], RowIs (ys ++ xs) R.1 v := fun {ys r} hr v hv => by
      rcases List.mem_append.mp hv with hv | hv
      · exact (hrows v hv).mono fun p hp => List.mem_append_right _ hp
      · rw [List.mem_singleton.mp hv]; exact hr.mono fun p hp => List.mem_append_left _ hp
    have hlr : ∀ r : Value, (rows ++ [r]).length = i + 1 := fun r => by rw [List.length_append, hlen']; rfl
    have hr1 : rows.length ≤ 1000 := hlen' ▸ Nat.le_of_lt (Nat.lt_trans (show i < 2 from hi) (by decide))
    rcases i with _ | _ | i
    · cases hp'
      refine deed_step (A₀ := ktrTop dp un gd cn cs L a ccd cl []) (D := D) (h₀ := gg) (L := L1) (s := { s with heap := h, toks := tk9 }) (oI := oI) (I9 := I9) (rows := rows) (cnt := c) (m := fun z => if z = Str.ofString "at" then some kv else if z = Str.ofString "book" then some (.ref x) else m₁ z) (xs := xs) (T3 := TT) (nx := fun es' n' => news' es' n' es₂ n₂) ?_ ?_ ⟨rfl, rfl, m1, m2, m3⟩ F5 N5 hxs (fun q hq => (hT3 q hq).1) lI (fun es₁ n₁ => hll es₁ n₁ es₂ n₂) hxl (.cd (upd_mem (UU es₁ n₁ es₂ n₂ es₁ n₁)) (hdx es₁ n₁ es₂ n₂) hkv hlen hup) (fun es' n' es'' n'' => UU es' n' es₂ n₂ es'' n'') Ha hz hr1 hxm hk0 hk7 X T ?_ ?_ ?_ ?_
      · exact ⟨BB, X.keeps BB.stays, T.keeps BB.stays, rfl, (by show dp + 1 + 40 < recursionLimit; omega), (by show un + 3 + 400 < cLine; omega)⟩
      · exact ⟨⟨rfl, by decide⟩, ⟨rfl, by decide⟩, ⟨rfl, by decide⟩, ⟨rfl, by decide⟩, ⟨rfl, by decide⟩⟩
      · rfl
      · rfl
      · rfl
      intro g' h' tk' r es' n' ys KT' B' F' N' hr H' hy
      rw [hR] at hr H'
      exact hQ .next _ (.mk F' N' (off' hy) (.mk (hlr r) (hrow hr) hy H' Hb (KT.trans KT') B' m1 m2 m3))
    · cases hp'
      refine deed_step (A₀ := ktrTop dp un gd cn cs L a ccd cl []) (D := D) (h₀ := gg) (L := L1) (s := { s with heap := h, toks := tk9 }) (oI := oI) (I9 := I9) (rows := rows) (cnt := c) (m := fun z => if z = Str.ofString "at" then some (.str nm t') else if z = Str.ofString "book" then some (.ref d2) else m₁ z) (xs := xs) (T3 := TT) (nx := fun es' n' => news' es₁ n₁ es' n') ?_ ?_ ⟨rfl, rfl, m1, m2, m3⟩ F5 N5 hxs (fun q hq => (hT3 q hq).1) lI (fun es₂ n₂ => hll es₁ n₁ es₂ n₂) hdl (.dict (upd_mem (UV es₁ n₁ es₂ n₂ es₂ n₂)) rfl) (fun es' n' es'' n'' => UV es₁ n₁ es' n' es'' n'') Hb hz hr1 hdm hk0 hk7 X T ?_ ?_ ?_ ?_
      · exact ⟨BB, X.keeps BB.stays, T.keeps BB.stays, rfl, (by show dp + 1 + 40 < recursionLimit; omega), (by show un + 3 + 400 < cLine; omega)⟩
      · exact ⟨⟨rfl, by decide⟩, ⟨rfl, by decide⟩, ⟨rfl, by decide⟩, ⟨rfl, by decide⟩, ⟨rfl, by decide⟩⟩
      · rfl
      · rfl
      · rfl
      intro g' h' tk' r es' n' ys KT' B' F' N' hr H' hy
      rw [hR] at hr H'
      exact hQ .next _ (.mk F' N' (off' hy) (.mk (hlr r) (hrow hr) hy Ha H' (KT.trans KT') B' m1 m2 m3))
    · exact absurd hi (fun h => Nat.not_lt_zero _ (Nat.lt_of_succ_lt_succ (Nat.lt_of_succ_lt_succ h)))
  · intro gg m' nw h tk hJ F5 N5
    refine gen_q fun Q' hQ => ?_
    cases hJ with
    | @mk rows c es₁ n₁ es₂ n₂ xs hlen' hrows hxs Ha Hb KT BB m1 m2 m3 =>
    obtain ⟨r0, r1, rfl⟩ := two_of hlen'
    have hmem : ∀ p ∈ xs, p ∈ xs ++ ([(D3, ({ cls := .type "tuple", data := .seq #[.ref D1, .ref D2] } : Obj)), (D2, { cls := .type "tuple", data := .seq #[.ref d2, .str nm t'] }), (D1, { cls := .type "tuple", data := .seq #[.ref x, kv] })] ++ (l, listOf (List.toArray [r0, r1]) c) :: news' es₁ n₁ es₂ n₂) := fun p hp => List.mem_append_left _ hp
    obtain ⟨as0, q0⟩ := RowIs.reads ((hrows r0 (List.Mem.head _)).mono hmem) N5 hok.1
    obtain ⟨as1, q1⟩ := RowIs.reads ((hrows r1 (List.Mem.tail _ (List.Mem.head _))).mono hmem) N5 hok.1
    have hlm := List.mem_append_right xs (List.mem_append_right [(D3, ({ cls := .type "tuple", data := .seq #[.ref D1, .ref D2] } : Obj)), (D2, { cls := .type "tuple", data := .seq #[.ref d2, .str nm t'] }), (D1, { cls := .type "tuple", data := .seq #[.ref x, kv] })] (List.Mem.head (a := (l, listOf (List.toArray [r0, r1]) c)) (news' es₁ n₁ es₂ n₂)))
    refine wpAny_execs_cons (wpAny_Return_some (wpAny_Compare1 (Subscript_ (nameX_L F5 m1 (wpAny_Constant_int ?_)))))
    refine item_list N5 hlm (by decide) (by decide) rfl ?_ rfl
    refine Subscript_ (nameX_L F5 m1 (wpAny_Constant_int ?_))
    refine item_list N5 hlm (by decide) (by decide) rfl ?_ rfl
    refine eq_dataH q0 q1 (rowDat_shaped hok.1) (rowDat_shaped hok.1) (by show un + 3 + 64 < cLine; omega) ?_
    rw [rowDat_eqv hok.1]
    exact hQ (.ret _) _ (hQ0 (.ret _) _ (leaveS0_ F5 N5 KT fun F' N' => ret es₁ n₁ es₂ n₂ R.2 _ _ hok.2 Ha Hb F' (cb_drop N' fun p hp => List.mem_append_right _ (List.mem_append_right _ (List.Mem.tail _ hp)))))
end
end Mine
end
section
open PySem PySem.W PySem.Calls PyProof.Rows PyProof.Rows.LCg
set_option Elab.async false
set_option maxRecDepth 100000
set_option maxHeartbeats 1000000
set_option linter.unusedVariables false
set_option pp.maxSteps 3000
set_option pp.deepTerms false
set_option pp.deepTerms.threshold 6
namespace Mine
section
variable {prog : Program} {w : World} {A : Around} {E : Value → Shared → Prop} {s : Shared} {R : Result → Shared → Prop}
theorem dcomp_loop {kx vx target iter : Expr} {scope : Scope} {pos : Pos} {it : Value} {D : Addr} {env : Env} (I : Nat → Shared → Prop)
    (turn : ∀ n s, I n s → wpAny (model prog w) A (pyNext it) (fun r s₁ => match r with
      | none => R (.ok .next) s₁
      | some v => wpAny (model prog w) A (letOwnedTupleGo target it v) (fun _ s₀ => wpAny (model prog w) A (assign target env v) (fun _ s₂ =>
            wpAny (model prog w) A (eval kx env) (fun kv s₄ => wpAny (model prog w) A (eval vx env) (fun vv s₅ =>
              wpAny (model prog w) A (dictSet D kv vv) (fun _ s₆ => ∃ m, m < n ∧ I m s₆) (notedBy (model prog w) A env fun e s' => R (.error e) s') s₅) (notedBy (model prog w) A env fun e s' => R (.error e) s') s₄) (notedBy (model prog w) A env fun e s' => R (.error e) s') s₂) (notedBy (model prog w) A env fun e s' => R (.error e) s') s₀) (notedBy (model prog w) A env fun e s' => R (.error e) s') s₁) (notedBy (model prog w) A env fun e s' => R (.error e) s') s)
    (n : Nat) (h : I n s) : codeAny (model prog w) A (.compLoop (.DictComp kx vx [⟨target, iter, [], 0⟩] scope pos) 0 it (.ref D) env) R s := by
  refine codeAny_loop rfl I (fun n s hI => ?_) n h
  show wpAny _ A ((compTurn (.DictComp kx vx [⟨target, iter, [], 0⟩] scope pos) 0 it (.ref D) env).onRaise (fun x => do noteFrame x env; theTreesLotGoes x)) _ _ s
  refine wpAny_noted ?_
  rw [compTurn_dict]
  refine wpAny_bind (wpAny_standAt (wpAny_bind (wpAny_mono (turn n s hI) (fun r s₁ h₁ => ?_) fun _ _ h' => h')))
  cases r with
  | none => exact wpAny_pure h₁
  | some v =>
    refine wpAny_bind (wpAny_mono h₁ (fun _ s₀ h₀ => ?_) fun _ _ h' => h')
    refine wpAny_bind (wpAny_mono h₀ (fun _ s₂ h₂ => ?_) fun _ _ h' => h')
    refine wpAny_bind (m := forIn [] true _) (wpAny_pure ?_)
    exact wpAny_bind (wpAny_bind (wpAny_mono h₂ (fun kv s₄ h₄ => wpAny_bind (wpAny_holding (wpAny_mono h₄ (fun vv s₅ h₅ => wpAny_bind (wpAny_standAt (wpAny_holding (wpAny_mono h₅ (fun _ s₆ h₆ => wpAny_pure ⟨rfl, h₆⟩) fun _ _ h' => h')))) fun _ _ h' => h'))) fun _ _ h' => h'))
end
section
variable {prog : Program} {w : World} {A : Around} {E : Value → Shared → Prop} {s : Shared} {h₀ : Heap} {L : Addr} {m : Str → Option Value} {env : Env}
/-- what stands between the turns -/
inductive MidD (prog : Program) (w : World) (s : Shared) (h₀ : Heap) (L C D : Addr) (m : Str → Option Value) (news : List (Addr × Obj)) (n : Nat) (St : Nat → Heap → Prop) (J : Nat → List (Str × Value) → Prop) : Nat → Shared → Prop
  | mk {h' : Heap} {tk i : Nat} {m' : Str → Option Value} {es : List DictEntry} {ep : Nat} {DD : List (Str × Value)} : i ≤ n → St i h' → Fr h₀ L h' m → h'.Ns C m' → News h₀ L h' ((D, dictOf es ep) :: news) → Ent prog w es DD → J i DD → MidD prog w s h₀ L C D m news n St J (n + 1 - i) { s with heap := h', toks := tk }
theorem dict_block {x1 x2 : Str} {p1 p2 : Pos} {target iter : Expr} {scope : Scope} {cl : List (Str × Addr)} {pos : Pos} {s₂ : Shared} {it : Value} {ok : Env → Prop} {own fp : List Addr} {fx : List (Addr × Obj)} {n : Nat} {P : Nat → (Str → Option Value) → (Str → Option Value) → Prop} {St : Nat → Heap → Prop} {news : List (Addr × Obj)}
    {RR : Value → Addr → Result → Shared → Prop} (J : Nat → List (Str × Value) → Prop)
    (W : Feeds prog w A it target ok own fp n P St) (hsz : n < 60) (hok : ∀ C, ok (compEnvC scope cl C env)) (hk1 : ∀ C, (compEnvC scope cl C env).kindOf x1 = some .local ∧ (x1 == ("__debug__" : Str)) = false) (hk2 : ∀ C, (compEnvC scope cl C env).kindOf x2 = some .local ∧ (x2 == ("__debug__" : Str)) = false)
    (hcell : ∀ y ∈ scope.names, y.2 ≠ .cell) (hkind : scope.kind = .function) (hst : St 0 s₂.heap) (hlive : ∀ i h, St i h → ∀ b ∈ own, ∃ o, h.get? b = some o)
    (F : Fr h₀ L s₂.heap m) (N : News h₀ L s₂.heap news) (hlim : h₀.NoLimit) (hL : L ∉ own) (h0 : ∀ b ∈ own, h₀.get? b = none) (hn : ∀ p ∈ news, p.1 ∉ own)
    (hfp : ∀ b ∈ fp, b ∈ own ∨ ∃ o, (b, o) ∈ news) (hJ : J 0 []) (hlen : ∀ i D, J i D → D.length ≤ i)
    (turn : ∀ i DD m₁ m', i < n → J i DD → P i m₁ m' → ∃ k t v, m' x1 = some (.str k t) ∧ m' x2 = some v ∧ J (i + 1) (stored DD k v))
    (hRR : ∀ D C h tk m' es ep DD, Fr h₀ L h m → News h₀ L h ((D, dictOf es ep) :: news) → (∀ p ∈ news, p.1 < D) → h.Ns C m' → h₀.get? C = none → C ≠ L → C ≠ D → (∀ p ∈ news, p.1 ≠ C) → (D == sysModules) = false → Ent prog w es DD → J n DD → RR (.ref D) C (.ok .next) { s₂ with heap := h, toks := tk }) :
    wpAny (model prog w) A newDict (fun acc s₃ => wpAny (model prog w) A (newFunctionEnv scope env.globals cl [] env.qual none .none (some env)) (fun cenv s₄ =>
      codeAny (model prog w) A (.compStart (.DictComp (.Name x1 p1) (.Name x2 p2) [⟨target, iter, [], 0⟩] scope pos) 0 it acc { cenv with scope := relabel scope env }) (RR acc cenv.locals) s₄) E s₃) E s₂ := by
  refine wpAny_newObj_type (wpAny_newFunctionEnv hcell (by intro y hy; simp at hy) (fun h₁ hns₁ hsb₁ => ?_) hkind)
  have hDm : (s₂.heap.objs.size == sysModules) = false := F.notModules (modules_low hlim)
  generalize hH2 : s₂.heap.push { cls := .type "dict", dict := none, data := .dict #[] } = H2 at hns₁ hsb₁ ⊢
  have hC : H2.objs.size = s₂.heap.objs.size + 1 := by rw [← hH2, Heap.size_push]
  have hDC : s₂.heap.objs.size ≠ H2.objs.size := by rw [hC]; exact Nat.ne_of_lt (Nat.lt_succ_self _)
  have below : ∀ b, b < s₂.heap.objs.size → b ≠ H2.objs.size ∧ b ≠ s₂.heap.objs.size := fun b hb => ⟨by rw [hC]; exact Nat.ne_of_lt (Nat.lt_succ_of_lt hb), Nat.ne_of_lt hb⟩
  have hol : ∀ b ∈ own, b < s₂.heap.objs.size := fun b hb => by obtain ⟨o, e⟩ := hlive _ _ hst b hb; exact Heap.lt_size e
  have hDo : s₂.heap.objs.size ∉ own := fun hm => Nat.lt_irrefl _ (hol _ hm)
  have hCo : H2.objs.size ∉ own := fun hm => by have := hol _ hm; rw [hC] at this; exact Nat.lt_irrefl _ (Nat.lt_of_succ_lt this)
  have hxl : ∀ p ∈ news, p.1 < s₂.heap.objs.size := fun p hp => Heap.lt_size (N _ hp).1
  have hCf : H2.objs.size ∉ fp := fun hm => by
    rcases hfp _ hm with q | ⟨o, q⟩
    · exact hCo q
    · exact (below _ (hxl _ q)).1 rfl
  have hDf : s₂.heap.objs.size ∉ fp := fun hm => by
    rcases hfp _ hm with q | ⟨o, q⟩
    · exact hDo q
    · exact (below _ (hxl _ q)).2 rfl
  have old : ∀ b o, s₂.heap.get? b = some o → h₁.get? b = some o := fun b o e => hsb₁.extBut b o (below b (Heap.lt_size e)).1 (Heap.get?_push_of_some _ (hH2 ▸ Heap.get?_push_of_some _ e))
  have hacc : h₁.get? s₂.heap.objs.size = some (dictOf [] 0) := hsb₁.extBut _ _ hDC (Heap.get?_push_of_some _ (hH2 ▸ Heap.get?_push_size _ rfl))
  have hst₁ : St 0 h₁ := W.frame _ _ _ hst fun b _ o e => old b o e
  have fresh : ∀ a, s₂.heap.objs.size ≤ a → s₂.heap.get? a = none := fun a ha => by
    cases e : s₂.heap.get? a with
    | none => rfl
    | some o' => exact absurd (Heap.lt_size e) (Nat.not_lt.mpr ha)
  have fresh₀ : ∀ a, s₂.heap.objs.size ≤ a → h₀.get? a = none := fun a ha => by
    cases e : h₀.get? a with
    | none => rfl
    | some o' => have := F.keep a o' e; rw [fresh a ha] at this; cases this
  have hD₀ : h₀.get? s₂.heap.objs.size = none := fresh₀ _ (Nat.le_refl _)
  have hC₀ : h₀.get? H2.objs.size = none := fresh₀ _ (by rw [hC]; exact Nat.le_succ _)
  have hLlt : L < s₂.heap.objs.size := F.ns.lt
  have hDL : s₂.heap.objs.size ≠ L := Ne.symm (below L hLlt).2
  have hCL : H2.objs.size ≠ L := Ne.symm (below L hLlt).1
  obtain ⟨F₁, N₁⟩ : Fr h₀ L h₁ m ∧ News h₀ L h₁ news := keepsFN F N old
  have offC : ∀ p ∈ news, p.1 ≠ H2.objs.size := fun p hp => (below _ (hxl p hp)).1
  have offD : ∀ p ∈ news, p.1 ≠ s₂.heap.objs.size := fun p hp => (below _ (hxl p hp)).2
  generalize s₂.heap.objs.size = D at *
  generalize H2.objs.size = C at *
  have loop : ∀ s₃ : Shared, s₃ = { s₂ with heap := h₁, toks := s₂.toks + ([] : List (Str × Value)).length } →
      codeAny (model prog w) A (.compLoop (.DictComp (.Name x1 p1) (.Name x2 p2) [⟨target, iter, [], 0⟩] scope pos) 0 it (.ref D) (compEnvC scope cl C env)) (RR (.ref D) C) s₃ := by
    rintro s₃ rfl
    refine dcomp_loop
      (MidD prog w s₂ h₀ L C D m news n St J) ?_ (n + 1) (MidD.mk (s := s₂) (Nat.zero_le _) hst₁ F₁ hns₁ (List.forall_mem_cons.mpr ⟨⟨hacc, hDL, hD₀⟩, N₁⟩) Ent.nil hJ)
    rintro k s' (@⟨h', tk, i, m', es, ep, DD, hi, hst', F', hn', N', H', hJ'⟩)
    · skip
      have offO : ∀ p ∈ (D, dictOf es ep) :: news, p.1 ∉ own := fun p hp => by
        rcases List.mem_cons.mp hp with rfl | hp
        · exact hDo
        · exact hn p hp
      by_cases hlt : i < n
      · have key := W.item i (compEnvC scope cl C env) { s₂ with heap := h', toks := tk } m'
          (fun _ s₂' => wpAny (model prog w) A (eval (.Name x1 p1) (compEnvC scope cl C env)) (fun kv s₄ => wpAny (model prog w) A (eval (.Name x2 p2) (compEnvC scope cl C env)) (fun vv s₅ =>
              wpAny (model prog w) A (dictSet D kv vv) (fun _ s₆ => ∃ m₁, m₁ < n + 1 - i ∧ MidD prog w s₂ h₀ L C D m news n St J m₁ s₆) (notedBy (model prog w) A (compEnvC scope cl C env) fun e s' => RR (.ref D) C (.error e) s') s₅) (notedBy (model prog w) A (compEnvC scope cl C env) fun e s' => RR (.ref D) C (.error e) s') s₄) (notedBy (model prog w) A (compEnvC scope cl C env) fun e s' => RR (.ref D) C (.error e) s') s₂')
          (notedBy (model prog w) A (compEnvC scope cl C env) fun e s' => RR (.ref D) C (.error e) s') (hok C) hlt hst' hn' hCf (fun h₃ tk₃ m₃ hP hst₃ hn₃ k₃ => ?_)
        · refine wpAny_mono key (fun r s₁ hr => ?_) fun _ _ e => e
          cases r with
          | none => exact hr.elim
          | some v => exact hr
        · have k₃' : ∀ b o, b ∉ C :: own → h'.get? b = some o → h₃.get? b = some o := fun b o hb e => k₃ b o (fun q => hb (List.Mem.tail _ q)) (fun q => hb (q ▸ List.Mem.head _)) e
          obtain ⟨F₃, N₃⟩ := keepO F' N' k₃' (fun q => by
            rcases List.mem_cons.mp q with q | q
            · exact hCL q.symm
            · exact hL q) (fun b hb => by
            rcases List.mem_cons.mp hb with rfl | hb
            · exact hC₀
            · exact h0 b hb) (fun p hp q => by
            rcases List.mem_cons.mp q with q | q
            · rcases List.mem_cons.mp hp with rfl | hp
              · exact hDC q
              · exact offC p hp q
            · exact offO p hp q)
          obtain ⟨oC, heC, hoC⟩ := ns_obj hn₃
          obtain ⟨fo, hfo, Nfo⟩ := owned_of (L := L) own h0 hL own h₃ (fun _ hb => hb) (hlive _ _ hst₃)
          have N₃' : News h₀ L h₃ (fo ++ (C, oC) :: (D, dictOf es ep) :: news) := fun p hp => by
            rcases List.mem_append.mp hp with hp | hp
            · exact Nfo p hp
            rcases List.mem_cons.mp hp with rfl | hp
            · exact ⟨heC, hCL, hC₀⟩
            · exact N₃ p hp
          obtain ⟨kk, kt, vv, e1, e2, hJn⟩ := turn i DD _ _ hlt hJ' hP
          refine wpAny_Name (wpAny_loadName_local (s := { s₂ with heap := h₃, toks := tk₃ }) (by show (relabel scope env).kind = .function; exact hkind) (hk1 C).1 hn₃ e1 ?_) (hk1 C).2
          refine wpAny_Name (wpAny_loadName_local (s := { s₂ with heap := h₃, toks := tk₃ }) (by show (relabel scope env).kind = .function; exact hkind) (hk2 C).1 hn₃ e2 ?_) (hk2 C).2
          refine dSet (s := { s₂ with heap := h₃, toks := tk₃ }) (c := .type "dict") (od := none) (news' := fun es' n' => fo ++ (C, oC) :: (D, dictOf es' n') :: news) F₃ N₃' (fun es' n' => Upd.pre (.tail (Ne.symm hDC) (.head offD)) fun p hp q => hDo (by rw [← hfo, ← q]; exact List.mem_map_of_mem hp)) H' (by have := hlen _ _ hJ'; omega) fun es₄ ep₄ h₄ H₄ F₄ N₄ => ?_
          refine ⟨n + 1 - (i + 1), Nat.sub_lt_sub_left (Nat.lt_succ_of_lt hlt) (Nat.lt_succ_self i), .mk hlt (W.frame _ _ _ hst₃ fun b hb o e => ?_) F₄ (hoC.ns (N₄ (C, oC) (List.mem_append_right _ (List.Mem.head _))).1) (fun p hp => N₄ p (List.mem_append_right _ (List.Mem.tail _ hp))) H₄ hJn⟩
          rcases hfp b hb with q | ⟨o', q⟩
          · rw [← hfo] at q
            obtain ⟨p, hp, rfl⟩ := List.mem_map.mp q
            have e1 := (Nfo p hp).1
            rw [e] at e1; cases e1
            exact (N₄ p (List.mem_append_left _ hp)).1
          · have e1 : h₃.get? b = some o' := (N₃ (b, o') (List.Mem.tail _ q)).1
            rw [e] at e1; cases e1
            exact (N₄ (b, o) (List.mem_append_right _ (List.Mem.tail _ (List.Mem.tail _ q)))).1
      · obtain rfl : i = n := Nat.le_antisymm hi (Nat.not_lt.mp hlt)
        refine W.done _ _ _ hst' fun h₂ tk₂ k₂ => ?_
        have hAB := keepO F' N' k₂ hL h0 offO
        have F₂ := hAB.1
        have N₂ := hAB.2
        exact hRR D C h₂ tk₂ _ es ep DD F₂ N₂ hxl (hn'.at' fun o e => k₂ _ o hCo e) hC₀ hCL (Ne.symm hDC) offC hDm H' hJ'
  exact codeAny_compStart_dict (loop _ rfl) (W.self 0 _ _ _ hst₁ (loop _ rfl))
end
end Mine
end
section
open PySem PySem.W PySem.Calls PyProof.Rows PyProof.Rows.LCg
set_option Elab.async false
set_option maxRecDepth 100000
set_option maxHeartbeats 1000000
set_option linter.unusedVariables false
set_option pp.maxSteps 3000
set_option pp.deepTerms false
set_option pp.deepTerms.threshold 6
namespace Mine
section
variable {prog : Program} {w : World} {A : Around} {E : Value → Shared → Prop} {s : Shared} {h₀ : Heap} {L : Addr} {m : Str → Option Value} {env : Env} {news : List (Addr × Obj)}
/-- a cell of the block around, read in a comprehension -/
theorem ld_cellC {scope : Scope} {cl : List (Str × Addr)} {C c : Addr} {x : Str} {pos : Pos} {o : Obj} {v : Value} {Q : Value → Shared → Prop} (N : News h₀ L s.heap news) (hc : cl.lookup x = some c) (hm : (c, o) ∈ news) (hd : o.data = .cell (some v)) (h : Q v s)
    (hk : (compEnvC scope cl C env).scope.kind = .function) (hx : (compEnvC scope cl C env).kindOf x = some .cell) (hb : (x == ("__debug__" : Str)) = false) :
    wpAny (model prog w) A (eval (.Name x pos) (compEnvC scope cl C env)) Q E s := wpAny_Name (wpAny_loadName_cell hk hx hc ⟨o, N.get hm, hd⟩ h) hb
/-- name = [a list comprehension] on one line -/
theorem lcu_J {elt target iter : Expr} {ifs : List Expr} {scope : Scope} {cl : List (Str × Addr)} {pos xp spos : Pos} {x : Str} {Q : Flow → Shared → Prop} (Fin : List Value → List (Addr × Obj) → Prop) (F₀ : Fr h₀ L s.heap m)
    (hsw : swapsWith (.ListComp elt [⟨target, iter, ifs, 0⟩] scope pos) (some (.Name x xp)) spos.line env = pure true) (hL : env.locals = L)
    (hx : env.kindOf x = some .local) (hp : (env.scope.kind == .class || (env.scope.kind == .module && env.locals != env.globals)) = false)
    (hclos : closureFor scope env = pure cl) (hkind : scope.kind = .function) (hnames : ∀ y ∈ scope.names, y.2 = .local → scope.names.lookup y.1 = some .local)
    (h : wpAny (model prog w) A (eval iter env) (fun xv s₁ => wpAny (model prog w) A (pyIter xv) (CompGo prog w A E env h₀ L m scope cl elt target iter ifs pos Fin (fun D y => if y = x then some (.ref D) else m y) (fun _ => Q .next)) E s₁) E s)
    (hs : ∀ x, foldedSetIterable iter env x = pure x) :
    wpAny (model prog w) A (exec (.Assign [.Name x xp] (.ListComp elt [⟨target, iter, ifs, 0⟩] scope pos) spos) env) Q E s := by
  subst hL
  rw [exec_Assign_Name_used _ _ _ _ hsw]
  refine wpAny_bind (wpAny_standAt (wpAny_bind ?_))
  show wpAny _ A (do let _ ← comprehension (.ListComp elt [⟨target, iter, ifs, 0⟩] scope pos) scope env _ (newList []) false (eval iter env) (some (assign (.Name x xp) env))) _ _ s
  refine wpAny_bind (wpAny_mono (wpAny_comprehension_free (use := some (assign (.Name x xp) env)) (Q := fun _ s' => Q .next s') rfl hs hclos hkind hnames
    (wpAny_mono h (fun xv s₁ h₁ => ?_) fun _ _ e => e)) (fun _ s' hq => wpAny_pure (wpAny_pure hq)) fun _ _ e => e)
  refine wpAny_mono h₁ (fun it s₂ h₂ => ?_) fun _ _ e => e
  obtain ⟨go, fi⟩ := h₂
  refine go _ fun D C h tk m' ys nw F' N' o1 hn hC₀ hD₀ hCL hDL hCD offC fin => ?_
  refine wpAny_assign_Name (wpAny_storeName_local (s := { s₂ with heap := h, toks := tk }) hx F'.ns (fun h₂' n₂ k₂ => ?_) hp)
  refine ⟨m', hn.sameBut k₂ hCL, fun h'' hs'' => fi D h'' _ ys nw fin ((F'.set n₂ k₂).change hs'' hCL hC₀) (fun p hp => ?_) o1⟩
  have N2 := N'.set k₂
  refine ⟨hs''.extBut _ _ ?_ (N2 p hp).1, (N2 p hp).2⟩
  rcases List.mem_cons.mp hp with rfl | hp
  · exact Ne.symm hCD
  · exact offC p hp
/-- enumerate(list) -/
theorem enum_list {l : Addr} {vs : Array Value} {cnt : Nat} {Q : Value → Shared → Prop} (F : Fr h₀ L s.heap m) (N : News h₀ L s.heap news) (hl : (l, listOf vs cnt) ∈ news)
    (h : ∀ e it h' oe oi, IsEnum h' e it 0 .none → h'.IsListIter it l 0 → Fr h₀ L h' m → News h₀ L h' ((e, oe) :: (it, oi) :: news) → (∀ p ∈ news, p.1 < it) → it < e → Q (.ref e) { s with heap := h' }) :
    wpAny (model prog w) A (call (.type "enumerate") [.ref l]) Q E s := by
  refine call_enumerate_list (items := vs) ⟨_, (N _ hl).1, rfl, _, rfl⟩ fun h' he hi hz k => ?_
  obtain ⟨F', N'⟩ := keepsFN F N k
  obtain ⟨oi, e1, _⟩ := id hi
  have n0 : ∀ a, s.heap.objs.size ≤ a → a ≠ L ∧ h₀.get? a = none := fun a ha => kdx_fresh F ha
  have c : ∀ {a : Addr} {o : Obj} {l : List (Addr × Obj)}, h'.get? a = some o → s.heap.objs.size ≤ a → News h₀ L h' l → News h₀ L h' ((a, o) :: l) := fun e ha Nl p hp => by
    rcases List.mem_cons.mp hp with rfl | hp
    · exact ⟨e, n0 _ ha⟩
    · exact Nl p hp
  exact h _ _ h' _ _ he hi F' (c he (Nat.le_succ _) (c e1 (Nat.le_refl _) N')) (fun p hp => Heap.lt_size (N p hp).1) (Nat.lt_succ_self _)
theorem enumL_self {vs : Array Value} {l e it : Addr} {Q : Value → Shared → Prop} (hh : A.handled = none) (hei : e ≠ it) (hli : l ≠ it) (hel : e ≠ l) (he : IsEnum s.heap e it 0 .none) (hi : s.heap.IsListIter it l 0) (hl : s.heap.IsList l vs) (h : Q (.ref e) s) : wpAny (model prog w) A (pyIter (.ref e)) Q E s :=
  (WalksT.enumerateD (prog := prog) (w := w) (A := A) (Draws.list (A := A.in1) hh it l hli vs) e hei (by simp [hei, hel]) (List.Mem.head _)).self 0 _ _ _ ⟨⟨_, he⟩, hi, hl⟩ h
theorem enumL_feeds {vs : Array Value} {l e it : Addr} {a b : Str} {pa pb tp : Pos} {kk : Nat} (hh : A.handled = none) (hei : e ≠ it) (hli : l ≠ it) (hel : e ≠ l) : Feeds prog w A (.ref e) (.Tuple [.Name a pa, .Name b pb] kk tp) (okP a b) [e, it] [e, it, l] vs.size
    (fun i m m' => ∃ t x, vs[i]? = some x ∧ m' = fun z => if z = b then some x else if z = a then some (.int i t) else m z) (fun i h => (∃ old, IsEnum h e it i old) ∧ h.IsListIter it l i ∧ h.IsList l vs) := by
  have W := feeds_pair (a := a) (b := b) (pa := pa) (pb := pb) (tp := tp) (kk := kk) hh (WalksT.enumerateD (prog := prog) (w := w) (A := A) (Draws.list (A := A.in1) hh it l hli vs) e hei (by simp [hei, hel]) (List.Mem.head _)) (fun i vals h => by obtain ⟨t, x, _, rfl⟩ := h; exact ⟨_, _, rfl⟩)
  refine ⟨W.frame, fun i env s m Q E hok hi hst hn hL hQ => W.item i env s m Q E hok hi hst hn hL fun h' tk m' hP a b c => hQ h' tk m' ?_ a b c, W.done, W.self⟩
  obtain ⟨u, v, ⟨t, x, hx, hv⟩, rfl⟩ := hP
  cases hv
  exact ⟨t, _, hx, rfl⟩
end
end Mine
end
section
open PySem PySem.W PySem.Calls PyProof.Rows PyProof.Rows.LCg
set_option Elab.async false
set_option maxRecDepth 100000
set_option maxHeartbeats 1000000
set_option linter.unusedVariables false
set_option pp.maxSteps 3000
set_option pp.deepTerms false
set_option pp.deepTerms.threshold 6
namespace Mine
theorem ns_enumerate {P} : nsIn (Mine.hd.heap_39 P) mainGlobals (Str.ofString "enumerate") = some none := by kernel_rfl
theorem bb_enumerate : bootBuiltins (Str.ofString "enumerate") = some (.type "enumerate") := by decide +kernel
section
variable {prog : Program} {w : World} {A : Around} {E : Value → Shared → Prop} {s : Shared} {d : Addr} {es : List DictEntry} {n : Nat} {D : List (Str × Value)} {k : Str} {tk : Tok}
theorem has_dictE (ho : s.heap.get? d = some (dictOf es n)) (hd : (d == sysModules) = false) (H : Ent prog w es D) {Q : Bool → Shared → Prop} (h : Q (valueAt D k).isSome { s with toks := s.toks + 1 }) :
    wpAny (model prog w) A (contains (.ref d) (.str k tk)) Q E s := by
  have hT : s.TypeIs (.ref d) "dict" := ⟨_, ho, rfl⟩
  unfold contains
  try with_reducible refine wpAny_holding ?_
  refine wpAny_bind (wpAny_specialOf hT PySem.F.slot_dict_contains.lookup ?_)
  rw [if_neg (by rw [beq_builtin_none]; exact Bool.false_ne_true)]
  refine wpAny_bind (wpAny_callSpecialUnlessNone?_slot (name := Str.ofString "__contains__") hT PySem.F.slot_dict_contains
    (wpAny_call_entry PySem.F.slot_dict_contains hT PySem.F.entry_dict_contains (b_contains (c := .type "dict") (od := none) ho hd H ?_) (PySem.F.args_dict_contains_2 _ _)))
  exact wpAny_truthy_bool h
theorem in_dictE (ho : s.heap.get? d = some (dictOf es n)) (hd : (d == sysModules) = false) (H : Ent prog w es D) {Q : Value → Shared → Prop} (h : Q (.bool (valueAt D k).isSome) { s with toks := s.toks + 1 }) :
    wpAny (model prog w) A (compareOp .In (.str k tk) (.ref d)) Q E s := by
  show wpAny _ _ (do return .bool (← contains (.ref d) (.str k tk))) Q E s
  exact wpAny_bind (has_dictE ho hd H (wpAny_pure h))
theorem notin_dictE (ho : s.heap.get? d = some (dictOf es n)) (hd : (d == sysModules) = false) (H : Ent prog w es D) {Q : Value → Shared → Prop} (h : Q (.bool (!(valueAt D k).isSome)) { s with toks := s.toks + 1 }) :
    wpAny (model prog w) A (compareOp .NotIn (.str k tk) (.ref d)) Q E s := by
  show wpAny _ _ (do return .bool (!(← contains (.ref d) (.str k tk)))) Q E s
  exact wpAny_bind (has_dictE ho hd H (wpAny_pure h))
theorem get_dictE {value slice : Expr} {u : Value} (ho : s.heap.get? d = some (dictOf es n)) (H : Ent prog w es D) (hv : valueAt D k = some u) {Q : Value → Shared → Prop} (h : Q u { s with toks := s.toks + 1 })
    (hs : subscripted slice false (.ref d) (.str k tk) = operate [.ref d, .str k tk] (getItem (.ref d) (.str k tk))) (ht : ∀ r, letTemporaryGo value (.ref d) r = pure ()) :
    wpAny (model prog w) A (subscriptTail value slice (.ref d) (.str k tk)) Q E s := by
  have hT : s.TypeIs (.ref d) "dict" := ⟨_, ho, rfl⟩
  refine subscriptTail_builtin hT PySem.F.slot_dict_getitem.lookup (wpAny_getItem_slot hT (by decide) PySem.F.slot_dict_getitem (wpAny_call_entry PySem.F.slot_dict_getitem hT PySem.F.entry_dict_getitem ?_ (PySem.F.args_dict_getitem_2 _ _))) hs ht
  show wpAny _ _ (dictGet d (.str k _) >>= _) _ _ s
  refine wpAny_bind (dGet (c := .type "dict") (od := none) ho H ?_)
  rw [hv]
  exact wpAny_pure ⟨_, rfl, h⟩
end
/-- the places of an order -/
noncomputable def MapAt (ord : List Str) (i : Nat) (DD : List (Str × Value)) : Prop := DD.length = i ∧ ∀ j, j < i → ∃ k t, ord[j]? = some k ∧ DD[j]? = some (k, .int j t)
theorem MapAt.keys {ord : List Str} {i : Nat} {DD : List (Str × Value)} (H : MapAt ord i DD) : DD.map (·.1) = ord.take i := by
  refine List.ext_getElem? fun j => ?_
  rw [List.getElem?_map, List.getElem?_take]
  by_cases h : j < i
  · rw [if_pos h]
    obtain ⟨k, t, e1, e2⟩ := H.2 j h
    rw [e1, e2]; rfl
  · rw [if_neg h, List.getElem?_eq_none (by rw [H.1]; omega)]; rfl
theorem MapAt.snoc {ord : List Str} {i : Nat} {DD : List (Str × Value)} {k : Str} {t : Tok} (hn : ord.Nodup) (H : MapAt ord i DD) (hk : ord[i]? = some k) : MapAt ord (i + 1) (stored DD k (.int i t)) := by
  have hnot : ¬ (DD.any fun kv => decide (kv.1 = k)) = true := by
    rw [List.any_eq_true]
    rintro ⟨kv, hkv, he⟩
    have he := of_decide_eq_true he
    have : k ∈ ord.take i := by rw [← H.keys, ← he]; exact List.mem_map_of_mem hkv
    obtain ⟨j, hj⟩ := List.mem_iff_getElem?.mp this
    have hji : j < i := by
      have := (List.getElem?_eq_some_iff.mp hj).1
      rw [List.length_take] at this; omega
    rw [List.getElem?_take, if_pos hji] at hj
    have hl := (List.getElem?_eq_some_iff.mp hk).1
    have e := List.pairwise_iff_getElem.mp hn j i (by omega) hl hji
    rw [(List.getElem?_eq_some_iff.mp hj).2, (List.getElem?_eq_some_iff.mp hk).2] at e
    exact e rfl
  rw [stored, if_neg hnot]
  refine ⟨by rw [List.length_append, H.1]; rfl, fun j hj => ?_⟩
  by_cases h : j < i
  · obtain ⟨k', t', e1, e2⟩ := H.2 j h
    exact ⟨k', t', e1, by rw [List.getElem?_append_left (by rw [H.1]; exact h)]; exact e2⟩
  · have : j = i := by omega
    subst this
    exact ⟨k, t, hk, by rw [List.getElem?_append_right (by rw [H.1]; exact Nat.le_refl _), H.1, Nat.sub_self]; rfl⟩
theorem MapAt.has {ord : List Str} {DD : List (Str × Value)} (H : MapAt ord ord.length DD) (k : Str) : (valueAt DD k).isSome = decide (k ∈ ord) := by
  have e := H.keys
  rw [List.take_length] at e
  rw [← e]
  unfold valueAt
  rw [Option.isSome_map]
  by_cases h : k ∈ DD.map (·.1)
  · obtain ⟨q, hq, rfl⟩ := List.mem_map.mp h
    rw [decide_eq_true h, List.find?_isSome]
    exact ⟨q, hq, by simp⟩
  · rw [decide_eq_false h, Bool.eq_false_iff]
    intro e
    obtain ⟨q, hq, he⟩ := List.find?_isSome.mp e
    exact h (List.mem_map.mpr ⟨q, hq, of_decide_eq_true he⟩)
theorem MapAt.at {ord : List Str} {DD : List (Str × Value)} (hn : ord.Nodup) (H : MapAt ord ord.length DD) {k : Str} {i : Nat} (hk : ord[i]? = some k) : ∃ t, valueAt DD k = some (.int i t) := by
  obtain ⟨k', t, e1, e2⟩ := H.2 i (List.getElem?_eq_some_iff.mp hk).1
  rw [hk] at e1
  obtain rfl := Option.some.inj e1
  have e := H.keys
  rw [List.take_length] at e
  exact ⟨t, valueAt_of_mem (q := (k, .int i t)) (by rw [e]; exact hn) (List.mem_of_getElem? e2)⟩
theorem strs_at {vs : List Value} {ss : List Str} (H : StrsAre vs ss) {i : Nat} {v : Value} (h : vs[i]? = some v) : ∃ k t, v = .str k t ∧ ss[i]? = some k := by
  induction H generalizing i with
  | nil => cases h
  | cons y t _ ih =>
    cases i with
    | zero => cases h; exact ⟨y, t, rfl, rfl⟩
    | succ i => exact ih h
theorem StrsAre.len {vs : List Value} {ss : List Str} (H : StrsAre vs ss) : vs.length = ss.length := by
  induction H with
  | nil => rfl
  | cons _ _ _ ih => simp [ih]
section
variable {prog : Program} {w : World} {A : Around} {cn : Str} {cs : Scope} {a : Addr} {ccd : Value} {cl : List (Str × Addr)} {h₀ : Heap} {L : Addr} {m mg mb : Str → Option Value} {p : Program} {loose : List Str} {news : List (Addr × Obj)} {s : Shared} {E : Value → Shared → Prop}
theorem map_eval {ki kk' : Str} {p1 p2 pi pk tp ep cp pos : Pos} {kx : Nat} {ev : Expr} {scope : Scope} {ord : List Str} {Q : Value → Shared → Prop} (hh : A.handled = none) (hk : cs.kind = .function) (X : (Mine.hd.heap_39 w.params).In h₀) (T : TopRead p loose mg mb h₀) (F₀ : Fr h₀ L s.heap m) (hb : bltn cn cs L a ccd cl (Str.ofString "enumerate"))
    (hclos : closureFor scope (envX cn cs L a ccd cl) = pure []) (hkind : scope.kind = .function) (hnames : ∀ y ∈ scope.names, y.2 = .local → scope.names.lookup y.1 = some .local) (hcell : ∀ y ∈ scope.names, y.2 ≠ .cell)
    (li : scope.names.lookup ki = some .local) (lk : scope.names.lookup kk' = some .local) (di : (ki == ("__debug__" : Str)) = false) (dk : (kk' == ("__debug__" : Str)) = false) (hik : ki ≠ kk')
    (hst : starEach [ev] (envX cn cs L a ccd cl) = [(false, eval ev (envX cn cs L a ccd cl))])
    (hn : ord.Nodup) (hz : ord.length < 60)
    (hev : wpAny (model prog w) A (eval ev (envX cn cs L a ccd cl)) (fun v s₁ => ∃ l vs cnt nw h' tk, v = .ref l ∧ s₁ = { s with heap := h', toks := tk } ∧ Fr h₀ L h' m ∧ News h₀ L h' nw ∧ (l, listOf (List.toArray vs) cnt) ∈ nw ∧ StrsAre vs ord ∧ (∀ q ∈ news, q ∈ nw)) E s)
    (ret : ∀ D h tk es ep DD, Fr h₀ L h m → News h₀ L h ((D, dictOf es ep) :: news) → (∀ p ∈ news, p.1 < D) → (D == sysModules) = false → Ent prog w es DD → MapAt ord ord.length DD → Q (.ref D) { s with heap := h, toks := tk }) :
    wpAny (model prog w) A (eval (.DictComp (.Name kk' p1) (.Name ki p2) [⟨.Tuple [.Name ki pi, .Name kk' pk] kx tp, .Call (.Name (Str.ofString "enumerate") ep) [ev] [] cp, [], 0⟩] scope pos) (envX cn cs L a ccd cl)) Q E s := by
  rw [arm_eval_DictComp]
  refine wpAny_comprehension_free (use := none) rfl (fun _ => rfl) hclos hkind hnames ?_
  refine Call_ (nameX_B F₀ X T ns_enumerate bb_enumerate (by decide) ?_ hk hb (by decide))
  refine PyProof.Rows.callWith_type1 (spliced_more (wpAny_mono hev (fun v s₁ h₁ => spliced_none ?_) fun _ _ e => e) hst) hst
  obtain ⟨l, vs, cnt, nw, h', tk', rfl, rfl, F, N, hl, hs, hsub⟩ := h₁
  refine enum_list (s := { s with heap := h', toks := tk' }) F N hl fun e it h₂ oe oi he hi F₂ N₂ l₂ l₃ => ?_
  have hei : e ≠ it := Nat.ne_of_gt l₃
  have hli : l ≠ it := Nat.ne_of_lt (l₂ _ hl)
  have hel : e ≠ l := Nat.ne_of_gt (Nat.lt_trans (l₂ _ hl) l₃)
  have hL2 : h₂.IsList l vs.toArray := ⟨_, (N₂ _ (List.Mem.tail _ (List.Mem.tail _ hl))).1, rfl, _, rfl⟩
  have hlen := StrsAre.len hs
  refine enumL_self (s := { s with heap := h₂, toks := tk' }) hh hei hli hel he hi hL2 ?_
  refine dict_block (fx := []) (own := [e, it]) (fp := [e, it, l]) (news := nw) (fun i DD => MapAt ord i DD) (enumL_feeds (vs := vs.toArray) hh hei hli hel) (by simp; omega) (fun C => ⟨lookup_relabel_local li, lookup_relabel_local lk, ?_⟩) (fun C => ⟨lookup_relabel_local lk, dk⟩) (fun C => ⟨lookup_relabel_local li, di⟩) hcell hkind ⟨⟨_, he⟩, hi, hL2⟩ ?_ F₂ (cb_drop N₂ fun p hp => List.Mem.tail _ (List.Mem.tail _ hp)) T.nolimit ?_ ?_ ?_ ?_ ⟨rfl, fun j hj => absurd hj (Nat.not_lt_zero _)⟩ (fun i D h => Nat.le_of_eq h.1) ?_ ?_
  · show ((relabel scope _).kind == .class || ((relabel scope _).kind == .module && _)) = false
    have : (relabel scope (envX cn cs L a ccd cl)).kind = .function := hkind
    rw [this]; rfl
  · rintro i h ⟨⟨old, h1⟩, ⟨o, h2, _⟩, _⟩ b hb
    rcases List.mem_cons.mp hb with rfl | hb
    · exact ⟨_, h1⟩
    · rw [List.mem_singleton.mp hb]; exact ⟨_, h2⟩
  · intro hm
    rcases List.mem_cons.mp hm with q | q
    · exact (N₂ _ (List.Mem.head _)).2.1 q.symm
    · exact (N₂ _ (List.Mem.tail _ (List.Mem.head _))).2.1 (List.mem_singleton.mp q).symm
  · intro b hb
    rcases List.mem_cons.mp hb with rfl | hb
    · exact (N₂ _ (List.Mem.head _)).2.2
    · rw [List.mem_singleton.mp hb]; exact (N₂ _ (List.Mem.tail _ (List.Mem.head _))).2.2
  · intro p hp hm
    have := l₂ p hp
    rcases List.mem_cons.mp hm with q | q
    · exact Nat.lt_irrefl _ (Nat.lt_trans (q ▸ this) l₃)
    · exact Nat.lt_irrefl _ ((List.mem_singleton.mp q) ▸ this)
  · intro b hb
    rcases List.mem_cons.mp hb with rfl | hb
    · exact .inl (List.Mem.head _)
    rcases List.mem_cons.mp hb with rfl | hb
    · exact .inl (List.Mem.tail _ (List.Mem.head _))
    · rw [List.mem_singleton.mp hb]; exact .inr ⟨_, hl⟩
  · rintro i DD m₁ m' hi' hJ ⟨t, x, hx, rfl⟩
    rw [List.getElem?_toArray] at hx
    obtain ⟨k, tt, rfl, hk'⟩ := strs_at hs hx
    exact ⟨k, tt, .int i t, if_pos rfl, (if_neg hik).trans (if_pos rfl), hJ.snoc hn hk'⟩
  · intro D C h tk m' es ep DD F₃ N₃ l₄ hn' hC0 hCL hCD offC hDm H hJ
    have hsz : vs.toArray.size = ord.length := by rw [List.size_toArray, hlen]
    rw [hsz] at hJ
    refine ⟨m', hn', fun h'' hs'' => ret D h'' tk es ep DD (F₃.change hs'' hCL hC0) (fun p hp => ?_) (fun p hp => l₄ p (hsub p hp)) hDm H hJ⟩
    rcases List.mem_cons.mp hp with rfl | hp
    · exact ⟨hs''.extBut _ _ (Ne.symm hCD) (N₃ _ (List.Mem.head _)).1, (N₃ _ (List.Mem.head _)).2⟩
    · have z := N₃ p (List.Mem.tail _ (hsub p hp))
      exact ⟨hs''.extBut _ _ (offC p (hsub p hp)) z.1, z.2⟩
end
end Mine
end
section
open PySem PySem.W PySem.Calls PyProof.Rows PyProof.Rows.LCg
set_option Elab.async false
set_option maxRecDepth 100000
set_option maxHeartbeats 1000000
set_option linter.unusedVariables false
set_option pp.maxSteps 3000
set_option pp.deepTerms false
set_option pp.deepTerms.threshold 6
namespace Mine
theorem StrsAre.snoc {vs : List Value} {ss : List Str} (H : StrsAre vs ss) (k : Str) (t : Tok) : StrsAre (vs ++ [.str k t]) (ss ++ [k]) := by
  induction H with
  | nil => exact .cons k t .nil
  | cons y u _ ih => exact .cons y u ih
theorem StrsAre.append {vs us : List Value} {ss ts : List Str} (H : StrsAre vs ss) (H2 : StrsAre us ts) : StrsAre (vs ++ us) (ss ++ ts) := by
  induction H with
  | nil => exact H2
  | cons y u _ ih => exact .cons y u ih
section
variable {prog : Program} {w : World} {A : Around} {cn : Str} {cs : Scope} {a : Addr} {ccd : Value} {cl : List (Str × Addr)} {h₀ : Heap} {L : Addr} {m mg mb : Str → Option Value} {p : Program} {loose : List Str} {news : List (Addr × Obj)} {s : Shared} {E : Value → Shared → Prop}
theorem pick_c {op : CmpOp} {b : Bool} (hop : (op = .In ∧ b = true) ∨ (op = .NotIn ∧ b = false)) {x : Str} {xp p1 p2 p3 p4 p5 p6 pos spos : Pos} {scope : Scope} {v d c DM : Addr} {oc : Obj} {cc : Value} {od : Option Addr} {es esM : List DictEntry} {ep epM : Nat} {D DD : List (Str × Value)} {ord : List Str} {Q : Flow → Shared → Prop}
    (hh : A.handled = none) (hk : cs.kind = .function) (F : Fr h₀ L s.heap m) (N : News h₀ L s.heap news)
    (mk : m (Str.ofString "keys") = some (.ref v)) (lk : (envX cn cs L a ccd cl).kindOf (Str.ofString "keys") = some .local) (lx : (envX cn cs L a ccd cl).kindOf x = some .local)
    (hv : (v, { cls := .type "dict_keys", data := .fields #[.ref d] }) ∈ news) (hd : (d, dob cc od es ep) ∈ news) (H : Ent prog w es D)
    (hc : (c, oc) ∈ news) (hcd : oc.data = .cell (some (.ref DM))) (hM : (DM, dictOf esM epM) ∈ news) (hDm : (DM == sysModules) = false) (HM : Ent prog w esM DD) (hMA : MapAt ord ord.length DD)
    (hsw : swapsWith (.ListComp (.Name (Str.ofString "k") p1) [⟨.Name (Str.ofString "k") p2, .Name (Str.ofString "keys") p3, [.Compare (.Name (Str.ofString "k") p4) [op] [.Name (Str.ofString "canonical_map") p5] p6], 0⟩] scope pos) (some (.Name x xp)) spos.line (envX cn cs L a ccd cl) = pure true)
    (hclos : closureFor scope (envX cn cs L a ccd cl) = pure [(Str.ofString "canonical_map", c)]) (hkind : scope.kind = .function) (hnames : ∀ y ∈ scope.names, y.2 = .local → scope.names.lookup y.1 = some .local) (hcell : ∀ y ∈ scope.names, y.2 ≠ .cell)
    (lkk : scope.names.lookup (Str.ofString "k") = some .local) (lmap : ∀ C, (compEnvC scope [(Str.ofString "canonical_map", c)] C (envX cn cs L a ccd cl)).kindOf (Str.ofString "canonical_map") = some .cell)
    (ret : ∀ R h tk ys, StrsAre ys ((D.map (·.1)).filter fun k => decide (k ∈ ord) == b) → Fr h₀ L h (fun y => if y = x then some (.ref R) else m y) → News h₀ L h ((R, lst ys) :: news) → (∀ p ∈ news, p.1 ≠ R) → Q .next { s with heap := h, toks := tk }) :
    wpAny (model prog w) A (exec (.Assign [.Name x xp] (.ListComp (.Name (Str.ofString "k") p1) [⟨.Name (Str.ofString "k") p2, .Name (Str.ofString "keys") p3, [.Compare (.Name (Str.ofString "k") p4) [op] [.Name (Str.ofString "canonical_map") p5] p6], 0⟩] scope pos) spos) (envX cn cs L a ccd cl)) Q E s := by
  have hlen := H.len
  have hshort := H.short
  refine lcu_J (hs := by intro _; rfl) (fun ys nw => nw = news ∧ StrsAre ys ((D.map (·.1)).filter fun k => decide (k ∈ ord) == b)) F hsw rfl lx ?_ hclos hkind hnames ?_
  · show (cs.kind == .class || (cs.kind == .module && _)) = false
    rw [hk]; rfl
  refine nameX_L F mk ?_ hk lk (by decide)
  refine iter_keys ⟨_, (N _ hv).1, rfl, rfl⟩ (N _ hd).1 ?_
  have hAB := keepsFN F N (fun b o e => Heap.get?_push_of_some { cls := .type "dict_keyiterator", data := .fields #[.ref d, .int 0 0, .int es.length 0, .int ep 0] } e)
  have F₂ := hAB.1
  have N₂ := hAB.2
  have lt : ∀ p ∈ news, p.1 < s.heap.objs.size := fun p hp => Heap.lt_size (N p hp).1
  have fr := kdx_fresh F (Nat.le_refl s.heap.objs.size)
  have hI : (s.heap.push { cls := .type "dict_keyiterator", data := .fields #[.ref d, .int 0 0, .int es.length 0, .int ep 0] }).get? s.heap.objs.size = some { cls := .type "dict_keyiterator", data := .fields #[.ref d, .int 0 0, .int es.length 0, .int ep 0] } := Heap.get?_push_size _ rfl
  generalize (s.heap.push { cls := .type "dict_keyiterator", data := .fields #[.ref d, .int 0 0, .int es.length 0, .int ep 0] }) = h₂ at *
  generalize s.heap.objs.size = I at *
  have hdI : d ≠ I := Nat.ne_of_lt (lt _ hd)
  refine ⟨fun RR hRR => comp_block (own := [I]) (fp := [I, d]) (fx := [(d, dob cc od es ep)]) (news := news) (fun i ys nw => nw = news ∧ StrsAre ys (((D.map (·.1)).take i).filter fun k => decide (k ∈ ord) == b))
    (feeds_name (walks_keys hh I d hdI cc od es ep)) (by rw [sizeLine_eq]; omega) (fun C => ⟨lookup_relabel_local lkk, ?_⟩) hcell hkind ⟨⟨_, hI, rfl, rfl⟩, (N₂ _ hd).1⟩ ?_ F₂ N₂ ?_ ?_ ?_ ?_ ?_ ⟨rfl, .nil⟩ ?_ ?_ ?_, fun R h tk ys nw hf F₃ N₃ off => ?_⟩
  · show ((relabel scope _).kind == .class || ((relabel scope _).kind == .module && _)) = false
    have : (relabel scope (envX cn cs L a ccd cl)).kind = .function := hkind
    rw [this]; rfl
  · rintro i h ⟨⟨o, e, _⟩, _⟩ b hb
    rw [List.mem_singleton.mp hb]; exact ⟨o, e⟩
  · exact fun hm => fr.1 (List.mem_singleton.mp hm).symm
  · exact fun b hb => by rw [List.mem_singleton.mp hb]; exact fr.2
  · exact fun p hp hm => absurd (lt p hp) (by rw [List.mem_singleton.mp hm]; exact Nat.lt_irrefl _)
  · intro b hb
    rcases List.mem_cons.mp hb with rfl | hb
    · exact .inl (List.Mem.head _)
    · rw [List.mem_singleton.mp hb]; exact .inr ⟨_, List.Mem.head _⟩
  · rintro i ys nw ⟨rfl, _⟩ p hp
    rw [List.mem_singleton.mp hp]; exact hd
  · rintro i ys nw ⟨rfl, h⟩
    rw [StrsAre.len h]
    refine Nat.le_trans (List.length_filter_le _ _) ?_
    rw [List.length_take]; exact Nat.min_le_left _ _
  · rintro i ys nw pre C oC h tk m₁ m' E' Qt Qf hi ⟨rfl, hys⟩ ⟨v', ⟨e, he, rfl⟩, rfl⟩ hCm hoC F₄ N₄ off hQt hQf
    have hiD : i < D.length := by rw [← hlen]; exact hi
    obtain ⟨hkey, _⟩ := H.pairs.get? he (List.getElem?_eq_getElem hiD)
    obtain ⟨tt, hkt⟩ := key_str hkey
    rw [hkt] at hoC
    have hkD : (D.map (·.1))[i]? = some (D.get ⟨i, hiD⟩).1 := by rw [List.getElem?_map, List.getElem?_eq_getElem hiD]; rfl
    generalize (D.get ⟨i, hiD⟩).1 = kk at hkD hkt hkey hoC ⊢
    have up : ∀ q ∈ nw, q ∈ pre ++ nw := fun q hq => List.mem_append_right _ hq
    have ck : (compEnvC scope [(Str.ofString "canonical_map", c)] C (envX cn cs L a ccd cl)).scope.kind = .function := hkind
    have own : ∀ {Q' E' : Value → Shared → Prop} {pp : Pos} {tk' : Nat}, Q' (.str kk tt) { s with heap := h, toks := tk' } → wpAny (model prog w) A (eval (.Name (Str.ofString "k") pp) (compEnvC scope [(Str.ofString "canonical_map", c)] C (envX cn cs L a ccd cl))) Q' E' { s with heap := h, toks := tk' } := fun hq =>
      LCgL.ld_own (s := { s with heap := h, toks := _ }) N₄ (List.mem_append_left _ hCm) hoC (if_pos rfl) hq ck (lookup_relabel_local lkk) (by decide)
    have hany : ∀ (Q' : Value → Shared → Prop), Q' (.bool (decide (kk ∈ ord) == b)) { s with heap := h, toks := tk + 1 } → wpAny (model prog w) A (compareOp op (.str kk tt) (.ref DM)) Q' E' { s with heap := h, toks := tk } := fun Q' hq => by
      rcases hop with ⟨rfl, rfl⟩ | ⟨rfl, rfl⟩
      · refine in_dictE (s := { s with heap := h, toks := tk }) (N₄ _ (up _ hM)).1 hDm HM ?_
        rw [hMA.has kk]
        rwa [show ∀ x : Bool, (x == true) = x from fun x => by cases x <;> rfl] at hq
      · refine notin_dictE (s := { s with heap := h, toks := tk }) (N₄ _ (up _ hM)).1 hDm HM ?_
        rw [hMA.has kk]
        rwa [show ∀ x : Bool, (x == false) = !x from fun x => by cases x <;> rfl] at hq
    have hb2 : behindInMarks op (.Name (Str.ofString "canonical_map") p5) = false := by
      rcases hop with ⟨rfl, _⟩ | ⟨rfl, _⟩ <;> with_unfolding_all rfl
    refine wpAny_tests_one (wpAny_isTrue_Compare1 (own (ld_cellC (s := { s with heap := h, toks := tk }) N₄ rfl (up _ hc) hcd (hany _ (wpAny_truthy_bool ?_)) ck (lmap C) (by decide))) hb2)
    have next : ∀ ys', StrsAre ys' (((D.map (·.1)).take (i + 1)).filter fun k => decide (k ∈ ord) == b) → Turned { s with heap := h₂ } h₀ L m pre (fun nw' => nw' = nw ∧ StrsAre ys' (((D.map (·.1)).take (i + 1)).filter fun k => decide (k ∈ ord) == b)) { s with heap := h, toks := tk + 1 } := fun ys' hys' => .mk F₄ N₄ off ⟨rfl, hys'⟩
    have tk1 : (D.map (·.1)).take (i + 1) = (D.map (·.1)).take i ++ [kk] := by rw [List.take_add_one, hkD]; rfl
    cases hb : (decide (kk ∈ ord) == b) with
    | false =>
      refine hQf _ (next ys ?_)
      rw [tk1, List.filter_append, show List.filter (fun k => decide (k ∈ ord) == b) [kk] = [] from by rw [List.filter_cons, if_neg (by rw [hb]; decide)]; rfl, List.append_nil]
      exact hys
    | true =>
      refine own (hQt _ _ (next _ ?_))
      rw [tk1, List.filter_append, show List.filter (fun k => decide (k ∈ ord) == b) [kk] = [kk] from by rw [List.filter_cons, if_pos hb]; rfl]
      exact StrsAre.snoc hys kk tt
  · rintro R C h tk m' ys nw F₄ N₄ a1 a2 a3 a4 a5 a6 a7 a8 ⟨rfl, hp⟩
    refine hRR R C h tk m' ys _ F₄ N₄ a1 a2 a3 a4 a5 a6 a7 a8 ⟨rfl, ?_⟩
    rwa [List.take_of_length_le (by rw [List.length_map, hlen]; exact Nat.le_refl _)] at hp
  · obtain ⟨rfl, hs⟩ := hf
    exact ret R h tk ys hs F₃ N₃ off
end
end Mine
end
section
open PySem PySem.W PySem.Calls PyProof.Rows PyProof.Rows.LCg
set_option Elab.async false
set_option maxRecDepth 100000
set_option maxHeartbeats 1000000
set_option linter.unusedVariables false
set_option pp.maxSteps 3000
set_option pp.deepTerms false
set_option pp.deepTerms.threshold 6
namespace Mine
noncomputable abbrev lamPars (p : Pos) : Arguments := { posonlyargs := [], args := [{ arg := "k", annotation := none, pos := p : PySem.Arg }], vararg := none, kwonlyargs := [], kw_defaults := [], kwarg := none, defaults := [] }
noncomputable abbrev lamBody (p1 p2 p3 : Pos) : Expr := .Subscript (.Name "canonical_map" p1) (.Name "k" p2) p3
noncomputable abbrev lamScope : Scope := { kind := .function, names := [(Str.ofString "k", .local), (Str.ofString "canonical_map", .free)], isGenerator := false, isCoroutine := false, more := [] }
section
variable {prog : Program} {w : World} {p : Program} {loose : List Str} {mean : ExcName → Option Value} {mg mb : Str → Option Value} {dp un : Nat} {gd : Option (List Code)} {cn : Str} {cs : Scope} {a : Addr} {ccd : Value} {cl : List (Str × Addr)} {outer : List Env} {A₀ : Around} {base h₀ : Heap} {L : Addr} {m : Str → Option Value} {news : List (Addr × Obj)} {s : Shared} {Q E : Value → Shared → Prop}
theorem lam_turn {f c' c DM : Addr} {oc : Obj} {esM : List DictEntry} {epM : Nat} {DD : List (Str × Value)} {k : Str} {t ti : Tok} {i : Int} {qual : Str} {pm ctv : Value} {p0 p1 p2 p3 : Pos}
    (B : Below A₀ base outer h₀) (F : Fr h₀ L s.heap m) (X : (Mine.hd.heap_39 w.params).In h₀) (N : News h₀ L s.heap news) (T : Top p loose mean mg mb h₀) (hk : cs.kind = .function) (hd : dp < recursionLimit)
    (hf : (f, kla_obj "<lambda>" qual (lamPars p0) (lamBody p1 p2 p3) lamScope [(Str.ofString "canonical_map", c)] pm c' ctv) ∈ news) (hcd : s.heap.CodeRec (.ref c') qual)
    (hc : (c, oc) ∈ news) (hoc : oc.data = .cell (some (.ref DM))) (hM : (DM, dictOf esM epM) ∈ news) (HM : Ent prog w esM DD) (hv : valueAt DD k = some (.int i ti))
    (ret : ∀ h' tk', Fr h₀ L h' m → News h₀ L h' news → Q (.int i ti) { s with heap := h', toks := tk' }) :
    wpAny (model prog w) (ktrTop dp un gd cn cs L a ccd cl outer) (call (.ref f) [.str k t]) Q E s := by
  refine wpAny_call ?_
  refine kla_code (K := Mine.hd.heap_39 w.params) (binds := [(Str.ofString "k", .str k t)]) B F X N T rfl rfl hk hf hcd hd rfl (by intro y hy; rw [List.mem_singleton.mp hy]; rfl) ?_ rfl rfl rfl (by decide)
  intro g L1 h1 FG F1 N1 B1 X1 T1
  refine Subscript_ (nameX_F N1 rfl hc hoc (nameX_L F1 rfl ?_))
  refine get_dictE (N1 _ hM).1 HM hv ?_ (by with_unfolding_all rfl) (by intro _; with_unfolding_all rfl)
  dsimp only
  refine leaveK_ F1 N1 fun kF kN => ?_
  exact ret _ _ kF kN
end
noncomputable abbrev lamPos : Pos := ⟨17, 28, 17, 54⟩
noncomputable abbrev lamQual : Str := ((Str.ofString "canonsort_keys" ++ ".<locals>.") ++ "<lambda>")
/-- the table of code objects, with the lambda's or without it -/
noncomputable def TabOk (ps : Array Value) (rest : List (Addr × Obj)) : Prop := TriplesOk ps.toList ∧ (codeAmong lamPos ps.toList = none ∨ ∃ c' oc vs t, codeAmong lamPos ps.toList = some (.ref c') ∧ (c', oc) ∈ rest ∧ oc.data = .fields vs ∧ vs[1]? = some (.str lamQual t))
theorem TabOk.mono {ps : Array Value} {rest rest' : List (Addr × Obj)} (H : TabOk ps rest) (h : ∀ q ∈ rest, q ∈ rest') : TabOk ps rest' :=
  ⟨H.1, H.2.imp id fun ⟨c', oc, vs, t, e, q, r⟩ => ⟨c', oc, vs, t, e, h _ q, r⟩⟩
theorem TabOk.nil {rest : List (Addr × Obj)} : TabOk #[] rest := ⟨trivial, .inl rfl⟩
section
variable {M : Model} {A : Around} {E : Value → Shared → Prop} {s : Shared} {h₀ : Heap} {L a : Addr} {m mg mb : Str → Option Value} {cs : Scope} {cl : List (Str × Addr)} {rest : List (Addr × Obj)} {p : Program} {loose : List Str} {mean : ExcName → Option Value} {ps : Array Value}
theorem lam_eval {params : Arguments} {body : Expr} {scope : Scope} {clos : List (Str × Addr)} {Q : Value → Shared → Prop} (F : Fr h₀ L s.heap m) (N : News h₀ L s.heap ((32, tabObj ps) :: rest)) (T : Top p loose mean mg mb h₀) (C : CodeHd h₀ 34 32) (ht : TabOk ps rest) (h32 : ∀ q ∈ rest, q.1 ≠ 32)
    (hcl : closureFor scope (envX (Str.ofString "canonsort_keys") cs L a (.ref 34) cl) = pure clos) (hdef : defaultsOf params (envX (Str.ofString "canonsort_keys") cs L a (.ref 34) cl) = ([], []))
    (h : ∀ f c' ctv ps' xs h' tk oc vs t, Fr h₀ L h' m → News h₀ L h' ((f, kla_obj "<lambda>" lamQual params body scope clos ((mg "__name__").getD .none) c' ctv) :: (32, tabObj ps') :: (xs ++ rest)) → (c', oc) ∈ xs ++ rest → oc.data = .fields vs → vs[1]? = some (.str lamQual t) →
      TabOk ps' (xs ++ rest) → (∀ q ∈ xs, q.1 ≠ 32 ∧ ∀ r ∈ (32, tabObj ps) :: rest, r.1 < q.1) → (∀ r ∈ (32, tabObj ps) :: rest, r.1 < f) → (∀ q ∈ xs, q.1 < f) → Q (.ref f) { s with heap := h', toks := tk }) :
    wpAny M A (eval (.Lambda params body scope lamPos) (envX (Str.ofString "canonsort_keys") cs L a (.ref 34) cl)) Q E s := by
  refine kla_eval hdef ?_
  obtain ⟨h1, h2 | ⟨c', oc, vs, t, e, hm, hd, hq⟩⟩ := ht
  · refine kla_nest F N T C rfl (.head h32) h1 h2 hcl fun f c' oc vs t ctv h' tk F' N' hd hq l1 l2 => ?_
    refine h f c' ctv (ps ++ #[rawInt lamPos.line, rawInt lamPos.col, .ref c']) [(c', oc)] h' tk oc vs t F' (cb_drop N' fun q hq => ?_) (List.Mem.head _) hd hq ⟨?_, .inr ⟨c', oc, vs, t, ?_, List.Mem.head _, hd, hq⟩⟩ ?_ ?_ ?_
    · rcases List.mem_cons.mp hq with rfl | hq
      · exact List.Mem.head _
      rcases List.mem_cons.mp hq with rfl | hq
      · exact List.Mem.tail _ (List.Mem.tail _ (List.Mem.head _))
      rcases List.mem_cons.mp hq with rfl | hq
      · exact List.Mem.tail _ (List.Mem.head _)
      · exact List.Mem.tail _ (List.Mem.tail _ (List.Mem.tail _ hq))
    · rw [Array.toList_append]; exact TriplesOk_snoc _ _ _ _ h1
    · rw [Array.toList_append]; exact codeAmong_snoc _ h1 h2
    · intro q hq
      rw [List.mem_singleton.mp hq]
      exact ⟨Nat.ne_of_gt (l1 _ (List.Mem.head _)), l1⟩
    · exact fun r hr => Nat.lt_trans (l1 r hr) l2
    · intro q hq
      rw [List.mem_singleton.mp hq]; exact l2
  · refine kla_hit F N T C rfl (List.Mem.head _) h1 e hcl fun f ctv h' tk F' N' l1 => ?_
    exact h f c' ctv ps [] h' tk oc vs t F' N' hm hd hq ⟨h1, .inr ⟨c', oc, vs, t, e, hm, hd, hq⟩⟩ (fun q hq => nomatch hq) l1 (fun q hq => nomatch hq)
end
end Mine
end
section
open PySem PySem.W PySem.Spec PySem.Calls PyProof.Rows PyProof.Rows.LCg
set_option Elab.async false
set_option maxRecDepth 100000
set_option maxHeartbeats 1000000
set_option linter.unusedVariables false
namespace Mine
theorem lt_total : ∀ {a b : List Nat}, ltCps a b = false → ltCps b a = false → a = b
  | [], [], _, _ => rfl
  | [], _ :: _, h, _ => by simp [ltCps] at h
  | _ :: _, [], _, h => by simp [ltCps] at h
  | x :: a, y :: b, h1, h2 => by
    simp only [ltCps, Bool.or_eq_false_iff, decide_eq_false_iff_not, Nat.not_lt, Bool.and_eq_false_iff] at h1 h2
    have e : x = y := Nat.le_antisymm h2.1 h1.1
    subst e
    simp only [beq_self_eq_true, Bool.true_eq_false, false_or] at h1 h2
    rw [lt_total h1.2 h2.2]
theorem le_trans_cps : ∀ {a b c : List Nat}, ltCps b a = false → ltCps c b = false → ltCps c a = false
  | [], _, [], _, _ => rfl
  | [], [], _ :: _, _, h => by simp [ltCps] at h ⊢
  | [], _ :: _, _ :: _, _, _ => rfl
  | _ :: _, [], _, h, _ => by simp [ltCps] at h
  | x :: a, y :: b, [], _, h => by simp [ltCps] at h
  | x :: a, y :: b, z :: c, h1, h2 => by
    simp only [ltCps, Bool.or_eq_false_iff, decide_eq_false_iff_not, Nat.not_lt, Bool.and_eq_false_iff] at h1 h2 ⊢
    refine ⟨Nat.le_trans h1.1 h2.1, ?_⟩
    by_cases e : z = x
    · subst e
      have e2 : y = z := Nat.le_antisymm h2.1 h1.1
      subst e2
      simp only [beq_self_eq_true, Bool.true_eq_false, false_or] at h1 h2 ⊢
      exact le_trans_cps h1.2 h2.2
    · exact .inl (by simpa using e)
theorem rising_pair : ∀ {p : Str} {l : List Str}, risingS p l = true → (p :: l).Pairwise (fun a b => ltCps b.cps.toList a.cps.toList = false)
  | p, [], _ => List.pairwise_singleton _ _
  | p, x :: r, h => by
    have h' : (!ltCps x.cps.toList p.cps.toList && risingS x r) = true := h
    rw [Bool.and_eq_true, Bool.not_eq_true'] at h'
    have ih := rising_pair h'.2
    refine List.pairwise_cons.mpr ⟨fun y hy => ?_, ih⟩
    rcases List.mem_cons.mp hy with rfl | hy
    · exact h'.1
    · exact le_trans_cps h'.1 ((List.pairwise_cons.mp ih).1 y hy)
theorem sorted_pair {l : List Str} (h : sortedS l = true) : l.Pairwise (fun a b => ltCps b.cps.toList a.cps.toList = false) := by
  cases l with
  | nil => exact List.Pairwise.nil
  | cons p l => exact rising_pair h
theorem str_ext {a b : Str} (h : a.cps.toList = b.cps.toList) : a = b := by
  cases a; cases b
  congr 1
  exact Array.toList_inj.mp h
theorem sorted_one {a b : List Str} (ha : sortedS a = true) (hb : sortedS b = true) (h : a.Perm b) : a = b :=
  List.Perm.eq_of_pairwise (fun x y _ _ h1 h2 => str_ext (lt_total h2 h1)) (sorted_pair ha) (sorted_pair hb) h
theorem idx_of {ord : List Str} (hn : ord.Nodup) {i : Nat} (hi : i < ord.length) : ord.idxOf ord[i] = i := by
  have hm : ord[i] ∈ ord := List.getElem_mem hi
  have hl := List.idxOf_lt_length_iff.mpr hm
  have e := List.getElem_idxOf hl
  rcases Nat.lt_trichotomy (ord.idxOf ord[i]) i with h | h | h
  · exact absurd e (List.pairwise_iff_getElem.mp hn _ _ hl hi h)
  · exact h
  · exact absurd e.symm (List.pairwise_iff_getElem.mp hn _ _ hi hl h)
theorem strs_of_zip : ∀ (kz : List Int) (vs : List Value), (kz.zip vs).map (fun q : Int × Value => (q.1, strOf q.2)) = kz.zip (vs.map strOf)
  | [], _ => rfl
  | _ :: _, [] => rfl
  | k :: kz, v :: vs => by simp [strs_of_zip kz vs]
theorem zip_self {α β : Type} (f : α → β) : ∀ l : List α, (l.map f).zip l = l.map fun k => (f k, k)
  | [] => rfl
  | a :: l => by simp [zip_self f l]
theorem canon_head {ks ord hs : List Str} {vs out : List Value} (hk : ks.Nodup) (hn : ord.Nodup) (e : hs = ks.filter fun k => decide (k ∈ ord) == true) (hS : StrsAre vs hs) (O : KskOut false (hs.map fun k => (ord.idxOf k : Int)) vs out) :
    StrsAre out (ord.filter fun k => decide (k ∈ ks)) := by
  obtain ⟨ps, hp, rfl, hsrt⟩ := O
  have hstr : vs.map strOf = hs := hS.strs
  have hp2 : (ps.map fun q : Int × Value => (q.1, strOf q.2)).Perm (hs.map fun k => ((ord.idxOf k : Int), k)) := by
    have := hp.map (fun q : Int × Value => (q.1, strOf q.2))
    rwa [strs_of_zip, hstr, zip_self] at this
  have hmem : ∀ k, k ∈ hs ↔ k ∈ ks ∧ k ∈ ord := fun k => by rw [e]; simp
  have hperm : (ord.filter fun k => decide (k ∈ ks)).Perm hs := by
    refine (List.perm_ext_iff_of_nodup (List.Pairwise.filter _ hn) (by rw [e]; exact List.Pairwise.filter _ hk)).mpr fun k => ?_
    rw [hmem]; simp [and_comm]
  have hp3 := hp2.trans (hperm.map fun k => ((ord.idxOf k : Int), k)).symm
  have eq : (ps.map fun q : Int × Value => (q.1, strOf q.2)) = (ord.filter fun k => decide (k ∈ ks)).map fun k => ((ord.idxOf k : Int), k) := by
    refine List.Perm.eq_of_pairwise (le := fun p q => p.1 ≤ q.1) (fun x y hx hy h1 h2 => ?_) ?_ ?_ hp3
    · obtain ⟨k1, m1, rfl⟩ := List.mem_map.mp (hp3.mem_iff.mp hx)
      obtain ⟨k2, m2, rfl⟩ := List.mem_map.mp hy
      have e1 : (ord.idxOf k1 : Int) = ord.idxOf k2 := Int.le_antisymm h1 h2
      have e2 : ord.idxOf k1 = ord.idxOf k2 := by exact_mod_cast e1
      have l1 := List.idxOf_lt_length_iff.mpr (List.mem_filter.mp m1).1
      have l2 := List.idxOf_lt_length_iff.mpr (List.mem_filter.mp m2).1
      have g1 := List.getElem_idxOf l1
      have g2 := List.getElem_idxOf l2
      have : k1 = k2 := by
        rw [← g1, ← g2]
        simp only [e2]
      rw [this]
    · rw [List.pairwise_map]
      exact hsrt.imp fun h => h
    · rw [List.pairwise_map]
      refine List.Pairwise.filter _ ?_
      rw [List.pairwise_iff_getElem]
      intro i j hi hj hij
      rw [idx_of hn hi, idx_of hn hj]
      show (i : Int) ≤ (j : Int)
      omega
  have hall : ∀ v ∈ ps.map Prod.snd, ∃ x t, v = Value.str x t := by
    intro v hv
    obtain ⟨q, hq, rfl⟩ := List.mem_map.mp hv
    have := hp.mem_iff.mp hq
    exact hS.all _ (List.of_mem_zip (a := q.1) (b := q.2) this).2
  have h1 := strsAre_map _ hall
  have h2 : (ps.map Prod.snd).map strOf = ord.filter fun k => decide (k ∈ ks) := by
    have := congrArg (List.map Prod.snd) eq
    rw [List.map_map, List.map_map] at this
    rw [List.map_map]
    rw [show (Prod.snd ∘ fun k : Str => ((ord.idxOf k : Int), k)) = id from rfl, List.map_id] at this
    exact this
  rw [h2] at h1
  exact h1
end Mine
end
section
open PySem PySem.W PySem.Calls PyProof.Rows PyProof.Rows.LCg
set_option Elab.async false
set_option maxRecDepth 100000
set_option maxHeartbeats 1000000
set_option linter.unusedVariables false
set_option pp.maxSteps 3000
set_option pp.deepTerms false
set_option pp.deepTerms.threshold 6
namespace Mine
theorem ns_sorted {P} : nsIn (Mine.hd.heap_39 P) mainGlobals (Str.ofString "sorted") = some none := by kernel_rfl
theorem bb_sorted : bootBuiltins (Str.ofString "sorted") = some (.builtin "sorted") := by decide +kernel
inductive OrdIs (news : List (Addr × Obj)) : Value → List Str → Prop
  | none : OrdIs news .none []
  | list {l : Addr} {vs : List Value} {cnt : Nat} {ord : List Str} : (l, listOf (List.toArray vs) cnt) ∈ news → StrsAre vs ord → OrdIs news (.ref l) ord
theorem OrdIs.mono {news news' : List (Addr × Obj)} {v : Value} {ord : List Str} (O : OrdIs news v ord) (h : ∀ q ∈ news, q ∈ news') : OrdIs news' v ord := by
  cases O with
  | none => exact .none
  | list q r => exact .list (h _ q) r
section
variable {prog : Program} {w : World} {A : Around} {cn : Str} {cs : Scope} {a : Addr} {ccd : Value} {cl : List (Str × Addr)} {h₀ : Heap} {L : Addr} {m mg mb : Str → Option Value} {p : Program} {loose : List Str} {news : List (Addr × Obj)} {s : Shared} {E : Value → Shared → Prop}
theorem ord_or {ordV : Value} {ord : List Str} {x : Str} {p1 p2 p3 : Pos} (hk : cs.kind = .function) (F : Fr h₀ L s.heap m) (N : News h₀ L s.heap news) (O : OrdIs news ordV ord) (hz : ord.length < 60) (mo : m x = some ordV) (lo : (envX cn cs L a ccd cl).kindOf x = some .local) (hdb : (x == ("__debug__" : Str)) = false) :
    wpAny (model prog w) A (eval (.BoolOp .Or [.Name x p1, .List [] p2] p3) (envX cn cs L a ccd cl)) (fun v s₁ => ∃ l vs cnt nw h' tk, v = .ref l ∧ s₁ = { s with heap := h', toks := tk } ∧ Fr h₀ L h' m ∧ News h₀ L h' nw ∧ (l, listOf (List.toArray vs) cnt) ∈ nw ∧ StrsAre vs ord ∧ (∀ q ∈ news, q ∈ nw)) E s := by
  refine BoolOp_or (nameX_L F mo ?_ hk lo hdb)
  have fresh : ∀ tk, ord = [] → wpAny (model prog w) A (eval (.BoolOp .Or [.List [] p2] p3) (envX cn cs L a ccd cl)) (fun v s₁ => ∃ l vs cnt nw h' tk, v = .ref l ∧ s₁ = { s with heap := h', toks := tk } ∧ Fr h₀ L h' m ∧ News h₀ L h' nw ∧ (l, listOf (List.toArray vs) cnt) ∈ nw ∧ StrsAre vs ord ∧ (∀ q ∈ news, q ∈ nw)) E { s with toks := tk } := fun tk e => by
    subst e
    refine BoolOp_one (List_ (spliced_none (newList_N (s := { s with toks := tk }) F N (fun h4 F4 N4 => ?_) (by decide))))
    exact ⟨_, [], 0, _, h4, tk, rfl, rfl, F4, N4, List.Mem.head _, .nil, fun q hq => List.Mem.tail _ hq⟩
  cases O with
  | none =>
    refine truthy_none ?_
    exact fresh _ rfl
  | @list l vs cnt _ hl hs =>
    have hlen := StrsAre.len hs
    refine wpAny_truthy_list (items := vs.toArray) ⟨_, (N _ hl).1, rfl, _, rfl⟩ (by rw [List.size_toArray, hlen]; omega) ?_
    cases hs with
    | nil =>
      exact fresh _ rfl
    | @cons y t vs' ys hs' =>
      rw [if_pos (by simp)]
      exact ⟨l, _, cnt, news, s.heap, _, rfl, rfl, F, N, hl, .cons y t hs', fun q hq => hq⟩
theorem Call_kw {func : Expr} {args : List Expr} {kws : List Keyword} {pos : Pos} {env : Env} {Q : Value → Shared → Prop}
    (h : wpAny (model prog w) A (eval func env) (fun f s₁ => wpAny (model prog w) A (callWith pos f [] (backTo pos (starEach args env)) (backToKw pos (keywordEach kws env))) Q E s₁) E s)
    (he : eval (.Call func args kws pos) env = (do callWith pos (← eval func env) [] (backTo pos (starEach args env)) (backToKw pos (keywordEach kws env)))) :
    wpAny (model prog w) A (eval (.Call func args kws pos) env) Q E s := by
  rw [he]; exact wpAny_bind h
end
end Mine
end
section
open PySem PySem.W PySem.Calls PyProof.Rows PyProof.Rows.LCg
set_option Elab.async false
set_option maxRecDepth 100000
set_option maxHeartbeats 1000000
set_option linter.unusedVariables false
set_option pp.maxSteps 3000
set_option pp.deepTerms false
set_option pp.deepTerms.threshold 6
namespace Mine
section
variable {w : World} {p : Program} {loose : List Str} {mean : ExcName → Option Value} {mg mb : Str → Option Value} {dp un : Nat} {gd : Option (List Code)} {cn : Str} {cs : Scope} {a : Addr} {ccd : Value} {cl : List (Str × Addr)} {outer : List Env} {A₀ : Around} {base h₀ : Heap} {L : Addr} {m : Str → Option Value} {rest : List (Addr × Obj)} {s : Shared} {Q E : Value → Shared → Prop}
theorem TabOk.drop {ps : Array Value} {rest rest' : List (Addr × Obj)} (H : TabOk ps rest) (h : ∀ q ∈ rest, q ∈ rest' ∨ ∀ vs t, q.2.data = .fields vs → vs[1]? ≠ some (.str lamQual t)) : TabOk ps rest' :=
  ⟨H.1, H.2.imp id fun ⟨c', oc, vs, t, e, q, hd, r⟩ => by
    rcases h _ q with h | h
    · exact ⟨c', oc, vs, t, e, h, hd, r⟩
    · exact absurd r (h vs t hd)⟩
theorem canon_c {v d : Addr} {cc : Value} {od : Option Addr} {es : List DictEntry} {ep : Nat} {D : List (Str × Value)} {ps : Array Value} {ordV : Value} {ord : List Str}
    (B : Below A₀ base outer h₀) (F : Fr h₀ L s.heap m) (X : (Mine.hd.heap_39 w.params).In h₀) (N : News h₀ L s.heap ((32, tabObj ps) :: rest)) (T : Top p loose mean mg mb h₀) (C : CodeHd h₀ 34 32) (hk : cs.kind = .function) (hd : dp + 10 < recursionLimit) (hu : un + 200 < cLine)
    (ht : TabOk ps rest) (h32 : ∀ q ∈ rest, q.1 ≠ 32) (hv : (v, { cls := .type "dict_keys", data := .fields #[.ref d] }) ∈ rest) (hdm : (d, dob cc od es ep) ∈ rest) (H : Ent PySem.Challenge.rw_be0018_01.row.prog w es D)
    (O : OrdIs rest ordV ord) (hn : ord.Nodup) (hz : ord.length < 60) (hzD : D.length < 60)
    (ret : ∀ R cnt ps' xs vs ts h' tk', ts.Perm ((D.map (·.1)).filter fun k => decide (k ∈ ord) == false) → sortedS ts = true → StrsAre vs ((ord.filter fun k => decide (k ∈ D.map (·.1))) ++ ts) → Fr h₀ L h' m → News h₀ L h' ((R, listOf (List.toArray vs) cnt) :: (32, tabObj ps') :: (xs ++ rest)) → TabOk ps' (xs ++ rest) →
      (∀ q ∈ xs, q.1 ≠ 32 ∧ ∀ r ∈ rest, r.1 < q.1) → (∀ q ∈ xs ++ rest, q.1 < R) → 32 < R → Q (.ref R) { s with heap := h', toks := tk' }) :
    wpAny (model PySem.Challenge.rw_be0018_01.row.prog w) (ktrTop dp un gd cn cs L a ccd cl outer) (call (.ref 35) [.ref v, ordV]) Q E s := by
  revert X
  k_fill
  intro X
  refine wpAny_call ?_
  refine' code_defC (K := Mine.hd.heap_39 w.params) B F X N T rfl rfl hk ?k6 ?k7 ?k8 ?k9 ?kB ?kD ?_ ?c2 ?c3 ?c4
  (case k6 => k_is)
  (case k7 => k_is)
  (case k8 => show dp < recursionLimit; omega)
  (case k9 => first | exact BindsTo.of_eq rfl | exact binds_K (by k_in) rfl (by k_is) rfl rfl rfl)
  (case kB => exact rfl)
  (case kD => decide +kernel)
  (case c2 => exact rfl)
  (case c3 => exact rfl)
  (case c4 => exact rfl)
  intro g L1 h1 tk1 cells FG F1 N1 Y B1 X1 T1 l1
  obtain ⟨o1, rfl, d1⟩ := CellsAre.one Y
  clear Y
  have d1 : o1.data = .cell none := d1
  generalize hm : bindL _ _ _ = m1 at F1
  have e1 : m1 (Str.ofString "keys") = some (.ref v) := by rw [← hm]; rfl
  have e2 : m1 (Str.ofString "canonical_order") = some ordV := by rw [← hm]; rfl
  clear hm
  have R1 := topRead_of T1
  refine wpAny_noRaise (gen_q fun Q' hQ => ?_)
  have C1 : CodeHd g 34 32 := C.keeps FG.keep
  have hlen := H.len
  have kn : (D.map (·.1)).Nodup := H.nd
  refine wpAny_execs_cons (wpAny_Assign_Name (map_eval (news := (L1 + 1, o1) :: (32, tabObj ps) :: rest) rfl rfl X1 R1 F1 rfl rfl rfl (by decide) (by decide) rfl rfl (by decide) (by decide) (by decide) rfl hn hz (ord_or rfl F1 N1 (O.mono fun q hq => List.Mem.tail _ (List.Mem.tail _ hq)) hz e2 rfl (by decide)) ?_))
  intro DM h2 tk2 esM epM DD F2 N2 l2 hDm HM hMA
  have nL : ∀ q ∈ (32, tabObj ps) :: rest, q.1 ≠ L1 + 1 := fun q hq => Nat.ne_of_lt (Nat.lt_succ_of_lt (l1 q hq))
  refine storeX_C F2 N2 rfl (.tail (Nat.ne_of_gt (l2 _ (List.Mem.head _))) (.head nL)) d1 (fun h3 o3 F3 N3 d3 => ?_)
  have l3 : ∀ q ∈ (L1 + 1, o3) :: (32, tabObj ps) :: rest, q.1 < DM := fun q hq => by
    rcases List.mem_cons.mp hq with rfl | hq
    · exact l2 (L1 + 1, o1) (List.Mem.head _)
    · exact l2 _ (List.Mem.tail _ hq)
  have up3 : ∀ q ∈ rest, q ∈ (DM, dictOf esM epM) :: (L1 + 1, o3) :: (32, tabObj ps) :: rest := fun q hq => List.Mem.tail _ (List.Mem.tail _ (List.Mem.tail _ hq))
  refine wpAny_execs_cons (pick_c (.inl ⟨rfl, rfl⟩) rfl rfl F3 N3 e1 rfl rfl (up3 _ hv) (up3 _ hdm) H (List.Mem.tail _ (List.Mem.head _)) d3 (List.Mem.head _) hDm HM hMA rfl rfl rfl (by decide) (by decide) rfl (fun _ => rfl) ?_)
  intro Rh h4 tk4 hs Sh F4 N4 off4
  refine wpAny_execs_cons (pick_c (.inr ⟨rfl, rfl⟩) rfl rfl F4 N4 ((if_neg (by decide)).trans e1) rfl rfl (List.Mem.tail _ (up3 _ hv)) (List.Mem.tail _ (up3 _ hdm)) H (List.Mem.tail _ (List.Mem.tail _ (List.Mem.head _))) d3 (List.Mem.tail _ (List.Mem.head _)) hDm HM hMA rfl rfl rfl (by decide) (by decide) rfl (fun _ => rfl) ?_)
  intro Rt h5 tk5 ts St F5 N5 off5
  dsimp only at N5 ⊢
  refine wpAny_execs_cons (wpAny_Return_some (wpAny_BinOp (Call_kw (he := by rfl) (nameX_B F5 X1 R1 ns_sorted bb_sorted (by decide) ?_))))
  refine callWith_kw (spliced_more (nameX_L F5 ((if_neg (by decide)).trans (if_pos rfl)) (spliced_none (kws_cons (lam_eval (ps := ps) (rest := (Rt, lst ts) :: (Rh, lst hs) :: (DM, dictOf esM epM) :: (L1 + 1, o3) :: rest) F5 (cb_drop N5 ?_) T1 C1 (ht.mono fun q hq => List.Mem.tail _ (List.Mem.tail _ (List.Mem.tail _ (List.Mem.tail _ hq)))) ?_ rfl rfl fun f c' ctv ps' xs h6 tk6 oc vs t F6 N6 hc' hoc hq ht6 lx lf lxf => kws_nil ?_)))))
  · intro q hq
    rcases List.mem_cons.mp hq with rfl | hq
    · exact List.Mem.tail _ (List.Mem.tail _ (List.Mem.tail _ (List.Mem.tail _ (List.Mem.head _))))
    rcases List.mem_cons.mp hq with rfl | hq
    · exact List.Mem.head _
    rcases List.mem_cons.mp hq with rfl | hq
    · exact List.Mem.tail _ (List.Mem.head _)
    rcases List.mem_cons.mp hq with rfl | hq
    · exact List.Mem.tail _ (List.Mem.tail _ (List.Mem.head _))
    rcases List.mem_cons.mp hq with rfl | hq
    · exact List.Mem.tail _ (List.Mem.tail _ (List.Mem.tail _ (List.Mem.head _)))
    · exact List.Mem.tail _ (List.Mem.tail _ (List.Mem.tail _ (List.Mem.tail _ (List.Mem.tail _ hq))))
  · intro q hq
    have off32 : ∀ {nn : List (Addr × Obj)} {R : Addr}, (32, tabObj ps) ∈ nn → (∀ p ∈ nn, p.1 ≠ R) → R ≠ 32 := fun hm ho e => ho _ hm e.symm
    rcases List.mem_cons.mp hq with rfl | hq
    · exact off32 (List.Mem.tail _ (List.Mem.tail _ (List.Mem.tail _ (List.Mem.head _)))) off5
    rcases List.mem_cons.mp hq with rfl | hq
    · exact off32 (List.Mem.tail _ (List.Mem.tail _ (List.Mem.head _))) off4
    rcases List.mem_cons.mp hq with rfl | hq
    · exact Nat.ne_of_gt (l3 _ (List.Mem.tail _ (List.Mem.head _)))
    rcases List.mem_cons.mp hq with rfl | hq
    · exact Nat.ne_of_gt (Nat.lt_succ_of_lt (l1 _ (List.Mem.head _)))
    · exact h32 q hq
  have hlh : hs.length < 64 := by
    rw [StrsAre.len Sh]
    refine Nat.lt_of_le_of_lt (List.length_filter_le _ _) ?_
    rw [List.length_map]; omega
  have hlt : ts.length < 64 := by
    rw [StrsAre.len St]
    refine Nat.lt_of_le_of_lt (List.length_filter_le _ _) ?_
    rw [List.length_map]; omega
  generalize hss : (D.map (·.1)).filter (fun k => decide (k ∈ ord) == true) = ss at Sh
  have up6 : ∀ q ∈ (Rt, lst ts) :: (Rh, lst hs) :: (DM, dictOf esM epM) :: (L1 + 1, o3) :: rest, q ∈ (f, kla_obj "<lambda>" lamQual (lamPars ⟨17, 35, 17, 36⟩) (lamBody ⟨17, 38, 17, 51⟩ ⟨17, 52, 17, 53⟩ ⟨17, 38, 17, 54⟩) lamScope [(Str.ofString "canonical_map", L1 + 1)] ((mg "__name__").getD .none) c' ctv) :: (32, tabObj ps') :: (xs ++ (Rt, lst ts) :: (Rh, lst hs) :: (DM, dictOf esM epM) :: (L1 + 1, o3) :: rest) := fun q hq => List.Mem.tail _ (List.Mem.tail _ (List.mem_append_right _ hq))
  refine ksk_sorted (b := false) (kz := ss.map fun k => (ord.idxOf k : Int)) (vs := hs) F6 N6 ⟨_, (N6 _ (up6 _ (List.Mem.tail _ (List.Mem.head _)))).1, rfl, _, rfl⟩ (by rw [List.length_map, StrsAre.len Sh]) hlh (ksk_s1 _ _) (fun x => ksk_l1 _ _) (fun x => ksk_t1 _ _) (fun i v' k hv' hk' h7 tk7 own F7 N7 => ?_) fun R1' h7 tk7 out c7 F7 N7 l7 ko => ?_
  · obtain ⟨kk, kt, rfl, hkk⟩ := strs_at Sh hv'
    rw [List.getElem?_map, hkk] at hk'
    obtain rfl := Option.some.inj hk'
    have hmem : kk ∈ ord := by
      have := List.mem_of_getElem? hkk
      rw [← hss] at this
      simpa using (List.mem_filter.mp this).2
    have hidx := List.idxOf_lt_length_iff.mpr hmem
    obtain ⟨ti, hti⟩ := hMA.at hn (k := kk) (i := ord.idxOf kk) (by rw [List.getElem?_eq_getElem hidx, List.getElem_idxOf hidx])
    show wpAny _ (ktrTop (dp + 1) (un + 5) gd _ _ L1 35 _ [(Str.ofString "canonical_map", L1 + 1)] (envX cn cs L a ccd cl :: outer)) _ _ _ _
    refine lam_turn (s := { s with heap := h7, toks := tk7 }) (oc := o3) (DM := DM) B1 F7 X1 N7 T1 rfl (room (hk := by decide) hd) (List.mem_append_left _ (List.Mem.head _)) ⟨c', oc, vs, t, rfl, (N7 _ (List.mem_append_left _ (List.Mem.tail _ (List.Mem.tail _ hc')))).1, hoc, hq⟩ (List.mem_append_left _ (up6 _ (List.Mem.tail _ (List.Mem.tail _ (List.Mem.tail _ (List.Mem.head _)))))) d3 (List.mem_append_left _ (up6 _ (List.Mem.tail _ (List.Mem.tail _ (List.Mem.head _))))) HM hti fun h8 tk8 F8 N8 => ?_
    exact KskEnd.intro F8 N8 fun p hp => hp
  · have hout := canon_head kn hn hss.symm Sh ko
    dsimp only at N7 ⊢
    refine Call_ (nameX_B F7 X1 R1 ns_sorted bb_sorted (by decide) ?_)
    refine PyProof.Rows.callWith_builtin1 (spliced_more (nameX_L F7 (if_pos rfl) (spliced_none ?_)))
    refine sorted_N_str F7 N7 ⟨_, (N7 _ (List.Mem.tail _ (up6 _ (List.Mem.head _)))).1, rfl, _, rfl⟩ St hlt fun h8 vs8 ss8 e8 F8 N8 S8 P8 srt8 => ?_
    have l8 : ∀ q ∈ (R1', seqObj "list" out c7) :: (f, _) :: (32, tabObj ps') :: (xs ++ (Rt, lst ts) :: (Rh, lst hs) :: (DM, dictOf esM epM) :: (L1 + 1, o3) :: rest), q.1 < h7.objs.size := fun q hq => Heap.lt_size (N7 q hq).1
    refine add_arrays F8 N8 (its := out) (its2 := vs8.toArray) ⟨_, (N8 _ (List.Mem.tail _ (List.Mem.head _))).1, rfl, _, rfl⟩ ⟨_, (N8 _ (List.Mem.head _)).1, rfl, _, rfl⟩ (fun h9 F9 N9 => ?_) ?_
    · have l9 : ∀ q ∈ xs ++ rest, q.1 < h8.objs.size := fun q hq => Heap.lt_size (N8 q (List.Mem.tail _ (List.Mem.tail _ (List.Mem.tail _ (List.Mem.tail _ (by
        rcases List.mem_append.mp hq with hq | hq
        · exact List.mem_append_left _ hq
        · exact List.mem_append_right _ (List.Mem.tail _ (List.Mem.tail _ (List.Mem.tail _ (List.Mem.tail _ hq)))))))))).1
      have l32 : 32 < h8.objs.size := Heap.lt_size (N8 _ (List.Mem.tail _ (List.Mem.tail _ (List.Mem.tail _ (List.Mem.head _))))).1
      dsimp only at N9 ⊢
      refine hQ (.ret _) _ (leaveK_ F9 N9 fun kF kN => ?_)
      refine ret _ 0 ps' xs (out.toList ++ vs8) ss8 _ _ P8 srt8 (Mine.StrsAre.append hout S8) kF (cb_drop kN fun q hq => ?_) (ht6.drop fun q hq => ?_) (fun q hq => ⟨(lx q hq).1, fun r hr => (lx q hq).2 r (List.Mem.tail _ (List.Mem.tail _ (List.Mem.tail _ (List.Mem.tail _ (List.Mem.tail _ hr)))))⟩) l9 l32
      · rcases List.mem_cons.mp hq with rfl | hq
        · exact List.Mem.head _
        rcases List.mem_cons.mp hq with rfl | hq
        · exact List.Mem.tail _ (List.Mem.tail _ (List.Mem.tail _ (List.Mem.tail _ (List.Mem.head _))))
        refine List.Mem.tail _ (List.Mem.tail _ (List.Mem.tail _ (List.Mem.tail _ (List.Mem.tail _ ?_))))
        rcases List.mem_append.mp hq with hq | hq
        · exact List.mem_append_left _ hq
        · exact List.mem_append_right _ (List.Mem.tail _ (List.Mem.tail _ (List.Mem.tail _ (List.Mem.tail _ hq))))
      · rcases List.mem_append.mp hq with hq | hq
        · exact .inl (List.mem_append_left _ hq)
        rcases List.mem_cons.mp hq with rfl | hq
        · exact .inr (fun vs t e => by cases e)
        rcases List.mem_cons.mp hq with rfl | hq
        · exact .inr (fun vs t e => by cases e)
        rcases List.mem_cons.mp hq with rfl | hq
        · exact .inr (fun vs t e => by cases e)
        rcases List.mem_cons.mp hq with rfl | hq
        · exact .inr (fun vs t e => by rw [d3] at e; cases e)
        · exact .inl (List.mem_append_right _ hq)
    · have h1 := StrsAre.len hout
      have h2 := StrsAre.len S8
      have h3 : (ord.filter fun k => decide (k ∈ D.map (·.1))).length ≤ ord.length := List.length_filter_le _ _
      have h4 := P8.length_eq
      have h5 : ((D.map (·.1)).filter fun k => decide (k ∈ ord) == false).length ≤ (D.map (·.1)).length := List.length_filter_le _ _
      rw [List.length_map] at h5
      have h6 : out.size = out.toList.length := (Array.length_toList).symm
      rw [h6, h1, List.size_toArray, h2, h4, sizeLine_eq]
      omega
end
end Mine
end
section
open PySem PySem.W PySem.Calls PyProof.Rows PyProof.Rows.LCg
set_option Elab.async false
set_option maxRecDepth 100000
set_option maxHeartbeats 1000000
set_option linter.unusedVariables false
set_option pp.maxSteps 3000
set_option pp.deepTerms false
set_option pp.deepTerms.threshold 6
namespace Mine
theorem reads_strsE {h : Heap} {vs : List Value} {ss : List Str} (H : StrsAre vs ss) : ∃ as, ReadsAll h vs (ss.map .str) as := by
  induction H with
  | nil => exact ⟨_, .nil⟩
  | cons y t _ ih => obtain ⟨as, h⟩ := ih; exact ⟨_, .cons (.str y t) h⟩
inductive PairsIs (nw : List (Addr × Obj)) : List Value → List (Str × Int) → Prop
  | nil : PairsIs nw [] []
  | cons {a : Addr} {k : Str} {t u : Tok} {i : Int} {vs : List Value} {P : List (Str × Int)} : (a, ({ cls := .type "tuple", data := .seq #[.str k t, .int i u] } : Obj)) ∈ nw → PairsIs nw vs P → PairsIs nw (.ref a :: vs) ((k, i) :: P)
theorem PairsIs.mono {nw nw' : List (Addr × Obj)} {vs : List Value} {P : List (Str × Int)} (H : PairsIs nw vs P) (h : ∀ q ∈ nw, q ∈ nw') : PairsIs nw' vs P := by
  induction H with
  | nil => exact .nil
  | cons q _ ih => exact .cons (h _ q) ih
theorem PairsIs.snoc {nw : List (Addr × Obj)} {vs : List Value} {P : List (Str × Int)} {a : Addr} {k : Str} {t u : Tok} {i : Int} (H : PairsIs nw vs P) (q : (a, ({ cls := .type "tuple", data := .seq #[.str k t, .int i u] } : Obj)) ∈ nw) : PairsIs nw (vs ++ [.ref a]) (P ++ [(k, i)]) := by
  induction H with
  | nil => exact .cons q .nil
  | cons r _ ih => exact .cons r ih
noncomputable abbrev pairDat (q : Str × Int) : PyData := .tuple [.str q.1, .int q.2]
theorem reads_pairs {nw : List (Addr × Obj)} {h₀ h : Heap} {L : Addr} {vs : List Value} {P : List (Str × Int)} (H : PairsIs nw vs P) (N : News h₀ L h nw) : ∃ as, ReadsAll h vs (P.map pairDat) as := by
  induction H with
  | nil => exact ⟨_, .nil⟩
  | cons q _ ih => obtain ⟨as, h⟩ := ih; exact ⟨_, .cons (.tuple (N _ q).1 rfl rfl (.cons (.str _ _) (.cons (.int _ _) .nil))) h⟩
theorem shaped_strsE {ss : List Str} (h : ∀ x ∈ ss, PyData.strOk x = true) : SeqAt.shaped (.list (ss.map .str)) = true := by
  have h1 : PyData.canLayAll0 (ss.map .str) = true := by
    induction ss with
    | nil => rfl
    | cons x r ih =>
      simp only [List.map_cons, PyData.canLayAll0, PyData.canLay0, Bool.and_eq_true]
      exact ⟨h x (List.Mem.head _), ih fun y hy => h y (List.Mem.tail _ hy)⟩
  have h2 : ∀ l : List Str, PyData.depthAll (l.map .str) = 0 := by
    intro l
    induction l with
    | nil => rfl
    | cons x r ih => simp [PyData.depthAll, PyData.depth, ih]
  simp [SeqAt.shaped, PyData.canLay0, PyData.depth, h1, h2]
theorem shaped_pairs {P : List (Str × Int)} (h : ∀ x ∈ P, PyData.strOk x.1 = true) : SeqAt.shaped (.list (P.map pairDat)) = true := by
  have h1 : PyData.canLayAll0 (P.map pairDat) = true := by
    induction P with
    | nil => rfl
    | cons x r ih =>
      simp only [List.map_cons, PyData.canLayAll0, PyData.canLay0, Bool.and_eq_true, pairDat]
      exact ⟨⟨h x (List.Mem.head _), trivial, trivial⟩, ih fun y hy => h y (List.Mem.tail _ hy)⟩
  have h2 : ∀ l : List (Str × Int), PyData.depthAll (l.map pairDat) ≤ 1 := by
    intro l
    induction l with
    | nil => simp [PyData.depthAll]
    | cons x r ih =>
      have e : PyData.depthAll ((x :: r).map pairDat) = max 1 (PyData.depthAll (r.map pairDat)) := rfl
      rw [e]
      exact Nat.max_le.mpr ⟨Nat.le_refl _, ih⟩
  have := h2 P
  have e : (PyData.list (P.map pairDat)).depth = PyData.depthAll (P.map pairDat) + 1 := rfl
  simp only [SeqAt.shaped, PyData.canLay0, h1, Bool.true_and]
  exact decide_eq_true (by rw [e]; omega)
section
variable {prog : Program} {w : World} {A : Around} {E : Value → Shared → Prop} {s : Shared} {h₀ : Heap} {L : Addr} {m : Str → Option Value} {news : List (Addr × Obj)} {R1 R2 : Addr} {c1 c2 : Nat} {v1 v2 : List Value} {Q : Value → Shared → Prop}
theorem ne_strsE {ss : List Str} (N : News h₀ L s.heap news) (m1 : (R1, listOf (List.toArray v1) c1) ∈ news) (m2 : (R2, listOf (List.toArray v2) c2) ∈ news) (S1 : StrsAre v1 ss) (S2 : StrsAre v2 ss) (ok : ∀ x ∈ ss, PyData.strOk x = true) (hu : A.units + 64 < cLine)
    (h : Q (.bool false) s) : wpAny (model prog w) A (compareOp .NotEq (.ref R1) (.ref R2)) Q E s := by
  obtain ⟨as, r1⟩ := reads_strsE (h := s.heap) S1
  obtain ⟨bs, r2⟩ := reads_strsE (h := s.heap) S2
  refine ne_dataH (.list (N _ m1).1 rfl rfl (by simpa using r1)) (.list (N _ m2).1 rfl rfl (by simpa using r2)) (shaped_strsE ok) (shaped_strsE ok) hu ?_
  rw [SeqAt.eqv_refl _ (SeqAt.canLay_of_shaped (shaped_strsE ok))]
  exact h
theorem ne_pairsE {P : List (Str × Int)} (N : News h₀ L s.heap news) (m1 : (R1, listOf (List.toArray v1) c1) ∈ news) (m2 : (R2, listOf (List.toArray v2) c2) ∈ news) (S1 : PairsIs news v1 P) (S2 : PairsIs news v2 P) (ok : ∀ x ∈ P, PyData.strOk x.1 = true) (hu : A.units + 64 < cLine)
    (h : Q (.bool false) s) : wpAny (model prog w) A (compareOp .NotEq (.ref R1) (.ref R2)) Q E s := by
  obtain ⟨as, r1⟩ := reads_pairs S1 N
  obtain ⟨bs, r2⟩ := reads_pairs S2 N
  refine ne_dataH (.list (N _ m1).1 rfl rfl (by simpa using r1)) (.list (N _ m2).1 rfl rfl (by simpa using r2)) (shaped_pairs ok) (shaped_pairs ok) hu ?_
  rw [SeqAt.eqv_refl _ (SeqAt.canLay_of_shaped (shaped_pairs ok))]
  exact h
end
noncomputable def intV : Value → Int
  | .int i _ => i
  | _ => 0
/-- the texts of a dict's keys -/
theorem keys_strs {prog : Program} {w : World} {es : List DictEntry} {D : List (Str × Value)} (H : Pairs (strKind prog w) es D) : StrsAre (es.map (·.key)) (D.map (·.1)) := by
  induction H with
  | nil => exact .nil
  | cons h1 h2 h3 ih =>
    obtain ⟨t, e⟩ := key_str h1
    rw [List.map_cons, List.map_cons, e]
    exact .cons _ t ih
theorem items_pairs {prog : Program} {w : World} {nw : List (Addr × Obj)} {es : List DictEntry} {D : List (Str × Value)} (H : Pairs (strKind prog w) es D) (hD : ∀ q ∈ D, ∃ i t, q.2 = .int i t) : ∀ {as : List Addr}, as.length = es.length → (∀ q ∈ tupsOf es as, q ∈ nw) →
    PairsIs nw (as.map Value.ref) (D.map fun q => (q.1, intV q.2)) := by
  induction H with
  | nil =>
    intro as hl _
    rw [List.length_eq_zero_iff.mp hl]; exact .nil
  | @cons e kv es kvs h1 h2 h3 ih =>
    intro as hl hm
    cases as with
    | nil => cases hl
    | cons a as =>
      obtain ⟨t, e1⟩ := key_str h1
      obtain ⟨i, u, e2⟩ := hD _ (List.Mem.head _)
      have q := hm (a, pairOb e) (List.Mem.head _)
      rw [pairOb, e1, h2, e2] at q
      rw [List.map_cons, List.map_cons, e2]
      exact .cons q (ih (fun q hq => hD q (List.Mem.tail _ hq)) (by simpa using hl) fun q hq => hm q (List.Mem.tail _ hq))
end Mine
end
section
open PySem PySem.W PySem.Calls PyProof.Rows PyProof.Rows.LCg
set_option Elab.async false
set_option maxRecDepth 100000
set_option maxHeartbeats 1000000
set_option linter.unusedVariables false
set_option pp.maxSteps 3000
set_option pp.deepTerms false
set_option pp.deepTerms.threshold 6
namespace Mine
section
variable {prog : Program} {w : World} {A : Around} {E : Value → Shared → Prop} {s : Shared} {h₀ : Heap} {L : Addr} {m : Str → Option Value} {env : Env} {news : List (Addr × Obj)}
theorem blk_walk {elt iter : Expr} {x : Str} {px : Pos} {ifs : List Expr} {scope : Scope} {cl : List (Str × Addr)} {pos : Pos} {I : Addr} {fp : List Addr} {fx nw₀ : List (Addr × Obj)} {n : Nat} {P : Nat → Value → Prop} {St : Nat → Heap → Prop} {m₂ : Addr → Str → Option Value} {Qr : Addr → Shared → Prop} (J : Nat → List Value → List (Addr × Obj) → Prop) (Fin : List Value → List (Addr × Obj) → Prop) (imp : ∀ ys nw, J n ys nw → ∃ nw2, (∀ q ∈ nw2, q ∈ nw) ∧ Fin ys nw2)
    (W : Walks prog w A I fp [I] n P St) (hz : n ≤ 1000) (lx : scope.names.lookup x = some .local) (hcell : ∀ y ∈ scope.names, y.2 ≠ .cell) (hkind : scope.kind = .function) (hst : St 0 s.heap) (hlive : ∀ i h, St i h → ∃ o, h.get? I = some o)
    (F : Fr h₀ L s.heap m) (N : News h₀ L s.heap nw₀) (hI : ∀ p ∈ nw₀, p.1 < I) (hI0 : I ≠ L ∧ h₀.get? I = none) (hfp : ∀ b ∈ fp, b = I ∨ ∃ o, (b, o) ∈ fx) (hfx : ∀ i ys nw, J i ys nw → ∀ p ∈ fx, p ∈ nw) (hJ : J 0 [] nw₀) (hlen : ∀ i ys nw, J i ys nw → ys.length ≤ i)
    (turn : ∀ i v ys nw pre C oC h tk m' (E' Qt : Value → Shared → Prop) (Qf : Shared → Prop), i < n → P i v → J i ys nw → (C, oC) ∈ pre → NsObj oC m' → m' x = some v → Fr h₀ L h m → News h₀ L h (pre ++ nw) → (∀ p ∈ nw, ∀ q ∈ pre, p.1 ≠ q.1) → (∀ y s₄, Turned s h₀ L m pre (J (i + 1) (ys ++ [y])) s₄ → Qt y s₄) → (∀ s₃, Turned s h₀ L m pre (J (i + 1) ys) s₃ → Qf s₃) →
      wpAny (model prog w) A (testsOf ifs (compEnvC scope cl C env)) (fun b s₃ => if b = true then wpAny (model prog w) A (eval elt (compEnvC scope cl C env)) Qt E' s₃ else Qf s₃) E' { s with heap := h, toks := tk })
    (fin : ∀ R h tk ys nw, Fin ys nw → Fr h₀ L h (m₂ R) → News h₀ L h ((R, lst ys) :: nw) → (∀ p ∈ nw, p.1 ≠ R) → Qr R { s with heap := h, toks := tk }) :
    CompGo prog w A E env h₀ L m scope cl elt (.Name x px) iter ifs pos Fin m₂ Qr (.ref I) s := by
  refine ⟨fun RR hRR => comp_block (own := [I]) (fp := fp) (fx := fx) J (feeds_name W) (by rw [sizeLine_eq]; omega) (fun C => ⟨lookup_relabel_local lx, ?_⟩) hcell hkind hst (fun i h hh b hb => by rw [List.mem_singleton.mp hb]; exact hlive i h hh) F N (fun hm => hI0.1 (List.mem_singleton.mp hm).symm) (fun b hb => by rw [List.mem_singleton.mp hb]; exact hI0.2)
    (fun p hp hm => absurd (hI p hp) (by rw [List.mem_singleton.mp hm]; exact Nat.lt_irrefl _)) (fun b hb => (hfp b hb).imp (fun e => by rw [e]; exact List.Mem.head _) id) hfx hJ hlen ?_ (fun D C h tk m' ys nw a1 a2 a3 a4 a5 a6 a7 a8 a9 a10 hj => ?_), fin⟩
  · show ((relabel scope env).kind == .class || ((relabel scope env).kind == .module && _)) = false
    have : (relabel scope env).kind = .function := hkind
    rw [this]; rfl
  · rintro i ys nw pre C oC h tk m₁ m' E' Qt Qf hi hj ⟨v, hP, rfl⟩ hm hoC F4 N4 off
    exact turn i v ys nw pre C oC h tk _ E' Qt Qf hi hP hj hm hoC (if_pos rfl) F4 N4 off
  · obtain ⟨nw2, sub, hf⟩ := imp ys nw hj
    refine hRR D C h tk m' ys nw2 a1 (cb_drop a2 fun q hq => ?_) (fun q hq => a3 q (sub q hq)) a4 a5 a6 a7 a8 a9 (fun q hq => a10 q (sub q hq)) hf
    rcases List.mem_cons.mp hq with rfl | hq
    · exact List.Mem.head _
    · exact List.Mem.tail _ (sub q hq)
end
end Mine
end
section
open PySem PySem.W PySem.Calls PyProof.Rows PyProof.Rows.LCg
set_option Elab.async false
set_option maxRecDepth 100000
set_option maxHeartbeats 1000000
set_option linter.unusedVariables false
set_option pp.maxSteps 3000
set_option pp.deepTerms false
set_option pp.deepTerms.threshold 6
namespace Mine
theorem kf_canon {P} : nsIn (Mine.hd.heap_39 P) mainGlobals (Str.ofString "canonsort_keys") = some (some (.ref 35)) := by kernel_rfl
theorem kf_canon_k {P} : keepIn (Mine.hd.heap_39 P) (.ref 35) = true := by kernel_rfl
theorem nm8_up : ∀ x ∈ nm8, Txt.upper x = x := by decide +kernel
theorem nm8_short : ∀ x ∈ nm8, x.length ≤ 7 := by decide +kernel
theorem valueAt_has {D : List (Str × Value)} {k : Str} (h : k ∈ D.map (·.1)) (hn : (D.map (·.1)).Nodup) : ∃ v, valueAt D k = some v ∧ (k, v) ∈ D := by
  obtain ⟨q, hq, rfl⟩ := List.mem_map.mp h
  exact ⟨q.2, valueAt_of_mem hn hq, hq⟩
theorem PairsIs.len {nw : List (Addr × Obj)} {vs : List Value} {P : List (Str × Int)} (H : PairsIs nw vs P) : vs.length = P.length := by
  induction H with
  | nil => rfl
  | cons _ _ ih => rw [List.length_cons, List.length_cons, ih]
noncomputable def rowOf (D : List (Str × Value)) (k : Str) : Str × Int := (k, intV ((valueAt D k).getD .none))
section
variable {w : World} {p : Program} {loose : List Str} {mean : ExcName → Option Value} {mg mb : Str → Option Value} {dp un : Nat} {gd : Option (List Code)} {cn : Str} {cs : Scope} {a : Addr} {ccd : Value} {cl : List (Str × Addr)} {outer : List Env} {A₀ : Around} {base h₀ : Heap} {L : Addr} {m : Str → Option Value} {rest : List (Addr × Obj)} {s : Shared} {Q E : Value → Shared → Prop}
theorem canonItems_c {x dx : Addr} {es : List DictEntry} {ep : Nat} {D : List (Str × Value)} {ps : Array Value} {ordV : Value} {ord : List Str}
    (B : Below A₀ base outer h₀) (F : Fr h₀ L s.heap m) (X : (Mine.hd.heap_39 w.params).In h₀) (N : News h₀ L s.heap ((32, tabObj ps) :: rest)) (T : Top p loose mean mg mb h₀) (C : CodeHd h₀ 34 32) (hk : cs.kind = .function) (hd : dp + 20 < recursionLimit) (hu : un + 300 < cLine)
    (ht : TabOk ps rest) (h32 : ∀ q ∈ rest, q.1 ≠ 32) (hx : (x, cdObj dx es ep) ∈ rest) (hdx : (dx, dictOf [] 0) ∈ rest) (hxm : (x == sysModules) = false) (H : Ent PySem.Challenge.rw_be0018_01.row.prog w es D) (hD : AllInt D)
    (O : OrdIs rest ordV ord) (hn : ord.Nodup) (hz : ord.length < 60)
    (ret : ∀ R cnt ps' xs vs ts h' tk', ts.Perm ((D.map (·.1)).filter fun k => decide (k ∈ ord) == false) → sortedS ts = true → PairsIs (xs ++ rest) vs (((ord.filter fun k => decide (k ∈ D.map (·.1))) ++ ts).map (rowOf D)) → Fr h₀ L h' m → News h₀ L h' ((R, listOf (List.toArray vs) cnt) :: (32, tabObj ps') :: (xs ++ rest)) → TabOk ps' (xs ++ rest) →
      (∀ q ∈ xs, q.1 ≠ 32 ∧ ∀ r ∈ rest, r.1 < q.1) → (∀ q ∈ (32, tabObj ps') :: (xs ++ rest), q.1 ≠ R) → Q (.ref R) { s with heap := h', toks := tk' }) :
    wpAny (model PySem.Challenge.rw_be0018_01.row.prog w) (ktrTop dp un gd cn cs L a ccd cl outer) (call (.ref 41) [.ref x, ordV]) Q E s := by
  revert X
  k_fill
  intro X
  refine wpAny_call ?_
  refine' code_defC (K := Mine.hd.heap_39 w.params) B F X N T rfl rfl hk ?k6 ?k7 ?k8 ?k9 ?kB ?kD ?_ ?c2 ?c3 ?c4
  (case k6 => k_is)
  (case k7 => k_is)
  (case k8 => show dp < recursionLimit; omega)
  (case k9 => first | exact BindsTo.of_eq rfl | exact binds_K (by k_in) rfl (by k_is) rfl rfl rfl)
  (case kB => exact rfl)
  (case kD => decide +kernel)
  (case c2 => exact rfl)
  (case c3 => exact rfl)
  (case c4 => exact rfl)
  intro g L1 h1 tk1 cells FG F1 N1 Y B1 X1 T1 l1
  obtain ⟨o1, rfl, d1⟩ := CellsAre.one Y
  clear Y
  have d1 : o1.data = .cell (some (.ref x)) := d1
  generalize hm : bindL _ _ _ = m1 at F1
  have e2 : m1 (Str.ofString "canonical_order") = some ordV := by rw [← hm]; rfl
  clear hm
  have R1 := topRead_of T1
  have C1 : CodeHd g 34 32 := C.keeps FG.keep
  have hlen := H.len
  have hD8 := nm8_len hD H.nd
  show wpAny _ (ktrTop (dp + 1) (un + 3) gd _ _ L1 41 _ [(Str.ofString "dict1", L1 + 1)] (envX cn cs L a ccd cl :: outer)) _ _ _ _
  refine wpAny_execs_cons (wpAny_Return_some ?_)
  refine lc_J (hs := by intro _; rfl) (cl := [(Str.ofString "dict1", L1 + 1)]) (Fin := fun ys nw => ∃ ps' xs ts, nw = (32, tabObj ps') :: (xs ++ rest) ∧ ts.Perm ((D.map (·.1)).filter fun k => decide (k ∈ ord) == false) ∧ sortedS ts = true ∧ PairsIs (xs ++ rest) ys (((ord.filter fun k => decide (k ∈ D.map (·.1))) ++ ts).map (rowOf D)) ∧ TabOk ps' (xs ++ rest) ∧ (∀ q ∈ xs, q.1 ≠ 32 ∧ ∀ r ∈ rest, r.1 < q.1)) F1 rfl rfl (by decide) ?_
  refine Call_ (nameX_K F1 X1 R1 kf_canon ?_)
  have N1' : News g L1 h1 ((L1 + 1, o1) :: (32, tabObj ps) :: rest) := N1
  have up : ∀ q ∈ rest, q ∈ (L1 + 1, o1) :: (32, tabObj ps) :: rest := fun q hq => List.Mem.tail _ (List.Mem.tail _ hq)
  have nL : ∀ q ∈ (32, tabObj ps) :: rest, q.1 ≠ L1 + 1 := fun q hq => Nat.ne_of_lt (Nat.lt_succ_of_lt (l1 q hq))
  refine callWith_K X1 kf_canon_k (spliced_more (keys_of rfl (.cd (up _ hx) (up _ hdx)) hxm F1 N1' X1 (fun Q' hq => nameX_C N1' rfl (List.Mem.head _) d1 hq) fun v h2 F2 N2 l2 => spliced_more (nameX_L F2 e2 (spliced_none ⟨X1.keeps F2.keep, ?_⟩))))
  have hv32 : v ≠ 32 := Nat.ne_of_gt (l2 (32, tabObj ps) (List.Mem.tail _ (List.Mem.head _)))
  refine canon_c (ps := ps) (rest := (v, { cls := .type "dict_keys", data := .fields #[.ref x] }) :: (L1 + 1, o1) :: rest) B1 F2 X1 (cb_drop N2 ?_) T1 C1 rfl (by omega) (by omega) (ht.mono fun q hq => List.Mem.tail _ (List.Mem.tail _ hq)) ?_ (List.Mem.head _) (List.Mem.tail _ (List.Mem.tail _ hx)) H (O.mono fun q hq => List.Mem.tail _ (List.Mem.tail _ hq)) hn hz (by omega) ?_
  · intro q hq
    rcases List.mem_cons.mp hq with rfl | hq
    · exact List.Mem.tail _ (List.Mem.tail _ (List.Mem.head _))
    rcases List.mem_cons.mp hq with rfl | hq
    · exact List.Mem.head _
    rcases List.mem_cons.mp hq with rfl | hq
    · exact List.Mem.tail _ (List.Mem.head _)
    · exact List.Mem.tail _ (List.Mem.tail _ (List.Mem.tail _ hq))
  · intro q hq
    rcases List.mem_cons.mp hq with rfl | hq
    · exact hv32
    rcases List.mem_cons.mp hq with rfl | hq
    · exact Nat.ne_of_gt (Nat.lt_succ_of_lt (l1 (32, tabObj ps) (List.Mem.head _)))
    · exact h32 q hq
  intro Rk ck ps' xs vs ts h3 tk3 hperm hsrt hS F3 N3 ht3 lx lR l32
  have lR' : ∀ q ∈ (L1 + 1, o1) :: (32, tabObj ps') :: (xs ++ rest), q.1 < Rk := fun q hq => by
    rcases List.mem_cons.mp hq with rfl | hq
    · exact lR _ (List.mem_append_right _ (List.Mem.tail _ (List.Mem.head _)))
    rcases List.mem_cons.mp hq with rfl | hq
    · exact l32
    rcases List.mem_append.mp hq with hq | hq
    · exact lR _ (List.mem_append_left _ hq)
    · exact lR _ (List.mem_append_right _ (List.Mem.tail _ (List.Mem.tail _ hq)))
  generalize hSS : (ord.filter fun k => decide (k ∈ D.map (·.1))) ++ ts = SS at hS
  have hmemD : ∀ k ∈ SS, k ∈ D.map (·.1) := fun k hk => by
    rw [← hSS] at hk
    rcases List.mem_append.mp hk with hk | hk
    · simpa using (List.mem_filter.mp hk).2
    · exact (List.mem_filter.mp (hperm.mem_iff.mp hk)).1
  have hSl : vs.length ≤ 200 := by
    have h1 := StrsAre.len hS
    have h2 : (ord.filter fun k => decide (k ∈ D.map (·.1))).length ≤ ord.length := List.length_filter_le _ _
    have h3 := hperm.length_eq
    have h4 : ((D.map (·.1)).filter fun k => decide (k ∈ ord) == false).length ≤ (D.map (·.1)).length := List.length_filter_le _ _
    rw [List.length_map] at h4
    rw [h1, ← hSS, List.length_append, h3]
    omega
  have N4 : News g L1 h3 ((Rk, listOf vs.toArray ck) :: (L1 + 1, o1) :: (32, tabObj ps') :: (xs ++ rest)) := cb_drop N3 fun q hq => by
    rcases List.mem_cons.mp hq with rfl | hq
    · exact List.Mem.head _
    rcases List.mem_cons.mp hq with rfl | hq
    · exact List.Mem.tail _ (List.Mem.tail _ (List.mem_append_right _ (List.Mem.tail _ (List.Mem.head _))))
    rcases List.mem_cons.mp hq with rfl | hq
    · exact List.Mem.tail _ (List.Mem.head _)
    rcases List.mem_append.mp hq with hq | hq
    · exact List.Mem.tail _ (List.Mem.tail _ (List.mem_append_left _ hq))
    · exact List.Mem.tail _ (List.Mem.tail _ (List.mem_append_right _ (List.Mem.tail _ (List.Mem.tail _ hq))))
  refine iter_list_ (s := { s with heap := h3, toks := tk3 }) F3 N4 (List.Mem.head _) fun I h4 hI hIl F5 N5 lI fI => ?_
  dsimp only
  refine blk_walk (s := { s with heap := h4, toks := tk3 }) (fp := [I, Rk]) (fx := [(Rk, listOf vs.toArray ck)]) (nw₀ := (Rk, listOf vs.toArray ck) :: (L1 + 1, o1) :: (32, tabObj ps') :: (xs ++ rest)) (n := vs.toArray.size)
    (fun i ys nw => ∃ ts2, nw = ts2 ++ ((Rk, listOf vs.toArray ck) :: (L1 + 1, o1) :: (32, tabObj ps') :: (xs ++ rest)) ∧ PairsIs ts2 ys ((SS.take i).map (rowOf D)) ∧ ∀ q ∈ ts2, Rk < q.1) _ ?_
    (Walks.list rfl I Rk (Nat.ne_of_lt (lI _ (List.Mem.head _))) vs.toArray) (by rw [List.size_toArray]; omega) ?_ ?_ ?_ ⟨hI, hIl⟩ (fun i h hh => let ⟨⟨o, e, _⟩, _⟩ := hh; ⟨o, e⟩) F5 N5 lI fI ?_ ?_ ⟨[], rfl, .nil, fun q hq => nomatch hq⟩ ?_ ?_ ?_
  · rintro ys nw ⟨ts2, rfl, hp, l2⟩
    refine ⟨(32, tabObj ps') :: ((ts2 ++ xs) ++ rest), fun q hq => ?_, ps', ts2 ++ xs, ts, rfl, hperm, hsrt, ?_, ?_, ?_⟩
    · rcases List.mem_cons.mp hq with rfl | hq
      · exact List.mem_append_right _ (List.Mem.tail _ (List.Mem.tail _ (List.Mem.head _)))
      rcases List.mem_append.mp hq with hq | hq
      · rcases List.mem_append.mp hq with hq | hq
        · exact List.mem_append_left _ hq
        · exact List.mem_append_right _ (List.Mem.tail _ (List.Mem.tail _ (List.Mem.tail _ (List.mem_append_left _ hq))))
      · exact List.mem_append_right _ (List.Mem.tail _ (List.Mem.tail _ (List.Mem.tail _ (List.mem_append_right _ hq))))
    · rw [hSS]
      rw [List.take_of_length_le (by rw [List.size_toArray, StrsAre.len hS]; exact Nat.le_refl _)] at hp
      exact hp.mono fun q hq => List.mem_append_left _ (List.mem_append_left _ hq)
    · refine ht3.drop fun q hq => ?_
      rcases List.mem_append.mp hq with hq | hq
      · exact .inl (List.mem_append_left _ (List.mem_append_right _ hq))
      rcases List.mem_cons.mp hq with rfl | hq
      · exact .inr (fun vs t e => by cases e; intro e2; cases e2)
      rcases List.mem_cons.mp hq with rfl | hq
      · exact .inr (fun vs t e => by rw [d1] at e; cases e)
      · exact .inl (List.mem_append_right _ hq)
    · intro q hq
      rcases List.mem_append.mp hq with hq | hq
      · refine ⟨Nat.ne_of_gt (Nat.lt_trans l32 (l2 q hq)), fun r hr => Nat.lt_trans (lR' r (List.Mem.tail _ (List.Mem.tail _ (List.mem_append_right _ hr)))) (l2 q hq)⟩
      · exact ⟨(lx q hq).1, fun r hr => (lx q hq).2 r (List.Mem.tail _ (List.Mem.tail _ hr))⟩
  · rfl
  · decide
  · rfl
  · intro b hb
    rcases List.mem_cons.mp hb with rfl | hb
    · exact .inl rfl
    · rw [List.mem_singleton.mp hb]; exact .inr ⟨_, List.Mem.head _⟩
  · rintro i ys nw ⟨ts2, rfl, _, _⟩ q hq
    rw [List.mem_singleton.mp hq]
    exact List.mem_append_right _ (List.Mem.head _)
  · rintro i ys nw ⟨ts2, rfl, hp, _⟩
    rw [hp.len, List.length_map, List.length_take]; exact Nat.min_le_left _ _
  · rintro i v' ys nw pre C oC h tk m' E' Qt Qf hi hP ⟨ts2, rfl, hp, l2⟩ hC hoC hmx F6 N6 off hQt hQf
    rw [List.getElem?_toArray] at hP
    obtain ⟨k, kt, rfl, hkk⟩ := strs_at hS hP
    have hkD := hmemD k (List.mem_of_getElem? hkk)
    obtain ⟨u, hu', hmem⟩ := valueAt_has hkD H.nd
    obtain ⟨hk8, ui, ut, hui⟩ := hD _ hmem
    have hui : u = .int ui ut := hui
    subst hui
    have hk8 : k ∈ nm8 := hk8
    have upx : ∀ q ∈ rest, q ∈ pre ++ (ts2 ++ ((Rk, listOf vs.toArray ck) :: (L1 + 1, o1) :: (32, tabObj ps') :: (xs ++ rest))) := fun q hq => List.mem_append_right _ (List.mem_append_right _ (List.Mem.tail _ (List.Mem.tail _ (List.Mem.tail _ (List.mem_append_right _ hq)))))
    have hcell : (L1 + 1, o1) ∈ pre ++ (ts2 ++ ((Rk, listOf vs.toArray ck) :: (L1 + 1, o1) :: (32, tabObj ps') :: (xs ++ rest))) := List.mem_append_right _ (List.mem_append_right _ (List.Mem.tail _ (List.Mem.head _)))
    refine wpAny_tests_nil ?_
    refine Tuple_ (spliced_more (LCgL.ld_own (s := { s with heap := h, toks := tk }) N6 (List.mem_append_left _ hC) hoC hmx ?_ rfl rfl (by decide)))
    refine spliced_more (Subscript_ (ld_cellC (s := { s with heap := h, toks := tk }) N6 rfl hcell d1 (LCgL.ld_own (s := { s with heap := h, toks := tk }) N6 (List.mem_append_left _ hC) hoC hmx ?_ rfl rfl (by decide)) rfl rfl (by decide)))
    refine sub_K (f := 65) F6 X1 (inst_cd N6 (upx _ hx) (upx _ hdx)) kf_get kf_get_fi kf_get_fn ?_
    have hup := nm8_up k hk8
    have hsh := nm8_short k hk8
    show wpAny _ (ktrTop (dp + 1) (un + 4) gd _ _ L1 41 _ [(Str.ofString "dict1", L1 + 1)] (envX cn cs L a ccd cl :: outer)) _ _ _ _
    refine getitem_c (s := { s with heap := h, toks := tk }) B1 F6 X1 N6 T1 rfl (by omega) (by omega) (upx _ hx) (upx _ hdx) H hxm (k := k) .str (by omega) (fun u' h7 tk7 hv7 F7 N7 => ?_) (fun hnone => by rw [hup, hu'] at hnone; cases hnone)
    rw [hup, hu'] at hv7
    obtain rfl := Option.some.inj hv7
    refine spliced_none (newTuple_N (s := { s with heap := h7, toks := tk7 }) F7 N7 (fun h8 F8 N8 => ?_) (by rw [sizeLine_eq]; exact (by decide : 2 ≤ 16777216)))
    have la : ∀ q ∈ pre ++ (ts2 ++ ((Rk, listOf vs.toArray ck) :: (L1 + 1, o1) :: (32, tabObj ps') :: (xs ++ rest))), q.1 < h7.objs.size := fun q hq => Heap.lt_size (N7 q hq).1
    generalize h7.objs.size = at' at N8 la ⊢
    refine hQt _ _ (.mk (nw' := (at', { cls := .type "tuple", data := .seq #[.str k kt, .int ui ut] }) :: (ts2 ++ ((Rk, listOf vs.toArray ck) :: (L1 + 1, o1) :: (32, tabObj ps') :: (xs ++ rest)))) F8 (cb_drop N8 fun q hq => ?_) (fun q hq r hr => ?_) ⟨_ :: ts2, rfl, ?_, ?_⟩)
    · rcases List.mem_append.mp hq with hq | hq
      · exact List.Mem.tail _ (List.mem_append_left _ hq)
      rcases List.mem_cons.mp hq with rfl | hq
      · exact List.Mem.head _
      · exact List.Mem.tail _ (List.mem_append_right _ hq)
    · rcases List.mem_cons.mp hq with rfl | hq
      · exact Nat.ne_of_gt (la r (List.mem_append_left _ hr))
      · exact off q hq r hr
    · rw [List.take_add_one, hkk, Option.toList_some, List.map_append, List.map_singleton]
      have er : rowOf D k = (k, ui) := by rw [rowOf, hu']; rfl
      rw [er]
      exact PairsIs.snoc (hp.mono fun q hq => List.Mem.tail _ hq) (t := kt) (u := ut) (List.Mem.head _)
    · intro q hq
      rcases List.mem_cons.mp hq with rfl | hq
      · exact la (Rk, _) (List.mem_append_right _ (List.mem_append_right _ (List.Mem.head _)))
      · exact l2 q hq
  · rintro R h tk ys nw ⟨ps'', xs'', ts'', rfl, q1, q2, q3, q4, q5⟩ F6 N6 off
    refine leaveK_ F6 N6 fun kF kN => ?_
    exact ret R _ ps'' xs'' ys ts'' _ _ q1 q2 q3 kF kN q4 q5 off
end
end Mine
end
section
open PySem PySem.W PySem.Calls PyProof.Rows PyProof.Rows.LCg
set_option Elab.async false
set_option maxRecDepth 100000
set_option maxHeartbeats 1000000
set_option linter.unusedVariables false
set_option pp.maxSteps 3000
set_option pp.deepTerms false
set_option pp.deepTerms.threshold 6
namespace Mine
theorem kf_order {P} : findObj (Mine.hd.heap_39 P) 170 (some (dictOf [] 0)) (Str.ofString "canonical_order") = some (.value .none) := by kernel_rfl
section
variable {prog : Program} {w : World} {A : Around} {E : Value → Shared → Prop} {h : Heap} {g : Array GenState} {d : Drawn} {t : Nat} {os : OsState} {x C : Addr} {ox : Obj} {odx : Option Obj} {K : Frag} {name : Str} {v : Value}
theorem ga_val_cd {tk : Tok} {Q : Fin → Shared → Prop} (X : K.In h) (I : PySem.W.InstAt h x ox C odx) (hf : findObj K C odx name = some (.value v))
    (hq : Q (.done (.ret v)) ⟨h, g, d, t, os⟩) :
    wpAny (model prog w) A (Builtin.«object.__getattribute__» ⟨[.ref x, .str name tk], []⟩) Q E ⟨h, g, d, t, os⟩ := by
  have L0 := I.type (M := model prog w)
  have L1 := looks_find (M := model prog w) X I hf
  unfold Builtin.«object.__getattribute__»
  repeat (any_goals (first | assumption | (with_reducible refine Looks.at L0 ?_) | (with_reducible refine Looks.at L1 ?_) | wp_step))
theorem gab_val_cd {e b : Bool} {tk : Tok} {Q : Value → Shared → Prop} (X : K.In h) (I : PySem.W.InstAt h x ox C odx) (hga : findIn K (.ref C) "__getattribute__" = some (some (.builtin "dict.__getattribute__"))) (hk : findIn K (.ref C) "__getattr__" = some none) (hd : subIn K (.ref C) (.type "dict") = some true)
    (hf : findObj K C odx name = some (.value v)) (hv : handedIn v = true)
    (hq : Q v ⟨h, g, d, t, os⟩) :
    wpAny (model prog w) A (getAttrBy (.ref x) (.str name tk) b e) Q E ⟨h, g, d, t, os⟩ := by
  have L0 := I.type (M := model prog w)
  have L1 := looks_findIn (M := model prog w) X hga
  have L3 := looks_findIn (M := model prog w) X hk
  have f3 := F.slot_dict_getattribute.bind (.ref x)
  unfold getAttrBy
  refine wpAny_holding (wpAny_bind (L0.at (wpAny_bind (L1.at ?_))))
  unfold getAttrByItsOwn
  refine wpAny_bind (show wpAny _ _ (hookBefore (.ref C)) _ _ _ from L3.at ?_)
  refine wpAny_bind (wpAny_attempt (wpAny_holding ?_))
  show wpAny _ _ (callGetattribute (.ref x) (.str name tk) (.builtin "dict.__getattribute__") e) _ _ _
  unfold callGetattribute
  rw [if_neg (by cases e <;> decide)]
  unfold boundAndCalled
  refine wpAny_bind (wpAny_of_eq f3 ?_)
  refine call_cd (s := ⟨h, g, d, t, os⟩) (id := "dict.__getattribute__") (rest := [.str name tk]) X I hd (.inl ga_kind) ga_split (F.args_dict_getattribute_2 _ _) F.slot_dict_getattribute.plain F.entry_dict_ga ?_
  exact ga_val_cd X I hf ⟨_, rfl, handed_on hv hq⟩
end
theorem getAttr_val {prog : Program} {w : World} {A : Around} {E : Value → Shared → Prop} {s : Shared} {K : Frag} {x C : Addr} {ox : Obj} {odx : Option Obj} {name : Str} {v : Value} {e : Bool} {Q : Value → Shared → Prop} (X : K.In s.heap) (I : PySem.W.InstAt s.heap x ox C odx) (hga : findIn K (.ref C) "__getattribute__" = some (some (.builtin "dict.__getattribute__"))) (hk : findIn K (.ref C) "__getattr__" = some none) (hd : subIn K (.ref C) (.type "dict") = some true)
    (hf : findObj K C odx name = some (.value v)) (hv : handedIn v = true) (h : Q v { s with toks := s.toks + 1 }) :
    wpAny (model prog w) A (getAttr (.ref x) name e) Q E s := by
  obtain ⟨hh, g, d, t, os⟩ := s
  unfold getAttr
  refine wpAny_bind (wpAny_mkText ?_)
  exact gab_val_cd X I hga hk hd hf hv h
section
variable {w : World} {p : Program} {loose : List Str} {mean : ExcName → Option Value} {mg mb : Str → Option Value} {dp un : Nat} {gd : Option (List Code)} {cn : Str} {cs : Scope} {a : Addr} {ccd : Value} {cl : List (Str × Addr)} {outer : List Env} {A₀ : Around} {base h₀ : Heap} {L : Addr} {m : Str → Option Value} {rest : List (Addr × Obj)} {s : Shared} {Q E : Value → Shared → Prop}
theorem sortedKeys_c {x dx : Addr} {es : List DictEntry} {ep : Nat} {D : List (Str × Value)} {ps : Array Value}
    (B : Below A₀ base outer h₀) (F : Fr h₀ L s.heap m) (X : (Mine.hd.heap_39 w.params).In h₀) (N : News h₀ L s.heap ((32, tabObj ps) :: rest)) (T : Top p loose mean mg mb h₀) (C : CodeHd h₀ 34 32) (hk : cs.kind = .function) (hd : dp + 20 < recursionLimit) (hu : un + 300 < cLine)
    (ht : TabOk ps rest) (h32 : ∀ q ∈ rest, q.1 ≠ 32) (hx : (x, cdObj dx es ep) ∈ rest) (hdx : (dx, dictOf [] 0) ∈ rest) (hxm : (x == sysModules) = false) (H : Ent PySem.Challenge.rw_be0018_01.row.prog w es D) (hzD : D.length < 60)
    (ret : ∀ R cnt ps' xs vs ts h' tk', ts.Perm (D.map (·.1)) → sortedS ts = true → StrsAre vs ts → Fr h₀ L h' m → News h₀ L h' ((R, listOf (List.toArray vs) cnt) :: (32, tabObj ps') :: (xs ++ rest)) → TabOk ps' (xs ++ rest) →
      (∀ q ∈ xs, q.1 ≠ 32 ∧ ∀ r ∈ rest, r.1 < q.1) → (∀ q ∈ xs ++ rest, q.1 < R) → 32 < R → Q (.ref R) { s with heap := h', toks := tk' }) :
    wpAny (model PySem.Challenge.rw_be0018_01.row.prog w) (ktrTop dp un gd cn cs L a ccd cl outer) (call (.ref 160) [.ref x]) Q E s := by
  revert X
  k_fill
  intro X
  refine wpAny_call ?_
  refine' code_def (K := Mine.hd.heap_39 w.params) B F X N T rfl rfl hk ?k6 ?k7 ?k8 ?k9 ?kB ?_ ?c2 ?c3 ?c4 ?c5
  (case k6 => k_is)
  (case k7 => k_is)
  (case k8 => show dp < recursionLimit; omega)
  (case k9 => first | exact BindsTo.of_eq rfl | exact binds_K (by k_in) rfl (by k_is) rfl rfl rfl)
  (case kB => exact locs rfl)
  (case c2 => exact rfl)
  (case c3 => exact rfl)
  (case c4 => exact rfl)
  (case c5 => decide)
  intro g L1 h1 FG F1 N1 B1 X1 T1
  generalize hbs : (List.filterMap (fun n => Option.map _ _) _ : List (Str × Value)).reverse = bs at F1
  have e1 : List.lookup (Str.ofString "self") bs = some (.ref x) := by rw [← hbs]; rfl
  clear hbs
  have R1 := topRead_of T1
  have C1 : CodeHd g 34 32 := C.keeps FG.keep
  show wpAny _ (ktrTop (dp + 1) (un + 3) gd _ _ L1 160 _ [] (envX cn cs L a ccd cl :: outer)) _ _ _ _
  refine wpAny_noRaise (gen_q fun Q' hQ => ?_)
  refine wpAny_execs_cons (wpAny_Return_some (Call_ (nameX_K F1 X1 R1 kf_canon ?_)))
  have up : ∀ q ∈ rest, q ∈ (32, tabObj ps) :: rest := fun q hq => List.Mem.tail _ hq
  refine callWith_K X1 kf_canon_k (spliced_more (keys_of rfl (.cd (up _ hx) (up _ hdx)) hxm F1 N1 X1 (fun Q' hq => nameX_L F1 e1 hq) fun v h2 F2 N2 l2 => spliced_more (Attribute_name (nameX_L F2 e1 ?_))))
  refine getAttr_val (X1.keeps F2.keep) (inst_cd N2 (List.Mem.tail _ (up _ hx)) (List.Mem.tail _ (up _ hdx))) kf_ga kf_hook kf_dict kf_order rfl ?_
  refine spliced_none ⟨X1.keeps F2.keep, ?_⟩
  have hv32 : v ≠ 32 := Nat.ne_of_gt (l2 (32, tabObj ps) (List.Mem.head _))
  refine canon_c (ps := ps) (ord := []) (rest := (v, { cls := .type "dict_keys", data := .fields #[.ref x] }) :: rest) B1 F2 X1 (cb_drop N2 ?_) T1 C1 rfl (by omega) (by omega) (ht.mono fun q hq => List.Mem.tail _ hq) ?_ (List.Mem.head _) (List.Mem.tail _ hx) H .none List.nodup_nil (by decide) hzD ?_
  · intro q hq
    rcases List.mem_cons.mp hq with rfl | hq
    · exact List.Mem.tail _ (List.Mem.head _)
    rcases List.mem_cons.mp hq with rfl | hq
    · exact List.Mem.head _
    · exact List.Mem.tail _ (List.Mem.tail _ hq)
  · intro q hq
    rcases List.mem_cons.mp hq with rfl | hq
    · exact hv32
    · exact h32 q hq
  intro Rk ck ps' xs vs ts h3 tk3 hperm hsrt hS F3 N3 ht3 lx lR l32
  refine hQ (.ret _) _ (leaveK_ F3 N3 fun kF kN => ?_)
  refine ret Rk ck ps' xs vs ts _ _ ?_ hsrt (by simpa using hS) kF (cb_drop kN fun q hq => ?_) (ht3.drop fun q hq => ?_) (fun q hq => ⟨(lx q hq).1, fun r hr => (lx q hq).2 r (List.Mem.tail _ hr)⟩) (fun q hq => lR q ?_) l32
  · have e : (D.map (·.1)).filter (fun k => decide (k ∈ ([] : List Str)) == false) = D.map (·.1) := List.filter_eq_self.mpr (by intro k _; simp)
    rw [e] at hperm
    exact hperm
  · rcases List.mem_cons.mp hq with rfl | hq
    · exact List.Mem.head _
    rcases List.mem_cons.mp hq with rfl | hq
    · exact List.Mem.tail _ (List.Mem.head _)
    rcases List.mem_append.mp hq with hq | hq
    · exact List.Mem.tail _ (List.Mem.tail _ (List.mem_append_left _ hq))
    · exact List.Mem.tail _ (List.Mem.tail _ (List.mem_append_right _ (List.Mem.tail _ hq)))
  · rcases List.mem_append.mp hq with hq | hq
    · exact .inl (List.mem_append_left _ hq)
    rcases List.mem_cons.mp hq with rfl | hq
    · exact .inr (fun vs t e => by cases e; intro e2; cases e2)
    · exact .inl (List.mem_append_right _ hq)
  · rcases List.mem_append.mp hq with hq | hq
    · exact List.mem_append_left _ hq
    · exact List.mem_append_right _ (List.Mem.tail _ hq)
end
end Mine
end
section
open PySem PySem.W PySem.Calls PyProof.Rows PyProof.Rows.LCg
set_option Elab.async false
set_option maxRecDepth 100000
set_option maxHeartbeats 1000000
set_option linter.unusedVariables false
set_option pp.maxSteps 3000
set_option pp.deepTerms false
set_option pp.deepTerms.threshold 6
namespace Mine
noncomputable def stScope (d : Scope) (x : Stmt) : Scope := Stmt.casesOn x (fun _ _ _ _ _ _ s _ _ _ => s) (fun _ _ _ _ _ _ _ _ _ _ => d) (fun _ _ _ _ _ _ _ _ _ _ _ => d) (fun _ _ => d) (fun _ _ => d) (fun _ _ _ => d) (fun _ _ _ _ _ _ _ => d) (fun _ _ _ _ => d) (fun _ _ _ _ _ => d) (fun _ _ _ _ _ => d) (fun _ _ _ _ _ => d) (fun _ _ _ _ => d) (fun _ _ _ _ => d) (fun _ _ _ => d) (fun _ _ _ => d) (fun _ _ _ => d) (fun _ _ _ => d) (fun _ _ _ _ _ => d) (fun _ _ _ _ _ => d) (fun _ _ _ => d) (fun _ _ => d) (fun _ _ _ _ => d) (fun _ _ => d) (fun _ _ => d) (fun _ _ => d) (fun _ => d) (fun _ => d) (fun _ => d)
noncomputable def lawBody : List Stmt := stBody (stAt PySem.Challenge.pw_be0018_01.main.body 11)
noncomputable def lawScope : Scope := stScope { kind := .function, names := [], isGenerator := false, isCoroutine := false, more := [] } (stAt PySem.Challenge.pw_be0018_01.main.body 11)
noncomputable abbrev lawCells (c1 c2 c3 : Addr) : List (Str × Addr) := [(Str.ofString "order", c3), (Str.ofString "due", c2), (Str.ofString "numbers", c1)]
noncomputable abbrev lawEnv (L a : Addr) (ccd : Value) (c1 c2 c3 : Addr) : Env := envX (Str.ofString "law") lawScope L a ccd (lawCells c1 c2 c3)
noncomputable abbrev lawTop (dp un : Nat) (gd : Option (List Code)) (L a : Addr) (ccd : Value) (c1 c2 c3 : Addr) : Around := ktrTop dp un gd (Str.ofString "law") lawScope L a ccd (lawCells c1 c2 c3) []
theorem ns_abs {P} : nsIn (Mine.hd.heap_39 P) mainGlobals (Str.ofString "abs") = some none := by kernel_rfl
theorem bb_abs : bootBuiltins (Str.ofString "abs") = some (.builtin "abs") := by decide +kernel
theorem ns_range {P} : nsIn (Mine.hd.heap_39 P) mainGlobals (Str.ofString "range") = some none := by kernel_rfl
theorem bb_range : bootBuiltins (Str.ofString "range") = some (.type "range") := by decide +kernel
theorem ns_len {P} : nsIn (Mine.hd.heap_39 P) mainGlobals (Str.ofString "len") = some none := by kernel_rfl
theorem bb_len : bootBuiltins (Str.ofString "len") = some (.builtin "len") := by decide +kernel
theorem ns_min {P} : nsIn (Mine.hd.heap_39 P) mainGlobals (Str.ofString "min") = some none := by kernel_rfl
theorem bb_min : bootBuiltins (Str.ofString "min") = some (.builtin "min") := by decide +kernel
section
variable {prog : Program} {w : World} {A : Around} {E : Value → Shared → Prop} {s : Shared} {h₀ : Heap} {L : Addr} {m : Str → Option Value} {news : List (Addr × Obj)}
/-- range(n), and its iterator -/
theorem iter_range_N {n : Int} {t : Tok} {Q : Value → Shared → Prop} (F : Fr h₀ L s.heap m) (N : News h₀ L s.heap news) (hn : 0 ≤ n) (hz : n ≤ 1000)
    (h : ∀ I h' tk, IsRangeIter h' I 0 n.toNat 1 → Fr h₀ L h' m → News h₀ L h' news → (∀ p ∈ news, p.1 < I) → (I ≠ L ∧ h₀.get? I = none) → Q (.ref I) { s with heap := h', toks := tk }) :
    wpAny (model prog w) A (call (.type "range") [.int n t]) (fun x s₁ => wpAny (model prog w) A (pyIter x) Q E s₁) E s := by
  refine call_range_1 ?_
  have hr := IsRange.new s.heap 0 n 1 s.toks t (s.toks + 1)
  have e : Builtin.Range.rangeSize 0 n 1 = n.toNat := by
    unfold Builtin.Range.rangeSize
    rw [if_pos (by decide)]
    by_cases h0 : 0 < n
    · rw [if_pos h0, Int.ediv_one]; omega
    · rw [if_neg h0]; omega
  refine wpAny_pyIter_range hr ?_ ?_
  · have f : ∀ i : Int, 0 ≤ i → i ≤ 1000 → Builtin.Range.rangeFitsLong i = true := by
      intro i h1 h2
      unfold Builtin.Range.rangeFitsLong
      rw [Bool.and_eq_true]
      exact ⟨decide_eq_true (by omega), decide_eq_true (by omega)⟩
    unfold Builtin.Range.small
    rw [e, f 0 (by decide) (by decide), f n hn hz, f 1 (by decide) (by decide), f (n.toNat : Int) (by omega) (by omega), if_pos (by decide), f (n + (1 - 1)) (by omega) (by omega), Bool.or_true]
    rfl
  · rw [e]
    dsimp only
    obtain ⟨F1, N1⟩ := keepsFN F N (fun b o e => Heap.get?_push_of_some { cls := .type "range", data := .fields #[.int 0 s.toks, .int n t, .int 1 (s.toks + 1)] } e)
    obtain ⟨F2, N2⟩ := keepsFN F1 N1 (fun b o e => Heap.get?_push_of_some { cls := .type "range_iterator", data := .fields #[rawInt 0, rawInt n.toNat, rawInt 1] } e)
    exact h _ _ _ (Heap.get?_push_size _ rfl) F2 N2 (fun p hp => Heap.lt_size (N1 p hp).1) (kdx_fresh F1 (Nat.le_refl _))
/-- a place of a list of ints -/
theorem int_item {value slice : Expr} {l : Addr} {vs : List Value} {ns : List Int} {cnt : Nat} {k : Int} {u : Tok} {Q : Value → Shared → Prop} (N : News h₀ L s.heap news) (hl : (l, listOf (List.toArray vs) cnt) ∈ news) (hi : IntsAre vs ns) (h0 : 0 ≤ k) (hk : k < ns.length) (hz : ns.length ≤ 1000)
    (h : ∀ t, Q (.int (ns.getD k.toNat 0) t) s) (hs : subscripted slice false (.ref l) (.int k u) = operate [.ref l, .int k u] (getItem (.ref l) (.int k u))) :
    wpAny (model prog w) A (subscriptTail value slice (.ref l) (.int k u)) Q E s := by
  have hlen := hi.length
  have hlt : k.toNat < vs.length := by omega
  obtain ⟨t, ht⟩ := IntsAre.int_at hi k.toNat vs[k.toNat] (List.getElem?_eq_getElem hlt)
  refine Mine.item_list N hl h0 (by omega) (v := .int (ns.getD k.toNat 0) t) (by rw [List.getElem?_eq_getElem hlt, ht]) (h t) hs
theorem len_N {l : Addr} {vs : List Value} {cnt : Nat} {Q : Value → Shared → Prop} (N : News h₀ L s.heap news) (hl : (l, listOf (List.toArray vs) cnt) ∈ news) (hz : vs.length ≤ 1000) (h : ∀ t tk, Q (.int vs.length t) { s with toks := tk }) :
    wpAny (model prog w) A (call (.builtin "len") [.ref l]) Q E s := by
  refine call_len_list (items := vs.toArray) ⟨_, (N _ hl).1, rfl, _, rfl⟩ (by rw [List.size_toArray]; omega) ?_
  rw [List.size_toArray]
  exact h _ _
end
end Mine
end
section
open PySem PySem.W PySem.Calls PyProof.Rows PyProof.Rows.LCg
set_option Elab.async false
set_option maxRecDepth 100000
set_option maxHeartbeats 1000000
set_option linter.unusedVariables false
set_option pp.maxSteps 3000
set_option pp.deepTerms false
set_option pp.deepTerms.threshold 6
namespace Mine
noncomputable def absI (a : Int) : Int := if a < 0 then -a else a
theorem absI_nn (a : Int) : 0 ≤ absI a := by unfold absI; split <;> omega
noncomputable def lawNums (sn : List Int) : List Int := (sn ++ [2, 9, 18, 27, 300, 45]).map absI
theorem lawNums_nn (sn : List Int) : ∀ x ∈ lawNums sn, 0 ≤ x := by
  intro x hx
  obtain ⟨a, _, rfl⟩ := List.mem_map.mp hx
  exact absI_nn a
theorem lawNums_len (sn : List Int) : (lawNums sn).length = sn.length + 6 := by simp [lawNums]
theorem ints_app {vs us : List Value} {ns ms : List Int} (H : IntsAre vs ns) (H2 : IntsAre us ms) : IntsAre (vs ++ us) (ns ++ ms) := by
  induction H with
  | nil => exact H2
  | cons n t _ ih => exact .cons n t ih
section
variable {w : World} {p : Program} {loose : List Str} {mean : ExcName → Option Value} {mg mb : Str → Option Value} {dp un : Nat} {gd : Option (List Code)} {a : Addr} {ccd : Value} {A₀ : Around} {base h₀ : Heap} {L c1 c2 c3 : Addr} {m : Str → Option Value} {news : List (Addr × Obj)} {s : Shared} {Q : Flow → Shared → Prop} {E : Value → Shared → Prop}
theorem stage0 {ls : Addr} {sv : List Value} {sn : List Int} {o1 : Obj} {g : Obj → List (Addr × Obj)} (F : Fr h₀ L s.heap m) (X : (Mine.hd.heap_39 w.params).In h₀) (N : News h₀ L s.heap news) (T : Top p loose mean mg mb h₀)
    (ms : m (Str.ofString "script") = some (.ref ls)) (hl : h₀.IsList ls sv.toArray) (hi : IntsAre sv sn) (hz : sn.length ≤ 63) (U : UpdF c1 o1 news g) (hd1 : o1.data = .cell .none)
    (ret : ∀ Ln nvs cnt o1' h' tk', IntsAre nvs (lawNums sn) → o1'.data = .cell (some (.ref Ln)) → Fr h₀ L h' m → News h₀ L h' ((Ln, listOf (List.toArray nvs) cnt) :: g o1') → (∀ q ∈ news, q.1 ≠ Ln) → Q .next { s with heap := h', toks := tk' }) :
    wpAny (model PySem.Challenge.rw_be0018_01.row.prog w) (lawTop dp un gd L a ccd c1 c2 c3) (exec (stAt lawBody 0) (lawEnv L a ccd c1 c2 c3)) Q E s := by
  have R1 := topRead_of T
  have hlen := hi.length
  refine wpAny_Assign_Name (lc_J (hs := by intro _; rfl) (cl := []) (Fin := fun ys nw => nw = news ∧ IntsAre ys (lawNums sn)) F rfl rfl (by decide) ?_)
  refine wpAny_BinOp (nameX_L F ms (List_ (spliced_more (wpAny_Constant_int (spliced_more (wpAny_Constant_int (spliced_more (wpAny_Constant_int (spliced_more (wpAny_Constant_int (spliced_more (wpAny_Constant_int (spliced_more (wpAny_Constant_int (spliced_none (newList_N F N (fun h1 F1 N1 => ?_) (by rw [sizeLine_eq]; exact (by decide : 6 ≤ 16777216))))))))))))))))))
  dsimp only at N1
  generalize hT2 : (s.toks : Nat) = t0
  generalize hl6 : ([Value.int 2 _, _, _, _, _, _] : List Value) = six at N1
  have h6 : IntsAre six [2, 9, 18, 27, 300, 45] := by rw [← hl6]; exact .cons _ _ (.cons _ _ (.cons _ _ (.cons _ _ (.cons _ _ (.cons _ _ .nil)))))
  have hs6 : six.length = 6 := by rw [← hl6]; rfl
  clear hl6
  generalize s.heap.objs.size = B6 at N1 ⊢
  have hls : h1.IsList ls sv.toArray := by
    obtain ⟨o, e, r⟩ := hl
    exact ⟨o, F1.keep _ _ e, r⟩
  refine add_arrays (s := { s with heap := h1, toks := _ }) F1 N1 (its2 := six.toArray) hls ⟨_, (N1 _ (List.Mem.head _)).1, rfl, _, rfl⟩ (fun h2 F2 N2 => ?_) (by rw [List.size_toArray, List.size_toArray, hs6, sizeLine_eq]; omega)
  dsimp only at N2 ⊢
  generalize h1.objs.size = B7 at N2 ⊢
  have hsv : IntsAre (sv.toArray.toList ++ six.toArray.toList) (sn ++ [2, 9, 18, 27, 300, 45]) := by simpa using ints_app hi h6
  generalize sv.toArray.toList ++ six.toArray.toList = all7 at N2 hsv
  have hl7 : all7.length = sn.length + 6 := by rw [hsv.length]; simp
  refine iter_list_ (s := { s with heap := h2, toks := _ }) F2 N2 (List.Mem.head _) fun I h3 hI hIl F3 N3 lI fI => ?_
  refine blk_walk (env := lawEnv L a ccd c1 c2 c3) (s := { s with heap := h3, toks := _ }) (fp := [I, B7]) (fx := [(B7, { cls := .type "list", data := .seq all7.toArray })]) (nw₀ := (B7, { cls := .type "list", data := .seq all7.toArray }) :: news) (n := all7.toArray.size)
    (fun i ys nw => nw = (B7, { cls := .type "list", data := .seq all7.toArray }) :: news ∧ IntsAre ys (((sn ++ [2, 9, 18, 27, 300, 45]).take i).map absI)) _ ?_
    (Walks.list (A := lawTop dp un gd L a ccd c1 c2 c3) rfl I B7 (Nat.ne_of_lt (lI _ (List.Mem.head _))) all7.toArray) (by rw [List.size_toArray]; omega) ?_ ?_ ?_ ⟨hI, hIl⟩ (fun i h hh => let ⟨⟨o, e, _⟩, _⟩ := hh; ⟨o, e⟩) F3 (cb_drop N3 fun q hq => ?_) (fun q hq => ?_) fI ?_ ?_ ⟨rfl, .nil⟩ ?_ ?_ ?_
  · rintro ys nw ⟨rfl, hys⟩
    refine ⟨news, fun q hq => List.Mem.tail _ hq, rfl, ?_⟩
    rwa [List.take_of_length_le (by rw [List.size_toArray, hl7]; simp)] at hys
  · rfl
  · decide
  · rfl
  · rcases List.mem_cons.mp hq with rfl | hq
    · exact List.Mem.head _
    · exact List.Mem.tail _ (List.Mem.tail _ hq)
  · rcases List.mem_cons.mp hq with rfl | hq
    · exact lI _ (List.Mem.head _)
    · exact lI _ (List.Mem.tail _ (List.Mem.tail _ hq))
  · intro b hb
    rcases List.mem_cons.mp hb with rfl | hb
    · exact .inl rfl
    · rw [List.mem_singleton.mp hb]; exact .inr ⟨_, List.Mem.head _⟩
  · rintro i ys nw ⟨rfl, _⟩ q hq
    rw [List.mem_singleton.mp hq]; exact List.Mem.head _
  · rintro i ys nw ⟨rfl, hys⟩
    rw [hys.length, List.length_map, List.length_take]; exact Nat.min_le_left _ _
  · rintro i v' ys nw pre C oC h tk m' E' Qt Qf hi' hP ⟨rfl, hys⟩ hC hoC hmx F6 N6 off hQt hQf
    obtain ⟨t, rfl⟩ := IntsAre.int_at hsv i v' (by rw [← List.getElem?_toArray]; exact hP)
    have hi7 : i < (sn ++ [2, 9, 18, 27, 300, 45]).length := by
      rw [← hsv.length, ← List.size_toArray]; exact hi'
    refine wpAny_tests_nil ?_
    refine Call_ (LCgL.ld_built (s := { s with heap := h, toks := tk }) F6 X T ns_abs bb_abs (by decide) ?_ rfl rfl rfl rfl (by decide))
    refine PyProof.Rows.callWith_builtin1 (spliced_more (LCgL.ld_own (s := { s with heap := h, toks := tk }) N6 (List.mem_append_left _ hC) hoC hmx (spliced_none ?_) rfl rfl (by decide)))
    refine call_abs_int fun u tk2 => ?_
    refine hQt _ _ (.mk F6 N6 off ⟨rfl, ?_⟩)
    rw [List.take_add_one, List.getElem?_eq_getElem hi7, Option.toList_some, List.map_append, List.map_singleton]
    have e : (sn ++ [2, 9, 18, 27, 300, 45]).getD i 0 = (sn ++ [2, 9, 18, 27, 300, 45])[i] := by rw [List.getD_eq_getElem?_getD, List.getElem?_eq_getElem hi7]; rfl
    rw [e]
    exact ksk_snoc hys
  · rintro R h tk ys nw ⟨rfl, hys⟩ F6 N6 off
    refine storeX_C F6 N6 rfl (.tail (Ne.symm (off _ (by obtain ⟨own, rest, rfl, _, _, _⟩ := U.split; exact List.mem_append_right _ (List.Mem.head _)))) U) hd1 fun h7 o7 F7 N7 d7 => ?_
    exact ret R ys _ o7 h7 _ hys d7 F7 N7 off
end
end Mine
end
section
open PySem PySem.W PySem.Calls PyProof.Rows PyProof.Rows.LCg
set_option Elab.async false
set_option maxRecDepth 100000
set_option maxHeartbeats 1000000
set_option linter.unusedVariables false
set_option pp.maxSteps 3000
set_option pp.deepTerms false
set_option pp.deepTerms.threshold 6
namespace Mine
section
variable {prog : Program} {w : World} {A : Around} {E : Value → Shared → Prop} {s : Shared} {h₀ : Heap} {L : Addr} {m : Str → Option Value} {news : List (Addr × Obj)}
theorem set_dictE {d : Addr} {es : List DictEntry} {n : Nat} {D : List (Str × Value)} {news' : List DictEntry → Nat → List (Addr × Obj)} {k : Str} {t : Tok} {v : Value} {Q : Unit → Shared → Prop} (F : Fr h₀ L s.heap m) (N : News h₀ L s.heap news) (U : ∀ es' n', Upd d (dictOf es n) (dictOf es' n') news (news' es' n')) (H : Ent prog w es D) (hz : D.length < 64)
    (ret : ∀ es' n' h' tk', Ent prog w es' (stored D k v) → Fr h₀ L h' m → News h₀ L h' (news' es' n') → Q () { s with heap := h', toks := tk' }) :
    wpAny (model prog w) A (setItem (.ref d) (.str k t) v) Q E s := by
  have h1 := upd_mem (U es n)
  have hT : s.TypeIs (.ref d) "dict" := ⟨_, (N _ h1).1, rfl⟩
  unfold setItem
  refine wpAny_holding (wpAny_bind (wpAny_sequenceKey hT (by decide) ?_))
  refine wpAny_bind (wpAny_callSpecial?_slot (name := Str.ofString "__setitem__") hT PySem.F.slot_dict_setitem (wpAny_call_entry PySem.F.slot_dict_setitem hT PySem.F.entry_dict_setitem ?_ (PySem.F.args_dict_setitem_3 _ _ _)))
  exact b_setitem (noOrd_dict (N _ h1).1) F N U H hz fun es' n' h' H' F' N' => wpAny_pure (ret es' n' h' _ H' F' N')
/-- isinstance(key, str) -/
theorem isi_key {kv : Value} {k : Str} {Q : Value → Shared → Prop} (X : (Mine.hd.heap_39 w.params).In s.heap) (hkv : KeyV kv k) (h1 : ∀ t tk, kv = .str k t → Q (.bool true) { s with toks := tk }) (h2 : ∀ tk, Q (.bool false) { s with toks := tk }) :
    wpAny (model prog w) A (call (.builtin "isinstance") [kv, .type "str"]) Q E s := by
  cases hkv with
  | str => exact IsiPair.str_str (h1 _ _ rfl)
  | bytes hd => exact kia_one (K := Mine.hd.heap_39 w.params) kitx_bytes X trivial kf_bs (by intro e; cases e) fun tk => h2 tk
end
theorem addAll_snoc {D KV : List (Str × Value)} {k : Str} {v : Value} : addAll D (KV ++ [(k, v)]) = stored (addAll D KV) (Txt.upper k) v := by
  unfold addAll
  rw [List.foldl_append]; rfl
theorem stored_keys {D : List (Str × Value)} {k k' : Str} {v : Value} : k' ∈ (stored D k v).map (·.1) ↔ k' = k ∨ k' ∈ D.map (·.1) := by
  unfold stored
  split
  · next h =>
    rw [List.any_eq_true] at h
    obtain ⟨q, hq, e⟩ := h
    have e : q.1 = k := of_decide_eq_true e
    have hm : (D.map fun kv => if kv.1 = k then (kv.1, v) else kv).map (·.1) = D.map (·.1) := by
      rw [List.map_map]
      refine List.map_congr_left fun x _ => ?_
      simp only [Function.comp]
      split <;> rfl
    rw [hm]
    constructor
    · exact .inr
    · rintro (rfl | h)
      · exact e ▸ List.mem_map_of_mem hq
      · exact h
  · rw [List.map_append, List.mem_append, List.map_singleton, List.mem_singleton]
    exact Or.comm
theorem addAll_keys : ∀ {KV D : List (Str × Value)} {k : Str}, k ∈ (addAll D KV).map (·.1) ↔ k ∈ D.map (·.1) ∨ k ∈ KV.map fun q => Txt.upper q.1
  | [], D, k => by simp [addAll]
  | (a, v) :: KV, D, k => by
    have e : addAll D ((a, v) :: KV) = addAll (stored D (Txt.upper a) v) KV := rfl
    rw [e, addAll_keys, stored_keys, List.map_cons, List.mem_cons]
    constructor
    · rintro ((h | h) | h)
      · exact .inr (.inl h)
      · exact .inl h
      · exact .inr (.inr h)
    · rintro (h | h | h)
      · exact .inl (.inr h)
      · exact .inl (.inl h)
      · exact .inr h
theorem keysV_of {prog : Program} {w : World} {es : List DictEntry} {D : List (Str × Value)} (H : Pairs (strKind prog w) es D) (hD : ∀ q ∈ D, q.1.length ≤ 100) : KeysV es D := by
  induction H with
  | nil => exact .nil
  | @cons e kv es kvs h1 h2 h3 ih =>
    obtain ⟨t, e1⟩ := key_str h1
    obtain ⟨k, v⟩ := kv
    have h2 : e.val = v := h2
    subst h2
    exact .cons (by rw [e1]; exact .str) (hD _ (List.Mem.head _)) (ih fun q hq => hD q (List.Mem.tail _ hq))
theorem stored_new {D : List (Str × Value)} {k : Str} {v : Value} (h : k ∉ D.map (·.1)) : stored D k v = D ++ [(k, v)] := by
  rw [stored, if_neg]
  rw [List.any_eq_true]
  rintro ⟨q, hq, e⟩
  exact h (by rw [← of_decide_eq_true e]; exact List.mem_map_of_mem hq)
theorem valueAt_none {D : List (Str × Value)} {k : Str} (h : (valueAt D k).isSome = false) : k ∉ D.map (·.1) := by
  intro hm
  obtain ⟨q, hq, rfl⟩ := List.mem_map.mp hm
  unfold valueAt at h
  rw [Option.isSome_map, Bool.eq_false_iff] at h
  exact h (List.find?_isSome.mpr ⟨q, hq, by simp⟩)
/-- a text in `first`, and its upper form in `due` -/
theorem first_step {D1 D2 : List (Str × Value)} {kk nm : Str} {v : Value} (h2 : D2 = addAll [] D1) (hn : (valueAt D2 nm).isSome = false) (hu : Txt.upper kk = nm) : stored D1 kk v = D1 ++ [(kk, v)] ∧ stored D2 nm v = addAll [] (D1 ++ [(kk, v)]) := by
  refine ⟨stored_new fun hm => valueAt_none hn ?_, by rw [addAll_snoc, hu, h2]⟩
  rw [h2, addAll_keys]
  refine .inr ?_
  obtain ⟨q, hq, rfl⟩ := List.mem_map.mp hm
  exact List.mem_map.mpr ⟨q, hq, hu⟩
end Mine
end
section
open PySem PySem.W PySem.Calls PyProof.Rows PyProof.Rows.LCg
set_option Elab.async false
set_option maxRecDepth 100000
set_option maxHeartbeats 1000000
set_option linter.unusedVariables false
set_option pp.maxSteps 3000
set_option pp.deepTerms false
set_option pp.deepTerms.threshold 6
namespace Mine
noncomputable def HasCell (nw : List (Addr × Obj)) (c : Addr) (v : Value) : Prop := ∃ o, (c, o) ∈ nw ∧ o.data = .cell (some v)
theorem HasCell.mono {nw nw' : List (Addr × Obj)} {c : Addr} {v : Value} (H : HasCell nw c v) (h : ∀ q ∈ nw, q ∈ nw') : HasCell nw' c v := let ⟨o, a, b⟩ := H; ⟨o, h _ a, b⟩
structure HasNums (nw : List (Addr × Obj)) (c1 : Addr) (ns : List Int) : Prop where
  ex : ∃ Ln nvs cnt, HasCell nw c1 (.ref Ln) ∧ (Ln, listOf (List.toArray nvs) cnt) ∈ nw ∧ IntsAre nvs ns
  nn : ∀ x ∈ ns, 0 ≤ x
  lo : 6 ≤ ns.length
  hi : ns.length ≤ 69
theorem HasNums.mono {nw nw' : List (Addr × Obj)} {c : Addr} {ns : List Int} (H : HasNums nw c ns) (h : ∀ q ∈ nw, q ∈ nw') : HasNums nw' c ns :=
  ⟨let ⟨Ln, nvs, cnt, a, b, d⟩ := H.ex; ⟨Ln, nvs, cnt, a.mono h, h _ b, d⟩, H.nn, H.lo, H.hi⟩
theorem HasNums.at (H : ∀ x ∈ ns, (0 : Int) ≤ x) (k : Nat) : 0 ≤ (ns : List Int).getD k 0 := by
  rw [List.getD_eq_getElem?_getD]
  cases h : ns[k]? with
  | none => exact Int.le_refl _
  | some x => exact H x (List.mem_of_getElem? h)
section
variable {w : World} {p : Program} {loose : List Str} {mean : ExcName → Option Value} {mg mb : Str → Option Value} {dp un : Nat} {gd : Option (List Code)} {a : Addr} {ccd : Value} {A₀ : Around} {base h₀ : Heap} {L c1 c2 c3 : Addr} {m : Str → Option Value} {news : List (Addr × Obj)} {s : Shared} {Q : Flow → Shared → Prop} {E : Value → Shared → Prop}
/-- numbers, read -/
theorem ev_nums {v : Value} {pos : Pos} {Q : Value → Shared → Prop} (N : News h₀ L s.heap news) (H : HasCell news c1 v) (h : Q v s) :
    wpAny (model PySem.Challenge.rw_be0018_01.row.prog w) (lawTop dp un gd L a ccd c1 c2 c3) (eval (.Name (Str.ofString "numbers") pos) (lawEnv L a ccd c1 c2 c3)) Q E s :=
  let ⟨_, hm, hd⟩ := H; nameX_C N rfl hm hd h
theorem ev_due {v : Value} {pos : Pos} {Q : Value → Shared → Prop} (N : News h₀ L s.heap news) (H : HasCell news c2 v) (h : Q v s) :
    wpAny (model PySem.Challenge.rw_be0018_01.row.prog w) (lawTop dp un gd L a ccd c1 c2 c3) (eval (.Name (Str.ofString "due") pos) (lawEnv L a ccd c1 c2 c3)) Q E s :=
  let ⟨_, hm, hd⟩ := H; nameX_C N rfl hm hd h
theorem ev_order {v : Value} {pos : Pos} {Q : Value → Shared → Prop} (N : News h₀ L s.heap news) (H : HasCell news c3 v) (h : Q v s) :
    wpAny (model PySem.Challenge.rw_be0018_01.row.prog w) (lawTop dp un gd L a ccd c1 c2 c3) (eval (.Name (Str.ofString "order") pos) (lawEnv L a ccd c1 c2 c3)) Q E s :=
  let ⟨_, hm, hd⟩ := H; nameX_C N rfl hm hd h
/-- len(numbers) -/
theorem ev_len {ns : List Int} {p1 p2 p3 : Pos} {Q : Value → Shared → Prop} (F : Fr h₀ L s.heap m) (X : (Mine.hd.heap_39 w.params).In h₀) (N : News h₀ L s.heap news) (R1 : TopRead p loose mg mb h₀) (H : HasNums news c1 ns) (h : ∀ t tk, Q (.int ns.length t) { s with toks := tk }) :
    wpAny (model PySem.Challenge.rw_be0018_01.row.prog w) (lawTop dp un gd L a ccd c1 c2 c3) (eval (.Call (.Name (Str.ofString "len") p1) [.Name (Str.ofString "numbers") p2] [] p3) (lawEnv L a ccd c1 c2 c3)) Q E s := by
  obtain ⟨Ln, nvs, cnt, a1, a2, a3⟩ := H.ex
  have hl := a3.length
  refine Call_ (nameX_B F X R1 ns_len bb_len (by decide) ?_)
  refine PyProof.Rows.callWith_builtin1 (spliced_more (ev_nums N a1 (spliced_none ?_)))
  refine len_N N a2 (by have := H.hi; omega) fun t tk => ?_
  rw [hl]
  exact h t tk
/-- numbers[<an int in range>] -/
theorem ev_at {ns : List Int} {slice : Expr} {p1 p2 : Pos} {Q : Value → Shared → Prop} (N : News h₀ L s.heap news) (H : HasNums news c1 ns)
    (hs : ∀ l k u, subscripted slice false (.ref l) (.int k u) = operate [.ref l, .int k u] (getItem (.ref l) (.int k u)))
    (h : wpAny (model PySem.Challenge.rw_be0018_01.row.prog w) (lawTop dp un gd L a ccd c1 c2 c3) (eval slice (lawEnv L a ccd c1 c2 c3)) (fun v s₁ => ∃ k u, v = .int k u ∧ 0 ≤ k ∧ k < ns.length ∧ (∃ tk, s₁ = { s with toks := tk }) ∧ ∀ t, Q (.int (ns.getD k.toNat 0) t) s₁) E s) :
    wpAny (model PySem.Challenge.rw_be0018_01.row.prog w) (lawTop dp un gd L a ccd c1 c2 c3) (eval (.Subscript (.Name (Str.ofString "numbers") p1) slice p2) (lawEnv L a ccd c1 c2 c3)) Q E s := by
  obtain ⟨Ln, nvs, cnt, a1, a2, a3⟩ := H.ex
  refine Subscript_ (ev_nums N a1 (wpAny_mono h (fun v s₁ h₁ => ?_) fun _ _ e => e))
  obtain ⟨k, u, rfl, h0, hk, ⟨tk, rfl⟩, hq⟩ := h₁
  exact int_item (s := { s with toks := tk }) N a2 a3 h0 hk (by have := H.hi; omega) hq (hs _ _ _)
end
end Mine
end
section
open PySem PySem.W PySem.Calls PyProof.Rows PyProof.Rows.LCg
set_option Elab.async false
set_option maxRecDepth 100000
set_option maxHeartbeats 1000000
set_option linter.unusedVariables false
set_option pp.maxSteps 3000
set_option pp.deepTerms false
set_option pp.deepTerms.threshold 6
namespace Mine
section
variable {w : World} {p : Program} {loose : List Str} {mean : ExcName → Option Value} {mg mb : Str → Option Value} {dp un : Nat} {gd : Option (List Code)} {a : Addr} {ccd : Value} {A₀ : Around} {base h₀ : Heap} {L c1 c2 c3 : Addr} {m : Str → Option Value} {news : List (Addr × Obj)} {s : Shared} {Q : Flow → Shared → Prop} {E : Value → Shared → Prop}
theorem turn3 {fo fixed : List (Addr × Obj)} {ns : List Int} {df d2 : Addr} {es1 es2 : List DictEntry} {n1 n2 : Nat} {D1 D2 : List (Str × Value)} {i : Int} {ti : Tok}
    (B : Below A₀ base [] h₀) (F : Fr h₀ L s.heap m) (X : (Mine.hd.heap_39 w.params).In h₀) (T : Top p loose mean mg mb h₀) (hdp : dp + 100 < recursionLimit) (hu : un + 1000 < cLine)
    (N : News h₀ L s.heap (fo ++ (df, dictOf es1 n1) :: (d2, dictOf es2 n2) :: fixed)) (fo1 : ∀ p ∈ fo, p.1 ≠ df ∧ p.1 ≠ d2) (fx1 : ∀ q ∈ fixed, q.1 ≠ df ∧ q.1 ≠ d2) (hne : d2 ≠ df)
    (HN : HasNums fixed c1 ns) (HC : HasCell fixed c2 (.ref d2)) (hdm : (d2 == sysModules) = false) (mk : m (Str.ofString "k") = some (.int i ti)) (h0 : 0 ≤ i) (h5 : i < 5) (mf : m (Str.ofString "first") = some (.ref df))
    (H1 : Ent PySem.Challenge.rw_be0018_01.row.prog w es1 D1) (H2 : Ent PySem.Challenge.rw_be0018_01.row.prog w es2 D2) (hD2 : D2 = addAll [] D1) (hl1 : ∀ q ∈ D1, q.1.length ≤ 100) (hI : AllInt D2) (hz : D1.length ≤ 10)
    (ret : ∀ h' tk' es1' n1' D1' es2' n2' D2' m', D2' = addAll [] D1' → (∀ q ∈ D1', q.1.length ≤ 100) → AllInt D2' → D1'.length ≤ D1.length + 1 → Ent PySem.Challenge.rw_be0018_01.row.prog w es1' D1' → Ent PySem.Challenge.rw_be0018_01.row.prog w es2' D2' → m' (Str.ofString "first") = some (.ref df) →
      Fr h₀ L h' m' → News h₀ L h' (fo ++ (df, dictOf es1' n1') :: (d2, dictOf es2' n2') :: fixed) → Q .next { s with heap := h', toks := tk' }) :
    wpAny (model PySem.Challenge.rw_be0018_01.row.prog w) (lawTop dp un gd L a ccd c1 c2 c3) (execs (stBody (stAt lawBody 3)) (lawEnv L a ccd c1 c2 c3)) Q E s := by
  have R1 := topRead_of T
  have upf : ∀ q ∈ fixed, q ∈ fo ++ (df, dictOf es1 n1) :: (d2, dictOf es2 n2) :: fixed := fun q hq => List.mem_append_right _ (List.Mem.tail _ (List.Mem.tail _ hq))
  have HN' := HN.mono upf
  refine wpAny_execs_cons (Assign_Tuple (Call_ (nameX_K (K := Mine.hd.heap_39 w.params) F X R1 kf_key ?_)))
  refine callWith_K X kf_key_k (spliced_more (wpAny_BinOp (ev_at N HN' (fun _ _ _ => rfl) ?_)))
  refine wpAny_BinOp (wpAny_Constant_int (wpAny_BinOp (nameX_L F mk ?_)))
  refine wpAny_BinOp (ev_len (s := { s with toks := _ }) F X N R1 HN' fun t tk => ?_)
  refine wpAny_Constant_int (sub_int ?_)
  have hlo := HN.lo
  have hm0 := Int.fmod_nonneg_of_pos i (b := (ns.length : Int) - 1) (by omega)
  have hm1 := Int.fmod_lt_of_pos i (b := (ns.length : Int) - 1) (by omega)
  refine mod_int (by omega) (add_int ?_)
  refine ⟨_, _, rfl, by omega, by omega, ⟨_, rfl⟩, fun t2 => ?_⟩
  have hnn := HasNums.at HN.nn ((1 + i.fmod ((ns.length : Int) - 1)).toNat)
  generalize ns.getD (1 + i.fmod ((ns.length : Int) - 1)).toNat 0 = num at hnn
  refine wpAny_BinOp (wpAny_Constant_int (nameX_L F mk ?_))
  refine mul_int (add_int ?_) (IntMulOk.of_left (by decide +kernel))
  refine spliced_none ⟨X.keeps F.keep, ?_⟩
  refine key_c (s := { s with toks := _ }) B F X N T rfl (room (hk := by decide) hdp) (room (hk := by decide) hu) (by omega) fun T' kv kk nm t' h2 tk2 hnm hkv hlen hup F2 N2 lT => ?_
  refine kcp_assign (m := m) rfl ⟨_, (N2 _ (List.Mem.head _)).1, rfl, _, rfl⟩ rfl rfl rfl F2.ns fun h3 tk3 n3 k3 => ?_
  dsimp only at k3 ⊢
  obtain ⟨F3, N3⟩ := setFN F2 (cb_drop N2 fun _ hp => List.Mem.tail _ hp) n3 k3
  -- key = key if isinstance(key, str) else name
  have after : ∀ (ky : Str) (u : Tok) (h4 : Heap) (tk4 : Nat) (m4 : Str → Option Value), ky.length ≤ 100 → Txt.upper ky = nm → m4 (Str.ofString "key") = some (.str ky u) → m4 (Str.ofString "name") = some (.str nm t') → m4 (Str.ofString "k") = some (.int i ti) → m4 (Str.ofString "first") = some (.ref df) → Fr h₀ L h4 m4 → News h₀ L h4 (fo ++ (df, dictOf es1 n1) :: (d2, dictOf es2 n2) :: fixed) →
      wpAny (model PySem.Challenge.rw_be0018_01.row.prog w) (lawTop dp un gd L a ccd c1 c2 c3) (execs (stBody (stAt lawBody 3)).tail.tail (lawEnv L a ccd c1 c2 c3)) Q E { s with heap := h4, toks := tk4 } := by
    intro ky u h4 tk4 m4 hky hku mk4 mn4 mi4 mf4 F4 N4
    refine wpAny_execs_cons (wpAny_If (wpAny_isTrue_Compare1 (nameX_L F4 mn4 (ev_due N4 (HC.mono upf) ?_))))
    refine notin_dictE (s := { s with heap := h4, toks := tk4 }) (N4 _ (List.mem_append_right _ (List.Mem.tail _ (List.Mem.head _)))).1 hdm H2 (wpAny_truthy_bool ?_)
    cases hb : (valueAt D2 nm).isSome with
    | true =>
      exact wpAny_execs_nil (wpAny_execs_nil (ret h4 _ es1 n1 D1 es2 n2 D2 m4 hD2 hl1 hI (Nat.le_succ _) H1 H2 mf4 F4 N4))
    | false =>
      rw [if_pos (by decide)]
      obtain ⟨s1, s2⟩ := first_step (v := .int i ti) hD2 hb hku
      refine wpAny_execs_cons (wpAny_Assign_Subscript (nameX_L F4 mi4 (nameX_L F4 mf4 (nameX_L F4 mk4 ?_))))
      refine set_dictE (s := { s with heap := h4, toks := _ }) (news' := fun es' n' => fo ++ (df, dictOf es' n') :: (d2, dictOf es2 n2) :: fixed) F4 N4 (fun es' n' => Upd.pre (.head fun q hq => ?_) fun q hq => (fo1 q hq).1) H1 (by omega) fun es1' n1' h5 tk5 H1' F5 N5 => ?_
      · rcases List.mem_cons.mp hq with rfl | hq
        · exact hne
        · exact (fx1 q hq).1
      refine wpAny_execs_cons (wpAny_Assign_Subscript (nameX_L F5 mi4 (ev_due N5 (HC.mono fun q hq => List.mem_append_right _ (List.Mem.tail _ (List.Mem.tail _ hq))) (nameX_L F5 mn4 ?_))))
      have h8 := nm8_len hI H2.nd
      refine set_dictE (s := { s with heap := h5, toks := _ }) (news' := fun es' n' => fo ++ (df, dictOf es1' n1') :: (d2, dictOf es' n') :: fixed) F5 N5 (fun es' n' => Upd.pre (.tail (Ne.symm hne) (.head fun q hq => (fx1 q hq).2)) fun q hq => (fo1 q hq).2) H2 (by omega) fun es2' n2' h6 tk6 H2' F6 N6 => ?_
      rw [s1] at H1'
      refine wpAny_execs_nil (wpAny_execs_nil (ret h6 _ es1' n1' _ es2' n2' _ m4 s2 ?_ (stored_int hI hnm) (by simp) H1' H2' mf4 F6 N6))
      intro q hq
      rcases List.mem_append.mp hq with hq | hq
      · exact hl1 q hq
      · rw [List.mem_singleton.mp hq]; exact hky
  have hn7 := nm8_short nm hnm
  refine wpAny_execs_cons (wpAny_Assign_Name (IfExp_ (isTrue_plain (Call_ (nameX_B F3 X R1 ns_isinstance bb_isinstance (by decide) ?_)))))
  refine PyProof.Rows.callWith_builtin1 (spliced_more (nameX_L F3 ((if_neg (by decide)).trans (if_pos rfl)) (spliced_more (nameX_B F3 X R1 ns_str bb_str (by decide) (spliced_none ?_)))))
  refine isi_key (s := { s with heap := h3, toks := tk3 }) (X.keeps F3.keep) hkv (fun t5 tk5 e => ?_) (fun tk5 => ?_)
  · subst e
    refine wpAny_truthy_bool ?_
    refine nameX_L F3 ((if_neg (by decide)).trans (if_pos rfl)) (storeX_L F3 N3 fun h4 F4 N4 => ?_)
    exact after kk t5 h4 _ _ hlen hup (if_pos rfl) ((if_neg (by decide)).trans (if_pos rfl)) ((if_neg (by decide)).trans ((if_neg (by decide)).trans ((if_neg (by decide)).trans mk))) ((if_neg (by decide)).trans ((if_neg (by decide)).trans ((if_neg (by decide)).trans mf))) F4 N4
  · refine wpAny_truthy_bool ?_
    refine nameX_L F3 (if_pos rfl) (storeX_L F3 N3 fun h4 F4 N4 => ?_)
    exact after nm t' h4 _ _ (by omega) (nm8_up nm hnm) (if_pos rfl) ((if_neg (by decide)).trans (if_pos rfl)) ((if_neg (by decide)).trans ((if_neg (by decide)).trans ((if_neg (by decide)).trans mk))) ((if_neg (by decide)).trans ((if_neg (by decide)).trans ((if_neg (by decide)).trans mf))) F4 N4
end
end Mine
end
section
open PySem PySem.W PySem.Calls PyProof.Rows PyProof.Rows.LCg
set_option Elab.async false
set_option maxRecDepth 100000
set_option maxHeartbeats 1000000
set_option linter.unusedVariables false
set_option pp.maxSteps 3000
set_option pp.deepTerms false
set_option pp.deepTerms.threshold 6
namespace Mine
inductive J3 (w : World) (df d2 : Addr) (fixed : List (Addr × Obj)) (i : Nat) (m₁ : Str → Option Value) : List (Addr × Obj) → Prop
  | mk {es1 : List DictEntry} {n1 : Nat} {D1 : List (Str × Value)} {es2 : List DictEntry} {n2 : Nat} {D2 : List (Str × Value)} : D2 = addAll [] D1 → (∀ q ∈ D1, q.1.length ≤ 100) → AllInt D2 → D1.length ≤ i → Ent PySem.Challenge.rw_be0018_01.row.prog w es1 D1 → Ent PySem.Challenge.rw_be0018_01.row.prog w es2 D2 → m₁ (Str.ofString "first") = some (.ref df) → J3 w df d2 fixed i m₁ ((df, dictOf es1 n1) :: (d2, dictOf es2 n2) :: fixed)
section
variable {w : World} {p : Program} {loose : List Str} {mean : ExcName → Option Value} {mg mb : Str → Option Value} {dp un : Nat} {gd : Option (List Code)} {a : Addr} {ccd : Value} {A₀ : Around} {base h₀ : Heap} {L c1 c2 c3 : Addr} {m : Str → Option Value} {news : List (Addr × Obj)} {s : Shared} {Q : Flow → Shared → Prop} {E : Value → Shared → Prop}
theorem stage3 {fixed : List (Addr × Obj)} {ns : List Int} {df d2 : Addr}
    (B : Below A₀ base [] h₀) (F : Fr h₀ L s.heap m) (X : (Mine.hd.heap_39 w.params).In h₀) (T : Top p loose mean mg mb h₀) (hdp : dp + 100 < recursionLimit) (hu : un + 1000 < cLine)
    (N : News h₀ L s.heap ((df, dictOf [] 0) :: (d2, dictOf [] 0) :: fixed)) (fx1 : ∀ q ∈ fixed, q.1 ≠ df ∧ q.1 ≠ d2) (hne : d2 ≠ df)
    (HN : HasNums fixed c1 ns) (HC : HasCell fixed c2 (.ref d2)) (hdm : (d2 == sysModules) = false) (mf : m (Str.ofString "first") = some (.ref df))
    (ret : ∀ h' tk' es1' n1' D1' es2' n2' D2' m', D2' = addAll [] D1' → (∀ q ∈ D1', q.1.length ≤ 100) → AllInt D2' → D1'.length ≤ 10 → Ent PySem.Challenge.rw_be0018_01.row.prog w es1' D1' → Ent PySem.Challenge.rw_be0018_01.row.prog w es2' D2' → m' (Str.ofString "first") = some (.ref df) →
      Fr h₀ L h' m' → News h₀ L h' ((df, dictOf es1' n1') :: (d2, dictOf es2' n2') :: fixed) → Q .next { s with heap := h', toks := tk' }) :
    wpAny (model PySem.Challenge.rw_be0018_01.row.prog w) (lawTop dp un gd L a ccd c1 c2 c3) (exec (stAt lawBody 3) (lawEnv L a ccd c1 c2 c3)) Q E s := by
  have R1 := topRead_of T
  have upf : ∀ q ∈ fixed, q ∈ (df, dictOf [] 0) :: (d2, dictOf [] 0) :: fixed := fun q hq => List.Mem.tail _ (List.Mem.tail _ hq)
  have HN' := HN.mono upf
  have hlo := HN.lo
  refine wpAny_For (Call_ (nameX_B F X R1 ns_range bb_range (by decide) ?_))
  refine PyProof.Rows.callWith_type1 (spliced_more (wpAny_BinOp (ev_at N HN' (fun _ _ _ => rfl) (wpAny_Constant_int ⟨0, _, rfl, by decide, by omega, ⟨_, rfl⟩, fun t => ?_⟩))))
  generalize ns.getD (Int.toNat 0) 0 = num0
  have hm0 := Int.fmod_nonneg_of_pos num0 (b := 5) (by decide)
  have hm1 := Int.fmod_lt_of_pos num0 (b := 5) (by decide)
  refine wpAny_Constant_int (mod_int (by decide) (spliced_none ?_))
  generalize num0.fmod 5 = cnt at hm0 hm1
  refine iter_range_N (s := { s with toks := _ }) F N hm0 (by omega) fun I h1 tk1 hI F1 N1 lI fI => ?_
  dsimp only
  refine for_feeds (own := [I]) (fp := [I]) (fx := []) (fun i m₁ nw => J3 w df d2 fixed i m₁ nw)
    (feeds_name (Walks.range (A := lawTop dp un gd L a ccd c1 c2 c3) rfl I 0 1 cnt.toNat)) ⟨rfl, rfl⟩ (by simpa using hI) (fun i h hh b hb => by rw [List.mem_singleton.mp hb]; exact ⟨_, hh⟩) F1 N1 (fun hm => fI.1 (List.mem_singleton.mp hm).symm) (fun b hb => by rw [List.mem_singleton.mp hb]; exact fI.2) (fun q hq hm => absurd (lI q hq) (by rw [List.mem_singleton.mp hm]; exact Nat.lt_irrefl _))
    (fun b hb => .inl hb) (fun _ _ _ _ q hq => (nomatch hq)) (.mk (es1 := []) (n1 := 0) (D1 := []) (es2 := []) (n2 := 0) (D2 := []) rfl (fun q hq => nomatch hq) (fun q hq => nomatch hq) (Nat.le_refl _) Ent.nil Ent.nil mf) ?_ ?_
  · intro i m₁ m₂ nw h tk fo hi hJ hP F2 N2 hfo off
    refine gen_q fun Q' hQ => ?_
    obtain ⟨v, ⟨t2, rfl⟩, rfl⟩ := hP
    cases hJ with
    | @mk es1 n1 D1 es2 n2 D2 q1 q2 q3 q4 q5 q6 q7 =>
    have o1 : df ≠ I := fun e => off _ (List.Mem.head _) (by rw [← e]; exact List.Mem.head _)
    have o2 : d2 ≠ I := fun e => off _ (List.Mem.tail _ (List.Mem.head _)) (by rw [← e]; exact List.Mem.head _)
    refine turn3 (s := { s with heap := h, toks := tk }) (i := 0 + (i : Int) * 1) (ti := t2) B F2 X T hdp hu N2 (fun q hq => ?_) fx1 hne HN HC hdm (if_pos rfl) (by omega) (by omega) ((if_neg (by decide)).trans q7) q5 q6 q1 q2 q3 (by omega) fun h' tk' es1' n1' D1' es2' n2' D2' m' r1 r2 r3 r4 r5 r6 r7 F3 N3 => ?_
    · rw [of_one hfo q hq]
      exact ⟨Ne.symm o1, Ne.symm o2⟩
    · exact hQ _ _ (.mk F3 N3 (List.forall_mem_cons.mpr ⟨fun e => o1 (List.mem_singleton.mp e), List.forall_mem_cons.mpr ⟨fun e => o2 (List.mem_singleton.mp e), fun q hq => off q (List.Mem.tail _ (List.Mem.tail _ hq))⟩⟩) ⟨rfl, .mk r1 r2 r3 (Nat.le_trans r4 (Nat.succ_le_succ q4)) r5 r6 r7⟩)
  · intro m' nw h tk hJ F2 N2
    cases hJ with
    | @mk es1 n1 D1 es2 n2 D2 q1 q2 q3 q4 q5 q6 q7 => exact ret h tk es1 n1 D1 es2 n2 D2 m' q1 q2 q3 (by omega) q5 q6 q7 F2 N2
end
end Mine
end
section
open PySem PySem.W PySem.Calls PyProof.Rows PyProof.Rows.LCg
set_option Elab.async false
set_option maxRecDepth 100000
set_option maxHeartbeats 1000000
set_option linter.unusedVariables false
set_option pp.maxSteps 3000
set_option pp.deepTerms false
set_option pp.deepTerms.threshold 6
namespace Mine
theorem kf_cls_g {P} : nsIn (Mine.hd.heap_39 P) mainGlobals (Str.ofString "CaselessDict") = some (some (.ref 170)) := by kernel_rfl
theorem kf_cls_k {P} : keepIn (Mine.hd.heap_39 P) (.ref 170) = true := by kernel_rfl
theorem kf_deed_g {P} : nsIn (Mine.hd.heap_39 P) mainGlobals (Str.ofString "_law_deed") = some (some (.ref 187)) := by kernel_rfl
theorem kf_deed_k {P} : keepIn (Mine.hd.heap_39 P) (.ref 187) = true := by kernel_rfl
theorem kf_in {P} : findIn (Mine.hd.heap_39 P) (.ref 170) "__contains__" = some (some (.ref 89)) := by kernel_rfl
theorem kf_in_fn {P} : isFn (Mine.hd.heap_39 P) (.ref 89) = true := by kernel_rfl
theorem kf_has {P} : findIn (Mine.hd.heap_39 P) (.ref 170) (Str.ofString "has_key") = some (some (.ref 132)) := by kernel_rfl
theorem kf_has_ty {P} : typeIn (Mine.hd.heap_39 P) (.ref 132) = some (.type "function") := by kernel_rfl
theorem kf_has_k {P} : keepIn (Mine.hd.heap_39 P) (.ref 132) = true := by kernel_rfl
theorem kf_gt {P} : findIn (Mine.hd.heap_39 P) (.ref 170) (Str.ofString "get") = some (some (.ref 98)) := by kernel_rfl
theorem kf_gt_ty {P} : typeIn (Mine.hd.heap_39 P) (.ref 98) = some (.type "function") := by kernel_rfl
theorem kf_gt_k {P} : keepIn (Mine.hd.heap_39 P) (.ref 98) = true := by kernel_rfl
section
variable {w : World} {p : Program} {loose : List Str} {mean : ExcName → Option Value} {mg mb : Str → Option Value} {dp un : Nat} {gd : Option (List Code)} {a : Addr} {ccd : Value} {A₀ : Around} {base h₀ : Heap} {L c1 c2 c3 : Addr} {m : Str → Option Value} {news : List (Addr × Obj)} {s : Shared} {E : Value → Shared → Prop}
theorem stage4 {d x0 : Str} {df : Addr} {es1 : List DictEntry} {n1 : Nat} {D1 : List (Str × Value)} {Q : Flow → Shared → Prop} (B : Below A₀ base [] h₀) (F : Fr h₀ L s.heap m) (X : (Mine.hd.heap_39 w.params).In h₀) (T : Top p loose mean mg mb h₀) (hdp : dp + 100 < recursionLimit) (hu : un + 1000 < cLine)
    (N : News h₀ L s.heap news) (hf : (df, dictOf es1 n1) ∈ news) (hfm : (df == sysModules) = false) (mf : m (Str.ofString "first") = some (.ref df)) (H1 : Ent PySem.Challenge.rw_be0018_01.row.prog w es1 D1) (hl1 : ∀ q ∈ D1, q.1.length ≤ 100) (hz : D1.length ≤ 10)
    (ret : ∀ x dx es' n' h' tk' m', Ent PySem.Challenge.rw_be0018_01.row.prog w es' (addAll [] D1) → m' (Str.ofString "told") = some (.ref x) → Fr h₀ L h' m' → News h₀ L h' ((x, cdObj dx es' n') :: (dx, dictOf [] 0) :: news) → (∀ p ∈ news, p.1 < dx) → dx < x → Q .next { s with heap := h', toks := tk' }) :
    wpAny (model PySem.Challenge.rw_be0018_01.row.prog w) (lawTop dp un gd L a ccd c1 c2 c3) (exec (stAt lawBody 4) (lawEnv L a ccd c1 c2 c3)) Q E s := by
  have R1 := topRead_of T
  have hlen := H1.len
  refine wpAny_Assign_Name (Call_ (nameX_K F X R1 kf_cls_g ?_))
  refine callWith_K X kf_cls_k (spliced_more (nameX_L F mf (spliced_none ⟨X.keeps F.keep, ?_⟩)))
  refine made_c B F X N T rfl (room (hk := by decide) hdp) (room (hk := by decide) hu) (.dict hf) hfm (keysV_of H1.pairs hl1) (by omega) fun x dx es' n' h' tk' H' F' N' l1 l2 => ?_
  refine storeX_L F' N' fun h2 F2 N2 => ?_
  exact ret x dx es' n' h2 _ _ H' (if_pos rfl) F2 N2 l1 l2
theorem ne_bools {b : Bool} {Q : Value → Shared → Prop} (hu : un + 1000 < cLine) (h : Q (.bool false) s) : wpAny (model PySem.Challenge.rw_be0018_01.row.prog w) (lawTop dp un gd L a ccd c1 c2 c3) (compareOp .NotEq (.bool b) (.bool b)) Q E s := by
  refine ne_dataH (.bool b) (.bool b) rfl rfl (by show un + 64 < cLine; omega) ?_
  rw [SeqAt.eqv_refl _ rfl]; exact h
theorem ne_ints {i : Int} {t u : Tok} {Q : Value → Shared → Prop} (hu : un + 1000 < cLine) (h : Q (.bool false) s) : wpAny (model PySem.Challenge.rw_be0018_01.row.prog w) (lawTop dp un gd L a ccd c1 c2 c3) (compareOp .NotEq (.int i t) (.int i u)) Q E s := by
  refine ne_dataH (.int i t) (.int i u) rfl rfl (by show un + 64 < cLine; omega) ?_
  rw [SeqAt.eqv_refl _ rfl]; exact h
/-- key in told -/
theorem in_told {x dx : Addr} {es : List DictEntry} {n : Nat} {D : List (Str × Value)} {kv : Value} {k : Str} {Q : Value → Shared → Prop} (B : Below A₀ base [] h₀) (F : Fr h₀ L s.heap m) (X : (Mine.hd.heap_39 w.params).In h₀) (N : News h₀ L s.heap news) (T : Top p loose mean mg mb h₀) (hdp : dp + 100 < recursionLimit) (hu : un + 1000 < cLine)
    (hx : (x, cdObj dx es n) ∈ news) (hdx : (dx, dictOf [] 0) ∈ news) (H : Ent PySem.Challenge.rw_be0018_01.row.prog w es D) (hxm : (x == sysModules) = false) (hkv : KeyV kv k) (hlen : k.length ≤ 100)
    (ret : ∀ h' tk', Fr h₀ L h' m → News h₀ L h' news → Q (.bool (valueAt D (Txt.upper k)).isSome) { s with heap := h', toks := tk' }) :
    wpAny (model PySem.Challenge.rw_be0018_01.row.prog w) (lawTop dp un gd L a ccd c1 c2 c3) (compareOp .In kv (.ref x)) Q E s := by
  refine in_K F X (inst_cd N hx hdx) kf_in kf_in_fn ?_
  exact contains_c B F X N T rfl (room (hk := by decide) hdp) (room (hk := by decide) hu) hx hdx H hxm hkv hlen fun h' tk' F' N' => wpAny_truthy_bool (ret h' tk' F' N')
end
end Mine
end
section
open PySem PySem.W PySem.Calls PyProof.Rows PyProof.Rows.LCg
set_option Elab.async false
set_option maxRecDepth 100000
set_option maxHeartbeats 1000000
set_option linter.unusedVariables false
set_option pp.maxSteps 3000
set_option pp.deepTerms false
set_option pp.deepTerms.threshold 6
namespace Mine
section
variable {w : World} {p : Program} {loose : List Str} {mean : ExcName → Option Value} {mg mb : Str → Option Value} {dp un : Nat} {gd : Option (List Code)} {a : Addr} {ccd : Value} {A₀ : Around} {base h₀ : Heap} {L c1 c2 c3 : Addr} {m : Str → Option Value} {news : List (Addr × Obj)} {s : Shared} {E : Value → Shared → Prop}
/-- the two books, equal, beside what stands still -/
structure Books (w : World) (h₀ : Heap) (L c1 c2 : Addr) (ns : List Int) (x dx d2 : Addr) (fo fixed : List (Addr × Obj)) (es : List DictEntry) (n : Nat) (es2 : List DictEntry) (n2 : Nat) (D : List (Str × Value)) : Prop where
  fo1 : ∀ p ∈ fo, p.1 ≠ x ∧ p.1 ≠ d2
  fx1 : ∀ q ∈ fixed, q.1 ≠ x ∧ q.1 ≠ d2
  ne : d2 ≠ x
  HN : HasNums fixed c1 ns
  HC : HasCell fixed c2 (.ref d2)
  hdx : (dx, dictOf [] 0) ∈ fixed
  hdm : (d2 == sysModules) = false
  hxm : (x == sysModules) = false
  H : Ent PySem.Challenge.rw_be0018_01.row.prog w es D
  H2 : Ent PySem.Challenge.rw_be0018_01.row.prog w es2 D
  hI : AllInt D
noncomputable abbrev led (x dx d2 : Addr) (fo fixed : List (Addr × Obj)) (es : List DictEntry) (n : Nat) (es2 : List DictEntry) (n2 : Nat) : List (Addr × Obj) := fo ++ (x, cdObj dx es n) :: (d2, dictOf es2 n2) :: fixed
section
variable {ns : List Int} {x dx d2 : Addr} {fo fixed : List (Addr × Obj)} {es es2 : List DictEntry} {n n2 : Nat} {D : List (Str × Value)}
theorem Books.upf (K : Books w h₀ L c1 c2 ns x dx d2 fo fixed es n es2 n2 D) : ∀ q ∈ fixed, q ∈ led x dx d2 fo fixed es n es2 n2 := fun q hq => List.mem_append_right _ (List.Mem.tail _ (List.Mem.tail _ hq))
theorem Books.mx (K : Books w h₀ L c1 c2 ns x dx d2 fo fixed es n es2 n2 D) : (x, cdObj dx es n) ∈ led x dx d2 fo fixed es n es2 n2 := List.mem_append_right _ (List.Mem.head _)
theorem Books.md (K : Books w h₀ L c1 c2 ns x dx d2 fo fixed es n es2 n2 D) : (d2, dictOf es2 n2) ∈ led x dx d2 fo fixed es n es2 n2 := List.mem_append_right _ (List.Mem.tail _ (List.Mem.head _))
theorem Books.mdx (K : Books w h₀ L c1 c2 ns x dx d2 fo fixed es n es2 n2 D) : (dx, dictOf [] 0) ∈ led x dx d2 fo fixed es n es2 n2 := K.upf _ K.hdx
theorem Books.s1 (K : Books w h₀ L c1 c2 ns x dx d2 fo fixed es n es2 n2 D) : Src (led x dx d2 fo fixed es n es2 n2) x (.ref 170) (some dx) es n := .cd K.mx K.mdx
theorem Books.s2 (K : Books w h₀ L c1 c2 ns x dx d2 fo fixed es n es2 n2 D) : Src (led x dx d2 fo fixed es n es2 n2) d2 (.type "dict") none es2 n2 := .dict K.md
theorem Books.hn (K : Books w h₀ L c1 c2 ns x dx d2 fo fixed es n es2 n2 D) : HasNums (led x dx d2 fo fixed es n es2 n2) c1 ns := K.HN.mono K.upf
theorem Books.hc (K : Books w h₀ L c1 c2 ns x dx d2 fo fixed es n es2 n2 D) : HasCell (led x dx d2 fo fixed es n es2 n2) c2 (.ref d2) := K.HC.mono K.upf
theorem Books.to (K : Books w h₀ L c1 c2 ns x dx d2 fo fixed es n es2 n2 D) {es' es2' : List DictEntry} {n' n2' : Nat} {D' : List (Str × Value)} (H : Ent PySem.Challenge.rw_be0018_01.row.prog w es' D') (H2 : Ent PySem.Challenge.rw_be0018_01.row.prog w es2' D') (hI : AllInt D') : Books w h₀ L c1 c2 ns x dx d2 fo fixed es' n' es2' n2' D' :=
  ⟨K.fo1, K.fx1, K.ne, K.HN, K.HC, K.hdx, K.hdm, K.hxm, H, H2, hI⟩
theorem Books.ux (K : Books w h₀ L c1 c2 ns x dx d2 fo fixed es n es2 n2 D) (es₁ n₁ es₂ n₂ es₃ n₃) : Upd x (cdObj dx es₁ n₁) (cdObj dx es₃ n₃) (led x dx d2 fo fixed es₁ n₁ es₂ n₂) (led x dx d2 fo fixed es₃ n₃ es₂ n₂) :=
  Upd.pre (.head fun q hq => by
    rcases List.mem_cons.mp hq with rfl | hq
    · exact K.ne
    · exact (K.fx1 q hq).1) fun q hq => (K.fo1 q hq).1
theorem Books.ud (K : Books w h₀ L c1 c2 ns x dx d2 fo fixed es n es2 n2 D) (es₁ n₁ es₂ n₂ es₃ n₃) : Upd d2 (dictOf es₂ n₂) (dictOf es₃ n₃) (led x dx d2 fo fixed es₁ n₁ es₂ n₂) (led x dx d2 fo fixed es₁ n₁ es₃ n₃) :=
  Upd.pre (.tail (Ne.symm K.ne) (.head fun q hq => (K.fx1 q hq).2)) fun q hq => (K.fo1 q hq).2
/-- number = .. ; the deed -/
theorem deed5 {i : Int} {ti : Tok} {Q : Flow → Shared → Prop} (K : Books w h₀ L c1 c2 ns x dx d2 fo fixed es n es2 n2 D) (B : Below A₀ h₀ [] h₀) (F : Fr h₀ L s.heap m) (X : (Mine.hd.heap_39 w.params).In h₀) (T : Top p loose mean mg mb h₀) (hdp : dp + 100 < recursionLimit) (hu : un + 1000 < cLine)
    (N : News h₀ L s.heap (led x dx d2 fo fixed es n es2 n2)) (mt : m (Str.ofString "told") = some (.ref x)) (mk : m (Str.ofString "k") = some (.int i ti)) (h0 : 0 ≤ i) (h24 : i < 24)
    (ret : ∀ h' tk' es' n' es2' n2' D' num tn m', 0 ≤ num → Books w h₀ L c1 c2 ns x dx d2 fo fixed es' n' es2' n2' D' → m' (Str.ofString "told") = some (.ref x) → m' (Str.ofString "number") = some (.int num tn) → Fr h₀ L h' m' → News h₀ L h' (led x dx d2 fo fixed es' n' es2' n2') →
      wpAny (model PySem.Challenge.rw_be0018_01.row.prog w) (lawTop dp un gd L a ccd c1 c2 c3) (execs (stBody (stAt lawBody 5)).tail.tail (lawEnv L a ccd c1 c2 c3)) Q E { s with heap := h', toks := tk' }) :
    wpAny (model PySem.Challenge.rw_be0018_01.row.prog w) (lawTop dp un gd L a ccd c1 c2 c3) (execs (stBody (stAt lawBody 5)) (lawEnv L a ccd c1 c2 c3)) Q E s := by
  have R1 := topRead_of T
  have hlo := K.HN.lo
  have hhi := K.HN.hi
  refine wpAny_execs_cons (wpAny_Assign_Name (wpAny_BinOp (ev_at N K.hn (fun _ _ _ => rfl) ?_)))
  refine wpAny_BinOp (nameX_L F mk (ev_len F X N R1 K.hn fun t1 tk1 => ?_))
  have hm0 := Int.fmod_nonneg_of_pos i (b := (ns.length : Int)) (by omega)
  have hm1 := Int.fmod_lt_of_pos i (b := (ns.length : Int)) (by omega)
  refine mod_int (by omega) ⟨_, _, rfl, hm0, hm1, ⟨_, rfl⟩, fun t2 => ?_⟩
  have hnn := HasNums.at K.HN.nn (i.fmod (ns.length : Int)).toNat
  generalize ns.getD (i.fmod (ns.length : Int)).toNat 0 = num0 at hnn
  refine wpAny_BinOp (wpAny_Constant_int (wpAny_BinOp (nameX_L F mk (ev_len (s := { s with toks := _ }) F X N R1 K.hn fun t3 tk3 => ?_))))
  have hq0 : 0 ≤ i.fdiv (ns.length : Int) := Int.fdiv_nonneg h0 (by omega)
  have hq1 : i.fdiv (ns.length : Int) ≤ i := by
    rw [Int.fdiv_eq_ediv_of_nonneg _ (by omega)]
    exact Int.ediv_le_self _ h0
  refine floordiv_int (by omega) (add_int (floordiv_int (by omega) ?_ (.inl (PyProof.noPylong_small (by omega))))) (.inl (PyProof.noPylong_small (by omega)))
  have hnum : 0 ≤ num0.fdiv (1 + i.fdiv (ns.length : Int)) := Int.fdiv_nonneg hnn (by omega)
  generalize num0.fdiv (1 + i.fdiv (ns.length : Int)) = num at hnum
  refine storeX_L (s := { s with toks := _ }) F N fun h1 F1 N1 => ?_
  dsimp only
  refine wpAny_execs_cons (wpAny_If (isTrue_not (isTrue_plain (Call_ (nameX_K (K := Mine.hd.heap_39 w.params) F1 X R1 kf_deed_g ?_)))))
  refine callWith_K X kf_deed_k (spliced_more (nameX_L F1 ((if_neg (by decide)).trans mt) (spliced_more (ev_due N1 K.hc ?_))))
  refine spliced_more (wpAny_BinOp (nameX_L F1 (if_pos rfl) (wpAny_Constant_int (mod_int (by decide) ?_))))
  refine spliced_more (wpAny_BinOp (wpAny_BinOp (nameX_L F1 (if_pos rfl) (wpAny_Constant_int (floordiv_int (by decide) (nameX_L F1 ((if_neg (by decide)).trans mk) (add_int ?_)) (.inl (PyProof.noPylong_small (by decide))))))))
  refine spliced_more (wpAny_BinOp (wpAny_Constant_int (nameX_L F1 ((if_neg (by decide)).trans mk) (add_int ?_))))
  refine spliced_none ⟨X.keeps F1.keep, ?_⟩
  have g0 := Int.fmod_nonneg_of_pos num (b := 7) (by decide)
  have g1 := Int.fmod_lt_of_pos num (b := 7) (by decide)
  have g2 : 0 ≤ num.fdiv 7 := Int.fdiv_nonneg hnum (by decide)
  refine deed_c (s := { s with heap := h1, toks := _ }) (news' := led x dx d2 fo fixed) B F1 X N1 T rfl (room (hk := by decide) hdp) (room (hk := by decide) hu) K.mx (fun es₁ n₁ es₂ n₂ => List.mem_append_right _ (List.Mem.tail _ (List.Mem.tail _ K.hdx))) K.md (by omega) g0 g1 rfl (fun e1 e2 e3 e4 e5 e6 => K.ux e1 e2 e3 e4 e5 e6) (fun e1 e2 e3 e4 e5 e6 => K.ud e1 e2 e3 e4 e5 e6) K.hxm K.hdm K.H K.H2 K.hI fun es' n' es2' n2' D' h' tk' hI' H' H2' F' N' => ?_
  refine wpAny_truthy_bool ?_
  refine wpAny_execs_nil ?_
  exact ret h' _ es' n' es2' n2' D' num _ _ hnum (K.to H' H2' hI') ((if_neg (by decide)).trans mt) (if_pos rfl) F' N'
end
end
end Mine
end
section
open PySem PySem.W PySem.Calls PyProof.Rows PyProof.Rows.LCg
set_option Elab.async false
set_option maxRecDepth 100000
set_option maxHeartbeats 1000000
set_option linter.unusedVariables false
set_option pp.maxSteps 3000
set_option pp.deepTerms false
set_option pp.deepTerms.threshold 6
namespace Mine
theorem allInt_ok {D : List (Str × Value)} (h : AllInt D) : ∀ x ∈ D.map (·.1), PyData.strOk x = true := fun x hx => by
  obtain ⟨q, hq, rfl⟩ := List.mem_map.mp hx
  exact nm8_ok _ (h q hq).1
section
variable {w : World} {p : Program} {loose : List Str} {mean : ExcName → Option Value} {mg mb : Str → Option Value} {dp un : Nat} {gd : Option (List Code)} {a : Addr} {ccd : Value} {A₀ : Around} {base h₀ : Heap} {L c1 c2 c3 : Addr} {m : Str → Option Value} {s : Shared} {E : Value → Shared → Prop}
variable {ns : List Int} {x dx d2 : Addr} {fo fixed : List (Addr × Obj)} {es es2 : List DictEntry} {n n2 : Nat} {D : List (Str × Value)}
/-- the lists of keys and of items are equal -/
theorem lists5 {Q : Flow → Shared → Prop} (K : Books w h₀ L c1 c2 ns x dx d2 fo fixed es n es2 n2 D) (F : Fr h₀ L s.heap m) (X : (Mine.hd.heap_39 w.params).In h₀) (T : Top p loose mean mg mb h₀) (hu : un + 1000 < cLine)
    (N : News h₀ L s.heap (led x dx d2 fo fixed es n es2 n2)) (mt : m (Str.ofString "told") = some (.ref x))
    (ret : ∀ h' tk', Fr h₀ L h' m → News h₀ L h' (led x dx d2 fo fixed es n es2 n2) → wpAny (model PySem.Challenge.rw_be0018_01.row.prog w) (lawTop dp un gd L a ccd c1 c2 c3) (execs (stBody (stAt lawBody 5)).tail.tail.tail (lawEnv L a ccd c1 c2 c3)) Q E { s with heap := h', toks := tk' }) :
    wpAny (model PySem.Challenge.rw_be0018_01.row.prog w) (lawTop dp un gd L a ccd c1 c2 c3) (execs (stBody (stAt lawBody 5)).tail.tail (lawEnv L a ccd c1 c2 c3)) Q E s := by
  have R1 := topRead_of T
  have hl1 := K.H.len
  have hl2 := K.H2.len
  have h8 := nm8_len K.hI K.H.nd
  refine wpAny_execs_cons (wpAny_If (isTrue_or (wpAny_isTrue_Compare1 ?_)))
  refine list_keys_of rfl rfl rfl K.s1 K.hxm F N X R1 (by omega) rfl (fun Q' E' hq => nameX_L F mt hq) fun k1 q1 h1 tk1 F1 N1 l1 => ?_
  refine list_keys_of rfl rfl rfl (K.s2.sub fun _ hq => List.Mem.tail _ hq) K.hdm F1 N1 X R1 (by omega) rfl (fun Q' E' hq => ev_due N1 (K.hc.mono fun _ hq => List.Mem.tail _ hq) hq) fun k2 q2 h2 tk2 F2 N2 l2 => ?_
  refine ne_strsE N2 (List.Mem.tail _ (List.Mem.head _)) (List.Mem.head _) (keys_strs K.H.pairs) (keys_strs K.H2.pairs) (allInt_ok K.hI) (by show un + 64 < cLine; omega) (wpAny_truthy_bool ?_)
  have N3 := cb_drop N2 fun q (hq : q ∈ led x dx d2 fo fixed es n es2 n2) => List.Mem.tail _ (List.Mem.tail _ hq)
  refine isTrue_or (wpAny_isTrue_Compare1 ?_)
  refine list_items_of rfl rfl rfl K.s1 K.hxm F2 N3 X R1 (by omega) rfl (fun Q' E' hq => nameX_L F2 mt hq) fun i1 q3 h4 tk4 as1 a1 a2 a3 F4 N4 l4 => ?_
  refine list_items_of rfl rfl rfl (K.s2.sub fun _ hq => List.mem_append_right _ (List.Mem.tail _ hq)) K.hdm F4 N4 X R1 (by omega) rfl (fun Q' E' hq => ev_due N4 (K.hc.mono fun _ hq => List.mem_append_right _ (List.Mem.tail _ hq)) hq) fun i2 q4 h5 tk5 as2 b1 b2 b3 F5 N5 l5 => ?_
  have hv : ∀ q ∈ D, ∃ i t, q.2 = .int i t := fun q hq => (K.hI q hq).2
  have m1 := items_pairs (nw := tupsOf es2 as2 ++ (i2, listOf (as2.map Value.ref).toArray q4) :: (tupsOf es as1 ++ (i1, listOf (as1.map Value.ref).toArray q3) :: led x dx d2 fo fixed es n es2 n2)) K.H.pairs hv a1 fun q hq => List.mem_append_right _ (List.Mem.tail _ (List.mem_append_left _ hq))
  have m2 := items_pairs (nw := tupsOf es2 as2 ++ (i2, listOf (as2.map Value.ref).toArray q4) :: (tupsOf es as1 ++ (i1, listOf (as1.map Value.ref).toArray q3) :: led x dx d2 fo fixed es n es2 n2)) K.H2.pairs hv b1 fun q hq => List.mem_append_left _ hq
  refine ne_pairsE N5 (List.mem_append_right _ (List.Mem.tail _ (List.mem_append_right _ (List.Mem.head _)))) (List.mem_append_right _ (List.Mem.head _)) m1 m2 (fun q hq => ?_) (by show un + 64 < cLine; omega) (wpAny_truthy_bool ?_)
  · obtain ⟨r, hr, rfl⟩ := List.mem_map.mp hq
    exact nm8_ok _ (K.hI r hr).1
  refine isTrue_or_nil ?_
  refine wpAny_execs_nil ?_
  exact ret h5 tk5 F5 (cb_drop N5 fun q hq => List.mem_append_right _ (List.Mem.tail _ (List.mem_append_right _ (List.Mem.tail _ hq))))
end
end Mine
end
section
open PySem PySem.W PySem.Calls PyProof.Rows PyProof.Rows.LCg
set_option Elab.async false
set_option maxRecDepth 100000
set_option maxHeartbeats 1000000
set_option linter.unusedVariables false
set_option pp.maxSteps 3000
set_option pp.deepTerms false
set_option pp.deepTerms.threshold 6
namespace Mine
section
variable {w : World} {p : Program} {loose : List Str} {mean : ExcName → Option Value} {mg mb : Str → Option Value} {dp un : Nat} {gd : Option (List Code)} {a : Addr} {ccd : Value} {A₀ : Around} {base h₀ : Heap} {L c1 c2 c3 : Addr} {m : Str → Option Value} {s : Shared} {E : Value → Shared → Prop}
variable {ns : List Int} {x dx d2 : Addr} {fo fixed : List (Addr × Obj)} {es es2 : List DictEntry} {n n2 : Nat} {D : List (Str × Value)}
theorem asks5 {Q : Flow → Shared → Prop} {num : Int} {tn : Tok} (K : Books w h₀ L c1 c2 ns x dx d2 fo fixed es n es2 n2 D) (B : Below A₀ base [] h₀) (F : Fr h₀ L s.heap m) (X : (Mine.hd.heap_39 w.params).In h₀) (T : Top p loose mean mg mb h₀) (hdp : dp + 100 < recursionLimit) (hu : un + 1000 < cLine)
    (N : News h₀ L s.heap (led x dx d2 fo fixed es n es2 n2)) (mt : m (Str.ofString "told") = some (.ref x)) (mn : m (Str.ofString "number") = some (.int num tn)) (h0 : 0 ≤ num)
    (ret : ∀ h' tk' m', m' (Str.ofString "told") = some (.ref x) → Fr h₀ L h' m' → News h₀ L h' (led x dx d2 fo fixed es n es2 n2) → Q .next { s with heap := h', toks := tk' }) :
    wpAny (model PySem.Challenge.rw_be0018_01.row.prog w) (lawTop dp un gd L a ccd c1 c2 c3) (execs (stBody (stAt lawBody 5)).tail.tail.tail (lawEnv L a ccd c1 c2 c3)) Q E s := by
  have R1 := topRead_of T
  refine wpAny_execs_cons (Assign_Tuple (Call_ (nameX_K (K := Mine.hd.heap_39 w.params) F X R1 kf_key ?_)))
  refine callWith_K X kf_key_k (spliced_more (wpAny_BinOp (wpAny_BinOp (nameX_L F mn (wpAny_Constant_int (floordiv_int (by decide) (wpAny_Constant_int (add_int ?_)) (.inl (PyProof.noPylong_small (by decide)))))))))
  refine spliced_none ⟨X.keeps F.keep, ?_⟩
  have g2 : 0 ≤ num.fdiv 49 := Int.fdiv_nonneg h0 (by decide)
  refine key_c (s := { s with toks := _ }) B F X N T rfl (room (hk := by decide) hdp) (room (hk := by decide) hu) (by omega) fun T' kv kk nm t' h2 tk2 hnm hkv hlen hup F2 N2 lT => ?_
  refine kcp_assign (m := m) rfl ⟨_, (N2 _ (List.Mem.head _)).1, rfl, _, rfl⟩ rfl rfl rfl F2.ns fun h3 tk3 n3 k3 => ?_
  dsimp only at k3 ⊢
  obtain ⟨F3, N3⟩ := setFN F2 (cb_drop N2 fun _ hp => List.Mem.tail _ hp) n3 k3
  generalize hm3 : (fun z => if z = Str.ofString "name" then _ else if z = Str.ofString "key" then _ else m z : Str → Option Value) = m3 at F3
  have mt3 : m3 (Str.ofString "told") = some (.ref x) := by rw [← hm3]; exact (if_neg (by decide)).trans ((if_neg (by decide)).trans mt)
  have mk3 : m3 (Str.ofString "key") = some kv := by rw [← hm3]; exact (if_neg (by decide)).trans (if_pos rfl)
  have mn3 : m3 (Str.ofString "name") = some (.str nm t') := by rw [← hm3]; exact if_pos rfl
  clear hm3
  subst hup
  have hv := valueAt D (Txt.upper kk)
  refine wpAny_execs_cons (wpAny_If (isTrue_or (wpAny_isTrue_Compare1 (wpAny_Compare1 (nameX_L F3 mk3 (nameX_L F3 mt3 ?_))))))
  refine in_told (s := { s with heap := h3, toks := tk3 }) B F3 X N3 T hdp hu K.mx K.mdx K.H K.hxm hkv hlen fun h4 tk4 F4 N4 => ?_
  refine wpAny_Compare1 (nameX_L F4 mn3 (ev_due N4 K.hc ?_))
  refine in_dictE (s := { s with heap := h4, toks := tk4 }) (N4 _ K.md).1 K.hdm K.H2 (ne_bools hu (wpAny_truthy_bool ?_))
  refine isTrue_or (wpAny_isTrue_Compare1 (MethodCall_ (nameX_L F4 mt3 ?_) (method_eq rfl rfl)))
  refine method_cd (s := { s with heap := h4, toks := _ }) (X.keeps F4.keep) (inst_cd N4 K.mx K.mdx) kf_ga kf_hook kf_has kf_has_ty (.inl rfl) (by rfl) ?_
  refine callWith_K X kf_has_k (spliced_more (nameX_L F4 mk3 (spliced_none ⟨X.keeps F4.keep, ?_⟩)))
  refine haskey_c (s := { s with heap := h4, toks := _ }) B F4 X N4 T rfl (room (hk := by decide) hdp) (room (hk := by decide) hu) K.mx K.mdx K.H K.hxm hkv hlen fun h5 tk5 F5 N5 => ?_
  refine wpAny_Compare1 (nameX_L F5 mn3 (ev_due N5 K.hc ?_))
  refine in_dictE (s := { s with heap := h5, toks := tk5 }) (N5 _ K.md).1 K.hdm K.H2 (ne_bools hu (wpAny_truthy_bool ?_))
  refine isTrue_or (wpAny_isTrue_Compare1 (MethodCall_ (nameX_L F5 mt3 ?_) (method_eq rfl rfl)))
  refine method_cd (s := { s with heap := h5, toks := _ }) (X.keeps F5.keep) (inst_cd N5 K.mx K.mdx) kf_ga kf_hook kf_gt kf_gt_ty (.inl rfl) (by rfl) ?_
  refine callWith_K X kf_gt_k (spliced_more (nameX_L F5 mk3 (spliced_more (wpAny_UnaryOp (wpAny_Constant_int (neg_int (spliced_none ⟨X.keeps F5.keep, ?_⟩)))))))
  refine get_c (s := { s with heap := h5, toks := _ }) B F5 X N5 T rfl (room (hk := by decide) hdp) (room (hk := by decide) hu) K.mx K.mdx K.H K.hxm hkv hlen fun h6 tk6 F6 N6 => ?_
  refine MethodCall_ (ev_due N6 K.hc ?_) (method_eq rfl rfl)
  have hT : (⟨h6, s.gens, s.drawn, tk6, s.os⟩ : Shared).TypeIs (.ref d2) "dict" := ⟨_, (N6 _ K.md).1, rfl⟩
  refine getMethod_builtin hT PySem.F.plainAttrs_dict PySem.F.slot_dict_get PySem.F.type_dict_get (fun o e => by cases e; exact ⟨_, (N6 _ K.md).1, rfl⟩) ?_
  refine callWith_method1 (spliced_more (nameX_L F6 mn3 (spliced_more (wpAny_UnaryOp (wpAny_Constant_int (neg_int (spliced_none ?_)))))))
  refine wpAny_call_entry PySem.F.slot_dict_get ⟨_, (N6 _ K.md).1, rfl⟩ PySem.F.entry_dict_get ?_ (PySem.F.args_dict_get_3 _ _ _)
  refine b_get (s := { s with heap := h6, toks := _ }) (N6 _ K.md).1 K.hdm (noOrd_dict (N6 _ K.md).1) K.H2 ?_
  have fin : ∀ tk, wpAny (model PySem.Challenge.rw_be0018_01.row.prog w) (lawTop dp un gd L a ccd c1 c2 c3) (isTrue (.BoolOp .Or [] ⟨132, 11, 132, 121⟩) (lawEnv L a ccd c1 c2 c3) (eval (.BoolOp .Or [] ⟨132, 11, 132, 121⟩) (lawEnv L a ccd c1 c2 c3))) (fun b s₂ => b = false ∧ ∃ tk, s₂ = { s with heap := h6, toks := tk }) E { s with heap := h6, toks := tk } := fun tk => isTrue_or_nil ⟨rfl, _, rfl⟩
  cases hv : valueAt D (Txt.upper kk) with
  | none =>
    refine ne_ints hu (wpAny_truthy_bool ?_)
    refine isTrue_or_nil ?_
    exact wpAny_execs_nil (wpAny_execs_nil (ret h6 _ m3 mt3 F6 N6))
  | some v =>
    obtain ⟨q, hq, e⟩ := valueAt_mem hv
    obtain ⟨_, i, t, hi⟩ := K.hI q hq
    rw [hi] at e
    subst e
    refine ne_ints hu (wpAny_truthy_bool ?_)
    refine isTrue_or_nil ?_
    exact wpAny_execs_nil (wpAny_execs_nil (ret h6 _ m3 mt3 F6 N6))
end
end Mine
end
section
open PySem PySem.W PySem.Calls PyProof.Rows PyProof.Rows.LCg
set_option Elab.async false
set_option maxRecDepth 100000
set_option maxHeartbeats 1000000
set_option linter.unusedVariables false
set_option pp.maxSteps 3000
set_option pp.deepTerms false
set_option pp.deepTerms.threshold 6
namespace Mine
section
variable {w : World} {p : Program} {loose : List Str} {mean : ExcName → Option Value} {mg mb : Str → Option Value} {dp un : Nat} {gd : Option (List Code)} {a : Addr} {ccd : Value} {A₀ : Around} {base h₀ : Heap} {L c1 c2 c3 : Addr} {m : Str → Option Value} {s : Shared} {E : Value → Shared → Prop}
variable {ns : List Int} {x dx d2 : Addr} {fo fixed : List (Addr × Obj)} {es es2 : List DictEntry} {n n2 : Nat} {D : List (Str × Value)}
theorem Books.fo' (K : Books w h₀ L c1 c2 ns x dx d2 [] fixed es n es2 n2 D) (h : ∀ p ∈ fo, p.1 ≠ x ∧ p.1 ≠ d2) : Books w h₀ L c1 c2 ns x dx d2 fo fixed es n es2 n2 D :=
  ⟨h, K.fx1, K.ne, K.HN, K.HC, K.hdx, K.hdm, K.hxm, K.H, K.H2, K.hI⟩
theorem Books.nil' (K : Books w h₀ L c1 c2 ns x dx d2 fo fixed es n es2 n2 D) : Books w h₀ L c1 c2 ns x dx d2 [] fixed es n es2 n2 D :=
  ⟨(fun p hp => nomatch hp), K.fx1, K.ne, K.HN, K.HC, K.hdx, K.hdm, K.hxm, K.H, K.H2, K.hI⟩
inductive J5 (w : World) (h₀ : Heap) (L c1 c2 : Addr) (ns : List Int) (x dx d2 : Addr) (fixed : List (Addr × Obj)) (m₁ : Str → Option Value) : List (Addr × Obj) → Prop
  | mk {es : List DictEntry} {n : Nat} {es2 : List DictEntry} {n2 : Nat} {D : List (Str × Value)} : Books w h₀ L c1 c2 ns x dx d2 [] fixed es n es2 n2 D → m₁ (Str.ofString "told") = some (.ref x) → J5 w h₀ L c1 c2 ns x dx d2 fixed m₁ (led x dx d2 [] fixed es n es2 n2)
theorem stage5 {Q : Flow → Shared → Prop} (K : Books w h₀ L c1 c2 ns x dx d2 [] fixed es n es2 n2 D) (B : Below A₀ h₀ [] h₀) (F : Fr h₀ L s.heap m) (X : (Mine.hd.heap_39 w.params).In h₀) (T : Top p loose mean mg mb h₀) (hdp : dp + 100 < recursionLimit) (hu : un + 1000 < cLine)
    (N : News h₀ L s.heap (led x dx d2 [] fixed es n es2 n2)) (mt : m (Str.ofString "told") = some (.ref x))
    (ret : ∀ h' tk' es' n' es2' n2' D' m', Books w h₀ L c1 c2 ns x dx d2 [] fixed es' n' es2' n2' D' → m' (Str.ofString "told") = some (.ref x) → Fr h₀ L h' m' → News h₀ L h' (led x dx d2 [] fixed es' n' es2' n2') → Q .next { s with heap := h', toks := tk' }) :
    wpAny (model PySem.Challenge.rw_be0018_01.row.prog w) (lawTop dp un gd L a ccd c1 c2 c3) (exec (stAt lawBody 5) (lawEnv L a ccd c1 c2 c3)) Q E s := by
  have R1 := topRead_of T
  have hlo := K.HN.lo
  refine wpAny_For (Call_ (nameX_B F X R1 ns_range bb_range (by decide) ?_))
  refine PyProof.Rows.callWith_type1 (spliced_more (Call_ (nameX_B F X R1 ns_min bb_min (by decide) ?_)))
  refine PyProof.Rows.callWith_builtin1 (spliced_more (wpAny_Constant_int (spliced_more (wpAny_BinOp (wpAny_Constant_int (ev_len (s := { s with toks := _ }) F X N R1 K.hn fun t1 tk1 => ?_))))))
  refine mul_int (spliced_none ?_) (IntMulOk.of_left (by decide +kernel))
  refine min_two_N (s := { s with toks := _ }) rfl F N fun h1 tk2 F1 N1 => ?_
  refine spliced_none ?_
  generalize hcnt : (if 2 * (ns.length : Int) < 24 then 2 * (ns.length : Int) else 24) = cnt
  have hc0 : 0 ≤ cnt := by rw [← hcnt]; split <;> omega
  have hc1 : cnt ≤ 24 := by rw [← hcnt]; split <;> omega
  generalize (if 2 * (ns.length : Int) < 24 then _ else _ : Tok) = tt
  refine iter_range_N (s := { s with heap := h1, toks := _ }) F1 N1 hc0 (by omega) fun I h2 tk3 hI F2 N2 lI fI => ?_
  dsimp only
  refine for_feeds (own := [I]) (fp := [I]) (fx := []) (fun i m₁ nw => J5 w h₀ L c1 c2 ns x dx d2 fixed m₁ nw)
    (feeds_name (Walks.range (A := lawTop dp un gd L a ccd c1 c2 c3) rfl I 0 1 cnt.toNat)) ⟨rfl, rfl⟩ (by simpa using hI) (fun i h hh b hb => by rw [List.mem_singleton.mp hb]; exact ⟨_, hh⟩) F2 N2 (fun hm => fI.1 (List.mem_singleton.mp hm).symm) (fun b hb => by rw [List.mem_singleton.mp hb]; exact fI.2) (fun q hq hm => absurd (lI q hq) (by rw [List.mem_singleton.mp hm]; exact Nat.lt_irrefl _))
    (fun b hb => .inl hb) (fun _ _ _ _ q hq => (nomatch hq)) (.mk K mt) ?_ ?_
  · intro i m₁ m₂ nw h tk fo hi hJ hP F3 N3 hfo off
    refine gen_q fun Q' hQ => ?_
    obtain ⟨v, ⟨t2, rfl⟩, rfl⟩ := hP
    cases hJ with
    | @mk es n es2 n2 D K1 q7 =>
    have K2 := K1.fo' (fo := fo) fun q hq => by
      rw [of_one hfo q hq]
      exact ⟨fun e => off _ (List.Mem.head _) (by rw [← e]; exact List.Mem.head _), fun e => off _ (List.Mem.tail _ (List.Mem.head _)) (by rw [← e]; exact List.Mem.head _)⟩
    have offs : ∀ es' n' es2' n2', ∀ q ∈ led x dx d2 [] fixed es' n' es2' n2', q.1 ∉ [I] := fun es' n' es2' n2' => List.forall_mem_cons.mpr ⟨off (x, cdObj dx es n) (List.Mem.head _), List.forall_mem_cons.mpr ⟨off (d2, dictOf es2 n2) (List.Mem.tail _ (List.Mem.head _)), fun q hq => off q (List.Mem.tail _ (List.Mem.tail _ hq))⟩⟩
    refine deed5 (s := { s with heap := h, toks := tk }) (i := 0 + (i : Int) * 1) (ti := t2) K2 B F3 X T hdp hu N3 ((if_neg (by decide)).trans q7) (if_pos rfl) (by omega) (by omega) fun h4 tk4 es' n' es2' n2' D' num tn m4 hnum K4 mt4 mn4 F4 N4 => ?_
    refine lists5 (s := { s with heap := h4, toks := tk4 }) K4 F4 X T hu N4 mt4 fun h5 tk5 F5 N5 => ?_
    refine asks5 (s := { s with heap := h5, toks := tk5 }) K4 B F5 X T hdp hu N5 mt4 mn4 hnum fun h6 tk6 m6 mt6 F6 N6 => ?_
    exact hQ _ _ (.mk F6 N6 (offs es' n' es2' n2') ⟨rfl, .mk K4.nil' mt6⟩)
  · intro m' nw h tk hJ F3 N3
    cases hJ with
    | @mk es n es2 n2 D K1 q7 => exact ret h tk es n es2 n2 D m' K1 q7 F3 N3
end
end Mine
end
section
open PySem PySem.W PySem.Calls PyProof.Rows PyProof.Rows.LCg
set_option Elab.async false
set_option maxRecDepth 100000
set_option maxHeartbeats 1000000
set_option linter.unusedVariables false
set_option pp.maxSteps 3000
set_option pp.deepTerms false
set_option pp.deepTerms.threshold 6
namespace Mine
theorem kf_lawnames {P} : nsIn (Mine.hd.heap_39 P) mainGlobals (Str.ofString "_law_names") = some (some (.ref 175)) := by kernel_rfl
theorem texts8_idx : ∀ {vs : List Value}, vs.length ≤ (texts8 vs).length → ∀ {i : Nat} {v : Value}, vs[i]? = some v → ∃ x t, v = .str x t ∧ (texts8 vs)[i]? = some x := by
  intro vs
  induction vs with
  | nil => intro _ i v h; simp at h
  | cons a vs ih =>
    intro hl i v h
    have hle : ∀ l : List Value, (texts8 l).length ≤ l.length := fun l => List.length_filterMap_le _ _
    cases a with
    | str x t =>
      have e : texts8 (.str x t :: vs) = x :: texts8 vs := rfl
      rw [e] at hl ⊢
      cases i with
      | zero => cases h; exact ⟨x, t, rfl, rfl⟩
      | succ i =>
        obtain ⟨y, u, e1, e2⟩ := ih (by simpa using hl) (i := i) (by simpa using h)
        exact ⟨y, u, e1, e2⟩
    | _ => exact absurd (Nat.le_trans hl (hle vs)) (by simp)
theorem names_at {prog : Program} {w : World} {A : Around} {s : Shared} {E : Value → Shared → Prop} {value slice : PySem.Expr} {k : Int} {u : Tok} {Q : Value → Shared → Prop} (X : (Mine.hd.heap_39 w.params).In s.heap) (h0 : 0 ≤ k) (h1 : k < 8) (h : ∀ nm t, nm8[k.toNat]? = some nm → Q (.str nm t) s)
    (hs : subscripted slice false (.ref 175) (.int k u) = operate [.ref 175, .int k u] (getItem (.ref 175) (.int k u))) :
    wpAny (model prog w) A (subscriptTail value slice (.ref 175) (.int k u)) Q E s := by
  have hb := kf_names (P := w.params)
  cases hl : (Mine.hd.heap_39 w.params).lookup 175 with
  | none => rw [hl] at hb; cases hb
  | some o =>
    rw [hl] at hb
    have hb : list8 o = true := hb
    have ho := X _ _ hl
    unfold list8 at hb
    split at hb
    · rename_i vs c sl heq
      simp only [Bool.and_eq_true, beq_iff_eq] at hb
      have hL : s.heap.IsList 175 vs := ⟨_, ho, rfl, c, rfl⟩
      have hlt : k.toNat < vs.toList.length := by rw [Array.length_toList, hb.2]; omega
      have hx : vs.toList[k.toNat]? = some vs.toList[k.toNat] := by simp [hlt]
      obtain ⟨x, t, e, hm⟩ := texts8_idx (by rw [hb.1, Array.length_toList, hb.2]; decide) hx
      rw [hb.1] at hm
      refine PyProof.Rows.tail_any hL.typeIs slot_list_getitem.lookup (wpAny_getItem_list hL h0 (by omega) (x := .str x t) ?_ (h x t hm)) hs
      rw [← Array.getElem?_toList, hx, e]
    · cases hb
noncomputable def ordAt (a : Int) (i : Nat) : Str := nm8.getD ((a + 3 * (i : Int)).fmod 8).toNat (Str.ofString "Z")
noncomputable def ordL (a : Int) (n : Nat) : List Str := (List.range n).map (ordAt a)
theorem ordL_len (a : Int) (n : Nat) : (ordL a n).length = n := by simp [ordL]
theorem ordL_nd (a : Int) (n : Nat) (hn : n < 6) : (ordL a n).Nodup := by
  have h8 : ∀ r ∈ List.range 8, ∀ n ∈ List.range 6, (ordL (r : Nat) n).Nodup := by decide +kernel
  have e : ordL a n = ordL ((a.emod 8).toNat : Nat) n := by
    unfold ordL
    refine List.map_congr_left fun i _ => ?_
    unfold ordAt
    have h1 : (a + 3 * (i : Int)).fmod 8 = (((a.emod 8).toNat : Int) + 3 * (i : Int)).fmod 8 := by
      rw [Int.fmod_eq_emod_of_nonneg _ (by decide), Int.fmod_eq_emod_of_nonneg _ (by decide)]
      have : ((a.emod 8).toNat : Int) = a % 8 := Int.toNat_of_nonneg (Int.emod_nonneg _ (by decide))
      rw [this]
      omega
    rw [h1]
  rw [e]
  have hr : a.emod 8 < 8 := Int.emod_lt_of_pos _ (by decide)
  have hr0 : 0 ≤ a.emod 8 := Int.emod_nonneg _ (by decide)
  exact h8 _ (List.mem_range.mpr (by omega)) _ (List.mem_range.mpr hn)
theorem ordL_nm (a : Int) (n : Nat) : ∀ k ∈ ordL a n, k ∈ nm8 := by
  intro k hk
  obtain ⟨i, _, rfl⟩ := List.mem_map.mp hk
  unfold ordAt
  have h0 := Int.fmod_nonneg_of_pos (a + 3 * (i : Int)) (b := 8) (by decide)
  have h1 := Int.fmod_lt_of_pos (a + 3 * (i : Int)) (b := 8) (by decide)
  have hl : nm8.length = 8 := rfl
  rw [List.getD_eq_getElem?_getD, List.getElem?_eq_getElem (by rw [hl]; omega)]
  exact List.getElem_mem _
section
variable {w : World} {p : Program} {loose : List Str} {mean : ExcName → Option Value} {mg mb : Str → Option Value} {dp un : Nat} {gd : Option (List Code)} {a : Addr} {ccd : Value} {A₀ : Around} {base h₀ : Heap} {L c1 c2 c3 : Addr} {m : Str → Option Value} {news : List (Addr × Obj)} {s : Shared} {E : Value → Shared → Prop}
theorem stage6 {ns : List Int} {o3 : Obj} {g : Obj → List (Addr × Obj)} {Q : Flow → Shared → Prop} (F : Fr h₀ L s.heap m) (X : (Mine.hd.heap_39 w.params).In h₀) (N : News h₀ L s.heap news) (T : Top p loose mean mg mb h₀) (HN : HasNums news c1 ns) (U : UpdF c3 o3 news g) (hd3 : o3.data = .cell .none)
    (ret : ∀ Lo vs cnt k o3' h' tk', k < 6 → StrsAre vs (ordL (ns.getD 2 0) k) → o3'.data = .cell (some (.ref Lo)) → Fr h₀ L h' m → News h₀ L h' ((Lo, listOf (List.toArray vs) cnt) :: g o3') → (∀ q ∈ news, q.1 ≠ Lo) → Q .next { s with heap := h', toks := tk' }) :
    wpAny (model PySem.Challenge.rw_be0018_01.row.prog w) (lawTop dp un gd L a ccd c1 c2 c3) (exec (stAt lawBody 6) (lawEnv L a ccd c1 c2 c3)) Q E s := by
  have R1 := topRead_of T
  have hlo := HN.lo
  have hhi := HN.hi
  obtain ⟨Ln, nvs, cntn, ⟨o1, hc1, hd1⟩, hLn, hin⟩ := HN.ex
  refine wpAny_Assign_Name (lc_J (hs := by intro _; rfl) (cl := [(Str.ofString "numbers", c1)]) (Fin := fun ys nw => nw = news ∧ ∃ k, k < 6 ∧ StrsAre ys (ordL (ns.getD 2 0) k)) F rfl rfl (by decide) ?_)
  refine Call_ (nameX_B F X R1 ns_range bb_range (by decide) ?_)
  refine PyProof.Rows.callWith_type1 (spliced_more (wpAny_BinOp (ev_at N HN (fun _ _ _ => rfl) (wpAny_Constant_int ⟨3, _, rfl, by decide, by omega, ⟨_, rfl⟩, fun t => ?_⟩))))
  generalize ns.getD (Int.toNat 3) 0 = num0
  have hm0 := Int.fmod_nonneg_of_pos num0 (b := 6) (by decide)
  have hm1 := Int.fmod_lt_of_pos num0 (b := 6) (by decide)
  refine wpAny_Constant_int (mod_int (by decide) (spliced_none ?_))
  generalize num0.fmod 6 = cnt at hm0 hm1
  refine iter_range_N (s := { s with toks := _ }) F N hm0 (by omega) fun I h1 tk1 hI F1 N1 lI fI => ?_
  refine blk_walk (env := lawEnv L a ccd c1 c2 c3) (s := { s with heap := h1, toks := tk1 }) (fp := [I]) (fx := []) (nw₀ := news) (n := cnt.toNat)
    (fun i ys nw => nw = news ∧ StrsAre ys (ordL (ns.getD 2 0) i)) _ ?_
    (Walks.range (A := lawTop dp un gd L a ccd c1 c2 c3) rfl I 0 1 cnt.toNat) (by omega) ?_ ?_ ?_ (by simpa using hI) (fun i h hh => ⟨_, hh⟩) F1 N1 lI fI (fun b hb => .inl (List.mem_singleton.mp hb)) (fun _ _ _ _ q hq => (nomatch hq)) ⟨rfl, .nil⟩ ?_ ?_ ?_
  · rintro ys nw ⟨rfl, hys⟩
    exact ⟨nw, fun q hq => hq, rfl, _, by omega, hys⟩
  · rfl
  · decide
  · rfl
  · rintro i ys nw ⟨rfl, hys⟩
    rw [StrsAre.len hys, ordL_len]; exact Nat.le_refl _
  · rintro i v' ys nw pre C oC h tk m' E' Qt Qf hi' ⟨t1, rfl⟩ ⟨rfl, hys⟩ hC hoC hmx F6 N6 off hQt hQf
    have up : ∀ q ∈ nw, q ∈ pre ++ nw := fun q hq => List.mem_append_right _ hq
    refine wpAny_tests_nil ?_
    refine Subscript_ (LCgL.ld_global (s := { s with heap := h, toks := tk }) F6 X T kf_lawnames ?_ rfl rfl rfl (by decide))
    refine wpAny_BinOp (wpAny_BinOp (Subscript_ (ld_cellC (s := { s with heap := h, toks := tk }) N6 rfl (up _ hc1) hd1 (wpAny_Constant_int ?_) rfl rfl (by decide))))
    refine int_item (s := { s with heap := h, toks := _ }) N6 (up _ hLn) hin (by decide) (by omega) (by omega) (fun t2 => ?_) rfl
    refine wpAny_BinOp (wpAny_Constant_int (LCgL.ld_own (s := { s with heap := h, toks := _ }) N6 (List.mem_append_left _ hC) hoC hmx ?_ rfl rfl (by decide)))
    refine mul_int (add_int (wpAny_Constant_int (mod_int (by decide) ?_))) (IntMulOk.of_left (by decide +kernel))
    have e0 : (0 : Int) + (i : Int) * 1 = i := by omega
    rw [e0]
    have z0 := Int.fmod_nonneg_of_pos (ns.getD (Int.toNat 2) 0 + 3 * (i : Int)) (b := 8) (by decide)
    have z1 := Int.fmod_lt_of_pos (ns.getD (Int.toNat 2) 0 + 3 * (i : Int)) (b := 8) (by decide)
    refine names_at (s := { s with heap := h, toks := _ }) (X.keeps F6.keep) z0 z1 (fun nm t3 hnm => ?_) rfl
    refine hQt _ _ (.mk F6 N6 off ⟨rfl, ?_⟩)
    have e1 : ordL (ns.getD 2 0) (i + 1) = ordL (ns.getD 2 0) i ++ [nm] := by
      unfold ordL
      rw [List.range_succ, List.map_append, List.map_singleton]
      have : ordAt (ns.getD 2 0) i = nm := by
        unfold ordAt
        rw [List.getD_eq_getElem?_getD]
        rw [show (2 : Nat) = Int.toNat 2 from rfl, hnm]; rfl
      rw [this]
    rw [e1]
    exact StrsAre.snoc hys nm t3
  · rintro R h tk ys nw ⟨rfl, k, hk, hys⟩ F6 N6 off
    refine storeX_C F6 N6 rfl (.tail (Ne.symm (off _ (by obtain ⟨own, rest, rfl, _, _, _⟩ := U.split; exact List.mem_append_right _ (List.Mem.head _)))) U) hd3 fun h7 o7 F7 N7 d7 => ?_
    exact ret R ys _ k o7 h7 _ hk hys d7 F7 N7 off
end
end Mine
end
section
open PySem PySem.W PySem.Calls PyProof.Rows PyProof.Rows.LCg
set_option Elab.async false
set_option maxRecDepth 100000
set_option maxHeartbeats 1000000
set_option linter.unusedVariables false
set_option pp.maxSteps 3000
set_option pp.deepTerms false
set_option pp.deepTerms.threshold 6
namespace Mine
theorem isSome_keys {D : List (Str × Value)} {k : Str} : (valueAt D k).isSome = decide (k ∈ D.map (·.1)) := by
  unfold valueAt
  rw [Option.isSome_map]
  by_cases h : k ∈ D.map (·.1)
  · obtain ⟨q, hq, rfl⟩ := List.mem_map.mp h
    rw [decide_eq_true h, List.find?_isSome]
    exact ⟨q, hq, by simp⟩
  · rw [decide_eq_false h, Bool.eq_false_iff]
    intro e
    obtain ⟨q, hq, he⟩ := List.find?_isSome.mp e
    exact h (List.mem_map.mpr ⟨q, hq, of_decide_eq_true he⟩)
section
variable {prog : Program} {w : World} {A : Around} {E : Value → Shared → Prop} {s : Shared} {h₀ : Heap} {L : Addr} {m : Str → Option Value} {news : List (Addr × Obj)}
theorem iter_dict_ {d : Addr} {es : List DictEntry} {ep : Nat} {D : List (Str × Value)} {Q : Value → Shared → Prop} (F : Fr h₀ L s.heap m) (N : News h₀ L s.heap news) (hd : (d, dictOf es ep) ∈ news) (hdm : (d == sysModules) = false) (H : Ent prog w es D)
    (h : ∀ I h', h'.IsKeyIter I d 0 es.length ep → Fr h₀ L h' m → News h₀ L h' news → (∀ p ∈ news, p.1 < I) → (I ≠ L ∧ h₀.get? I = none) → Q (.ref I) { s with heap := h' }) : wpAny (model prog w) A (pyIter (.ref d)) Q E s := by
  have hD : s.heap.DictAt (strKind prog w) d D ep := ⟨_, _, (N _ hd).1, ⟨rfl, rfl, rfl⟩, rfl, H.keys, by simpa using H.pairs, H.nd⟩
  refine wpAny_pyIter_dict hdm hD ?_
  rw [← H.len]
  obtain ⟨F', N'⟩ := keepsFN F N (fun b o e => Heap.get?_push_of_some { cls := .type "dict_keyiterator", data := .fields #[.ref d, .int 0 0, .int es.length 0, .int ep 0] } e)
  exact h _ _ ⟨_, Heap.get?_push_size _ rfl, rfl, rfl⟩ F' N' (fun p hp => Heap.lt_size (N p hp).1) (kdx_fresh F (Nat.le_refl _))
end
section
variable {prog : Program} {w : World} {A : Around} {E : Value → Shared → Prop} {s : Shared} {h₀ : Heap} {L : Addr} {m : Str → Option Value} {env : Env} {news : List (Addr × Obj)}
end
section
variable {w : World} {p : Program} {loose : List Str} {mean : ExcName → Option Value} {mg mb : Str → Option Value} {dp un : Nat} {gd : Option (List Code)} {a : Addr} {ccd : Value} {A₀ : Around} {base h₀ : Heap} {L c1 c2 c3 : Addr} {m : Str → Option Value} {news : List (Addr × Obj)} {s : Shared} {E : Value → Shared → Prop}
/-- keys = [name for name in order if name in due] + sorted([name for name in due if name not in order]) -/
theorem stage7 {Lo d2 : Addr} {ov : List Value} {oc : Nat} {ord : List Str} {es2 : List DictEntry} {n2 : Nat} {D : List (Str × Value)} {Q : Flow → Shared → Prop} (F : Fr h₀ L s.heap m) (X : (Mine.hd.heap_39 w.params).In h₀) (N : News h₀ L s.heap news) (T : Top p loose mean mg mb h₀)
    (HO : HasCell news c3 (.ref Lo)) (hLo : (Lo, listOf (List.toArray ov) oc) ∈ news) (hov : StrsAre ov ord) (hoz : ord.length < 60) (HC : HasCell news c2 (.ref d2)) (hd2 : (d2, dictOf es2 n2) ∈ news) (hdm : (d2 == sysModules) = false) (H2 : Ent PySem.Challenge.rw_be0018_01.row.prog w es2 D) (hI : AllInt D)
    (ret : ∀ R vs ts cnt h' tk' m', ts.Perm ((D.map (·.1)).filter fun k => decide (k ∈ ord) == false) → sortedS ts = true → StrsAre vs ((ord.filter fun k => decide (k ∈ D.map (·.1))) ++ ts) → (∀ y, y ≠ Str.ofString "keys" → m' y = m y) → m' (Str.ofString "keys") = some (.ref R) → Fr h₀ L h' m' → News h₀ L h' ((R, listOf (List.toArray vs) cnt) :: news) → (∀ q ∈ news, q.1 < R) → Q .next { s with heap := h', toks := tk' }) :
    wpAny (model PySem.Challenge.rw_be0018_01.row.prog w) (lawTop dp un gd L a ccd c1 c2 c3) (exec (stAt lawBody 7) (lawEnv L a ccd c1 c2 c3)) Q E s := by
  have R1 := topRead_of T
  have hlo := StrsAre.len hov
  have hl2 := H2.len
  have h8 := nm8_len hI H2.nd
  obtain ⟨o3, hc3, hd3⟩ := HO
  obtain ⟨o2, hc2, hd2c⟩ := HC
  refine wpAny_Assign_Name (wpAny_BinOp (lc_J (hs := by intro _; rfl) (cl := [(Str.ofString "due", c2)]) (Fin := fun ys nw => nw = news ∧ StrsAre ys (ord.filter fun k => decide (k ∈ D.map (·.1)))) F rfl rfl (by decide) ?_))
  refine nameX_C N rfl hc3 hd3 ?_
  refine iter_list_ F N hLo fun I h1 hIt hIl F1 N1 lI fI => ?_
  refine blk_walk (env := lawEnv L a ccd c1 c2 c3) (s := { s with heap := h1 }) (fp := [I, Lo]) (fx := [(Lo, listOf ov.toArray oc)]) (nw₀ := news) (n := ov.toArray.size)
    (fun i ys nw => nw = news ∧ StrsAre ys ((ord.take i).filter fun k => decide (k ∈ D.map (·.1)))) _ ?_
    (Walks.list (A := lawTop dp un gd L a ccd c1 c2 c3) rfl I Lo (Nat.ne_of_lt (lI _ hLo)) ov.toArray) (by rw [List.size_toArray]; omega) rfl (by decide) rfl ⟨hIt, hIl⟩ (fun i h hh => let ⟨⟨o, e, _⟩, _⟩ := hh; ⟨o, e⟩) F1 N1 lI fI ?_ ?_ ⟨rfl, .nil⟩ ?_ ?_ (fun Ra h2 tk2 ys2 nw2 hf2 F2 N2 off2 => ?_)
  · rintro ys nw ⟨rfl, hys⟩
    refine ⟨nw, fun q hq => hq, rfl, ?_⟩
    rwa [List.take_of_length_le (by rw [List.size_toArray, hlo]; exact Nat.le_refl _)] at hys
  · intro b hb
    rcases List.mem_cons.mp hb with rfl | hb
    · exact .inl rfl
    · rw [List.mem_singleton.mp hb]; exact .inr ⟨_, List.Mem.head _⟩
  · rintro i ys nw ⟨rfl, _⟩ q hq
    rw [List.mem_singleton.mp hq]; exact hLo
  · rintro i ys nw ⟨rfl, hys⟩
    rw [StrsAre.len hys]
    refine Nat.le_trans (List.length_filter_le _ _) ?_
    rw [List.length_take]; exact Nat.min_le_left _ _
  · rintro i v' ys nw pre C oC h tk m' E' Qt Qf hi' hP ⟨rfl, hys⟩ hC hoC hmx F6 N6 off hQt hQf
    rw [List.getElem?_toArray] at hP
    obtain ⟨k, kt, rfl, hkk⟩ := strs_at hov hP
    have up : ∀ q ∈ nw, q ∈ pre ++ nw := fun q hq => List.mem_append_right _ hq
    refine wpAny_tests_one (wpAny_isTrue_Compare1 (LCgL.ld_own (s := { s with heap := h, toks := tk }) N6 (List.mem_append_left _ hC) hoC hmx (ld_cellC (s := { s with heap := h, toks := tk }) N6 rfl (up _ hc2) hd2c ?_ rfl rfl (by decide)) rfl rfl (by decide)))
    refine in_dictE (s := { s with heap := h, toks := tk }) (N6 _ (up _ hd2)).1 hdm H2 (wpAny_truthy_bool ?_)
    rw [isSome_keys]
    have tk1 : ord.take (i + 1) = ord.take i ++ [k] := by rw [List.take_add_one, hkk]; rfl
    by_cases hb : k ∈ D.map (·.1)
    · rw [decide_eq_true hb, if_pos rfl]
      refine LCgL.ld_own (s := { s with heap := h, toks := _ }) N6 (List.mem_append_left _ hC) hoC hmx (hQt _ _ (.mk F6 N6 off ⟨rfl, ?_⟩)) rfl rfl (by decide)
      rw [tk1, List.filter_append, show List.filter (fun k => decide (k ∈ D.map (·.1))) [k] = [k] from by rw [List.filter_cons, if_pos (decide_eq_true hb)]; rfl]
      exact StrsAre.snoc hys k kt
    · rw [decide_eq_false hb, if_neg (by decide)]
      refine hQf _ (.mk F6 N6 off ⟨rfl, ?_⟩)
      rw [tk1, List.filter_append, show List.filter (fun k => decide (k ∈ D.map (·.1))) [k] = [] from by rw [List.filter_cons, if_neg (by rw [decide_eq_false hb]; decide)]; rfl, List.append_nil]
      exact hys
  obtain ⟨rfl, hS1⟩ := hf2
  -- sorted([name for name in due if name not in order])
  refine Call_ (nameX_B F2 X R1 ns_sorted bb_sorted (by decide) ?_)
  have up2 : ∀ q ∈ nw2, q ∈ (Ra, lst ys2) :: nw2 := fun q hq => List.Mem.tail _ hq
  refine PyProof.Rows.callWith_builtin1 (spliced_more (lc_J (hs := by intro _; rfl) (cl := [(Str.ofString "order", c3)]) (Fin := fun ys nw => nw = (Ra, lst ys2) :: nw2 ∧ StrsAre ys ((D.map (·.1)).filter fun k => decide (k ∈ ord) == false)) F2 rfl rfl (by decide) ?_))
  refine nameX_C N2 rfl (up2 _ hc2) hd2c ?_
  refine iter_dict_ (s := { s with heap := h2, toks := tk2 }) F2 N2 (up2 _ hd2) hdm H2 fun J h3 hJt F3 N3 lJ fJ => ?_
  have hdJ : d2 ≠ J := Nat.ne_of_lt (lJ _ (up2 _ hd2))
  refine blk_walk (env := lawEnv L a ccd c1 c2 c3) (s := { s with heap := h3, toks := tk2 }) (fp := [J, d2]) (fx := [(d2, dictOf es2 n2)]) (nw₀ := (Ra, lst ys2) :: nw2) (n := es2.length)
    (fun i ys nw => nw = (Ra, lst ys2) :: nw2 ∧ StrsAre ys (((D.map (·.1)).take i).filter fun k => decide (k ∈ ord) == false)) _ ?_
    (walks_keys (A := lawTop dp un gd L a ccd c1 c2 c3) rfl J d2 hdJ (.type "dict") none es2 n2) (by omega) rfl (by decide) rfl ⟨hJt, (N3 _ (up2 _ hd2)).1⟩ (fun i h hh => let ⟨⟨o, e, _⟩, _⟩ := hh; ⟨o, e⟩) F3 N3 lJ fJ ?_ ?_ ⟨rfl, .nil⟩ ?_ ?_ (fun Rb h4 tk4 ys4 nw4 hf4 F4 N4 off4 => ?_)
  · rintro ys nw ⟨rfl, hys⟩
    refine ⟨_, fun q hq => hq, rfl, ?_⟩
    rwa [List.take_of_length_le (by rw [List.length_map, hl2]; exact Nat.le_refl _)] at hys
  · intro b hb
    rcases List.mem_cons.mp hb with rfl | hb
    · exact .inl rfl
    · rw [List.mem_singleton.mp hb]; exact .inr ⟨_, List.Mem.head _⟩
  · rintro i ys nw ⟨rfl, _⟩ q hq
    rw [List.mem_singleton.mp hq]; exact up2 _ hd2
  · rintro i ys nw ⟨rfl, hys⟩
    rw [StrsAre.len hys]
    refine Nat.le_trans (List.length_filter_le _ _) ?_
    rw [List.length_take]; exact Nat.min_le_left _ _
  · rintro i v' ys nw pre C oC h tk m' E' Qt Qf hi' ⟨e, he, rfl⟩ ⟨rfl, hys⟩ hC hoC hmx F6 N6 off hQt hQf
    have hiD : i < D.length := by rw [← hl2]; exact hi'
    obtain ⟨hkey, _⟩ := H2.pairs.get? he (List.getElem?_eq_getElem hiD)
    obtain ⟨kt, hkt⟩ := key_str hkey
    rw [hkt] at hmx
    have hkD : (D.map (·.1))[i]? = some (D.get ⟨i, hiD⟩).1 := by rw [List.getElem?_map, List.getElem?_eq_getElem hiD]; rfl
    generalize (D.get ⟨i, hiD⟩).1 = k at hkD hmx
    have up : ∀ q ∈ nw2, q ∈ pre ++ (Ra, lst ys2) :: nw2 := fun q hq => List.mem_append_right _ (List.Mem.tail _ hq)
    refine wpAny_tests_one (wpAny_isTrue_Compare1 (LCgL.ld_own (s := { s with heap := h, toks := tk }) N6 (List.mem_append_left _ hC) hoC hmx (ld_cellC (s := { s with heap := h, toks := tk }) N6 rfl (up _ hc3) hd3 ?_ rfl rfl (by decide)) rfl rfl (by decide)))
    refine notin_list_strs (s := { s with heap := h, toks := tk }) ⟨_, (N6 _ (up _ hLo)).1, rfl, _, rfl⟩ hov (wpAny_truthy_bool ?_)
    have hany : (!(ord.any (· == k))) = (decide (k ∈ ord) == false) := by
      by_cases hb : k ∈ ord
      · have : ord.any (· == k) = true := List.any_eq_true.mpr ⟨k, hb, by simp⟩
        rw [this, decide_eq_true hb]; rfl
      · have : ord.any (· == k) = false := by
          rw [Bool.eq_false_iff]; intro h
          obtain ⟨y, hy, e⟩ := List.any_eq_true.mp h
          exact hb (by rw [← eq_of_beq e]; exact hy)
        rw [this, decide_eq_false hb]; rfl
    rw [hany]
    have tk1 : (D.map (·.1)).take (i + 1) = (D.map (·.1)).take i ++ [k] := by rw [List.take_add_one, hkD]; rfl
    cases hb : (decide (k ∈ ord) == false) with
    | true =>
      refine LCgL.ld_own (s := { s with heap := h, toks := _ }) N6 (List.mem_append_left _ hC) hoC hmx (hQt _ _ (.mk F6 N6 off ⟨rfl, ?_⟩)) rfl rfl (by decide)
      rw [tk1, List.filter_append, show List.filter (fun k => decide (k ∈ ord) == false) [k] = [k] from by rw [List.filter_cons, if_pos hb]; rfl]
      exact StrsAre.snoc hys k kt
    | false =>
      refine hQf _ (.mk F6 N6 off ⟨rfl, ?_⟩)
      rw [tk1, List.filter_append, show List.filter (fun k => decide (k ∈ ord) == false) [k] = [] from by rw [List.filter_cons, if_neg (by rw [hb]; decide)]; rfl, List.append_nil]
      exact hys
  obtain ⟨rfl, hS2⟩ := hf4
  have hz4 : ys4.length < 64 := by
    rw [StrsAre.len hS2]
    refine Nat.lt_of_le_of_lt (List.length_filter_le _ _) ?_
    rw [List.length_map]; omega
  refine spliced_none ?_
  refine sorted_N_str (s := { s with heap := h4, toks := tk4 }) F4 N4 ⟨_, (N4 _ (List.Mem.head _)).1, rfl, _, rfl⟩ hS2 hz4 fun h5 vs5 ss5 e5 F5 N5 S5 P5 srt5 => ?_
  refine add_arrays (s := { s with heap := h5, toks := tk4 }) (its := ys2.toArray) (its2 := vs5.toArray) F5 N5 ⟨_, (N5 _ (List.Mem.tail _ (List.Mem.tail _ (List.Mem.head _)))).1, rfl, _, rfl⟩ ⟨_, (N5 _ (List.Mem.head _)).1, rfl, _, rfl⟩ (fun h6 F6 N6 => ?_) ?_
  · dsimp only at N6 ⊢
    have l6 : ∀ q ∈ nw2, q.1 < h5.objs.size := fun q hq => Heap.lt_size (N5 q (List.Mem.tail _ (List.Mem.tail _ (List.Mem.tail _ hq)))).1
    refine storeX_L (s := { s with heap := h6, toks := tk4 }) F6 N6 fun h7 F7 N7 => ?_
    refine ret _ (ys2 ++ vs5) ss5 0 h7 _ _ P5 srt5 (Mine.StrsAre.append hS1 S5) (fun y hy => if_neg hy) (if_pos rfl) F7 (cb_drop N7 fun q hq => ?_) l6
    rcases List.mem_cons.mp hq with rfl | hq
    · exact List.Mem.head _
    · exact List.Mem.tail _ (List.Mem.tail _ (List.Mem.tail _ (List.Mem.tail _ hq)))
  · have h1 := StrsAre.len hS1
    have h2 := StrsAre.len S5
    have h3 : (ord.filter fun k => decide (k ∈ D.map (·.1))).length ≤ ord.length := List.length_filter_le _ _
    have h4 := P5.length_eq
    have h5 : ((D.map (·.1)).filter fun k => decide (k ∈ ord) == false).length ≤ (D.map (·.1)).length := List.length_filter_le _ _
    rw [List.length_map] at h5
    rw [List.size_toArray, List.size_toArray, h1, h2, h4, sizeLine_eq]
    omega
end
end Mine
end
section
open PySem PySem.W PySem.Calls PyProof.Rows PyProof.Rows.LCg
set_option Elab.async false
set_option maxRecDepth 100000
set_option maxHeartbeats 1000000
set_option linter.unusedVariables false
set_option pp.maxSteps 3000
set_option pp.deepTerms false
set_option pp.deepTerms.threshold 6
namespace Mine
theorem kf_items_g {P} : nsIn (Mine.hd.heap_39 P) mainGlobals (Str.ofString "canonsort_items") = some (some (.ref 41)) := by kernel_rfl
theorem kf_items_k {P} : keepIn (Mine.hd.heap_39 P) (.ref 41) = true := by kernel_rfl
section
variable {w : World} {p : Program} {loose : List Str} {mean : ExcName → Option Value} {mg mb : Str → Option Value} {dp un : Nat} {gd : Option (List Code)} {a : Addr} {ccd : Value} {A₀ : Around} {base h₀ : Heap} {L c1 c2 c3 : Addr} {m : Str → Option Value} {rest : List (Addr × Obj)} {s : Shared} {E : Value → Shared → Prop}
/-- what stands when the checks of the order begin -/
structure Canon (w : World) (c2 c3 : Addr) (rest : List (Addr × Obj)) (x dx d2 Lo R : Addr) (es : List DictEntry) (n : Nat) (es2 : List DictEntry) (n2 : Nat) (D : List (Str × Value)) (ov kv : List Value) (oc kc : Nat) (ord ts : List Str) : Prop where
  hx : (x, cdObj dx es n) ∈ rest
  hdx : (dx, dictOf [] 0) ∈ rest
  hd : (d2, dictOf es2 n2) ∈ rest
  hxm : (x == sysModules) = false
  hdm : (d2 == sysModules) = false
  H : Ent PySem.Challenge.rw_be0018_01.row.prog w es D
  H2 : Ent PySem.Challenge.rw_be0018_01.row.prog w es2 D
  hI : AllInt D
  HC : HasCell rest c2 (.ref d2)
  HO : HasCell rest c3 (.ref Lo)
  hLo : (Lo, listOf (List.toArray ov) oc) ∈ rest
  hov : StrsAre ov ord
  hn : ord.Nodup
  hz : ord.length < 60
  hnm : ∀ k ∈ ord, k ∈ nm8
  hR : (R, listOf (List.toArray kv) kc) ∈ rest
  hkv : StrsAre kv ((ord.filter fun k => decide (k ∈ D.map (·.1))) ++ ts)
  perm : ts.Perm ((D.map (·.1)).filter fun k => decide (k ∈ ord) == false)
  srt : sortedS ts = true
variable {x dx d2 Lo R : Addr} {es es2 : List DictEntry} {n n2 oc kc : Nat} {D : List (Str × Value)} {ov kv : List Value} {ord ts : List Str} {ps : Array Value}
theorem Canon.mono (K : Canon w c2 c3 rest x dx d2 Lo R es n es2 n2 D ov kv oc kc ord ts) {rest' : List (Addr × Obj)} (h : ∀ q ∈ rest, q ∈ rest') : Canon w c2 c3 rest' x dx d2 Lo R es n es2 n2 D ov kv oc kc ord ts :=
  ⟨h _ K.hx, h _ K.hdx, h _ K.hd, K.hxm, K.hdm, K.H, K.H2, K.hI, K.HC.mono h, K.HO.mono h, h _ K.hLo, K.hov, K.hn, K.hz, K.hnm, h _ K.hR, K.hkv, K.perm, K.srt⟩
theorem Canon.same (K : Canon w c2 c3 rest x dx d2 Lo R es n es2 n2 D ov kv oc kc ord ts) {ts' : List Str} (h : ts'.Perm ((D.map (·.1)).filter fun k => decide (k ∈ ord) == false)) (hs : sortedS ts' = true) : ts' = ts :=
  sorted_one hs K.srt (h.trans K.perm.symm)
theorem Canon.nm (K : Canon w c2 c3 rest x dx d2 Lo R es n es2 n2 D ov kv oc kc ord ts) : ∀ k ∈ (ord.filter fun k => decide (k ∈ D.map (·.1))) ++ ts, k ∈ nm8 ∧ k ∈ D.map (·.1) := fun k hk => by
  have hD : k ∈ D.map (·.1) := by
    rcases List.mem_append.mp hk with hk | hk
    · simpa using (List.mem_filter.mp hk).2
    · exact (List.mem_filter.mp (K.perm.mem_iff.mp hk)).1
  obtain ⟨q, hq, rfl⟩ := List.mem_map.mp hD
  exact ⟨(K.hI q hq).1, hD⟩
/-- [(name, due[name]) for name in keys] -/
theorem rows8 {news : List (Addr × Obj)} {Q : Value → Shared → Prop} {px p1 p2 p3 p4 p5 p6 pos : Pos} {kk : Nat} {scope : Scope} (K : Canon w c2 c3 news x dx d2 Lo R es n es2 n2 D ov kv oc kc ord ts) (F : Fr h₀ L s.heap m) (N : News h₀ L s.heap news) (mk : m (Str.ofString "keys") = some (.ref R))
    (hclos : closureFor scope (lawEnv L a ccd c1 c2 c3) = pure [(Str.ofString "due", c2)]) (hkind : scope.kind = .function) (hnames : ∀ y ∈ scope.names, y.2 = .local → scope.names.lookup y.1 = some .local) (hcell : ∀ y ∈ scope.names, y.2 ≠ .cell) (lx : scope.names.lookup (Str.ofString "name") = some .local)
    (ldue : ∀ C, (compEnvC scope [(Str.ofString "due", c2)] C (lawEnv L a ccd c1 c2 c3)).kindOf (Str.ofString "due") = some .cell)
    (ret : ∀ R2 vs tups h' tk', PairsIs tups vs (((ord.filter fun k => decide (k ∈ D.map (·.1))) ++ ts).map (rowOf D)) → Fr h₀ L h' m → News h₀ L h' ((R2, lst vs) :: (tups ++ news)) → Q (.ref R2) { s with heap := h', toks := tk' }) :
    wpAny (model PySem.Challenge.rw_be0018_01.row.prog w) (lawTop dp un gd L a ccd c1 c2 c3) (eval (.ListComp (.Tuple [.Name (Str.ofString "name") p1, .Subscript (.Name (Str.ofString "due") p2) (.Name (Str.ofString "name") p3) p4] kk p5) [⟨.Name (Str.ofString "name") px, .Name (Str.ofString "keys") p6, [], 0⟩] scope pos) (lawEnv L a ccd c1 c2 c3)) Q E s := by
  have hl := StrsAre.len K.hkv
  have hnm := K.nm
  have hSl : kv.length ≤ 200 := by
    have h2 : (ord.filter fun k => decide (k ∈ D.map (·.1))).length ≤ ord.length := List.length_filter_le _ _
    have h3 := K.perm.length_eq
    have h4 : ((D.map (·.1)).filter fun k => decide (k ∈ ord) == false).length ≤ (D.map (·.1)).length := List.length_filter_le _ _
    have h5 := nm8_len K.hI K.H.nd
    have h6 := K.hz
    rw [List.length_map] at h4
    rw [hl, List.length_append, h3]
    omega
  obtain ⟨o2, hc2, hd2c⟩ := K.HC
  generalize hSS : (ord.filter fun k => decide (k ∈ D.map (·.1))) ++ ts = SS at *
  refine lc_J (hs := by intro _; rfl) (cl := [(Str.ofString "due", c2)]) (Fin := fun ys nw => ∃ tups, nw = tups ++ news ∧ PairsIs tups ys (SS.map (rowOf D))) F hclos hkind hnames ?_
  refine nameX_L F mk ?_
  refine iter_list_ F N K.hR fun I h1 hIt hIl F1 N1 lI fI => ?_
  refine blk_walk (env := lawEnv L a ccd c1 c2 c3) (s := { s with heap := h1 }) (fp := [I, R]) (fx := [(R, listOf kv.toArray kc)]) (nw₀ := news) (n := kv.toArray.size)
    (fun i ys nw => ∃ tups, nw = tups ++ news ∧ PairsIs tups ys ((SS.take i).map (rowOf D))) _ ?_
    (Walks.list (A := lawTop dp un gd L a ccd c1 c2 c3) rfl I R (Nat.ne_of_lt (lI _ K.hR)) kv.toArray) (by rw [List.size_toArray]; omega) lx hcell hkind ⟨hIt, hIl⟩ (fun i h hh => let ⟨⟨o, e, _⟩, _⟩ := hh; ⟨o, e⟩) F1 N1 lI fI ?_ ?_ ⟨[], rfl, .nil⟩ ?_ ?_ (fun Ra h2 tk2 ys2 nw2 hf2 F2 N2 off2 => ?_)
  · rintro ys nw ⟨tups, rfl, hp⟩
    refine ⟨_, fun q hq => hq, tups, rfl, ?_⟩
    rwa [List.take_of_length_le (by rw [List.size_toArray, hl]; exact Nat.le_refl _)] at hp
  · intro b hb
    rcases List.mem_cons.mp hb with rfl | hb
    · exact .inl rfl
    · rw [List.mem_singleton.mp hb]; exact .inr ⟨_, List.Mem.head _⟩
  · rintro i ys nw ⟨tups, rfl, _⟩ q hq
    rw [List.mem_singleton.mp hq]; exact List.mem_append_right _ K.hR
  · rintro i ys nw ⟨tups, rfl, hp⟩
    rw [hp.len, List.length_map, List.length_take]; exact Nat.min_le_left _ _
  · rintro i v' ys nw pre C oC h tk m' E' Qt Qf hi' hP ⟨tups, rfl, hp⟩ hC hoC hmx F6 N6 off hQt hQf
    rw [List.getElem?_toArray] at hP
    obtain ⟨k, kt, rfl, hkk⟩ := strs_at K.hkv hP
    obtain ⟨hk8, hkD⟩ := hnm k (by rw [← hSS]; exact List.mem_of_getElem? hkk)
    obtain ⟨u, hu', hmem⟩ := valueAt_has hkD K.H.nd
    obtain ⟨_, ui, ut, hui⟩ := K.hI _ hmem
    have hui : u = .int ui ut := hui
    subst hui
    rw [hSS] at hkk
    have up : ∀ q ∈ news, q ∈ pre ++ (tups ++ news) := fun q hq => List.mem_append_right _ (List.mem_append_right _ hq)
    refine wpAny_tests_nil ?_
    refine Tuple_ (spliced_more (LCgL.ld_own (s := { s with heap := h, toks := tk }) N6 (List.mem_append_left _ hC) hoC hmx ?_ hkind (lookup_relabel_local lx) (by decide)))
    refine spliced_more (Subscript_ (ld_cellC (s := { s with heap := h, toks := tk }) N6 rfl (up _ hc2) hd2c (LCgL.ld_own (s := { s with heap := h, toks := tk }) N6 (List.mem_append_left _ hC) hoC hmx ?_ hkind (lookup_relabel_local lx) (by decide)) hkind (ldue C) (by decide)))
    refine get_dictE (s := { s with heap := h, toks := tk }) (N6 _ (up _ K.hd)).1 K.H2 hu' ?_ (by with_unfolding_all rfl) (by intro _; with_unfolding_all rfl)
    refine spliced_none (newTuple_N (s := { s with heap := h, toks := _ }) F6 N6 (fun h8 F8 N8 => ?_) (by rw [sizeLine_eq]; exact (by decide : 2 ≤ 16777216)))
    have la : ∀ q ∈ pre ++ (tups ++ news), q.1 < h.objs.size := fun q hq => Heap.lt_size (N6 q hq).1
    dsimp only at N8 ⊢
    generalize h.objs.size = at' at N8 la ⊢
    refine hQt _ _ (.mk (nw' := (at', { cls := .type "tuple", data := .seq #[.str k kt, .int ui ut] }) :: (tups ++ news)) F8 (cb_drop N8 fun q hq => ?_) (fun q hq r hr => ?_) ⟨_ :: tups, rfl, ?_⟩)
    · rcases List.mem_append.mp hq with hq | hq
      · exact List.Mem.tail _ (List.mem_append_left _ hq)
      rcases List.mem_cons.mp hq with rfl | hq
      · exact List.Mem.head _
      · exact List.Mem.tail _ (List.mem_append_right _ hq)
    · rcases List.mem_cons.mp hq with rfl | hq
      · exact Nat.ne_of_gt (la r (List.mem_append_left _ hr))
      · exact off q hq r hr
    · rw [List.take_add_one, hkk, Option.toList_some, List.map_append, List.map_singleton]
      have er : rowOf D k = (k, ui) := by rw [rowOf, hu']; rfl
      rw [er]
      exact PairsIs.snoc (hp.mono fun q hq => List.Mem.tail _ hq) (t := kt) (u := ut) (List.Mem.head _)
  · obtain ⟨tups, rfl, hp⟩ := hf2
    exact ret Ra ys2 tups h2 tk2 hp F2 N2
end
end Mine
end
section
open PySem PySem.W PySem.Calls PyProof.Rows PyProof.Rows.LCg
set_option Elab.async false
set_option maxRecDepth 100000
set_option maxHeartbeats 1000000
set_option linter.unusedVariables false
set_option pp.maxSteps 3000
set_option pp.deepTerms false
set_option pp.deepTerms.threshold 6
namespace Mine
section
variable {w : World} {p : Program} {loose : List Str} {mean : ExcName → Option Value} {mg mb : Str → Option Value} {dp un : Nat} {gd : Option (List Code)} {a : Addr} {ccd : Value} {A₀ : Around} {base h₀ : Heap} {L c1 c2 c3 : Addr} {m : Str → Option Value} {rest : List (Addr × Obj)} {s : Shared} {E : Value → Shared → Prop}
variable {x dx d2 Lo R : Addr} {es es2 : List DictEntry} {n n2 oc kc : Nat} {D : List (Str × Value)} {ov kv : List Value} {ord ts : List Str} {ps : Array Value}
theorem stage8 {Q : Flow → Shared → Prop} (K : Canon w c2 c3 rest x dx d2 Lo R es n es2 n2 D ov kv oc kc ord ts) (B : Below A₀ base [] h₀) (F : Fr h₀ L s.heap m) (X : (Mine.hd.heap_39 w.params).In h₀) (T : Top p loose mean mg mb h₀) (C : CodeHd h₀ 34 32) (hdp : dp + 100 < recursionLimit) (hu : un + 1000 < cLine)
    (N : News h₀ L s.heap ((32, tabObj ps) :: rest)) (ht : TabOk ps rest) (h32 : ∀ q ∈ rest, q.1 ≠ 32) (mt : m (Str.ofString "told") = some (.ref x)) (mk : m (Str.ofString "keys") = some (.ref R))
    (ret : ∀ ps' xs h' tk', Fr h₀ L h' m → News h₀ L h' ((32, tabObj ps') :: (xs ++ rest)) → TabOk ps' (xs ++ rest) → (∀ q ∈ xs, q.1 ≠ 32) → Q .next { s with heap := h', toks := tk' }) :
    wpAny (model PySem.Challenge.rw_be0018_01.row.prog w) (lawTop dp un gd L a ccd c1 c2 c3) (exec (stAt lawBody 8) (lawEnv L a ccd c1 c2 c3)) Q E s := by
  have R1 := topRead_of T
  have h8 := nm8_len K.hI K.H.nd
  have K0 := K.mono (rest' := (32, tabObj ps) :: rest) fun q hq => List.Mem.tail _ hq
  refine wpAny_If (isTrue_or (wpAny_isTrue_Compare1 (Call_ (nameX_K F X R1 kf_canon ?_))))
  refine callWith_K X kf_canon_k (spliced_more (keys_of rfl (.cd K0.hx K0.hdx) K.hxm F N X (fun Q' hq => nameX_L F mt hq) fun v h1 F1 N1 l1 => spliced_more (ev_order N1 (K0.HO.mono fun _ hq => List.Mem.tail _ hq) (spliced_none ⟨X.keeps F1.keep, ?_⟩))))
  have hv32 : v ≠ 32 := Nat.ne_of_gt (l1 (32, tabObj ps) (List.Mem.head _))
  refine canon_c (s := { s with heap := h1 }) (ps := ps) (rest := (v, { cls := .type "dict_keys", data := .fields #[.ref x] }) :: rest) B F1 X (cb_drop N1 ?_) T C rfl (room (hk := by decide) hdp) (room (hk := by decide) hu) (ht.mono fun q hq => List.Mem.tail _ hq) ?_ (List.Mem.head _) (List.Mem.tail _ K.hx) K.H (.list (List.Mem.tail _ K.hLo) K.hov) K.hn K.hz (by omega) ?_
  · intro q hq
    rcases List.mem_cons.mp hq with rfl | hq
    · exact List.Mem.tail _ (List.Mem.head _)
    rcases List.mem_cons.mp hq with rfl | hq
    · exact List.Mem.head _
    · exact List.Mem.tail _ (List.Mem.tail _ hq)
  · intro q hq
    rcases List.mem_cons.mp hq with rfl | hq
    · exact hv32
    · exact h32 q hq
  intro Rk ck ps1 xs1 vs1 ts1 h2 tk2 hperm hsrt hS F2 N2 ht2 lx1 lR1 l32
  obtain rfl := K.same hperm hsrt
  have up2 : ∀ q ∈ rest, q ∈ (32, tabObj ps1) :: (xs1 ++ (v, { cls := .type "dict_keys", data := .fields #[.ref x] }) :: rest) := fun q hq => List.Mem.tail _ (List.mem_append_right _ (List.Mem.tail _ hq))
  refine nameX_L F2 mk ?_
  refine ne_strsE (s := { s with heap := h2, toks := tk2 }) N2 (List.Mem.head _) (List.Mem.tail _ (up2 _ K.hR)) hS K.hkv (fun k hk => nm8_ok k (K.nm k hk).1) (by show un + 64 < cLine; omega) (wpAny_truthy_bool ?_)
  have N3 : News h₀ L h2 ((32, tabObj ps1) :: (xs1 ++ (v, { cls := .type "dict_keys", data := .fields #[.ref x] }) :: rest)) := cb_drop N2 fun q hq => List.Mem.tail _ hq
  have K1 := K.mono up2
  refine isTrue_or (wpAny_isTrue_Compare1 (Call_ (nameX_K (s := { s with heap := h2, toks := tk2 }) F2 X R1 kf_items_g ?_)))
  refine callWith_K X kf_items_k (spliced_more (nameX_L F2 mt (spliced_more (ev_order (s := { s with heap := h2, toks := tk2 }) N3 K1.HO (spliced_none ⟨X.keeps F2.keep, ?_⟩)))))
  have up1 : ∀ q ∈ rest, q ∈ xs1 ++ (v, { cls := .type "dict_keys", data := .fields #[.ref x] }) :: rest := fun q hq => List.mem_append_right _ (List.Mem.tail _ hq)
  have h32' : ∀ q ∈ xs1 ++ (v, { cls := .type "dict_keys", data := .fields #[.ref x] }) :: rest, q.1 ≠ 32 := fun q hq => by
    rcases List.mem_append.mp hq with hq | hq
    · exact (lx1 q hq).1
    rcases List.mem_cons.mp hq with rfl | hq
    · exact hv32
    · exact h32 q hq
  refine canonItems_c (s := { s with heap := h2, toks := tk2 }) (ps := ps1) (rest := xs1 ++ (v, { cls := .type "dict_keys", data := .fields #[.ref x] }) :: rest) B F2 X N3 T C rfl (room (hk := by decide) hdp) (room (hk := by decide) hu) ht2 h32' (up1 _ K.hx) (up1 _ K.hdx) K.hxm K.H K.hI (.list (up1 _ K.hLo) K.hov) K.hn K.hz ?_
  intro R2 cnt2 ps2 xs2 vs2 ts2 h3 tk3 hperm2 hsrt2 hP F3 N4 ht3 lx2 offR
  obtain rfl := K.same hperm2 hsrt2
  have up3 : ∀ q ∈ rest, q ∈ (R2, listOf (List.toArray vs2) cnt2) :: (32, tabObj ps2) :: (xs2 ++ (xs1 ++ (v, { cls := .type "dict_keys", data := .fields #[.ref x] }) :: rest)) := fun q hq => List.Mem.tail _ (List.Mem.tail _ (List.mem_append_right _ (up1 q hq)))
  refine rows8 (s := { s with heap := h3, toks := tk3 }) (K.mono up3) F3 N4 mk rfl rfl (by decide) (by decide) rfl (fun _ => rfl) fun R3 vs3 tups h4 tk4 hP3 F4 N5 => ?_
  have P1 : PairsIs ((R3, lst vs3) :: (tups ++ (R2, listOf (List.toArray vs2) cnt2) :: (32, tabObj ps2) :: (xs2 ++ (xs1 ++ (v, { cls := .type "dict_keys", data := .fields #[.ref x] }) :: rest)))) vs2 _ := hP.mono fun q hq => List.Mem.tail _ (List.mem_append_right _ (List.Mem.tail _ (List.Mem.tail _ hq)))
  have P2 : PairsIs ((R3, lst vs3) :: (tups ++ (R2, listOf (List.toArray vs2) cnt2) :: (32, tabObj ps2) :: (xs2 ++ (xs1 ++ (v, { cls := .type "dict_keys", data := .fields #[.ref x] }) :: rest)))) vs3 _ := hP3.mono fun q hq => List.Mem.tail _ (List.mem_append_left _ hq)
  refine ne_pairsE (s := { s with heap := h4, toks := tk4 }) N5 (List.Mem.tail _ (List.mem_append_right _ (List.Mem.head _))) (c2 := vs3.length) (List.Mem.head _) P1 P2 (fun q hq => ?_) (by show un + 64 < cLine; omega) (wpAny_truthy_bool ?_)
  · obtain ⟨k, hk, rfl⟩ := List.mem_map.mp hq
    exact nm8_ok k (K.nm k hk).1
  refine isTrue_or_nil ?_
  refine wpAny_execs_nil ?_
  refine ret ps2 (xs2 ++ xs1) h4 tk4 F4 (cb_drop N5 fun q hq => ?_) (ht3.drop fun q hq => ?_) fun q hq => ?_
  · rcases List.mem_cons.mp hq with rfl | hq
    · exact List.Mem.tail _ (List.mem_append_right _ (List.Mem.tail _ (List.Mem.head _)))
    rcases List.mem_append.mp hq with hq | hq
    · rcases List.mem_append.mp hq with hq | hq
      · exact List.Mem.tail _ (List.mem_append_right _ (List.Mem.tail _ (List.Mem.tail _ (List.mem_append_left _ hq))))
      · exact List.Mem.tail _ (List.mem_append_right _ (List.Mem.tail _ (List.Mem.tail _ (List.mem_append_right _ (List.mem_append_left _ hq)))))
    · exact List.Mem.tail _ (List.mem_append_right _ (up3 q hq))
  · rcases List.mem_append.mp hq with hq | hq
    · exact .inl (List.mem_append_left _ (List.mem_append_left _ hq))
    rcases List.mem_append.mp hq with hq | hq
    · exact .inl (List.mem_append_left _ (List.mem_append_right _ hq))
    rcases List.mem_cons.mp hq with rfl | hq
    · exact .inr (fun vs t e => by cases e; intro e2; cases e2)
    · exact .inl (List.mem_append_right _ hq)
  · rcases List.mem_append.mp hq with hq | hq
    · exact (lx2 q hq).1
    · exact (lx1 q hq).1
end
end Mine
end
section
open PySem PySem.W PySem.Calls PyProof.Rows PyProof.Rows.LCg
set_option Elab.async false
set_option maxRecDepth 100000
set_option maxHeartbeats 1000000
set_option linter.unusedVariables false
set_option pp.maxSteps 3000
set_option pp.deepTerms false
set_option pp.deepTerms.threshold 6
namespace Mine
section
variable {prog : Program} {w : World} {A : Around} {E : Value → Shared → Prop} {s : Shared} {h₀ : Heap} {L : Addr} {m : Str → Option Value} {news : List (Addr × Obj)}
theorem strs_of_at {D : List (Str × Value)} : ∀ {vs : List Value}, vs.length = D.length → (∀ (j : Nat) (v : Value), vs[j]? = some v → ∃ (k : Str) (x : Value), D[j]? = some (k, x) ∧ (strKind prog w).is k v = true) → StrsAre vs (D.map (·.1)) := by
  induction D with
  | nil =>
    intro vs hl _
    rw [List.length_eq_zero_iff.mp hl]; exact .nil
  | cons q D ih =>
    intro vs hl hp
    cases vs with
    | nil => cases hl
    | cons v vs =>
      obtain ⟨k, x, e, hk⟩ := hp 0 v rfl
      obtain ⟨t, rfl⟩ := key_str hk
      have e : q = (k, x) := by simpa using e
      subst e
      exact .cons k t (ih (by simpa using hl) fun j v hj => hp (j + 1) v (by simpa using hj))
/-- sorted(dict) -/
theorem sorted_dict {d : Addr} {es : List DictEntry} {ep : Nat} {D : List (Str × Value)} {Q : Value → Shared → Prop} (hh : A.handled = none) (F : Fr h₀ L s.heap m) (N : News h₀ L s.heap news) (hd : (d, dictOf es ep) ∈ news) (hdm : (d == sysModules) = false) (H : Ent prog w es D) (hz : D.length < 60)
    (h : ∀ R vs ss c h' tk', StrsAre vs ss → ss.Perm (D.map (·.1)) → sortedS ss = true → Fr h₀ L h' m → News h₀ L h' ((R, listOf (List.toArray vs) c) :: news) → (∀ q ∈ news, q.1 < R) → Q (.ref R) { s with heap := h', toks := tk' }) :
    wpAny (model prog w) A (call (.builtin "sorted") [.ref d]) Q E s := by
  have hD : s.heap.DictAt (strKind prog w) d D ep := ⟨_, _, (N _ hd).1, ⟨rfl, rfl, rfl⟩, rfl, H.keys, by simpa using H.pairs, H.nd⟩
  refine call_function_entry kind_sorted plain_sorted entry_sorted (args_sorted1 _) ?_
  unfold Builtin.«sorted»
  refine wpAny_bind (m := checkCount "sorted" 1 1 _) (wpAny_pure ?_)
  refine wpAny_bind (kdu_collect (A := A.in1) (kdl_dict (knd := strKind prog w) (kvs := D) (ep := ep) hdm) hh hD (by rw [sizeLine_eq]; omega) fun h1 tk acc hk hI => ?_)
  have hAB := keepsFN F N hk
  have F1 := hAB.1
  have N1 := hAB.2
  have hS : StrsAre acc.toList (D.map (·.1)) := strs_of_at (by rw [Array.length_toList]; exact hI.1) fun j v hj => hI.2 j v (by rw [← Array.getElem?_toList]; exact hj)
  have hal : acc.toList.length < 64 := by rw [StrsAre.len hS, List.length_map]; omega
  refine wpAny_bind (wpAny_newList ?_ (by rw [sizeLine_eq]; omega))
  have hAB := ks_newsPush (s := { s with heap := h1, toks := tk }) (o := seqObj "list" acc.toList.toArray 0) F1 N1 rfl (Heap.get?_push_at rfl rfl) (fun b o e => Heap.get?_push_of_some _ e)
  have F2 := hAB.1
  have N2 := hAB.2.1
  have l2 := hAB.2.2
  show wpAny _ _ _ _ _ { s with heap := h1.push (seqObj "list" acc.toList.toArray 0), toks := tk }
  generalize h1.objs.size = R at *
  generalize h1.push (seqObj "list" acc.toList.toArray 0) = h2 at *
  have ho := (N2 _ (List.Mem.head _)).1
  refine wpAny_bind (wpAny_holding (wpAny_call_entry slot_list_sort ⟨_, ho, rfl⟩ entry_list_sort (list_sort_treeK strKind_oneLt ho hS.keysOf (fun v₁ v₂ rest e => keyKind_strs (by rw [← e]; exact hS)) hal fun st' a1 a2 => ⟨_, rfl, ?_⟩) (args_list_sort _)))
  obtain ⟨ss', b1, b2, b3⟩ := sorted_out_str hS a1 a2
  obtain ⟨c, hc⟩ := sortedHeap_at (vs := acc.toList) (out := (arrOf st').map (·.2)) ho
  refine wpAny_pure ⟨_, rfl, ?_⟩
  have old : ∀ b o, b ≠ R → h2.get? b = some o → (sortedHeap h2 R acc.toList ((arrOf st').map (·.2))).get? b = some o := fun b o hb e => (sortedHeap_old hb (Heap.lt_size e)).trans e
  have n2 := N2 _ (List.Mem.head _)
  refine h R ((arrOf st').map (·.2)).toList ss' c _ _ b1 b2 b3 ⟨?_, fun b o e => old b o (fun q => by rw [q, n2.2.2] at e; cases e) (F2.keep b o e), F2.above⟩ (fun q hq => ?_) l2
  · obtain ⟨oL, es', ep', hLo, r⟩ := F2.ns
    exact ⟨oL, es', ep', old _ _ (Ne.symm n2.2.1) hLo, r⟩
  · rcases List.mem_cons.mp hq with rfl | hq
    · refine ⟨?_, n2.2⟩
      rw [Array.toArray_toList]; exact hc
    · have z := N2 q (List.Mem.tail _ hq)
      exact ⟨old _ _ (Nat.ne_of_lt (l2 q hq)) z.1, z.2⟩
end
end Mine
end
section
open PySem PySem.W PySem.Calls PyProof.Rows PyProof.Rows.LCg
set_option Elab.async false
set_option maxRecDepth 100000
set_option maxHeartbeats 1000000
set_option linter.unusedVariables false
set_option pp.maxSteps 3000
set_option pp.deepTerms false
set_option pp.deepTerms.threshold 6
namespace Mine
theorem kf_sk {P} : findIn (Mine.hd.heap_39 P) (.ref 170) (Str.ofString "sorted_keys") = some (some (.ref 160)) := by kernel_rfl
theorem kf_sk_ty {P} : typeIn (Mine.hd.heap_39 P) (.ref 160) = some (.type "function") := by kernel_rfl
theorem kf_sk_k {P} : keepIn (Mine.hd.heap_39 P) (.ref 160) = true := by kernel_rfl
theorem addAll_self {D : List (Str × Value)} (hn : (D.map (·.1)).Nodup) (hu : ∀ q ∈ D, Txt.upper q.1 = q.1) : addAll [] D = D := by
  have key : ∀ i, i ≤ D.length → addAll [] (D.take i) = D.take i := by
    intro i
    induction i with
    | zero => intro _; rfl
    | succ i ih =>
      intro hi
      have hx : D[i]? = some (D[i].1, D[i].2) := by rw [List.getElem?_eq_getElem (by omega)]
      rw [addAll_succ hx, ih (by omega), hu _ (List.getElem_mem _), stored_take hn hx]
  have := key D.length (Nat.le_refl _)
  rwa [List.take_length] at this
section
variable {w : World} {p : Program} {loose : List Str} {mean : ExcName → Option Value} {mg mb : Str → Option Value} {dp un : Nat} {gd : Option (List Code)} {a : Addr} {ccd : Value} {A₀ : Around} {base h₀ : Heap} {L c1 c2 c3 : Addr} {m : Str → Option Value} {news rest : List (Addr × Obj)} {s : Shared} {E : Value → Shared → Prop} {Q : Flow → Shared → Prop}
variable {x dx y dy d2 : Addr} {es es2 ey : List DictEntry} {n n2 ny : Nat} {D : List (Str × Value)} {ps : Array Value}
theorem stage9 (B : Below A₀ base [] h₀) (F : Fr h₀ L s.heap m) (X : (Mine.hd.heap_39 w.params).In h₀) (T : Top p loose mean mg mb h₀) (hdp : dp + 100 < recursionLimit) (hu : un + 1000 < cLine)
    (N : News h₀ L s.heap news) (hx : (x, cdObj dx es n) ∈ news) (hdx : (dx, dictOf [] 0) ∈ news) (hxm : (x == sysModules) = false) (H : Ent PySem.Challenge.rw_be0018_01.row.prog w es D) (hI : AllInt D) (mt : m (Str.ofString "told") = some (.ref x))
    (ret : ∀ y dy es' n' h' tk' m', Ent PySem.Challenge.rw_be0018_01.row.prog w es' D → m' (Str.ofString "copied") = some (.ref y) → m' (Str.ofString "told") = some (.ref x) → Fr h₀ L h' m' → News h₀ L h' ((y, cdObj dy es' n') :: (dy, dictOf [] 0) :: news) → (∀ p ∈ news, p.1 < dy) → dy < y → Q .next { s with heap := h', toks := tk' }) :
    wpAny (model PySem.Challenge.rw_be0018_01.row.prog w) (lawTop dp un gd L a ccd c1 c2 c3) (exec (stAt lawBody 9) (lawEnv L a ccd c1 c2 c3)) Q E s := by
  have R1 := topRead_of T
  have hlen := H.len
  have h8 := nm8_len hI H.nd
  refine wpAny_Assign_Name (Call_ (nameX_K F X R1 kf_cls_g ?_))
  refine callWith_K X kf_cls_k (spliced_more (nameX_L F mt (spliced_none ⟨X.keeps F.keep, ?_⟩)))
  refine made_c B F X N T rfl (room (hk := by decide) hdp) (room (hk := by decide) hu) (.cd hx hdx) hxm (keysV_of H.pairs fun q hq => Nat.le_trans (nm8_short _ (hI q hq).1) (by decide)) (by omega) fun y dy es' n' h' tk' H' F' N' l1 l2 => ?_
  rw [addAll_self H.nd fun q hq => nm8_up _ (hI q hq).1] at H'
  refine storeX_L F' N' fun h2 F2 N2 => ?_
  exact ret y dy es' n' h2 _ _ H' (if_pos rfl) ((if_neg (by decide)).trans mt) F2 N2 l1 l2
/-- the three equal books -/
structure Three (w : World) (c2 : Addr) (rest : List (Addr × Obj)) (x dx y dy d2 : Addr) (es : List DictEntry) (n : Nat) (ey : List DictEntry) (ny : Nat) (es2 : List DictEntry) (n2 : Nat) (D : List (Str × Value)) : Prop where
  hx : (x, cdObj dx es n) ∈ rest
  hdx : (dx, dictOf [] 0) ∈ rest
  hy : (y, cdObj dy ey ny) ∈ rest
  hdy : (dy, dictOf [] 0) ∈ rest
  hd : (d2, dictOf es2 n2) ∈ rest
  hxm : (x == sysModules) = false
  hym : (y == sysModules) = false
  hdm : (d2 == sysModules) = false
  xy : x ≠ y
  xd : x ≠ d2
  H : Ent PySem.Challenge.rw_be0018_01.row.prog w es D
  Hy : Ent PySem.Challenge.rw_be0018_01.row.prog w ey D
  H2 : Ent PySem.Challenge.rw_be0018_01.row.prog w es2 D
  hI : AllInt D
  HC : HasCell rest c2 (.ref d2)
theorem Three.mono (K : Three w c2 rest x dx y dy d2 es n ey ny es2 n2 D) {rest' : List (Addr × Obj)} (h : ∀ q ∈ rest, q ∈ rest') : Three w c2 rest' x dx y dy d2 es n ey ny es2 n2 D :=
  ⟨h _ K.hx, h _ K.hdx, h _ K.hy, h _ K.hdy, h _ K.hd, K.hxm, K.hym, K.hdm, K.xy, K.xd, K.H, K.Hy, K.H2, K.hI, K.HC.mono h⟩
theorem hits_all {prog : Program} {es : List DictEntry} (H : Ent prog w es D) : D.length = D.length → ∀ A s, KeqHits A s D D true := fun _ A s => hits_same (fun q hq => valueAt_of_mem H.nd hq) A s
theorem stage10 (K : Three w c2 rest x dx y dy d2 es n ey ny es2 n2 D) (B : Below A₀ base [] h₀) (F : Fr h₀ L s.heap m) (X : (Mine.hd.heap_39 w.params).In h₀) (T : Top p loose mean mg mb h₀) (C : CodeHd h₀ 34 32) (hdp : dp + 100 < recursionLimit) (hu : un + 1000 < cLine)
    (N : News h₀ L s.heap ((32, tabObj ps) :: rest)) (ht : TabOk ps rest) (h32 : ∀ q ∈ rest, q.1 ≠ 32) (mt : m (Str.ofString "told") = some (.ref x)) (mc : m (Str.ofString "copied") = some (.ref y))
    (ret : ∀ ps' h' tk', Fr h₀ L h' m → News h₀ L h' ((32, tabObj ps') :: rest) → Q .next { s with heap := h', toks := tk' }) :
    wpAny (model PySem.Challenge.rw_be0018_01.row.prog w) (lawTop dp un gd L a ccd c1 c2 c3) (exec (stAt lawBody 10) (lawEnv L a ccd c1 c2 c3)) Q E s := by
  have R1 := topRead_of T
  have h8 := nm8_len K.hI K.H.nd
  have K0 := K.mono (rest' := (32, tabObj ps) :: rest) fun q hq => List.Mem.tail _ hq
  have tt : (D.length == D.length && true) = true := by simp
  refine wpAny_If (isTrue_or (isTrue_not (wpAny_isTrue_Compare1 (nameX_L F mc (nameX_L F mt ?_)))))
  refine cmp_eq B F X N T rfl (by omega) (by omega) (.cd K0.hy K0.hdy) (.cd K0.hx K0.hdx) K.hym K.hxm (Ne.symm K.xy) K.Hy K.H (by omega) (by omega) (hits_all K.H) fun h1 tk1 F1 N1 => wpAny_truthy_bool ?_
  rw [tt, if_neg (by decide)]
  refine isTrue_or (isTrue_not (wpAny_isTrue_Compare1 (nameX_L F1 mt (ev_due N1 K0.HC ?_))))
  refine cmp_eq (s := { s with heap := h1, toks := tk1 }) B F1 X N1 T rfl (by omega) (by omega) (.cd K0.hx K0.hdx) (.dict K0.hd) K.hxm K.hdm K.xd K.H K.H2 (by omega) (by omega) (hits_all K.H) fun h2 tk2 F2 N2 => wpAny_truthy_bool ?_
  rw [tt, if_neg (by decide)]
  refine isTrue_or (wpAny_isTrue_Compare1 (nameX_L F2 mt (ev_due N2 K0.HC ?_)))
  refine cmp_ne (s := { s with heap := h2, toks := tk2 }) B F2 X N2 T rfl (by omega) (by omega) (.cd K0.hx K0.hdx) (.dict K0.hd) K.hxm K.hdm K.xd K.H K.H2 (by omega) (by omega) (hits_all K.H) fun h3 tk3 F3 N3 => wpAny_truthy_bool ?_
  rw [tt, if_neg (by decide)]
  refine isTrue_or (wpAny_isTrue_Compare1 (MethodCall_ (nameX_L F3 mt ?_) (method_eq rfl rfl)))
  refine method_cd (s := { s with heap := h3, toks := _ }) (X.keeps F3.keep) (inst_cd N3 K0.hx K0.hdx) kf_ga kf_hook kf_sk kf_sk_ty (.inl rfl) (by rfl) ?_
  refine callWith_K0 (X.keeps F3.keep) kf_sk_k ?_
  refine sortedKeys_c (s := { s with heap := h3, toks := _ }) B F3 X N3 T C rfl (by omega) (by omega) ht h32 K.hx K.hdx K.hxm K.H (by omega) fun R cnt ps1 xs vs ts h4 tk4 hperm hsrt hS F4 N4 ht4 lx lR l32 => ?_
  have up4 : ∀ q ∈ rest, q ∈ (R, listOf (List.toArray vs) cnt) :: (32, tabObj ps1) :: (xs ++ rest) := fun q hq => List.Mem.tail _ (List.Mem.tail _ (List.mem_append_right _ hq))
  refine Call_ (nameX_B F4 X R1 ns_sorted bb_sorted (by decide) ?_)
  refine PyProof.Rows.callWith_builtin1 (spliced_more (ev_due N4 (K.HC.mono up4) (spliced_none ?_)))
  refine sorted_dict (s := { s with heap := h4, toks := tk4 }) rfl F4 N4 (up4 _ K.hd) K.hdm K.H2 (by omega) fun R2 vs2 ss2 cc h5 tk5 S2 P2 srt2 F5 N5 l5 => ?_
  have e : ts = ss2 := sorted_one hsrt srt2 (hperm.trans P2.symm)
  subst e
  refine ne_strsE (s := { s with heap := h5, toks := tk5 }) N5 (List.Mem.tail _ (List.Mem.head _)) (List.Mem.head _) hS S2 (fun k hk => allInt_ok K.hI k (hperm.mem_iff.mp hk)) (by show un + 64 < cLine; omega) (wpAny_truthy_bool ?_)
  refine isTrue_or_nil ?_
  refine wpAny_execs_nil (ret ps1 h5 tk5 F5 (cb_drop N5 fun q hq => ?_))
  rcases List.mem_cons.mp hq with rfl | hq
  · exact List.Mem.tail _ (List.Mem.tail _ (List.Mem.head _))
  · exact List.Mem.tail _ (up4 q hq)
end
end Mine
end
section
open PySem PySem.W PySem.Calls PyProof.Rows PyProof.Rows.LCg
set_option Elab.async false
set_option maxRecDepth 100000
set_option maxHeartbeats 1000000
set_option linter.unusedVariables false
set_option pp.maxSteps 3000
set_option pp.deepTerms false
set_option pp.deepTerms.threshold 6
namespace Mine
theorem up_xa : Txt.upper (Str.ofString "x-a") = Str.ofString "X-A" := by decide +kernel
theorem up_XA : Txt.upper (Str.ofString "X-A") = Str.ofString "X-A" := by decide +kernel
theorem stored_has {D : List (Str × Value)} {k : Str} {v : Value} (hn : (D.map (·.1)).Nodup) (hk : k ∈ D.map (·.1)) : (stored D k v).length = D.length ∧ valueAt (stored D k v) k = some v ∧ ∀ q ∈ D, q.1 ≠ k → valueAt (stored D k v) q.1 = some q.2 := by
  obtain ⟨q, hq, e⟩ := List.mem_map.mp hk
  have hany : (D.any fun kv => decide (kv.1 = k)) = true := List.any_eq_true.mpr ⟨q, hq, by simp [e]⟩
  have hD : stored D k v = D.map fun kv => if kv.1 = k then (kv.1, v) else kv := by rw [stored, if_pos hany]
  have hm : (stored D k v).map (·.1) = D.map (·.1) := by rw [hD, keys_map_store]
  have hn' : ((stored D k v).map (·.1)).Nodup := by rw [hm]; exact hn
  refine ⟨by rw [hD, List.length_map], ?_, fun r hr hne => ?_⟩
  · refine valueAt_of_mem (q := (k, v)) hn' ?_
    rw [hD]
    exact List.mem_map.mpr ⟨q, hq, by rw [if_pos e, e]⟩
  · refine valueAt_of_mem hn' ?_
    rw [hD]
    exact List.mem_map.mpr ⟨r, hr, if_neg hne⟩
/-- a text among ints: the books differ -/
theorem hits_differ {D : List (Str × Value)} {k : Str} {x : Str} {t : Tok} (hI : AllInt D) (hn : (D.map (·.1)).Nodup) : (D.length == (stored D k (.str x t)).length && false) = false ∧ (D.length = (stored D k (.str x t)).length → ∀ A s, KeqHits A s (stored D k (.str x t)) D false) := by
  refine ⟨Bool.and_false _, fun hl A s => ?_⟩
  by_cases hk : k ∈ D.map (·.1)
  · obtain ⟨_, h2, h3⟩ := stored_has (v := .str x t) hn hk
    obtain ⟨v, hv, hm⟩ := valueAt_has hk hn
    obtain ⟨_, i, u, e⟩ := hI _ hm
    have e : v = .int i u := e
    subst e
    refine hits_other h2 h3 hm (fun q hq he => ?_) A s
    have := valueAt_of_mem hn hq
    rw [he, hv] at this
    exact (Option.some.inj this).symm
  · rw [stored_new hk, List.length_append, List.length_singleton] at hl
    omega
section
variable {w : World} {p : Program} {loose : List Str} {mean : ExcName → Option Value} {mg mb : Str → Option Value} {dp un : Nat} {gd : Option (List Code)} {a : Addr} {ccd : Value} {A₀ : Around} {base h₀ : Heap} {L c1 c2 c3 : Addr} {m : Str → Option Value} {news rest : List (Addr × Obj)} {s : Shared} {E : Value → Shared → Prop} {Q : Flow → Shared → Prop}
variable {x dx y dy d2 : Addr} {es es2 ey : List DictEntry} {n n2 ny : Nat} {D : List (Str × Value)} {ps : Array Value}
theorem stage11 {fixed : List (Addr × Obj)} (B : Below A₀ base [] h₀) (F : Fr h₀ L s.heap m) (X : (Mine.hd.heap_39 w.params).In h₀) (T : Top p loose mean mg mb h₀) (hdp : dp + 100 < recursionLimit) (hu : un + 1000 < cLine)
    (N : News h₀ L s.heap ((y, cdObj dy ey ny) :: fixed)) (fx : ∀ q ∈ fixed, q.1 ≠ y) (hdy : (dy, dictOf [] 0) ∈ fixed) (Hy : Ent PySem.Challenge.rw_be0018_01.row.prog w ey D) (hI : AllInt D) (mc : m (Str.ofString "copied") = some (.ref y))
    (ret : ∀ ey' ny' t h' tk', Ent PySem.Challenge.rw_be0018_01.row.prog w ey' (stored D (Str.ofString "X-A") (.str (Str.ofString "other") t)) → Fr h₀ L h' m → News h₀ L h' ((y, cdObj dy ey' ny') :: fixed) → Q .next { s with heap := h', toks := tk' }) :
    wpAny (model PySem.Challenge.rw_be0018_01.row.prog w) (lawTop dp un gd L a ccd c1 c2 c3) (exec (stAt lawBody 11) (lawEnv L a ccd c1 c2 c3)) Q E s := by
  have h8 := nm8_len hI Hy.nd
  refine wpAny_Assign_Subscript (wpAny_Constant_str (nameX_L (s := { s with toks := _ }) F mc (wpAny_Constant_str ?_)))
  refine ksp_setItem (s := { s with toks := s.toks + 1 + 1 }) (f := 73) F X (inst_cd N (List.Mem.head _) (List.Mem.tail _ hdy)) kf_noseq kf_set kf_set_fn ?_
  refine set_c (dp := dp) (un := un) (gd := gd) (cs := lawScope) (s := { s with toks := s.toks + 1 + 1 }) (news' := fun es' n' => (y, cdObj dy es' n') :: fixed) B F X N T rfl (room (hk := by decide) hdp) (room (hk := by decide) hu) (List.Mem.head _) (List.Mem.tail _ hdy) (fun es' n' => .head fx) Hy (by omega) (k := Str.ofString "x-a") .str (by decide +kernel) fun ey' ny' h' tk' H' F' N' => ?_
  rw [up_xa] at H'
  exact ret ey' ny' _ h' tk' H' F' N'
theorem eq_bools {b : Bool} {Q : Value → Shared → Prop} (hu : un + 1000 < cLine) (h : Q (.bool true) s) : wpAny (model PySem.Challenge.rw_be0018_01.row.prog w) (lawTop dp un gd L a ccd c1 c2 c3) (compareOp .Eq (.bool b) (.bool b)) Q E s := by
  refine eq_dataH (.bool b) (.bool b) rfl rfl (by show un + 64 < cLine; omega) ?_
  rw [SeqAt.eqv_refl _ rfl]; exact h
theorem stage12 {t : Tok} (B : Below A₀ base [] h₀) (F : Fr h₀ L s.heap m) (X : (Mine.hd.heap_39 w.params).In h₀) (T : Top p loose mean mg mb h₀) (hdp : dp + 100 < recursionLimit) (hu : un + 1000 < cLine)
    (N : News h₀ L s.heap news) (hx : (x, cdObj dx es n) ∈ news) (hdx : (dx, dictOf [] 0) ∈ news) (hy : (y, cdObj dy ey ny) ∈ news) (hdy : (dy, dictOf [] 0) ∈ news) (hd : (d2, dictOf es2 n2) ∈ news) (hxm : (x == sysModules) = false) (hym : (y == sysModules) = false) (hdm : (d2 == sysModules) = false) (xy : x ≠ y) (xd : x ≠ d2)
    (H : Ent PySem.Challenge.rw_be0018_01.row.prog w es D) (H2 : Ent PySem.Challenge.rw_be0018_01.row.prog w es2 D) (Hy : Ent PySem.Challenge.rw_be0018_01.row.prog w ey (stored D (Str.ofString "X-A") (.str (Str.ofString "other") t))) (hI : AllInt D) (HC : HasCell news c2 (.ref d2))
    (mt : m (Str.ofString "told") = some (.ref x)) (mc : m (Str.ofString "copied") = some (.ref y))
    (ret : ∀ h' tk', Fr h₀ L h' m → News h₀ L h' news → Q (.ret (.bool true)) { s with heap := h', toks := tk' }) :
    wpAny (model PySem.Challenge.rw_be0018_01.row.prog w) (lawTop dp un gd L a ccd c1 c2 c3) (exec (stAt lawBody 12) (lawEnv L a ccd c1 c2 c3)) Q E s := by
  have h8 := nm8_len hI H.nd
  have hsl := (stored_len (D := D) (k := Str.ofString "X-A") (v := .str (Str.ofString "other") t)).2
  obtain ⟨b1, b2⟩ := hits_differ (k := Str.ofString "X-A") (x := Str.ofString "other") (t := t) hI H.nd
  have tt : (D.length == D.length && true) = true := by simp
  refine wpAny_Return_some (BoolOp_and (wpAny_Compare1 (nameX_L F mt (nameX_L F mc ?_))))
  refine cmp_ne B F X N T rfl (room (hk := by decide) hdp) (room (hk := by decide) hu) (.cd hx hdx) (.cd hy hdy) hxm hym xy H Hy (by omega) (by omega) b2 fun h1 tk1 F1 N1 => ?_
  rw [b1]
  refine wpAny_truthy_bool ?_
  rw [if_pos (by decide)]
  refine BoolOp_and (wpAny_Compare1 (wpAny_Compare1 (wpAny_Constant_str (nameX_L (s := { s with heap := h1, toks := _ }) F1 mt ?_))))
  refine in_told (s := { s with heap := h1, toks := _ }) B F1 X N1 T hdp hu hx hdx H hxm (k := Str.ofString "X-A") .str (by decide +kernel) fun h2 tk2 F2 N2 => ?_
  refine wpAny_Compare1 (wpAny_Constant_str (ev_due (s := { s with heap := h2, toks := _ }) N2 HC ?_))
  refine in_dictE (s := { s with heap := h2, toks := _ }) (N2 _ hd).1 hdm H2 ?_
  rw [up_XA]
  refine eq_bools hu (wpAny_truthy_bool ?_)
  refine BoolOp_one (wpAny_Compare1 (nameX_L (s := { s with heap := h2, toks := _ }) F2 mt (ev_due (s := { s with heap := h2, toks := _ }) N2 HC ?_)))
  refine cmp_eq (s := { s with heap := h2, toks := _ }) B F2 X N2 T rfl (room (hk := by decide) hdp) (room (hk := by decide) hu) (.cd hx hdx) (.dict hd) hxm hdm xd H H2 (by omega) (by omega) (hits_all H) fun h3 tk3 F3 N3 => ?_
  rw [tt]
  exact ret h3 tk3 F3 N3
end
end Mine
end
section
open PySem PySem.W PySem.Calls PyProof.Rows PyProof.Rows.LCg
set_option Elab.async false
set_option maxRecDepth 100000
set_option maxHeartbeats 1000000
set_option linter.unusedVariables false
set_option linter.unusedSimpArgs false
set_option pp.maxSteps 3000
set_option pp.deepTerms false
set_option pp.deepTerms.threshold 6
namespace Mine
theorem emptyDict {prog : Program} {w : World} {A : Around} {E : Value → Shared → Prop} {s : Shared} {h₀ : Heap} {L : Addr} {m : Str → Option Value} {news : List (Addr × Obj)} {env : Env} {pos : Pos} {Q : Value → Shared → Prop} (F : Fr h₀ L s.heap m) (N : News h₀ L s.heap news) (hlim : h₀.NoLimit)
    (h : ∀ d h', (d == sysModules) = false → Fr h₀ L h' m → News h₀ L h' ((d, dictOf [] 0) :: news) → (∀ p ∈ news, p.1 < d) → Q (.ref d) { s with heap := h' }) : wpAny (model prog w) A (eval (.Dict [] [] pos) env) Q E s := by
  obtain ⟨F', N', l'⟩ := ks_newsPush (s := s) (o := dictOf [] 0) F N rfl (Heap.get?_push_at rfl rfl) (fun b o e => Heap.get?_push_of_some _ e)
  exact wpAny_Dict_empty (h _ _ (F.notModules (modules_low hlim)) F' N' l')
theorem lawBody_is : lawBody = [stAt lawBody 0, stAt lawBody 1, stAt lawBody 2, stAt lawBody 3, stAt lawBody 4, stAt lawBody 5, stAt lawBody 6, stAt lawBody 7, stAt lawBody 8, stAt lawBody 9, stAt lawBody 10, stAt lawBody 11, stAt lawBody 12] := by kernel_rfl
section
variable {w : World} {p : Program} {loose : List Str} {mean : ExcName → Option Value} {mg mb : Str → Option Value} {dp un : Nat} {gd : Option (List Code)} {a : Addr} {ccd : Value} {A₀ : Around} {base h₀ : Heap} {L c1 c2 c3 : Addr} {m : Str → Option Value} {s : Shared} {Q : Flow → Shared → Prop} {E : Value → Shared → Prop}
theorem stage1 {news : List (Addr × Obj)} (F : Fr h₀ L s.heap m) (N : News h₀ L s.heap news) (T : Top p loose mean mg mb h₀)
    (ret : ∀ d h' tk', (d == sysModules) = false → Fr h₀ L h' (fun y => if y = Str.ofString "first" then some (.ref d) else m y) → News h₀ L h' ((d, dictOf [] 0) :: news) → (∀ p ∈ news, p.1 < d) → Q .next { s with heap := h', toks := tk' }) :
    wpAny (model PySem.Challenge.rw_be0018_01.row.prog w) (lawTop dp un gd L a ccd c1 c2 c3) (exec (stAt lawBody 1) (lawEnv L a ccd c1 c2 c3)) Q E s := by
  refine wpAny_Assign_Name (emptyDict F N T.nolimit fun d h' hd F' N' l' => ?_)
  exact storeX_L F' N' fun h2 F2 N2 => ret d h2 _ hd F2 N2 l'
theorem stage2 {news : List (Addr × Obj)} {o2 : Obj} {g : Obj → List (Addr × Obj)} (F : Fr h₀ L s.heap m) (N : News h₀ L s.heap news) (T : Top p loose mean mg mb h₀) (U : UpdF c2 o2 news g) (hd2 : o2.data = .cell .none)
    (ret : ∀ d o2' h' tk', (d == sysModules) = false → o2'.data = .cell (some (.ref d)) → Fr h₀ L h' m → News h₀ L h' ((d, dictOf [] 0) :: g o2') → (∀ p ∈ news, p.1 < d) → Q .next { s with heap := h', toks := tk' }) :
    wpAny (model PySem.Challenge.rw_be0018_01.row.prog w) (lawTop dp un gd L a ccd c1 c2 c3) (exec (stAt lawBody 2) (lawEnv L a ccd c1 c2 c3)) Q E s := by
  refine wpAny_Assign_Name (emptyDict F N T.nolimit fun d h' hd F' N' l' => ?_)
  refine storeX_C F' N' rfl (.tail (Ne.symm (Nat.ne_of_lt (l' (c2, o2) (by obtain ⟨own, rest, rfl, _, _, _⟩ := U.split; exact List.mem_append_right _ (List.Mem.head _))))) U) hd2 fun h7 o7 F7 N7 d7 => ?_
  exact ret d o7 h7 s.toks hd d7 F7 N7 l'
theorem rot_a {α : Type} {a b c : α} {l : List α} : ∀ q ∈ c :: a :: b :: l, q ∈ a :: b :: c :: l := fun q hq => by
  rcases List.mem_cons.mp hq with h | hq
  · exact h ▸ List.Mem.tail _ (List.Mem.tail _ (List.Mem.head _))
  rcases List.mem_cons.mp hq with h | hq
  · exact h ▸ List.Mem.head _
  rcases List.mem_cons.mp hq with h | hq
  · exact h ▸ List.Mem.tail _ (List.Mem.head _)
  · exact List.Mem.tail _ (List.Mem.tail _ (List.Mem.tail _ hq))
theorem swap_a {α : Type} {a b : α} {l : List α} : ∀ q ∈ b :: a :: l, q ∈ a :: b :: l := fun q hq => by
  rcases List.mem_cons.mp hq with h | hq
  · exact h ▸ List.Mem.tail _ (List.Mem.head _)
  rcases List.mem_cons.mp hq with h | hq
  · exact h ▸ List.Mem.head _
  · exact List.Mem.tail _ (List.Mem.tail _ hq)
theorem law_d {x dx d2 Lo R : Addr} {es es2 : List DictEntry} {n n2 oc kc : Nat} {D : List (Str × Value)} {ov kv : List Value} {ord ts : List Str} {rest : List (Addr × Obj)}
    (K : Canon w c2 c3 rest x dx d2 Lo R es n es2 n2 D ov kv oc kc ord ts) (B : Below A₀ base [] h₀) (F : Fr h₀ L s.heap m) (X : (Mine.hd.heap_39 w.params).In h₀) (T : Top p loose mean mg mb h₀) (C : CodeHd h₀ 34 32) (hdp : dp + 100 < recursionLimit) (hu : un + 1000 < cLine)
    (N : News h₀ L s.heap ((32, tabObj #[]) :: rest)) (h32 : ∀ q ∈ rest, q.1 ≠ 32) (xd : x ≠ d2) (mt : m (Str.ofString "told") = some (.ref x)) (mk : m (Str.ofString "keys") = some (.ref R))
    (ret : ∀ ps' h' tk' m' news', Fr h₀ L h' m' → News h₀ L h' news' → (32, tabObj ps') ∈ news' → Q (.ret (.bool true)) { s with heap := h', toks := tk' }) :
    wpAny (model PySem.Challenge.rw_be0018_01.row.prog w) (lawTop dp un gd L a ccd c1 c2 c3) (execs [stAt lawBody 8, stAt lawBody 9, stAt lawBody 10, stAt lawBody 11, stAt lawBody 12] (lawEnv L a ccd c1 c2 c3)) Q E s := by
  refine wpAny_execs_cons (stage8 K B F X T C hdp hu N TabOk.nil h32 mt mk fun ps xs h9 tk9 F N ht hxs => ?_)
  have up : ∀ {p1 p2 p3 : Addr × Obj}, ∀ q ∈ rest, q ∈ p1 :: p2 :: p3 :: (xs ++ rest) := fun q hq => List.Mem.tail _ (List.Mem.tail _ (List.Mem.tail _ (List.mem_append_right _ hq)))
  have up9 : ∀ q ∈ rest, q ∈ (32, tabObj ps) :: (xs ++ rest) := fun q hq => List.Mem.tail _ (List.mem_append_right _ hq)
  refine wpAny_execs_cons (stage9 (s := { s with heap := h9, toks := tk9 }) B F X T hdp hu N (up9 _ K.hx) (up9 _ K.hdx) K.hxm K.H K.hI mt fun y dy ey ny h10 tk10 m10 Hy mc mt F N ldy ly => ?_)
  have l32 : @LT.lt Nat _ 32 dy := ldy _ (List.Mem.head _)
  have lxy : x ≠ y := Nat.ne_of_lt (Nat.lt_trans (ldy _ (up9 _ K.hx)) ly)
  have l32y : @LT.lt Nat _ 32 y := Nat.lt_trans l32 ly
  have hym : (y == sysModules) = false := beq_eq_false_iff_ne.mpr (Nat.ne_of_gt (Nat.lt_trans (by decide : 1 < 32) l32y))
  have up2 : ∀ q ∈ rest, q ∈ (y, cdObj dy ey ny) :: (dy, dictOf [] 0) :: (xs ++ rest) := fun q hq => List.Mem.tail _ (List.Mem.tail _ (List.mem_append_right _ hq))
  refine wpAny_execs_cons (stage10 (s := { s with heap := h10, toks := tk10 }) ⟨up2 _ K.hx, up2 _ K.hdx, List.Mem.head _, List.Mem.tail _ (List.Mem.head _), up2 _ K.hd, K.hxm, hym, K.hdm, lxy, xd, K.H, Hy, K.H2, K.hI, K.HC.mono up2⟩ B F X T C hdp hu (cb_drop N rot_a) (ht.mono fun q hq => List.Mem.tail _ (List.Mem.tail _ hq)) ?_ mt mc fun ps' h11 tk11 F N => ?_)
  · exact List.forall_mem_cons.mpr ⟨Nat.ne_of_gt l32y, List.forall_mem_cons.mpr ⟨Nat.ne_of_gt l32, fun q hq => (List.mem_append.mp hq).elim (hxs q) (h32 q)⟩⟩
  refine wpAny_execs_cons (stage11 (s := { s with heap := h11, toks := tk11 }) (ny := ny) (fixed := (dy, dictOf [] 0) :: (32, tabObj ps') :: (xs ++ rest)) B F X T hdp hu (cb_drop N fun q hq => rot_a _ (rot_a _ hq)) ?_ (List.Mem.head _) Hy K.hI mc fun ey' ny' t h12 tk12 Hy' F N => ?_)
  · exact List.forall_mem_cons.mpr ⟨Nat.ne_of_lt ly, List.forall_mem_cons.mpr ⟨Nat.ne_of_lt l32y, fun q hq => Nat.ne_of_lt (Nat.lt_trans (ldy q (List.Mem.tail _ hq)) ly)⟩⟩
  refine wpAny_execs_cons (stage12 (s := { s with heap := h12, toks := tk12 }) B F X T hdp hu N (up _ K.hx) (up _ K.hdx) (List.Mem.head _) (List.Mem.tail _ (List.Mem.head _)) (up _ K.hd) K.hxm hym K.hdm lxy xd K.H K.H2 Hy' K.hI (K.HC.mono up) mt mc fun h13 tk13 F N => ?_)
  exact ret ps' h13 tk13 m10 _ F N (List.Mem.tail _ (List.Mem.tail _ (List.Mem.head _)))
theorem law_c {x dx d2 : Addr} {es es2 : List DictEntry} {n n2 : Nat} {D : List (Str × Value)} {ns : List Int} {fixed : List (Addr × Obj)} {o3 : Obj} {g3 f4 : Obj → List (Addr × Obj)}
    (K : Books w h₀ L c1 c2 ns x dx d2 [] ((dx, dictOf [] 0) :: fixed) es n es2 n2 D) (B : Below A₀ base [] h₀) (F : Fr h₀ L s.heap m) (X : (Mine.hd.heap_39 w.params).In h₀) (T : Top p loose mean mg mb h₀) (C : CodeHd h₀ 34 32) (hdp : dp + 100 < recursionLimit) (hu : un + 1000 < cLine)
    (N : News h₀ L s.heap (led x dx d2 [] ((dx, dictOf [] 0) :: fixed) es n es2 n2)) (U : UpdF c3 o3 fixed g3) (hd3 : o3.data = .cell .none) (k1 : x ≠ c3) (k2 : d2 ≠ c3) (k3 : dx ≠ c3) (l1 : x ≠ 32) (l2 : d2 ≠ 32) (l3 : dx ≠ 32)
    (m32 : (32, tabObj #[]) ∈ fixed) (g32 : ∀ o, (32, tabObj #[]) ∈ g3 o) (gf : ∀ o, ∀ q ∈ f4 o, q ∈ g3 o) (f32 : ∀ o, ∀ q ∈ f4 o, q.1 ≠ 32) (fc : ∀ o, HasCell (f4 o) c2 (.ref d2)) (fo : ∀ o, (c3, o) ∈ f4 o) (mt : m (Str.ofString "told") = some (.ref x))
    (ret : ∀ ps' h' tk' m' news', Fr h₀ L h' m' → News h₀ L h' news' → (32, tabObj ps') ∈ news' → Q (.ret (.bool true)) { s with heap := h', toks := tk' }) :
    wpAny (model PySem.Challenge.rw_be0018_01.row.prog w) (lawTop dp un gd L a ccd c1 c2 c3) (execs [stAt lawBody 6, stAt lawBody 7, stAt lawBody 8, stAt lawBody 9, stAt lawBody 10, stAt lawBody 11, stAt lawBody 12] (lawEnv L a ccd c1 c2 c3)) Q E s := by
  refine wpAny_execs_cons (stage6 (g := fun o => (x, cdObj dx es n) :: (d2, dictOf es2 n2) :: (dx, dictOf [] 0) :: g3 o) F X N T (K.HN.mono fun q hq => List.Mem.tail _ (List.Mem.tail _ hq)) (.tail k1 (.tail k2 (.tail k3 U))) hd3 fun Lo ov oc k o3 h7 tk7 hk hov hd3 F N sLo => ?_)
  have l4 : Lo ≠ 32 := Ne.symm (sLo _ (List.Mem.tail _ (List.Mem.tail _ (List.Mem.tail _ m32))))
  have hoz : (ordL (ns.getD 2 0) k).length < 60 := by rw [ordL_len]; exact Nat.lt_trans hk (by decide)
  refine wpAny_execs_cons (stage7 (s := { s with heap := h7, toks := tk7 }) F X N T ⟨o3, List.Mem.tail _ (List.Mem.tail _ (List.Mem.tail _ (List.Mem.tail _ (gf _ _ (fo o3))))), hd3⟩ (List.Mem.head _) hov hoz ((fc o3).mono fun q hq => List.Mem.tail _ (List.Mem.tail _ (List.Mem.tail _ (List.Mem.tail _ (gf _ _ hq))))) (List.Mem.tail _ (List.Mem.tail _ (List.Mem.head _))) K.hdm K.H2 K.hI fun R kv ts kc h8 tk8 m8 hperm hsrt hkv mm mk F N lR => ?_)
  refine law_d (s := { s with heap := h8, toks := tk8 }) (es := es) (n := n) (es2 := es2) (n2 := n2) (D := D) (dx := dx) (Lo := Lo) (ov := ov) (kv := kv) (oc := oc) (kc := kc) (ord := ordL (ns.getD 2 0) k) (ts := ts) (rest := (R, listOf kv.toArray kc) :: (Lo, listOf ov.toArray oc) :: (x, cdObj dx es n) :: (d2, dictOf es2 n2) :: (dx, dictOf [] 0) :: f4 o3) ?_ B F X T C hdp hu (cb_drop N ?_) ?_ (Ne.symm K.ne) ((mm (Str.ofString "told") (by decide)).trans mt) mk ret
  · exact ⟨List.Mem.tail _ (List.Mem.tail _ (List.Mem.head _)), List.Mem.tail _ (List.Mem.tail _ (List.Mem.tail _ (List.Mem.tail _ (List.Mem.head _)))), List.Mem.tail _ (List.Mem.tail _ (List.Mem.tail _ (List.Mem.head _))), K.hxm, K.hdm, K.H, K.H2, K.hI, (fc o3).mono fun q hq => List.Mem.tail _ (List.Mem.tail _ (List.Mem.tail _ (List.Mem.tail _ (List.Mem.tail _ hq)))), ⟨o3, List.Mem.tail _ (List.Mem.tail _ (List.Mem.tail _ (List.Mem.tail _ (List.Mem.tail _ (fo o3))))), hd3⟩, List.Mem.tail _ (List.Mem.head _), hov, ordL_nd _ k hk, hoz, ordL_nm _ k, List.Mem.head _, hkv, hperm, hsrt⟩
  · exact List.forall_mem_cons.mpr ⟨List.Mem.tail _ (List.Mem.tail _ (List.Mem.tail _ (List.Mem.tail _ (List.Mem.tail _ (g32 o3))))), List.forall_mem_cons.mpr ⟨List.Mem.head _, List.forall_mem_cons.mpr ⟨List.Mem.tail _ (List.Mem.head _), List.forall_mem_cons.mpr ⟨List.Mem.tail _ (List.Mem.tail _ (List.Mem.head _)), List.forall_mem_cons.mpr ⟨List.Mem.tail _ (List.Mem.tail _ (List.Mem.tail _ (List.Mem.head _))), List.forall_mem_cons.mpr ⟨List.Mem.tail _ (List.Mem.tail _ (List.Mem.tail _ (List.Mem.tail _ (List.Mem.head _)))), fun q hq => List.Mem.tail _ (List.Mem.tail _ (List.Mem.tail _ (List.Mem.tail _ (List.Mem.tail _ (gf _ _ hq)))))⟩⟩⟩⟩⟩⟩
  · exact List.forall_mem_cons.mpr ⟨Ne.symm (Nat.ne_of_lt (lR _ (List.Mem.tail _ (List.Mem.tail _ (List.Mem.tail _ (List.Mem.tail _ (g32 o3))))))), List.forall_mem_cons.mpr ⟨l4, List.forall_mem_cons.mpr ⟨l1, List.forall_mem_cons.mpr ⟨l2, List.forall_mem_cons.mpr ⟨l3, f32 o3⟩⟩⟩⟩⟩
theorem law_b {df d2 : Addr} {ns : List Int} {fixed : List (Addr × Obj)} {rest : List Stmt}
    (B : Below A₀ h₀ [] h₀) (F : Fr h₀ L s.heap m) (X : (Mine.hd.heap_39 w.params).In h₀) (T : Top p loose mean mg mb h₀) (hdp : dp + 100 < recursionLimit) (hu : un + 1000 < cLine)
    (N : News h₀ L s.heap ((df, dictOf [] 0) :: (d2, dictOf [] 0) :: fixed)) (lf : ∀ q ∈ fixed, q.1 < df) (l2 : df < d2) (l1 : @LT.lt Nat _ 1 d2) (HN : HasNums fixed c1 ns) (HC : HasCell fixed c2 (.ref d2)) (hfm : (df == sysModules) = false) (hdm : (d2 == sysModules) = false) (mf : m (Str.ofString "first") = some (.ref df))
    (ret : ∀ h' tk' x dx es n es2 n2 D m', Books w h₀ L c1 c2 ns x dx d2 [] ((dx, dictOf [] 0) :: fixed) es n es2 n2 D → d2 < dx → dx < x → m' (Str.ofString "told") = some (.ref x) → Fr h₀ L h' m' → News h₀ L h' (led x dx d2 [] ((dx, dictOf [] 0) :: fixed) es n es2 n2) →
      wpAny (model PySem.Challenge.rw_be0018_01.row.prog w) (lawTop dp un gd L a ccd c1 c2 c3) (execs rest (lawEnv L a ccd c1 c2 c3)) Q E { s with heap := h', toks := tk' }) :
    wpAny (model PySem.Challenge.rw_be0018_01.row.prog w) (lawTop dp un gd L a ccd c1 c2 c3) (execs (stAt lawBody 3 :: stAt lawBody 4 :: stAt lawBody 5 :: rest) (lawEnv L a ccd c1 c2 c3)) Q E s := by
  have lf2 : ∀ q ∈ fixed, q.1 < d2 := fun q hq => Nat.lt_trans (lf q hq) l2
  refine wpAny_execs_cons (stage3 B F X T hdp hu N (fun q hq => ⟨Nat.ne_of_lt (lf q hq), Nat.ne_of_lt (lf2 q hq)⟩) (Nat.ne_of_gt l2) HN HC hdm mf fun h4 tk4 es1 n1 D1 es2 n2 D m4 hD hl1 hI hz1 H1 H2 mf F N => ?_)
  refine wpAny_execs_cons (stage4 (d := Str.ofString "A") (x0 := Str.ofString "A") (s := { s with heap := h4, toks := tk4 }) B F X T hdp hu N (List.Mem.head _) hfm mf H1 hl1 hz1 fun x dx es n h5 tk5 m5 H mt F N ldx lx => ?_)
  rw [← hD] at H
  have ld2 : d2 < dx := ldx _ (List.Mem.tail _ (List.Mem.head _))
  have lx2 : d2 < x := Nat.lt_trans ld2 lx
  have lfx : ∀ q ∈ fixed, q.1 ≠ x := fun q hq => Nat.ne_of_lt (Nat.lt_trans (lf2 q hq) lx2)
  have hxm : (x == sysModules) = false := beq_eq_false_iff_ne.mpr (Nat.ne_of_gt (Nat.lt_trans l1 lx2))
  have K5 : Books w h₀ L c1 c2 ns x dx d2 [] ((dx, dictOf [] 0) :: fixed) es n es2 n2 D :=
    ⟨(fun _ h => nomatch h), List.forall_mem_cons.mpr ⟨⟨Nat.ne_of_lt lx, Nat.ne_of_gt ld2⟩, fun q hq => ⟨lfx q hq, Nat.ne_of_lt (lf2 q hq)⟩⟩, Nat.ne_of_lt lx2, HN.mono fun q hq => List.Mem.tail _ hq, HC.mono fun q hq => List.Mem.tail _ hq, List.Mem.head _, hdm, hxm, H, H2, hI⟩
  have N5 : News h₀ L h5 (led x dx d2 [] ((dx, dictOf [] 0) :: fixed) es n es2 n2) := cb_drop N (List.forall_mem_cons.mpr ⟨List.Mem.head _, List.forall_mem_cons.mpr ⟨List.Mem.tail _ (List.Mem.tail _ (List.Mem.tail _ (List.Mem.head _))), List.forall_mem_cons.mpr ⟨List.Mem.tail _ (List.Mem.head _), fun q hq => List.Mem.tail _ (List.Mem.tail _ (List.Mem.tail _ (List.Mem.tail _ hq)))⟩⟩⟩)
  refine wpAny_execs_cons (stage5 (s := { s with heap := h5, toks := tk5 }) K5 B F X T hdp hu N5 mt fun h6 tk6 es n es2 n2 D m6 K mt F N => ?_)
  exact ret h6 tk6 x dx es n es2 n2 D m6 K ld2 lx mt F N
theorem keys_lt {l l' : List (Addr × Obj)} {y : Addr} (h : ∀ q ∈ l, q.1 < y) (e : l.map (·.1) = l'.map (·.1)) : ∀ q ∈ l', q.1 < y := fun q hq => by
  have : q.1 ∈ l.map (·.1) := by rw [e]; exact List.mem_map_of_mem hq
  obtain ⟨r, hr, er⟩ := List.mem_map.mp this
  exact er ▸ h r hr
theorem lawRun {ls : Addr} {sv : List Value} {sn : List Int} {o1 o2 o3 : Obj}
    (B : Below A₀ h₀ [] h₀) (F : Fr h₀ L s.heap m) (X : (Mine.hd.heap_39 w.params).In h₀) (T : Top p loose mean mg mb h₀) (C : CodeHd h₀ 34 32) (hdp : dp + 100 < recursionLimit) (hu : un + 1000 < cLine)
    (N : News h₀ L s.heap [(c3, o3), (c2, o2), (c1, o1), (32, tabObj #[])]) (hd1 : o1.data = .cell .none) (hd2 : o2.data = .cell .none) (hd3 : o3.data = .cell .none) (k1 : @LT.lt Nat _ 32 c1) (k2 : @LT.lt Nat _ c1 c2) (k3 : @LT.lt Nat _ c2 c3)
    (ms : m (Str.ofString "script") = some (.ref ls)) (hl : h₀.IsList ls sv.toArray) (hi : IntsAre sv sn) (hz : sn.length ≤ 63)
    (ret : ∀ ps' h' tk' m' news', Fr h₀ L h' m' → News h₀ L h' news' → (32, tabObj ps') ∈ news' → Q (.ret (.bool true)) { s with heap := h', toks := tk' }) :
    wpAny (model PySem.Challenge.rw_be0018_01.row.prog w) (lawTop dp un gd L a ccd c1 c2 c3) (execs lawBody (lawEnv L a ccd c1 c2 c3)) Q E s := by
  rw [lawBody_is]
  refine wpAny_execs_cons (stage0 F X N T ms hl hi hz (g := fun o => [(c3, o3), (c2, o2), (c1, o), (32, tabObj #[])]) (.tail (Nat.ne_of_gt (Nat.lt_trans k2 k3)) (.tail (Nat.ne_of_gt k2) (.head ?_))) hd1 fun Ln nvs cn o1 h1 tk1 hin hd1 F N sLn => ?_)
  · exact List.forall_mem_cons.mpr ⟨Nat.ne_of_lt k1, fun _ h => nomatch h⟩
  refine wpAny_execs_cons (stage1 (s := { s with heap := h1, toks := tk1 }) F N T fun df h2 tk2 hfm F N ldf => ?_)
  have k4 : @LT.lt Nat _ c2 df := ldf (c2, o2) (List.Mem.tail _ (List.Mem.tail _ (List.Mem.head _)))
  refine wpAny_execs_cons (stage2 (s := { s with heap := h2, toks := tk2 }) (g := fun o => (df, dictOf [] 0) :: (Ln, listOf nvs.toArray cn) :: (c3, o3) :: (c2, o) :: [(c1, o1), (32, tabObj #[])]) F N T (.tail (Nat.ne_of_gt k4) (.tail (Ne.symm (sLn (c2, o2) (List.Mem.tail _ (List.Mem.head _)))) (.tail (Nat.ne_of_gt k3) (.head ?_)))) hd2 fun d2 o2 h3 tk3 hdm hd2 F N ld2 => ?_)
  · exact List.forall_mem_cons.mpr ⟨Nat.ne_of_lt k2, List.forall_mem_cons.mpr ⟨Nat.ne_of_lt (Nat.lt_trans k1 k2), fun _ h => nomatch h⟩⟩
  have l2 : df < d2 := ld2 _ (List.Mem.head _)
  have k5 : @LT.lt Nat _ c3 d2 := ld2 (c3, o3) (List.Mem.tail _ (List.Mem.tail _ (List.Mem.head _)))
  have k6 : @LT.lt Nat _ 32 d2 := Nat.lt_trans k1 (Nat.lt_trans k2 (Nat.lt_trans k3 k5))
  refine law_b (s := { s with heap := h3, toks := tk3 }) (ns := lawNums sn) (fixed := (Ln, listOf nvs.toArray cn) :: (c3, o3) :: (c2, o2) :: [(c1, o1), (32, tabObj #[])]) B F X T hdp hu (cb_drop N swap_a) (keys_lt ldf rfl) l2 (Nat.lt_trans (by decide) k6) ⟨⟨Ln, nvs, cn, ⟨o1, List.Mem.tail _ (List.Mem.tail _ (List.Mem.tail _ (List.Mem.head _))), hd1⟩, List.Mem.head _, hin⟩, lawNums_nn sn, by rw [lawNums_len]; omega, by rw [lawNums_len]; omega⟩ ⟨o2, List.Mem.tail _ (List.Mem.tail _ (List.Mem.head _)), hd2⟩ hfm hdm (if_pos rfl) fun h4 tk4 x dx es n es2 n2 D m4 K k7 k8 mt F N => ?_
  have k9 : @LT.lt Nat _ c3 dx := Nat.lt_trans k5 k7
  refine law_c (s := { s with heap := h4, toks := tk4 }) (g3 := fun o => (Ln, listOf nvs.toArray cn) :: (c3, o) :: (c2, o2) :: [(c1, o1), (32, tabObj #[])]) (f4 := fun o => (Ln, listOf nvs.toArray cn) :: (c3, o) :: (c2, o2) :: [(c1, o1)]) K B F X T C hdp hu N (.tail (Ne.symm (sLn (c3, o3) (List.Mem.head _))) (.head ?_)) hd3
    (Nat.ne_of_gt (Nat.lt_trans k9 k8)) (Nat.ne_of_gt k5) (Nat.ne_of_gt k9) (Nat.ne_of_gt (Nat.lt_trans k6 (Nat.lt_trans k7 k8))) (Nat.ne_of_gt k6) (Nat.ne_of_gt (Nat.lt_trans k6 k7))
    (List.Mem.tail _ (List.Mem.tail _ (List.Mem.tail _ (List.Mem.tail _ (List.Mem.head _))))) (fun o => List.Mem.tail _ (List.Mem.tail _ (List.Mem.tail _ (List.Mem.tail _ (List.Mem.head _))))) (fun o q hq => ?_)
    (fun o => ?_)
    (fun o => ⟨o2, List.Mem.tail _ (List.Mem.tail _ (List.Mem.head _)), hd2⟩) (fun o => List.Mem.tail _ (List.Mem.head _)) mt ret
  · exact List.forall_mem_cons.mpr ⟨Nat.ne_of_lt k3, List.forall_mem_cons.mpr ⟨Nat.ne_of_lt (Nat.lt_trans k2 k3), List.forall_mem_cons.mpr ⟨Nat.ne_of_lt (Nat.lt_trans k1 (Nat.lt_trans k2 k3)), fun _ h => nomatch h⟩⟩⟩
  · exact List.mem_append_left [(32, tabObj #[])] hq
  · exact List.forall_mem_cons.mpr ⟨Ne.symm (sLn (32, tabObj #[]) (List.Mem.tail _ (List.Mem.tail _ (List.Mem.tail _ (List.Mem.head _))))), List.forall_mem_cons.mpr ⟨Nat.ne_of_gt (Nat.lt_trans k1 (Nat.lt_trans k2 k3)), List.forall_mem_cons.mpr ⟨Nat.ne_of_gt (Nat.lt_trans k1 k2), List.forall_mem_cons.mpr ⟨Nat.ne_of_gt k1, fun _ h => nomatch h⟩⟩⟩⟩
end
end Mine
end
section
open PySem PySem.W PyProof.Rows
set_option Elab.async false
set_option maxRecDepth 100000
set_option maxHeartbeats 8000000
set_option linter.unusedVariables false
set_option pp.maxSteps 3000
set_option pp.deepTerms false
set_option pp.deepTerms.threshold 6
namespace Mine
theorem lawHolds : PySem.Challenge.rw_be0018_01.Holds := hd (by
  k_go0
  all_goals (try k_fold)
  rename_i hL ra w1 r0 hI hr hz0 hz1 hD h₁ tk₁ o3 o2 o1 d3 d2 d1 X0 X' T' K' F' N' l0
  rename _ = #[] => hg
  refine lawRun (dp := 2 + claimMargin) (un := 7) (gd := some []) (s := ⟨h₁, _, _, tk₁, _⟩) K' F' X' T' codeHd (by decide) (by decide) N' (d1.trans rfl) (d2.trans rfl) (d3.trans rfl) (Nat.lt_succ_of_lt l0) ?k2 ?k3 ?ms lifted hI (by omega) fun ps' h' tk' m' news' F N mem => ?_
  case ms => rfl
  case k2 => exact Nat.lt_succ_self _
  case k3 => exact Nat.lt_succ_self _
  refine ⟨?_, GrownAt.of N mem, trivial⟩
  kc_close)
end Mine
end
theorem PySem.Challenge.cw_be0018_01_holds : PySem.Challenge.rw_be0018_01.Holds :=
  Mine.lawHolds
