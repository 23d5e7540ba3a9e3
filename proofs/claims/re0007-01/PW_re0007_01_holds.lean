import PyProof.Rows.All
import Wide.All
import OpenK.AllK
import Wide.FinOn
import PySem.Challenge.RW_re0007_01
open PySem PySem.W PyProof.Rows
set_option Elab.async false

section
open PySem PySem.W PyProof.Rows
namespace Mine
set_option maxRecDepth 100000
set_option maxHeartbeats 8000000
open_top hd for PySem.Challenge.rw_re0007_01
theorem top_off : True := by
  w_top off
  trivial
end Mine
end

section
open PySem PySem.W PyProof.Rows PySem.Calls Builtin Builtin.ObjectAttr
namespace Mine
set_option maxRecDepth 100000
set_option maxHeartbeats 4000000

theorem fn_slot_set : Slot "function" "__setattr__" "object.__setattr__" :=
  .of (owner := "object") (n := "__setattr__") (by rw [typeLookup_type, builtinLookup_eq_fast]; kernel_rfl) (by decide +kernel) (by decide +kernel) (by decide +kernel)
    (by first | exact .inl (by decide +kernel) | exact .inr (by decide +kernel)) (by rw [isSubtype_type]; kernel_rfl)
theorem fn_slot_get : Slot "function" "__getattribute__" "object.__getattribute__" :=
  .of (owner := "object") (n := "__getattribute__") (by rw [typeLookup_type, builtinLookup_eq_fast]; kernel_rfl) (by decide +kernel) (by decide +kernel) (by decide +kernel)
    (by first | exact .inl (by decide +kernel) | exact .inr (by decide +kernel)) (by rw [isSubtype_type]; kernel_rfl)
theorem fn_mro : mroOf (.type "function") = pure [.type "function", .type "object"] := by kernel_rfl
theorem fn_passes (self : Value) : refuseLoop self "__setattr__" [.type "function", .type "object"] = pure () := by kernel_rfl
theorem fn_string : typeLookup (.type "function") "string" = pure none := by rw [typeLookup_type, builtinLookup_eq_fast]; kernel_rfl
theorem fn_span : typeLookup (.type "function") "span" = pure none := by rw [typeLookup_type, builtinLookup_eq_fast]; kernel_rfl
theorem fn_hook : typeLookup (.type "function") "__getattr__" = pure none := by rw [typeLookup_type, builtinLookup_eq_fast]; kernel_rfl
theorem fn_hasDict : typeHasDict (.type "function") = true := by decide +kernel
theorem fn_fin : finalisedInACycleAlone "function" = false := by decide +kernel
theorem fn_get_entry : entryFor table "object.__getattribute__" = some Builtin.«object.__getattribute__» := entryFor_of_tree (by kernel_rfl)
theorem fn_get_args (a b : Value) : argsOk "object.__getattribute__" ⟨[a, b], []⟩ := by unfold argsOk; kernel_rfl
theorem fn_get_canon : Manifest.canonical "object.__getattribute__" = "object.__getattribute__" := by decide +kernel

section
variable {prog : Program} {w : World} {A : Around} {E : Value → Shared → Prop} {s : Shared} {h₀ : Heap} {L f : Addr} {m : Str → Option Value} {news : List (Addr × Obj)} {name : Str} {v : Value}

theorem fn_type {M : Model} {h : Heap} {of : Obj} (hf : h.get? f = some of) (hc : of.cls = .type "function") : Looks M h (typeOf (.ref f)) (.type "function") := hc ▸ (Looks.ld hf).andThen .now

theorem fn_tells (x : Value) : ownStreamTells x (.type "function") = pure () := by
  cases x <;> kernel_rfl

theorem fnSet_open {of : Obj} {Q : Unit → Shared → Prop} (hf : s.heap.get? f = some of) (hc : of.cls = .type "function") (hl : typeLookup (.type "function") name = pure none)
    (h : wpAny (model prog w) A.in1 (storeInOwnDict (.ref f) (.type "function") (.str name s.toks) name v false)
      (fun fin s' => match fin with | .done (.ret _) => Q () s' | _ => False) E { s with toks := s.toks + 1 }) :
    wpAny (model prog w) A (setAttr (.ref f) name v) Q E s := by
  have T := fn_type (M := model prog w) hf hc
  have SF := PySem.F.store_object
  refine wpAny_bind (wpAny_mkText (wpAny_bind (wpAny_bind (wpAny_bind (T _ _ _ _ (fun _ _ e => e) ((Looks.of_pure fn_slot_set.lookup) _ _ _ _ (fun _ _ e => e) (wpAny_holding ?_)))))))
  rw [fn_slot_set.bind]
  refine wpAny_bind (wpAny_pure (wpAny_bind (wpAny_call ?_)))
  refine codeAny_call_builtin SF.slot.plain SF.entry (fn_slot_set.check _ _ _ _ _ _ _ _ ⟨of, hf, hc⟩ (SF.args _ _ _) ?_)
  show wpAny _ _ (Builtin.«object.__setattr__» ⟨[.ref f, .str name s.toks, v], []⟩) _ _ _
  rw [osa_eq, refuse_eq]
  refine wpAny_bind (wpAny_bind (T.keeps (fun _ _ e => e) _ _ _ _ (fun _ _ e => e) (wpAny_bind ?_)))
  rw [fn_mro]
  refine wpAny_pure ?_
  rw [fn_passes]
  refine wpAny_pure (wpAny_bind (T.keeps (fun _ _ e => e) _ _ _ _ (fun _ _ e => e) (wpAny_bind ?_)))
  rw [hl]
  refine wpAny_pure (wpAny_bind (wpAny_pure ?_))
  refine wpAny_mono h (fun fin s' z => ?_) fun _ _ z => z
  rcases fin with (_ | _ | _ | _) | _ <;> first | exact z.elim | exact wpAny_pure (wpAny_pure z)


theorem fnSet_store {dx : Addr} {es es' : List DictEntry} {n n' : Nat} {tk : Tok} {pre post : List (Addr × Obj)} {Q : Fin → Shared → Prop} (F : Fr h₀ L s.heap m) (N : News h₀ L s.heap (pre ++ (dx, dictOf es n) :: post))
    (h1 : ∀ p ∈ pre, p.1 ≠ dx) (h2 : ∀ p ∈ post, p.1 ≠ dx) (hl : (getL name es).isSome = true)
    (e : (putL name (PyData.keyHash w.params name) (.str name s.toks) v es, putN name es n) = (es', n')) (hz : es'.length ≤ 1000)
    (h : ∀ h', Fr h₀ L h' m → News h₀ L h' (pre ++ (dx, dictOf es' n') :: post) → Q (.done (.ret .none)) { s with heap := h', toks := s.toks + 1 }) :
    wpAny (model prog w) A (storeInDict dx (.str name tk) name v) Q E s := by
  obtain ⟨e1, e2⟩ := Prod.mk.inj e
  obtain ⟨U1, U2⟩ := news_upd (f := Obj.putName name (PyData.keyHash w.params name) (.str name s.toks) v) F N h1 h2 (by rw [putName_dict, e1, e2]) rfl
  have D := (N (dx, dictOf es n) (by simp)).1
  have D' := (U2 (dx, dictOf es' n') (by simp)).1
  unfold storeInDict newKeyGuard
  refine wpAny_bind (wpAny_pure (wpAny_bind ?_))
  unfold nsSet
  refine wpAny_bind (wpAny_bind (wpAny_askSetting (wpAny_pure (wpAny_bind (wpAny_mkText (wpAny_bind (wpAny_loadPart D ?_)))))))
  have c : (!es.any (·.key.isStr name) && es.any (·.refKey)) = false := by
    unfold getL at hl
    split at hl
    · rename_i en he
      rw [List.any_eq_true.mpr ⟨en, List.mem_of_find?_eq_some he, List.find?_some he⟩]; rfl
    · split at hl
      · cases hl
      · rename_i z; rw [Bool.not_eq_true] at z; rw [z, Bool.and_false]
  dsimp only
  rw [aRefKeyMayBeTheName_at, ← Array.any_toList, ← Array.any_toList, c]
  refine wpAny_updatePart D ?_
  refine wpAny_bind (wpAny_lookBehind D' (pastItsLine_dict (by rw [List.size_toArray, sizeLine_eq]; omega)) ?_)
  exact wpAny_pure (h _ U1 U2)

theorem fnSet_old {fd : FuncData} {dx : Addr} {es es' : List DictEntry} {n n' : Nat} {sl : Array (Option Value)} {news' : List (Addr × Obj)} {Q : Unit → Shared → Prop} (F : Fr h₀ L s.heap m) (N : News h₀ L s.heap news)
    (hm : (f, (⟨.type "function", some dx, .func fd, sl⟩ : Obj)) ∈ news) (hd0 : (dx, dictOf es n) ∈ news) (hl : typeLookup (.type "function") name = pure none) (hg : (getL name es).isSome = true)
    (e : (putL name (PyData.keyHash w.params name) (.str name (s.toks + 1)) v es, putN name es n) = (es', n')) (U : Upd dx (dictOf es n) (dictOf es' n') news news') (hz : es'.length ≤ 1000)
    (h : ∀ h', Fr h₀ L h' m → News h₀ L h' news' → Q () { s with heap := h', toks := s.toks + 1 + 1 }) :
    wpAny (model prog w) A (setAttr (.ref f) name v) Q E s := by
  have hf := (N _ hm).1
  refine fnSet_open hf rfl hl ?_
  obtain ⟨pre, post, rfl, rfl, a, b⟩ := U.split
  unfold storeInOwnDict
  rw [fn_tells]
  refine wpAny_bind (wpAny_pure (wpAny_bind ?_))
  show wpAny _ _ (instanceDict f true) _ _ _
  unfold instanceDict
  refine wpAny_bind (wpAny_loadPart hf ?_)
  dsimp only
  exact wpAny_pure (fnSet_store (s := { s with toks := s.toks + 1 }) F N a b hg e hz fun h' F' N' => h h' F' N')

theorem fnSet_new {fd : FuncData} {sl : Array (Option Value)} {g : Obj → List (Addr × Obj)} {Q : Unit → Shared → Prop} (F : Fr h₀ L s.heap m) (N : News h₀ L s.heap news)
    (U : UpdF f ⟨.type "function", none, .func fd, sl⟩ news g) (hl : typeLookup (.type "function") name = pure none)
    (h : ∀ dx h', Fr h₀ L h' m → News h₀ L h' ((dx, dictOf [⟨PyData.keyHash w.params name, .str name (s.toks + 1), v⟩] 1) :: g ⟨.type "function", some dx, .func fd, sl⟩) → (∀ p ∈ news, p.1 < dx) → Q () { s with heap := h', toks := s.toks + 1 + 1 }) :
    wpAny (model prog w) A (setAttr (.ref f) name v) Q E s := by
  obtain ⟨pre, post, rfl, hg, a, b⟩ := U.split
  have hf := (N (f, ⟨.type "function", none, .func fd, sl⟩) (by simp)).1
  refine fnSet_open hf rfl hl ?_
  unfold storeInOwnDict
  rw [fn_tells]
  refine wpAny_bind (wpAny_pure (wpAny_bind ?_))
  show wpAny _ _ (instanceDict f true) _ _ _
  unfold instanceDict
  refine wpAny_bind (wpAny_loadPart hf ?_)
  dsimp only
  have hlt : ∀ p ∈ pre ++ (f, (⟨.type "function", none, .func fd, sl⟩ : Obj)) :: post, p.1 < s.heap.objs.size := fun p hp => Heap.lt_size (N p hp).1
  have F1 := F.push emptyDict
  have N1 := N.push F emptyDict
  have hfs : f < s.heap.objs.size := Heap.lt_size hf
  have N1' : News h₀ L (s.heap.push emptyDict) (((s.heap.objs.size, emptyDict) :: pre) ++ (f, (⟨.type "function", none, .func fd, sl⟩ : Obj)) :: post) := N1
  have a' : ∀ p ∈ (s.heap.objs.size, emptyDict) :: pre, p.1 ≠ f := fun p hp => by
    rcases List.mem_cons.mp hp with rfl | hp
    · exact Nat.ne_of_gt hfs
    · exact a p hp
  obtain ⟨U1, U2⟩ := news_upd (f := fun o => { o with dict := some s.heap.objs.size }) (o' := ⟨.type "function", some s.heap.objs.size, .func fd, sl⟩) F1 N1' a' b rfl rfl
  simp only [fn_hasDict]
  have D1 := (N1' (f, ⟨.type "function", none, .func fd, sl⟩) (by simp)).1
  refine wpAny_bind (wpAny_alloc (wpAny_bind (wpAny_update' D1 ?_)))
  unfold dictMade
  simp only [fn_fin]
  refine wpAny_pure ?_
  refine fnSet_store (s := { s with heap := _, toks := s.toks + 1 }) (pre := []) (es := []) (n := 0) U1 U2 (fun _ h => nomatch h) (fun p hp => ?_) rfl rfl (by simp [putL]) fun h' F' N' => ?_
  · rcases List.mem_append.mp hp with hp | hp
    · exact Nat.ne_of_lt (hlt p (by simp [hp]))
    · rcases List.mem_cons.mp hp with rfl | hp
      · exact Nat.ne_of_lt hfs
      · exact Nat.ne_of_lt (hlt p (by simp [hp]))
  · exact h _ h' F' (by rw [hg]; exact N') hlt

-- reading
theorem fnGet_find {fd : FuncData} {dx : Addr} {es : List DictEntry} {n : Nat} {sl : Array (Option Value)} {M : Model} {h : Heap} (hf : h.get? f = some ⟨.type "function", some dx, .func fd, sl⟩) (hd : h.get? dx = some (dictOf es n))
    (hl : typeLookup (.type "function") name = pure none) (hg : getL name es = some (some v)) : Looks M h (ObjectAttr.find (.ref f) (.type "function") name) (.value v) := by
  unfold ObjectAttr.find
  rw [hl]
  refine Looks.now.andThen (Looks.now.andThen (Looks.now.andThen ?_))
  show Looks M h (ownThenClass (.ref f) name none none) _
  unfold ownThenClass
  refine Looks.andThen (a := some v) ?_ (Looks.tag .now)
  unfold inOwnDict ObjectAttr.ownDict loadHead instanceDict
  refine Looks.andThen (a := some dx) ((Looks.ld hf).andThen ((Looks.ld hf).andThen .now)) ?_
  refine (Looks.ld hd).andThen ?_
  exact Looks.of_pure (nsLook_of (by rw [lookIn_dict]; exact hg))

theorem fnGet {fd : FuncData} {dx : Addr} {es : List DictEntry} {n : Nat} {sl : Array (Option Value)} {expr : Bool} {Q : Value → Shared → Prop} (N : News h₀ L s.heap news)
    (hm : (f, (⟨.type "function", some dx, .func fd, sl⟩ : Obj)) ∈ news) (hd : (dx, dictOf es n) ∈ news) (hl : typeLookup (.type "function") name = pure none) (hg : getL name es = some (some v)) (hv : handedIn v = true)
    (h : Q v { s with toks := s.toks + 1 }) : wpAny (model prog w) A (getAttr (.ref f) name expr) Q E s := by
  have hf := (N _ hm).1
  have T := fn_type (M := model prog w) hf rfl
  have L1 := fnGet_find (M := model prog w) hf (N _ hd).1 hl hg
  unfold getAttr getAttrBy
  refine wpAny_bind (wpAny_mkText (wpAny_holding (wpAny_bind (T _ _ _ _ (fun _ _ e => e) (wpAny_bind ?_)))))
  rw [fn_slot_get.lookup]
  refine wpAny_pure ?_
  show wpAny _ _ (getAttrByItsOwn _ _ _ _ _ _) _ _ _
  unfold getAttrByItsOwn hookBefore
  refine wpAny_bind (wpAny_pure (wpAny_bind (wpAny_attempt (wpAny_holding ?_))))
  show wpAny _ _ (callGetattribute _ _ (.builtin "object.__getattribute__") expr) _ _ _
  have e1 : callGetattribute (.ref f) (.str name s.toks) (.builtin "object.__getattribute__") expr = boundAndCalled (.builtin "object.__getattribute__") (.ref f) (.str name s.toks) := by
    unfold callGetattribute onTheHeap; rw [Bool.and_false]; rfl
  rw [e1]
  unfold boundAndCalled
  rw [fn_slot_get.bind]
  refine wpAny_bind (wpAny_pure (wpAny_call ?_))
  refine codeAny_call_builtin fn_slot_get.plain fn_get_entry (fn_slot_get.check _ _ _ _ _ _ _ _ ⟨_, hf, rfl⟩ (fn_get_args _ _) ?_)
  show wpAny _ _ (Builtin.«object.__getattribute__» ⟨[.ref f, .str name s.toks], []⟩) _ _ _
  unfold Builtin.«object.__getattribute__»
  refine wpAny_bind (wpAny_pure (wpAny_bind (wpAny_pure (wpAny_bind (T.keeps (fun _ _ e => e) _ _ _ _ (fun _ _ e => e) (wpAny_bind (L1.keeps (fun _ _ e => e) _ _ _ _ (fun _ _ e => e) ?_)))))))
  refine wpAny_pure ?_
  show wpAny _ _ (handedOut v) _ _ _
  rw [handedOut_of hv]
  exact wpAny_pure h

theorem fnMethod {fd : FuncData} {dx : Addr} {es : List DictEntry} {n : Nat} {sl : Array (Option Value)} {pl : Sem Bool} {Q : Value × List Value → Shared → Prop} (N : News h₀ L s.heap news)
    (hm : (f, (⟨.type "function", some dx, .func fd, sl⟩ : Obj)) ∈ news) (hd : (dx, dictOf es n) ∈ news) (hl : typeLookup (.type "function") name = pure none) (hg : getL name es = some (some v)) (hv : handedIn v = true)
    (h : Q (v, []) { s with toks := s.toks + 1 }) : wpAny (model prog w) A (getMethod (.ref f) name pl) Q E s := by
  have hf := (N _ hm).1
  have T := fn_type (M := model prog w) hf rfl
  unfold getMethod
  refine wpAny_bind (wpAny_bind (T _ _ _ _ (fun _ _ e => e) ?_))
  rw [fn_slot_get.lookup]
  refine wpAny_pure ?_
  dsimp only
  rw [fn_get_canon]
  simp only [bne_self_eq_false, Bool.false_eq_true, if_false]
  refine wpAny_bind (wpAny_bind (T _ _ _ _ (fun _ _ e => e) ?_))
  rw [fn_hook]
  refine wpAny_pure ?_
  simp only [Option.isSome_none, Bool.false_eq_true, if_false]
  refine wpAny_bind (wpAny_bind (T _ _ _ _ (fun _ _ e => e) ?_))
  rw [hl]
  refine wpAny_pure ?_
  exact wpAny_bind (fnGet N hm hd hl hg hv (wpAny_pure h))
end
end Mine
end

section
open PySem PySem.W PyProof.Rows
namespace Mine
set_option maxRecDepth 100000
set_option maxHeartbeats 8000000
local macro_rules | `(tactic| k_room) => `(tactic| ktr_room)
local macro_rules | `(tactic| walk_at "mine enter") => `(tactic| first
  | (refine' code_def ?k1 ?k2 ?k3 ?k4 ?k5 ?kA ?kF ?kK ?k6 ?k7 ?k8 ?k9 ?kB ?_ ?c2 ?c3 ?c4 ?c5; (case kA => exact rfl); (case kF => exact rfl); (case kK => assumption); (case k1 => k_asm); (case k2 => k_asm); (case k3 => k_asm); (case k4 => k_asm); (case k5 => k_asm); (case k6 => k_is); (case k7 => k_is); (case k8 => ktr_room); (case k9 => exact BindsTo.of_eq rfl); (case c5 => decide); (case kB => exact locs rfl); (case c2 => exact rfl); (case c3 => exact rfl); (case c4 => exact rfl); k_whole; intro g' L' h' FG' F' N' B' X' T'; (try dsimp only); (try k_lift B'); (try k_fold))
  | (refine' code_defC ?k1 ?k2 ?k3 ?k4 ?k5 ?kA ?kF ?kK ?k6 ?k7 ?k8 ?k9 ?kB ?kD ?_ ?c2 ?c3 ?c4; (case kA => exact rfl); (case kF => exact rfl); (case kK => assumption); (case k1 => k_asm); (case k2 => k_asm); (case k3 => k_asm); (case k4 => k_asm); (case k5 => k_asm); (case k6 => k_is); (case k7 => k_is); (case k8 => ktr_room); (case k9 => exact BindsTo.of_eq rfl); (case kB => exact rfl); (case kD => decide +kernel); (case c2 => exact rfl); (case c3 => exact rfl); (case c4 => exact rfl); k_whole; intro g' L' h' tk' cells' FG' F' N' Y' B' X' T' l1; (try k_lt l1); k_cells Y'; (try simp only [List.cons_append, List.nil_append] at N'); (try dsimp only); (try k_lift B'); (try k_fold)))
local macro_rules | `(tactic| walk_at "setAttr ref") => `(tactic| (k_here; k_dflt (refine' fnSet_new ?F ?N ?U ?l ?_; (case F => k_asm); (case N => k_asm); (case U => k_updF); (case l => first | exact fn_string | exact fn_span); k_whole); intro dx' h' F' N' l1; (try dsimp only at N'); (try k_lt l1); (try k_sweep)))
local macro_rules | `(tactic| walk_at "setAttr ref") => `(tactic| (k_here; k_dflt (refine' fnSet_old ?F ?N ?m ?d ?l ?g ?e ?U ?z ?_; (case F => k_asm); (case N => k_asm); (case m => k_mem); (case d => k_mem); (case l => first | exact fn_string | exact fn_span); (case g => k_get); (case e => k_put); (case U => k_upd); (case z => exact Nat.le_of_ble_eq_true rfl); k_whole); intro h' F' N'; (try k_sweep)))

theorem allLt_ne {d b : Nat} : ∀ {l : List (Addr × Obj)}, AllLt d l → d ≤ b → ∀ p ∈ l, p.1 ≠ b
  | [], _, _, _, h => nomatch h
  | q :: r, h, hb, p, hp => by
    rcases List.mem_cons.mp hp with rfl | hp
    · exact Nat.ne_of_lt (Nat.lt_of_lt_of_le h.1 hb)
    · exact allLt_ne h.2 hb p hp
local macro_rules | `(tactic| k_all) => `(tactic| (refine allLt_ne (by with_reducible assumption) ?_; omega))

local macro_rules | `(tactic| walk_at "getMethod ref") => `(tactic| (k_here; k_dflt (refine' fnMethod ?N ?m ?d ?l ?g ?v ?_; (case N => k_asm); (case m => k_mem); (case d => k_mem); (case l => first | exact fn_string | exact fn_span); (case g => k_get); (case v => k_handed); k_whole)))
local macro_rules | `(tactic| walk_at "getAttr ref") => `(tactic| (k_here; k_dflt (refine' fnGet ?N ?m ?d ?l ?g ?v ?_; (case N => k_asm); (case m => k_mem); (case d => k_mem); (case l => first | exact fn_string | exact fn_span); (case g => k_get); (case v => k_handed); k_whole)))

def TabFull (tl : List (Addr × Obj)) : Prop :=
  ∃ c1 c2 oc1 oc2 vs1 vs2 t1 t2, tl = [(84, tabObj #[rawInt 60, rawInt 10, .ref c1, rawInt 62, rawInt 15, .ref c2]), (c1, oc1), (c2, oc2)] ∧
    oc1.data = .fields vs1 ∧ vs1[1]? = some (.str (Str.ofString "_law_found.<locals>.<lambda>") t1) ∧ oc2.data = .fields vs2 ∧ vs2[1]? = some (.str (Str.ofString "_law_found.<locals>.<lambda>") t2)
def TabSt (tl : List (Addr × Obj)) : Prop := tl = [(84, tabObj #[])] ∨ TabFull tl

section
variable {w : World} {dp un : Nat} {gd : Option (List Code)} {cn : Str} {cs : Scope} {a : Addr} {ccd : Value} {cl : List (Str × Addr)} {outer : List Env} {A₀ : Around} {base h₀ : Heap} {L : Addr} {m : Str → Option Value} {news : List (Addr × Obj)} {s : Shared} {Q E : Value → Shared → Prop} {p : Program} {loose : List Str} {mean : ExcName → Option Value} {mg mb : Str → Option Value}

def UnmOk (w : World) (A : Around) (h₀ : Heap) (L : Addr) (m : Str → Option Value) (led : List (Addr × Obj)) (f : Addr) (r : Str) : Prop :=
  ∀ (s : Shared) (Q E : Value → Shared → Prop), Fr h₀ L s.heap m → News h₀ L s.heap led → (∀ t h' tk', Fr h₀ L h' m → News h₀ L h' led → Q (.str r t) { s with heap := h', toks := tk' }) →
    wpAny (model PySem.Challenge.rw_re0007_01.row.prog w) A (call (.ref 70) [.ref f]) Q E s

def cut (text : Str) (k : Nat) : Str := ⟨(text.cps.toList.take k ++ text.cps.toList.drop (k + 2)).toArray⟩

theorem cut_eq {text : Str} {place : Int} (h0 : 0 ≤ place) (h2 : place + 2 ≤ text.length) :
    Txt.slice text none (some place) ++ Txt.slice text (some (place + 2)) none = cut text place.toNat := by
  have hl : (text.cps.toList.length : Int) = text.length := by rw [Array.length_toList]; rfl
  have e1 := eq_of_beq (slice_closes_to (x := text) (j := place) ⟨h0, by omega⟩)
  have e2 := slice_from_eq (x := text) (i := place + 2) (b := text.length) (by omega) (by omega) rfl
  rw [e1, e2]
  apply Str.ext'
  rw [Str.cps_append]
  unfold cut
  have k1 : ((0 : Int).toNat) = 0 := rfl
  have k2 : (place - 0).toNat = place.toNat := by omega
  have k3 : (place + 2).toNat = place.toNat + 2 := by omega
  have k4 : ((text.length : Int) - (place + 2)).toNat = (text.cps.toList.drop (place.toNat + 2)).length := by rw [List.length_drop]; omega
  rw [k1, k2, k3, k4, List.take_length, List.drop_zero]
  simp

theorem tab_new {d c1 c2 : Nat} {o o' oc1 oc2 : Obj} {news : List (Addr × Obj)} (h1 : (84 : Nat) < d) (h2 : AllLt d news) (h3 : d < c1) (h4 : d < c2) :
    ∀ q ∈ ([(84, o'), (c1, oc1), (c2, oc2)] : List (Addr × Obj)), q.1 ∈ ([(84, o)] : List (Addr × Obj)).map (·.1) ∨ ∀ r ∈ ([(84, o)] : List (Addr × Obj)) ++ news, r.1 < q.1 := by
  have key : ∀ c : Nat, d < c → ∀ r ∈ ([(84, o)] : List (Addr × Obj)) ++ news, r.1 < c := fun c hc r hr => by
    rcases List.mem_cons.mp hr with rfl | hr
    · exact Nat.lt_trans h1 hc
    · exact Nat.lt_trans (kst_ltOf h2 r hr) hc
  intro q hq
  simp only [List.mem_cons, List.not_mem_nil, or_false] at hq
  rcases hq with rfl | rfl | rfl
  · exact .inl (by simp)
  · exact .inr (key c1 h3)
  · exact .inr (key c2 h4)
theorem found_new {text : Str} {t u : Tok} {place : Int} (B : Below A₀ base outer h₀) (F : Fr h₀ L s.heap m) (X : (hd.heap_39 w.params).In h₀) (N : News h₀ L s.heap ((84, tabObj #[]) :: news)) (T : Top p loose mean mg mb h₀) (hk : cs.kind = .function) (C : CodeHd base 88 84) (hoff : OwnOff news [84]) (hdp : dp + 8 < recursionLimit) (hun : un + 40 < cLine)
   (h0 : 0 ≤ place) (h2 : place + 2 ≤ text.length) (h3 : text.length ≤ 1000)
   (hret : ∀ f led tl' h' tk', Fr h₀ L h' m → News h₀ L h' led → (∀ q ∈ tl' ++ news, q ∈ led) → (∀ q ∈ tl', q.1 ∈ ([(84, tabObj #[])] : List (Addr × Obj)).map (·.1) ∨ ∀ r ∈ ([(84, tabObj #[])] : List (Addr × Obj)) ++ news, r.1 < q.1) → TabFull tl' → UnmOk w (ktrTop dp un gd cn cs L a ccd cl outer) h₀ L m led f (cut text place.toNat) → Q (.ref f) { s with heap := h', toks := tk' }) :
  wpAny (model PySem.Challenge.rw_re0007_01.row.prog w) (ktrTop dp un gd cn cs L a ccd cl outer) (call (.ref 89) [.str text t, .int place u]) Q E s := by
  revert X; k_fill; intro X
  refine wpAny_call ?_
  k_dflt (walk_at "mine enter")
  (rename _ ∧ AllLt _ _ => hl; obtain ⟨hl1, hl2⟩ := hl)
  k_steps
  rename_i f1 c1 oc1 vs1 t1 ct1 hh1 tk1 d1 d2 la lb hh2 dx hh3 lc f2 c2 oc2 vs2 t2 ct2 h4 tk4 e1 e2 ld le h5 F5 N5 kF kN Tc kX
  refine hret _ _ [(84, tabObj #[rawInt 60, rawInt 10, .ref c1, rawInt 62, rawInt 15, .ref c2]), (c1, oc1), (c2, oc2)] _ _ kF kN (by kcj_all) (tab_new hl1 hl2 (by omega) (by omega)) ⟨_, _, _, _, _, _, _, _, rfl, d1, d2, e1, e2⟩ ?_
  intro s2 Q2 E2 F2 N2 hret2
  refine wpAny_call ?_
  clear F5 N5 kF kN Tc kX
  k_dflt (walk_at "mine enter")
  k_steps
  rename_i kF kN _ _
  rw [cut_eq h0 h2]
  exact hret2 _ _ _ kF (cb_drop kN (by kcj_all))

theorem found_hit {c1 c2 : Addr} {oc1 oc2 : Obj} {vs1 vs2 : Array Value} {t1 t2 : Tok} {text : Str} {t u : Tok} {place : Int} (B : Below A₀ base outer h₀) (F : Fr h₀ L s.heap m) (X : (hd.heap_39 w.params).In h₀) (N : News h₀ L s.heap ((84, tabObj #[rawInt 60, rawInt 10, .ref c1, rawInt 62, rawInt 15, .ref c2]) :: (c1, oc1) :: (c2, oc2) :: news)) (T : Top p loose mean mg mb h₀) (hk : cs.kind = .function) (C : CodeHd base 88 84) (hoff : OwnOff news [84]) (hdp : dp + 8 < recursionLimit) (hun : un + 40 < cLine)
   (h0 : 0 ≤ place) (h2 : place + 2 ≤ text.length) (h3 : text.length ≤ 1000)
   (d1 : oc1.data = .fields vs1) (d2 : vs1[1]? = some (.str (Str.ofString "_law_found.<locals>.<lambda>") t1)) (e1 : oc2.data = .fields vs2) (e2 : vs2[1]? = some (.str (Str.ofString "_law_found.<locals>.<lambda>") t2))
   (hret : ∀ f led tl' h' tk', Fr h₀ L h' m → News h₀ L h' led → (∀ q ∈ tl' ++ news, q ∈ led) → (∀ q ∈ tl', q.1 ∈ ([(84, tabObj #[rawInt 60, rawInt 10, .ref c1, rawInt 62, rawInt 15, .ref c2]), (c1, oc1), (c2, oc2)] : List (Addr × Obj)).map (·.1) ∨ ∀ r ∈ ([(84, tabObj #[rawInt 60, rawInt 10, .ref c1, rawInt 62, rawInt 15, .ref c2]), (c1, oc1), (c2, oc2)] : List (Addr × Obj)) ++ news, r.1 < q.1) → TabFull tl' → UnmOk w (ktrTop dp un gd cn cs L a ccd cl outer) h₀ L m led f (cut text place.toNat) → Q (.ref f) { s with heap := h', toks := tk' }) :
  wpAny (model PySem.Challenge.rw_re0007_01.row.prog w) (ktrTop dp un gd cn cs L a ccd cl outer) (call (.ref 89) [.str text t, .int place u]) Q E s := by
  revert X; k_fill; intro X
  refine wpAny_call ?_
  k_dflt (walk_at "mine enter")
  (rename _ ∧ _ ∧ _ ∧ AllLt _ _ => hl; obtain ⟨hl1, hl2, hl3, hl4⟩ := hl)
  k_steps
  rename_i F5 N5 kF kN Tc kX
  refine hret _ _ [(84, tabObj #[rawInt 60, rawInt 10, .ref c1, rawInt 62, rawInt 15, .ref c2]), (c1, oc1), (c2, oc2)] _ _ kF kN (by kcj_all) (fun q hq => .inl (List.mem_map_of_mem hq)) ⟨_, _, _, _, _, _, _, _, rfl, d1, d2, e1, e2⟩ ?_
  intro s2 Q2 E2 F2 N2 hret2
  refine wpAny_call ?_
  clear F5 N5 kF kN Tc kX
  k_dflt (walk_at "mine enter")
  k_steps
  rename_i kF kN _ _
  rw [cut_eq h0 h2]
  exact hret2 _ _ _ kF (cb_drop kN (by kcj_all))

theorem found_c {tl : List (Addr × Obj)} {text : Str} {t u : Tok} {place : Int} (B : Below A₀ base outer h₀) (F : Fr h₀ L s.heap m) (X : (hd.heap_39 w.params).In h₀) (N : News h₀ L s.heap (tl ++ news)) (T : Top p loose mean mg mb h₀) (hk : cs.kind = .function) (C : CodeHd base 88 84) (hT : TabSt tl) (hoff : OwnOff news [84]) (hdp : dp + 8 < recursionLimit) (hun : un + 40 < cLine)
   (h0 : 0 ≤ place) (h2 : place + 2 ≤ text.length) (h3 : text.length ≤ 1000)
   (hret : ∀ f led tl' h' tk', Fr h₀ L h' m → News h₀ L h' led → (∀ q ∈ tl' ++ news, q ∈ led) → (∀ q ∈ tl', q.1 ∈ (tl).map (·.1) ∨ ∀ r ∈ (tl) ++ news, r.1 < q.1) → TabFull tl' → UnmOk w (ktrTop dp un gd cn cs L a ccd cl outer) h₀ L m led f (cut text place.toNat) → Q (.ref f) { s with heap := h', toks := tk' }) :
  wpAny (model PySem.Challenge.rw_re0007_01.row.prog w) (ktrTop dp un gd cn cs L a ccd cl outer) (call (.ref 89) [.str text t, .int place u]) Q E s := by
  rcases hT with rfl | ⟨c1, c2, oc1, oc2, vs1, vs2, t1, t2, rfl, d1, d2, e1, e2⟩
  · exact found_new B F X N T hk C hoff hdp hun h0 h2 h3 hret
  · exact found_hit B F X N T hk C hoff hdp hun h0 h2 h3 d1 d2 e1 e2 hret
end
end Mine
end

section
open PySem PySem.W PyProof.Rows PySem.Calls
namespace Mine
set_option maxRecDepth 100000
set_option maxHeartbeats 4000000

section
variable {prog : Program} {w : World} {A : Around} {E : Value → Shared → Prop} {s : Shared} {env : Env} {h₀ : Heap} {x : Str} {body : List Stmt} {Q : Flow → Shared → Prop}

def StrEnd (h₀ : Heap) (L : Addr) (x : Str) (m₀ : Str → Option Value) (led : List (Addr × Obj)) (c : Prop) (s₁ s₂ : Shared) : Prop :=
  ∃ h' tk m' news', s₂ = { s₁ with heap := h', toks := tk } ∧ Fr h₀ L h' m' ∧ News h₀ L h' news' ∧ (∀ q ∈ led, q ∈ news') ∧ (∀ z, z ≠ x → m' z = m₀ z) ∧ c
theorem StrEnd.intro {L : Addr} {m₀ m' : Str → Option Value} {led news' : List (Addr × Obj)} {c : Prop} {s₁ : Shared} {h' : Heap} {tk : Nat} (F : Fr h₀ L h' m') (N : News h₀ L h' news') (hs : ∀ q ∈ led, q ∈ news') (hm : ∀ z, z ≠ x → m' z = m₀ z) (hc : c) :
    StrEnd h₀ L x m₀ led c s₁ { s₁ with heap := h', toks := tk } := ⟨h', tk, m', news', rfl, F, N, hs, hm, hc⟩
def StrPost (h₀ : Heap) (L : Addr) (x : Str) (m₀ : Str → Option Value) (led : List (Addr × Obj)) (c : Prop) (s₁ : Shared) (Q : Flow → Shared → Prop) (f : Flow) (s₂ : Shared) : Prop :=
  match f with
  | .ret v => Q (.ret v) s₂
  | .brk => Q .next s₂
  | _ => StrEnd h₀ L x m₀ led c s₁ s₂

theorem iter_strs {l : Addr} {gs : List (Str × Tok)} {nn : Nat} {m₀ : Str → Option Value} {news : List (Addr × Obj)} (cont : Str → Prop)
    (hh : A.handled = none) (hl : (l, listOf (gs.map fun g => Value.str g.1 g.2).toArray nn) ∈ news) (F : Fr h₀ env.locals s.heap m₀) (N : News h₀ env.locals s.heap news)
    (turn : ∀ pre g t post h tk own, gs = pre ++ (g, t) :: post → (∀ q ∈ pre, cont q.1) → OwnOff own (news.map (·.1)) → Fr h₀ env.locals h (fun y => if y = x then some (.str g t) else m₀ y) → News h₀ env.locals h (news ++ own) →
      wpAny (model prog w) A (execs body env) (StrPost h₀ env.locals x m₀ (news ++ own) (cont g) { s with heap := h, toks := tk } Q) E { s with heap := h, toks := tk })
    (done : ∀ (u : Str → Option Value) h tk, (∀ q ∈ gs, cont q.1) → Fr h₀ env.locals h (fun y => if y = x then u y else m₀ y) → News h₀ env.locals h news → Q .next { s with heap := h, toks := tk }) :
    wpAny (model prog w) A (pyIter (.ref l)) (fun it s₂ => LoopAtV prog w A h₀ env x body Q E it s₂) E s := by
  refine kdl_iter (fun i m nx => nx = news ∧ (∀ z, z ≠ x → m z = m₀ z) ∧ ∀ q ∈ gs.take i, cont q.1) hh hl F N ⟨rfl, fun _ _ => rfl, by simp⟩ ?_ ?_
  · rintro i v m₁ nx h tk own hv hoff _ ⟨rfl, hm, hc⟩ F₁ N₁
    obtain ⟨⟨g, t⟩, hg, rfl⟩ : ∃ g : Str × Tok, gs[i]? = some g ∧ v = Value.str g.1 g.2 := by
      rw [List.getElem?_map] at hv
      cases hg : gs[i]? with
      | none => rw [hg] at hv; cases hv
      | some g => rw [hg] at hv; exact ⟨g, rfl, (Option.some.inj hv).symm⟩
    have hlt : i < gs.length := (List.getElem?_eq_some_iff.mp hg).1
    have hge : gs[i] = (g, t) := (List.getElem?_eq_some_iff.mp hg).2
    have e : gs = gs.take i ++ (g, t) :: gs.drop (i + 1) := by
      rw [← hge, ← List.drop_eq_getElem_cons hlt, List.take_append_drop]
    have e1 : (fun y => if y = x then some (Value.str g t) else m₁ y) = fun y => if y = x then some (Value.str g t) else m₀ y := by
      funext y
      by_cases hy : y = x
      · simp [hy]
      · simp [hy, hm y hy]
    rw [e1] at F₁
    refine wpAny_mono (turn _ g t _ h tk own e hc hoff F₁ N₁) (fun f s₂ z => ?_) fun _ _ z => z
    have fin : StrEnd h₀ env.locals x m₀ (nx ++ own) (cont g) { s with heap := h, toks := tk } s₂ → InvEndG h₀ env.locals (fun m' nx' => (l, listOf (gs.map fun g => Value.str g.1 g.2).toArray nn) ∈ nx' ∧ nx' = nx ∧ (∀ z, z ≠ x → m' z = m₀ z) ∧ ∀ q ∈ gs.take (i + 1), cont q.1) own { s with heap := h, toks := tk } s₂ := by
      rintro ⟨h', tk', m', news', rfl, F', N', hs, hm', hcg⟩
      refine ⟨h', tk', m', news', nx, rfl, F', N', fun q hq => hs q (List.mem_append_left _ hq), fun q hq => hs q (List.mem_append_right _ hq), hoff, hl, rfl, hm', ?_⟩
      intro q hq
      rw [List.take_add_one, hg] at hq
      rcases List.mem_append.mp hq with hq | hq
      · exact hc q hq
      · simp at hq; rw [hq]; exact hcg
    cases f with
    | ret v => exact z
    | brk => exact z
    | next => exact fin z
    | cont => exact fin z
  · rintro m₁ nx h tk ⟨rfl, hm, hc⟩ F₁ N₁
    rw [List.length_map, List.take_length] at hc
    refine done m₁ h tk hc ?_ N₁
    have e1 : (fun y => if y = x then m₁ y else m₀ y) = m₁ := by
      funext y
      by_cases hy : y = x
      · simp [hy]
      · simp [hy, hm y hy]
    rw [e1]; exact F₁
end
end Mine
end

section
open PySem PySem.W PyProof.Rows
namespace Mine
set_option maxRecDepth 100000
set_option maxHeartbeats 8000000
local macro_rules | `(tactic| k_room) => `(tactic| ktr_room)
local macro_rules | `(tactic| walk_at "mine enter") => `(tactic| first
  | (refine' code_def ?k1 ?k2 ?k3 ?k4 ?k5 ?kA ?kF ?kK ?k6 ?k7 ?k8 ?k9 ?kB ?_ ?c2 ?c3 ?c4 ?c5; (case kA => exact rfl); (case kF => exact rfl); (case kK => assumption); (case k1 => k_asm); (case k2 => k_asm); (case k3 => k_asm); (case k4 => k_asm); (case k5 => k_asm); (case k6 => k_is); (case k7 => k_is); (case k8 => ktr_room); (case k9 => exact BindsTo.of_eq rfl); (case c5 => decide); (case kB => exact locs rfl); (case c2 => exact rfl); (case c3 => exact rfl); (case c4 => exact rfl); k_whole; intro g' L' h' FG' F' N' B' X' T'; (try dsimp only); (try k_lift B'); (try k_fold))
  | (refine' code_defC ?k1 ?k2 ?k3 ?k4 ?k5 ?kA ?kF ?kK ?k6 ?k7 ?k8 ?k9 ?kB ?kD ?_ ?c2 ?c3 ?c4; (case kA => exact rfl); (case kF => exact rfl); (case kK => assumption); (case k1 => k_asm); (case k2 => k_asm); (case k3 => k_asm); (case k4 => k_asm); (case k5 => k_asm); (case k6 => k_is); (case k7 => k_is); (case k8 => ktr_room); (case k9 => exact BindsTo.of_eq rfl); (case kB => exact rfl); (case kD => decide +kernel); (case c2 => exact rfl); (case c3 => exact rfl); (case c4 => exact rfl); k_whole; intro g' L' h' tk' cells' FG' F' N' Y' B' X' T' l1; (try k_lt l1); k_cells Y'; (try simp only [List.cons_append, List.nil_append] at N'); (try dsimp only); (try k_lift B'); (try k_fold)))
local macro_rules | `(tactic| walk_at "setAttr ref") => `(tactic| (k_here; k_dflt (refine' fnSet_new ?F ?N ?U ?l ?_; (case F => k_asm); (case N => k_asm); (case U => k_updF); (case l => first | exact fn_string | exact fn_span); k_whole); intro dx' h' F' N' l1; (try dsimp only at N'); (try k_lt l1); (try k_sweep)))
local macro_rules | `(tactic| walk_at "setAttr ref") => `(tactic| (k_here; k_dflt (refine' fnSet_old ?F ?N ?m ?d ?l ?g ?e ?U ?z ?_; (case F => k_asm); (case N => k_asm); (case m => k_mem); (case d => k_mem); (case l => first | exact fn_string | exact fn_span); (case g => k_get); (case e => k_put); (case U => k_upd); (case z => exact Nat.le_of_ble_eq_true rfl); k_whole); intro h' F' N'; (try k_sweep)))

local macro_rules | `(tactic| k_all) => `(tactic| (refine allLt_ne (by with_reducible assumption) ?_; omega))

local macro_rules | `(tactic| walk_at "StrPost") => `(tactic| (dsimp only [StrPost]))
section
variable {w : World} {dp un : Nat} {gd : Option (List Code)} {cn : Str} {cs : Scope} {a : Addr} {ccd : Value} {cl : List (Str × Addr)} {outer : List Env} {A₀ : Around} {base h₀ : Heap} {L : Addr} {m : Str → Option Value} {news : List (Addr × Obj)} {s : Shared} {Q E : Value → Shared → Prop} {p : Program} {loose : List Str} {mean : ExcName → Option Value} {mg mb : Str → Option Value}

def firstPart (text : Str) : Str := ((Txt.split text (Str.ofString "/"))[0]?).getD ⟨#[]⟩
def hits (text g : Str) : Bool := (g != Str.ofString "*") && !(Builtin.Str.occurrences (Txt.lower (firstPart text)) (Txt.lower g) 0 (Txt.lower (firstPart text)).length 1).isEmpty
theorem applies_c {text : Str} {gs : List (Str × Tok)} {t : Tok} {rc dx lu : Addr} {lr : Addr} {i1 i2 i3 i4 : Int} {u1 u2 u3 u4 : Tok} {n1 n2 : Nat} (B : Below A₀ base outer h₀) (F : Fr h₀ L s.heap m) (X : (hd.heap_39 w.params).In h₀)
   (N : News h₀ L s.heap ((rc, instObj 59 dx) :: (dx, dictOf [⟨i1, .str (Str.ofString "useragents") u1, .ref lu⟩, ⟨i2, .str (Str.ofString "rulelines") u2, .ref lr⟩, ⟨i3, .str (Str.ofString "delay") u3, .none⟩, ⟨i4, .str (Str.ofString "req_rate") u4, .none⟩] n1) :: (lu, listOf (gs.map fun g => Value.str g.1 g.2).toArray n2) :: news)) (T : Top p loose mean mg mb h₀) (hk : cs.kind = .function) (hdp : dp + 8 < recursionLimit) (hun : un + 40 < cLine)
   (h3 : text.length ≤ 1000) (hg : ∀ q ∈ gs, q.1.length ≤ 10)
   (hret : ∀ h' tk', Fr h₀ L h' m → News h₀ L h' ((rc, instObj 59 dx) :: (dx, dictOf [⟨i1, .str (Str.ofString "useragents") u1, .ref lu⟩, ⟨i2, .str (Str.ofString "rulelines") u2, .ref lr⟩, ⟨i3, .str (Str.ofString "delay") u3, .none⟩, ⟨i4, .str (Str.ofString "req_rate") u4, .none⟩] n1) :: (lu, listOf (gs.map fun g => Value.str g.1 g.2).toArray n2) :: news) → Q (.bool (gs.any fun q => hits text q.1)) { s with heap := h', toks := tk' }) :
  wpAny (model PySem.Challenge.rw_re0007_01.row.prog w) (ktrTop dp un gd cn cs L a ccd cl outer) (call (.ref 49) [.ref rc, .str text t]) Q E s := by
  revert X; k_fill; intro X
  refine wpAny_call ?_
  k_dflt (walk_at "mine enter")
  k_steps
  (rename (List.map _ _ = Txt.split _ _) => hlook; rename ((List.map _ _)[Int.toNat 0]? = some _) => hy; rename (∀ a, a ∈ List.map _ _ → Str.length a ≤ _) => hsh)
  rename_i y ty
  have hy1 : y.length ≤ text.length := hsh y (List.mem_of_getElem? hy)
  have hy2 : y = firstPart text := by unfold firstPart; rw [← hlook]; show y = ((List.map _ _)[Int.toNat 0]?).getD _; rw [hy]; rfl
  clear hsh hlook hy
  subst hy2
  k_steps
  (rename Fr _ _ _ _ => kF; rename News _ _ _ _ => kN)
  refine iter_strs (fun g => hits text g = false) rfl (by k_mem) kF kN ?_ ?_
  · clear kF kN
    intro pre g tg post h tk own hpre hcont hoff kF kN
    have hgl : g.length ≤ 10 := hg (g, tg) (by rw [hpre]; simp)
    simp only [List.cons_append] at kN
    k_steps
    · refine StrEnd.intro (by assumption) (by assumption) (by simp only [List.cons_append]; exact fun _ h => h) (by intro z hz; simp only [if_neg hz]) ?_
      simp only [hits, *]; rfl
    · have hit : hits text g = true := by simp only [hits, *]; rfl
      have hany : (gs.any fun q => hits text q.1) = true := by rw [hpre]; simp [hit]
      rw [hany] at hret
      k_steps
      rename_i kF kN _ _
      exact hret _ _ kF (cb_drop kN (by kcj_all))
    · refine StrEnd.intro (by assumption) (by assumption) (by simp only [List.cons_append]; exact fun _ h => h) (by intro z hz; simp only [if_neg hz]) ?_
      simp only [hits, *]; rfl
  · clear kF kN
    intro u h tk hcont kF kN
    have hany : (gs.any fun q => hits text q.1) = false := by rw [List.any_eq_false]; intro q hq; rw [hcont q hq]; exact Bool.false_ne_true
    rw [hany] at hret
    k_steps
    rename_i kF kN _ _
    exact hret _ _ kF (cb_drop kN (by kcj_all))
end
end Mine
end

section
open PySem PySem.W PyProof.Rows PySem.Calls
namespace Mine
set_option maxRecDepth 100000
set_option maxHeartbeats 4000000

theorem rev_text (x : Str) (u : Tok) : (Txt.sliceBy x none none (-1, u)).cps.toList = x.cps.toList.reverse := by
  have hl := step_rev_len x u
  apply List.ext_getElem
  · simp only [Array.length_toList, List.length_reverse]; exact hl
  · intro i h1 h2
    have hi : i < x.length := by simpa [Str.length] using h2
    have e := step_rev_getD x u i hi
    simp only [Array.length_toList] at h1
    have h3 : x.length - 1 - i < x.cps.size := by show x.cps.size - 1 - i < x.cps.size; have : i < x.cps.size := hi; omega
    rw [Array.getD_eq_getD_getElem?, Array.getD_eq_getD_getElem?, Array.getElem?_eq_getElem h1, Array.getElem?_eq_getElem h3] at e
    simp only [Option.getD_some] at e
    simp only [Array.getElem_toList, List.getElem_reverse]
    rw [e]; rfl

section
variable {prog : Program} {w : World} {A : Around} {E : Value → Shared → Prop} {s : Shared} {env : Env} {h₀ : Heap} {x y : Str} {body : List Stmt} {Q : Flow → Shared → Prop}

def TxtEnd (h₀ : Heap) (L : Addr) (x y : Str) (m₀ : Str → Option Value) (led : List (Addr × Obj)) (I : Str → Prop) (s₁ s₂ : Shared) : Prop :=
  ∃ h' tk m' news' acc ta, s₂ = { s₁ with heap := h', toks := tk } ∧ Fr h₀ L h' m' ∧ News h₀ L h' news' ∧ (∀ q ∈ led, q ∈ news') ∧ m' y = some (.str acc ta) ∧ (∀ z, z ≠ x → z ≠ y → m' z = m₀ z) ∧ I acc
theorem TxtEnd.intro {L : Addr} {m₀ m' : Str → Option Value} {led news' : List (Addr × Obj)} {I : Str → Prop} {s₁ : Shared} {h' : Heap} {tk : Nat} {acc : Str} {ta : Tok} (F : Fr h₀ L h' m') (N : News h₀ L h' news') (hs : ∀ q ∈ led, q ∈ news') (hy : m' y = some (.str acc ta)) (hm : ∀ z, z ≠ x → z ≠ y → m' z = m₀ z) (hI : I acc) :
    TxtEnd h₀ L x y m₀ led I s₁ { s₁ with heap := h', toks := tk } := ⟨h', tk, m', news', acc, ta, rfl, F, N, hs, hy, hm, hI⟩
def TxtPost (h₀ : Heap) (L : Addr) (x y : Str) (m₀ : Str → Option Value) (led : List (Addr × Obj)) (I : Str → Prop) (s₁ : Shared) (Q : Flow → Shared → Prop) (f : Flow) (s₂ : Shared) : Prop :=
  match f with
  | .ret v => Q (.ret v) s₂
  | .brk => Q .next s₂
  | _ => TxtEnd h₀ L x y m₀ led I s₁ s₂

theorem iter_text {xt acc₀ : Str} {tx t₀ : Tok} {m₀ : Str → Option Value} {news : List (Addr × Obj)} (Inv : List Nat → Str → Prop)
    (hh : A.handled = none) (hyx : y ≠ x) (hy : m₀ y = some (.str acc₀ t₀)) (F : Fr h₀ env.locals s.heap m₀) (N : News h₀ env.locals s.heap news) (h0 : Inv [] acc₀)
    (turn : ∀ pre c post t acc ta h tk own, xt.cps.toList = pre ++ c :: post → Inv pre acc → OwnOff own (news.map (·.1)) →
      Fr h₀ env.locals h (fun z => if z = x then some (.str ⟨#[c]⟩ t) else if z = y then some (.str acc ta) else m₀ z) → News h₀ env.locals h (news ++ own) →
      wpAny (model prog w) A (execs body env) (TxtPost h₀ env.locals x y m₀ (news ++ own) (Inv (pre ++ [c])) { s with heap := h, toks := tk } Q) E { s with heap := h, toks := tk })
    (done : ∀ (u : Str → Option Value) acc ta h tk, Inv xt.cps.toList acc → Fr h₀ env.locals h (fun z => if z = x then u z else if z = y then some (.str acc ta) else m₀ z) → News h₀ env.locals h news → Q .next { s with heap := h, toks := tk }) :
    wpAny (model prog w) A (pyIter (.str xt tx)) (fun it s₂ => LoopAtV prog w A h₀ env x body Q E it s₂) E s := by
  refine wpAny_pyIter_str fun o St hW hst => ?_
  have W := hW A hh
  refine loop_invN (fun i m nx => nx = news ∧ (∃ acc ta, m y = some (.str acc ta) ∧ Inv (xt.cps.toList.take i) acc) ∧ ∀ z, z ≠ x → z ≠ y → m z = m₀ z) W ?_ ?_ ?_ ?_ hst (F.push _) (fun p hp => ⟨Heap.get?_push_of_some _ (N p hp).1, (N p hp).2⟩) ⟨rfl, ⟨acc₀, t₀, hy, by simpa using h0⟩, fun _ _ _ => rfl⟩ ?_ ?_
  · intro hm
    exact absurd F.ns.lt ((List.mem_singleton.mp hm) ▸ Nat.lt_irrefl _)
  · intro b' hb
    rw [List.mem_singleton.mp hb]
    exact next_is_new F
  · intro p hp hI
    exact absurd (Heap.lt_size (N p hp).1) ((List.mem_singleton.mp hI) ▸ Nat.lt_irrefl _)
  · intro p hp hI
    exact absurd (Heap.lt_size (N p hp).1) ((List.mem_singleton.mp hI) ▸ Nat.lt_irrefl _)
  · rintro i v m₁ nx h tk own hi ⟨c, t, hc, rfl⟩ _ hoff ⟨rfl, ⟨acc, ta, hya, hI⟩, hm⟩ F₁ N₁
    have hc' : xt.cps.toList[i]? = some c := by simpa using hc
    have hs : xt.cps.toList.take (i + 1) = xt.cps.toList.take i ++ [c] := by simp [List.take_add_one, hc]
    have e : xt.cps.toList = xt.cps.toList.take i ++ c :: xt.cps.toList.drop (i + 1) := by
      have ht := List.take_append_drop (i + 1) xt.cps.toList
      rw [hs, List.append_assoc] at ht
      exact ht.symm
    have e1 : (fun z => if z = x then some (Value.str ⟨#[c]⟩ t) else m₁ z) = fun z => if z = x then some (Value.str ⟨#[c]⟩ t) else if z = y then some (.str acc ta) else m₀ z := by
      funext z
      by_cases hz : z = x
      · simp [hz]
      · simp only [if_neg hz]
        by_cases hz2 : z = y
        · subst hz2; simp [hya]
        · simp only [if_neg hz2]; exact hm z hz hz2
    rw [e1] at F₁
    refine wpAny_mono (turn _ c _ t acc ta h tk own e hI hoff F₁ N₁) (fun f s₂ z => ?_) fun _ _ z => z
    have fin : TxtEnd h₀ env.locals x y m₀ (nx ++ own) (Inv (xt.cps.toList.take i ++ [c])) { s with heap := h, toks := tk } s₂ → InvEndN h₀ env.locals (fun m nx' => nx' = nx ∧ (∃ acc ta, m y = some (.str acc ta) ∧ Inv (xt.cps.toList.take (i + 1)) acc) ∧ ∀ z, z ≠ x → z ≠ y → m z = m₀ z) own (nx.map (·.1)) { s with heap := h, toks := tk } s₂ := by
      rintro ⟨h', tk', m', news', acc', ta', rfl, F', N', hs', hy', hm', hI'⟩
      exact ⟨h', tk', m', news', nx, rfl, F', N', fun q hq => hs' q (List.mem_append_left _ hq), fun q hq => hs' q (List.mem_append_right _ hq), rfl, rfl, ⟨acc', ta', hy', by rw [hs]; exact hI'⟩, hm'⟩
    cases f with
    | ret v => exact z
    | brk => exact z
    | next => exact fin z
    | cont => exact fin z
  · rintro m₁ nx h tk ⟨rfl, ⟨acc, ta, hya, hI⟩, hm⟩ F₁ N₁
    have hl : xt.cps.size = xt.cps.toList.length := by simp
    rw [hl, List.take_length] at hI
    refine done m₁ acc ta h tk hI ?_ N₁
    have e1 : (fun z => if z = x then m₁ z else if z = y then some (.str acc ta) else m₀ z) = m₁ := by
      funext z
      by_cases hz : z = x
      · simp [hz]
      · simp only [if_neg hz]
        by_cases hz2 : z = y
        · subst hz2; simp [hya]
        · simp only [if_neg hz2]; exact (hm z hz hz2).symm
    rw [e1]; exact F₁

theorem iter_rangeJ {r : Addr} {a₀ b₀ : Int} {t₀ u₀ v₀ : Tok} {n : Nat} {m₀ : Str → Option Value} {news : List (Addr × Obj)} (J : Nat → (Str → Option Value) → List (Addr × Obj) → Prop)
    (hh : A.handled = none) (hr : IsRange s.heap r a₀ b₀ 1 t₀ u₀ v₀) (hsmall : Builtin.Range.small a₀ b₀ 1 = true) (hn : Builtin.Range.rangeSize a₀ b₀ 1 = (n : Int)) (F : Fr h₀ env.locals s.heap m₀) (N : News h₀ env.locals s.heap news) (hj : J 0 m₀ news)
    (turn : ∀ (i : Nat) t m₁ nx h tk own, i < n → OwnOff own (nx.map (·.1)) → J i m₁ nx → Fr h₀ env.locals h (fun y => if y = x then some (.int (a₀ + (i : Int)) t) else m₁ y) → News h₀ env.locals h (nx ++ own) →
      wpAny (model prog w) A (execs body env) (InvPostG h₀ env.locals (J (i + 1)) own { s with heap := h, toks := tk } Q) E { s with heap := h, toks := tk })
    (done : ∀ m₁ nx h tk, J n m₁ nx → Fr h₀ env.locals h m₁ → News h₀ env.locals h nx → Q .next { s with heap := h, toks := tk }) :
    wpAny (model prog w) A (pyIter (.ref r)) (fun it s₂ => LoopAtV prog w A h₀ env x body Q E it s₂) E s := by
  refine wpAny_pyIter_range hr hsmall ?_
  have W : Walks prog w A s.heap.objs.size [s.heap.objs.size] [s.heap.objs.size] n (fun i v => i < n ∧ ∃ t, v = .int (a₀ + i * 1) t)
      (fun i h => IsRangeIter h s.heap.objs.size (a₀ + (i : Nat) * 1) ((n : Int) - (i : Nat)) 1) := (Walks.range hh _ a₀ 1 n).bound
  refine kdr_loop J W (fun a h => h) (fun a h => h) (fun i h st b hb => ?_) ?_ ?_ ?_ (by show IsRangeIter _ _ _ _ _; rw [hn]; simpa using Heap.get?_push_size _ rfl) (F.push _) (fun p hp => ⟨Heap.get?_push_of_some _ (N p hp).1, (N p hp).2⟩) hj ?_ ?_
  · rw [List.mem_singleton.mp hb]; exact ⟨_, st⟩
  · intro hm
    exact absurd F.ns.lt ((List.mem_singleton.mp hm) ▸ Nat.lt_irrefl _)
  · intro b hb
    rw [List.mem_singleton.mp hb]
    exact next_is_new F
  · intro p hp hI
    exact absurd (Heap.lt_size (N p hp).1) ((List.mem_singleton.mp hI) ▸ Nat.lt_irrefl _)
  · rintro i v m₁ nx h tk own hi ⟨_, t, rfl⟩ ho hJ F' N'
    simp only [Int.mul_one] at F'
    exact turn i t m₁ nx h tk own hi ho hJ F' N'
  · intro m₁ nx h tk hJ F₁ N₁
    exact done m₁ nx h tk hJ F₁ N₁
end
end Mine
end

section
open PySem PySem.W PyProof.Rows PySem.Calls PySem.Spec PyProof.V
namespace Mine
set_option maxRecDepth 100000
set_option maxHeartbeats 4000000

def lows : List Nat := [97, 98, 99, 42]
def sgs : List Nat := [97, 98, 99, 42, 65, 66, 67]
def one (c : Nat) : Str := ⟨#[c]⟩
def PDat (σ : Nat → Nat) : List (PyData × PyData) := lows.map fun c => (PyData.str (one c), PyData.str (one (σ c)))

theorem lo1_low : ∀ c ∈ sgs, lo1 c ∈ lows := by decide
theorem sgs_ascii : ∀ c ∈ sgs, c < 128 := by decide
theorem lower_one : ∀ c ∈ sgs, Txt.lower (one c) = one (lo1 c) := by
  intro c hc
  have ha : ∀ d ∈ (one c).cps.toList, d < 128 := by
    intro d hd
    have e : d = c := by simpa [one] using hd
    rw [e]; exact sgs_ascii c hc
  rw [lower_ascii ha]; simp [one]

theorem pdat_lookup {σ : Nat → Nat} : ∀ c ∈ lows, Spec.lookup (PyData.str (one c)) (PDat σ) = some (PyData.str (one (σ c))) := by
  intro c hc
  simp only [lows, List.mem_cons, List.not_mem_nil, or_false] at hc
  rcases hc with rfl | rfl | rfl | rfl <;> rfl

theorem flat_str {v : Value} {x : Str} (h : Flat v (.str x)) : ∃ u, v = .str x u := by
  have := h {}
  cases this
  exact ⟨_, rfl⟩

def PTab (prog : Program) (w : World) (pd : Addr) (od : Obj) (σ : Nat → Nat) : Prop :=
  (pd == sysModules) = false ∧ ∃ kvs, od.IsDictOf (strKind prog w) kvs ∧ FlatPairs PyData.str kvs (PDat σ)

section
variable {prog : Program} {w : World} {A : Around} {E : Value → Shared → Prop} {s : Shared} {h₀ : Heap} {L pd : Addr} {news : List (Addr × Obj)} {od : Obj} {σ : Nat → Nat}
theorem ptab_at (N : News h₀ L s.heap news) (hm : (pd, od) ∈ news) (P : PTab prog w pd od σ) : StrTab prog w s.heap pd (PDat σ) := by
  obtain ⟨lo, kvs, hd, hf⟩ := P
  exact TabAt.ofNews N hm lo hd hf

theorem pd_item {value slice : Expr} {x : Str} {t : Tok} {c : Nat} {Q : Value → Shared → Prop} (N : News h₀ L s.heap news) (hm : (pd, od) ∈ news) (P : PTab prog w pd od σ) (hx : x = one c) (hc : c ∈ lows)
    (h : ∀ u, Q (.str (one (σ c)) u) { s with toks := s.toks + 1 })
    (hs : subscripted slice false (.ref pd) (.str x t) = operate [.ref pd, .str x t] (getItem (.ref pd) (.str x t)) := by with_unfolding_all rfl) (hg : ∀ r, letTemporaryGo value (.ref pd) r = pure () := by intro _; with_unfolding_all rfl) :
    wpAny (model prog w) A (subscriptTail value slice (.ref pd) (.str x t)) Q E s := by
  subst hx
  refine item_strTab (ptab_at N hm P) (pdat_lookup c hc) (fun v hv => ?_) hs hg
  obtain ⟨u, rfl⟩ := flat_str hv
  exact h u

theorem pd_get {x : Str} {t : Tok} {c : Nat} {Q : Value → Shared → Prop} (N : News h₀ L s.heap news) (hm : (pd, od) ∈ news) (P : PTab prog w pd od σ) (hx : x = one c) (hc : c ∈ lows)
    (h : ∀ u, Q (.str (one (σ c)) u) { s with toks := s.toks + 1 }) : wpAny (model prog w) A (call (.builtin "dict.get") [.ref pd, .str x t]) Q E s := by
  subst hx
  refine call_get1_strTab (ptab_at N hm P) (fun v hv => ?_)
  rw [pdat_lookup c hc] at hv
  obtain ⟨u, rfl⟩ := flat_str hv
  exact h u
theorem pd_method {pl : Sem Bool} {Q : Value × List Value → Shared → Prop} (N : News h₀ L s.heap news) (hm : (pd, od) ∈ news) (P : PTab prog w pd od σ) (h : Q (.builtin "dict.get", [.ref pd]) s) :
    wpAny (model prog w) A (getMethod (.ref pd) "get" pl) Q E s := getMethod_strTab_get (ptab_at N hm P) h
end
end Mine
end

section
open PySem PySem.W PyProof.Rows
namespace Mine
local macro_rules | `(tactic| walk_at "mine pad 1") => `(tactic| fail "pad")
set_option maxRecDepth 100000
set_option maxHeartbeats 8000000
local macro_rules | `(tactic| k_room) => `(tactic| ktr_room)
local macro_rules | `(tactic| walk_at "mine enter") => `(tactic| first
  | (refine' code_def ?k1 ?k2 ?k3 ?k4 ?k5 ?kA ?kF ?kK ?k6 ?k7 ?k8 ?k9 ?kB ?_ ?c2 ?c3 ?c4 ?c5; (case kA => exact rfl); (case kF => exact rfl); (case kK => assumption); (case k1 => k_asm); (case k2 => k_asm); (case k3 => k_asm); (case k4 => k_asm); (case k5 => k_asm); (case k6 => k_is); (case k7 => k_is); (case k8 => ktr_room); (case k9 => exact BindsTo.of_eq rfl); (case c5 => decide); (case kB => exact locs rfl); (case c2 => exact rfl); (case c3 => exact rfl); (case c4 => exact rfl); k_whole; intro g' L' h' FG' F' N' B' X' T'; (try dsimp only); (try k_lift B'); (try k_fold))
  | (refine' code_defC ?k1 ?k2 ?k3 ?k4 ?k5 ?kA ?kF ?kK ?k6 ?k7 ?k8 ?k9 ?kB ?kD ?_ ?c2 ?c3 ?c4; (case kA => exact rfl); (case kF => exact rfl); (case kK => assumption); (case k1 => k_asm); (case k2 => k_asm); (case k3 => k_asm); (case k4 => k_asm); (case k5 => k_asm); (case k6 => k_is); (case k7 => k_is); (case k8 => ktr_room); (case k9 => exact BindsTo.of_eq rfl); (case kB => exact rfl); (case kD => decide +kernel); (case c2 => exact rfl); (case c3 => exact rfl); (case c4 => exact rfl); k_whole; intro g' L' h' tk' cells' FG' F' N' Y' B' X' T' l1; (try k_lt l1); k_cells Y'; (try simp only [List.cons_append, List.nil_append] at N'); (try dsimp only); (try k_lift B'); (try k_fold)))
local macro_rules | `(tactic| walk_at "setAttr ref") => `(tactic| (k_here; k_dflt (refine' fnSet_new ?F ?N ?U ?l ?_; (case F => k_asm); (case N => k_asm); (case U => k_updF); (case l => first | exact fn_string | exact fn_span); k_whole); intro dx' h' F' N' l1; (try dsimp only at N'); (try k_lt l1); (try k_sweep)))
local macro_rules | `(tactic| walk_at "setAttr ref") => `(tactic| (k_here; k_dflt (refine' fnSet_old ?F ?N ?m ?d ?l ?g ?e ?U ?z ?_; (case F => k_asm); (case N => k_asm); (case m => k_mem); (case d => k_mem); (case l => first | exact fn_string | exact fn_span); (case g => k_get); (case e => k_put); (case U => k_upd); (case z => exact Nat.le_of_ble_eq_true rfl); k_whole); intro h' F' N'; (try k_sweep)))

local macro_rules | `(tactic| k_all) => `(tactic| (refine allLt_ne (by with_reducible assumption) ?_; omega))

local macro_rules | `(tactic| walk_at "TxtPost") => `(tactic| (dsimp only [TxtPost]))
local macro_rules | `(tactic| walk_at "exec For Name Subscript cons nil") => `(tactic| (k_here; (rename Fr _ _ _ _ => lF'); (with_unfolding_all refine' For_invVF lF' ?k1 ?k2 ?_; (case k1 => exact rfl); (case k2 => exact rfl); k_whole)))
section
variable {w : World} {dp un : Nat} {gd : Option (List Code)} {cn : Str} {cs : Scope} {a : Addr} {ccd : Value} {cl : List (Str × Addr)} {outer : List Env} {A₀ : Around} {base h₀ : Heap} {L : Addr} {m : Str → Option Value} {news : List (Addr × Obj)} {s : Shared} {Q E : Value → Shared → Prop} {p : Program} {loose : List Str} {mean : ExcName → Option Value} {mg mb : Str → Option Value}

def stkStep (σ : Nat → Nat) (left : List Nat) (c : Nat) : List Nat := match left with
  | [] => [c]
  | d :: r => if σ (lo1 d) = lo1 c then r else c :: d :: r
theorem stk_mem (σ : Nat → Nat) : ∀ (ws left : List Nat), ∀ c ∈ ws.foldl (stkStep σ) left, c ∈ left ∨ c ∈ ws
  | [], _, _, h => .inl h
  | w :: ws, left, c, h => by
    rcases stk_mem σ ws _ c h with h | h
    · unfold stkStep at h
      split at h
      · simp at h; exact .inr (by simp [h])
      · split at h
        · exact .inl (by simp [h])
        · rcases List.mem_cons.mp h with h | h
          · exact .inr (by simp [h])
          · exact .inl h
    · exact .inr (.tail _ h)
theorem stk_len (σ : Nat → Nat) : ∀ (ws left : List Nat), (ws.foldl (stkStep σ) left).length ≤ left.length + ws.length
  | [], _ => by simp
  | w :: ws, left => by
    have h := stk_len σ ws (stkStep σ left w)
    have h2 : (stkStep σ left w).length ≤ left.length + 1 := by
      unfold stkStep
      split
      · simp
      · split <;> simp only [List.length_cons] <;> omega
    simp only [List.foldl_cons, List.length_cons]; omega
theorem item_head {x : Str} {d : Nat} {r : List Nat} (h : x.cps.toList = d :: r) : Txt.item x 0 = one d := by
  obtain ⟨⟨l⟩⟩ := x
  have h' : l = d :: r := h
  subst h'
  show (⟨#[(Txt.charAt _ 0).getD 0]⟩ : Str) = one d
  have e : Txt.charAt (⟨⟨d :: r⟩⟩ : Str) 0 = some d := by
    simp [Txt.charAt, seqIndex?, Str.length]
  rw [e]; rfl
theorem one_inj {a b : Nat} (h : one a = one b) : a = b := by
  have := congrArg (fun x => x.cps.toList) h
  simpa [one] using this
theorem slice_tail {x : Str} {d : Nat} {r : List Nat} (h : x.cps.toList = d :: r) : (Txt.slice x (some 1) none).cps.toList = r := by
  have hl : x.length = r.length + 1 := by show x.cps.size = _; rw [← Array.length_toList, h]; rfl
  rw [slice_from_eq (b := x.length) (by decide) (by omega) rfl, h]
  have e1 : (1 : Int).toNat = 1 := rfl
  have e2 : ((x.length : Int) - 1).toNat = r.length := by omega
  rw [e1, e2]
  simp
theorem stack_c {word : Str} {t : Tok} {pd : Addr} {od : Obj} {σ : Nat → Nat} (B : Below A₀ base outer h₀) (F : Fr h₀ L s.heap m) (X : (hd.heap_39 w.params).In h₀)
   (N : News h₀ L s.heap ((pd, od) :: news)) (T : Top p loose mean mg mb h₀) (hk : cs.kind = .function) (hdp : dp + 8 < recursionLimit) (hun : un + 40 < cLine)
   (P : PTab PySem.Challenge.rw_re0007_01.row.prog w pd od σ) (hw : word.length ≤ 1000) (hsg : ∀ c ∈ word.cps.toList, c ∈ sgs)
   (hret : ∀ r tr h' tk', r.cps.toList = word.cps.toList.reverse.foldl (stkStep σ) [] → Fr h₀ L h' m → News h₀ L h' ((pd, od) :: news) → Q (.str r tr) { s with heap := h', toks := tk' }) :
  wpAny (model PySem.Challenge.rw_re0007_01.row.prog w) (ktrTop dp un gd cn cs L a ccd cl outer) (call (.ref 101) [.str word t, .ref pd]) Q E s := by
  revert X; k_fill; intro X
  refine wpAny_call ?_
  k_dflt (walk_at "mine enter")
  k_steps
  (rename Fr _ _ _ _ => kF; rename News _ _ _ _ => kN)
  refine iter_text (y := Str.ofString "left") (fun pre acc => acc.cps.toList = pre.foldl (stkStep σ) []) rfl (by decide) rfl kF kN rfl ?_ ?_
  · clear kF kN
    intro pre c post t1 acc ta h tk own hpre hI hoff kF kN
    rw [rev_text] at hpre
    have hsub : ∀ d ∈ pre ++ c :: post, d ∈ sgs := fun d hd => hsg d (by rw [← hpre] at hd; simpa using hd)
    have hc : c ∈ sgs := hsub c (by simp)
    have hlen : pre.length + 1 ≤ word.length := by have := congrArg List.length hpre; simp at this; show _ ≤ word.cps.size; omega
    have hal : acc.length ≤ pre.length := by show acc.cps.size ≤ _; rw [← Array.length_toList, hI]; have := stk_len σ pre []; simpa using this
    have hacc : ∀ d ∈ acc.cps.toList, d ∈ sgs := fun d hd => by
      rw [hI] at hd
      rcases stk_mem σ pre [] d hd with h | h
      · cases h
      · exact hsub d (by simp [h])
    have hcl : (⟨#[c]⟩ : Str).length ≤ 1 := Nat.le_refl _
    simp only [List.cons_append] at kN
    k_steps
    · obtain ⟨d, r, hdr⟩ : ∃ d r, acc.cps.toList = d :: r := by
        cases hq : acc.cps.toList with
        | nil => rename 1 ≤ acc.length => h1; have : acc.cps.size = 0 := by rw [← Array.length_toList, hq]; rfl
                 exact absurd h1 (by show ¬ 1 ≤ acc.cps.size; omega)
        | cons d r => exact ⟨d, r, rfl⟩
      have hd : d ∈ sgs := hacc d (by rw [hdr]; simp)
      have hit : Txt.item acc 0 = one d := item_head hdr
      k_dflt (refine pd_item (c := lo1 d) (by k_asm) (by k_mem) P (by rw [hit]; exact lower_one d hd) (lo1_low d hd) ?_)
      intro u
      have hlo : Txt.lower (⟨#[c]⟩ : Str) = one (lo1 c) := lower_one c hc
      k_steps
      · rename (one _ == Txt.lower _) = true => hq
        rw [hlo] at hq
        have hq' : σ (lo1 d) = lo1 c := one_inj (eq_of_beq hq)
        refine TxtEnd.intro (by assumption) (by assumption) (by simp only [List.cons_append]; exact fun _ h => h) rfl (by intro z h1 h2; simp only [if_neg h1, if_neg h2]) ?_
        show (Txt.slice acc (some 1) none).cps.toList = _
        rw [slice_tail hdr, List.foldl_append, ← hI, hdr]
        simp [stkStep, hq']
      · rename (one _ == Txt.lower _) = false => hq
        rw [hlo] at hq
        have hq' : ¬ σ (lo1 d) = lo1 c := fun e => by rw [e, beq_self_eq_true] at hq; cases hq
        refine TxtEnd.intro (by assumption) (by assumption) (by simp only [List.cons_append]; exact fun _ h => h) rfl (by intro z h1 h2; simp only [if_neg h1, if_neg h2]) ?_
        show ((⟨#[c]⟩ : Str) ++ acc).cps.toList = _
        rw [List.foldl_append, ← hI, hdr, Str.cps_append, Array.toList_append, hdr]
        simp [stkStep, hq']
    · rename (acc != _) = false => hq
      have hq' : acc = Str.ofString "" := by simpa using hq
      have hI' : pre.foldl (stkStep σ) [] = [] := by rw [← hI, hq']; rfl
      refine TxtEnd.intro (by assumption) (by assumption) (by simp only [List.cons_append]; exact fun _ h => h) rfl (by intro z h1 h2; simp only [if_neg h1, if_neg h2]) ?_
      show ((⟨#[c]⟩ : Str) ++ acc).cps.toList = _
      rw [List.foldl_append, hI', Str.cps_append, Array.toList_append, hI, hI']
      rfl
  · clear kF kN
    intro u acc ta h tk hI kF kN
    rw [rev_text] at hI
    k_steps
    rename_i kF kN _ _
    exact hret acc _ _ _ hI kF kN
end
end Mine
end

section
open PySem PySem.W PyProof.Rows PySem.Calls
namespace Mine
set_option maxRecDepth 100000
set_option maxHeartbeats 4000000

def tst (σ : Nat → Nat) (w : List Nat) (k : Int) : Bool := σ (lo1 (w.getD k.toNat 0)) == lo1 (w.getD (k.toNat + 1) 0)
def placesI (σ : Nat → Nat) (w : List Nat) : List Int := (rangeKs 0 (w.length - 1)).filter (tst σ w)
def strike (w : List Nat) (k : Nat) : List Nat := w.take k ++ w.drop (k + 2)
def pickI (ps : List Int) (i n : Nat) : Nat := ((ps.getD (i % ps.length) 0).fmod n).toNat
def struckF (σ : Nat → Nat) (ps : List Int) : Nat → Nat → List Nat → List Nat
  | 0, _, w => w
  | f + 1, i, w => if placesI σ w = [] then w else struckF σ ps f (i + 1) (strike w ((placesI σ w).getD (pickI ps i (placesI σ w).length) 0).toNat)

theorem placesI_mem {σ : Nat → Nat} {w : List Nat} {k : Int} (h : k ∈ placesI σ w) : 0 ≤ k ∧ k + 1 < w.length := by
  have h1 := (List.mem_filter.mp h).1
  have h2 := mem_rangeKs h1
  omega
theorem strike_len {w : List Nat} {k : Nat} (h : k + 1 < w.length) : (strike w k).length + 2 = w.length := by
  unfold strike
  rw [List.length_append, List.length_take, List.length_drop]; omega
theorem strike_mem {w : List Nat} {k c : Nat} (h : c ∈ strike w k) : c ∈ w := by
  rcases List.mem_append.mp h with h | h
  · exact List.mem_of_mem_take h
  · exact List.mem_of_mem_drop h

section
variable {prog : Program} {w : World} {A : Around} {E : Value → Shared → Prop} {s : Shared} {env : Env} {h₀ : Heap} {body : List Stmt} {Q : Flow → Shared → Prop}
def sTurn : Str := Str.ofString "turn"
def sSize : Str := Str.ofString "size"
def sPlaces : Str := Str.ofString "places"

structure StrkSt (σ : Nat → Nat) (ps : List Int) (W : List Nat) (tail : List Nat) (i : Nat) (cur : List Nat) (x : Str) (tl : List (Addr × Obj)) (oc : Obj) (tx : Tok) : Prop where
  tab : TabSt tl
  cell : oc.data = .cell (some (.str x tx))
  txt : x.cps.toList = cur ++ tail
  sg : ∀ c ∈ cur, c ∈ sgs
  len : cur.length + 2 * i = W.length
  fun_ : struckF σ ps (W.length + 1 - i) i cur = struckF σ ps (W.length + 1) 0 W

abbrev strkLed (ct : Addr) (oc : Obj) (cp : Addr) (op : Obj) (tl news : List (Addr × Obj)) : List (Addr × Obj) := (ct, oc) :: (cp, op) :: (tl ++ news)

def StrkEnd (h₀ : Heap) (L : Addr) (m₀ : Str → Option Value) (σ : Nat → Nat) (ps : List Int) (W tail : List Nat) (i : Nat) (ct cp : Addr) (op : Obj) (news own : List (Addr × Obj)) (s₁ s₂ : Shared) : Prop :=
  ∃ h' tk m' led cur x tx oc tl, s₂ = { s₁ with heap := h', toks := tk } ∧ Fr h₀ L h' m' ∧ News h₀ L h' led ∧ (∀ q ∈ strkLed ct oc cp op tl news ++ own, q ∈ led) ∧ OwnOff own (tl.map (·.1)) ∧ StrkSt σ ps W tail i cur x tl oc tx ∧
    ∀ z, z ≠ sTurn → z ≠ sSize → z ≠ sPlaces → m' z = m₀ z
def StrkPost (h₀ : Heap) (L : Addr) (m₀ : Str → Option Value) (σ : Nat → Nat) (ps : List Int) (W tail : List Nat) (i : Nat) (ct cp : Addr) (op : Obj) (news own : List (Addr × Obj)) (s₁ : Shared) (Q : Flow → Shared → Prop) (f : Flow) (s₂ : Shared) : Prop :=
  match f with
  | .ret v => Q (.ret v) s₂
  | .brk => Q .next s₂
  | _ => StrkEnd h₀ L m₀ σ ps W tail i ct cp op news own s₁ s₂
theorem StrkEnd.intro {L : Addr} {m₀ m' : Str → Option Value} {σ : Nat → Nat} {ps : List Int} {W tail : List Nat} {i : Nat} {ct cp : Addr} {op : Obj} {news own led tl : List (Addr × Obj)} {s₁ : Shared} {h' : Heap} {tk : Nat} {cur : List Nat} {x : Str} {tx : Tok} {oc : Obj}
    (F : Fr h₀ L h' m') (N : News h₀ L h' led) (hs : ∀ q ∈ strkLed ct oc cp op tl news ++ own, q ∈ led) (ho : OwnOff own (tl.map (·.1))) (S : StrkSt σ ps W tail i cur x tl oc tx) (hm : ∀ z, z ≠ sTurn → z ≠ sSize → z ≠ sPlaces → m' z = m₀ z) :
    StrkEnd h₀ L m₀ σ ps W tail i ct cp op news own s₁ { s₁ with heap := h', toks := tk } := ⟨h', tk, m', led, cur, x, tx, oc, tl, rfl, F, N, hs, ho, S, hm⟩

theorem iter_struck {r : Addr} {t₀ u₀ v₀ : Tok} {σ : Nat → Nat} {ps : List Int} {W tail : List Nat} {N0 : Int} {m₀ : Str → Option Value} {ct cp : Addr} {oc₀ op : Obj} {tl₀ news : List (Addr × Obj)} {x₀ : Str} {tx₀ : Tok}
    (hh : A.handled = none) (hr : IsRange s.heap r 0 N0 1 t₀ u₀ v₀) (hN : N0 = (W.length : Int) + 1) (hW : W.length ≤ 1000) (F : Fr h₀ env.locals s.heap m₀) (N : News h₀ env.locals s.heap (strkLed ct oc₀ cp op tl₀ news))
    (S₀ : StrkSt σ ps W tail 0 W x₀ tl₀ oc₀ tx₀)
    (turn : ∀ (i : Nat) cur x tx oc tl t (u : Str → Option Value) h tk own, i < W.length + 1 → OwnOff own ((strkLed ct oc cp op tl news).map (·.1)) → StrkSt σ ps W tail i cur x tl oc tx →
      Fr h₀ env.locals h (fun y => if y = sTurn then some (.int (i : Int) t) else if y = sSize then u y else if y = sPlaces then u y else m₀ y) → News h₀ env.locals h (strkLed ct oc cp op tl news ++ own) →
      wpAny (model prog w) A (execs body env) (StrkPost h₀ env.locals m₀ σ ps W tail (i + 1) ct cp op news own { s with heap := h, toks := tk } Q) E { s with heap := h, toks := tk }) :
    wpAny (model prog w) A (pyIter (.ref r)) (fun it s₂ => LoopAtV prog w A h₀ env sTurn body Q E it s₂) E s := by
  subst hN
  refine iter_rangeJ (n := W.length + 1) (fun i m nx => ∃ cur x tx oc tl, nx = strkLed ct oc cp op tl news ∧ StrkSt σ ps W tail i cur x tl oc tx ∧ ∀ z, z ≠ sTurn → z ≠ sSize → z ≠ sPlaces → m z = m₀ z) hh hr (small_one (by decide) (by decide) (by omega) (by omega)) ?_ F N ⟨W, x₀, tx₀, oc₀, tl₀, rfl, S₀, fun _ _ _ _ => rfl⟩ ?_ ?_
  · have := rangeSize_nat 0 ((W.length : Int) + 1)
    rw [this]; omega
  · rintro i t m₁ nx h tk own hi hoff ⟨cur, x, tx, oc, tl, rfl, S, hm⟩ F₁ N₁
    have e1 : (fun y => if y = sTurn then some (Value.int (0 + (i : Int)) t) else m₁ y) = fun y => if y = sTurn then some (Value.int (i : Int) t) else if y = sSize then m₁ y else if y = sPlaces then m₁ y else m₀ y := by
      funext y
      by_cases h1 : y = sTurn
      · simp [h1]
      · simp only [if_neg h1]
        by_cases h2 : y = sSize
        · simp [h2]
        · simp only [if_neg h2]
          by_cases h3 : y = sPlaces
          · simp [h3]
          · simp only [if_neg h3]; exact hm y h1 h2 h3
    rw [e1] at F₁
    refine wpAny_mono (turn i cur x tx oc tl t m₁ h tk own hi hoff S F₁ N₁) (fun f s₂ z => ?_) fun _ _ z => z
    have fin : StrkEnd h₀ env.locals m₀ σ ps W tail (i + 1) ct cp op news own { s with heap := h, toks := tk } s₂ → InvEndG h₀ env.locals (fun m nx => ∃ cur x tx oc tl, nx = strkLed ct oc cp op tl news ∧ StrkSt σ ps W tail (i + 1) cur x tl oc tx ∧ ∀ z, z ≠ sTurn → z ≠ sSize → z ≠ sPlaces → m z = m₀ z) own { s with heap := h, toks := tk } s₂ := by
      rintro ⟨h', tk', m', led, cur', x', tx', oc', tl', rfl, F', N', hs, ho, S', hm'⟩
      refine ⟨h', tk', m', led, strkLed ct oc' cp op tl' news, rfl, F', N', fun q hq => hs q (List.mem_append_left _ hq), fun q hq => hs q (List.mem_append_right _ hq), ?_, cur', x', tx', oc', tl', rfl, S', hm'⟩
      intro q hq b hb
      simp only [strkLed, List.map_cons, List.map_append, List.mem_cons, List.mem_append] at hb
      rcases hb with rfl | rfl | hb | hb
      · exact hoff q hq _ (by simp [strkLed])
      · exact hoff q hq _ (by simp [strkLed])
      · exact ho q hq b hb
      · exact hoff q hq b (by simp only [strkLed, List.map_cons, List.map_append, List.mem_cons, List.mem_append]; exact .inr (.inr (.inr hb)))
    cases f with
    | ret v => exact z
    | brk => exact z
    | next => exact fin z
    | cont => exact fin z
  · rintro m₁ nx h tk ⟨cur, x, tx, oc, tl, rfl, S, hm⟩ F₁ N₁
    have := S.len
    omega
end
end Mine
end

section
open PySem PySem.W PyProof.Rows
namespace Mine
set_option maxRecDepth 100000
set_option maxHeartbeats 8000000
local macro_rules | `(tactic| k_room) => `(tactic| ktr_room)
local macro_rules | `(tactic| walk_at "mine enter") => `(tactic| first
  | (refine' code_def ?k1 ?k2 ?k3 ?k4 ?k5 ?kA ?kF ?kK ?k6 ?k7 ?k8 ?k9 ?kB ?_ ?c2 ?c3 ?c4 ?c5; (case kA => exact rfl); (case kF => exact rfl); (case kK => assumption); (case k1 => k_asm); (case k2 => k_asm); (case k3 => k_asm); (case k4 => k_asm); (case k5 => k_asm); (case k6 => k_is); (case k7 => k_is); (case k8 => ktr_room); (case k9 => exact BindsTo.of_eq rfl); (case c5 => decide); (case kB => exact locs rfl); (case c2 => exact rfl); (case c3 => exact rfl); (case c4 => exact rfl); k_whole; intro g' L' h' FG' F' N' B' X' T'; (try dsimp only); (try k_lift B'); (try k_fold))
  | (refine' code_defC ?k1 ?k2 ?k3 ?k4 ?k5 ?kA ?kF ?kK ?k6 ?k7 ?k8 ?k9 ?kB ?kD ?_ ?c2 ?c3 ?c4; (case kA => exact rfl); (case kF => exact rfl); (case kK => assumption); (case k1 => k_asm); (case k2 => k_asm); (case k3 => k_asm); (case k4 => k_asm); (case k5 => k_asm); (case k6 => k_is); (case k7 => k_is); (case k8 => ktr_room); (case k9 => exact BindsTo.of_eq rfl); (case kB => exact rfl); (case kD => decide +kernel); (case c2 => exact rfl); (case c3 => exact rfl); (case c4 => exact rfl); k_whole; intro g' L' h' tk' cells' FG' F' N' Y' B' X' T' l1; (try k_lt l1); k_cells Y'; (try simp only [List.cons_append, List.nil_append] at N'); (try dsimp only); (try k_lift B'); (try k_fold)))
local macro_rules | `(tactic| walk_at "setAttr ref") => `(tactic| (k_here; k_dflt (refine' fnSet_new ?F ?N ?U ?l ?_; (case F => k_asm); (case N => k_asm); (case U => k_updF); (case l => first | exact fn_string | exact fn_span); k_whole); intro dx' h' F' N' l1; (try dsimp only at N'); (try k_lt l1); (try k_sweep)))
local macro_rules | `(tactic| walk_at "setAttr ref") => `(tactic| (k_here; k_dflt (refine' fnSet_old ?F ?N ?m ?d ?l ?g ?e ?U ?z ?_; (case F => k_asm); (case N => k_asm); (case m => k_mem); (case d => k_mem); (case l => first | exact fn_string | exact fn_span); (case g => k_get); (case e => k_put); (case U => k_upd); (case z => exact Nat.le_of_ble_eq_true rfl); k_whole); intro h' F' N'; (try k_sweep)))

local macro_rules | `(tactic| k_all) => `(tactic| (refine allLt_ne (by with_reducible assumption) ?_; omega))

local macro_rules | `(tactic| walk_at "exec For Name Call cons nil") => `(tactic| (k_here; (rename Fr _ _ _ _ => lF'); (with_unfolding_all refine' For_invVF lF' ?k1 ?k2 ?_; (case k1 => exact rfl); (case k2 => exact rfl); k_whole)))
local macro_rules | `(tactic| k_all) => `(tactic| (with_reducible assumption))
local macro_rules | `(tactic| k_mem) => `(tactic| (refine List.mem_append_right _ ?_; k_mem))
local macro_rules | `(tactic| k_mem) => `(tactic| (refine List.mem_append_left _ ?_; k_mem))
local macro_rules | `(tactic| k_mem) => `(tactic| (with_reducible assumption))
def Hold (p : Prop) : Prop := p
theorem Hold.out {p : Prop} (h : Hold p) : p := h
theorem Hold.mk {p : Prop} (h : p) : Hold p := h
local macro_rules | `(tactic| walk_at "pyIter ref") => `(tactic| (refine Hold.out ?_))
local macro_rules | `(tactic| walk_at "call ref") => `(tactic| (refine Hold.out ?_))
local macro_rules | `(tactic| walk_at "CompSrcT") => `(tactic| (refine Hold.out ?_))
local macro_rules | `(tactic| walk_at "StrkPost") => `(tactic| (dsimp only [StrkPost]))
local macro_rules | `(tactic| walk_at "getMethod ref") => `(tactic| (k_here; k_dflt (refine pd_method (by k_asm) (by k_mem) (by assumption) ?_)))
local macro_rules | `(tactic| walk_at "call builtin:dict.get") => `(tactic| (k_here; k_dflt (refine pd_get (by k_asm) (by k_mem) (by assumption) (by assumption) (by assumption) ?_); intro _))
theorem li_len {prog : Program} {w : World} {A : Around} {E : Value → Shared → Prop} {s : Shared} {h₀ : Heap} {L pk : Addr} {led : List (Addr × Obj)} {vs : List Value} {ns : List Int} {n : Nat} {Q : Value → Shared → Prop} (N : News h₀ L s.heap led) (hm : (pk, listOf vs.toArray n) ∈ led) (hi : IntsAre vs ns) (hz : ns.length ≤ 1000)
    (h : ∀ t tk', Q (.int (ns.length : Int) t) { s with toks := tk' }) : wpAny (model prog w) A (call (.builtin "len") [.ref pk]) Q E s := by
  have e : vs.toArray.size = ns.length := by simp [hi.length]
  refine len_list ⟨_, (N _ hm).1, rfl, n, rfl⟩ (by rw [e]; omega) ?_
  rw [e]; exact h _ _
theorem li_item {prog : Program} {w : World} {A : Around} {E : Value → Shared → Prop} {s : Shared} {h₀ : Heap} {L pk : Addr} {led : List (Addr × Obj)} {vs : List Value} {ns : List Int} {n : Nat} {value slice : Expr} {k : Int} {u : Tok} {Q : Value → Shared → Prop} (N : News h₀ L s.heap led) (hm : (pk, listOf vs.toArray n) ∈ led) (hi : IntsAre vs ns) (h0 : 0 ≤ k) (h1 : k < (ns.length : Int)) (hz : ns.length ≤ 1000)
    (h : ∀ t, Q (.int (ns.getD k.toNat 0) t) s)
    (hs : subscripted slice false (.ref pk) (.int k u) = operate [.ref pk, .int k u] (getItem (.ref pk) (.int k u)) := by with_unfolding_all rfl) (hg : ∀ r, letTemporaryGo value (.ref pk) r = pure () := by intro _; with_unfolding_all rfl) :
    wpAny (model prog w) A (subscriptTail value slice (.ref pk) (.int k u)) Q E s := by
  have hlt : k.toNat < ns.length := by omega
  obtain ⟨t, ht⟩ := hi.get k.toNat (ns.getD k.toNat 0) (by rw [List.getD_eq_getElem?_getD, List.getElem?_eq_getElem hlt]; rfl)
  exact item_listL ⟨_, (N _ hm).1, rfl, n, rfl⟩ h0 (by omega) ht (h t) hs hg
local macro_rules | `(tactic| walk_at "call builtin:len") => `(tactic| (k_here; (with_reducible show wpAny _ _ (call (Value.builtin "len") [Value.ref _]) _ _ _); k_dflt (refine li_len (by k_asm) (by k_mem) (by assumption) (by omega) ?_); intro _ _))
local macro_rules | `(tactic| walk_at "subscriptTail") => `(tactic| (k_here; (with_reducible show wpAny _ _ (subscriptTail _ _ (Value.ref _) (Value.int _ _)) _ _ _); k_dflt (refine li_item (by k_asm) (by k_mem) (by assumption) (by first | assumption | omega) (by first | assumption | omega) (by omega) ?_); intro _))
local macro_rules | `(tactic| walk_at "subscriptTail Name BinOp ref int") => `(tactic| (k_here; (with_reducible show wpAny _ _ (subscriptTail _ _ (Value.ref _) (Value.int _ _)) _ _ _); k_dflt (refine li_item (by k_asm) (by k_mem) (by assumption) (by first | assumption | omega) (by first | assumption | omega) (by omega) ?_); intro _))
theorem fmod_nat (i : Nat) {n : Nat} (h : 0 < n) : ((i : Int).fmod (n : Int)).toNat = i % n := by
  rw [Int.fmod_eq_emod_of_nonneg _ (by omega)]
  have e : ((i : Int) % (n : Int)) = ((i % n : Nat) : Int) := rfl
  rw [e]; omega
theorem cut_text {x : Str} {cur tail : List Nat} {k : Nat} (h : x.cps.toList = cur ++ tail) (hk : k + 1 < cur.length) : (cut x k).cps.toList = strike cur k ++ tail := by
  unfold cut strike
  show x.cps.toList.take k ++ x.cps.toList.drop (k + 2) = _
  rw [h, List.take_append_of_le_length (by omega), List.drop_append_of_le_length (by omega), List.append_assoc]
theorem getD_mem {l : List Int} {n : Nat} (h : n < l.length) : l.getD n 0 ∈ l := by
  rw [List.getD_eq_getElem?_getD, List.getElem?_eq_getElem h]; exact List.getElem_mem h
theorem fmod_bd (a : Int) {n : Nat} (h : 0 < n) : 0 ≤ a.fmod n ∧ a.fmod n < n := by
  rw [Int.fmod_eq_emod_of_nonneg _ (by omega)]
  exact ⟨Int.emod_nonneg _ (by omega), Int.emod_lt_of_pos _ (by omega)⟩
theorem item_at {x : Str} {cur tail : List Nat} (h : x.cps.toList = cur ++ tail) {k : Int} (h0 : 0 ≤ k) (h1 : k.toNat < cur.length) : Txt.item x k = one (cur.getD k.toNat 0) := by
  obtain ⟨⟨l⟩⟩ := x
  have h' : l = cur ++ tail := h
  subst h'
  show (⟨#[(Txt.charAt _ k).getD 0]⟩ : Str) = _
  have hk : k < ((cur ++ tail).length : Int) := by rw [List.length_append]; omega
  have e2 : seqIndex? k (cur ++ tail).length = some k.toNat := by
    unfold seqIndex?
    dsimp only
    rw [if_neg (show ¬ k < 0 by omega), if_pos (by simp only [Bool.and_eq_true, decide_eq_true_eq]; exact ⟨h0, hk⟩)]
  have e : Txt.charAt (⟨⟨cur ++ tail⟩⟩ : Str) k = some (cur.getD k.toNat 0) := by
    show (seqIndex? k (cur ++ tail).length).bind _ = _
    rw [e2]
    rw [Option.bind_some, List.getElem?_toArray]
    rw [List.getElem?_append_left h1, List.getElem?_eq_getElem h1, List.getD_eq_getElem?_getD, List.getElem?_eq_getElem h1]; rfl
  rw [e]; rfl
theorem filt_fold (f : Int → Bool) : ∀ (ks l : List Int), ks.foldl (fun l k => if f k then l ++ [k] else l) l = l ++ ks.filter f
  | [], l => by simp
  | k :: ks, l => by
    rw [List.foldl_cons, filt_fold f ks]
    cases h : f k <;> simp [h]
section
variable {w : World} {dp un : Nat} {gd : Option (List Code)} {cn : Str} {cs : Scope} {a : Addr} {ccd : Value} {cl : List (Str × Addr)} {outer : List Env} {A₀ : Around} {base h₀ : Heap} {L : Addr} {m : Str → Option Value} {news : List (Addr × Obj)} {s : Shared} {Q E : Value → Shared → Prop} {p : Program} {loose : List Str} {mean : ExcName → Option Value} {mg mb : Str → Option Value}

theorem tabSt_fields {tl : List (Addr × Obj)} (h : TabSt tl) : ∀ q ∈ tl, ∃ vs, q.2.data = .fields vs := by
  rcases h with rfl | ⟨c1, c2, oc1, oc2, vs1, vs2, t1, t2, rfl, d1, _, e1, _⟩
  · intro q hq; rcases List.mem_cons.mp hq with rfl | hq
    · exact ⟨_, rfl⟩
    · cases hq
  · intro q hq
    rcases List.mem_cons.mp hq with rfl | hq
    · exact ⟨_, rfl⟩
    · rcases List.mem_cons.mp hq with rfl | hq
      · exact ⟨_, d1⟩
      · rcases List.mem_cons.mp hq with rfl | hq
        · exact ⟨_, e1⟩
        · cases hq
theorem tab_ne_cell {h₀ h : Heap} {L ct : Addr} {oc : Obj} {v : Option Value} {led tl : List (Addr × Obj)} (N : News h₀ L h led) (hT : TabSt tl) (htl : ∀ q ∈ tl, q ∈ led) (hc : (ct, oc) ∈ led) (hd : oc.data = .cell v) : ∀ q ∈ tl, q.1 ≠ ct := by
  intro q hq e
  obtain ⟨vs, hf⟩ := tabSt_fields hT q hq
  have h1 := (N q (htl q hq)).1
  have h2 := (N _ hc).1
  rw [e] at h1
  have h3 : q.2 = oc := Option.some.inj (h1.symm.trans h2)
  rw [h3, hd] at hf; cases hf
theorem applies_m {text : Str} {gs : List (Str × Tok)} {t : Tok} {rc dx lu : Addr} {lr : Addr} {i1 i2 i3 i4 : Int} {u1 u2 u3 u4 : Tok} {n1 n2 : Nat} {led : List (Addr × Obj)} (B : Below A₀ base outer h₀) (F : Fr h₀ L s.heap m) (X : (hd.heap_39 w.params).In h₀)
   (N : News h₀ L s.heap led) (mrc : (rc, instObj 59 dx) ∈ led) (mdx : (dx, dictOf [⟨i1, .str (Str.ofString "useragents") u1, .ref lu⟩, ⟨i2, .str (Str.ofString "rulelines") u2, .ref lr⟩, ⟨i3, .str (Str.ofString "delay") u3, .none⟩, ⟨i4, .str (Str.ofString "req_rate") u4, .none⟩] n1) ∈ led) (mlu : (lu, listOf (gs.map fun g => Value.str g.1 g.2).toArray n2) ∈ led)
   (T : Top p loose mean mg mb h₀) (hk : cs.kind = .function) (hdp : dp + 8 < recursionLimit) (hun : un + 40 < cLine)
   (h3 : text.length ≤ 1000) (hg : ∀ q ∈ gs, q.1.length ≤ 10)
   (hret : ∀ h' tk', Fr h₀ L h' m → News h₀ L h' led → Q (.bool (gs.any fun q => hits text q.1)) { s with heap := h', toks := tk' }) :
  wpAny (model PySem.Challenge.rw_re0007_01.row.prog w) (ktrTop dp un gd cn cs L a ccd cl outer) (call (.ref 49) [.ref rc, .str text t]) Q E s := by
  refine applies_c (news := led) (gs := gs) (rc := rc) (dx := dx) (lu := lu) (lr := lr) (i1 := i1) (i2 := i2) (i3 := i3) (i4 := i4) (u1 := u1) (u2 := u2) (u3 := u3) (u4 := u4) (n1 := n1) (n2 := n2) B F X (fun q hq => N q ?_) T hk hdp hun h3 hg fun h' tk' F' N' => hret h' tk' F' (cb_drop N' fun q hq => .tail _ (.tail _ (.tail _ hq)))
  rcases List.mem_cons.mp hq with rfl | hq
  · exact mrc
  · rcases List.mem_cons.mp hq with rfl | hq
    · exact mdx
    · rcases List.mem_cons.mp hq with rfl | hq
      · exact mlu
      · exact hq
theorem tabSt_has {tl : List (Addr × Obj)} (h : TabSt tl) : ∃ o, (84, o) ∈ tl := by
  rcases h with rfl | ⟨c1, c2, oc1, oc2, vs1, vs2, t1, t2, rfl, _⟩
  · exact ⟨_, .head _⟩
  · exact ⟨_, .head _⟩
theorem struck_c {word tail : Str} {gs : List (Str × Tok)} {ps : List Int} {pvs : List Value} {tw tt : Tok} {tl : List (Addr × Obj)} {rc dx lu lr pd pk : Addr} {od : Obj} {σ : Nat → Nat} {i1 i2 i3 i4 : Int} {u1 u2 u3 u4 : Tok} {n1 n2 n3 : Nat} (B : Below A₀ base outer h₀) (F : Fr h₀ L s.heap m) (X : (hd.heap_39 w.params).In h₀)
   (N : News h₀ L s.heap (tl ++ news)) (hoff : OwnOff news [84])
   (mrc : (rc, instObj 59 dx) ∈ news) (mdx : (dx, dictOf [⟨i1, .str (Str.ofString "useragents") u1, .ref lu⟩, ⟨i2, .str (Str.ofString "rulelines") u2, .ref lr⟩, ⟨i3, .str (Str.ofString "delay") u3, .none⟩, ⟨i4, .str (Str.ofString "req_rate") u4, .none⟩] n1) ∈ news) (mlu : (lu, listOf (gs.map fun g => Value.str g.1 g.2).toArray n2) ∈ news) (mpd : (pd, od) ∈ news) (mpk : (pk, listOf pvs.toArray n3) ∈ news)
   (T : Top p loose mean mg mb h₀) (hk : cs.kind = .function) (C : CodeHd base 88 84) (hT : TabSt tl) (hdp : dp + 20 < recursionLimit) (hun : un + 100 < cLine)
   (P : PTab PySem.Challenge.rw_re0007_01.row.prog w pd od σ) (hps : IntsAre pvs ps) (hpn : 0 < ps.length) (hpz : ps.length ≤ 1000)
   (hw : word.length ≤ 100) (ht : tail.length ≤ 100) (hsg : ∀ c ∈ word.cps.toList, c ∈ sgs) (hg : ∀ q ∈ gs, q.1.length ≤ 10)
   (hap : ∀ (cur : List Nat) (x : Str), (∀ c ∈ cur, c ∈ sgs) → x.cps.toList = cur ++ tail.cps.toList → (gs.any fun q => hits x q.1) = !(placesI σ cur).isEmpty)
   (hret : ∀ r tr tl' h' tk', r.cps.toList = struckF σ ps (word.cps.toList.length + 1) 0 word.cps.toList ++ tail.cps.toList → TabSt tl' → Fr h₀ L h' m → News h₀ L h' (tl' ++ news) → Q (.str r tr) { s with heap := h', toks := tk' }) :
  wpAny (model PySem.Challenge.rw_re0007_01.row.prog w) (ktrTop dp un gd cn cs L a ccd cl outer) (call (.ref 94) [.ref rc, .str word tw, .str tail tt, .ref pd, .ref pk]) Q E s := by
  revert X; k_fill; intro X
  refine wpAny_call ?_
  k_dflt (walk_at "mine enter")
  rename_i g1 L1 hh1 tk1 FG1 F1 B1 X1 T1 l1 o1 o2 d1 d2 N1
  (rename ∀ q, q ∈ tl ++ news → _ => hl; obtain ⟨o84, h84⟩ := tabSt_has hT; replace h84 := hl (84, o84) (List.mem_append_left _ h84); replace h84 := ltN h84; replace hl := allLt_of hl)
  k_steps
  refine Hold.mk ?_
  (rename Fr _ _ _ _ => kF; rename News _ _ _ _ => kN; rename IsRange _ _ _ _ _ _ _ _ => kR; rename (Obj.data _ = Data.cell (some (Value.str (word ++ tail) _))) => kD)
  have hwl : word.cps.toList.length = word.length := by rw [Array.length_toList]; rfl
  refine iter_struck (σ := σ) (ps := ps) (W := word.cps.toList) (tail := tail.cps.toList) rfl kR (by rw [hwl]) (by rw [hwl]; omega) kF kN ⟨hT, kD, by rw [Str.cps_append, Array.toList_append], hsg, by omega, rfl⟩ ?_
  clear kF kN kR kD
  intro i cur x tx oc tl1 ti u h tk own hi ho S kF kN
  simp only [sTurn, sSize, sPlaces] at kF
  have hcur : cur.length ≤ 100 := by have := S.len; omega
  have hxl : x.length = cur.length + tail.length := by
    have := congrArg List.length S.txt
    rw [Array.length_toList, List.length_append, Array.length_toList] at this
    exact this
  have kD := S.cell
  k_steps
  refine Hold.mk ?_
  (rename Fr _ _ _ _ => kF1; rename News _ _ _ _ => kN1; rename IsRange _ _ _ _ _ _ _ _ => kR)
  refine LCt.CompSrcT.range (n := cur.length - 1) rfl kF1 kN1 kR (small_one (by decide) (by decide) (by omega) (by omega)) (by rw [rangeSize_nat]; omega) (by rw [sizeLine_eq]; omega) ?_
  intro g
  refine kci_range (fun l k => if tst σ cur k then l ++ [k] else l) ?_ ?_ ?_
  · clear kF kN kF1 kN1 kR
    intro k tk1 I oI Cc oC D m2 ys l h1 tk2 E1 hk0 hk1 hys hC hx kF1 kN1 off ne _
    have hkc : k.toNat + 1 < cur.length := by omega
    have hgm : ∀ j, j < cur.length → cur.getD j 0 ∈ sgs := fun j hj => by
      rw [List.getD_eq_getElem?_getD, List.getElem?_eq_getElem hj]; exact S.sg _ (List.getElem_mem hj)
    have hlow1 : Txt.lower (Txt.item x k) = one (lo1 (cur.getD k.toNat 0)) := by
      rw [item_at S.txt hk0 (by omega)]; exact lower_one _ (hgm _ (by omega))
    have hk1' : (k + 1).toNat = k.toNat + 1 := by omega
    have hlow2 : Txt.lower (Txt.item x (k + 1)) = one (lo1 (cur.getD (k.toNat + 1) 0)) := by
      rw [item_at S.txt (by omega) (by omega), hk1']; exact lower_one _ (hgm _ (by omega))
    have hlc : lo1 (cur.getD k.toNat 0) ∈ lows := lo1_low _ (hgm _ (by omega))
    k_steps
    · rename (one _ == Txt.lower _) = true => hq
      rw [hlow2] at hq
      have hq' : tst σ cur k = true := by unfold tst; rw [one_inj (eq_of_beq hq)]; exact beq_self_eq_true _
      exact ⟨_, _, _, rfl, kF1, kN1, off, trivial, rfl, k, tk1, rfl, by rw [hq']; rfl⟩
    · rename (one _ == Txt.lower _) = false => hq
      rw [hlow2] at hq
      have hq' : tst σ cur k = false := by
        cases ht : tst σ cur k with
        | false => rfl
        | true => unfold tst at ht; rw [eq_of_beq ht, beq_self_eq_true] at hq; cases hq
      exact ⟨_, _, _, rfl, kF1, kN1, off, trivial, rfl, by rw [hq']; rfl⟩
  · clear kF kN kF1 kN1 kR
    intro ys hys hyl D h1 tk1 kF kN off
    rw [filt_fold] at hys
    have hys' : IntsAre ys (placesI σ cur) := hys
    clear hys
    k_steps
    refine Hold.mk ?_
    (rename Fr _ _ _ _ => kF1; rename News _ _ _ _ => kN1)
    k_dflt (refine applies_m (by assumption) kF1 (by assumption) kN1 (by k_mem) (List.Mem.tail _ (List.mem_append_left _ (.tail _ (.tail _ (List.mem_append_right _ mdx))))) (List.Mem.tail _ (List.mem_append_left _ (.tail _ (.tail _ (List.mem_append_right _ mlu))))) (by assumption) (by rfl) (by ktr_room) (by ktr_units) (by omega) hg ?_)
    clear kF1 kN1
    intro h2 tk2 kF kN
    rw [hap cur x S.sg S.txt]
    have hfit : ys.length < 2 ^ 62 := by omega
    have hplz : (placesI σ cur).length ≤ 1000 := by rw [← hys'.length]; omega
    obtain ⟨hf0, hf1⟩ := fmod_bd (i : Int) hpn
    by_cases hne : placesI σ cur = []
    · k_steps
      · exfalso
        rename (_ != _) = true => hq
        rw [hne] at hq; simp at hq
      · rename_i kF kN _ _
        have hfin : struckF σ ps (word.cps.toList.length + 1) 0 word.cps.toList = cur := by
          rw [← S.fun_, show word.cps.toList.length + 1 - i = (word.cps.toList.length - i) + 1 by omega]
          unfold struckF
          rw [if_pos hne]
        exact hret x tx tl1 _ _ (by rw [hfin]; exact S.txt) S.tab kF (cb_drop kN fun q hq => .tail _ (.tail _ (.tail _ (List.mem_append_left _ (.tail _ (.tail _ hq))))))
    have hpl : 0 < (placesI σ cur).length := List.length_pos_iff.mpr hne
    obtain ⟨hf2, hf3⟩ := fmod_bd (ps.getD ((i : Int).fmod ps.length).toNat 0) hpl
    k_steps
    · exfalso
      rename (_ != _) = true => hq
      cases hc : placesI σ cur with
      | nil => exact hne hc
      | cons _ _ => rw [hc] at hq; simp at hq
    refine Hold.mk ?_
    have hplace := placesI_mem (getD_mem (l := placesI σ cur) (n := ((ps.getD ((i : Int).fmod ps.length).toNat 0).fmod (placesI σ cur).length).toNat) (by omega))
    (rename Fr _ _ _ _ => kF1; rename News _ _ _ _ => kN1)
    k_dflt (refine found_c (tl := tl1) (news := (L1 + 1 + 1, oc) :: (L1 + 1, o2) :: (news ++ own)) (by assumption) kF1 (by assumption) (cb_drop kN1 ?_) (by assumption) (by rfl) C S.tab ?_ (by ktr_room) (by ktr_units) hplace.1 (by omega) (by omega) ?_)
    · intro q hq
      simp only [strkLed, List.mem_append, List.mem_cons] at hq ⊢
      rcases hq with h | h | h | h | h
      · exact .inr (.inr (.inr (.inl (.inr (.inr (.inl h))))))
      · exact .inr (.inr (.inr (.inl (.inl h))))
      · exact .inr (.inr (.inr (.inl (.inr (.inl h)))))
      · exact .inr (.inr (.inr (.inl (.inr (.inr (.inr h))))))
      · exact .inr (.inr (.inr (.inr h)))
    · intro q hq b hb
      have hb' : b = 84 := by simpa using hb
      subst hb'
      rcases List.mem_cons.mp hq with rfl | hq
      · exact neN (by dsimp only; omega)
      · rcases List.mem_cons.mp hq with rfl | hq
        · exact neN (by dsimp only; omega)
        · rcases List.mem_append.mp hq with hq | hq
          · exact hoff q hq 84 (by simp)
          · obtain ⟨o84, h84'⟩ := tabSt_has S.tab
            exact ho q hq 84 (List.mem_map.mpr ⟨(84, o84), .tail _ (.tail _ (List.mem_append_left _ h84')), rfl⟩)
    clear kF1 kN1
    intro fa led tl2 h3 tk3 kF kN hled hnew hfull hun2
    k_steps
    refine Hold.mk ?_
    k_dflt (refine hun2 _ _ _ kF kN ?_)
    have hall : ∀ q ∈ tl2 ++ (news ++ own), q.1 ≠ L1 + 1 + 1 := by
      intro q hq
      rcases List.mem_append.mp hq with hq | hq
      · exact tab_ne_cell kN (.inr hfull) (fun q hq => hled q (List.mem_append_left _ hq)) (hled _ (List.mem_append_right _ (.head _))) S.cell q hq
      · rcases List.mem_append.mp hq with hq | hq
        · exact Nat.ne_of_lt (Nat.lt_trans (kst_ltOf hl q (List.mem_append_right _ hq)) (by omega))
        · exact ho q hq _ (.head _)
    clear kF kN
    intro t9 h9 tk9 kF kN0
    have kN : News g1 L1 h9 ((L1 + 1 + 1, oc) :: (L1 + 1, o2) :: (tl2 ++ (news ++ own))) := cb_drop kN0 (fun q hq => hled q (by
      rcases List.mem_cons.mp hq with rfl | hq
      · exact List.mem_append_right _ (.head _)
      · rcases List.mem_cons.mp hq with rfl | hq
        · exact List.mem_append_right _ (.tail _ (.head _))
        · rcases List.mem_append.mp hq with hq | hq
          · exact List.mem_append_left _ hq
          · exact List.mem_append_right _ (.tail _ (.tail _ hq))))
    clear kN0
    k_steps
    have hkn : ((placesI σ cur).getD ((ps.getD ((i : Int).fmod ps.length).toNat 0).fmod (placesI σ cur).length).toNat 0).toNat + 1 < cur.length := by omega
    refine StrkEnd.intro (by assumption) (by assumption) ?_ ?_ ⟨.inr hfull, by assumption, cut_text S.txt hkn, fun c hc => S.sg c (strike_mem hc), ?_, ?_⟩ ?_
    · intro q hq
      simp only [strkLed, List.mem_append, List.mem_cons] at hq ⊢
      rcases hq with (h | h | h | h) | h
      · exact .inl h
      · exact .inr (.inl h)
      · exact .inr (.inr (.inl h))
      · exact .inr (.inr (.inr (.inl h)))
      · exact .inr (.inr (.inr (.inr h)))
    · intro q hq b hb
      obtain ⟨r, hr, rfl⟩ := List.mem_map.mp hb
      rcases hnew r hr with h | h
      · obtain ⟨r', hr', e⟩ := List.mem_map.mp h
        exact ho q hq _ (List.mem_map.mpr ⟨r', .tail _ (.tail _ (List.mem_append_left _ hr')), e⟩)
      · exact Nat.ne_of_lt (h q (List.mem_append_right _ (.tail _ (.tail _ (List.mem_append_right _ hq)))))
    · have := strike_len hkn
      have := S.len
      omega
    · rw [← S.fun_, show word.cps.toList.length + 1 - i = (word.cps.toList.length - i) + 1 by omega, show word.cps.toList.length + 1 - (i + 1) = word.cps.toList.length - i by omega]
      conv => rhs; unfold struckF
      rw [if_neg hne]
      unfold pickI
      rw [fmod_nat i hpn]
    · intro z h1 h2 h3
      simp only [sTurn, sSize, sPlaces] at h1 h2 h3
      simp only [if_neg h1, if_neg h2, if_neg h3]
      exact (if_neg h1).trans ((if_neg h2).trans (if_neg h3))
  · intro l k
    dsimp only
    split
    · simp
    · omega
end
end Mine
end

section
open PySem PySem.W PyProof.Rows PySem.Calls PySem.Spec PyProof.V
namespace Mine
set_option maxRecDepth 100000
set_option maxHeartbeats 4000000
theorem newDict_strong {M : Model} {A : Around} {E : Value → Shared → Prop} {s : Shared} {Q Q' : Value → Shared → Prop} (H : wpAny M A newDict Q E s) (h : ∀ s', Q (.ref s.heap.objs.size) s' → Q' (.ref s.heap.objs.size) s') : wpAny M A newDict Q' E s :=
  fun Γ p hΓ => h _ (H Γ p hΓ)

theorem stored4 {f g : Int → Str} {vs : List Value} {kvs : List (Str × Value)}
    (hP : vs.length = 4) (hv : ∀ (j : Nat) (v : Value), vs[j]? = some v → j < 4 ∧ ∃ t, v = Value.int (0 + (j : Int) * 1) t)
    (hS : StoredAll (fun v k => ∃ i t, v = Value.int i t ∧ k = f i) (fun v y => ∃ i t u, v = Value.int i t ∧ y = Value.str (g i) u) (vs.filter fun _ => true) kvs)
    (hd : f 0 ≠ f 1 ∧ f 0 ≠ f 2 ∧ f 0 ≠ f 3 ∧ f 1 ≠ f 2 ∧ f 1 ≠ f 3 ∧ f 2 ≠ f 3) :
    ∃ u0 u1 u2 u3, kvs = [(f 0, .str (g 0) u0), (f 1, .str (g 1) u1), (f 2, .str (g 2) u2), (f 3, .str (g 3) u3)] := by
  have hf : vs.filter (fun _ => true) = vs := List.filter_eq_self.mpr (fun _ _ => rfl)
  rw [hf] at hS
  match vs, hP with
  | [v0, v1, v2, v3], _ =>
    obtain ⟨_, t0, rfl⟩ := hv 0 v0 rfl
    obtain ⟨_, t1, rfl⟩ := hv 1 v1 rfl
    obtain ⟨_, t2, rfl⟩ := hv 2 v2 rfl
    obtain ⟨_, t3, rfl⟩ := hv 3 v3 rfl
    have key : ∀ (l : List Value) (i : Int) (t : Tok) kvs, StoredAll (fun v k => ∃ i t, v = Value.int i t ∧ k = f i) (fun v y => ∃ i t u, v = Value.int i t ∧ y = Value.str (g i) u) (l ++ [.int i t]) kvs →
        ∃ kvs' u, StoredAll (fun v k => ∃ i t, v = Value.int i t ∧ k = f i) (fun v y => ∃ i t u, v = Value.int i t ∧ y = Value.str (g i) u) l kvs' ∧ kvs = stored kvs' (f i) (.str (g i) u) := by
      intro l i t kvs h
      generalize hl : l ++ [Value.int i t] = l' at h
      cases h with
      | nil => simp at hl
      | @snoc l2 kvs2 v2 k2 y2 h1 h2 h3 =>
        have e := List.append_inj' hl rfl
        obtain ⟨rfl, e2⟩ := e
        have e3 : Value.int i t = v2 := by simpa using e2
        subst e3
        obtain ⟨i', t', e4, rfl⟩ := h2
        obtain ⟨i'', t'', u, e5, rfl⟩ := h3
        cases e4; cases e5
        exact ⟨kvs2, u, h1, rfl⟩
    obtain ⟨k3, u3, h3, rfl⟩ := key [_, _, _] _ _ _ hS
    obtain ⟨k2, u2, h2, rfl⟩ := key [_, _] _ _ _ h3
    obtain ⟨k1, u1, h1, rfl⟩ := key [_] _ _ _ h2
    obtain ⟨k0, u0, h0, rfl⟩ := key [] _ _ _ h1
    have hk0 : k0 = [] := by
      have := h0.length_le
      exact List.length_eq_zero_iff.mp (by simpa using this)
    subst hk0
    refine ⟨u0, u1, u2, u3, ?_⟩
    have e0 : (0 : Int) + ((0 : Nat) : Int) * 1 = 0 := rfl
    have e1 : (0 : Int) + ((1 : Nat) : Int) * 1 = 1 := rfl
    have e2 : (0 : Int) + ((2 : Nat) : Int) * 1 = 2 := rfl
    have e3 : (0 : Int) + ((3 : Nat) : Int) * 1 = 3 := rfl
    rw [e0, e1, e2, e3]
    obtain ⟨d1, d2, d3, d4, d5, d6⟩ := hd
    simp [stored, d1, d2, d3, d4, d5, d6]

section
variable {prog : Program} {w : World} {A : Around} {E : Value → Shared → Prop} {s : Shared} {env : Env} {h₀ : Heap} {L : Addr} {m : Str → Option Value} {news : List (Addr × Obj)}
def DictSrc (prog : Program) (w : World) (A : Around) (h₀ : Heap) (L : Addr) (m : Str → Option Value) (env : Env) (kx vx : Expr) (x : Str) (scope : Scope) (cl : List (Str × Addr)) (Q : Value → Shared → Prop) (xv : Value) (s₁ : Shared) : Prop :=
  ∃ (r : Addr) (t u v : Tok) (news : List (Addr × Obj)) (f g : Int → Str), xv = .ref r ∧ Fr h₀ L s₁.heap m ∧ News h₀ L s₁.heap news ∧ IsRange s₁.heap r 0 4 1 t u v ∧ (f 0 ≠ f 1 ∧ f 0 ≠ f 2 ∧ f 0 ≠ f 3 ∧ f 1 ≠ f 2 ∧ f 1 ≠ f 3 ∧ f 2 ≠ f 3) ∧
    (∀ C i t s₃ m₃ (E' : Value → Shared → Prop), 0 ≤ i → i < 4 → s₃.heap.Ns C m₃ → m₃ x = some (.int i t) → Fr h₀ L s₃.heap m → News h₀ L s₃.heap news →
      wpAny (model prog w) A (eval kx (compEnvC scope cl C env)) (fun key s₄ => (∃ tk, key = .str (f i) tk) ∧ Keeps s₃ s₄) E' s₃) ∧
    (∀ C i t s₃ m₃ (E' : Value → Shared → Prop), 0 ≤ i → i < 4 → s₃.heap.Ns C m₃ → m₃ x = some (.int i t) → Fr h₀ L s₃.heap m → News h₀ L s₃.heap news →
      wpAny (model prog w) A (eval vx (compEnvC scope cl C env)) (fun y s₄ => (∃ tk, y = .str (g i) tk) ∧ Keeps s₃ s₄) E' s₃) ∧
    (∀ pd od u0 u1 u2 u3 h' tk, Fr h₀ L h' m → News h₀ L h' ((pd, od) :: news) → (∀ p ∈ news, p.1 < pd) → (pd == sysModules) = false →
      od.IsDictOf (strKind prog w) [(f 0, .str (g 0) u0), (f 1, .str (g 1) u1), (f 2, .str (g 2) u2), (f 3, .str (g 3) u3)] → Q (.ref pd) { s₁ with heap := h', toks := tk })

theorem DictComp_K {kx vx iter : Expr} {x : Str} {px : Pos} {scope : Scope} {cl : List (Str × Addr)} {pos : Pos} {Q : Value → Shared → Prop} (F₀ : Fr h₀ L s.heap m) (hh : A.handled = none) (hbig : sysModules < h₀.objs.size)
    (hclos : closureFor scope env = pure cl) (hcell : ∀ y ∈ scope.names, y.2 ≠ .cell) (hkind : scope.kind = .function)
    (hnames : ∀ y ∈ scope.names, y.2 = .local → scope.names.lookup y.1 = some .local) (hx : scope.names.lookup x = some .local)
    (h : wpAny (model prog w) A (eval iter env) (DictSrc prog w A h₀ L m env kx vx x scope cl Q) E s)
    (hs : ∀ x, foldedSetIterable iter env x = pure x := by intro _; rfl) :
    wpAny (model prog w) A (eval (.DictComp kx vx [⟨.Name x px, iter, [], 0⟩] scope pos) env) Q E s := by
  rw [arm_eval_DictComp]
  refine wpAny_comprehension_free (use := none) rfl hs hclos hkind hnames (wpAny_mono h (fun xv s₁ h₁ => ?_) fun _ _ e => e)
  obtain ⟨r, t, u, v, news, f, g, rfl, F, N, hr, hd, hkey, hval, hQ⟩ := h₁
  refine wpAny_pyIter_range hr (by decide) ?_
  have W := (Walks.range (prog := prog) (w := w) hh s₁.heap.objs.size 0 1 4).bound
  have hst : IsRangeIter (s₁.heap.push { cls := .type "range_iterator", data := .fields #[rawInt 0, rawInt (Builtin.Range.rangeSize 0 4 1), rawInt 1] }) s₁.heap.objs.size (0 + ((0 : Nat) : Int) * 1) ((4 : Nat) - ((0 : Nat) : Int)) 1 := Heap.get?_push_size _ rfl
  have F2 := F.push { cls := .type "range_iterator", data := .fields #[rawInt 0, rawInt (Builtin.Range.rangeSize 0 4 1), rawInt 1] }
  have N2 : News h₀ L (s₁.heap.push { cls := .type "range_iterator", data := .fields #[rawInt 0, rawInt (Builtin.Range.rangeSize 0 4 1), rawInt 1] }) news := fun p hp => ⟨Heap.get?_push_of_some _ (N p hp).1, (N p hp).2⟩
  have hI : h₀.get? s₁.heap.objs.size = none := next_is_new F
  have hLI : L ≠ s₁.heap.objs.size := Nat.ne_of_lt F.ns.lt
  have hoff : ∀ p ∈ news, p.1 ≠ s₁.heap.objs.size := fun p hp => Nat.ne_of_lt (Heap.lt_size (N p hp).1)
  generalize hs2 : s₁.heap.push { cls := .type "range_iterator", data := .fields #[rawInt 0, rawInt (Builtin.Range.rangeSize 0 4 1), rawInt 1] } = hp2 at hst F2 N2 ⊢
  have hsz2 : s₁.heap.objs.size < hp2.objs.size := by rw [← hs2, Heap.size_push]; exact Nat.lt_succ_self _
  have Wb := W
  refine newDict_strong (comp_block_walkCD (E := E) (env := env) (kx := kx) (vx := vx) (iter := iter) (x := x) (px := px) (ifs := []) (cl := cl) (pos := pos) (knd := strKind prog w) (s₂ := { s₁ with heap := hp2 }) (RR := fun acc C r s' => acc = .ref hp2.objs.size → compPost (model prog w) A E none Q acc C r s') W (by rw [sizeLine_eq]; decide) (fun _ => true)
    (fun v k => ∃ i t, v = Value.int i t ∧ k = f i) (fun v y => ∃ i t u, v = Value.int i t ∧ y = Value.str (g i) u) hcell hkind hx hst (fun b hb => by rw [List.mem_singleton.mp hb]; exact hsz2) ?_ ?_) ?_
  · refine ⟨?_, ?_, ?_⟩
    · intro C i v s₃ m₃ E' hP hns hm hk
      exact wpAny_pure ⟨rfl, s₃.heap, s₃.toks, rfl, fun _ _ e => e⟩
    · intro C i v s₃ m₃ E' hP _ hns hm hk
      obtain ⟨hi, t, rfl⟩ := hP
      refine wpAny_mono (hkey C _ t s₃ m₃ E' (by omega) (by omega) hns hm (LCg.fr_but F2 hk hLI hI) (LCg.news_but N2 hk hoff)) (fun key s₄ z => ?_) fun _ _ z => z
      obtain ⟨⟨tk, rfl⟩, hK⟩ := z
      exact ⟨⟨f _, strKind_is prog w _ _, _, _, rfl, rfl⟩, hK⟩
    · intro C i v s₃ m₃ E' hP _ hns hm hk
      obtain ⟨hi, t, rfl⟩ := hP
      refine wpAny_mono (hval C _ t s₃ m₃ E' (by omega) (by omega) hns hm (LCg.fr_but F2 hk hLI hI) (LCg.news_but N2 hk hoff)) (fun key s₄ z => ?_) fun _ _ z => z
      obtain ⟨⟨tk, rfl⟩, hK⟩ := z
      exact ⟨⟨_, _, _, rfl, rfl⟩, hK⟩
  · intro D C h' tk m' kvs vs hD hC hDC hn hl hlen hP hF hk e
    have eD : D = hp2.objs.size := by cases e; rfl
    obtain ⟨u0, u1, u2, u3, rfl⟩ := stored4 hlen hP hF hd
    refine ⟨m', hn, fun h'' hs'' => ?_⟩
    have hl' := hl.extBut hs''.extBut hDC
    obtain ⟨od, hod, hdict⟩ := Heap.dictOf_iff.mp hl'
    have hkk : ∀ b o, b ∉ [s₁.heap.objs.size] → hp2.get? b = some o → h''.get? b = some o := fun b o hb e => hs''.extBut b o (fun q => by rw [q] at e; rw [hC] at e; cases e) (hk b o hb e)
    have F3 := LCg.fr_but F2 hkk hLI hI
    have N3 := LCg.news_but N2 hkk hoff
    have hlt : ∀ p ∈ news, p.1 < D := fun p hp => by rw [eD]; exact Heap.lt_size (N2 p hp).1
    refine hQ D od u0 u1 u2 u3 h'' tk F3 (fun p hp => ?_) hlt ?_ hdict
    · rcases List.mem_cons.mp hp with rfl | hp
      · refine ⟨hod, ?_, ?_⟩
        · rw [eD]; exact Nat.ne_of_gt F2.ns.lt
        · exact Heap.get?_none_of_le (by rw [eD]; exact Nat.le_trans F2.above (Nat.le_of_lt F2.ns.lt))
      · exact N3 p hp
    · rw [eD]; exact F2.notModules hbig
  · intro s' hq
    refine wpAny_mono hq (fun cenv s₄ hc => codeAny_mono hc fun r s z => z rfl) fun _ _ e => e
end
end Mine
end

section
open PySem PySem.W PyProof.Rows PySem.Spec PyProof.V
namespace Mine
local macro_rules | `(tactic| walk_at "mine pad 1") => `(tactic| fail "pad")
set_option maxRecDepth 100000
set_option maxHeartbeats 8000000
local macro_rules | `(tactic| k_room) => `(tactic| ktr_room)
local macro_rules | `(tactic| walk_at "mine enter") => `(tactic| first
  | (refine' code_def ?k1 ?k2 ?k3 ?k4 ?k5 ?kA ?kF ?kK ?k6 ?k7 ?k8 ?k9 ?kB ?_ ?c2 ?c3 ?c4 ?c5; (case kA => exact rfl); (case kF => exact rfl); (case kK => assumption); (case k1 => k_asm); (case k2 => k_asm); (case k3 => k_asm); (case k4 => k_asm); (case k5 => k_asm); (case k6 => k_is); (case k7 => k_is); (case k8 => ktr_room); (case k9 => exact BindsTo.of_eq rfl); (case c5 => decide); (case kB => exact locs rfl); (case c2 => exact rfl); (case c3 => exact rfl); (case c4 => exact rfl); k_whole; intro g' L' h' FG' F' N' B' X' T'; (try dsimp only); (try k_lift B'); (try k_fold))
  | (refine' code_defC ?k1 ?k2 ?k3 ?k4 ?k5 ?kA ?kF ?kK ?k6 ?k7 ?k8 ?k9 ?kB ?kD ?_ ?c2 ?c3 ?c4; (case kA => exact rfl); (case kF => exact rfl); (case kK => assumption); (case k1 => k_asm); (case k2 => k_asm); (case k3 => k_asm); (case k4 => k_asm); (case k5 => k_asm); (case k6 => k_is); (case k7 => k_is); (case k8 => ktr_room); (case k9 => exact BindsTo.of_eq rfl); (case kB => exact rfl); (case kD => decide +kernel); (case c2 => exact rfl); (case c3 => exact rfl); (case c4 => exact rfl); k_whole; intro g' L' h' tk' cells' FG' F' N' Y' B' X' T' l1; (try k_lt l1); k_cells Y'; (try simp only [List.cons_append, List.nil_append] at N'); (try dsimp only); (try k_lift B'); (try k_fold)))
local macro_rules | `(tactic| walk_at "setAttr ref") => `(tactic| (k_here; k_dflt (refine' fnSet_new ?F ?N ?U ?l ?_; (case F => k_asm); (case N => k_asm); (case U => k_updF); (case l => first | exact fn_string | exact fn_span); k_whole); intro dx' h' F' N' l1; (try dsimp only at N'); (try k_lt l1); (try k_sweep)))
local macro_rules | `(tactic| walk_at "setAttr ref") => `(tactic| (k_here; k_dflt (refine' fnSet_old ?F ?N ?m ?d ?l ?g ?e ?U ?z ?_; (case F => k_asm); (case N => k_asm); (case m => k_mem); (case d => k_mem); (case l => first | exact fn_string | exact fn_span); (case g => k_get); (case e => k_put); (case U => k_upd); (case z => exact Nat.le_of_ble_eq_true rfl); k_whole); intro h' F' N'; (try k_sweep)))

local macro_rules | `(tactic| k_all) => `(tactic| (refine allLt_ne (by with_reducible assumption) ?_; omega))


def Hold3 (p : Prop) : Prop := p
theorem Hold3.out {p : Prop} (h : Hold3 p) : p := h
theorem Hold3.mk {p : Prop} (h : p) : Hold3 p := h
local macro_rules | `(tactic| walk_at "DictSrc") => `(tactic| (refine Hold3.out ?_))
local macro_rules | `(tactic| walk_at "eval DictComp") => `(tactic| (k_here; k_dflt (refine DictComp_K (by k_asm) rfl (modules_low (Top.nolimit (by assumption))) (by with_unfolding_all rfl) (by decide) (by rfl) (by decide) (by rfl) ?_)))
local macro_rules | `(tactic| walk_at "eval Name") => `(tactic| (k_here; (with_reducible show wpAny _ _ (eval (Expr.Name _ _) (compEnvC _ _ _ _)) _ _ _); k_dflt (refine wpAny_Name (wpAny_loadName_local (by rfl) (by rfl) (by assumption) (by assumption) ?_))))
def rowσ (r : List Nat) (c : Nat) : Nat := if c = 97 then r.getD 0 0 else if c = 98 then r.getD 1 0 else if c = 99 then r.getD 2 0 else r.getD 3 0
def rowL : Nat → List Nat
  | 0 => [97, 98, 99, 42]
  | 1 => [98, 97, 99, 42]
  | 2 => [99, 98, 97, 42]
  | _ => [97, 99, 98, 42]
def sgm (k : Nat) : Nat → Nat := rowσ (rowL k)
theorem pdat_0 : PDat (sgm 0) = [(PyData.str (Txt.item (Str.ofString "abc*") 0), PyData.str (Txt.item (Str.ofString "abc*") 0)), (PyData.str (Txt.item (Str.ofString "abc*") 1), PyData.str (Txt.item (Str.ofString "abc*") 1)), (PyData.str (Txt.item (Str.ofString "abc*") 2), PyData.str (Txt.item (Str.ofString "abc*") 2)), (PyData.str (Txt.item (Str.ofString "abc*") 3), PyData.str (Txt.item (Str.ofString "abc*") 3))] := by kernel_rfl
theorem pdat_1 : PDat (sgm 1) = [(PyData.str (Txt.item (Str.ofString "abc*") 0), PyData.str (Txt.item (Str.ofString "bac*") 0)), (PyData.str (Txt.item (Str.ofString "abc*") 1), PyData.str (Txt.item (Str.ofString "bac*") 1)), (PyData.str (Txt.item (Str.ofString "abc*") 2), PyData.str (Txt.item (Str.ofString "bac*") 2)), (PyData.str (Txt.item (Str.ofString "abc*") 3), PyData.str (Txt.item (Str.ofString "bac*") 3))] := by kernel_rfl
theorem pdat_2 : PDat (sgm 2) = [(PyData.str (Txt.item (Str.ofString "abc*") 0), PyData.str (Txt.item (Str.ofString "cba*") 0)), (PyData.str (Txt.item (Str.ofString "abc*") 1), PyData.str (Txt.item (Str.ofString "cba*") 1)), (PyData.str (Txt.item (Str.ofString "abc*") 2), PyData.str (Txt.item (Str.ofString "cba*") 2)), (PyData.str (Txt.item (Str.ofString "abc*") 3), PyData.str (Txt.item (Str.ofString "cba*") 3))] := by kernel_rfl
theorem pdat_3 : PDat (sgm 3) = [(PyData.str (Txt.item (Str.ofString "abc*") 0), PyData.str (Txt.item (Str.ofString "acb*") 0)), (PyData.str (Txt.item (Str.ofString "abc*") 1), PyData.str (Txt.item (Str.ofString "acb*") 1)), (PyData.str (Txt.item (Str.ofString "abc*") 2), PyData.str (Txt.item (Str.ofString "acb*") 2)), (PyData.str (Txt.item (Str.ofString "abc*") 3), PyData.str (Txt.item (Str.ofString "acb*") 3))] := by kernel_rfl
section
variable {w : World} {dp un : Nat} {gd : Option (List Code)} {cn : Str} {cs : Scope} {a : Addr} {ccd : Value} {cl : List (Str × Addr)} {outer : List Env} {A₀ : Around} {base h₀ : Heap} {L : Addr} {m : Str → Option Value} {news : List (Addr × Obj)} {s : Shared} {Q E : Value → Shared → Prop} {p : Program} {loose : List Str} {mean : ExcName → Option Value} {mg mb : Str → Option Value}

theorem partners_c {number : Int} {t : Tok} (B : Below A₀ base outer h₀) (F : Fr h₀ L s.heap m) (X : (hd.heap_39 w.params).In h₀)
   (N : News h₀ L s.heap news) (T : Top p loose mean mg mb h₀) (hk : cs.kind = .function) (hdp : dp + 8 < recursionLimit) (hun : un + 40 < cLine)
   (hret : ∀ pd od h' tk', PTab PySem.Challenge.rw_re0007_01.row.prog w pd od (sgm (number.fmod 4).toNat) → Fr h₀ L h' m → News h₀ L h' ((pd, od) :: news) → (∀ q ∈ news, q.1 < pd) → Q (.ref pd) { s with heap := h', toks := tk' }) :
  wpAny (model PySem.Challenge.rw_re0007_01.row.prog w) (ktrTop dp un gd cn cs L a ccd cl outer) (call (.ref 75) [.int number t]) Q E s := by
  revert X; k_fill; intro X
  refine wpAny_call ?_
  k_dflt (walk_at "mine enter")
  (rename ∀ q, q ∈ news → _ => hl; replace hl := allLt_of hl)
  k_steps
  have h4 : number.fmod 4 = 0 ∨ number.fmod 4 = 1 ∨ number.fmod 4 = 2 ∨ number.fmod 4 = 3 := by
    rw [Int.fmod_eq_emod_of_nonneg _ (by decide)]; omega
  rcases h4 with e4 | e4 | e4 | e4
  · rw [e4] at hret ⊢
    k_steps
    (rename Fr _ _ _ _ => kF; rename News _ _ _ _ => kN; rename IsRange _ _ _ _ _ _ _ _ => kR)
    refine Hold3.mk ⟨_, _, _, _, _, (fun i => Txt.item (Str.ofString "abc*") i), (fun i => Txt.item (Str.ofString "abc*") i), rfl, kF, kN, kR, by decide +kernel, ?_, ?_, ?_⟩
    · clear kF kN kR
      intro C i t3 s3 m3 E3 hi0 hi4 hns hm kF kN
      have hlen : (Str.ofString "abc*").length = 4 := by decide
      k_steps
      exact ⟨_, _, rfl, fun _ _ e => e⟩
    · clear kF kN kR
      intro C i t3 s3 m3 E3 hi0 hi4 hns hm kF kN
      have hlen : (Str.ofString "abc*").length = 4 := by decide
      k_steps
      exact ⟨_, _, rfl, fun _ _ e => e⟩
    · clear kF kN kR
      intro pd od v0 v1 v2 v3 h9 tk9 kF kN hlt lo hdict
      have hP : PTab PySem.Challenge.rw_re0007_01.row.prog w pd od (sgm 0) := ⟨lo, _, hdict, by rw [pdat_0]; exact .cons (Flat.str _ _) (.cons (Flat.str _ _) (.cons (Flat.str _ _) (.cons (Flat.str _ _) .nil)))⟩
      k_steps
      rename_i kF kN _ _
      exact hret pd od _ _ hP kF (cb_drop kN (by kcj_all)) (fun q hq => hlt q (.tail _ (.tail _ hq)))
  · rw [e4] at hret ⊢
    k_steps
    (rename Fr _ _ _ _ => kF; rename News _ _ _ _ => kN; rename IsRange _ _ _ _ _ _ _ _ => kR)
    refine Hold3.mk ⟨_, _, _, _, _, (fun i => Txt.item (Str.ofString "abc*") i), (fun i => Txt.item (Str.ofString "bac*") i), rfl, kF, kN, kR, by decide +kernel, ?_, ?_, ?_⟩
    · clear kF kN kR
      intro C i t3 s3 m3 E3 hi0 hi4 hns hm kF kN
      have hlen : (Str.ofString "abc*").length = 4 := by decide
      k_steps
      exact ⟨_, _, rfl, fun _ _ e => e⟩
    · clear kF kN kR
      intro C i t3 s3 m3 E3 hi0 hi4 hns hm kF kN
      have hlen : (Str.ofString "bac*").length = 4 := by decide
      k_steps
      exact ⟨_, _, rfl, fun _ _ e => e⟩
    · clear kF kN kR
      intro pd od v0 v1 v2 v3 h9 tk9 kF kN hlt lo hdict
      have hP : PTab PySem.Challenge.rw_re0007_01.row.prog w pd od (sgm 1) := ⟨lo, _, hdict, by rw [pdat_1]; exact .cons (Flat.str _ _) (.cons (Flat.str _ _) (.cons (Flat.str _ _) (.cons (Flat.str _ _) .nil)))⟩
      k_steps
      rename_i kF kN _ _
      exact hret pd od _ _ hP kF (cb_drop kN (by kcj_all)) (fun q hq => hlt q (.tail _ (.tail _ hq)))
  · rw [e4] at hret ⊢
    k_steps
    (rename Fr _ _ _ _ => kF; rename News _ _ _ _ => kN; rename IsRange _ _ _ _ _ _ _ _ => kR)
    refine Hold3.mk ⟨_, _, _, _, _, (fun i => Txt.item (Str.ofString "abc*") i), (fun i => Txt.item (Str.ofString "cba*") i), rfl, kF, kN, kR, by decide +kernel, ?_, ?_, ?_⟩
    · clear kF kN kR
      intro C i t3 s3 m3 E3 hi0 hi4 hns hm kF kN
      have hlen : (Str.ofString "abc*").length = 4 := by decide
      k_steps
      exact ⟨_, _, rfl, fun _ _ e => e⟩
    · clear kF kN kR
      intro C i t3 s3 m3 E3 hi0 hi4 hns hm kF kN
      have hlen : (Str.ofString "cba*").length = 4 := by decide
      k_steps
      exact ⟨_, _, rfl, fun _ _ e => e⟩
    · clear kF kN kR
      intro pd od v0 v1 v2 v3 h9 tk9 kF kN hlt lo hdict
      have hP : PTab PySem.Challenge.rw_re0007_01.row.prog w pd od (sgm 2) := ⟨lo, _, hdict, by rw [pdat_2]; exact .cons (Flat.str _ _) (.cons (Flat.str _ _) (.cons (Flat.str _ _) (.cons (Flat.str _ _) .nil)))⟩
      k_steps
      rename_i kF kN _ _
      exact hret pd od _ _ hP kF (cb_drop kN (by kcj_all)) (fun q hq => hlt q (.tail _ (.tail _ hq)))
  · rw [e4] at hret ⊢
    k_steps
    (rename Fr _ _ _ _ => kF; rename News _ _ _ _ => kN; rename IsRange _ _ _ _ _ _ _ _ => kR)
    refine Hold3.mk ⟨_, _, _, _, _, (fun i => Txt.item (Str.ofString "abc*") i), (fun i => Txt.item (Str.ofString "acb*") i), rfl, kF, kN, kR, by decide +kernel, ?_, ?_, ?_⟩
    · clear kF kN kR
      intro C i t3 s3 m3 E3 hi0 hi4 hns hm kF kN
      have hlen : (Str.ofString "abc*").length = 4 := by decide
      k_steps
      exact ⟨_, _, rfl, fun _ _ e => e⟩
    · clear kF kN kR
      intro C i t3 s3 m3 E3 hi0 hi4 hns hm kF kN
      have hlen : (Str.ofString "acb*").length = 4 := by decide
      k_steps
      exact ⟨_, _, rfl, fun _ _ e => e⟩
    · clear kF kN kR
      intro pd od v0 v1 v2 v3 h9 tk9 kF kN hlt lo hdict
      have hP : PTab PySem.Challenge.rw_re0007_01.row.prog w pd od (sgm 3) := ⟨lo, _, hdict, by rw [pdat_3]; exact .cons (Flat.str _ _) (.cons (Flat.str _ _) (.cons (Flat.str _ _) (.cons (Flat.str _ _) .nil)))⟩
      k_steps
      rename_i kF kN _ _
      exact hret pd od _ _ hP kF (cb_drop kN (by kcj_all)) (fun q hq => hlt q (.tail _ (.tail _ hq)))
end
end Mine
end

section
open PySem PySem.W PyProof.Rows
namespace Mine
local macro_rules | `(tactic| walk_at "mine pad 1") => `(tactic| fail "pad")
local macro_rules | `(tactic| walk_at "mine pad 2") => `(tactic| fail "pad")
local macro_rules | `(tactic| walk_at "mine pad 3") => `(tactic| fail "pad")
local macro_rules | `(tactic| walk_at "mine pad 4") => `(tactic| fail "pad")
set_option maxRecDepth 100000
set_option maxHeartbeats 8000000
local macro_rules | `(tactic| k_room) => `(tactic| ktr_room)
local macro_rules | `(tactic| walk_at "mine enter") => `(tactic| first
  | (refine' code_def ?k1 ?k2 ?k3 ?k4 ?k5 ?kA ?kF ?kK ?k6 ?k7 ?k8 ?k9 ?kB ?_ ?c2 ?c3 ?c4 ?c5; (case kA => exact rfl); (case kF => exact rfl); (case kK => assumption); (case k1 => k_asm); (case k2 => k_asm); (case k3 => k_asm); (case k4 => k_asm); (case k5 => k_asm); (case k6 => k_is); (case k7 => k_is); (case k8 => ktr_room); (case k9 => exact BindsTo.of_eq rfl); (case c5 => decide); (case kB => exact locs rfl); (case c2 => exact rfl); (case c3 => exact rfl); (case c4 => exact rfl); k_whole; intro g' L' h' FG' F' N' B' X' T'; (try dsimp only); (try k_lift B'); (try k_fold))
  | (refine' code_defC ?k1 ?k2 ?k3 ?k4 ?k5 ?kA ?kF ?kK ?k6 ?k7 ?k8 ?k9 ?kB ?kD ?_ ?c2 ?c3 ?c4; (case kA => exact rfl); (case kF => exact rfl); (case kK => assumption); (case k1 => k_asm); (case k2 => k_asm); (case k3 => k_asm); (case k4 => k_asm); (case k5 => k_asm); (case k6 => k_is); (case k7 => k_is); (case k8 => ktr_room); (case k9 => exact BindsTo.of_eq rfl); (case kB => exact rfl); (case kD => decide +kernel); (case c2 => exact rfl); (case c3 => exact rfl); (case c4 => exact rfl); k_whole; intro g' L' h' tk' cells' FG' F' N' Y' B' X' T' l1; (try k_lt l1); k_cells Y'; (try simp only [List.cons_append, List.nil_append] at N'); (try dsimp only); (try k_lift B'); (try k_fold)))
local macro_rules | `(tactic| walk_at "setAttr ref") => `(tactic| (k_here; k_dflt (refine' fnSet_new ?F ?N ?U ?l ?_; (case F => k_asm); (case N => k_asm); (case U => k_updF); (case l => first | exact fn_string | exact fn_span); k_whole); intro dx' h' F' N' l1; (try dsimp only at N'); (try k_lt l1); (try k_sweep)))
local macro_rules | `(tactic| walk_at "setAttr ref") => `(tactic| (k_here; k_dflt (refine' fnSet_old ?F ?N ?m ?d ?l ?g ?e ?U ?z ?_; (case F => k_asm); (case N => k_asm); (case m => k_mem); (case d => k_mem); (case l => first | exact fn_string | exact fn_span); (case g => k_get); (case e => k_put); (case U => k_upd); (case z => exact Nat.le_of_ble_eq_true rfl); k_whole); intro h' F' N'; (try k_sweep)))

local macro_rules | `(tactic| k_all) => `(tactic| (refine allLt_ne (by with_reducible assumption) ?_; omega))


theorem str_a : Str.ofString "a" = one 97 := by decide
theorem str_b : Str.ofString "b" = one 98 := by decide
theorem str_c : Str.ofString "c" = one 99 := by decide
local macro_rules | `(tactic| walk_at "subscriptTail") => `(tactic| (k_here; (with_reducible show wpAny _ _ (subscriptTail _ _ (Value.ref _) (Value.str _ _)) _ _ _); k_dflt (refine pd_item (by k_asm) (by k_mem) (by assumption) (by first | exact str_a | exact str_b | exact str_c) (by decide) ?_); intro _))
def agents (σ : Nat → Nat) : List Str := [Str.ofString "*", Str.ofString "a" ++ one (σ 97), Txt.upper (Str.ofString "b" ++ one (σ 98)), Str.ofString "c" ++ Txt.upper (one (σ 99)), Str.ofString "**"]
section
variable {w : World} {dp un : Nat} {gd : Option (List Code)} {cn : Str} {cs : Scope} {a : Addr} {ccd : Value} {cl : List (Str × Addr)} {outer : List Env} {A₀ : Around} {base h₀ : Heap} {L : Addr} {m : Str → Option Value} {news : List (Addr × Obj)} {s : Shared} {Q E : Value → Shared → Prop} {p : Program} {loose : List Str} {mean : ExcName → Option Value} {mg mb : Str → Option Value}

theorem record_c {pd : Addr} {od : Obj} {σ : Nat → Nat} (B : Below A₀ base outer h₀) (F : Fr h₀ L s.heap m) (X : (hd.heap_39 w.params).In h₀)
   (N : News h₀ L s.heap ((pd, od) :: news)) (T : Top p loose mean mg mb h₀) (hk : cs.kind = .function) (hdp : dp + 8 < recursionLimit) (hun : un + 40 < cLine)
   (P : PTab PySem.Challenge.rw_re0007_01.row.prog w pd od σ)
   (hret : ∀ led rc dx lu lr i1 i2 i3 i4 u1 u2 u3 u4 n1 n2 (gs : List (Str × Tok)) h' tk', Fr h₀ L h' m → News h₀ L h' led → (∀ q ∈ (pd, od) :: news, q ∈ led) → (rc, instObj 59 dx) ∈ led →
     (dx, dictOf [⟨i1, .str (Str.ofString "useragents") u1, .ref lu⟩, ⟨i2, .str (Str.ofString "rulelines") u2, .ref lr⟩, ⟨i3, .str (Str.ofString "delay") u3, .none⟩, ⟨i4, .str (Str.ofString "req_rate") u4, .none⟩] n1) ∈ led → (lu, listOf (gs.map fun g => Value.str g.1 g.2).toArray n2) ∈ led →
     gs.map (·.1) = agents σ → pd < rc ∧ pd < dx ∧ pd < lu → Q (.ref rc) { s with heap := h', toks := tk' }) :
  wpAny (model PySem.Challenge.rw_re0007_01.row.prog w) (ktrTop dp un gd cn cs L a ccd cl outer) (call (.ref 82) [.ref pd]) Q E s := by
  revert X; k_fill; intro X
  have hlN := allLt_of (fun q hq => Heap.lt_size (N q hq).1)
  have s1 : (Str.ofString "a").length = 1 := by decide
  have s2 : (Str.ofString "b").length = 1 := by decide
  have s3 : (Str.ofString "c").length = 1 := by decide
  have s4 : (one (σ 97)).length = 1 := rfl
  have s5 : (one (σ 98)).length = 1 := rfl
  have s6 : (one (σ 99)).length = 1 := rfl
  refine wpAny_call ?_
  k_dflt (walk_at "mine enter")
  k_steps
  rename_i kF kN _ _
  refine' hret _ _ _ _ _ _ _ _ _ _ _ _ _ _ _ [(_, _), (_, _), (_, _), (_, _), (_, _)] _ _ kF kN ?sub ?m1 ?m2 ?m3 ?g ?lt
  case sub => kcj_all
  case m1 => k_mem
  case m2 => k_mem
  case m3 => with_unfolding_all k_mem
  case g => rfl
  case lt => refine ⟨ltN ?_, ltN ?_, ltN ?_⟩ <;> omega
end
end Mine
end

section
open PySem PySem.W PyProof.Rows PySem.Calls PySem.Spec PyProof.V
namespace Mine
set_option maxRecDepth 100000
set_option maxHeartbeats 4000000
section
variable {prog : Program} {w : World} {A : Around} {E : Value → Shared → Prop} {s : Shared} {env : Env} {h₀ : Heap} {L : Addr} {m : Str → Option Value}

def TxtSrc (prog : Program) (w : World) (A : Around) (h₀ : Heap) (L : Addr) (m : Str → Option Value) (env : Env) (elt : Expr) (x : Str) (scope : Scope) (cl : List (Str × Addr)) (Q : Value → Shared → Prop) (xv : Value) (s₁ : Shared) : Prop :=
  ∃ (xt : Str) (tx : Tok) (news : List (Addr × Obj)) (g : Nat → Str), xv = .str xt tx ∧ A.handled = none ∧ Fr h₀ L s₁.heap m ∧ News h₀ L s₁.heap news ∧ xt.length ≤ 1000 ∧
    (∀ (hp : Heap) c t I oI C oC D m₂ ys h tk (E' : Value → Shared → Prop), c ∈ xt.cps.toList → LCg.NsObj oC m₂ → m₂ x = some (.str ⟨#[c]⟩ t) → Fr h₀ L h m → News h₀ L h ((I, oI) :: (C, oC) :: (D, LCg.lst ys) :: news) → LCg.Off3 I C D news → ((@Ne Nat I C) ∧ (@Ne Nat I D) ∧ (@Ne Nat C D)) →
      wpAny (model prog w) A (eval elt (compEnvC scope cl C env)) (LCg.CompEnd h₀ L m { s₁ with heap := h, toks := tk } I oI C oC D (LCg.lst ys) (fun _ => True) (fun y news' => KCtEl news (g c) y news')) E' { s₁ with heap := h, toks := tk }) ∧
    (∀ ys D h tk, StrsAre ys (xt.cps.toList.map g) → Fr h₀ L h m → News h₀ L h ((D, LCg.lst ys) :: news) → LCg.Off1 D news → Q (.ref D) { s₁ with heap := h, toks := tk })

theorem strIter_st {I : Addr} {ty : String} {x : Str} {t : Tok} : ∀ i (h h' : Heap) (o : Obj) (nw : List (Addr × Obj)), h.IsStrIter I ty x t i → h.get? I = some o → h'.get? I = some o → (∀ b o, h₀.get? b = some o → h'.get? b = some o) → News h₀ L h' nw → True → h'.IsStrIter I ty x t i :=
  fun i h h' o nw st e e' _ _ _ => by obtain ⟨o', q, r⟩ := st; rw [e] at q; cases q; exact ⟨o, e', r⟩

theorem txt_rest {elt : Expr} {x : Str} {scope : Scope} {cl : List (Str × Addr)} {xt : Str} {news : List (Addr × Obj)} {Fin : List Value → List (Addr × Obj) → Prop} (g : Nat → Str)
    (turn : ∀ c t I oI C oC D m₂ ys h tk (E' : Value → Shared → Prop), c ∈ xt.cps.toList → LCg.NsObj oC m₂ → m₂ x = some (.str ⟨#[c]⟩ t) → Fr h₀ L h m → News h₀ L h ((I, oI) :: (C, oC) :: (D, LCg.lst ys) :: news) → LCg.Off3 I C D news → ((@Ne Nat I C) ∧ (@Ne Nat I D) ∧ (@Ne Nat C D)) →
      wpAny (model prog w) A (eval elt (compEnvC scope cl C env)) (LCg.CompEnd h₀ L m { s with heap := h, toks := tk } I oI C oC D (LCg.lst ys) (fun _ => True) (fun y news' => KCtEl news (g c) y news')) E' { s with heap := h, toks := tk })
    (fin : ∀ ys, StrsAre ys (xt.cps.toList.map g) → Fin ys news) : LCg.CompRest prog w A h₀ L m env elt x scope cl s (fun _ => True) (SignAt xt) Fin xt.cps.size 0 [] news := by
  have key : ∀ (j i : Nat) (ys : List Value), i + j = xt.cps.size → StrsAre ys ((xt.cps.toList.take i).map g) → LCg.CompRest prog w A h₀ L m env elt x scope cl s (fun _ => True) (SignAt xt) Fin j i ys news := by
    intro j
    induction j with
    | zero =>
      intro i ys hi hy
      have e : i = xt.cps.toList.length := by rw [Array.length_toList]; omega
      subst e
      rw [List.take_length] at hy
      exact LCg.CompRest.zero (fin ys hy)
    | succ j ih =>
      intro i ys hi hy
      refine LCg.CompRest.succ ?_
      intro v I oI C oC D m₂ h tk E' hv hC hx F N off ne
      obtain ⟨c, t, hc, rfl⟩ := hv
      have hc' : xt.cps.toList[i]? = some c := by simpa using hc
      refine wpAny_mono (turn c t I oI C oC D m₂ ys h tk E' (List.mem_of_getElem? hc') hC hx F N off ne) (fun y s₂ hq => ?_) fun _ _ e => e
      obtain ⟨h', tk', nw, e, F', N', off', hS, hn, t', hy'⟩ := hq
      rw [hn] at N' off'
      refine ⟨h', tk', news, e, F', N', off', trivial, ?_⟩
      rw [hy']
      refine ih (i + 1) _ (by omega) ?_
      rw [List.take_add_one, hc']
      simpa using kct_snoc hy
  exact key _ 0 [] (by omega) (by simp only [List.take_zero, List.map_nil]; exact .nil)

theorem ListComp_txt {elt iter : Expr} {x : Str} {px : Pos} {scope : Scope} {cl : List (Str × Addr)} {pos : Pos} {Q : Value → Shared → Prop} (F₀ : Fr h₀ L s.heap m)
    (hclos : closureFor scope env = pure cl) (hcell : ∀ y ∈ scope.names, y.2 ≠ .cell) (hkind : scope.kind = .function)
    (hnames : ∀ y ∈ scope.names, y.2 = .local → scope.names.lookup y.1 = some .local) (hx : scope.names.lookup x = some .local)
    (h : wpAny (model prog w) A (eval iter env) (TxtSrc prog w A h₀ L m env elt x scope cl Q) E s)
    (hs : ∀ x, foldedSetIterable iter env x = pure x := by intro _; rfl) :
    wpAny (model prog w) A (eval (.ListComp elt [⟨.Name x px, iter, [], 0⟩] scope pos) env) Q E s := by
  rw [eval_ListComp]
  refine wpAny_comprehension_free (use := none) rfl hs hclos hkind hnames (wpAny_mono h (fun xv s₁ h₁ => ?_) fun _ _ e => e)
  obtain ⟨xt, tx, news, g, rfl, hh, F, N, hsz, turn, fin⟩ := h₁
  have hsz' : xt.cps.size ≤ sizeLine := by rw [sizeLine_eq]; have : xt.cps.size ≤ 1000 := hsz; omega
  have main : ∀ (ty : String), Walks prog w A s₁.heap.objs.size [s₁.heap.objs.size] [s₁.heap.objs.size] xt.cps.size (SignAt xt) (fun i h => h.IsStrIter s₁.heap.objs.size ty xt tx i) →
      wpAny (model prog w) A (newList []) (fun acc s₃ => wpAny (model prog w) A (newFunctionEnv scope env.globals cl [] env.qual none .none (some env)) (fun cenv s₄ =>
        codeAny (model prog w) A (.compStart (.ListComp elt [⟨.Name x px, iter, [], 0⟩] scope pos) 0 (.ref s₁.heap.objs.size) acc { cenv with scope := relabel scope env }) (compPost (model prog w) A E none Q acc cenv.locals) s₄) E s₃) E
        { s₁ with heap := s₁.heap.push { cls := .type ty, data := .fields #[.str xt tx, .int 0 0] } } := by
    intro ty W
    refine LCg.block_U (S := fun _ => True) W hsz' (fun i h st => by obtain ⟨o, e, _⟩ := st; exact ⟨o, e⟩) strIter_st hcell hkind hx ⟨_, Heap.get?_push_size _ rfl, rfl, rfl⟩ (fun b hb => ?_)
      (F.keeps fun _ _ e => Heap.get?_push_of_some _ e) (N.grown fun _ _ e => Heap.get?_push_of_some _ e) (Nat.ne_of_lt F.ns.lt) (next_is_new F) (fun p hp => Nat.ne_of_lt (Heap.lt_size (N p hp).1)) trivial
      (txt_rest (Fin := LCg.FinE h₀ L m { s₁ with heap := s₁.heap.push { cls := .type ty, data := .fields #[.str xt tx, .int 0 0] } } Q) g (turn s₁.heap) (fun ys hy D h tk F' N' o1 => fin ys D h tk hy F' N' o1)) ?_
    · rw [List.mem_singleton.mp hb]
      show s₁.heap.objs.size < (s₁.heap.push _).objs.size
      rw [Heap.size_push]; exact Nat.lt_succ_self _
    · intro D C h tk m' ys news' F' N' o1 hn hC₀ hD₀ hCL hDL hCD offC fin
      refine ⟨m', hn, fun h'' hs'' => fin D h'' tk (F'.change hs'' hCL hC₀) (fun p hp => ?_) o1⟩
      refine ⟨hs''.extBut _ _ ?_ (N' p hp).1, (N' p hp).2⟩
      rcases List.mem_cons.mp hp with rfl | hp
      · exact Ne.symm hCD
      · exact offC p hp
  cases ha : xt.cps.all (· < 128)
  · exact wpAny_pyIter_wide ha (main _ (Walks.strWide hh _ xt tx))
  · exact wpAny_pyIter_ascii ha (main _ (Walks.strAscii hh _ xt tx))
end
end Mine
end

section
open PySem PySem.W PyProof.Rows PySem.Calls
namespace Mine
set_option maxRecDepth 100000
set_option maxHeartbeats 4000000
def NumsAt (h₀ : Heap) (L : Addr) (m : Str → Option Value) (led : List (Addr × Obj)) (s : Shared) (v : Value) (s' : Shared) : Prop := ∃ ln vs nums n h' tk', v = .ref ln ∧ s' = { s with heap := h', toks := tk' } ∧ Fr h₀ L h' m ∧ News h₀ L h' ((ln, listOf (List.toArray vs) n) :: led) ∧ (∀ q ∈ led, q.1 < ln) ∧ IntsAre vs nums ∧ 0 < nums.length ∧ nums.length ≤ 12
theorem nums_join {M : Model} {A : Around} {ex : Expr} {env : Env} {Q E : Value → Shared → Prop} {s : Shared} {h₀ : Heap} {L : Addr} {m : Str → Option Value} {led : List (Addr × Obj)} (F : Fr h₀ L s.heap m) (N : News h₀ L s.heap led)
    (h1 : wpAny M A (eval ex env) (NumsAt h₀ L m led s) E s)
    (h2 : ∀ ln (vs : List Value) nums n h' tk', Fr h₀ L h' m → News h₀ L h' ((ln, listOf (List.toArray vs) n) :: led) → (∀ q ∈ led, q.1 < ln) → IntsAre vs nums → 0 < nums.length → nums.length ≤ 12 → Q (.ref ln) { s with heap := h', toks := tk' }) :
    wpAny M A (eval ex env) Q E s := by
  refine wpAny_mono h1 (fun v s' H => ?_) fun _ _ z => z
  obtain ⟨ln, vs, nums, n, h', tk', rfl, rfl, F', N', hlt, hi, h0, h1⟩ := H
  exact h2 ln vs nums n h' tk' F' N' hlt hi h0 h1

theorem NumsAt.intro {h₀ : Heap} {L : Addr} {m : Str → Option Value} {led led2 : List (Addr × Obj)} {s : Shared} {ln : Addr} {n : Nat} {h' : Heap} {tk' : Nat} {vs : List Value} {nums : List Int} (F : Fr h₀ L h' m) (N : News h₀ L h' led2) (hm : (ln, listOf (List.toArray vs) n) ∈ led2) (hs : ∀ q ∈ led, q ∈ led2) (hlt : ∀ q ∈ led, q.1 < ln) (hi : IntsAre vs nums) (h0 : 0 < nums.length) (h1 : nums.length ≤ 12) :
    NumsAt h₀ L m led s (.ref ln) { s with heap := h', toks := tk' } :=
  ⟨ln, vs, nums, n, h', tk', rfl, rfl, F, fun q hq => (List.mem_cons.mp hq).elim (fun e => N q (e ▸ hm)) (fun hq => N q (hs q hq)), hlt, hi, h0, h1⟩
def menu : List Nat := [97, 98, 99, 42, 65, 66, 67]
def signOf (k : Int) : Nat := menu.getD (k.fmod 7).toNat 0
theorem fmod7 (k : Int) : 0 ≤ k.fmod 7 ∧ k.fmod 7 < 7 := by
  rw [Int.fmod_eq_emod_of_nonneg _ (by decide)]; omega
theorem signOf_mem (k : Int) : signOf k ∈ sgs := by
  obtain ⟨h0, h1⟩ := fmod7 k
  unfold signOf
  have : (k.fmod 7).toNat < 7 := by omega
  generalize (k.fmod 7).toNat = j at this
  match j, this with
  | 0, _ => decide
  | 1, _ => decide
  | 2, _ => decide
  | 3, _ => decide
  | 4, _ => decide
  | 5, _ => decide
  | 6, _ => decide
theorem item_sign (k : Int) : Txt.item (Str.ofString "abc*ABC") (k.fmod 7) = one (signOf k) := by
  obtain ⟨h0, h1⟩ := fmod7 k
  have e : (Str.ofString "abc*ABC").cps.toList = menu ++ [] := by decide
  exact item_at e h0 (by show _ < 7; omega)

def SignsAre (vs : List Value) (cs : List Nat) : Prop := StrsAre vs (cs.map one) ∧ ∀ c ∈ cs, c ∈ sgs
theorem signs_of {vs : List Value} (h : ∀ v ∈ vs, ∃ c t, c ∈ sgs ∧ v = .str (one c) t) : ∃ cs, SignsAre vs cs := by
  induction vs with
  | nil => exact ⟨[], .nil, by simp⟩
  | cons v r ih =>
    obtain ⟨cs, h1, h2⟩ := ih (fun v hv => h v (.tail _ hv))
    obtain ⟨c, t, hc, rfl⟩ := h v (.head _)
    refine ⟨c :: cs, .cons _ t h1, ?_⟩
    intro d hd
    rcases List.mem_cons.mp hd with rfl | hd
    · exact hc
    · exact h2 d hd
theorem signs_all {vs : List Value} {cs : List Nat} (h : SignsAre vs cs) : ∀ v ∈ vs, ∃ c t, c ∈ sgs ∧ v = .str (one c) t := by
  intro v hv
  obtain ⟨i, hi⟩ := List.getElem?_of_mem hv
  obtain ⟨y, t, rfl, hy⟩ := h.1.item i v hi
  obtain ⟨c, hc, rfl⟩ := List.mem_map.mp (List.mem_of_getElem? hy)
  exact ⟨c, t, h.2 c hc, rfl⟩
theorem signs_len {vs : List Value} {cs : List Nat} (h : SignsAre vs cs) : cs.length = vs.length := by
  have := h.1.length; rw [List.length_map] at this; exact this.symm
theorem pick_sub {items : Array Value} {lo hi st : Option Int} : ∀ v ∈ (slicePick items lo hi st).toList, v ∈ items.toList := by
  intro v hv
  unfold slicePick at hv
  simp only [List.mem_filterMap] at hv
  obtain ⟨j, _, hj⟩ := hv
  exact Array.mem_toList_iff.mpr (Array.mem_of_getElem? (by simpa using hj))
theorem signs_pick {items : Array Value} {cs : List Nat} {lo hi st : Option Int} (h : SignsAre items.toList cs) : ∃ ds, SignsAre (slicePick items lo hi st).toList ds ∧ ds.length ≤ cs.length := by
  obtain ⟨ds, hd⟩ := signs_of (vs := (slicePick items lo hi st).toList) fun v hv => signs_all h v (pick_sub v hv)
  refine ⟨ds, hd, ?_⟩
  rw [signs_len hd, signs_len h, Array.length_toList, Array.length_toList]
  exact slicePick_size_le _ _ _ _
theorem join_signs : ∀ cs : List Nat, (Txt.join (Str.ofString "") (cs.map one)).cps.toList = cs := by
  intro cs
  have key : ∀ cs : List Nat, (Str.join (Str.ofString "") (cs.map one)).cps.toList = cs := by
    intro cs
    induction cs with
    | nil => rfl
    | cons c r ih =>
      cases r with
      | nil => rfl
      | cons d r =>
        show ((one c ++ Str.ofString "") ++ Str.join (Str.ofString "") ((d :: r).map one)).cps.toList = _
        rw [Str.cps_append, Array.toList_append, ih, Str.cps_append, Array.toList_append]
        rfl
  have e : Txt.join (Str.ofString "") (cs.map one) = Str.join (Str.ofString "") (cs.map one) := by first | rfl | exact glued_eq_join _ _ | exact StrLaws.glued_eq_join _ _
  rw [e]; exact key cs
section
variable {prog : Program} {w : World} {A : Around} {E : Value → Shared → Prop} {s : Shared} {h₀ : Heap} {L : Addr} {news : List (Addr × Obj)}
theorem join_c {D : Addr} {items : Array Value} {n : Nat} {cs : List Nat} {t : Tok} {Q : Value → Shared → Prop} (N : News h₀ L s.heap news) (hm : (D, listOf items n) ∈ news) (hs : SignsAre items.toList cs) (hz : cs.length ≤ 100)
    (h : ∀ x t' k, x.cps.toList = cs → x.length = cs.length → Q (.str x t') { s with toks := k }) : wpAny (model prog w) A (call (.builtin "str.join") [.str (Str.ofString "") t, .ref D]) Q E s := by
  refine join_madeW (l := cs) (g := one) 1 ⟨_, (N _ hm).1, rfl, n, rfl⟩ hs.1.carried (fun _ _ => Nat.le_refl _) (by omega) (by decide) fun t' k => h _ t' k (join_signs cs) ?_
  have := congrArg List.length (join_signs cs)
  rw [Array.length_toList] at this
  exact this
end
end Mine
end

section
open PySem PySem.W PyProof.Rows
namespace Mine
set_option maxRecDepth 100000
set_option maxHeartbeats 4000000

def InvO (σ : Nat → Nat) : Prop := ∀ c ∈ lows, σ c ∈ lows ∧ σ (σ c) = c
def stp (σ : Nat → Nat) (c : Nat) (l : List Nat) : List Nat := match l with
  | [] => [c]
  | d :: r => if σ d = c then r else c :: d :: r
def Rd (σ : Nat → Nat) : List Nat → Prop
  | [] => True
  | [_] => True
  | a :: b :: r => σ a ≠ b ∧ Rd σ (b :: r)
def Al (l : List Nat) : Prop := ∀ c ∈ l, c ∈ lows
def act (σ : Nat → Nat) (w l : List Nat) : List Nat := w.foldr (stp σ) l
def invW (σ : Nat → Nat) (y : List Nat) : List Nat := (y.map σ).reverse
def lo (w : List Nat) : List Nat := w.map lo1

section
variable {σ : Nat → Nat}
theorem Rd.tail {a : Nat} {r : List Nat} (h : Rd σ (a :: r)) : Rd σ r := by
  cases r with
  | nil => trivial
  | cons b r => exact h.2
theorem Al.tail {a : Nat} {r : List Nat} (h : Al (a :: r)) : Al r := fun c hc => h c (.tail _ hc)
theorem Al.cons {a : Nat} {r : List Nat} (ha : a ∈ lows) (h : Al r) : Al (a :: r) := fun c hc => by
  rcases List.mem_cons.mp hc with rfl | hc
  · exact ha
  · exact h c hc
theorem Al.app {a b : List Nat} (ha : Al a) (hb : Al b) : Al (a ++ b) := fun c hc => by
  rcases List.mem_append.mp hc with hc | hc
  · exact ha c hc
  · exact hb c hc
theorem stp_al {c : Nat} {l : List Nat} (hc : c ∈ lows) (h : Al l) : Al (stp σ c l) := by
  cases l with
  | nil => exact .cons hc h
  | cons d r =>
    unfold stp; dsimp only
    split
    · exact h.tail
    · exact .cons hc h
theorem stp_rd (I : InvO σ) {c : Nat} {l : List Nat} (hc : c ∈ lows) (h : Rd σ l) : Rd σ (stp σ c l) := by
  cases l with
  | nil => trivial
  | cons d r =>
    unfold stp; dsimp only
    split
    · exact h.tail
    · rename_i hn
      refine ⟨fun e => hn ?_, h⟩
      rw [← e]; exact (I c hc).2
theorem stp_head (I : InvO σ) {c : Nat} {l : List Nat} (h : Al l) (hr : Rd σ (c :: l)) : stp σ c l = c :: l := by
  cases l with
  | nil => rfl
  | cons d r =>
    unfold stp; dsimp only
    rw [if_neg]
    intro e
    refine hr.1 ?_
    rw [← e]; exact (I d (h d (.head _))).2
theorem stp_two (I : InvO σ) {a b : Nat} {l : List Nat} (ha : a ∈ lows) (h : Al l) (hr : Rd σ l) (e : σ a = b) : stp σ a (stp σ b l) = l := by
  have e' : σ b = a := by rw [← e]; exact (I a ha).2
  cases l with
  | nil => show stp σ a [b] = []; unfold stp; dsimp only; rw [if_pos e']
  | cons d r =>
    by_cases hd : σ d = b
    · have hda : d = a := by rw [← (I d (h d (.head _))).2, hd, e']
      have : stp σ b (d :: r) = r := by show (if σ d = b then r else b :: d :: r) = r; rw [if_pos hd]
      rw [this, ← hda]
      exact stp_head I h.tail hr
    · have : stp σ b (d :: r) = b :: d :: r := by show (if σ d = b then r else b :: d :: r) = _; rw [if_neg hd]
      rw [this]
      show (if σ b = a then d :: r else _) = _
      rw [if_pos e']
theorem act_al : ∀ {w l : List Nat}, Al w → Al l → Al (act σ w l)
  | [], _, _, h => h
  | _ :: _, _, hw, h => stp_al (hw _ (.head _)) (act_al hw.tail h)
theorem act_rd (I : InvO σ) : ∀ {w l : List Nat}, Al w → Rd σ l → Rd σ (act σ w l)
  | [], _, _, h => h
  | _ :: _, _, hw, h => stp_rd I (hw _ (.head _)) (act_rd I hw.tail h)
theorem act_id (I : InvO σ) : ∀ {l : List Nat}, Al l → Rd σ l → act σ l [] = l
  | [], _, _ => rfl
  | a :: r, h, hr => by
    show stp σ a (act σ r []) = _
    rw [act_id I h.tail hr.tail]
    exact stp_head I h.tail hr
theorem act_app {u v l : List Nat} : act σ (u ++ v) l = act σ u (act σ v l) := List.foldr_append ..
theorem act_stp (I : InvO σ) {a : Nat} {r l : List Nat} (ha : a ∈ lows) (hr : Al r) (h : Al l) (hl : Rd σ l) : act σ (stp σ a r) l = stp σ a (act σ r l) := by
  cases r with
  | nil => rfl
  | cons d r =>
    by_cases hd : σ d = a
    · have : stp σ a (d :: r) = r := by show (if σ d = a then r else _) = r; rw [if_pos hd]
      rw [this]
      show _ = stp σ a (stp σ d (act σ r l))
      have e : σ a = d := by rw [← hd]; exact (I d (hr d (.head _))).2
      rw [stp_two I ha (act_al hr.tail h) (act_rd I hr.tail hl) e]
    · have : stp σ a (d :: r) = a :: d :: r := by show (if σ d = a then r else _) = _; rw [if_neg hd]
      rw [this]; rfl
theorem act_red (I : InvO σ) : ∀ {w l : List Nat}, Al w → Al l → Rd σ l → act σ (act σ w []) l = act σ w l
  | [], _, _, _, _ => rfl
  | a :: w, l, hw, h, hl => by
    show act σ (stp σ a (act σ w [])) l = stp σ a (act σ w l)
    rw [act_stp I (hw a (.head _)) (act_al hw.tail (fun c (z : c ∈ ([] : List Nat)) => absurd z List.not_mem_nil)) h hl, act_red I hw.tail h hl]
theorem act_inv (I : InvO σ) : ∀ {y l : List Nat}, Al y → Al l → Rd σ l → act σ (invW σ y) (act σ y l) = l
  | [], _, _, _, _ => rfl
  | a :: y, l, hy, h, hl => by
    have e : invW σ (a :: y) = invW σ y ++ [σ a] := by simp [invW]
    rw [e, act_app]
    show act σ (invW σ y) (stp σ (σ a) (stp σ a (act σ y l))) = l
    have ha := I a (hy a (.head _))
    rw [stp_two I ha.1 (act_al hy.tail h) (act_rd I hy.tail hl) ha.2]
    exact act_inv I hy.tail h hl
theorem inv_al (I : InvO σ) {y : List Nat} (hy : Al y) : Al (invW σ y) := fun c hc => by
  obtain ⟨d, hd, rfl⟩ := List.mem_map.mp (List.mem_reverse.mp hc)
  exact (I d (hy d hd)).1
theorem inv_inv (I : InvO σ) {y : List Nat} (hy : Al y) : invW σ (invW σ y) = y := by
  unfold invW
  rw [List.map_reverse, List.reverse_reverse, List.map_map]
  have : ∀ c ∈ y, (σ ∘ σ) c = id c := fun c hc => (I c (hy c hc)).2
  rw [List.map_congr_left this, List.map_id]
theorem act_inv' (I : InvO σ) {y l : List Nat} (hy : Al y) (h : Al l) (hl : Rd σ l) : act σ y (act σ (invW σ y) l) = l := by
  have := act_inv I (inv_al I hy) h hl
  rwa [inv_inv I hy] at this
theorem al_nil : Al [] := fun c (z : c ∈ ([] : List Nat)) => absurd z List.not_mem_nil
theorem red_both (I : InvO σ) {x y : List Nat} (hx : Al x) (hy : Al y) : act σ (x ++ invW σ y) [] = [] ↔ act σ x [] = act σ y [] := by
  constructor
  · intro h
    have h1 : ∀ l, Al l → Rd σ l → act σ (x ++ invW σ y) l = l := fun l hl hr => by
      rw [← act_red I (hx.app (inv_al I hy)) hl hr, h]; rfl
    have h2 := h1 (act σ y []) (act_al hy al_nil) (act_rd I hy trivial)
    rw [act_app, act_inv I hy al_nil trivial] at h2
    exact h2
  · intro h
    rw [act_app, ← act_red I hx (act_al (inv_al I hy) al_nil) (act_rd I (inv_al I hy) trivial), h, act_red I hy (act_al (inv_al I hy) al_nil) (act_rd I (inv_al I hy) trivial)]
    exact act_inv' I hy al_nil trivial

-- the raw words
theorem lo_al {w : List Nat} (h : ∀ c ∈ w, c ∈ sgs) : Al (lo w) := fun c hc => by
  obtain ⟨d, hd, rfl⟩ := List.mem_map.mp hc
  exact lo1_low d (h d hd)
theorem split_at {w : List Nat} {k : Nat} (h : k + 1 < w.length) : w = w.take k ++ w.getD k 0 :: w.getD (k + 1) 0 :: w.drop (k + 2) := by
  have h1 : k < w.length := by omega
  rw [List.getD_eq_getElem?_getD, List.getD_eq_getElem?_getD, List.getElem?_eq_getElem h1, List.getElem?_eq_getElem h]
  simp only [Option.getD_some]
  rw [← List.drop_eq_getElem_cons h, ← List.drop_eq_getElem_cons h1, List.take_append_drop]
theorem strike_act (I : InvO σ) {w : List Nat} {k : Int} (hw : ∀ c ∈ w, c ∈ sgs) (hk : k ∈ placesI σ w) : act σ (lo (strike w k.toNat)) [] = act σ (lo w) [] := by
  have ht := (List.mem_filter.mp hk).2
  obtain ⟨h0, h1⟩ := placesI_mem hk
  have hlt : k.toNat + 1 < w.length := by omega
  conv => rhs; rw [split_at hlt]
  unfold tst at ht
  have e := eq_of_beq ht
  have hm : ∀ j, j < w.length → w.getD j 0 ∈ w := fun j hj => by rw [List.getD_eq_getElem?_getD, List.getElem?_eq_getElem hj]; exact List.getElem_mem hj
  have hd : Al (lo (w.drop (k.toNat + 2))) := lo_al fun c hc => hw c (List.mem_of_mem_drop hc)
  unfold strike
  unfold lo
  rw [List.map_append, List.map_append, act_app, act_app]
  show _ = act σ _ (stp σ _ (stp σ _ (act σ (lo (w.drop (k.toNat + 2))) [])))
  rw [stp_two I (lo1_low _ (hw _ (hm _ (by omega)))) (act_al hd al_nil) (act_rd I hd trivial) e]
  rfl
theorem rd_of' : ∀ (w : List Nat), (∀ k : Nat, k + 1 < w.length → σ (lo1 (w.getD k 0)) ≠ lo1 (w.getD (k + 1) 0)) → Rd σ (lo w) := by
  intro w
  induction w with
  | nil => intro _; trivial
  | cons a r ih =>
    intro h
    cases r with
    | nil => trivial
    | cons b r => exact ⟨h 0 (by simp), ih fun k hk => h (k + 1) (by simp only [List.length_cons] at hk ⊢; omega)⟩
theorem rd_of {w : List Nat} (h : ∀ k : Nat, k + 1 < w.length → σ (lo1 (w.getD k 0)) ≠ lo1 (w.getD (k + 1) 0)) : Rd σ (lo w) := rd_of' w h
theorem places_none {w : List Nat} (h : placesI σ w = []) (k : Nat) (hk : k + 1 < w.length) : σ (lo1 (w.getD k 0)) ≠ lo1 (w.getD (k + 1) 0) := by
  intro e
  have hm : (k : Int) ∈ placesI σ w := by
    refine List.mem_filter.mpr ⟨kre_mem (by omega) (by omega), ?_⟩
    unfold tst
    rw [Int.toNat_natCast, e]; exact beq_self_eq_true _
  rw [h] at hm; cases hm
theorem places_rd {w : List Nat} (h : placesI σ w = []) : Rd σ (lo w) := rd_of (places_none h)
theorem pick_lt (ps : List Int) (i : Nat) {n : Nat} (h : 0 < n) : pickI ps i n < n := by
  unfold pickI
  rw [Int.fmod_eq_emod_of_nonneg _ (by omega)]
  have := Int.emod_nonneg (ps.getD (i % ps.length) 0) (show (n : Int) ≠ 0 by omega)
  have := Int.emod_lt_of_pos (ps.getD (i % ps.length) 0) (show (0 : Int) < n by omega)
  omega
theorem getD_in {l : List Int} {n : Nat} (h : n < l.length) : l.getD n 0 ∈ l := by
  rw [List.getD_eq_getElem?_getD, List.getElem?_eq_getElem h]; exact List.getElem_mem h
theorem picked {ps : List Int} {i : Nat} {w : List Nat} (h : placesI σ w ≠ []) : (placesI σ w).getD (pickI ps i (placesI σ w).length) 0 ∈ placesI σ w :=
  getD_in (pick_lt ps i (List.length_pos_iff.mpr h))
theorem struck_sub {ps : List Int} {c : Nat} : ∀ {f i : Nat} {w : List Nat}, c ∈ struckF σ ps f i w → c ∈ w
  | 0, _, _, h => h
  | f + 1, i, w, h => by
    unfold struckF at h
    split at h
    · exact h
    · exact strike_mem (struck_sub h)
theorem struck_nil {ps : List Int} : ∀ {f i : Nat} {w : List Nat}, w.length < f → placesI σ (struckF σ ps f i w) = []
  | 0, _, _, h => absurd h (Nat.not_lt_zero _)
  | f + 1, i, w, h => by
    unfold struckF
    split
    · assumption
    · rename_i hne
      refine struck_nil ?_
      have hp := placesI_mem (picked (ps := ps) (i := i) hne)
      have := strike_len (w := w) (k := ((placesI σ w).getD (pickI ps i (placesI σ w).length) 0).toNat) (by omega)
      omega
theorem struck_act (I : InvO σ) {ps : List Int} : ∀ {f i : Nat} {w : List Nat}, (∀ c ∈ w, c ∈ sgs) → act σ (lo (struckF σ ps f i w)) [] = act σ (lo w) []
  | 0, _, _, _ => rfl
  | f + 1, i, w, h => by
    unfold struckF
    split
    · rfl
    · rename_i hne
      rw [struck_act I fun c hc => h c (strike_mem hc)]
      exact strike_act I h (picked hne)
theorem struck_lo (I : InvO σ) {ps : List Int} {f i : Nat} {w : List Nat} (hf : w.length < f) (h : ∀ c ∈ w, c ∈ sgs) : lo (struckF σ ps f i w) = act σ (lo w) [] := by
  rw [← struck_act I (ps := ps) (f := f) (i := i) h]
  exact (act_id I (lo_al fun c hc => h c (struck_sub hc)) (places_rd (struck_nil hf))).symm

-- the stack
def stk (σ : Nat → Nat) (w : List Nat) : List Nat := w.reverse.foldl (stkStep σ) []
theorem stk_eq (w : List Nat) : stk σ w = w.foldr (fun c l => stkStep σ l c) [] := by
  unfold stk; rw [List.foldl_reverse]
theorem stk_lo (w : List Nat) : lo (stk σ w) = act σ (lo w) [] := by
  rw [stk_eq]
  induction w with
  | nil => rfl
  | cons c w ih =>
    show lo (stkStep σ (w.foldr (fun c l => stkStep σ l c) []) c) = stp σ (lo1 c) (act σ (lo w) [])
    rw [← ih]
    generalize w.foldr (fun c l => stkStep σ l c) [] = l
    cases l with
    | nil => rfl
    | cons d r =>
      show lo (if σ (lo1 d) = lo1 c then r else c :: d :: r) = if σ (lo1 d) = lo1 c then lo r else lo1 c :: lo1 d :: lo r
      split <;> rfl
theorem stk_keep (I : InvO σ) : ∀ {v : List Nat}, (∀ c ∈ v, c ∈ sgs) → Rd σ (lo v) → v.foldr (fun c l => stkStep σ l c) [] = v
  | [], _, _ => rfl
  | c :: v, h, hr => by
    show stkStep σ (v.foldr (fun c l => stkStep σ l c) []) c = _
    rw [stk_keep I (fun d hd => h d (.tail _ hd)) (Rd.tail hr)]
    cases v with
    | nil => rfl
    | cons d r =>
      show (if σ (lo1 d) = lo1 c then r else c :: d :: r) = _
      rw [if_neg]
      intro e
      have hr' : σ (lo1 c) ≠ lo1 d := hr.1
      exact hr' (by rw [← e]; exact (I _ (lo1_low d (h d (.tail _ (.head _))))).2)
theorem rd_drop {w : List Nat} : ∀ {k : Nat}, Rd σ w → Rd σ (w.drop k)
  | 0, h => h
  | k + 1, h => by
    cases w with
    | nil => exact h
    | cons a r => exact rd_drop (k := k) h.tail
theorem fmod_neg_one {n : Nat} (h : 0 < n) : ((-1 : Int).fmod n).toNat = n - 1 := by
  rw [Int.fmod_eq_emod_of_nonneg _ (by omega)]
  have e : (-1 : Int) % (n : Int) = (n : Int) - 1 := by
    have : (-1 : Int) = ((n : Int) - 1) + (n : Int) * (-1) := by omega
    rw [this, Int.add_mul_emod_self_left]
    exact Int.emod_eq_of_lt (by omega) (by omega)
  rw [e]; omega
theorem pick_last (i : Nat) {n : Nat} (h : 0 < n) : pickI [-1] i n = n - 1 := by
  unfold pickI
  have e : i % ([-1] : List Int).length = 0 := Nat.mod_one i
  rw [e]; exact fmod_neg_one h
theorem rangeKs_sorted (a : Int) (n : Nat) : (rangeKs a n).Pairwise (· < ·) := by
  unfold rangeKs
  rw [List.pairwise_map]
  exact List.pairwise_lt_range.imp fun h => by omega
theorem last_max {l : List Int} (h : l.Pairwise (· < ·)) (hne : l ≠ []) : ∀ j ∈ l, j ≤ l.getD (l.length - 1) 0 := by
  intro j hj
  have hlen : 0 < l.length := List.length_pos_iff.mpr hne
  have hg : l.getD (l.length - 1) 0 = l[l.length - 1] := by rw [List.getD_eq_getElem?_getD, List.getElem?_eq_getElem (by omega)]; rfl
  rw [hg]
  obtain ⟨i, hi, rfl⟩ := List.getElem_of_mem hj
  by_cases e : i = l.length - 1
  · subst e; exact Int.le_refl _
  · exact Int.le_of_lt (List.pairwise_iff_getElem.mp h i (l.length - 1) hi (by omega) (by omega))
theorem strike_last (I : InvO σ) {w : List Nat} (hw : ∀ c ∈ w, c ∈ sgs) (hne : placesI σ w ≠ []) : stk σ (strike w ((placesI σ w).getD ((placesI σ w).length - 1) 0).toNat) = stk σ w := by
  have hpos : 0 < (placesI σ w).length := List.length_pos_iff.mpr hne
  have hin := getD_in (l := placesI σ w) (n := (placesI σ w).length - 1) (by omega)
  have hmax := last_max ((rangeKs_sorted 0 (w.length - 1)).filter (tst σ w)) hne
  change ∀ j ∈ placesI σ w, j ≤ (placesI σ w).getD ((placesI σ w).length - 1) 0 at hmax
  generalize (placesI σ w).getD ((placesI σ w).length - 1) 0 = k at hin hmax
  obtain ⟨h0, h1⟩ := placesI_mem hin
  have hlt : k.toNat + 1 < w.length := by omega
  have ht : σ (lo1 (w.getD k.toNat 0)) = lo1 (w.getD (k.toNat + 1) 0) := eq_of_beq (List.mem_filter.mp hin).2
  have hkm : w.getD k.toNat 0 ∈ sgs := by
    refine hw _ ?_
    rw [List.getD_eq_getElem?_getD, List.getElem?_eq_getElem (show k.toNat < w.length by omega)]; exact List.getElem_mem _
  -- the rest behind the place is struck
  have hrd : Rd σ (lo (w.drop (k.toNat + 1))) := by
    refine rd_of fun j hj e => ?_
    rw [List.length_drop] at hj
    have g : ∀ i, (w.drop (k.toNat + 1)).getD i 0 = w.getD (k.toNat + 1 + i) 0 := fun i => by
      rw [List.getD_eq_getElem?_getD, List.getD_eq_getElem?_getD, List.getElem?_drop]
    rw [g, g] at e
    have hm : ((k.toNat + 1 + j : Nat) : Int) ∈ placesI σ w := by
      refine List.mem_filter.mpr ⟨kre_mem (by omega) (by omega), ?_⟩
      unfold tst
      rw [Int.toNat_natCast, e]
      exact beq_self_eq_true _
    have := hmax _ hm
    omega
  have hsp := split_at hlt
  have hdr : w.drop (k.toNat + 1) = w.getD (k.toNat + 1) 0 :: w.drop (k.toNat + 2) := by
    rw [List.drop_eq_getElem_cons hlt, List.getD_eq_getElem?_getD, List.getElem?_eq_getElem hlt]; rfl
  have hd2 : Rd σ (lo (w.drop (k.toNat + 2))) := by rw [hdr] at hrd; exact Rd.tail hrd
  have hv : (w.drop (k.toNat + 2)).foldr (fun c l => stkStep σ l c) [] = w.drop (k.toNat + 2) := stk_keep I (fun c hc => hw c (List.mem_of_mem_drop hc)) hd2
  rw [stk_eq, stk_eq]
  unfold strike
  conv => rhs; rw [hsp]
  rw [List.foldr_append, List.foldr_append]
  congr 1
  rw [List.foldr_cons, List.foldr_cons, hv]
  have hb : stkStep σ (w.drop (k.toNat + 2)) (w.getD (k.toNat + 1) 0) = w.getD (k.toNat + 1) 0 :: w.drop (k.toNat + 2) := by
    have := stk_keep I (v := w.drop (k.toNat + 1)) (fun c hc => hw c (List.mem_of_mem_drop hc)) hrd
    rw [hdr, List.foldr_cons, hv] at this
    exact this
  rw [hb]
  show _ = if σ (lo1 (w.getD (k.toNat + 1) 0)) = lo1 (w.getD k.toNat 0) then _ else _
  rw [if_pos (by rw [← ht]; exact (I _ (lo1_low _ hkm)).2)]
theorem struck_last (I : InvO σ) : ∀ {f i : Nat} {w : List Nat}, w.length < f → (∀ c ∈ w, c ∈ sgs) → struckF σ [-1] f i w = stk σ w
  | 0, _, _, h, _ => absurd h (Nat.not_lt_zero _)
  | f + 1, i, w, h, hw => by
    unfold struckF
    split
    · rename_i he
      rw [stk_eq, stk_keep I hw (places_rd he)]
    · rename_i hne
      rw [pick_last i (List.length_pos_iff.mpr hne)]
      have hp := placesI_mem (getD_in (l := placesI σ w) (n := (placesI σ w).length - 1) (by have := List.length_pos_iff.mpr hne; omega))
      have := strike_len (w := w) (k := ((placesI σ w).getD ((placesI σ w).length - 1) 0).toNat) (by omega)
      rw [struck_last I (by omega) (fun c hc => hw c (strike_mem hc))]
      exact strike_last I hw hne
end
end Mine
end

section
open PySem PySem.W PyProof.Rows
namespace Mine
set_option maxRecDepth 100000
set_option maxHeartbeats 4000000

theorem sgm_inv (k : Nat) : InvO (sgm k) := by
  match k with
  | 0 => unfold InvO; decide
  | 1 => unfold InvO; decide
  | 2 => unfold InvO; decide
  | n + 3 => show InvO (rowσ [97, 99, 98, 42]); unfold InvO; decide

theorem ag_low (k : Nat) : (agents (sgm k)).map (fun g => (g != Str.ofString "*", (Txt.lower g).cps.toList)) = [(false, [42]), (true, [97, sgm k 97]), (true, [98, sgm k 98]), (true, [99, sgm k 99]), (true, [42, sgm k 42])] := by
  match k with
  | 0 => decide +kernel
  | 1 => decide +kernel
  | 2 => decide +kernel
  | n + 3 =>
    show (agents (rowσ [97, 99, 98, 42])).map (fun g => (g != Str.ofString "*", (Txt.lower g).cps.toList)) = [(false, [42]), (true, [97, rowσ [97, 99, 98, 42] 97]), (true, [98, rowσ [97, 99, 98, 42] 98]), (true, [99, rowσ [97, 99, 98, 42] 99]), (true, [42, rowσ [97, 99, 98, 42] 42])]
    decide +kernel

theorem join_cps {y p : Str} {r : List Str} : ∃ t, (Str.join y (p :: r)).cps.toList = p.cps.toList ++ t ∧ (t = [] ∨ ∃ t', t = y.cps.toList ++ t') := by
  cases r with
  | nil => exact ⟨[], by show p.cps.toList = _; simp, .inl rfl⟩
  | cons q r =>
    refine ⟨y.cps.toList ++ (Str.join y (q :: r)).cps.toList, ?_, .inr ⟨_, rfl⟩⟩
    show (p ++ y ++ Str.join y (q :: r)).cps.toList = _
    rw [Str.cps_append, Array.toList_append, Str.cps_append, Array.toList_append, List.append_assoc]
theorem free_eq {a b t u : List Nat} {c : Nat} (h : a ++ t = b ++ u) (ha : c ∉ a) (hb : c ∉ b) (ht : t = [] ∨ ∃ t', t = c :: t') (hu : u = [] ∨ ∃ u', u = c :: u') : a = b := by
  induction a generalizing b with
  | nil =>
    cases b with
    | nil => rfl
    | cons d b =>
      exfalso
      rcases ht with rfl | ⟨t', rfl⟩
      · cases h
      · have : c = d := by injection h
        exact hb (by rw [this]; exact .head _)
  | cons e a ih =>
    cases b with
    | nil =>
      exfalso
      rcases hu with rfl | ⟨u', rfl⟩
      · cases h
      · have : e = c := by injection h
        exact ha (by rw [this]; exact .head _)
    | cons d b =>
      have h1 : e = d := by injection h
      have h2 : a ++ t = b ++ u := by injection h
      rw [h1, ih h2 (fun z => ha (.tail _ z)) (fun z => hb (.tail _ z))]
theorem sgs_slash : ∀ c ∈ sgs, c ≠ 47 := by decide
theorem first_eq {x : Str} {cur tl : List Nat} (hx : x.cps.toList = cur ++ tl) (hc : ∀ c ∈ cur, c ∈ sgs) (ht : tl = [] ∨ ∃ r, tl = 47 :: r) : (firstPart x).cps.toList = cur := by
  have hj := StrLaws.join_split x (Str.ofString "/")
  have e47 : Str.ofString "/" = ⟨#[47]⟩ := by decide
  have hf : ∀ p ∈ Txt.split x (Str.ofString "/"), 47 ∉ p.cps.toList := by rw [e47]; exact StrLaws.split_free x 47
  have hl := split_pos x (Str.ofString "/")
  unfold firstPart
  cases hs : Txt.split x (Str.ofString "/") with
  | nil => rw [hs] at hl; simp at hl
  | cons p r =>
    rw [hs] at hj hf
    show p.cps.toList = cur
    obtain ⟨t, h1, h2⟩ := join_cps (y := Str.ofString "/") (p := p) (r := r)
    rw [hj, hx] at h1
    refine free_eq h1.symm (hf p (.head _)) (fun z => sgs_slash 47 (hc 47 z) rfl) ?_ ht
    rcases h2 with rfl | ⟨t', rfl⟩
    · exact .inl rfl
    · exact .inr ⟨t', by rw [e47]; rfl⟩
theorem lower_lo {x : Str} {cur : List Nat} (hx : x.cps.toList = cur) (hc : ∀ c ∈ cur, c < 128) : (Txt.lower x).cps.toList = lo cur := by
  rw [lower_ascii (by rw [hx]; exact hc), Array.toList_map, hx]; rfl
theorem pair_found {x y : Str} {a b : Nat} (hy : y.cps.toList = [a, b]) : (!(Builtin.Str.occurrences x y 0 x.length 1).isEmpty) = true ↔ ∃ i, x.cps.toList[i]? = some a ∧ x.cps.toList[i + 1]? = some b := by
  rw [StrLaws.found_iff]
  have hl : y.length = 2 := by show y.cps.size = 2; rw [← Array.length_toList, hy]; rfl
  have hx : x.length = x.cps.toList.length := by rw [Array.length_toList]; rfl
  have key : ∀ i, (i + y.length ≤ x.length ∧ Builtin.Str.subAt x y i = true) ↔ (x.cps.toList[i]? = some a ∧ x.cps.toList[i + 1]? = some b) := by
    intro i
    rw [StrLaws.subAt_eq, hl, hy, hx]
    generalize x.cps.toList = l
    have e0 : l[i]? = (l.drop i)[0]? := by rw [List.getElem?_drop]; rfl
    have e1 : l[i + 1]? = (l.drop i)[1]? := by rw [List.getElem?_drop]
    have e2 : i + 2 ≤ l.length ↔ 2 ≤ (l.drop i).length := by rw [List.length_drop]; omega
    rw [e0, e1, e2]
    generalize l.drop i = m
    match m with
    | [] => simp
    | [p] => simp
    | p :: q :: r => simp
  exact exists_congr key
theorem hits_iff {x g : Str} {cur tl : List Nat} {a b : Nat} (hx : x.cps.toList = cur ++ tl) (hc : ∀ c ∈ cur, c ∈ sgs) (ht : tl = [] ∨ ∃ r, tl = 47 :: r) (hg : (g != Str.ofString "*") = true) (hl : (Txt.lower g).cps.toList = [a, b]) :
    hits x g = true ↔ ∃ i, (lo cur)[i]? = some a ∧ (lo cur)[i + 1]? = some b := by
  unfold hits
  rw [hg, Bool.true_and, pair_found hl, lower_lo (first_eq hx hc ht) fun c h => sgs_ascii c (hc c h)]
theorem places_iff {σ : Nat → Nat} {w : List Nat} : (!(placesI σ w).isEmpty) = true ↔ ∃ i a, (lo w)[i]? = some a ∧ (lo w)[i + 1]? = some (σ a) := by
  constructor
  · intro h
    cases hp : placesI σ w with
    | nil => rw [hp] at h; cases h
    | cons k r =>
      have hk : k ∈ placesI σ w := by rw [hp]; exact .head _
      obtain ⟨h0, h1⟩ := placesI_mem hk
      have ht := (List.mem_filter.mp hk).2
      unfold tst at ht
      have e := eq_of_beq ht
      have g : ∀ j, j < w.length → (lo w)[j]? = some (lo1 (w.getD j 0)) := fun j hj => by
        unfold lo
        rw [List.getElem?_map, List.getD_eq_getElem?_getD, List.getElem?_eq_getElem hj]; rfl
      exact ⟨k.toNat, _, g _ (by omega), by rw [g _ (by omega), e]⟩
  · rintro ⟨i, a, h1, h2⟩
    have hlt : i + 1 < w.length := by
      have := (List.getElem?_eq_some_iff.mp h2).1
      unfold lo at this; rw [List.length_map] at this; exact this
    cases hp : placesI σ w with
    | cons _ _ => rfl
    | nil =>
      exfalso
      refine places_none hp i hlt ?_
      unfold lo at h1 h2
      rw [List.getElem?_map, List.getElem?_eq_getElem (by omega)] at h1 h2
      rw [List.getD_eq_getElem?_getD, List.getD_eq_getElem?_getD, List.getElem?_eq_getElem (by omega), List.getElem?_eq_getElem hlt]
      simp only [Option.map_some, Option.some.injEq] at h1 h2
      simp only [Option.getD_some]
      rw [h1, h2]
theorem hap_c {k : Nat} {gs : List (Str × Tok)} {tl : List Nat} (hgs : gs.map (·.1) = agents (sgm k)) (ht : tl = [] ∨ ∃ r, tl = 47 :: r) (cur : List Nat) (x : Str) (hc : ∀ c ∈ cur, c ∈ sgs) (hx : x.cps.toList = cur ++ tl) :
    (gs.any fun q => hits x q.1) = !(placesI (sgm k) cur).isEmpty := by
  have e1 : (gs.any fun q => hits x q.1) = (agents (sgm k)).any (hits x) := by rw [← hgs, List.any_map]; rfl
  rw [e1, Bool.eq_iff_iff, places_iff]
  have al := ag_low k
  unfold agents at al ⊢
  simp only [List.map_cons, List.map_nil, List.cons.injEq, Prod.mk.injEq, and_true] at al
  obtain ⟨⟨a1, _⟩, ⟨b1, b2⟩, ⟨c1, c2⟩, ⟨d1, d2⟩, ⟨f1, f2⟩⟩ := al
  simp only [List.any_cons, List.any_nil, Bool.or_false, Bool.or_eq_true]
  rw [hits_iff hx hc ht b1 b2, hits_iff hx hc ht c1 c2, hits_iff hx hc ht d1 d2, hits_iff hx hc ht f1 f2]
  have h0 : ¬ hits x (Str.ofString "*") = true := by unfold hits; rw [a1, Bool.false_and]; exact Bool.false_ne_true
  constructor
  · rintro (h | ⟨i, h⟩ | ⟨i, h⟩ | ⟨i, h⟩ | ⟨i, h⟩)
    · exact absurd h h0
    · exact ⟨i, _, h⟩
    · exact ⟨i, _, h⟩
    · exact ⟨i, _, h⟩
    · exact ⟨i, _, h⟩
  · rintro ⟨i, a, h1, h2⟩
    have ha : a ∈ lows := lo_al hc a (List.mem_of_getElem? h1)
    simp only [lows, List.mem_cons, List.not_mem_nil, or_false] at ha
    rcases ha with rfl | rfl | rfl | rfl
    · exact .inr (.inl ⟨i, h1, h2⟩)
    · exact .inr (.inr (.inl ⟨i, h1, h2⟩))
    · exact .inr (.inr (.inr (.inl ⟨i, h1, h2⟩)))
    · exact .inr (.inr (.inr (.inr ⟨i, h1, h2⟩)))
theorem ag_len (k : Nat) {gs : List (Str × Tok)} (hgs : gs.map (·.1) = agents (sgm k)) : ∀ q ∈ gs, q.1.length ≤ 10 := by
  intro q hq
  have hm : q.1 ∈ agents (sgm k) := by rw [← hgs]; exact List.mem_map_of_mem hq
  have key : ∀ k, ∀ g ∈ agents (sgm k), g.length ≤ 10 := by
    intro k
    match k with
    | 0 => decide +kernel
    | 1 => decide +kernel
    | 2 => decide +kernel
    | n + 3 => show ∀ g ∈ agents (rowσ [97, 99, 98, 42]), g.length ≤ 10; decide +kernel
  exact key k _ hm
end Mine
end

section
open PySem PySem.W PyProof.Rows
namespace Mine
set_option maxRecDepth 100000
set_option maxHeartbeats 4000000

def bothW (σ : Nat → Nat) (f s : List Nat) : List Nat := f ++ s.reverse.map fun c => σ (lo1 c)
theorem str_eq {x y : Str} (h : x.cps.toList = y.cps.toList) : x = y := Str.ext' (Array.toList_inj.mp h)
theorem lo1_lows : ∀ c ∈ lows, lo1 c = c := by decide
theorem lo_both {σ : Nat → Nat} (I : InvO σ) {f s : List Nat} (hs : ∀ c ∈ s, c ∈ sgs) : lo (bothW σ f s) = lo f ++ invW σ (lo s) := by
  unfold lo bothW invW
  rw [List.map_append, List.map_map, ← List.map_reverse, ← List.map_reverse, List.map_map]
  congr 1
  refine List.map_congr_left fun c hc => ?_
  exact lo1_lows _ (I _ (lo1_low c (hs c (List.mem_reverse.mp hc)))).1
theorem str_app {x y : Str} : (x ++ y).cps.toList = x.cps.toList ++ y.cps.toList := by rw [Str.cps_append, Array.toList_append]
theorem end_last {σ : Nat → Nat} (I : InvO σ) {last due tail : Str} {bw : List Nat} (hbw : ∀ c ∈ bw, c ∈ sgs) (h1 : last.cps.toList = struckF σ [-1] (bw.length + 1) 0 bw ++ tail.cps.toList) (h2 : due.cps.toList = bw.reverse.foldl (stkStep σ) []) :
    (last != due ++ tail) = false := by
  have : last = due ++ tail := str_eq (by rw [str_app, h1, h2, struck_last I (Nat.lt_succ_self _) hbw]; rfl)
  rw [this]; simp
theorem len_list (x : Str) : x.length = x.cps.toList.length := by rw [Array.length_toList]; rfl
theorem due_len {σ : Nat → Nat} (I : InvO σ) {due : Str} {bw : List Nat} {ps : List Int} (hbw : ∀ c ∈ bw, c ∈ sgs) (h2 : due.cps.toList = bw.reverse.foldl (stkStep σ) []) :
    due.length = (struckF σ ps (bw.length + 1) 0 bw).length := by
  have e1 := congrArg List.length (struck_lo I (ps := ps) (f := bw.length + 1) (i := 0) (Nat.lt_succ_self _) hbw)
  have e2 := congrArg List.length (stk_lo (σ := σ) bw)
  unfold lo at e1 e2
  rw [List.length_map] at e1 e2
  rw [len_list, h2, e1]; exact e2
theorem end_take {σ : Nat → Nat} (I : InvO σ) {drawn due tail : Str} {bw : List Nat} {ps : List Int} (hbw : ∀ c ∈ bw, c ∈ sgs) (h1 : drawn.cps.toList = struckF σ ps (bw.length + 1) 0 bw ++ tail.cps.toList) (h2 : due.cps.toList = bw.reverse.foldl (stkStep σ) []) :
    (Txt.lower (Txt.slice drawn none (some (due.length : Int))) != Txt.lower due) = false := by
  have hl := due_len I (ps := ps) hbw h2
  have hdl : drawn.length = (struckF σ ps (bw.length + 1) 0 bw).length + tail.length := by rw [len_list, h1, List.length_append, ← len_list]
  have e1 := eq_of_beq (slice_closes_to (x := drawn) (j := (due.length : Int)) ⟨by omega, by have := len_list drawn; omega⟩)
  have e2 : (Txt.slice drawn none (some (due.length : Int))).cps.toList = struckF σ ps (bw.length + 1) 0 bw := by
    rw [e1]
    have k1 : ((0 : Int).toNat) = 0 := rfl
    have k2 : ((due.length : Int) - 0).toNat = due.length := by omega
    rw [k1, k2, h1, hl]; simp
  have hs : ∀ c ∈ struckF σ ps (bw.length + 1) 0 bw, c < 128 := fun c hc => sgs_ascii c (hbw c (struck_sub hc))
  have hd : ∀ c ∈ due.cps.toList, c < 128 := fun c hc => by
    rw [h2] at hc
    rcases stk_mem σ _ _ c hc with h | h
    · cases h
    · exact sgs_ascii c (hbw c (List.mem_reverse.mp h))
  have : Txt.lower (Txt.slice drawn none (some (due.length : Int))) = Txt.lower due := str_eq (by
    rw [lower_lo e2 hs, lower_lo rfl hd, struck_lo I (Nat.lt_succ_self _) hbw, h2]
    exact (stk_lo bw).symm)
  rw [this]; simp
theorem end_drop {σ : Nat → Nat} (I : InvO σ) {drawn due tail : Str} {bw : List Nat} {ps : List Int} (hbw : ∀ c ∈ bw, c ∈ sgs) (h1 : drawn.cps.toList = struckF σ ps (bw.length + 1) 0 bw ++ tail.cps.toList) (h2 : due.cps.toList = bw.reverse.foldl (stkStep σ) []) :
    (Txt.slice drawn (some (due.length : Int)) none != tail) = false := by
  have hl := due_len I (ps := ps) hbw h2
  have hdl : drawn.length = (struckF σ ps (bw.length + 1) 0 bw).length + tail.length := by rw [len_list, h1, List.length_append, ← len_list]
  have e1 := slice_from_eq (x := drawn) (i := (due.length : Int)) (b := drawn.length) (by omega) (by omega) rfl
  have : Txt.slice drawn (some (due.length : Int)) none = tail := str_eq (by
    rw [e1]
    have k1 : ((due.length : Int)).toNat = (struckF σ ps (bw.length + 1) 0 bw).length := by omega
    have k2 : ((drawn.length : Int) - (due.length : Int)).toNat = tail.cps.toList.length := by rw [← len_list]; omega
    rw [k1, k2, h1]; show List.take _ (List.drop _ _) = _; rw [List.drop_left, List.take_length])
  rw [this]; simp
theorem end_both {σ : Nat → Nat} (I : InvO σ) {drawn tail one other nix : Str} {f s : List Nat} {ps : List Int} (hf : ∀ c ∈ f, c ∈ sgs) (hs : ∀ c ∈ s, c ∈ sgs) (hn : nix.cps.toList = [])
    (h1 : drawn.cps.toList = struckF σ ps ((bothW σ f s).length + 1) 0 (bothW σ f s) ++ tail.cps.toList) (h2 : one.cps.toList = struckF σ ps (f.length + 1) 0 f ++ nix.cps.toList) (h3 : other.cps.toList = struckF σ [-1] (s.length + 1) 0 s ++ nix.cps.toList) :
    ((drawn == tail) == (Txt.lower one == Txt.lower other)) = true := by
  have hbw : ∀ c ∈ bothW σ f s, c ∈ sgs := fun c hc => by
    rcases List.mem_append.mp hc with hc | hc
    · exact hf c hc
    · obtain ⟨d, hd, rfl⟩ := List.mem_map.mp hc
      have : ∀ c ∈ lows, c ∈ sgs := by decide
      exact this _ (I _ (lo1_low d (hs d (List.mem_reverse.mp hd)))).1
  rw [hn, List.append_nil] at h2 h3
  have a1 : drawn = tail ↔ act σ (lo (bothW σ f s)) [] = [] := by
    have e := struck_lo I (ps := ps) (f := (bothW σ f s).length + 1) (i := 0) (Nat.lt_succ_self _) hbw
    rw [← e]
    constructor
    · intro h
      rw [h] at h1
      have := congrArg List.length h1
      rw [List.length_append] at this
      have z : struckF σ ps ((bothW σ f s).length + 1) 0 (bothW σ f s) = [] := List.length_eq_zero_iff.mp (by omega)
      rw [z]; rfl
    · intro h
      have z : struckF σ ps ((bothW σ f s).length + 1) 0 (bothW σ f s) = [] := by unfold lo at h; exact List.map_eq_nil_iff.mp h
      exact str_eq (by rw [h1, z]; rfl)
  have a2 : Txt.lower one = Txt.lower other ↔ act σ (lo f) [] = act σ (lo s) [] := by
    rw [← struck_lo I (ps := ps) (f := f.length + 1) (i := 0) (Nat.lt_succ_self _) hf, ← struck_lo I (ps := [-1]) (f := s.length + 1) (i := 0) (Nat.lt_succ_self _) hs]
    rw [← lower_lo h2 fun c hc => sgs_ascii c (hf c (struck_sub hc)), ← lower_lo h3 fun c hc => sgs_ascii c (hs c (struck_sub hc))]
    exact ⟨fun h => by rw [h], str_eq⟩
  rw [lo_both I hs, red_both I (lo_al hf) (lo_al hs), ← a2] at a1
  by_cases h : drawn = tail
  · have h' := a1.mp h
    rw [h, h']; simp
  · have h' : ¬ Txt.lower one = Txt.lower other := fun e => h (a1.mpr e)
    have e1 : (drawn == tail) = false := beq_false_of_ne h
    have e2 : (Txt.lower one == Txt.lower other) = false := beq_false_of_ne h'
    rw [e1, e2]; rfl
end Mine
end

section
open PySem PySem.W PyProof.Rows PySem.Calls
namespace Mine
set_option maxRecDepth 100000
set_option maxHeartbeats 8000000
local macro_rules | `(tactic| k_room) => `(tactic| ktr_room)
local macro_rules | `(tactic| walk_at "mine enter") => `(tactic| first
  | (refine' code_def ?k1 ?k2 ?k3 ?k4 ?k5 ?kA ?kF ?kK ?k6 ?k7 ?k8 ?k9 ?kB ?_ ?c2 ?c3 ?c4 ?c5; (case kA => exact rfl); (case kF => exact rfl); (case kK => assumption); (case k1 => k_asm); (case k2 => k_asm); (case k3 => k_asm); (case k4 => k_asm); (case k5 => k_asm); (case k6 => k_is); (case k7 => k_is); (case k8 => ktr_room); (case k9 => exact BindsTo.of_eq rfl); (case c5 => decide); (case kB => exact locs rfl); (case c2 => exact rfl); (case c3 => exact rfl); (case c4 => exact rfl); k_whole; intro g' L' h' FG' F' N' B' X' T'; (try dsimp only); (try k_lift B'); (try k_fold))
  | (refine' code_defC ?k1 ?k2 ?k3 ?k4 ?k5 ?kA ?kF ?kK ?k6 ?k7 ?k8 ?k9 ?kB ?kD ?_ ?c2 ?c3 ?c4; (case kA => exact rfl); (case kF => exact rfl); (case kK => assumption); (case k1 => k_asm); (case k2 => k_asm); (case k3 => k_asm); (case k4 => k_asm); (case k5 => k_asm); (case k6 => k_is); (case k7 => k_is); (case k8 => ktr_room); (case k9 => exact BindsTo.of_eq rfl); (case kB => exact rfl); (case kD => decide +kernel); (case c2 => exact rfl); (case c3 => exact rfl); (case c4 => exact rfl); k_whole; intro g' L' h' tk' cells' FG' F' N' Y' B' X' T' l1; (try k_lt l1); k_cells Y'; (try simp only [List.cons_append, List.nil_append] at N'); (try dsimp only); (try k_lift B'); (try k_fold)))
local macro_rules | `(tactic| walk_at "setAttr ref") => `(tactic| (k_here; k_dflt (refine' fnSet_new ?F ?N ?U ?l ?_; (case F => k_asm); (case N => k_asm); (case U => k_updF); (case l => first | exact fn_string | exact fn_span); k_whole); intro dx' h' F' N' l1; (try dsimp only at N'); (try k_lt l1); (try k_sweep)))
local macro_rules | `(tactic| walk_at "setAttr ref") => `(tactic| (k_here; k_dflt (refine' fnSet_old ?F ?N ?m ?d ?l ?g ?e ?U ?z ?_; (case F => k_asm); (case N => k_asm); (case m => k_mem); (case d => k_mem); (case l => first | exact fn_string | exact fn_span); (case g => k_get); (case e => k_put); (case U => k_upd); (case z => exact Nat.le_of_ble_eq_true rfl); k_whole); intro h' F' N'; (try k_sweep)))

local macro_rules | `(tactic| k_all) => `(tactic| (refine allLt_ne (by with_reducible assumption) ?_; omega))

local macro_rules | `(tactic| walk_at "exec For Name Call cons nil") => `(tactic| (k_here; (rename Fr _ _ _ _ => lF'); (with_unfolding_all refine' For_invVF lF' ?k1 ?k2 ?_; (case k1 => exact rfl); (case k2 => exact rfl); k_whole)))
local macro_rules | `(tactic| k_all) => `(tactic| (with_reducible assumption))
local macro_rules | `(tactic| k_mem) => `(tactic| (refine List.mem_append_right _ ?_; k_mem))
local macro_rules | `(tactic| k_mem) => `(tactic| (refine List.mem_append_left _ ?_; k_mem))
local macro_rules | `(tactic| k_mem) => `(tactic| (with_reducible assumption))
def HoldM (p : Prop) : Prop := p
theorem HoldM.out {p : Prop} (h : HoldM p) : p := h
theorem HoldM.mk {p : Prop} (h : p) : HoldM p := h
local macro_rules | `(tactic| walk_at "call ref") => `(tactic| (refine HoldM.out ?_))
local macro_rules | `(tactic| walk_at "eval IfExp") => `(tactic| (refine HoldM.out ?_))
local macro_rules | `(tactic| walk_at "CompSrc") => `(tactic| (refine HoldM.out ?_))
local macro_rules | `(tactic| walk_at "KCtEl") => `(tactic| (refine HoldM.out ?_))
local macro_rules | `(tactic| walk_at "call builtin:str.join") => `(tactic| (refine HoldM.out ?_))
local macro_rules | `(tactic| walk_at "last call builtin:str.join") => `(tactic| (refine HoldM.out ?_))
local macro_rules | `(tactic| walk_at "eval ListComp") => `(tactic| (k_here; k_dflt (refine ListComp_txt (by k_asm) (by with_unfolding_all rfl) (by decide) (by rfl) (by decide) (by rfl) ?_)))
local macro_rules | `(tactic| walk_at "TxtSrc") => `(tactic| (refine HoldM.out ?_))
local macro_rules | `(tactic| walk_at "subscriptTail Name Call ref str") => `(tactic| (refine HoldM.out ?_))
local macro_rules | `(tactic| walk_at "subscriptTail") => `(tactic| (k_here; (with_reducible show wpAny _ _ (subscriptTail _ _ (Value.ref _) (Value.str _ _)) _ _ _); refine HoldM.out ?_))
local macro_rules | `(tactic| walk_at "compareOp Eq bool bool") => `(tactic| (refine HoldM.out ?_))
local macro_rules | `(tactic| walk_at "NumsAt") => `(tactic| (refine HoldM.out ?_))
theorem lt_two {a b : Nat} {o p : Obj} {c : Nat} (h1 : a < c) (h2 : b < c) : ∀ q ∈ ([(a, o), (b, p)] : List (Addr × Obj)), q.1 < c := by
  intro q hq
  simp only [List.mem_cons, List.not_mem_nil, or_false] at hq
  rcases hq with rfl | rfl
  · exact h1
  · exact h2
theorem rev_len {x : Str} {u : Tok} {n : Nat} (h : x.length ≤ n) : (Txt.sliceBy x none none (-1, u)).length ≤ n := by
  have e := congrArg List.length (rev_text x u)
  rw [Array.length_toList, List.length_reverse, Array.length_toList] at e
  show Array.size _ ≤ n
  rw [e]; exact h
theorem lows_sgs : ∀ c ∈ lows, c ∈ sgs := by decide
def AllIn (led NB : List (Addr × Obj)) : Prop := ∀ q ∈ led, q ∈ NB
theorem AllIn.get {led NB : List (Addr × Obj)} {q : Addr × Obj} (h : AllIn led NB) (hq : q ∈ led) : q ∈ NB := h q hq
theorem lst_mid {h₀ h : Heap} {L l : Addr} {tl NB : List (Addr × Obj)} {o : Obj} (hT : TabSt tl) (N : News h₀ L h ((l, o) :: (tl ++ NB))) (hoff : OwnOff NB [84]) (hl : ∀ p ∈ tl ++ NB, p.1 < l) :
    News h₀ L h (tl ++ ((l, o) :: NB)) ∧ OwnOff ((l, o) :: NB) [84] := by
  obtain ⟨o84, h84⟩ := tabSt_has hT
  refine ⟨cb_drop N fun q hq => ?_, fun q hq b hb => ?_⟩
  · rcases List.mem_append.mp hq with hq | hq
    · exact .tail _ (List.mem_append_left _ hq)
    · rcases List.mem_cons.mp hq with rfl | hq
      · exact .head _
      · exact .tail _ (List.mem_append_right _ hq)
  · have hb' : b = 84 := by simpa using hb
    subst hb'
    rcases List.mem_cons.mp hq with rfl | hq
    · exact Nat.ne_of_gt (hl _ (List.mem_append_left _ h84))
    · exact hoff q hq 84 (.head _)
theorem mid_drop {h₀ h : Heap} {L : Addr} {tl NB : List (Addr × Obj)} {q : Addr × Obj} (N : News h₀ L h (tl ++ (q :: NB))) : News h₀ L h (tl ++ NB) := cb_drop N fun p hp => by
  rcases List.mem_append.mp hp with hp | hp
  · exact List.mem_append_left _ hp
  · exact List.mem_append_right _ (.tail _ hp)
theorem due_le {σ : Nat → Nat} {due x : Str} (h : due.cps.toList = x.cps.toList.reverse.foldl (stkStep σ) []) : due.length ≤ x.length := by
  have := stk_len σ x.cps.toList.reverse []
  rw [len_list due, h, len_list x]
  rw [List.length_reverse] at this
  simpa using this
theorem struck_le {σ : Nat → Nat} {ps : List Int} : ∀ {f i : Nat} {w : List Nat}, (struckF σ ps f i w).length ≤ w.length
  | 0, _, _ => Nat.le_refl _
  | f + 1, i, w => by
    unfold struckF
    split
    · exact Nat.le_refl _
    · refine Nat.le_trans struck_le ?_
      unfold strike
      rw [List.length_append, List.length_take, List.length_drop]; omega
theorem drawn_le {σ : Nat → Nat} {ps : List Int} {f i : Nat} {x y tail : Str} (h : y.cps.toList = struckF σ ps f i x.cps.toList ++ tail.cps.toList) : y.length ≤ x.length + tail.length := by
  have := struck_le (σ := σ) (ps := ps) (f := f) (i := i) (w := x.cps.toList)
  rw [len_list y, h, List.length_append, len_list x, len_list tail]; omega
theorem tabSt_tab {tl : List (Addr × Obj)} (h : TabSt tl) : ∃ ps, (84, tabObj ps) ∈ tl := by
  rcases h with rfl | ⟨c1, c2, oc1, oc2, vs1, vs2, t1, t2, rfl, _⟩
  · exact ⟨_, .head _⟩
  · exact ⟨_, .head _⟩
theorem led_cut {h₀ h : Heap} {L : Addr} {led : List (Addr × Obj)} {o : Obj} (N : News h₀ L h led) (hm : (84, o) ∈ led) (hne : ∀ q ∈ led.dropLast, q.1 ≠ 84) :
    ∃ NB, News h₀ L h ([(84, o)] ++ NB) ∧ OwnOff NB [84] ∧ AllIn led.dropLast NB := by
  refine ⟨led.dropLast, ?_, ?_, fun q hq => hq⟩
  · intro q hq
    rcases List.mem_cons.mp hq with rfl | hq
    · exact N _ hm
    · exact N q ((List.dropLast_sublist _).subset hq)
  · intro q hq b hb
    have hb' : b = 84 := by simpa using hb
    subst hb'
    exact hne q hq
theorem tail_cps (fx sx : Str) : ∃ r, (Str.ofString "/" ++ fx ++ Str.ofString "/" ++ sx).cps.toList = 47 :: r := by
  have e : (Str.ofString "/").cps.toList = [47] := by decide
  refine ⟨fx.cps.toList ++ ([47] ++ sx.cps.toList), ?_⟩
  rw [str_app, str_app, str_app, e]; simp
theorem tail_len (fx sx : Str) : (Str.ofString "/" ++ fx ++ Str.ofString "/" ++ sx).length = fx.length + sx.length + 2 := by
  have e : (Str.ofString "/").cps.toList = [47] := by decide
  rw [len_list, str_app, str_app, str_app, e, len_list fx, len_list sx]; simp; omega
theorem news_cons {h₀ h : Heap} {L : Addr} {led : List (Addr × Obj)} {q : Addr × Obj} (N : News h₀ L h led) (hm : q ∈ led) : News h₀ L h (q :: led) := by
  intro p hp
  rcases List.mem_cons.mp hp with rfl | hp
  · exact N _ hm
  · exact N p hp
theorem strs_of_carried {α : Type} {f : α → Str} : ∀ {vs : List Value} {l : List α}, CarriedAll vs (l.map fun k => PyData.str (f k)) → StrsAre vs (l.map f)
  | _, [], .nil => .nil
  | _, _ :: _, .cons (.str _ t) r => .cons _ t (strs_of_carried r)
theorem law_walk : PySem.Challenge.rw_re0007_01.Holds := hd (by
  k_go0
  all_goals try k_fold
  k_steps
  refine HoldM.mk ?_
  (rename Fr _ _ _ _ => kF; rename News _ _ _ _ => kN)
  refine nums_join kF kN ?_ ?_
  · with_reducible refine IfExp_ ?_
    k_steps
    · (rename Fr _ _ _ _ => kF1; rename News _ _ _ _ => kN1; rename _ ∧ _ ∧ _ => kl)
      refine HoldM.mk (NumsAt.intro (nums := [0, 0]) (vs := [_, _]) kF1 kN1 (by k_mem) (by kcj_all) (lt_two kl.2.1 kl.2.2) ?_ (by decide) (by decide))
      exact IntsAre.cons _ _ (IntsAre.cons _ _ .nil)
    · (rename Fr _ _ _ _ => kF1; rename News _ _ _ _ => kN1; rename _ ∧ _ ∧ _ => kl; rename decide (_ = []) = false => hne; rename IntsAre _ (List.take _ _) => hI)
      refine HoldM.mk (NumsAt.intro kF1 kN1 (by k_mem) (by kcj_all) (lt_two kl.2.1 kl.2.2) hI ?_ ?_)
      · rw [List.length_take]
        have := List.length_pos_iff.mpr (of_decide_eq_false hne)
        omega
      · rw [List.length_take]; omega
  clear kF kN
  intro ln vs nums n h9 tk9 kF kN hlt hi h0 h1
  k_lt hlt
  k_steps
  refine HoldM.mk ?_
  (rename Fr _ _ _ _ => kF; rename News _ _ _ _ => kN)
  refine LCg.CompSrc.ledger (by rfl) kF kN (by k_mem) (by rw [sizeLine_eq, List.size_toArray, hi.length]; omega) ?_
  intro g1
  refine kct_list (fun k => one (signOf k)) hi ?_ ?_
  · clear kF kN
    intro k tk I oI C oC D m2 ys h tk2 E2 hk hC hx F N off ne mk
    simp only [LCg.Off3, and_true] at off
    k_steps
    exact HoldM.mk ⟨rfl, _, by rw [item_sign k]⟩
  · unfold KPfDone
    clear kF kN
    intro sgv hsv hsl
    k_steps
    refine HoldM.mk ?_
    (rename Fr _ _ _ _ => kF; rename News _ _ _ _ => kN)
    refine LCg.CompSrc.ledger (by rfl) kF kN (by k_mem) (by rw [sizeLine_eq, List.size_toArray, hi.length]; omega) ?_
    intro g2
    refine kcf_list (fun k => k.fdiv 28) hi ?_ ?_
    · clear kF kN
      intro k tk I oI C oC D m2 ys h tk2 E2 hk hC hx F N off ne mk
      simp only [LCg.Off3, and_true] at off
      k_steps
    · unfold KPfDone
      clear kF kN
      intro pkv hpk
      k_steps
      refine HoldM.mk ?_
      (rename Fr _ _ _ _ => kF; rename News _ _ _ _ => kN)
      k_dflt (refine partners_c (by assumption) kF (by assumption) kN (by assumption) (by rfl) (by ktr_room) (by ktr_units) ?_)
      clear kF kN
      intro pd od h3 tk3 P kF kN hpd
      k_lt hpd
      generalize hkk : (((nums.getD (Int.toNat 0) 0).fdiv 7).fmod 4).toNat = kk at P
      k_steps
      refine HoldM.mk ?_
      have hS : SignsAre sgv (nums.map signOf) := ⟨by rw [List.map_map]; exact strs_of_carried hsv, fun c hc => by obtain ⟨k, _, rfl⟩ := List.mem_map.mp hc; exact signOf_mem k⟩
      (rename Fr _ _ _ _ => kF; rename News _ _ _ _ => kN)
      k_dflt (refine record_c (by assumption) kF (by assumption) kN (by assumption) (by rfl) (by ktr_room) (by ktr_units) P ?_)
      clear kF
      intro led rc dx lu lr i1 i2 i3 i4 u1 u2 u3 u4 n1 n2 gs h4 tk4 kF kN0 hsub mrc mdx mlu hgs hrc
      have hrc1 := ltN hrc.1
      have hrc2 := ltN hrc.2.1
      have hrc3 := ltN hrc.2.2
      have kN1 := cb_drop kN0 (List.forall_mem_cons.mpr ⟨mrc, List.forall_mem_cons.mpr ⟨mdx, List.forall_mem_cons.mpr ⟨mlu, hsub⟩⟩⟩)
      clear kN kN0 hsub mrc mdx mlu
      k_steps
      refine HoldM.mk ?_
      (rename Fr _ _ _ _ => kF; rename News _ _ _ _ => kN)
      have hnl : (nums.map signOf).length ≤ 12 := by rw [List.length_map]; exact h1
      obtain ⟨fs, hfs, hfl⟩ := signs_pick (items := sgv.toArray) (lo := some 0) (hi := none) (st := some 2) hS
      k_dflt (refine join_c kN (List.Mem.head _) hfs (by omega) ?_)
      intro fx ft fk hfx hfxl
      replace kN := cb_drop kN (fun q hq => .tail _ hq)
      k_steps
      refine HoldM.mk ?_
      (rename Fr _ _ _ _ => kF; rename News _ _ _ _ => kN)
      obtain ⟨ds, hds, hdl⟩ := signs_pick (items := sgv.toArray) (lo := some 1) (hi := none) (st := some 2) hS
      k_dflt (refine join_c kN (List.Mem.head _) hds (by omega) ?_)
      intro sx st sk hsx hsxl
      replace kN := cb_drop kN (fun q hq => .tail _ hq)
      k_steps
      refine HoldM.mk ?_
      (rename Fr _ _ _ _ => kF; rename News _ _ _ _ => kN)
      have hsg1 : ∀ c ∈ sx.cps.toList, c ∈ sgs := by rw [hsx]; exact hds.2
      refine ⟨_, _, _, (fun c => one (sgm kk (lo1 c))), rfl, rfl, kF, kN, ?_, ?_, ?_⟩
      · refine rev_len ?_
        rw [hsxl]; omega
      · clear kF kN
        intro hp c t I oI C oC D m2 ys h tk2 E2 hc hC hx F N off ne
        have off0 := off
        simp only [LCg.Off3, and_true] at off
        rw [rev_text] at hc
        replace hc := hsg1 c (List.mem_reverse.mp hc)
        have hcl : (⟨#[c]⟩ : Str).length ≤ 1 := Nat.le_refl _
        k_steps
        refine HoldM.mk ?_
        k_dflt (refine pd_item (c := lo1 c) (by k_asm) (by k_mem) P (lower_one c hc) (lo1_low c hc) ?_)
        intro u
        exact ⟨_, _, _, rfl, F, N, off0, trivial, rfl, u, rfl⟩
      · clear kF kN
        intro ys D h5 tk5 hys kF kN off1
        rw [rev_text] at hys
        have hq : SignsAre ys (ds.reverse.map fun c => sgm kk (lo1 c)) := ⟨by rw [List.map_map, ← hsx]; exact hys, fun c hc => by
          obtain ⟨d, hd, rfl⟩ := List.mem_map.mp hc
          exact lows_sgs _ (sgm_inv _ _ (lo1_low d (hds.2 d (List.mem_reverse.mp hd)))).1⟩
        k_steps
        refine HoldM.mk ?_
        k_dflt (refine join_c kN (List.Mem.head _) hq (by rw [List.length_map, List.length_reverse]; omega) ?_)
        intro qx qt qk hqx hqxl
        rw [List.length_map, List.length_reverse] at hqxl
        replace kN := cb_drop kN (fun q hq => .tail _ hq)
        have hfs12 : fs.length ≤ 12 := by omega
        have hds12 : ds.length ≤ 12 := by omega
        have hb : (fx ++ qx).cps.toList = bothW (sgm kk) fs ds := by rw [Str.cps_append, Array.toList_append, hfx, hqx]; rfl
        have hbl : (fx ++ qx).length ≤ 24 := by
          show Array.size _ ≤ 24
          rw [← Array.length_toList, hb, bothW, List.length_append, List.length_map, List.length_reverse]; omega
        have hbs : ∀ c ∈ (fx ++ qx).cps.toList, c ∈ sgs := by
          rw [hb]; intro c hc
          rcases List.mem_append.mp hc with hc | hc
          · exact hfs.2 c hc
          · exact hq.2 c hc
        k_steps
        refine HoldM.mk ?_
        (rename Fr _ _ _ _ => kF; rename News _ _ _ _ => kN)
        have kN2 := news_cons (q := (pd, od)) kN (by k_mem)
        k_dflt (refine stack_c (by assumption) kF (by assumption) kN2 (by assumption) (by rfl) (by ktr_room) (by ktr_units) P (by omega) hbs ?_)
        clear kF kN kN2
        intro due dut h6 tk6 hdue kF kN
        replace kN := cb_drop kN (fun q hq => .tail _ hq)
        k_steps
        refine HoldM.mk ?_
        (rename Fr _ _ _ _ => kF; rename News _ _ _ _ => kN)
        obtain ⟨NB, kN2, hoff, hin⟩ := led_cut (o := tabObj #[]) kN (by k_mem) (by simp only [List.dropLast]; (repeat' (first | exact List.forall_mem_nil _ | (refine List.forall_mem_cons.mpr ⟨neN (by dsimp only; omega), ?_⟩))))
        simp only [AllIn, List.dropLast, List.forall_mem_cons] at hin
        obtain ⟨mrc, mdx, mlu, mpd, mpk, msg, mln, mcell, -⟩ := hin
        clear kN
        have hpl : 0 < (nums.map fun k => k.fdiv 28).length := by rw [List.length_map]; exact h0
        have hpz : (nums.map fun k => k.fdiv 28).length ≤ 1000 := by rw [List.length_map]; omega
        have htl := tail_len fx sx
        k_dflt (refine struck_c (tl := [(84, tabObj #[])]) (news := NB) (σ := sgm kk) (by assumption) kF (by assumption) kN2 hoff mrc mdx mlu mpd mpk (by assumption) (by rfl) (by assumption) (.inl rfl) (by ktr_room) (by ktr_units) P hpk hpl hpz (by omega) (by omega) hbs (ag_len kk hgs) (fun cur x hc hx => hap_c hgs (.inr (tail_cps fx sx)) cur x hc hx) ?_)
        clear kF kN2
        intro drawn drt tl1 h7 tk7 hdr hT1 kF kN
        k_steps
        refine HoldM.mk ?_
        (rename Fr _ _ _ _ => kF; rename News _ _ _ _ => kN; rename ∀ p, p ∈ tl1 ++ NB → _ => hl1)
        obtain ⟨kN2, hoff2⟩ := lst_mid hT1 kN hoff hl1
        clear hl1 kN
        k_dflt (refine struck_c (tl := tl1) (news := _ :: NB) (ps := [-1]) (σ := sgm kk) (by assumption) kF (by assumption) kN2 hoff2 (.tail _ mrc) (.tail _ mdx) (.tail _ mlu) (.tail _ mpd) (.head _) (by assumption) (by rfl) (by assumption) hT1 (by ktr_room) (by ktr_units) P (IntsAre.cons _ _ .nil) (by decide) (by decide) (by omega) (by omega) hbs (ag_len kk hgs) (fun cur x hc hx => hap_c hgs (.inr (tail_cps fx sx)) cur x hc hx) ?_)
        clear kF kN2 hoff2
        intro last lat tl2 h8 tk8 hla hT2 kF kN
        replace kN := mid_drop kN
        have hL1 := due_le hdue
        have hL2 := drawn_le hdr
        have hL3 := drawn_le hla
        have hC1 := end_last (sgm_inv kk) hbs hla hdue
        have hC2 := end_take (sgm_inv kk) hbs hdr hdue
        have hC3 := end_drop (sgm_inv kk) hbs hdr hdue
        k_steps
        refine HoldM.mk ?_
        (rename Fr _ _ _ _ => kF; rename News _ _ _ _ => kN)
        have hfL : fx.length ≤ 12 := by omega
        have hsL : sx.length ≤ 12 := by omega
        have hfg : ∀ c ∈ fx.cps.toList, c ∈ sgs := by rw [hfx]; exact hfs.2
        k_dflt (refine struck_c (tl := tl2) (news := NB) (σ := sgm kk) (by assumption) kF (by assumption) kN hoff mrc mdx mlu mpd mpk (by assumption) (by rfl) (by assumption) hT2 (by ktr_room) (by ktr_units) P hpk hpl hpz (by omega) (by decide) hfg (ag_len kk hgs) (fun cur x hc hx => hap_c hgs (.inl rfl) cur x hc hx) ?_)
        clear kF kN
        intro onx ont tl3 h10 tk10 hon hT3 kF kN
        k_steps
        refine HoldM.mk ?_
        (rename Fr _ _ _ _ => kF; rename News _ _ _ _ => kN; rename ∀ p, p ∈ tl3 ++ NB → _ => hl1)
        obtain ⟨kN2, hoff2⟩ := lst_mid hT3 kN hoff hl1
        clear hl1 kN
        k_dflt (refine struck_c (tl := tl3) (news := _ :: NB) (ps := [-1]) (σ := sgm kk) (by assumption) kF (by assumption) kN2 hoff2 (.tail _ mrc) (.tail _ mdx) (.tail _ mlu) (.tail _ mpd) (.head _) (by assumption) (by rfl) (by assumption) hT3 (by ktr_room) (by ktr_units) P (IntsAre.cons _ _ .nil) (by decide) (by decide) (by omega) (by decide) hsg1 (ag_len kk hgs) (fun cur x hc hx => hap_c hgs (.inl rfl) cur x hc hx) ?_)
        clear kF kN2 hoff2
        intro otx ott tl4 h11 tk11 hot hT4 kF kN
        replace kN := mid_drop kN
        have hL4 := drawn_le hon
        have hL5 := drawn_le hot
        have hL6 : (Str.ofString "").length = 0 := by decide
        have hE := end_both (sgm_inv kk) (f := fs) (s := ds) (nix := Str.ofString "") (drawn := drawn) (tail := Str.ofString "/" ++ fx ++ Str.ofString "/" ++ sx) (one := onx) (other := otx) hfs.2 hds.2 rfl (by rw [← hb]; exact hdr) (by rw [← hfx]; exact hon) (by rw [← hsx]; exact hot)
        k_steps
        refine HoldM.mk ?_
        obtain ⟨p84, h84⟩ := tabSt_tab hT4
        with_reducible refine eq_bool ?_
        rw [hE]
        k_steps)
end Mine
end

theorem PySem.Challenge.cw_re0007_01_holds : PySem.Challenge.rw_re0007_01.Holds := by
  exact Mine.law_walk
