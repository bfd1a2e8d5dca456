import PyProof.Rows.All
import Wide.All
import OpenK.AllK
import Wide.FinOn
import PySem.Challenge.RW_ph0024_03
set_option compiler.extract_closed false
noncomputable section
open PySem PySem.W PySem.Calls PyProof.Rows
set_option Elab.async false
set_option maxRecDepth 100000
set_option maxHeartbeats 4000000
namespace Mine
abbrev tupO (vs : List Value) : Obj := { cls := .type "tuple", data := .seq vs.toArray }
abbrev lstO (vs : List Value) (n : Nat) : Obj := { cls := .type "list", data := .seq vs.toArray n }
abbrev pileO (C d : Addr) (its : List Value) (n : Nat) : Obj := { cls := .ref C, dict := some d, data := .seq its.toArray n }
def setAt (p : Addr) (o : Obj) (news : List (Addr × Obj)) : List (Addr × Obj) := news.map fun q => if q.1 = p then (p, o) else q
theorem setAt_mem {p : Addr} {o : Obj} {news : List (Addr × Obj)} {q : Addr × Obj} (h : q ∈ news) (hq : q.1 ≠ p) : q ∈ setAt p o news :=
  List.mem_map.mpr ⟨q, h, if_neg hq⟩
theorem setAt_self {p : Addr} {o o' : Obj} {news : List (Addr × Obj)} (h : (p, o') ∈ news) : (p, o) ∈ setAt p o news :=
  List.mem_map.mpr ⟨_, h, if_pos rfl⟩
theorem news_setAt {h₀ h h' : Heap} {L p : Addr} {o o' : Obj} {news : List (Addr × Obj)} (N : News h₀ L h news) (hm : (p, o) ∈ news) (hs : Heap.SameBut p h h') (ho : h'.get? p = some o') : News h₀ L h' (setAt p o' news) := by
  intro q hq
  obtain ⟨r, hr, rfl⟩ := List.mem_map.mp hq
  by_cases e : r.1 = p
  · rw [if_pos e]; exact ⟨ho, (N _ hm).2⟩
  · rw [if_neg e]; exact ⟨(hs.2 _ e).trans (N r hr).1, (N r hr).2⟩
theorem allLt_mem {d : Nat} {q : Addr × Obj} {l : List (Addr × Obj)} (h : AllLt d l) (hm : q ∈ l) : q.1 < d := by
  induction l with
  | nil => cases hm
  | cons r l ih =>
    rcases List.mem_cons.mp hm with e | hm
    · rw [e]; exact h.1
    · exact ih h.2 hm
theorem news_tail {h₀ h : Heap} {L : Addr} {q : Addr × Obj} {news : List (Addr × Obj)} (N : News h₀ L h (q :: news)) : News h₀ L h news := fun p hp => N p (.tail _ hp)
theorem setAt_cons {p t : Addr} {o o1 o2 : Obj} {news : List (Addr × Obj)} (hm : (p, o1) ∈ news) (hl : ∀ q ∈ news, q.1 < t) : setAt p o ((t, o2) :: news) = (t, o2) :: setAt p o news := by
  show (if t = p then (p, o) else (t, o2)) :: setAt p o news = _
  rw [if_neg (fun e => Nat.lt_irrefl _ (e ▸ hl _ hm))]
theorem news_cons {h₀ h : Heap} {L p t : Addr} {o o1 o2 : Obj} {news : List (Addr × Obj)} (N : News h₀ L h (setAt p o ((t, o2) :: news))) (hm : (p, o1) ∈ news) (hl : ∀ q ∈ news, q.1 < t) : News h₀ L h ((t, o2) :: setAt p o news) := by
  rw [← setAt_cons hm hl]; exact N
theorem pileInst {h₀ h : Heap} {L x C dx : Addr} {news : List (Addr × Obj)} {od : Obj} {its : List Value} {n : Nat} (N : News h₀ L h news) (h1 : (x, pileO C dx its n) ∈ news) (h2 : (dx, od) ∈ news) :
    InstAt h x (pileO C dx its n) C (some od) := ⟨(N _ h1).1, rfl, rfl, (N _ h2).1⟩

section
variable {prog : Program} {w : World} {A : Around} {E : Value → Shared → Prop} {s : Shared} {K : Frag} {x C L : Addr} {ox : Obj} {od : Option Obj} {h₀ : Heap} {m : Str → Option Value} {news : List (Addr × Obj)}

theorem looks_inst {M : Model} {h : Heap} {b : Value} (X : K.In h) (I : InstAt h x ox C od) (hm : mroIn K C b = some true) : Looks M h (isInstance (.ref x) b) true :=
  I.type.andThen (looks_mroIn X hm)

/-- a built-in's method or slot, called on an object of an own class below the owner -/
theorem call_sub {id owner n : String} {b : Builtin} {rest : List Value} {Q : Value → Shared → Prop} (hsplit : splitId id = some (owner, n))
    (hkind : builtinKind id = some .slot ∨ builtinKind id = some .method) (hplain : plainId id = true) (hb : entryFor table id = some b)
    (hI : Looks (model prog w) s.heap (isInstance (.ref x) (.type owner)) true) (ha : argsOk id ⟨.ref x :: rest, []⟩)
    (hc : wpAny (model prog w) A.in1 (b ⟨.ref x :: rest, []⟩) (fun fin s' => ∃ v, fin = .done (.ret v) ∧ Q v s') E s) :
    wpAny (model prog w) A (call (.builtin id) (.ref x :: rest)) Q E s := by
  have hc' : wpAny (model prog w) A.in1 (checkBuiltinCall id ⟨.ref x :: rest, []⟩) (fun _ s' => s' = s) E s := by
    unfold checkBuiltinCall
    simp only [hsplit]
    rcases hkind with h | h <;>
    · simp only [h]
      refine wpAny_bind (hI.here ?_)
      simp only [Bool.not_true, Bool.false_eq_true, if_false]
      cases hsig : Manifest.signature? id with
      | none => exact wpAny_pure rfl
      | some sig =>
        simp only [argsOk, hsig] at ha
        have h2 : Bind.checkArgs id sig ⟨.ref x :: rest, []⟩ = pure () := ha
        show wpAny _ _ (Bind.checkArgs id sig ⟨.ref x :: rest, []⟩) _ E s
        rw [h2]; exact wpAny_pure rfl
  refine wpAny_call (codeAny_call_builtin hplain hb (wpAny_mono hc' (fun _ s' e => ?_) fun _ _ z => z))
  subst e
  exact wpAny_mono hc (fun fin s' h' => by obtain ⟨v, rfl, hv⟩ := h'; exact hv) fun _ _ z => z

/-- a method, built in or the text's own, met on an object of an own class below list -/
theorem method_sub {ga : String} {f t : Value} {name : Str} {es : List DictEntry} {n : Nat} {pl : Sem Bool} {Q : Value × List Value → Shared → Prop} (F : Fr h₀ L s.heap m) (X₀ : K.In h₀)
    (I : InstAt s.heap x ox C (some (dictOf es n))) (hg : findIn K (.ref C) "__getattribute__" = some (some (.builtin ga))) (hcan : (Manifest.canonical ga != "object.__getattribute__") = false)
    (hk : findIn K (.ref C) "__getattr__" = some none) (hf : findIn K (.ref C) name = some (some f)) (ht : typeIn K f = some t)
    (htt : (t != .type "function" && t != .type "method_descriptor" && t != .type "wrapper_descriptor") = false) (hl : getL name es = some none) (h : Q (f, [.ref x]) s) :
    wpAny (model prog w) A (getMethod (.ref x) name pl) Q E s := by
  have X := X₀.keeps F.keep
  have hs : shadowIn (some (dictOf es n)) name = some false := by show (lookIn name (dictOf es n)).map _ = _; rw [lookIn_dict, hl]; rfl
  unfold getMethod specialOf
  refine wpAny_bind (wpAny_bind (I.type.here ((looks_findIn X hg).here ?_)))
  dsimp only
  rw [if_neg (by rw [hcan]; exact Bool.false_ne_true)]
  refine wpAny_bind (wpAny_bind (I.type.here ((looks_findIn X hk).here ?_)))
  refine wpAny_bind (wpAny_bind (I.type.here ((looks_findIn X hf).here (wpAny_bind ((looks_typeIn X ht).here ?_)))))
  rw [if_neg (by rw [htt]; exact Bool.false_ne_true)]
  refine wpAny_bind (wpAny_loadPart I.at_ ?_)
  have hd := I.dict
  cases e : ox.dict with
  | none => exact wpAny_bind (wpAny_rule (wpAny_pure h))
  | some dx =>
    rw [e] at hd
    obtain ⟨r, a, b⟩ := Option.map_eq_some_iff.mp hs
    refine wpAny_bind (wpAny_bind (wpAny_loadPart hd ?_))
    rw [nsLook_of a]
    refine wpAny_pure ?_
    rw [b]
    exact wpAny_bind (wpAny_rule (wpAny_pure h))

theorem pile_append {dx : Addr} {its : List Value} {n : Nat} {o2 : Obj} {v : Value} {Q : Value → Shared → Prop} (F : Fr h₀ L s.heap m) (X₀ : K.In h₀) (N : News h₀ L s.heap news)
    (hm : (x, pileO C dx its n) ∈ news) (hd : (dx, o2) ∈ news) (hl : mroIn K C (.type "list") = some true) (hsz : its.length ≤ sizeLine)
    (h : ∀ h', Fr h₀ L h' m → News h₀ L h' (setAt x (pileO C dx (its ++ [v]) (n + 1)) news) → Q .none { s with heap := h' }) :
    wpAny (model prog w) A (call (.builtin "list.append") [.ref x, v]) Q E s := by
  have I := pileInst N hm hd
  have z := N _ hm
  refine call_sub (owner := "list") (n := "append") (by decide +kernel) (.inr (by decide +kernel)) (by decide +kernel) entry_list_append (looks_inst (X₀.keeps F.keep) I hl) (args_list_append _ _) ?_
  show wpAny _ _ (updateSeq x (·.push v) >>= fun _ => ret .none) _ _ s
  refine wpAny_bind (wpAny_updateSeq z.1 rfl (wpAny_pure ⟨.none, rfl, h _ (F.change (Heap.SameBut.update ..) z.2.1 z.2.2) (news_setAt N hm (Heap.SameBut.update ..) ?_)⟩) (by simpa using hsz) (by simp; omega))
  rw [Heap.get?_update_self _ z.1 (by simp [Obj.mapSeq, Obj.isFreed])]
  simp [Obj.mapSeq]

theorem special_bi {M : Model} {id : String} {name : Str} {args : List Value} {Q : Option Value → Shared → Prop} (X : K.In s.heap) (I : InstAt s.heap x ox C od)
    (hs : findIn K (.ref C) name = some (some (.builtin id))) (hb : ∀ self, bindSpecial (.builtin id) self = pure (.builtin id, [self]))
    (h : wpAny M A (call (.builtin id) (.ref x :: args)) (fun v => Q (some v)) E s) : wpAny M A (callSpecial? (.ref x) name args) Q E s :=
  wpAny_bind (wpAny_bind (I.type.here ((looks_findIn X hs).here (wpAny_holding (wpAny_bind (wpAny_of_eq (hb _) (wpAny_bind (wpAny_mono h (fun _ _ z => wpAny_pure z) fun _ _ z => z))))))))

theorem seqKey_sub {M : Model} {k : Value} {name : Str} {Q : Value → Shared → Prop} (X : K.In s.heap) (I : InstAt s.heap x ox C od) (hq : noSeq K C = true) (h : Q k s) :
    wpAny M A (sequenceKey (.ref x) k name) Q E s := by
  unfold sequenceKey
  refine wpAny_bind (I.type.here ?_)
  refine wpAny_bind ((anyM_none X hq).here ?_)
  rw [if_pos (show (!false) = true from rfl)]
  exact wpAny_pure h

theorem pick_from (its : List Value) (i : Int) (h0 : 0 ≤ i) : slicePick its.toArray (some i) none none = (its.drop i.toNat).toArray := by
  have e : sliceBounds (some i) none none its.toArray.size = (((min i.toNat its.toArray.size : Nat) : Int), ((its.toArray.size : Nat) : Int), 1) := by
    simp only [sliceBounds, Option.getD_none, show (1 : Int) > 0 by decide, if_true, if_neg (show ¬ (i < 0) by omega)]
    congr 1
    omega
  rw [kmk_pick_nat _ e]
  show ((its.drop (min i.toNat its.toArray.size)).take (its.toArray.size - min i.toNat its.toArray.size)).toArray = _
  rw [List.size_toArray, kmk_drop_min, List.take_of_length_le (by rw [List.length_drop]; omega)]

theorem pile_getslice {sl : Addr} {its : List Value} {n : Nat} {ox : Obj} {vl vu vs : Value} {lo hi st : Option Int} {Q : Value → Shared → Prop} (X : K.In s.heap) (I : InstAt s.heap x ox C od) (hdt : ox.data = .seq its.toArray n)
    (hl : mroIn K C (.type "list") = some true) (hq : noSeq K C = true) (hf : findIn K (.ref C) "__getitem__" = some (some (.builtin "list.__getitem__")))
    (hs : s.heap.IsSliceOf sl vl vu vs) (pl : IsPart vl lo) (pu : IsPart vu hi) (ps : IsPart vs st) (h0 : st ≠ some 0)
    (h : Q (.ref s.heap.objs.size) { s with heap := s.heap.push { cls := .type "list", data := .seq (slicePick its.toArray lo hi st) } })
    (hsz : its.length ≤ sizeLine) : wpAny (model prog w) A (getItem (.ref x) (.ref sl)) Q E s := by
  obtain ⟨os, hos, hcs, hds⟩ := id hs
  have hTs : s.TypeIs (.ref sl) "slice" := ⟨os, hos, hcs⟩
  unfold getItem
  refine wpAny_holding (wpAny_bind (seqKey_sub X I hq (wpAny_bind (special_bi X I hf slot_list_getitem.bind ?_))))
  refine call_sub (owner := "list") (n := "__getitem__") (by decide +kernel) (by first | exact .inl (by decide +kernel) | exact .inr (by decide +kernel)) (by decide +kernel) entry_list_getitem (looks_inst X I hl) (args_list_getitem _ _) ?_
  show wpAny _ _ (Builtin.List.listSubscript? (.ref sl) >>= _) _ _ s
  refine wpAny_bind ?_
  · unfold Builtin.List.listSubscript?
    refine wpAny_bind (wpAny_specialOf hTs slice_no_index ?_)
    simp only [Option.isNone_none, if_true]
    refine wpAny_pure ?_
    show wpAny _ _ (typeOf (.ref sl) >>= _) _ _ s
    refine wpAny_bind (wpAny_typeOf hTs ?_)
    rw [if_neg (by decide)]
    rw [listSliceParts_eq]
    have hstep : ¬ ((rawPart st == rawInt 0) = true) := by
      cases st with
      | none => exact Bool.false_ne_true
      | some c =>
        intro hh
        have : c = 0 := by simpa [rawPart, rawInt] using hh
        exact h0 (by rw [this])
    refine wpAny_bind (wpAny_bind (wpAny_field hos hds (x := vs) rfl (wpAny_bind (wpAny_listPart ps ?_))))
    rw [if_neg hstep]
    refine wpAny_bind (wpAny_field hos hds (x := vl) rfl (wpAny_bind (wpAny_listPart pl ?_)))
    refine wpAny_bind (wpAny_field hos hds (x := vu) rfl (wpAny_bind (wpAny_listPart pu (wpAny_pure ?_))))
    refine wpAny_bind (m := Builtin.List.listItems (.ref x)) ?_
    · unfold Builtin.List.listItems
      refine wpAny_bind (wpAny_seqItems I.at_ hdt (wpAny_pure ?_))
      refine wpAny_bind (wpAny_of_eq (sliceIndices_raw lo hi st its.toArray.size h0) ?_)
      refine wpAny_bind (wpAny_newObj_type (wpAny_pure ⟨_, rfl, wpAny_pure h⟩) (Nat.le_trans (slicePick_size_le its.toArray lo hi st) (by simpa using hsz)))

theorem pile_from {value slice : PySem.Expr} {dx : Addr} {its : List Value} {n : Nat} {o2 : Obj} {i : Int} {ti : Tok} {Q : Value → Shared → Prop} (F : Fr h₀ L s.heap m) (X₀ : K.In h₀) (N : News h₀ L s.heap news)
    (hm : (x, pileO C dx its n) ∈ news) (hd : (dx, o2) ∈ news) (hl : mroIn K C (.type "list") = some true) (hq : noSeq K C = true) (hf : findIn K (.ref C) "__getitem__" = some (some (.builtin "list.__getitem__")))
    (h0 : 0 ≤ i) (hsz : its.length ≤ sizeLine)
    (hs : ∀ b, subscripted slice b (.ref x) (.ref s.heap.objs.size) = operate [.ref s.heap.objs.size, .ref x] (getItem (.ref x) (.ref s.heap.objs.size))) (ht : ∀ r, letTemporaryGo value (.ref x) r = pure ())
    (h : ∀ D h', Fr h₀ L h' m → News h₀ L h' ((D, lstO (its.drop i.toNat) 0) :: news) → (∀ p ∈ news, p.1 < D) → Q (.ref D) { s with heap := h' }) :
    wpAny (model prog w) A (subscriptTail value slice (.ref x) (.ref s.heap.objs.size)) Q E { s with heap := s.heap.push { cls := .type "slice", data := .fields #[.int i ti, .none, .none] } } := by
  have up : ∀ b o, s.heap.get? b = some o → (s.heap.push { cls := .type "slice", data := .fields #[.int i ti, .none, .none] }).get? b = some o := fun b o e => Heap.get?_push_of_some _ e
  have N' := News.grown N up
  have I := pileInst N' hm hd
  have X : K.In (s.heap.push { cls := .type "slice", data := .fields #[.int i ti, .none, .none] }) := (X₀.keeps F.keep).keeps up
  unfold subscriptTail getitemInPython
  refine wpAny_bind (wpAny_bind (wpAny_bind (I.type.here ((looks_findIn X hf).here (wpAny_pure ?_)))))
  rw [hs]
  refine wpAny_bind (wpAny_operate' (pile_getslice (s := { s with heap := s.heap.push { cls := .type "slice", data := .fields #[.int i ti, .none, .none] } }) X I rfl hl hq hf (Heap.IsSliceOf.new ..) (.int i ti) .none .none (by simp) ?_ hsz))
  refine wpAny_bind (wpAny_of_eq (ht _) (wpAny_pure ?_))
  have N1 := News.push (F.push { cls := .type "slice", data := .fields #[.int i ti, .none, .none] }) N' { cls := .type "list", data := .seq (slicePick its.toArray (some i) none none) }
  rw [pick_from its i h0] at N1 ⊢
  refine h _ _ ((F.push _).push _) N1 fun p hp => ?_
  rw [Heap.size_push]
  exact Nat.lt_succ_of_lt (Heap.lt_size (N p hp).1)

theorem args_list_setitem (a b c : Value) : argsOk "list.__setitem__" ⟨[a, b, c], []⟩ := by unfold argsOk; kernel_rfl
theorem entry_list_setitem : entryFor table "list.__setitem__" = some Builtin.«list.__setitem__» := entryFor_of_tree (by kernel_rfl)
theorem bind_list_setitem (self : Value) : bindSpecial (.builtin "list.__setitem__") self = pure (.builtin "list.__setitem__", [self]) :=
  (Slot.of (T := "list") (name := "__setitem__") (owner := "list") (n := "__setitem__") (by rw [typeLookup_type, builtinLookup_eq_fast]; kernel_rfl) (by decide +kernel) (by decide +kernel) (by decide +kernel)
    (by first | exact .inl (by decide +kernel) | exact .inr (by decide +kernel)) (by rw [isSubtype_type]; kernel_rfl)).bind self

theorem pile_cut {dx e : Addr} {its : List Value} {n k : Nat} {o2 : Obj} {i : Int} {ti : Tok} {Q : Unit → Shared → Prop} (F : Fr h₀ L s.heap m) (X₀ : K.In h₀) (Ne : News h₀ L s.heap ((e, listOf #[] k) :: news)) (hlt : AllLt e news)
    (hm : (x, pileO C dx its n) ∈ news) (hd : (dx, o2) ∈ news) (hl : mroIn K C (.type "list") = some true) (hq : noSeq K C = true) (hf : findIn K (.ref C) "__setitem__" = some (some (.builtin "list.__setitem__")))
    (h0 : 0 ≤ i) (hsz : its.length ≤ sizeLine)
    (h : ∀ h' n', Fr h₀ L h' m → News h₀ L h' (setAt x (pileO C dx (its.take i.toNat) n') news) → Q () { s with heap := h' }) :
    wpAny (model prog w) A (setItem (.ref x) (.ref s.heap.objs.size) (.ref e)) Q E { s with heap := s.heap.push { cls := .type "slice", data := .fields #[.int i ti, .none, .none] } } := by
  have N := news_tail Ne
  have hxe : x ≠ e := Nat.ne_of_lt (allLt_mem hlt hm)
  have up : ∀ b o, s.heap.get? b = some o → (s.heap.push { cls := .type "slice", data := .fields #[.int i ti, .none, .none] }).get? b = some o := fun b o e => Heap.get?_push_of_some _ e
  have N' := News.grown N up
  have F' := F.push { cls := .type "slice", data := .fields #[.int i ti, .none, .none] }
  have I := pileInst N' hm hd
  have X : K.In (s.heap.push { cls := .type "slice", data := .fields #[.int i ti, .none, .none] }) := (X₀.keeps F.keep).keeps up
  obtain ⟨os, hos, hcs, hds⟩ := Heap.IsSliceOf.new s.heap (.int i ti) .none .none
  have hTs : ({ s with heap := s.heap.push { cls := .type "slice", data := .fields #[.int i ti, .none, .none] } } : Shared).TypeIs (.ref s.heap.objs.size) "slice" := ⟨os, hos, hcs⟩
  have hE : (s.heap.push { cls := .type "slice", data := .fields #[.int i ti, .none, .none] }).get? e = some (listOf #[] k) := up _ _ (Ne (e, listOf #[] k) (List.Mem.head _)).1
  have hTe : ({ s with heap := s.heap.push { cls := .type "slice", data := .fields #[.int i ti, .none, .none] } } : Shared).TypeIs (.ref e) "list" := ⟨_, hE, rfl⟩
  unfold setItem
  refine wpAny_holding (wpAny_bind (seqKey_sub X I hq (wpAny_bind (special_bi X I hf bind_list_setitem ?_))))
  refine call_sub (owner := "list") (n := "__setitem__") (by decide +kernel) (by first | exact .inl (by decide +kernel) | exact .inr (by decide +kernel)) (by decide +kernel) entry_list_setitem (looks_inst X I hl) (args_list_setitem _ _ _) ?_
  unfold Builtin.«list.__setitem__»
  refine wpAny_bind (wpAny_of_eq (a := (.ref x, [.ref s.heap.objs.size, .ref e])) (by rfl) ?_)
  dsimp only
  refine wpAny_bind ?_
  · unfold Builtin.List.listSubscript?
    refine wpAny_bind (wpAny_specialOf hTs slice_no_index ?_)
    simp only [Option.isNone_none, if_true]
    refine wpAny_pure ?_
    show wpAny _ _ (typeOf (.ref s.heap.objs.size) >>= _) _ _ _
    refine wpAny_bind (wpAny_typeOf hTs ?_)
    rw [if_neg (by decide)]
    rw [listSliceParts_eq]
    refine wpAny_bind (wpAny_bind (wpAny_field hos hds (x := .none) rfl (wpAny_bind (wpAny_listPart .none ?_))))
    rw [if_neg (by decide)]
    refine wpAny_bind (wpAny_field hos hds (x := .int i ti) rfl (wpAny_bind (wpAny_listPart (.int i ti) ?_)))
    refine wpAny_bind (wpAny_field hos hds (x := .none) rfl (wpAny_bind (wpAny_listPart .none (wpAny_pure ?_))))
    have hne : ¬ ((Builtin.List.listSameRef (.ref x) (.ref e)) = true) := by simpa [Builtin.List.listSameRef] using hxe
    dsimp only
    rw [if_neg hne]
    refine wpAny_bind ?_
    unfold Builtin.List.listAllItems
    refine wpAny_bind (wpAny_typeOf hTe ?_)
    rw [if_pos (by decide)]
    unfold Builtin.List.listItems
    refine wpAny_bind (wpAny_seqItems hE rfl (wpAny_pure ?_))
    refine wpAny_bind (wpAny_bind (wpAny_seqItems I.at_ rfl (wpAny_pure ?_)))
    refine wpAny_bind (wpAny_of_eq (sliceIndices_raw (some i) none none its.toArray.size (by simp)) ?_)
    have e : sliceBounds (some i) none none its.toArray.size = (((min i.toNat its.toArray.size : Nat) : Int), ((its.toArray.size : Nat) : Int), 1) := by
      simp only [sliceBounds, Option.getD_none, show (1 : Int) > 0 by decide, if_true, if_neg (show ¬ (i < 0) by omega)]
      congr 1
      omega
    rw [e]
    dsimp only
    rw [if_pos (by decide)]
    refine wpAny_bind (wpAny_rule ?_)
    rw [if_neg (by
      show ¬ ((Builtin.List.listTooLong (its.toArray.size + (#[] : Array Value).size)) = true)
      unfold Builtin.List.listTooLong
      simp
      exact hsz)]
    have z := N' _ hm
    have hcut : (its.toArray.extract 0 ((min i.toNat its.toArray.size : Nat) : Int).toNat ++ #[] ++ its.toArray.extract (max ((min i.toNat its.toArray.size : Nat) : Int) ((its.toArray.size : Nat) : Int)).toNat its.toArray.size) = (its.take i.toNat).toArray := by
      apply Array.ext'
      have e1 : (max ((min i.toNat its.toArray.size : Nat) : Int) ((its.toArray.size : Nat) : Int)).toNat = its.toArray.size := by omega
      rw [e1]
      simp only [Int.toNat_natCast, Array.toList_append, Array.toList_extract, List.append_nil, List.drop_zero, List.size_toArray, List.drop_length, List.take_nil, Nat.sub_zero, List.extract_eq_take_drop, Nat.sub_self]
      exact kmk_take_min its i.toNat
    show wpAny _ _ (updateSeq x _ >>= _) _ _ _
    refine wpAny_bind (wpAny_updateSeq z.1 rfl (wpAny_bind (wpAny_letGo (wpAny_pure ⟨.none, rfl, wpAny_pure (h _ (if (its.take i.toNat).toArray.size == its.toArray.size then n else n + 1) (F'.change (Heap.SameBut.update ..) z.2.1 z.2.2) (news_setAt N' hm (Heap.SameBut.update ..) ?_))⟩))) (by simpa using hsz) ?_)
    · rw [Heap.get?_update_self _ z.1 (by simp [Obj.mapSeq, Obj.isFreed])]
      show some (Obj.mapSeq _ _) = _
      unfold Obj.mapSeq
      dsimp only
      rw [hcut]
    · rw [hcut]
      simp
      omega
end
end Mine
end
noncomputable section
open PySem PySem.W PySem.Calls PyProof.Rows Mine
set_option Elab.async false
set_option maxRecDepth 100000
set_option maxHeartbeats 4000000
namespace Mine
namespace F
theorem slot_wd_get : Slot "wrapper_descriptor" "__get__" "wrapper_descriptor.__get__" := .of (owner := "wrapper_descriptor") (n := "__get__") (by rw [typeLookup_type, builtinLookup_eq_fast]; kernel_rfl) (by decide +kernel) (by decide +kernel) (by decide +kernel)
  (by first | exact .inl (by decide +kernel) | exact .inr (by decide +kernel)) (by rw [isSubtype_type]; kernel_rfl)
theorem entry_wd_get : entryFor table "wrapper_descriptor.__get__" = some Builtin.«wrapper_descriptor.__get__» := entryFor_of_tree (by kernel_rfl)
theorem wdArgs (a b c : Value) : argsOk "wrapper_descriptor.__get__" ⟨[a, b, c], []⟩ := by unfold argsOk; kernel_rfl
theorem ty_len : typeOf (.builtin "list.__len__") = pure (.type "wrapper_descriptor") := by show builtinType _ = _; rw [builtinType_eq_fast]; kernel_rfl
theorem ty_init : typeOf (.builtin "list.__init__") = pure (.type "wrapper_descriptor") := by show builtinType _ = _; rw [builtinType_eq_fast]; kernel_rfl
end F

section
variable {prog : Program} {w : World} {M : Model} {A : Around} {E : Value → Shared → Prop} {h : Heap} {g : Array GenState} {d : Drawn} {t : Nat} {os : OsState}

theorem own_len : ".".intercalate ("list.__len__".cutAt '.').dropLast = "list" := by decide +kernel
theorem own_init : ".".intercalate ("list.__init__".cutAt '.').dropLast = "list" := by decide +kernel
theorem wd_get {id : String} {x C : Addr} {ox : Obj} {Q : Fin → Shared → Prop} (hx : h.get? x = some ox) (hc : ox.cls = .ref C) (hI : Looks (model prog w) h (isSubtype (.ref C) (.type "list")) true) (hn : (id = "list.__len__" ∨ id = "list.__init__"))
    (hq : Q (.done (.ret (.ref h.objs.size))) ⟨h.push { cls := .type "method-wrapper", data := .fields #[.builtin id, .ref x] }, g, d, t, os⟩) :
    wpAny (model prog w) A (Builtin.«wrapper_descriptor.__get__» ⟨[.builtin id, .ref x, .ref C], []⟩) Q E ⟨h, g, d, t, os⟩ := by
  unfold Builtin.«wrapper_descriptor.__get__»
  rcases hn with rfl | rfl
  · repeat (first
      | (with_reducible refine wpAny_loadPart hx ?_; refine wpAny_pure ?_; rw [hc, own_len]; refine Looks.at hI ?_)
      | (unfold newFields; refine wpAny_bind (wpAny_newObj_type ?_ (by size_fits)))
      | wp_step
      | dsimp only)
    exact hq
  · repeat (first
      | (with_reducible refine wpAny_loadPart hx ?_; refine wpAny_pure ?_; rw [hc, own_init]; refine Looks.at hI ?_)
      | (unfold newFields; refine wpAny_bind (wpAny_newObj_type ?_ (by size_fits)))
      | wp_step
      | dsimp only)
    exact hq
end
end Mine
end
noncomputable section
open PySem PySem.W PySem.Calls PyProof.Rows Mine
set_option Elab.async false
set_option maxRecDepth 100000
set_option maxHeartbeats 4000000
namespace Mine
section
variable {prog : Program} {w : World} {M : Model} {A : Around} {E : Value → Shared → Prop} {h : Heap} {g : Array GenState} {d : Drawn} {t : Nat} {os : OsState}

theorem super_ga {so D x C : Addr} {l₀ l : List Value} {K : Frag} {name : Str} {tk : Tok} {id tn gid : String} {bg : Builtin} {ob : Obj} {Q : Fin → Shared → Prop}
    (hso : h.get? so = some { cls := .type "super", dict := none, data := .fields #[.ref D, .ref x, .ref C], slots := #[] }) (hno : Looks (model prog w) h (opaqueClassAbove (.ref C)) none)
    (hC : Looks (model prog w) h (mroOf (.ref C)) l₀) (hl : (l₀.dropWhile (· != .ref D)).drop 1 = l) (X : K.In h)
    (hf : alongIn K name l = some (some (.builtin id))) (hxC : x ≠ C) (hn : (name == ("__class__" : Str)) = false)
    (hT : typeOf (.builtin id) = pure (.type tn)) (sl : Slot tn "__get__" gid) (eg : entryFor table gid = some bg) (ag : argsOk gid ⟨[.builtin id, .ref x, .ref C], []⟩)
    (hb : ∀ {A' : Around} {Q' : Fin → Shared → Prop} {E' : Value → Shared → Prop}, Q' (.done (.ret (.ref h.objs.size))) ⟨h.push ob, g, d, t, os⟩ → wpAny (model prog w) A' (bg ⟨[.builtin id, .ref x, .ref C], []⟩) Q' E' ⟨h, g, d, t, os⟩)
    (hq : Q (.done (.ret (.ref h.objs.size))) ⟨h.push ob, g, d, t, os⟩) :
    wpAny (model prog w) A (Builtin.«super.__getattribute__» ⟨[.ref so, .str name tk], []⟩) Q E ⟨h, g, d, t, os⟩ := by
  have hlk := sl.lookup
  have hne : (Value.ref x == Value.ref C) = false := by simp [hxC]
  have hTf : (⟨h, g, d, t, os⟩ : Shared).TypeIs (.builtin id) tn := hT
  have hdt : ({ cls := .type "super", dict := none, data := .fields #[.ref D, .ref x, .ref C], slots := #[] } : Obj).data = .fields #[.ref D, .ref x, .ref C] := rfl
  have f0 : (#[.ref D, .ref x, .ref C] : Array Value)[0]? = some (.ref D) := rfl
  have f1 : (#[.ref D, .ref x, .ref C] : Array Value)[1]? = some (.ref x) := rfl
  have f2 : (#[.ref D, .ref x, .ref C] : Array Value)[2]? = some (.ref C) := rfl
  unfold Builtin.«super.__getattribute__»
  repeat (first
    | (with_reducible refine wpAny_field hso hdt f0 ?_) | (with_reducible refine wpAny_field hso hdt f1 ?_) | (with_reducible refine wpAny_field hso hdt f2 ?_)
    | (with_reducible refine ks_wpAny_notOpaque hno ?_)
    | (with_reducible refine Looks.at hC ?_; rw [hl])
    | (refine ks_forIn_along X (fun _ _ => rfl) rfl ?_ hf)
    | (with_reducible refine wpAny_typeOf hTf ?_)
    | (with_reducible refine wpAny_call_entry sl hTf eg ?_ ag)
    | (with_reducible refine hb ?_)
    | (with_reducible refine ⟨_, rfl, ?_⟩)
    | (simp only [hn, hne, Bool.or_false, Bool.false_eq_true, if_false])
    | wp_step
    | dsimp only)
  all_goals exact hq

theorem getMethod_super {so D x C : Addr} {l₀ l : List Value} {K : Frag} {name : Str} {id tn gid : String} {bg : Builtin} {ob : Obj} {pl : Sem Bool} {Q : Value × List Value → Shared → Prop}
    (hso : h.get? so = some { cls := .type "super", dict := none, data := .fields #[.ref D, .ref x, .ref C], slots := #[] }) (hno : Looks (model prog w) h (opaqueClassAbove (.ref C)) none)
    (hC : Looks (model prog w) h (mroOf (.ref C)) l₀) (hl : (l₀.dropWhile (· != .ref D)).drop 1 = l) (X : K.In h)
    (hf : alongIn K name l = some (some (.builtin id))) (hxC : x ≠ C) (hn : (name == ("__class__" : Str)) = false)
    (hT₀ : typeOf (.builtin id) = pure (.type tn)) (sl : Slot tn "__get__" gid) (eg : entryFor table gid = some bg) (ag : argsOk gid ⟨[.builtin id, .ref x, .ref C], []⟩)
    (hb : ∀ {A' : Around} {Q' : Fin → Shared → Prop} {E' : Value → Shared → Prop} {t' : Nat}, Q' (.done (.ret (.ref h.objs.size))) ⟨h.push ob, g, d, t', os⟩ → wpAny (model prog w) A' (bg ⟨[.builtin id, .ref x, .ref C], []⟩) Q' E' ⟨h, g, d, t', os⟩)
    (hq : Q (.ref h.objs.size, []) ⟨h.push ob, g, d, t + 1, os⟩) :
    wpAny (model prog w) A (getMethod (.ref so) name pl) Q E ⟨h, g, d, t, os⟩ := by
  have hlk := PySem.F.ks_slot_super_ga.lookup
  have hcan := PySem.F.ks_canon_super_ga
  have hT : ∀ t', (⟨h, g, d, t', os⟩ : Shared).TypeIs (.ref so) "super" := fun _ => ⟨_, hso, rfl⟩
  unfold getMethod
  refine wpAny_bind (wpAny_specialOf (hT _) hlk ?_)
  show wpAny _ _ (if (Manifest.canonical "super.__getattribute__" != "object.__getattribute__") = true then _ else _) _ _ _
  rw [if_pos hcan]
  unfold getAttr getAttrBy
  refine wpAny_bind (wpAny_bind (wpAny_mkText (wpAny_holding (wpAny_bind (wpAny_typeOf (hT _) (wpAny_bind (wpAny_of_eq hlk ?_)))))))
  show wpAny _ _ (getAttrByItsOwn (.ref so) (.str name t) (.type "super") (.builtin "super.__getattribute__") true false) _ _ _
  unfold getAttrByItsOwn hookBefore callGetattribute boundAndCalled
  refine wpAny_bind (wpAny_of_eq (show (if onTheHeap (.type "super") then typeLookup (.type "super") "__getattr__" else pure none) = pure none from rfl) ?_)
  refine wpAny_bind (wpAny_attempt (wpAny_holding ?_))
  show wpAny _ _ (bindSpecial (.builtin "super.__getattribute__") (.ref so) >>= _) _ _ _
  refine wpAny_bind (wpAny_of_eq (PySem.F.ks_slot_super_ga.bind _) ?_)
  refine wpAny_mono (Q := fun v s' => v = .ref h.objs.size ∧ s' = ⟨h.push ob, g, d, t + 1, os⟩) (E := fun _ _ => False)
    (wpAny_call_entry PySem.F.ks_slot_super_ga (hT _) PySem.F.ks_entry_super_ga (super_ga hso hno hC hl X hf hxC hn hT₀ sl eg ag hb ⟨_, rfl, rfl, rfl⟩) (PySem.F.ks_gaArgs_super _ _)) (fun v s' hv => ?_) fun _ _ z => z.elim
  obtain ⟨rfl, rfl⟩ := hv
  exact wpAny_pure (wpAny_pure hq)
end
end Mine
end
noncomputable section
open PySem PySem.W PySem.Calls PyProof.Rows Mine
set_option Elab.async false
set_option maxRecDepth 100000
set_option maxHeartbeats 4000000
namespace Mine
abbrev boundO (cls id : String) (x : Addr) : Obj := { cls := .type cls, data := .fields #[.builtin id, .ref x] }
section
variable {prog : Program} {w : World} {A : Around} {E : Value → Shared → Prop} {s : Shared} {h₀ : Heap} {L : Addr} {m mg mb : Str → Option Value} {news : List (Addr × Obj)} {K : Frag} {x C D so q : Addr} {ox : Obj} {odx : Option Obj}

theorem super_bi {name : Str} {id tn gid bt : String} {bg : Builtin} {pl : Sem Bool} {Q : Value × List Value → Shared → Prop} (F : Fr h₀ L s.heap m) (X₀ : K.In h₀) (N : News h₀ L s.heap news) (hso : (so, ks_superObj D x C) ∈ news) (I : InstAt s.heap x ox C odx) (ho : nsIn K cStatics "thirdparty.any" = some none)
    (hm : ks_superIn K C D name = some (some (.builtin id))) (hn : (name == ("__class__" : Str)) = false)
    (hT₀ : typeOf (.builtin id) = pure (.type tn)) (sl : Slot tn "__get__" gid) (eg : entryFor table gid = some bg) (ag : ∀ a b c, argsOk gid ⟨[a, b, c], []⟩)
    (hb : ∀ {g d os} {A' : Around} {Q' : Fin → Shared → Prop} {E' : Value → Shared → Prop} {t' : Nat}, Q' (.done (.ret (.ref s.heap.objs.size))) ⟨s.heap.push (boundO bt id x), g, d, t', os⟩ → wpAny (model prog w) A' (bg ⟨[.builtin id, .ref x, .ref C], []⟩) Q' E' ⟨s.heap, g, d, t', os⟩)
    (h : ∀ q h', Fr h₀ L h' m → News h₀ L h' ((q, boundO bt id x) :: news) → (∀ p ∈ news, p.1 < q) → Q (.ref q, []) { s with heap := h', toks := s.toks + 1 }) : wpAny (model prog w) A (getMethod (.ref so) name pl) Q E s := by
  have X : K.In s.heap := X₀.keeps F.keep
  obtain ⟨hh, g, d, t, os⟩ := s
  cases hc : clsIn K C with
  | none => unfold ks_superIn at hm; rw [hc] at hm; cases hm
  | some cd =>
    unfold ks_superIn at hm
    rw [hc] at hm
    refine getMethod_super (N _ hso).1 (looks_opaque X ho) (l₀ := cd.mro) ?_ rfl X hm (ks_ne X I hc) hn hT₀ sl eg (ag _ _ _) hb ?_
    · exact fun A Q E s k q => wpAny_bind ((looks_clsIn X hc) A _ E s k (wpAny_pure q))
    · obtain ⟨F', N', l'⟩ := ks_newsPush (s := ⟨hh, g, d, t, os⟩) (o := boundO bt id x) F N rfl (Heap.get?_push_at rfl rfl) (fun b o e => Heap.get?_push_of_some _ e)
      exact h _ _ F' N' l'

theorem callWith_bound {bt id : String} {env : Env} {pos : Pos} {Q : Value → Shared → Prop} (N : News h₀ L s.heap news) (hq : (q, boundO bt id x) ∈ news) (hb : (Value.type bt != .type "method") = true) (hb2 : (Value.type bt == .type "builtin_function_or_method" || Value.type bt == .type "method-wrapper") = true)
    (h : wpAny (model prog w) A (call (.ref q) []) Q E s) : wpAny (model prog w) A (callWith pos (.ref q) [] (backTo pos (starEach [] env)) []) Q E s := by
  refine callWith_of (P := fun h => h.get? q = some (boundO bt id x)) rfl (fun h hh => ⟨.machine, .inr (.inl rfl), ?_⟩) (evalArgs_nil3 ⟨(N _ hq).1, h⟩)
  refine (Looks.ld (part := none) hh).andThen ?_
  show Looks _ _ (if (Value.type bt != .type "method") = true then _ else _) _
  rw [if_pos hb, if_pos hb2]
  exact .now

theorem call_bound {bt id : String} {b : Builtin} {Q : Value → Shared → Prop} (N : News h₀ L s.heap news) (hq : (q, boundO bt id x) ∈ news) (hb : (Value.type bt != .type "method") = true)
    (hb2 : (Value.type bt == .type "method" || Value.type bt == .type "builtin_function_or_method" || Value.type bt == .type "method-wrapper") = true)
    (hck : ∀ {A' : Around} {Q' : Unit → Shared → Prop} {E' : Value → Shared → Prop}, Q' () s → wpAny (model prog w) A' (checkBoundCall id ⟨[.ref x], []⟩) Q' E' s) (hp : plainId id = true) (eb : entryFor table id = some b)
    (h : wpAny (model prog w) A.in1 (b ⟨[.ref x], []⟩) (fun fin s' => ∃ v, fin = .done (.ret v) ∧ Q v s') E s) : wpAny (model prog w) A (call (.ref q) []) Q E s := by
  refine wpAny_call (codeAny_of_tree ?_)
  show wpAny _ A.in1 (callAny (.ref q) ⟨[], []⟩) _ _ _
  unfold callAny
  refine wpAny_bind (wpAny_load (N _ hq).1 ?_)
  dsimp only
  rw [if_pos hb2]
  show wpAny _ _ (if (Value.type bt != .type "method") = true then _ else _) _ _ _
  rw [if_pos hb]
  refine wpAny_bind (hck (wpAny_pure ⟨plainId_quiet hp _, codeAny_builtin eb ?_⟩))
  rw [Around.under_plainId hp _]
  exact wpAny_mono h (fun fin s' h' => by obtain ⟨v, rfl, hv⟩ := h'; exact hv) fun _ _ z => z
end
end Mine
end
noncomputable section
open PySem PySem.W PySem.Calls PyProof.Rows Mine
set_option Elab.async false
set_option maxRecDepth 100000
set_option maxHeartbeats 4000000
namespace Mine
theorem bound_len (v : Value) : checkBoundCall "list.__len__" ⟨[v], []⟩ = pure () := by kernel_rfl
theorem bound_init (v : Value) : checkBoundCall "list.__init__" ⟨[v], []⟩ = pure () := by kernel_rfl
theorem entry_len : entryFor table "list.__len__" = some Builtin.«list.__len__» := entryFor_of_tree (by kernel_rfl)
theorem entry_init : entryFor table "list.__init__" = some Builtin.«list.__init__» := entryFor_of_tree (by kernel_rfl)
section
variable {prog : Program} {w : World} {A : Around} {E : Value → Shared → Prop} {s : Shared} {h₀ : Heap} {L : Addr} {m mg mb : Str → Option Value} {news : List (Addr × Obj)} {K : Frag} {x C D so q dx : Addr} {ox : Obj} {odx : Option Obj}
theorem bi_len {o : Obj} {xs : Array Value} {n : Nat} {Q : Value → Shared → Prop} (ho : s.heap.get? x = some o) (hd : o.data = .seq xs n) (hf : xs.size ≤ sizeLine) (h : Q (.int xs.size s.toks) { s with toks := s.toks + 1 }) :
    wpAny (model prog w) A (Builtin.«list.__len__» ⟨[.ref x], []⟩) (fun fin s' => ∃ v, fin = .done (.ret v) ∧ Q v s') E s := by
  unfold Builtin.«list.__len__»
  refine wpAny_bind (wpAny_of_eq (a := (.ref x, [])) (by rfl) ?_)
  dsimp only
  repeat (first | (with_reducible refine wpAny_loadPart ho ?_) | wp_step | dsimp only)
  rw [hd]
  refine wpAny_pure ?_
  repeat wp_step
  exact ⟨_, rfl, h⟩
theorem super_len {pl : Sem Bool} {Q : Value × List Value → Shared → Prop} (F : Fr h₀ L s.heap m) (X₀ : K.In h₀) (N : News h₀ L s.heap news) (hso : (so, ks_superObj D x C) ∈ news) (I : InstAt s.heap x ox C odx) (ho : nsIn K cStatics "thirdparty.any" = some none)
    (hm : ks_superIn K C D "__len__" = some (some (.builtin "list.__len__"))) (hl : mroIn K C (.type "list") = some true)
    (h : ∀ q h', Fr h₀ L h' m → News h₀ L h' ((q, boundO "method-wrapper" "list.__len__" x) :: news) → (∀ p ∈ news, p.1 < q) → Q (.ref q, []) { s with heap := h', toks := s.toks + 1 }) : wpAny (model prog w) A (getMethod (.ref so) "__len__" pl) Q E s :=
  super_bi F X₀ N hso I ho hm (by decide) Mine.F.ty_len Mine.F.slot_wd_get Mine.F.entry_wd_get Mine.F.wdArgs (fun hq => wd_get I.at_ I.cls (looks_mroIn (X₀.keeps F.keep) hl) (.inl rfl) hq) h
theorem super_init {pl : Sem Bool} {Q : Value × List Value → Shared → Prop} (F : Fr h₀ L s.heap m) (X₀ : K.In h₀) (N : News h₀ L s.heap news) (hso : (so, ks_superObj D x C) ∈ news) (I : InstAt s.heap x ox C odx) (ho : nsIn K cStatics "thirdparty.any" = some none)
    (hm : ks_superIn K C D "__init__" = some (some (.builtin "list.__init__"))) (hl : mroIn K C (.type "list") = some true)
    (h : ∀ q h', Fr h₀ L h' m → News h₀ L h' ((q, boundO "method-wrapper" "list.__init__" x) :: news) → (∀ p ∈ news, p.1 < q) → Q (.ref q, []) { s with heap := h', toks := s.toks + 1 }) : wpAny (model prog w) A (getMethod (.ref so) "__init__" pl) Q E s :=
  super_bi F X₀ N hso I ho hm (by decide) Mine.F.ty_init Mine.F.slot_wd_get Mine.F.entry_wd_get Mine.F.wdArgs (fun hq => wd_get I.at_ I.cls (looks_mroIn (X₀.keeps F.keep) hl) (.inr rfl) hq) h
theorem call_len {its : List Value} {n : Nat} {Q : Value → Shared → Prop} (N : News h₀ L s.heap news) (hq : (q, boundO "method-wrapper" "list.__len__" x) ∈ news) (hm : (x, pileO C dx its n) ∈ news) (hf : its.length ≤ sizeLine)
    (h : Q (.int its.length s.toks) { s with toks := s.toks + 1 }) : wpAny (model prog w) A (call (.ref q) []) Q E s :=
  call_bound N hq (by decide) (by decide) (fun hq => wpAny_of_eq (bound_len _) hq) (by decide +kernel) entry_len (bi_len (N _ hm).1 rfl (by simpa using hf) (by simpa using h))
theorem callWith_wrap {id : String} {env : Env} {pos : Pos} {Q : Value → Shared → Prop} (N : News h₀ L s.heap news) (hq : (q, boundO "method-wrapper" id x) ∈ news)
    (h : wpAny (model prog w) A (call (.ref q) []) Q E s) : wpAny (model prog w) A (callWith pos (.ref q) [] (backTo pos (starEach [] env)) []) Q E s := callWith_bound N hq (by decide) (by decide) h
end
end Mine
end
noncomputable section
open PySem PySem.W PySem.Calls PyProof.Rows Mine
set_option Elab.async false
set_option maxRecDepth 100000
set_option maxHeartbeats 4000000
namespace Mine
def makesL (K : Frag) (C : Addr) : Bool := match K.lookup C with
  | some ⟨_, _, .cls cd, sl⟩ => !cd.abstract && !cd.hasDel && (sl.toList[4]?).join == some (.builtin "list.__new__") && !cd.mro.isEmpty && cd.mro.contains (.ref C) && cd.mro.contains (.type "list") &&
      specialIn K (.ref C) "__call__" == some (some (.builtin "type.__call__")) && instIn K (.ref C) (.type "type") == some true
  | _ => false
structure MakesL (M : Model) (h : Heap) (C : Addr) : Prop where
  obj : ∃ oc od cd sl, h.get? C = some ⟨oc, od, .cls cd, sl⟩ ∧ cd.abstract = false ∧ cd.hasDel = false ∧ cd.mro.isEmpty = false
  made : Looks M h (Bind.madeBy (.ref C)) (some "list.__new__")
  base : Looks M h (Bind.staticBase (.ref C)) (.ref C)
  self : Looks M h (isSubtype (.ref C) (.ref C)) true
  top : Looks M h (isSubtype (.ref C) (.type "list")) true
  call : Looks M h (specialOf (.ref C) "__call__") (some (.builtin "type.__call__"))
  typ : Looks M h (isInstance (.ref C) (.type "type")) true
theorem makesL_of {K : Frag} {M : Model} {h : Heap} (X : K.In h) {C : Addr} (e : makesL K C = true) : MakesL M h C := by
  unfold makesL at e
  split at e
  · rename_i oc od cd sl ho
    simp only [Bool.and_eq_true, Bool.not_eq_true', beq_iff_eq] at e
    obtain ⟨⟨⟨⟨⟨⟨⟨e1, e2⟩, e3⟩, e4⟩, e5⟩, e6⟩, e7⟩, e8⟩ := e
    have hc : clsIn K C = some cd := by unfold clsIn; rw [ho]
    have hm : Looks M h (mroOf (.ref C)) cd.mro := (looks_clsIn X hc).andThen .now
    obtain ⟨c, l, hl⟩ : ∃ c l, cd.mro = c :: l := by cases q : cd.mro with | nil => rw [q] at e4; cases e4 | cons c l => exact ⟨c, l, rfl⟩
    have made : Looks M h (Bind.madeBy (.ref C)) (some "list.__new__") := by
      intro A Q E s k q
      unfold Bind.madeBy
      refine wpAny_bind (hm A _ E s k ?_)
      rw [hl, List.forIn_cons]
      refine wpAny_bind (wpAny_bind (wpAny_bind (wpAny_bind (wpAny_loadPart (k _ _ (X _ _ ho)) (wpAny_pure ?_)))))
      dsimp only
      rw [← Array.getElem?_toList, e3]
      exact wpAny_pure (wpAny_pure (wpAny_pure q))
    refine ⟨⟨oc, od, cd, sl, X _ _ ho, e1, e2, e4⟩, made, ?_, looks_mroIn X ?_, looks_mroIn X ?_, looks_specialIn X e7, looks_instIn X e8⟩
    · intro A Q E s k q
      unfold Bind.staticBase
      refine wpAny_bind (hm A _ E s k ?_)
      rw [hl, List.forIn_cons]
      exact wpAny_bind (wpAny_bind (wpAny_bind (made A _ E s k (wpAny_pure (wpAny_pure (wpAny_pure q))))))
    · unfold mroIn; rw [hc, Option.bind_some, if_neg (by rw [e4]; decide), e5]
    · unfold mroIn; rw [hc, Option.bind_some, if_neg (by rw [e4]; decide), e6]
  · cases e
theorem ln_kind : builtinKind "list.__new__" = some .builtinFn := by decide +kernel
theorem ln_split : splitId "list.__new__" = some ("list", "__new__") := by decide +kernel
section
variable {prog : Program} {w : World} {A : Around} {K : Frag} {C : Addr} {R : Result → Shared → Prop} {h : Heap} {g : Array GenState} {d : Drawn} {t : Nat} {os : OsState}
theorem new_pile (Y : MakesL (model prog w) h C)
    (hq : R (.ok (.ret (.ref (h.objs.size + 1)))) ⟨(h.push emptyDict).push (pileO C h.objs.size [] 0), g, d, t, os⟩) :
    codeAny (model prog w) A (.call (.builtin "list.__new__") ⟨[.ref C], []⟩) R ⟨h, g, d, t, os⟩ := by
  obtain ⟨⟨oc, od, cd, sl, hC, e1, e2, e4⟩, made, base, self, top, call, typ⟩ := Y
  refine codeAny_call_builtin_code (plainId_quiet PySem.F.plain_list_new _) ?_
  have hk := ln_kind
  have hs := ln_split
  have isT : ∀ {A' : Around} {Q : Bool → Shared → Prop} {E : Value → Shared → Prop}, Q true ⟨h, g, d, t, os⟩ → wpAny (model prog w) A' (isType (.ref C)) Q E ⟨h, g, d, t, os⟩ := fun q => ks_wpAny_isType_cls hC rfl q
  simp only [checkBuiltinCall, hk, hs]
  repeat (first | (with_reducible refine isT ?_) | simp only [bne_self_eq_false, Bool.false_eq_true, if_false] | lk)
  refine codeAny_builtin_stack PySem.F.entry_list_new rfl fun p st => ?_
  have hown := owner_list_new
  simp only [hown]
  have fin : ∀ A', wpAny (model prog w) A' (do
      let .ref d ← newDict | unsupported "internal:list.__new__"
      ret (← newObj (.ref C) (.seq #[]) (some d))) (fun fin s' => match fin with | .done f => R (.ok f) s' | .again c' => c'.quiet = true ∧ codeAny (model prog w) A c' R s') (fun e s' => R (.error e) s') ⟨h, g, d, t, os⟩ := by
    intro A'
    refine wpAny_bind (wpAny_newObj_type ?_ (by size_fits))
    dsimp only
    refine wpAny_bind ?_
    show wpAny _ _ (newObjAsIs _ _ _) _ _ _
    unfold newObjAsIs classHasDel
    refine wpAny_bind (wpAny_alloc (wpAny_bind (wpAny_bind (wpAny_load (Heap.get?_push_of_some _ (Heap.get?_push_of_some _ hC)) (wpAny_pure ?_)))))
    rw [e2]
    refine wpAny_pure (wpAny_pure ?_)
    show R _ _
    rw [Heap.size_push]
    exact hq
  repeat (first | exact fin _ | (with_reducible refine isT ?_) | simp only [bne_self_eq_false, Bool.false_eq_true, if_false] | lk)

theorem make_coreL {init : Value} (Y : MakesL (model prog w) h C) (hi : Looks (model prog w) h (typeLookup (.ref C) "__init__") (some init))
    (hb : ∀ self, Looks (model prog w) h (bindSpecial init self) (init, [self]))
    (hq : codeAny (model prog w) (A.under (.builtin "type.__call__" ⟨[.ref C], []⟩)) (.call init ⟨[.ref (h.objs.size + 1)], []⟩) (InitBack (h.objs.size + 1) R) ⟨(h.push emptyDict).push (pileO C h.objs.size [] 0), g, d, t, os⟩) :
    codeAny (model prog w) A (.call (.ref C) ⟨[], []⟩) R ⟨h, g, d, t, os⟩ := by
  have Y' := Y
  obtain ⟨⟨oc, od, cd, sl, hC, e1, e2, e4⟩, made, base, self, top, call, typ⟩ := Y
  refine codeAny_of_tree ?_
  show wpAny _ _ (callAny (.ref C) _) _ _ _
  refine nd_load hC ?_
  show wpAny _ _ (callAny.viaDunder (.ref C) _) _ _ _
  unfold callAny.viaDunder
  refine wpAny_bind (call.at ?_)
  dsimp only
  rw [tc_bind]
  refine wpAny_bind (wpAny_pure (wpAny_bind (wpAny_pure ?_)))
  refine wpAny_pure (a := Fin.again (.call (.builtin "type.__call__") ⟨[.ref C], []⟩)) (And.intro rfl ?_)
  refine codeAny_call_builtin_at (Code.quiet_builtin _ (by decide +kernel)) entry_typeCall (check_slot tc_kind tc_split typ (tc_args _ _ _) ?_)
  unfold Builtin.«type.__call__»
  have hm : Looks (model prog w) h (mroOf (.ref C)) cd.mro := ((Looks.ld (part := none) hC).andThen .now).andThen .now
  repeat (first | simp only [e4, Bool.false_eq_true, if_false] | with_reducible refine wpAny_call ?_ | lk)
  refine new_pile Y' ?_
  have k : ∀ b o, h.get? b = some o → ((h.push emptyDict).push (pileO C h.objs.size [] 0)).get? b = some o := fun b o e => Heap.get?_push_of_some _ (Heap.get?_push_of_some _ e)
  have hx : ((h.push emptyDict).push (pileO C h.objs.size [] 0)).get? (h.objs.size + 1) = some (pileO C h.objs.size [] 0) := by heap_get
  have t1 : Looks (model prog w) ((h.push emptyDict).push (pileO C h.objs.size [] 0)) (typeOf (.ref (h.objs.size + 1))) (.ref C) := (Looks.ld hx).andThen .now
  have s1 := self.keeps k
  have i1 := hi.keeps k
  have b1 := (hb (.ref (h.objs.size + 1))).keeps k
  unfold isInstance callSpecial? specialOf
  repeat (first | with_reducible refine wpAny_call ?_ | lk)
  refine codeAny_mono hq fun r s' z => ?_
  rcases r with e | (v | _ | _ | _) <;> first | exact z | exact z.elim | skip
  obtain ⟨rfl, z⟩ := z
  exact wpAny_pure (wpAny_pure z)
end
section
variable {prog : Program} {w : World} {A : Around} {E : Value → Shared → Prop} {K : Frag} {C x : Addr} {s : Shared} {h₀ : Heap} {L : Addr} {m : Str → Option Value} {news : List (Addr × Obj)} {Q : Value → Shared → Prop}
theorem call_pile {fI : Addr} (F : Fr h₀ L s.heap m) (X₀ : K.In h₀) (N : News h₀ L s.heap news) (hm : makesL K C = true)
    (hi : findIn K (.ref C) "__init__" = some (some (.ref fI))) (hf : isFn K (.ref fI) = true)
    (h : ∀ x dx h', Fr h₀ L h' m → News h₀ L h' ((x, pileO C dx [] 0) :: (dx, dictOf [] 0) :: news) → (∀ p ∈ news, p.1 < dx) → dx < x →
      codeAny (model prog w) (A.under (.builtin "type.__call__" ⟨[.ref C], []⟩)) (.call (.ref fI) ⟨[.ref x], []⟩) (InitBack x fun r s' => match r with | .ok (.ret v) => Q v s' | .ok _ => False | .error e => E e s') { s with heap := h' }) :
    wpAny (model prog w) A (call (.ref C) [] []) Q E s := by
  have X := X₀.keeps F.keep
  obtain ⟨hh, g, d, t, os⟩ := s
  refine wpAny_call (make_coreL (makesL_of X hm) (looks_findIn X hi) (fun self => bind_fn X self (beq_iff_eq.mp hf)) (h _ hh.objs.size _ ((F.push _).push _) ?_ (fun p hp => Heap.lt_size (N p hp).1) (Nat.lt_succ_self _)))
  have := (N.push F emptyDict).push (F.push _) (pileO C hh.objs.size [] 0)
  rwa [Heap.size_push] at this
end
end Mine
end
noncomputable section
open PySem PySem.W PySem.Calls PyProof.Rows Mine Builtin Builtin.ObjectAttr Builtin.Getset_descriptor
set_option Elab.async false
set_option maxRecDepth 100000
set_option maxHeartbeats 4000000
namespace Mine
theorem refuse_list (self : Value) : refuseLoop self "__setattr__" [.type "list", .type "object"] = pure () := by kernel_rfl
section
variable {prog : Program} {w : World} {A : Around} {E : Value → Shared → Prop} {K : Frag} {C x : Addr} {s : Shared} {h₀ : Heap} {L : Addr} {m : Str → Option Value} {news : List (Addr × Obj)} {R : Result → Shared → Prop}
theorem osa_pile {dx : Addr} {its : List Value} {n : Nat} {name : Str} {tk : Tok} {v : Value} {cd : ClassData} (F : Fr h₀ L s.heap m) (N : News h₀ L s.heap news) (X : K.In s.heap) (hm : (x, pileO C dx its n) ∈ news) (hdm : (dx, dictOf [] 0) ∈ news)
    (hc : clsIn K C = some cd) (hmr : cd.mro = [.ref C, .type "list", .type "object"]) (hh : cd.hasDict = true) (ht : findIn K (.ref C) name = some none)
    (h : ∀ h' tk', Fr h₀ L h' m → News h₀ L h' (setAt dx (dictOf [⟨PyData.keyHash w.params name, .str name tk', v⟩] 1) news) → R (.ok (.ret .none)) { s with heap := h', toks := s.toks + 1 }) :
    codeAny (model prog w) A (.call (.builtin "object.__setattr__") ⟨[.ref x, .str name tk, v], []⟩) R s := by
  have SF := PySem.F.store_object
  have I := pileInst N hm hdm
  have sub : Looks (model prog w) s.heap (isInstance (.ref x) (.type "object")) true := I.type.andThen (looks_mroIn X (by unfold mroIn; rw [hc, Option.bind_some, hmr]; rfl))
  refine codeAny_call_builtin SF.slot.plain SF.entry (@check_slot (model prog w) _ _ s "object.__setattr__" "object" "__setattr__" (.ref x) [.str name tk, v] [] _ SF.kind SF.split sub (SF.args (.ref x) (.str name tk) v) ?_)
  have hml : Looks (model prog w) s.heap (mroOf (.ref C)) cd.mro := (looks_clsIn X hc).andThen .now
  rw [osa_eq, refuse_eq]
  refine wpAny_bind (wpAny_bind (I.type.here (wpAny_bind (hml.here ?_))))
  rw [hmr, refuseLoop_ref, refuse_list]
  refine wpAny_pure (wpAny_bind (I.type.here (wpAny_bind ((looks_findIn X ht).here (wpAny_bind (wpAny_pure ?_))))))
  have D := (N _ hdm).1
  refine wpAny_bind (wpAny_pure (wpAny_bind (wpAny_bind (wpAny_loadPart I.at_ (wpAny_bind ((looks_clsIn X hc).here ?_))))))
  rw [hh]
  refine wpAny_pure (a := some dx) (wpAny_bind (wpAny_pure (wpAny_bind ?_)))
  unfold nsSet
  refine wpAny_bind (wpAny_bind (wpAny_askSetting (wpAny_pure (wpAny_bind (wpAny_mkText (wpAny_bind (wpAny_loadPart D ?_)))))))
  dsimp only
  have hp : Obj.putName name (PyData.keyHash w.params name) (.str name s.toks) v (dictOf [] 0) = dictOf [⟨PyData.keyHash w.params name, .str name s.toks, v⟩] 1 := by rw [putName_dict]; rfl
  rw [aRefKeyMayBeTheName_at]
  rw [if_neg (by simp)]
  refine wpAny_updatePart D ?_
  have hs : Heap.SameBut dx s.heap (s.heap.update dx (Obj.putName name (PyData.keyHash w.params name) (.str name s.toks) v)) := Heap.SameBut.update ..
  have D' : (s.heap.update dx (Obj.putName name (PyData.keyHash w.params name) (.str name s.toks) v)).get? dx = some (dictOf [⟨PyData.keyHash w.params name, .str name s.toks, v⟩] 1) := by
    rw [Heap.get?_update_self _ D (by dsimp only; rw [hp]; rfl)]
    dsimp only
    rw [hp]
  refine wpAny_bind (wpAny_lookBehind D' (pastItsLine_dict (by rw [List.size_toArray, sizeLine_eq]; simp)) ?_)
  exact wpAny_pure (h _ _ (F.change hs (N _ hdm).2.1 (N _ hdm).2.2) (news_setAt N hdm hs D'))
theorem set_pile {dx : Addr} {its : List Value} {n : Nat} {name : Str} {v : Value} {cd : ClassData} {Q : Unit → Shared → Prop} (F : Fr h₀ L s.heap m) (X₀ : K.In h₀) (N : News h₀ L s.heap news) (hm : (x, pileO C dx its n) ∈ news) (hdm : (dx, dictOf [] 0) ∈ news)
    (hs : findIn K (.ref C) "__setattr__" = some (some (.builtin "object.__setattr__"))) (hc : clsIn K C = some cd) (hmr : cd.mro = [.ref C, .type "list", .type "object"]) (hh : cd.hasDict = true) (ht : findIn K (.ref C) name = some none)
    (h : ∀ h' tk', Fr h₀ L h' m → News h₀ L h' (setAt dx (dictOf [⟨PyData.keyHash w.params name, .str name tk', v⟩] 1) news) → Q () { s with heap := h', toks := s.toks + 2 }) :
    wpAny (model prog w) A (setAttr (.ref x) name v) Q E s :=
  set_plain (X₀.keeps F.keep) (pileInst N hm hdm) hs (osa_pile (s := { s with toks := s.toks + 1 }) F N (X₀.keeps F.keep) hm hdm hc hmr hh ht fun h' tk' F' N' => h h' tk' F' N')
theorem bi_init {dx : Addr} {its : List Value} {n : Nat} {Q : Value → Shared → Prop} (F : Fr h₀ L s.heap m) (N : News h₀ L s.heap news) (hm : (x, pileO C dx its n) ∈ news) (hz : its.length ≤ sizeLine)
    (h : ∀ h' n', Fr h₀ L h' m → News h₀ L h' (setAt x (pileO C dx [] n') news) → Q .none { s with heap := h' }) :
    wpAny (model prog w) A (Builtin.«list.__init__» ⟨[.ref x], []⟩) (fun fin s' => ∃ v, fin = .done (.ret v) ∧ Q v s') E s := by
  have z := N _ hm
  unfold Builtin.«list.__init__»
  simp only [List.isEmpty_nil, Bool.not_true, Bool.false_eq_true, if_false, List.length_nil, Nat.not_lt_zero, gt_iff_lt]
  unfold Builtin.List.listItems
  refine wpAny_bind (wpAny_bind (wpAny_seqItems z.1 rfl (wpAny_pure ?_)))
  show wpAny _ _ (updateSeq x _ >>= _) _ _ _
  refine wpAny_bind (wpAny_updateSeq z.1 rfl (wpAny_bind (wpAny_letGo (wpAny_pure ⟨.none, rfl, h _ (if (#[] : Array Value).size == its.toArray.size then n else n + 1) (F.change (Heap.SameBut.update ..) z.2.1 z.2.2) (news_setAt N hm (Heap.SameBut.update ..) ?_)⟩))) (by simpa using hz) (by simp))
  rw [Heap.get?_update_self _ z.1 (by simp [Obj.mapSeq, Obj.isFreed])]
  show some (Obj.mapSeq _ _) = _
  unfold Obj.mapSeq
  rfl
theorem call_init {q dx : Addr} {its : List Value} {n : Nat} {Q : Value → Shared → Prop} (F : Fr h₀ L s.heap m) (N : News h₀ L s.heap news) (hq : (q, boundO "method-wrapper" "list.__init__" x) ∈ news) (hm : (x, pileO C dx its n) ∈ news) (hf : its.length ≤ sizeLine)
    (h : ∀ h' n', Fr h₀ L h' m → News h₀ L h' (setAt x (pileO C dx [] n') news) → Q .none { s with heap := h' }) : wpAny (model prog w) A (call (.ref q) []) Q E s :=
  call_bound N hq (by decide) (by decide) (fun hq => wpAny_of_eq (bound_init _) hq) (by decide +kernel) entry_init (bi_init F N hm hf h)

theorem news_dict2 {h : Heap} {dx : Addr} {o od ox : Obj} (N : News h₀ L h (setAt dx o ((x, ox) :: (dx, od) :: news))) (hl : ∀ p ∈ news, p.1 < dx) (hx : dx < x) : News h₀ L h ((x, ox) :: (dx, o) :: news) := by
  intro p hp
  rcases List.mem_cons.mp hp with e | hp
  · subst e; exact N _ (setAt_mem (List.Mem.head _) (Nat.ne_of_gt hx))
  · rcases List.mem_cons.mp hp with e | hp
    · subst e; exact N _ (setAt_self (o' := od) (List.Mem.tail _ (List.Mem.head _)))
    · exact N _ (setAt_mem (List.Mem.tail _ (List.Mem.tail _ hp)) (Nat.ne_of_lt (hl p hp)))
theorem news_make {h : Heap} {dx : Addr} {o od ox : Obj} {q1 q2 : Addr × Obj} (N : News h₀ L h (setAt x o (q1 :: q2 :: (x, ox) :: (dx, od) :: news))) (hl : ∀ p ∈ news, p.1 < dx) (hx : dx < x) : News h₀ L h ((x, o) :: (dx, od) :: news) := by
  intro p hp
  rcases List.mem_cons.mp hp with e | hp
  · subst e; exact N _ (setAt_self (o' := ox) (List.Mem.tail _ (List.Mem.tail _ (List.Mem.head _))))
  · rcases List.mem_cons.mp hp with e | hp
    · subst e; exact N _ (setAt_mem (List.Mem.tail _ (List.Mem.tail _ (List.Mem.tail _ (List.Mem.head _)))) (Nat.ne_of_lt hx))
    · exact N _ (setAt_mem (List.Mem.tail _ (List.Mem.tail _ (List.Mem.tail _ (List.Mem.tail _ hp)))) (Nat.ne_of_lt (Nat.lt_trans (hl p hp) hx)))
end
end Mine
end
noncomputable section
open PySem PySem.W PySem.Calls PyProof.Rows Mine
set_option Elab.async false
set_option maxRecDepth 100000
set_option maxHeartbeats 4000000
namespace Mine
/-- a sequence's items, whatever its class -/
def SeqAt (h : Heap) (l : Addr) (items : Array Value) : Prop := ∃ o n, h.get? l = some o ∧ o.data = .seq items n
theorem SeqAt.at {h h' : Heap} {l : Addr} {items : Array Value} (x : SeqAt h l items) (e : ∀ o, h.get? l = some o → h'.get? l = some o) : SeqAt h' l items :=
  let ⟨o, n, a, b⟩ := x; ⟨o, n, e o a, b⟩
section
variable {prog : Program} {w : World} {A : Around} {E : Value → Shared → Prop} {s : Shared} {K : Frag} {x C : Addr} {ox : Obj} {od : Option Obj}

theorem next_item {it l : Addr} {i : Nat} {items : Array Value} {v : Value} {Q : Option Value → Shared → Prop} (hit : s.heap.IsListIter it l i) (hl : SeqAt s.heap l items) (hx : items[i]? = some v)
    (hQ : ∀ h', h'.IsListIter it l (i + 1) → Heap.SameBut it s.heap h' → Q (some v) { s with heap := h' }) : wpAny (model prog w) A (pyNext (.ref it)) Q E s := by
  obtain ⟨o, ho, hc, hd⟩ := id hit
  obtain ⟨ol, nl, hol, hdl⟩ := hl
  unfold pyNext
  refine wpAny_bind (wpAny_attempt (wpAny_callSpecial?_slot (name := Str.ofString "__next__") hit.typeIs slot_listiter_next (wpAny_call_entry slot_listiter_next hit.typeIs entry_listiter_next ?_ (args_listiter_next _))))
  show wpAny _ _ (field (.ref it) 0 >>= _) _ _ s
  refine wpAny_bind (wpAny_field ho hd (x := .ref l) rfl ?_)
  rw [if_neg (show ¬ ((Value.ref l == Value.none) = true) from Bool.false_ne_true)]
  refine wpAny_bind (wpAny_field ho hd (x := .int i 0) rfl ?_)
  refine wpAny_bind (wpAny_seqItems hol hdl ?_)
  simp only [Int.toNat_natCast, hx]
  refine wpAny_bind (wpAny_setField ho hd (by simp) (wpAny_pure ⟨v, rfl, wpAny_pure (hQ _ ⟨_, Heap.get?_update_self _ ho (Obj.isFreed_of_fields (Obj.data_mapFields hd _)), (Obj.cls_mapFields ..).trans hc, ?_⟩ (Heap.SameBut.update ..))⟩))
  rw [Obj.data_mapFields hd]; simp [rawInt]

theorem next_end {it l : Addr} {i : Nat} {items : Array Value} {Q : Option Value → Shared → Prop} (hh : A.handled = none) (hit : s.heap.IsListIter it l i) (hl : SeqAt s.heap l items) (hx : items[i]? = none)
    (hQ : ∀ h', Heap.ExtBut it s.heap h' → Q none { s with heap := h' }) : wpAny (model prog w) A (pyNext (.ref it)) Q E s := by
  obtain ⟨o, ho, hc, hd⟩ := id hit
  obtain ⟨ol, nl, hol, hdl⟩ := hl
  unfold pyNext
  refine wpAny_bind (wpAny_attempt (wpAny_callSpecial?_slot (name := Str.ofString "__next__") hit.typeIs slot_listiter_next (wpAny_call_entry slot_listiter_next hit.typeIs entry_listiter_next ?_ (args_listiter_next _))))
  show wpAny _ _ (field (.ref it) 0 >>= _) _ _ s
  refine wpAny_bind (wpAny_field ho hd (x := .ref l) rfl ?_)
  rw [if_neg (show ¬ ((Value.ref l == Value.none) = true) from Bool.false_ne_true)]
  refine wpAny_bind (wpAny_field ho hd (x := .int i 0) rfl ?_)
  refine wpAny_bind (wpAny_seqItems hol hdl ?_)
  simp only [Int.toNat_natCast, hx]
  refine wpAny_bind (wpAny_rule (wpAny_bind (wpAny_setField ho hd (by simp) ?_)))
  show wpAny _ _ (newExc (.type "StopIteration") [] >>= _) _ _ _
  refine wpAny_bind ?_
  simp only [newExc, newTuple]
  refine wpAny_bind (wpAny_newObj_type ?_ (by size_fits))
  refine wpAny_bind (m := firstArgMember _ _) (wpAny_of_eq (a := Value.none) (by first | rfl | (simp only [firstArgMember]; rfl)) ?_)
  refine wpAny_newObj_type ?_ (by size_fits)
  simp only [raiseNew]
  refine wpAny_bind (wpAny_handled ?_)
  rw [show A.in1.handled = none from hh]
  refine wpAny_bind (wpAny_pure (wpAny_throw ?_))
  refine wpAny_bind (wpAny_isInstance (T := "StopIteration") (b := true) ⟨_, Heap.get?_push_size _ rfl, rfl⟩ isSubtype_stop ?_)
  exact wpAny_pure (hQ _ (((Heap.SameBut.update ..).extBut.push _).push _))

theorem walks_pile (hh : A.handled = none) (I ax : Addr) (hne : ax ≠ I) (items : Array Value) (Ts : Nat → Addr) (vals : Nat → Array Value)
    (hit : ∀ j, j < items.size → items[j]? = some (.ref (Ts j))) (hTI : ∀ j, j < items.size → Ts j ≠ I) :
    WalksU prog w A I (I :: ax :: (List.range items.size).map Ts) [I] items.size (fun j v => v = vals j)
      (fun j h => h.IsListIter I ax j ∧ SeqAt h ax items ∧ ∀ k, k < items.size → h.IsTuple (Ts k) (vals k))
      (fun j T h => (j < items.size ∧ T = Ts j) ∧ h.IsListIter I ax (j + 1) ∧ SeqAt h ax items ∧ ∀ k, k < items.size → h.IsTuple (Ts k) (vals k)) where
  sub := fun b hb => by simp at hb; simp [hb]
  frame := fun _ _ _ st hk => ⟨st.1.at fun o e => hk I (by simp) o e, st.2.1.at fun o e => hk ax (by simp) o e,
    fun k hk' => (st.2.2 k hk').at fun o e => hk (Ts k) (List.mem_cons_of_mem _ (List.mem_cons_of_mem _ (List.mem_map.mpr ⟨k, List.mem_range.mpr hk', rfl⟩))) o e⟩
  item := fun i s Q E hi st hQ => by
    refine next_item st.1 st.2.1 (v := .ref (Ts i)) (hit i hi) fun h' hit' hs' => ?_
    have tup : ∀ k, k < items.size → h'.IsTuple (Ts k) (vals k) := fun k hk' => (st.2.2 k hk').extBut hs'.extBut (hTI k hk')
    exact hQ (Ts i) (vals i) h' s.toks rfl (tup i hi) ⟨⟨hi, rfl⟩, hit', st.2.1.at fun o e => hs'.extBut _ _ hne e, tup⟩ fun b o hb e => hs'.extBut b o (fun h => hb (by simp [h])) e
  go := fun _ _ _ _ _ s Q _ hm hQ => wpAny_letOwnedTupleGo_listiter hm.2.1 (hQ s.heap hm.2 fun _ _ _ e => e)
  apart := fun j T _ hm hmem => by
    rcases List.mem_cons.mp hmem with e | e
    · exact hTI j hm.1.1 (hm.1.2 ▸ e)
    · cases e
  done := fun s Q E st hQ => next_end hh st.1 st.2.1 (by simp) fun h' he' => hQ h' s.toks fun b o hb e => he' b o (fun h => hb (by simp [h])) e
  self := fun _ _ _ _ st hQ => wpAny_pyIter_listiter st.1 hQ

theorem pile_iter {Q : Value → Shared → Prop} (X : K.In s.heap) (I : InstAt s.heap x ox C od) (hl : mroIn K C (.type "list") = some true) (hf : findIn K (.ref C) "__iter__" = some (some (.builtin "list.__iter__")))
    (hQ : Q (.ref s.heap.objs.size) { s with heap := s.heap.push { cls := .type "list_iterator", data := .fields #[.ref x, .int 0 0] } }) : wpAny (model prog w) A (pyIter (.ref x)) Q E s := by
  have sp : ∀ {A' : Around} {Q' : Option Value → Shared → Prop} {E' : Value → Shared → Prop}, Q' (some (.builtin "list.__iter__")) s → wpAny (model prog w) A' (specialOf (.ref x) "__iter__") Q' E' s :=
    fun q => wpAny_bind (I.type.here ((looks_findIn X hf).here q))
  have hb := slot_list_iter.bind (.ref x)
  unfold pyIter
  refine wpAny_bind (sp ?_)
  dsimp only
  have hc : wpAny (model prog w) A (call (.builtin "list.__iter__") [.ref x]) (fun v s' => v = .ref s.heap.objs.size ∧ s' = { s with heap := s.heap.push { cls := .type "list_iterator", data := .fields #[.ref x, .int 0 0] } }) E s := by
    refine call_sub (owner := "list") (n := "__iter__") (by decide +kernel) (by first | exact .inl (by decide +kernel) | exact .inr (by decide +kernel)) (by decide +kernel) entry_list_iter (looks_inst X I hl) (args_list_iter _) ?_
    show wpAny _ _ (do ret (← newFields "list_iterator" [.ref x, rawInt 0])) _ _ s
    exact wpAny_bind (wpAny_newObj_type (wpAny_pure ⟨_, rfl, rfl, rfl⟩))
  refine wpAny_bind (Q := Q) ?_
  simp only [callSpecialIfBoundUnlessNone?, bindSpecialIfBound?]
  refine wpAny_holding (wpAny_bind (wpAny_bind (sp ?_)))
  dsimp only
  simp only [hb]
  have fin : wpAny (model prog w) A (call (.builtin "list.__iter__") [.ref x] >>= fun v => pure (some v)) (fun a s' => wpAny (model prog w) A (match a with
    | some it => do
      match ← specialOf it "__next__" with
      | none => rule "iter.non-iterator"; raiseError "TypeError" s!"iter() returned non-iterator of type '{← typeNameOf it}'"
      | some _ => pure it
    | none => do
      match ← bindSpecialIfBound? (.ref x) "__getitem__" with
      | none => rule "iter.not-iterable"; raiseError "TypeError" s!"'{← typeNameOf (.ref x)}' object is not iterable"
      | some _ => rule "iter.getitem-fallback"; newFields "iterator" [.ref x, ← mkInt 0]) Q E s') E s := by
    refine wpAny_bind (wpAny_mono hc (fun v s' hv => wpAny_pure ?_) fun _ _ z => z)
    obtain ⟨rfl, rfl⟩ := hv
    exact wpAny_bind (wpAny_specialOf (T := "list_iterator") ⟨_, Heap.get?_push_size _ rfl, rfl⟩ slot_listiter_next.lookup (wpAny_pure hQ))
  refine wpAny_bind (wpAny_askSetting (wpAny_ite ?_))
  split
  · exact wpAny_bind (wpAny_pure (wpAny_pure fin))
  · exact wpAny_tryCatch (wpAny_bind (wpAny_pure (wpAny_pure fin)))
end
end Mine
end
noncomputable section
open PySem PySem.W PySem.Calls PyProof.Rows Mine
set_option Elab.async false
set_option maxRecDepth 100000
set_option maxHeartbeats 4000000
namespace Mine
section
variable {prog : Program} {w : World} {A : Around} {E : Value → Shared → Prop} {s : Shared}
theorem elt_join {env : Env} {pe pa pc p1 p2 pt : Pos} {m mg : Str → Option Value} {te tf tq : Tok} {f q : Str} {Q : Value → Shared → Prop} (hk : env.scope.kind = .function) (he : env.kindOf "EMPTYSTRING" = some .globalImplicit)
    (hf : env.kindOf "fws" = some .local) (hp : env.kindOf "part" = some .local) (hg : s.heap.Ns env.globals mg) (hgv : mg "EMPTYSTRING" = some (.str "" te)) (hn : s.heap.Ns env.locals m) (hfv : m "fws" = some (.str f tf)) (hpv : m "part" = some (.str q tq))
    (hz : f.length + q.length ≤ 100000) (hline : (pa.endLine == pc.line) = true)
    (h : ∀ h' tk t, (∀ b o, s.heap.get? b = some o → h'.get? b = some o) → Q (.str (Txt.join "" [f, q]) t) { s with heap := h', toks := tk }) :
    wpAny (model prog w) A (eval (.Call (.Attribute (.Name "EMPTYSTRING" pe) "join" pa) [.Tuple [.Name "fws" p1, .Name "part" p2] 0 pt] [] pc) env) Q E s := by
  refine Call_method1 rfl rfl hline ?_
  refine Name_function_global hk he (loadGlobal_global hg hgv ?_)
  refine ⟨"str", "str.join", PySem.F.plainAttrs_str, PySem.F.slot_str_join, PySem.F.type_str_join, typeIs_str _ _ _, (fun a e => nomatch e), ?_⟩
  refine callWith_builtin rfl (evalArgs_plain ?_)
  refine spliced_cons ?_
  refine Tuple_ ?_
  refine spliced_cons (wpAny_Name (wpAny_loadName_local hk hf hn hfv ?_) (by decide))
  refine spliced_cons (wpAny_Name (wpAny_loadName_local hk hp hn hpv ?_) (by decide))
  refine spliced_nil (wpAny_newObj_type (spliced_nil ?_) (by size_fits))
  have ht : IsTup (s.heap.push { cls := .type "tuple", data := .seq #[.str f tf, .str q tq] }) s.heap.objs.size #[.str f tf, .str q tq] := ⟨_, Heap.get?_push_size _ rfl, rfl, _, rfl⟩
  refine join_tupleW ht (.cons _ _ (.cons _ _ .nil)) (by decide) (by simp; omega) fun t' k => ?_
  exact h _ _ _ fun b o e => Heap.get?_push_of_some _ e
end
end Mine
end
noncomputable section
open PySem PySem.W PySem.Calls PyProof.Rows Mine
set_option Elab.async false
set_option maxRecDepth 100000
set_option maxHeartbeats 4000000
namespace Mine
section
variable {prog : Program} {w : World} {A : Around} {E : Value → Shared → Prop} {s : Shared}

def GenW (prog : Program) (w : World) (A : Around) (N a : Addr) (n : Nat) (F : Nat → Value → Prop) (s : Shared) : Prop :=
  ∃ fp wr g St, WalksS prog w A.in4 a fp wr (GenOnlyQ g) n F St ∧ St 0 s ∧ (∀ i s', St i s' → s'.TypeIs (.ref a) "generator") ∧ a ∈ fp ∧ (∀ b ∈ fp, b < s.heap.objs.size) ∧ ∀ b ∈ wr, N ≤ b

theorem passing_all (n : Nat) : passing (fun _ => true) n 0 = List.range n := by simp [passing]

theorem gcode {env : Env} {c P : Addr} {ps : Array Value} {pos : Pos} {qualname : Str} {scope : Scope} {Q : Value → Shared → Prop} (hc : env.code = .ref c) (hok : s.heap.IsCode c P ps) (htab : s.heap.TableAt c P ps)
    (hQ : ∀ code h' tk more, Heap.ExtBut P s.heap h' → s.heap.objs.size ≤ h'.objs.size → h'.IsCode c P (ps ++ more) → h'.TableAt c P (ps ++ more) → Q code { s with heap := h', toks := tk }) :
    wpAny (model prog w) A (genexprCode env pos qualname scope) Q E s := by
  cases hnf : codeAmong pos ps.toList with
  | some cv => exact wpAny_genexprCode_hit hc hok hnf (hQ cv s.heap s.toks #[] (fun _ _ _ e => e) (Nat.le_refl _) (by simpa using hok) (by simpa using htab))
  | none => exact wpAny_genexprCodeX hc hok htab hnf fun c' h' tk hx hge hlt hcode _ htab' _ => hQ _ h' tk _ hx (Nat.le_trans hge (Nat.le_of_lt hlt)) hcode htab'

theorem gen_pile {env : Env} {elt iter : PySem.Expr} {xa xb : Str} {pa pb pt pos : Pos} {kt : Nat} {scope : Scope} {Q : Value → Shared → Prop} {K : Frag} {C x c P bm : Addr} {ox ob : Obj} {od : Option Obj} {ps : Array Value} {mg : Str → Option Value} {its : List Value} {n : Nat}
    (Ts : Nat → Addr) (va vb : Nat → Value) (F : Nat → Value → Prop) (hh : A.handled = none) (hroom : A.depth < recursionLimit)
    (hco : scope.isCoroutine = false) (hclos : closureFor scope env = pure []) (hcell : ∀ y ∈ scope.names, y.2 ≠ .cell) (h0 : scope.names.lookup (".0" : Str) = some NameKind.local)
    (hxa : scope.names.lookup xa = some .local) (hxb : scope.names.lookup xb = some .local) (hab : xa ≠ xb) (hkind : scope.kind = .function)
    (hcode : env.code = .ref c) (hok : s.heap.IsCode c P ps) (htab : s.heap.TableAt c P ps) (M : BMod s.heap env.globals mg bm ob) (hlim : s.heap.NoLimit) (G : AllBare s.gens)
    (X : K.In s.heap) (I : InstAt s.heap x ox C od) (hdt : ox.data = .seq its.toArray n) (hl : mroIn K C (.type "list") = some true) (hf : findIn K (.ref C) "__iter__" = some (some (.builtin "list.__iter__")))
    (hiter : ∀ {Q' : Value → Shared → Prop} {E' : Value → Shared → Prop}, Q' (.ref x) s → wpAny (model prog w) A (eval iter env) Q' E' s) (hs : ∀ v, genFold iter env v = pure v)
    (hit : ∀ j, j < its.length → its[j]? = some (.ref (Ts j))) (htu : ∀ j, j < its.length → s.heap.IsTuple (Ts j) #[va j, vb j])
    (helt : ∀ (C' : Addr) (code : Value) (A' : Around) (E' : Value → Shared → Prop) (i : Nat) (s₂ : Shared) (m₂ : Str → Option Value) (Q' : Value → Shared → Prop), i < its.length → A'.handled = none → s₂.heap.Ns C' m₂ → m₂ xa = some (va i) → m₂ xb = some (vb i) →
      (∀ b o, b ≠ P → s.heap.get? b = some o → s₂.heap.get? b = some o) → (∀ y h' tk, F i y → (∀ b o, s₂.heap.get? b = some o → h'.get? b = some o) → Q' y { s₂ with heap := h', toks := tk }) →
      wpAny (model prog w) A' (eval elt (genEnv scope [] C' code builtinsNs env)) Q' E' s₂)
    (h : ∀ a (s₅ : Shared) more, Heap.ExtBut P s.heap s₅.heap → s₅.heap.IsCode c P (ps ++ more) → s₅.heap.TableAt c P (ps ++ more) → AllBare s₅.gens → s₅.os = s.os → s₅.drawn = s.drawn → GenW prog w A s.heap.objs.size a its.length F s₅ → Q (.ref a) s₅) :
    wpAny (model prog w) A (eval (.GeneratorExp elt [⟨.Tuple [.Name xa pa, .Name xb pb] kt pt, iter, [], 0⟩] scope pos) env) Q E s := by
  have up : ∀ b o, s.heap.get? b = some o → (s.heap.push { cls := .type "list_iterator", data := .fields #[.ref x, .int 0 0] }).get? b = some o := fun b o e => Heap.get?_push_of_some _ e
  have hxlt : x < s.heap.objs.size := Heap.lt_size I.at_
  refine wpAny_GeneratorExp_walksQTD hh hco hclos hcell h0 hxa hxb hab hkind hroom (hiter (pile_iter X I hl hf ⟨hlim.keeps up, ?_⟩)) hs
  have hok₂ := hok.keeps up
  have htab₂ := htab.keeps up
  refine gcode (s := { s with heap := s.heap.push { cls := .type "list_iterator", data := .fields #[.ref x, .int 0 0] } }) hcode hok₂ htab₂ fun code h₃ tk₃ more hx₃ hsz₃ hcode₃ htab₃ => ?_
  have M₃ : BMod h₃ env.globals mg bm ob := (M.keeps up).extBut htab₂ hx₃
  have hPlt : P < s.heap.objs.size := Heap.lt_size htab.2
  have hcP : cStatics ≠ P := fun e => by
    obtain ⟨_, hns, _⟩ := hlim
    obtain ⟨o, es, ep, ho, hd, _⟩ := hns
    rw [e, htab.2] at ho; cases ho; cases hd
  have hl₃ : h₃.NoLimit := (hlim.keeps up).extBut hx₃ hcP
  have hIsz : s.heap.objs.size < h₃.objs.size := Nat.lt_of_lt_of_le (by rw [Heap.size_push]; exact Nat.lt_succ_self _) hsz₃
  have k₃ : ∀ b o, b ≠ P → s.heap.get? b = some o → h₃.get? b = some o := fun b o hb e => hx₃ b o hb (up b o e)
  refine wpAny_builtinsFor M₃.ns M₃.name M₃.ne M₃.obj M₃.cls M₃.dict M₃.data ?_
  have hxP : x ≠ P := fun e => by
    have a := I.at_
    have b := I.cls
    rw [e, htab.2] at a; cases a; cases b
  have hTP : ∀ j, j < its.length → Ts j ≠ P := fun j hj e => by
    obtain ⟨o, a, b, _⟩ := htu j hj
    rw [e, htab.2] at a; cases a; cases b
  have hTlt : ∀ j, j < its.length → Ts j < s.heap.objs.size := fun j hj => by obtain ⟨o, a, _⟩ := htu j hj; exact Heap.lt_size a
  have hsize : its.toArray.size = its.length := List.size_toArray
  have W : ∀ A' : Around, A'.handled = none → _ := fun A' hA => (walks_pile (prog := prog) (w := w) (A := A') hA s.heap.objs.size x (Nat.ne_of_lt hxlt) its.toArray Ts (fun j => #[va j, vb j]) (fun j hj => by rw [hsize] at hj; simpa using hit j hj) (fun j hj => Nat.ne_of_lt (hTlt j (by rwa [hsize] at hj)))).bound
  refine ⟨s.heap.objs.size, _, [s.heap.objs.size], its.toArray.size, _, _, _, (fun _ => true), F, rfl, W, ?_, ?_, ?_, hl₃, ?_, ?_, ?_⟩
  · exact fun i vals hv => ⟨va i, vb i, hv.2⟩
  · refine ⟨?_, ?_, ?_⟩
    · exact ⟨_, hx₃ _ _ (Nat.ne_of_gt hPlt) (Heap.get?_push_size _ rfl), rfl, rfl⟩
    · exact ⟨ox, n, k₃ _ _ hxP I.at_, hdt⟩
    · intro k hk
      rw [hsize] at hk
      obtain ⟨o, a, r⟩ := htu k hk
      exact ⟨o, k₃ _ _ (hTP k hk) a, r⟩
  · intro b hb
    rcases List.mem_cons.mp hb with rfl | hb
    · exact hIsz
    · rcases List.mem_cons.mp hb with rfl | hb
      · exact Nat.lt_trans hxlt hIsz
      · obtain ⟨j, hj, rfl⟩ := List.mem_map.mp hb
        exact Nat.lt_trans (hTlt j (by have := List.mem_range.mp hj; rwa [hsize] at this)) hIsz
  · intro hm
    have e : cStatics = s.heap.objs.size := by simpa using hm
    have : cStatics < s.heap.objs.size := let ⟨_, hn, _⟩ := hlim; hn.lt
    exact Nat.lt_irrefl _ (e ▸ this)
  · intro href hhref
    have kr : ∀ {s₂ : Shared}, (∀ b ∈ List.range h₃.objs.size, b ∉ [s.heap.objs.size] → ∀ o, href.get? b = some o → s₂.heap.get? b = some o) → ∀ b o, b ≠ P → s.heap.get? b = some o → s₂.heap.get? b = some o := fun hk b o hb e =>
      hk b (List.mem_range.mpr (Nat.lt_trans (Heap.lt_size e) hIsz)) (fun hm => Nat.lt_irrefl _ ((List.mem_singleton.mp hm) ▸ Heap.lt_size e)) o (hhref b o (k₃ b o hb e))
    refine ⟨fun A' E' i va' vb' s₂ m₂ hA _ _ hP hn ha hb hk => ?_, fun A' E' i va' vb' s₂ m₂ hA _ _ hP _ hn ha hb hk => ?_⟩
    · exact wpAny_pure ⟨rfl, s₂.heap, s₂.toks, rfl, fun _ _ e => e⟩
    · have e := hP.2
      injection e with e
      injection e with e1 e2
      injection e2 with e2 _
      subst e1 e2
      exact helt _ code A' E' i s₂ m₂ _ (by have := hP.1; rwa [hsize] at this) hA hn ha hb (kr hk) fun y h' tk hF hk' => ⟨hF, h', tk, rfl, hk'⟩
  · intro a h₅ tk gs hgb hag hsz₅ hk₅ W₅ hat
    have W₆ : WalksS prog w A.in4 a (a :: h₃.objs.size :: List.range h₃.objs.size) (h₃.objs.size :: [s.heap.objs.size]) (GenOnlyQ s.gens.size) its.length F (GenAt prog w A.in4 a s.gens.size h₃.objs.size (List.range h₃.objs.size) [s.heap.objs.size] (fun _ => true) its.toArray.size F) := by
      have e : (passing (fun _ => true) its.toArray.size 0).length = its.length := by rw [passing_all, List.length_range, hsize]
      rw [e] at W₅
      refine ⟨W₅.sub, W₅.grefl, W₅.gtrans, W₅.frame, fun i s' Q' E' hi st hQ => W₅.item i s' Q' E' hi st fun v s'' hP => hQ v s'' ?_, W₅.done, W₅.self⟩
      obtain ⟨k, hk, hF⟩ := hP
      rw [passing_all, List.getElem?_range (by rw [hsize]; exact hi)] at hk
      cases hk
      exact hF
    refine h a _ more (fun b o hb e => hk₅ b o (k₃ b o hb e)) (hcode₃.keeps hk₅) (htab₃.keeps hk₅) (G.push hgb) rfl rfl ⟨_, _, _, _, W₆, hat, (fun i s' st => st.1.typeIs), List.mem_cons_self, ?_, ?_⟩
    · intro b hb
      show b < h₅.objs.size
      rw [hsz₅]
      rcases List.mem_cons.mp hb with rfl | hb
      · exact Nat.lt_succ_self _
      · rcases List.mem_cons.mp hb with rfl | hb
        · exact Nat.lt_succ_of_lt hag
        · exact Nat.lt_succ_of_lt (Nat.lt_trans (List.mem_range.mp hb) hag)
    · intro b hb
      rcases List.mem_cons.mp hb with rfl | hb
      · exact Nat.le_of_lt hIsz
      · rw [List.mem_singleton.mp hb]; exact Nat.le_refl _
end
end Mine
end
noncomputable section
open PySem PySem.W PySem.Calls PyProof.Rows Mine
set_option Elab.async false
set_option maxRecDepth 100000
set_option maxHeartbeats 4000000
namespace Mine
section
variable {prog : Program} {w : World} {A : Around} {E : Value → Shared → Prop} {s : Shared}
theorem join_genW {sep : Str} {t : Tok} {a N : Addr} {n : Nat} {F : Nat → Value → Prop} {Q : Value → Shared → Prop} (X : GenW prog w A N a n F s) (G : AllBare s.gens) (tx : Nat → Str) (htx : ∀ j v, F j v → ∃ u, v = .str (tx j) u)
    (hok : JoinOk sep ((List.range n).map tx) = true) (hsz : n ≤ sizeLine)
    (hQ : ∀ s' t', (∀ b o, b < N → s.heap.get? b = some o → s'.heap.get? b = some o) → AllBare s'.gens → s'.os = s.os → s'.drawn = s.drawn → Q (.str (Txt.join sep ((List.range n).map tx)) t') s') :
    wpAny (model prog w) A (call (.builtin "str.join") [.str sep t, .ref a]) Q E s := by
  obtain ⟨fp, wr, g, St, W, hst, hT, ha, hfp, hwr⟩ := X
  have W := W.in4_2
  refine SC.joinGen W hT hst hfp ha (fun j v hv => let ⟨u, e⟩ := htx j v hv; ⟨_, u, e⟩) (fun s' lt hm hacc => ?_) hsz
  have hl : lt.map (·.1) = (List.range n).map tx := by
    apply List.ext_getElem?
    intro j
    have hsz : lt.length = n := by simpa [strValues] using hacc.1
    by_cases hj : j < n
    · have hj' : j < lt.length := hsz ▸ hj
      obtain ⟨u, hv⟩ := htx j _ (hacc.2 j (.str lt[j].1 lt[j].2) (by simp [strValues, List.getElem?_eq_getElem hj']))
      injection hv with h1 _
      simp [List.getElem?_eq_getElem hj', hj, h1]
    · rw [List.getElem?_eq_none (by simpa [hsz] using Nat.le_of_not_lt hj), List.getElem?_eq_none (by simpa using Nat.le_of_not_lt hj)]
  rw [hl]
  have k1 : ∀ b o, b < N → s.heap.get? b = some o → s'.heap.get? b = some o := fun b o hb e => hm.heap b o (fun hmem => Nat.lt_irrefl _ (Nat.lt_of_lt_of_le hb (hwr b hmem))) e
  have g1 := G.movedS hm
  exact ⟨hok, fun t' k => hQ { s' with toks := k } t' k1 g1 hm.os hm.drawn⟩
theorem shared_eta (s s' : Shared) (h1 : s'.os = s.os) (h2 : s'.drawn = s.drawn) : s' = { s with heap := s'.heap, gens := s'.gens, toks := s'.toks } := by
  obtain ⟨a, b, c, d, e⟩ := s'
  cases h1; cases h2; rfl
end
structure Pc where
  a : Addr
  f : Str
  tf : Tok
  p : Str
  tp : Tok
  deriving Inhabited
abbrev Pc.obj (c : Pc) : Obj := tupO [.str c.f c.tf, .str c.p c.tp]
def pcText (c : Pc) : Str := Txt.join "" [c.f, c.p]
def pileText (pcs : List Pc) : Str := Txt.join "" (pcs.map pcText)
theorem le_sum_of_mem {l : List Nat} {x : Nat} (h : x ∈ l) : x ≤ l.sum := by
  induction l with
  | nil => cases h
  | cons y l ih =>
    rw [List.sum_cons]
    rcases List.mem_cons.mp h with e | h
    · omega
    · have := ih h; omega
theorem range_map_getD {α β : Type} [Inhabited α] (l : List α) (f : α → β) : (List.range l.length).map (fun j => f (l.getD j default)) = l.map f := by
  apply List.ext_getElem?
  intro j
  by_cases h : j < l.length
  · simp [List.getD_eq_getElem?_getD, h]
  · rw [List.getElem?_eq_none (by simpa using Nat.le_of_not_lt h), List.getElem?_eq_none (by simpa using Nat.le_of_not_lt h)]
theorem join0_length (ts : List Str) : (Txt.join "" ts).length = (ts.map (·.length)).sum := by
  show (Builtin.Str.glued "" ts).length = _
  rw [size_glued]
  show _ + (ts.length - 1) * 0 = _
  simp
theorem pcText_length (c : Pc) : (pcText c).length = c.f.length + c.p.length := by
  unfold pcText
  rw [join0_length]
  simp
theorem pcs_weight (pcs : List Pc) : ((pcs.map pcText).map (·.length)).sum = (pcs.map fun c => c.f.length + c.p.length).sum := by
  rw [List.map_map]
  congr 1
  apply List.map_congr_left
  intro c _
  exact pcText_length c
end Mine
end
noncomputable section
open PySem PySem.W PySem.Calls PyProof.Rows Mine Builtin Builtin.Str
set_option Elab.async false
set_option maxRecDepth 100000
set_option maxHeartbeats 4000000
namespace Mine
structure Pr where
  o : Str
  t : Tok
  n : Str
  u : Tok
  deriving Inhabited
def Pr.ok (q : Pr) : Prop := 1 ≤ q.o.length ∧ q.n.length ≤ q.o.length ∧ q.o.length ≤ 100
def prVals : List Pr → List Value
  | [] => []
  | q :: r => .str q.o q.t :: .str q.n q.u :: prVals r
theorem prVals_len (l : List Pr) : (prVals l).length = 2 * l.length := by
  induction l with
  | nil => rfl
  | cons q r ih => simp only [prVals, List.length_cons, ih]; omega
def repl (x o n : Str) : Str := Txt.join n (Txt.split x o)
def replAll (x : Str) : List Pr → Str
  | [] => x
  | q :: r => replAll (repl x q.o q.n) r
theorem split_glued (x o : Str) : glued o (Txt.split x o) = x := by
  unfold Txt.split
  split
  · exact (StrLaws.glued_eq_join o [x]).trans rfl
  · split
    · exact (StrLaws.glued_eq_join o [x]).trans rfl
    · exact StrLaws.glued_between_self x o (x.length + 1)
theorem split_len (x o : Str) : ((Txt.split x o).map (·.length)).sum + ((Txt.split x o).length - 1) * o.length = x.length := by
  have e := size_glued o (Txt.split x o)
  rw [split_glued] at e
  exact e.symm
theorem split_count (x o : Str) (h : 1 ≤ o.length) : (Txt.split x o).length ≤ x.length + 1 := by
  have e := split_len x o
  have : (Txt.split x o).length - 1 ≤ ((Txt.split x o).length - 1) * o.length := Nat.le_mul_of_pos_right _ h
  omega
theorem repl_len (x o n : Str) (h : n.length ≤ o.length) : (repl x o n).length ≤ x.length := by
  have e := split_len x o
  have e2 := size_glued n (Txt.split x o)
  have e3 : (repl x o n).length = (glued n (Txt.split x o)).length := rfl
  have : ((Txt.split x o).length - 1) * n.length ≤ ((Txt.split x o).length - 1) * o.length := Nat.mul_le_mul_left _ h
  omega
theorem replAll_len (prs : List Pr) : ∀ x : Str, (∀ q ∈ prs, q.ok) → (replAll x prs).length ≤ x.length := by
  induction prs with
  | nil => intro x _; exact Nat.le_refl _
  | cons q r ih =>
    intro x h
    refine Nat.le_trans (ih _ fun q' hq => h q' (List.mem_cons_of_mem _ hq)) (repl_len _ _ _ (h q List.mem_cons_self).2.1)
theorem split_weight (x o n : Str) (h : 1 ≤ o.length) (hx : x.length ≤ 1000) (hn : n.length ≤ 100) : ((Txt.split x o).map (·.length)).sum + (Txt.split x o).length * n.length ≤ 16777216 := by
  have e := split_len x o
  have c := split_count x o h
  have : (Txt.split x o).length * n.length ≤ 1001 * 100 := Nat.mul_le_mul (by omega) hn
  omega
section
variable {prog : Program} {w : World} {A : Around} {E : Value → Shared → Prop} {s : Shared} {h₀ : Heap} {L : Addr} {m : Str → Option Value} {news : List (Addr × Obj)} {Q : Value → Shared → Prop}
theorem split_K {x y : Str} {t u : Tok} (hF : Fr h₀ L s.heap m) (hN : News h₀ L s.heap news) (hy : 1 ≤ y.length) (hx : x.length ≤ 1000)
    (h : ∀ D l h' k, l.map (·.1) = Txt.split x y → Fr h₀ L h' m → News h₀ L h' ((D, lstO (strValues l) 0) :: news) → (∀ p ∈ news, p.1 < D) → Q (.ref D) { s with heap := h', toks := k }) :
    wpAny (model prog w) A (call (.builtin "str.split") [.str x t, .str y u]) Q E s :=
  splitN1 hF hN (by simp; omega) (fun l h' k e F N => h _ l h' k e F N fun p hp => Heap.lt_size (hN p hp).1) (by rw [sizeLine_eq]; omega)
theorem join_K {D : Addr} {x y n : Str} {t : Tok} {l : List (Str × Tok)} (hN : News h₀ L s.heap news) (hm : (D, lstO (strValues l) 0) ∈ news) (e : l.map (·.1) = Txt.split x y) (hy : 1 ≤ y.length) (hx : x.length ≤ 1000) (hn : n.length ≤ 100)
    (h : ∀ t' k, Q (.str (repl x y n) t') { s with toks := k }) : wpAny (model prog w) A (call (.builtin "str.join") [.str n t, .ref D]) Q E s := by
  refine join_list (News.isList hN hm) (ys := Txt.split x y) ?_ (split_weight x y n hy hx hn) h
  rw [← e]
  exact strsAre_of_values l
end
section
variable {prog : Program} {w : World} {A : Around} {E : Value → Shared → Prop} {s : Shared} {h₀ : Heap} {L : Addr} {m : Str → Option Value} {news : List (Addr × Obj)} {Q : Value → Shared → Prop}
theorem tup_item0 {value slice : PySem.Expr} {tp : Addr} {v0 v1 : Value} {r : List Value} {u : Tok} (N : News h₀ L s.heap news) (hm : (tp, tupO (v0 :: v1 :: r)) ∈ news) (h : Q v0 s)
    (hs : subscripted slice false (.ref tp) (.int 0 u) = operate [.ref tp, .int 0 u] (getItem (.ref tp) (.int 0 u))) : wpAny (model prog w) A (subscriptTail value slice (.ref tp) (.int 0 u)) Q E s :=
  item_tupleT (l := v0 :: v1 :: r) (j := 0) (News.isTup N hm) (by decide) (by decide) (by simp [seqIndex?]; omega) rfl h hs
theorem tup_item1 {value slice : PySem.Expr} {tp : Addr} {v0 v1 : Value} {r : List Value} {u : Tok} (N : News h₀ L s.heap news) (hm : (tp, tupO (v0 :: v1 :: r)) ∈ news) (h : Q v1 s)
    (hs : subscripted slice false (.ref tp) (.int 1 u) = operate [.ref tp, .int 1 u] (getItem (.ref tp) (.int 1 u))) : wpAny (model prog w) A (subscriptTail value slice (.ref tp) (.int 1 u)) Q E s :=
  item_tupleT (l := v0 :: v1 :: r) (j := 1) (News.isTup N hm) (by decide) (by decide) (by simp [seqIndex?]; omega) rfl h hs
theorem tup_drop2 {value slice : PySem.Expr} {tp : Addr} {v0 v1 : Value} {r : List Value} {u : Tok} (F : Fr h₀ L s.heap m) (N : News h₀ L s.heap news) (hm : (tp, tupO (v0 :: v1 :: r)) ∈ news) (hz : (v0 :: v1 :: r).length ≤ 1000)
    (hs : subscripted slice false (.ref tp) (.ref s.heap.objs.size) = operate [.ref s.heap.objs.size, .ref tp] (getItem (.ref tp) (.ref s.heap.objs.size))) (hg : ∀ x, letTemporaryGo value (.ref tp) x = pure ())
    (h : ∀ D h', Fr h₀ L h' m → News h₀ L h' ((D, tupO r) :: news) → (∀ p ∈ news, p.1 < D) → Q (.ref D) { s with heap := h' }) :
    wpAny (model prog w) A (subscriptTail value slice (.ref tp) (.ref s.heap.objs.size)) Q E { s with heap := s.heap.push { cls := .type "slice", data := .fields #[.int 2 u, .none, .none] } } :=
  slice_tuple_from (a := 2) F N (News.isTup N hm) (by decide) (by simp) (fun h' F' N' => h _ h' F' N' fun p hp => Nat.lt_succ_of_lt (Heap.lt_size (N p hp).1)) hs hg (by rw [sizeLine_eq, List.size_toArray]; omega)
end
theorem lookup2 (a b : Str) (va vb : Value) : (fun y : Str => ([(a, va), (b, vb)] : List (Str × Value)).lookup y) = fun y => if y = a then some va else if y = b then some vb else none := by
  funext y
  simp only [List.lookup]
  by_cases h : y = a
  · simp [h]
  · have : (y == a) = false := by simpa using h
    rw [this, if_neg h]
    by_cases h2 : y = b
    · simp [h2]
    · have : (y == b) = false := by simpa using h2
      rw [this, if_neg h2]
end Mine
end
noncomputable section
open PySem PySem.W PySem.Calls PyProof.Rows Mine Builtin Builtin.Str
set_option Elab.async false
set_option maxRecDepth 100000
set_option maxHeartbeats 4000000
namespace Mine
abbrev isz (hs : Int) (ta tb : Tok) : List DictEntry := [⟨hs, .str (Str.ofString "_initial_size") ta, .int 0 tb⟩]
theorem bind_rest {name qual : Str} {a1 b : Arg} {body : List Stmt} {scope : Scope} {kV doc pm cdv ct : Value} {an : Option Addr} {x : Value} {rest : List Value} :
    bindArgs (fnOf name qual { posonlyargs := [], args := [a1], vararg := some b, kwonlyargs := [], kw_defaults := [], kwarg := none, defaults := [] } body scope .none kV doc pm an cdv ct) ⟨x :: rest, []⟩ =
      (newTuple rest >>= fun t => pure [(a1.arg, x), (b.arg, t)]) := by
  unfold bindArgs
  simp [fnOf, seqItems?]
  rfl
section
variable {prog : Program} {w : World} {A₀ A : Around} {s : Shared} {K : Frag} {L : Addr} {h₀ base : Heap} {m mg mb : Str → Option Value} {news : List (Addr × Obj)} {p : Program} {loose : List Str} {mean : ExcName → Option Value}
theorem code_rest {env : Env} {outer : List Env} {R : Result → Shared → Prop} {name qual : Str} {a1 b : Arg} {body : List Stmt} {scope : Scope} {kV doc pm cdv ct oc : Value} {an od : Option Addr} {osl : Array (Option Value)} {f : Addr} {x : Value} {vs : List Value}
    (B : Below A₀ base outer h₀) (F : Fr h₀ L s.heap m) (X₀ : K.In h₀) (N : News h₀ L s.heap news) (T : Top p loose mean mg mb h₀) (hA : A.frames = some (env :: outer)) (hf : env.frame = some L) (hke : env.scope.kind = .function)
    (ho : K.lookup f = some ⟨oc, od, .func (fnOf name qual { posonlyargs := [], args := [a1], vararg := some b, kwonlyargs := [], kw_defaults := [], kwarg := none, defaults := [] } body scope .none kV doc pm an cdv ct), osl⟩) (hcd : codeIn K cdv qual = true) (hroom : A.depth < recursionLimit)
    (hz : vs.length ≤ sizeLine) (hloc : ∀ D : Addr, ∀ y ∈ [(a1.arg, x), (b.arg, Value.ref D)], scope.names.lookup y.1 = some .local)
    (h : ∀ D g L' h₁, (∀ p ∈ news, p.1 < D) → Fr h₀ L g m → Fr g L' h₁ (fun y => ([(a1.arg, x), (b.arg, Value.ref D)] : List (Str × Value)).reverse.lookup y) → News g L' h₁ ((D, tupO vs) :: news) → Below A base (env :: outer) g → K.In g → Top p loose mean mg mb g →
      wpAny (model prog w) (A.deeper (envOf qual scope L' f cdv)) (execs body (envOf qual scope L' f cdv))
        (fun fl s' => LeaveK h₀ L m g R (match fl with | .ret v => v | _ => .none) s')
        (fun e s' => wpAny (model prog w) (A.deeper (envOf qual scope L' f cdv)) (leaving (envOf qual scope L' f cdv) e) (fun _ s'' => R (.error e) s'') (fun e' s'' => R (.error e') s'') s')
        { s with heap := h₁, toks := s.toks + 2 })
    (hco : scope.isCoroutine = false) (hgen : scope.isGenerator = false) (hk : scope.kind = .function)
    (hcell : ∀ x ∈ scope.names, x.2 ≠ .cell) : codeAny (model prog w) A (.call (.ref f) ⟨x :: vs, []⟩) R s := by
  refine codeAny_call_function (fd := fnOf name qual _ body scope .none kV doc pm an cdv ct) (body := body) hroom ((X₀.keeps F.keep) _ _ ho) rfl hco hgen rfl (codeRec_of (X₀.keeps F.keep) hcd) ?_
  rw [bind_rest]
  refine wpAny_bind (newTuple_N F N (fun h' F' N' => wpAny_pure ?_) hz)
  exact kp_frame (cl := []) (s := { s with heap := h' }) B F' N' T.nolimit hA hf hke (hloc s.heap.objs.size) (fun g L' h₁ FG FL NG BG st => h s.heap.objs.size g L' h₁ (fun p hp => Heap.lt_size (N p hp).1) FG FL NG BG (X₀.keeps st) (T.keeps st)) hcell hk
end
end Mine
end
noncomputable section
open PySem PySem.W PySem.Calls PyProof.Rows Mine
set_option Elab.async false
set_option maxRecDepth 100000
set_option maxHeartbeats 4000000
namespace Mine
/-- a frame's map with some of its names written out -/
def lay : List (Str × Value) → (Str → Option Value) → Str → Option Value
  | [], m => m
  | (a, v) :: r, m => fun y => if y = a then some v else lay r m y
def LayOk : List (Str × Value) → (Str → Option Value) → Prop
  | [], _ => True
  | (a, v) :: r, m => m a = some v ∧ LayOk r m
theorem lay_eq (M : Str → Option Value) : ∀ l, LayOk l M → ∀ y, lay l M y = M y
  | [], _, _ => rfl
  | (a, v) :: r, h, y => by
    show (if y = a then some v else lay r M y) = M y
    by_cases e : y = a
    · rw [if_pos e, e, h.1]
    · rw [if_neg e]; exact lay_eq M r h.2 y
theorem Fr.lay {h₀ h : Heap} {L : Addr} {M : Str → Option Value} {l : List (Str × Value)} (F : Fr h₀ L h M) (hl : LayOk l M) : Fr h₀ L h (Mine.lay l M) := by
  rw [show Mine.lay l M = M from funext (lay_eq M l hl)]; exact F
inductive Reach (prs : List Pr) (x : Str) : Str → Prop
  | start : Reach prs x x
  | step {y : Str} : Reach prs x y → Reach prs x (replAll y prs)
theorem reach_len {prs : List Pr} {x y : Str} (ok : ∀ q ∈ prs, q.ok) (h : Reach prs x y) : y.length ≤ x.length := by
  induction h with
  | start => exact Nat.le_refl _
  | step _ ih => exact Nat.le_trans (replAll_len prs _ ok) ih
abbrev Inv := Nat → (Str → Option Value) → List (Addr × Obj) → Array GenState → Prop
/-- the end of a turn: the iterator stands in the ledger at its next place, the word holds of what is kept -/
def LedStep (h₀ : Heap) (L : Addr) (s : Shared) (I : Addr) (It : Nat → Obj → Prop) (J : Inv) (Q : Flow → Shared → Prop) (i : Nat) (f : Flow) (s₃ : Shared) : Prop :=
  match f with
  | .next | .cont => ∃ h' tk gs m₂ X news₂ o, s₃ = { s with heap := h', gens := gs, toks := tk } ∧ Fr h₀ L h' m₂ ∧ News h₀ L h' X ∧ (I, o) ∈ X ∧ It (i + 1) o ∧ (∀ q ∈ news₂, q ∈ X ∧ q.1 ≠ I) ∧ J (i + 1) m₂ news₂ gs
  | .brk => Q .next s₃
  | .ret v => Q (.ret v) s₃
section
variable {prog : Program} {w : World} {A : Around} {E : Value → Shared → Prop} {s : Shared} {env : Env} {h₀ : Heap} {L : Addr} {Q : Flow → Shared → Prop}
theorem Fr.upto {h h' : Heap} {m : Str → Option Value} {I : Addr} (F : Fr h₀ L h m) (hI : h₀.get? I = none) (hL : L ≠ I) (hx : Heap.ExtBut I h h') : Fr h₀ L h' m :=
  ⟨F.ns.extBut hx hL, fun b o e => hx b o (fun q => by rw [q, hI] at e; cases e) (F.keep b o e), F.above⟩
theorem News.upto {h h' : Heap} {news : List (Addr × Obj)} {I : Addr} (N : News h₀ L h news) (hne : ∀ q ∈ news, q.1 ≠ I) (hx : Heap.ExtBut I h h') : News h₀ L h' news :=
  fun q hq => ⟨hx _ _ (hne q hq) (N q hq).1, (N q hq).2⟩

structure LedIter (prog : Program) (w : World) (A : Around) (I : Addr) (n : Nat) (It : Nat → Obj → Prop) (P : Nat → Value → Prop) (aux : Heap → Prop) : Prop where
  item : ∀ i o (s : Shared) (Q : Option Value → Shared → Prop) (E : Value → Shared → Prop), i < n → s.heap.get? I = some o → It i o → aux s.heap →
    (∀ v h' tk o', P i v → h'.get? I = some o' → It (i + 1) o' → Heap.ExtBut I s.heap h' → Q (some v) { s with heap := h', toks := tk }) → wpAny (model prog w) A (pyNext (.ref I)) Q E s
  done : ∀ o (s : Shared) (Q : Option Value → Shared → Prop) (E : Value → Shared → Prop), s.heap.get? I = some o → It n o → aux s.heap →
    (∀ h' tk, Heap.ExtBut I s.heap h' → Q none { s with heap := h', toks := tk }) → wpAny (model prog w) A (pyNext (.ref I)) Q E s
  plain : ∀ i o, It i o → ∃ ty vs, o.cls = .type ty ∧ o.data = .fields vs ∧ (["enumerate", "zip", "dict_itemiterator", "dict_reverseitemiterator", "odict_iterator", "itertools.zip_longest", "itertools.pairwise"].contains ty) = false

theorem go_plain {target : PySem.Expr} {I : Addr} {o : Obj} {v : Value} {Q : Unit → Shared → Prop} (hg : s.heap.get? I = some o) (hp : ∃ ty vs, o.cls = .type ty ∧ o.data = .fields vs ∧ (["enumerate", "zip", "dict_itemiterator", "dict_reverseitemiterator", "odict_iterator", "itertools.zip_longest", "itertools.pairwise"].contains ty) = false)
    (hQ : Q () s) : wpAny (model prog w) A (letOwnedTupleGo target (.ref I) v) Q E s := by
  obtain ⟨ty, vs, hc, hd, hn⟩ := hp
  have go : wpAny (model prog w) A (letOwnedTupleGo (.Tuple [] 0 default) (.ref I) v) Q E s := by
    cases v with
    | ref a =>
      show wpAny _ _ (load I >>= _) _ _ _
      refine wpAny_bind (wpAny_load hg ?_)
      rw [hc, hd]
      dsimp only
      rw [hn, Bool.false_and, if_neg Bool.false_ne_true]
      exact wpAny_pure hQ
    | _ => exact wpAny_pure hQ
  cases target with
  | Tuple => exact go
  | List => exact go
  | _ => exact wpAny_pure hQ

def LedAt (prog : Program) (w : World) (A : Around) (h₀ : Heap) (L : Addr) (env : Env) (target : PySem.Expr) (body : List Stmt) (Q : Flow → Shared → Prop) (E : Value → Shared → Prop) (it : Value) (s₂ : Shared) : Prop :=
  ∃ (I : Addr) (n : Nat) (It : Nat → Obj → Prop) (P : Nat → Value → Prop) (aux : Heap → Prop) (o : Obj) (m : Str → Option Value) (news : List (Addr × Obj)) (J : Inv),
    it = .ref I ∧ LedIter prog w A I n It P aux ∧ It 0 o ∧ Fr h₀ L s₂.heap m ∧ News h₀ L s₂.heap ((I, o) :: news) ∧ (∀ q ∈ news, q.1 ≠ I) ∧ J 0 m news s₂.gens ∧
    (∀ i m₁ news₁ h gs, J i m₁ news₁ gs → Fr h₀ L h m₁ → News h₀ L h news₁ → aux h) ∧
    (∀ i v m₁ news₁ h tk gs o, i < n → P i v → J i m₁ news₁ gs → Fr h₀ L h m₁ → News h₀ L h ((I, o) :: news₁) → It (i + 1) o → (∀ q ∈ news₁, q.1 ≠ I) →
      wpAny (model prog w) A (assign target env v) (fun _ s₃ => wpAny (model prog w) A (execs body env) (LedStep h₀ L s₂ I It J Q i) E s₃) E { s₂ with heap := h, gens := gs, toks := tk }) ∧
    ∀ m₁ news₁ h tk gs, J n m₁ news₁ gs → Fr h₀ L h m₁ → News h₀ L h news₁ → Q .next { s₂ with heap := h, gens := gs, toks := tk }

/-- the loop's source is at hand: here the walk rests -/
def LedPre (prog : Program) (w : World) (A : Around) (h₀ : Heap) (L : Addr) (env : Env) (target : PySem.Expr) (body : List Stmt) (Q : Flow → Shared → Prop) (E : Value → Shared → Prop) (xv : Value) (s₁ : Shared) : Prop :=
  wpAny (model prog w) A (pyIter xv) (fun it s₂ => LedAt prog w A h₀ L env target body Q E it s₂) E s₁
theorem For_led {target iter : PySem.Expr} {body : List Stmt} {pos : Pos} {mF : Str → Option Value} (_F : Fr h₀ L s.heap mF)
    (h : wpAny (model prog w) A (eval iter env) (LedPre prog w A h₀ L env target body Q E) E s)
    (hs : ∀ x, foldedSetIterable iter env x = pure x := by intro _; rfl)
    (hE : PassesOwn (model prog w) A env E := by passes_own) :
    wpAny (model prog w) A (exec (.For target iter body [] pos) env) Q E s := by
  refine wpAny_For (wpAny_mono h (fun xv s₁ h₁ => wpAny_mono h₁ (fun it s₂ h₂ => ?_) fun _ _ e => e) fun _ _ e => e) hs
  obtain ⟨I, n, It, P, aux, o₀, m, news, J, rfl, D, hIt, F, N, hne, hJ, haux, turn, done⟩ := h₂
  have hz := (N (I, o₀) List.mem_cons_self).2
  refine codeAny_forLoop_any (R := fun r s' => match r with | .ok f => Q f s' | .error e => cameBackBy (model prog w) A env E e s')
    (fun k s' => ∃ h' tk gs m' news' i o, s' = { s₂ with heap := h', gens := gs, toks := tk } ∧ Fr h₀ L h' m' ∧ News h₀ L h' ((I, o) :: news') ∧ It i o ∧ (∀ q ∈ news', q.1 ≠ I) ∧ J i m' news' gs ∧ i ≤ n ∧ k = n + 1 - i) ?_ (n + 1)
    ⟨s₂.heap, s₂.toks, s₂.gens, m, news, 0, o₀, rfl, F, N, hIt, hne, hJ, Nat.zero_le _, rfl⟩
  rintro k s' ⟨h', tk, gs, m', news', i, o, rfl, F', N', hIt', hne', hJ', hi, rfl⟩
  have N'' : News h₀ L h' news' := fun q hq => N' q (List.mem_cons_of_mem _ hq)
  have hg := (N' (I, o) List.mem_cons_self).1
  have hax := haux _ _ _ _ _ hJ' F' N''
  by_cases hlt : i < n
  · refine D.item i o _ _ _ hlt hg hIt' hax fun v h₁ tk₁ o₁ hP hg₁ hIt₁ hx => ?_
    have F₁ := Fr.upto F' hz.2 (Ne.symm hz.1) hx
    have N₁ := News.upto N'' hne' hx
    have N₂ : News h₀ L h₁ ((I, o₁) :: news') := fun q hq => by
      rcases List.mem_cons.mp hq with rfl | hq
      · exact ⟨hg₁, hz⟩
      · exact N₁ q hq
    refine go_plain hg₁ (D.plain _ _ hIt₁) ?_
    refine wpAny_passesOwn hE (wpAny_mono (turn i v m' news' h₁ tk₁ gs o₁ hlt hP hJ' F₁ N₂ hIt₁ hne') (fun _ s₃ h₃ => ?_) fun _ _ e => e)
    refine wpAny_passesOwn hE (wpAny_mono h₃ (fun f s₄ h₄ => ?_) fun _ _ e => e)
    have fin : (∃ h' tk gs m₂ X news₂ o, s₄ = { s₂ with heap := h', gens := gs, toks := tk } ∧ Fr h₀ L h' m₂ ∧ News h₀ L h' X ∧ (I, o) ∈ X ∧ It (i + 1) o ∧ (∀ q ∈ news₂, q ∈ X ∧ q.1 ≠ I) ∧ J (i + 1) m₂ news₂ gs) →
        ∃ k', k' < n + 1 - i ∧ ∃ h' tk gs m' news' i o, s₄ = { s₂ with heap := h', gens := gs, toks := tk } ∧ Fr h₀ L h' m' ∧ News h₀ L h' ((I, o) :: news') ∧ It i o ∧ (∀ q ∈ news', q.1 ≠ I) ∧ J i m' news' gs ∧ i ≤ n ∧ k' = n + 1 - i := by
      rintro ⟨h', tk, gs, m₂, X, news₂, o, rfl, F₂, N₂, hm, hit, hsub, hJ₂⟩
      refine ⟨n + 1 - (i + 1), by omega, h', tk, gs, m₂, news₂, i + 1, o, rfl, F₂, ?_, hit, fun q hq => (hsub q hq).2, hJ₂, hlt, rfl⟩
      intro q hq
      rcases List.mem_cons.mp hq with rfl | hq
      · exact N₂ _ hm
      · exact N₂ _ (hsub q hq).1
    cases f with
    | ret v => exact h₄
    | brk => exact h₄
    | next => exact fin h₄
    | cont => exact fin h₄
  · have e : i = n := by omega
    subst e
    refine D.done o _ _ _ hg hIt' hax fun h₁ tk₁ hx => ?_
    exact wpAny_execs_nil (done m' news' h₁ tk₁ gs hJ' (Fr.upto F' hz.2 (Ne.symm hz.1) hx) (News.upto N'' hne' hx))

def ItStr (ty : String) (x : Str) (t : Tok) (i : Nat) (o : Obj) : Prop := o.cls = .type ty ∧ o.data = .fields #[.str x t, .int i 0]
def ItLst (l : Addr) (i : Nat) (o : Obj) : Prop := o.cls = .type "list_iterator" ∧ o.data = .fields #[.ref l, .int i 0]

theorem iterAscii (hh : A.handled = none) (I : Addr) (x : Str) (t : Tok) : LedIter prog w A I x.cps.size (ItStr "str_ascii_iterator" x t) (PySem.SignAt x) (fun _ => True) where
  item := fun i o s Q E hi hg hit _ hQ => by
    refine wpAny_pyNext_ascii_item ⟨o, hg, hit⟩ (c := x.cps[i]) (by simp [hi]) fun h' hit' hs' => ?_
    obtain ⟨o', hg', hit'⟩ := hit'
    exact hQ _ h' (s.toks + 1) o' ⟨_, _, by simp [hi], rfl⟩ hg' hit' hs'.extBut
  done := fun o s Q E hg hit _ hQ => wpAny_pyNext_ascii_end hh ⟨o, hg, hit⟩ (by simp) fun h' he' => hQ h' s.toks he'
  plain := fun _ _ h => ⟨_, _, h.1, h.2, by decide⟩
theorem iterWide (hh : A.handled = none) (I : Addr) (x : Str) (t : Tok) : LedIter prog w A I x.cps.size (ItStr "str_iterator" x t) (PySem.SignAt x) (fun _ => True) where
  item := fun i o s Q E hi hg hit _ hQ => by
    refine wpAny_pyNext_wide_item ⟨o, hg, hit⟩ (c := x.cps[i]) (by simp [hi]) fun h' hit' hs' => ?_
    obtain ⟨o', hg', hit'⟩ := hit'
    exact hQ _ h' (s.toks + 1) o' ⟨_, _, by simp [hi], rfl⟩ hg' hit' hs'.extBut
  done := fun o s Q E hg hit _ hQ => wpAny_pyNext_wide_end hh ⟨o, hg, hit⟩ (by simp) fun h' he' => hQ h' s.toks he'
  plain := fun _ _ h => ⟨_, _, h.1, h.2, by decide⟩
theorem iterList (hh : A.handled = none) (I l : Addr) (items : Array Value) : LedIter prog w A I items.size (ItLst l) (fun i v => items[i]? = some v) (fun h => h.IsList l items) where
  item := fun i o s Q E hi hg hit hl hQ => by
    refine wpAny_pyNext_list_item ⟨o, hg, hit⟩ hl (x := items[i]) (by simp [hi]) fun h' hit' hs' => ?_
    obtain ⟨o', hg', hit'⟩ := hit'
    exact hQ _ h' s.toks o' (by simp [hi]) hg' hit' hs'.extBut
  done := fun o s Q E hg hit hl hQ => wpAny_pyNext_list_end hh ⟨o, hg, hit⟩ hl (by simp) fun h' he' => hQ h' s.toks he'
  plain := fun _ _ h => ⟨_, _, h.1, h.2, by decide⟩

theorem led_str {target : PySem.Expr} {body : List Stmt} {x : Str} {t : Tok} {m : Str → Option Value} {news : List (Addr × Obj)} (J : Inv) (hh : A.handled = none) (F : Fr h₀ L s.heap m) (N : News h₀ L s.heap news) (hJ : J 0 m news s.gens)
    (turn : ∀ I It i c u m₁ news₁ h tk gs o, x.cps[i]? = some c → J i m₁ news₁ gs → Fr h₀ L h m₁ → News h₀ L h ((I, o) :: news₁) → It (i + 1) o → (∀ q ∈ news₁, q.1 ≠ I) →
      (∀ i o, It i o → ∃ ty, (ty = "str_ascii_iterator" ∨ ty = "str_iterator") ∧ o.cls = .type ty) →
      wpAny (model prog w) A (assign target env (.str ⟨#[c]⟩ u)) (fun _ s₃ => wpAny (model prog w) A (execs body env) (LedStep h₀ L s I It J Q i) E s₃) E { s with heap := h, gens := gs, toks := tk })
    (done : ∀ m₁ news₁ h tk gs, J x.length m₁ news₁ gs → Fr h₀ L h m₁ → News h₀ L h news₁ → Q .next { s with heap := h, gens := gs, toks := tk }) :
    LedPre prog w A h₀ L env target body Q E (.str x t) s := by
  unfold LedPre
  have hf : ∀ q ∈ news, q.1 ≠ s.heap.objs.size := fun q hq => Nat.ne_of_lt (Heap.lt_size (N q hq).1)
  have go : ∀ ty, (ty = "str_ascii_iterator" ∨ ty = "str_iterator") → LedIter prog w A s.heap.objs.size x.cps.size (ItStr ty x t) (PySem.SignAt x) (fun _ => True) →
      LedAt prog w A h₀ L env target body Q E (.ref s.heap.objs.size) { s with heap := s.heap.push { cls := .type ty, data := .fields #[.str x t, .int 0 0] } } := by
    intro ty hty D
    refine ⟨_, _, _, _, _, _, m, news, J, rfl, D, ⟨rfl, rfl⟩, F.push _, N.push F _, hf, hJ, fun _ _ _ _ _ _ _ _ => trivial, ?_, done⟩
    rintro i v m₁ news₁ h tk gs o hi ⟨c, u, hc, rfl⟩ hJ₁ F₁ N₁ hIt hne
    exact turn _ _ i c u m₁ news₁ h tk gs o hc hJ₁ F₁ N₁ hIt hne fun j o' h' => ⟨ty, hty, h'.1⟩
  cases ha : x.cps.all (· < 128)
  · exact wpAny_pyIter_wide ha (go _ (.inr rfl) (iterWide hh _ x t))
  · exact wpAny_pyIter_ascii ha (go _ (.inl rfl) (iterAscii hh _ x t))

theorem led_list {target : PySem.Expr} {body : List Stmt} {l : Addr} {items : List Value} {k : Nat} {m : Str → Option Value} {news : List (Addr × Obj)} (J : Inv) (hh : A.handled = none) (F : Fr h₀ L s.heap m) (N : News h₀ L s.heap news) (hl : (l, lstO items k) ∈ news) (hJ : J 0 m news s.gens)
    (haux : ∀ i m₁ news₁ gs, J i m₁ news₁ gs → (l, lstO items k) ∈ news₁)
    (turn : ∀ I i v m₁ news₁ h tk gs o, items[i]? = some v → J i m₁ news₁ gs → Fr h₀ L h m₁ → News h₀ L h ((I, o) :: news₁) → ItLst l (i + 1) o → (∀ q ∈ news₁, q.1 ≠ I) →
      wpAny (model prog w) A (assign target env v) (fun _ s₃ => wpAny (model prog w) A (execs body env) (LedStep h₀ L s I (ItLst l) J Q i) E s₃) E { s with heap := h, gens := gs, toks := tk })
    (done : ∀ m₁ news₁ h tk gs, J items.length m₁ news₁ gs → Fr h₀ L h m₁ → News h₀ L h news₁ → Q .next { s with heap := h, gens := gs, toks := tk }) :
    LedPre prog w A h₀ L env target body Q E (.ref l) s := by
  unfold LedPre
  have hf : ∀ q ∈ news, q.1 ≠ s.heap.objs.size := fun q hq => Nat.ne_of_lt (Heap.lt_size (N q hq).1)
  have D := iterList (prog := prog) (w := w) (A := A) hh s.heap.objs.size l items.toArray
  rw [List.size_toArray] at D
  refine wpAny_pyIter_list (News.isList N hl) ?_
  refine ⟨_, _, _, _, _, _, m, news, J, rfl, D, ⟨rfl, rfl⟩, F.push _, N.push F _, hf, hJ, fun i m₁ news₁ h gs hJ₁ _ N₁ => News.isList N₁ (haux _ _ _ _ hJ₁), ?_, done⟩
  intro i v m₁ news₁ h tk gs o hi hv hJ₁ F₁ N₁ hIt hne
  exact turn _ i v m₁ news₁ h tk gs o (by simpa using hv) hJ₁ F₁ N₁ hIt hne
end
end Mine
end
noncomputable section
open PySem PySem.W PySem.Calls PyProof.Rows PyProof.V PySem.Spec Mine
set_option Elab.async false
set_option maxRecDepth 100000
set_option maxHeartbeats 4000000
namespace Mine
section
variable {prog : Program} {w : World} {A : Around} {E : Value → Shared → Prop} {s : Shared} {env : Env} {h₀ : Heap} {L : Addr} {Q : Flow → Shared → Prop}
def ItTup (l : Addr) (i : Nat) (o : Obj) : Prop := o.cls = .type "tuple_iterator" ∧ o.data = .fields #[.ref l, .int i 0]
theorem iterTuple (hh : A.handled = none) (I l : Addr) (items : Array Value) : LedIter prog w A I items.size (ItTup l) (fun i v => items[i]? = some v) (fun h => h.IsTuple l items) where
  item := fun i o s Q E hi hg hit hl hQ => by
    refine wpAny_pyNext_tuple_item ⟨o, hg, hit⟩ hl (x := items[i]) (by simp [hi]) fun h' hit' hs' => ?_
    obtain ⟨o', hg', hit'⟩ := hit'
    exact hQ _ h' s.toks o' (by simp [hi]) hg' hit' hs'.extBut
  done := fun o s Q E hg hit hl hQ => wpAny_pyNext_tuple_end hh ⟨o, hg, hit⟩ hl (by simp) fun h' he' => hQ h' s.toks he'
  plain := fun _ _ h => ⟨_, _, h.1, h.2, by decide⟩
theorem led_tuple {target : PySem.Expr} {body : List Stmt} {l : Addr} {items : List Value} {m : Str → Option Value} {news : List (Addr × Obj)} (J : Inv) (hh : A.handled = none) (F : Fr h₀ L s.heap m) (N : News h₀ L s.heap news) (hl : (l, tupO items) ∈ news) (hJ : J 0 m news s.gens)
    (haux : ∀ i m₁ news₁ gs, J i m₁ news₁ gs → (l, tupO items) ∈ news₁)
    (turn : ∀ I i v m₁ news₁ h tk gs o, items[i]? = some v → J i m₁ news₁ gs → Fr h₀ L h m₁ → News h₀ L h ((I, o) :: news₁) → ItTup l (i + 1) o → (∀ q ∈ news₁, q.1 ≠ I) →
      wpAny (model prog w) A (assign target env v) (fun _ s₃ => wpAny (model prog w) A (execs body env) (LedStep h₀ L s I (ItTup l) J Q i) E s₃) E { s with heap := h, gens := gs, toks := tk })
    (done : ∀ m₁ news₁ h tk gs, J items.length m₁ news₁ gs → Fr h₀ L h m₁ → News h₀ L h news₁ → Q .next { s with heap := h, gens := gs, toks := tk }) :
    LedPre prog w A h₀ L env target body Q E (.ref l) s := by
  unfold LedPre
  have hf : ∀ q ∈ news, q.1 ≠ s.heap.objs.size := fun q hq => Nat.ne_of_lt (Heap.lt_size (N q hq).1)
  have D := iterTuple (prog := prog) (w := w) (A := A) hh s.heap.objs.size l items.toArray
  rw [List.size_toArray] at D
  have tup : ∀ {h : Heap} {n₁ : List (Addr × Obj)}, News h₀ L h n₁ → (l, tupO items) ∈ n₁ → h.IsTuple l items.toArray := fun N hm => ⟨_, N.get hm, rfl, _, rfl⟩
  refine wpAny_pyIter_tuple (tup N hl) ?_
  refine ⟨_, _, _, _, _, _, m, news, J, rfl, D, ⟨rfl, rfl⟩, F.push _, N.push F _, hf, hJ, fun i m₁ news₁ h gs hJ₁ _ N₁ => tup N₁ (haux _ _ _ _ hJ₁), ?_, done⟩
  intro i v m₁ news₁ h tk gs o hi hv hJ₁ F₁ N₁ hIt hne
  exact turn _ i v m₁ news₁ h tk gs o (by simpa using hv) hJ₁ F₁ N₁ hIt hne
end

abbrev Pc.fp (c : Pc) : Str × Str := (c.f, c.p)
abbrev Pc.v (c : Pc) : Value := .ref c.a
abbrev fpD (q : Str × Str) : PyData := .tuple [.str q.1, .str q.2]
def fpOk (q : Str × Str) : Prop := PyData.strOk q.1 = true ∧ PyData.strOk q.2 = true
theorem fp_eqv : ∀ xs ys : List (Str × Str), PyData.eqvAll (xs.map fpD) (ys.map fpD) = decide (xs = ys)
  | [], [] => by simp [PyData.eqvAll]
  | [], _ :: _ => by simp [PyData.eqvAll]
  | _ :: _, [] => by simp [PyData.eqvAll]
  | (a, b) :: r, (c, d) :: t => by
    simp only [List.map_cons, PyData.eqvAll, PyData.eqv, fp_eqv r t]
    by_cases h1 : a = c <;> by_cases h2 : b = d <;> by_cases h3 : r = t <;> simp [h1, h2, h3]
theorem fp_can : ∀ xs : List (Str × Str), (∀ q ∈ xs, fpOk q) → PyData.canLayAll0 (xs.map fpD) = true
  | [], _ => rfl
  | (a, b) :: r, h => by
    obtain ⟨h1, h2⟩ := h (a, b) (.head _)
    have ih := fp_can r fun q hq => h q (.tail _ hq)
    simp only [List.map_cons, PyData.canLayAll0, PyData.canLay0, ih, Bool.and_true]
    simp only at h1 h2
    rw [h1, h2]; rfl
theorem fp_depth : ∀ xs : List (Str × Str), PyData.depthAll (xs.map fpD) ≤ 1
  | [] => by simp [PyData.depthAll]
  | (a, b) :: r => by
    have ih := fp_depth r
    simp only [List.map_cons, PyData.depthAll, PyData.depth]
    omega
theorem fp_shaped (xs : List (Str × Str)) (h : ∀ q ∈ xs, fpOk q) : PySem.SeqAt.shaped (.list (xs.map fpD)) = true := by
  have h1 := fp_can xs h
  have h2 := fp_depth xs
  unfold PySem.SeqAt.shaped
  simp only [PyData.canLay0, PyData.depth, h1, Bool.true_and]
  exact decide_eq_true (by omega)
theorem fp_reads {h₀ h : Heap} {L : Addr} {news : List (Addr × Obj)} (N : News h₀ L h news) : ∀ pcs : List Pc, (∀ c ∈ pcs, (c.a, c.obj) ∈ news) → ∃ as, ReadsAll h (pcs.map Pc.v) ((pcs.map Pc.fp).map fpD) as
  | [], _ => ⟨_, ReadsAll.nil⟩
  | c :: r, hm => by
    obtain ⟨as, ih⟩ := fp_reads N r fun c hc => hm c (.tail _ hc)
    exact ⟨_, ReadsAll.cons (reads_tuple_at (N.get (hm c (.head _))) rfl rfl (ReadsAll.cons (Reads.str _ _) (ReadsAll.cons (Reads.str _ _) ReadsAll.nil))) ih⟩
section
variable {prog : Program} {w : World} {A : Around} {E : Value → Shared → Prop} {s : Shared} {h₀ : Heap} {L : Addr} {news : List (Addr × Obj)} {Q : Value → Shared → Prop}
theorem ne_pieces {a b : Addr} {n k : Nat} {us vs : List Value} {ps qs : List Pc} (N : News h₀ L s.heap news) (ha : (a, lstO us n) ∈ news) (hb : (b, lstO vs k) ∈ news) (hus : us = ps.map Pc.v) (hvs : vs = qs.map Pc.v) (hp : ∀ c ∈ ps, (c.a, c.obj) ∈ news) (hq : ∀ c ∈ qs, (c.a, c.obj) ∈ news)
    (op : ∀ c ∈ ps, fpOk c.fp) (oq : ∀ c ∈ qs, fpOk c.fp) (hu : A.units + 64 < cLine) (h : Q (.bool (!decide (ps.map Pc.fp = qs.map Pc.fp))) s) : wpAny (model prog w) A (compareOp .NotEq (.ref a) (.ref b)) Q E s := by
  subst hus hvs
  obtain ⟨as, ra⟩ := fp_reads N ps hp
  obtain ⟨bs, rb⟩ := fp_reads N qs hq
  have oks : ∀ l : List Pc, (∀ c ∈ l, fpOk c.fp) → ∀ q ∈ l.map Pc.fp, fpOk q := fun l h q hq => by
    obtain ⟨c, hc, rfl⟩ := List.mem_map.mp hq
    exact h c hc
  refine ne_dataH (reads_list_at (N.get ha) rfl rfl (by simpa using ra)) (reads_list_at (N.get hb) rfl rfl (by simpa using rb)) (fp_shaped _ (oks _ op)) (fp_shaped _ (oks _ oq)) hu ?_
  rw [show PyData.eqv (.list ((ps.map Pc.fp).map fpD)) (.list ((qs.map Pc.fp).map fpD)) = decide (ps.map Pc.fp = qs.map Pc.fp) from (by show PyData.eqvAll _ _ = _; exact fp_eqv _ _)]
  exact h
end
end Mine
namespace Mine
theorem news_ne {h₀ h : Heap} {L a b : Addr} {o o' : Obj} {l : List (Addr × Obj)} (N : News h₀ L h l) (ha : (a, o) ∈ l) (hb : (b, o') ∈ l) (hne : o ≠ o') : a ≠ b := by
  intro e
  subst e
  exact hne (Option.some.inj ((N _ ha).1.symm.trans (N _ hb).1))
theorem setAt_tail {p : Addr} {o : Obj} {l : List (Addr × Obj)} {x q : Addr × Obj} (hq : q ∈ setAt p o l) : q ∈ setAt p o (x :: l) := List.mem_cons_of_mem _ hq
theorem pile_ne_tup {C d : Addr} {vs us : List Value} {n : Nat} : tupO us ≠ pileO C d vs n := by
  intro e; injection e with e1; cases e1
theorem pile_ne_lst {C d : Addr} {vs us : List Value} {n k : Nat} : lstO us k ≠ pileO C d vs n := by
  intro e; injection e with e1; cases e1
theorem pile_ne_dict {C d : Addr} {vs : List Value} {es : List DictEntry} {n k : Nat} : dictOf es k ≠ pileO C d vs n := by
  intro e; injection e with e1; cases e1
/-- a pile in the ledger, with its pieces -/
structure Pile (C : Addr) (l : List (Addr × Obj)) (p d : Addr) (pcs : List Pc) : Prop where
  obj : ∃ n, (p, pileO C d (pcs.map Pc.v) n) ∈ l
  dict : ∃ hs ta tb k, (d, dictOf (isz hs ta tb) k) ∈ l
  its : ∀ c ∈ pcs, (c.a, c.obj) ∈ l
def Keeps (p : Addr) (l l' : List (Addr × Obj)) : Prop := ∀ q ∈ l, q.1 ≠ p → q ∈ l'
theorem Keeps.refl (p : Addr) (l : List (Addr × Obj)) : Keeps p l l := fun _ h _ => h
theorem Keeps.trans {p : Addr} {l₁ l₂ l₃ : List (Addr × Obj)} (a : Keeps p l₁ l₂) (b : Keeps p l₂ l₃) : Keeps p l₁ l₃ := fun q h e => b q (a q h e) e
theorem Keeps.setAt (p : Addr) (o : Obj) (l : List (Addr × Obj)) : Keeps p l (setAt p o l) := fun _ h e => setAt_mem h e
theorem Keeps.cons {p : Addr} {x : Addr × Obj} {l l' : List (Addr × Obj)} (a : Keeps p l l') : Keeps p l (x :: l') := fun q h e => .tail _ (a q h e)
theorem Pile.moved {C p d : Addr} {pcs qcs : List Pc} {l l' : List (Addr × Obj)} {h₀ h : Heap} {L : Addr} {n : Nat} (P : Pile C l p d pcs) (N : News h₀ L h l) (K : Keeps p l l') (ho : (p, pileO C d (qcs.map Pc.v) n) ∈ l') (hq : ∀ c ∈ qcs, c ∈ pcs ∨ (c.a, c.obj) ∈ l') : Pile C l' p d qcs := by
  obtain ⟨⟨n₀, h1⟩, ⟨hs, ta, tb, k, h2⟩, h3⟩ := P
  refine ⟨⟨n, ho⟩, ⟨hs, ta, tb, k, K _ h2 (news_ne N h2 h1 pile_ne_dict)⟩, fun c hc => ?_⟩
  rcases hq c hc with h | h
  · exact K _ (h3 c h) (news_ne N (h3 c h) h1 pile_ne_tup)
  · exact h
end Mine

namespace Mine
section
variable {prog : Program} {w : World} {A : Around} {E : Value → Shared → Prop} {s : Shared} {h₀ : Heap} {L : Addr} {news : List (Addr × Obj)} {Q : Value → Shared → Prop}
theorem len_lst {D : Addr} {its : List Value} {k : Nat} (N : News h₀ L s.heap news) (hm : (D, lstO its k) ∈ news) (hf : its.length ≤ sizeLine) (h : Q (.int its.length (s.toks + 1)) { s with toks := s.toks + 1 + 1 }) :
    wpAny (model prog w) A (call (.builtin "len") [.ref D]) Q E s :=
  Calls.call_len_list (News.isList N hm) (by rw [List.size_toArray]; rw [sizeLine_eq] at hf; omega) (by rw [List.size_toArray]; exact h)
end
end Mine
end
noncomputable section
open PySem PySem.W PySem.Calls PyProof.Rows Mine
set_option Elab.async false
set_option maxRecDepth 100000
set_option maxHeartbeats 4000000
namespace Mine
section
variable {h₀ h hb hO : Heap} {L Lb pl d C D t I : Addr} {pcs : List Pc} {X X₁ : List (Addr × Obj)}
theorem popped {i : Int} {n' kk : Nat} (P : Pile C X₁ pl d pcs) (NO : News hb Lb hO X₁)
    (N : News h₀ L h ((D, lstO ((pcs.map Pc.v).drop i.toNat) 0) :: setAt pl (pileO C d ((pcs.map Pc.v).take i.toNat) n') X₁)) (e : i.toNat = kk) :
    ∃ X₂, News h₀ L h X₂ ∧ (D, lstO ((pcs.drop kk).map Pc.v) 0) ∈ X₂ ∧ Pile C X₂ pl d (pcs.take kk) ∧ Keeps pl X₁ X₂ ∧ ∀ c ∈ pcs, (c.a, c.obj) ∈ X₂ := by
  subst e
  obtain ⟨n, h1⟩ := P.obj
  have K : Keeps pl X₁ ((D, lstO ((pcs.map Pc.v).drop i.toNat) 0) :: setAt pl (pileO C d ((pcs.map Pc.v).take i.toNat) n') X₁) := Keeps.cons (Keeps.setAt _ _ _)
  refine ⟨_, N, by rw [List.map_drop]; exact List.Mem.head _, ?_, K, fun c hc => K _ (P.its c hc) (news_ne NO (P.its c hc) h1 pile_ne_tup)⟩
  refine P.moved NO K (n := n') ?_ fun c hc => .inl (List.mem_of_mem_take hc)
  rw [List.map_take]
  exact List.Mem.tail _ (setAt_self h1)
theorem pushed {n' : Nat} {f p : Str} {tf tp : Tok} (P : Pile C X₁ pl d pcs) (NO : News hb Lb hO X₁)
    (N : News h₀ L h ((t, tupO [.str f tf, .str p tp]) :: setAt pl (pileO C d (pcs.map Pc.v ++ [.ref t]) n') X₁)) :
    ∃ X₂, News h₀ L h X₂ ∧ Pile C X₂ pl d (pcs ++ [⟨t, f, tf, p, tp⟩]) ∧ Keeps pl X₁ X₂ := by
  obtain ⟨n, h1⟩ := P.obj
  have K : Keeps pl X₁ ((t, tupO [.str f tf, .str p tp]) :: setAt pl (pileO C d (pcs.map Pc.v ++ [.ref t]) n') X₁) := Keeps.cons (Keeps.setAt _ _ _)
  refine ⟨_, N, P.moved NO K (n := n') ?_ fun c hc => ?_, K⟩
  · rw [List.map_append]; exact List.Mem.tail _ (setAt_self h1)
  · rcases List.mem_append.mp hc with hc | hc
    · exact .inl hc
    · rw [List.mem_singleton.mp hc]; exact .inr (List.Mem.head _)
def but (I : Addr) (X : List (Addr × Obj)) : List (Addr × Obj) := X.filter fun q => decide (q.1 ≠ I)
theorem but_mem {q : Addr × Obj} : q ∈ but I X ↔ q ∈ X ∧ q.1 ≠ I := by unfold but; rw [List.mem_filter]; simp
/-- an iterator's class: no tuple, no dict, no own class -/
def Iterish (o : Obj) : Prop := ∃ ty, o.cls = .type ty ∧ ty ≠ "tuple" ∧ ty ≠ "dict" ∧ ty ≠ "list"
theorem Iterish.ne {o o' : Obj} (hi : Iterish o) (h' : (∃ C, o'.cls = .ref C) ∨ o'.cls = .type "tuple" ∨ o'.cls = .type "dict" ∨ o'.cls = .type "list") : o' ≠ o := by
  intro e
  obtain ⟨ty, h1, h2, h3, h4⟩ := hi
  rw [e] at h'
  rw [h1] at h'
  rcases h' with ⟨C, h'⟩ | h' | h' | h'
  · cases h'
  · exact h2 (by injection h')
  · exact h3 (by injection h')
  · exact h4 (by injection h')
theorem Pile.but {o : Obj} (P : Pile C X pl d pcs) (N : News h₀ L h X) (hI : (I, o) ∈ X) (hi : Iterish o) : Pile C (but I X) pl d pcs := by
  obtain ⟨⟨n, h1⟩, ⟨hs, ta, tb, k, h2⟩, h3⟩ := P
  exact ⟨⟨n, but_mem.mpr ⟨h1, news_ne N h1 hI (hi.ne (.inl ⟨_, rfl⟩))⟩⟩, ⟨hs, ta, tb, k, but_mem.mpr ⟨h2, news_ne N h2 hI (hi.ne (.inr (.inr (.inl rfl))))⟩⟩,
    fun c hc => but_mem.mpr ⟨h3 c hc, news_ne N (h3 c hc) hI (hi.ne (.inr (.inl rfl)))⟩⟩
theorem Keeps.but {X₀ news₁ : List (Addr × Obj)} {o : Obj} (K₁ : Keeps pl X₀ news₁) (hne : ∀ q ∈ news₁, q.1 ≠ I) (K₂ : Keeps pl ((I, o) :: news₁) X) : Keeps pl X₀ (Mine.but I X) :=
  fun q hq e => but_mem.mpr ⟨K₂ q (.tail _ (K₁ q hq e)) e, hne q (K₁ q hq e)⟩
theorem ItLst.iterish {l : Addr} {i : Nat} {o : Obj} (h : ItLst l i o) : Iterish o := ⟨_, h.1, by decide, by decide, by decide⟩
theorem ItTup.iterish {l : Addr} {i : Nat} {o : Obj} (h : ItTup l i o) : Iterish o := ⟨_, h.1, by decide, by decide, by decide⟩
theorem ItStr.iterish' {ty : String} {o : Obj} (hty : ty = "str_ascii_iterator" ∨ ty = "str_iterator") (h : o.cls = .type ty) : Iterish o := by
  rcases hty with rfl | rfl <;> exact ⟨_, h, by decide, by decide, by decide⟩
theorem Pile.weak {x : Addr × Obj} (P : Pile C X pl d pcs) : Pile C (x :: X) pl d pcs :=
  ⟨P.obj.imp fun _ => .tail _, P.dict.imp fun _ ⟨a, b, c, h⟩ => ⟨a, b, c, .tail _ h⟩, fun c hc => .tail _ (P.its c hc)⟩
theorem Keeps.weak {x : Addr × Obj} {X' : List (Addr × Obj)} (K : Keeps pl (x :: X) X') : Keeps pl X X' := fun q hq e => K q (.tail _ hq) e
end
end Mine
end
noncomputable section
open PySem PySem.W PySem.Calls PyProof.Rows Mine
set_option Elab.async false
set_option maxRecDepth 100000
set_option maxHeartbeats 4000000
namespace Mine
section
variable {prog : Program} {w : World} {A : Around} {E : Value → Shared → Prop} {s : Shared} {l : Addr} {xs : Array (Int × Tok)}
theorem iter_intTup {Q : Value → Shared → Prop} (hl : s.heap.IsTuple l (intItems xs))
    (h : ∀ s₂ : Shared, s₂ = { s with heap := s.heap.push { cls := .type "tuple_iterator", data := .fields #[.ref l, .int 0 0] } } →
      (s₂.heap.IsTupleIter s.heap.objs.size l 0 ∧ s₂.heap.IsTuple l (intItems xs)) → (∀ b ∈ [s.heap.objs.size, l], b < s₂.heap.objs.size) → l ≠ s.heap.objs.size → Q (.ref s.heap.objs.size) s₂) :
    wpAny (model prog w) A (pyIter (.ref l)) Q E s := by
  have hlt : l < s.heap.objs.size := by obtain ⟨_, e, _⟩ := hl; exact Heap.lt_size e
  refine wpAny_pyIter_tuple hl (h _ rfl ⟨⟨_, Heap.get?_push_size _ rfl, rfl, rfl⟩, hl.push _⟩ (fun b hb => ?_) (Nat.ne_of_lt hlt))
  show b < (s.heap.push _).objs.size
  rw [Heap.size_push]
  rcases List.mem_cons.mp hb with rfl | hb
  · exact Nat.lt_succ_self _
  · rw [List.mem_singleton.mp hb]; exact Nat.lt_succ_of_lt hlt
theorem new_kept {h' : Heap} {o : Obj} (hk : ∀ b o', b ∉ [s.heap.objs.size] → (s.heap.push o).get? b = some o' → h'.get? b = some o') :
    ∀ b o', s.heap.get? b = some o' → h'.get? b = some o' := fun b o' e =>
  hk b o' (fun hm => Nat.lt_irrefl _ ((List.mem_singleton.mp hm) ▸ Heap.lt_size e)) (Heap.get?_push_of_some _ e)
theorem min_intTup {Q : Value → Shared → Prop} (hh : A.handled = none) (hl : s.heap.IsTuple l (intItems xs)) (hne : 0 < xs.size)
    (h : ∀ v h' tk, (intItems xs)[argBest (fun i j => decide (numAt xs i < numAt xs j)) (xs.size - 1)]? = some v → (∀ b o, s.heap.get? b = some o → h'.get? b = some o) → Q v { s with heap := h', toks := tk }) :
    wpAny (model prog w) A (call (.builtin "min") [.ref l]) Q E s := by
  refine call_min_walk (iter_intTup hl fun s₂ e st hfp hlI => ?_)
  subst e
  refine ⟨_, _, _, _, _, _, _, rfl, Walks.tuple (A := A.in1) hh _ l hlI (intItems xs), st, hfp, by simpa [intItems] using hne, CmpOf.ints_lt (numAt xs) (fun _ _ => intItems_at), fun v h' tk hP hk => ?_⟩
  exact h v h' tk (by simpa [intItems] using hP) (new_kept hk)
theorem max_intTup {Q : Value → Shared → Prop} (hh : A.handled = none) (hl : s.heap.IsTuple l (intItems xs)) (hne : 0 < xs.size)
    (h : ∀ v h' tk, (intItems xs)[argBest (fun i j => decide (numAt xs i > numAt xs j)) (xs.size - 1)]? = some v → (∀ b o, s.heap.get? b = some o → h'.get? b = some o) → Q v { s with heap := h', toks := tk }) :
    wpAny (model prog w) A (call (.builtin "max") [.ref l]) Q E s := by
  refine call_max_walk (iter_intTup hl fun s₂ e st hfp hlI => ?_)
  subst e
  refine ⟨_, _, _, _, _, _, _, rfl, Walks.tuple (A := A.in1) hh _ l hlI (intItems xs), st, hfp, by simpa [intItems] using hne, CmpOf.ints_gt (numAt xs) (fun _ _ => intItems_at), fun v h' tk hP hk => ?_⟩
  exact h v h' tk (by simpa [intItems] using hP) (new_kept hk)
end
section
variable {prog : Program} {w : World} {A : Around} {E : Value → Shared → Prop} {s : Shared} {h₀ : Heap} {L : Addr} {m : Str → Option Value} {news : List (Addr × Obj)} {Q : Value → Shared → Prop}
theorem min4 {t : Addr} {a b c d : Int} {k1 k2 k3 k4 : Tok} (hh : A.handled = none) (F : Fr h₀ L s.heap m) (N : News h₀ L s.heap news) (hm : (t, tupO [.int a k1, .int b k2, .int c k3, .int d k4]) ∈ news)
    (h : ∀ h' M (u : Tok) tk, Fr h₀ L h' m → News h₀ L h' news → (M = a ∨ M = b ∨ M = c ∨ M = d) → (M ≤ a ∧ M ≤ b ∧ M ≤ c ∧ M ≤ d) → Q (.int M u) { s with heap := h', toks := tk }) :
    wpAny (model prog w) A (call (.builtin "min") [.ref t]) Q E s := by
  refine min_intTup (xs := #[(a, k1), (b, k2), (c, k3), (d, k4)]) hh ⟨_, N.get hm, rfl, 0, by simp [intItems]⟩ (by show 0 < 4; decide) fun v h' tk hv hk => ?_
  obtain ⟨u, rfl⟩ := intItems_at hv
  obtain ⟨h1, h2⟩ := argBest_lt (numAt #[(a, k1), (b, k2), (c, k3), (d, k4)]) 3
  refine h _ _ u tk (F.grownK hk) (N.grown hk) ?_ ⟨h2 0 (by decide), h2 1 (by decide), h2 2 (by decide), h2 3 (by decide)⟩
  show numAt _ (argBest _ 3) = a ∨ _
  match hq : argBest (fun i j => decide (numAt #[(a, k1), (b, k2), (c, k3), (d, k4)] i < numAt #[(a, k1), (b, k2), (c, k3), (d, k4)] j)) 3, h1 with
  | 0, _ => exact .inl rfl
  | 1, _ => exact .inr (.inl rfl)
  | 2, _ => exact .inr (.inr (.inl rfl))
  | 3, _ => exact .inr (.inr (.inr rfl))
theorem max4 {t : Addr} {a b c d : Int} {k1 k2 k3 k4 : Tok} (hh : A.handled = none) (F : Fr h₀ L s.heap m) (N : News h₀ L s.heap news) (hm : (t, tupO [.int a k1, .int b k2, .int c k3, .int d k4]) ∈ news)
    (h : ∀ h' M (u : Tok) tk, Fr h₀ L h' m → News h₀ L h' news → (M = a ∨ M = b ∨ M = c ∨ M = d) → (a ≤ M ∧ b ≤ M ∧ c ≤ M ∧ d ≤ M) → Q (.int M u) { s with heap := h', toks := tk }) :
    wpAny (model prog w) A (call (.builtin "max") [.ref t]) Q E s := by
  refine max_intTup (xs := #[(a, k1), (b, k2), (c, k3), (d, k4)]) hh ⟨_, N.get hm, rfl, 0, by simp [intItems]⟩ (by show 0 < 4; decide) fun v h' tk hv hk => ?_
  obtain ⟨u, rfl⟩ := intItems_at hv
  obtain ⟨h1, h2⟩ := argBest_gt (numAt #[(a, k1), (b, k2), (c, k3), (d, k4)]) 3
  refine h _ _ u tk (F.grownK hk) (N.grown hk) ?_ ⟨h2 0 (by decide), h2 1 (by decide), h2 2 (by decide), h2 3 (by decide)⟩
  show numAt _ (argBest _ 3) = a ∨ _
  match hq : argBest (fun i j => decide (numAt #[(a, k1), (b, k2), (c, k3), (d, k4)] i > numAt #[(a, k1), (b, k2), (c, k3), (d, k4)] j)) 3, h1 with
  | 0, _ => exact .inl rfl
  | 1, _ => exact .inr (.inl rfl)
  | 2, _ => exact .inr (.inr (.inl rfl))
  | 3, _ => exact .inr (.inr (.inr rfl))
end
end Mine
end
noncomputable section
open PySem PySem.W PySem.Calls PyProof.Rows Mine
set_option Elab.async false
set_option maxRecDepth 100000
set_option maxHeartbeats 4000000
namespace Mine
section
variable {prog : Program} {w : World} {A : Around} {E : Value → Shared → Prop} {s : Shared} {h₀ : Heap} {L : Addr} {m mg mb : Str → Option Value} {news : List (Addr × Obj)} {Q : Value → Shared → Prop}
def iabs (a : Int) : Int := if a < 0 then -a else a
theorem comp_abs {env : Env} {scope : Scope} {p1 p2 p : Pos} {t : Addr} {a b c d : Int} {k1 k2 k3 k4 : Tok} (hh : A.handled = none) (F : Fr h₀ L s.heap m) (N : News h₀ L s.heap news) (hm : (t, tupO [.int a k1, .int b k2, .int c k3, .int d k4]) ∈ news)
    (hk : scope.kind = .function) (hka : ∀ C, (compEnv scope C env).kindOf "abs" = some .globalImplicit) (hkx : ∀ C, (compEnv scope C env).kindOf "x" = some .local)
    (hg : h₀.Ns env.globals mg) (hmiss : mg "abs" = none) (hb : h₀.Ns env.builtins mb) (hv : mb "abs" = some (.builtin "abs"))
    (h : ∀ D n u1 u2 u3 u4 h' tk, Fr h₀ L h' m → News h₀ L h' ((D, lstO [.int (iabs a) u1, .int (iabs b) u2, .int (iabs c) u3, .int (iabs d) u4] n) :: news) → Q (.ref D) { s with heap := h', toks := tk }) :
    wpAny (model prog w) A (pyIter (.ref t)) (CompPost prog w A env scope "x" [] (.Call (.Name "abs" p1) [.Name "x" p2] [] p) Q) E s := by
  have hlt : t < s.heap.objs.size := Heap.lt_size (N.get hm)
  have htup : s.heap.IsTuple t #[.int a k1, .int b k2, .int c k3, .int d k4] := ⟨_, N.get hm, rfl, _, rfl⟩
  refine wpAny_pyIter_tuple htup ?_
  refine ⟨fun _ => true, fun v r => ∃ i t₁ t₂, v = .int i t₁ ∧ r = .int (iabs i) t₂, s.heap.objs.size, [s.heap.objs.size, t], [s.heap.objs.size], 4, _, _, rfl, Walks.tuple hh _ t (Nat.ne_of_lt hlt) #[.int a k1, .int b k2, .int c k3, .int d k4], (by rw [sizeLine_eq]; decide),
    ⟨⟨_, Heap.get?_push_size _ rfl, rfl, rfl⟩, htup.push _⟩, ?_, ⟨?_, ?_⟩, ?_⟩
  · intro b' hb'
    show b' < (s.heap.push _).objs.size
    rw [Heap.size_push]
    rcases List.mem_cons.mp hb' with rfl | hb'
    · exact Nat.lt_succ_self _
    · rw [List.mem_singleton.mp hb']; exact Nat.lt_succ_of_lt hlt
  · intro C i v s₃ m₃ E' _ _ _ _ _
    exact wpAny_pure ⟨rfl, s₃.heap, s₃.toks, rfl, fun _ _ e => e⟩
  · intro C i v s₃ m₃ E' hP _ hn hx hkp _
    have up : ∀ b' o, s.heap.get? b' = some o → s₃.heap.get? b' = some o := fun b' o e => hkp b' o (fun hm' => Nat.lt_irrefl _ ((List.mem_singleton.mp hm') ▸ Heap.lt_size e)) (Heap.get?_push_of_some _ e)
    have hi : ∃ i₀ t₀, v = .int i₀ t₀ := by
      have hP' : (#[.int a k1, .int b k2, .int c k3, .int d k4] : Array Value)[i]? = some v := hP
      match i, hP' with
      | 0, h => exact ⟨_, _, (Option.some.inj h).symm⟩
      | 1, h => exact ⟨_, _, (Option.some.inj h).symm⟩
      | 2, h => exact ⟨_, _, (Option.some.inj h).symm⟩
      | 3, h => exact ⟨_, _, (Option.some.inj h).symm⟩
      | n + 4, h => simp at h
    obtain ⟨i₀, t₀, rfl⟩ := hi
    refine Call_Name1 (Name_function_global hk (hka C) (loadGlobal_builtin ((hg.keeps F.keep).keeps up) hmiss ((hb.keeps F.keep).keeps up) hv ?_)) rfl
    refine callWith_builtin rfl (evalArgs_plain (spliced_cons (wpAny_Name (wpAny_loadName_local hk (hkx C) hn hx (spliced_nil ?_)) (by decide))))
    exact call_abs_int fun u tk => ⟨⟨i₀, t₀, u, rfl, rfl⟩, s₃.heap, tk, rfl, fun _ _ e => e⟩
  · intro D h' tk ys vs hD hlD hplD hlen hP hF hk'
    have up : ∀ b' o, s.heap.get? b' = some o → h'.get? b' = some o := fun b' o e => hk' b' o (fun hm' => Nat.lt_irrefl _ ((List.mem_singleton.mp hm') ▸ Heap.lt_size e)) (Heap.get?_push_of_some _ e)
    have e' : vs = [.int a k1, .int b k2, .int c k3, .int d k4] := by simpa using walked_is (items := #[.int a k1, .int b k2, .int c k3, .int d k4]) hlen hP
    subst e'
    have hnone : h₀.get? D = none := by
      cases e : h₀.get? D with
      | none => rfl
      | some o' => rw [Heap.get?_push_of_some _ (F.keep _ _ e)] at hD; cases hD
    have hys : ∃ u1 u2 u3 u4, ys.toList = [.int (iabs a) u1, .int (iabs b) u2, .int (iabs c) u3, .int (iabs d) u4] := by
      rw [show List.filter (fun _ => true) [Value.int a k1, .int b k2, .int c k3, .int d k4] = [.int a k1, .int b k2, .int c k3, .int d k4] from rfl] at hF
      generalize ys.toList = yl at hF
      cases hF with | cons h1 hF => cases hF with | cons h2 hF => cases hF with | cons h3 hF => cases hF with | cons h4 hF => cases hF with | nil =>
        obtain ⟨_, _, u1, e1, rfl⟩ := h1
        obtain ⟨_, _, u2, e2, rfl⟩ := h2
        obtain ⟨_, _, u3, e3, rfl⟩ := h3
        obtain ⟨_, _, u4, e4, rfl⟩ := h4
        cases e1; cases e2; cases e3; cases e4
        exact ⟨u1, u2, u3, u4, rfl⟩
    obtain ⟨u1, u2, u3, u4, hys⟩ := hys
    have hys' : ys = [Value.int (iabs a) u1, .int (iabs b) u2, .int (iabs c) u3, .int (iabs d) u4].toArray := by rw [← hys, Array.toArray_toList]
    subst hys'
    obtain ⟨n, N2⟩ := made_enters (items := [Value.int (iabs a) u1, .int (iabs b) u2, .int (iabs c) u3, .int (iabs d) u4].toArray) ⟨hplD, fun p hp e => by rw [← e, Heap.get?_push_of_some _ (N p hp).1] at hD; cases hD⟩ (F.keeps up) (N.grown up) hnone
    exact h D n u1 u2 u3 u4 h' tk (F.keeps up) N2
end
end Mine
end
noncomputable section
open PySem PySem.W PySem.Calls PyProof.Rows Mine
set_option Elab.async false
set_option maxRecDepth 100000
set_option maxHeartbeats 4000000
namespace Mine
theorem law_good {c : ClaimW} {cl : Str → Option Addr} {mean : ExcName → Option Value} {args : List WData} {s₁ s' : Shared} {tabs : List (Addr × Addr)} {L : Addr} {m : Str → Option Value} {b : Bool} (hT : TabsAt tabs s₁.heap) (F : Fr (ghostOf s₁.heap tabs) L s'.heap m) (hgr : GrownAll tabs s'.heap)
    (hg : AllBare s'.gens) (hn : ∀ cls, c.raises args cls = false) (hp : c.post args (.bool b) args = true) (hos : s'.os = s₁.os) : GoodWG c cl mean args s₁ (.ok (.ret (.bool b))) s' := by
  have keep : ∀ b o, b ∉ tabs.map (·.2) → s₁.heap.get? b = some o → s'.heap.get? b = some o := fun b o hb e => F.keep b o (ghost_ne e hb)
  have grown : ∀ b o, b ∈ tabs.map (·.2) → s₁.heap.get? b = some o → isCodeTable s₁.heap b ∧ o = tabObj #[] ∧ ∃ ps, s'.heap.get? b = some (tabObj ps) := fun b o hb e => by
    obtain ⟨q, hq, rfl⟩ := List.mem_map.mp hb
    have e2 := (hT q hq).2
    rw [e] at e2
    exact ⟨((hT q hq).1.tab (hT q hq).2).isCodeTable, Option.some.inj e2, hgr.get q hq⟩
  refine ⟨.inl ⟨.bool b, .bool b, [], rfl, hn, .bool b, hp, fun _ => ⟨.nil, fun _ h => nomatch h⟩⟩, ⟨fun b o e => ?_, fun b o e => ?_⟩, hos, hg⟩
  · by_cases hb : b ∈ tabs.map (·.2)
    · obtain ⟨ht, rfl, ps, hP⟩ := grown b o hb e
      exact .inr (.inl ⟨ht, rfl, #[], ps, rfl, by rw [Array.empty_append]; exact hP⟩)
    · exact .inl (keep b o hb e)
  · by_cases hb : b ∈ tabs.map (·.2)
    · obtain ⟨_, _, ps, hP⟩ := grown b o hb e
      exact ⟨_, hP⟩
    · exact ⟨o, keep b o hb e⟩
end Mine
end
noncomputable section
open PySem PySem.W PySem.Calls PyProof.Rows Mine Builtin Builtin.Str
set_option Elab.async false
set_option maxRecDepth 100000
set_option maxHeartbeats 4000000
namespace Mine
def occL (o : List Nat) : Nat → Nat → List Nat → List Nat
  | _, _, [] => []
  | i, 0, c :: x => if (c :: x).take o.length = o then i :: occL o (i + 1) (o.length - 1) x else occL o (i + 1) 0 x
  | i, k + 1, _ :: x => occL o (i + 1) k x
/-- replace, on plain lists: from the left, what is found gives way, and is not looked at again -/
def rp {α : Type} [DecidableEq α] (o n : List α) : Nat → List α → List α
  | _, [] => []
  | 0, c :: x => if (c :: x).take o.length = o then n ++ rp o n (o.length - 1) x else c :: rp o n 0 x
  | k + 1, _ :: x => rp o n k x
theorem occ_list (s sub : Str) (limit : Nat) (ho : 1 ≤ sub.length) : ∀ (n i : Nat) (found : Array Nat) (free : Nat), i + n = s.length + 1 → found.size + n ≤ limit →
    (forIn (List.range' i n) (found, free) (StrLaws.occBody s sub s.length limit)).run.fst.toList = found.toList ++ occL sub.cps.toList i (free - i) (s.cps.toList.drop i)
  | 0, i, found, free, hi, _ => by
    have e : s.cps.toList.drop i = [] := List.drop_eq_nil_of_le (by show s.cps.toList.length ≤ i; rw [Array.length_toList]; show s.length ≤ i; omega)
    rw [e, occL]
    simp
  | n + 1, i, found, free, hi, hl => by
    rw [List.range'_succ, List.forIn_cons]
    have hlen : s.cps.toList.length = s.length := Array.length_toList
    have hol : sub.cps.toList.length = sub.length := Array.length_toList
    unfold StrLaws.occBody
    by_cases hend : i < s.length
    · have hd : s.cps.toList.drop i = s.cps.toList[i]'(by omega) :: s.cps.toList.drop (i + 1) := List.drop_eq_getElem_cons (by omega)
      by_cases hf : free ≤ i
      · have hz : free - i = 0 := by omega
        by_cases hm : (s.cps.toList.drop i).take sub.cps.toList.length = sub.cps.toList
        · have hsz : i + sub.length ≤ s.length := by
            have e := congrArg List.length hm
            rw [List.length_take, List.length_drop, hlen, hol] at e
            omega
          have hat : subAt s sub i = true := by rw [StrLaws.subAt_eq, beq_iff_eq, ← hol]; exact hm
          rw [if_pos ⟨⟨⟨by dsimp only; omega, hf⟩, hsz⟩, hat⟩]
          have ih := occ_list s sub limit ho n (i + 1) (found.push i) (i + sub.length) (by omega) (by rw [Array.size_push]; omega)
          refine Eq.trans ih ?_
          rw [hd] at hm ⊢
          rw [hz, occL, if_pos hm, Array.toList_push, List.append_assoc]
          have e : i + sub.length - (i + 1) = sub.cps.toList.length - 1 := by omega
          rw [e]; rfl
        · have hat : ¬ subAt s sub i = true := by rw [StrLaws.subAt_eq, beq_iff_eq, ← hol]; exact hm
          rw [if_neg fun h => hat h.2]
          have ih := occ_list s sub limit ho n (i + 1) found free (by omega) (by omega)
          refine Eq.trans ih ?_
          rw [hd] at hm ⊢
          rw [hz, occL, if_neg hm, show free - (i + 1) = 0 by omega]
      · rw [if_neg fun h => hf h.1.1.2]
        have ih := occ_list s sub limit ho n (i + 1) found free (by omega) (by omega)
        refine Eq.trans ih ?_
        rw [hd, show free - i = (free - (i + 1)) + 1 by omega, occL]
    · have e : s.cps.toList.drop i = [] := List.drop_eq_nil_of_le (by omega)
      have e' : s.cps.toList.drop (i + 1) = [] := List.drop_eq_nil_of_le (by omega)
      rw [if_neg fun h => by have := h.1.2; omega]
      have ih := occ_list s sub limit ho n (i + 1) found free (by omega) (by omega)
      refine Eq.trans ih ?_
      rw [e, e', occL, occL]
def gl (X N : List Nat) (w : Nat) : Nat → List Nat → List Nat
  | a, [] => X.drop a
  | a, c :: cs => (X.drop a).take (c - a) ++ N ++ gl X N w (c + w) cs
theorem glue_list (x n : Str) (w : Nat) : ∀ (cuts : List Nat) (a : Nat), (glued n (((a :: cuts.map (· + w)).zip (cuts ++ [x.length])).map fun (i, j) => strSub x i j)).cps.toList = gl x.cps.toList n.cps.toList w a cuts
  | [], a => by
    rw [StrLaws.glued_eq_join]
    show (strSub x a x.length).cps.toList = _
    rw [StrLaws.strSub_toList, gl]
    refine List.take_of_length_le ?_
    rw [List.length_drop, Array.length_toList]
    exact Nat.le_refl _
  | c :: cs, a => by
    have ih := glue_list x n w cs (c + w)
    rw [StrLaws.glued_eq_join] at ih ⊢
    have e : (((a :: (c :: cs).map (· + w)).zip ((c :: cs) ++ [x.length])).map fun (i, j) => strSub x i j) = strSub x a c :: ((((c + w) :: cs.map (· + w)).zip (cs ++ [x.length])).map fun (i, j) => strSub x i j) := rfl
    rw [e]
    obtain ⟨y, r, hr⟩ : ∃ y r, ((((c + w) :: cs.map (· + w)).zip (cs ++ [x.length])).map fun (i, j) => strSub x i j) = y :: r := by
      cases cs with
      | nil => exact ⟨_, _, rfl⟩
      | cons d ds => exact ⟨_, _, rfl⟩
    rw [hr] at ih ⊢
    show (strSub x a c ++ n ++ Str.join n (y :: r)).cps.toList = _
    rw [Str.cps_append, Str.cps_append, Array.toList_append, Array.toList_append, ih, StrLaws.strSub_toList, gl]
theorem gl_rp (X o N : List Nat) (ho : 1 ≤ o.length) : ∀ (y : List Nat) (i : Nat), X.drop i = y →
    (∀ a, a ≤ i → gl X N o.length a (occL o i 0 y) = (X.drop a).take (i - a) ++ rp o N 0 y) ∧ (∀ k, gl X N o.length (i + k) (occL o i k y) = rp o N k y)
  | [], i, h => by
    have hle : X.length ≤ i := List.drop_eq_nil_iff.mp h
    refine ⟨fun a ha => ?_, fun k => ?_⟩
    · rw [occL, gl, rp, List.append_nil, List.take_of_length_le (by rw [List.length_drop]; omega)]
    · rw [occL, gl, rp, List.drop_eq_nil_of_le (by omega)]
  | c :: y, i, h => by
    have h' : X.drop (i + 1) = y := by rw [← List.drop_drop, h]; rfl
    have hc : X[i]? = some c := by
      have e : (X.drop i)[0]? = some c := by rw [h]; rfl
      rwa [List.getElem?_drop, Nat.add_zero] at e
    obtain ⟨ih1, ih2⟩ := gl_rp X o N ho y (i + 1) h'
    have first : ∀ a, a ≤ i → gl X N o.length a (occL o i 0 (c :: y)) = (X.drop a).take (i - a) ++ rp o N 0 (c :: y) := by
      intro a ha
      rw [occL, rp]
      by_cases hm : (c :: y).take o.length = o
      · rw [if_pos hm, if_pos hm, gl, show i + o.length = (i + 1) + (o.length - 1) by omega, ih2, List.append_assoc]
      · rw [if_neg hm, if_neg hm, ih1 a (by omega), show i + 1 - a = (i - a) + 1 by omega, List.take_add_one, List.getElem?_drop, show a + (i - a) = i by omega, hc, List.append_assoc]
        rfl
    refine ⟨first, fun k => ?_⟩
    cases k with
    | zero =>
      have := first i (Nat.le_refl _)
      rw [Nat.sub_self, List.take_zero, List.nil_append] at this
      exact this
    | succ k =>
      rw [occL, rp, show i + (k + 1) = (i + 1) + k by omega]
      exact ih2 k
theorem rp_short {α : Type} [DecidableEq α] (o n : List α) : ∀ y : List α, y.length < o.length → rp o n 0 y = y
  | [], _ => rfl
  | c :: y, h => by
    have hm : ¬ (c :: y).take o.length = o := fun e => by
      have := congrArg List.length e
      rw [List.length_take] at this
      omega
    rw [rp, if_neg hm, rp_short o n y (Nat.lt_trans (Nat.lt_succ_self _) h)]
theorem kind_ge (x : Str) : 1 ≤ Builtin.Str.strKind x := by unfold Builtin.Str.strKind; split; exact Nat.le_refl _; split <;> decide
theorem repl_rp (x o n : Str) (ho : 1 ≤ o.length) (hk : Builtin.Str.strKind o = 1) : (repl x o n).cps.toList = rp o.cps.toList n.cps.toList 0 x.cps.toList := by
  have hol : o.cps.toList.length = o.length := Array.length_toList
  have hxl : x.cps.toList.length = x.length := Array.length_toList
  have h1 : ∀ x : Str, glued n [x] = x := fun x => (StrLaws.glued_eq_join n [x]).trans rfl
  have hocc : occurrences x o 0 x.length (x.length + 1) = occL o.cps.toList 0 0 x.cps.toList := by
    rw [StrLaws.occ_eq]
    exact (occ_list x o (x.length + 1) ho (x.length + 1) 0 #[] 0 (by omega) (by simp)).trans (by simp)
  have hC := ((gl_rp x.cps.toList o.cps.toList n.cps.toList (by omega) x.cps.toList 0 rfl).1 0 (Nat.le_refl _))
  rw [Nat.sub_self, List.take_zero, List.nil_append] at hC
  unfold repl Txt.join Txt.split
  split
  · rename_i h
    rw [h1]
    have hlt : x.length < o.length := by
      rcases (Bool.or_eq_true _ _).mp h with h | h
      · exact of_decide_eq_true h
      · have h2 := of_decide_eq_true h
        have := kind_ge x
        omega
    rw [rp_short _ _ _ (by omega)]
  · split
    · rename_i h
      rw [h1, ← hC]
      rw [hocc] at h
      rw [List.isEmpty_iff.mp h, gl]; rfl
    · rw [hocc, ← hC, ← hol]
      exact glue_list x n _ _ 0
section
variable {α β : Type} [DecidableEq α] [DecidableEq β]
theorem map_inj' {f : α → β} (hf : ∀ a b, f a = f b → a = b) : ∀ {x y : List α}, x.map f = y.map f → x = y
  | [], [], _ => rfl
  | [], _ :: _, h => by cases h
  | _ :: _, [], h => by cases h
  | a :: x, b :: y, h => by
    rw [List.map_cons, List.map_cons] at h
    injection h with h1 h2
    rw [hf a b h1, map_inj' hf h2]
theorem rp_map {f : α → β} (hf : ∀ a b, f a = f b → a = b) (o n : List α) : ∀ (x : List α) (k : Nat), rp (o.map f) (n.map f) k (x.map f) = (rp o n k x).map f
  | [], k => by cases k <;> rfl
  | c :: x, 0 => by
    have hm : ((c :: x).map f).take (o.map f).length = o.map f ↔ (c :: x).take o.length = o := by
      rw [List.length_map, ← List.map_take]
      exact ⟨fun h => map_inj' hf h, fun h => by rw [h]⟩
    rw [List.map_cons, rp, rp]
    rw [List.map_cons] at hm
    by_cases h : (c :: x).take o.length = o
    · rw [if_pos h, if_pos (hm.mpr h), List.map_append, List.length_map, rp_map hf o n x]
    · rw [if_neg h, if_neg fun e => h (hm.mp e), List.map_cons]
      have := rp_map hf o n x 0
      rw [this]
  | c :: x, k + 1 => by
    rw [List.map_cons, rp, rp]
    exact rp_map hf o n x k
theorem rp_nil_len (o : List α) : ∀ (x : List α) (k : Nat), (rp o [] k x).length ≤ x.length
  | [], k => by cases k <;> exact Nat.le_refl _
  | c :: x, 0 => by
    rw [rp]
    split
    · exact Nat.le_trans (rp_nil_len o x _) (Nat.le_succ _)
    · rw [List.length_cons, List.length_cons]; exact Nat.succ_le_succ (rp_nil_len o x 0)
  | c :: x, k + 1 => Nat.le_trans (rp_nil_len o x k) (Nat.le_succ _)
theorem rp_nil_same (o : List α) : ∀ x : List α, (rp o [] 0 x).length = x.length → rp o [] 0 x = x ∧ ∀ i, i < x.length → ¬ (x.drop i).take o.length = o
  | [], _ => ⟨rfl, fun i hi => absurd hi (Nat.not_lt_zero _)⟩
  | c :: x, h => by
    rw [rp] at h ⊢
    by_cases hm : (c :: x).take o.length = o
    · rw [if_pos hm] at h
      have := rp_nil_len o x (o.length - 1)
      rw [List.nil_append, List.length_cons] at h
      omega
    · rw [if_neg hm] at h ⊢
      rw [List.length_cons, List.length_cons] at h
      obtain ⟨h1, h2⟩ := rp_nil_same o x (by omega)
      refine ⟨by rw [h1], fun i hi => ?_⟩
      cases i with
      | zero => exact hm
      | succ i => exact h2 i (by rw [List.length_cons] at hi; omega)
end
end Mine
end
noncomputable section
open PySem PySem.W PySem.Calls PyProof.Rows Mine
set_option Elab.async false
set_option maxRecDepth 100000
set_option maxHeartbeats 4000000
namespace Mine
def seek (i : Nat) : List (Str × Str) := if i = 0 then List.replicate 2 (Str.ofString "s", Str.ofString "") else List.replicate 3 (Str.ofString "", Str.ofString "r")
def cutW (k : List (Str × Str)) (x : List (Str × Str)) : List (Str × Str) := if x.drop (x.length - k.length) = k then x.take (x.length - k.length) else x
def putN (x : List (Str × Str)) : Nat → List (Str × Str)
  | 0 => x
  | n + 1 => cutW (seek n) (putN x n)
theorem cutW_len (k x : List (Str × Str)) : (cutW k x).length ≤ x.length := by
  unfold cutW; split
  · rw [List.length_take]; omega
  · exact Nat.le_refl _
theorem putN_len (x : List (Str × Str)) : ∀ n, (putN x n).length ≤ x.length
  | 0 => Nat.le_refl _
  | n + 1 => Nat.le_trans (cutW_len _ _) (putN_len x n)
theorem seek_len (i : Nat) : (seek i).length ≤ 3 := by unfold seek; split <;> decide
theorem put_len {pcs pcs₁ : List Pc} {q : Str × Str} {i : Nat} (h : pcs₁.map Pc.fp = putN (pcs.map Pc.fp ++ [q]) i) : pcs₁.length ≤ pcs.length + 1 := by
  have e := congrArg List.length h
  have e2 := putN_len (pcs.map Pc.fp ++ [q]) i
  rw [← e] at e2
  simpa only [List.length_append, List.length_map, List.length_singleton] using e2
theorem seek_len' {ps : List Pc} {i : Nat} (h : ps.map Pc.fp = seek i) : ps.length ≤ 3 := by
  have e := congrArg List.length h
  have e2 := seek_len i
  rw [← e, List.length_map] at e2
  exact e2
theorem ok_s : PyData.strOk (Str.ofString "s") = true := by decide +kernel
theorem ok_r : PyData.strOk (Str.ofString "r") = true := by decide +kernel
theorem ok_e : PyData.strOk (Str.ofString "") = true := by decide +kernel
theorem cutW_sub {k x : List (Str × Str)} {q : Str × Str} (h : q ∈ cutW k x) : q ∈ x := by
  unfold cutW at h; split at h
  · exact List.mem_of_mem_take h
  · exact h
theorem putN_sub {x : List (Str × Str)} {q : Str × Str} : ∀ n, q ∈ putN x n → q ∈ x
  | 0, h => h
  | n + 1, h => putN_sub n (cutW_sub h)
theorem fpOk_put {pcs pcs₁ : List Pc} {q : Str × Str} {i : Nat} (h : pcs₁.map Pc.fp = putN (pcs.map Pc.fp ++ [q]) i) (ok : ∀ c ∈ pcs, fpOk c.fp) (oq : fpOk q) : ∀ c ∈ pcs₁, fpOk c.fp := by
  intro c hc
  have h1 : c.fp ∈ putN (pcs.map Pc.fp ++ [q]) i := h ▸ List.mem_map_of_mem hc
  rcases List.mem_append.mp (putN_sub i h1) with h2 | h2
  · obtain ⟨c', hc', e⟩ := List.mem_map.mp h2
    rw [← e]; exact ok c' hc'
  · rw [List.mem_singleton.mp h2]; exact oq
theorem fpOk_seek {ps : List Pc} {i : Nat} (h : ps.map Pc.fp = seek i) : ∀ c ∈ ps, fpOk c.fp := by
  intro c hc
  have h1 : c.fp ∈ seek i := h ▸ List.mem_map_of_mem hc
  unfold seek at h1
  split at h1 <;> rw [List.eq_of_mem_replicate h1] <;> exact ⟨by decide +kernel, by decide +kernel⟩
theorem cut_eq {pcs₁ ps : List Pc} {x k : List (Str × Str)} (hT : pcs₁.map Pc.fp = x) (hs : ps.map Pc.fp = k) (e : (pcs₁.drop (pcs₁.length - ps.length)).map Pc.fp = ps.map Pc.fp) : (pcs₁.take (pcs₁.length - ps.length)).map Pc.fp = cutW k x := by
  subst hT hs
  unfold cutW
  rw [List.length_map, List.length_map, ← List.map_drop, if_pos e, List.map_take]
theorem cut_ne {pcs₁ ps : List Pc} {x k : List (Str × Str)} (hT : pcs₁.map Pc.fp = x) (hs : ps.map Pc.fp = k) (e : ¬ (pcs₁.drop (pcs₁.length - ps.length)).map Pc.fp = ps.map Pc.fp) :
    (pcs₁.take (pcs₁.length - ps.length)).map Pc.fp ++ ((pcs₁.drop (pcs₁.length - ps.length)).map Pc.fp).take (List.map Pc.v (pcs₁.drop (pcs₁.length - ps.length))).length = cutW k x := by
  subst hT hs
  unfold cutW
  have h1 : ((pcs₁.drop (pcs₁.length - ps.length)).map Pc.fp).take (List.map Pc.v (pcs₁.drop (pcs₁.length - ps.length))).length = (pcs₁.drop (pcs₁.length - ps.length)).map Pc.fp := List.take_of_length_le (by simp)
  rw [h1, ← List.map_append, List.take_append_drop, List.length_map, List.length_map, ← List.map_drop, if_neg e]
theorem take_next {l : List Pc} {base : List (Str × Str)} {q : List (Str × Str)} {j : Nat} {c : Pc} (h : l[j]? = some c) (hq : q = base ++ (l.map Pc.fp).take j) : q ++ [c.fp] = base ++ (l.map Pc.fp).take (j + 1) := by
  rw [hq, List.append_assoc, List.take_add_one, List.getElem?_map, h]; rfl
theorem get_v {l : List Pc} {j : Nat} {v : Value} (h : (l.map Pc.v)[j]? = some v) : ∃ c, l[j]? = some c ∧ v = c.v := by
  rw [List.getElem?_map] at h
  obtain ⟨c, h1, h2⟩ := Option.map_eq_some_iff.mp h
  exact ⟨c, h1, h2.symm⟩
def firstOf (x : Str) : Str × Str := if x = Str.ofString "s" then (Str.ofString "s", Str.ofString "") else (Str.ofString "", Str.ofString "r")
theorem firstOf_s {x : Str} (h : (x == Str.ofString "s") = true) : firstOf x = (Str.ofString "s", Str.ofString "") := by unfold firstOf; rw [if_pos (by simpa using h)]
theorem firstOf_r {x : Str} (h : (x == Str.ofString "s") = false) : firstOf x = (Str.ofString "", Str.ofString "r") := by unfold firstOf; rw [if_neg (by simpa using h)]
def PJ (C pl d : Addr) (gs₀ : Array GenState) (news₀ : List (Addr × Obj)) (T : Nat → List (Str × Str)) : Inv := fun i m₁ news₁ gs =>
  gs = gs₀ ∧ (∃ mr, m₁ = lay [(Str.ofString "pile", .ref pl)] mr) ∧ Keeps pl news₀ news₁ ∧ ∃ pcs, Pile C news₁ pl d pcs ∧ pcs.map Pc.fp = T i
def SoughtAt (X : List (Addr × Obj)) (T0 : Addr) : Prop := ∃ S0 S1 X0 X1 b1 b2 a1 a2, (T0, tupO [.ref S0, .ref S1]) ∈ X ∧ (S0, lstO [.ref X0, .ref X0] 0) ∈ X ∧ (S1, lstO [.ref X1, .ref X1, .ref X1] 0) ∈ X ∧
  (X0, tupO [.str (Str.ofString "s") b1, .str (Str.ofString "") b2]) ∈ X ∧ (X1, tupO [.str (Str.ofString "") a1, .str (Str.ofString "r") a2]) ∈ X
theorem put_start {h₀ h hb hO : Heap} {L Lb T0 S0 S1 X0 X1 t' pl d C : Addr} {e1 e2 e3 : Addr × Obj} {b1 b2 a1 a2 c1 c2 : Tok} {f p : Str} {pcs : List Pc} {n' : Nat} {news : List (Addr × Obj)} (P : Pile C news pl d pcs) (NO : News hb Lb hO news)
    (N : News h₀ L h ((T0, tupO [.ref S0, .ref S1]) :: (S1, lstO [.ref X1, .ref X1, .ref X1] 0) :: e1 :: (X1, tupO [.str (Str.ofString "") a1, .str (Str.ofString "r") a2]) :: (S0, lstO [.ref X0, .ref X0] 0) :: e2 ::
      (X0, tupO [.str (Str.ofString "s") b1, .str (Str.ofString "") b2]) :: (t', tupO [.str f c1, .str p c2]) :: setAt pl (pileO C d (pcs.map Pc.v ++ [.ref t']) n') (e3 :: news))) :
    ∃ X, News h₀ L h X ∧ SoughtAt X T0 ∧ Pile C X pl d (pcs ++ [⟨t', f, c1, p, c2⟩]) ∧ Keeps pl news X := by
  refine ⟨_, N, ⟨S0, S1, X0, X1, b1, b2, a1, a2, by simp, by simp, by simp, by simp, by simp⟩, ?_, ?_⟩
  · obtain ⟨n, h1⟩ := P.obj
    refine P.moved NO ?_ (n := n') ?_ fun c hc => ?_
    · exact Keeps.cons (Keeps.cons (Keeps.cons (Keeps.cons (Keeps.cons (Keeps.cons (Keeps.cons (Keeps.cons fun q hq e => setAt_tail (setAt_mem hq e))))))))
    · rw [List.map_append]
      iterate 8 refine List.Mem.tail _ ?_
      exact setAt_self (List.Mem.tail _ h1)
    · rcases List.mem_append.mp hc with hc | hc
      · exact .inl hc
      · rw [List.mem_singleton.mp hc]; exact .inr (by simp)
  · exact Keeps.cons (Keeps.cons (Keeps.cons (Keeps.cons (Keeps.cons (Keeps.cons (Keeps.cons (Keeps.cons fun q hq e => setAt_tail (setAt_mem hq e))))))))
theorem sought_turn {X : List (Addr × Obj)} {T0 : Addr} {i : Nat} {v : Value} {items : List Value} (H : ∃ S0 S1 X0 X1 b1 b2 a1 a2, items = [.ref S0, .ref S1] ∧ (S0, lstO [.ref X0, .ref X0] 0) ∈ X ∧ (S1, lstO [.ref X1, .ref X1, .ref X1] 0) ∈ X ∧
  (X0, tupO [.str (Str.ofString "s") b1, .str (Str.ofString "") b2]) ∈ X ∧ (X1, tupO [.str (Str.ofString "") a1, .str (Str.ofString "r") a2]) ∈ X) (hv : items[i]? = some v) :
    ∃ (S : Addr) (ps : List Pc), v = .ref S ∧ (S, lstO (ps.map Pc.v) 0) ∈ X ∧ (∀ c ∈ ps, (c.a, c.obj) ∈ X) ∧ ps.map Pc.fp = seek i := by
  obtain ⟨S0, S1, X0, X1, b1, b2, a1, a2, rfl, h1, h2, h3, h4⟩ := H
  match i, hv with
  | 0, hv =>
    refine ⟨S0, [⟨X0, _, b1, _, b2⟩, ⟨X0, _, b1, _, b2⟩], (Option.some.inj hv).symm, h1, ?_, rfl⟩
    intro c hc
    simp only [List.mem_cons, List.not_mem_nil, or_false, or_self] at hc
    subst hc; exact h3
  | 1, hv =>
    refine ⟨S1, [⟨X1, _, a1, _, a2⟩, ⟨X1, _, a1, _, a2⟩, ⟨X1, _, a1, _, a2⟩], (Option.some.inj hv).symm, h2, ?_, rfl⟩
    intro c hc
    simp only [List.mem_cons, List.not_mem_nil, or_false, or_self] at hc
    subst hc; exact h4
  | n + 2, hv => simp at hv
end Mine
end
noncomputable section
open PySem PySem.W PySem.Calls PyProof.Rows Mine
set_option Elab.async false
set_option maxRecDepth 100000
set_option maxHeartbeats 4000000
namespace Mine
structure Mat where
  a : Int
  b : Int
  c : Int
  d : Int
  deriving DecidableEq
def Mat.mul (x y : Mat) : Mat := ⟨x.a*y.a+x.b*y.c, x.a*y.b+x.b*y.d, x.c*y.a+x.d*y.c, x.c*y.b+x.d*y.d⟩
abbrev Mat.le (x : Mat) (B : Int) : Prop := -B ≤ x.a ∧ x.a ≤ B ∧ -B ≤ x.b ∧ x.b ≤ B ∧ -B ≤ x.c ∧ x.c ≤ B ∧ -B ≤ x.d ∧ x.d ≤ B
abbrev Mat.obj (x : Mat) (k1 k2 k3 k4 : Tok) : Obj := tupO [.int x.a k1, .int x.b k2, .int x.c k3, .int x.d k4]
def MatIn (l : List (Addr × Obj)) (t : Addr) (x : Mat) : Prop := ∃ k1 k2 k3 k4, (t, x.obj k1 k2 k3 k4) ∈ l
def rIter (x : Mat) : Nat → Mat
  | 0 => x
  | n + 1 => Mat.mul ⟨1, 1, -1, 0⟩ (rIter x n)
def sIter (x : Mat) : Nat → Mat
  | 0 => x
  | n + 1 => Mat.mul (sIter x n) ⟨0, 1, -1, 0⟩
theorem rIter_le {x : Mat} {B : Int} (h : x.le B) : ∀ n : Nat, (rIter x n).le (B * 2 ^ n)
  | 0 => by simpa [rIter] using h
  | n + 1 => by
    obtain ⟨h1, h2, h3, h4, h5, h6, h7, h8⟩ := rIter_le h n
    rw [Int.pow_succ, ← Int.mul_assoc]
    simp only [rIter, Mat.mul, Mat.le]
    generalize B * 2 ^ n = C at *
    omega
theorem sIter_le {x : Mat} {B : Int} (h : x.le B) : ∀ n : Nat, (sIter x n).le B
  | 0 => h
  | n + 1 => by
    obtain ⟨h1, h2, h3, h4, h5, h6, h7, h8⟩ := sIter_le h n
    simp only [sIter, Mat.mul, Mat.le]
    omega
def leftOf (M : Mat) (i j : Nat) : Mat := sIter (rIter M i) j
def rs (i : Nat) : Str := ⟨Array.replicate i 114⟩
def ss (j : Nat) : Str := ⟨Array.replicate j 115⟩
theorem rs_len (i : Nat) : (rs i).length = i := Array.size_replicate
theorem ss_len (i : Nat) : (ss i).length = i := Array.size_replicate
def subL (l l' : List (Addr × Obj)) : Prop := ∀ q ∈ l, q ∈ l'
theorem subL.but {I : Addr} {o : Obj} {n₀ n₁ X : List (Addr × Obj)} (h : subL n₀ n₁) (hne : ∀ q ∈ n₁, q.1 ≠ I) (h2 : subL ((I, o) :: n₁) X) : subL n₀ (but I X) :=
  fun q hq => but_mem.mpr ⟨h2 q (.tail _ (h q hq)), hne q (h q hq)⟩
theorem subL.refl (l : List (Addr × Obj)) : subL l l := fun _ h => h
theorem subL.cons {x : Addr × Obj} {l l' : List (Addr × Obj)} (h : subL l l') : subL l (x :: l') := fun q hq => .tail _ (h q hq)
theorem subL.trans {l₁ l₂ l₃ : List (Addr × Obj)} (a : subL l₁ l₂) (b : subL l₂ l₃) : subL l₁ l₃ := fun q h => b q (a q h)
/-- the frame's names and what is kept, for a loop that changes nothing old -/
theorem tail2 {h₀ h : Heap} {L : Addr} {q x y : Addr × Obj} {l : List (Addr × Obj)} (hq : q ∈ l) (_N : News h₀ L h (x :: y :: l)) : q ∈ x :: y :: l := .tail _ (.tail _ hq)
def RJ (gs₀ : Array GenState) (news₀ : List (Addr × Obj)) (nm : List (Str × Value)) (D : Nat → Prop) : Inv := fun i m₁ news₁ gs =>
  gs = gs₀ ∧ (∃ mr, m₁ = lay nm mr) ∧ subL news₀ news₁ ∧ D i
def RJm (gs₀ : Array GenState) (news₀ : List (Addr × Obj)) (nm : Addr → List (Str × Value)) (f : Nat → Mat) : Inv := fun i m₁ news₁ gs =>
  gs = gs₀ ∧ subL news₀ news₁ ∧ ∃ t, (∃ mr, m₁ = lay (nm t) mr) ∧ MatIn news₁ t (f i)
theorem rs_items {i : Nat} {v : Value} {t0 t1 t2 : Tok} (h : ([.str (Str.ofString "") t0, .str (Str.ofString "r") t1, .str (Str.ofString "rr") t2] : List Value)[i]? = some v) : ∃ t, v = .str (rs i) t ∧ i < 3 := by
  match i, h with
  | 0, h => exact ⟨t0, (Option.some.inj h).symm, by decide⟩
  | 1, h => exact ⟨t1, (Option.some.inj h).symm, by decide⟩
  | 2, h => exact ⟨t2, (Option.some.inj h).symm, by decide⟩
  | n + 3, h => simp at h
theorem ss_items {i : Nat} {v : Value} {t0 t1 : Tok} (h : ([.str (Str.ofString "") t0, .str (Str.ofString "s") t1] : List Value)[i]? = some v) : ∃ t, v = .str (ss i) t ∧ i < 2 := by
  match i, h with
  | 0, h => exact ⟨t0, (Option.some.inj h).symm, by decide⟩
  | 1, h => exact ⟨t1, (Option.some.inj h).symm, by decide⟩
  | n + 2, h => simp at h
theorem Mat.le_mono {x : Mat} {B C : Int} (h : x.le B) (e : B ≤ C) : x.le C := by
  obtain ⟨h1, h2, h3, h4, h5, h6, h7, h8⟩ := h
  simp only [Mat.le]; omega
theorem rIter_le3 {x : Mat} (h : x.le 1073741824) {n : Nat} (hn : n < 3) : (rIter x n).le 1000000000000 := by
  match n, hn with
  | 0, _ => exact Mat.le_mono (x := rIter x 0) (rIter_le h 0) (by decide)
  | 1, _ => exact Mat.le_mono (x := rIter x 1) (rIter_le h 1) (by decide)
  | 2, _ => exact Mat.le_mono (x := rIter x 2) (rIter_le h 2) (by decide)
def Mat.abs (x : Mat) : Mat := ⟨iabs x.a, iabs x.b, iabs x.c, iabs x.d⟩
abbrev Mat.one : Mat → Prop := fun x => x.a = 1 ∧ x.b = 0 ∧ x.c = 0 ∧ x.d = 1
abbrev Mat.small (x : Mat) : Prop := 0 ≤ x.a ∧ x.a ≤ 1000000000000 ∧ 0 ≤ x.b ∧ x.b ≤ 1000000000000 ∧ 0 ≤ x.c ∧ x.c ≤ 1000000000000 ∧ 0 ≤ x.d ∧ x.d ≤ 1000000000000
abbrev Mat.test (x : Mat) : Prop := (0 ≤ x.a ∧ 0 ≤ x.b ∧ 0 ≤ x.c ∧ 0 ≤ x.d) ∨ (x.a ≤ 0 ∧ x.b ≤ 0 ∧ x.c ≤ 0 ∧ x.d ≤ 0)
abbrev cat (x y : Str) : Str := x ++ y
def euclid : Nat → Mat → Str → Option Str
  | 0, _, _ => none
  | n + 1, x, w => if x.small ∧ w.length ≤ 1000 then (if x.one then some w else if x.c ≤ x.a ∧ x.d ≤ x.b then euclid n ⟨x.a - x.c, x.b - x.d, x.c, x.d⟩ (cat w (Str.ofString "sr")) else euclid n ⟨x.a, x.b, x.c - x.a, x.d - x.b⟩ (cat w (Str.ofString "srr"))) else none
def scanM (M : Mat) : List (Nat × Nat) → Option Str
  | [] => none
  | (i, j) :: r => if (leftOf M i j).test then (euclid 60 (leftOf M i j).abs (rs i)).map fun w => cat w (ss j) else scanM M r
def pairsM : List (Nat × Nat) := [(0, 0), (0, 1), (1, 0), (1, 1), (2, 0), (2, 1)]
def readM (M : Mat) : Option Str := scanM M pairsM
theorem pairs_at {i j : Nat} (hi : i < 3) (hj : j < 2) : pairsM.drop (2 * i + j) = (i, j) :: pairsM.drop (2 * i + j + 1) := by
  match i, j, hi, hj with
  | 0, 0, _, _ => rfl
  | 0, 1, _, _ => rfl
  | 1, 0, _, _ => rfl
  | 1, 1, _, _ => rfl
  | 2, 0, _, _ => rfl
  | 2, 1, _, _ => rfl
theorem scan_yes {M : Mat} {i j : Nat} {r : Str} (hi : i < 3) (hj : j < 2) (h : scanM M (pairsM.drop (2 * i + j)) = some r) (ht : (leftOf M i j).test) : ∃ w, euclid 60 (leftOf M i j).abs (rs i) = some w ∧ r = cat w (ss j) := by
  rw [pairs_at hi hj, scanM, if_pos ht] at h
  obtain ⟨w, h1, h2⟩ := Option.map_eq_some_iff.mp h
  exact ⟨w, h1, h2.symm⟩
theorem scan_no {M : Mat} {i j : Nat} {r : Str} (hi : i < 3) (hj : j < 2) (h : scanM M (pairsM.drop (2 * i + j)) = some r) (ht : ¬ (leftOf M i j).test) : scanM M (pairsM.drop (2 * i + (j + 1))) = some r := by
  rw [pairs_at hi hj, scanM, if_neg ht] at h
  exact h
theorem euclid_step {n : Nat} {x : Mat} {w o : Str} (h : euclid n x w = some o) : ∃ k, n = k + 1 ∧ x.small ∧ w.length ≤ 1000 ∧ (x.one → w = o) ∧ (¬ x.one → x.c ≤ x.a ∧ x.d ≤ x.b → euclid k ⟨x.a - x.c, x.b - x.d, x.c, x.d⟩ (cat w (Str.ofString "sr")) = some o) ∧
    (¬ x.one → ¬ (x.c ≤ x.a ∧ x.d ≤ x.b) → euclid k ⟨x.a, x.b, x.c - x.a, x.d - x.b⟩ (cat w (Str.ofString "srr")) = some o) := by
  match n, h with
  | k + 1, h =>
    rw [euclid] at h
    split at h
    · rename_i hs
      refine ⟨k, rfl, hs.1, hs.2, fun h1 => ?_, fun h1 h2 => ?_, fun h1 h2 => ?_⟩
      · rw [if_pos h1] at h; exact Option.some.inj h
      · rw [if_neg h1, if_pos h2] at h; exact h
      · rw [if_neg h1, if_neg h2] at h; exact h
    · cases h
theorem one_of {x : Mat} (h : (x.a == 1 && (x.b == 0 && (x.c == 0 && x.d == 1))) = true) : x.one := by
  simp only [Bool.and_eq_true, beq_iff_eq] at h
  exact ⟨h.1, h.2.1, h.2.2.1, h.2.2.2⟩
theorem not_one_of {x : Mat} (h : (x.a == 1 && (x.b == 0 && (x.c == 0 && x.d == 1))) = false) : ¬ x.one := by
  rintro ⟨h1, h2, h3, h4⟩
  rw [h1, h2, h3, h4] at h
  exact absurd h (by decide)
/-- what the while keeps -/
def EJ (news₀ : List (Addr × Obj)) (bh : Str) (tb : Tok) (out : Str) : Nat → (Str → Option Value) → List (Addr × Obj) → Prop := fun n m₁ news₁ =>
  ∃ mr x w tw ka kb kc kd, m₁ = lay [(Str.ofString "a", .int (Mat.a x) ka), (Str.ofString "b", .int (Mat.b x) kb), (Str.ofString "c", .int (Mat.c x) kc), (Str.ofString "d", .int (Mat.d x) kd), (Str.ofString "word", .str w tw), (Str.ofString "behind", .str bh tb)] mr ∧
    subL news₀ news₁ ∧ euclid n x w = some out
end Mine
end
noncomputable section
open PySem PySem.W PySem.Calls PyProof.Rows Mine
set_option Elab.async false
set_option maxRecDepth 100000
set_option maxHeartbeats 4000000
namespace Mine
inductive ReachF (f : Str → Str) (x : Str) : Str → Prop
  | start : ReachF f x x
  | step {y : Str} : ReachF f x y → ReachF f x (f y)
theorem Reach.toF {prs : List Pr} {x r : Str} (h : Reach prs x r) {f : Str → Str} (hf : ∀ y, replAll y prs = f y) : ReachF f x r := by
  induction h with
  | start => exact .start
  | step _ ih => rw [hf]; exact .step ih
def srC (b : Bool) : Nat := if b then 115 else 114
def strB (l : List Bool) : Str := ⟨(l.map srC).toArray⟩
def letB (b : Bool) : Str := ⟨#[srC b]⟩
def genM (b : Bool) : Mat := if b then ⟨0, -1, 1, 0⟩ else ⟨0, -1, 1, 1⟩
def sqOf (l : List Bool) : Mat := l.foldl (fun m b => m.mul (genM b)) ⟨1, 0, 0, 1⟩
def pileL (l : List Bool) : List (Str × Str) := l.foldl (fun x b => putN (x ++ [firstOf (letB b)]) 2) []
def stepR : List Bool → Bool → List Bool
  | true :: s, true => s
  | false :: false :: s, false => s
  | s, b => b :: s
def nf (l : List Bool) : List Bool := (l.foldl stepR []).reverse
def letters (ns : List Int) : List Bool := [false, true, false, false, false, true, false, true, false, false] ++ (ns.take 8).map (fun a => a.fmod 2 == 0)
def rest1 (y : Str) : Str := repl (repl y (Str.ofString "ss") (Str.ofString "")) (Str.ofString "rrr") (Str.ofString "")
def rest2 (y : Str) : Str := repl (repl y (Str.ofString "rrr") (Str.ofString "")) (Str.ofString "ss") (Str.ofString "")
theorem rev_ind {α : Type} {P : List α → Prop} (h0 : P []) (h1 : ∀ l b, P l → P (l ++ [b])) (l : List α) : P l := by
  have : ∀ l : List α, P l.reverse := by
    intro l
    induction l with
    | nil => exact h0
    | cons b l ih => rw [List.reverse_cons]; exact h1 _ b ih
  have h := this l.reverse
  rwa [List.reverse_reverse] at h
theorem sqOf_snoc (l : List Bool) (b : Bool) : sqOf (l ++ [b]) = (sqOf l).mul (genM b) := by unfold sqOf; rw [List.foldl_append]; rfl
theorem pileL_snoc (l : List Bool) (b : Bool) : pileL (l ++ [b]) = putN (pileL l ++ [firstOf (letB b)]) 2 := by unfold pileL; rw [List.foldl_append]; rfl
theorem strB_snoc (l : List Bool) (b : Bool) : strB (l ++ [b]) = strB l ++ letB b := by
  apply Str.ext'
  simp [Str.cps_append, strB, letB]
theorem strB_len (l : List Bool) : (strB l).length = l.length := by simp [strB, Str.length]
theorem pileL_len (l : List Bool) : (pileL l).length ≤ l.length := by
  refine rev_ind (P := fun l => (pileL l).length ≤ l.length) ?_ ?_ l
  · exact Nat.le_refl _
  · intro l b ih
    rw [pileL_snoc]
    refine Nat.le_trans (putN_len _ _) ?_
    simp only [List.length_append, List.length_singleton]
    omega
theorem firstOf_two (x : Str) : firstOf x = (Str.ofString "s", Str.ofString "") ∨ firstOf x = (Str.ofString "", Str.ofString "r") := by unfold firstOf; split <;> simp
theorem pileL_mem (l : List Bool) : ∀ q ∈ pileL l, q = (Str.ofString "s", Str.ofString "") ∨ q = (Str.ofString "", Str.ofString "r") := by
  refine rev_ind (P := fun l => ∀ q ∈ pileL l, q = (Str.ofString "s", Str.ofString "") ∨ q = (Str.ofString "", Str.ofString "r")) ?_ ?_ l
  · intro q h; exact nomatch h
  · intro l b ih q h
    rw [pileL_snoc] at h
    rcases List.mem_append.mp (putN_sub 2 h) with h | h
    · exact ih q h
    · rw [List.mem_singleton.mp h]; exact firstOf_two _
theorem pile_ok {l : List Bool} {pcs : List Pc} (h : pcs.map Pc.fp = pileL l) : ∀ c ∈ pcs, fpOk c.fp := by
  intro c hc
  have := pileL_mem l c.fp (h ▸ List.mem_map_of_mem hc)
  rcases this with e | e <;> rw [e]
  · exact ⟨ok_s, ok_e⟩
  · exact ⟨ok_e, ok_r⟩
theorem pile_len {l : List Bool} {pcs : List Pc} (h : pcs.map Pc.fp = pileL l) : pcs.length ≤ l.length := by
  have e := congrArg List.length h
  rw [List.length_map] at e
  rw [e]; exact pileL_len l
theorem pile_weight {l : List Bool} {pcs : List Pc} (h : pcs.map Pc.fp = pileL l) : (pcs.map fun c => c.f.length + c.p.length).sum ≤ pcs.length := by
  have h1 : ∀ c ∈ pcs, c.f.length + c.p.length = 1 := by
    intro c hc
    have := pileL_mem l c.fp (h ▸ List.mem_map_of_mem hc)
    rcases this with e | e
    · have e1 := congrArg Prod.fst e; have e2 := congrArg Prod.snd e
      dsimp only at e1 e2
      rw [e1, e2]; decide +kernel
    · have e1 := congrArg Prod.fst e; have e2 := congrArg Prod.snd e
      dsimp only at e1 e2
      rw [e1, e2]; decide +kernel
  clear h
  induction pcs with
  | nil => exact Nat.le_refl _
  | cons c r ih =>
    rw [List.map_cons, List.sum_cons, List.length_cons, h1 c List.mem_cons_self]
    have := ih fun c hc => h1 c (List.mem_cons_of_mem _ hc)
    omega
end Mine
end
noncomputable section
open PySem PySem.W PySem.Calls PyProof.Rows Mine
set_option Elab.async false
set_option maxRecDepth 100000
set_option maxHeartbeats 4000000
namespace Mine
/-! the plain law -/
def RedR : List Bool → Prop
  | [] => True
  | true :: true :: _ => False
  | false :: false :: false :: _ => False
  | _ :: s => RedR s
theorem red_tail {b : Bool} {s : List Bool} (h : RedR (b :: s)) : RedR s := by
  match b, s, h with
  | _, [], _ => trivial
  | true, false :: s, h => exact h
  | false, true :: s, h => exact h
  | false, [false], h => exact h
  | false, false :: true :: s, h => exact h
theorem red_step {s : List Bool} (b : Bool) (h : RedR s) : RedR (stepR s b) := by
  match s, b, h with
  | [], true, _ => trivial
  | [], false, _ => trivial
  | true :: s, true, h => exact red_tail h
  | true :: s, false, h => exact h
  | [false], true, h => exact h
  | [false], false, h => exact h
  | false :: true :: s, true, h => exact h
  | false :: true :: s, false, h => exact h
  | false :: false :: s, true, h => exact h
  | false :: false :: s, false, h => exact red_tail (red_tail h)
theorem step_tt {s : List Bool} (h : RedR s) : stepR (stepR s true) true = s := by
  match s, h with
  | [], _ => rfl
  | [true], _ => rfl
  | [true, false], _ => rfl
  | true :: false :: true :: s, _ => rfl
  | true :: false :: false :: s, _ => rfl
  | [false], _ => rfl
  | false :: true :: s, _ => rfl
  | false :: false :: s, _ => rfl
theorem step_fff {s : List Bool} (h : RedR s) : stepR (stepR (stepR s false) false) false = s := by
  match s, h with
  | [], _ => rfl
  | true :: s, _ => rfl
  | [false], _ => rfl
  | false :: true :: s, _ => rfl
  | [false, false], _ => rfl
  | false :: false :: true :: s, _ => rfl
theorem fold_red : ∀ (l s : List Bool), RedR s → RedR (l.foldl stepR s)
  | [], _, h => h
  | b :: l, s, h => fold_red l _ (red_step b h)
theorem fold_tt : ∀ (n : Nat) (l s : List Bool), l.length ≤ n → RedR s → (rp [true, true] [] 0 l).foldl stepR s = l.foldl stepR s
  | _, [], _, _, _ => rfl
  | 0, _ :: _, _, hn, _ => absurd hn (Nat.not_succ_le_zero _)
  | n + 1, [b], s, _, _ => by cases b <;> rfl
  | n + 1, true :: true :: l, s, hn, h => by
    show (rp [true, true] [] 0 l).foldl stepR s = l.foldl stepR (stepR (stepR s true) true)
    rw [step_tt h]
    exact fold_tt n l s (by simp only [List.length_cons] at hn; omega) h
  | n + 1, true :: false :: l, s, hn, h => fold_tt n (false :: l) _ (Nat.le_of_succ_le_succ hn) (red_step true h)
  | n + 1, false :: c :: l, s, hn, h => fold_tt n (c :: l) _ (Nat.le_of_succ_le_succ hn) (red_step false h)
theorem fold_fff : ∀ (n : Nat) (l s : List Bool), l.length ≤ n → RedR s → (rp [false, false, false] [] 0 l).foldl stepR s = l.foldl stepR s
  | _, [], _, _, _ => rfl
  | 0, _ :: _, _, hn, _ => absurd hn (Nat.not_succ_le_zero _)
  | n + 1, [b], s, _, _ => by cases b <;> rfl
  | n + 1, [b, c], s, _, _ => by cases b <;> cases c <;> rfl
  | n + 1, false :: false :: false :: l, s, hn, h => by
    show (rp [false, false, false] [] 0 l).foldl stepR s = l.foldl stepR (stepR (stepR (stepR s false) false) false)
    rw [step_fff h]
    exact fold_fff n l s (by simp only [List.length_cons] at hn; omega) h
  | n + 1, true :: c :: d :: l, s, hn, h => fold_fff n (c :: d :: l) _ (Nat.le_of_succ_le_succ hn) (red_step true h)
  | n + 1, false :: true :: d :: l, s, hn, h => fold_fff n (true :: d :: l) _ (Nat.le_of_succ_le_succ hn) (red_step false h)
  | n + 1, false :: false :: true :: l, s, hn, h => fold_fff n (false :: true :: l) _ (Nat.le_of_succ_le_succ hn) (red_step false h)
theorem nf_tt (l : List Bool) : nf (rp [true, true] [] 0 l) = nf l := by unfold nf; rw [fold_tt l.length l [] (Nat.le_refl _) trivial]
theorem nf_fff (l : List Bool) : nf (rp [false, false, false] [] 0 l) = nf l := by unfold nf; rw [fold_fff l.length l [] (Nat.le_refl _) trivial]
theorem not_red : ∀ z : List Bool, ¬ RedR z → ∃ u v, z = u ++ [true, true] ++ v ∨ z = u ++ [false, false, false] ++ v
  | [], h => absurd trivial h
  | true :: true :: v, _ => ⟨[], v, .inl rfl⟩
  | false :: false :: false :: v, _ => ⟨[], v, .inr rfl⟩
  | [true], h => absurd trivial h
  | [false], h => absurd trivial h
  | true :: false :: s, h => by
    obtain ⟨u, v, e⟩ := not_red (false :: s) h
    exact ⟨true :: u, v, e.imp (congrArg (true :: ·)) (congrArg (true :: ·))⟩
  | false :: true :: s, h => by
    obtain ⟨u, v, e⟩ := not_red (true :: s) h
    exact ⟨false :: u, v, e.imp (congrArg (false :: ·)) (congrArg (false :: ·))⟩
  | [false, false], h => absurd trivial h
  | false :: false :: true :: s, h => by
    obtain ⟨u, v, e⟩ := not_red (false :: true :: s) h
    exact ⟨false :: u, v, e.imp (congrArg (false :: ·)) (congrArg (false :: ·))⟩
theorem fold_free : ∀ (x acc : List Bool), RedR (x.reverse ++ acc) → x.foldl stepR acc = x.reverse ++ acc
  | [], _, _ => rfl
  | c :: x, acc, h => by
    rw [List.reverse_cons, List.append_assoc] at h ⊢
    have hs : ∀ (u z : List Bool), RedR (u ++ z) → RedR z := by
      intro u
      induction u with
      | nil => exact fun z h => h
      | cons b u ih => exact fun z h => ih z (red_tail h)
    have hc : RedR (c :: acc) := hs _ _ h
    have e : stepR acc c = c :: acc := by
      match acc, c, hc with
      | [], true, _ => rfl
      | [], false, _ => rfl
      | true :: s, false, _ => rfl
      | [false], true, _ => rfl
      | false :: true :: s, true, _ => rfl
      | false :: false :: s, true, _ => rfl
      | [false], false, _ => rfl
      | false :: true :: s, false, _ => rfl
    rw [List.foldl_cons, e]
    exact fold_free x (c :: acc) h
theorem nf_fixed {l : List Bool} (h1 : (rp [true, true] [] 0 l).length = l.length) (h2 : (rp [false, false, false] [] 0 l).length = l.length) : nf l = l := by
  obtain ⟨_, f1⟩ := rp_nil_same _ l h1
  obtain ⟨_, f2⟩ := rp_nil_same _ l h2
  have hr : RedR l.reverse := by
    refine Classical.byContradiction fun hn => ?_
    obtain ⟨u, v, e⟩ := not_red _ hn
    have e' : l = (v.reverse ++ ([true, true] ++ u.reverse)) ∨ l = (v.reverse ++ ([false, false, false] ++ u.reverse)) := by
      rcases e with e | e
      · left; rw [← List.reverse_reverse l, e]; simp
      · right; rw [← List.reverse_reverse l, e]; simp
    rcases e' with e' | e'
    · exact f1 v.reverse.length (by rw [e']; simp) (by rw [e', List.drop_left]; rfl)
    · exact f2 v.reverse.length (by rw [e']; simp) (by rw [e', List.drop_left]; rfl)
  unfold nf
  rw [fold_free l [] (by rwa [List.append_nil]), List.append_nil, List.reverse_reverse]
theorem srC_inj : ∀ a b : Bool, srC a = srC b → a = b := by decide
theorem strB_inj {a b : List Bool} (h : strB a = strB b) : a = b := by
  have e : (strB a).cps.toList = (strB b).cps.toList := by rw [h]
  exact map_inj' srC_inj e
theorem len_ss : 1 ≤ (Str.ofString "ss").length := by decide +kernel
theorem len_rrr : 1 ≤ (Str.ofString "rrr").length := by decide +kernel
theorem kind_ss : Builtin.Str.strKind (Str.ofString "ss") = 1 := by decide +kernel
theorem kind_rrr : Builtin.Str.strKind (Str.ofString "rrr") = 1 := by decide +kernel
theorem cps_ss : (Str.ofString "ss").cps.toList = [true, true].map srC := by decide +kernel
theorem cps_rrr : (Str.ofString "rrr").cps.toList = [false, false, false].map srC := by decide +kernel
theorem cps_nil : (Str.ofString "").cps.toList = ([] : List Bool).map srC := by decide +kernel
theorem cps_nil' : (Str.ofString "").cps.toList = [] := by decide +kernel
theorem str_ext {a b : Str} (h : a.cps.toList = b.cps.toList) : a = b := Str.ext' (Array.toList_inj.mp h)
theorem repl_ss (l : List Bool) : repl (strB l) (Str.ofString "ss") (Str.ofString "") = strB (rp [true, true] [] 0 l) := by
  apply str_ext
  rw [repl_rp _ _ _ len_ss kind_ss, cps_ss, cps_nil]
  exact rp_map srC_inj _ _ l 0
theorem repl_rrr (l : List Bool) : repl (strB l) (Str.ofString "rrr") (Str.ofString "") = strB (rp [false, false, false] [] 0 l) := by
  apply str_ext
  rw [repl_rp _ _ _ len_rrr kind_rrr, cps_rrr, cps_nil]
  exact rp_map srC_inj _ _ l 0
theorem rest1_nf {l : List Bool} {r : Str} (h : ReachF rest1 (strB l) r) (e : rest1 r = r) : r = strB (nf l) := by
  obtain ⟨k, rfl, hk⟩ : ∃ k, r = strB k ∧ nf k = nf l := by
    clear e
    induction h with
    | start => exact ⟨l, rfl, rfl⟩
    | step _ ih =>
      obtain ⟨k, rfl, hk⟩ := ih
      refine ⟨rp [false, false, false] [] 0 (rp [true, true] [] 0 k), ?_, ?_⟩
      · unfold rest1; rw [repl_ss, repl_rrr]
      · rw [nf_fff, nf_tt, hk]
  unfold rest1 at e
  rw [repl_ss, repl_rrr] at e
  have e1 := congrArg List.length (strB_inj e)
  have a1 := rp_nil_len [true, true] k 0
  have a2 := rp_nil_len [false, false, false] (rp [true, true] [] 0 k) 0
  have a3 : (rp [true, true] [] 0 k).length = k.length := by omega
  have a4 := (rp_nil_same _ k a3).1
  rw [a4] at e1
  rw [← hk, nf_fixed a3 e1]
theorem rest2_nf {l : List Bool} {r : Str} (h : ReachF rest2 (strB l) r) (e : rest2 r = r) : r = strB (nf l) := by
  obtain ⟨k, rfl, hk⟩ : ∃ k, r = strB k ∧ nf k = nf l := by
    clear e
    induction h with
    | start => exact ⟨l, rfl, rfl⟩
    | step _ ih =>
      obtain ⟨k, rfl, hk⟩ := ih
      refine ⟨rp [true, true] [] 0 (rp [false, false, false] [] 0 k), ?_, ?_⟩
      · unfold rest2; rw [repl_rrr, repl_ss]
      · rw [nf_tt, nf_fff, hk]
  unfold rest2 at e
  rw [repl_rrr, repl_ss] at e
  have e1 := congrArg List.length (strB_inj e)
  have a1 := rp_nil_len [false, false, false] k 0
  have a2 := rp_nil_len [true, true] (rp [false, false, false] [] 0 k) 0
  have a3 : (rp [false, false, false] [] 0 k).length = k.length := by omega
  have a4 := (rp_nil_same _ k a3).1
  rw [a4] at e1
  rw [← hk, nf_fixed e1 a3]
theorem repl_dec (x o : Str) (ho : 1 ≤ o.length) (hk : Builtin.Str.strKind o = 1) : (repl x o (Str.ofString "")).length ≤ x.length ∧ ((repl x o (Str.ofString "")).length = x.length → repl x o (Str.ofString "") = x) := by
  have e := repl_rp x o (Str.ofString "") ho hk
  rw [cps_nil'] at e
  have hl : (repl x o (Str.ofString "")).length = (rp o.cps.toList [] 0 x.cps.toList).length := by rw [← e, Array.length_toList]; rfl
  have hx : x.length = x.cps.toList.length := by rw [Array.length_toList]; rfl
  refine ⟨by rw [hl, hx]; exact rp_nil_len _ _ _, fun h => str_ext ?_⟩
  rw [e]
  exact (rp_nil_same _ _ (by rw [← hl, ← hx, h])).1
theorem rest1_dec (y : Str) (h : rest1 y ≠ y) : (rest1 y).length < y.length := by
  unfold rest1 at h ⊢
  obtain ⟨a1, a2⟩ := repl_dec y (Str.ofString "ss") len_ss kind_ss
  obtain ⟨b1, b2⟩ := repl_dec (repl y (Str.ofString "ss") (Str.ofString "")) (Str.ofString "rrr") len_rrr kind_rrr
  refine Nat.lt_of_le_of_ne (Nat.le_trans b1 a1) fun e => h ?_
  rw [b2 (by omega), a2 (by omega)]
theorem rest2_dec (y : Str) (h : rest2 y ≠ y) : (rest2 y).length < y.length := by
  unfold rest2 at h ⊢
  obtain ⟨a1, a2⟩ := repl_dec y (Str.ofString "rrr") len_rrr kind_rrr
  obtain ⟨b1, b2⟩ := repl_dec (repl y (Str.ofString "rrr") (Str.ofString "")) (Str.ofString "ss") len_ss kind_ss
  refine Nat.lt_of_le_of_ne (Nat.le_trans b1 a1) fun e => h ?_
  rw [b2 (by omega), a2 (by omega)]
theorem join0 : ∀ l : List Str, (Txt.join (Str.ofString "") l).cps.toList = (l.map (·.cps.toList)).flatten := by
  intro l
  unfold Txt.join
  rw [StrLaws.glued_eq_join]
  induction l with
  | nil => rfl
  | cons x r ih =>
    cases r with
    | nil => show x.cps.toList = _; simp
    | cons y t =>
      show (x ++ Str.ofString "" ++ Str.join (Str.ofString "") (y :: t)).cps.toList = _
      rw [Str.cps_append, Str.cps_append, Array.toList_append, Array.toList_append, ih, cps_nil']
      simp
theorem item_sr (a : Int) : (if (Txt.item (Str.ofString "sr") (a.fmod 2)).length = 1 then Txt.item (Str.ofString "sr") (a.fmod 2) else Str.empty) = letB (a.fmod 2 == 0) := by
  rw [if_pos (show (Txt.item (Str.ofString "sr") (a.fmod 2)).length = 1 from rfl)]
  have h : a.fmod 2 = 0 ∨ a.fmod 2 = 1 := by
    have h1 := Int.fmod_nonneg_of_pos a (show (0 : Int) < 2 by decide)
    have h2 := Int.fmod_lt_of_pos a (show (0 : Int) < 2 by decide)
    omega
  rcases h with h | h <;> rw [h] <;> decide +kernel
theorem cps_head : (Str.ofString "rsrrrsrsrr").cps.toList = [false, true, false, false, false, true, false, true, false, false].map srC := by decide +kernel
theorem letters_eq (ns : List Int) : Str.ofString "rsrrrsrsrr" ++ Txt.join (Str.ofString "") (List.map (fun a => if (Txt.item (Str.ofString "sr") (a.fmod 2)).length = 1 then Txt.item (Str.ofString "sr") (a.fmod 2) else Str.empty) (List.take 8 ns)) = strB (letters ns) := by
  apply str_ext
  rw [Str.cps_append, Array.toList_append, join0, cps_head]
  show _ = (letters ns).map srC
  unfold letters
  rw [List.map_append, List.map_map, List.map_map]
  congr 1
  induction List.take 8 ns with
  | nil => rfl
  | cons a r ih =>
    rw [List.map_cons, List.flatten_cons, ih, List.map_cons]
    show (if (Txt.item (Str.ofString "sr") (a.fmod 2)).length = 1 then Txt.item (Str.ofString "sr") (a.fmod 2) else Str.empty).cps.toList ++ _ = _
    rw [item_sr]
    rfl
def prB (b : Bool) : Str × Str := if b then (Str.ofString "s", Str.ofString "") else (Str.ofString "", Str.ofString "r")
theorem prB_inj : ∀ a b : Bool, prB a = prB b → a = b := by decide +kernel
theorem firstOf_letB (b : Bool) : firstOf (letB b) = prB b := by cases b <;> decide +kernel
theorem seek_0 : seek 0 = [true, true].map prB := rfl
theorem seek_1 : seek 1 = [false, false, false].map prB := rfl
def cutB (k x : List Bool) : List Bool := if x.drop (x.length - k.length) = k then x.take (x.length - k.length) else x
theorem cutW_map (k x : List Bool) : cutW (k.map prB) (x.map prB) = (cutB k x).map prB := by
  unfold cutW cutB
  rw [List.length_map, List.length_map, ← List.map_drop]
  by_cases h : x.drop (x.length - k.length) = k
  · rw [if_pos h, if_pos (by rw [h]), List.map_take]
  · rw [if_neg h, if_neg fun e => h (map_inj' prB_inj e)]
theorem cut_rev (k s : List Bool) : cutB k.reverse s.reverse = if s.take k.length = k then (s.drop k.length).reverse else s.reverse := by
  unfold cutB
  rw [List.length_reverse, List.length_reverse, List.drop_reverse, List.take_reverse]
  by_cases hl : k.length ≤ s.length
  · rw [show s.length - (s.length - k.length) = k.length by omega]
    by_cases h : s.take k.length = k
    · rw [if_pos h, if_pos (by rw [h])]
    · rw [if_neg h, if_neg fun e => h (List.reverse_inj.mp e)]
  · have h1 : ¬ s.take k.length = k := fun e => by
      have := congrArg List.length e
      rw [List.length_take] at this
      omega
    rw [if_neg h1, if_neg fun e => ?_]
    have e2 := congrArg List.length (List.reverse_inj.mp e)
    rw [List.length_take] at e2
    omega
theorem put_step {s : List Bool} (b : Bool) (h : RedR s) : cutB [false, false, false] (cutB [true, true] (s.reverse ++ [b])) = (stepR s b).reverse := by
  have e1 : s.reverse ++ [b] = (b :: s).reverse := (List.reverse_cons).symm
  have e2 := cut_rev [true, true] (b :: s)
  rw [show ([true, true] : List Bool).reverse = [true, true] from rfl] at e2
  have e3 := fun z => cut_rev [false, false, false] z
  rw [show ([false, false, false] : List Bool).reverse = [false, false, false] from rfl] at e3
  rw [e1, e2]
  match s, b, h with
  | [], true, _ => rfl
  | [], false, _ => rfl
  | [true], true, _ => rfl
  | [true], false, _ => rfl
  | [false], true, _ => rfl
  | [false], false, _ => rfl
  | true :: c :: s, true, h =>
    show cutB _ (c :: s).reverse = _
    rw [e3]
    match c, s, h with
    | false, [], _ => rfl
    | false, true :: s, _ => rfl
    | false, [false], _ => rfl
    | false, false :: true :: s, _ => rfl
  | true :: c :: s, false, h =>
    show cutB _ (false :: true :: c :: s).reverse = _
    rw [e3]; rfl
  | false :: true :: s, true, h =>
    show cutB _ (true :: false :: true :: s).reverse = _
    rw [e3]; rfl
  | false :: true :: s, false, h =>
    show cutB _ (false :: false :: true :: s).reverse = _
    rw [e3]; rfl
  | false :: false :: s, true, h =>
    show cutB _ (true :: false :: false :: s).reverse = _
    rw [e3]; rfl
  | false :: false :: s, false, h =>
    show cutB _ (false :: false :: false :: s).reverse = _
    rw [e3]; rfl
theorem pileL_nf (l : List Bool) : pileL l = (nf l).map prB := by
  refine rev_ind (P := fun l => pileL l = (nf l).map prB) rfl (fun l b ih => ?_) l
  rw [pileL_snoc, ih, firstOf_letB]
  show cutW (seek 1) (cutW (seek 0) ((nf l).map prB ++ [b].map prB)) = _
  rw [← List.map_append, seek_0, seek_1, cutW_map, cutW_map]
  unfold nf
  rw [put_step b (fold_red l [] trivial), List.foldl_append]
  rfl
theorem pile_text {l : List Bool} {pcs : List Pc} (h : pcs.map Pc.fp = pileL l) : pileText pcs = strB (nf l) := by
  rw [pileL_nf] at h
  apply str_ext
  show (Txt.join (Str.ofString "") (pcs.map pcText)).cps.toList = (nf l).map srC
  rw [join0, List.map_map]
  generalize nf l = k at h
  induction pcs generalizing k with
  | nil =>
    cases k with
    | nil => rfl
    | cons b k => cases h
  | cons c r ih =>
    cases k with
    | nil => cases h
    | cons b k =>
      rw [List.map_cons, List.map_cons] at h
      injection h with h1 h2
      rw [List.map_cons, List.flatten_cons, ih k h2, List.map_cons]
      have e : (pcText c).cps.toList = [srC b] := by
        show (Txt.join (Str.ofString "") [c.f, c.p]).cps.toList = _
        have f1 := congrArg Prod.fst h1
        have f2 := congrArg Prod.snd h1
        dsimp only at f1 f2
        rw [join0, f1, f2]
        cases b <;> decide +kernel
      show (pcText c).cps.toList ++ _ = _
      rw [e]; rfl
def treeOk : Nat → Mat → List Bool → Bool
  | n, M, s => decide (readM M = some (strB s.reverse)) && decide (M.le 1073741824) && (match n with
    | 0 => true
    | n + 1 => treeOk n (M.mul (genM true)) (stepR s true) && treeOk n (M.mul (genM false)) (stepR s false))
def preL : List Bool := [false, true, false, false, false, true, false, true, false, false]
theorem tree_t : treeOk 7 ((sqOf preL).mul (genM true)) (stepR (preL.foldl stepR []) true) = true := by decide +kernel
theorem tree_f : treeOk 7 ((sqOf preL).mul (genM false)) (stepR (preL.foldl stepR []) false) = true := by decide +kernel
theorem tree_root : (decide (readM (sqOf preL) = some (strB (preL.foldl stepR []).reverse)) && decide ((sqOf preL).le 1073741824)) = true := by decide +kernel
theorem tree_ok : treeOk 8 (sqOf preL) (preL.foldl stepR []) = true := by
  show ((decide (readM (sqOf preL) = some (strB (preL.foldl stepR []).reverse)) && decide ((sqOf preL).le 1073741824)) && (treeOk 7 ((sqOf preL).mul (genM true)) (stepR (preL.foldl stepR []) true) && treeOk 7 ((sqOf preL).mul (genM false)) (stepR (preL.foldl stepR []) false))) = true
  rw [tree_t, tree_f, tree_root]
  rfl
theorem pre_ok : ∀ i, i < 11 → readM (sqOf (preL.take i)) = some (strB (nf (preL.take i))) ∧ (sqOf (preL.take i)).le 1073741824 := by decide +kernel
theorem tree_good : ∀ (n : Nat) (M : Mat) (s : List Bool), treeOk n M s = true → ∀ bits : List Bool, bits.length ≤ n →
    readM (bits.foldl (fun m b => m.mul (genM b)) M) = some (strB (bits.foldl stepR s).reverse) ∧ (bits.foldl (fun m b => m.mul (genM b)) M).le 1073741824 := by
  intro n
  induction n with
  | zero =>
    intro M s h bits hb
    have e : bits = [] := List.eq_nil_of_length_eq_zero (Nat.le_zero.mp hb)
    subst e
    unfold treeOk at h
    simp only [Bool.and_eq_true, decide_eq_true_eq] at h
    exact h.1
  | succ n ih =>
    intro M s h bits hb
    unfold treeOk at h
    simp only [Bool.and_eq_true, decide_eq_true_eq] at h
    cases bits with
    | nil => exact h.1
    | cons b r =>
      cases b with
      | true => exact ih _ _ h.2.1 r (Nat.le_of_succ_le_succ hb)
      | false => exact ih _ _ h.2.2 r (Nat.le_of_succ_le_succ hb)
theorem good_all (ns : List Int) (i : Nat) : readM (sqOf ((letters ns).take i)) = some (strB (nf ((letters ns).take i))) ∧ (sqOf ((letters ns).take i)).le 1073741824 := by
  have e : letters ns = preL ++ (ns.take 8).map (fun a => a.fmod 2 == 0) := rfl
  rw [e]
  by_cases hi : i < 11
  · rw [List.take_append_of_le_length (by show i ≤ 10; omega)]
    exact pre_ok i hi
  · have e2 : (preL ++ (ns.take 8).map (fun a => a.fmod 2 == 0)).take i = preL ++ ((ns.take 8).map (fun a => a.fmod 2 == 0)).take (i - 10) := by
      rw [List.take_append, List.take_of_length_le (by show 10 ≤ i; omega)]; rfl
    rw [e2]
    have h := tree_good 8 _ _ tree_ok (((ns.take 8).map (fun a => a.fmod 2 == 0)).take (i - 10)) (by rw [List.length_take, List.length_map, List.length_take]; omega)
    unfold sqOf nf
    rw [List.foldl_append, List.foldl_append]
    exact h
theorem ok_ss {t u : Tok} : Pr.ok ⟨Str.ofString "ss", t, Str.ofString "", u⟩ := ⟨show 1 ≤ (Str.ofString "ss").length by decide +kernel, show (Str.ofString "").length ≤ (Str.ofString "ss").length by decide +kernel, show (Str.ofString "ss").length ≤ 100 by decide +kernel⟩
theorem ok_rrr {t u : Tok} : Pr.ok ⟨Str.ofString "rrr", t, Str.ofString "", u⟩ := ⟨show 1 ≤ (Str.ofString "rrr").length by decide +kernel, show (Str.ofString "").length ≤ (Str.ofString "rrr").length by decide +kernel, show (Str.ofString "rrr").length ≤ 100 by decide +kernel⟩
theorem letters_len (ns : List Int) : (letters ns).length ≤ 18 := by simp [letters]; omega
theorem strB_get {l : List Bool} {i c : Nat} (h : (strB l).cps[i]? = some c) : ∃ b, l[i]? = some b ∧ c = srC b := by
  unfold strB at h
  rw [List.getElem?_toArray, List.getElem?_map] at h
  obtain ⟨b, h1, h2⟩ := Option.map_eq_some_iff.mp h
  exact ⟨b, h1, h2.symm⟩
theorem take_snoc {l : List Bool} {i : Nat} {b : Bool} (h : l[i]? = some b) : l.take (i + 1) = l.take i ++ [b] := by rw [List.take_add_one, h]; rfl
theorem let_s : (⟨#[srC true]⟩ : Str) = Str.ofString "s" := by decide +kernel
theorem let_r : (⟨#[srC false]⟩ : Str) = Str.ofString "r" := by decide +kernel
theorem letB_s : letB true = Str.ofString "s" := let_s
theorem letB_r : letB false = Str.ofString "r" := let_r
theorem line_len {l : List Bool} {i : Nat} (h : l.length ≤ 18) : (strB (l.take i)).length ≤ 18 := by rw [strB_len, List.length_take]; omega
theorem tab_ne {C d : Addr} {vs : List Value} {n : Nat} {ps : Array Value} : tabObj ps ≠ pileO C d vs n := by
  intro e; injection e with e1; cases e1
theorem pile_w {l : List Bool} {pcs : List Pc} (h : pcs.map Pc.fp = pileL l) (hl : l.length ≤ 19) : (pcs.map fun c => c.f.length + c.p.length).sum + pcs.length ≤ 100000 := by
  have h1 := pile_weight h
  have h2 := pile_len h
  omega
theorem Pile.keepsT {C p d t : Addr} {pcs : List Pc} {l : List (Addr × Obj)} {ps : Array Value} {h₀ h : Heap} {L : Addr} (P : Pile C l p d pcs) (N : News h₀ L h l) (ht : (t, tabObj ps) ∈ l) (l' : List (Addr × Obj)) (K : Keeps t l l') : Pile C l' p d pcs := by
  obtain ⟨⟨n, h1⟩, ⟨hs, ta, tb, k, h2⟩, h3⟩ := P
  have e1 : pileO C d (pcs.map Pc.v) n ≠ tabObj ps := Ne.symm tab_ne
  have e2 : dictOf (isz hs ta tb) k ≠ tabObj ps := by intro e; injection e with e1; cases e1
  have e3 : ∀ us, tupO us ≠ tabObj ps := by intro us e; injection e with e1; cases e1
  exact ⟨⟨n, K _ h1 (news_ne N h1 ht e1)⟩, ⟨hs, ta, tb, k, K _ h2 (news_ne N h2 ht e2)⟩, fun c hc => K _ (h3 c hc) (news_ne N (h3 c hc) ht (e3 _))⟩
theorem Pile.two {C p d : Addr} {pcs : List Pc} {l : List (Addr × Obj)} {x y : Addr × Obj} (P : Pile C l p d pcs) : Pile C (x :: y :: l) p d pcs := Pile.weak (Pile.weak P)
theorem tup_ne_tab {us : List Value} {ps : Array Value} : tupO us ≠ tabObj ps := by intro e; injection e with e1; cases e1
def LJ (x dx : Addr) (ls : List Bool) : Inv := fun i m₁ news₁ gs => AllBare gs ∧ ∃ mr sq tl ps pcs, m₁ = lay [(Str.ofString "pile", .ref x), (Str.ofString "square", .ref sq), (Str.ofString "line", .str (strB (ls.take i)) tl)] mr ∧
  (69, tabObj ps) ∈ news₁ ∧ TriplesOk ps.toList ∧ MatIn news₁ sq (sqOf (ls.take i)) ∧ Pile 100 news₁ x dx pcs ∧ pcs.map Pc.fp = pileL (ls.take i)
end Mine
end
section
open PySem PySem.W PyProof.Rows
set_option Elab.async false
set_option maxRecDepth 100000
set_option maxHeartbeats 8000000
namespace Mine
section
local macro_rules | `(tactic| o_head $_) => `(tactic| skip)
theorem hd0 : (∀ P : Prop, P) → True := by
  intro h
  refine' (?f : PySem.Challenge.rw_ph0024_03.Holds → True) ?x
  case f => exact fun _ => trivial
  case x =>
    w_on
    o_law
    k_head
    exact h _
end
noncomputable def kK : Params → Frag := by
  refine' (fun (_ : (Str.ofString "k").cps.size = 1) => (?f : (hd0.heap_39 = ?K) → Params → Frag) ?h) ?p
  case f => exact fun _ => ?K
  case h =>
    delta hd0.heap_39
    exact rfl
  case p => rfl
abbrev kAddrs : List Addr := [2,3,15,17,18,20,21,22,25,30,31,32,34,35,37,38,39,41,42,44,45,46,47,49,50,52,53,54,56,57,59,60,61,63,64,66,67,68,70,71,73,74,75,76,78,79,81,82,83,85,86,88,89,90,91,93,94,96,97,98,99,100,101,102,105,107,108,110,111,112,114,115,117,118,119,122,123,124,126,127,129,130,131,133,134,136,137,138,141,142]
local macro_rules | `(tactic| k_head) => `(tactic| o_head (kmHook kK kAddrs (fun _ => by kernel_rfl) [69]))
open_top hd for PySem.Challenge.rw_ph0024_03
end Mine
end
section
open PySem PySem.W PySem.Calls PyProof.Rows Mine
set_option Elab.async false
set_option compiler.extract_closed false
set_option maxRecDepth 100000
set_option maxHeartbeats 8000000
set_option linter.unusedVariables false
namespace Mine
set_option hygiene false in
local macro_rules | `(tactic| wtm_at "S8") => `(tactic| ((case k1 | k2 | k3 | k4 | k5 => k_asm); (case k6 => first | rfl | assumption); (case k7 => ktr_room); (case k8 => ktr_units)))
set_option hygiene false in
local macro_rules | `(tactic| wtm_at "E8") => `(tactic| ((case kA | kF => exact rfl); (case kK => first | assumption | exact rfl); (case k1 | k2 | k3 | k4 | k5 => k_asm); (case k6 | k7 => k_is); (case k8 => ktr_room)))
set_option hygiene false in
local macro_rules | `(tactic| wtm_at "E9") => `(tactic| ((case k9 => first | exact BindsTo.of_eq rfl | exact binds_K (by k_in) rfl (by k_is) rfl rfl rfl)))
local macro_rules | `(tactic| wtm_at "R1") => `(tactic| (with_reducible show wpAny _ _ (subscriptTail _ _ (Value.ref _) (Value.ref _)) _ _ _))
local macro_rules | `(tactic| k_mem) => `(tactic| assumption)
local macro_rules | `(tactic| ktr_enter) => `(tactic| (refine' code_def ?k1 ?k2 ?k3 ?k4 ?k5 ?kA ?kF ?kK ?k6 ?k7 ?k8 ?k9 ?kB ?_ ?c2 ?c3 ?c4 ?c5; wtm_at "E8"; wtm_at "E9"; (case c5 => decide); (case kB => exact locs rfl); (case c2 | c3 | c4 => exact rfl); k_whole; intro g' L' h' FG' F' N' B' X' T'; (try dsimp only); (try k_fold)))
local macro_rules | `(tactic| k_inst) => `(tactic| (refine' Mine.pileInst ?N ?h1 ?h2; (case N => k_asm); (case h1 | h2 => k_mem)))
local macro_rules | `(tactic| walk_at "getMethod ref") => `(tactic| (k_here; k_dflt (refine' Mine.method_sub ?k1 ?k2 ?k3 ?k4 ?k4b ?k4c ?k5 ?k6 ?k7 ?k8 ?_; (case k1 | k2 => k_asm); (case k3 => k_inst); (case k4 => k_is); (case k4b => decide +kernel); (case k4c | k5 | k6 => k_is); (case k7 => decide); (case k8 => k_get); k_whole)))
local macro_rules | `(tactic| walk_at "call builtin:list.append") => `(tactic| (k_here; k_dflt (refine' Mine.pile_append ?k1 ?k2 ?k3 ?k4 ?k5 ?k6 ?k7 ?_; (case k1 | k2 | k3 => k_asm); (case k4 | k5 => k_mem); (case k6 => k_is); (case k7 => assumption); k_whole; intro h' F' N')))
local macro_rules | `(tactic| walk_at "subscriptTail") => `(tactic| (k_here; wtm_at "R1"; k_dflt (refine' Mine.pile_from ?k1 ?k2 ?k3 ?k4 ?k5 ?k6 ?k7 ?k8 ?k9 ?k10 ?k11 ?k12 ?_; (case k1 | k2 | k3 => k_asm); (case k4 | k5 => k_mem); (case k6 | k7 | k8 => k_is); (case k9 | k10 => assumption); (case k11 => (intro _; with_unfolding_all rfl)); (case k12 => (intro _; with_unfolding_all rfl)); k_whole; intro D' h' F' N' l1)))
local macro_rules | `(tactic| walk_at "setItem ref ref") => `(tactic| (k_here; k_dflt (refine' Mine.pile_cut ?k1 ?k2 ?k3 ?kl ?k4 ?k5 ?k6 ?k7 ?k8 ?k9 ?k10 ?_; (case k1 | k2 | k3 | kl => k_asm); (case k4 | k5 => k_mem); (case k6 | k7 | k8 => k_is); (case k9 | k10 => assumption); k_whole; intro h' n' F' N'; (try dsimp only))))
local macro_rules | `(tactic| ks_enter) => `(tactic| (refine' ks_code_super ?k1 ?k2 ?k3 ?k4 ?k5 ?kA ?kF ?kK ?k6 ?k7 ?k8 ?k9 ?kB ?_ ?c1 ?c2 ?c3 ?c4; wtm_at "E8"; wtm_at "E9"; (case kB => exact locs rfl); (case c1 => decide); (case c2 | c3 | c4 => exact rfl); intro g' L' h' FG' F' N' B' X' T' l1; (try dsimp only)))
local macro_rules | `(tactic| walk_at "getMethod ref") => `(tactic| (k_here; k_dflt (first
  | (refine' Mine.super_len ?k1 ?k2 ?k3 ?k4 ?k5 ?k6 ?k7 ?k8 ?_; (case k1 => k_asm); (case k2 => k_asm); (case k3 => k_asm); (case k4 => k_mem); (case k5 => k_inst); (case k6 => k_is); (case k7 => ks_is); (case k8 => k_is); intro q' h' F' N' l1)
  | (refine' Mine.super_init ?k1 ?k2 ?k3 ?k4 ?k5 ?k6 ?k7 ?k8 ?_; (case k1 => k_asm); (case k2 => k_asm); (case k3 => k_asm); (case k4 => k_mem); (case k5 => k_inst); (case k6 => k_is); (case k7 => ks_is); (case k8 => k_is); intro q' h' F' N' l1))))
local macro_rules | `(tactic| walk_at "callWith ref") => `(tactic| (k_here; k_dflt (refine' Mine.callWith_wrap ?k1 ?k2 ?_; (case k1 => k_asm); (case k2 => k_mem); k_whole)))
local macro_rules | `(tactic| walk_at "call ref") => `(tactic| (k_here; k_dflt (refine' Mine.call_len ?k1 ?k2 ?k3 ?k4 ?_; (case k1 => k_asm); (case k2 | k3 => k_mem); (case k4 => assumption); k_whole)))
local macro_rules | `(tactic| walk_at "setAttr ref") => `(tactic| (k_here; k_dflt (refine' Mine.set_pile ?k1 ?k2 ?k3 ?k4 ?k5 ?k6 ?k7 ?k8 ?k9 ?k10 ?_; (case k1 | k2 | k3 => k_asm); (case k4 | k5 => k_mem); (case k6 | k7 => k_is); (case k8 | k9 => rfl); (case k10 => k_is); intro h' tk' F' N'; (try replace N' := Mine.news_dict2 N' (by assumption) (by assumption)); (try dsimp only))))
local macro_rules | `(tactic| walk_at "call ref") => `(tactic| (k_here; k_dflt (refine' Mine.call_init ?k1 ?k2 ?k3 ?k4 ?k5 ?_; (case k1 | k2 => k_asm); (case k3 | k4 => k_mem); (case k5 => first | assumption | (simp; done) | decide); intro h' n' F' N')))
section
theorem topOffproduct : True := by
  w_top off
  trivial
theorem product_spec {w : World} {p : Program} {loose : List Str} {mean : ExcName → Option Value} {mg mb : Str → Option Value}
  {dp un : Nat} {gd : Option (List Code)} {cn : Str} {cs : Scope} {a : Addr} {ccd : Value} {cl : List (Str × Addr)} {outer : List Env} {A₀ : Around} {base h₀ : Heap} {L : Addr} {m : Str → Option Value} {news : List (Addr × Obj)} {s : Shared}
    {Q E : Value → Shared → Prop}
    (B : Below A₀ base outer h₀) (F : Fr h₀ L s.heap m) (X : (kK w.params).In h₀) (N : News h₀ L s.heap news) (T : Top p loose mean mg mb h₀) (hk : cs.kind = .function)
    (hd1 : dp + 1 < recursionLimit) (hu : un + 8 < cLine)
    (t1 t2 : Addr) (a1 b1 c1 d1 a2 b2 c2 d2 : Int) (k1 k2 k3 k4 k5 k6 k7 k8 : Tok)
    (hm1 : (t1, tupO [.int a1 k1, .int b1 k2, .int c1 k3, .int d1 k4]) ∈ news) 
    (hm2 : (t2, tupO [.int a2 k5, .int b2 k6, .int c2 k7, .int d2 k8]) ∈ news) 
    (hba1 : -1099511627776 < a1 ∧ a1 < 1099511627776) (hbb1 : -1099511627776 < b1 ∧ b1 < 1099511627776) (hbc1 : -1099511627776 < c1 ∧ c1 < 1099511627776) (hbd1 : -1099511627776 < d1 ∧ d1 < 1099511627776) (hba2 : -1099511627776 < a2 ∧ a2 < 1099511627776) (hbb2 : -1099511627776 < b2 ∧ b2 < 1099511627776) (hbc2 : -1099511627776 < c2 ∧ c2 < 1099511627776) (hbd2 : -1099511627776 < d2 ∧ d2 < 1099511627776)
    (hret : ∀ r h' tk' k9 k10 k11 k12, Fr h₀ L h' m → News h₀ L h' ((r, tupO [.int (a1*a2+b1*c2) k9, .int (a1*b2+b1*d2) k10, .int (c1*a2+d1*c2) k11, .int (c1*b2+d1*d2) k12]) :: news) → (∀ q ∈ news, q.1 < r) → Q (.ref r) { s with heap := h', toks := tk' }) :
    wpAny (model PySem.Challenge.rw_ph0024_03.row.prog w) (ktrTop dp un gd cn cs L a ccd cl outer) (call (.ref 118) [.ref t1, .ref t2]) Q E s := by
  revert X; k_fill; intro X
  refine wpAny_call ?_
  k_dflt ktr_enter
  k_steps
  all_goals exact hret _ _ _ _ _ _ _ (by k_asm) (by k_asm) (by assumption)
end
section
theorem topOffprod : True := by
  w_top off
  trivial
theorem prod_spec {w : World} {p : Program} {loose : List Str} {mean : ExcName → Option Value} {mg mb : Str → Option Value}
  {dp un : Nat} {gd : Option (List Code)} {cn : Str} {cs : Scope} {a : Addr} {ccd : Value} {cl : List (Str × Addr)} {outer : List Env} {A₀ : Around} {base h₀ : Heap} {L : Addr} {m : Str → Option Value} {news : List (Addr × Obj)} {s : Shared}
    {Q E : Value → Shared → Prop}
    (B : Below A₀ base outer h₀) (F : Fr h₀ L s.heap m) (X : (kK w.params).In h₀) (N : News h₀ L s.heap news) (T : Top p loose mean mg mb h₀) (hk : cs.kind = .function)
    (hd1 : dp + 1 < recursionLimit) (hu : un + 8 < cLine)
    (t1 t2 : Addr) (a1 b1 c1 d1 a2 b2 c2 d2 : Int) (k1 k2 k3 k4 k5 k6 k7 k8 : Tok)
    (hm1 : (t1, tupO [.int a1 k1, .int b1 k2, .int c1 k3, .int d1 k4]) ∈ news) 
    (hm2 : (t2, tupO [.int a2 k5, .int b2 k6, .int c2 k7, .int d2 k8]) ∈ news) 
    (h1 : (Mat.mk a1 b1 c1 d1).le 1000000000000) (h2 : (Mat.mk a2 b2 c2 d2).le 1000000000000)
    (hret : ∀ r h' tk' k9 k10 k11 k12, Fr h₀ L h' m → News h₀ L h' ((r, ((Mat.mk a1 b1 c1 d1).mul (Mat.mk a2 b2 c2 d2)).obj k9 k10 k11 k12) :: news) → (∀ q ∈ news, q.1 < r) → Q (.ref r) { s with heap := h', toks := tk' }) :
    wpAny (model PySem.Challenge.rw_ph0024_03.row.prog w) (ktrTop dp un gd cn cs L a ccd cl outer) (call (.ref 118) [.ref t1, .ref t2]) Q E s := by
  obtain ⟨p1, p2, p3, p4, p5, p6, p7, p8⟩ := h1
  obtain ⟨r1, r2, r3, r4, r5, r6, r7, r8⟩ := h2
  dsimp only at *
  exact product_spec B F X N T hk hd1 hu t1 t2 a1 b1 c1 d1 a2 b2 c2 d2 k1 k2 k3 k4 k5 k6 k7 k8 hm1 hm2 (by omega) (by omega) (by omega) (by omega) (by omega) (by omega) (by omega) (by omega) hret
end
section
theorem topOffpush : True := by
  w_top off
  trivial
theorem push_spec {w : World} {p : Program} {loose : List Str} {mean : ExcName → Option Value} {mg mb : Str → Option Value}
  {dp un : Nat} {gd : Option (List Code)} {cn : Str} {cs : Scope} {a : Addr} {ccd : Value} {cl : List (Str × Addr)} {outer : List Env} {A₀ : Around} {base h₀ : Heap} {L : Addr} {m : Str → Option Value} {news : List (Addr × Obj)} {s : Shared}
    {Q E : Value → Shared → Prop}
    (B : Below A₀ base outer h₀) (F : Fr h₀ L s.heap m) (X : (kK w.params).In h₀) (N : News h₀ L s.heap news) (T : Top p loose mean mg mb h₀) (hk : cs.kind = .function)
    (hd1 : dp + 1 < recursionLimit) (hu : un + 8 < cLine)
    (pl d : Addr) (its : List Value) (n k : Nat) (hs : Int) (ta tb : Tok) (x y : Value)
    (hm : (pl, pileO 100 d its n) ∈ news) (hdm : (d, dictOf (isz hs ta tb) k) ∈ news) (hsz : its.length ≤ sizeLine)
    (hret : ∀ t h' tk' n', Fr h₀ L h' m → News h₀ L h' ((t, tupO [x, y]) :: setAt pl (pileO 100 d (its ++ [.ref t]) n') news) → (∀ q ∈ news, q.1 < t) → Q .none { s with heap := h', toks := tk' }) :
    wpAny (model PySem.Challenge.rw_ph0024_03.row.prog w) (ktrTop dp un gd cn cs L a ccd cl outer) (call (.ref 45) [.ref pl, x, y]) Q E s := by
  revert X; k_fill; intro X
  refine wpAny_call ?_
  k_dflt ktr_enter
  k_steps
  exact hret _ _ _ _ (by k_asm) (news_cons (by k_asm) hm (by assumption)) (by assumption)
end
section
theorem topOffpopfrom : True := by
  w_top off
  trivial
theorem pop_from_spec {w : World} {p : Program} {loose : List Str} {mean : ExcName → Option Value} {mg mb : Str → Option Value}
  {dp un : Nat} {gd : Option (List Code)} {cn : Str} {cs : Scope} {a : Addr} {ccd : Value} {cl : List (Str × Addr)} {outer : List Env} {A₀ : Around} {base h₀ : Heap} {L : Addr} {m : Str → Option Value} {news : List (Addr × Obj)} {s : Shared}
    {Q E : Value → Shared → Prop}
    (B : Below A₀ base outer h₀) (F : Fr h₀ L s.heap m) (X : (kK w.params).In h₀) (N : News h₀ L s.heap news) (T : Top p loose mean mg mb h₀) (hk : cs.kind = .function)
    (hd1 : dp + 1 < recursionLimit) (hu : un + 8 < cLine)
    (pl d : Addr) (its : List Value) (n k : Nat) (hs : Int) (ta tb : Tok) (i : Int) (ti : Tok)
    (hm : (pl, pileO 100 d its n) ∈ news) (hdm : (d, dictOf (isz hs ta tb) k) ∈ news) (hsz : its.length ≤ sizeLine) (hi0 : 0 ≤ i)
    (hret : ∀ D h' tk' n', Fr h₀ L h' m → News h₀ L h' ((D, lstO (its.drop i.toNat) 0) :: setAt pl (pileO 100 d (its.take i.toNat) n') news) → (∀ q ∈ news, q.1 < D) → Q (.ref D) { s with heap := h', toks := tk' }) :
    wpAny (model PySem.Challenge.rw_ph0024_03.row.prog w) (ktrTop dp un gd cn cs L a ccd cl outer) (call (.ref 53) [.ref pl, .int i ti]) Q E s := by
  revert X; k_fill; intro X
  refine wpAny_call ?_
  k_dflt ktr_enter
  k_steps
  exact hret _ _ _ _ (by k_asm) (news_cons (by k_asm) hm (by assumption)) (by assumption)
end
section
theorem topOffpartcount : True := by
  w_top off
  trivial
theorem part_count_spec {w : World} {p : Program} {loose : List Str} {mean : ExcName → Option Value} {mg mb : Str → Option Value}
  {dp un : Nat} {gd : Option (List Code)} {cn : Str} {cs : Scope} {a : Addr} {ccd : Value} {cl : List (Str × Addr)} {outer : List Env} {A₀ : Around} {base h₀ : Heap} {L : Addr} {m : Str → Option Value} {news : List (Addr × Obj)} {s : Shared}
    {Q E : Value → Shared → Prop}
    (B : Below A₀ base outer h₀) (F : Fr h₀ L s.heap m) (X : (kK w.params).In h₀) (N : News h₀ L s.heap news) (T : Top p loose mean mg mb h₀) (hk : cs.kind = .function)
    (hd1 : dp + 1 < recursionLimit) (hu : un + 8 < cLine)
    (pl d : Addr) (its : List Value) (n k : Nat) (hs : Int) (ta tb : Tok)
    (hm : (pl, pileO 100 d its n) ∈ news) (hdm : (d, dictOf (isz hs ta tb) k) ∈ news) (hsz : its.length ≤ sizeLine)
    (hret : ∀ h' tk' t, Fr h₀ L h' m → News h₀ L h' news → Q (.int its.length t) { s with heap := h', toks := tk' }) :
    wpAny (model PySem.Challenge.rw_ph0024_03.row.prog w) (ktrTop dp un gd cn cs L a ccd cl outer) (call (.ref 97) [.ref pl]) Q E s := by
  revert X; k_fill; intro X
  refine wpAny_call ?_
  k_dflt ks_enter
  k_steps
  exact hret _ _ _ (by k_asm) (news_tail (news_tail (by k_asm)))
end
section
theorem topOffmake : True := by
  w_top off
  trivial
theorem make_spec {w : World} {p : Program} {loose : List Str} {mean : ExcName → Option Value} {mg mb : Str → Option Value}
  {dp un : Nat} {gd : Option (List Code)} {cn : Str} {cs : Scope} {a : Addr} {ccd : Value} {cl : List (Str × Addr)} {outer : List Env} {A₀ : Around} {base h₀ : Heap} {L : Addr} {m : Str → Option Value} {news : List (Addr × Obj)} {s : Shared}
    {Q E : Value → Shared → Prop}
    (B : Below A₀ base outer h₀) (F : Fr h₀ L s.heap m) (X : (kK w.params).In h₀) (N : News h₀ L s.heap news) (T : Top p loose mean mg mb h₀) (hk : cs.kind = .function)
    (hd1 : dp + 2 < recursionLimit) (hu : un + 12 < cLine)
    (hret : ∀ x dx h' tk' n' hs ta tb, Fr h₀ L h' m → News h₀ L h' ((x, pileO 100 dx [] n') :: (dx, dictOf (isz hs ta tb) 1) :: news) → (∀ q ∈ news, q.1 < dx) → dx < x → Q (.ref x) { s with heap := h', toks := tk' }) :
    wpAny (model PySem.Challenge.rw_ph0024_03.row.prog w) (ktrTop dp un gd cn cs L a ccd cl outer) (call (.ref 100) [] []) Q E s := by
  revert X; k_fill; intro X
  refine call_pile F X N (by kernel_rfl) (by k_is) (by k_is) ?_
  intro x dx h' F' N' l1 l2
  k_dflt ks_enter
  refine ks_wpAt_execs_cons ?_
  refine wpAt_of_wpAny ?_
  walk1
  walk1
  walk1
  walk1
  refine ks_wpAt_execs_cons ?_
  refine ks_wpAt_Expr_any ?_ rfl rfl
  k_steps
  exact hret _ _ _ _ _ _ _ _ (by k_asm) (news_make (by k_asm) l1 l2) l1 l2
end
section
theorem topOffreplace : True := by
  w_top off
  trivial
local macro_rules | `(tactic| ktr_enter) => `(tactic| (refine' Mine.code_rest ?k1 ?k2 ?k3 ?k4 ?k5 ?kA ?kF ?kK ?k6 ?k7 ?k8 ?kz ?kB ?_ ?c2 ?c3 ?c4 ?c5; wtm_at "E8"; (case kz => assumption); (case kB => exact fun _ => locs rfl); (case c5 => decide); (case c2 | c3 | c4 => exact rfl); k_whole; intro D' g' L' h' l1 FG' F' N' B' X' T'; (try dsimp only); (try k_fold)))
local macro_rules | `(tactic| walk_at "truthy ref") => `(tactic| (k_here; (with_reducible show wpAny _ _ (truthy (Value.ref _)) _ _ _); k_dflt (refine' ktl_truthyK ?N ?m ?z ?_; (case N => k_asm); (case m => k_mem); (case z => first | assumption | exact Nat.le_of_ble_eq_true rfl); k_whole); (try simp only [prVals, List.isEmpty_cons, List.isEmpty_nil, Bool.not_false, Bool.not_true])))
local macro_rules | `(tactic| walk_at "call builtin:str.split") => `(tactic| (k_here; k_dflt (refine' Mine.split_K ?k1 ?k2 ?k3 ?k4 ?_; (case k1 | k2 => k_asm); (case k3 | k4 => assumption); k_whole; intro D' l' h' k' e' F' N' l1)))
local macro_rules | `(tactic| walk_at "call builtin:str.join") => `(tactic| (k_here; k_dflt (refine' Mine.join_K ?k1 ?k2 ?k3 ?k4 ?k5 ?k6 ?_; (case k1 => k_asm); (case k2 => exact List.Mem.head _); (case k3 | k4 | k5 | k6 => assumption); k_whole; intro t' k')))
local macro_rules | `(tactic| walk_at "subscriptTail") => `(tactic| (k_here; (with_reducible show wpAny _ _ (subscriptTail _ _ (Value.ref _) (Value.int 0 _)) _ _ _); (refine' Mine.tup_item0 ?k1 ?k2 ?_ ?k3; (case k1 => k_asm); (case k2 => k_mem); (case k3 => with_unfolding_all rfl); k_whole)))
local macro_rules | `(tactic| walk_at "subscriptTail") => `(tactic| (k_here; (with_reducible show wpAny _ _ (subscriptTail _ _ (Value.ref _) (Value.int 1 _)) _ _ _); (refine' Mine.tup_item1 ?k1 ?k2 ?_ ?k3; (case k1 => k_asm); (case k2 => k_mem); (case k3 => with_unfolding_all rfl); k_whole)))
local macro_rules | `(tactic| walk_at "subscriptTail") => `(tactic| (k_here; wtm_at "R1"; k_dflt (refine' Mine.tup_drop2 ?k1 ?k2 ?k3 ?k4 ?k5 ?k6 ?_; (case k1 | k2 => k_asm); (case k3 => k_mem); (case k4 => assumption); (case k5 => with_unfolding_all rfl); (case k6 => (intro _; with_unfolding_all rfl)); k_whole; intro D' h' F' N' l1)))
abbrev rMap (x : Str) (tx : Tok) (tp : Addr) : Str → Option Value := fun y => if y = (Str.ofString "pairs") then some (.ref tp) else if y = (Str.ofString "text") then some (.str x tx) else none
theorem rMap_next (x y : Str) (tx ty : Tok) (tp tq : Addr) : (fun z : Str => if z = Str.ofString "pairs" then some (Value.ref tq) else if z = Str.ofString "text" then some (Value.str y ty) else rMap x tx tp z) = rMap y ty tq := by
  funext z
  unfold rMap
  by_cases h : z = Str.ofString "pairs"
  · rw [if_pos h, if_pos h]
  · rw [if_neg h]
    by_cases h2 : z = Str.ofString "text"
    · rw [if_pos h2, if_neg h, if_pos h2]
    · rw [if_neg h2, if_neg h, if_neg h2, if_neg h, if_neg h2]
theorem news_sub {h₀ h : Heap} {L : Addr} {n₁ n₂ : List (Addr × Obj)} (N : News h₀ L h n₁) (s : ∀ e ∈ n₂, e ∈ n₁) : News h₀ L h n₂ := fun p hp => N p (s p hp)
def rJ (news : List (Addr × Obj)) (fin : Str) : Nat → (Str → Option Value) → List (Addr × Obj) → Prop := fun k m₁ news₁ =>
  ∃ prs x tx tp, k = prs.length ∧ m₁ = rMap x tx tp ∧ news₁ = (tp, tupO (prVals prs)) :: news ∧ replAll x prs = fin ∧ x.length ≤ 1000 ∧ (∀ q ∈ prs, q.ok) ∧ prs.length ≤ 100
theorem replace_spec {w : World} {p : Program} {loose : List Str} {mean : ExcName → Option Value} {mg mb : Str → Option Value}
  {dp un : Nat} {gd : Option (List Code)} {cn : Str} {cs : Scope} {a : Addr} {ccd : Value} {cl : List (Str × Addr)} {outer : List Env} {A₀ : Around} {base h₀ : Heap} {L : Addr} {m : Str → Option Value} {news : List (Addr × Obj)} {s : Shared}
    {Q E : Value → Shared → Prop}
    (B : Below A₀ base outer h₀) (F : Fr h₀ L s.heap m) (X : (kK w.params).In h₀) (N : News h₀ L s.heap news) (T : Top p loose mean mg mb h₀) (hk : cs.kind = .function)
    (hd1 : dp + 1 < recursionLimit) (hu : un + 8 < cLine)
    (x : Str) (tx : Tok) (prs₀ : List Pr) (ok : ∀ q ∈ prs₀, q.ok) (hl₀ : prs₀.length ≤ 100) (hx : x.length ≤ 1000)
    (hret : ∀ h' tk' t, Fr h₀ L h' m → News h₀ L h' news → Q (.str (replAll x prs₀) t) { s with heap := h', toks := tk' }) :
    wpAny (model PySem.Challenge.rw_ph0024_03.row.prog w) (ktrTop dp un gd cn cs L a ccd cl outer) (call (.ref 111) (.str x tx :: prVals prs₀)) Q E s := by
  have hz₀ : (prVals prs₀).length ≤ sizeLine := by rw [prVals_len, sizeLine_eq]; omega
  revert X; k_fill; intro X
  refine wpAny_call ?_
  k_dflt ktr_enter
  rename_i D' g' L' h' l1 FG' F' N' B' X' T' 
  refine wpAny_execs_cons ?_
  have F2 : Fr g' L' h' (rMap x tx D') := by
    have e := lookup2 (Str.ofString "pairs") (Str.ofString "text") (.ref D') (.str x tx)
    have F3 : Fr g' L' h' (fun y : Str => ([(Str.ofString "pairs", .ref D'), (Str.ofString "text", .str x tx)] : List (Str × Value)).lookup y) := F'
    rw [e] at F3
    exact F3
  refine While_inv2 (h₀ := g') (L := L') (news := (D', tupO (prVals prs₀)) :: news) (rJ news (replAll x prs₀)) (n₀ := prs₀.length) (m := rMap x tx D') F2 N' ⟨prs₀, x, tx, D', rfl, rfl, rfl, rfl, hx, ok, hl₀⟩ ?_ (by with_unfolding_all passes_own)
  clear F' N' F2
  intro k m₁ news₁ h₁ tk₁ F₁ N₁ J₁
  obtain ⟨prs, y, ty, tp, rfl, rfl, rfl, hfin, hy, hpr, hlen⟩ := J₁
  cases prs with
  | nil =>
    k_steps
    subst hfin
    exact hret _ _ _ (by k_asm) (news_tail (by k_asm))
  | cons q r =>
    obtain ⟨ho, hn, ho2⟩ := hpr q List.mem_cons_self
    change News _ _ _ ((tp, tupO (Value.str q.o q.t :: Value.str q.n q.u :: prVals r)) :: news) at N₁
    have hn2 : q.n.length ≤ 100 := Nat.le_trans hn ho2
    have hz : (Value.str q.o q.t :: Value.str q.n q.u :: prVals r).length ≤ 1000 := by
      have := prVals_len r
      simp only [List.length_cons] at hlen ⊢
      omega
    k_steps
    refine ⟨_, _, _, (_, tupO (prVals r)) :: news, r.length, rfl, by k_asm, news_sub (by k_asm) ?_, Nat.lt_succ_self _, r, repl y q.o q.n, _, _, rfl, rMap_next .., rfl, hfin, ?_, fun q' hq' => hpr q' (List.mem_cons_of_mem _ hq'), Nat.le_trans (Nat.le_succ _) hlen⟩
    · intro e he
      rcases List.mem_cons.mp he with rfl | he
      · exact List.Mem.head _
      · exact List.Mem.tail _ (List.Mem.tail _ (List.Mem.tail _ he))
    · exact Nat.le_trans (repl_len _ _ _ hn) hy
end
section
theorem topOffrest : True := by
  w_top off
  trivial
local macro_rules | `(tactic| walk_at "call ref") => `(tactic| (k_here; (try rw [List.append_nil]); k_dflt (refine' Mine.replace_spec ?k1 ?k2 ?k3 ?k4 ?k5 ?k6 ?k7 ?k8 _ _ _ ?c1 ?c2 ?c3 ?_; wtm_at "S8"; (case c1 | c2 | c3 => assumption); k_whole; intro h' tk' t' F' N'; (try dsimp only))))
local macro_rules | `(tactic| walk_at "StarOf ref") => `(tactic| (k_here; k_dflt (refine' star_seq ?k1 ?k2 ?m ?c ?d ?T ?e ?z ?_; (case k1 | k2 => k_asm); (case m => k_mem); (case c | d => exact rfl); (case T => first | exact .inl rfl | exact .inr rfl); (case e => exact rfl); (case z => assumption); k_whole); intro h' F' N'; (try dsimp only [List.nil_append, List.cons_append])))
def rwJ (news : List (Addr × Obj)) (prs : List Pr) (x : Str) (pp : Addr) (μ : Str → Nat) : Nat → (Str → Option Value) → List (Addr × Obj) → Prop := fun k m₁ news₁ =>
  ∃ mr y ty z tz, m₁ = lay [(Str.ofString "told", .str z tz), (Str.ofString "line", .str y ty), (Str.ofString "pairs", .ref pp)] mr ∧ news₁ = news ∧ Reach prs x y ∧ replAll y prs = z ∧ k = μ y
theorem rest_spec {w : World} {p : Program} {loose : List Str} {mean : ExcName → Option Value} {mg mb : Str → Option Value}
  {dp un : Nat} {gd : Option (List Code)} {cn : Str} {cs : Scope} {a : Addr} {ccd : Value} {cl : List (Str × Addr)} {outer : List Env} {A₀ : Around} {base h₀ : Heap} {L : Addr} {m : Str → Option Value} {news : List (Addr × Obj)} {s : Shared}
    {Q E : Value → Shared → Prop}
    (B : Below A₀ base outer h₀) (F : Fr h₀ L s.heap m) (X : (kK w.params).In h₀) (N : News h₀ L s.heap news) (T : Top p loose mean mg mb h₀) (hk : cs.kind = .function)
    (hd1 : dp + 2 < recursionLimit) (hu : un + 16 < cLine)
    (x : Str) (tx : Tok) (pp : Addr) (np : Nat) (prs : List Pr) (ok : ∀ q ∈ prs, q.ok) (hl : prs.length ≤ 100) (hx : x.length ≤ 1000) (hm : (pp, lstO (prVals prs) np) ∈ news)
    (μ : Str → Nat) (hμ : ∀ y, replAll y prs ≠ y → μ (replAll y prs) < μ y)
    (hret : ∀ h' tk' t r, Reach prs x r → replAll r prs = r → Fr h₀ L h' m → News h₀ L h' news → Q (.str r t) { s with heap := h', toks := tk' }) :
    wpAny (model PySem.Challenge.rw_ph0024_03.row.prog w) (ktrTop dp un gd cn cs L a ccd cl outer) (call (.ref 130) [.str x tx, .ref pp]) Q E s := by
  have hz₀ : (prVals prs).toArray.size ≤ sizeLine := by rw [List.size_toArray, prVals_len, sizeLine_eq]; omega
  revert X; k_fill; intro X
  refine wpAny_call ?_
  k_dflt ktr_enter
  generalize hW : Stmt.While _ _ _ _ = W
  k_steps
  subst hW
  rename Fr _ _ _ _ => F9
  rename News _ _ _ _ => N9
  have F2 := Mine.Fr.lay (l := [(Str.ofString "told", .str (replAll x prs) _), (Str.ofString "line", .str x tx), (Str.ofString "pairs", .ref pp)]) F9 ⟨rfl, rfl, rfl, trivial⟩
  refine While_inv2 (rwJ news prs x pp μ) (n₀ := μ x) F2 N9 ⟨_, _, _, _, _, rfl, rfl, .start, rfl, rfl⟩ ?_ (by with_unfolding_all passes_own)
  clear F9 N9 F2
  intro k m₁ news₁ h₁ tk₁ F₁ N₁ J₁
  obtain ⟨mr, y, ty, z, tz, rfl, rfl, hR, hz, rfl⟩ := J₁
  dsimp only [lay] at F₁
  have hzl : z.length ≤ 1000 := by rw [← hz]; exact Nat.le_trans (reach_len ok (.step hR)) hx
  k_steps
  · rename Fr _ _ _ _ => F9
    rename News _ _ _ _ => N9
    rename (_ != _) = true => hne
    have hne' : replAll y prs ≠ y := by rw [hz]; simpa using hne
    have hlt := hμ y hne'
    rw [hz] at hlt
    exact ⟨_, _, _, news₁, μ z, rfl, Mine.Fr.lay (l := [(Str.ofString "told", .str (replAll z prs) _), (Str.ofString "line", .str z tz), (Str.ofString "pairs", .ref pp)]) F9 ⟨rfl, rfl, rfl, trivial⟩, news_tail N9, hlt, _, z, _, replAll z prs, _, rfl, rfl, hz ▸ Reach.step hR, rfl, rfl⟩
  · rename (_ != _) = false => hne
    have e : z = y := by simpa using hne
    subst e
    exact hret _ _ _ _ hR hz (by k_asm) (by k_asm)
end
section
theorem topOffrest2 : True := by
  w_top off
  trivial
theorem rest_two {w : World} {p : Program} {loose : List Str} {mean : ExcName → Option Value} {mg mb : Str → Option Value}
  {dp un : Nat} {gd : Option (List Code)} {cn : Str} {cs : Scope} {a : Addr} {ccd : Value} {cl : List (Str × Addr)} {outer : List Env} {A₀ : Around} {base h₀ : Heap} {L : Addr} {m : Str → Option Value} {news : List (Addr × Obj)} {s : Shared}
    {Q E : Value → Shared → Prop}
    (B : Below A₀ base outer h₀) (F : Fr h₀ L s.heap m) (X : (kK w.params).In h₀) (N : News h₀ L s.heap news) (T : Top p loose mean mg mb h₀) (hk : cs.kind = .function)
    (hd1 : dp + 2 < recursionLimit) (hu : un + 16 < cLine)
    (x : Str) (tx : Tok) (pp : Addr) (np : Nat) (o1 n1 o2 n2 : Str) (t1 u1 t2 u2 : Tok) (hm : (pp, lstO [.str o1 t1, .str n1 u1, .str o2 t2, .str n2 u2] np) ∈ news) (ok1 : Pr.ok ⟨o1, t1, n1, u1⟩) (ok2 : Pr.ok ⟨o2, t2, n2, u2⟩) (hx : x.length ≤ 1000)
    (f : Str → Str) (hf : ∀ y, repl (repl y o1 n1) o2 n2 = f y) (hdec : ∀ y, f y ≠ y → (f y).length < y.length)
    (hret : ∀ h' tk' t r, ReachF f x r → f r = r → Fr h₀ L h' m → News h₀ L h' news → Q (.str r t) { s with heap := h', toks := tk' }) :
    wpAny (model PySem.Challenge.rw_ph0024_03.row.prog w) (ktrTop dp un gd cn cs L a ccd cl outer) (call (.ref 130) [.str x tx, .ref pp]) Q E s := by
  refine rest_spec B F X N T hk hd1 hu x tx pp np [⟨o1, t1, n1, u1⟩, ⟨o2, t2, n2, u2⟩] ?_ (by simp) hx hm (fun y => y.length) ?_ ?_
  · intro q hq
    rcases List.mem_cons.mp hq with rfl | hq
    · exact ok1
    · rw [List.mem_singleton.mp hq]; exact ok2
  · intro y hy
    have e : replAll y [⟨o1, t1, n1, u1⟩, ⟨o2, t2, n2, u2⟩] = f y := hf y
    rw [e] at hy ⊢
    exact hdec y hy
  · intro h' tk' t r hr he F' N'
    exact hret h' tk' t r (hr.toF hf) ((hf r).symm.trans he) F' N'
end
section
theorem topOffstr : True := by
  w_top off
  trivial
theorem str_spec (w : World) (p : Program) (loose : List Str) (mean : ExcName → Option Value) (mg mb : Str → Option Value) (A : Around) (Q E : Value → Shared → Prop) (s : Shared)
    (X : (kK w.params).In s.heap) (T : Top p loose mean mg mb s.heap) (hA : A.handled = none) (hdep : A.depth + 3 < recursionLimit) (hu : A.units + 20 < cLine)
    (pl d P : Addr) (od : Obj) (pcs : List Pc) (n : Nat) (ps : Array Value) (hm : s.heap.get? pl = some (pileO 100 d (pcs.map fun c => .ref c.a) n)) (hdm : s.heap.get? d = some od) (hit : ∀ c ∈ pcs, s.heap.get? c.a = some c.obj)
    (hw : (pcs.map fun c => c.f.length + c.p.length).sum + pcs.length ≤ 100000)
    (hok : s.heap.IsCode 73 P ps) (htab : s.heap.TableAt 73 P ps) (G : AllBare s.gens)
    (hret : ∀ h' tk' g' more t, Heap.ExtBut P s.heap h' → h'.IsCode 73 P (ps ++ more) → h'.TableAt 73 P (ps ++ more) → AllBare g' → Q (.str (pileText pcs) t) { s with heap := h', toks := tk', gens := g' }) :
    wpAny (model PySem.Challenge.rw_ph0024_03.row.prog w) A (call (.ref 74) [.ref pl]) Q E s := by
  revert X; k_fill; intro X
  refine wpAny_call ?_
  refine ks_codeAny_call_defAt (binds := [("self", .ref pl)]) (by omega) (X _ _ (by k_is)) rfl T.nolimit (codeRec_of X (by k_is)) rfl (BindsTo.of_eq rfl) (by decide) (locs rfl) (fun h₁ hns hk => wpAt_of_wpAny ?_) rfl rfl rfl
  have F : Fr s.heap s.heap.objs.size h₁ (fun x => [(("self" : Str), Value.ref pl)].reverse.lookup x) := ⟨hns, hk, Nat.le_refl _⟩
  have N : News s.heap s.heap.objs.size h₁ [] := News.nil
  k_steps
  obtain ⟨bm, ob, M⟩ := bmod_of_top T
  have X₁ : (kK w.params).In h₁ := X.keeps hk
  have hEm : mg "EMPTYSTRING" = some (.str "" 196) := mg_of X T.g (by k_is)
  refine gen_pile (K := kK w.params) (C := 100) (x := pl) (c := 73) (P := P) (ps := ps) (its := pcs.map fun c => .ref c.a) (n := n) (ox := pileO 100 d (pcs.map fun c => .ref c.a) n) (od := some od) (mg := mg) (bm := bm) (ob := ob)
    (fun j => (pcs.getD j default).a) (fun j => .str (pcs.getD j default).f (pcs.getD j default).tf) (fun j => .str (pcs.getD j default).p (pcs.getD j default).tp) (fun j y => ∃ u, y = .str (pcText (pcs.getD j default)) u)
    hA (Nat.lt_of_lt_of_le (Nat.add_lt_add_right (Nat.lt_add_of_pos_right (by decide : 0 < 2)) 1) (Nat.le_of_lt hdep)) rfl rfl (by decide) rfl rfl rfl (by decide) rfl rfl (hok.keeps hk) (htab.keeps hk) (M.keeps hk) (T.nolimit.keeps hk) G X₁
    ⟨hk _ _ hm, rfl, rfl, hk _ _ hdm⟩ rfl (by k_is) (by k_is) (fun q => wpAny_Name (wpAny_loadName_local rfl rfl hns rfl q) (by decide)) (fun _ => rfl) ?_ ?_ ?_ ?_
  · intro j hj
    rw [List.length_map] at hj
    simp [List.getD_eq_getElem?_getD, List.getElem?_eq_getElem hj]
  · intro j hj
    rw [List.length_map] at hj
    have e : pcs.getD j default = pcs[j] := by simp [List.getD_eq_getElem?_getD, List.getElem?_eq_getElem hj]
    rw [e]
    exact ⟨_, hk _ _ (hit _ (List.getElem_mem hj)), rfl, _, rfl⟩
  · intro C' code A' E' i s₂ m₂ Q' hi hA' hn ha hb hkp hq
    rw [List.length_map] at hi
    have e : pcs.getD i default = pcs[i] := by simp [List.getD_eq_getElem?_getD, List.getElem?_eq_getElem hi]
    have hle : (pcs.getD i default).f.length + (pcs.getD i default).p.length ≤ 100000 := by
      rw [e]
      have : pcs[i].f.length + pcs[i].p.length ≤ (pcs.map fun c => c.f.length + c.p.length).sum := le_sum_of_mem (List.mem_map.mpr ⟨pcs[i], List.getElem_mem hi, rfl⟩)
      omega
    exact elt_join (mg := mg) (te := 196) rfl rfl rfl rfl ((T.g.keeps hk).at' fun o e => hkp _ o (M.apart htab).1 e) hEm hn ha hb hle rfl fun h' tk t hk' => hq _ _ _ ⟨_, rfl⟩ hk'
  · intro a s₅ more hx hok' htab' G' ho hd' W
    dsimp only at hx ho hd' W
    refine spliced_nil ?_
    dsimp only
    rw [List.length_map] at W
    refine join_genW W G' (fun j => pcText (pcs.getD j default)) (fun j v hv => hv) ?_ ?_ fun s' t' hk' G'' ho' hd'' => ?_
    · rw [range_map_getD pcs pcText]
      exact joinOk_of_weight (by rw [pcs_weight, List.length_map]; omega) (by decide)
    · rw [sizeLine_eq]; omega
    · rw [range_map_getD pcs pcText]
      rw [shared_eta s s' (ho'.trans ho) (hd''.trans hd')]
      have hN : s.heap.objs.size < h₁.objs.size := hns.lt
      refine hret _ _ _ more _ (fun b o hb e => hk' b o (Heap.lt_size (hk _ _ e)) (hx b o hb (hk _ _ e))) (hok'.at2 (fun o e => hk' _ o (hok.keeps hk).lt.1 e) (fun o e => hk' _ o (hok.keeps hk).lt.2 e)) (htab'.at2 (fun o e => hk' _ o (hok.keeps hk).lt.1 e) (fun o e => hk' _ o (hok.keeps hk).lt.2 e)) G''
theorem str_led {w : World} {p : Program} {loose : List Str} {mean : ExcName → Option Value} {mg mb : Str → Option Value} {A : Around} {Q E : Value → Shared → Prop} {s : Shared} {h₀ : Heap} {L : Addr} {m : Str → Option Value} {news : List (Addr × Obj)}
    (F : Fr h₀ L s.heap m) (X : (kK w.params).In h₀) (N : News h₀ L s.heap news) (T : Top p loose mean mg mb h₀) (hA : A.handled = none) (hdep : A.depth + 3 < recursionLimit) (hu : A.units + 20 < cLine)
    (pl d : Addr) (pcs : List Pc) (ps : Array Value) (Pl : Pile 100 news pl d pcs) (hw : (pcs.map fun c => c.f.length + c.p.length).sum + pcs.length ≤ 100000) (hP : (69, tabObj ps) ∈ news) (hT : TriplesOk ps.toList) (G : AllBare s.gens)
    (hret : ∀ h' tk' g' ps' t news', Fr h₀ L h' m → News h₀ L h' news' → (69, tabObj ps') ∈ news' → TriplesOk ps'.toList → AllBare g' → Keeps 69 news news' → Q (.str (pileText pcs) t) { s with heap := h', toks := tk', gens := g' }) :
    wpAny (model PySem.Challenge.rw_ph0024_03.row.prog w) A (call (.ref 74) [.ref pl]) Q E s := by
  obtain ⟨⟨n, hm⟩, ⟨hs, ta, tb, k, hdm⟩, hit⟩ := Pl
  have C : CodeHd s.heap 73 69 := codeHd_of_K (X.keeps F.keep) (by kernel_rfl)
  have hz := (N _ hP).2
  refine str_spec w p loose mean mg mb A Q E s (X.keeps F.keep) (T.keeps F.keep) hA hdep hu pl d 69 _ pcs n ps (N.get hm) (N.get hdm) (fun c hc => N.get (hit c hc)) hw (C.code (N.get hP) hT) (C.tab (N.get hP)) G fun h' tk' g' more t hx hc ht hg => ?_
  refine hret h' tk' g' (ps ++ more) t ((69, tabObj (ps ++ more)) :: but 69 news) (Fr.upto F hz.2 (Ne.symm hz.1) hx) ?_ (List.Mem.head _) ?_ hg (fun q hq e => List.Mem.tail _ (but_mem.mpr ⟨hq, e⟩))
  · intro q hq
    rcases List.mem_cons.mp hq with rfl | hq
    · exact ⟨ht.2, hz⟩
    · obtain ⟨h1, h2⟩ := but_mem.mp hq
      exact ⟨hx _ _ h2 (N q h1).1, (N q h1).2⟩
  · obtain ⟨_, _, _, _, _, _, _, _, _, op, _, _, _, _, _, _, _, h1, h2, h3, _⟩ := hc
    exact h3
end
section
theorem topOffput : True := by
  w_top off
  trivial
local macro_rules | `(tactic| walk_at "compareOp NotEq ref ref") => `(tactic| (k_here; (with_reducible show wpAny _ _ (compareOp CmpOp.NotEq (Value.ref _) (Value.ref _)) _ _ _); k_dflt (refine' Mine.ne_pieces ?N ?a ?b ?us ?vs ?p ?q ?op ?oq ?u ?_; (case N => k_asm); (case a | b => assumption); (case us | vs => exact rfl); (case p | q | op | oq => assumption); (case u => ktr_units); k_whole)))
local macro_rules | `(tactic| walk_at "call builtin:len") => `(tactic| (k_here; (with_reducible show wpAny _ _ (call (Value.builtin "len") [Value.ref _]) _ _ _); k_dflt (refine' Mine.len_lst ?k1 ?k2 ?k3 ?_; (case k1 => k_asm); (case k2 => k_mem); (case k3 => assumption); k_whole)))
local macro_rules | `(tactic| walk_at "binaryOp Mult ref int") => `(tactic| (k_here; (with_reducible show wpAny _ _ (binaryOp Operator.Mult (Value.ref _) (Value.int _ _)) _ _ _); k_dflt (refine' KMa.mul ?F ?N ?l ?lo ?hi ?z ?e ?_; (case F | N => k_asm); (case l => exact News.isList (by k_asm) (by k_mem)); (case lo | hi => decide); (case z => (simp only [List.length_cons, List.length_nil]; decide)); (case e => (simp only [Int.reduceToNat, List.replicate_succ, List.replicate_zero, List.flatten_cons, List.flatten_nil, List.cons_append, List.nil_append, List.append_nil]; first | done | exact rfl)); k_whole); intro D' h' F' N' l1))
local macro_rules | `(tactic| walk_at "call ref") => `(tactic| (k_here; k_dflt (refine' Mine.push_spec ?k1 ?k2 ?k3 ?k4 ?k5 ?k6 ?k7 ?k8 _ _ _ _ _ _ _ _ _ _ ?c1 ?c2 ?c3 ?_; wtm_at "S8"; (case c1 | c2 => k_mem); (case c3 => assumption); k_whole; intro t' h' tk' n' F' N' l1; (try dsimp only))))
local macro_rules | `(tactic| walk_at "call ref") => `(tactic| (k_here; k_dflt (refine' Mine.pop_from_spec ?k1 ?k2 ?k3 ?k4 ?k5 ?k6 ?k7 ?k8 _ _ _ _ _ _ _ _ _ _ ?c1 ?c2 ?c3 ?c4 ?_; wtm_at "S8"; (case c1 | c2 => k_mem); (case c3 => assumption); (case c4 => first | assumption | (split <;> omega)); k_whole; intro D' h' tk' n' F' N' l1; (try dsimp only))))
local macro_rules | `(tactic| walk_at "call ref") => `(tactic| (k_here; k_dflt (refine' Mine.part_count_spec ?k1 ?k2 ?k3 ?k4 ?k5 ?k6 ?k7 ?k8 _ _ _ _ _ _ _ _ ?c1 ?c2 ?c3 ?_; wtm_at "S8"; (case c1 | c2 => k_mem); (case c3 => assumption); k_whole; intro h' tk' t' F' N'; (try dsimp only))))
theorem put_spec {w : World} {p : Program} {loose : List Str} {mean : ExcName → Option Value} {mg mb : Str → Option Value}
  {dp un : Nat} {gd : Option (List Code)} {cn : Str} {cs : Scope} {a : Addr} {ccd : Value} {cl : List (Str × Addr)} {outer : List Env} {A₀ : Around} {base h₀ : Heap} {L : Addr} {m : Str → Option Value} {news : List (Addr × Obj)} {s : Shared}
    {Q E : Value → Shared → Prop}
    (B : Below A₀ base outer h₀) (F : Fr h₀ L s.heap m) (X : (kK w.params).In h₀) (N : News h₀ L s.heap news) (T : Top p loose mean mg mb h₀) (hk : cs.kind = .function)
    (hd1 : dp + 2 < recursionLimit) (hu : un + 100 < cLine)
    (pl d : Addr) (pcs : List Pc) (x : Str) (tx : Tok) (P : Pile 100 news pl d pcs) (hsz : pcs.length ≤ 100000) (hok : ∀ c ∈ pcs, fpOk c.fp)
    (hret : ∀ h' tk' news' pcs', Fr h₀ L h' m → News h₀ L h' news' → Pile 100 news' pl d pcs' → Keeps pl news news' → pcs'.map Pc.fp = putN (pcs.map Pc.fp ++ [firstOf x]) 2 → Q .none { s with heap := h', toks := tk' }) :
    wpAny (model PySem.Challenge.rw_ph0024_03.row.prog w) (ktrTop dp un gd cn cs L a ccd cl outer) (call (.ref 137) [.ref pl, .str x tx]) Q E s := by
  have hz : (pcs.map Pc.v).length ≤ sizeLine := by rw [List.length_map, sizeLine_eq]; omega
  obtain ⟨⟨n, hm⟩, ⟨hs, ta, tb, k, hdm⟩, hit⟩ := id P
  revert X; k_fill; intro X
  refine wpAny_call ?_
  k_dflt ktr_enter
  rename Fr _ _ _ _ => F9
  obtain ⟨mr, F0⟩ : ∃ mr, Fr _ _ _ (lay [(Str.ofString "pile", .ref pl), (Str.ofString "letter", .str x tx)] mr) := ⟨_, Mine.Fr.lay F9 ⟨rfl, rfl, trivial⟩⟩
  clear F9
  dsimp only [lay] at F0
  generalize hW : Stmt.For _ _ _ _ _ = W
  k_steps
  all_goals (subst hW)
  all_goals (rename Fr _ _ _ _ => F1)
  all_goals (have F2 := Mine.Fr.lay (l := [(Str.ofString "pile", .ref pl)]) F1 ⟨rfl, trivial⟩)
  all_goals (refine For_led F2 ?_ (by intro _; with_unfolding_all rfl) (by with_unfolding_all passes_own))
  all_goals (clear F2)
  all_goals k_steps
  all_goals (rename Fr _ _ _ _ => F3)
  all_goals (rename News _ _ _ _ => N3)
  all_goals (obtain ⟨X₀, NX, HS, PX, KX⟩ := put_start P N N3)
  all_goals (obtain ⟨S0, S1, X0, X1, b1, b2, a1, a2, hT0, hS0, hS1, hX0, hX1⟩ := HS)
  all_goals
    have F4 := Mine.Fr.lay (l := [(Str.ofString "pile", .ref pl)]) F3 ⟨rfl, trivial⟩
    clear F3 N3
    obtain ⟨⟨n₁, hpl⟩, _, _⟩ := id PX
    have hT : (_ : Addr) ≠ pl := news_ne NX hT0 hpl pile_ne_tup
    refine led_tuple (l := _) (items := [.ref S0, .ref S1]) (PJ 100 pl d s.gens X₀ (putN ((pcs.map Pc.fp) ++ [_]))) rfl F4 NX hT0 ⟨rfl, ⟨_, rfl⟩, Keeps.refl _ _, _, PX, List.map_append⟩ (fun _ _ _ _ hJ => hJ.2.2.1 _ hT0 hT) ?_ ?_
    · intro I i v m₁ news₁ h tk gs o hv hJ F₁ N₁ hIt hne
      obtain ⟨rfl, ⟨mr₁, rfl⟩, K₁, pcs₁, P₁, hT₁⟩ := hJ
      obtain ⟨S, ps, rfl, hS, hps, hseek⟩ := sought_turn (T0 := S0) ⟨S0, S1, X0, X1, b1, b2, a1, a2, rfl, hS0, hS1, hX0, hX1⟩ hv
      dsimp only [lay] at F₁
      obtain ⟨⟨n₁', hpl₁⟩, ⟨hs₁, ta₁, tb₁, k₁, hdm₁⟩, hit₁⟩ := id P₁
      have hlen₁ : pcs₁.length ≤ 100001 := Nat.le_trans (put_len hT₁) (Nat.succ_le_succ hsz)
      have hz₁ : (pcs₁.map Pc.v).length ≤ sizeLine := by rw [List.length_map, sizeLine_eq]; omega
      have hS₁ : (S, lstO (ps.map Pc.v) 0) ∈ news₁ := K₁ _ hS (news_ne NX hS hpl pile_ne_lst)
      have hzS : (ps.map Pc.v).length ≤ sizeLine := by
        have e2 := seek_len' hseek
        rw [List.length_map, sizeLine_eq]; omega
      have hpsn : ∀ c ∈ ps, c.a ≠ pl := fun c hc => news_ne NX (hps c hc) hpl pile_ne_tup
      have hps₁ : ∀ c ∈ ps, (c.a, c.obj) ∈ (I, o) :: news₁ := fun c hc => List.Mem.tail _ (K₁ _ (hps c hc) (hpsn c hc))
      have hI₁ : (I, o) ∈ (I, o) :: news₁ := List.Mem.head _
      have hIpl : I ≠ pl := Ne.symm (hne _ hpl₁)
      have hKX : ∀ X', Keeps pl ((I, o) :: news₁) X' → Keeps pl X₀ (but I X') := fun X' K => Keeps.but K₁ hne K
      have hpl₂ := List.Mem.tail (I, o) hpl₁
      have hdm₂ := List.Mem.tail (I, o) hdm₁
      have hS₂ := List.Mem.tail (I, o) hS₁
      generalize hX₁ : (I, o) :: news₁ = X₁ at N₁ hpl₂ hdm₂ hS₂ hps₁ hI₁ hKX
      have NO : ∃ h, News _ _ h X₁ := ⟨_, N₁⟩
      generalize hW : Stmt.If _ _ _ _ = W
      k_steps
      subst hW
      rename Fr _ _ _ _ => F5
      rename News _ _ _ _ => N5
      obtain ⟨_, NO⟩ := NO
      have Pw : Pile 100 X₁ pl d pcs₁ := hX₁ ▸ Pile.weak P₁
      obtain ⟨X₂, N6, hD, P6, K6, hit6⟩ := popped (kk := pcs₁.length - ps.length) Pw NO N5 (by simp only [List.length_map]; split <;> omega)
      clear N5
      have F6 := Mine.Fr.lay (l := [(Str.ofString "pile", .ref pl), (Str.ofString "sought", .ref S), (Str.ofString "tail", .ref _)]) F5 ⟨rfl, rfl, rfl, trivial⟩
      clear F5
      dsimp only [lay] at F6
      have hS6 := K6 _ hS₂ (news_ne NO hS₂ hpl₂ pile_ne_lst)
      have hitD : ∀ c ∈ pcs₁.drop (pcs₁.length - ps.length), (c.a, c.obj) ∈ X₂ := fun c hc => hit6 c (List.mem_of_mem_drop hc)
      have hps₂ : ∀ c ∈ ps, (c.a, c.obj) ∈ X₂ := fun c hc => K6 _ (hps₁ c hc) (hpsn c hc)
      have okS := fpOk_seek hseek
      have okD : ∀ c ∈ pcs₁.drop (pcs₁.length - ps.length), fpOk c.fp := fun c hc => fpOk_put hT₁ hok (by first | exact ⟨ok_s, ok_e⟩ | exact ⟨ok_e, ok_r⟩) c (List.mem_of_mem_drop hc)
      generalize hW : Stmt.For _ _ _ _ _ = W
      have hI6 := K6 _ hI₁ hIpl
      obtain ⟨⟨n6, hpl6⟩, _, _⟩ := id P6
      have hDn : ∀ c ∈ pcs₁.drop (pcs₁.length - ps.length), c.a ≠ pl := fun c hc => news_ne N6 (hitD c hc) hpl6 pile_ne_tup
      have hDpl := news_ne N6 hD hpl6 pile_ne_lst
      have hz6 : pcs₁.length ≤ 100001 := hlen₁
      k_steps
      · rename Fr _ _ _ _ => F7
        rename News _ _ _ _ => N7
        rename _ = _ => heq
        exact ⟨_, _, _, _, X₂, but I X₂, o, rfl, Mine.Fr.lay (l := [(Str.ofString "pile", .ref pl)]) F7 ⟨rfl, trivial⟩, N7, hI6, hIt, fun q hq => but_mem.mp hq, rfl, ⟨_, rfl⟩, hKX _ K6, _, Pile.but P6 N7 hI6 hIt.iterish, cut_eq hT₁ hseek heq⟩
      · subst hW
        rename Fr _ _ _ _ => F7
        rename News _ _ _ _ => N7
        rename ¬ _ => hneq
        refine For_led F7 ?_ (by intro _; with_unfolding_all rfl) (by with_unfolding_all passes_own)
        walk1
        have F8 := Mine.Fr.lay (l := [(Str.ofString "pile", .ref pl)]) F7 ⟨rfl, trivial⟩
        refine led_list (PJ 100 pl d s.gens X₂ (fun j => (pcs₁.take (pcs₁.length - ps.length)).map Pc.fp ++ ((pcs₁.drop (pcs₁.length - ps.length)).map Pc.fp).take j)) rfl F8 N7 hD ⟨rfl, ⟨_, rfl⟩, Keeps.refl _ _, _, P6, by simp⟩ (fun _ _ _ _ hJ => hJ.2.2.1 _ hD hDpl) ?_ ?_
        · clear F8 F7
          intro I' j v m₂ news₂ h₂ tk₂ gs₂ o₂ hv hJ F₂ N₂ hIt₂ hne₂
          obtain ⟨rfl, ⟨mr₂, rfl⟩, K₂, pcs₂, P₂, hT₂⟩ := hJ
          obtain ⟨c, hc, rfl⟩ := get_v hv
          have hcm := List.mem_of_getElem? hc
          have hc₂ : (c.a, tupO [.str c.f c.tf, .str c.p c.tp]) ∈ (I', o₂) :: news₂ := List.Mem.tail _ (K₂ _ (hitD c hcm) (hDn c hcm))
          obtain ⟨⟨n₂, hpl₃⟩, ⟨hs₂, ta₂, tb₂, k₂, hdm₃⟩, hit₃⟩ := id P₂
          have hz₂ : (pcs₂.map Pc.v).length ≤ sizeLine := by
            have e := congrArg List.length hT₂
            simp only [List.length_map, List.length_append, List.length_take, List.length_drop] at e ⊢
            rw [sizeLine_eq]; omega
          have hI₂ : (I', o₂) ∈ (I', o₂) :: news₂ := List.Mem.head _
          have hIpl₂ : I' ≠ pl := Ne.symm (hne₂ _ hpl₃)
          have hKX₂ : ∀ X', Keeps pl ((I', o₂) :: news₂) X' → Keeps pl X₂ (but I' X') := fun X' K => Keeps.but K₂ hne₂ K
          replace hpl₃ := List.Mem.tail (I', o₂) hpl₃
          replace hdm₃ := List.Mem.tail (I', o₂) hdm₃
          have P₃ : Pile 100 ((I', o₂) :: news₂) pl d pcs₂ := Pile.weak P₂
          generalize hX₃ : (I', o₂) :: news₂ = X₃ at N₂ hpl₃ hdm₃ hc₂ hI₂ hKX₂ P₃
          have NO : ∃ h, News _ _ h X₃ := ⟨_, N₂⟩
          dsimp only [lay] at F₂
          k_steps
          rename Fr _ _ _ _ => F9
          rename News _ _ _ _ => N9
          obtain ⟨_, NO⟩ := NO
          obtain ⟨X₄, N4, P4, K4⟩ := pushed P₃ NO N9
          have hI4 := K4 _ hI₂ hIpl₂
          exact ⟨_, _, _, _, X₄, but I' X₄, o₂, rfl, Mine.Fr.lay (l := [(Str.ofString "pile", .ref pl)]) F9 ⟨rfl, trivial⟩, N4, hI4, hIt₂, fun q hq => but_mem.mp hq, rfl, ⟨_, rfl⟩, hKX₂ _ K4, _, Pile.but P4 N4 hI4 hIt₂.iterish, by rw [List.map_append]; exact take_next (c := c) hc hT₂⟩
        · clear F8 F7
          intro m₂ news₂ h₂ tk₂ gs₂ hJ F₂ N₂
          obtain ⟨rfl, ⟨mr₂, rfl⟩, K₂, pcs₂, P₂, hT₂⟩ := hJ
          dsimp only [lay] at F₂
          k_steps
          rename Fr _ _ _ _ => F9
          rename News _ _ _ _ => N9
          have hI9 := K₂ _ hI6 hIpl
          exact ⟨_, _, _, _, news₂, but I news₂, o, rfl, Mine.Fr.lay (l := [(Str.ofString "pile", .ref pl)]) F9 ⟨rfl, trivial⟩, N9, hI9, hIt, fun q hq => but_mem.mp hq, rfl, ⟨_, rfl⟩, hKX _ (K6.trans K₂), _, Pile.but P₂ N9 hI9 hIt.iterish, hT₂.trans (cut_ne hT₁ hseek hneq)⟩
    · intro m₁ news₁ h₁ tk₁ gs₁ hJ F₁ N₁
      obtain ⟨rfl, ⟨mr₁, rfl⟩, K₁, pcs₁, P₁, hT₁⟩ := hJ
      dsimp only [lay] at F₁
      k_steps
      exact hret _ _ _ _ (by k_asm) (by k_asm) P₁ (KX.trans K₁) (hT₁.trans (by first | (rw [firstOf_s (by assumption)]; first | done | rfl) | (rw [firstOf_r (by assumption)]; first | done | rfl)))
end
local macro_rules | `(tactic| wtm_at "L1") => `(tactic| (k_here; k_dflt (refine' Mine.prod_spec ?k1 ?k2 ?k3 ?k4 ?k5 ?k6 ?k7 ?k8 _ _ _ _ _ _ _ _ _ _ _ _ _ _ _ _ _ _ ?c1 ?c2 ?c3 ?c4 ?_; wtm_at "S8"; (case c1 | c2 => k_mem); (case c3 => first | assumption | (simp only [Mat.le]; omega)); (case c4 => first | assumption | (simp only [Mat.le]; omega)); k_whole; intro r' h' tk' q1 q2 q3 q4 F' N' l1; (try dsimp only))))
section
theorem topOffread : True := by
  w_top off
  trivial
local macro_rules | `(tactic| walk_at "call builtin:min") => `(tactic| (k_here; (with_reducible show wpAny _ _ (call (Value.builtin "min") [Value.ref _]) _ _ _); k_dflt (refine' Mine.min4 ?hh ?k1 ?k2 ?k3 ?_; (case hh => exact rfl); (case k1 | k2 => k_asm); (case k3 => k_mem); k_whole; intro h' M' u' tk' F' N' d1' d2')))
local macro_rules | `(tactic| walk_at "call builtin:max") => `(tactic| (k_here; (with_reducible show wpAny _ _ (call (Value.builtin "max") [Value.ref _]) _ _ _); k_dflt (refine' Mine.max4 ?hh ?k1 ?k2 ?k3 ?_; (case hh => exact rfl); (case k1 | k2 => k_asm); (case k3 => k_mem); k_whole; intro h' M' u' tk' F' N' d1' d2')))
local macro_rules | `(tactic| walk_at "call ref") => `(tactic| wtm_at "L1")
theorem read_spec {w : World} {p : Program} {loose : List Str} {mean : ExcName → Option Value} {mg mb : Str → Option Value}
  {dp un : Nat} {gd : Option (List Code)} {cn : Str} {cs : Scope} {a : Addr} {ccd : Value} {cl : List (Str × Addr)} {outer : List Env} {A₀ : Around} {base h₀ : Heap} {L : Addr} {m : Str → Option Value} {news : List (Addr × Obj)} {s : Shared}
    {Q E : Value → Shared → Prop}
    (B : Below A₀ base outer h₀) (F : Fr h₀ L s.heap m) (X : (kK w.params).In h₀) (N : News h₀ L s.heap news) (T : Top p loose mean mg mb h₀) (hk : cs.kind = .function)
    (hd1 : dp + 2 < recursionLimit) (hu : un + 100 < cLine)
    (q : Addr) (M : Mat) (hM : MatIn news q M) (hB : M.le 1073741824)
    (out : Str) (hout : readM M = some out)
    (hret : ∀ h' tk' t, Fr h₀ L h' m → News h₀ L h' news → Q (.str out t) { s with heap := h', toks := tk' }) :
    wpAny (model PySem.Challenge.rw_ph0024_03.row.prog w) (ktrTop dp un gd cn cs L a ccd cl outer) (call (.ref 123) [.ref q]) Q E s := by
  revert X; k_fill; intro X
  refine wpAny_call ?_
  k_dflt ktr_enter
  generalize s.toks + _ = tk0
  rename Fr _ _ _ _ => F9
  obtain ⟨mr, F0⟩ : ∃ mr, Fr _ _ _ (lay [(Str.ofString "square", .ref q)] mr) := ⟨_, Mine.Fr.lay F9 ⟨rfl, trivial⟩⟩
  clear F9
  refine wpAny_execs_cons ?_
  refine For_led F0 ?_ (by intro _; with_unfolding_all rfl) (by with_unfolding_all passes_own)
  dsimp only [lay] at F0
  k_steps
  rename Fr _ _ _ _ => F1
  rename News _ _ _ _ => N1
  have F2 := Mine.Fr.lay (l := [(Str.ofString "square", .ref q)]) F1 ⟨rfl, trivial⟩
  generalize hX1 : (_ :: news : List (Addr × Obj)) = X1 at N1
  have hT1 : (_, tupO [.str (Str.ofString "") tk0, .str (Str.ofString "r") (tk0 + 1), .str (Str.ofString "rr") (tk0 + 1 + 1)]) ∈ X1 := hX1 ▸ List.Mem.head _
  have hs1 : subL news X1 := hX1 ▸ subL.cons (subL.refl _)
  refine led_tuple (items := [.str (Str.ofString "") tk0, .str (Str.ofString "r") (tk0 + 1), .str (Str.ofString "rr") (tk0 + 1 + 1)]) (RJ s.gens X1 [(Str.ofString "square", .ref q)] fun i => scanM M (pairsM.drop (2 * i)) = some out) rfl F2 N1 hT1 ⟨rfl, ⟨_, rfl⟩, subL.refl _, hout⟩ (fun _ _ _ _ hJ => hJ.2.2.1 _ hT1) ?_ ?_
  · clear F1 F2 N1
    intro I i v m₁ news₁ h tk gs o hv hJ F₁ N₁ hIt hne
    obtain ⟨rfl, ⟨mr₁, rfl⟩, hs₁, hD⟩ := hJ
    obtain ⟨ti, rfl, hi⟩ := rs_items hv
    have hsb : ∀ X', subL ((I, o) :: news₁) X' → subL X1 (but I X') := fun X' => subL.but hs₁ hne
    have hsn : subL news ((I, o) :: news₁) := (hs1.trans hs₁).trans (subL.cons (subL.refl _))
    have hI₁ : (I, o) ∈ (I, o) :: news₁ := List.Mem.head _
    generalize hX2 : (I, o) :: news₁ = X2 at N₁ hsb hsn hI₁
    generalize hW : Stmt.For _ _ _ _ _ = W
    dsimp only [lay] at F₁
    k_steps
    subst hW
    rename Fr _ _ _ _ => F3
    have F4 := Mine.Fr.lay (l := [(Str.ofString "square", .ref q), (Str.ofString "ahead", .str (rs i) ti)]) F3 ⟨rfl, rfl, trivial⟩
    clear F3
    refine For_led F4 ?_ (by intro _; with_unfolding_all rfl) (by with_unfolding_all passes_own)
    dsimp only [lay] at F4
    k_steps
    rename Fr _ _ _ _ => F5
    rename News _ _ _ _ => N5
    have F6 := Mine.Fr.lay (l := [(Str.ofString "square", .ref q), (Str.ofString "ahead", .str (rs i) ti)]) F5 ⟨rfl, rfl, trivial⟩
    generalize hX3 : (_ :: X2 : List (Addr × Obj)) = X3 at N5
    have hT3 : (_, tupO [.str (Str.ofString "") tk, .str (Str.ofString "s") (tk + 1)]) ∈ X3 := hX3 ▸ List.Mem.head _
    have hs3 : subL X2 X3 := hX3 ▸ subL.cons (subL.refl _)
    refine led_tuple (items := [.str (Str.ofString "") tk, .str (Str.ofString "s") (tk + 1)]) (RJ s.gens X3 [(Str.ofString "square", .ref q), (Str.ofString "ahead", .str (rs i) ti)] fun j => scanM M (pairsM.drop (2 * i + j)) = some out) rfl F6 N5 hT3 ⟨rfl, ⟨_, rfl⟩, subL.refl _, hD⟩ (fun _ _ _ _ hJ => hJ.2.2.1 _ hT3) ?_ ?_
    · clear F5 F6 N5
      intro I' j v' m₂ news₂ h₂ tk₂ gs₂ o₂ hv₂ hJ₂ F₂ N₂ hIt₂ hne₂
      obtain ⟨rfl, ⟨mr₂, rfl⟩, hs₂, hD₂⟩ := hJ₂
      obtain ⟨tj, rfl, hj⟩ := ss_items hv₂
      have hsb₂ : ∀ X', subL ((I', o₂) :: news₂) X' → subL X3 (but I' X') := fun X' => subL.but hs₂ hne₂
      have hsn₂ : subL news ((I', o₂) :: news₂) := (hsn.trans (hs3.trans hs₂)).trans (subL.cons (subL.refl _))
      have hI₂ : (I', o₂) ∈ (I', o₂) :: news₂ := List.Mem.head _
      generalize hX4 : (I', o₂) :: news₂ = X4 at N₂ hsb₂ hsn₂ hI₂
      obtain ⟨e1, e2, e3, e4, hMq⟩ := hM
      have hM4 := hsn₂ _ hMq
      generalize hW1 : Stmt.For _ _ _ _ _ = W1
      generalize hW2 : Stmt.For _ _ _ _ _ = W2
      generalize hW3 : Stmt.While _ _ _ _ = W3
      dsimp only [lay] at F₂
      k_steps
      subst hW1
      rename Fr _ _ _ _ => F7
      have F8 := Mine.Fr.lay (l := [(Str.ofString "square", .ref q), (Str.ofString "ahead", .str (rs i) ti), (Str.ofString "behind", .str (ss j) tj), (Str.ofString "left", .ref q)]) F7 ⟨rfl, rfl, rfl, rfl, trivial⟩
      clear F7
      refine For_led F8 ?_ (by intro _; with_unfolding_all rfl) (by with_unfolding_all passes_own)
      dsimp only [lay] at F8
      walk1
      rename Fr _ _ _ _ => F9
      rename News _ _ _ _ => N9
      refine led_str (RJm s.gens X4 (fun t => [(Str.ofString "square", .ref q), (Str.ofString "ahead", .str (rs i) ti), (Str.ofString "behind", .str (ss j) tj), (Str.ofString "left", .ref t)]) (rIter M)) rfl F9 N9 ⟨rfl, subL.refl _, q, ⟨_, rfl⟩, _, _, _, _, hM4⟩ ?_ ?_
      · clear F9 N9
        intro I3 It3 n c u m₃ news₃ h₃ tk₃ gs₃ o₃ hc hJ₃ F₃ N₃ hIt₃ hne₃ hcls
        obtain ⟨rfl, hs₃, t, ⟨mr₃, rfl⟩, f1, f2, f3, f4, hmt⟩ := hJ₃
        obtain ⟨ty, hty, hoc⟩ := hcls _ _ hIt₃
        have hiter := ItStr.iterish' hty hoc
        have hn : n < 3 := by
          have h1 : n < (rs i).cps.size := (Array.getElem?_eq_some_iff.mp hc).1
          have h2 : (rs i).cps.size = i := rs_len i
          omega
        have hle := rIter_le3 hB hn
        have hmt₂ := List.Mem.tail (I3, o₃) hmt
        have hsb₃ : ∀ X', subL ((I3, o₃) :: news₃) X' → subL X4 (but I3 X') := fun X' => subL.but hs₃ hne₃
        have hI₃ : (I3, o₃) ∈ (I3, o₃) :: news₃ := List.Mem.head _
        generalize hX5 : (I3, o₃) :: news₃ = X5 at N₃ hsb₃ hmt₂ hI₃
        dsimp only [lay] at F₃
        k_steps
        rename Fr _ _ _ _ => F10
        rename News _ _ _ _ => N10
        have hI10 := tail2 hI₃ N10
        have hr := news_ne N10 (List.Mem.head _) hI10 (hiter.ne (.inr (.inl rfl)))
        have F11 := Mine.Fr.lay (l := [(Str.ofString "square", .ref q), (Str.ofString "ahead", .str (rs i) ti), (Str.ofString "behind", .str (ss j) tj), (Str.ofString "left", .ref _)]) F10 ⟨rfl, rfl, rfl, rfl, trivial⟩
        exact ⟨_, _, _, _, _, but I3 _, o₃, rfl, F11, N10, hI10, hIt₃, fun q hq => but_mem.mp hq, rfl, hsb₃ _ (subL.cons (subL.cons (subL.refl _))), _, ⟨_, rfl⟩, _, _, _, _, but_mem.mpr ⟨List.Mem.head _, hr⟩⟩
      · clear F9 N9
        intro m₃ news₃ h₃ tk₃ gs₃ hJ₃ F₃ N₃
        obtain ⟨rfl, hs₃, t, ⟨mr₃, rfl⟩, f1, f2, f3, f4, hmt⟩ := hJ₃
        rw [rs_len] at hmt
        dsimp only [lay] at F₃
        k_steps
        subst hW2
        rename Fr _ _ _ _ => F9
        have F10 := Mine.Fr.lay (l := [(Str.ofString "square", .ref q), (Str.ofString "ahead", .str (rs i) ti), (Str.ofString "behind", .str (ss j) tj), (Str.ofString "left", .ref t)]) F9 ⟨rfl, rfl, rfl, rfl, trivial⟩
        clear F9
        refine For_led F10 ?_ (by intro _; with_unfolding_all rfl) (by with_unfolding_all passes_own)
        dsimp only [lay] at F10
        walk1
        rename Fr _ _ _ _ => F9
        rename News _ _ _ _ => N9
        refine led_str (RJm s.gens news₃ (fun t => [(Str.ofString "square", .ref q), (Str.ofString "ahead", .str (rs i) ti), (Str.ofString "behind", .str (ss j) tj), (Str.ofString "left", .ref t)]) (sIter (rIter M i))) rfl F9 N9 ⟨rfl, subL.refl _, t, ⟨_, rfl⟩, _, _, _, _, hmt⟩ ?_ ?_
        · clear F9 N9
          intro I3 It3 n c u m₄ news₄ h₄ tk₄ gs₄ o₄ hc hJ₄ F₄ N₄ hIt₄ hne₄ hcls
          obtain ⟨rfl, hs₄, t₄, ⟨mr₄, rfl⟩, g1, g2, g3, g4, hmt₄⟩ := hJ₄
          obtain ⟨ty, hty, hoc⟩ := hcls _ _ hIt₄
          have hiter := ItStr.iterish' hty hoc
          have hle := sIter_le (rIter_le3 hB hi) n
          have hmt₅ := List.Mem.tail (I3, o₄) hmt₄
          have hsb₄ : ∀ X', subL ((I3, o₄) :: news₄) X' → subL news₃ (but I3 X') := fun X' => subL.but hs₄ hne₄
          have hI₄ : (I3, o₄) ∈ (I3, o₄) :: news₄ := List.Mem.head _
          generalize hX5 : (I3, o₄) :: news₄ = X5 at N₄ hsb₄ hmt₅ hI₄
          dsimp only [lay] at F₄
          k_steps
          rename Fr _ _ _ _ => F10
          rename News _ _ _ _ => N10
          have hI10 := tail2 hI₄ N10
          have hr := news_ne N10 (List.Mem.head _) hI10 (hiter.ne (.inr (.inl rfl)))
          have F11 := Mine.Fr.lay (l := [(Str.ofString "square", .ref q), (Str.ofString "ahead", .str (rs i) ti), (Str.ofString "behind", .str (ss j) tj), (Str.ofString "left", .ref _)]) F10 ⟨rfl, rfl, rfl, rfl, trivial⟩
          exact ⟨_, _, _, _, _, but I3 _, o₄, rfl, F11, N10, hI10, hIt₄, fun q hq => but_mem.mp hq, rfl, hsb₄ _ (subL.cons (subL.cons (subL.refl _))), _, ⟨_, rfl⟩, _, _, _, _, but_mem.mpr ⟨List.Mem.head _, hr⟩⟩
        · clear F9 N9
          intro m₄ news₄ h₄ tk₄ gs₄ hJ₄ F₄ N₄
          obtain ⟨rfl, hs₄, t₄, ⟨mr₄, rfl⟩, g1, g2, g3, g4, hmt₄⟩ := hJ₄
          rw [ss_len] at hmt₄
          change (t₄, (leftOf M i j).obj g1 g2 g3 g4) ∈ news₄ at hmt₄
          have hle : (leftOf M i j).le 1000000000000 := sIter_le (rIter_le3 hB hi) j
          have hyes := scan_yes hi hj hD₂
          have hno := scan_no hi hj hD₂
          generalize leftOf M i j = Z at hmt₄ hle hyes hno
          dsimp only [lay] at F₄
          k_steps
          iterate 2
            · rename Fr _ _ _ _ => F12
              rename News _ _ _ _ => N12
              rename Top _ _ _ _ _ _ => T9
              rename Frag.In _ _ => X9
              refine comp_abs (mg := mg) (mb := mb) rfl F12 N12 hmt₄ rfl (fun _ => rfl) (fun _ => rfl) T9.g (mg_none_of X9 T9.g (by k_is)) T9.b ((T9.builtins _ (by decide)).trans (by kernel_rfl)) ?_
              intro D nD u1 u2 u3 u4 h₅ tk₅ F13 N13
              clear F12 N12
              k_steps
              subst hW3
              rename Fr _ _ _ _ => F14
              rename News _ _ _ _ => N14
              have F15 := Mine.Fr.lay (l := [(Str.ofString "a", .int Z.abs.a u1), (Str.ofString "b", .int Z.abs.b u2), (Str.ofString "c", .int Z.abs.c u3), (Str.ofString "d", .int Z.abs.d u4), (Str.ofString "word", .str (rs i) ti), (Str.ofString "behind", .str (ss j) tj)]) F14 ⟨rfl, rfl, rfl, rfl, rfl, rfl, trivial⟩
              have ht : Z.test := by unfold Mat.test; omega
              obtain ⟨wo, heu, hout'⟩ := hyes ht
              refine While_inv2 (EJ news₄ (ss j) tj wo) (n₀ := 60) F15 N14 ⟨_, _, _, _, _, _, _, _, rfl, subL.cons (subL.refl _), heu⟩ ?_ (by with_unfolding_all passes_own)
              clear F14 N14 F15
              intro k m₆ news₆ h₆ tk₆ F₆ N₆ J₆
              obtain ⟨mr₆, x, wd, tw, ka, kb, kc, kd, rfl, hs₆, he⟩ := J₆
              obtain ⟨k, rfl, hsm, hwl, e1, e2, e3⟩ := euclid_step he
              obtain ⟨b1, b2, b3, b4, b5, b6, b7, b8⟩ := hsm
              dsimp only [lay] at F₆
              have hsl : (ss j).length ≤ 1 := by rw [ss_len]; omega
              k_steps
              · dsimp only [LedStep]
                k_steps
                rename Fr _ _ _ _ => F16
                rename News _ _ _ _ => N16
                have hw1 := e1 (one_of (x := x) (by assumption))
                subst hw1
                rw [hout'] at hret
                exact hret _ _ _ F16 (fun e he => N16 e (.tail _ (.tail _ (hs₆ _ (hs₄ _ (hs₃ _ (hsn₂ _ he)))))))
              · rename Fr _ _ _ _ => F16
                rename News _ _ _ _ => N16
                have hno1 := not_one_of (x := x) (by assumption)
                exact ⟨_, _, _, _, k, rfl, Mine.Fr.lay (l := [(Str.ofString "a", .int (x.a - x.c) _), (Str.ofString "b", .int (x.b - x.d) _), (Str.ofString "c", .int (x.c) _), (Str.ofString "d", .int (x.d) _), (Str.ofString "word", .str (wd ++ Str.ofString "sr") _), (Str.ofString "behind", .str (ss j) tj)]) F16 ⟨rfl, rfl, rfl, rfl, rfl, rfl, trivial⟩, N16, Nat.lt_succ_self _, _, ⟨x.a - x.c, x.b - x.d, x.c, x.d⟩, _, _, _, _, _, _, rfl, subL.cons (subL.cons (subL.cons hs₆)), e2 hno1 (by omega)⟩
              · rename Fr _ _ _ _ => F16
                rename News _ _ _ _ => N16
                have hno1 := not_one_of (x := x) (by assumption)
                exact ⟨_, _, _, _, k, rfl, Mine.Fr.lay (l := [(Str.ofString "a", .int (x.a) _), (Str.ofString "b", .int (x.b) _), (Str.ofString "c", .int (x.c - x.a) _), (Str.ofString "d", .int (x.d - x.b) _), (Str.ofString "word", .str (wd ++ Str.ofString "srr") _), (Str.ofString "behind", .str (ss j) tj)]) F16 ⟨rfl, rfl, rfl, rfl, rfl, rfl, trivial⟩, N16, Nat.lt_succ_self _, _, ⟨x.a, x.b, x.c - x.a, x.d - x.b⟩, _, _, _, _, _, _, rfl, subL.cons (subL.cons (subL.cons hs₆)), e3 hno1 (by omega)⟩
              · rename Fr _ _ _ _ => F16
                rename News _ _ _ _ => N16
                have hno1 := not_one_of (x := x) (by assumption)
                exact ⟨_, _, _, _, k, rfl, Mine.Fr.lay (l := [(Str.ofString "a", .int (x.a) _), (Str.ofString "b", .int (x.b) _), (Str.ofString "c", .int (x.c - x.a) _), (Str.ofString "d", .int (x.d - x.b) _), (Str.ofString "word", .str (wd ++ Str.ofString "srr") _), (Str.ofString "behind", .str (ss j) tj)]) F16 ⟨rfl, rfl, rfl, rfl, rfl, rfl, trivial⟩, N16, Nat.lt_succ_self _, _, ⟨x.a, x.b, x.c - x.a, x.d - x.b⟩, _, _, _, _, _, _, rfl, subL.cons (subL.cons (subL.cons hs₆)), e3 hno1 (by omega)⟩
          · rename Fr _ _ _ _ => F16
            rename News _ _ _ _ => N16
            have hnt : ¬ Z.test := by unfold Mat.test; omega
            have hI9 := hs₄ _ (hs₃ _ hI₂)
            exact ⟨_, _, _, _, news₄, but I' news₄, o₂, rfl, Mine.Fr.lay (l := [(Str.ofString "square", .ref q), (Str.ofString "ahead", .str (rs i) ti)]) F16 ⟨rfl, rfl, trivial⟩, N16, hI9, hIt₂, fun q hq => but_mem.mp hq, rfl, ⟨_, rfl⟩, hsb₂ _ (hs₃.trans hs₄), hno hnt⟩
    · intro m₂ news₂ h₂ tk₂ gs₂ hJ₂ F₂ N₂
      obtain ⟨rfl, ⟨mr₂, rfl⟩, hs₂, hD₂⟩ := hJ₂
      dsimp only [lay] at F₂
      k_steps
      rename Fr _ _ _ _ => F16
      rename News _ _ _ _ => N16
      have hI9 := hs₂ _ (hs3 _ hI₁)
      exact ⟨_, _, _, _, news₂, but I news₂, o, rfl, Mine.Fr.lay (l := [(Str.ofString "square", .ref q)]) F16 ⟨rfl, trivial⟩, N16, hI9, hIt, fun q hq => but_mem.mp hq, rfl, ⟨_, rfl⟩, hsb _ (hs3.trans hs₂), hD₂⟩
  · intro m₂ news₂ h₂ tk₂ gs₂ hJ₂ F₂ N₂
    obtain ⟨rfl, ⟨mr₂, rfl⟩, hs₂, hD₂⟩ := hJ₂
    exact nomatch (show (none : Option Str) = some out from hD₂)
end
section
theorem topOfflaw3 : True := by
  w_top off
  trivial
local macro_rules | `(tactic| walk_at "CompSrc") => `(tactic| (k_here; (try k_fmods); k_dflt (refine LCg.CompSrc.ledger (by rfl) (by k_asm) (by k_asm) (by k_mem) (by kcf_size) ?_; intro g'; (refine' kct_list _ (by first | assumption | l_ints) (fun k' t' I' oI' C' oC' D' m' ys' h' tk' E' hk' hC' hx' F' N' off' ne' => ?_) ?_); (all_goals (try (simp only [LCg.Off3, and_true] at off'))); (all_goals (try ((show KPfMark → _); intro hMark'))); kcf_last)))
local macro_rules | `(tactic| walk_at "call ref") => `(tactic| (k_here; k_dflt (refine' Mine.make_spec ?k1 ?k2 ?k3 ?k4 ?k5 ?k6 ?k7 ?k8   ?_; wtm_at "S8"; skip; k_whole; intro x' dx' h' tk' n' hs' ta' tb' F' N' l1 l2; (try dsimp only))))
local macro_rules | `(tactic| walk_at "call ref") => `(tactic| (k_here; k_dflt (refine' Mine.put_spec ?k1 ?k2 ?k3 ?k4 ?k5 ?k6 ?k7 ?k8 _ _ _ _ _ ?c1 ?c2 ?c3 ?_; wtm_at "S8"; (case c1 | c2 | c3 => assumption); k_whole; intro h' tk' news' pcs' F' N' P' K' hT'; (try dsimp only))))
local macro_rules | `(tactic| walk_at "call ref") => `(tactic| wtm_at "L1")
local macro_rules | `(tactic| walk_at "call ref") => `(tactic| (k_here; k_dflt (refine' Mine.read_spec ?k1 ?k2 ?k3 ?k4 ?k5 ?k6 ?k7 ?k8 _ _ ?c1 ?c2 _ ?c4 ?_; wtm_at "S8"; (case c1 => exact ⟨_, _, _, _, by k_mem⟩); (case c2 | c4 => assumption); k_whole; intro h' tk' t' F' N'; (try dsimp only))))
local macro_rules | `(tactic| walk_at "call ref") => `(tactic| (k_here; k_dflt (refine' Mine.str_led ?k1 ?k2 ?k3 ?k4 ?k5 ?k6 ?k7 _ _ _ _ ?c1 ?c2 ?c3 ?c4 ?c5 ?_; (case k1 | k2 | k3 | k4 => k_asm); (case k5 => exact rfl); (case k6 => ktr_room); (case k7 => ktr_units); (case c1 => (repeat (first | assumption | refine Pile.weak ?_))); (case c2 => assumption); (case c3 => k_mem); (case c4 | c5 => assumption); k_whole; intro h' tk' g' ps' t' news' F' N' hP' hT' G' K'; (try dsimp only [StrBack]))))
local macro_rules | `(tactic| walk_at "call ref") => `(tactic| (k_here; k_dflt (refine' Mine.rest_two ?k1 ?k2 ?k3 ?k4 ?k5 ?k6 ?k7 ?k8 _ _ _ _ _ _ _ _ _ _ _ _ ?c4 ?c1 ?c2 ?c3 ?c5 ?c6 ?c7 ?_; wtm_at "S8"; (case c4 => k_mem); (case c1 | c2 => first | exact ok_ss | exact ok_rrr); (case c3 => assumption); (case c5 => exact rest1); (case c6 => exact fun _ => rfl); (case c7 => exact rest1_dec); k_whole; intro h' tk' t' r' hr' he' F' N'; (try dsimp only))))
local macro_rules | `(tactic| walk_at "call ref") => `(tactic| (k_here; k_dflt (refine' Mine.rest_two ?k1 ?k2 ?k3 ?k4 ?k5 ?k6 ?k7 ?k8 _ _ _ _ _ _ _ _ _ _ _ _ ?c4 ?c1 ?c2 ?c3 ?c5 ?c6 ?c7 ?_; wtm_at "S8"; (case c4 => k_mem); (case c1 | c2 => first | exact ok_ss | exact ok_rrr); (case c3 => assumption); (case c5 => exact rest2); (case c6 => exact fun _ => rfl); (case c7 => exact rest2_dec); k_whole; intro h' tk' t' r' hr' he' F' N'; (try dsimp only))))
theorem holds : PySem.Challenge.rw_ph0024_03.Holds := hd (by
  k_fill
  intro w s₀ s₁ mg mb G Y fa o pm cd doc dV kV ho hd hcd hD hmg hg args vals as hpre hlay hrd hwl hlo
  have KX := km_in_of Y
  have hTab := km_tabs_of Y
  have X := (Ground.X G).1
  have V := (Ground.X G).2
  refine Ground.open G ?_
  intro T B D TE TW
  try (refine guard_noD D (by decide +kernel) ?_; clear D)
  clear hmg
  wrow_args hpre hlay hrd hwl hlo
  all_goals (
    first | refine callC_kw (enter_call ?_) | refine enter_call ?_
    w_top on
    w_call any ho hd hcd hD T F
    clear hd
    skip)
  have hT9 : TabsAt [(73, 69)] s₁.heap := List.forall_mem_cons.mpr ⟨⟨codeHd_of_K KX (by kernel_rfl), hTab _ (List.Mem.head _)⟩, fun _ h => nomatch h⟩
  rename News _ _ _ _ => N
  have X' := ghost_K hT9 KX (by kernel_rfl)
  have T' := ghost_top hT9 T
  have K' := ghost_below hT9
  have N' := ghost_news hT9 F N
  have F' := ghost_fr hT9 F
  rename PySem.Heap.IsList _ _ _ => hLs
  replace hLs := ghost_list hT9 hLs
  simp only [tabNews, List.map_cons, List.map_nil, List.nil_append] at N'
  clear N F G Y X V B TE TW hcd hD T KX hTab ho
  generalize hW : Stmt.For _ _ _ _ _ = W
  k_steps
  subst hW
  rename Fr _ _ _ _ => F1
  rename News _ _ _ _ => N1
  have F2 := Mine.Fr.lay (l := [(Str.ofString "pile", .ref _), (Str.ofString "square", .ref _), (Str.ofString "line", .str (Str.ofString "") _), (Str.ofString "script", .ref _)]) F1 ⟨rfl, rfl, rfl, rfl, trivial⟩
  clear F1
  refine For_led F2 ?_ (by intro _; with_unfolding_all rfl) (by with_unfolding_all passes_own)
  dsimp only [lay] at F2
  k_steps
  rename Fr _ _ _ _ => F3
  rename News _ _ _ _ => N3
  rw [letters_eq]
  generalize hls : letters _ = ls
  have hgood : ∀ i, readM (sqOf (ls.take i)) = some (strB (nf (ls.take i))) ∧ (sqOf (ls.take i)).le 1073741824 := fun i => hls ▸ good_all _ i
  have hlen : ls.length ≤ 18 := hls ▸ letters_len _
  clear hls
  dsimp only
  obtain ⟨x, dx, n0, hs0, ta0, tb0, kd0, sq0, tl0, X0, NX0, hF3, hpl0, hdx0, htab0, hsq0⟩ : ∃ (x dx : Addr) (n0 : Nat) (hs0 : Int) (ta0 tb0 : Tok) (kd0 : Nat) (sq0 : Addr) (tl0 : Tok) (X0 : List (Addr × Obj)),
      News _ _ _ X0 ∧ (∃ mr, Fr _ _ _ (lay [(Str.ofString "pile", .ref x), (Str.ofString "square", .ref sq0), (Str.ofString "line", .str (strB []) tl0)] mr)) ∧ (x, pileO 100 dx [] n0) ∈ X0 ∧ (dx, dictOf (isz hs0 ta0 tb0) kd0) ∈ X0 ∧ (69, tabObj #[]) ∈ X0 ∧ MatIn X0 sq0 ⟨1, 0, 0, 1⟩ :=
    ⟨_, _, _, _, _, _, _, _, _, _, N3, ⟨_, Mine.Fr.lay F3 ⟨rfl, rfl, rfl, trivial⟩⟩, by k_mem, by k_mem, by k_mem, _, _, _, _, by k_mem⟩
  obtain ⟨mr0, F4⟩ := hF3
  clear F3 N3
  have P0 : Pile 100 X0 x dx [] := ⟨⟨n0, hpl0⟩, ⟨hs0, ta0, tb0, kd0, hdx0⟩, fun c h => nomatch h⟩
  have hgen : AllBare s₁.gens := by rw [hg]; exact fun y hy => nomatch (List.not_mem_nil (Array.mem_toList_iff.mpr hy))
  refine led_str (LJ x dx ls) rfl F4 NX0 ⟨hgen, mr0, sq0, tl0, #[], [], rfl, htab0, trivial, hsq0, P0, rfl⟩ ?_ ?_
  · clear F4 NX0
    intro I It i c u m₁ news₁ h tk gs o hc hJ F₁ N₁ hIt hne hcls
    obtain ⟨hG, mr₁, sq, tl, ps, pcs, rfl, htab, htri, ⟨k1, k2, k3, k4, hsq⟩, P₁, hT₁⟩ := hJ
    obtain ⟨b, hb, rfl⟩ := strB_get hc
    obtain ⟨ty, hty, hoc⟩ := hcls _ _ hIt
    have hiter := ItStr.iterish' hty hoc
    have htake := take_snoc hb
    obtain ⟨hread, hle1⟩ := hgood (i + 1)
    have hle0 := Mat.le_mono (hgood i).2 (show (1073741824 : Int) ≤ 1000000000000 by decide)
    rw [htake, sqOf_snoc] at hread hle1
    have hline := line_len (i := i) hlen
    have hplen := pile_len hT₁
    have hsz : pcs.length ≤ 100000 := by rw [List.length_take] at hplen; omega
    have hok := pile_ok hT₁
    obtain ⟨⟨n₁, hpl⟩, ⟨hs₁, ta₁, tb₁, kd₁, hdx⟩, hit⟩ := id P₁
    have hIx : I ≠ x := Ne.symm (hne _ hpl)
    have htx : (69 : Addr) ≠ x := news_ne N₁ (.tail _ htab) (.tail _ hpl) tab_ne
    have hsx : sq ≠ x := news_ne N₁ (.tail _ hsq) (.tail _ hpl) pile_ne_tup
    have hsI : sq ≠ I := hne _ hsq
    have htI : (69 : Addr) ≠ I := hne _ htab
    have hI1 : (I, o) ∈ (I, o) :: news₁ := List.Mem.head _
    have hPw : Pile 100 ((I, o) :: news₁) x dx pcs := Pile.weak P₁
    replace htab := List.Mem.tail (I, o) htab
    replace hsq := List.Mem.tail (I, o) hsq
    clear P₁ hpl hdx hit
    generalize hX1 : (I, o) :: news₁ = X1 at N₁ htab hsq hI1 hPw
    generalize hZ : sqOf (ls.take i) = Z at hread hle1 hle0 hsq
    cases b
    · rw [let_r]
      dsimp only [lay] at F₁
      generalize hW1 : Stmt.Assign _ _ _ = W1
      generalize hW2 : Stmt.Assign _ _ _ = W2
      k_steps
      subst hW1
      rename News _ _ _ _ => N3
      rename Pile _ _ _ _ _ => P3
      rename Mine.Keeps _ _ _ => K3
      rename _ = putN _ _ => hT3
      have hT4 : List.map Pc.fp _ = pileL (ls.take i ++ [false]) := hT3.trans (by rw [pileL_snoc, ← hT₁, letB_r])
      have htext := pile_text hT4
      have hl4 : (ls.take i ++ [false]).length ≤ 19 := by rw [List.length_append, List.length_take]; simp; omega
      obtain ⟨⟨n3, hpl3⟩, ⟨hs3, ta3, tb3, kd3, hdx3⟩, hit3⟩ := id P3
      have htab3 := K3 _ htab htx
      have hsq3 := K3 _ hsq hsx
      have hI3 := K3 _ hI1 hIx
      have hPk := Pile.keepsT P3 N3 htab3
      have hwt := pile_w hT4 hl4
      have hbs : strB (ls.take i) ++ Str.ofString "r" = strB (ls.take i ++ [false]) := by rw [strB_snoc, letB_r]
      have hxl : (strB (ls.take i) ++ Str.ofString "r").length ≤ 1000 := by rw [hbs, strB_len]; omega
      clear hT3 hok hplen hsz
      replace hread : readM ((Mat.mk Z.a Z.b Z.c Z.d).mul ⟨0, -1, 1, 1⟩) = some _ := hread
      replace hle1 : ((Mat.mk Z.a Z.b Z.c Z.d).mul ⟨0, -1, 1, 1⟩).le 1073741824 := hle1
      have hsqn : sqOf (ls.take (i + 1)) = (Mat.mk Z.a Z.b Z.c Z.d).mul ⟨0, -1, 1, 1⟩ := by rw [htake, sqOf_snoc, hZ]; rfl
      k_steps
      rename News _ _ _ _ => N5
      have hrne := news_ne N5 (List.Mem.head _) (.tail _ (.tail _ htab3)) tup_ne_tab
      subst hW2
      k_steps
      · rename (_ != _) = true => hbad
        rw [htext] at hbad
        simp at hbad
      · rename (_ != _) = true => hbad
        rename ReachF rest1 _ _ => hr1
        rename rest1 _ = _ => he1
        rw [hbs] at hr1
        rw [rest1_nf hr1 he1] at hbad
        simp at hbad
      · rename (_ != _) = true => hbad
        rename ReachF rest2 _ _ => hr1
        rename rest2 _ = _ => he1
        rw [hbs] at hr1
        rw [rest2_nf hr1 he1] at hbad
        simp at hbad
      · rename Fr _ _ _ _ => F9
        rename News _ _ _ _ => N9
        rename Mine.Keeps 69 _ _ => K9
        rename TriplesOk _ => ht9
        rename AllBare _ => G9
        rename (69, tabObj _) ∈ _ => hp9
        have hI9 := K9 _ (.tail _ (.tail _ (.tail _ hI3))) (Ne.symm htI)
        have hr9 := K9 _ (.tail _ (.head _)) hrne
        have hP9 := hPk _ (Keeps.weak (Keeps.weak (Keeps.weak K9)))
        have hI10 := tail2 hI9 N9
        have F10 := Mine.Fr.lay (l := [(Str.ofString "pile", .ref x), (Str.ofString "square", .ref _), (Str.ofString "line", .str (strB (ls.take i) ++ Str.ofString "r") _)]) F9 ⟨rfl, rfl, rfl, trivial⟩
        rw [hbs, ← htake] at F10
        rw [← htake] at hT4
        refine ⟨_, _, _, _, _, but I _, o, rfl, F10, N9, hI10, hIt, fun q hq => but_mem.mp hq, G9, _, _, _, _, _, rfl, but_mem.mpr ⟨.tail _ (.tail _ hp9), htI⟩, ht9, ?_, Pile.but (Pile.two hP9) N9 hI10 hiter, hT4⟩
        rw [hsqn]
        exact ⟨_, _, _, _, but_mem.mpr ⟨.tail _ (.tail _ hr9), news_ne N9 (.tail _ (.tail _ hr9)) hI10 (hiter.ne (.inr (.inl rfl)))⟩⟩
    · rw [let_s]
      dsimp only [lay] at F₁
      generalize hW1 : Stmt.Assign _ _ _ = W1
      generalize hW2 : Stmt.Assign _ _ _ = W2
      k_steps
      subst hW1
      rename News _ _ _ _ => N3
      rename Pile _ _ _ _ _ => P3
      rename Mine.Keeps _ _ _ => K3
      rename _ = putN _ _ => hT3
      have hT4 : List.map Pc.fp _ = pileL (ls.take i ++ [true]) := hT3.trans (by rw [pileL_snoc, ← hT₁, letB_s])
      have htext := pile_text hT4
      have hl4 : (ls.take i ++ [true]).length ≤ 19 := by rw [List.length_append, List.length_take]; simp; omega
      obtain ⟨⟨n3, hpl3⟩, ⟨hs3, ta3, tb3, kd3, hdx3⟩, hit3⟩ := id P3
      have htab3 := K3 _ htab htx
      have hsq3 := K3 _ hsq hsx
      have hI3 := K3 _ hI1 hIx
      have hPk := Pile.keepsT P3 N3 htab3
      have hwt := pile_w hT4 hl4
      have hbs : strB (ls.take i) ++ Str.ofString "s" = strB (ls.take i ++ [true]) := by rw [strB_snoc, letB_s]
      have hxl : (strB (ls.take i) ++ Str.ofString "s").length ≤ 1000 := by rw [hbs, strB_len]; omega
      clear hT3 hok hplen hsz
      replace hread : readM ((Mat.mk Z.a Z.b Z.c Z.d).mul ⟨0, -1, 1, 0⟩) = some _ := hread
      replace hle1 : ((Mat.mk Z.a Z.b Z.c Z.d).mul ⟨0, -1, 1, 0⟩).le 1073741824 := hle1
      have hsqn : sqOf (ls.take (i + 1)) = (Mat.mk Z.a Z.b Z.c Z.d).mul ⟨0, -1, 1, 0⟩ := by rw [htake, sqOf_snoc, hZ]; rfl
      k_steps
      rename News _ _ _ _ => N5
      have hrne := news_ne N5 (List.Mem.head _) (.tail _ (.tail _ htab3)) tup_ne_tab
      subst hW2
      k_steps
      · rename (_ != _) = true => hbad
        rw [htext] at hbad
        simp at hbad
      · rename (_ != _) = true => hbad
        rename ReachF rest1 _ _ => hr1
        rename rest1 _ = _ => he1
        rw [hbs] at hr1
        rw [rest1_nf hr1 he1] at hbad
        simp at hbad
      · rename (_ != _) = true => hbad
        rename ReachF rest2 _ _ => hr1
        rename rest2 _ = _ => he1
        rw [hbs] at hr1
        rw [rest2_nf hr1 he1] at hbad
        simp at hbad
      · rename Fr _ _ _ _ => F9
        rename News _ _ _ _ => N9
        rename Mine.Keeps 69 _ _ => K9
        rename TriplesOk _ => ht9
        rename AllBare _ => G9
        rename (69, tabObj _) ∈ _ => hp9
        have hI9 := K9 _ (.tail _ (.tail _ (.tail _ hI3))) (Ne.symm htI)
        have hr9 := K9 _ (.tail _ (.head _)) hrne
        have hP9 := hPk _ (Keeps.weak (Keeps.weak (Keeps.weak K9)))
        have hI10 := tail2 hI9 N9
        have F10 := Mine.Fr.lay (l := [(Str.ofString "pile", .ref x), (Str.ofString "square", .ref _), (Str.ofString "line", .str (strB (ls.take i) ++ Str.ofString "s") _)]) F9 ⟨rfl, rfl, rfl, trivial⟩
        rw [hbs, ← htake] at F10
        rw [← htake] at hT4
        refine ⟨_, _, _, _, _, but I _, o, rfl, F10, N9, hI10, hIt, fun q hq => but_mem.mp hq, G9, _, _, _, _, _, rfl, but_mem.mpr ⟨.tail _ (.tail _ hp9), htI⟩, ht9, ?_, Pile.but (Pile.two hP9) N9 hI10 hiter, hT4⟩
        rw [hsqn]
        exact ⟨_, _, _, _, but_mem.mpr ⟨.tail _ (.tail _ hr9), news_ne N9 (.tail _ (.tail _ hr9)) hI10 (hiter.ne (.inr (.inl rfl)))⟩⟩
  · intro m₁ news₁ h₁ tk₁ gs₁ hJ F₁ N₁
    obtain ⟨hG, mr₁, sq, tl, ps, pcs, rfl, htab, htri, hsq, P₁, hT₁⟩ := hJ
    dsimp only [lay] at F₁
    k_steps
    exact law_good hT9 F₁ ⟨GrownAt.of N₁ htab, trivial⟩ hG (fun _ => rfl) (by kernel_rfl) rfl)
end
end Mine
end
theorem PySem.Challenge.cw_ph0024_03_holds : PySem.Challenge.rw_ph0024_03.Holds :=
  Mine.holds
