import PyProof.Rows.All
import Wide.All
import OpenK.AllK
import Wide.FinOn
import PySem.Challenge.RW_ph0024_02
set_option compiler.extract_closed false
noncomputable section
open PySem PySem.W PySem.Calls PyProof.Rows
set_option Elab.async false
set_option maxRecDepth 100000
set_option maxHeartbeats 4000000
namespace Mine
abbrev tupO (vs : List Value) : Obj := { cls := .type "tuple", data := .seq vs.toArray }
abbrev lstO (vs : List Value) (n : Nat) : Obj := { cls := .type "list", data := .seq vs.toArray n }
abbrev pileO (C d : Addr) (its : List Value) (n : Nat) : Obj := { cls := .ref C, dict := some d, data := .seq its.toArray n }
def setAt (p : Addr) (o : Obj) (news : List (Addr × Obj)) : List (Addr × Obj) := news.map fun q => if q.1 = p then (p, o) else q
theorem setAt_mem {p : Addr} {o : Obj} {news : List (Addr × Obj)} {q : Addr × Obj} (h : q ∈ news) (hq : q.1 ≠ p) : q ∈ setAt p o news :=
  List.mem_map.mpr ⟨q, h, if_neg hq⟩
theorem setAt_self {p : Addr} {o o' : Obj} {news : List (Addr × Obj)} (h : (p, o') ∈ news) : (p, o) ∈ setAt p o news :=
  List.mem_map.mpr ⟨_, h, if_pos rfl⟩
theorem news_setAt {h₀ h h' : Heap} {L p : Addr} {o o' : Obj} {news : List (Addr × Obj)} (N : News h₀ L h news) (hm : (p, o) ∈ news) (hs : Heap.SameBut p h h') (ho : h'.get? p = some o') : News h₀ L h' (setAt p o' news) := by
  intro q hq
  obtain ⟨r, hr, rfl⟩ := List.mem_map.mp hq
  by_cases e : r.1 = p
  · rw [if_pos e]; exact ⟨ho, (N _ hm).2⟩
  · rw [if_neg e]; exact ⟨(hs.2 _ e).trans (N r hr).1, (N r hr).2⟩
theorem allLt_mem {d : Nat} {q : Addr × Obj} {l : List (Addr × Obj)} (h : AllLt d l) (hm : q ∈ l) : q.1 < d := by
  induction l with
  | nil => cases hm
  | cons r l ih =>
    rcases List.mem_cons.mp hm with e | hm
    · rw [e]; exact h.1
    · exact ih h.2 hm
theorem news_tail {h₀ h : Heap} {L : Addr} {q : Addr × Obj} {news : List (Addr × Obj)} (N : News h₀ L h (q :: news)) : News h₀ L h news := fun p hp => N p (.tail _ hp)
theorem setAt_cons {p t : Addr} {o o1 o2 : Obj} {news : List (Addr × Obj)} (hm : (p, o1) ∈ news) (hl : ∀ q ∈ news, q.1 < t) : setAt p o ((t, o2) :: news) = (t, o2) :: setAt p o news := by
  show (if t = p then (p, o) else (t, o2)) :: setAt p o news = _
  rw [if_neg (fun e => Nat.lt_irrefl _ (e ▸ hl _ hm))]
theorem news_cons {h₀ h : Heap} {L p t : Addr} {o o1 o2 : Obj} {news : List (Addr × Obj)} (N : News h₀ L h (setAt p o ((t, o2) :: news))) (hm : (p, o1) ∈ news) (hl : ∀ q ∈ news, q.1 < t) : News h₀ L h ((t, o2) :: setAt p o news) := by
  rw [← setAt_cons hm hl]; exact N
theorem pileInst {h₀ h : Heap} {L x C dx : Addr} {news : List (Addr × Obj)} {od : Obj} {its : List Value} {n : Nat} (N : News h₀ L h news) (h1 : (x, pileO C dx its n) ∈ news) (h2 : (dx, od) ∈ news) :
    InstAt h x (pileO C dx its n) C (some od) := ⟨(N _ h1).1, rfl, rfl, (N _ h2).1⟩

section
variable {prog : Program} {w : World} {A : Around} {E : Value → Shared → Prop} {s : Shared} {K : Frag} {x C L : Addr} {ox : Obj} {od : Option Obj} {h₀ : Heap} {m : Str → Option Value} {news : List (Addr × Obj)}

theorem looks_inst {M : Model} {h : Heap} {b : Value} (X : K.In h) (I : InstAt h x ox C od) (hm : mroIn K C b = some true) : Looks M h (isInstance (.ref x) b) true :=
  I.type.andThen (looks_mroIn X hm)

/-- a built-in's method or slot, called on an object of an own class below the owner -/
theorem call_sub {id owner n : String} {b : Builtin} {rest : List Value} {Q : Value → Shared → Prop} (hsplit : splitId id = some (owner, n))
    (hkind : builtinKind id = some .slot ∨ builtinKind id = some .method) (hplain : plainId id = true) (hb : entryFor table id = some b)
    (hI : Looks (model prog w) s.heap (isInstance (.ref x) (.type owner)) true) (ha : argsOk id ⟨.ref x :: rest, []⟩)
    (hc : wpAny (model prog w) A.in1 (b ⟨.ref x :: rest, []⟩) (fun fin s' => ∃ v, fin = .done (.ret v) ∧ Q v s') E s) :
    wpAny (model prog w) A (call (.builtin id) (.ref x :: rest)) Q E s := by
  have hc' : wpAny (model prog w) A.in1 (checkBuiltinCall id ⟨.ref x :: rest, []⟩) (fun _ s' => s' = s) E s := by
    unfold checkBuiltinCall
    simp only [hsplit]
    rcases hkind with h | h <;>
    · simp only [h]
      refine wpAny_bind (hI.here ?_)
      simp only [Bool.not_true, Bool.false_eq_true, if_false]
      cases hsig : Manifest.signature? id with
      | none => exact wpAny_pure rfl
      | some sig =>
        simp only [argsOk, hsig] at ha
        have h2 : Bind.checkArgs id sig ⟨.ref x :: rest, []⟩ = pure () := ha
        show wpAny _ _ (Bind.checkArgs id sig ⟨.ref x :: rest, []⟩) _ E s
        rw [h2]; exact wpAny_pure rfl
  refine wpAny_call (codeAny_call_builtin hplain hb (wpAny_mono hc' (fun _ s' e => ?_) fun _ _ z => z))
  subst e
  exact wpAny_mono hc (fun fin s' h' => by obtain ⟨v, rfl, hv⟩ := h'; exact hv) fun _ _ z => z

/-- a method, built in or the text's own, met on an object of an own class below list -/
theorem method_sub {ga : String} {f t : Value} {name : Str} {es : List DictEntry} {n : Nat} {pl : Sem Bool} {Q : Value × List Value → Shared → Prop} (F : Fr h₀ L s.heap m) (X₀ : K.In h₀)
    (I : InstAt s.heap x ox C (some (dictOf es n))) (hg : findIn K (.ref C) "__getattribute__" = some (some (.builtin ga))) (hcan : (Manifest.canonical ga != "object.__getattribute__") = false)
    (hk : findIn K (.ref C) "__getattr__" = some none) (hf : findIn K (.ref C) name = some (some f)) (ht : typeIn K f = some t)
    (htt : (t != .type "function" && t != .type "method_descriptor" && t != .type "wrapper_descriptor") = false) (hl : getL name es = some none) (h : Q (f, [.ref x]) s) :
    wpAny (model prog w) A (getMethod (.ref x) name pl) Q E s := by
  have X := X₀.keeps F.keep
  have hs : shadowIn (some (dictOf es n)) name = some false := by show (lookIn name (dictOf es n)).map _ = _; rw [lookIn_dict, hl]; rfl
  unfold getMethod specialOf
  refine wpAny_bind (wpAny_bind (I.type.here ((looks_findIn X hg).here ?_)))
  dsimp only
  rw [if_neg (by rw [hcan]; exact Bool.false_ne_true)]
  refine wpAny_bind (wpAny_bind (I.type.here ((looks_findIn X hk).here ?_)))
  refine wpAny_bind (wpAny_bind (I.type.here ((looks_findIn X hf).here (wpAny_bind ((looks_typeIn X ht).here ?_)))))
  rw [if_neg (by rw [htt]; exact Bool.false_ne_true)]
  refine wpAny_bind (wpAny_loadPart I.at_ ?_)
  have hd := I.dict
  cases e : ox.dict with
  | none => exact wpAny_bind (wpAny_rule (wpAny_pure h))
  | some dx =>
    rw [e] at hd
    obtain ⟨r, a, b⟩ := Option.map_eq_some_iff.mp hs
    refine wpAny_bind (wpAny_bind (wpAny_loadPart hd ?_))
    rw [nsLook_of a]
    refine wpAny_pure ?_
    rw [b]
    exact wpAny_bind (wpAny_rule (wpAny_pure h))

theorem pile_append {dx : Addr} {its : List Value} {n : Nat} {o2 : Obj} {v : Value} {Q : Value → Shared → Prop} (F : Fr h₀ L s.heap m) (X₀ : K.In h₀) (N : News h₀ L s.heap news)
    (hm : (x, pileO C dx its n) ∈ news) (hd : (dx, o2) ∈ news) (hl : mroIn K C (.type "list") = some true) (hsz : its.length ≤ sizeLine)
    (h : ∀ h', Fr h₀ L h' m → News h₀ L h' (setAt x (pileO C dx (its ++ [v]) (n + 1)) news) → Q .none { s with heap := h' }) :
    wpAny (model prog w) A (call (.builtin "list.append") [.ref x, v]) Q E s := by
  have I := pileInst N hm hd
  have z := N _ hm
  refine call_sub (owner := "list") (n := "append") (by decide +kernel) (.inr (by decide +kernel)) (by decide +kernel) entry_list_append (looks_inst (X₀.keeps F.keep) I hl) (args_list_append _ _) ?_
  show wpAny _ _ (updateSeq x (·.push v) >>= fun _ => ret .none) _ _ s
  refine wpAny_bind (wpAny_updateSeq z.1 rfl (wpAny_pure ⟨.none, rfl, h _ (F.change (Heap.SameBut.update ..) z.2.1 z.2.2) (news_setAt N hm (Heap.SameBut.update ..) ?_)⟩) (by simpa using hsz) (by simp; omega))
  rw [Heap.get?_update_self _ z.1 (by simp [Obj.mapSeq, Obj.isFreed])]
  simp [Obj.mapSeq]

theorem special_bi {M : Model} {id : String} {name : Str} {args : List Value} {Q : Option Value → Shared → Prop} (X : K.In s.heap) (I : InstAt s.heap x ox C od)
    (hs : findIn K (.ref C) name = some (some (.builtin id))) (hb : ∀ self, bindSpecial (.builtin id) self = pure (.builtin id, [self]))
    (h : wpAny M A (call (.builtin id) (.ref x :: args)) (fun v => Q (some v)) E s) : wpAny M A (callSpecial? (.ref x) name args) Q E s :=
  wpAny_bind (wpAny_bind (I.type.here ((looks_findIn X hs).here (wpAny_holding (wpAny_bind (wpAny_of_eq (hb _) (wpAny_bind (wpAny_mono h (fun _ _ z => wpAny_pure z) fun _ _ z => z))))))))

theorem seqKey_sub {M : Model} {k : Value} {name : Str} {Q : Value → Shared → Prop} (X : K.In s.heap) (I : InstAt s.heap x ox C od) (hq : noSeq K C = true) (h : Q k s) :
    wpAny M A (sequenceKey (.ref x) k name) Q E s := by
  unfold sequenceKey
  refine wpAny_bind (I.type.here ?_)
  refine wpAny_bind ((anyM_none X hq).here ?_)
  rw [if_pos (show (!false) = true from rfl)]
  exact wpAny_pure h

theorem pick_from (its : List Value) (i : Int) (h0 : 0 ≤ i) : slicePick its.toArray (some i) none none = (its.drop i.toNat).toArray := by
  have e : sliceBounds (some i) none none its.toArray.size = (((min i.toNat its.toArray.size : Nat) : Int), ((its.toArray.size : Nat) : Int), 1) := by
    simp only [sliceBounds, Option.getD_none, show (1 : Int) > 0 by decide, if_true, if_neg (show ¬ (i < 0) by omega)]
    congr 1
    omega
  rw [kmk_pick_nat _ e]
  show ((its.drop (min i.toNat its.toArray.size)).take (its.toArray.size - min i.toNat its.toArray.size)).toArray = _
  rw [List.size_toArray, kmk_drop_min, List.take_of_length_le (by rw [List.length_drop]; omega)]

theorem pile_getslice {sl : Addr} {its : List Value} {n : Nat} {ox : Obj} {vl vu vs : Value} {lo hi st : Option Int} {Q : Value → Shared → Prop} (X : K.In s.heap) (I : InstAt s.heap x ox C od) (hdt : ox.data = .seq its.toArray n)
    (hl : mroIn K C (.type "list") = some true) (hq : noSeq K C = true) (hf : findIn K (.ref C) "__getitem__" = some (some (.builtin "list.__getitem__")))
    (hs : s.heap.IsSliceOf sl vl vu vs) (pl : IsPart vl lo) (pu : IsPart vu hi) (ps : IsPart vs st) (h0 : st ≠ some 0)
    (h : Q (.ref s.heap.objs.size) { s with heap := s.heap.push { cls := .type "list", data := .seq (slicePick its.toArray lo hi st) } })
    (hsz : its.length ≤ sizeLine) : wpAny (model prog w) A (getItem (.ref x) (.ref sl)) Q E s := by
  obtain ⟨os, hos, hcs, hds⟩ := id hs
  have hTs : s.TypeIs (.ref sl) "slice" := ⟨os, hos, hcs⟩
  unfold getItem
  refine wpAny_holding (wpAny_bind (seqKey_sub X I hq (wpAny_bind (special_bi X I hf slot_list_getitem.bind ?_))))
  refine call_sub (owner := "list") (n := "__getitem__") (by decide +kernel) (by first | exact .inl (by decide +kernel) | exact .inr (by decide +kernel)) (by decide +kernel) entry_list_getitem (looks_inst X I hl) (args_list_getitem _ _) ?_
  show wpAny _ _ (Builtin.List.listSubscript? (.ref sl) >>= _) _ _ s
  refine wpAny_bind ?_
  · unfold Builtin.List.listSubscript?
    refine wpAny_bind (wpAny_specialOf hTs slice_no_index ?_)
    simp only [Option.isNone_none, if_true]
    refine wpAny_pure ?_
    show wpAny _ _ (typeOf (.ref sl) >>= _) _ _ s
    refine wpAny_bind (wpAny_typeOf hTs ?_)
    rw [if_neg (by decide)]
    rw [listSliceParts_eq]
    have hstep : ¬ ((rawPart st == rawInt 0) = true) := by
      cases st with
      | none => exact Bool.false_ne_true
      | some c =>
        intro hh
        have : c = 0 := by simpa [rawPart, rawInt] using hh
        exact h0 (by rw [this])
    refine wpAny_bind (wpAny_bind (wpAny_field hos hds (x := vs) rfl (wpAny_bind (wpAny_listPart ps ?_))))
    rw [if_neg hstep]
    refine wpAny_bind (wpAny_field hos hds (x := vl) rfl (wpAny_bind (wpAny_listPart pl ?_)))
    refine wpAny_bind (wpAny_field hos hds (x := vu) rfl (wpAny_bind (wpAny_listPart pu (wpAny_pure ?_))))
    refine wpAny_bind (m := Builtin.List.listItems (.ref x)) ?_
    · unfold Builtin.List.listItems
      refine wpAny_bind (wpAny_seqItems I.at_ hdt (wpAny_pure ?_))
      refine wpAny_bind (wpAny_of_eq (sliceIndices_raw lo hi st its.toArray.size h0) ?_)
      refine wpAny_bind (wpAny_newObj_type (wpAny_pure ⟨_, rfl, wpAny_pure h⟩) (Nat.le_trans (slicePick_size_le its.toArray lo hi st) (by simpa using hsz)))

theorem pile_from {value slice : PySem.Expr} {dx : Addr} {its : List Value} {n : Nat} {o2 : Obj} {i : Int} {ti : Tok} {Q : Value → Shared → Prop} (F : Fr h₀ L s.heap m) (X₀ : K.In h₀) (N : News h₀ L s.heap news)
    (hm : (x, pileO C dx its n) ∈ news) (hd : (dx, o2) ∈ news) (hl : mroIn K C (.type "list") = some true) (hq : noSeq K C = true) (hf : findIn K (.ref C) "__getitem__" = some (some (.builtin "list.__getitem__")))
    (h0 : 0 ≤ i) (hsz : its.length ≤ sizeLine)
    (hs : ∀ b, subscripted slice b (.ref x) (.ref s.heap.objs.size) = operate [.ref s.heap.objs.size, .ref x] (getItem (.ref x) (.ref s.heap.objs.size))) (ht : ∀ r, letTemporaryGo value (.ref x) r = pure ())
    (h : ∀ D h', Fr h₀ L h' m → News h₀ L h' ((D, lstO (its.drop i.toNat) 0) :: news) → (∀ p ∈ news, p.1 < D) → Q (.ref D) { s with heap := h' }) :
    wpAny (model prog w) A (subscriptTail value slice (.ref x) (.ref s.heap.objs.size)) Q E { s with heap := s.heap.push { cls := .type "slice", data := .fields #[.int i ti, .none, .none] } } := by
  have up : ∀ b o, s.heap.get? b = some o → (s.heap.push { cls := .type "slice", data := .fields #[.int i ti, .none, .none] }).get? b = some o := fun b o e => Heap.get?_push_of_some _ e
  have N' := News.grown N up
  have I := pileInst N' hm hd
  have X : K.In (s.heap.push { cls := .type "slice", data := .fields #[.int i ti, .none, .none] }) := (X₀.keeps F.keep).keeps up
  unfold subscriptTail getitemInPython
  refine wpAny_bind (wpAny_bind (wpAny_bind (I.type.here ((looks_findIn X hf).here (wpAny_pure ?_)))))
  rw [hs]
  refine wpAny_bind (wpAny_operate' (pile_getslice (s := { s with heap := s.heap.push { cls := .type "slice", data := .fields #[.int i ti, .none, .none] } }) X I rfl hl hq hf (Heap.IsSliceOf.new ..) (.int i ti) .none .none (by simp) ?_ hsz))
  refine wpAny_bind (wpAny_of_eq (ht _) (wpAny_pure ?_))
  have N1 := News.push (F.push { cls := .type "slice", data := .fields #[.int i ti, .none, .none] }) N' { cls := .type "list", data := .seq (slicePick its.toArray (some i) none none) }
  rw [pick_from its i h0] at N1 ⊢
  refine h _ _ ((F.push _).push _) N1 fun p hp => ?_
  rw [Heap.size_push]
  exact Nat.lt_succ_of_lt (Heap.lt_size (N p hp).1)

theorem args_list_setitem (a b c : Value) : argsOk "list.__setitem__" ⟨[a, b, c], []⟩ := by unfold argsOk; kernel_rfl
theorem entry_list_setitem : entryFor table "list.__setitem__" = some Builtin.«list.__setitem__» := entryFor_of_tree (by kernel_rfl)
theorem bind_list_setitem (self : Value) : bindSpecial (.builtin "list.__setitem__") self = pure (.builtin "list.__setitem__", [self]) :=
  (Slot.of (T := "list") (name := "__setitem__") (owner := "list") (n := "__setitem__") (by rw [typeLookup_type, builtinLookup_eq_fast]; kernel_rfl) (by decide +kernel) (by decide +kernel) (by decide +kernel)
    (by first | exact .inl (by decide +kernel) | exact .inr (by decide +kernel)) (by rw [isSubtype_type]; kernel_rfl)).bind self

theorem pile_cut {dx e : Addr} {its : List Value} {n k : Nat} {o2 : Obj} {i : Int} {ti : Tok} {Q : Unit → Shared → Prop} (F : Fr h₀ L s.heap m) (X₀ : K.In h₀) (Ne : News h₀ L s.heap ((e, listOf #[] k) :: news)) (hlt : AllLt e news)
    (hm : (x, pileO C dx its n) ∈ news) (hd : (dx, o2) ∈ news) (hl : mroIn K C (.type "list") = some true) (hq : noSeq K C = true) (hf : findIn K (.ref C) "__setitem__" = some (some (.builtin "list.__setitem__")))
    (h0 : 0 ≤ i) (hsz : its.length ≤ sizeLine)
    (h : ∀ h' n', Fr h₀ L h' m → News h₀ L h' (setAt x (pileO C dx (its.take i.toNat) n') news) → Q () { s with heap := h' }) :
    wpAny (model prog w) A (setItem (.ref x) (.ref s.heap.objs.size) (.ref e)) Q E { s with heap := s.heap.push { cls := .type "slice", data := .fields #[.int i ti, .none, .none] } } := by
  have N := news_tail Ne
  have hxe : x ≠ e := Nat.ne_of_lt (allLt_mem hlt hm)
  have up : ∀ b o, s.heap.get? b = some o → (s.heap.push { cls := .type "slice", data := .fields #[.int i ti, .none, .none] }).get? b = some o := fun b o e => Heap.get?_push_of_some _ e
  have N' := News.grown N up
  have F' := F.push { cls := .type "slice", data := .fields #[.int i ti, .none, .none] }
  have I := pileInst N' hm hd
  have X : K.In (s.heap.push { cls := .type "slice", data := .fields #[.int i ti, .none, .none] }) := (X₀.keeps F.keep).keeps up
  obtain ⟨os, hos, hcs, hds⟩ := Heap.IsSliceOf.new s.heap (.int i ti) .none .none
  have hTs : ({ s with heap := s.heap.push { cls := .type "slice", data := .fields #[.int i ti, .none, .none] } } : Shared).TypeIs (.ref s.heap.objs.size) "slice" := ⟨os, hos, hcs⟩
  have hE : (s.heap.push { cls := .type "slice", data := .fields #[.int i ti, .none, .none] }).get? e = some (listOf #[] k) := up _ _ (Ne (e, listOf #[] k) (List.Mem.head _)).1
  have hTe : ({ s with heap := s.heap.push { cls := .type "slice", data := .fields #[.int i ti, .none, .none] } } : Shared).TypeIs (.ref e) "list" := ⟨_, hE, rfl⟩
  unfold setItem
  refine wpAny_holding (wpAny_bind (seqKey_sub X I hq (wpAny_bind (special_bi X I hf bind_list_setitem ?_))))
  refine call_sub (owner := "list") (n := "__setitem__") (by decide +kernel) (by first | exact .inl (by decide +kernel) | exact .inr (by decide +kernel)) (by decide +kernel) entry_list_setitem (looks_inst X I hl) (args_list_setitem _ _ _) ?_
  unfold Builtin.«list.__setitem__»
  refine wpAny_bind (wpAny_of_eq (a := (.ref x, [.ref s.heap.objs.size, .ref e])) (by rfl) ?_)
  dsimp only
  refine wpAny_bind ?_
  · unfold Builtin.List.listSubscript?
    refine wpAny_bind (wpAny_specialOf hTs slice_no_index ?_)
    simp only [Option.isNone_none, if_true]
    refine wpAny_pure ?_
    show wpAny _ _ (typeOf (.ref s.heap.objs.size) >>= _) _ _ _
    refine wpAny_bind (wpAny_typeOf hTs ?_)
    rw [if_neg (by decide)]
    rw [listSliceParts_eq]
    refine wpAny_bind (wpAny_bind (wpAny_field hos hds (x := .none) rfl (wpAny_bind (wpAny_listPart .none ?_))))
    rw [if_neg (by decide)]
    refine wpAny_bind (wpAny_field hos hds (x := .int i ti) rfl (wpAny_bind (wpAny_listPart (.int i ti) ?_)))
    refine wpAny_bind (wpAny_field hos hds (x := .none) rfl (wpAny_bind (wpAny_listPart .none (wpAny_pure ?_))))
    have hne : ¬ ((Builtin.List.listSameRef (.ref x) (.ref e)) = true) := by simpa [Builtin.List.listSameRef] using hxe
    dsimp only
    rw [if_neg hne]
    refine wpAny_bind ?_
    unfold Builtin.List.listAllItems
    refine wpAny_bind (wpAny_typeOf hTe ?_)
    rw [if_pos (by decide)]
    unfold Builtin.List.listItems
    refine wpAny_bind (wpAny_seqItems hE rfl (wpAny_pure ?_))
    refine wpAny_bind (wpAny_bind (wpAny_seqItems I.at_ rfl (wpAny_pure ?_)))
    refine wpAny_bind (wpAny_of_eq (sliceIndices_raw (some i) none none its.toArray.size (by simp)) ?_)
    have e : sliceBounds (some i) none none its.toArray.size = (((min i.toNat its.toArray.size : Nat) : Int), ((its.toArray.size : Nat) : Int), 1) := by
      simp only [sliceBounds, Option.getD_none, show (1 : Int) > 0 by decide, if_true, if_neg (show ¬ (i < 0) by omega)]
      congr 1
      omega
    rw [e]
    dsimp only
    rw [if_pos (by decide)]
    refine wpAny_bind (wpAny_rule ?_)
    rw [if_neg (by
      show ¬ ((Builtin.List.listTooLong (its.toArray.size + (#[] : Array Value).size)) = true)
      unfold Builtin.List.listTooLong
      simp
      exact hsz)]
    have z := N' _ hm
    have hcut : (its.toArray.extract 0 ((min i.toNat its.toArray.size : Nat) : Int).toNat ++ #[] ++ its.toArray.extract (max ((min i.toNat its.toArray.size : Nat) : Int) ((its.toArray.size : Nat) : Int)).toNat its.toArray.size) = (its.take i.toNat).toArray := by
      apply Array.ext'
      have e1 : (max ((min i.toNat its.toArray.size : Nat) : Int) ((its.toArray.size : Nat) : Int)).toNat = its.toArray.size := by omega
      rw [e1]
      simp only [Int.toNat_natCast, Array.toList_append, Array.toList_extract, List.append_nil, List.drop_zero, List.size_toArray, List.drop_length, List.take_nil, Nat.sub_zero, List.extract_eq_take_drop, Nat.sub_self]
      exact kmk_take_min its i.toNat
    show wpAny _ _ (updateSeq x _ >>= _) _ _ _
    refine wpAny_bind (wpAny_updateSeq z.1 rfl (wpAny_bind (wpAny_letGo (wpAny_pure ⟨.none, rfl, wpAny_pure (h _ (if (its.take i.toNat).toArray.size == its.toArray.size then n else n + 1) (F'.change (Heap.SameBut.update ..) z.2.1 z.2.2) (news_setAt N' hm (Heap.SameBut.update ..) ?_))⟩))) (by simpa using hsz) ?_)
    · rw [Heap.get?_update_self _ z.1 (by simp [Obj.mapSeq, Obj.isFreed])]
      show some (Obj.mapSeq _ _) = _
      unfold Obj.mapSeq
      dsimp only
      rw [hcut]
    · rw [hcut]
      simp
      omega
end
end Mine
end
noncomputable section
open PySem PySem.W PySem.Calls PyProof.Rows Mine
set_option Elab.async false
set_option maxRecDepth 100000
set_option maxHeartbeats 4000000
namespace Mine
namespace F
theorem slot_wd_get : Slot "wrapper_descriptor" "__get__" "wrapper_descriptor.__get__" := .of (owner := "wrapper_descriptor") (n := "__get__") (by rw [typeLookup_type, builtinLookup_eq_fast]; kernel_rfl) (by decide +kernel) (by decide +kernel) (by decide +kernel)
  (by first | exact .inl (by decide +kernel) | exact .inr (by decide +kernel)) (by rw [isSubtype_type]; kernel_rfl)
theorem entry_wd_get : entryFor table "wrapper_descriptor.__get__" = some Builtin.«wrapper_descriptor.__get__» := entryFor_of_tree (by kernel_rfl)
theorem wdArgs (a b c : Value) : argsOk "wrapper_descriptor.__get__" ⟨[a, b, c], []⟩ := by unfold argsOk; kernel_rfl
theorem ty_len : typeOf (.builtin "list.__len__") = pure (.type "wrapper_descriptor") := by show builtinType _ = _; rw [builtinType_eq_fast]; kernel_rfl
theorem ty_init : typeOf (.builtin "list.__init__") = pure (.type "wrapper_descriptor") := by show builtinType _ = _; rw [builtinType_eq_fast]; kernel_rfl
end F

section
variable {prog : Program} {w : World} {M : Model} {A : Around} {E : Value → Shared → Prop} {h : Heap} {g : Array GenState} {d : Drawn} {t : Nat} {os : OsState}

theorem own_len : ".".intercalate ("list.__len__".cutAt '.').dropLast = "list" := by decide +kernel
theorem own_init : ".".intercalate ("list.__init__".cutAt '.').dropLast = "list" := by decide +kernel
theorem wd_get {id : String} {x C : Addr} {ox : Obj} {Q : Fin → Shared → Prop} (hx : h.get? x = some ox) (hc : ox.cls = .ref C) (hI : Looks (model prog w) h (isSubtype (.ref C) (.type "list")) true) (hn : (id = "list.__len__" ∨ id = "list.__init__"))
    (hq : Q (.done (.ret (.ref h.objs.size))) ⟨h.push { cls := .type "method-wrapper", data := .fields #[.builtin id, .ref x] }, g, d, t, os⟩) :
    wpAny (model prog w) A (Builtin.«wrapper_descriptor.__get__» ⟨[.builtin id, .ref x, .ref C], []⟩) Q E ⟨h, g, d, t, os⟩ := by
  unfold Builtin.«wrapper_descriptor.__get__»
  rcases hn with rfl | rfl
  · repeat (first
      | (with_reducible refine wpAny_loadPart hx ?_; refine wpAny_pure ?_; rw [hc, own_len]; refine Looks.at hI ?_)
      | (unfold newFields; refine wpAny_bind (wpAny_newObj_type ?_ (by size_fits)))
      | wp_step
      | dsimp only)
    exact hq
  · repeat (first
      | (with_reducible refine wpAny_loadPart hx ?_; refine wpAny_pure ?_; rw [hc, own_init]; refine Looks.at hI ?_)
      | (unfold newFields; refine wpAny_bind (wpAny_newObj_type ?_ (by size_fits)))
      | wp_step
      | dsimp only)
    exact hq
end
end Mine
end
noncomputable section
open PySem PySem.W PySem.Calls PyProof.Rows Mine
set_option Elab.async false
set_option maxRecDepth 100000
set_option maxHeartbeats 4000000
namespace Mine
section
variable {prog : Program} {w : World} {M : Model} {A : Around} {E : Value → Shared → Prop} {h : Heap} {g : Array GenState} {d : Drawn} {t : Nat} {os : OsState}

theorem super_ga {so D x C : Addr} {l₀ l : List Value} {K : Frag} {name : Str} {tk : Tok} {id tn gid : String} {bg : Builtin} {ob : Obj} {Q : Fin → Shared → Prop}
    (hso : h.get? so = some { cls := .type "super", dict := none, data := .fields #[.ref D, .ref x, .ref C], slots := #[] }) (hno : Looks (model prog w) h (opaqueClassAbove (.ref C)) none)
    (hC : Looks (model prog w) h (mroOf (.ref C)) l₀) (hl : (l₀.dropWhile (· != .ref D)).drop 1 = l) (X : K.In h)
    (hf : alongIn K name l = some (some (.builtin id))) (hxC : x ≠ C) (hn : (name == ("__class__" : Str)) = false)
    (hT : typeOf (.builtin id) = pure (.type tn)) (sl : Slot tn "__get__" gid) (eg : entryFor table gid = some bg) (ag : argsOk gid ⟨[.builtin id, .ref x, .ref C], []⟩)
    (hb : ∀ {A' : Around} {Q' : Fin → Shared → Prop} {E' : Value → Shared → Prop}, Q' (.done (.ret (.ref h.objs.size))) ⟨h.push ob, g, d, t, os⟩ → wpAny (model prog w) A' (bg ⟨[.builtin id, .ref x, .ref C], []⟩) Q' E' ⟨h, g, d, t, os⟩)
    (hq : Q (.done (.ret (.ref h.objs.size))) ⟨h.push ob, g, d, t, os⟩) :
    wpAny (model prog w) A (Builtin.«super.__getattribute__» ⟨[.ref so, .str name tk], []⟩) Q E ⟨h, g, d, t, os⟩ := by
  have hlk := sl.lookup
  have hne : (Value.ref x == Value.ref C) = false := by simp [hxC]
  have hTf : (⟨h, g, d, t, os⟩ : Shared).TypeIs (.builtin id) tn := hT
  have hdt : ({ cls := .type "super", dict := none, data := .fields #[.ref D, .ref x, .ref C], slots := #[] } : Obj).data = .fields #[.ref D, .ref x, .ref C] := rfl
  have f0 : (#[.ref D, .ref x, .ref C] : Array Value)[0]? = some (.ref D) := rfl
  have f1 : (#[.ref D, .ref x, .ref C] : Array Value)[1]? = some (.ref x) := rfl
  have f2 : (#[.ref D, .ref x, .ref C] : Array Value)[2]? = some (.ref C) := rfl
  unfold Builtin.«super.__getattribute__»
  repeat (first
    | (with_reducible refine wpAny_field hso hdt f0 ?_) | (with_reducible refine wpAny_field hso hdt f1 ?_) | (with_reducible refine wpAny_field hso hdt f2 ?_)
    | (with_reducible refine ks_wpAny_notOpaque hno ?_)
    | (with_reducible refine Looks.at hC ?_; rw [hl])
    | (refine ks_forIn_along X (fun _ _ => rfl) rfl ?_ hf)
    | (with_reducible refine wpAny_typeOf hTf ?_)
    | (with_reducible refine wpAny_call_entry sl hTf eg ?_ ag)
    | (with_reducible refine hb ?_)
    | (with_reducible refine ⟨_, rfl, ?_⟩)
    | (simp only [hn, hne, Bool.or_false, Bool.false_eq_true, if_false])
    | wp_step
    | dsimp only)
  all_goals exact hq

theorem getMethod_super {so D x C : Addr} {l₀ l : List Value} {K : Frag} {name : Str} {id tn gid : String} {bg : Builtin} {ob : Obj} {pl : Sem Bool} {Q : Value × List Value → Shared → Prop}
    (hso : h.get? so = some { cls := .type "super", dict := none, data := .fields #[.ref D, .ref x, .ref C], slots := #[] }) (hno : Looks (model prog w) h (opaqueClassAbove (.ref C)) none)
    (hC : Looks (model prog w) h (mroOf (.ref C)) l₀) (hl : (l₀.dropWhile (· != .ref D)).drop 1 = l) (X : K.In h)
    (hf : alongIn K name l = some (some (.builtin id))) (hxC : x ≠ C) (hn : (name == ("__class__" : Str)) = false)
    (hT₀ : typeOf (.builtin id) = pure (.type tn)) (sl : Slot tn "__get__" gid) (eg : entryFor table gid = some bg) (ag : argsOk gid ⟨[.builtin id, .ref x, .ref C], []⟩)
    (hb : ∀ {A' : Around} {Q' : Fin → Shared → Prop} {E' : Value → Shared → Prop} {t' : Nat}, Q' (.done (.ret (.ref h.objs.size))) ⟨h.push ob, g, d, t', os⟩ → wpAny (model prog w) A' (bg ⟨[.builtin id, .ref x, .ref C], []⟩) Q' E' ⟨h, g, d, t', os⟩)
    (hq : Q (.ref h.objs.size, []) ⟨h.push ob, g, d, t + 1, os⟩) :
    wpAny (model prog w) A (getMethod (.ref so) name pl) Q E ⟨h, g, d, t, os⟩ := by
  have hlk := PySem.F.ks_slot_super_ga.lookup
  have hcan := PySem.F.ks_canon_super_ga
  have hT : ∀ t', (⟨h, g, d, t', os⟩ : Shared).TypeIs (.ref so) "super" := fun _ => ⟨_, hso, rfl⟩
  unfold getMethod
  refine wpAny_bind (wpAny_specialOf (hT _) hlk ?_)
  show wpAny _ _ (if (Manifest.canonical "super.__getattribute__" != "object.__getattribute__") = true then _ else _) _ _ _
  rw [if_pos hcan]
  unfold getAttr getAttrBy
  refine wpAny_bind (wpAny_bind (wpAny_mkText (wpAny_holding (wpAny_bind (wpAny_typeOf (hT _) (wpAny_bind (wpAny_of_eq hlk ?_)))))))
  show wpAny _ _ (getAttrByItsOwn (.ref so) (.str name t) (.type "super") (.builtin "super.__getattribute__") true false) _ _ _
  unfold getAttrByItsOwn hookBefore callGetattribute boundAndCalled
  refine wpAny_bind (wpAny_of_eq (show (if onTheHeap (.type "super") then typeLookup (.type "super") "__getattr__" else pure none) = pure none from rfl) ?_)
  refine wpAny_bind (wpAny_attempt (wpAny_holding ?_))
  show wpAny _ _ (bindSpecial (.builtin "super.__getattribute__") (.ref so) >>= _) _ _ _
  refine wpAny_bind (wpAny_of_eq (PySem.F.ks_slot_super_ga.bind _) ?_)
  refine wpAny_mono (Q := fun v s' => v = .ref h.objs.size ∧ s' = ⟨h.push ob, g, d, t + 1, os⟩) (E := fun _ _ => False)
    (wpAny_call_entry PySem.F.ks_slot_super_ga (hT _) PySem.F.ks_entry_super_ga (super_ga hso hno hC hl X hf hxC hn hT₀ sl eg ag hb ⟨_, rfl, rfl, rfl⟩) (PySem.F.ks_gaArgs_super _ _)) (fun v s' hv => ?_) fun _ _ z => z.elim
  obtain ⟨rfl, rfl⟩ := hv
  exact wpAny_pure (wpAny_pure hq)
end
end Mine
end
noncomputable section
open PySem PySem.W PySem.Calls PyProof.Rows Mine
set_option Elab.async false
set_option maxRecDepth 100000
set_option maxHeartbeats 4000000
namespace Mine
abbrev boundO (cls id : String) (x : Addr) : Obj := { cls := .type cls, data := .fields #[.builtin id, .ref x] }
section
variable {prog : Program} {w : World} {A : Around} {E : Value → Shared → Prop} {s : Shared} {h₀ : Heap} {L : Addr} {m mg mb : Str → Option Value} {news : List (Addr × Obj)} {K : Frag} {x C D so q : Addr} {ox : Obj} {odx : Option Obj}

theorem super_bi {name : Str} {id tn gid bt : String} {bg : Builtin} {pl : Sem Bool} {Q : Value × List Value → Shared → Prop} (F : Fr h₀ L s.heap m) (X₀ : K.In h₀) (N : News h₀ L s.heap news) (hso : (so, ks_superObj D x C) ∈ news) (I : InstAt s.heap x ox C odx) (ho : nsIn K cStatics "thirdparty.any" = some none)
    (hm : ks_superIn K C D name = some (some (.builtin id))) (hn : (name == ("__class__" : Str)) = false)
    (hT₀ : typeOf (.builtin id) = pure (.type tn)) (sl : Slot tn "__get__" gid) (eg : entryFor table gid = some bg) (ag : ∀ a b c, argsOk gid ⟨[a, b, c], []⟩)
    (hb : ∀ {g d os} {A' : Around} {Q' : Fin → Shared → Prop} {E' : Value → Shared → Prop} {t' : Nat}, Q' (.done (.ret (.ref s.heap.objs.size))) ⟨s.heap.push (boundO bt id x), g, d, t', os⟩ → wpAny (model prog w) A' (bg ⟨[.builtin id, .ref x, .ref C], []⟩) Q' E' ⟨s.heap, g, d, t', os⟩)
    (h : ∀ q h', Fr h₀ L h' m → News h₀ L h' ((q, boundO bt id x) :: news) → (∀ p ∈ news, p.1 < q) → Q (.ref q, []) { s with heap := h', toks := s.toks + 1 }) : wpAny (model prog w) A (getMethod (.ref so) name pl) Q E s := by
  have X : K.In s.heap := X₀.keeps F.keep
  obtain ⟨hh, g, d, t, os⟩ := s
  cases hc : clsIn K C with
  | none => unfold ks_superIn at hm; rw [hc] at hm; cases hm
  | some cd =>
    unfold ks_superIn at hm
    rw [hc] at hm
    refine getMethod_super (N _ hso).1 (looks_opaque X ho) (l₀ := cd.mro) ?_ rfl X hm (ks_ne X I hc) hn hT₀ sl eg (ag _ _ _) hb ?_
    · exact fun A Q E s k q => wpAny_bind ((looks_clsIn X hc) A _ E s k (wpAny_pure q))
    · obtain ⟨F', N', l'⟩ := ks_newsPush (s := ⟨hh, g, d, t, os⟩) (o := boundO bt id x) F N rfl (Heap.get?_push_at rfl rfl) (fun b o e => Heap.get?_push_of_some _ e)
      exact h _ _ F' N' l'

theorem callWith_bound {bt id : String} {env : Env} {pos : Pos} {Q : Value → Shared → Prop} (N : News h₀ L s.heap news) (hq : (q, boundO bt id x) ∈ news) (hb : (Value.type bt != .type "method") = true) (hb2 : (Value.type bt == .type "builtin_function_or_method" || Value.type bt == .type "method-wrapper") = true)
    (h : wpAny (model prog w) A (call (.ref q) []) Q E s) : wpAny (model prog w) A (callWith pos (.ref q) [] (backTo pos (starEach [] env)) []) Q E s := by
  refine callWith_of (P := fun h => h.get? q = some (boundO bt id x)) rfl (fun h hh => ⟨.machine, .inr (.inl rfl), ?_⟩) (evalArgs_nil3 ⟨(N _ hq).1, h⟩)
  refine (Looks.ld (part := none) hh).andThen ?_
  show Looks _ _ (if (Value.type bt != .type "method") = true then _ else _) _
  rw [if_pos hb, if_pos hb2]
  exact .now

theorem call_bound {bt id : String} {b : Builtin} {Q : Value → Shared → Prop} (N : News h₀ L s.heap news) (hq : (q, boundO bt id x) ∈ news) (hb : (Value.type bt != .type "method") = true)
    (hb2 : (Value.type bt == .type "method" || Value.type bt == .type "builtin_function_or_method" || Value.type bt == .type "method-wrapper") = true)
    (hck : ∀ {A' : Around} {Q' : Unit → Shared → Prop} {E' : Value → Shared → Prop}, Q' () s → wpAny (model prog w) A' (checkBoundCall id ⟨[.ref x], []⟩) Q' E' s) (hp : plainId id = true) (eb : entryFor table id = some b)
    (h : wpAny (model prog w) A.in1 (b ⟨[.ref x], []⟩) (fun fin s' => ∃ v, fin = .done (.ret v) ∧ Q v s') E s) : wpAny (model prog w) A (call (.ref q) []) Q E s := by
  refine wpAny_call (codeAny_of_tree ?_)
  show wpAny _ A.in1 (callAny (.ref q) ⟨[], []⟩) _ _ _
  unfold callAny
  refine wpAny_bind (wpAny_load (N _ hq).1 ?_)
  dsimp only
  rw [if_pos hb2]
  show wpAny _ _ (if (Value.type bt != .type "method") = true then _ else _) _ _ _
  rw [if_pos hb]
  refine wpAny_bind (hck (wpAny_pure ⟨plainId_quiet hp _, codeAny_builtin eb ?_⟩))
  rw [Around.under_plainId hp _]
  exact wpAny_mono h (fun fin s' h' => by obtain ⟨v, rfl, hv⟩ := h'; exact hv) fun _ _ z => z
end
end Mine
end
noncomputable section
open PySem PySem.W PySem.Calls PyProof.Rows Mine
set_option Elab.async false
set_option maxRecDepth 100000
set_option maxHeartbeats 4000000
namespace Mine
theorem bound_len (v : Value) : checkBoundCall "list.__len__" ⟨[v], []⟩ = pure () := by kernel_rfl
theorem bound_init (v : Value) : checkBoundCall "list.__init__" ⟨[v], []⟩ = pure () := by kernel_rfl
theorem entry_len : entryFor table "list.__len__" = some Builtin.«list.__len__» := entryFor_of_tree (by kernel_rfl)
theorem entry_init : entryFor table "list.__init__" = some Builtin.«list.__init__» := entryFor_of_tree (by kernel_rfl)
section
variable {prog : Program} {w : World} {A : Around} {E : Value → Shared → Prop} {s : Shared} {h₀ : Heap} {L : Addr} {m mg mb : Str → Option Value} {news : List (Addr × Obj)} {K : Frag} {x C D so q dx : Addr} {ox : Obj} {odx : Option Obj}
theorem bi_len {o : Obj} {xs : Array Value} {n : Nat} {Q : Value → Shared → Prop} (ho : s.heap.get? x = some o) (hd : o.data = .seq xs n) (hf : xs.size ≤ sizeLine) (h : Q (.int xs.size s.toks) { s with toks := s.toks + 1 }) :
    wpAny (model prog w) A (Builtin.«list.__len__» ⟨[.ref x], []⟩) (fun fin s' => ∃ v, fin = .done (.ret v) ∧ Q v s') E s := by
  unfold Builtin.«list.__len__»
  refine wpAny_bind (wpAny_of_eq (a := (.ref x, [])) (by rfl) ?_)
  dsimp only
  repeat (first | (with_reducible refine wpAny_loadPart ho ?_) | wp_step | dsimp only)
  rw [hd]
  refine wpAny_pure ?_
  repeat wp_step
  exact ⟨_, rfl, h⟩
theorem super_len {pl : Sem Bool} {Q : Value × List Value → Shared → Prop} (F : Fr h₀ L s.heap m) (X₀ : K.In h₀) (N : News h₀ L s.heap news) (hso : (so, ks_superObj D x C) ∈ news) (I : InstAt s.heap x ox C odx) (ho : nsIn K cStatics "thirdparty.any" = some none)
    (hm : ks_superIn K C D "__len__" = some (some (.builtin "list.__len__"))) (hl : mroIn K C (.type "list") = some true)
    (h : ∀ q h', Fr h₀ L h' m → News h₀ L h' ((q, boundO "method-wrapper" "list.__len__" x) :: news) → (∀ p ∈ news, p.1 < q) → Q (.ref q, []) { s with heap := h', toks := s.toks + 1 }) : wpAny (model prog w) A (getMethod (.ref so) "__len__" pl) Q E s :=
  super_bi F X₀ N hso I ho hm (by decide) Mine.F.ty_len Mine.F.slot_wd_get Mine.F.entry_wd_get Mine.F.wdArgs (fun hq => wd_get I.at_ I.cls (looks_mroIn (X₀.keeps F.keep) hl) (.inl rfl) hq) h
theorem super_init {pl : Sem Bool} {Q : Value × List Value → Shared → Prop} (F : Fr h₀ L s.heap m) (X₀ : K.In h₀) (N : News h₀ L s.heap news) (hso : (so, ks_superObj D x C) ∈ news) (I : InstAt s.heap x ox C odx) (ho : nsIn K cStatics "thirdparty.any" = some none)
    (hm : ks_superIn K C D "__init__" = some (some (.builtin "list.__init__"))) (hl : mroIn K C (.type "list") = some true)
    (h : ∀ q h', Fr h₀ L h' m → News h₀ L h' ((q, boundO "method-wrapper" "list.__init__" x) :: news) → (∀ p ∈ news, p.1 < q) → Q (.ref q, []) { s with heap := h', toks := s.toks + 1 }) : wpAny (model prog w) A (getMethod (.ref so) "__init__" pl) Q E s :=
  super_bi F X₀ N hso I ho hm (by decide) Mine.F.ty_init Mine.F.slot_wd_get Mine.F.entry_wd_get Mine.F.wdArgs (fun hq => wd_get I.at_ I.cls (looks_mroIn (X₀.keeps F.keep) hl) (.inr rfl) hq) h
theorem call_len {its : List Value} {n : Nat} {Q : Value → Shared → Prop} (N : News h₀ L s.heap news) (hq : (q, boundO "method-wrapper" "list.__len__" x) ∈ news) (hm : (x, pileO C dx its n) ∈ news) (hf : its.length ≤ sizeLine)
    (h : Q (.int its.length s.toks) { s with toks := s.toks + 1 }) : wpAny (model prog w) A (call (.ref q) []) Q E s :=
  call_bound N hq (by decide) (by decide) (fun hq => wpAny_of_eq (bound_len _) hq) (by decide +kernel) entry_len (bi_len (N _ hm).1 rfl (by simpa using hf) (by simpa using h))
theorem callWith_wrap {id : String} {env : Env} {pos : Pos} {Q : Value → Shared → Prop} (N : News h₀ L s.heap news) (hq : (q, boundO "method-wrapper" id x) ∈ news)
    (h : wpAny (model prog w) A (call (.ref q) []) Q E s) : wpAny (model prog w) A (callWith pos (.ref q) [] (backTo pos (starEach [] env)) []) Q E s := callWith_bound N hq (by decide) (by decide) h
end
end Mine
end
noncomputable section
open PySem PySem.W PySem.Calls PyProof.Rows Mine
set_option Elab.async false
set_option maxRecDepth 100000
set_option maxHeartbeats 4000000
namespace Mine
def makesL (K : Frag) (C : Addr) : Bool := match K.lookup C with
  | some ⟨_, _, .cls cd, sl⟩ => !cd.abstract && !cd.hasDel && (sl.toList[4]?).join == some (.builtin "list.__new__") && !cd.mro.isEmpty && cd.mro.contains (.ref C) && cd.mro.contains (.type "list") &&
      specialIn K (.ref C) "__call__" == some (some (.builtin "type.__call__")) && instIn K (.ref C) (.type "type") == some true
  | _ => false
structure MakesL (M : Model) (h : Heap) (C : Addr) : Prop where
  obj : ∃ oc od cd sl, h.get? C = some ⟨oc, od, .cls cd, sl⟩ ∧ cd.abstract = false ∧ cd.hasDel = false ∧ cd.mro.isEmpty = false
  made : Looks M h (Bind.madeBy (.ref C)) (some "list.__new__")
  base : Looks M h (Bind.staticBase (.ref C)) (.ref C)
  self : Looks M h (isSubtype (.ref C) (.ref C)) true
  top : Looks M h (isSubtype (.ref C) (.type "list")) true
  call : Looks M h (specialOf (.ref C) "__call__") (some (.builtin "type.__call__"))
  typ : Looks M h (isInstance (.ref C) (.type "type")) true
theorem makesL_of {K : Frag} {M : Model} {h : Heap} (X : K.In h) {C : Addr} (e : makesL K C = true) : MakesL M h C := by
  unfold makesL at e
  split at e
  · rename_i oc od cd sl ho
    simp only [Bool.and_eq_true, Bool.not_eq_true', beq_iff_eq] at e
    obtain ⟨⟨⟨⟨⟨⟨⟨e1, e2⟩, e3⟩, e4⟩, e5⟩, e6⟩, e7⟩, e8⟩ := e
    have hc : clsIn K C = some cd := by unfold clsIn; rw [ho]
    have hm : Looks M h (mroOf (.ref C)) cd.mro := (looks_clsIn X hc).andThen .now
    obtain ⟨c, l, hl⟩ : ∃ c l, cd.mro = c :: l := by cases q : cd.mro with | nil => rw [q] at e4; cases e4 | cons c l => exact ⟨c, l, rfl⟩
    have made : Looks M h (Bind.madeBy (.ref C)) (some "list.__new__") := by
      intro A Q E s k q
      unfold Bind.madeBy
      refine wpAny_bind (hm A _ E s k ?_)
      rw [hl, List.forIn_cons]
      refine wpAny_bind (wpAny_bind (wpAny_bind (wpAny_bind (wpAny_loadPart (k _ _ (X _ _ ho)) (wpAny_pure ?_)))))
      dsimp only
      rw [← Array.getElem?_toList, e3]
      exact wpAny_pure (wpAny_pure (wpAny_pure q))
    refine ⟨⟨oc, od, cd, sl, X _ _ ho, e1, e2, e4⟩, made, ?_, looks_mroIn X ?_, looks_mroIn X ?_, looks_specialIn X e7, looks_instIn X e8⟩
    · intro A Q E s k q
      unfold Bind.staticBase
      refine wpAny_bind (hm A _ E s k ?_)
      rw [hl, List.forIn_cons]
      exact wpAny_bind (wpAny_bind (wpAny_bind (made A _ E s k (wpAny_pure (wpAny_pure (wpAny_pure q))))))
    · unfold mroIn; rw [hc, Option.bind_some, if_neg (by rw [e4]; decide), e5]
    · unfold mroIn; rw [hc, Option.bind_some, if_neg (by rw [e4]; decide), e6]
  · cases e
theorem ln_kind : builtinKind "list.__new__" = some .builtinFn := by decide +kernel
theorem ln_split : splitId "list.__new__" = some ("list", "__new__") := by decide +kernel
section
variable {prog : Program} {w : World} {A : Around} {K : Frag} {C : Addr} {R : Result → Shared → Prop} {h : Heap} {g : Array GenState} {d : Drawn} {t : Nat} {os : OsState}
theorem new_pile (Y : MakesL (model prog w) h C)
    (hq : R (.ok (.ret (.ref (h.objs.size + 1)))) ⟨(h.push emptyDict).push (pileO C h.objs.size [] 0), g, d, t, os⟩) :
    codeAny (model prog w) A (.call (.builtin "list.__new__") ⟨[.ref C], []⟩) R ⟨h, g, d, t, os⟩ := by
  obtain ⟨⟨oc, od, cd, sl, hC, e1, e2, e4⟩, made, base, self, top, call, typ⟩ := Y
  refine codeAny_call_builtin_code (plainId_quiet PySem.F.plain_list_new _) ?_
  have hk := ln_kind
  have hs := ln_split
  have isT : ∀ {A' : Around} {Q : Bool → Shared → Prop} {E : Value → Shared → Prop}, Q true ⟨h, g, d, t, os⟩ → wpAny (model prog w) A' (isType (.ref C)) Q E ⟨h, g, d, t, os⟩ := fun q => ks_wpAny_isType_cls hC rfl q
  simp only [checkBuiltinCall, hk, hs]
  repeat (first | (with_reducible refine isT ?_) | simp only [bne_self_eq_false, Bool.false_eq_true, if_false] | lk)
  refine codeAny_builtin_stack PySem.F.entry_list_new rfl fun p st => ?_
  have hown := owner_list_new
  simp only [hown]
  have fin : ∀ A', wpAny (model prog w) A' (do
      let .ref d ← newDict | unsupported "internal:list.__new__"
      ret (← newObj (.ref C) (.seq #[]) (some d))) (fun fin s' => match fin with | .done f => R (.ok f) s' | .again c' => c'.quiet = true ∧ codeAny (model prog w) A c' R s') (fun e s' => R (.error e) s') ⟨h, g, d, t, os⟩ := by
    intro A'
    refine wpAny_bind (wpAny_newObj_type ?_ (by size_fits))
    dsimp only
    refine wpAny_bind ?_
    show wpAny _ _ (newObjAsIs _ _ _) _ _ _
    unfold newObjAsIs classHasDel
    refine wpAny_bind (wpAny_alloc (wpAny_bind (wpAny_bind (wpAny_load (Heap.get?_push_of_some _ (Heap.get?_push_of_some _ hC)) (wpAny_pure ?_)))))
    rw [e2]
    refine wpAny_pure (wpAny_pure ?_)
    show R _ _
    rw [Heap.size_push]
    exact hq
  repeat (first | exact fin _ | (with_reducible refine isT ?_) | simp only [bne_self_eq_false, Bool.false_eq_true, if_false] | lk)

theorem make_coreL {init : Value} (Y : MakesL (model prog w) h C) (hi : Looks (model prog w) h (typeLookup (.ref C) "__init__") (some init))
    (hb : ∀ self, Looks (model prog w) h (bindSpecial init self) (init, [self]))
    (hq : codeAny (model prog w) (A.under (.builtin "type.__call__" ⟨[.ref C], []⟩)) (.call init ⟨[.ref (h.objs.size + 1)], []⟩) (InitBack (h.objs.size + 1) R) ⟨(h.push emptyDict).push (pileO C h.objs.size [] 0), g, d, t, os⟩) :
    codeAny (model prog w) A (.call (.ref C) ⟨[], []⟩) R ⟨h, g, d, t, os⟩ := by
  have Y' := Y
  obtain ⟨⟨oc, od, cd, sl, hC, e1, e2, e4⟩, made, base, self, top, call, typ⟩ := Y
  refine codeAny_of_tree ?_
  show wpAny _ _ (callAny (.ref C) _) _ _ _
  refine nd_load hC ?_
  show wpAny _ _ (callAny.viaDunder (.ref C) _) _ _ _
  unfold callAny.viaDunder
  refine wpAny_bind (call.at ?_)
  dsimp only
  rw [tc_bind]
  refine wpAny_bind (wpAny_pure (wpAny_bind (wpAny_pure ?_)))
  refine wpAny_pure (a := Fin.again (.call (.builtin "type.__call__") ⟨[.ref C], []⟩)) (And.intro rfl ?_)
  refine codeAny_call_builtin_at (Code.quiet_builtin _ (by decide +kernel)) entry_typeCall (check_slot tc_kind tc_split typ (tc_args _ _ _) ?_)
  unfold Builtin.«type.__call__»
  have hm : Looks (model prog w) h (mroOf (.ref C)) cd.mro := ((Looks.ld (part := none) hC).andThen .now).andThen .now
  repeat (first | simp only [e4, Bool.false_eq_true, if_false] | with_reducible refine wpAny_call ?_ | lk)
  refine new_pile Y' ?_
  have k : ∀ b o, h.get? b = some o → ((h.push emptyDict).push (pileO C h.objs.size [] 0)).get? b = some o := fun b o e => Heap.get?_push_of_some _ (Heap.get?_push_of_some _ e)
  have hx : ((h.push emptyDict).push (pileO C h.objs.size [] 0)).get? (h.objs.size + 1) = some (pileO C h.objs.size [] 0) := by heap_get
  have t1 : Looks (model prog w) ((h.push emptyDict).push (pileO C h.objs.size [] 0)) (typeOf (.ref (h.objs.size + 1))) (.ref C) := (Looks.ld hx).andThen .now
  have s1 := self.keeps k
  have i1 := hi.keeps k
  have b1 := (hb (.ref (h.objs.size + 1))).keeps k
  unfold isInstance callSpecial? specialOf
  repeat (first | with_reducible refine wpAny_call ?_ | lk)
  refine codeAny_mono hq fun r s' z => ?_
  rcases r with e | (v | _ | _ | _) <;> first | exact z | exact z.elim | skip
  obtain ⟨rfl, z⟩ := z
  exact wpAny_pure (wpAny_pure z)
end
section
variable {prog : Program} {w : World} {A : Around} {E : Value → Shared → Prop} {K : Frag} {C x : Addr} {s : Shared} {h₀ : Heap} {L : Addr} {m : Str → Option Value} {news : List (Addr × Obj)} {Q : Value → Shared → Prop}
theorem call_pile {fI : Addr} (F : Fr h₀ L s.heap m) (X₀ : K.In h₀) (N : News h₀ L s.heap news) (hm : makesL K C = true)
    (hi : findIn K (.ref C) "__init__" = some (some (.ref fI))) (hf : isFn K (.ref fI) = true)
    (h : ∀ x dx h', Fr h₀ L h' m → News h₀ L h' ((x, pileO C dx [] 0) :: (dx, dictOf [] 0) :: news) → (∀ p ∈ news, p.1 < dx) → dx < x →
      codeAny (model prog w) (A.under (.builtin "type.__call__" ⟨[.ref C], []⟩)) (.call (.ref fI) ⟨[.ref x], []⟩) (InitBack x fun r s' => match r with | .ok (.ret v) => Q v s' | .ok _ => False | .error e => E e s') { s with heap := h' }) :
    wpAny (model prog w) A (call (.ref C) [] []) Q E s := by
  have X := X₀.keeps F.keep
  obtain ⟨hh, g, d, t, os⟩ := s
  refine wpAny_call (make_coreL (makesL_of X hm) (looks_findIn X hi) (fun self => bind_fn X self (beq_iff_eq.mp hf)) (h _ hh.objs.size _ ((F.push _).push _) ?_ (fun p hp => Heap.lt_size (N p hp).1) (Nat.lt_succ_self _)))
  have := (N.push F emptyDict).push (F.push _) (pileO C hh.objs.size [] 0)
  rwa [Heap.size_push] at this
end
end Mine
end
noncomputable section
open PySem PySem.W PySem.Calls PyProof.Rows Mine Builtin Builtin.ObjectAttr Builtin.Getset_descriptor
set_option Elab.async false
set_option maxRecDepth 100000
set_option maxHeartbeats 4000000
namespace Mine
theorem refuse_list (self : Value) : refuseLoop self "__setattr__" [.type "list", .type "object"] = pure () := by kernel_rfl
section
variable {prog : Program} {w : World} {A : Around} {E : Value → Shared → Prop} {K : Frag} {C x : Addr} {s : Shared} {h₀ : Heap} {L : Addr} {m : Str → Option Value} {news : List (Addr × Obj)} {R : Result → Shared → Prop}
theorem osa_pile {dx : Addr} {its : List Value} {n : Nat} {name : Str} {tk : Tok} {v : Value} {cd : ClassData} (F : Fr h₀ L s.heap m) (N : News h₀ L s.heap news) (X : K.In s.heap) (hm : (x, pileO C dx its n) ∈ news) (hdm : (dx, dictOf [] 0) ∈ news)
    (hc : clsIn K C = some cd) (hmr : cd.mro = [.ref C, .type "list", .type "object"]) (hh : cd.hasDict = true) (ht : findIn K (.ref C) name = some none)
    (h : ∀ h' tk', Fr h₀ L h' m → News h₀ L h' (setAt dx (dictOf [⟨PyData.keyHash w.params name, .str name tk', v⟩] 1) news) → R (.ok (.ret .none)) { s with heap := h', toks := s.toks + 1 }) :
    codeAny (model prog w) A (.call (.builtin "object.__setattr__") ⟨[.ref x, .str name tk, v], []⟩) R s := by
  have SF := PySem.F.store_object
  have I := pileInst N hm hdm
  have sub : Looks (model prog w) s.heap (isInstance (.ref x) (.type "object")) true := I.type.andThen (looks_mroIn X (by unfold mroIn; rw [hc, Option.bind_some, hmr]; rfl))
  refine codeAny_call_builtin SF.slot.plain SF.entry (@check_slot (model prog w) _ _ s "object.__setattr__" "object" "__setattr__" (.ref x) [.str name tk, v] [] _ SF.kind SF.split sub (SF.args (.ref x) (.str name tk) v) ?_)
  have hml : Looks (model prog w) s.heap (mroOf (.ref C)) cd.mro := (looks_clsIn X hc).andThen .now
  rw [osa_eq, refuse_eq]
  refine wpAny_bind (wpAny_bind (I.type.here (wpAny_bind (hml.here ?_))))
  rw [hmr, refuseLoop_ref, refuse_list]
  refine wpAny_pure (wpAny_bind (I.type.here (wpAny_bind ((looks_findIn X ht).here (wpAny_bind (wpAny_pure ?_))))))
  have D := (N _ hdm).1
  refine wpAny_bind (wpAny_pure (wpAny_bind (wpAny_bind (wpAny_loadPart I.at_ (wpAny_bind ((looks_clsIn X hc).here ?_))))))
  rw [hh]
  refine wpAny_pure (a := some dx) (wpAny_bind (wpAny_pure (wpAny_bind ?_)))
  unfold nsSet
  refine wpAny_bind (wpAny_bind (wpAny_askSetting (wpAny_pure (wpAny_bind (wpAny_mkText (wpAny_bind (wpAny_loadPart D ?_)))))))
  dsimp only
  have hp : Obj.putName name (PyData.keyHash w.params name) (.str name s.toks) v (dictOf [] 0) = dictOf [⟨PyData.keyHash w.params name, .str name s.toks, v⟩] 1 := by rw [putName_dict]; rfl
  rw [aRefKeyMayBeTheName_at]
  rw [if_neg (by simp)]
  refine wpAny_updatePart D ?_
  have hs : Heap.SameBut dx s.heap (s.heap.update dx (Obj.putName name (PyData.keyHash w.params name) (.str name s.toks) v)) := Heap.SameBut.update ..
  have D' : (s.heap.update dx (Obj.putName name (PyData.keyHash w.params name) (.str name s.toks) v)).get? dx = some (dictOf [⟨PyData.keyHash w.params name, .str name s.toks, v⟩] 1) := by
    rw [Heap.get?_update_self _ D (by dsimp only; rw [hp]; rfl)]
    dsimp only
    rw [hp]
  refine wpAny_bind (wpAny_lookBehind D' (pastItsLine_dict (by rw [List.size_toArray, sizeLine_eq]; simp)) ?_)
  exact wpAny_pure (h _ _ (F.change hs (N _ hdm).2.1 (N _ hdm).2.2) (news_setAt N hdm hs D'))
theorem set_pile {dx : Addr} {its : List Value} {n : Nat} {name : Str} {v : Value} {cd : ClassData} {Q : Unit → Shared → Prop} (F : Fr h₀ L s.heap m) (X₀ : K.In h₀) (N : News h₀ L s.heap news) (hm : (x, pileO C dx its n) ∈ news) (hdm : (dx, dictOf [] 0) ∈ news)
    (hs : findIn K (.ref C) "__setattr__" = some (some (.builtin "object.__setattr__"))) (hc : clsIn K C = some cd) (hmr : cd.mro = [.ref C, .type "list", .type "object"]) (hh : cd.hasDict = true) (ht : findIn K (.ref C) name = some none)
    (h : ∀ h' tk', Fr h₀ L h' m → News h₀ L h' (setAt dx (dictOf [⟨PyData.keyHash w.params name, .str name tk', v⟩] 1) news) → Q () { s with heap := h', toks := s.toks + 2 }) :
    wpAny (model prog w) A (setAttr (.ref x) name v) Q E s :=
  set_plain (X₀.keeps F.keep) (pileInst N hm hdm) hs (osa_pile (s := { s with toks := s.toks + 1 }) F N (X₀.keeps F.keep) hm hdm hc hmr hh ht fun h' tk' F' N' => h h' tk' F' N')
theorem bi_init {dx : Addr} {its : List Value} {n : Nat} {Q : Value → Shared → Prop} (F : Fr h₀ L s.heap m) (N : News h₀ L s.heap news) (hm : (x, pileO C dx its n) ∈ news) (hz : its.length ≤ sizeLine)
    (h : ∀ h' n', Fr h₀ L h' m → News h₀ L h' (setAt x (pileO C dx [] n') news) → Q .none { s with heap := h' }) :
    wpAny (model prog w) A (Builtin.«list.__init__» ⟨[.ref x], []⟩) (fun fin s' => ∃ v, fin = .done (.ret v) ∧ Q v s') E s := by
  have z := N _ hm
  unfold Builtin.«list.__init__»
  simp only [List.isEmpty_nil, Bool.not_true, Bool.false_eq_true, if_false, List.length_nil, Nat.not_lt_zero, gt_iff_lt]
  unfold Builtin.List.listItems
  refine wpAny_bind (wpAny_bind (wpAny_seqItems z.1 rfl (wpAny_pure ?_)))
  show wpAny _ _ (updateSeq x _ >>= _) _ _ _
  refine wpAny_bind (wpAny_updateSeq z.1 rfl (wpAny_bind (wpAny_letGo (wpAny_pure ⟨.none, rfl, h _ (if (#[] : Array Value).size == its.toArray.size then n else n + 1) (F.change (Heap.SameBut.update ..) z.2.1 z.2.2) (news_setAt N hm (Heap.SameBut.update ..) ?_)⟩))) (by simpa using hz) (by simp))
  rw [Heap.get?_update_self _ z.1 (by simp [Obj.mapSeq, Obj.isFreed])]
  show some (Obj.mapSeq _ _) = _
  unfold Obj.mapSeq
  rfl
theorem call_init {q dx : Addr} {its : List Value} {n : Nat} {Q : Value → Shared → Prop} (F : Fr h₀ L s.heap m) (N : News h₀ L s.heap news) (hq : (q, boundO "method-wrapper" "list.__init__" x) ∈ news) (hm : (x, pileO C dx its n) ∈ news) (hf : its.length ≤ sizeLine)
    (h : ∀ h' n', Fr h₀ L h' m → News h₀ L h' (setAt x (pileO C dx [] n') news) → Q .none { s with heap := h' }) : wpAny (model prog w) A (call (.ref q) []) Q E s :=
  call_bound N hq (by decide) (by decide) (fun hq => wpAny_of_eq (bound_init _) hq) (by decide +kernel) entry_init (bi_init F N hm hf h)

theorem news_dict2 {h : Heap} {dx : Addr} {o od ox : Obj} (N : News h₀ L h (setAt dx o ((x, ox) :: (dx, od) :: news))) (hl : ∀ p ∈ news, p.1 < dx) (hx : dx < x) : News h₀ L h ((x, ox) :: (dx, o) :: news) := by
  intro p hp
  rcases List.mem_cons.mp hp with e | hp
  · subst e; exact N _ (setAt_mem (List.Mem.head _) (Nat.ne_of_gt hx))
  · rcases List.mem_cons.mp hp with e | hp
    · subst e; exact N _ (setAt_self (o' := od) (List.Mem.tail _ (List.Mem.head _)))
    · exact N _ (setAt_mem (List.Mem.tail _ (List.Mem.tail _ hp)) (Nat.ne_of_lt (hl p hp)))
theorem news_make {h : Heap} {dx : Addr} {o od ox : Obj} {q1 q2 : Addr × Obj} (N : News h₀ L h (setAt x o (q1 :: q2 :: (x, ox) :: (dx, od) :: news))) (hl : ∀ p ∈ news, p.1 < dx) (hx : dx < x) : News h₀ L h ((x, o) :: (dx, od) :: news) := by
  intro p hp
  rcases List.mem_cons.mp hp with e | hp
  · subst e; exact N _ (setAt_self (o' := ox) (List.Mem.tail _ (List.Mem.tail _ (List.Mem.head _))))
  · rcases List.mem_cons.mp hp with e | hp
    · subst e; exact N _ (setAt_mem (List.Mem.tail _ (List.Mem.tail _ (List.Mem.tail _ (List.Mem.head _)))) (Nat.ne_of_lt hx))
    · exact N _ (setAt_mem (List.Mem.tail _ (List.Mem.tail _ (List.Mem.tail _ (List.Mem.tail _ hp)))) (Nat.ne_of_lt (Nat.lt_trans (hl p hp) hx)))
end
end Mine
end
noncomputable section
open PySem PySem.W PySem.Calls PyProof.Rows Mine
set_option Elab.async false
set_option maxRecDepth 100000
set_option maxHeartbeats 4000000
namespace Mine
/-- a sequence's items, whatever its class -/
def SeqAt (h : Heap) (l : Addr) (items : Array Value) : Prop := ∃ o n, h.get? l = some o ∧ o.data = .seq items n
theorem SeqAt.at {h h' : Heap} {l : Addr} {items : Array Value} (x : SeqAt h l items) (e : ∀ o, h.get? l = some o → h'.get? l = some o) : SeqAt h' l items :=
  let ⟨o, n, a, b⟩ := x; ⟨o, n, e o a, b⟩
section
variable {prog : Program} {w : World} {A : Around} {E : Value → Shared → Prop} {s : Shared} {K : Frag} {x C : Addr} {ox : Obj} {od : Option Obj}

theorem next_item {it l : Addr} {i : Nat} {items : Array Value} {v : Value} {Q : Option Value → Shared → Prop} (hit : s.heap.IsListIter it l i) (hl : SeqAt s.heap l items) (hx : items[i]? = some v)
    (hQ : ∀ h', h'.IsListIter it l (i + 1) → Heap.SameBut it s.heap h' → Q (some v) { s with heap := h' }) : wpAny (model prog w) A (pyNext (.ref it)) Q E s := by
  obtain ⟨o, ho, hc, hd⟩ := id hit
  obtain ⟨ol, nl, hol, hdl⟩ := hl
  unfold pyNext
  refine wpAny_bind (wpAny_attempt (wpAny_callSpecial?_slot (name := Str.ofString "__next__") hit.typeIs slot_listiter_next (wpAny_call_entry slot_listiter_next hit.typeIs entry_listiter_next ?_ (args_listiter_next _))))
  show wpAny _ _ (field (.ref it) 0 >>= _) _ _ s
  refine wpAny_bind (wpAny_field ho hd (x := .ref l) rfl ?_)
  rw [if_neg (show ¬ ((Value.ref l == Value.none) = true) from Bool.false_ne_true)]
  refine wpAny_bind (wpAny_field ho hd (x := .int i 0) rfl ?_)
  refine wpAny_bind (wpAny_seqItems hol hdl ?_)
  simp only [Int.toNat_natCast, hx]
  refine wpAny_bind (wpAny_setField ho hd (by simp) (wpAny_pure ⟨v, rfl, wpAny_pure (hQ _ ⟨_, Heap.get?_update_self _ ho (Obj.isFreed_of_fields (Obj.data_mapFields hd _)), (Obj.cls_mapFields ..).trans hc, ?_⟩ (Heap.SameBut.update ..))⟩))
  rw [Obj.data_mapFields hd]; simp [rawInt]

theorem next_end {it l : Addr} {i : Nat} {items : Array Value} {Q : Option Value → Shared → Prop} (hh : A.handled = none) (hit : s.heap.IsListIter it l i) (hl : SeqAt s.heap l items) (hx : items[i]? = none)
    (hQ : ∀ h', Heap.ExtBut it s.heap h' → Q none { s with heap := h' }) : wpAny (model prog w) A (pyNext (.ref it)) Q E s := by
  obtain ⟨o, ho, hc, hd⟩ := id hit
  obtain ⟨ol, nl, hol, hdl⟩ := hl
  unfold pyNext
  refine wpAny_bind (wpAny_attempt (wpAny_callSpecial?_slot (name := Str.ofString "__next__") hit.typeIs slot_listiter_next (wpAny_call_entry slot_listiter_next hit.typeIs entry_listiter_next ?_ (args_listiter_next _))))
  show wpAny _ _ (field (.ref it) 0 >>= _) _ _ s
  refine wpAny_bind (wpAny_field ho hd (x := .ref l) rfl ?_)
  rw [if_neg (show ¬ ((Value.ref l == Value.none) = true) from Bool.false_ne_true)]
  refine wpAny_bind (wpAny_field ho hd (x := .int i 0) rfl ?_)
  refine wpAny_bind (wpAny_seqItems hol hdl ?_)
  simp only [Int.toNat_natCast, hx]
  refine wpAny_bind (wpAny_rule (wpAny_bind (wpAny_setField ho hd (by simp) ?_)))
  show wpAny _ _ (newExc (.type "StopIteration") [] >>= _) _ _ _
  refine wpAny_bind ?_
  simp only [newExc, newTuple]
  refine wpAny_bind (wpAny_newObj_type ?_ (by size_fits))
  refine wpAny_bind (m := firstArgMember _ _) (wpAny_of_eq (a := Value.none) (by first | rfl | (simp only [firstArgMember]; rfl)) ?_)
  refine wpAny_newObj_type ?_ (by size_fits)
  simp only [raiseNew]
  refine wpAny_bind (wpAny_handled ?_)
  rw [show A.in1.handled = none from hh]
  refine wpAny_bind (wpAny_pure (wpAny_throw ?_))
  refine wpAny_bind (wpAny_isInstance (T := "StopIteration") (b := true) ⟨_, Heap.get?_push_size _ rfl, rfl⟩ isSubtype_stop ?_)
  exact wpAny_pure (hQ _ (((Heap.SameBut.update ..).extBut.push _).push _))

theorem walks_pile (hh : A.handled = none) (I ax : Addr) (hne : ax ≠ I) (items : Array Value) (Ts : Nat → Addr) (vals : Nat → Array Value)
    (hit : ∀ j, j < items.size → items[j]? = some (.ref (Ts j))) (hTI : ∀ j, j < items.size → Ts j ≠ I) :
    WalksU prog w A I (I :: ax :: (List.range items.size).map Ts) [I] items.size (fun j v => v = vals j)
      (fun j h => h.IsListIter I ax j ∧ SeqAt h ax items ∧ ∀ k, k < items.size → h.IsTuple (Ts k) (vals k))
      (fun j T h => (j < items.size ∧ T = Ts j) ∧ h.IsListIter I ax (j + 1) ∧ SeqAt h ax items ∧ ∀ k, k < items.size → h.IsTuple (Ts k) (vals k)) where
  sub := fun b hb => by simp at hb; simp [hb]
  frame := fun _ _ _ st hk => ⟨st.1.at fun o e => hk I (by simp) o e, st.2.1.at fun o e => hk ax (by simp) o e,
    fun k hk' => (st.2.2 k hk').at fun o e => hk (Ts k) (List.mem_cons_of_mem _ (List.mem_cons_of_mem _ (List.mem_map.mpr ⟨k, List.mem_range.mpr hk', rfl⟩))) o e⟩
  item := fun i s Q E hi st hQ => by
    refine next_item st.1 st.2.1 (v := .ref (Ts i)) (hit i hi) fun h' hit' hs' => ?_
    have tup : ∀ k, k < items.size → h'.IsTuple (Ts k) (vals k) := fun k hk' => (st.2.2 k hk').extBut hs'.extBut (hTI k hk')
    exact hQ (Ts i) (vals i) h' s.toks rfl (tup i hi) ⟨⟨hi, rfl⟩, hit', st.2.1.at fun o e => hs'.extBut _ _ hne e, tup⟩ fun b o hb e => hs'.extBut b o (fun h => hb (by simp [h])) e
  go := fun _ _ _ _ _ s Q _ hm hQ => wpAny_letOwnedTupleGo_listiter hm.2.1 (hQ s.heap hm.2 fun _ _ _ e => e)
  apart := fun j T _ hm hmem => by
    rcases List.mem_cons.mp hmem with e | e
    · exact hTI j hm.1.1 (hm.1.2 ▸ e)
    · cases e
  done := fun s Q E st hQ => next_end hh st.1 st.2.1 (by simp) fun h' he' => hQ h' s.toks fun b o hb e => he' b o (fun h => hb (by simp [h])) e
  self := fun _ _ _ _ st hQ => wpAny_pyIter_listiter st.1 hQ

theorem pile_iter {Q : Value → Shared → Prop} (X : K.In s.heap) (I : InstAt s.heap x ox C od) (hl : mroIn K C (.type "list") = some true) (hf : findIn K (.ref C) "__iter__" = some (some (.builtin "list.__iter__")))
    (hQ : Q (.ref s.heap.objs.size) { s with heap := s.heap.push { cls := .type "list_iterator", data := .fields #[.ref x, .int 0 0] } }) : wpAny (model prog w) A (pyIter (.ref x)) Q E s := by
  have sp : ∀ {A' : Around} {Q' : Option Value → Shared → Prop} {E' : Value → Shared → Prop}, Q' (some (.builtin "list.__iter__")) s → wpAny (model prog w) A' (specialOf (.ref x) "__iter__") Q' E' s :=
    fun q => wpAny_bind (I.type.here ((looks_findIn X hf).here q))
  have hb := slot_list_iter.bind (.ref x)
  unfold pyIter
  refine wpAny_bind (sp ?_)
  dsimp only
  have hc : wpAny (model prog w) A (call (.builtin "list.__iter__") [.ref x]) (fun v s' => v = .ref s.heap.objs.size ∧ s' = { s with heap := s.heap.push { cls := .type "list_iterator", data := .fields #[.ref x, .int 0 0] } }) E s := by
    refine call_sub (owner := "list") (n := "__iter__") (by decide +kernel) (by first | exact .inl (by decide +kernel) | exact .inr (by decide +kernel)) (by decide +kernel) entry_list_iter (looks_inst X I hl) (args_list_iter _) ?_
    show wpAny _ _ (do ret (← newFields "list_iterator" [.ref x, rawInt 0])) _ _ s
    exact wpAny_bind (wpAny_newObj_type (wpAny_pure ⟨_, rfl, rfl, rfl⟩))
  refine wpAny_bind (Q := Q) ?_
  simp only [callSpecialIfBoundUnlessNone?, bindSpecialIfBound?]
  refine wpAny_holding (wpAny_bind (wpAny_bind (sp ?_)))
  dsimp only
  simp only [hb]
  have fin : wpAny (model prog w) A (call (.builtin "list.__iter__") [.ref x] >>= fun v => pure (some v)) (fun a s' => wpAny (model prog w) A (match a with
    | some it => do
      match ← specialOf it "__next__" with
      | none => rule "iter.non-iterator"; raiseError "TypeError" s!"iter() returned non-iterator of type '{← typeNameOf it}'"
      | some _ => pure it
    | none => do
      match ← bindSpecialIfBound? (.ref x) "__getitem__" with
      | none => rule "iter.not-iterable"; raiseError "TypeError" s!"'{← typeNameOf (.ref x)}' object is not iterable"
      | some _ => rule "iter.getitem-fallback"; newFields "iterator" [.ref x, ← mkInt 0]) Q E s') E s := by
    refine wpAny_bind (wpAny_mono hc (fun v s' hv => wpAny_pure ?_) fun _ _ z => z)
    obtain ⟨rfl, rfl⟩ := hv
    exact wpAny_bind (wpAny_specialOf (T := "list_iterator") ⟨_, Heap.get?_push_size _ rfl, rfl⟩ slot_listiter_next.lookup (wpAny_pure hQ))
  refine wpAny_bind (wpAny_askSetting (wpAny_ite ?_))
  split
  · exact wpAny_bind (wpAny_pure (wpAny_pure fin))
  · exact wpAny_tryCatch (wpAny_bind (wpAny_pure (wpAny_pure fin)))
end
end Mine
end
noncomputable section
open PySem PySem.W PySem.Calls PyProof.Rows Mine
set_option Elab.async false
set_option maxRecDepth 100000
set_option maxHeartbeats 4000000
namespace Mine
section
variable {prog : Program} {w : World} {A : Around} {E : Value → Shared → Prop} {s : Shared}
theorem elt_join {env : Env} {pe pa pc p1 p2 pt : Pos} {m mg : Str → Option Value} {te tf tq : Tok} {f q : Str} {Q : Value → Shared → Prop} (hk : env.scope.kind = .function) (he : env.kindOf "EMPTYSTRING" = some .globalImplicit)
    (hf : env.kindOf "fws" = some .local) (hp : env.kindOf "part" = some .local) (hg : s.heap.Ns env.globals mg) (hgv : mg "EMPTYSTRING" = some (.str "" te)) (hn : s.heap.Ns env.locals m) (hfv : m "fws" = some (.str f tf)) (hpv : m "part" = some (.str q tq))
    (hz : f.length + q.length ≤ 100000) (hline : (pa.endLine == pc.line) = true)
    (h : ∀ h' tk t, (∀ b o, s.heap.get? b = some o → h'.get? b = some o) → Q (.str (Txt.join "" [f, q]) t) { s with heap := h', toks := tk }) :
    wpAny (model prog w) A (eval (.Call (.Attribute (.Name "EMPTYSTRING" pe) "join" pa) [.Tuple [.Name "fws" p1, .Name "part" p2] 0 pt] [] pc) env) Q E s := by
  refine Call_method1 rfl rfl hline ?_
  refine Name_function_global hk he (loadGlobal_global hg hgv ?_)
  refine ⟨"str", "str.join", PySem.F.plainAttrs_str, PySem.F.slot_str_join, PySem.F.type_str_join, typeIs_str _ _ _, (fun a e => nomatch e), ?_⟩
  refine callWith_builtin rfl (evalArgs_plain ?_)
  refine spliced_cons ?_
  refine Tuple_ ?_
  refine spliced_cons (wpAny_Name (wpAny_loadName_local hk hf hn hfv ?_) (by decide))
  refine spliced_cons (wpAny_Name (wpAny_loadName_local hk hp hn hpv ?_) (by decide))
  refine spliced_nil (wpAny_newObj_type (spliced_nil ?_) (by size_fits))
  have ht : IsTup (s.heap.push { cls := .type "tuple", data := .seq #[.str f tf, .str q tq] }) s.heap.objs.size #[.str f tf, .str q tq] := ⟨_, Heap.get?_push_size _ rfl, rfl, _, rfl⟩
  refine join_tupleW ht (.cons _ _ (.cons _ _ .nil)) (by decide) (by simp; omega) fun t' k => ?_
  exact h _ _ _ fun b o e => Heap.get?_push_of_some _ e
end
end Mine
end
noncomputable section
open PySem PySem.W PySem.Calls PyProof.Rows Mine
set_option Elab.async false
set_option maxRecDepth 100000
set_option maxHeartbeats 4000000
namespace Mine
section
variable {prog : Program} {w : World} {A : Around} {E : Value → Shared → Prop} {s : Shared}

def GenW (prog : Program) (w : World) (A : Around) (N a : Addr) (n : Nat) (F : Nat → Value → Prop) (s : Shared) : Prop :=
  ∃ fp wr g St, WalksS prog w A.in4 a fp wr (GenOnlyQ g) n F St ∧ St 0 s ∧ (∀ i s', St i s' → s'.TypeIs (.ref a) "generator") ∧ a ∈ fp ∧ (∀ b ∈ fp, b < s.heap.objs.size) ∧ ∀ b ∈ wr, N ≤ b

theorem passing_all (n : Nat) : passing (fun _ => true) n 0 = List.range n := by simp [passing]

theorem gcode {env : Env} {c P : Addr} {ps : Array Value} {pos : Pos} {qualname : Str} {scope : Scope} {Q : Value → Shared → Prop} (hc : env.code = .ref c) (hok : s.heap.IsCode c P ps) (htab : s.heap.TableAt c P ps)
    (hQ : ∀ code h' tk more, Heap.ExtBut P s.heap h' → s.heap.objs.size ≤ h'.objs.size → h'.IsCode c P (ps ++ more) → h'.TableAt c P (ps ++ more) → Q code { s with heap := h', toks := tk }) :
    wpAny (model prog w) A (genexprCode env pos qualname scope) Q E s := by
  cases hnf : codeAmong pos ps.toList with
  | some cv => exact wpAny_genexprCode_hit hc hok hnf (hQ cv s.heap s.toks #[] (fun _ _ _ e => e) (Nat.le_refl _) (by simpa using hok) (by simpa using htab))
  | none => exact wpAny_genexprCodeX hc hok htab hnf fun c' h' tk hx hge hlt hcode _ htab' _ => hQ _ h' tk _ hx (Nat.le_trans hge (Nat.le_of_lt hlt)) hcode htab'

theorem gen_pile {env : Env} {elt iter : PySem.Expr} {xa xb : Str} {pa pb pt pos : Pos} {kt : Nat} {scope : Scope} {Q : Value → Shared → Prop} {K : Frag} {C x c P bm : Addr} {ox ob : Obj} {od : Option Obj} {ps : Array Value} {mg : Str → Option Value} {its : List Value} {n : Nat}
    (Ts : Nat → Addr) (va vb : Nat → Value) (F : Nat → Value → Prop) (hh : A.handled = none) (hroom : A.depth < recursionLimit)
    (hco : scope.isCoroutine = false) (hclos : closureFor scope env = pure []) (hcell : ∀ y ∈ scope.names, y.2 ≠ .cell) (h0 : scope.names.lookup (".0" : Str) = some NameKind.local)
    (hxa : scope.names.lookup xa = some .local) (hxb : scope.names.lookup xb = some .local) (hab : xa ≠ xb) (hkind : scope.kind = .function)
    (hcode : env.code = .ref c) (hok : s.heap.IsCode c P ps) (htab : s.heap.TableAt c P ps) (M : BMod s.heap env.globals mg bm ob) (hlim : s.heap.NoLimit) (G : AllBare s.gens)
    (X : K.In s.heap) (I : InstAt s.heap x ox C od) (hdt : ox.data = .seq its.toArray n) (hl : mroIn K C (.type "list") = some true) (hf : findIn K (.ref C) "__iter__" = some (some (.builtin "list.__iter__")))
    (hiter : ∀ {Q' : Value → Shared → Prop} {E' : Value → Shared → Prop}, Q' (.ref x) s → wpAny (model prog w) A (eval iter env) Q' E' s) (hs : ∀ v, genFold iter env v = pure v)
    (hit : ∀ j, j < its.length → its[j]? = some (.ref (Ts j))) (htu : ∀ j, j < its.length → s.heap.IsTuple (Ts j) #[va j, vb j])
    (helt : ∀ (C' : Addr) (code : Value) (A' : Around) (E' : Value → Shared → Prop) (i : Nat) (s₂ : Shared) (m₂ : Str → Option Value) (Q' : Value → Shared → Prop), i < its.length → A'.handled = none → s₂.heap.Ns C' m₂ → m₂ xa = some (va i) → m₂ xb = some (vb i) →
      (∀ b o, b ≠ P → s.heap.get? b = some o → s₂.heap.get? b = some o) → (∀ y h' tk, F i y → (∀ b o, s₂.heap.get? b = some o → h'.get? b = some o) → Q' y { s₂ with heap := h', toks := tk }) →
      wpAny (model prog w) A' (eval elt (genEnv scope [] C' code builtinsNs env)) Q' E' s₂)
    (h : ∀ a (s₅ : Shared) more, Heap.ExtBut P s.heap s₅.heap → s₅.heap.IsCode c P (ps ++ more) → s₅.heap.TableAt c P (ps ++ more) → AllBare s₅.gens → s₅.os = s.os → s₅.drawn = s.drawn → GenW prog w A s.heap.objs.size a its.length F s₅ → Q (.ref a) s₅) :
    wpAny (model prog w) A (eval (.GeneratorExp elt [⟨.Tuple [.Name xa pa, .Name xb pb] kt pt, iter, [], 0⟩] scope pos) env) Q E s := by
  have up : ∀ b o, s.heap.get? b = some o → (s.heap.push { cls := .type "list_iterator", data := .fields #[.ref x, .int 0 0] }).get? b = some o := fun b o e => Heap.get?_push_of_some _ e
  have hxlt : x < s.heap.objs.size := Heap.lt_size I.at_
  refine wpAny_GeneratorExp_walksQTD hh hco hclos hcell h0 hxa hxb hab hkind hroom (hiter (pile_iter X I hl hf ⟨hlim.keeps up, ?_⟩)) hs
  have hok₂ := hok.keeps up
  have htab₂ := htab.keeps up
  refine gcode (s := { s with heap := s.heap.push { cls := .type "list_iterator", data := .fields #[.ref x, .int 0 0] } }) hcode hok₂ htab₂ fun code h₃ tk₃ more hx₃ hsz₃ hcode₃ htab₃ => ?_
  have M₃ : BMod h₃ env.globals mg bm ob := (M.keeps up).extBut htab₂ hx₃
  have hPlt : P < s.heap.objs.size := Heap.lt_size htab.2
  have hcP : cStatics ≠ P := fun e => by
    obtain ⟨_, hns, _⟩ := hlim
    obtain ⟨o, es, ep, ho, hd, _⟩ := hns
    rw [e, htab.2] at ho; cases ho; cases hd
  have hl₃ : h₃.NoLimit := (hlim.keeps up).extBut hx₃ hcP
  have hIsz : s.heap.objs.size < h₃.objs.size := Nat.lt_of_lt_of_le (by rw [Heap.size_push]; exact Nat.lt_succ_self _) hsz₃
  have k₃ : ∀ b o, b ≠ P → s.heap.get? b = some o → h₃.get? b = some o := fun b o hb e => hx₃ b o hb (up b o e)
  refine wpAny_builtinsFor M₃.ns M₃.name M₃.ne M₃.obj M₃.cls M₃.dict M₃.data ?_
  have hxP : x ≠ P := fun e => by
    have a := I.at_
    have b := I.cls
    rw [e, htab.2] at a; cases a; cases b
  have hTP : ∀ j, j < its.length → Ts j ≠ P := fun j hj e => by
    obtain ⟨o, a, b, _⟩ := htu j hj
    rw [e, htab.2] at a; cases a; cases b
  have hTlt : ∀ j, j < its.length → Ts j < s.heap.objs.size := fun j hj => by obtain ⟨o, a, _⟩ := htu j hj; exact Heap.lt_size a
  have hsize : its.toArray.size = its.length := List.size_toArray
  have W : ∀ A' : Around, A'.handled = none → _ := fun A' hA => (walks_pile (prog := prog) (w := w) (A := A') hA s.heap.objs.size x (Nat.ne_of_lt hxlt) its.toArray Ts (fun j => #[va j, vb j]) (fun j hj => by rw [hsize] at hj; simpa using hit j hj) (fun j hj => Nat.ne_of_lt (hTlt j (by rwa [hsize] at hj)))).bound
  refine ⟨s.heap.objs.size, _, [s.heap.objs.size], its.toArray.size, _, _, _, (fun _ => true), F, rfl, W, ?_, ?_, ?_, hl₃, ?_, ?_, ?_⟩
  · exact fun i vals hv => ⟨va i, vb i, hv.2⟩
  · refine ⟨?_, ?_, ?_⟩
    · exact ⟨_, hx₃ _ _ (Nat.ne_of_gt hPlt) (Heap.get?_push_size _ rfl), rfl, rfl⟩
    · exact ⟨ox, n, k₃ _ _ hxP I.at_, hdt⟩
    · intro k hk
      rw [hsize] at hk
      obtain ⟨o, a, r⟩ := htu k hk
      exact ⟨o, k₃ _ _ (hTP k hk) a, r⟩
  · intro b hb
    rcases List.mem_cons.mp hb with rfl | hb
    · exact hIsz
    · rcases List.mem_cons.mp hb with rfl | hb
      · exact Nat.lt_trans hxlt hIsz
      · obtain ⟨j, hj, rfl⟩ := List.mem_map.mp hb
        exact Nat.lt_trans (hTlt j (by have := List.mem_range.mp hj; rwa [hsize] at this)) hIsz
  · intro hm
    have e : cStatics = s.heap.objs.size := by simpa using hm
    have : cStatics < s.heap.objs.size := let ⟨_, hn, _⟩ := hlim; hn.lt
    exact Nat.lt_irrefl _ (e ▸ this)
  · intro href hhref
    have kr : ∀ {s₂ : Shared}, (∀ b ∈ List.range h₃.objs.size, b ∉ [s.heap.objs.size] → ∀ o, href.get? b = some o → s₂.heap.get? b = some o) → ∀ b o, b ≠ P → s.heap.get? b = some o → s₂.heap.get? b = some o := fun hk b o hb e =>
      hk b (List.mem_range.mpr (Nat.lt_trans (Heap.lt_size e) hIsz)) (fun hm => Nat.lt_irrefl _ ((List.mem_singleton.mp hm) ▸ Heap.lt_size e)) o (hhref b o (k₃ b o hb e))
    refine ⟨fun A' E' i va' vb' s₂ m₂ hA _ _ hP hn ha hb hk => ?_, fun A' E' i va' vb' s₂ m₂ hA _ _ hP _ hn ha hb hk => ?_⟩
    · exact wpAny_pure ⟨rfl, s₂.heap, s₂.toks, rfl, fun _ _ e => e⟩
    · have e := hP.2
      injection e with e
      injection e with e1 e2
      injection e2 with e2 _
      subst e1 e2
      exact helt _ code A' E' i s₂ m₂ _ (by have := hP.1; rwa [hsize] at this) hA hn ha hb (kr hk) fun y h' tk hF hk' => ⟨hF, h', tk, rfl, hk'⟩
  · intro a h₅ tk gs hgb hag hsz₅ hk₅ W₅ hat
    have W₆ : WalksS prog w A.in4 a (a :: h₃.objs.size :: List.range h₃.objs.size) (h₃.objs.size :: [s.heap.objs.size]) (GenOnlyQ s.gens.size) its.length F (GenAt prog w A.in4 a s.gens.size h₃.objs.size (List.range h₃.objs.size) [s.heap.objs.size] (fun _ => true) its.toArray.size F) := by
      have e : (passing (fun _ => true) its.toArray.size 0).length = its.length := by rw [passing_all, List.length_range, hsize]
      rw [e] at W₅
      refine ⟨W₅.sub, W₅.grefl, W₅.gtrans, W₅.frame, fun i s' Q' E' hi st hQ => W₅.item i s' Q' E' hi st fun v s'' hP => hQ v s'' ?_, W₅.done, W₅.self⟩
      obtain ⟨k, hk, hF⟩ := hP
      rw [passing_all, List.getElem?_range (by rw [hsize]; exact hi)] at hk
      cases hk
      exact hF
    refine h a _ more (fun b o hb e => hk₅ b o (k₃ b o hb e)) (hcode₃.keeps hk₅) (htab₃.keeps hk₅) (G.push hgb) rfl rfl ⟨_, _, _, _, W₆, hat, (fun i s' st => st.1.typeIs), List.mem_cons_self, ?_, ?_⟩
    · intro b hb
      show b < h₅.objs.size
      rw [hsz₅]
      rcases List.mem_cons.mp hb with rfl | hb
      · exact Nat.lt_succ_self _
      · rcases List.mem_cons.mp hb with rfl | hb
        · exact Nat.lt_succ_of_lt hag
        · exact Nat.lt_succ_of_lt (Nat.lt_trans (List.mem_range.mp hb) hag)
    · intro b hb
      rcases List.mem_cons.mp hb with rfl | hb
      · exact Nat.le_of_lt hIsz
      · rw [List.mem_singleton.mp hb]; exact Nat.le_refl _
end
end Mine
end
noncomputable section
open PySem PySem.W PySem.Calls PyProof.Rows Mine
set_option Elab.async false
set_option maxRecDepth 100000
set_option maxHeartbeats 4000000
namespace Mine
section
variable {prog : Program} {w : World} {A : Around} {E : Value → Shared → Prop} {s : Shared}
theorem join_genW {sep : Str} {t : Tok} {a N : Addr} {n : Nat} {F : Nat → Value → Prop} {Q : Value → Shared → Prop} (X : GenW prog w A N a n F s) (G : AllBare s.gens) (tx : Nat → Str) (htx : ∀ j v, F j v → ∃ u, v = .str (tx j) u)
    (hok : JoinOk sep ((List.range n).map tx) = true) (hsz : n ≤ sizeLine)
    (hQ : ∀ s' t', (∀ b o, b < N → s.heap.get? b = some o → s'.heap.get? b = some o) → AllBare s'.gens → s'.os = s.os → s'.drawn = s.drawn → Q (.str (Txt.join sep ((List.range n).map tx)) t') s') :
    wpAny (model prog w) A (call (.builtin "str.join") [.str sep t, .ref a]) Q E s := by
  obtain ⟨fp, wr, g, St, W, hst, hT, ha, hfp, hwr⟩ := X
  have W := W.in4_2
  refine SC.joinGen W hT hst hfp ha (fun j v hv => let ⟨u, e⟩ := htx j v hv; ⟨_, u, e⟩) (fun s' lt hm hacc => ?_) hsz
  have hl : lt.map (·.1) = (List.range n).map tx := by
    apply List.ext_getElem?
    intro j
    have hsz : lt.length = n := by simpa [strValues] using hacc.1
    by_cases hj : j < n
    · have hj' : j < lt.length := hsz ▸ hj
      obtain ⟨u, hv⟩ := htx j _ (hacc.2 j (.str lt[j].1 lt[j].2) (by simp [strValues, List.getElem?_eq_getElem hj']))
      injection hv with h1 _
      simp [List.getElem?_eq_getElem hj', hj, h1]
    · rw [List.getElem?_eq_none (by simpa [hsz] using Nat.le_of_not_lt hj), List.getElem?_eq_none (by simpa using Nat.le_of_not_lt hj)]
  rw [hl]
  have k1 : ∀ b o, b < N → s.heap.get? b = some o → s'.heap.get? b = some o := fun b o hb e => hm.heap b o (fun hmem => Nat.lt_irrefl _ (Nat.lt_of_lt_of_le hb (hwr b hmem))) e
  have g1 := G.movedS hm
  exact ⟨hok, fun t' k => hQ { s' with toks := k } t' k1 g1 hm.os hm.drawn⟩
theorem shared_eta (s s' : Shared) (h1 : s'.os = s.os) (h2 : s'.drawn = s.drawn) : s' = { s with heap := s'.heap, gens := s'.gens, toks := s'.toks } := by
  obtain ⟨a, b, c, d, e⟩ := s'
  cases h1; cases h2; rfl
end
structure Pc where
  a : Addr
  f : Str
  tf : Tok
  p : Str
  tp : Tok
  deriving Inhabited
abbrev Pc.obj (c : Pc) : Obj := tupO [.str c.f c.tf, .str c.p c.tp]
def pcText (c : Pc) : Str := Txt.join "" [c.f, c.p]
def pileText (pcs : List Pc) : Str := Txt.join "" (pcs.map pcText)
theorem le_sum_of_mem {l : List Nat} {x : Nat} (h : x ∈ l) : x ≤ l.sum := by
  induction l with
  | nil => cases h
  | cons y l ih =>
    rw [List.sum_cons]
    rcases List.mem_cons.mp h with e | h
    · omega
    · have := ih h; omega
theorem range_map_getD {α β : Type} [Inhabited α] (l : List α) (f : α → β) : (List.range l.length).map (fun j => f (l.getD j default)) = l.map f := by
  apply List.ext_getElem?
  intro j
  by_cases h : j < l.length
  · simp [List.getD_eq_getElem?_getD, h]
  · rw [List.getElem?_eq_none (by simpa using Nat.le_of_not_lt h), List.getElem?_eq_none (by simpa using Nat.le_of_not_lt h)]
theorem join0_length (ts : List Str) : (Txt.join "" ts).length = (ts.map (·.length)).sum := by
  show (Builtin.Str.glued "" ts).length = _
  rw [size_glued]
  show _ + (ts.length - 1) * 0 = _
  simp
theorem pcText_length (c : Pc) : (pcText c).length = c.f.length + c.p.length := by
  unfold pcText
  rw [join0_length]
  simp
theorem pcs_weight (pcs : List Pc) : ((pcs.map pcText).map (·.length)).sum = (pcs.map fun c => c.f.length + c.p.length).sum := by
  rw [List.map_map]
  congr 1
  apply List.map_congr_left
  intro c _
  exact pcText_length c
end Mine
end
noncomputable section
open PySem PySem.W PySem.Calls PyProof.Rows Mine Builtin Builtin.Str
set_option Elab.async false
set_option maxRecDepth 100000
set_option maxHeartbeats 4000000
namespace Mine
structure Pr where
  o : Str
  t : Tok
  n : Str
  u : Tok
  deriving Inhabited
def Pr.ok (q : Pr) : Prop := 1 ≤ q.o.length ∧ q.n.length ≤ q.o.length ∧ q.o.length ≤ 100
def prVals : List Pr → List Value
  | [] => []
  | q :: r => .str q.o q.t :: .str q.n q.u :: prVals r
theorem prVals_len (l : List Pr) : (prVals l).length = 2 * l.length := by
  induction l with
  | nil => rfl
  | cons q r ih => simp only [prVals, List.length_cons, ih]; omega
def repl (x o n : Str) : Str := Txt.join n (Txt.split x o)
def replAll (x : Str) : List Pr → Str
  | [] => x
  | q :: r => replAll (repl x q.o q.n) r
theorem split_glued (x o : Str) : glued o (Txt.split x o) = x := by
  unfold Txt.split
  split
  · exact (StrLaws.glued_eq_join o [x]).trans rfl
  · split
    · exact (StrLaws.glued_eq_join o [x]).trans rfl
    · exact StrLaws.glued_between_self x o (x.length + 1)
theorem split_len (x o : Str) : ((Txt.split x o).map (·.length)).sum + ((Txt.split x o).length - 1) * o.length = x.length := by
  have e := size_glued o (Txt.split x o)
  rw [split_glued] at e
  exact e.symm
theorem split_count (x o : Str) (h : 1 ≤ o.length) : (Txt.split x o).length ≤ x.length + 1 := by
  have e := split_len x o
  have : (Txt.split x o).length - 1 ≤ ((Txt.split x o).length - 1) * o.length := Nat.le_mul_of_pos_right _ h
  omega
theorem repl_len (x o n : Str) (h : n.length ≤ o.length) : (repl x o n).length ≤ x.length := by
  have e := split_len x o
  have e2 := size_glued n (Txt.split x o)
  have e3 : (repl x o n).length = (glued n (Txt.split x o)).length := rfl
  have : ((Txt.split x o).length - 1) * n.length ≤ ((Txt.split x o).length - 1) * o.length := Nat.mul_le_mul_left _ h
  omega
theorem replAll_len (prs : List Pr) : ∀ x : Str, (∀ q ∈ prs, q.ok) → (replAll x prs).length ≤ x.length := by
  induction prs with
  | nil => intro x _; exact Nat.le_refl _
  | cons q r ih =>
    intro x h
    refine Nat.le_trans (ih _ fun q' hq => h q' (List.mem_cons_of_mem _ hq)) (repl_len _ _ _ (h q List.mem_cons_self).2.1)
theorem split_weight (x o n : Str) (h : 1 ≤ o.length) (hx : x.length ≤ 1000) (hn : n.length ≤ 100) : ((Txt.split x o).map (·.length)).sum + (Txt.split x o).length * n.length ≤ 16777216 := by
  have e := split_len x o
  have c := split_count x o h
  have : (Txt.split x o).length * n.length ≤ 1001 * 100 := Nat.mul_le_mul (by omega) hn
  omega
section
variable {prog : Program} {w : World} {A : Around} {E : Value → Shared → Prop} {s : Shared} {h₀ : Heap} {L : Addr} {m : Str → Option Value} {news : List (Addr × Obj)} {Q : Value → Shared → Prop}
theorem split_K {x y : Str} {t u : Tok} (hF : Fr h₀ L s.heap m) (hN : News h₀ L s.heap news) (hy : 1 ≤ y.length) (hx : x.length ≤ 1000)
    (h : ∀ D l h' k, l.map (·.1) = Txt.split x y → Fr h₀ L h' m → News h₀ L h' ((D, lstO (strValues l) 0) :: news) → (∀ p ∈ news, p.1 < D) → Q (.ref D) { s with heap := h', toks := k }) :
    wpAny (model prog w) A (call (.builtin "str.split") [.str x t, .str y u]) Q E s :=
  splitN1 hF hN (by simp; omega) (fun l h' k e F N => h _ l h' k e F N fun p hp => Heap.lt_size (hN p hp).1) (by rw [sizeLine_eq]; omega)
theorem join_K {D : Addr} {x y n : Str} {t : Tok} {l : List (Str × Tok)} (hN : News h₀ L s.heap news) (hm : (D, lstO (strValues l) 0) ∈ news) (e : l.map (·.1) = Txt.split x y) (hy : 1 ≤ y.length) (hx : x.length ≤ 1000) (hn : n.length ≤ 100)
    (h : ∀ t' k, Q (.str (repl x y n) t') { s with toks := k }) : wpAny (model prog w) A (call (.builtin "str.join") [.str n t, .ref D]) Q E s := by
  refine join_list (News.isList hN hm) (ys := Txt.split x y) ?_ (split_weight x y n hy hx hn) h
  rw [← e]
  exact strsAre_of_values l
end
section
variable {prog : Program} {w : World} {A : Around} {E : Value → Shared → Prop} {s : Shared} {h₀ : Heap} {L : Addr} {m : Str → Option Value} {news : List (Addr × Obj)} {Q : Value → Shared → Prop}
theorem tup_item0 {value slice : PySem.Expr} {tp : Addr} {v0 v1 : Value} {r : List Value} {u : Tok} (N : News h₀ L s.heap news) (hm : (tp, tupO (v0 :: v1 :: r)) ∈ news) (h : Q v0 s)
    (hs : subscripted slice false (.ref tp) (.int 0 u) = operate [.ref tp, .int 0 u] (getItem (.ref tp) (.int 0 u))) : wpAny (model prog w) A (subscriptTail value slice (.ref tp) (.int 0 u)) Q E s :=
  item_tupleT (l := v0 :: v1 :: r) (j := 0) (News.isTup N hm) (by decide) (by decide) (by simp [seqIndex?]; omega) rfl h hs
theorem tup_item1 {value slice : PySem.Expr} {tp : Addr} {v0 v1 : Value} {r : List Value} {u : Tok} (N : News h₀ L s.heap news) (hm : (tp, tupO (v0 :: v1 :: r)) ∈ news) (h : Q v1 s)
    (hs : subscripted slice false (.ref tp) (.int 1 u) = operate [.ref tp, .int 1 u] (getItem (.ref tp) (.int 1 u))) : wpAny (model prog w) A (subscriptTail value slice (.ref tp) (.int 1 u)) Q E s :=
  item_tupleT (l := v0 :: v1 :: r) (j := 1) (News.isTup N hm) (by decide) (by decide) (by simp [seqIndex?]; omega) rfl h hs
theorem tup_drop2 {value slice : PySem.Expr} {tp : Addr} {v0 v1 : Value} {r : List Value} {u : Tok} (F : Fr h₀ L s.heap m) (N : News h₀ L s.heap news) (hm : (tp, tupO (v0 :: v1 :: r)) ∈ news) (hz : (v0 :: v1 :: r).length ≤ 1000)
    (hs : subscripted slice false (.ref tp) (.ref s.heap.objs.size) = operate [.ref s.heap.objs.size, .ref tp] (getItem (.ref tp) (.ref s.heap.objs.size))) (hg : ∀ x, letTemporaryGo value (.ref tp) x = pure ())
    (h : ∀ D h', Fr h₀ L h' m → News h₀ L h' ((D, tupO r) :: news) → (∀ p ∈ news, p.1 < D) → Q (.ref D) { s with heap := h' }) :
    wpAny (model prog w) A (subscriptTail value slice (.ref tp) (.ref s.heap.objs.size)) Q E { s with heap := s.heap.push { cls := .type "slice", data := .fields #[.int 2 u, .none, .none] } } :=
  slice_tuple_from (a := 2) F N (News.isTup N hm) (by decide) (by simp) (fun h' F' N' => h _ h' F' N' fun p hp => Nat.lt_succ_of_lt (Heap.lt_size (N p hp).1)) hs hg (by rw [sizeLine_eq, List.size_toArray]; omega)
end
theorem lookup2 (a b : Str) (va vb : Value) : (fun y : Str => ([(a, va), (b, vb)] : List (Str × Value)).lookup y) = fun y => if y = a then some va else if y = b then some vb else none := by
  funext y
  simp only [List.lookup]
  by_cases h : y = a
  · simp [h]
  · have : (y == a) = false := by simpa using h
    rw [this, if_neg h]
    by_cases h2 : y = b
    · simp [h2]
    · have : (y == b) = false := by simpa using h2
      rw [this, if_neg h2]
end Mine
end
noncomputable section
open PySem PySem.W PySem.Calls PyProof.Rows Mine Builtin Builtin.Str
set_option Elab.async false
set_option maxRecDepth 100000
set_option maxHeartbeats 4000000
namespace Mine
abbrev isz (hs : Int) (ta tb : Tok) : List DictEntry := [⟨hs, .str (Str.ofString "_initial_size") ta, .int 0 tb⟩]
theorem bind_rest {name qual : Str} {a1 b : Arg} {body : List Stmt} {scope : Scope} {kV doc pm cdv ct : Value} {an : Option Addr} {x : Value} {rest : List Value} :
    bindArgs (fnOf name qual { posonlyargs := [], args := [a1], vararg := some b, kwonlyargs := [], kw_defaults := [], kwarg := none, defaults := [] } body scope .none kV doc pm an cdv ct) ⟨x :: rest, []⟩ =
      (newTuple rest >>= fun t => pure [(a1.arg, x), (b.arg, t)]) := by
  unfold bindArgs
  simp [fnOf, seqItems?]
  rfl
section
variable {prog : Program} {w : World} {A₀ A : Around} {s : Shared} {K : Frag} {L : Addr} {h₀ base : Heap} {m mg mb : Str → Option Value} {news : List (Addr × Obj)} {p : Program} {loose : List Str} {mean : ExcName → Option Value}
theorem code_rest {env : Env} {outer : List Env} {R : Result → Shared → Prop} {name qual : Str} {a1 b : Arg} {body : List Stmt} {scope : Scope} {kV doc pm cdv ct oc : Value} {an od : Option Addr} {osl : Array (Option Value)} {f : Addr} {x : Value} {vs : List Value}
    (B : Below A₀ base outer h₀) (F : Fr h₀ L s.heap m) (X₀ : K.In h₀) (N : News h₀ L s.heap news) (T : Top p loose mean mg mb h₀) (hA : A.frames = some (env :: outer)) (hf : env.frame = some L) (hke : env.scope.kind = .function)
    (ho : K.lookup f = some ⟨oc, od, .func (fnOf name qual { posonlyargs := [], args := [a1], vararg := some b, kwonlyargs := [], kw_defaults := [], kwarg := none, defaults := [] } body scope .none kV doc pm an cdv ct), osl⟩) (hcd : codeIn K cdv qual = true) (hroom : A.depth < recursionLimit)
    (hz : vs.length ≤ sizeLine) (hloc : ∀ D : Addr, ∀ y ∈ [(a1.arg, x), (b.arg, Value.ref D)], scope.names.lookup y.1 = some .local)
    (h : ∀ D g L' h₁, (∀ p ∈ news, p.1 < D) → Fr h₀ L g m → Fr g L' h₁ (fun y => ([(a1.arg, x), (b.arg, Value.ref D)] : List (Str × Value)).reverse.lookup y) → News g L' h₁ ((D, tupO vs) :: news) → Below A base (env :: outer) g → K.In g → Top p loose mean mg mb g →
      wpAny (model prog w) (A.deeper (envOf qual scope L' f cdv)) (execs body (envOf qual scope L' f cdv))
        (fun fl s' => LeaveK h₀ L m g R (match fl with | .ret v => v | _ => .none) s')
        (fun e s' => wpAny (model prog w) (A.deeper (envOf qual scope L' f cdv)) (leaving (envOf qual scope L' f cdv) e) (fun _ s'' => R (.error e) s'') (fun e' s'' => R (.error e') s'') s')
        { s with heap := h₁, toks := s.toks + 2 })
    (hco : scope.isCoroutine = false) (hgen : scope.isGenerator = false) (hk : scope.kind = .function)
    (hcell : ∀ x ∈ scope.names, x.2 ≠ .cell) : codeAny (model prog w) A (.call (.ref f) ⟨x :: vs, []⟩) R s := by
  refine codeAny_call_function (fd := fnOf name qual _ body scope .none kV doc pm an cdv ct) (body := body) hroom ((X₀.keeps F.keep) _ _ ho) rfl hco hgen rfl (codeRec_of (X₀.keeps F.keep) hcd) ?_
  rw [bind_rest]
  refine wpAny_bind (newTuple_N F N (fun h' F' N' => wpAny_pure ?_) hz)
  exact kp_frame (cl := []) (s := { s with heap := h' }) B F' N' T.nolimit hA hf hke (hloc s.heap.objs.size) (fun g L' h₁ FG FL NG BG st => h s.heap.objs.size g L' h₁ (fun p hp => Heap.lt_size (N p hp).1) FG FL NG BG (X₀.keeps st) (T.keeps st)) hcell hk
end
end Mine
end
noncomputable section
open PySem PySem.W PySem.Calls PyProof.Rows Mine
set_option Elab.async false
set_option maxRecDepth 100000
set_option maxHeartbeats 4000000
namespace Mine
/-- a frame's map with some of its names written out -/
def lay : List (Str × Value) → (Str → Option Value) → Str → Option Value
  | [], m => m
  | (a, v) :: r, m => fun y => if y = a then some v else lay r m y
def LayOk : List (Str × Value) → (Str → Option Value) → Prop
  | [], _ => True
  | (a, v) :: r, m => m a = some v ∧ LayOk r m
theorem lay_eq (M : Str → Option Value) : ∀ l, LayOk l M → ∀ y, lay l M y = M y
  | [], _, _ => rfl
  | (a, v) :: r, h, y => by
    show (if y = a then some v else lay r M y) = M y
    by_cases e : y = a
    · rw [if_pos e, e, h.1]
    · rw [if_neg e]; exact lay_eq M r h.2 y
theorem Fr.lay {h₀ h : Heap} {L : Addr} {M : Str → Option Value} {l : List (Str × Value)} (F : Fr h₀ L h M) (hl : LayOk l M) : Fr h₀ L h (Mine.lay l M) := by
  rw [show Mine.lay l M = M from funext (lay_eq M l hl)]; exact F
inductive Reach (prs : List Pr) (x : Str) : Str → Prop
  | start : Reach prs x x
  | step {y : Str} : Reach prs x y → Reach prs x (replAll y prs)
abbrev Inv := Nat → (Str → Option Value) → List (Addr × Obj) → Array GenState → Prop
/-- the end of a turn: the iterator stands in the ledger at its next place, the word holds of what is kept -/
def LedStep (h₀ : Heap) (L : Addr) (s : Shared) (I : Addr) (It : Nat → Obj → Prop) (J : Inv) (Q : Flow → Shared → Prop) (i : Nat) (f : Flow) (s₃ : Shared) : Prop :=
  match f with
  | .next | .cont => ∃ h' tk gs m₂ X news₂ o, s₃ = { s with heap := h', gens := gs, toks := tk } ∧ Fr h₀ L h' m₂ ∧ News h₀ L h' X ∧ (I, o) ∈ X ∧ It (i + 1) o ∧ (∀ q ∈ news₂, q ∈ X ∧ q.1 ≠ I) ∧ J (i + 1) m₂ news₂ gs
  | .brk => Q .next s₃
  | .ret v => Q (.ret v) s₃
section
variable {prog : Program} {w : World} {A : Around} {E : Value → Shared → Prop} {s : Shared} {env : Env} {h₀ : Heap} {L : Addr} {Q : Flow → Shared → Prop}
theorem Fr.upto {h h' : Heap} {m : Str → Option Value} {I : Addr} (F : Fr h₀ L h m) (hI : h₀.get? I = none) (hL : L ≠ I) (hx : Heap.ExtBut I h h') : Fr h₀ L h' m :=
  ⟨F.ns.extBut hx hL, fun b o e => hx b o (fun q => by rw [q, hI] at e; cases e) (F.keep b o e), F.above⟩
theorem News.upto {h h' : Heap} {news : List (Addr × Obj)} {I : Addr} (N : News h₀ L h news) (hne : ∀ q ∈ news, q.1 ≠ I) (hx : Heap.ExtBut I h h') : News h₀ L h' news :=
  fun q hq => ⟨hx _ _ (hne q hq) (N q hq).1, (N q hq).2⟩

structure LedIter (prog : Program) (w : World) (A : Around) (I : Addr) (n : Nat) (It : Nat → Obj → Prop) (P : Nat → Value → Prop) (aux : Heap → Prop) : Prop where
  item : ∀ i o (s : Shared) (Q : Option Value → Shared → Prop) (E : Value → Shared → Prop), i < n → s.heap.get? I = some o → It i o → aux s.heap →
    (∀ v h' tk o', P i v → h'.get? I = some o' → It (i + 1) o' → Heap.ExtBut I s.heap h' → Q (some v) { s with heap := h', toks := tk }) → wpAny (model prog w) A (pyNext (.ref I)) Q E s
  done : ∀ o (s : Shared) (Q : Option Value → Shared → Prop) (E : Value → Shared → Prop), s.heap.get? I = some o → It n o → aux s.heap →
    (∀ h' tk, Heap.ExtBut I s.heap h' → Q none { s with heap := h', toks := tk }) → wpAny (model prog w) A (pyNext (.ref I)) Q E s
  plain : ∀ i o, It i o → ∃ ty vs, o.cls = .type ty ∧ o.data = .fields vs ∧ (["enumerate", "zip", "dict_itemiterator", "dict_reverseitemiterator", "odict_iterator", "itertools.zip_longest", "itertools.pairwise"].contains ty) = false

theorem go_plain {target : PySem.Expr} {I : Addr} {o : Obj} {v : Value} {Q : Unit → Shared → Prop} (hg : s.heap.get? I = some o) (hp : ∃ ty vs, o.cls = .type ty ∧ o.data = .fields vs ∧ (["enumerate", "zip", "dict_itemiterator", "dict_reverseitemiterator", "odict_iterator", "itertools.zip_longest", "itertools.pairwise"].contains ty) = false)
    (hQ : Q () s) : wpAny (model prog w) A (letOwnedTupleGo target (.ref I) v) Q E s := by
  obtain ⟨ty, vs, hc, hd, hn⟩ := hp
  have go : wpAny (model prog w) A (letOwnedTupleGo (.Tuple [] 0 default) (.ref I) v) Q E s := by
    cases v with
    | ref a =>
      show wpAny _ _ (load I >>= _) _ _ _
      refine wpAny_bind (wpAny_load hg ?_)
      rw [hc, hd]
      dsimp only
      rw [hn, Bool.false_and, if_neg Bool.false_ne_true]
      exact wpAny_pure hQ
    | _ => exact wpAny_pure hQ
  cases target with
  | Tuple => exact go
  | List => exact go
  | _ => exact wpAny_pure hQ

def LedAt (prog : Program) (w : World) (A : Around) (h₀ : Heap) (L : Addr) (env : Env) (target : PySem.Expr) (body : List Stmt) (Q : Flow → Shared → Prop) (E : Value → Shared → Prop) (it : Value) (s₂ : Shared) : Prop :=
  ∃ (I : Addr) (n : Nat) (It : Nat → Obj → Prop) (P : Nat → Value → Prop) (aux : Heap → Prop) (o : Obj) (m : Str → Option Value) (news : List (Addr × Obj)) (J : Inv),
    it = .ref I ∧ LedIter prog w A I n It P aux ∧ It 0 o ∧ Fr h₀ L s₂.heap m ∧ News h₀ L s₂.heap ((I, o) :: news) ∧ (∀ q ∈ news, q.1 ≠ I) ∧ J 0 m news s₂.gens ∧
    (∀ i m₁ news₁ h gs, J i m₁ news₁ gs → Fr h₀ L h m₁ → News h₀ L h news₁ → aux h) ∧
    (∀ i v m₁ news₁ h tk gs o, i < n → P i v → J i m₁ news₁ gs → Fr h₀ L h m₁ → News h₀ L h ((I, o) :: news₁) → It (i + 1) o → (∀ q ∈ news₁, q.1 ≠ I) →
      wpAny (model prog w) A (assign target env v) (fun _ s₃ => wpAny (model prog w) A (execs body env) (LedStep h₀ L s₂ I It J Q i) E s₃) E { s₂ with heap := h, gens := gs, toks := tk }) ∧
    ∀ m₁ news₁ h tk gs, J n m₁ news₁ gs → Fr h₀ L h m₁ → News h₀ L h news₁ → Q .next { s₂ with heap := h, gens := gs, toks := tk }

/-- the loop's source is at hand: here the walk rests -/
def LedPre (prog : Program) (w : World) (A : Around) (h₀ : Heap) (L : Addr) (env : Env) (target : PySem.Expr) (body : List Stmt) (Q : Flow → Shared → Prop) (E : Value → Shared → Prop) (xv : Value) (s₁ : Shared) : Prop :=
  wpAny (model prog w) A (pyIter xv) (fun it s₂ => LedAt prog w A h₀ L env target body Q E it s₂) E s₁
theorem For_led {target iter : PySem.Expr} {body : List Stmt} {pos : Pos} {mF : Str → Option Value} (_F : Fr h₀ L s.heap mF)
    (h : wpAny (model prog w) A (eval iter env) (LedPre prog w A h₀ L env target body Q E) E s)
    (hs : ∀ x, foldedSetIterable iter env x = pure x := by intro _; rfl)
    (hE : PassesOwn (model prog w) A env E := by passes_own) :
    wpAny (model prog w) A (exec (.For target iter body [] pos) env) Q E s := by
  refine wpAny_For (wpAny_mono h (fun xv s₁ h₁ => wpAny_mono h₁ (fun it s₂ h₂ => ?_) fun _ _ e => e) fun _ _ e => e) hs
  obtain ⟨I, n, It, P, aux, o₀, m, news, J, rfl, D, hIt, F, N, hne, hJ, haux, turn, done⟩ := h₂
  have hz := (N (I, o₀) List.mem_cons_self).2
  refine codeAny_forLoop_any (R := fun r s' => match r with | .ok f => Q f s' | .error e => cameBackBy (model prog w) A env E e s')
    (fun k s' => ∃ h' tk gs m' news' i o, s' = { s₂ with heap := h', gens := gs, toks := tk } ∧ Fr h₀ L h' m' ∧ News h₀ L h' ((I, o) :: news') ∧ It i o ∧ (∀ q ∈ news', q.1 ≠ I) ∧ J i m' news' gs ∧ i ≤ n ∧ k = n + 1 - i) ?_ (n + 1)
    ⟨s₂.heap, s₂.toks, s₂.gens, m, news, 0, o₀, rfl, F, N, hIt, hne, hJ, Nat.zero_le _, rfl⟩
  rintro k s' ⟨h', tk, gs, m', news', i, o, rfl, F', N', hIt', hne', hJ', hi, rfl⟩
  have N'' : News h₀ L h' news' := fun q hq => N' q (List.mem_cons_of_mem _ hq)
  have hg := (N' (I, o) List.mem_cons_self).1
  have hax := haux _ _ _ _ _ hJ' F' N''
  by_cases hlt : i < n
  · refine D.item i o _ _ _ hlt hg hIt' hax fun v h₁ tk₁ o₁ hP hg₁ hIt₁ hx => ?_
    have F₁ := Fr.upto F' hz.2 (Ne.symm hz.1) hx
    have N₁ := News.upto N'' hne' hx
    have N₂ : News h₀ L h₁ ((I, o₁) :: news') := fun q hq => by
      rcases List.mem_cons.mp hq with rfl | hq
      · exact ⟨hg₁, hz⟩
      · exact N₁ q hq
    refine go_plain hg₁ (D.plain _ _ hIt₁) ?_
    refine wpAny_passesOwn hE (wpAny_mono (turn i v m' news' h₁ tk₁ gs o₁ hlt hP hJ' F₁ N₂ hIt₁ hne') (fun _ s₃ h₃ => ?_) fun _ _ e => e)
    refine wpAny_passesOwn hE (wpAny_mono h₃ (fun f s₄ h₄ => ?_) fun _ _ e => e)
    have fin : (∃ h' tk gs m₂ X news₂ o, s₄ = { s₂ with heap := h', gens := gs, toks := tk } ∧ Fr h₀ L h' m₂ ∧ News h₀ L h' X ∧ (I, o) ∈ X ∧ It (i + 1) o ∧ (∀ q ∈ news₂, q ∈ X ∧ q.1 ≠ I) ∧ J (i + 1) m₂ news₂ gs) →
        ∃ k', k' < n + 1 - i ∧ ∃ h' tk gs m' news' i o, s₄ = { s₂ with heap := h', gens := gs, toks := tk } ∧ Fr h₀ L h' m' ∧ News h₀ L h' ((I, o) :: news') ∧ It i o ∧ (∀ q ∈ news', q.1 ≠ I) ∧ J i m' news' gs ∧ i ≤ n ∧ k' = n + 1 - i := by
      rintro ⟨h', tk, gs, m₂, X, news₂, o, rfl, F₂, N₂, hm, hit, hsub, hJ₂⟩
      refine ⟨n + 1 - (i + 1), by omega, h', tk, gs, m₂, news₂, i + 1, o, rfl, F₂, ?_, hit, fun q hq => (hsub q hq).2, hJ₂, hlt, rfl⟩
      intro q hq
      rcases List.mem_cons.mp hq with rfl | hq
      · exact N₂ _ hm
      · exact N₂ _ (hsub q hq).1
    cases f with
    | ret v => exact h₄
    | brk => exact h₄
    | next => exact fin h₄
    | cont => exact fin h₄
  · have e : i = n := by omega
    subst e
    refine D.done o _ _ _ hg hIt' hax fun h₁ tk₁ hx => ?_
    exact wpAny_execs_nil (done m' news' h₁ tk₁ gs hJ' (Fr.upto F' hz.2 (Ne.symm hz.1) hx) (News.upto N'' hne' hx))

def ItStr (ty : String) (x : Str) (t : Tok) (i : Nat) (o : Obj) : Prop := o.cls = .type ty ∧ o.data = .fields #[.str x t, .int i 0]
def ItLst (l : Addr) (i : Nat) (o : Obj) : Prop := o.cls = .type "list_iterator" ∧ o.data = .fields #[.ref l, .int i 0]

theorem iterAscii (hh : A.handled = none) (I : Addr) (x : Str) (t : Tok) : LedIter prog w A I x.cps.size (ItStr "str_ascii_iterator" x t) (PySem.SignAt x) (fun _ => True) where
  item := fun i o s Q E hi hg hit _ hQ => by
    refine wpAny_pyNext_ascii_item ⟨o, hg, hit⟩ (c := x.cps[i]) (by simp [hi]) fun h' hit' hs' => ?_
    obtain ⟨o', hg', hit'⟩ := hit'
    exact hQ _ h' (s.toks + 1) o' ⟨_, _, by simp [hi], rfl⟩ hg' hit' hs'.extBut
  done := fun o s Q E hg hit _ hQ => wpAny_pyNext_ascii_end hh ⟨o, hg, hit⟩ (by simp) fun h' he' => hQ h' s.toks he'
  plain := fun _ _ h => ⟨_, _, h.1, h.2, by decide⟩
theorem iterWide (hh : A.handled = none) (I : Addr) (x : Str) (t : Tok) : LedIter prog w A I x.cps.size (ItStr "str_iterator" x t) (PySem.SignAt x) (fun _ => True) where
  item := fun i o s Q E hi hg hit _ hQ => by
    refine wpAny_pyNext_wide_item ⟨o, hg, hit⟩ (c := x.cps[i]) (by simp [hi]) fun h' hit' hs' => ?_
    obtain ⟨o', hg', hit'⟩ := hit'
    exact hQ _ h' (s.toks + 1) o' ⟨_, _, by simp [hi], rfl⟩ hg' hit' hs'.extBut
  done := fun o s Q E hg hit _ hQ => wpAny_pyNext_wide_end hh ⟨o, hg, hit⟩ (by simp) fun h' he' => hQ h' s.toks he'
  plain := fun _ _ h => ⟨_, _, h.1, h.2, by decide⟩
theorem iterList (hh : A.handled = none) (I l : Addr) (items : Array Value) : LedIter prog w A I items.size (ItLst l) (fun i v => items[i]? = some v) (fun h => h.IsList l items) where
  item := fun i o s Q E hi hg hit hl hQ => by
    refine wpAny_pyNext_list_item ⟨o, hg, hit⟩ hl (x := items[i]) (by simp [hi]) fun h' hit' hs' => ?_
    obtain ⟨o', hg', hit'⟩ := hit'
    exact hQ _ h' s.toks o' (by simp [hi]) hg' hit' hs'.extBut
  done := fun o s Q E hg hit hl hQ => wpAny_pyNext_list_end hh ⟨o, hg, hit⟩ hl (by simp) fun h' he' => hQ h' s.toks he'
  plain := fun _ _ h => ⟨_, _, h.1, h.2, by decide⟩

theorem led_str {target : PySem.Expr} {body : List Stmt} {x : Str} {t : Tok} {m : Str → Option Value} {news : List (Addr × Obj)} (J : Inv) (hh : A.handled = none) (F : Fr h₀ L s.heap m) (N : News h₀ L s.heap news) (hJ : J 0 m news s.gens)
    (turn : ∀ I It i c u m₁ news₁ h tk gs o, x.cps[i]? = some c → J i m₁ news₁ gs → Fr h₀ L h m₁ → News h₀ L h ((I, o) :: news₁) → It (i + 1) o → (∀ q ∈ news₁, q.1 ≠ I) →
      (∀ i o, It i o → ∃ ty, (ty = "str_ascii_iterator" ∨ ty = "str_iterator") ∧ o.cls = .type ty) →
      wpAny (model prog w) A (assign target env (.str ⟨#[c]⟩ u)) (fun _ s₃ => wpAny (model prog w) A (execs body env) (LedStep h₀ L s I It J Q i) E s₃) E { s with heap := h, gens := gs, toks := tk })
    (done : ∀ m₁ news₁ h tk gs, J x.length m₁ news₁ gs → Fr h₀ L h m₁ → News h₀ L h news₁ → Q .next { s with heap := h, gens := gs, toks := tk }) :
    LedPre prog w A h₀ L env target body Q E (.str x t) s := by
  unfold LedPre
  have hf : ∀ q ∈ news, q.1 ≠ s.heap.objs.size := fun q hq => Nat.ne_of_lt (Heap.lt_size (N q hq).1)
  have go : ∀ ty, (ty = "str_ascii_iterator" ∨ ty = "str_iterator") → LedIter prog w A s.heap.objs.size x.cps.size (ItStr ty x t) (PySem.SignAt x) (fun _ => True) →
      LedAt prog w A h₀ L env target body Q E (.ref s.heap.objs.size) { s with heap := s.heap.push { cls := .type ty, data := .fields #[.str x t, .int 0 0] } } := by
    intro ty hty D
    refine ⟨_, _, _, _, _, _, m, news, J, rfl, D, ⟨rfl, rfl⟩, F.push _, N.push F _, hf, hJ, fun _ _ _ _ _ _ _ _ => trivial, ?_, done⟩
    rintro i v m₁ news₁ h tk gs o hi ⟨c, u, hc, rfl⟩ hJ₁ F₁ N₁ hIt hne
    exact turn _ _ i c u m₁ news₁ h tk gs o hc hJ₁ F₁ N₁ hIt hne fun j o' h' => ⟨ty, hty, h'.1⟩
  cases ha : x.cps.all (· < 128)
  · exact wpAny_pyIter_wide ha (go _ (.inr rfl) (iterWide hh _ x t))
  · exact wpAny_pyIter_ascii ha (go _ (.inl rfl) (iterAscii hh _ x t))

theorem led_list {target : PySem.Expr} {body : List Stmt} {l : Addr} {items : List Value} {k : Nat} {m : Str → Option Value} {news : List (Addr × Obj)} (J : Inv) (hh : A.handled = none) (F : Fr h₀ L s.heap m) (N : News h₀ L s.heap news) (hl : (l, lstO items k) ∈ news) (hJ : J 0 m news s.gens)
    (haux : ∀ i m₁ news₁ gs, J i m₁ news₁ gs → (l, lstO items k) ∈ news₁)
    (turn : ∀ I i v m₁ news₁ h tk gs o, items[i]? = some v → J i m₁ news₁ gs → Fr h₀ L h m₁ → News h₀ L h ((I, o) :: news₁) → ItLst l (i + 1) o → (∀ q ∈ news₁, q.1 ≠ I) →
      wpAny (model prog w) A (assign target env v) (fun _ s₃ => wpAny (model prog w) A (execs body env) (LedStep h₀ L s I (ItLst l) J Q i) E s₃) E { s with heap := h, gens := gs, toks := tk })
    (done : ∀ m₁ news₁ h tk gs, J items.length m₁ news₁ gs → Fr h₀ L h m₁ → News h₀ L h news₁ → Q .next { s with heap := h, gens := gs, toks := tk }) :
    LedPre prog w A h₀ L env target body Q E (.ref l) s := by
  unfold LedPre
  have hf : ∀ q ∈ news, q.1 ≠ s.heap.objs.size := fun q hq => Nat.ne_of_lt (Heap.lt_size (N q hq).1)
  have D := iterList (prog := prog) (w := w) (A := A) hh s.heap.objs.size l items.toArray
  rw [List.size_toArray] at D
  refine wpAny_pyIter_list (News.isList N hl) ?_
  refine ⟨_, _, _, _, _, _, m, news, J, rfl, D, ⟨rfl, rfl⟩, F.push _, N.push F _, hf, hJ, fun i m₁ news₁ h gs hJ₁ _ N₁ => News.isList N₁ (haux _ _ _ _ hJ₁), ?_, done⟩
  intro i v m₁ news₁ h tk gs o hi hv hJ₁ F₁ N₁ hIt hne
  exact turn _ i v m₁ news₁ h tk gs o (by simpa using hv) hJ₁ F₁ N₁ hIt hne
end
end Mine
end
noncomputable section
open PySem PySem.W PySem.Calls PyProof.Rows PyProof.V PySem.Spec Mine
set_option Elab.async false
set_option maxRecDepth 100000
set_option maxHeartbeats 4000000
namespace Mine
section
variable {prog : Program} {w : World} {A : Around} {E : Value → Shared → Prop} {s : Shared} {env : Env} {h₀ : Heap} {L : Addr} {Q : Flow → Shared → Prop}
def ItTup (l : Addr) (i : Nat) (o : Obj) : Prop := o.cls = .type "tuple_iterator" ∧ o.data = .fields #[.ref l, .int i 0]
theorem iterTuple (hh : A.handled = none) (I l : Addr) (items : Array Value) : LedIter prog w A I items.size (ItTup l) (fun i v => items[i]? = some v) (fun h => h.IsTuple l items) where
  item := fun i o s Q E hi hg hit hl hQ => by
    refine wpAny_pyNext_tuple_item ⟨o, hg, hit⟩ hl (x := items[i]) (by simp [hi]) fun h' hit' hs' => ?_
    obtain ⟨o', hg', hit'⟩ := hit'
    exact hQ _ h' s.toks o' (by simp [hi]) hg' hit' hs'.extBut
  done := fun o s Q E hg hit hl hQ => wpAny_pyNext_tuple_end hh ⟨o, hg, hit⟩ hl (by simp) fun h' he' => hQ h' s.toks he'
  plain := fun _ _ h => ⟨_, _, h.1, h.2, by decide⟩
theorem led_tuple {target : PySem.Expr} {body : List Stmt} {l : Addr} {items : List Value} {m : Str → Option Value} {news : List (Addr × Obj)} (J : Inv) (hh : A.handled = none) (F : Fr h₀ L s.heap m) (N : News h₀ L s.heap news) (hl : (l, tupO items) ∈ news) (hJ : J 0 m news s.gens)
    (haux : ∀ i m₁ news₁ gs, J i m₁ news₁ gs → (l, tupO items) ∈ news₁)
    (turn : ∀ I i v m₁ news₁ h tk gs o, items[i]? = some v → J i m₁ news₁ gs → Fr h₀ L h m₁ → News h₀ L h ((I, o) :: news₁) → ItTup l (i + 1) o → (∀ q ∈ news₁, q.1 ≠ I) →
      wpAny (model prog w) A (assign target env v) (fun _ s₃ => wpAny (model prog w) A (execs body env) (LedStep h₀ L s I (ItTup l) J Q i) E s₃) E { s with heap := h, gens := gs, toks := tk })
    (done : ∀ m₁ news₁ h tk gs, J items.length m₁ news₁ gs → Fr h₀ L h m₁ → News h₀ L h news₁ → Q .next { s with heap := h, gens := gs, toks := tk }) :
    LedPre prog w A h₀ L env target body Q E (.ref l) s := by
  unfold LedPre
  have hf : ∀ q ∈ news, q.1 ≠ s.heap.objs.size := fun q hq => Nat.ne_of_lt (Heap.lt_size (N q hq).1)
  have D := iterTuple (prog := prog) (w := w) (A := A) hh s.heap.objs.size l items.toArray
  rw [List.size_toArray] at D
  have tup : ∀ {h : Heap} {n₁ : List (Addr × Obj)}, News h₀ L h n₁ → (l, tupO items) ∈ n₁ → h.IsTuple l items.toArray := fun N hm => ⟨_, N.get hm, rfl, _, rfl⟩
  refine wpAny_pyIter_tuple (tup N hl) ?_
  refine ⟨_, _, _, _, _, _, m, news, J, rfl, D, ⟨rfl, rfl⟩, F.push _, N.push F _, hf, hJ, fun i m₁ news₁ h gs hJ₁ _ N₁ => tup N₁ (haux _ _ _ _ hJ₁), ?_, done⟩
  intro i v m₁ news₁ h tk gs o hi hv hJ₁ F₁ N₁ hIt hne
  exact turn _ i v m₁ news₁ h tk gs o (by simpa using hv) hJ₁ F₁ N₁ hIt hne
end

abbrev Pc.fp (c : Pc) : Str × Str := (c.f, c.p)
abbrev Pc.v (c : Pc) : Value := .ref c.a
abbrev fpD (q : Str × Str) : PyData := .tuple [.str q.1, .str q.2]
def fpOk (q : Str × Str) : Prop := PyData.strOk q.1 = true ∧ PyData.strOk q.2 = true
section
variable {prog : Program} {w : World} {A : Around} {E : Value → Shared → Prop} {s : Shared} {h₀ : Heap} {L : Addr} {news : List (Addr × Obj)} {Q : Value → Shared → Prop}
end
end Mine
namespace Mine
theorem news_ne {h₀ h : Heap} {L a b : Addr} {o o' : Obj} {l : List (Addr × Obj)} (N : News h₀ L h l) (ha : (a, o) ∈ l) (hb : (b, o') ∈ l) (hne : o ≠ o') : a ≠ b := by
  intro e
  subst e
  exact hne (Option.some.inj ((N _ ha).1.symm.trans (N _ hb).1))
theorem pile_ne_tup {C d : Addr} {vs us : List Value} {n : Nat} : tupO us ≠ pileO C d vs n := by
  intro e; injection e with e1; cases e1
theorem pile_ne_lst {C d : Addr} {vs us : List Value} {n k : Nat} : lstO us k ≠ pileO C d vs n := by
  intro e; injection e with e1; cases e1
theorem pile_ne_dict {C d : Addr} {vs : List Value} {es : List DictEntry} {n k : Nat} : dictOf es k ≠ pileO C d vs n := by
  intro e; injection e with e1; cases e1
/-- a pile in the ledger, with its pieces -/
structure Pile (C : Addr) (l : List (Addr × Obj)) (p d : Addr) (pcs : List Pc) : Prop where
  obj : ∃ n, (p, pileO C d (pcs.map Pc.v) n) ∈ l
  dict : ∃ hs ta tb k, (d, dictOf (isz hs ta tb) k) ∈ l
  its : ∀ c ∈ pcs, (c.a, c.obj) ∈ l
def Keeps (p : Addr) (l l' : List (Addr × Obj)) : Prop := ∀ q ∈ l, q.1 ≠ p → q ∈ l'
theorem Keeps.refl (p : Addr) (l : List (Addr × Obj)) : Keeps p l l := fun _ h _ => h
theorem Keeps.trans {p : Addr} {l₁ l₂ l₃ : List (Addr × Obj)} (a : Keeps p l₁ l₂) (b : Keeps p l₂ l₃) : Keeps p l₁ l₃ := fun q h e => b q (a q h e) e
theorem Keeps.setAt (p : Addr) (o : Obj) (l : List (Addr × Obj)) : Keeps p l (setAt p o l) := fun _ h e => setAt_mem h e
theorem Keeps.cons {p : Addr} {x : Addr × Obj} {l l' : List (Addr × Obj)} (a : Keeps p l l') : Keeps p l (x :: l') := fun q h e => .tail _ (a q h e)
theorem Pile.moved {C p d : Addr} {pcs qcs : List Pc} {l l' : List (Addr × Obj)} {h₀ h : Heap} {L : Addr} {n : Nat} (P : Pile C l p d pcs) (N : News h₀ L h l) (K : Keeps p l l') (ho : (p, pileO C d (qcs.map Pc.v) n) ∈ l') (hq : ∀ c ∈ qcs, c ∈ pcs ∨ (c.a, c.obj) ∈ l') : Pile C l' p d qcs := by
  obtain ⟨⟨n₀, h1⟩, ⟨hs, ta, tb, k, h2⟩, h3⟩ := P
  refine ⟨⟨n, ho⟩, ⟨hs, ta, tb, k, K _ h2 (news_ne N h2 h1 pile_ne_dict)⟩, fun c hc => ?_⟩
  rcases hq c hc with h | h
  · exact K _ (h3 c h) (news_ne N (h3 c h) h1 pile_ne_tup)
  · exact h
end Mine

namespace Mine
section
variable {prog : Program} {w : World} {A : Around} {E : Value → Shared → Prop} {s : Shared} {h₀ : Heap} {L : Addr} {news : List (Addr × Obj)} {Q : Value → Shared → Prop}
theorem len_lst {D : Addr} {its : List Value} {k : Nat} (N : News h₀ L s.heap news) (hm : (D, lstO its k) ∈ news) (hf : its.length ≤ sizeLine) (h : Q (.int its.length (s.toks + 1)) { s with toks := s.toks + 1 + 1 }) :
    wpAny (model prog w) A (call (.builtin "len") [.ref D]) Q E s :=
  Calls.call_len_list (News.isList N hm) (by rw [List.size_toArray]; rw [sizeLine_eq] at hf; omega) (by rw [List.size_toArray]; exact h)
end
end Mine
end
noncomputable section
open PySem PySem.W PySem.Calls PyProof.Rows Mine
set_option Elab.async false
set_option maxRecDepth 100000
set_option maxHeartbeats 4000000
namespace Mine
section
variable {h₀ h hb hO : Heap} {L Lb pl d C D t I : Addr} {pcs : List Pc} {X X₁ : List (Addr × Obj)}
theorem popped {i : Int} {n' kk : Nat} (P : Pile C X₁ pl d pcs) (NO : News hb Lb hO X₁)
    (N : News h₀ L h ((D, lstO ((pcs.map Pc.v).drop i.toNat) 0) :: setAt pl (pileO C d ((pcs.map Pc.v).take i.toNat) n') X₁)) (e : i.toNat = kk) :
    ∃ X₂, News h₀ L h X₂ ∧ (D, lstO ((pcs.drop kk).map Pc.v) 0) ∈ X₂ ∧ Pile C X₂ pl d (pcs.take kk) ∧ Keeps pl X₁ X₂ ∧ ∀ c ∈ pcs, (c.a, c.obj) ∈ X₂ := by
  subst e
  obtain ⟨n, h1⟩ := P.obj
  have K : Keeps pl X₁ ((D, lstO ((pcs.map Pc.v).drop i.toNat) 0) :: setAt pl (pileO C d ((pcs.map Pc.v).take i.toNat) n') X₁) := Keeps.cons (Keeps.setAt _ _ _)
  refine ⟨_, N, by rw [List.map_drop]; exact List.Mem.head _, ?_, K, fun c hc => K _ (P.its c hc) (news_ne NO (P.its c hc) h1 pile_ne_tup)⟩
  refine P.moved NO K (n := n') ?_ fun c hc => .inl (List.mem_of_mem_take hc)
  rw [List.map_take]
  exact List.Mem.tail _ (setAt_self h1)
theorem pushed {n' : Nat} {f p : Str} {tf tp : Tok} (P : Pile C X₁ pl d pcs) (NO : News hb Lb hO X₁)
    (N : News h₀ L h ((t, tupO [.str f tf, .str p tp]) :: setAt pl (pileO C d (pcs.map Pc.v ++ [.ref t]) n') X₁)) :
    ∃ X₂, News h₀ L h X₂ ∧ Pile C X₂ pl d (pcs ++ [⟨t, f, tf, p, tp⟩]) ∧ Keeps pl X₁ X₂ := by
  obtain ⟨n, h1⟩ := P.obj
  have K : Keeps pl X₁ ((t, tupO [.str f tf, .str p tp]) :: setAt pl (pileO C d (pcs.map Pc.v ++ [.ref t]) n') X₁) := Keeps.cons (Keeps.setAt _ _ _)
  refine ⟨_, N, P.moved NO K (n := n') ?_ fun c hc => ?_, K⟩
  · rw [List.map_append]; exact List.Mem.tail _ (setAt_self h1)
  · rcases List.mem_append.mp hc with hc | hc
    · exact .inl hc
    · rw [List.mem_singleton.mp hc]; exact .inr (List.Mem.head _)
def but (I : Addr) (X : List (Addr × Obj)) : List (Addr × Obj) := X.filter fun q => decide (q.1 ≠ I)
theorem but_mem {q : Addr × Obj} : q ∈ but I X ↔ q ∈ X ∧ q.1 ≠ I := by unfold but; rw [List.mem_filter]; simp
/-- an iterator's class: no tuple, no dict, no own class -/
def Iterish (o : Obj) : Prop := ∃ ty, o.cls = .type ty ∧ ty ≠ "tuple" ∧ ty ≠ "dict" ∧ ty ≠ "list"
theorem Iterish.ne {o o' : Obj} (hi : Iterish o) (h' : (∃ C, o'.cls = .ref C) ∨ o'.cls = .type "tuple" ∨ o'.cls = .type "dict" ∨ o'.cls = .type "list") : o' ≠ o := by
  intro e
  obtain ⟨ty, h1, h2, h3, h4⟩ := hi
  rw [e] at h'
  rw [h1] at h'
  rcases h' with ⟨C, h'⟩ | h' | h' | h'
  · cases h'
  · exact h2 (by injection h')
  · exact h3 (by injection h')
  · exact h4 (by injection h')
theorem Pile.but {o : Obj} (P : Pile C X pl d pcs) (N : News h₀ L h X) (hI : (I, o) ∈ X) (hi : Iterish o) : Pile C (but I X) pl d pcs := by
  obtain ⟨⟨n, h1⟩, ⟨hs, ta, tb, k, h2⟩, h3⟩ := P
  exact ⟨⟨n, but_mem.mpr ⟨h1, news_ne N h1 hI (hi.ne (.inl ⟨_, rfl⟩))⟩⟩, ⟨hs, ta, tb, k, but_mem.mpr ⟨h2, news_ne N h2 hI (hi.ne (.inr (.inr (.inl rfl))))⟩⟩,
    fun c hc => but_mem.mpr ⟨h3 c hc, news_ne N (h3 c hc) hI (hi.ne (.inr (.inl rfl)))⟩⟩
theorem Keeps.but {X₀ news₁ : List (Addr × Obj)} {o : Obj} (K₁ : Keeps pl X₀ news₁) (hne : ∀ q ∈ news₁, q.1 ≠ I) (K₂ : Keeps pl ((I, o) :: news₁) X) : Keeps pl X₀ (Mine.but I X) :=
  fun q hq e => but_mem.mpr ⟨K₂ q (.tail _ (K₁ q hq e)) e, hne q (K₁ q hq e)⟩
theorem ItLst.iterish {l : Addr} {i : Nat} {o : Obj} (h : ItLst l i o) : Iterish o := ⟨_, h.1, by decide, by decide, by decide⟩
theorem ItTup.iterish {l : Addr} {i : Nat} {o : Obj} (h : ItTup l i o) : Iterish o := ⟨_, h.1, by decide, by decide, by decide⟩
theorem ItStr.iterish' {ty : String} {o : Obj} (hty : ty = "str_ascii_iterator" ∨ ty = "str_iterator") (h : o.cls = .type ty) : Iterish o := by
  rcases hty with rfl | rfl <;> exact ⟨_, h, by decide, by decide, by decide⟩
theorem Pile.weak {x : Addr × Obj} (P : Pile C X pl d pcs) : Pile C (x :: X) pl d pcs :=
  ⟨P.obj.imp fun _ => .tail _, P.dict.imp fun _ ⟨a, b, c, h⟩ => ⟨a, b, c, .tail _ h⟩, fun c hc => .tail _ (P.its c hc)⟩
theorem Keeps.weak {x : Addr × Obj} {X' : List (Addr × Obj)} (K : Keeps pl (x :: X) X') : Keeps pl X X' := fun q hq e => K q (.tail _ hq) e
end
end Mine
end
noncomputable section
open PySem PySem.W PySem.Calls PyProof.Rows Mine
set_option Elab.async false
set_option maxRecDepth 100000
set_option maxHeartbeats 4000000
namespace Mine
theorem law_good {c : ClaimW} {cl : Str → Option Addr} {mean : ExcName → Option Value} {args : List WData} {s₁ s' : Shared} {tabs : List (Addr × Addr)} {L : Addr} {m : Str → Option Value} {b : Bool} (hT : TabsAt tabs s₁.heap) (F : Fr (ghostOf s₁.heap tabs) L s'.heap m) (hgr : GrownAll tabs s'.heap)
    (hg : AllBare s'.gens) (hn : ∀ cls, c.raises args cls = false) (hp : c.post args (.bool b) args = true) (hos : s'.os = s₁.os) : GoodWG c cl mean args s₁ (.ok (.ret (.bool b))) s' := by
  have keep : ∀ b o, b ∉ tabs.map (·.2) → s₁.heap.get? b = some o → s'.heap.get? b = some o := fun b o hb e => F.keep b o (ghost_ne e hb)
  have grown : ∀ b o, b ∈ tabs.map (·.2) → s₁.heap.get? b = some o → isCodeTable s₁.heap b ∧ o = tabObj #[] ∧ ∃ ps, s'.heap.get? b = some (tabObj ps) := fun b o hb e => by
    obtain ⟨q, hq, rfl⟩ := List.mem_map.mp hb
    have e2 := (hT q hq).2
    rw [e] at e2
    exact ⟨((hT q hq).1.tab (hT q hq).2).isCodeTable, Option.some.inj e2, hgr.get q hq⟩
  refine ⟨.inl ⟨.bool b, .bool b, [], rfl, hn, .bool b, hp, fun _ => ⟨.nil, fun _ h => nomatch h⟩⟩, ⟨fun b o e => ?_, fun b o e => ?_⟩, hos, hg⟩
  · by_cases hb : b ∈ tabs.map (·.2)
    · obtain ⟨ht, rfl, ps, hP⟩ := grown b o hb e
      exact .inr (.inl ⟨ht, rfl, #[], ps, rfl, by rw [Array.empty_append]; exact hP⟩)
    · exact .inl (keep b o hb e)
  · by_cases hb : b ∈ tabs.map (·.2)
    · obtain ⟨_, _, ps, hP⟩ := grown b o hb e
      exact ⟨_, hP⟩
    · exact ⟨o, keep b o hb e⟩
end Mine
end
noncomputable section
open PySem PySem.W PySem.Calls PyProof.Rows PyProof.V PySem.Spec Mine
set_option Elab.async false
set_option maxRecDepth 100000
set_option maxHeartbeats 4000000
namespace Mine
section
variable {prog : Program} {w : World} {A : Around} {E : Value → Shared → Prop} {s : Shared} {env : Env} {h₀ : Heap} {L : Addr} {Q : Flow → Shared → Prop}
def ItRng (a c : Int) (n : Nat) (i : Nat) (o : Obj) : Prop := o = { cls := .type "range_iterator", dict := none, data := .fields #[rawInt (a + (i : Nat) * c), rawInt ((n : Int) - (i : Nat)), rawInt c], slots := #[] }
theorem iterRng (hh : A.handled = none) (I : Addr) (a c : Int) (n : Nat) : LedIter prog w A I n (ItRng a c n) (fun i v => ∃ t, v = .int (a + i * c) t) (fun _ => True) where
  item := fun i o s Q E hi hg hit _ hQ => by
    subst hit
    refine wpAny_pyNext_range_item hg (by omega) fun h' hit' hs' => ?_
    refine hQ _ h' _ _ ⟨_, rfl⟩ hit' ?_ hs'.extBut
    have e1 : a + ((i + 1 : Nat) : Int) * c = a + (i : Int) * c + c := by push_cast; rw [Int.add_mul, Int.one_mul, Int.add_assoc]
    have e2 : (n : Int) - ((i + 1 : Nat) : Int) = (n : Int) - (i : Int) - 1 := by push_cast; omega
    show _ = _
    rw [e1, e2]
  done := fun o s Q E hg hit _ hQ => by
    subst hit
    exact wpAny_pyNext_range_end hh hg (by omega) fun h' he' => hQ h' s.toks he'
  plain := fun _ _ h => by
    subst h
    exact ⟨_, _, rfl, rfl, by decide⟩
theorem led_range {target : PySem.Expr} {body : List Stmt} {r : Addr} {a b c : Int} {t u v : Tok} {n : Nat} {m : Str → Option Value} {news : List (Addr × Obj)} (J : Inv) (hh : A.handled = none) (hr : IsRange s.heap r a b c t u v) (hsmall : Builtin.Range.small a b c = true) (hn : Builtin.Range.rangeSize a b c = (n : Int)) (F : Fr h₀ L s.heap m) (N : News h₀ L s.heap news) (hJ : J 0 m news s.gens)
    (turn : ∀ I i t m₁ news₁ h tk gs o, i < n → J i m₁ news₁ gs → Fr h₀ L h m₁ → News h₀ L h ((I, o) :: news₁) → ItRng a c n (i + 1) o → (∀ q ∈ news₁, q.1 ≠ I) →
      wpAny (model prog w) A (assign target env (.int (a + (i : Nat) * c) t)) (fun _ s₃ => wpAny (model prog w) A (execs body env) (LedStep h₀ L s I (ItRng a c n) J Q i) E s₃) E { s with heap := h, gens := gs, toks := tk })
    (done : ∀ m₁ news₁ h tk gs, J n m₁ news₁ gs → Fr h₀ L h m₁ → News h₀ L h news₁ → Q .next { s with heap := h, gens := gs, toks := tk }) :
    LedPre prog w A h₀ L env target body Q E (.ref r) s := by
  unfold LedPre
  have hf : ∀ q ∈ news, q.1 ≠ s.heap.objs.size := fun q hq => Nat.ne_of_lt (Heap.lt_size (N q hq).1)
  have D := iterRng (prog := prog) (w := w) (A := A) hh s.heap.objs.size a c n
  refine wpAny_pyIter_range hr hsmall ?_
  refine ⟨_, _, _, _, _, _, m, news, J, rfl, D, ?_, F.push _, N.push F _, hf, hJ, fun _ _ _ _ _ _ _ _ => trivial, ?_, done⟩
  · show _ = _
    rw [hn]
    simp
  · rintro i v m₁ news₁ h tk gs o hi ⟨t, rfl⟩ hJ₁ F₁ N₁ hIt hne
    exact turn _ i t m₁ news₁ h tk gs o hi hJ₁ F₁ N₁ hIt hne
end
end Mine
end
noncomputable section
open PySem PySem.W PySem.Calls PyProof.Rows PyProof.V PySem.Spec Mine
set_option Elab.async false
set_option maxRecDepth 100000
set_option maxHeartbeats 4000000
namespace Mine
section
variable {prog : Program} {w : World} {A : Around} {E : Value → Shared → Prop} {s : Shared} {h₀ : Heap} {L : Addr} {m : Str → Option Value} {news : List (Addr × Obj)} {Q : Value → Shared → Prop}
theorem lst_item {value slice : PySem.Expr} {l : Addr} {items : List Value} {n : Nat} {k : Int} {u : Tok} {v : Value} (N : News h₀ L s.heap news) (hm : (l, lstO items n) ∈ news)
    (h0 : 0 ≤ k) (hfit : k < 2 ^ 63) (hx : items[k.toNat]? = some v) (h : Q v s)
    (hs : subscripted slice false (.ref l) (.int k u) = operate [.ref l, .int k u] (getItem (.ref l) (.int k u))) :
    wpAny (model prog w) A (subscriptTail value slice (.ref l) (.int k u)) Q E s :=
  tail_any (News.isList N hm).typeIs slot_list_getitem.lookup (getItem_listL (News.isList N hm) h0 hfit hx h) hs
theorem lst_extend_tup {D b : Addr} {its its2 : List Value} {n : Nat} (F : Fr h₀ L s.heap m) (N : News h₀ L s.heap news) (hD : (D, lstO its n) ∈ news) (hb : (b, tupO its2) ∈ news) (hne : its2 ≠ [])
    (hz : its.length + its2.length ≤ 1000)
    (h : ∀ h', Fr h₀ L h' m → News h₀ L h' (setAt D (lstO (its ++ its2) (n + 1)) news) → Q .none { s with heap := h' }) : wpAny (model prog w) A (call (.builtin "list.extend") [.ref D, .ref b]) Q E s := by
  have z := N _ hD
  have hs1 : its.length ≤ sizeLine := by rw [sizeLine_eq]; omega
  refine call_meets PySem.F.slot_list_extend ⟨_, z.1, rfl⟩ PySem.F.entry_list_extend (PySem.F.args_list_extend_2 _ _) (PySem.AutoSeq1.list_extend_list_tuple_0 D its.toArray n b its2.toArray 0 ?_ (by simpa using hs1) ?_) ⟨z.1, (N _ hb).1, h _ (F.change (Heap.SameBut.update ..) z.2.1 z.2.2) (news_setAt N hD (Heap.SameBut.update ..) ?_)⟩
  · simp [Builtin.List.listTooLong]
    intros
    rw [sizeLine_eq]
    omega
  · simp only [List.size_toArray]
    rw [sizeLine_eq]
    omega
  · rw [Heap.get?_update_self _ z.1 (by simp [Obj.mapSeq, Obj.isFreed])]
    have : its2.length ≠ 0 := fun e => hne (List.eq_nil_of_length_eq_zero e)
    simp [Obj.mapSeq, this]
end
end Mine
end
noncomputable section
open PySem PySem.W PySem.Calls PyProof.Rows Mine Builtin Builtin.Str
set_option Elab.async false
set_option maxRecDepth 100000
set_option maxHeartbeats 4000000
namespace Mine
def occL (o : List Nat) : Nat → Nat → List Nat → List Nat
  | _, _, [] => []
  | i, 0, c :: x => if (c :: x).take o.length = o then i :: occL o (i + 1) (o.length - 1) x else occL o (i + 1) 0 x
  | i, k + 1, _ :: x => occL o (i + 1) k x
/-- replace, on plain lists: from the left, what is found gives way, and is not looked at again -/
def rp {α : Type} [DecidableEq α] (o n : List α) : Nat → List α → List α
  | _, [] => []
  | 0, c :: x => if (c :: x).take o.length = o then n ++ rp o n (o.length - 1) x else c :: rp o n 0 x
  | k + 1, _ :: x => rp o n k x
theorem occ_list (s sub : Str) (limit : Nat) (ho : 1 ≤ sub.length) : ∀ (n i : Nat) (found : Array Nat) (free : Nat), i + n = s.length + 1 → found.size + n ≤ limit →
    (forIn (List.range' i n) (found, free) (StrLaws.occBody s sub s.length limit)).run.fst.toList = found.toList ++ occL sub.cps.toList i (free - i) (s.cps.toList.drop i)
  | 0, i, found, free, hi, _ => by
    have e : s.cps.toList.drop i = [] := List.drop_eq_nil_of_le (by show s.cps.toList.length ≤ i; rw [Array.length_toList]; show s.length ≤ i; omega)
    rw [e, occL]
    simp
  | n + 1, i, found, free, hi, hl => by
    rw [List.range'_succ, List.forIn_cons]
    have hlen : s.cps.toList.length = s.length := Array.length_toList
    have hol : sub.cps.toList.length = sub.length := Array.length_toList
    unfold StrLaws.occBody
    by_cases hend : i < s.length
    · have hd : s.cps.toList.drop i = s.cps.toList[i]'(by omega) :: s.cps.toList.drop (i + 1) := List.drop_eq_getElem_cons (by omega)
      by_cases hf : free ≤ i
      · have hz : free - i = 0 := by omega
        by_cases hm : (s.cps.toList.drop i).take sub.cps.toList.length = sub.cps.toList
        · have hsz : i + sub.length ≤ s.length := by
            have e := congrArg List.length hm
            rw [List.length_take, List.length_drop, hlen, hol] at e
            omega
          have hat : subAt s sub i = true := by rw [StrLaws.subAt_eq, beq_iff_eq, ← hol]; exact hm
          rw [if_pos ⟨⟨⟨by dsimp only; omega, hf⟩, hsz⟩, hat⟩]
          have ih := occ_list s sub limit ho n (i + 1) (found.push i) (i + sub.length) (by omega) (by rw [Array.size_push]; omega)
          refine Eq.trans ih ?_
          rw [hd] at hm ⊢
          rw [hz, occL, if_pos hm, Array.toList_push, List.append_assoc]
          have e : i + sub.length - (i + 1) = sub.cps.toList.length - 1 := by omega
          rw [e]; rfl
        · have hat : ¬ subAt s sub i = true := by rw [StrLaws.subAt_eq, beq_iff_eq, ← hol]; exact hm
          rw [if_neg fun h => hat h.2]
          have ih := occ_list s sub limit ho n (i + 1) found free (by omega) (by omega)
          refine Eq.trans ih ?_
          rw [hd] at hm ⊢
          rw [hz, occL, if_neg hm, show free - (i + 1) = 0 by omega]
      · rw [if_neg fun h => hf h.1.1.2]
        have ih := occ_list s sub limit ho n (i + 1) found free (by omega) (by omega)
        refine Eq.trans ih ?_
        rw [hd, show free - i = (free - (i + 1)) + 1 by omega, occL]
    · have e : s.cps.toList.drop i = [] := List.drop_eq_nil_of_le (by omega)
      have e' : s.cps.toList.drop (i + 1) = [] := List.drop_eq_nil_of_le (by omega)
      rw [if_neg fun h => by have := h.1.2; omega]
      have ih := occ_list s sub limit ho n (i + 1) found free (by omega) (by omega)
      refine Eq.trans ih ?_
      rw [e, e', occL, occL]
def gl (X N : List Nat) (w : Nat) : Nat → List Nat → List Nat
  | a, [] => X.drop a
  | a, c :: cs => (X.drop a).take (c - a) ++ N ++ gl X N w (c + w) cs
theorem glue_list (x n : Str) (w : Nat) : ∀ (cuts : List Nat) (a : Nat), (glued n (((a :: cuts.map (· + w)).zip (cuts ++ [x.length])).map fun (i, j) => strSub x i j)).cps.toList = gl x.cps.toList n.cps.toList w a cuts
  | [], a => by
    rw [StrLaws.glued_eq_join]
    show (strSub x a x.length).cps.toList = _
    rw [StrLaws.strSub_toList, gl]
    refine List.take_of_length_le ?_
    rw [List.length_drop, Array.length_toList]
    exact Nat.le_refl _
  | c :: cs, a => by
    have ih := glue_list x n w cs (c + w)
    rw [StrLaws.glued_eq_join] at ih ⊢
    have e : (((a :: (c :: cs).map (· + w)).zip ((c :: cs) ++ [x.length])).map fun (i, j) => strSub x i j) = strSub x a c :: ((((c + w) :: cs.map (· + w)).zip (cs ++ [x.length])).map fun (i, j) => strSub x i j) := rfl
    rw [e]
    obtain ⟨y, r, hr⟩ : ∃ y r, ((((c + w) :: cs.map (· + w)).zip (cs ++ [x.length])).map fun (i, j) => strSub x i j) = y :: r := by
      cases cs with
      | nil => exact ⟨_, _, rfl⟩
      | cons d ds => exact ⟨_, _, rfl⟩
    rw [hr] at ih ⊢
    show (strSub x a c ++ n ++ Str.join n (y :: r)).cps.toList = _
    rw [Str.cps_append, Str.cps_append, Array.toList_append, Array.toList_append, ih, StrLaws.strSub_toList, gl]
theorem gl_rp (X o N : List Nat) (ho : 1 ≤ o.length) : ∀ (y : List Nat) (i : Nat), X.drop i = y →
    (∀ a, a ≤ i → gl X N o.length a (occL o i 0 y) = (X.drop a).take (i - a) ++ rp o N 0 y) ∧ (∀ k, gl X N o.length (i + k) (occL o i k y) = rp o N k y)
  | [], i, h => by
    have hle : X.length ≤ i := List.drop_eq_nil_iff.mp h
    refine ⟨fun a ha => ?_, fun k => ?_⟩
    · rw [occL, gl, rp, List.append_nil, List.take_of_length_le (by rw [List.length_drop]; omega)]
    · rw [occL, gl, rp, List.drop_eq_nil_of_le (by omega)]
  | c :: y, i, h => by
    have h' : X.drop (i + 1) = y := by rw [← List.drop_drop, h]; rfl
    have hc : X[i]? = some c := by
      have e : (X.drop i)[0]? = some c := by rw [h]; rfl
      rwa [List.getElem?_drop, Nat.add_zero] at e
    obtain ⟨ih1, ih2⟩ := gl_rp X o N ho y (i + 1) h'
    have first : ∀ a, a ≤ i → gl X N o.length a (occL o i 0 (c :: y)) = (X.drop a).take (i - a) ++ rp o N 0 (c :: y) := by
      intro a ha
      rw [occL, rp]
      by_cases hm : (c :: y).take o.length = o
      · rw [if_pos hm, if_pos hm, gl, show i + o.length = (i + 1) + (o.length - 1) by omega, ih2, List.append_assoc]
      · rw [if_neg hm, if_neg hm, ih1 a (by omega), show i + 1 - a = (i - a) + 1 by omega, List.take_add_one, List.getElem?_drop, show a + (i - a) = i by omega, hc, List.append_assoc]
        rfl
    refine ⟨first, fun k => ?_⟩
    cases k with
    | zero =>
      have := first i (Nat.le_refl _)
      rw [Nat.sub_self, List.take_zero, List.nil_append] at this
      exact this
    | succ k =>
      rw [occL, rp, show i + (k + 1) = (i + 1) + k by omega]
      exact ih2 k
theorem rp_short {α : Type} [DecidableEq α] (o n : List α) : ∀ y : List α, y.length < o.length → rp o n 0 y = y
  | [], _ => rfl
  | c :: y, h => by
    have hm : ¬ (c :: y).take o.length = o := fun e => by
      have := congrArg List.length e
      rw [List.length_take] at this
      omega
    rw [rp, if_neg hm, rp_short o n y (Nat.lt_trans (Nat.lt_succ_self _) h)]
theorem kind_ge (x : Str) : 1 ≤ Builtin.Str.strKind x := by unfold Builtin.Str.strKind; split; exact Nat.le_refl _; split <;> decide
theorem repl_rp (x o n : Str) (ho : 1 ≤ o.length) (hk : Builtin.Str.strKind o = 1) : (repl x o n).cps.toList = rp o.cps.toList n.cps.toList 0 x.cps.toList := by
  have hol : o.cps.toList.length = o.length := Array.length_toList
  have hxl : x.cps.toList.length = x.length := Array.length_toList
  have h1 : ∀ x : Str, glued n [x] = x := fun x => (StrLaws.glued_eq_join n [x]).trans rfl
  have hocc : occurrences x o 0 x.length (x.length + 1) = occL o.cps.toList 0 0 x.cps.toList := by
    rw [StrLaws.occ_eq]
    exact (occ_list x o (x.length + 1) ho (x.length + 1) 0 #[] 0 (by omega) (by simp)).trans (by simp)
  have hC := ((gl_rp x.cps.toList o.cps.toList n.cps.toList (by omega) x.cps.toList 0 rfl).1 0 (Nat.le_refl _))
  rw [Nat.sub_self, List.take_zero, List.nil_append] at hC
  unfold repl Txt.join Txt.split
  split
  · rename_i h
    rw [h1]
    have hlt : x.length < o.length := by
      rcases (Bool.or_eq_true _ _).mp h with h | h
      · exact of_decide_eq_true h
      · have h2 := of_decide_eq_true h
        have := kind_ge x
        omega
    rw [rp_short _ _ _ (by omega)]
  · split
    · rename_i h
      rw [h1, ← hC]
      rw [hocc] at h
      rw [List.isEmpty_iff.mp h, gl]; rfl
    · rw [hocc, ← hC, ← hol]
      exact glue_list x n _ _ 0
section
variable {α β : Type} [DecidableEq α] [DecidableEq β]
theorem map_inj' {f : α → β} (hf : ∀ a b, f a = f b → a = b) : ∀ {x y : List α}, x.map f = y.map f → x = y
  | [], [], _ => rfl
  | [], _ :: _, h => by cases h
  | _ :: _, [], h => by cases h
  | a :: x, b :: y, h => by
    rw [List.map_cons, List.map_cons] at h
    injection h with h1 h2
    rw [hf a b h1, map_inj' hf h2]
theorem rp_map {f : α → β} (hf : ∀ a b, f a = f b → a = b) (o n : List α) : ∀ (x : List α) (k : Nat), rp (o.map f) (n.map f) k (x.map f) = (rp o n k x).map f
  | [], k => by cases k <;> rfl
  | c :: x, 0 => by
    have hm : ((c :: x).map f).take (o.map f).length = o.map f ↔ (c :: x).take o.length = o := by
      rw [List.length_map, ← List.map_take]
      exact ⟨fun h => map_inj' hf h, fun h => by rw [h]⟩
    rw [List.map_cons, rp, rp]
    rw [List.map_cons] at hm
    by_cases h : (c :: x).take o.length = o
    · rw [if_pos h, if_pos (hm.mpr h), List.map_append, List.length_map, rp_map hf o n x]
    · rw [if_neg h, if_neg fun e => h (hm.mp e), List.map_cons]
      have := rp_map hf o n x 0
      rw [this]
  | c :: x, k + 1 => by
    rw [List.map_cons, rp, rp]
    exact rp_map hf o n x k
end
end Mine
end
noncomputable section
open PySem PySem.W PySem.Calls PyProof PyProof.Rows PyProof.V PySem.Spec Mine Builtin Builtin.Str
set_option Elab.async false
set_option maxRecDepth 100000
set_option maxHeartbeats 4000000
set_option linter.unusedVariables false
namespace Mine
theorem sliceIdx_clip (a b len : Nat) : strSliceIndices (some (a : Int)) (some (b : Int)) 1 len = strSliceIndices (some ((min a len : Nat) : Int)) (some ((min b len : Nat) : Int)) 1 len := by
  simp only [strSliceIndices, show ((1 : Int) > 0) = True from by simp, if_true]
  congr 1 <;> omega
theorem txt_slice (x : Str) (a n : Nat) : (Txt.slice x (some (a : Int)) (some ((a : Int) + (n : Int)))).cps.toList = (x.cps.toList.drop a).take n := by
  have hlen : x.cps.toList.length = x.length := Array.length_toList
  rw [← Int.natCast_add]
  have key : (strSliceIndices (some (a : Int)) (some ((a + n : Nat) : Int)) 1 x.length).filterMap (x.cps[·]?) = (x.cps.toList.drop a).take n := by
    rw [sliceIdx_clip, StrLaws.sliced_plain x (by omega) (by omega)]
    by_cases h : a ≤ x.length
    · rw [show min a x.length = a by omega]
      by_cases h2 : a + n ≤ x.length
      · rw [show min (a + n) x.length - a = n by omega]
      · rw [List.take_of_length_le (by rw [List.length_drop]; omega), List.take_of_length_le (by rw [List.length_drop]; omega)]
    · rw [List.drop_eq_nil_of_le (by omega), List.drop_eq_nil_of_le (by omega)]
      simp
  unfold Txt.slice
  split
  · rename_i h
    have h2 : (strSliceIndices (some (a : Int)) (some ((a + n : Nat) : Int)) 1 x.length).length = x.length := by simpa using h
    have h3 : (strSliceIndices (some (a : Int)) (some ((a + n : Nat) : Int)) 1 x.length).filterMap (x.cps[·]?) = x.cps.toList := by
      rw [sliceIdx_clip, StrLaws.strSliceIndices_plain (by omega) (by omega), List.length_map, List.length_range] at h2
      rw [key]
      by_cases hz : x.length = 0
      · have : x.cps.toList = [] := List.eq_nil_of_length_eq_zero (by omega)
        rw [this]; simp
      · rw [show a = 0 by omega, List.drop_zero, List.take_of_length_le (by omega)]
    rw [← key, h3]
  · rw [key]
theorem item_list (x : Str) (a : Nat) (h : a < x.length) : ∃ c, (Txt.item x (a : Int)).cps.toList = [c] ∧ x.cps.toList.drop a = c :: x.cps.toList.drop (a + 1) := by
  have hlen : x.cps.toList.length = x.length := Array.length_toList
  refine ⟨x.cps.toList[a]'(by omega), ?_, List.drop_eq_getElem_cons (by omega)⟩
  have e : seqIndex? (a : Int) x.length = some a := by
    have h0 : ¬ ((a : Int) < 0) := by omega
    have h1 : (a : Int) < x.length := by omega
    have h3 : (0 : Int) ≤ a := by omega
    simp only [seqIndex?, if_neg h0]
    rw [if_pos (by simp [h3, h1])]
    rfl
  have h' : a < x.cps.size := h
  simp [Txt.item, Txt.charAt, e, h']
theorem rp_drop {α : Type} [DecidableEq α] (o n : List α) : ∀ (k : Nat) (x : List α), rp o n k x = rp o n 0 (x.drop k)
  | 0, _ => rfl
  | k + 1, [] => by simp [rp]
  | k + 1, c :: x => by rw [rp, rp_drop o n k x]; rfl
end Mine
namespace Mine
theorem lenL (x : Str) : x.cps.toList.length = x.length := Array.length_toList
theorem str_ext' {a b : Str} (h : a.cps.toList = b.cps.toList) : a = b := Str.ext' (Array.toList_inj.mp h)
theorem walk_hit {y d o n : Str} {a : Nat} (h : (Txt.slice y (some (a : Int)) (some ((a : Int) + (o.length : Int))) == o) = true) (ho : 1 ≤ o.length) (ha : (a : Int) < (y.length : Int))
    (hd : d.cps.toList ++ rp o.cps.toList n.cps.toList 0 (y.cps.toList.drop a) = rp o.cps.toList n.cps.toList 0 y.cps.toList) :
    (d ++ n).cps.toList ++ rp o.cps.toList n.cps.toList 0 (y.cps.toList.drop (a + o.length)) = rp o.cps.toList n.cps.toList 0 y.cps.toList ∧ a + o.length ≤ y.length := by
  have e : (y.cps.toList.drop a).take o.length = o.cps.toList := by
    have h' := beq_iff_eq.mp h
    rw [← txt_slice y a o.length, h']
  have hl := lenL y
  have hlen : a + o.length ≤ y.length := by
    have := congrArg List.length e
    rw [List.length_take, List.length_drop, lenL, lenL] at this
    omega
  refine ⟨?_, hlen⟩
  have hdr : y.cps.toList.drop a = y.cps.toList[a]'(by omega) :: y.cps.toList.drop (a + 1) := List.drop_eq_getElem_cons (by omega)
  rw [← hd, hdr, rp]
  rw [hdr] at e
  rw [lenL o, if_pos e, rp_drop _ _ (o.length - 1), List.drop_drop, Str.cps_append, Array.toList_append, List.append_assoc, show a + 1 + (o.length - 1) = a + o.length by omega]
theorem walk_miss {y d o n : Str} {a : Nat} (h : (Txt.slice y (some (a : Int)) (some ((a : Int) + (o.length : Int))) == o) = false) (ha : (a : Int) < (y.length : Int))
    (hd : d.cps.toList ++ rp o.cps.toList n.cps.toList 0 (y.cps.toList.drop a) = rp o.cps.toList n.cps.toList 0 y.cps.toList) :
    (d ++ Txt.item y (a : Int)).cps.toList ++ rp o.cps.toList n.cps.toList 0 (y.cps.toList.drop (a + 1)) = rp o.cps.toList n.cps.toList 0 y.cps.toList := by
  have e : ¬ (y.cps.toList.drop a).take o.length = o.cps.toList := by
    intro e
    rw [← txt_slice y a o.length] at e
    rw [str_ext' e] at h
    simp at h
  obtain ⟨c, hc, hdr⟩ := item_list y a (by omega)
  rw [hdr] at e
  rw [← hd, hdr, rp, lenL o, if_neg e, Str.cps_append, Array.toList_append, hc, List.append_assoc]
  rfl
theorem walk_end {y d o n : Str} {a : Nat} (ho : 1 ≤ o.length) (hk : Builtin.Str.strKind o = 1) (ha : a ≤ y.length) (hn : ¬ (a : Int) < (y.length : Int))
    (hd : d.cps.toList ++ rp o.cps.toList n.cps.toList 0 (y.cps.toList.drop a) = rp o.cps.toList n.cps.toList 0 y.cps.toList) : d = repl y o n := by
  apply str_ext'
  rw [repl_rp _ _ _ ho hk, ← hd, List.drop_eq_nil_of_le (by rw [lenL]; omega), rp, List.append_nil]
theorem replAll_snoc (q : Pr) : ∀ (ps : List Pr) (x : Str), replAll x (ps ++ [q]) = repl (replAll x ps) q.o q.n
  | [], _ => rfl
  | _ :: ps, x => replAll_snoc q ps _
theorem replAll_take {ps : List Pr} {i : Nat} {q : Pr} (h : ps[i]? = some q) (x : Str) : replAll x (ps.take (i + 1)) = repl (replAll x (ps.take i)) q.o q.n := by
  rw [List.take_add_one, h]
  exact replAll_snoc q _ x
theorem txt_from (x : Str) (a : Nat) : (Txt.slice x (some (a : Int)) none).cps.toList = x.cps.toList.drop a := by
  have e : strSliceIndices (some (a : Int)) none 1 x.length = strSliceIndices (some (a : Int)) (some ((a : Int) + (x.length : Int))) 1 x.length := by
    simp only [strSliceIndices, show ((1 : Int) > 0) = True from by simp, if_true]
    congr 1
    omega
  have e2 : Txt.slice x (some (a : Int)) none = Txt.slice x (some (a : Int)) (some ((a : Int) + (x.length : Int))) := by unfold Txt.slice; rw [e]
  rw [e2, txt_slice, List.take_of_length_le (by rw [List.length_drop, lenL]; omega)]
end Mine
end
noncomputable section
open PySem PySem.W PySem.Calls PyProof PyProof.Rows PyProof.V PySem.Spec Mine Builtin Builtin.Str
set_option Elab.async false
set_option maxRecDepth 100000
set_option maxHeartbeats 4000000
set_option linter.unusedVariables false
namespace Mine
section
variable {prog : Program} {w : World} {A : Around} {E : Value → Shared → Prop} {s : Shared} {h₀ : Heap} {L : Addr} {m : Str → Option Value} {news : List (Addr × Obj)} {Q : Value → Shared → Prop}
theorem index_k {x y : Str} {t u : Tok} {k : Nat} (hf : Txt.find x y = (k : Int)) (h : Q (.int (k : Int) s.toks) { s with toks := s.toks + 1 }) :
    wpAny (model prog w) A (call (.builtin "str.index") [.str x t, .str y u]) Q E s := by
  cases ho : occurrences x y 0 x.length 1 with
  | nil =>
    have e : Txt.find x y = -1 := by simp [Txt.find, ho]
    omega
  | cons i rest =>
    have e : Txt.find x y = (i : Int) := by simp [Txt.find, ho]
    refine SC.index ho ?_
    have e2 : i = k := by omega
    subst e2
    exact h
theorem lst_from {value slice : PySem.Expr} {l : Addr} {items : List Value} {n : Nat} {k : Int} {u : Tok} (F : Fr h₀ L s.heap m) (N : News h₀ L s.heap news) (hm : (l, lstO items n) ∈ news) (hk : 0 ≤ k) (hz : items.length ≤ sizeLine)
    (hs : subscripted slice false (.ref l) (.ref s.heap.objs.size) = operate [.ref s.heap.objs.size, .ref l] (getItem (.ref l) (.ref s.heap.objs.size))) (hg : ∀ x, letTemporaryGo value (.ref l) x = pure ())
    (h : ∀ D h', Fr h₀ L h' m → News h₀ L h' ((D, lstO (items.drop k.toNat) 0) :: news) → (∀ p ∈ news, p.1 < D) → Q (.ref D) { s with heap := h' }) :
    wpAny (model prog w) A (subscriptTail value slice (.ref l) (.ref s.heap.objs.size)) Q E { s with heap := s.heap.push { cls := .type "slice", data := .fields #[.int k u, .none, .none] } } := by
  refine PyProof.Rows.slice_list F N (News.isList N hm) (.int k u) .none (fun h' F' N' => ?_) hs hg (by simpa using hz)
  rw [pick_from items k hk] at N'
  exact h _ h' F' N' fun p hp => Nat.lt_succ_of_lt (Heap.lt_size (N p hp).1)
theorem add_l {a b : Addr} {xs ys : List Value} {n k : Nat} (F : Fr h₀ L s.heap m) (N : News h₀ L s.heap news) (ha : (a, lstO xs n) ∈ news) (hb : (b, lstO ys k) ∈ news) (hz : xs.length + ys.length ≤ 1000)
    (h : ∀ D h', Fr h₀ L h' m → News h₀ L h' ((D, lstO (xs ++ ys) 0) :: news) → (∀ p ∈ news, p.1 < D) → Q (.ref D) { s with heap := h' }) :
    wpAny (model prog w) A (binaryOp .Add (.ref a) (.ref b)) Q E s :=
  add_arrays F N (News.isList N ha) (News.isList N hb) (fun h' F' N' => h _ h' F' N' fun p hp => Heap.lt_size (N p hp).1) (by rw [sizeLine_eq, List.size_toArray, List.size_toArray]; omega)
end
theorem join0' : ∀ l : List Str, (Txt.join (Str.ofString "") l).cps.toList = (l.map (·.cps.toList)).flatten := by
  intro l
  unfold Txt.join
  rw [StrLaws.glued_eq_join]
  induction l with
  | nil => rfl
  | cons x r ih =>
    cases r with
    | nil => show x.cps.toList = _; simp
    | cons y t =>
      show (x ++ Str.ofString "" ++ Str.join (Str.ofString "") (y :: t)).cps.toList = _
      rw [Str.cps_append, Str.cps_append, Array.toList_append, Array.toList_append, ih, show (Str.ofString "").cps.toList = [] from by decide +kernel]
      simp
end Mine
end
noncomputable section
open PySem PySem.W PySem.Calls PyProof PyProof.Rows PyProof.V PySem.Spec Mine Builtin Builtin.Str
set_option Elab.async false
set_option maxRecDepth 100000
set_option maxHeartbeats 4000000
set_option linter.unusedVariables false
namespace Mine
def LcPost (prog : Program) (w : World) (A : Around) (env : Env) (scope : Scope) (cl : List (Str × Addr)) (x : Str) (ifs : List PySem.Expr) (elt : PySem.Expr) (p : Value → Bool) (F : Value → Value → Prop) (Q : Value → Shared → Prop) (it : Value) (s₂ : Shared) : Prop :=
  ∃ I fp wr n P St, it = .ref I ∧ Walks prog w A I fp wr n P St ∧ n ≤ sizeLine ∧ St 0 s₂.heap ∧ (∀ b ∈ fp, b < s₂.heap.objs.size) ∧
      QuietOnC prog w A env scope cl x ifs elt wr P p F s₂ ∧
      (∀ D h' tk ys (vs : List Value), s₂.heap.get? D = none → h'.IsList D ys → h'.PlainList D ys → vs.length = n → (∀ j v, vs[j]? = some v → P j v) → Paired F (vs.filter p) ys.toList →
        (∀ b o, b ∉ wr → s₂.heap.get? b = some o → h'.get? b = some o) → Q (.ref D) { s₂ with heap := h', toks := tk })
section
variable {prog : Program} {w : World} {A : Around} {E : Value → Shared → Prop} {s : Shared} {env : Env} {h₀ : Heap} {L : Addr} {m : Str → Option Value} {news : List (Addr × Obj)}
theorem lc_free {elt iter : PySem.Expr} {x : Str} {px : Pos} {ifs : List PySem.Expr} {scope : Scope} {cl : List (Str × Addr)} {pos : Pos} {Q : Value → Shared → Prop} (p : Value → Bool) (F : Value → Value → Prop)
    (hclos : closureFor scope env = pure cl) (hcell : ∀ y ∈ scope.names, y.2 ≠ .cell) (hkind : scope.kind = .function)
    (hnames : ∀ y ∈ scope.names, y.2 = .local → scope.names.lookup y.1 = some .local) (hx : scope.names.lookup x = some .local)
    (hs : ∀ x, foldedSetIterable iter env x = pure x)
    (h : wpAny (model prog w) A (eval iter env) (fun xv s₁ => wpAny (model prog w) A (pyIter xv) (LcPost prog w A env scope cl x ifs elt p F Q) E s₁) E s) :
    wpAny (model prog w) A (eval (.ListComp elt [⟨.Name x px, iter, ifs, 0⟩] scope pos) env) Q E s :=
  wpAny_ListComp_free p F hclos hcell hkind hnames hx h hs
/-- the pieces of a text that stand above the blank and below the sign of a table -/
def pcP (y : Str) : Value → Bool
  | .str x _ => decide ((Str.ofString " ").cps.toList < x.cps.toList) && decide (x.cps.toList < y.cps.toList)
  | _ => false
theorem paired_len {F : Value → Value → Prop} : ∀ {xs ys : List Value}, Paired F xs ys → xs.length = ys.length
  | _, _, .nil => rfl
  | _, _, .cons _ h => congrArg (· + 1) (paired_len h)
theorem signs_filter {x y : Str} : ∀ {vs : List Value}, vs.length = x.cps.size → (∀ j v, vs[j]? = some v → SignAt x j v) → (vs.filter (pcP y)).length = (x.cps.toList.filter fun c => decide ((Str.ofString " ").cps.toList < [c]) && decide ([c] < y.cps.toList)).length := by
  intro vs hl hP
  have e : vs.map (fun v => match v with | .str z _ => z.cps.toList | _ => []) = x.cps.toList.map fun c => [c] := by
    apply List.ext_getElem?
    intro j
    rw [List.getElem?_map, List.getElem?_map]
    by_cases hj : j < vs.length
    · have h1 : vs[j]? = some vs[j] := List.getElem?_eq_getElem hj
      obtain ⟨c, u, hc, hv⟩ := hP j _ h1
      have h2 : x.cps.toList[j]? = some c := by rw [Array.getElem?_toList]; exact hc
      rw [h1, h2, hv]; rfl
    · rw [List.getElem?_eq_none (by omega), List.getElem?_eq_none (by rw [Array.length_toList]; omega)]
      rfl
  have h1 : ∀ l : List Value, (∀ v ∈ l, ∃ z u, v = .str z u) → (l.filter (pcP y)).length = ((l.map (fun v => match v with | .str z _ => z.cps.toList | _ => [])).filter fun q => decide ((Str.ofString " ").cps.toList < q) && decide (q < y.cps.toList)).length := by
    intro l
    induction l with
    | nil => intro _; rfl
    | cons v l ih =>
      intro hl
      obtain ⟨z, u, rfl⟩ := hl v List.mem_cons_self
      have := ih fun v hv => hl v (List.mem_cons_of_mem _ hv)
      rw [List.map_cons, List.filter_cons, List.filter_cons]
      show (if pcP y (.str z u) = true then _ else _ : List Value).length = (if (decide ((Str.ofString " ").cps.toList < z.cps.toList) && decide (z.cps.toList < y.cps.toList)) = true then _ else _ : List (List Nat)).length
      have e2 : pcP y (.str z u) = (decide ((Str.ofString " ").cps.toList < z.cps.toList) && decide (z.cps.toList < y.cps.toList)) := rfl
      rw [e2]
      split
      · rw [List.length_cons, List.length_cons, this]
      · exact this
  rw [h1 vs, e, List.filter_map, List.length_map]
  · rfl
  · intro v hv
    obtain ⟨j, hj⟩ := List.getElem?_of_mem hv
    obtain ⟨c, u, hc, rfl⟩ := hP j v hj
    exact ⟨_, _, rfl⟩
theorem lc_signs {x : Str} {t tz : Tok} {z : Int} {c : Addr} {oc : Obj} {scope : Scope} {cl : List (Str × Addr)} {p1 p2 p3 p4 p5 p6 p7 : Pos} {k1 k2 : Nat} {Q : Value → Shared → Prop}
    (hh : A.handled = none) (F : Fr h₀ L s.heap m) (N : News h₀ L s.heap news) (hm : (c, oc) ∈ news) (hd : oc.data = .cell (some (.int z tz))) (hlc : cl.lookup (Str.ofString "k") = some c)
    (hk : scope.kind = .function) (hkx : ∀ C, (compEnvC scope cl C env).kindOf (Str.ofString "piece") = some .local) (hkk : ∀ C, (compEnvC scope cl C env).kindOf (Str.ofString "k") = some .cell)
    (hz0 : 1 ≤ z) (hz1 : z < 5) (hx : x.length ≤ 1000)
    (h : ∀ D n h' tk ys, ys.length = (x.cps.toList.filter fun c => decide ((Str.ofString " ").cps.toList < [c]) && decide ([c] < (Txt.item (Str.ofString "abcde") z).cps.toList)).length → Fr h₀ L h' m → News h₀ L h' ((D, lstO ys n) :: news) → Q (.ref D) { s with heap := h', toks := tk }) :
    wpAny (model prog w) A (pyIter (.str x t)) (LcPost prog w A env scope cl (Str.ofString "piece") [.Compare (.Constant (.str (Str.ofString " ")) k1 p1) [.Lt, .Lt] [.Name (Str.ofString "piece") p2, .Subscript (.Constant (.str (Str.ofString "abcde")) k2 p3) (.Name (Str.ofString "k") p4) p5] p6] (.Name (Str.ofString "piece") p7)
      (pcP (Txt.item (Str.ofString "abcde") z)) (fun _ _ => True) Q) E s := by
  refine wpAny_pyIter_str fun o St W hst => ?_
  refine ⟨s.heap.objs.size, _, [s.heap.objs.size], _, _, St, rfl, W A hh, (by rw [sizeLine_eq]; show x.length ≤ _; omega), hst, ?_, ⟨?_, ?_⟩, ?_⟩
  · intro b hb
    rw [List.mem_singleton.mp hb]
    show _ < (s.heap.push _).objs.size
    rw [Heap.size_push]
    exact Nat.lt_succ_self _
  · rintro C i v s₃ m₃ E' _ ⟨c₁, u, hc₁, rfl⟩ hn hmx hkp _
    have up : ∀ b' o, s.heap.get? b' = some o → s₃.heap.get? b' = some o := fun b' o' e => hkp b' o' (fun hm' => Nat.lt_irrefl _ ((List.mem_singleton.mp hm') ▸ Heap.lt_size e)) (Heap.get?_push_of_some _ e)
    refine wpAny_tests_one (isTrue_chain (wpAny_Constant_str (test_link (wpAny_Name (wpAny_loadName_local hk (hkx C) hn hmx (lt_str (wpAny_truthy_bool ?_))) (by decide)))) (by with_unfolding_all rfl))
    by_cases h1 : (Str.ofString " ").cps.toList < (⟨#[c₁]⟩ : Str).cps.toList
    · rw [if_pos (decide_eq_true h1)]
      refine test_last (Subscript_ (wpAny_Constant_str (wpAny_Name (wpAny_loadName_cell hk (hkk C) hlc ⟨oc, up _ _ (N.get hm), hd⟩ ?_) (by decide))))
      have hl5 : (Str.ofString "abcde").length = 5 := by decide +kernel
      refine item_str (fitsSsize_of (N := 9223372036854775808) (by omega) (by omega) (Int.le_refl _)) (by rw [hl5]; omega) (by rw [hl5]; omega) (fun _ => ?_) (by with_unfolding_all rfl) (by intro _; with_unfolding_all rfl)
      refine lt_str (wpAny_truthy_bool ⟨?_, s₃.heap, _, rfl, fun _ _ e => e⟩)
      show _ = (decide _ && decide _)
      rw [decide_eq_true h1, Bool.true_and]
    · rw [if_neg (by rw [decide_eq_false h1]; exact Bool.false_ne_true)]
      refine ⟨?_, s₃.heap, _, rfl, fun _ _ e => e⟩
      show _ = (decide _ && decide _)
      rw [decide_eq_false h1, Bool.false_and]
  · rintro C i v s₃ m₃ E' _ ⟨c₁, u, hc₁, rfl⟩ _ hn hmx hkp _
    exact wpAny_Name (wpAny_loadName_local hk (hkx C) hn hmx ⟨trivial, s₃.heap, s₃.toks, rfl, fun _ _ e => e⟩) (by decide)
  · intro D h' tk ys vs hD hlD hplD hlen hP hF hk'
    have up : ∀ b' o, s.heap.get? b' = some o → h'.get? b' = some o := fun b' o' e => hk' b' o' (fun hm' => Nat.lt_irrefl _ ((List.mem_singleton.mp hm') ▸ Heap.lt_size e)) (Heap.get?_push_of_some _ e)
    have hnone : h₀.get? D = none := by
      cases e : h₀.get? D with
      | none => rfl
      | some o' => rw [Heap.get?_push_of_some _ (F.keep _ _ e)] at hD; cases hD
    obtain ⟨n, N2⟩ := made_enters (items := ys) ⟨hplD, fun p hp e => by rw [← e, Heap.get?_push_of_some _ (N p hp).1] at hD; cases hD⟩ (F.keeps up) (N.grown up) hnone
    have hcount := signs_filter (y := Txt.item (Str.ofString "abcde") z) hlen hP
    rw [paired_len hF] at hcount
    have N3 : News h₀ L h' ((D, lstO ys.toList n) :: news) := by
      show News h₀ L h' ((D, { cls := .type "list", data := .seq ys.toList.toArray n }) :: news)
      rw [Array.toArray_toList]
      exact N2
    exact h D n h' tk ys.toList hcount (F.keeps up) N3
end
end Mine
end
noncomputable section
open PySem PySem.W PySem.Calls PyProof.Rows PyProof.V PySem.Spec Mine
set_option Elab.async false
set_option maxRecDepth 100000
set_option maxHeartbeats 4000000
namespace Mine
def subL (l l' : List (Addr × Obj)) : Prop := ∀ q ∈ l, q ∈ l'
theorem subL.but {I : Addr} {o : Obj} {n₀ n₁ X : List (Addr × Obj)} (h : subL n₀ n₁) (hne : ∀ q ∈ n₁, q.1 ≠ I) (h2 : subL ((I, o) :: n₁) X) : subL n₀ (but I X) :=
  fun q hq => but_mem.mpr ⟨h2 q (.tail _ (h q hq)), hne q (h q hq)⟩
theorem subL.refl (l : List (Addr × Obj)) : subL l l := fun _ h => h
theorem subL.cons {x : Addr × Obj} {l l' : List (Addr × Obj)} (h : subL l l') : subL l (x :: l') := fun q hq => .tail _ (h q hq)
theorem subL.trans {l₁ l₂ l₃ : List (Addr × Obj)} (a : subL l₁ l₂) (b : subL l₂ l₃) : subL l₁ l₃ := fun q h => b q (a q h)
/-- the thirteen rules of the second law; the first four keep one letter or none -/
def rules02 (kept : Int) : List (Str × Str) :=
  [(Str.ofString "11", Txt.mul (Str.ofString "1") kept), (Str.ofString "22", Txt.mul (Str.ofString "2") kept), (Str.ofString "33", Txt.mul (Str.ofString "3") kept), (Str.ofString "44", Txt.mul (Str.ofString "4") kept), (Str.ofString "31", Str.ofString "13"), (Str.ofString "41", Str.ofString "14"), (Str.ofString "42", Str.ofString "24"),
   (Str.ofString "212", Str.ofString "121"), (Str.ofString "323", Str.ofString "232"), (Str.ofString "434", Str.ofString "343"), (Str.ofString "3213", Str.ofString "2321"), (Str.ofString "4324", Str.ofString "3432"), (Str.ofString "43214", Str.ofString "34321")]
def rule02 (kept : Int) (i : Nat) : Str × Str := (rules02 kept).getD i default
def idx02 (sm : Int) (k : Nat) : Int := (sm + (1 + (sm.fdiv 13).fmod 12) * k).fmod 13
def pairs02 (sm kept : Int) (n : Nat) : List (Str × Str) := (List.range n).map fun k => rule02 kept (idx02 sm k).toNat
/-- items that are pairs of texts -/
def RIn (X : List (Addr × Obj)) : List Value → List (Str × Str) → Prop
  | v :: vs, q :: qs => (∃ t a b, v = .ref t ∧ (t, tupO [.str q.1 a, .str q.2 b]) ∈ X) ∧ RIn X vs qs
  | [], [] => True
  | _, _ => False
theorem RIn.get {X : List (Addr × Obj)} : ∀ {vs : List Value} {qs : List (Str × Str)}, RIn X vs qs → ∀ i, i < qs.length → ∃ t a b, vs[i]? = some (.ref t) ∧ (t, tupO [.str (qs.getD i default).1 a, .str (qs.getD i default).2 b]) ∈ X
  | [], [], _, i, hi => absurd hi (Nat.not_lt_zero _)
  | _ :: _, _ :: _, ⟨⟨t, a, b, e, h⟩, _⟩, 0, _ => ⟨t, a, b, congrArg some e, h⟩
  | _ :: _, _ :: _, ⟨_, h⟩, i + 1, hi => h.get i (Nat.lt_of_succ_lt_succ hi)
theorem RIn.len {X : List (Addr × Obj)} : ∀ {vs : List Value} {qs : List (Str × Str)}, RIn X vs qs → vs.length = qs.length
  | [], [], _ => rfl
  | _ :: _, _ :: _, ⟨_, h⟩ => congrArg (· + 1) h.len
theorem RIn.sub {X Y : List (Addr × Obj)} (hs : subL X Y) : ∀ {vs : List Value} {qs : List (Str × Str)}, RIn X vs qs → RIn Y vs qs
  | [], [], _ => trivial
  | _ :: _, _ :: _, ⟨⟨t, a, b, e, h⟩, r⟩ => ⟨⟨t, a, b, e, hs _ h⟩, r.sub hs⟩
theorem prVals_append (a b : List Pr) : prVals (a ++ b) = prVals a ++ prVals b := by
  induction a with
  | nil => rfl
  | cons q r ih => simp only [List.cons_append, prVals, ih]
theorem pairs02_succ (sm kept : Int) (n : Nat) : pairs02 sm kept (n + 1) = pairs02 sm kept n ++ [rule02 kept (idx02 sm n).toNat] := by
  unfold pairs02; rw [List.range_succ, List.map_append]; rfl
theorem idx02_bd (sm : Int) (k : Nat) : 0 ≤ idx02 sm k ∧ idx02 sm k < 13 := by
  unfold idx02
  rw [Int.fmod_eq_emod_of_nonneg _ (by decide)]
  exact ⟨Int.emod_nonneg _ (by decide), Int.emod_lt_of_pos _ (by decide)⟩
theorem rules02_len (kept : Int) : (rules02 kept).length = 13 := rfl
theorem tup_ne_lst {us vs : List Value} {n : Nat} : tupO us ≠ lstO vs n := by
  intro e; injection e with e1; injection e1 with e2; exact absurd e2 (by decide)
def PJ02 (gs₀ : Array GenState) (X₀ : List (Addr × Obj)) (nm : List (Str × Value)) (Dp : Addr) (sm kept : Int) : Inv := fun i m₁ news₁ gs =>
  gs = gs₀ ∧ (∃ mr, m₁ = lay nm mr) ∧ (∀ q ∈ X₀, q.1 ≠ Dp → q ∈ news₁) ∧ ∃ ps n, (Dp, lstO (prVals ps) n) ∈ news₁ ∧ (ps.map fun q => (q.o, q.n)) = pairs02 sm kept i
end Mine
end
noncomputable section
open PySem PySem.W PySem.Calls PyProof PyProof.Rows PyProof.V PySem.Spec Mine
set_option Elab.async false
set_option maxRecDepth 100000
set_option maxHeartbeats 4000000
set_option linter.unusedVariables false
namespace Mine
/-- a word at which the walk rests -/
def Cut (R : Flow → Shared → Prop) (fl : Flow) (s' : Shared) : Prop := R fl s'
/-- a piece of the row: as many blanks as its number, its letter -/
def pieceFP (k : Nat) : Str × Str := (Txt.mul (Str.ofString " ") (k : Int), ⟨#[97 + k]⟩)
def swapR (b : Bool) : List Nat → List Nat
  | x :: y :: t => if b || decide (x < y) then y :: x :: t else x :: y :: t
  | r => r
def stepF (b : Bool) (r : List Nat) (f : Nat) : List Nat := r.take f ++ swapR b (r.drop f)
def rowF (b : Bool) (l : List Nat) : List Nat := l.foldl (stepF b) [0, 1, 2, 3, 4]
def rowStr (r : List Nat) : Str := ⟨(r.flatMap fun k => List.replicate k 32 ++ [97 + k]).toArray⟩
def strF (l : List Nat) : Str := ⟨(l.map (· + 49)).toArray⟩
theorem strF_len (l : List Nat) : (strF l).length = l.length := by simp [strF, Str.length]
theorem strF_cps (l : List Nat) : (strF l).cps.toList = l.map (· + 49) := by simp [strF]
theorem strF_get {l : List Nat} {i c : Nat} (h : (strF l).cps[i]? = some c) : ∃ f, l[i]? = some f ∧ c = f + 49 := by
  have h' : (l.map (· + 49))[i]? = some c := by simpa [strF] using h
  rw [List.getElem?_map] at h'
  obtain ⟨f, h1, h2⟩ := Option.map_eq_some_iff.mp h'
  exact ⟨f, h1, h2.symm⟩
theorem rowF_snoc (b : Bool) (l : List Nat) (f : Nat) : rowF b (l ++ [f]) = stepF b (rowF b l) f := by unfold rowF; rw [List.foldl_append]; rfl
theorem rowF_take {b : Bool} {l : List Nat} {i f : Nat} (h : l[i]? = some f) : rowF b (l.take (i + 1)) = stepF b (rowF b (l.take i)) f := by
  rw [List.take_add_one, h]; exact rowF_snoc b _ f
theorem swapR_perm (b : Bool) : ∀ r : List Nat, (swapR b r).length = r.length ∧ ∀ x, x ∈ swapR b r ↔ x ∈ r
  | [] => ⟨rfl, fun _ => Iff.rfl⟩
  | [a] => ⟨rfl, fun _ => Iff.rfl⟩
  | a :: c :: t => by
    show (if b || decide (a < c) then c :: a :: t else a :: c :: t).length = _ ∧ ∀ x, x ∈ (if b || decide (a < c) then c :: a :: t else a :: c :: t) ↔ _
    by_cases hc : (b || decide (a < c)) = true
    · rw [if_pos hc]; exact ⟨rfl, fun x => by simp only [List.mem_cons]; constructor <;> (rintro (h | h | h) <;> simp [h])⟩
    · rw [if_neg hc]; exact ⟨rfl, fun _ => Iff.rfl⟩
theorem stepF_ok (b : Bool) (r : List Nat) (f : Nat) : (stepF b r f).length = r.length ∧ ∀ x, x ∈ stepF b r f ↔ x ∈ r := by
  obtain ⟨h1, h2⟩ := swapR_perm b (r.drop f)
  unfold stepF
  refine ⟨by rw [List.length_append, h1, ← List.length_append, List.take_append_drop], fun x => ?_⟩
  rw [List.mem_append, h2, ← List.mem_append, List.take_append_drop]
theorem rowF_ok (b : Bool) (l : List Nat) : (rowF b l).length = 5 ∧ ∀ x ∈ rowF b l, x < 5 := by
  have : ∀ (l r : List Nat), (r.length = 5 ∧ ∀ x ∈ r, x < 5) → ((l.foldl (stepF b) r).length = 5 ∧ ∀ x ∈ l.foldl (stepF b) r, x < 5) := by
    intro l
    induction l with
    | nil => exact fun r h => h
    | cons f l ih =>
      intro r h
      obtain ⟨h1, h2⟩ := stepF_ok b r f
      exact ih _ ⟨h1.trans h.1, fun x hx => h.2 x ((h2 x).mp hx)⟩
  exact this l _ (by decide)
theorem find_abcde (k : Nat) (h : k < 5) : Txt.find (Str.ofString "abcde") ⟨#[97 + k]⟩ = (k : Int) := by
  have : ∀ k : Fin 5, Txt.find (Str.ofString "abcde") ⟨#[97 + k.val]⟩ = (k.val : Int) := by decide +kernel
  exact this ⟨k, h⟩
theorem find_1234 (k : Nat) (h : k < 4) : Txt.find (Str.ofString "1234") ⟨#[k + 49]⟩ = (k : Int) := by
  have : ∀ k : Fin 4, Txt.find (Str.ofString "1234") ⟨#[k.val + 49]⟩ = (k.val : Int) := by decide +kernel
  exact this ⟨k, h⟩
theorem is_1 (k : Nat) : ((⟨#[k + 49]⟩ : Str) == Str.ofString "1") = decide (k = 0) := by
  have e : Str.ofString "1" = ⟨#[49]⟩ := by decide +kernel
  rw [e, Bool.eq_iff_iff, beq_iff_eq, decide_eq_true_iff]
  constructor
  · intro h
    have := congrArg (fun x : Str => x.cps.toList) h
    simp at this
    exact this
  · rintro rfl; rfl
theorem abcde_get {i c : Nat} (h : (Str.ofString "abcde").cps[i]? = some c) : i < 5 ∧ c = 97 + i := by
  have hi : i < 5 := (Array.getElem?_eq_some_iff.mp h).1
  refine ⟨hi, ?_⟩
  have : ∀ k : Fin 5, (Str.ofString "abcde").cps[k.val]? = some (97 + k.val) := by decide +kernel
  have h2 := this ⟨i, hi⟩
  rw [h] at h2
  exact Option.some.inj h2
theorem blank_cps (k : Nat) : (Txt.mul (Str.ofString " ") (k : Int)).cps.toList = List.replicate k 32 := by
  have e : (Str.ofString " ").cps = #[32] := by decide +kernel
  have hl : (Str.ofString " ").length = 1 := by decide +kernel
  unfold Txt.mul
  split
  · have : k = 0 := by omega
    subst this; rfl
  · split
    · rename_i h
      have : k = 1 := by
        rw [hl] at h
        simp at h
        omega
      subst this
      rw [e]; rfl
    · rw [e]
      have : ∀ (n : Nat) (a : Array Nat), ((List.replicate n #[32]).foldl (· ++ ·) a).toList = a.toList ++ List.replicate n 32 := by
        intro n
        induction n with
        | zero => intro a; simp
        | succ n ih =>
          intro a
          rw [List.replicate_succ, List.foldl_cons, ih, Array.toList_append, List.replicate_succ]
          simp
      refine (this _ _).trans ?_
      simp
theorem row_text {r : List Nat} {pcs : List Pc} (h : pcs.map Pc.fp = r.map pieceFP) : pileText pcs = rowStr r := by
  apply str_ext'
  unfold pileText
  have e1 : pcs.map pcText = r.map fun k => Txt.join (Str.ofString "") [(pieceFP k).1, (pieceFP k).2] := by
    have h1 : pcs.map pcText = (pcs.map Pc.fp).map fun q => Txt.join (Str.ofString "") [q.1, q.2] := by rw [List.map_map]; rfl
    rw [h1, h, List.map_map]; rfl
  have e2 : Txt.join ("" : Str) (pcs.map pcText) = Txt.join (Str.ofString "") (pcs.map pcText) := rfl
  rw [e2, e1, join0', List.map_map]
  unfold rowStr
  rw [List.flatMap]
  congr 1
  refine List.map_congr_left fun k _ => ?_
  show (Txt.join (Str.ofString "") [(pieceFP k).1, (pieceFP k).2]).cps.toList = _
  rw [join0']
  simp [pieceFP, blank_cps]
theorem row_first {i : Nat} (h : i < 5) {x : List (Str × Str)} (hx : x = ([0, 1, 2, 3, 4].take i).map pieceFP := by rfl) : x ++ [pieceFP i] = ([0, 1, 2, 3, 4].take (i + 1)).map pieceFP := by
  subst hx
  match i, h with
  | 0, _ => rfl
  | 1, _ => rfl
  | 2, _ => rfl
  | 3, _ => rfl
  | 4, _ => rfl
  | n + 5, h => omega
theorem two_left {r : List Nat} {f : Nat} (h : r.length = 5) (hf : f < 4) : ∃ x0 x1 xs, r.drop f = x0 :: x1 :: xs := by
  have hl : (r.drop f).length = 5 - f := by rw [List.length_drop, h]
  cases e : r.drop f with
  | nil => rw [e] at hl; simp at hl; omega
  | cons x0 t =>
    cases t with
    | nil => rw [e] at hl; simp at hl; omega
    | cons x1 xs => exact ⟨x0, x1, xs, rfl⟩
theorem two_pcs {r xs : List Nat} {f x0 x1 : Nat} {pcs : List Pc} (hT : pcs.map Pc.fp = r.map pieceFP) (h : r.drop f = x0 :: x1 :: xs) : ∃ c0 c1 cs', pcs.drop f = c0 :: c1 :: cs' ∧ c0.fp = pieceFP x0 ∧ c1.fp = pieceFP x1 ∧ cs'.map Pc.fp = xs.map pieceFP := by
  have e : (pcs.drop f).map Pc.fp = (r.drop f).map pieceFP := by rw [List.map_drop, hT, List.map_drop]
  rw [h] at e
  cases e2 : pcs.drop f with
  | nil => rw [e2] at e; cases e
  | cons c0 t =>
    cases t with
    | nil => rw [e2] at e; injection e with _ e; cases e
    | cons c1 cs' =>
      rw [e2] at e
      injection e with h1 e
      injection e with h2 e
      exact ⟨c0, c1, cs', rfl, h1, h2, e⟩
theorem lt_piece (x y : Nat) : decide ((⟨#[97 + x]⟩ : Str).cps.toList < (⟨#[97 + y]⟩ : Str).cps.toList) = decide (x < y) := by
  show decide ([97 + x] < [97 + y]) = _
  rw [StrLaws.lt_cons_cons, StrLaws.lt_nil_nil]
  simp
theorem lt_pieces {c0 c1 : Pc} {x0 x1 : Nat} (h0 : c0.fp = pieceFP x0) (h1 : c1.fp = pieceFP x1) : c0.p.cps.toList < c1.p.cps.toList ↔ x0 < x1 := by
  have e0 : c0.p = ⟨#[97 + x0]⟩ := congrArg Prod.snd h0
  have e1 : c1.p = ⟨#[97 + x1]⟩ := congrArg Prod.snd h1
  rw [e0, e1]
  have := lt_piece x0 x1
  exact ⟨fun h => of_decide_eq_true (this ▸ decide_eq_true h), fun h => of_decide_eq_true (this.symm ▸ decide_eq_true h)⟩
theorem swap_mem {c c0 c1 : Pc} {cs : List Pc} (h : c ∈ [c1, c0] ++ cs) : c ∈ c0 :: c1 :: cs := by
  simp only [List.cons_append, List.nil_append, List.mem_cons] at h ⊢
  rcases h with h | h | h <;> simp [h]
theorem swap_yes {b : Bool} {c0 c1 : Pc} {cs : List Pc} {x0 x1 : Nat} {xs : List Nat} (h0 : c0.fp = pieceFP x0) (h1 : c1.fp = pieceFP x1) (h2 : cs.map Pc.fp = xs.map pieceFP) (hb : (b || decide (x0 < x1)) = true) :
    ([c1, c0] ++ cs).map Pc.fp = (swapR b (x0 :: x1 :: xs)).map pieceFP := by
  have e : swapR b (x0 :: x1 :: xs) = x1 :: x0 :: xs := if_pos hb
  rw [e]
  simp [h0, h1, h2]
theorem swap_no {b : Bool} {c0 c1 : Pc} {cs : List Pc} {x0 x1 : Nat} {xs : List Nat} (h0 : c0.fp = pieceFP x0) (h1 : c1.fp = pieceFP x1) (h2 : cs.map Pc.fp = xs.map pieceFP) (hb : (b || decide (x0 < x1)) = false) :
    ([c0, c1] ++ cs).map Pc.fp = (swapR b (x0 :: x1 :: xs)).map pieceFP := by
  have e : swapR b (x0 :: x1 :: xs) = x0 :: x1 :: xs := if_neg (by rw [hb]; exact Bool.false_ne_true)
  rw [e]
  simp [h0, h1, h2]
def PushJ (C p d : Addr) (gs₀ : Array GenState) (X₀ : List (Addr × Obj)) (nm : List (Str × Value)) (T : Nat → List (Str × Str)) : Inv := fun i m₁ news₁ gs =>
  gs = gs₀ ∧ (∃ mr, m₁ = lay nm mr) ∧ Mine.Keeps p X₀ news₁ ∧ ∃ pcs, Pile C news₁ p d pcs ∧ pcs.map Pc.fp = T i
theorem get_v' {l : List Pc} {j : Nat} {v : Value} (h : (l.map Pc.v)[j]? = some v) : ∃ c, l[j]? = some c ∧ v = .ref c.a := by
  rw [List.getElem?_map] at h
  obtain ⟨c, h1, h2⟩ := Option.map_eq_some_iff.mp h
  exact ⟨c, h1, h2.symm⟩
theorem take_next' {l : List Pc} {base : List (Str × Str)} {q : List (Str × Str)} {j : Nat} {c : Pc} (hc : l[j]? = some c) (hq : q = base ++ (l.map Pc.fp).take j) : q ++ [c.fp] = base ++ (l.map Pc.fp).take (j + 1) := by
  rw [hq, List.take_add_one, List.getElem?_map, hc, List.append_assoc]; rfl
theorem pieceFP_len (k : Nat) : (pieceFP k).1.length + (pieceFP k).2.length = k + 1 := by
  have h1 : (pieceFP k).1.length = k := by
    rw [← lenL]
    show (Txt.mul (Str.ofString " ") (k : Int)).cps.toList.length = k
    rw [blank_cps, List.length_replicate]
  rw [h1]; rfl
theorem row_weight {r : List Nat} {pcs : List Pc} (h : pcs.map Pc.fp = r.map pieceFP) (hr : r.length = 5 ∧ ∀ x ∈ r, x < 5) : (pcs.map fun c => c.f.length + c.p.length).sum + pcs.length ≤ 100000 := by
  have e1 : (pcs.map fun c => c.f.length + c.p.length) = r.map (· + 1) := by
    have h1 : (pcs.map fun c => c.f.length + c.p.length) = (pcs.map Pc.fp).map fun q => q.1.length + q.2.length := by rw [List.map_map]; rfl
    rw [h1, h, List.map_map]
    exact List.map_congr_left fun k _ => pieceFP_len k
  have e2 : pcs.length = 5 := by
    have := congrArg List.length h
    rw [List.length_map, List.length_map] at this
    omega
  have e3 : ∀ r : List Nat, (∀ x ∈ r, x < 5) → (r.map (· + 1)).sum ≤ 5 * r.length := by
    intro r
    induction r with
    | nil => intro _; exact Nat.le_refl _
    | cons x r ih =>
      intro hx
      have h1 := hx x List.mem_cons_self
      have h2 := ih fun y hy => hx y (List.mem_cons_of_mem _ hy)
      simp only [List.map_cons, List.sum_cons, List.length_cons]
      omega
  have := e3 r hr.2
  rw [e1, e2]
  omega
theorem item_abcde {i : Nat} {z : Int} (h : i < 4) (hz : 1 + (i : Int) * 1 = z) : Txt.item (Str.ofString "abcde") z = ⟨#[97 + (i + 1)]⟩ := by
  subst hz
  have : ∀ k : Fin 4, Txt.item (Str.ofString "abcde") (1 + (k.val : Int) * 1) = ⟨#[97 + (k.val + 1)]⟩ := by decide +kernel
  exact this ⟨i, h⟩
end Mine
end
noncomputable section
open PySem PySem.W PySem.Calls PyProof PyProof.Rows PyProof.V PySem.Spec Mine
set_option Elab.async false
set_option maxRecDepth 100000
set_option maxHeartbeats 4000000
set_option linter.unusedVariables false
namespace Mine
def cntL (x : Str) (i k : Nat) : Nat := ((x.cps.toList.drop i).filter fun c => decide (32 < c) && decide (c < 97 + k)).length
theorem cntL_le (x : Str) (i k : Nat) : cntL x i k ≤ x.length := by
  unfold cntL
  refine Nat.le_trans (List.length_filter_le _ _) ?_
  rw [List.length_drop, lenL]
  omega
theorem cnt_eq (x : Str) (i k : Nat) : ((Txt.slice x (some (i : Int)) none).cps.toList.filter fun c => decide ((Str.ofString " ").cps.toList < [c]) && decide ([c] < (⟨#[97 + k]⟩ : Str).cps.toList)).length = cntL x i k := by
  rw [txt_from]
  unfold cntL
  congr 2
  funext c
  have e : (Str.ofString " ").cps.toList = [32] := by decide +kernel
  have e2 : (⟨#[97 + k]⟩ : Str).cps.toList = [97 + k] := rfl
  rw [e, e2, StrLaws.lt_cons_cons, StrLaws.lt_cons_cons, StrLaws.lt_nil_nil]
  simp
def wordS (x : Str) (ix : Nat → Nat) : Nat → Str
  | 0 => Str.ofString ""
  | k + 1 => wordS x ix k ++ Txt.slice (Str.ofString "4321") (some (4 - (1 + (k : Int) * 1))) (some (4 - (1 + (k : Int) * 1) + (cntL x (ix (k + 1)) (k + 1) : Int)))
end Mine
end
noncomputable section
open PySem PySem.W PySem.Calls PyProof PyProof.Rows PyProof.V PySem.Spec Mine
set_option Elab.async false
set_option maxRecDepth 100000
set_option maxHeartbeats 4000000
set_option linter.unusedVariables false
namespace Mine
abbrev Rl := List Nat × List Nat
def rulesN (k : Nat) : List Rl :=
  let d (f : Nat) : List Nat := if k = 0 then [] else [f]
  [([0, 0], d 0), ([1, 1], d 1), ([2, 2], d 2), ([3, 3], d 3), ([2, 0], [0, 2]), ([3, 0], [0, 3]), ([3, 1], [1, 3]),
   ([1, 0, 1], [0, 1, 0]), ([2, 1, 2], [1, 2, 1]), ([3, 2, 3], [2, 3, 2]), ([2, 1, 0, 2], [1, 2, 1, 0]), ([3, 2, 1, 3], [2, 3, 2, 1]), ([3, 2, 1, 0, 3], [2, 3, 2, 1, 0])]
def strR (r : Rl) : Str × Str := (strF r.1, strF r.2)
def pairsN (sm : Int) (k : Nat) : List Rl := (List.range 13).map fun i => (rulesN k).getD (idx02 sm i).toNat ([], [])
def rpAll (l : List Nat) : List Rl → List Nat
  | [] => l
  | r :: rs => rpAll (rp r.1 r.2 0 l) rs
theorem rules_eq (k : Nat) (hk : k < 2) : rules02 (k : Int) = (rulesN k).map strR := by
  have : ∀ k : Fin 2, rules02 (k.val : Int) = (rulesN k.val).map strR := by decide +kernel
  exact this ⟨k, hk⟩
theorem rulesN_len (k : Nat) : (rulesN k).length = 13 := rfl
theorem rule_eq (k i : Nat) (hk : k < 2) (hi : i < 13) : rule02 (k : Int) i = strR ((rulesN k).getD i ([], [])) := by
  unfold rule02
  rw [rules_eq k hk]
  simp [List.getD_eq_getElem?_getD, List.getElem?_map, List.getElem?_eq_getElem (show i < (rulesN k).length from hi)]
theorem pairs_eq (sm : Int) (k : Nat) (hk : k < 2) : pairs02 sm (k : Int) 13 = (pairsN sm k).map strR := by
  unfold pairs02 pairsN
  rw [List.map_map]
  refine List.map_congr_left fun i _ => ?_
  obtain ⟨h0, h1⟩ := idx02_bd sm i
  exact rule_eq k _ hk (by omega)
theorem pairsN_mem (sm : Int) (k : Nat) : ∀ r ∈ pairsN sm k, r ∈ rulesN k := by
  intro r hr
  obtain ⟨i, _, rfl⟩ := List.mem_map.mp hr
  obtain ⟨h0, h1⟩ := idx02_bd sm i
  have hi : (idx02 sm i).toNat < (rulesN k).length := by rw [rulesN_len]; omega
  rw [List.getD_eq_getElem?_getD, List.getElem?_eq_getElem hi]
  exact List.getElem_mem hi
theorem idx_hits : ∀ a : Fin 13, ∀ c : Fin 12, ∀ t : Fin 13, ∃ i : Fin 13, (a.val + (1 + c.val) * i.val) % 13 = t.val := by decide +kernel
theorem idx02_nat (sm : Int) (i : Nat) : (idx02 sm i).toNat = ((sm % 13).toNat + (1 + (sm / 13 % 12).toNat) * i) % 13 := by
  unfold idx02
  rw [Int.fmod_eq_emod_of_nonneg _ (by decide), Int.fmod_eq_emod_of_nonneg _ (by decide), Int.fdiv_eq_ediv_of_nonneg _ (by decide)]
  have h1 : 0 ≤ sm / 13 % 12 := Int.emod_nonneg _ (by decide)
  have h2 : 0 ≤ sm % 13 := Int.emod_nonneg _ (by decide)
  generalize hq : sm / 13 % 12 = q at h1
  obtain ⟨q', rfl⟩ := Int.eq_ofNat_of_zero_le h1
  generalize hr : sm % 13 = r at h2
  obtain ⟨r', rfl⟩ := Int.eq_ofNat_of_zero_le h2
  have e : (sm + (1 + (q' : Int)) * (i : Int)) % 13 = (((r' + (1 + q') * i) % 13 : Nat) : Int) := by
    rw [Int.natCast_emod, Int.natCast_add, Int.natCast_mul, Int.natCast_add, ← hr]
    show _ = (sm % 13 + (1 + (q' : Int)) * (i : Int)) % 13
    rw [Int.emod_add_emod]
  rw [e]
  exact Int.toNat_natCast _
theorem pairsN_all (sm : Int) (k : Nat) : ∀ r ∈ rulesN k, r ∈ pairsN sm k := by
  intro r hr
  obtain ⟨t, ht, he⟩ := List.getElem_of_mem hr
  have h1 : 0 ≤ sm / 13 % 12 := Int.emod_nonneg _ (by decide)
  have h1' : sm / 13 % 12 < 12 := Int.emod_lt_of_pos _ (by decide)
  have h2 : 0 ≤ sm % 13 := Int.emod_nonneg _ (by decide)
  have h2' : sm % 13 < 13 := Int.emod_lt_of_pos _ (by decide)
  obtain ⟨i, hi⟩ := idx_hits ⟨(sm % 13).toNat, by omega⟩ ⟨(sm / 13 % 12).toNat, by omega⟩ ⟨t, ht⟩
  refine List.mem_map.mpr ⟨i.val, List.mem_range.mpr i.isLt, ?_⟩
  have e2 : (idx02 sm i.val).toNat = t := (idx02_nat sm i.val).trans hi
  rw [e2, List.getD_eq_getElem?_getD, List.getElem?_eq_getElem ht]
  exact he
theorem rule_kind : ∀ k : Fin 2, ∀ r ∈ rulesN k.val, Builtin.Str.strKind (strF r.1) = 1 ∧ 1 ≤ r.1.length ∧ r.2.length ≤ r.1.length ∧ r.1.length ≤ 5 := by decide +kernel
theorem strF_inj {a b : List Nat} (h : strF a = strF b) : a = b := by
  have := congrArg (fun x : Str => x.cps.toList) h
  simp only [strF_cps] at this
  exact map_inj' (fun _ _ e => by omega) this
theorem repl_F (l o n : List Nat) (ho : 1 ≤ o.length) (hk : Builtin.Str.strKind (strF o) = 1) : repl (strF l) (strF o) (strF n) = strF (rp o n 0 l) := by
  apply str_ext'
  rw [repl_rp _ _ _ (by rw [strF_len]; exact ho) hk, strF_cps, strF_cps, strF_cps, strF_cps, rp_map (fun _ _ e => by omega)]
theorem replAll_F : ∀ (ps : List Pr) (rs : List Rl) (l : List Nat), (ps.map fun q => (q.o, q.n)) = rs.map strR → (∀ r ∈ rs, Builtin.Str.strKind (strF r.1) = 1 ∧ 1 ≤ r.1.length) → replAll (strF l) ps = strF (rpAll l rs)
  | [], [], _, _, _ => rfl
  | [], _ :: _, _, h, _ => by cases h
  | _ :: _, [], _, h, _ => by cases h
  | p :: ps, r :: rs, l, h, hk => by
    rw [List.map_cons, List.map_cons] at h
    injection h with h1 h2
    have e1 : p.o = strF r.1 := congrArg Prod.fst h1
    have e2 : p.n = strF r.2 := congrArg Prod.snd h1
    obtain ⟨k1, k2⟩ := hk r List.mem_cons_self
    show replAll (repl (strF l) p.o p.n) ps = strF (rpAll (rp r.1 r.2 0 l) rs)
    rw [e1, e2, repl_F l r.1 r.2 k2 k1]
    exact replAll_F ps rs _ h2 fun q hq => hk q (List.mem_cons_of_mem _ hq)
/-- a word as a number: what makes the exchanges end -/
def val (l : List Nat) : Nat := l.foldl (fun v f => v * 5 + (f + 1)) 0
theorem val_go : ∀ (l : List Nat) (v : Nat), l.foldl (fun v f => v * 5 + (f + 1)) v = v * 5 ^ l.length + val l
  | [], v => by simp [val]
  | f :: l, v => by
    unfold val
    rw [List.foldl_cons, List.foldl_cons, val_go l, val_go l (0 * 5 + (f + 1)), List.length_cons, Nat.pow_succ, Nat.add_mul, Nat.mul_assoc, Nat.mul_comm 5, Nat.zero_mul, Nat.zero_add, Nat.add_assoc]
theorem val_append (a b : List Nat) : val (a ++ b) = val a * 5 ^ b.length + val b := by
  show (a ++ b).foldl _ 0 = _
  rw [List.foldl_append, val_go b]; rfl
theorem val_mono {a b c : List Nat} (h1 : val b ≤ val c) (h2 : b.length ≤ c.length) : val (a ++ b) ≤ val (a ++ c) := by
  rw [val_append, val_append]
  exact Nat.add_le_add (Nat.mul_le_mul_left _ (Nat.pow_le_pow_right (by decide) h2)) h1
theorem val_lt {o n b : List Nat} (h : val n < val o) : val (n ++ b) < val (o ++ b) := by
  rw [val_append, val_append]
  exact Nat.add_lt_add_right (Nat.mul_lt_mul_of_pos_right h (Nat.pow_pos (by decide))) _
theorem take_split {o x : List Nat} (h : x.take o.length = o) : x = o ++ x.drop o.length := by
  have := (List.take_append_drop o.length x).symm
  rwa [h] at this
theorem rp_val {o n : List Nat} (ho : 1 ≤ o.length) (hv : val n < val o) (hl : n.length ≤ o.length) : ∀ (N : Nat) (x : List Nat), x.length ≤ N → (rp o n 0 x).length ≤ x.length ∧ (rp o n 0 x = x ∧ (∀ i, i < x.length → ¬ (x.drop i).take o.length = o) ∨ val (rp o n 0 x) < val x)
  | _, [], _ => ⟨Nat.le_refl _, .inl ⟨rfl, fun i hi => absurd hi (Nat.not_lt_zero _)⟩⟩
  | 0, c :: x, h => by simp at h
  | N + 1, c :: x, h => by
    rw [List.length_cons] at h
    by_cases hm : (c :: x).take o.length = o
    · have e : rp o n 0 (c :: x) = n ++ rp o n 0 ((c :: x).drop o.length) := by
        rw [rp, if_pos hm, rp_drop]
        congr 2
        rw [show o.length = (o.length - 1) + 1 by omega]
        rfl
      have hd : ((c :: x).drop o.length).length ≤ N := by rw [List.length_drop, List.length_cons]; omega
      obtain ⟨h1, h2⟩ := rp_val ho hv hl N _ hd
      have hs := take_split hm
      generalize (c :: x).drop o.length = y at e h1 h2 hs hd
      rw [e]
      rw [hs]
      refine ⟨by rw [List.length_append, List.length_append]; omega, .inr ?_⟩
      have h3 : val (rp o n 0 y) ≤ val y := by
        rcases h2 with ⟨h2, _⟩ | h2
        · rw [h2]; exact Nat.le_refl _
        · exact Nat.le_of_lt h2
      exact Nat.lt_of_le_of_lt (val_mono h3 h1) (val_lt hv)
    · have e : rp o n 0 (c :: x) = [c] ++ rp o n 0 x := by rw [rp, if_neg hm]; rfl
      obtain ⟨h1, h2⟩ := rp_val ho hv hl N x (by omega)
      rw [e]
      refine ⟨by rw [List.length_append, List.length_cons]; simp; omega, ?_⟩
      rcases h2 with ⟨h2, h3⟩ | h2
      · refine .inl ⟨by rw [h2]; rfl, fun i hi => ?_⟩
        cases i with
        | zero => exact hm
        | succ i => exact h3 i (by rw [List.length_cons] at hi; omega)
      · refine .inr ?_
        show _ < val ([c] ++ x)
        rw [val_append, val_append]
        exact Nat.add_lt_add_of_le_of_lt (Nat.mul_le_mul_left _ (Nat.pow_le_pow_right (by decide) h1)) h2
def Free (o l : List Nat) : Prop := ∀ i, i < l.length → ¬ (l.drop i).take o.length = o
theorem rule_val : ∀ k : Fin 2, ∀ r ∈ rulesN k.val, val r.2 < val r.1 := by decide +kernel
theorem rpAll_val {k : Nat} (hk : k < 2) : ∀ (rs : List Rl) (l : List Nat), (∀ r ∈ rs, r ∈ rulesN k) → (rpAll l rs).length ≤ l.length ∧ ((rpAll l rs = l ∧ ∀ r ∈ rs, Free r.1 l) ∨ val (rpAll l rs) < val l)
  | [], l, _ => ⟨Nat.le_refl _, .inl ⟨rfl, fun _ h => nomatch h⟩⟩
  | r :: rs, l, h => by
    have hr := h r List.mem_cons_self
    obtain ⟨_, k1, k2, _⟩ := rule_kind ⟨k, hk⟩ r hr
    obtain ⟨h1, h2⟩ := rp_val k1 (rule_val ⟨k, hk⟩ r hr) k2 _ l (Nat.le_refl _)
    obtain ⟨h3, h4⟩ := rpAll_val hk rs (rp r.1 r.2 0 l) fun q hq => h q (List.mem_cons_of_mem _ hq)
    refine ⟨Nat.le_trans h3 h1, ?_⟩
    show (rpAll (rp r.1 r.2 0 l) rs = l ∧ _) ∨ val (rpAll (rp r.1 r.2 0 l) rs) < _
    rcases h2 with ⟨h2, h5⟩ | h2
    · rw [h2] at h4 ⊢
      rcases h4 with ⟨h4, h6⟩ | h4
      · refine .inl ⟨h4, fun q hq => ?_⟩
        rcases List.mem_cons.mp hq with rfl | hq
        · exact h5
        · exact h6 q hq
      · exact .inr h4
    · refine .inr ?_
      rcases h4 with ⟨h4, _⟩ | h4
      · rw [h4]; exact h2
      · exact Nat.lt_trans h4 h2
/-- the words that no rule meets -/
def nfs : List (List Nat) :=
  [[], [0]].flatMap fun a => [[], [1], [1, 0]].flatMap fun b => [[], [2], [2, 1], [2, 1, 0]].flatMap fun c => [[], [3], [3, 2], [3, 2, 1], [3, 2, 1, 0]].map fun d => a ++ b ++ c ++ d
def rowsN : List (List Nat) := nfs.map (rowF true)
theorem nfs_step' : ∀ w ∈ nfs, ∀ c : Fin 4, (∃ r ∈ rulesN 0, ((w ++ [c.val]).drop ((w ++ [c.val]).length - r.1.length)) = r.1) ∨ (w ++ [c.val]) ∈ nfs := by decide +kernel
theorem nfs_step : ∀ w ∈ nfs, ∀ c : Fin 4, (w ++ [c.val]) ∈ nfs ∨ ∃ r ∈ rulesN 0, ((w ++ [c.val]).drop ((w ++ [c.val]).length - r.1.length)) = r.1 := fun w hw c => (nfs_step' w hw c).symm
/-- a row as a number, and the set of all rows as one number -/
def five : List Nat → Option Nat
  | [a, b, c, d, e] => if Nat.ble a 4 && Nat.ble b 4 && Nat.ble c 4 && Nat.ble d 4 && Nat.ble e 4 then some (a * 625 + b * 125 + c * 25 + d * 5 + e) else none
  | _ => none
def back5 (n : Nat) : List Nat := [n / 625, n / 125 % 5, n / 25 % 5, n / 5 % 5, n % 5]
theorem five_back : ∀ {l : List Nat} {n : Nat}, five l = some n → l = back5 n
  | [a, b, c, d, e], n, h => by
    change (if (Nat.ble a 4 && Nat.ble b 4 && Nat.ble c 4 && Nat.ble d 4 && Nat.ble e 4) = true then some (a * 625 + b * 125 + c * 25 + d * 5 + e) else none) = some n at h
    by_cases hb : (Nat.ble a 4 && Nat.ble b 4 && Nat.ble c 4 && Nat.ble d 4 && Nat.ble e 4) = true
    · rw [if_pos hb] at h
      simp only [Bool.and_eq_true, Nat.ble_eq] at hb
      injection h with h
      unfold back5
      have e1 : a = n / 625 := by omega
      have e2 : b = n / 125 % 5 := by omega
      have e3 : c = n / 25 % 5 := by omega
      have e4 : d = n / 5 % 5 := by omega
      have e5 : e = n % 5 := by omega
      rw [← e1, ← e2, ← e3, ← e4, ← e5]
    · rw [if_neg hb] at h
      cases h
  | [], _, h => nomatch h
  | [_], _, h => nomatch h
  | [_, _], _, h => nomatch h
  | [_, _, _], _, h => nomatch h
  | [_, _, _, _], _, h => nomatch h
  | _ :: _ :: _ :: _ :: _ :: _ :: _, _, h => nomatch h
def rowBits : Nat := 1107175904167030446859548125925681696992001757008735737889930406111352089859303495607167477727886656720001675202861207034100952997015983790486275039677969914807453257496617590872188163066672520117501127668574904422123060317539871617392495051503485865623055009960697834191923476389056996852725247291693990189115115551258180023045408670859267059820842090943776034897877969590419418105981461388858626087000524571353254322292156845000056700753258652158394543393185291652939768324876982770139966738965701979494676182319395672262405736265379092370801069926050616459596699367449509560994979001830342515754223563147146275712856814865160080149246929255011137322774849452213346328681455824370941466716149622737142921832748143800488803678408157020141561682556190950797046710242671412093429194687859772606414940667422313307628821468990320588924834045075611782669573477934511168146629607271956480
theorem bits_in : ∀ n ∈ (List.range 3125).filter (fun n => Nat.beq ((rowBits >>> n) % 2) 1), back5 n ∈ rowsN := by decide +kernel
theorem bits_step : ([false, true].all fun b => rowsN.all fun r => [0, 1, 2, 3].all fun f => (five (stepF b r f)).any fun n => Nat.ble n 3124 && Nat.beq ((rowBits >>> n) % 2) 1) = true := by decide +kernel
theorem rows_step : ∀ b : Bool, ∀ r ∈ rowsN, ∀ f : Fin 4, stepF b r f.val ∈ rowsN := by
  intro b r hr f
  have h := List.all_eq_true.mp (List.all_eq_true.mp (List.all_eq_true.mp bits_step b (by cases b <;> simp)) r hr) f.val (by have := f.isLt; simp; omega)
  match hn : five (stepF b r f.val), h with
  | some n, h =>
    simp only [Option.any_some, Bool.and_eq_true, Nat.ble_eq] at h
    rw [five_back hn]
    exact bits_in n (List.mem_filter.mpr ⟨List.mem_range.mpr (by omega), h.2⟩)
theorem rows_rule0 : ∀ r ∈ rowsN, ∀ q ∈ rulesN 1, q.1.foldl (stepF false) r = q.2.foldl (stepF false) r := by decide +kernel
theorem rows_rule1 : ∀ r ∈ rowsN, ∀ q ∈ rulesN 0, q.1.foldl (stepF true) r = q.2.foldl (stepF true) r := by decide +kernel
theorem rows_rule : ∀ b : Bool, ∀ r ∈ rowsN, ∀ q ∈ rulesN (if b then 0 else 1), q.1.foldl (stepF b) r = q.2.foldl (stepF b) r
  | false => rows_rule0
  | true => rows_rule1
theorem nfs_rows : ∀ w ∈ nfs, rowF false w = rowF true w := by decide +kernel
end Mine
namespace Mine
theorem ends_rp {b : Bool} {o n : List Nat} (ho : 1 ≤ o.length) (hrow : ∀ r ∈ rowsN, o.foldl (stepF b) r = n.foldl (stepF b) r) (hfo : ∀ f ∈ o, f < 4) : ∀ (N : Nat) (x : List Nat), x.length ≤ N → (∀ f ∈ x, f < 4) → ∀ r ∈ rowsN, (rp o n 0 x).foldl (stepF b) r = x.foldl (stepF b) r
  | _, [], _, _, _, _ => rfl
  | 0, c :: x, h, _, _, _ => by simp at h
  | N + 1, c :: x, h, hf, r, hr => by
    rw [List.length_cons] at h
    have closed : ∀ (y : List Nat), (∀ f ∈ y, f < 4) → ∀ r ∈ rowsN, y.foldl (stepF b) r ∈ rowsN := by
      intro y
      induction y with
      | nil => exact fun _ r hr => hr
      | cons f y ih => exact fun hy r hr => ih (fun g hg => hy g (List.mem_cons_of_mem _ hg)) _ (rows_step b r hr ⟨f, hy f List.mem_cons_self⟩)
    by_cases hm : (c :: x).take o.length = o
    · have e : rp o n 0 (c :: x) = n ++ rp o n 0 ((c :: x).drop o.length) := by
        rw [rp, if_pos hm, rp_drop]
        congr 2
        rw [show o.length = (o.length - 1) + 1 by omega]
        rfl
      have hd : ((c :: x).drop o.length).length ≤ N := by rw [List.length_drop, List.length_cons]; omega
      have hs := take_split hm
      have hfd : ∀ f ∈ (c :: x).drop o.length, f < 4 := fun f h => hf f (List.mem_of_mem_drop h)
      have ih := ends_rp ho hrow hfo N _ hd hfd
      rw [e]
      generalize (c :: x).drop o.length = y at hs ih
      rw [hs, List.foldl_append, List.foldl_append, hrow r hr]
      rw [ih _ (hrow r hr ▸ closed o hfo r hr)]
    · have e : rp o n 0 (c :: x) = c :: rp o n 0 x := by rw [rp, if_neg hm]
      rw [e, List.foldl_cons, List.foldl_cons]
      exact ends_rp ho hrow hfo N x (by omega) (fun f h => hf f (List.mem_cons_of_mem _ h)) _ (rows_step b r hr ⟨c, hf c List.mem_cons_self⟩)
theorem rule_fig : ∀ k : Fin 2, ∀ r ∈ rulesN k.val, (∀ f ∈ r.1, f < 4) ∧ ∀ f ∈ r.2, f < 4 := by decide +kernel
theorem rp_fig {o n : List Nat} (hn : ∀ f ∈ n, f < 4) : ∀ (k : Nat) (x : List Nat), (∀ f ∈ x, f < 4) → ∀ f ∈ rp o n k x, f < 4
  | k, [], _ => by cases k <;> exact fun _ h => nomatch h
  | 0, c :: x, hx => by
    rw [rp]
    split
    · intro f hf
      rcases List.mem_append.mp hf with hf | hf
      · exact hn f hf
      · exact rp_fig hn _ x (fun g hg => hx g (List.mem_cons_of_mem _ hg)) f hf
    · intro f hf
      rcases List.mem_cons.mp hf with rfl | hf
      · exact hx _ List.mem_cons_self
      · exact rp_fig hn 0 x (fun g hg => hx g (List.mem_cons_of_mem _ hg)) f hf
  | k + 1, c :: x, hx => rp_fig hn k x fun g hg => hx g (List.mem_cons_of_mem _ hg)
theorem rpAll_keeps {b : Bool} : ∀ (rs : List Rl) (l : List Nat), (∀ r ∈ rs, r ∈ rulesN (if b then 0 else 1)) → (∀ f ∈ l, f < 4) → (∀ f ∈ rpAll l rs, f < 4) ∧ ∀ r ∈ rowsN, (rpAll l rs).foldl (stepF b) r = l.foldl (stepF b) r
  | [], l, _, hl => ⟨hl, fun _ _ => rfl⟩
  | q :: rs, l, h, hl => by
    have hq := h q List.mem_cons_self
    have hk : (if b then 0 else 1) < 2 := by cases b <;> decide
    obtain ⟨_, k1, _, _⟩ := rule_kind ⟨_, hk⟩ q hq
    obtain ⟨f1, f2⟩ := rule_fig ⟨_, hk⟩ q hq
    have hl' := rp_fig (o := q.1) f2 0 l hl
    obtain ⟨h1, h2⟩ := rpAll_keeps rs (rp q.1 q.2 0 l) (fun r hr => h r (List.mem_cons_of_mem _ hr)) hl'
    exact ⟨h1, fun r hr => (h2 r hr).trans (ends_rp k1 (fun r hr => rows_rule b r hr q hq) f1 _ l (Nat.le_refl _) hl r hr)⟩
theorem rev_ind' {α : Type} {P : List α → Prop} (h0 : P []) (h1 : ∀ l b, P l → P (l ++ [b])) (l : List α) : P l := by
  have : ∀ l : List α, P l.reverse := by
    intro l
    induction l with
    | nil => exact h0
    | cons b l ih => rw [List.reverse_cons]; exact h1 _ b ih
  have h := this l.reverse
  rwa [List.reverse_reverse] at h
theorem lhs_eq (k : Nat) : (rulesN k).map (·.1) = (rulesN 0).map (·.1) := rfl
theorem free_nf (l : List Nat) : (∀ f ∈ l, f < 4) → (∀ r ∈ rulesN 0, Free r.1 l) → l ∈ nfs := by
  refine rev_ind' (P := fun l => (∀ f ∈ l, f < 4) → (∀ r ∈ rulesN 0, Free r.1 l) → l ∈ nfs) ?_ ?_ l
  · intro _ _; decide +kernel
  · intro w c ih hf hfree
    have hw := ih (fun f h => hf f (List.mem_append_left _ h)) fun r hr i hi e => by
      refine hfree r hr i (by rw [List.length_append]; omega) ?_
      have hl : r.1.length ≤ (w.drop i).length := by
        have := congrArg List.length e
        rw [List.length_take] at this
        omega
      rw [List.drop_append_of_le_length (by omega), List.take_append_of_le_length hl, e]
    rcases nfs_step w hw ⟨c, hf c (List.mem_append_right _ (List.mem_singleton.mpr rfl))⟩ with h | ⟨r, hr, e⟩
    · exact h
    · exfalso
      have k1 := (rule_kind 0 r hr).2.1
      have e' : (w ++ [c]).drop ((w ++ [c]).length - r.1.length) = r.1 := e
      have hl : r.1.length ≤ (w ++ [c]).length := by
        have := congrArg List.length e'
        rw [List.length_drop] at this
        omega
      refine hfree r hr ((w ++ [c]).length - r.1.length) (by omega) ?_
      rw [e', List.take_length]
theorem start_row : [0, 1, 2, 3, 4] ∈ rowsN := by decide +kernel
/-- what the law's rest is: the one word of the row -/
theorem rest_word {b : Bool} {l : List Nat} {rs : List Rl} (hrs : ∀ r ∈ rs, r ∈ rulesN (if b then 0 else 1)) (hall : ∀ r ∈ rulesN (if b then 0 else 1), r ∈ rs) (hf : ∀ f ∈ l, f < 4) (hfix : rpAll l rs = l) : l ∈ nfs := by
  have hk : (if b then 0 else 1) < 2 := by cases b <;> decide
  obtain ⟨_, h⟩ := rpAll_val hk rs l hrs
  rw [hfix] at h
  rcases h with ⟨_, h⟩ | h
  · refine free_nf l hf fun r hr => ?_
    have hm : r.1 ∈ (rulesN (if b then 0 else 1)).map (·.1) := by rw [lhs_eq]; exact List.mem_map_of_mem hr
    obtain ⟨q, hq, e⟩ := List.mem_map.mp hm
    exact e ▸ h q (hall q hq)
  · exact absurd h (Nat.lt_irrefl _)
inductive ReachN (rs : List Rl) (x : List Nat) : List Nat → Prop
  | start : ReachN rs x x
  | step {y : List Nat} : ReachN rs x y → ReachN rs x (rpAll y rs)
theorem reachN_keeps {b : Bool} {rs : List Rl} {x y : List Nat} (hrs : ∀ r ∈ rs, r ∈ rulesN (if b then 0 else 1)) (hf : ∀ f ∈ x, f < 4) (h : ReachN rs x y) : (∀ f ∈ y, f < 4) ∧ y.length ≤ x.length ∧ rowF b y = rowF b x := by
  have hk : (if b then 0 else 1) < 2 := by cases b <;> decide
  induction h with
  | start => exact ⟨hf, Nat.le_refl _, rfl⟩
  | step _ ih =>
    obtain ⟨h1, h2, h3⟩ := ih
    obtain ⟨h4, h5⟩ := rpAll_keeps rs _ hrs h1
    exact ⟨h4, Nat.le_trans (rpAll_val hk rs _ hrs).1 h2, (h5 _ start_row).trans h3⟩
end Mine
end
noncomputable section
open PySem PySem.W PySem.Calls PyProof PyProof.Rows PyProof.V PySem.Spec Mine
set_option Elab.async false
set_option maxRecDepth 100000
set_option maxHeartbeats 4000000
set_option linter.unusedVariables false
namespace Mine
def ixR (x : Str) (k : Nat) : Nat := (Txt.find x ⟨#[97 + k]⟩).toNat
/-- a sign's first place in a list; its length if there is none -/
def firstAt (c : Nat) : List Nat → Nat
  | [] => 0
  | d :: l => if d = c then 0 else firstAt c l + 1
theorem firstAt_none (c : Nat) : ∀ (l : List Nat) (k : Nat), k < firstAt c l → ¬ l[k]? = some c
  | [], _, h => absurd h (Nat.not_lt_zero _)
  | d :: l, k, h => by
    unfold firstAt at h
    split at h
    · exact absurd h (Nat.not_lt_zero _)
    · rename_i hd
      cases k with
      | zero => intro e; exact hd (Option.some.inj e)
      | succ k => exact firstAt_none c l k (by omega)
theorem firstAt_some (c : Nat) : ∀ l : List Nat, c ∈ l → l[firstAt c l]? = some c
  | [], h => nomatch h
  | d :: l, h => by
    unfold firstAt
    split
    · rename_i hd; rw [hd]; rfl
    · rename_i hd
      rcases List.mem_cons.mp h with e | h
      · exact absurd e.symm hd
      · exact firstAt_some c l h
theorem find_first (x : Str) (c : Nat) (h : c ∈ x.cps.toList) : Txt.find x ⟨#[c]⟩ = (firstAt c x.cps.toList : Int) := by
  have hs := firstAt_some c _ h
  rcases find_whole x ⟨#[c]⟩ with ⟨_, hn⟩ | ⟨i, hi, hat, hn⟩
  · exact absurd ((StrLaws.subAt_one x c _).mpr hs) (hn _)
  · rw [hi]
    have hat' := (StrLaws.subAt_one x c i).mp hat
    rcases Nat.lt_trichotomy i (firstAt c x.cps.toList) with h1 | h1 | h1
    · exact absurd hat' (firstAt_none c _ _ h1)
    · rw [h1]
    · exact absurd ((StrLaws.subAt_one x c _).mpr hs) (hn _ h1)
theorem rows_letters : ∀ r ∈ rowsN, ∀ k : Fin 5, (97 + k.val) ∈ (rowStr r).cps.toList := by decide +kernel
theorem ixR_first {r : List Nat} (hr : r ∈ rowsN) {k : Nat} (hk : k < 5) : ixR (rowStr r) k = firstAt (97 + k) (rowStr r).cps.toList := by
  unfold ixR
  rw [find_first _ _ (rows_letters r hr ⟨k, hk⟩)]
  exact Int.toNat_natCast _
theorem find_rows : ∀ r ∈ rowsN, ∀ k : Fin 5, Txt.find (rowStr r) ⟨#[97 + k.val]⟩ = (ixR (rowStr r) k.val : Int) := fun r hr k => by
  rw [ixR_first hr k.isLt, find_first _ _ (rows_letters r hr k)]
theorem wordS_congr {x : Str} {ix iy : Nat → Nat} : ∀ n, (∀ k, k ≤ n → ix k = iy k) → wordS x ix n = wordS x iy n
  | 0, _ => rfl
  | n + 1, h => by
    unfold wordS
    rw [wordS_congr n fun k hk => h k (Nat.le_succ_of_le hk), h (n + 1) (Nat.le_refl _)]
theorem word_first : ∀ w ∈ nfs, wordS (rowStr (rowF true w)) (fun k => firstAt (97 + k) (rowStr (rowF true w)).cps.toList) 4 = strF w := by decide +kernel
theorem word_rows : ∀ w ∈ nfs, wordS (rowStr (rowF true w)) (ixR (rowStr (rowF true w))) 4 = strF w := fun w hw =>
  (wordS_congr 4 fun _ hk => ixR_first (List.mem_map.mpr ⟨w, hw, rfl⟩) (Nat.lt_succ_of_le hk)).trans (word_first w hw)
theorem row_in {b : Bool} {l : List Nat} (h : ∀ f ∈ l, f < 4) : rowF b l ∈ rowsN := by
  have closed : ∀ (y : List Nat), (∀ f ∈ y, f < 4) → ∀ r ∈ rowsN, y.foldl (stepF b) r ∈ rowsN := by
    intro y
    induction y with
    | nil => exact fun _ r hr => hr
    | cons f y ih => exact fun hy r hr => ih (fun g hg => hy g (List.mem_cons_of_mem _ hg)) _ (rows_step b r hr ⟨f, hy f List.mem_cons_self⟩)
  exact closed l h _ start_row
theorem rowStr_len {b : Bool} (l : List Nat) : (rowStr (rowF b l)).length ≤ 100 := by
  obtain ⟨h1, h2⟩ := rowF_ok b l
  have : ∀ r : List Nat, (∀ x ∈ r, x < 5) → (r.flatMap fun k => List.replicate k 32 ++ [97 + k]).length ≤ 5 * r.length := by
    intro r
    induction r with
    | nil => intro _; exact Nat.le_refl _
    | cons x r ih =>
      intro hx
      have := ih fun y hy => hx y (List.mem_cons_of_mem _ hy)
      have h3 := hx x List.mem_cons_self
      rw [List.flatMap_cons, List.length_append, List.length_append, List.length_replicate]
      simp only [List.length_cons, List.length_nil]
      omega
  have h3 := this _ h2
  show (List.toArray _).size ≤ _
  rw [List.size_toArray]
  omega
/-- the figures of the law's text -/
def figs (ns : List Int) : List Nat := [3, 0, 3, 0, 2, 1, 0, 3] ++ (ns.take 8).map fun a => (a.fmod 4).toNat
theorem figs_lt (ns : List Int) : ∀ f ∈ figs ns, f < 4 := by
  intro f hf
  rcases List.mem_append.mp hf with hf | hf
  · exact (show ∀ f ∈ [3, 0, 3, 0, 2, 1, 0, 3], f < 4 by decide) f hf
  · obtain ⟨a, _, rfl⟩ := List.mem_map.mp hf
    have h1 := Int.fmod_nonneg_of_pos a (show (0 : Int) < 4 by decide)
    have h2 := Int.fmod_lt_of_pos a (show (0 : Int) < 4 by decide)
    omega
theorem figs_len (ns : List Int) : (figs ns).length ≤ 16 := by
  unfold figs
  rw [List.length_append, List.length_map, List.length_take]
  show 8 + _ ≤ 16
  omega
theorem item_1234 (a : Int) : (if (Txt.item (Str.ofString "1234") (a.fmod 4)).length = 1 then Txt.item (Str.ofString "1234") (a.fmod 4) else Str.empty) = ⟨#[(a.fmod 4).toNat + 49]⟩ := by
  have h1 := Int.fmod_nonneg_of_pos a (show (0 : Int) < 4 by decide)
  have h2 := Int.fmod_lt_of_pos a (show (0 : Int) < 4 by decide)
  generalize a.fmod 4 = z at h1 h2
  obtain ⟨n, rfl⟩ := Int.eq_ofNat_of_zero_le h1
  have : ∀ n : Fin 4, (if (Txt.item (Str.ofString "1234") (n.val : Int)).length = 1 then Txt.item (Str.ofString "1234") (n.val : Int) else Str.empty) = ⟨#[(n.val : Int).toNat + 49]⟩ := by decide +kernel
  exact this ⟨n, by omega⟩
theorem figs_eq (ns : List Int) : Str.ofString "41413214" ++ Txt.join (Str.ofString "") (List.map (fun a => if (Txt.item (Str.ofString "1234") (a.fmod 4)).length = 1 then Txt.item (Str.ofString "1234") (a.fmod 4) else Str.empty) (List.take 8 ns)) = strF (figs ns) := by
  apply str_ext'
  rw [Str.cps_append, Array.toList_append, join0', strF_cps]
  unfold figs
  rw [List.map_append]
  have e : (Str.ofString "41413214").cps.toList = [3, 0, 3, 0, 2, 1, 0, 3].map (· + 49) := by decide +kernel
  rw [e]
  congr 1
  induction List.take 8 ns with
  | nil => rfl
  | cons a r ih =>
    rw [List.map_cons, List.map_cons, List.flatten_cons, ih, List.map_cons, List.map_cons, item_1234]
    rfl
/-- one round of the law: the rest of the text, its word and its rows -/
theorem law_round {b : Bool} {sm : Int} {l y : List Nat} {ps : List Pr} {kept : Int} (hkept : kept = ((if b then 0 else 1 : Nat) : Int)) (hps : (ps.map fun q => (q.o, q.n)) = pairs02 sm kept 13) (hl : ∀ f ∈ l, f < 4) (hr : ReachN (pairsN sm (if b then 0 else 1)) l y) (hfix : replAll (strF y) ps = strF y) :
    strF y = wordS (rowStr (rowF b l)) (ixR (rowStr (rowF b l))) 4 ∧ rowF true y = rowF b l ∧ rowF false y = rowF b l := by
  have hk : (if b then 0 else 1) < 2 := by cases b <;> decide
  have hrs := pairsN_mem sm (if b then 0 else 1)
  obtain ⟨h1, _, h3⟩ := reachN_keeps hrs hl hr
  rw [hkept, pairs_eq sm _ hk] at hps
  rw [replAll_F ps _ y hps fun r hr => ⟨(rule_kind ⟨_, hk⟩ r (hrs r hr)).1, (rule_kind ⟨_, hk⟩ r (hrs r hr)).2.1⟩] at hfix
  have hn := rest_word hrs (pairsN_all sm _) h1 (strF_inj hfix)
  have e1 : rowF true y = rowF b l := by
    cases b with
    | true => exact h3
    | false => rw [← nfs_rows y hn]; exact h3
  refine ⟨?_, e1, (nfs_rows y hn).trans e1⟩
  rw [← e1]
  exact (word_rows y hn).symm
theorem law_pairs_ok {b : Bool} {sm kept : Int} {ps : List Pr} (hkept : kept = ((if b then 0 else 1 : Nat) : Int)) (hps : (ps.map fun q => (q.o, q.n)) = pairs02 sm kept 13) : ps.length = 13 ∧ (∀ q ∈ ps, q.ok) ∧ ∀ q ∈ ps, Builtin.Str.strKind q.o = 1 := by
  have hk : (if b then 0 else 1) < 2 := by cases b <;> decide
  rw [hkept, pairs_eq sm _ hk] at hps
  have key : ∀ q ∈ ps, ∃ r ∈ rulesN (if b then 0 else 1), (q.o, q.n) = strR r := by
    intro q hq
    have : (q.o, q.n) ∈ (pairsN sm (if b then 0 else 1)).map strR := hps ▸ List.mem_map_of_mem (f := fun q : Pr => (q.o, q.n)) hq
    obtain ⟨r, hr, e⟩ := List.mem_map.mp this
    exact ⟨r, pairsN_mem sm _ r hr, e.symm⟩
  refine ⟨?_, fun q hq => ?_, fun q hq => ?_⟩
  · have := congrArg List.length hps
    rw [List.length_map, List.length_map, pairsN, List.length_map, List.length_range] at this
    exact this
  · obtain ⟨r, hr, e⟩ := key q hq
    obtain ⟨_, k1, k2, k3⟩ := rule_kind ⟨_, hk⟩ r hr
    have e1 : q.o = strF r.1 := congrArg Prod.fst e
    have e2 : q.n = strF r.2 := congrArg Prod.snd e
    unfold Pr.ok
    rw [e1, e2, strF_len, strF_len]
    exact ⟨k1, k2, by omega⟩
  · obtain ⟨r, hr, e⟩ := key q hq
    have e1 : q.o = strF r.1 := congrArg Prod.fst e
    rw [e1]
    exact (rule_kind ⟨_, hk⟩ r hr).1
theorem law_step {b : Bool} {sm kept : Int} {ps : List Pr} {y : List Nat} (hkept : kept = ((if b then 0 else 1 : Nat) : Int)) (hps : (ps.map fun q => (q.o, q.n)) = pairs02 sm kept 13) : replAll (strF y) ps = strF (rpAll y (pairsN sm (if b then 0 else 1))) ∧ (replAll (strF y) ps ≠ strF y → val (rpAll y (pairsN sm (if b then 0 else 1))) < val y) := by
  have hk : (if b then 0 else 1) < 2 := by cases b <;> decide
  have hrs := pairsN_mem sm (if b then 0 else 1)
  rw [hkept, pairs_eq sm _ hk] at hps
  have e := replAll_F ps _ y hps fun r hr => ⟨(rule_kind ⟨_, hk⟩ r (hrs r hr)).1, (rule_kind ⟨_, hk⟩ r (hrs r hr)).2.1⟩
  refine ⟨e, fun hne => ?_⟩
  rcases (rpAll_val hk _ y hrs).2 with ⟨h, _⟩ | h
  · exact absurd (e.trans (congrArg strF h)) hne
  · exact h
theorem tup_ne_tab' {us : List Value} {ps : Array Value} : tupO us ≠ tabObj ps := by intro e; injection e with e1; cases e1
end Mine
end
section
open PySem PySem.W PyProof.Rows
set_option Elab.async false
set_option maxRecDepth 100000
set_option maxHeartbeats 8000000
namespace Mine
section
local macro_rules | `(tactic| o_head $_) => `(tactic| skip)
theorem hd0 : (∀ P : Prop, P) → True := by
  intro h
  refine' (?f : PySem.Challenge.rw_ph0024_02.Holds → True) ?x
  case f => exact fun _ => trivial
  case x =>
    w_on
    o_law
    k_head
    exact h _
end
noncomputable def kK : Params → Frag := by
  refine' (fun (_ : (Str.ofString "k").cps.size = 1) => (?f : (hd0.heap_39 = ?K) → Params → Frag) ?h) ?p
  case f => exact fun _ => ?K
  case h =>
    delta hd0.heap_39
    exact rfl
  case p => rfl
abbrev kAddrs : List Addr := [2,3,15,17,18,20,21,22,25,30,31,32,34,35,37,38,39,41,42,44,45,46,47,49,50,52,53,54,56,57,59,60,61,63,64,66,67,68,70,71,73,74,75,76,78,79,81,82,83,85,86,88,89,90,92,93,95,96,97,98,99,100,101,104,106,107,109,110,111,113,114,116,117,118,120,121,123,124,125,127,128,130,131,132,135,136,137,140,141]
local macro_rules | `(tactic| k_head) => `(tactic| o_head (kmHook kK kAddrs (fun _ => by kernel_rfl) [69]))
open_top hd for PySem.Challenge.rw_ph0024_02
end Mine
end
section
open PySem PySem.W PySem.Calls PyProof.Rows Mine
set_option Elab.async false
set_option compiler.extract_closed false
set_option maxRecDepth 100000
set_option maxHeartbeats 8000000
set_option linter.unusedVariables false
namespace Mine
set_option hygiene false in
local macro_rules | `(tactic| wtm_at "S8") => `(tactic| ((case k1 | k2 | k3 | k4 | k5 => k_asm); (case k6 => first | rfl | assumption); (case k7 => ktr_room); (case k8 => ktr_units)))
set_option hygiene false in
local macro_rules | `(tactic| wtm_at "E8") => `(tactic| ((case kA | kF => exact rfl); (case kK => first | assumption | exact rfl); (case k1 | k2 | k3 | k4 | k5 => k_asm); (case k6 | k7 => k_is); (case k8 => ktr_room)))
set_option hygiene false in
local macro_rules | `(tactic| wtm_at "E9") => `(tactic| ((case k9 => first | exact BindsTo.of_eq rfl | exact binds_K (by k_in) rfl (by k_is) rfl rfl rfl)))
local macro_rules | `(tactic| wtm_at "R1") => `(tactic| (with_reducible show wpAny _ _ (subscriptTail _ _ (Value.ref _) (Value.ref _)) _ _ _))
local macro_rules | `(tactic| wtm_at "R2") => `(tactic| (with_reducible show wpAny _ _ (subscriptTail _ _ (Value.ref _) (Value.int _ _)) _ _ _))
local macro_rules | `(tactic| k_mem) => `(tactic| assumption)
local macro_rules | `(tactic| ktr_enter) => `(tactic| (refine' code_def ?k1 ?k2 ?k3 ?k4 ?k5 ?kA ?kF ?kK ?k6 ?k7 ?k8 ?k9 ?kB ?_ ?c2 ?c3 ?c4 ?c5; wtm_at "E8"; wtm_at "E9"; (case c5 => decide); (case kB => exact locs rfl); (case c2 | c3 | c4 => exact rfl); k_whole; intro g' L' h' FG' F' N' B' X' T'; (try dsimp only); (try k_fold)))
local macro_rules | `(tactic| k_inst) => `(tactic| (refine' Mine.pileInst ?N ?h1 ?h2; (case N => k_asm); (case h1 | h2 => k_mem)))
local macro_rules | `(tactic| walk_at "getMethod ref") => `(tactic| (k_here; k_dflt (refine' Mine.method_sub ?k1 ?k2 ?k3 ?k4 ?k4b ?k4c ?k5 ?k6 ?k7 ?k8 ?_; (case k1 | k2 => k_asm); (case k3 => k_inst); (case k4 => k_is); (case k4b => decide +kernel); (case k4c | k5 | k6 => k_is); (case k7 => decide); (case k8 => k_get); k_whole)))
local macro_rules | `(tactic| walk_at "call builtin:list.append") => `(tactic| (k_here; k_dflt (refine' Mine.pile_append ?k1 ?k2 ?k3 ?k4 ?k5 ?k6 ?k7 ?_; (case k1 | k2 | k3 => k_asm); (case k4 | k5 => k_mem); (case k6 => k_is); (case k7 => assumption); k_whole; intro h' F' N')))
local macro_rules | `(tactic| walk_at "subscriptTail") => `(tactic| (k_here; wtm_at "R1"; k_dflt (refine' Mine.pile_from ?k1 ?k2 ?k3 ?k4 ?k5 ?k6 ?k7 ?k8 ?k9 ?k10 ?k11 ?k12 ?_; (case k1 | k2 | k3 => k_asm); (case k4 | k5 => k_mem); (case k6 | k7 | k8 => k_is); (case k9 | k10 => assumption); (case k11 => (intro _; with_unfolding_all rfl)); (case k12 => (intro _; with_unfolding_all rfl)); k_whole; intro D' h' F' N' l1)))
local macro_rules | `(tactic| walk_at "setItem ref ref") => `(tactic| (k_here; k_dflt (refine' Mine.pile_cut ?k1 ?k2 ?k3 ?kl ?k4 ?k5 ?k6 ?k7 ?k8 ?k9 ?k10 ?_; (case k1 | k2 | k3 | kl => k_asm); (case k4 | k5 => k_mem); (case k6 | k7 | k8 => k_is); (case k9 | k10 => assumption); k_whole; intro h' n' F' N'; (try dsimp only))))
local macro_rules | `(tactic| ks_enter) => `(tactic| (refine' ks_code_super ?k1 ?k2 ?k3 ?k4 ?k5 ?kA ?kF ?kK ?k6 ?k7 ?k8 ?k9 ?kB ?_ ?c1 ?c2 ?c3 ?c4; wtm_at "E8"; wtm_at "E9"; (case kB => exact locs rfl); (case c1 => decide); (case c2 | c3 | c4 => exact rfl); intro g' L' h' FG' F' N' B' X' T' l1; (try dsimp only)))
local macro_rules | `(tactic| walk_at "getMethod ref") => `(tactic| (k_here; k_dflt (first
  | (refine' Mine.super_len ?k1 ?k2 ?k3 ?k4 ?k5 ?k6 ?k7 ?k8 ?_; (case k1 => k_asm); (case k2 => k_asm); (case k3 => k_asm); (case k4 => k_mem); (case k5 => k_inst); (case k6 => k_is); (case k7 => ks_is); (case k8 => k_is); intro q' h' F' N' l1)
  | (refine' Mine.super_init ?k1 ?k2 ?k3 ?k4 ?k5 ?k6 ?k7 ?k8 ?_; (case k1 => k_asm); (case k2 => k_asm); (case k3 => k_asm); (case k4 => k_mem); (case k5 => k_inst); (case k6 => k_is); (case k7 => ks_is); (case k8 => k_is); intro q' h' F' N' l1))))
local macro_rules | `(tactic| walk_at "callWith ref") => `(tactic| (k_here; k_dflt (refine' Mine.callWith_wrap ?k1 ?k2 ?_; (case k1 => k_asm); (case k2 => k_mem); k_whole)))
local macro_rules | `(tactic| walk_at "call ref") => `(tactic| (k_here; k_dflt (refine' Mine.call_len ?k1 ?k2 ?k3 ?k4 ?_; (case k1 => k_asm); (case k2 | k3 => k_mem); (case k4 => assumption); k_whole)))
local macro_rules | `(tactic| walk_at "setAttr ref") => `(tactic| (k_here; k_dflt (refine' Mine.set_pile ?k1 ?k2 ?k3 ?k4 ?k5 ?k6 ?k7 ?k8 ?k9 ?k10 ?_; (case k1 | k2 | k3 => k_asm); (case k4 | k5 => k_mem); (case k6 | k7 => k_is); (case k8 | k9 => rfl); (case k10 => k_is); intro h' tk' F' N'; (try replace N' := Mine.news_dict2 N' (by assumption) (by assumption)); (try dsimp only))))
local macro_rules | `(tactic| walk_at "call ref") => `(tactic| (k_here; k_dflt (refine' Mine.call_init ?k1 ?k2 ?k3 ?k4 ?k5 ?_; (case k1 | k2 => k_asm); (case k3 | k4 => k_mem); (case k5 => first | assumption | (simp; done) | decide); intro h' n' F' N')))
section
theorem topOffpush : True := by
  w_top off
  trivial
theorem push_spec {w : World} {p : Program} {loose : List Str} {mean : ExcName → Option Value} {mg mb : Str → Option Value}
  {dp un : Nat} {gd : Option (List Code)} {cn : Str} {cs : Scope} {a : Addr} {ccd : Value} {cl : List (Str × Addr)} {outer : List Env} {A₀ : Around} {base h₀ : Heap} {L : Addr} {m : Str → Option Value} {news : List (Addr × Obj)} {s : Shared}
    {Q E : Value → Shared → Prop}
    (B : Below A₀ base outer h₀) (F : Fr h₀ L s.heap m) (X : (kK w.params).In h₀) (N : News h₀ L s.heap news) (T : Top p loose mean mg mb h₀) (hk : cs.kind = .function)
    (hd1 : dp + 1 < recursionLimit) (hu : un + 8 < cLine)
    (pl d : Addr) (its : List Value) (n k : Nat) (hs : Int) (ta tb : Tok) (x y : Value)
    (hm : (pl, pileO 99 d its n) ∈ news) (hdm : (d, dictOf (isz hs ta tb) k) ∈ news) (hsz : its.length ≤ sizeLine)
    (hret : ∀ t h' tk' n', Fr h₀ L h' m → News h₀ L h' ((t, tupO [x, y]) :: setAt pl (pileO 99 d (its ++ [.ref t]) n') news) → (∀ q ∈ news, q.1 < t) → Q .none { s with heap := h', toks := tk' }) :
    wpAny (model PySem.Challenge.rw_ph0024_02.row.prog w) (ktrTop dp un gd cn cs L a ccd cl outer) (call (.ref 45) [.ref pl, x, y]) Q E s := by
  revert X; k_fill; intro X
  refine wpAny_call ?_
  k_dflt ktr_enter
  k_steps
  exact hret _ _ _ _ (by k_asm) (news_cons (by k_asm) hm (by assumption)) (by assumption)
end
section
theorem topOffpopfrom : True := by
  w_top off
  trivial
theorem pop_from_spec {w : World} {p : Program} {loose : List Str} {mean : ExcName → Option Value} {mg mb : Str → Option Value}
  {dp un : Nat} {gd : Option (List Code)} {cn : Str} {cs : Scope} {a : Addr} {ccd : Value} {cl : List (Str × Addr)} {outer : List Env} {A₀ : Around} {base h₀ : Heap} {L : Addr} {m : Str → Option Value} {news : List (Addr × Obj)} {s : Shared}
    {Q E : Value → Shared → Prop}
    (B : Below A₀ base outer h₀) (F : Fr h₀ L s.heap m) (X : (kK w.params).In h₀) (N : News h₀ L s.heap news) (T : Top p loose mean mg mb h₀) (hk : cs.kind = .function)
    (hd1 : dp + 1 < recursionLimit) (hu : un + 8 < cLine)
    (pl d : Addr) (its : List Value) (n k : Nat) (hs : Int) (ta tb : Tok) (i : Int) (ti : Tok)
    (hm : (pl, pileO 99 d its n) ∈ news) (hdm : (d, dictOf (isz hs ta tb) k) ∈ news) (hsz : its.length ≤ sizeLine) (hi0 : 0 ≤ i)
    (hret : ∀ D h' tk' n', Fr h₀ L h' m → News h₀ L h' ((D, lstO (its.drop i.toNat) 0) :: setAt pl (pileO 99 d (its.take i.toNat) n') news) → (∀ q ∈ news, q.1 < D) → Q (.ref D) { s with heap := h', toks := tk' }) :
    wpAny (model PySem.Challenge.rw_ph0024_02.row.prog w) (ktrTop dp un gd cn cs L a ccd cl outer) (call (.ref 53) [.ref pl, .int i ti]) Q E s := by
  revert X; k_fill; intro X
  refine wpAny_call ?_
  k_dflt ktr_enter
  k_steps
  exact hret _ _ _ _ (by k_asm) (news_cons (by k_asm) hm (by assumption)) (by assumption)
end
section
theorem topOffpopfrom0 : True := by
  w_top off
  trivial
theorem pop_from0_spec {w : World} {p : Program} {loose : List Str} {mean : ExcName → Option Value} {mg mb : Str → Option Value}
  {dp un : Nat} {gd : Option (List Code)} {cn : Str} {cs : Scope} {a : Addr} {ccd : Value} {cl : List (Str × Addr)} {outer : List Env} {A₀ : Around} {base h₀ : Heap} {L : Addr} {m : Str → Option Value} {news : List (Addr × Obj)} {s : Shared}
    {Q E : Value → Shared → Prop}
    (B : Below A₀ base outer h₀) (F : Fr h₀ L s.heap m) (X : (kK w.params).In h₀) (N : News h₀ L s.heap news) (T : Top p loose mean mg mb h₀) (hk : cs.kind = .function)
    (hd1 : dp + 1 < recursionLimit) (hu : un + 8 < cLine)
    (pl d : Addr) (its : List Value) (n k : Nat) (hs : Int) (ta tb : Tok)
    (hm : (pl, pileO 99 d its n) ∈ news) (hdm : (d, dictOf (isz hs ta tb) k) ∈ news) (hsz : its.length ≤ sizeLine)
    (hret : ∀ D h' tk' n', Fr h₀ L h' m → News h₀ L h' ((D, lstO (its.drop 0) 0) :: setAt pl (pileO 99 d (its.take 0) n') news) → (∀ q ∈ news, q.1 < D) → Q (.ref D) { s with heap := h', toks := tk' }) :
    wpAny (model PySem.Challenge.rw_ph0024_02.row.prog w) (ktrTop dp un gd cn cs L a ccd cl outer) (call (.ref 53) [.ref pl]) Q E s := by
  revert X; k_fill; intro X
  refine wpAny_call ?_
  k_dflt ktr_enter
  rename Fr _ _ _ _ => F9
  obtain ⟨mr, F0⟩ : ∃ mr, Fr _ _ _ (lay [(Str.ofString "self", .ref pl), (Str.ofString "i", .int 0 _)] mr) := ⟨_, Mine.Fr.lay F9 ⟨rfl, rfl, trivial⟩⟩
  clear F9
  dsimp only [lay] at F0
  have h00 : (0 : Int) ≤ 0 := Int.le_refl 0
  k_steps
  exact hret _ _ _ _ (by k_asm) (news_cons (by k_asm) hm (by assumption)) (by assumption)
end
section
theorem topOffmake : True := by
  w_top off
  trivial
theorem make_spec {w : World} {p : Program} {loose : List Str} {mean : ExcName → Option Value} {mg mb : Str → Option Value}
  {dp un : Nat} {gd : Option (List Code)} {cn : Str} {cs : Scope} {a : Addr} {ccd : Value} {cl : List (Str × Addr)} {outer : List Env} {A₀ : Around} {base h₀ : Heap} {L : Addr} {m : Str → Option Value} {news : List (Addr × Obj)} {s : Shared}
    {Q E : Value → Shared → Prop}
    (B : Below A₀ base outer h₀) (F : Fr h₀ L s.heap m) (X : (kK w.params).In h₀) (N : News h₀ L s.heap news) (T : Top p loose mean mg mb h₀) (hk : cs.kind = .function)
    (hd1 : dp + 2 < recursionLimit) (hu : un + 12 < cLine)
    (hret : ∀ x dx h' tk' n' hs ta tb, Fr h₀ L h' m → News h₀ L h' ((x, pileO 99 dx [] n') :: (dx, dictOf (isz hs ta tb) 1) :: news) → (∀ q ∈ news, q.1 < dx) → dx < x → Q (.ref x) { s with heap := h', toks := tk' }) :
    wpAny (model PySem.Challenge.rw_ph0024_02.row.prog w) (ktrTop dp un gd cn cs L a ccd cl outer) (call (.ref 99) [] []) Q E s := by
  revert X; k_fill; intro X
  refine call_pile F X N (by kernel_rfl) (by k_is) (by k_is) ?_
  intro x dx h' F' N' l1 l2
  k_dflt ks_enter
  refine ks_wpAt_execs_cons ?_
  refine wpAt_of_wpAny ?_
  walk1
  walk1
  walk1
  walk1
  refine ks_wpAt_execs_cons ?_
  refine ks_wpAt_Expr_any ?_ rfl rfl
  k_steps
  exact hret _ _ _ _ _ _ _ _ (by k_asm) (news_make (by k_asm) l1 l2) l1 l2
end
section
theorem topOffstr : True := by
  w_top off
  trivial
theorem str_spec (w : World) (p : Program) (loose : List Str) (mean : ExcName → Option Value) (mg mb : Str → Option Value) (A : Around) (Q E : Value → Shared → Prop) (s : Shared)
    (X : (kK w.params).In s.heap) (T : Top p loose mean mg mb s.heap) (hA : A.handled = none) (hdep : A.depth + 3 < recursionLimit) (hu : A.units + 20 < cLine)
    (pl d P : Addr) (od : Obj) (pcs : List Pc) (n : Nat) (ps : Array Value) (hm : s.heap.get? pl = some (pileO 99 d (pcs.map fun c => .ref c.a) n)) (hdm : s.heap.get? d = some od) (hit : ∀ c ∈ pcs, s.heap.get? c.a = some c.obj)
    (hw : (pcs.map fun c => c.f.length + c.p.length).sum + pcs.length ≤ 100000)
    (hok : s.heap.IsCode 73 P ps) (htab : s.heap.TableAt 73 P ps) (G : AllBare s.gens)
    (hret : ∀ h' tk' g' more t, Heap.ExtBut P s.heap h' → h'.IsCode 73 P (ps ++ more) → h'.TableAt 73 P (ps ++ more) → AllBare g' → Q (.str (pileText pcs) t) { s with heap := h', toks := tk', gens := g' }) :
    wpAny (model PySem.Challenge.rw_ph0024_02.row.prog w) A (call (.ref 74) [.ref pl]) Q E s := by
  revert X; k_fill; intro X
  refine wpAny_call ?_
  refine ks_codeAny_call_defAt (binds := [("self", .ref pl)]) (by omega) (X _ _ (by k_is)) rfl T.nolimit (codeRec_of X (by k_is)) rfl (BindsTo.of_eq rfl) (by decide) (locs rfl) (fun h₁ hns hk => wpAt_of_wpAny ?_) rfl rfl rfl
  have F : Fr s.heap s.heap.objs.size h₁ (fun x => [(("self" : Str), Value.ref pl)].reverse.lookup x) := ⟨hns, hk, Nat.le_refl _⟩
  have N : News s.heap s.heap.objs.size h₁ [] := News.nil
  k_steps
  obtain ⟨bm, ob, M⟩ := bmod_of_top T
  have X₁ : (kK w.params).In h₁ := X.keeps hk
  have hEm : mg "EMPTYSTRING" = some (.str "" 196) := mg_of X T.g (by k_is)
  refine gen_pile (K := kK w.params) (C := 99) (x := pl) (c := 73) (P := P) (ps := ps) (its := pcs.map fun c => .ref c.a) (n := n) (ox := pileO 99 d (pcs.map fun c => .ref c.a) n) (od := some od) (mg := mg) (bm := bm) (ob := ob)
    (fun j => (pcs.getD j default).a) (fun j => .str (pcs.getD j default).f (pcs.getD j default).tf) (fun j => .str (pcs.getD j default).p (pcs.getD j default).tp) (fun j y => ∃ u, y = .str (pcText (pcs.getD j default)) u)
    hA (Nat.lt_of_lt_of_le (Nat.add_lt_add_right (Nat.lt_add_of_pos_right (by decide : 0 < 2)) 1) (Nat.le_of_lt hdep)) rfl rfl (by decide) rfl rfl rfl (by decide) rfl rfl (hok.keeps hk) (htab.keeps hk) (M.keeps hk) (T.nolimit.keeps hk) G X₁
    ⟨hk _ _ hm, rfl, rfl, hk _ _ hdm⟩ rfl (by k_is) (by k_is) (fun q => wpAny_Name (wpAny_loadName_local rfl rfl hns rfl q) (by decide)) (fun _ => rfl) ?_ ?_ ?_ ?_
  · intro j hj
    rw [List.length_map] at hj
    simp [List.getD_eq_getElem?_getD, List.getElem?_eq_getElem hj]
  · intro j hj
    rw [List.length_map] at hj
    have e : pcs.getD j default = pcs[j] := by simp [List.getD_eq_getElem?_getD, List.getElem?_eq_getElem hj]
    rw [e]
    exact ⟨_, hk _ _ (hit _ (List.getElem_mem hj)), rfl, _, rfl⟩
  · intro C' code A' E' i s₂ m₂ Q' hi hA' hn ha hb hkp hq
    rw [List.length_map] at hi
    have e : pcs.getD i default = pcs[i] := by simp [List.getD_eq_getElem?_getD, List.getElem?_eq_getElem hi]
    have hle : (pcs.getD i default).f.length + (pcs.getD i default).p.length ≤ 100000 := by
      rw [e]
      have : pcs[i].f.length + pcs[i].p.length ≤ (pcs.map fun c => c.f.length + c.p.length).sum := le_sum_of_mem (List.mem_map.mpr ⟨pcs[i], List.getElem_mem hi, rfl⟩)
      omega
    exact elt_join (mg := mg) (te := 196) rfl rfl rfl rfl ((T.g.keeps hk).at' fun o e => hkp _ o (M.apart htab).1 e) hEm hn ha hb hle rfl fun h' tk t hk' => hq _ _ _ ⟨_, rfl⟩ hk'
  · intro a s₅ more hx hok' htab' G' ho hd' W
    dsimp only at hx ho hd' W
    refine spliced_nil ?_
    dsimp only
    rw [List.length_map] at W
    refine join_genW W G' (fun j => pcText (pcs.getD j default)) (fun j v hv => hv) ?_ ?_ fun s' t' hk' G'' ho' hd'' => ?_
    · rw [range_map_getD pcs pcText]
      exact joinOk_of_weight (by rw [pcs_weight, List.length_map]; omega) (by decide)
    · rw [sizeLine_eq]; omega
    · rw [range_map_getD pcs pcText]
      rw [shared_eta s s' (ho'.trans ho) (hd''.trans hd')]
      have hN : s.heap.objs.size < h₁.objs.size := hns.lt
      refine hret _ _ _ more _ (fun b o hb e => hk' b o (Heap.lt_size (hk _ _ e)) (hx b o hb (hk _ _ e))) (hok'.at2 (fun o e => hk' _ o (hok.keeps hk).lt.1 e) (fun o e => hk' _ o (hok.keeps hk).lt.2 e)) (htab'.at2 (fun o e => hk' _ o (hok.keeps hk).lt.1 e) (fun o e => hk' _ o (hok.keeps hk).lt.2 e)) G''
theorem str_led {w : World} {p : Program} {loose : List Str} {mean : ExcName → Option Value} {mg mb : Str → Option Value} {A : Around} {Q E : Value → Shared → Prop} {s : Shared} {h₀ : Heap} {L : Addr} {m : Str → Option Value} {news : List (Addr × Obj)}
    (F : Fr h₀ L s.heap m) (X : (kK w.params).In h₀) (N : News h₀ L s.heap news) (T : Top p loose mean mg mb h₀) (hA : A.handled = none) (hdep : A.depth + 3 < recursionLimit) (hu : A.units + 20 < cLine)
    (pl d : Addr) (pcs : List Pc) (ps : Array Value) (Pl : Pile 99 news pl d pcs) (hw : (pcs.map fun c => c.f.length + c.p.length).sum + pcs.length ≤ 100000) (hP : (69, tabObj ps) ∈ news) (hT : TriplesOk ps.toList) (G : AllBare s.gens)
    (hret : ∀ h' tk' g' ps' t news', Fr h₀ L h' m → News h₀ L h' news' → (69, tabObj ps') ∈ news' → TriplesOk ps'.toList → AllBare g' → Keeps 69 news news' → Q (.str (pileText pcs) t) { s with heap := h', toks := tk', gens := g' }) :
    wpAny (model PySem.Challenge.rw_ph0024_02.row.prog w) A (call (.ref 74) [.ref pl]) Q E s := by
  obtain ⟨⟨n, hm⟩, ⟨hs, ta, tb, k, hdm⟩, hit⟩ := Pl
  have C : CodeHd s.heap 73 69 := codeHd_of_K (X.keeps F.keep) (by kernel_rfl)
  have hz := (N _ hP).2
  refine str_spec w p loose mean mg mb A Q E s (X.keeps F.keep) (T.keeps F.keep) hA hdep hu pl d 69 _ pcs n ps (N.get hm) (N.get hdm) (fun c hc => N.get (hit c hc)) hw (C.code (N.get hP) hT) (C.tab (N.get hP)) G fun h' tk' g' more t hx hc ht hg => ?_
  refine hret h' tk' g' (ps ++ more) t ((69, tabObj (ps ++ more)) :: but 69 news) (Fr.upto F hz.2 (Ne.symm hz.1) hx) ?_ (List.Mem.head _) ?_ hg (fun q hq e => List.Mem.tail _ (but_mem.mpr ⟨hq, e⟩))
  · intro q hq
    rcases List.mem_cons.mp hq with rfl | hq
    · exact ⟨ht.2, hz⟩
    · obtain ⟨h1, h2⟩ := but_mem.mp hq
      exact ⟨hx _ _ h2 (N q h1).1, (N q h1).2⟩
  · obtain ⟨_, _, _, _, _, _, _, _, _, op, _, _, _, _, _, _, _, h1, h2, h3, _⟩ := hc
    exact h3
end
local macro_rules | `(tactic| wtm_at "L1") => `(tactic| (k_here; (with_reducible show wpAny _ _ (subscriptTail _ _ (Value.ref _) (Value.int 1 _)) _ _ _); (refine' Mine.tup_item1 ?k1 ?k2 ?_ ?k3; (case k1 => k_asm); (case k2 => k_mem); (case k3 => with_unfolding_all rfl); k_whole)))
section
theorem topOffreplace : True := by
  w_top off
  trivial
local macro_rules | `(tactic| ktr_enter) => `(tactic| (refine' Mine.code_rest ?k1 ?k2 ?k3 ?k4 ?k5 ?kA ?kF ?kK ?k6 ?k7 ?k8 ?kz ?kB ?_ ?c2 ?c3 ?c4 ?c5; wtm_at "E8"; (case kz => assumption); (case kB => exact fun _ => locs rfl); (case c5 => decide); (case c2 | c3 | c4 => exact rfl); k_whole; intro D' g' L' h' l1 FG' F' N' B' X' T'; (try dsimp only); (try k_fold)))
local macro_rules | `(tactic| walk_at "truthy ref") => `(tactic| (k_here; (with_reducible show wpAny _ _ (truthy (Value.ref _)) _ _ _); k_dflt (refine' ktl_truthyK ?N ?m ?z ?_; (case N => k_asm); (case m => k_mem); (case z => first | assumption | exact Nat.le_of_ble_eq_true rfl); k_whole); (try simp only [prVals, List.isEmpty_cons, List.isEmpty_nil, Bool.not_false, Bool.not_true])))
local macro_rules | `(tactic| walk_at "call builtin:str.split") => `(tactic| (k_here; k_dflt (refine' Mine.split_K ?k1 ?k2 ?k3 ?k4 ?_; (case k1 | k2 => k_asm); (case k3 | k4 => assumption); k_whole; intro D' l' h' k' e' F' N' l1)))
local macro_rules | `(tactic| walk_at "call builtin:str.join") => `(tactic| (k_here; k_dflt (refine' Mine.join_K ?k1 ?k2 ?k3 ?k4 ?k5 ?k6 ?_; (case k1 => k_asm); (case k2 => exact List.Mem.head _); (case k3 | k4 | k5 | k6 => assumption); k_whole; intro t' k')))
local macro_rules | `(tactic| walk_at "subscriptTail") => `(tactic| (k_here; (with_reducible show wpAny _ _ (subscriptTail _ _ (Value.ref _) (Value.int 0 _)) _ _ _); (refine' Mine.tup_item0 ?k1 ?k2 ?_ ?k3; (case k1 => k_asm); (case k2 => k_mem); (case k3 => with_unfolding_all rfl); k_whole)))
local macro_rules | `(tactic| walk_at "subscriptTail") => `(tactic| wtm_at "L1")
local macro_rules | `(tactic| walk_at "subscriptTail") => `(tactic| (k_here; wtm_at "R1"; k_dflt (refine' Mine.tup_drop2 ?k1 ?k2 ?k3 ?k4 ?k5 ?k6 ?_; (case k1 | k2 => k_asm); (case k3 => k_mem); (case k4 => assumption); (case k5 => with_unfolding_all rfl); (case k6 => (intro _; with_unfolding_all rfl)); k_whole; intro D' h' F' N' l1)))
abbrev rMap (x : Str) (tx : Tok) (tp : Addr) : Str → Option Value := fun y => if y = (Str.ofString "pairs") then some (.ref tp) else if y = (Str.ofString "text") then some (.str x tx) else none
theorem rMap_next (x y : Str) (tx ty : Tok) (tp tq : Addr) : (fun z : Str => if z = Str.ofString "pairs" then some (Value.ref tq) else if z = Str.ofString "text" then some (Value.str y ty) else rMap x tx tp z) = rMap y ty tq := by
  funext z
  unfold rMap
  by_cases h : z = Str.ofString "pairs"
  · rw [if_pos h, if_pos h]
  · rw [if_neg h]
    by_cases h2 : z = Str.ofString "text"
    · rw [if_pos h2, if_neg h, if_pos h2]
    · rw [if_neg h2, if_neg h, if_neg h2, if_neg h, if_neg h2]
theorem news_sub {h₀ h : Heap} {L : Addr} {n₁ n₂ : List (Addr × Obj)} (N : News h₀ L h n₁) (s : ∀ e ∈ n₂, e ∈ n₁) : News h₀ L h n₂ := fun p hp => N p (s p hp)
def rJ (news : List (Addr × Obj)) (fin : Str) : Nat → (Str → Option Value) → List (Addr × Obj) → Prop := fun k m₁ news₁ =>
  ∃ prs x tx tp, k = prs.length ∧ m₁ = rMap x tx tp ∧ news₁ = (tp, tupO (prVals prs)) :: news ∧ replAll x prs = fin ∧ x.length ≤ 1000 ∧ (∀ q ∈ prs, q.ok) ∧ prs.length ≤ 100
theorem replace_spec {w : World} {p : Program} {loose : List Str} {mean : ExcName → Option Value} {mg mb : Str → Option Value}
  {dp un : Nat} {gd : Option (List Code)} {cn : Str} {cs : Scope} {a : Addr} {ccd : Value} {cl : List (Str × Addr)} {outer : List Env} {A₀ : Around} {base h₀ : Heap} {L : Addr} {m : Str → Option Value} {news : List (Addr × Obj)} {s : Shared}
    {Q E : Value → Shared → Prop}
    (B : Below A₀ base outer h₀) (F : Fr h₀ L s.heap m) (X : (kK w.params).In h₀) (N : News h₀ L s.heap news) (T : Top p loose mean mg mb h₀) (hk : cs.kind = .function)
    (hd1 : dp + 1 < recursionLimit) (hu : un + 8 < cLine)
    (x : Str) (tx : Tok) (prs₀ : List Pr) (ok : ∀ q ∈ prs₀, q.ok) (hl₀ : prs₀.length ≤ 100) (hx : x.length ≤ 1000)
    (hret : ∀ h' tk' t, Fr h₀ L h' m → News h₀ L h' news → Q (.str (replAll x prs₀) t) { s with heap := h', toks := tk' }) :
    wpAny (model PySem.Challenge.rw_ph0024_02.row.prog w) (ktrTop dp un gd cn cs L a ccd cl outer) (call (.ref 110) (.str x tx :: prVals prs₀)) Q E s := by
  have hz₀ : (prVals prs₀).length ≤ sizeLine := by rw [prVals_len, sizeLine_eq]; omega
  revert X; k_fill; intro X
  refine wpAny_call ?_
  k_dflt ktr_enter
  rename_i D' g' L' h' l1 FG' F' N' B' X' T' 
  refine wpAny_execs_cons ?_
  have F2 : Fr g' L' h' (rMap x tx D') := by
    have e := lookup2 (Str.ofString "pairs") (Str.ofString "text") (.ref D') (.str x tx)
    have F3 : Fr g' L' h' (fun y : Str => ([(Str.ofString "pairs", .ref D'), (Str.ofString "text", .str x tx)] : List (Str × Value)).lookup y) := F'
    rw [e] at F3
    exact F3
  refine While_inv2 (h₀ := g') (L := L') (news := (D', tupO (prVals prs₀)) :: news) (rJ news (replAll x prs₀)) (n₀ := prs₀.length) (m := rMap x tx D') F2 N' ⟨prs₀, x, tx, D', rfl, rfl, rfl, rfl, hx, ok, hl₀⟩ ?_ (by with_unfolding_all passes_own)
  clear F' N' F2
  intro k m₁ news₁ h₁ tk₁ F₁ N₁ J₁
  obtain ⟨prs, y, ty, tp, rfl, rfl, rfl, hfin, hy, hpr, hlen⟩ := J₁
  cases prs with
  | nil =>
    k_steps
    subst hfin
    exact hret _ _ _ (by k_asm) (news_tail (by k_asm))
  | cons q r =>
    obtain ⟨ho, hn, ho2⟩ := hpr q List.mem_cons_self
    change News _ _ _ ((tp, tupO (Value.str q.o q.t :: Value.str q.n q.u :: prVals r)) :: news) at N₁
    have hn2 : q.n.length ≤ 100 := Nat.le_trans hn ho2
    have hz : (Value.str q.o q.t :: Value.str q.n q.u :: prVals r).length ≤ 1000 := by
      have := prVals_len r
      simp only [List.length_cons] at hlen ⊢
      omega
    k_steps
    refine ⟨_, _, _, (_, tupO (prVals r)) :: news, r.length, rfl, by k_asm, news_sub (by k_asm) ?_, Nat.lt_succ_self _, r, repl y q.o q.n, _, _, rfl, rMap_next .., rfl, hfin, ?_, fun q' hq' => hpr q' (List.mem_cons_of_mem _ hq'), Nat.le_trans (Nat.le_succ _) hlen⟩
    · intro e he
      rcases List.mem_cons.mp he with rfl | he
      · exact List.Mem.head _
      · exact List.Mem.tail _ (List.Mem.tail _ (List.Mem.tail _ he))
    · exact Nat.le_trans (repl_len _ _ _ hn) hy
end
local macro_rules | `(tactic| wtm_at "L2") => `(tactic| (k_here; wtm_at "R2"; k_dflt (refine' Mine.lst_item ?k1 ?k2 ?k3 ?k4 ?k5 ?_ ?k6; (case k1 => k_asm); (case k2 => k_mem); (case k5 => assumption); (case k3 | k4 => first | assumption | omega); (case k6 => with_unfolding_all rfl); k_whole)))
section
theorem topOffpairs : True := by
  w_top off
  trivial
local macro_rules | `(tactic| walk_at "subscriptTail") => `(tactic| wtm_at "L2")
local macro_rules | `(tactic| walk_at "call builtin:list.extend") => `(tactic| (k_here; (with_reducible show wpAny _ _ (call (Value.builtin _) [Value.ref _, Value.ref _]) _ _ _); k_dflt (refine' Mine.lst_extend_tup ?k1 ?k2 ?k3 ?k4 ?k5 ?k6 ?_; (case k1 | k2 => k_asm); (case k3 | k4 => k_mem); (case k5 => exact List.cons_ne_nil _ _); (case k6 => first | assumption | omega); k_whole; intro h' F' N')))
theorem pairs_spec {w : World} {p : Program} {loose : List Str} {mean : ExcName → Option Value} {mg mb : Str → Option Value}
  {dp un : Nat} {gd : Option (List Code)} {cn : Str} {cs : Scope} {a : Addr} {ccd : Value} {cl : List (Str × Addr)} {outer : List Env} {A₀ : Around} {base h₀ : Heap} {L : Addr} {m : Str → Option Value} {news : List (Addr × Obj)} {s : Shared}
    {Q E : Value → Shared → Prop}
    (B : Below A₀ base outer h₀) (F : Fr h₀ L s.heap m) (X : (kK w.params).In h₀) (N : News h₀ L s.heap news) (T : Top p loose mean mg mb h₀) (hk : cs.kind = .function)
    (hd1 : dp + 1 < recursionLimit) (hu : un + 100 < cLine)
    (sm : Int) (ts : Tok) (kept : Int) (tkp : Tok) (hkp : 0 ≤ kept) (hkp1 : kept ≤ 1)
    (hret : ∀ l h' tk' n' ps, Fr h₀ L h' m → News h₀ L h' ((l, lstO (prVals ps) n') :: news) → (ps.map fun q => (q.o, q.n)) = pairs02 sm kept 13 → (∀ q ∈ news, q.1 < l) → Q (.ref l) { s with heap := h', toks := tk' }) :
    wpAny (model PySem.Challenge.rw_ph0024_02.row.prog w) (ktrTop dp un gd cn cs L a ccd cl outer) (call (.ref 117) [.int sm ts, .int kept tkp]) Q E s := by
  revert X; k_fill; intro X
  refine wpAny_call ?_
  k_dflt ktr_enter
  generalize hW : Stmt.For _ _ _ _ _ = W
  k_steps
  subst hW
  rename Fr _ _ _ _ => F1
  rename News _ _ _ _ => N1
  obtain ⟨Dr, Dp, X0, N2, ⟨mr, F2⟩, hR, ⟨n0, hp⟩, hsub, hlp⟩ : ∃ (Dr Dp : Addr) (X0 : List (Addr × Obj)), News _ _ _ X0 ∧ (∃ mr, Fr _ _ _ (lay [(Str.ofString "s", .int sm ts), (Str.ofString "rules", .ref Dr), (Str.ofString "pairs", .ref Dp)] mr)) ∧ (∃ items n, (Dr, lstO items n) ∈ X0 ∧ RIn X0 items (rules02 kept)) ∧ (∃ n, (Dp, lstO [] n) ∈ X0) ∧ subL news X0 ∧ ∀ q ∈ news, q.1 < Dp := by
    refine ⟨_, _, _, N1, ⟨_, Mine.Fr.lay F1 ⟨rfl, rfl, rfl, trivial⟩⟩, ⟨_, _, by k_mem, ?_⟩, ⟨_, by k_mem⟩, ?_, ?_⟩
    · refine ⟨⟨_, _, _, rfl, by k_mem⟩, ⟨_, _, _, rfl, by k_mem⟩, ⟨_, _, _, rfl, by k_mem⟩, ⟨_, _, _, rfl, by k_mem⟩, ⟨_, _, _, rfl, by k_mem⟩, ⟨_, _, _, rfl, by k_mem⟩, ⟨_, _, _, rfl, by k_mem⟩, ⟨_, _, _, rfl, by k_mem⟩, ⟨_, _, _, rfl, by k_mem⟩, ⟨_, _, _, rfl, by k_mem⟩, ⟨_, _, _, rfl, by k_mem⟩, ⟨_, _, _, rfl, by k_mem⟩, ⟨_, _, _, rfl, by k_mem⟩, trivial⟩
    · intro q hq
      repeat first | exact hq | apply List.Mem.tail
    · intro q hq
      refine allLt_mem ?_ hq
      rename _ < _ ∧ _ => h1
      clear h1
      rename _ < _ ∧ _ => h
      repeat (first | exact h | replace h := h.2)
  clear F1 N1
  have NX0 : ∃ h, News _ _ h X0 := ⟨_, N2⟩
  have e13 : Builtin.Range.rangeSize 0 13 1 = ((13 : Nat) : Int) := by decide
  refine For_led F2 ?_ (by intro _; with_unfolding_all rfl) (by with_unfolding_all passes_own)
  dsimp only [lay] at F2
  k_steps
  rename Fr _ _ _ _ => F3
  rename News _ _ _ _ => N3
  rename IsRange _ _ _ _ _ _ _ _ => hrng
  have F4 := Mine.Fr.lay (l := [(Str.ofString "s", .int sm ts), (Str.ofString "rules", .ref Dr), (Str.ofString "pairs", .ref Dp)]) F3 ⟨rfl, rfl, rfl, trivial⟩
  obtain ⟨items, nr, hDr, hRI⟩ := hR
  have hDne : Dr ≠ Dp := by
    intro e
    subst e
    have e1 := (N3 _ hDr).1.symm.trans (N3 _ hp).1
    have e2 := congrArg (fun o => match o with | some (⟨_, _, .seq a _, _⟩ : Obj) => a.size | _ => 0) e1
    have e3 := hRI.len
    rw [rules02_len] at e3
    simp [e3] at e2
  refine led_range (n := 13) (PJ02 s.gens X0 [(Str.ofString "s", .int sm ts), (Str.ofString "rules", .ref Dr), (Str.ofString "pairs", .ref Dp)] Dp sm kept) rfl hrng (by decide) e13 F4 N3 ⟨rfl, ⟨_, rfl⟩, fun q hq _ => hq, [], n0, hp, rfl⟩ ?_ ?_
  · clear F3 F4 N3
    intro I i t m₁ news₁ h tk gs o hi hJ F₁ N₁ hIt hne
    obtain ⟨rfl, ⟨mr₁, rfl⟩, hX, ps, n1, hps, hpe⟩ := hJ
    dsimp only [lay] at F₁
    have hDr₁ := hX _ hDr hDne
    clear hret
    iterate 31 walk1
    dsimp only
    have hidx : (sm + (1 + (sm.fdiv 13).fmod 12) * (0 + (i : Int) * 1)).fmod 13 = idx02 sm i := by
      show _ = (sm + (1 + (sm.fdiv 13).fmod 12) * (i : Int)).fmod 13
      rw [Int.mul_one, Int.zero_add]
    rw [hidx]
    obtain ⟨hz0, hz1⟩ := idx02_bd sm i
    obtain ⟨tq, qa, qb, hget, hmq⟩ := hRI.get (idx02 sm i).toNat (by rw [rules02_len]; omega)
    obtain ⟨_, NX0⟩ := NX0
    have hmq₁ := hX _ hmq (news_ne NX0 hmq hp tup_ne_lst)
    clear NX0
    have hz2 : idx02 sm i < 2 ^ 63 := by omega
    have hl : (prVals ps).length = 2 * i := by
      have := congrArg List.length hpe
      rw [List.length_map, pairs02, List.length_map, List.length_range] at this
      rw [prVals_len, this]
    have hl2 : (prVals ps).length + [Value.str ((rules02 kept).getD (idx02 sm i).toNat default).1 qa, Value.str ((rules02 kept).getD (idx02 sm i).toNat default).2 qb].length ≤ 1000 := by
      show _ + 2 ≤ 1000
      omega
    have hDr₂ := List.Mem.tail (I, o) hDr₁
    have hmq₂ := List.Mem.tail (I, o) hmq₁
    have hps₂ := List.Mem.tail (I, o) hps
    have hI₂ : (I, o) ∈ (I, o) :: news₁ := List.Mem.head _
    have hIp : I ≠ Dp := fun e => hne _ hps e.symm
    have hpe' : ((ps ++ [(⟨((rules02 kept).getD (idx02 sm i).toNat default).1, qa, ((rules02 kept).getD (idx02 sm i).toNat default).2, qb⟩ : Pr)]).map fun q : Pr => (q.o, q.n)) = pairs02 sm kept (i + 1) := by
      rw [List.map_append, hpe, pairs02_succ]; rfl
    generalize ((rules02 kept).getD (idx02 sm i).toNat default).1 = q1 at *
    generalize ((rules02 kept).getD (idx02 sm i).toNat default).2 = q2 at *
    clear hidx
    generalize hX1 : (I, o) :: news₁ = X1 at *
    k_steps

    unfold LedStep
    dsimp only
    rename Fr _ _ _ _ => F9
    rename News _ _ _ _ => N9
    have F10 := Mine.Fr.lay (l := [(Str.ofString "s", .int sm ts), (Str.ofString "rules", .ref Dr), (Str.ofString "pairs", .ref Dp)]) F9 ⟨rfl, rfl, rfl, trivial⟩
    have hI10 := setAt_mem (p := Dp) (o := lstO (prVals ps ++ [Value.str q1 qa, Value.str q2 qb]) (n1 + 1)) hI₂ hIp
    refine ⟨_, _, _, _, _, but I _, o, rfl, F10, N9, hI10, hIt, fun q hq => but_mem.mp hq, rfl, ⟨_, rfl⟩, fun q hq hd => but_mem.mpr ⟨setAt_mem (hX1 ▸ List.Mem.tail _ (hX q hq hd)) hd, hne _ (hX q hq hd)⟩, _, n1 + 1, but_mem.mpr ⟨?_, fun e => hIp e.symm⟩, hpe'⟩
    rw [prVals_append]
    exact setAt_self hps₂
  · intro m₁ news₁ h₁ tk₁ gs₁ hJ F₁ N₁
    obtain ⟨rfl, ⟨mr₁, rfl⟩, hX, ps, n1, hps, hpe⟩ := hJ
    dsimp only [lay] at F₁
    k_steps
    rename News _ _ _ _ => N9
    refine hret _ _ _ n1 ps (by k_asm) ?_ hpe hlp
    intro q hq
    rcases List.mem_cons.mp hq with rfl | hq
    · exact N9 _ hps
    · exact N9 _ (hX _ (hsub _ hq) (Nat.ne_of_lt (hlp _ hq)))
end
section
theorem topOffwalked : True := by
  w_top off
  trivial
local macro_rules | `(tactic| walk_at "subscriptTail") => `(tactic| wtm_at "L2")
def WJ02 (gs₀ : Array GenState) (X₀ : List (Addr × Obj)) (pp : Addr) (x : Str) (ps : List Pr) : Inv := fun i m₁ news₁ gs =>
  gs = gs₀ ∧ (∃ mr t, m₁ = lay [(Str.ofString "line", .str (replAll x (ps.take i)) t), (Str.ofString "pairs", .ref pp)] mr) ∧ subL X₀ news₁
def WWJ02 (X₀ : List (Addr × Obj)) (t : Tok) (z : Int) (y : Str) (ty : Tok) (pp : Addr) (q : Pr) : Nat → (Str → Option Value) → List (Addr × Obj) → Prop := fun k m₁ news₁ =>
  ∃ mr d td, ∃ a : Nat, ∃ ta, m₁ = lay [(Str.ofString "at", .int (a : Int) ta), (Str.ofString "done", .str d td), (Str.ofString "k", .int z t), (Str.ofString "line", .str y ty), (Str.ofString "pairs", .ref pp)] mr ∧ subL X₀ news₁ ∧
    d.cps.toList ++ rp q.o.cps.toList q.n.cps.toList 0 (y.cps.toList.drop a) = rp q.o.cps.toList q.n.cps.toList 0 y.cps.toList ∧ a ≤ y.length ∧ k = y.length - a ∧ d.length ≤ a
theorem prVals_get : ∀ (ps : List Pr) (i : Nat) (q : Pr), ps[i]? = some q → (prVals ps)[2 * i]? = some (.str q.o q.t) ∧ (prVals ps)[2 * i + 1]? = some (.str q.n q.u)
  | [], _, _, h => by simp at h
  | r :: _, 0, q, h => by
    have e : r = q := by simpa using h
    subst e
    exact ⟨rfl, rfl⟩
  | _ :: ps, i + 1, q, h => by
    have := prVals_get ps i q (by simpa using h)
    exact this
theorem walked_spec {w : World} {p : Program} {loose : List Str} {mean : ExcName → Option Value} {mg mb : Str → Option Value}
  {dp un : Nat} {gd : Option (List Code)} {cn : Str} {cs : Scope} {a : Addr} {ccd : Value} {cl : List (Str × Addr)} {outer : List Env} {A₀ : Around} {base h₀ : Heap} {L : Addr} {m : Str → Option Value} {news : List (Addr × Obj)} {s : Shared}
    {Q E : Value → Shared → Prop}
    (B : Below A₀ base outer h₀) (F : Fr h₀ L s.heap m) (X : (kK w.params).In h₀) (N : News h₀ L s.heap news) (T : Top p loose mean mg mb h₀) (hk : cs.kind = .function)
    (hd1 : dp + 1 < recursionLimit) (hu : un + 20 < cLine)
    (x : Str) (tx : Tok) (pp : Addr) (np : Nat) (ps : List Pr) (hm : (pp, lstO (prVals ps) np) ∈ news) (hl : ps.length = 13) (ok : ∀ q ∈ ps, q.ok) (hk1 : ∀ q ∈ ps, Builtin.Str.strKind q.o = 1) (hx : x.length ≤ 1000)
    (hret : ∀ h' tk' t, Fr h₀ L h' m → News h₀ L h' news → Q (.str (replAll x ps) t) { s with heap := h', toks := tk' }) :
    wpAny (model PySem.Challenge.rw_ph0024_02.row.prog w) (ktrTop dp un gd cn cs L a ccd cl outer) (call (.ref 124) [.str x tx, .ref pp]) Q E s := by
  revert X; k_fill; intro X
  refine wpAny_call ?_
  k_dflt ktr_enter
  rename Fr _ _ _ _ => F1
  rename News _ _ _ _ => N1
  have F2 := Mine.Fr.lay (l := [(Str.ofString "line", .str x tx), (Str.ofString "pairs", .ref pp)]) F1 ⟨rfl, rfl, trivial⟩
  clear F1
  have e13 : Builtin.Range.rangeSize 0 26 2 = ((13 : Nat) : Int) := by decide
  refine wpAny_execs_cons ?_
  refine For_led F2 ?_ (by intro _; with_unfolding_all rfl) (by with_unfolding_all passes_own)
  dsimp only [lay] at F2
  k_steps
  rename Fr _ _ _ _ => F3
  rename News _ _ _ _ => N3
  rename IsRange _ _ _ _ _ _ _ _ => hrng
  have F4 := Mine.Fr.lay (l := [(Str.ofString "line", .str x tx), (Str.ofString "pairs", .ref pp)]) F3 ⟨rfl, rfl, trivial⟩
  refine led_range (n := 13) (WJ02 s.gens news pp x ps) rfl hrng (by decide) e13 F4 N3 ⟨rfl, ⟨_, _, rfl⟩, subL.refl _⟩ ?_ ?_
  · clear F3 F4 N3
    intro I i t m₁ news₁ h tk gs o hi hJ F₁ N₁ hIt hne
    obtain ⟨rfl, ⟨mr₁, ty, rfl⟩, hX⟩ := hJ
    obtain ⟨y, hy⟩ : ∃ y, replAll x (ps.take i) = y := ⟨_, rfl⟩
    rw [hy] at F₁
    dsimp only [lay] at F₁
    have hpp : (pp, lstO (prVals ps) np) ∈ (I, o) :: news₁ := List.Mem.tail (I, o) (hX _ hm)
    obtain ⟨q, hq⟩ : ∃ q, ps[i]? = some q := ⟨ps[i]'(by omega), List.getElem?_eq_getElem _⟩
    have hqm : q ∈ ps := List.mem_of_getElem? hq
    obtain ⟨ok1, ok2, ok3⟩ := ok q hqm
    have hkq := hk1 q hqm
    have hyl : y.length ≤ 1000 := by rw [← hy]; exact Nat.le_trans (replAll_len _ x fun r hr => ok r (List.mem_of_mem_take hr)) hx
    obtain ⟨z, hz⟩ : ∃ z : Int, 0 + (i : Int) * 2 = z := ⟨_, rfl⟩
    have hz0 : 0 ≤ z := by omega
    have hz1 : z < 2 ^ 63 := by omega
    have hz2 : 0 ≤ z + 1 := by omega
    have hz3 : z + 1 < 2 ^ 63 := by omega
    obtain ⟨hg0, hg1⟩ := prVals_get ps i q hq
    have hget0 : (prVals ps)[z.toNat]? = some (.str q.o q.t) := by rw [show z.toNat = 2 * i by omega]; exact hg0
    have hget1 : (prVals ps)[(z + 1).toNat]? = some (.str q.n q.u) := by rw [show (z + 1).toNat = 2 * i + 1 by omega]; exact hg1
    rw [hz]
    generalize hW : Stmt.While _ _ _ _ = W
    k_steps
    subst hW
    rename Fr _ _ _ _ => F5
    rename News _ _ _ _ => N5
    obtain ⟨X5, N6, ⟨mr5, F6⟩, hpp5, hI5, hsub5⟩ : ∃ (X5 : List (Addr × Obj)), News _ _ _ X5 ∧ (∃ mr, Fr _ _ _ (lay [(Str.ofString "at", .int 0 _), (Str.ofString "done", .str (Str.ofString "") _), (Str.ofString "k", .int z t), (Str.ofString "line", .str y ty), (Str.ofString "pairs", .ref pp)] mr)) ∧ (pp, lstO (prVals ps) np) ∈ X5 ∧ (I, o) ∈ X5 ∧ subL ((I, o) :: news₁) X5 :=
      ⟨_, N5, ⟨_, Mine.Fr.lay F5 ⟨rfl, rfl, rfl, rfl, rfl, trivial⟩⟩, .tail _ hpp, .tail _ (.head _), subL.cons (subL.refl _)⟩
    clear F5 N5
    refine While_inv2 (WWJ02 X5 t z y ty pp q) (n₀ := y.length) F6 N6 ⟨_, _, _, 0, _, rfl, subL.refl _, by rw [List.drop_zero]; exact List.nil_append _, Nat.zero_le _, rfl, Nat.le_refl _⟩ ?_ (by with_unfolding_all passes_own)
    clear F6 N6
    intro k m₂ news₂ h₂ tk₂ F₂ N₂ J₂
    obtain ⟨mr, d, td, a, ta, rfl, hX2, hda, ha, rfl, hdl⟩ := J₂
    dsimp only [lay] at F₂
    have hpp2 := hX2 _ hpp5
    have hI2 := hX2 _ hI5
    k_steps
    · rename Fr _ _ _ _ => F7
      rename News _ _ _ _ => N7
      rename (_ == _) = true => hb
      rename (_ : Int) < _ => hlt
      obtain ⟨hd2, ha2⟩ := walk_hit hb ok1 hlt hda
      have F8 := Mine.Fr.lay (l := [(Str.ofString "at", .int ((a + q.o.length : Nat) : Int) _), (Str.ofString "done", .str (d ++ q.n) _), (Str.ofString "k", .int z t), (Str.ofString "line", .str y ty), (Str.ofString "pairs", .ref pp)]) F7 ⟨rfl, rfl, rfl, rfl, rfl, trivial⟩
      refine ⟨_, _, _, _, y.length - (a + q.o.length), rfl, F8, N7, by omega, _, _, _, a + q.o.length, _, rfl, subL.trans hX2 (subL.cons (subL.refl _)), hd2, ha2, rfl, ?_⟩
      rw [Str.length_append]
      omega
    · rename Fr _ _ _ _ => F7
      rename News _ _ _ _ => N7
      rename (_ == _) = false => hb
      rename (_ : Int) < _ => hlt
      have hd2 := walk_miss hb hlt hda
      have hil : (Txt.item y (a : Int)).length = 1 := rfl
      have F8 := Mine.Fr.lay (l := [(Str.ofString "at", .int ((a + 1 : Nat) : Int) _), (Str.ofString "done", .str (d ++ Txt.item y (a : Int)) _), (Str.ofString "k", .int z t), (Str.ofString "line", .str y ty), (Str.ofString "pairs", .ref pp)]) F7 ⟨rfl, rfl, rfl, rfl, rfl, trivial⟩
      refine ⟨_, _, _, _, y.length - (a + 1), rfl, F8, N7, by omega, _, _, _, a + 1, _, rfl, subL.trans hX2 (subL.cons (subL.refl _)), hd2, by omega, rfl, ?_⟩
      rw [Str.length_append, hil]
      omega
    · rename Fr _ _ _ _ => F7
      rename News _ _ _ _ => N7
      rename ¬ _ => hnl
      have hd2 := walk_end ok1 hkq ha hnl hda
      subst hd2
      have F8 := Mine.Fr.lay (l := [(Str.ofString "line", .str (repl y q.o q.n) _), (Str.ofString "pairs", .ref pp)]) F7 ⟨rfl, rfl, trivial⟩
      have e3 : replAll x (ps.take (i + 1)) = repl y q.o q.n := by rw [replAll_take hq, hy]
      rw [← e3] at F8
      exact ⟨_, _, _, _, _, but I _, o, rfl, F8, N7, hI2, hIt, fun q hq => but_mem.mp hq, rfl, ⟨_, td, rfl⟩, subL.but hX hne (subL.trans hsub5 hX2)⟩
  · intro m₁ news₁ h₁ tk₁ gs₁ hJ F₁ N₁
    obtain ⟨rfl, ⟨mr₁, ty, rfl⟩, hX⟩ := hJ
    rw [List.take_of_length_le (by omega)] at F₁
    dsimp only [lay] at F₁
    k_steps
    rename News _ _ _ _ => N9
    exact hret _ _ _ (by k_asm) fun q hq => N9 _ (hX _ hq)
end
section
theorem topOffrow : True := by
  w_top off
  trivial
local macro_rules | `(tactic| walk_at "call ref") => `(tactic| (k_here; k_dflt (refine' Mine.push_spec ?k1 ?k2 ?k3 ?k4 ?k5 ?k6 ?k7 ?k8 _ _ _ _ _ _ _ _ _ _ ?c1 ?c2 ?c3 ?_; wtm_at "S8"; (case c1 | c2 => k_mem); (case c3 => assumption); k_whole; intro t' h' tk' n' F' N' l1; (try dsimp only))))
local macro_rules | `(tactic| walk_at "call ref") => `(tactic| (k_here; k_dflt (refine' Mine.pop_from_spec ?k1 ?k2 ?k3 ?k4 ?k5 ?k6 ?k7 ?k8 _ _ _ _ _ _ _ _ _ _ ?c1 ?c2 ?c3 ?c4 ?_; wtm_at "S8"; (case c1 | c2 => k_mem); (case c3 => assumption); (case c4 => first | assumption | (split <;> omega)); k_whole; intro D' h' tk' n' F' N' l1; (try dsimp only))))
local macro_rules | `(tactic| walk_at "call ref") => `(tactic| (k_here; k_dflt (refine' Mine.pop_from0_spec ?k1 ?k2 ?k3 ?k4 ?k5 ?k6 ?k7 ?k8 _ _ _ _ _ _ _ _ ?c1 ?c2 ?c3 ?_; wtm_at "S8"; (case c1 | c2 => k_mem); (case c3 => assumption); k_whole; intro D' h' tk' n' F' N' l1; (try dsimp only))))
local macro_rules | `(tactic| walk_at "call ref") => `(tactic| (k_here; k_dflt (refine' Mine.make_spec ?k1 ?k2 ?k3 ?k4 ?k5 ?k6 ?k7 ?k8   ?_; wtm_at "S8"; skip; k_whole; intro x' dx' h' tk' n' hs' ta' tb' F' N' l1 l2; (try dsimp only))))
local macro_rules | `(tactic| walk_at "subscriptTail") => `(tactic| wtm_at "L2")
local macro_rules | `(tactic| walk_at "call ref") => `(tactic| (k_here; k_dflt (refine' Mine.str_led ?k1 ?k2 ?k3 ?k4 ?k5 ?k6 ?k7 _ _ _ _ ?c1 ?c2 ?c3 ?c4 ?c5 ?_; (case k1 | k2 | k3 | k4 => k_asm); (case k5 => exact rfl); (case k6 => ktr_room); (case k7 => ktr_units); (case c1 => (repeat (first | assumption | refine Pile.weak ?_))); (case c2 => assumption); (case c3 => k_mem); (case c4 | c5 => assumption); k_whole; intro h' tk' g' ps' t' news' F' N' hP' hT' G' K'; (try dsimp only [StrBack]))))
local macro_rules | `(tactic| walk_at "subscriptTail") => `(tactic| (k_here; wtm_at "R1"; k_dflt (refine' Mine.lst_from ?k1 ?k2 ?k3 ?k4 ?k5 ?k6 ?k7 ?_; (case k1 | k2 => k_asm); (case k3 => k_mem); (case k4 | k5 => assumption); (case k6 => with_unfolding_all rfl); (case k7 => (intro _; with_unfolding_all rfl)); k_whole; intro D' h' F' N' l1)))
local macro_rules | `(tactic| walk_at "binaryOp Add ref ref") => `(tactic| (k_here; k_dflt (refine' Mine.add_l ?k1 ?k2 ?k3 ?k4 ?k5 ?_; (case k1 | k2 => k_asm); (case k3 | k4 => k_mem); (case k5 => assumption); k_whole; intro D' h' F' N' l1)))
local macro_rules | `(tactic| walk_at "call type:str") => `(tactic| (k_here; (with_reducible show wpAny _ _ (call (Value.type "str") [Value.ref _]) _ _ _); k_dflt (refine' kso_call ?k1 ?k2 ?k3 ?k4 ?k5 ?_; (case k1 => ktr_units); (case k2 => k_in); (case k3 => k_inst); (case k4 | k5 => k_is); k_whole)))
local macro_rules | `(tactic| walk_at "call builtin:str.index") => `(tactic| (k_here; k_dflt (refine' Mine.index_k ?hf ?_; (case hf => assumption); k_whole)))
local macro_rules | `(tactic| walk_at "subscriptTail") => `(tactic| wtm_at "L1")
def RowJ (C p d : Addr) (gs₀ : Array GenState) (X₀ : List (Addr × Obj)) (nm : List (Str × Value)) (T : Nat → List Nat) : Inv := fun i m₁ news₁ gs =>
  gs = gs₀ ∧ (∃ mr, m₁ = lay nm mr) ∧ Mine.Keeps p X₀ news₁ ∧ ∃ pcs, Pile C news₁ p d pcs ∧ pcs.map Pc.fp = (T i).map pieceFP
theorem row_spec {w : World} {p : Program} {loose : List Str} {mean : ExcName → Option Value} {mg mb : Str → Option Value}
  {dp un : Nat} {gd : Option (List Code)} {cn : Str} {cs : Scope} {a : Addr} {ccd : Value} {cl : List (Str × Addr)} {outer : List Env} {A₀ : Around} {base h₀ : Heap} {L : Addr} {m : Str → Option Value} {news : List (Addr × Obj)} {s : Shared}
    {Q E : Value → Shared → Prop}
    (B : Below A₀ base outer h₀) (F : Fr h₀ L s.heap m) (X : (kK w.params).In h₀) (N : News h₀ L s.heap news) (T : Top p loose mean mg mb h₀) (hk : cs.kind = .function)
    (hd1 : dp + 4 < recursionLimit) (hu : un + 100 < cLine)
    (l : List Nat) (hlf : ∀ f ∈ l, f < 4) (hll : l.length ≤ 100) (tx : Tok) (b : Bool) (ps : Array Value)
    (hP : (69, tabObj ps) ∈ news) (hT : TriplesOk ps.toList) (G : AllBare s.gens)
    (hret : ∀ h' tk' g' ps' t news', Fr h₀ L h' m → News h₀ L h' news' → (69, tabObj ps') ∈ news' → TriplesOk ps'.toList → AllBare g' → Mine.Keeps 69 news news' → Q (.str (rowStr (rowF b l)) t) { s with heap := h', toks := tk', gens := g' }) :
    wpAny (model PySem.Challenge.rw_ph0024_02.row.prog w) (ktrTop dp un gd cn cs L a ccd cl outer) (call (.ref 131) [.str (strF l) tx, .bool b]) Q E s := by
  revert X; k_fill; intro X
  refine wpAny_call ?_
  k_dflt ktr_enter
  rename_i gg LL hh FGG FFF NNN BBB XXX TTT
  rename Fr _ _ _ _ => F9
  obtain ⟨mr, F0⟩ : ∃ mr, Fr _ _ _ (lay [(Str.ofString "line", .str (strF l) tx), (Str.ofString "always", .bool b)] mr) := ⟨_, Mine.Fr.lay F9 ⟨rfl, rfl, trivial⟩⟩
  clear F9
  dsimp only [lay] at F0
  generalize hW1 : Stmt.For _ _ _ _ _ = W1
  generalize hW2 : Stmt.For _ _ _ _ _ = W2
  k_steps
  subst hW1
  rename Fr _ _ _ _ => F1
  rename News _ _ _ _ => N1
  obtain ⟨p, d, X1, N2, ⟨mr1, F2⟩, P1, hK1⟩ : ∃ (p d : Addr) (X1 : List (Addr × Obj)), News _ _ _ X1 ∧ (∃ mr, Fr _ _ _ (lay [(Str.ofString "row", .ref p), (Str.ofString "line", .str (strF l) tx), (Str.ofString "always", .bool b)] mr)) ∧ Pile 99 X1 p d [] ∧ (subL news X1 ∧ d < p ∧ ∀ q ∈ news, q.1 < d) :=
    ⟨_, _, _, N1, ⟨_, Mine.Fr.lay F1 ⟨rfl, rfl, rfl, trivial⟩⟩, ⟨⟨_, .head _⟩, ⟨_, _, _, _, .tail _ (.head _)⟩, fun c h => nomatch h⟩, fun q hq => .tail _ (.tail _ hq), by assumption, by assumption⟩
  clear F1 N1
  refine For_led F2 ?_ (by intro _; with_unfolding_all rfl) (by with_unfolding_all passes_own)
  dsimp only [lay] at F2
  walk1
  rename Fr _ _ _ _ => F3
  rename News _ _ _ _ => N3
  have F4 := Mine.Fr.lay (l := [(Str.ofString "row", .ref p), (Str.ofString "line", .str (strF l) tx), (Str.ofString "always", .bool b)]) F3 ⟨rfl, rfl, rfl, trivial⟩
  clear F3
  refine led_str (RowJ 99 p d s.gens X1 [(Str.ofString "row", .ref p), (Str.ofString "line", .str (strF l) tx), (Str.ofString "always", .bool b)] (fun i => [0, 1, 2, 3, 4].take i)) rfl F4 N3 ⟨rfl, ⟨_, rfl⟩, Mine.Keeps.refl _ _, [], P1, rfl⟩ ?_ ?_
  · clear F4 N3
    intro I It i c u m₁ news₁ h tk gs o hc hJ F₁ N₁ hIt hne hcls
    obtain ⟨rfl, ⟨mr₁, rfl⟩, hX, pcs, P₁, hT₁⟩ := hJ
    obtain ⟨hi5, rfl⟩ := abcde_get hc
    obtain ⟨ty, hty, hoc⟩ := hcls _ _ hIt
    have hiter := ItStr.iterish' hty hoc
    dsimp only [lay] at F₁
    obtain ⟨⟨n₁, hpl⟩, ⟨hs₁, ta₁, tb₁, kd₁, hdx⟩, hit⟩ := id P₁
    have hfind := find_abcde i hi5
    have hlp : pcs.length = i := by
      have := congrArg List.length hT₁
      simp only [List.length_map, List.length_take, List.length_cons, List.length_nil] at this
      omega
    have hsz : (pcs.map Pc.v).length ≤ sizeLine := by rw [List.length_map, sizeLine_eq]; omega
    have hi0 : (0 : Int) ≤ (i : Int) := by omega
    have hi1 : (i : Int) < 5 := by omega
    have hIp : I ≠ p := Ne.symm (hne _ hpl)
    have hI₁ : (I, o) ∈ (I, o) :: news₁ := List.Mem.head _
    have hKX : ∀ X', Mine.Keeps p ((I, o) :: news₁) X' → Mine.Keeps p X1 (but I X') := fun X' K => Keeps.but hX hne K
    replace hpl := List.Mem.tail (I, o) hpl
    replace hdx := List.Mem.tail (I, o) hdx
    have P₃ : Pile 99 ((I, o) :: news₁) p d pcs := Pile.weak P₁
    generalize hX₃ : (I, o) :: news₁ = X₃ at N₁ hpl hdx hI₁ hKX P₃
    have NO : ∃ h, News _ _ h X₃ := ⟨_, N₁⟩
    k_steps
    rename Fr _ _ _ _ => F9
    rename News _ _ _ _ => N9
    obtain ⟨_, NO⟩ := NO
    obtain ⟨X₄, N4, P4, K4⟩ := pushed P₃ NO N9
    have hI4 := K4 _ hI₁ hIp
    have F10 := Mine.Fr.lay (l := [(Str.ofString "row", .ref p), (Str.ofString "line", .str (strF l) tx), (Str.ofString "always", .bool b)]) F9 ⟨rfl, rfl, rfl, trivial⟩
    refine ⟨_, _, _, _, X₄, but I X₄, o, rfl, F10, N4, hI4, hIt, fun q hq => but_mem.mp hq, rfl, ⟨_, rfl⟩, hKX _ K4, _, Pile.but P4 N4 hI4 hiter, ?_⟩
    rw [List.map_append, hT₁]
    exact row_first hi5
  · clear F4 N3
    intro m₁ news₁ h₁ tk₁ gs₁ hJ F₁ N₁
    obtain ⟨rfl, ⟨mr₁, rfl⟩, hX, pcs, P₁, hT₁⟩ := hJ
    replace hT₁ : pcs.map Pc.fp = (rowF b []).map pieceFP := hT₁
    dsimp only [lay] at F₁
    k_steps
    subst hW2
    rename Fr _ _ _ _ => F3
    have F4 := Mine.Fr.lay (l := [(Str.ofString "row", .ref p), (Str.ofString "line", .str (strF l) tx), (Str.ofString "always", .bool b)]) F3 ⟨rfl, rfl, rfl, trivial⟩
    clear F3
    refine For_led F4 ?_ (by intro _; with_unfolding_all rfl) (by with_unfolding_all passes_own)
    dsimp only [lay] at F4
    walk1
    rename Fr _ _ _ _ => F5
    rename News _ _ _ _ => N5
    have F6 := Mine.Fr.lay (l := [(Str.ofString "row", .ref p), (Str.ofString "line", .str (strF l) tx), (Str.ofString "always", .bool b)]) F5 ⟨rfl, rfl, rfl, trivial⟩
    (try clear F4); (try clear F5)
    refine led_str (RowJ 99 p d s.gens news₁ [(Str.ofString "row", .ref p), (Str.ofString "line", .str (strF l) tx), (Str.ofString "always", .bool b)] (fun i => rowF b (l.take i))) rfl F6 N5 ⟨rfl, ⟨_, rfl⟩, Mine.Keeps.refl _ _, pcs, P₁, hT₁⟩ ?_ ?_
    · clear F6 N5 hT₁ P₁ pcs
      intro I It i c u m₂ news₂ h tk gs o hc hJ F₂ N₁ hIt hne hcls
      obtain ⟨rfl, ⟨mr₂, rfl⟩, hX2, pcs, P₁, hT₁⟩ := hJ
      dsimp only at hT₁
      obtain ⟨f, hf, rfl⟩ := strF_get hc
      have hf4 := hlf f (List.mem_of_getElem? hf)
      obtain ⟨ty, hty, hoc⟩ := hcls _ _ hIt
      have hiter := ItStr.iterish' hty hoc
      have hstep := rowF_take (b := b) hf
      obtain ⟨hr5, hrlt⟩ := rowF_ok b (l.take i)
      generalize hr : rowF b (l.take i) = r at hT₁ hstep hr5 hrlt
      have hlp : pcs.length = 5 := by
        have := congrArg List.length hT₁
        simp only [List.length_map] at this
        omega
      dsimp only [lay] at F₂
      obtain ⟨⟨n₁, hpl⟩, ⟨hs₁, ta₁, tb₁, kd₁, hdx⟩, hit⟩ := id P₁
      have hfind := find_1234 f hf4
      have hsz : (pcs.map Pc.v).length ≤ sizeLine := by rw [List.length_map, sizeLine_eq]; omega
      have hi0 : (0 : Int) ≤ (f : Int) := by omega
      have hIp : I ≠ p := Ne.symm (hne _ hpl)
      have hI₁ : (I, o) ∈ (I, o) :: news₂ := List.Mem.head _
      have hKX : ∀ X', Mine.Keeps p ((I, o) :: news₂) X' → Mine.Keeps p news₁ (but I X') := fun X' K => Keeps.but hX2 hne K
      replace hpl := List.Mem.tail (I, o) hpl
      replace hdx := List.Mem.tail (I, o) hdx
      have P₃ : Pile 99 ((I, o) :: news₂) p d pcs := Pile.weak P₁
      generalize hX₃ : (I, o) :: news₂ = X₃ at N₁ hpl hdx hI₁ hKX P₃
      have NO : ∃ h, News _ _ h X₃ := ⟨_, N₁⟩
      obtain ⟨x0, x1, xs, hdr⟩ : ∃ x0 x1 xs, r.drop f = x0 :: x1 :: xs := two_left hr5 hf4
      obtain ⟨c0, c1, cs', hdc, hc0, hc1, hcs'⟩ : ∃ c0 c1 cs', pcs.drop f = c0 :: c1 :: cs' ∧ c0.fp = pieceFP x0 ∧ c1.fp = pieceFP x1 ∧ cs'.map Pc.fp = xs.map pieceFP := two_pcs hT₁ hdr
      generalize hW3 : Stmt.If _ _ _ _ = W3
      generalize hW4 : Stmt.For _ _ _ _ _ = W4
      generalize hW0 : Stmt.Assign _ _ _ = W0
      k_steps
      subst hW0
      refine wpAny_mono (Q := Cut fun fl s' => fl = Flow.next ∧ ∃ D h' tk' X₄ mrr, s' = { heap := h', gens := s.gens, drawn := s.drawn, toks := tk', os := s.os } ∧ Fr gg LL h' (lay [(Str.ofString "taken", .ref D), (Str.ofString "row", .ref p), (Str.ofString "line", .str (strF l) tx), (Str.ofString "always", .bool b)] mrr) ∧ News gg LL h' X₄ ∧
        (D, lstO ((pcs.drop f).map Pc.v) 0) ∈ X₄ ∧ Pile 99 X₄ p d (pcs.take f) ∧ Mine.Keeps p X₃ X₄ ∧ ∀ c ∈ pcs, (c.a, c.obj) ∈ X₄) ?_ ?_ (fun _ _ z => z)
      · k_steps
        all_goals (rename Fr _ _ _ _ => F5)
        all_goals (rename News _ _ _ _ => N5)
        all_goals (obtain ⟨_, NO⟩ := NO)
        · rename (_ == _) = true => hb
          rw [is_1] at hb
          have hf0 : f = 0 := of_decide_eq_true hb
          subst hf0
          obtain ⟨X₂, N6, hD, P6, K6, hit6⟩ := popped (i := 0) (kk := 0) P₃ NO N5 rfl
          exact ⟨rfl, _, _, _, X₂, _, rfl, Mine.Fr.lay F5 ⟨rfl, rfl, rfl, rfl, trivial⟩, N6, hD, P6, K6, hit6⟩
        · obtain ⟨X₂, N6, hD, P6, K6, hit6⟩ := popped (kk := f) P₃ NO N5 (Int.toNat_natCast f)
          exact ⟨rfl, _, _, _, X₂, _, rfl, Mine.Fr.lay F5 ⟨rfl, rfl, rfl, rfl, trivial⟩, N6, hD, P6, K6, hit6⟩
      · rintro _ _ ⟨rfl, D, h', tk', X₄, mrr, rfl, F5, N5, hD, P5, K5, hit5⟩
        have hI4 := K5 _ hI₁ hIp
        have hKX5 : ∀ X', Mine.Keeps p X₄ X' → Mine.Keeps p news₁ (but I X') := fun X' K => hKX _ (K5.trans K)
        rw [hdc, show c0 :: c1 :: cs' = [c0, c1] ++ cs' from rfl] at hD
        have hm0 : (c0.a, tupO [.str c0.f c0.tf, .str c0.p c0.tp]) ∈ X₄ := hit5 _ (List.mem_of_mem_drop (i := f) (by rw [hdc]; exact .head _))
        have hm1 : (c1.a, tupO [.str c1.f c1.tf, .str c1.p c1.tp]) ∈ X₄ := hit5 _ (List.mem_of_mem_drop (i := f) (by rw [hdc]; exact .tail _ (.head _)))
        have hms : ∀ c ∈ c0 :: c1 :: cs', (c.a, c.obj) ∈ X₄ := fun c hc => hit5 _ (List.mem_of_mem_drop (i := f) (by rw [hdc]; exact hc))
        have hcl : cs'.length ≤ 3 := by
          have := congrArg List.length hdc
          rw [List.length_drop, List.length_cons, List.length_cons] at this
          omega
        clear NO hit hpl hdx P₃ P₁ K5 hKX hI₁
        dsimp only [lay] at F5
        dsimp only
        k_steps
        subst hW3
        refine wpAny_mono (Q := Cut fun fl s' => fl = Flow.next ∧ ∃ D2 n2 h2 tk2 X₅ mr2, ∃ qs : List Pc, s' = { heap := h2, gens := s.gens, drawn := s.drawn, toks := tk2, os := s.os } ∧ Fr gg LL h2 (lay [(Str.ofString "taken", .ref D2), (Str.ofString "row", .ref p), (Str.ofString "line", .str (strF l) tx), (Str.ofString "always", .bool b)] mr2) ∧ News gg LL h2 X₅ ∧
          (D2, lstO (qs.map Pc.v) n2) ∈ X₅ ∧ Pile 99 X₅ p d (pcs.take f) ∧ Mine.Keeps p X₄ X₅ ∧ (∀ c ∈ qs, (c.a, c.obj) ∈ X₅) ∧ qs.map Pc.fp = (swapR b (x0 :: x1 :: xs)).map pieceFP) ?_ ?_ (fun _ _ z => z)

        · have hg0 : (([c0, c1] ++ cs').map Pc.v)[(0 : Int).toNat]? = some (.ref c0.a) := rfl
          have hg1 : (([c0, c1] ++ cs').map Pc.v)[(1 : Int).toNat]? = some (.ref c1.a) := rfl
          have hz5 : (([c0, c1] ++ cs').map Pc.v).length ≤ sizeLine := by
            rw [List.length_map, List.length_append, sizeLine_eq]
            show 2 + cs'.length ≤ _
            omega
          have h02 : (0 : Int) ≤ 2 := by decide
          have hz6 : [Value.ref c1.a, Value.ref c0.a].length + ((([c0, c1] ++ cs').map Pc.v).drop (2 : Int).toNat).length ≤ 1000 := by
            show 2 + (cs'.map Pc.v).length ≤ _
            rw [List.length_map]
            omega
          clear hret
          cases b
          all_goals k_steps
          all_goals (rename Fr _ _ _ _ => F9)
          all_goals (rename News _ _ _ _ => N9)
          · rename (_ : List Nat) < _ => hlt
            have hx := (lt_pieces hc0 hc1).mp hlt
            exact ⟨rfl, _, _, _, _, _, _, [c1, c0] ++ cs', rfl, Mine.Fr.lay F9 ⟨rfl, rfl, rfl, rfl, trivial⟩, N9, List.Mem.head _, Pile.weak (Pile.weak (Pile.weak P5)), (((Mine.Keeps.refl p _).cons).cons).cons, fun c hc => .tail _ (.tail _ (.tail _ (hms c (swap_mem hc)))), swap_yes hc0 hc1 hcs' (by simp [hx])⟩
          · rename ¬ _ => hlt
            have hx : ¬ x0 < x1 := fun h => hlt ((lt_pieces hc0 hc1).mpr h)
            exact ⟨rfl, _, _, _, _, _, _, [c0, c1] ++ cs', rfl, Mine.Fr.lay F9 ⟨rfl, rfl, rfl, rfl, trivial⟩, N9, hD, P5, Mine.Keeps.refl p _, fun c hc => hms c hc, swap_no hc0 hc1 hcs' (by simp [hx])⟩
          · exact ⟨rfl, _, _, _, _, _, _, [c1, c0] ++ cs', rfl, Mine.Fr.lay F9 ⟨rfl, rfl, rfl, rfl, trivial⟩, N9, List.Mem.head _, Pile.weak (Pile.weak (Pile.weak P5)), (((Mine.Keeps.refl p _).cons).cons).cons, fun c hc => .tail _ (.tail _ (.tail _ (hms c (swap_mem hc)))), swap_yes hc0 hc1 hcs' rfl⟩

        · rintro _ _ ⟨rfl, D2, n2, h2, tk2, X₅, mr2, qs, rfl, F6, N6, hD2, P6, K6, hit6, hq6⟩
          have hI5 := K6 _ hI4 hIp
          have hKX6 : ∀ X', Mine.Keeps p X₅ X' → Mine.Keeps p news₁ (but I X') := fun X' K => hKX5 _ (K6.trans K)
          have hql : qs.length ≤ 5 := by
            have e1 := congrArg List.length hq6
            rw [List.length_map, List.length_map, (swapR_perm b _).1, List.length_cons, List.length_cons] at e1
            have e2 := congrArg List.length hcs'
            rw [List.length_map, List.length_map] at e2
            omega
          have hfl : (pcs.take f).length ≤ 5 := by rw [List.length_take]; omega
          obtain ⟨⟨n6, hpl6⟩, _, _⟩ := id P6
          have hDpl := news_ne N6 hD2 hpl6 pile_ne_lst
          have hqn : ∀ c ∈ qs, c.a ≠ p := fun c hc => news_ne N6 (hit6 c hc) hpl6 pile_ne_tup
          have hrow : (pcs.take f).map Pc.fp ++ qs.map Pc.fp = (rowF b (l.take (i + 1))).map pieceFP := by
            rw [hstep, stepF, hdr, List.map_append, hq6, List.map_take, hT₁, List.map_take]
          clear hD hm0 hm1 hms hit5 P5 K6 hI4 hKX5 hdc hc0 hc1 hcs' hq6 F5 N5
          dsimp only
          k_steps
          subst hW4
          dsimp only [lay] at F6
          refine For_led F6 ?_ (by intro _; with_unfolding_all rfl) (by with_unfolding_all passes_own)
          walk1
          rename Fr _ _ _ _ => F7
          rename News _ _ _ _ => N7
          have F8 := Mine.Fr.lay (l := [(Str.ofString "row", .ref p), (Str.ofString "line", .str (strF l) tx), (Str.ofString "always", .bool b)]) F7 ⟨rfl, rfl, rfl, trivial⟩
          refine led_list (PushJ 99 p d s.gens X₅ [(Str.ofString "row", .ref p), (Str.ofString "line", .str (strF l) tx), (Str.ofString "always", .bool b)] (fun j => (pcs.take f).map Pc.fp ++ (qs.map Pc.fp).take j)) rfl F8 N7 hD2 ⟨rfl, ⟨_, rfl⟩, Mine.Keeps.refl _ _, _, P6, by simp⟩ (fun _ _ _ _ hJ => hJ.2.2.1 _ hD2 hDpl) ?_ ?_
          · clear F8 F7 N7
            intro I' j v m₃ news₃ h₃ tk₃ gs₃ o₃ hv hJ F₃ N₃ hIt₃ hne₃
            obtain ⟨rfl, ⟨mr₃, rfl⟩, K₃, pcs₃, P₃, hT₃⟩ := hJ
            obtain ⟨c, hc, rfl⟩ := get_v' hv
            have hcm := List.mem_of_getElem? hc
            have hc₃ : (c.a, tupO [.str c.f c.tf, .str c.p c.tp]) ∈ (I', o₃) :: news₃ := List.Mem.tail _ (K₃ _ (hit6 c hcm) (hqn c hcm))
            obtain ⟨⟨n₃, hpl₃⟩, ⟨hs₃, ta₃, tb₃, k₃, hdm₃⟩, hit₃⟩ := id P₃
            have hz₃ : (pcs₃.map Pc.v).length ≤ sizeLine := by
              have e := congrArg List.length hT₃
              simp only [List.length_map, List.length_append, List.length_take] at e ⊢
              rw [sizeLine_eq]; omega
            have hI₃ : (I', o₃) ∈ (I', o₃) :: news₃ := List.Mem.head _
            have hIpl₃ : I' ≠ p := Ne.symm (hne₃ _ hpl₃)
            have hKX₃ : ∀ X', Mine.Keeps p ((I', o₃) :: news₃) X' → Mine.Keeps p X₅ (but I' X') := fun X' K => Keeps.but K₃ hne₃ K
            replace hpl₃ := List.Mem.tail (I', o₃) hpl₃
            replace hdm₃ := List.Mem.tail (I', o₃) hdm₃
            have P₄ : Pile 99 ((I', o₃) :: news₃) p d pcs₃ := Pile.weak P₃
            generalize hX₃ : (I', o₃) :: news₃ = X₈ at N₃ hpl₃ hdm₃ hc₃ hI₃ hKX₃ P₄
            have NO : ∃ h, News _ _ h X₈ := ⟨_, N₃⟩
            dsimp only [lay] at F₃
            k_steps
            rename Fr _ _ _ _ => F9
            rename News _ _ _ _ => N9
            obtain ⟨_, NO⟩ := NO
            obtain ⟨X₉, N4, P5, K4⟩ := pushed P₄ NO N9
            have hI4 := K4 _ hI₃ hIpl₃
            have F10 := Mine.Fr.lay (l := [(Str.ofString "row", .ref p), (Str.ofString "line", .str (strF l) tx), (Str.ofString "always", .bool b)]) F9 ⟨rfl, rfl, rfl, trivial⟩
            exact ⟨_, _, _, _, X₉, but I' X₉, o₃, rfl, F10, N4, hI4, hIt₃, fun q hq => but_mem.mp hq, rfl, ⟨_, rfl⟩, hKX₃ _ K4, _, Pile.but P5 N4 hI4 hIt₃.iterish, by rw [List.map_append]; exact take_next' (c := c) hc hT₃⟩
          · clear F8 F7 N7
            intro m₃ news₃ h₃ tk₃ gs₃ hJ F₃ N₃
            obtain ⟨rfl, ⟨mr₃, rfl⟩, K₃, pcs₃, P₃, hT₃⟩ := hJ
            dsimp only [lay] at F₃
            k_steps
            rename Fr _ _ _ _ => F9
            rename News _ _ _ _ => N9
            have hI9 := K₃ _ hI5 hIp
            have F10 := Mine.Fr.lay (l := [(Str.ofString "row", .ref p), (Str.ofString "line", .str (strF l) tx), (Str.ofString "always", .bool b)]) F9 ⟨rfl, rfl, rfl, trivial⟩
            refine ⟨_, _, _, _, news₃, but I news₃, o, rfl, F10, N9, hI9, hIt, fun q hq => but_mem.mp hq, rfl, ⟨_, rfl⟩, hKX6 _ K₃, _, Pile.but P₃ N9 hI9 hiter, ?_⟩
            have e : (qs.map Pc.fp).take (qs.map Pc.v).length = qs.map Pc.fp := List.take_of_length_le (by rw [List.length_map, List.length_map]; exact Nat.le_refl _)
            exact hT₃.trans ((congrArg (fun z => (pcs.take f).map Pc.fp ++ z) e).trans hrow)
    · clear F6 N5
      intro m₂ news₂ h tk gs hJ F₂ N₂
      obtain ⟨rfl, ⟨mr₂, rfl⟩, hX2, pcs₂, P₂, hT₂⟩ := hJ
      have hT₃ : pcs₂.map Pc.fp = (rowF b l).map pieceFP := by
        have e : l.take (strF l).length = l := List.take_of_length_le (by rw [strF_len]; exact Nat.le_refl _)
        have hT₄ : pcs₂.map Pc.fp = (rowF b (l.take (strF l).length)).map pieceFP := hT₂
        rwa [e] at hT₄
      have hw := row_weight hT₃ (rowF_ok b l)
      obtain ⟨⟨n9, hpl9⟩, ⟨hs9, ta9, tb9, kd9, hdx9⟩, _⟩ := id P₂
      have htp : (69 : Addr) ≠ p := fun e => Nat.lt_irrefl _ (e ▸ Nat.lt_trans (hK1.2.2 _ hP) hK1.2.1)
      have hP2 : (69, tabObj ps) ∈ news₂ := hX2 _ (hX _ (hK1.1 _ hP) htp) htp
      have htext := row_text hT₃
      dsimp only [lay] at F₂
      k_steps
      rename News _ _ _ _ => N9
      rename Mine.Keeps 69 _ _ => K9
      rename TriplesOk _ => ht9
      rename AllBare _ => G9
      rename (69, tabObj _) ∈ _ => hp9
      rw [htext]
      refine hret _ _ _ _ _ _ (by k_asm) N9 hp9 ht9 G9 (fun q hq hne => ?_)
      have hqp : q.1 ≠ p := fun e => Nat.lt_irrefl _ (e ▸ Nat.lt_trans (hK1.2.2 _ hq) hK1.2.1)
      exact K9 q (hX2 q (hX q (hK1.1 q hq) hqp) hqp) hne
end
section
theorem topOffword : True := by
  w_top off
  trivial
local macro_rules | `(tactic| walk_at "call builtin:len") => `(tactic| (k_here; (with_reducible show wpAny _ _ (call (Value.builtin "len") [Value.ref _]) _ _ _); k_dflt (refine' Mine.len_lst ?k1 ?k2 ?k3 ?_; (case k1 => k_asm); (case k2 => k_mem); (case k3 => assumption); k_whole)))
local macro_rules | `(tactic| k_all) => `(tactic| assumption)
local macro_rules | `(tactic| k_ne) => `(tactic| first | assumption | (dsimp only; assumption))
local macro_rules | `(tactic| ktr_enter) => `(tactic| (refine' code_defC ?k1 ?k2 ?k3 ?k4 ?k5 ?kA ?kF ?kK ?k6 ?k7 ?k8 ?k9 ?kB ?kD ?_ ?c2 ?c3 ?c4; wtm_at "E8"; wtm_at "E9"; (case kB => exact rfl); (case kD => decide +kernel); (case c2 | c3 | c4 => exact rfl); k_whole; intro g' L' h' tk' cells' FG' F' N' Y' B' X' T' l1; k_cells Y'; (try simp only [List.cons_append, List.nil_append] at N'); (try dsimp only)))
local macro_rules | `(tactic| walk_at "call builtin:str.index") => `(tactic| (k_here; k_dflt (refine' Mine.index_k ?hf ?_; (case hf => assumption); k_whole)))
def WoJ (gs₀ : Array GenState) (news : List (Addr × Obj)) (c : Addr) (x : Str) (tx : Tok) (ix : Nat → Nat) : Inv := fun i m₁ news₁ gs =>
  gs = gs₀ ∧ (∃ mr t, m₁ = lay [(Str.ofString "word", .str (wordS x ix i) t), (Str.ofString "row", .str x tx)] mr) ∧ (∃ oc v, news₁ = (c, oc) :: news ∧ oc.data = .cell v) ∧ (wordS x ix i).length ≤ 4 * i
theorem word_spec {w : World} {p : Program} {loose : List Str} {mean : ExcName → Option Value} {mg mb : Str → Option Value}
  {dp un : Nat} {gd : Option (List Code)} {cn : Str} {cs : Scope} {a : Addr} {ccd : Value} {cl : List (Str × Addr)} {outer : List Env} {A₀ : Around} {base h₀ : Heap} {L : Addr} {m : Str → Option Value} {news : List (Addr × Obj)} {s : Shared}
    {Q E : Value → Shared → Prop}
    (B : Below A₀ base outer h₀) (F : Fr h₀ L s.heap m) (X : (kK w.params).In h₀) (N : News h₀ L s.heap news) (T : Top p loose mean mg mb h₀) (hk : cs.kind = .function)
    (hd1 : dp + 1 < recursionLimit) (hu : un + 40 < cLine)
    (x : Str) (tx : Tok) (ix : Nat → Nat) (hx : x.length ≤ 100) (hix : ∀ k, 1 ≤ k → k < 5 → Txt.find x ⟨#[97 + k]⟩ = (ix k : Int))
    (hret : ∀ h' tk' t, Fr h₀ L h' m → News h₀ L h' news → Q (.str (wordS x ix 4) t) { s with heap := h', toks := tk' }) :
    wpAny (model PySem.Challenge.rw_ph0024_02.row.prog w) (ktrTop dp un gd cn cs L a ccd cl outer) (call (.ref 136) [.str x tx]) Q E s := by
  revert X; k_fill; intro X
  refine wpAny_call ?_
  k_dflt ktr_enter
  rename_i gg LL hh tkk FGG FFF BBB XXX TTT l1 oc dc NNN
  have F0 := Mine.Fr.lay (l := [(Str.ofString "row", .str x tx)]) FFF ⟨rfl, trivial⟩
  obtain ⟨c, hc, hcn⟩ : ∃ c, LL + 1 = c ∧ ∀ p ∈ news, p.1 ≠ c := ⟨_, rfl, fun p hp => Nat.ne_of_lt (Nat.lt_succ_of_lt (l1 p hp))⟩
  clear FFF
  generalize hW1 : Stmt.For _ _ _ _ _ = W1
  dsimp only [lay] at F0
  k_steps
  subst hW1
  rename Fr _ _ _ _ => F1
  rename News _ _ _ _ => N1
  have F2 := Mine.Fr.lay (l := [(Str.ofString "word", .str (Str.ofString "") _), (Str.ofString "row", .str x tx)]) F1 ⟨rfl, rfl, trivial⟩
  clear F1
  have e4 : Builtin.Range.rangeSize 1 5 1 = ((4 : Nat) : Int) := by decide
  refine For_led F2 ?_ (by intro _; with_unfolding_all rfl) (by with_unfolding_all passes_own)
  dsimp only [lay] at F2
  k_steps
  rename Fr _ _ _ _ => F3
  rename News _ _ _ _ => N3
  rename IsRange _ _ _ _ _ _ _ _ => hrng
  have F4 := Mine.Fr.lay (l := [(Str.ofString "word", .str (Str.ofString "") _), (Str.ofString "row", .str x tx)]) F3 ⟨rfl, rfl, trivial⟩
  refine led_range (n := 4) (WoJ s.gens news (LL + 1) x tx ix) rfl hrng (by decide) e4 F4 N3 ⟨rfl, ⟨_, _, rfl⟩, ⟨_, _, rfl, dc⟩, Nat.zero_le _⟩ ?_ ?_
  · clear F3 F4 N3
    intro I i t m₁ news₁ h tk gs o hi hJ F₁ N₁ hIt hne
    obtain ⟨rfl, ⟨mr₁, ty, rfl⟩, ⟨oc₁, vc, rfl, dc₁⟩, hwl⟩ := hJ
    have hIc : I ≠ LL + 1 := Ne.symm (hne _ (.head _))
    have hcn' : ∀ p ∈ news, p.1 ≠ LL + 1 := by rw [hc]; exact hcn
    obtain ⟨z, hz⟩ : ∃ z : Int, 1 + (i : Int) * 1 = z := ⟨_, rfl⟩
    have hz0 : 1 ≤ z := by omega
    have hz1 : z < 5 := by omega
    rw [hz]
    have hit : Txt.item (Str.ofString "abcde") z = ⟨#[97 + (i + 1)]⟩ := item_abcde hi hz
    have hfind : Txt.find x (Txt.item (Str.ofString "abcde") z) = (ix (i + 1) : Int) := by rw [hit]; exact hix (i + 1) (by omega) (by omega)
    dsimp only [lay] at F₁
    iterate 9 walk1
    k_dflt (refine' Mine.lc_free (pcP (Txt.item (Str.ofString "abcde") z)) (fun _ _ => True) ?k1 ?k2 ?k3 ?k4 ?k5 ?k6 ?_)
    case k1 => exact rfl
    case k2 => decide
    case k3 => rfl
    case k4 => decide
    case k5 => rfl
    case k6 => (intro _; with_unfolding_all rfl)
    k_steps
    rename Fr _ _ _ _ => F5
    rename News _ _ _ _ => N5
    rename _ = Data.cell (some _) => dc5
    rename (Txt.slice _ _ _).length ≤ _ => hsl
    refine Mine.lc_signs ?c1 F5 N5 (.tail _ (.head _)) dc5 ?c2 ?c3 ?c4 ?c5 hz0 hz1 (Nat.le_trans hsl (Nat.le_trans hx (by decide))) ?_
    case c1 => rfl
    case c2 => rfl
    case c3 => rfl
    case c4 => exact fun _ => rfl
    case c5 => exact fun _ => rfl
    intro D6 n6 h6 tk6 ys6 hy6 F6 N6
    clear F5 N5
    have hys : ys6.length = cntL x (ix (i + 1)) (i + 1) := by
      rw [hy6, hit]
      exact cnt_eq x _ _
    have hyl : ys6.length ≤ sizeLine := by
      rw [hys, sizeLine_eq]
      have := cntL_le x (ix (i + 1)) (i + 1)
      omega
    obtain ⟨X6, N7, hmD, hI6, ⟨oc6, hc6, dc6⟩, hsub6⟩ : ∃ X6, News _ _ _ X6 ∧ (D6, lstO ys6 n6) ∈ X6 ∧ (I, o) ∈ X6 ∧ (∃ oc', (LL + 1, oc') ∈ X6 ∧ oc'.data = Data.cell (some (Value.int z t))) ∧ subL news X6 :=
      ⟨_, N6, .head _, .tail _ (.head _), ⟨_, .tail _ (.tail _ (.head _)), dc5⟩, fun q hq => .tail _ (.tail _ (.tail _ hq))⟩
    clear N6
    have hl4 : (Str.ofString "4321").length = 4 := by decide +kernel
    have hw16 : (wordS x ix i).length ≤ 16 := by omega
    have hs4 : (Txt.slice (Str.ofString "4321") (some (4 - z)) (some (4 - z + (ys6.length : Int)))).length ≤ 4 := hl4 ▸ Txt.slice_le _ _ _
    have hwl' := hwl
    clear hwl
    k_steps
    rename Fr _ _ _ _ => F9
    rename News _ _ _ _ => N9
    have hwd : wordS x ix i ++ Txt.slice (Str.ofString "4321") (some (4 - z)) (some (4 - z + (ys6.length : Int))) = wordS x ix (i + 1) := by
      rw [hys, ← hz]; rfl
    rw [hwd] at F9
    have F10 := Mine.Fr.lay (l := [(Str.ofString "word", .str (wordS x ix (i + 1)) _), (Str.ofString "row", .str x tx)]) F9 ⟨rfl, rfl, trivial⟩
    refine ⟨_, _, _, _, _, (LL + 1, oc6) :: news, o, rfl, F10, N9, hI6, hIt, ?_, rfl, ⟨_, _, rfl⟩, ⟨_, _, rfl, dc6⟩, ?_⟩
    · intro q hq
      rcases List.mem_cons.mp hq with rfl | hq
      · exact ⟨hc6, Ne.symm hIc⟩
      · exact ⟨hsub6 _ hq, hne _ (.tail _ hq)⟩
    · rw [← hwd, Str.length_append]
      omega
  · intro m₁ news₁ h₁ tk₁ gs₁ hJ F₁ N₁
    obtain ⟨rfl, ⟨mr₁, ty, rfl⟩, ⟨oc₁, vc, rfl, dc₁⟩, hwl⟩ := hJ
    dsimp only [lay] at F₁
    k_steps
    rename News _ _ _ _ => N9
    exact hret _ _ _ (by k_asm) (news_tail N9)
end
section
theorem topOfflaw2 : True := by
  w_top off
  trivial
local macro_rules | `(tactic| walk_at "CompSrc") => `(tactic| (k_here; (try k_fmods); k_dflt (refine LCg.CompSrc.ledger (by rfl) (by k_asm) (by k_asm) (by k_mem) (by kcf_size) ?_; intro g'; (refine' kct_list _ (by first | assumption | l_ints) (fun k' t' I' oI' C' oC' D' m' ys' h' tk' E' hk' hC' hx' F' N' off' ne' => ?_) ?_); (all_goals (try (simp only [LCg.Off3, and_true] at off'))); (all_goals (try ((show KPfMark → _); intro hMark'))); kcf_last)))
local macro_rules | `(tactic| walk_at "call ref") => `(tactic| (k_here; (try rw [List.append_nil]); k_dflt (refine' Mine.replace_spec ?k1 ?k2 ?k3 ?k4 ?k5 ?k6 ?k7 ?k8 _ _ _ ?c1 ?c2 ?c3 ?_; wtm_at "S8"; (case c1 | c2 | c3 => assumption); k_whole; intro h' tk' t' F' N'; (try dsimp only))))
local macro_rules | `(tactic| walk_at "call ref") => `(tactic| (k_here; k_dflt (refine' Mine.pairs_spec ?k1 ?k2 ?k3 ?k4 ?k5 ?k6 ?k7 ?k8 _ _ _ _ ?c1 ?c2 ?_; wtm_at "S8"; (case c1 | c2 => first | assumption | decide); k_whole; intro l' h' tk' n' ps' F' N' hps' l1'; (try dsimp only))))
local macro_rules | `(tactic| walk_at "call ref") => `(tactic| (k_here; k_dflt (refine' Mine.walked_spec ?k1 ?k2 ?k3 ?k4 ?k5 ?k6 ?k7 ?k8 _ _ _ _ _ ?c1 ?c2 ?c3 ?c4 ?c5 ?_; wtm_at "S8"; (case c1 => k_mem); (case c2 | c3 | c4 | c5 => assumption); k_whole; intro h' tk' t' F' N'; (try dsimp only))))
local macro_rules | `(tactic| walk_at "call ref") => `(tactic| (k_here; k_dflt (refine' Mine.row_spec ?k1 ?k2 ?k3 ?k4 ?k5 ?k6 ?k7 ?k8 _ ?c1 ?c2 _ _ _ ?c3 ?c4 ?c5 ?_; wtm_at "S8"; (case c1 | c2 => assumption); (case c3 => k_mem); (case c4 | c5 => assumption); k_whole; intro h' tk' g' ps' t' news' F' N' hP' hT' G' K'; (try dsimp only))))
local macro_rules | `(tactic| walk_at "call ref") => `(tactic| (k_here; k_dflt (refine' Mine.word_spec ?k1 ?k2 ?k3 ?k4 ?k5 ?k6 ?k7 ?k8 _ _ _ ?c1 ?c2 ?_; wtm_at "S8"; (case c1 | c2 => assumption); k_whole; intro h' tk' t' F' N'; (try dsimp only))))
local macro_rules | `(tactic| walk_at "StarOf ref") => `(tactic| (k_here; k_dflt (refine' star_seq ?k1 ?k2 ?m ?c ?d ?T ?e ?z ?_; (case k1 | k2 => k_asm); (case m => k_mem); (case c | d => exact rfl); (case T => first | exact .inl rfl | exact .inr rfl); (case e => exact rfl); (case z => assumption); k_whole); intro h' F' N'; (try dsimp only [List.nil_append, List.cons_append])))
def LJ2 (fs : List Nat) (sc T : Addr) : Inv := fun _ m₁ news₁ gs =>
  AllBare gs ∧ (T, tupO [.bool true, .bool false]) ∈ news₁ ∧ ∃ mr tl, ∃ ps : Array Value, m₁ = lay [(Str.ofString "line", .str (strF fs) tl), (Str.ofString "script", .ref sc)] mr ∧ (69, tabObj ps) ∈ news₁ ∧ TriplesOk ps.toList
theorem tf_item {i : Nat} {v : Value} (h : ([.bool true, .bool false] : List Value)[i]? = some v) : ∃ b, v = .bool b := by
  match i, h with
  | 0, h => exact ⟨_, (Option.some.inj h).symm⟩
  | 1, h => exact ⟨_, (Option.some.inj h).symm⟩
  | n + 2, h => simp at h
def WJ2 (fs : List Nat) (sc l : Addr) (ps : List Pr) (sm : Int) (b : Bool) (X : List (Addr × Obj)) : Nat → (Str → Option Value) → List (Addr × Obj) → Prop := fun k m₁ news₁ =>
  ∃ mr y z ty tz tr tl, m₁ = lay [(Str.ofString "rest", .str (strF z) tz), (Str.ofString "last", .str (strF y) ty), (Str.ofString "row", .str (rowStr (rowF b fs)) tr), (Str.ofString "pairs", .ref l), (Str.ofString "line", .str (strF fs) tl), (Str.ofString "script", .ref sc)] mr ∧ news₁ = X ∧
    ReachN (pairsN sm (if b then 0 else 1)) fs y ∧ z = rpAll y (pairsN sm (if b then 0 else 1)) ∧ k = val y
theorem holds : PySem.Challenge.rw_ph0024_02.Holds := hd (by
  k_fill
  intro w s₀ s₁ mg mb G Y fa o pm cd doc dV kV ho hd hcd hD hmg hg args vals as hpre hlay hrd hwl hlo
  have KX := km_in_of Y
  have hTab := km_tabs_of Y
  have X := (Ground.X G).1
  have V := (Ground.X G).2
  refine Ground.open G ?_
  intro T B D TE TW
  try (refine guard_noD D (by decide +kernel) ?_; clear D)
  clear hmg
  wrow_args hpre hlay hrd hwl hlo
  all_goals (
    first | refine callC_kw (enter_call ?_) | refine enter_call ?_
    w_top on
    w_call any ho hd hcd hD T F
    clear hd
    skip)
  have hT9 : TabsAt [(73, 69)] s₁.heap := List.forall_mem_cons.mpr ⟨⟨codeHd_of_K KX (by kernel_rfl), hTab _ (List.Mem.head _)⟩, fun _ h => nomatch h⟩
  rename News _ _ _ _ => N
  have X' := ghost_K hT9 KX (by kernel_rfl)
  have T' := ghost_top hT9 T
  have K' := ghost_below hT9
  have N' := ghost_news hT9 F N
  have F' := ghost_fr hT9 F
  rename PySem.Heap.IsList _ _ _ => hLs
  replace hLs := ghost_list hT9 hLs
  simp only [tabNews, List.map_cons, List.map_nil, List.nil_append] at N'
  clear N F G Y X V B TE TW hcd hD T KX hTab ho
  generalize hW : Stmt.For _ _ _ _ _ = W
  k_steps
  subst hW
  rename Fr _ _ _ _ => F1
  rename News _ _ _ _ => N1
  rw [figs_eq] at F1
  obtain ⟨sc, vs, ns, tl0, hLs2, hIn, hn63, ⟨mr0, F2⟩⟩ : ∃ (sc : Addr) (vs : List Value) (ns : List Int) (tl0 : Tok), (ghostOf s₁.heap [(73, 69)]).IsList sc vs.toArray ∧ IntsAre vs ns ∧ ns.length ≤ 63 ∧ ∃ mr, Fr (ghostOf s₁.heap [(73, 69)]) s₁.heap.objs.size _ (lay [(Str.ofString "line", .str (strF (figs ns)) tl0), (Str.ofString "script", .ref sc)] mr) :=
    ⟨_, _, _, _, hLs, by assumption, by omega, _, Mine.Fr.lay F1 ⟨rfl, rfl, trivial⟩⟩
  clear F1 hLs
  obtain ⟨fs, hfs, hfl, hfn⟩ : ∃ fs, figs ns = fs ∧ (∀ f ∈ fs, f < 4) ∧ fs.length ≤ 16 := ⟨_, rfl, figs_lt _, figs_len _⟩
  rw [hfs] at F2
  obtain ⟨X0, NX0, hP0⟩ : ∃ X0, News _ _ _ X0 ∧ (69, tabObj #[]) ∈ X0 := ⟨_, N1, by k_mem⟩
  have hgen : AllBare s₁.gens := by rw [hg]; exact fun y hy => nomatch (List.not_mem_nil (Array.mem_toList_iff.mpr hy))
  clear N1
  refine For_led F2 ?_ (by intro _; with_unfolding_all rfl) (by with_unfolding_all passes_own)
  dsimp only [lay] at F2
  k_steps
  rename Fr _ _ _ _ => F3
  rename News _ _ _ _ => N3
  have F4 := Mine.Fr.lay (l := [(Str.ofString "line", .str (strF fs) tl0), (Str.ofString "script", .ref sc)]) F3 ⟨rfl, rfl, trivial⟩
  clear F3
  obtain ⟨X1, N4, hT4, hP4⟩ : ∃ X1, News _ _ _ X1 ∧ (_, tupO [.bool true, .bool false]) ∈ X1 ∧ (69, tabObj #[]) ∈ X1 := ⟨_, N3, .head _, .tail _ hP0⟩
  refine led_tuple (items := [.bool true, .bool false]) (LJ2 fs sc _) rfl F4 N4 hT4 ⟨hgen, hT4, _, tl0, #[], rfl, hP4, trivial⟩ (fun _ _ _ _ hJ => hJ.2.1) ?_ ?_
  · clear F4 N3 N4
    intro I i v m₁ news₁ h tk gs o hv hJ F₁ N₁ hIt hne
    obtain ⟨G₁, hT₁, mr₁, tl, pst, rfl, hP₁, hTr₁⟩ := hJ
    obtain ⟨b, rfl⟩ : ∃ b, v = .bool b := tf_item hv
    have hIter := hIt.iterish
    have hI₁ : (I, o) ∈ (I, o) :: news₁ := List.Mem.head _
    have hPI : (69 : Addr) ≠ I := hne _ hP₁
    replace hP₁ := List.Mem.tail (I, o) hP₁
    have hTI := hne _ hT₁
    replace hT₁ := List.Mem.tail (I, o) hT₁
    generalize hX1 : (I, o) :: news₁ = X2 at N₁ hI₁ hP₁ hT₁
    have hTne := news_ne N₁ hT₁ hP₁ tup_ne_tab'
    dsimp only [lay] at F₁
    have hfn100 : fs.length ≤ 100 := Nat.le_trans hfn (by decide)
    generalize hWw : Stmt.While _ _ _ _ = Ww
    generalize hW1 : Stmt.Assign _ _ _ = W1
    dsimp only
    k_steps
    subst hW1
    refine wpAny_mono (Q := Cut fun fl s' => fl = Flow.next ∧ ∃ (l : Addr) (np : Nat) (ps : List Pr) (sm kept : Int) (h' : Heap) (tk' : Nat) (g' : Array GenState) (pst : Array Value) (X' : List (Addr × Obj)) (mr' : Str → Option Value) (tr : Tok), s' = { heap := h', gens := g', drawn := s₁.drawn, toks := tk', os := s₁.os } ∧
      Fr (ghostOf s₁.heap [(73, 69)]) s₁.heap.objs.size h' (lay [(Str.ofString "row", .str (rowStr (rowF b fs)) tr), (Str.ofString "pairs", .ref l), (Str.ofString "line", .str (strF fs) tl), (Str.ofString "script", .ref sc)] mr') ∧ News (ghostOf s₁.heap [(73, 69)]) s₁.heap.objs.size h' X' ∧
      (l, lstO (prVals ps) np) ∈ X' ∧ (ps.map fun q => (q.o, q.n)) = pairs02 sm kept 13 ∧ kept = ((if b then 0 else 1 : Nat) : Int) ∧ (69, tabObj pst) ∈ X' ∧ TriplesOk pst.toList ∧ AllBare g' ∧ Mine.Keeps 69 X2 X') ?_ ?_ (fun _ _ z => z)
    · cases b
      all_goals k_steps
      all_goals (rename Fr _ _ _ _ => F9)
      all_goals (rename News _ _ _ _ => N9)
      all_goals (rename Mine.Keeps 69 _ _ => K9)
      all_goals (rename List.map _ _ = pairs02 _ _ _ => hps9)
      all_goals (rename TriplesOk _ => ht9)
      all_goals (rename AllBare _ => G9)
      all_goals (rename (69, tabObj _) ∈ _ => hp9)
      all_goals (rename ∀ q : Addr × Obj, q ∈ _ → q.1 < _ => hlt9)
      all_goals exact ⟨rfl, _, _, _, _, _, _, _, _, _, _, _, _, rfl, Mine.Fr.lay F9 ⟨rfl, rfl, rfl, rfl, trivial⟩, N9, .tail _ (K9 _ (.head _) (Ne.symm (Nat.ne_of_lt (hlt9 _ (.tail _ hP₁))))), hps9, rfl, .tail _ hp9, ht9, G9, fun q hq hne => .tail _ (K9 q (.tail _ (.tail _ hq)) hne)⟩
    · rintro _ _ ⟨rfl, l, np, ps, sm, kept, h', tk', g', pst', X3, mr', tr, rfl, F5, N5, hl5, hps, hkept, hP5, hT5, G5, K5⟩
      have hT6 := K5 _ hT₁ hTne
      have hI6 := K5 _ hI₁ (Ne.symm hPI)
      obtain ⟨hpl13, hok, hkd⟩ := law_pairs_ok hkept hps
      have hpl100 : ps.length ≤ 100 := by omega
      have hzz : (prVals ps).toArray.size ≤ sizeLine := by rw [List.size_toArray, prVals_len, sizeLine_eq]; omega
      have hx1000 : (strF fs).length ≤ 1000 := by rw [strF_len]; omega
      obtain ⟨hst, _⟩ := law_step (y := fs) hkept hps
      dsimp only [lay] at F5
      dsimp only
      k_steps
      · rename (_ != _) = true => hbad
        simp at hbad
      · subst hWw
        rename Fr _ _ _ _ => F7
        rename News _ _ _ _ => N7
        obtain ⟨X6, N8, hT8, hI8, hP8, hl8, mr8, tz8, tr8, tl8, ty8, F8⟩ : ∃ X6, News _ _ _ X6 ∧ (_, tupO [.bool true, .bool false]) ∈ X6 ∧ (I, o) ∈ X6 ∧ (69, tabObj pst') ∈ X6 ∧ (l, lstO (prVals ps) np) ∈ X6 ∧ ∃ mr tz tr tl ty, Fr _ _ _ (lay [(Str.ofString "rest", .str (replAll (strF fs) ps) tz), (Str.ofString "last", .str (strF fs) ty), (Str.ofString "row", .str (rowStr (rowF b fs)) tr), (Str.ofString "pairs", .ref l), (Str.ofString "line", .str (strF fs) tl), (Str.ofString "script", .ref sc)] mr) :=
          ⟨_, N7, .tail _ hT6, .tail _ hI6, .tail _ hP5, .tail _ hl5, _, _, _, _, _, Mine.Fr.lay F7 ⟨rfl, rfl, rfl, rfl, rfl, rfl, trivial⟩⟩
        clear F7 N7
        have hk2 : (if b then 0 else 1) < 2 := by cases b <;> decide
        refine While_inv2 (WJ2 fs sc l ps sm b X6) (n₀ := val fs) F8 N8 ⟨_, fs, rpAll fs (pairsN sm (if b then 0 else 1)), _, _, _, _, by rw [← hst], rfl, .start, rfl, rfl⟩ ?_ (by with_unfolding_all passes_own)
        clear F8 N8
        intro k m₂ news₂ h₂ tk₂ F₂ N₂ J₂
        obtain ⟨mr, y, z, ty, tz, tr, tl, rfl, rfl, hR, hz, rfl⟩ := J₂
        obtain ⟨hyl, hylen, _⟩ := reachN_keeps (pairsN_mem sm (if b then 0 else 1)) hfl hR
        obtain ⟨hst2, hdec⟩ := law_step (y := y) hkept hps
        rw [← hz] at hst2 hdec
        have hzR : ReachN (pairsN sm (if b then 0 else 1)) fs z := by rw [hz]; exact .step hR
        obtain ⟨hzl, hzlen, _⟩ := reachN_keeps (pairsN_mem sm (if b then 0 else 1)) hfl hzR
        have hz1000 : (strF z).length ≤ 1000 := by rw [strF_len]; omega
        dsimp only [lay] at F₂
        generalize hWi : Stmt.If _ _ _ _ = Wi
        k_steps
        · rename (_ != _) = true => hne
          rename Fr _ _ _ _ => F9
          rename News _ _ _ _ => N9
          have hne' : replAll (strF y) ps ≠ strF y := by rw [hst2]; simpa using hne
          have F10 := Mine.Fr.lay (l := [(Str.ofString "rest", .str (replAll (strF z) ps) _), (Str.ofString "last", .str (strF z) tz), (Str.ofString "row", .str (rowStr (rowF b fs)) tr), (Str.ofString "pairs", .ref l), (Str.ofString "line", .str (strF fs) tl), (Str.ofString "script", .ref sc)]) F9 ⟨rfl, rfl, rfl, rfl, rfl, rfl, trivial⟩
          rw [(law_step (y := z) hkept hps).1] at F10
          exact ⟨_, _, _, _, val z, rfl, F10, news_tail N9, hdec hne', _, z, _, _, _, _, _, rfl, rfl, hzR, rfl, rfl⟩
        · subst hWi
          rename (_ != _) = false => hne
          have hyz : z = y := strF_inj (by simpa using hne)
          subst hyz
          obtain ⟨e1, e2, e3⟩ := law_round hkept hps hfl hR hst2
          have hix : ∀ k, 1 ≤ k → k < 5 → Txt.find (rowStr (rowF b fs)) ⟨#[97 + k]⟩ = (ixR (rowStr (rowF b fs)) k : Int) := fun k _ hk => find_rows _ (row_in hfl) ⟨k, hk⟩
          have hRl : (rowStr (rowF b fs)).length ≤ 100 := rowStr_len fs
          have hz100 : z.length ≤ 100 := by omega
          clear hdec hst2 hst hR hzR
          k_steps
          · rename (_ != _) = true => hbad
            have h : strF z ≠ wordS (rowStr (rowF b fs)) (ixR (rowStr (rowF b fs))) 4 := by simpa using hbad
            exact absurd e1 h
          · rename (_ != _) = true => hbad
            rw [e2] at hbad
            simp at hbad
          · rename (_ != _) = true => hbad
            rw [e3] at hbad
            simp at hbad
          · rename Fr _ _ _ _ => F9
            rename News _ _ _ _ => N9
            rename Mine.Keeps 69 news₂ _ => Ka
            rename Mine.Keeps 69 _ _ => Kb
            rename TriplesOk _ => ht9
            rename AllBare _ => G9
            rename (69, tabObj _) ∈ _ => hp9
            have hI9 := Kb _ (Ka _ hI8 (Ne.symm hPI)) (Ne.symm hPI)
            have hT9' := Kb _ (Ka _ hT8 hTne) hTne
            have F10 := Mine.Fr.lay (l := [(Str.ofString "line", .str (strF fs) tl), (Str.ofString "script", .ref sc)]) F9 ⟨rfl, rfl, trivial⟩
            exact ⟨_, _, _, _, _, but I _, o, rfl, F10, N9, hI9, hIt, fun q hq => but_mem.mp hq, G9, but_mem.mpr ⟨hT9', hTI⟩, _, _, _, rfl, but_mem.mpr ⟨hp9, hPI⟩, ht9⟩
  · intro m₁ news₁ h₁ tk₁ gs₁ hJ F₁ N₁
    obtain ⟨G₁, hT₁, mr₁, tl, pst, rfl, hP₁, hTr₁⟩ := hJ
    dsimp only [lay] at F₁
    k_steps
    exact law_good hT9 F₁ ⟨GrownAt.of N₁ hP₁, trivial⟩ G₁ (fun _ => rfl) (by kernel_rfl) rfl)
end
end Mine
end
theorem PySem.Challenge.cw_ph0024_02_holds : PySem.Challenge.rw_ph0024_02.Holds :=
  Mine.holds
