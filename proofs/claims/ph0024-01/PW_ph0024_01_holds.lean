import PyProof.Rows.All
import Wide.All
import OpenK.AllK
import Wide.FinOn
import PySem.Challenge.RW_ph0024_01
set_option compiler.extract_closed false
noncomputable section
open PySem PySem.W PySem.Calls PyProof.Rows
set_option Elab.async false
set_option maxRecDepth 100000
set_option maxHeartbeats 4000000
namespace Mine
abbrev tupO (vs : List Value) : Obj := { cls := .type "tuple", data := .seq vs.toArray }
abbrev lstO (vs : List Value) (n : Nat) : Obj := { cls := .type "list", data := .seq vs.toArray n }
abbrev pileO (C d : Addr) (its : List Value) (n : Nat) : Obj := { cls := .ref C, dict := some d, data := .seq its.toArray n }
def setAt (p : Addr) (o : Obj) (news : List (Addr × Obj)) : List (Addr × Obj) := news.map fun q => if q.1 = p then (p, o) else q
theorem setAt_mem {p : Addr} {o : Obj} {news : List (Addr × Obj)} {q : Addr × Obj} (h : q ∈ news) (hq : q.1 ≠ p) : q ∈ setAt p o news :=
  List.mem_map.mpr ⟨q, h, if_neg hq⟩
theorem setAt_self {p : Addr} {o o' : Obj} {news : List (Addr × Obj)} (h : (p, o') ∈ news) : (p, o) ∈ setAt p o news :=
  List.mem_map.mpr ⟨_, h, if_pos rfl⟩
theorem news_setAt {h₀ h h' : Heap} {L p : Addr} {o o' : Obj} {news : List (Addr × Obj)} (N : News h₀ L h news) (hm : (p, o) ∈ news) (hs : Heap.SameBut p h h') (ho : h'.get? p = some o') : News h₀ L h' (setAt p o' news) := by
  intro q hq
  obtain ⟨r, hr, rfl⟩ := List.mem_map.mp hq
  by_cases e : r.1 = p
  · rw [if_pos e]; exact ⟨ho, (N _ hm).2⟩
  · rw [if_neg e]; exact ⟨(hs.2 _ e).trans (N r hr).1, (N r hr).2⟩
theorem allLt_mem {d : Nat} {q : Addr × Obj} {l : List (Addr × Obj)} (h : AllLt d l) (hm : q ∈ l) : q.1 < d := by
  induction l with
  | nil => cases hm
  | cons r l ih =>
    rcases List.mem_cons.mp hm with e | hm
    · rw [e]; exact h.1
    · exact ih h.2 hm
theorem news_tail {h₀ h : Heap} {L : Addr} {q : Addr × Obj} {news : List (Addr × Obj)} (N : News h₀ L h (q :: news)) : News h₀ L h news := fun p hp => N p (.tail _ hp)
theorem setAt_cons {p t : Addr} {o o1 o2 : Obj} {news : List (Addr × Obj)} (hm : (p, o1) ∈ news) (hl : ∀ q ∈ news, q.1 < t) : setAt p o ((t, o2) :: news) = (t, o2) :: setAt p o news := by
  show (if t = p then (p, o) else (t, o2)) :: setAt p o news = _
  rw [if_neg (fun e => Nat.lt_irrefl _ (e ▸ hl _ hm))]
theorem news_cons {h₀ h : Heap} {L p t : Addr} {o o1 o2 : Obj} {news : List (Addr × Obj)} (N : News h₀ L h (setAt p o ((t, o2) :: news))) (hm : (p, o1) ∈ news) (hl : ∀ q ∈ news, q.1 < t) : News h₀ L h ((t, o2) :: setAt p o news) := by
  rw [← setAt_cons hm hl]; exact N
theorem pileInst {h₀ h : Heap} {L x C dx : Addr} {news : List (Addr × Obj)} {od : Obj} {its : List Value} {n : Nat} (N : News h₀ L h news) (h1 : (x, pileO C dx its n) ∈ news) (h2 : (dx, od) ∈ news) :
    InstAt h x (pileO C dx its n) C (some od) := ⟨(N _ h1).1, rfl, rfl, (N _ h2).1⟩

section
variable {prog : Program} {w : World} {A : Around} {E : Value → Shared → Prop} {s : Shared} {K : Frag} {x C L : Addr} {ox : Obj} {od : Option Obj} {h₀ : Heap} {m : Str → Option Value} {news : List (Addr × Obj)}

theorem looks_inst {M : Model} {h : Heap} {b : Value} (X : K.In h) (I : InstAt h x ox C od) (hm : mroIn K C b = some true) : Looks M h (isInstance (.ref x) b) true :=
  I.type.andThen (looks_mroIn X hm)

/-- a built-in's method or slot, called on an object of an own class below the owner -/
theorem call_sub {id owner n : String} {b : Builtin} {rest : List Value} {Q : Value → Shared → Prop} (hsplit : splitId id = some (owner, n))
    (hkind : builtinKind id = some .slot ∨ builtinKind id = some .method) (hplain : plainId id = true) (hb : entryFor table id = some b)
    (hI : Looks (model prog w) s.heap (isInstance (.ref x) (.type owner)) true) (ha : argsOk id ⟨.ref x :: rest, []⟩)
    (hc : wpAny (model prog w) A.in1 (b ⟨.ref x :: rest, []⟩) (fun fin s' => ∃ v, fin = .done (.ret v) ∧ Q v s') E s) :
    wpAny (model prog w) A (call (.builtin id) (.ref x :: rest)) Q E s := by
  have hc' : wpAny (model prog w) A.in1 (checkBuiltinCall id ⟨.ref x :: rest, []⟩) (fun _ s' => s' = s) E s := by
    unfold checkBuiltinCall
    simp only [hsplit]
    rcases hkind with h | h <;>
    · simp only [h]
      refine wpAny_bind (hI.here ?_)
      simp only [Bool.not_true, Bool.false_eq_true, if_false]
      cases hsig : Manifest.signature? id with
      | none => exact wpAny_pure rfl
      | some sig =>
        simp only [argsOk, hsig] at ha
        have h2 : Bind.checkArgs id sig ⟨.ref x :: rest, []⟩ = pure () := ha
        show wpAny _ _ (Bind.checkArgs id sig ⟨.ref x :: rest, []⟩) _ E s
        rw [h2]; exact wpAny_pure rfl
  refine wpAny_call (codeAny_call_builtin hplain hb (wpAny_mono hc' (fun _ s' e => ?_) fun _ _ z => z))
  subst e
  exact wpAny_mono hc (fun fin s' h' => by obtain ⟨v, rfl, hv⟩ := h'; exact hv) fun _ _ z => z

/-- a method, built in or the text's own, met on an object of an own class below list -/
theorem method_sub {ga : String} {f t : Value} {name : Str} {es : List DictEntry} {n : Nat} {pl : Sem Bool} {Q : Value × List Value → Shared → Prop} (F : Fr h₀ L s.heap m) (X₀ : K.In h₀)
    (I : InstAt s.heap x ox C (some (dictOf es n))) (hg : findIn K (.ref C) "__getattribute__" = some (some (.builtin ga))) (hcan : (Manifest.canonical ga != "object.__getattribute__") = false)
    (hk : findIn K (.ref C) "__getattr__" = some none) (hf : findIn K (.ref C) name = some (some f)) (ht : typeIn K f = some t)
    (htt : (t != .type "function" && t != .type "method_descriptor" && t != .type "wrapper_descriptor") = false) (hl : getL name es = some none) (h : Q (f, [.ref x]) s) :
    wpAny (model prog w) A (getMethod (.ref x) name pl) Q E s := by
  have X := X₀.keeps F.keep
  have hs : shadowIn (some (dictOf es n)) name = some false := by show (lookIn name (dictOf es n)).map _ = _; rw [lookIn_dict, hl]; rfl
  unfold getMethod specialOf
  refine wpAny_bind (wpAny_bind (I.type.here ((looks_findIn X hg).here ?_)))
  dsimp only
  rw [if_neg (by rw [hcan]; exact Bool.false_ne_true)]
  refine wpAny_bind (wpAny_bind (I.type.here ((looks_findIn X hk).here ?_)))
  refine wpAny_bind (wpAny_bind (I.type.here ((looks_findIn X hf).here (wpAny_bind ((looks_typeIn X ht).here ?_)))))
  rw [if_neg (by rw [htt]; exact Bool.false_ne_true)]
  refine wpAny_bind (wpAny_loadPart I.at_ ?_)
  have hd := I.dict
  cases e : ox.dict with
  | none => exact wpAny_bind (wpAny_rule (wpAny_pure h))
  | some dx =>
    rw [e] at hd
    obtain ⟨r, a, b⟩ := Option.map_eq_some_iff.mp hs
    refine wpAny_bind (wpAny_bind (wpAny_loadPart hd ?_))
    rw [nsLook_of a]
    refine wpAny_pure ?_
    rw [b]
    exact wpAny_bind (wpAny_rule (wpAny_pure h))

theorem pile_append {dx : Addr} {its : List Value} {n : Nat} {o2 : Obj} {v : Value} {Q : Value → Shared → Prop} (F : Fr h₀ L s.heap m) (X₀ : K.In h₀) (N : News h₀ L s.heap news)
    (hm : (x, pileO C dx its n) ∈ news) (hd : (dx, o2) ∈ news) (hl : mroIn K C (.type "list") = some true) (hsz : its.length ≤ sizeLine)
    (h : ∀ h', Fr h₀ L h' m → News h₀ L h' (setAt x (pileO C dx (its ++ [v]) (n + 1)) news) → Q .none { s with heap := h' }) :
    wpAny (model prog w) A (call (.builtin "list.append") [.ref x, v]) Q E s := by
  have I := pileInst N hm hd
  have z := N _ hm
  refine call_sub (owner := "list") (n := "append") (by decide +kernel) (.inr (by decide +kernel)) (by decide +kernel) entry_list_append (looks_inst (X₀.keeps F.keep) I hl) (args_list_append _ _) ?_
  show wpAny _ _ (updateSeq x (·.push v) >>= fun _ => ret .none) _ _ s
  refine wpAny_bind (wpAny_updateSeq z.1 rfl (wpAny_pure ⟨.none, rfl, h _ (F.change (Heap.SameBut.update ..) z.2.1 z.2.2) (news_setAt N hm (Heap.SameBut.update ..) ?_)⟩) (by simpa using hsz) (by simp; omega))
  rw [Heap.get?_update_self _ z.1 (by simp [Obj.mapSeq, Obj.isFreed])]
  simp [Obj.mapSeq]

theorem special_bi {M : Model} {id : String} {name : Str} {args : List Value} {Q : Option Value → Shared → Prop} (X : K.In s.heap) (I : InstAt s.heap x ox C od)
    (hs : findIn K (.ref C) name = some (some (.builtin id))) (hb : ∀ self, bindSpecial (.builtin id) self = pure (.builtin id, [self]))
    (h : wpAny M A (call (.builtin id) (.ref x :: args)) (fun v => Q (some v)) E s) : wpAny M A (callSpecial? (.ref x) name args) Q E s :=
  wpAny_bind (wpAny_bind (I.type.here ((looks_findIn X hs).here (wpAny_holding (wpAny_bind (wpAny_of_eq (hb _) (wpAny_bind (wpAny_mono h (fun _ _ z => wpAny_pure z) fun _ _ z => z))))))))

theorem seqKey_sub {M : Model} {k : Value} {name : Str} {Q : Value → Shared → Prop} (X : K.In s.heap) (I : InstAt s.heap x ox C od) (hq : noSeq K C = true) (h : Q k s) :
    wpAny M A (sequenceKey (.ref x) k name) Q E s := by
  unfold sequenceKey
  refine wpAny_bind (I.type.here ?_)
  refine wpAny_bind ((anyM_none X hq).here ?_)
  rw [if_pos (show (!false) = true from rfl)]
  exact wpAny_pure h

theorem pick_from (its : List Value) (i : Int) (h0 : 0 ≤ i) : slicePick its.toArray (some i) none none = (its.drop i.toNat).toArray := by
  have e : sliceBounds (some i) none none its.toArray.size = (((min i.toNat its.toArray.size : Nat) : Int), ((its.toArray.size : Nat) : Int), 1) := by
    simp only [sliceBounds, Option.getD_none, show (1 : Int) > 0 by decide, if_true, if_neg (show ¬ (i < 0) by omega)]
    congr 1
    omega
  rw [kmk_pick_nat _ e]
  show ((its.drop (min i.toNat its.toArray.size)).take (its.toArray.size - min i.toNat its.toArray.size)).toArray = _
  rw [List.size_toArray, kmk_drop_min, List.take_of_length_le (by rw [List.length_drop]; omega)]

theorem pile_getslice {sl : Addr} {its : List Value} {n : Nat} {ox : Obj} {vl vu vs : Value} {lo hi st : Option Int} {Q : Value → Shared → Prop} (X : K.In s.heap) (I : InstAt s.heap x ox C od) (hdt : ox.data = .seq its.toArray n)
    (hl : mroIn K C (.type "list") = some true) (hq : noSeq K C = true) (hf : findIn K (.ref C) "__getitem__" = some (some (.builtin "list.__getitem__")))
    (hs : s.heap.IsSliceOf sl vl vu vs) (pl : IsPart vl lo) (pu : IsPart vu hi) (ps : IsPart vs st) (h0 : st ≠ some 0)
    (h : Q (.ref s.heap.objs.size) { s with heap := s.heap.push { cls := .type "list", data := .seq (slicePick its.toArray lo hi st) } })
    (hsz : its.length ≤ sizeLine) : wpAny (model prog w) A (getItem (.ref x) (.ref sl)) Q E s := by
  obtain ⟨os, hos, hcs, hds⟩ := id hs
  have hTs : s.TypeIs (.ref sl) "slice" := ⟨os, hos, hcs⟩
  unfold getItem
  refine wpAny_holding (wpAny_bind (seqKey_sub X I hq (wpAny_bind (special_bi X I hf slot_list_getitem.bind ?_))))
  refine call_sub (owner := "list") (n := "__getitem__") (by decide +kernel) (by first | exact .inl (by decide +kernel) | exact .inr (by decide +kernel)) (by decide +kernel) entry_list_getitem (looks_inst X I hl) (args_list_getitem _ _) ?_
  show wpAny _ _ (Builtin.List.listSubscript? (.ref sl) >>= _) _ _ s
  refine wpAny_bind ?_
  · unfold Builtin.List.listSubscript?
    refine wpAny_bind (wpAny_specialOf hTs slice_no_index ?_)
    simp only [Option.isNone_none, if_true]
    refine wpAny_pure ?_
    show wpAny _ _ (typeOf (.ref sl) >>= _) _ _ s
    refine wpAny_bind (wpAny_typeOf hTs ?_)
    rw [if_neg (by decide)]
    rw [listSliceParts_eq]
    have hstep : ¬ ((rawPart st == rawInt 0) = true) := by
      cases st with
      | none => exact Bool.false_ne_true
      | some c =>
        intro hh
        have : c = 0 := by simpa [rawPart, rawInt] using hh
        exact h0 (by rw [this])
    refine wpAny_bind (wpAny_bind (wpAny_field hos hds (x := vs) rfl (wpAny_bind (wpAny_listPart ps ?_))))
    rw [if_neg hstep]
    refine wpAny_bind (wpAny_field hos hds (x := vl) rfl (wpAny_bind (wpAny_listPart pl ?_)))
    refine wpAny_bind (wpAny_field hos hds (x := vu) rfl (wpAny_bind (wpAny_listPart pu (wpAny_pure ?_))))
    refine wpAny_bind (m := Builtin.List.listItems (.ref x)) ?_
    · unfold Builtin.List.listItems
      refine wpAny_bind (wpAny_seqItems I.at_ hdt (wpAny_pure ?_))
      refine wpAny_bind (wpAny_of_eq (sliceIndices_raw lo hi st its.toArray.size h0) ?_)
      refine wpAny_bind (wpAny_newObj_type (wpAny_pure ⟨_, rfl, wpAny_pure h⟩) (Nat.le_trans (slicePick_size_le its.toArray lo hi st) (by simpa using hsz)))

theorem pile_from {value slice : PySem.Expr} {dx : Addr} {its : List Value} {n : Nat} {o2 : Obj} {i : Int} {ti : Tok} {Q : Value → Shared → Prop} (F : Fr h₀ L s.heap m) (X₀ : K.In h₀) (N : News h₀ L s.heap news)
    (hm : (x, pileO C dx its n) ∈ news) (hd : (dx, o2) ∈ news) (hl : mroIn K C (.type "list") = some true) (hq : noSeq K C = true) (hf : findIn K (.ref C) "__getitem__" = some (some (.builtin "list.__getitem__")))
    (h0 : 0 ≤ i) (hsz : its.length ≤ sizeLine)
    (hs : ∀ b, subscripted slice b (.ref x) (.ref s.heap.objs.size) = operate [.ref s.heap.objs.size, .ref x] (getItem (.ref x) (.ref s.heap.objs.size))) (ht : ∀ r, letTemporaryGo value (.ref x) r = pure ())
    (h : ∀ D h', Fr h₀ L h' m → News h₀ L h' ((D, lstO (its.drop i.toNat) 0) :: news) → (∀ p ∈ news, p.1 < D) → Q (.ref D) { s with heap := h' }) :
    wpAny (model prog w) A (subscriptTail value slice (.ref x) (.ref s.heap.objs.size)) Q E { s with heap := s.heap.push { cls := .type "slice", data := .fields #[.int i ti, .none, .none] } } := by
  have up : ∀ b o, s.heap.get? b = some o → (s.heap.push { cls := .type "slice", data := .fields #[.int i ti, .none, .none] }).get? b = some o := fun b o e => Heap.get?_push_of_some _ e
  have N' := News.grown N up
  have I := pileInst N' hm hd
  have X : K.In (s.heap.push { cls := .type "slice", data := .fields #[.int i ti, .none, .none] }) := (X₀.keeps F.keep).keeps up
  unfold subscriptTail getitemInPython
  refine wpAny_bind (wpAny_bind (wpAny_bind (I.type.here ((looks_findIn X hf).here (wpAny_pure ?_)))))
  rw [hs]
  refine wpAny_bind (wpAny_operate' (pile_getslice (s := { s with heap := s.heap.push { cls := .type "slice", data := .fields #[.int i ti, .none, .none] } }) X I rfl hl hq hf (Heap.IsSliceOf.new ..) (.int i ti) .none .none (by simp) ?_ hsz))
  refine wpAny_bind (wpAny_of_eq (ht _) (wpAny_pure ?_))
  have N1 := News.push (F.push { cls := .type "slice", data := .fields #[.int i ti, .none, .none] }) N' { cls := .type "list", data := .seq (slicePick its.toArray (some i) none none) }
  rw [pick_from its i h0] at N1 ⊢
  refine h _ _ ((F.push _).push _) N1 fun p hp => ?_
  rw [Heap.size_push]
  exact Nat.lt_succ_of_lt (Heap.lt_size (N p hp).1)

theorem args_list_setitem (a b c : Value) : argsOk "list.__setitem__" ⟨[a, b, c], []⟩ := by unfold argsOk; kernel_rfl
theorem entry_list_setitem : entryFor table "list.__setitem__" = some Builtin.«list.__setitem__» := entryFor_of_tree (by kernel_rfl)
theorem bind_list_setitem (self : Value) : bindSpecial (.builtin "list.__setitem__") self = pure (.builtin "list.__setitem__", [self]) :=
  (Slot.of (T := "list") (name := "__setitem__") (owner := "list") (n := "__setitem__") (by rw [typeLookup_type, builtinLookup_eq_fast]; kernel_rfl) (by decide +kernel) (by decide +kernel) (by decide +kernel)
    (by first | exact .inl (by decide +kernel) | exact .inr (by decide +kernel)) (by rw [isSubtype_type]; kernel_rfl)).bind self

theorem pile_cut {dx e : Addr} {its : List Value} {n k : Nat} {o2 : Obj} {i : Int} {ti : Tok} {Q : Unit → Shared → Prop} (F : Fr h₀ L s.heap m) (X₀ : K.In h₀) (Ne : News h₀ L s.heap ((e, listOf #[] k) :: news)) (hlt : AllLt e news)
    (hm : (x, pileO C dx its n) ∈ news) (hd : (dx, o2) ∈ news) (hl : mroIn K C (.type "list") = some true) (hq : noSeq K C = true) (hf : findIn K (.ref C) "__setitem__" = some (some (.builtin "list.__setitem__")))
    (h0 : 0 ≤ i) (hsz : its.length ≤ sizeLine)
    (h : ∀ h' n', Fr h₀ L h' m → News h₀ L h' (setAt x (pileO C dx (its.take i.toNat) n') news) → Q () { s with heap := h' }) :
    wpAny (model prog w) A (setItem (.ref x) (.ref s.heap.objs.size) (.ref e)) Q E { s with heap := s.heap.push { cls := .type "slice", data := .fields #[.int i ti, .none, .none] } } := by
  have N := news_tail Ne
  have hxe : x ≠ e := Nat.ne_of_lt (allLt_mem hlt hm)
  have up : ∀ b o, s.heap.get? b = some o → (s.heap.push { cls := .type "slice", data := .fields #[.int i ti, .none, .none] }).get? b = some o := fun b o e => Heap.get?_push_of_some _ e
  have N' := News.grown N up
  have F' := F.push { cls := .type "slice", data := .fields #[.int i ti, .none, .none] }
  have I := pileInst N' hm hd
  have X : K.In (s.heap.push { cls := .type "slice", data := .fields #[.int i ti, .none, .none] }) := (X₀.keeps F.keep).keeps up
  obtain ⟨os, hos, hcs, hds⟩ := Heap.IsSliceOf.new s.heap (.int i ti) .none .none
  have hTs : ({ s with heap := s.heap.push { cls := .type "slice", data := .fields #[.int i ti, .none, .none] } } : Shared).TypeIs (.ref s.heap.objs.size) "slice" := ⟨os, hos, hcs⟩
  have hE : (s.heap.push { cls := .type "slice", data := .fields #[.int i ti, .none, .none] }).get? e = some (listOf #[] k) := up _ _ (Ne (e, listOf #[] k) (List.Mem.head _)).1
  have hTe : ({ s with heap := s.heap.push { cls := .type "slice", data := .fields #[.int i ti, .none, .none] } } : Shared).TypeIs (.ref e) "list" := ⟨_, hE, rfl⟩
  unfold setItem
  refine wpAny_holding (wpAny_bind (seqKey_sub X I hq (wpAny_bind (special_bi X I hf bind_list_setitem ?_))))
  refine call_sub (owner := "list") (n := "__setitem__") (by decide +kernel) (by first | exact .inl (by decide +kernel) | exact .inr (by decide +kernel)) (by decide +kernel) entry_list_setitem (looks_inst X I hl) (args_list_setitem _ _ _) ?_
  unfold Builtin.«list.__setitem__»
  refine wpAny_bind (wpAny_of_eq (a := (.ref x, [.ref s.heap.objs.size, .ref e])) (by rfl) ?_)
  dsimp only
  refine wpAny_bind ?_
  · unfold Builtin.List.listSubscript?
    refine wpAny_bind (wpAny_specialOf hTs slice_no_index ?_)
    simp only [Option.isNone_none, if_true]
    refine wpAny_pure ?_
    show wpAny _ _ (typeOf (.ref s.heap.objs.size) >>= _) _ _ _
    refine wpAny_bind (wpAny_typeOf hTs ?_)
    rw [if_neg (by decide)]
    rw [listSliceParts_eq]
    refine wpAny_bind (wpAny_bind (wpAny_field hos hds (x := .none) rfl (wpAny_bind (wpAny_listPart .none ?_))))
    rw [if_neg (by decide)]
    refine wpAny_bind (wpAny_field hos hds (x := .int i ti) rfl (wpAny_bind (wpAny_listPart (.int i ti) ?_)))
    refine wpAny_bind (wpAny_field hos hds (x := .none) rfl (wpAny_bind (wpAny_listPart .none (wpAny_pure ?_))))
    have hne : ¬ ((Builtin.List.listSameRef (.ref x) (.ref e)) = true) := by simpa [Builtin.List.listSameRef] using hxe
    dsimp only
    rw [if_neg hne]
    refine wpAny_bind ?_
    unfold Builtin.List.listAllItems
    refine wpAny_bind (wpAny_typeOf hTe ?_)
    rw [if_pos (by decide)]
    unfold Builtin.List.listItems
    refine wpAny_bind (wpAny_seqItems hE rfl (wpAny_pure ?_))
    refine wpAny_bind (wpAny_bind (wpAny_seqItems I.at_ rfl (wpAny_pure ?_)))
    refine wpAny_bind (wpAny_of_eq (sliceIndices_raw (some i) none none its.toArray.size (by simp)) ?_)
    have e : sliceBounds (some i) none none its.toArray.size = (((min i.toNat its.toArray.size : Nat) : Int), ((its.toArray.size : Nat) : Int), 1) := by
      simp only [sliceBounds, Option.getD_none, show (1 : Int) > 0 by decide, if_true, if_neg (show ¬ (i < 0) by omega)]
      congr 1
      omega
    rw [e]
    dsimp only
    rw [if_pos (by decide)]
    refine wpAny_bind (wpAny_rule ?_)
    rw [if_neg (by
      show ¬ ((Builtin.List.listTooLong (its.toArray.size + (#[] : Array Value).size)) = true)
      unfold Builtin.List.listTooLong
      simp
      exact hsz)]
    have z := N' _ hm
    have hcut : (its.toArray.extract 0 ((min i.toNat its.toArray.size : Nat) : Int).toNat ++ #[] ++ its.toArray.extract (max ((min i.toNat its.toArray.size : Nat) : Int) ((its.toArray.size : Nat) : Int)).toNat its.toArray.size) = (its.take i.toNat).toArray := by
      apply Array.ext'
      have e1 : (max ((min i.toNat its.toArray.size : Nat) : Int) ((its.toArray.size : Nat) : Int)).toNat = its.toArray.size := by omega
      rw [e1]
      simp only [Int.toNat_natCast, Array.toList_append, Array.toList_extract, List.append_nil, List.drop_zero, List.size_toArray, List.drop_length, List.take_nil, Nat.sub_zero, List.extract_eq_take_drop, Nat.sub_self]
      exact kmk_take_min its i.toNat
    show wpAny _ _ (updateSeq x _ >>= _) _ _ _
    refine wpAny_bind (wpAny_updateSeq z.1 rfl (wpAny_bind (wpAny_letGo (wpAny_pure ⟨.none, rfl, wpAny_pure (h _ (if (its.take i.toNat).toArray.size == its.toArray.size then n else n + 1) (F'.change (Heap.SameBut.update ..) z.2.1 z.2.2) (news_setAt N' hm (Heap.SameBut.update ..) ?_))⟩))) (by simpa using hsz) ?_)
    · rw [Heap.get?_update_self _ z.1 (by simp [Obj.mapSeq, Obj.isFreed])]
      show some (Obj.mapSeq _ _) = _
      unfold Obj.mapSeq
      dsimp only
      rw [hcut]
    · rw [hcut]
      simp
      omega
end
end Mine
end
noncomputable section
open PySem PySem.W PySem.Calls PyProof.Rows Mine
set_option Elab.async false
set_option maxRecDepth 100000
set_option maxHeartbeats 4000000
namespace Mine
namespace F
theorem slot_wd_get : Slot "wrapper_descriptor" "__get__" "wrapper_descriptor.__get__" := .of (owner := "wrapper_descriptor") (n := "__get__") (by rw [typeLookup_type, builtinLookup_eq_fast]; kernel_rfl) (by decide +kernel) (by decide +kernel) (by decide +kernel)
  (by first | exact .inl (by decide +kernel) | exact .inr (by decide +kernel)) (by rw [isSubtype_type]; kernel_rfl)
theorem entry_wd_get : entryFor table "wrapper_descriptor.__get__" = some Builtin.«wrapper_descriptor.__get__» := entryFor_of_tree (by kernel_rfl)
theorem wdArgs (a b c : Value) : argsOk "wrapper_descriptor.__get__" ⟨[a, b, c], []⟩ := by unfold argsOk; kernel_rfl
theorem slot_md_get : Slot "method_descriptor" "__get__" "method_descriptor.__get__" := .of (owner := "method_descriptor") (n := "__get__") (by rw [typeLookup_type, builtinLookup_eq_fast]; kernel_rfl) (by decide +kernel) (by decide +kernel) (by decide +kernel)
  (by first | exact .inl (by decide +kernel) | exact .inr (by decide +kernel)) (by rw [isSubtype_type]; kernel_rfl)
theorem entry_md_get : entryFor table "method_descriptor.__get__" = some Builtin.«method_descriptor.__get__» := entryFor_of_tree (by kernel_rfl)
theorem mdArgs (a b c : Value) : argsOk "method_descriptor.__get__" ⟨[a, b, c], []⟩ := by unfold argsOk; kernel_rfl
theorem ty_len : typeOf (.builtin "list.__len__") = pure (.type "wrapper_descriptor") := by show builtinType _ = _; rw [builtinType_eq_fast]; kernel_rfl
theorem ty_init : typeOf (.builtin "list.__init__") = pure (.type "wrapper_descriptor") := by show builtinType _ = _; rw [builtinType_eq_fast]; kernel_rfl
theorem ty_pop : typeOf (.builtin "list.pop") = pure (.type "method_descriptor") := by show builtinType _ = _; rw [builtinType_eq_fast]; kernel_rfl
end F

section
variable {prog : Program} {w : World} {M : Model} {A : Around} {E : Value → Shared → Prop} {h : Heap} {g : Array GenState} {d : Drawn} {t : Nat} {os : OsState}

theorem own_len : ".".intercalate ("list.__len__".cutAt '.').dropLast = "list" := by decide +kernel
theorem own_init : ".".intercalate ("list.__init__".cutAt '.').dropLast = "list" := by decide +kernel
theorem own_pop : ".".intercalate ("list.pop".cutAt '.').dropLast = "list" := by decide +kernel
theorem told_pop : Manifest.toldItsClass.contains "list.pop" = false := by decide +kernel

theorem wd_get {id : String} {x C : Addr} {ox : Obj} {Q : Fin → Shared → Prop} (hx : h.get? x = some ox) (hc : ox.cls = .ref C) (hI : Looks (model prog w) h (isSubtype (.ref C) (.type "list")) true) (hn : (id = "list.__len__" ∨ id = "list.__init__"))
    (hq : Q (.done (.ret (.ref h.objs.size))) ⟨h.push { cls := .type "method-wrapper", data := .fields #[.builtin id, .ref x] }, g, d, t, os⟩) :
    wpAny (model prog w) A (Builtin.«wrapper_descriptor.__get__» ⟨[.builtin id, .ref x, .ref C], []⟩) Q E ⟨h, g, d, t, os⟩ := by
  unfold Builtin.«wrapper_descriptor.__get__»
  rcases hn with rfl | rfl
  · repeat (first
      | (with_reducible refine wpAny_loadPart hx ?_; refine wpAny_pure ?_; rw [hc, own_len]; refine Looks.at hI ?_)
      | (unfold newFields; refine wpAny_bind (wpAny_newObj_type ?_ (by size_fits)))
      | wp_step
      | dsimp only)
    exact hq
  · repeat (first
      | (with_reducible refine wpAny_loadPart hx ?_; refine wpAny_pure ?_; rw [hc, own_init]; refine Looks.at hI ?_)
      | (unfold newFields; refine wpAny_bind (wpAny_newObj_type ?_ (by size_fits)))
      | wp_step
      | dsimp only)
    exact hq
theorem md_get {x C : Addr} {ox : Obj} {Q : Fin → Shared → Prop} (hx : h.get? x = some ox) (hc : ox.cls = .ref C) (hI : Looks (model prog w) h (isSubtype (.ref C) (.type "list")) true)
    (hq : Q (.done (.ret (.ref h.objs.size))) ⟨h.push { cls := .type "builtin_function_or_method", data := .fields #[.builtin "list.pop", .ref x] }, g, d, t, os⟩) :
    wpAny (model prog w) A (Builtin.«method_descriptor.__get__» ⟨[.builtin "list.pop", .ref x, .ref C], []⟩) Q E ⟨h, g, d, t, os⟩ := by
  have ht := told_pop
  unfold Builtin.«method_descriptor.__get__»
  repeat (first
      | (with_reducible refine wpAny_loadPart hx ?_; refine wpAny_pure ?_; rw [hc, own_pop]; refine Looks.at hI ?_)
      | (unfold newFields; refine wpAny_bind (wpAny_newObj_type ?_ (by size_fits)))
      | wp_step
      | dsimp only)
  exact hq
end
end Mine
end
noncomputable section
open PySem PySem.W PySem.Calls PyProof.Rows Mine
set_option Elab.async false
set_option maxRecDepth 100000
set_option maxHeartbeats 4000000
namespace Mine
section
variable {prog : Program} {w : World} {M : Model} {A : Around} {E : Value → Shared → Prop} {h : Heap} {g : Array GenState} {d : Drawn} {t : Nat} {os : OsState}

theorem super_ga {so D x C : Addr} {l₀ l : List Value} {K : Frag} {name : Str} {tk : Tok} {id tn gid : String} {bg : Builtin} {ob : Obj} {Q : Fin → Shared → Prop}
    (hso : h.get? so = some { cls := .type "super", dict := none, data := .fields #[.ref D, .ref x, .ref C], slots := #[] }) (hno : Looks (model prog w) h (opaqueClassAbove (.ref C)) none)
    (hC : Looks (model prog w) h (mroOf (.ref C)) l₀) (hl : (l₀.dropWhile (· != .ref D)).drop 1 = l) (X : K.In h)
    (hf : alongIn K name l = some (some (.builtin id))) (hxC : x ≠ C) (hn : (name == ("__class__" : Str)) = false)
    (hT : typeOf (.builtin id) = pure (.type tn)) (sl : Slot tn "__get__" gid) (eg : entryFor table gid = some bg) (ag : argsOk gid ⟨[.builtin id, .ref x, .ref C], []⟩)
    (hb : ∀ {A' : Around} {Q' : Fin → Shared → Prop} {E' : Value → Shared → Prop}, Q' (.done (.ret (.ref h.objs.size))) ⟨h.push ob, g, d, t, os⟩ → wpAny (model prog w) A' (bg ⟨[.builtin id, .ref x, .ref C], []⟩) Q' E' ⟨h, g, d, t, os⟩)
    (hq : Q (.done (.ret (.ref h.objs.size))) ⟨h.push ob, g, d, t, os⟩) :
    wpAny (model prog w) A (Builtin.«super.__getattribute__» ⟨[.ref so, .str name tk], []⟩) Q E ⟨h, g, d, t, os⟩ := by
  have hlk := sl.lookup
  have hne : (Value.ref x == Value.ref C) = false := by simp [hxC]
  have hTf : (⟨h, g, d, t, os⟩ : Shared).TypeIs (.builtin id) tn := hT
  have hdt : ({ cls := .type "super", dict := none, data := .fields #[.ref D, .ref x, .ref C], slots := #[] } : Obj).data = .fields #[.ref D, .ref x, .ref C] := rfl
  have f0 : (#[.ref D, .ref x, .ref C] : Array Value)[0]? = some (.ref D) := rfl
  have f1 : (#[.ref D, .ref x, .ref C] : Array Value)[1]? = some (.ref x) := rfl
  have f2 : (#[.ref D, .ref x, .ref C] : Array Value)[2]? = some (.ref C) := rfl
  unfold Builtin.«super.__getattribute__»
  repeat (first
    | (with_reducible refine wpAny_field hso hdt f0 ?_) | (with_reducible refine wpAny_field hso hdt f1 ?_) | (with_reducible refine wpAny_field hso hdt f2 ?_)
    | (with_reducible refine ks_wpAny_notOpaque hno ?_)
    | (with_reducible refine Looks.at hC ?_; rw [hl])
    | (refine ks_forIn_along X (fun _ _ => rfl) rfl ?_ hf)
    | (with_reducible refine wpAny_typeOf hTf ?_)
    | (with_reducible refine wpAny_call_entry sl hTf eg ?_ ag)
    | (with_reducible refine hb ?_)
    | (with_reducible refine ⟨_, rfl, ?_⟩)
    | (simp only [hn, hne, Bool.or_false, Bool.false_eq_true, if_false])
    | wp_step
    | dsimp only)
  all_goals exact hq

theorem getMethod_super {so D x C : Addr} {l₀ l : List Value} {K : Frag} {name : Str} {id tn gid : String} {bg : Builtin} {ob : Obj} {pl : Sem Bool} {Q : Value × List Value → Shared → Prop}
    (hso : h.get? so = some { cls := .type "super", dict := none, data := .fields #[.ref D, .ref x, .ref C], slots := #[] }) (hno : Looks (model prog w) h (opaqueClassAbove (.ref C)) none)
    (hC : Looks (model prog w) h (mroOf (.ref C)) l₀) (hl : (l₀.dropWhile (· != .ref D)).drop 1 = l) (X : K.In h)
    (hf : alongIn K name l = some (some (.builtin id))) (hxC : x ≠ C) (hn : (name == ("__class__" : Str)) = false)
    (hT₀ : typeOf (.builtin id) = pure (.type tn)) (sl : Slot tn "__get__" gid) (eg : entryFor table gid = some bg) (ag : argsOk gid ⟨[.builtin id, .ref x, .ref C], []⟩)
    (hb : ∀ {A' : Around} {Q' : Fin → Shared → Prop} {E' : Value → Shared → Prop} {t' : Nat}, Q' (.done (.ret (.ref h.objs.size))) ⟨h.push ob, g, d, t', os⟩ → wpAny (model prog w) A' (bg ⟨[.builtin id, .ref x, .ref C], []⟩) Q' E' ⟨h, g, d, t', os⟩)
    (hq : Q (.ref h.objs.size, []) ⟨h.push ob, g, d, t + 1, os⟩) :
    wpAny (model prog w) A (getMethod (.ref so) name pl) Q E ⟨h, g, d, t, os⟩ := by
  have hlk := PySem.F.ks_slot_super_ga.lookup
  have hcan := PySem.F.ks_canon_super_ga
  have hT : ∀ t', (⟨h, g, d, t', os⟩ : Shared).TypeIs (.ref so) "super" := fun _ => ⟨_, hso, rfl⟩
  unfold getMethod
  refine wpAny_bind (wpAny_specialOf (hT _) hlk ?_)
  show wpAny _ _ (if (Manifest.canonical "super.__getattribute__" != "object.__getattribute__") = true then _ else _) _ _ _
  rw [if_pos hcan]
  unfold getAttr getAttrBy
  refine wpAny_bind (wpAny_bind (wpAny_mkText (wpAny_holding (wpAny_bind (wpAny_typeOf (hT _) (wpAny_bind (wpAny_of_eq hlk ?_)))))))
  show wpAny _ _ (getAttrByItsOwn (.ref so) (.str name t) (.type "super") (.builtin "super.__getattribute__") true false) _ _ _
  unfold getAttrByItsOwn hookBefore callGetattribute boundAndCalled
  refine wpAny_bind (wpAny_of_eq (show (if onTheHeap (.type "super") then typeLookup (.type "super") "__getattr__" else pure none) = pure none from rfl) ?_)
  refine wpAny_bind (wpAny_attempt (wpAny_holding ?_))
  show wpAny _ _ (bindSpecial (.builtin "super.__getattribute__") (.ref so) >>= _) _ _ _
  refine wpAny_bind (wpAny_of_eq (PySem.F.ks_slot_super_ga.bind _) ?_)
  refine wpAny_mono (Q := fun v s' => v = .ref h.objs.size ∧ s' = ⟨h.push ob, g, d, t + 1, os⟩) (E := fun _ _ => False)
    (wpAny_call_entry PySem.F.ks_slot_super_ga (hT _) PySem.F.ks_entry_super_ga (super_ga hso hno hC hl X hf hxC hn hT₀ sl eg ag hb ⟨_, rfl, rfl, rfl⟩) (PySem.F.ks_gaArgs_super _ _)) (fun v s' hv => ?_) fun _ _ z => z.elim
  obtain ⟨rfl, rfl⟩ := hv
  exact wpAny_pure (wpAny_pure hq)
end
end Mine
end
noncomputable section
open PySem PySem.W PySem.Calls PyProof.Rows Mine
set_option Elab.async false
set_option maxRecDepth 100000
set_option maxHeartbeats 4000000
namespace Mine
abbrev boundO (cls id : String) (x : Addr) : Obj := { cls := .type cls, data := .fields #[.builtin id, .ref x] }
section
variable {prog : Program} {w : World} {A : Around} {E : Value → Shared → Prop} {s : Shared} {h₀ : Heap} {L : Addr} {m mg mb : Str → Option Value} {news : List (Addr × Obj)} {K : Frag} {x C D so q : Addr} {ox : Obj} {odx : Option Obj}

theorem super_bi {name : Str} {id tn gid bt : String} {bg : Builtin} {pl : Sem Bool} {Q : Value × List Value → Shared → Prop} (F : Fr h₀ L s.heap m) (X₀ : K.In h₀) (N : News h₀ L s.heap news) (hso : (so, ks_superObj D x C) ∈ news) (I : InstAt s.heap x ox C odx) (ho : nsIn K cStatics "thirdparty.any" = some none)
    (hm : ks_superIn K C D name = some (some (.builtin id))) (hn : (name == ("__class__" : Str)) = false)
    (hT₀ : typeOf (.builtin id) = pure (.type tn)) (sl : Slot tn "__get__" gid) (eg : entryFor table gid = some bg) (ag : ∀ a b c, argsOk gid ⟨[a, b, c], []⟩)
    (hb : ∀ {g d os} {A' : Around} {Q' : Fin → Shared → Prop} {E' : Value → Shared → Prop} {t' : Nat}, Q' (.done (.ret (.ref s.heap.objs.size))) ⟨s.heap.push (boundO bt id x), g, d, t', os⟩ → wpAny (model prog w) A' (bg ⟨[.builtin id, .ref x, .ref C], []⟩) Q' E' ⟨s.heap, g, d, t', os⟩)
    (h : ∀ q h', Fr h₀ L h' m → News h₀ L h' ((q, boundO bt id x) :: news) → (∀ p ∈ news, p.1 < q) → Q (.ref q, []) { s with heap := h', toks := s.toks + 1 }) : wpAny (model prog w) A (getMethod (.ref so) name pl) Q E s := by
  have X : K.In s.heap := X₀.keeps F.keep
  obtain ⟨hh, g, d, t, os⟩ := s
  cases hc : clsIn K C with
  | none => unfold ks_superIn at hm; rw [hc] at hm; cases hm
  | some cd =>
    unfold ks_superIn at hm
    rw [hc] at hm
    refine getMethod_super (N _ hso).1 (looks_opaque X ho) (l₀ := cd.mro) ?_ rfl X hm (ks_ne X I hc) hn hT₀ sl eg (ag _ _ _) hb ?_
    · exact fun A Q E s k q => wpAny_bind ((looks_clsIn X hc) A _ E s k (wpAny_pure q))
    · obtain ⟨F', N', l'⟩ := ks_newsPush (s := ⟨hh, g, d, t, os⟩) (o := boundO bt id x) F N rfl (Heap.get?_push_at rfl rfl) (fun b o e => Heap.get?_push_of_some _ e)
      exact h _ _ F' N' l'

theorem callWith_bound {bt id : String} {env : Env} {pos : Pos} {Q : Value → Shared → Prop} (N : News h₀ L s.heap news) (hq : (q, boundO bt id x) ∈ news) (hb : (Value.type bt != .type "method") = true) (hb2 : (Value.type bt == .type "builtin_function_or_method" || Value.type bt == .type "method-wrapper") = true)
    (h : wpAny (model prog w) A (call (.ref q) []) Q E s) : wpAny (model prog w) A (callWith pos (.ref q) [] (backTo pos (starEach [] env)) []) Q E s := by
  refine callWith_of (P := fun h => h.get? q = some (boundO bt id x)) rfl (fun h hh => ⟨.machine, .inr (.inl rfl), ?_⟩) (evalArgs_nil3 ⟨(N _ hq).1, h⟩)
  refine (Looks.ld (part := none) hh).andThen ?_
  show Looks _ _ (if (Value.type bt != .type "method") = true then _ else _) _
  rw [if_pos hb, if_pos hb2]
  exact .now

theorem call_bound {bt id : String} {b : Builtin} {Q : Value → Shared → Prop} (N : News h₀ L s.heap news) (hq : (q, boundO bt id x) ∈ news) (hb : (Value.type bt != .type "method") = true)
    (hb2 : (Value.type bt == .type "method" || Value.type bt == .type "builtin_function_or_method" || Value.type bt == .type "method-wrapper") = true)
    (hck : ∀ {A' : Around} {Q' : Unit → Shared → Prop} {E' : Value → Shared → Prop}, Q' () s → wpAny (model prog w) A' (checkBoundCall id ⟨[.ref x], []⟩) Q' E' s) (hp : plainId id = true) (eb : entryFor table id = some b)
    (h : wpAny (model prog w) A.in1 (b ⟨[.ref x], []⟩) (fun fin s' => ∃ v, fin = .done (.ret v) ∧ Q v s') E s) : wpAny (model prog w) A (call (.ref q) []) Q E s := by
  refine wpAny_call (codeAny_of_tree ?_)
  show wpAny _ A.in1 (callAny (.ref q) ⟨[], []⟩) _ _ _
  unfold callAny
  refine wpAny_bind (wpAny_load (N _ hq).1 ?_)
  dsimp only
  rw [if_pos hb2]
  show wpAny _ _ (if (Value.type bt != .type "method") = true then _ else _) _ _ _
  rw [if_pos hb]
  refine wpAny_bind (hck (wpAny_pure ⟨plainId_quiet hp _, codeAny_builtin eb ?_⟩))
  rw [Around.under_plainId hp _]
  exact wpAny_mono h (fun fin s' h' => by obtain ⟨v, rfl, hv⟩ := h'; exact hv) fun _ _ z => z
end
end Mine
end
noncomputable section
open PySem PySem.W PySem.Calls PyProof.Rows Mine
set_option Elab.async false
set_option maxRecDepth 100000
set_option maxHeartbeats 4000000
namespace Mine
theorem bound_len (v : Value) : checkBoundCall "list.__len__" ⟨[v], []⟩ = pure () := by kernel_rfl
theorem bound_init (v : Value) : checkBoundCall "list.__init__" ⟨[v], []⟩ = pure () := by kernel_rfl
theorem entry_len : entryFor table "list.__len__" = some Builtin.«list.__len__» := entryFor_of_tree (by kernel_rfl)
theorem entry_init : entryFor table "list.__init__" = some Builtin.«list.__init__» := entryFor_of_tree (by kernel_rfl)
section
variable {prog : Program} {w : World} {A : Around} {E : Value → Shared → Prop} {s : Shared} {h₀ : Heap} {L : Addr} {m mg mb : Str → Option Value} {news : List (Addr × Obj)} {K : Frag} {x C D so q dx : Addr} {ox : Obj} {odx : Option Obj}
theorem bi_len {o : Obj} {xs : Array Value} {n : Nat} {Q : Value → Shared → Prop} (ho : s.heap.get? x = some o) (hd : o.data = .seq xs n) (hf : xs.size ≤ sizeLine) (h : Q (.int xs.size s.toks) { s with toks := s.toks + 1 }) :
    wpAny (model prog w) A (Builtin.«list.__len__» ⟨[.ref x], []⟩) (fun fin s' => ∃ v, fin = .done (.ret v) ∧ Q v s') E s := by
  unfold Builtin.«list.__len__»
  refine wpAny_bind (wpAny_of_eq (a := (.ref x, [])) (by rfl) ?_)
  dsimp only
  repeat (first | (with_reducible refine wpAny_loadPart ho ?_) | wp_step | dsimp only)
  rw [hd]
  refine wpAny_pure ?_
  repeat wp_step
  exact ⟨_, rfl, h⟩
theorem super_len {pl : Sem Bool} {Q : Value × List Value → Shared → Prop} (F : Fr h₀ L s.heap m) (X₀ : K.In h₀) (N : News h₀ L s.heap news) (hso : (so, ks_superObj D x C) ∈ news) (I : InstAt s.heap x ox C odx) (ho : nsIn K cStatics "thirdparty.any" = some none)
    (hm : ks_superIn K C D "__len__" = some (some (.builtin "list.__len__"))) (hl : mroIn K C (.type "list") = some true)
    (h : ∀ q h', Fr h₀ L h' m → News h₀ L h' ((q, boundO "method-wrapper" "list.__len__" x) :: news) → (∀ p ∈ news, p.1 < q) → Q (.ref q, []) { s with heap := h', toks := s.toks + 1 }) : wpAny (model prog w) A (getMethod (.ref so) "__len__" pl) Q E s :=
  super_bi F X₀ N hso I ho hm (by decide) Mine.F.ty_len Mine.F.slot_wd_get Mine.F.entry_wd_get Mine.F.wdArgs (fun hq => wd_get I.at_ I.cls (looks_mroIn (X₀.keeps F.keep) hl) (.inl rfl) hq) h
theorem super_init {pl : Sem Bool} {Q : Value × List Value → Shared → Prop} (F : Fr h₀ L s.heap m) (X₀ : K.In h₀) (N : News h₀ L s.heap news) (hso : (so, ks_superObj D x C) ∈ news) (I : InstAt s.heap x ox C odx) (ho : nsIn K cStatics "thirdparty.any" = some none)
    (hm : ks_superIn K C D "__init__" = some (some (.builtin "list.__init__"))) (hl : mroIn K C (.type "list") = some true)
    (h : ∀ q h', Fr h₀ L h' m → News h₀ L h' ((q, boundO "method-wrapper" "list.__init__" x) :: news) → (∀ p ∈ news, p.1 < q) → Q (.ref q, []) { s with heap := h', toks := s.toks + 1 }) : wpAny (model prog w) A (getMethod (.ref so) "__init__" pl) Q E s :=
  super_bi F X₀ N hso I ho hm (by decide) Mine.F.ty_init Mine.F.slot_wd_get Mine.F.entry_wd_get Mine.F.wdArgs (fun hq => wd_get I.at_ I.cls (looks_mroIn (X₀.keeps F.keep) hl) (.inr rfl) hq) h
theorem call_len {its : List Value} {n : Nat} {Q : Value → Shared → Prop} (N : News h₀ L s.heap news) (hq : (q, boundO "method-wrapper" "list.__len__" x) ∈ news) (hm : (x, pileO C dx its n) ∈ news) (hf : its.length ≤ sizeLine)
    (h : Q (.int its.length s.toks) { s with toks := s.toks + 1 }) : wpAny (model prog w) A (call (.ref q) []) Q E s :=
  call_bound N hq (by decide) (by decide) (fun hq => wpAny_of_eq (bound_len _) hq) (by decide +kernel) entry_len (bi_len (N _ hm).1 rfl (by simpa using hf) (by simpa using h))
theorem callWith_wrap {id : String} {env : Env} {pos : Pos} {Q : Value → Shared → Prop} (N : News h₀ L s.heap news) (hq : (q, boundO "method-wrapper" id x) ∈ news)
    (h : wpAny (model prog w) A (call (.ref q) []) Q E s) : wpAny (model prog w) A (callWith pos (.ref q) [] (backTo pos (starEach [] env)) []) Q E s := callWith_bound N hq (by decide) (by decide) h
end
end Mine
end
noncomputable section
open PySem PySem.W PySem.Calls PyProof.Rows Mine
set_option Elab.async false
set_option maxRecDepth 100000
set_option maxHeartbeats 4000000
namespace Mine
def makesL (K : Frag) (C : Addr) : Bool := match K.lookup C with
  | some ⟨_, _, .cls cd, sl⟩ => !cd.abstract && !cd.hasDel && (sl.toList[4]?).join == some (.builtin "list.__new__") && !cd.mro.isEmpty && cd.mro.contains (.ref C) && cd.mro.contains (.type "list") &&
      specialIn K (.ref C) "__call__" == some (some (.builtin "type.__call__")) && instIn K (.ref C) (.type "type") == some true
  | _ => false
structure MakesL (M : Model) (h : Heap) (C : Addr) : Prop where
  obj : ∃ oc od cd sl, h.get? C = some ⟨oc, od, .cls cd, sl⟩ ∧ cd.abstract = false ∧ cd.hasDel = false ∧ cd.mro.isEmpty = false
  made : Looks M h (Bind.madeBy (.ref C)) (some "list.__new__")
  base : Looks M h (Bind.staticBase (.ref C)) (.ref C)
  self : Looks M h (isSubtype (.ref C) (.ref C)) true
  top : Looks M h (isSubtype (.ref C) (.type "list")) true
  call : Looks M h (specialOf (.ref C) "__call__") (some (.builtin "type.__call__"))
  typ : Looks M h (isInstance (.ref C) (.type "type")) true
theorem makesL_of {K : Frag} {M : Model} {h : Heap} (X : K.In h) {C : Addr} (e : makesL K C = true) : MakesL M h C := by
  unfold makesL at e
  split at e
  · rename_i oc od cd sl ho
    simp only [Bool.and_eq_true, Bool.not_eq_true', beq_iff_eq] at e
    obtain ⟨⟨⟨⟨⟨⟨⟨e1, e2⟩, e3⟩, e4⟩, e5⟩, e6⟩, e7⟩, e8⟩ := e
    have hc : clsIn K C = some cd := by unfold clsIn; rw [ho]
    have hm : Looks M h (mroOf (.ref C)) cd.mro := (looks_clsIn X hc).andThen .now
    obtain ⟨c, l, hl⟩ : ∃ c l, cd.mro = c :: l := by cases q : cd.mro with | nil => rw [q] at e4; cases e4 | cons c l => exact ⟨c, l, rfl⟩
    have made : Looks M h (Bind.madeBy (.ref C)) (some "list.__new__") := by
      intro A Q E s k q
      unfold Bind.madeBy
      refine wpAny_bind (hm A _ E s k ?_)
      rw [hl, List.forIn_cons]
      refine wpAny_bind (wpAny_bind (wpAny_bind (wpAny_bind (wpAny_loadPart (k _ _ (X _ _ ho)) (wpAny_pure ?_)))))
      dsimp only
      rw [← Array.getElem?_toList, e3]
      exact wpAny_pure (wpAny_pure (wpAny_pure q))
    refine ⟨⟨oc, od, cd, sl, X _ _ ho, e1, e2, e4⟩, made, ?_, looks_mroIn X ?_, looks_mroIn X ?_, looks_specialIn X e7, looks_instIn X e8⟩
    · intro A Q E s k q
      unfold Bind.staticBase
      refine wpAny_bind (hm A _ E s k ?_)
      rw [hl, List.forIn_cons]
      exact wpAny_bind (wpAny_bind (wpAny_bind (made A _ E s k (wpAny_pure (wpAny_pure (wpAny_pure q))))))
    · unfold mroIn; rw [hc, Option.bind_some, if_neg (by rw [e4]; decide), e5]
    · unfold mroIn; rw [hc, Option.bind_some, if_neg (by rw [e4]; decide), e6]
  · cases e
theorem ln_kind : builtinKind "list.__new__" = some .builtinFn := by decide +kernel
theorem ln_split : splitId "list.__new__" = some ("list", "__new__") := by decide +kernel
section
variable {prog : Program} {w : World} {A : Around} {K : Frag} {C : Addr} {R : Result → Shared → Prop} {h : Heap} {g : Array GenState} {d : Drawn} {t : Nat} {os : OsState}
theorem new_pile (Y : MakesL (model prog w) h C)
    (hq : R (.ok (.ret (.ref (h.objs.size + 1)))) ⟨(h.push emptyDict).push (pileO C h.objs.size [] 0), g, d, t, os⟩) :
    codeAny (model prog w) A (.call (.builtin "list.__new__") ⟨[.ref C], []⟩) R ⟨h, g, d, t, os⟩ := by
  obtain ⟨⟨oc, od, cd, sl, hC, e1, e2, e4⟩, made, base, self, top, call, typ⟩ := Y
  refine codeAny_call_builtin_code (plainId_quiet PySem.F.plain_list_new _) ?_
  have hk := ln_kind
  have hs := ln_split
  have isT : ∀ {A' : Around} {Q : Bool → Shared → Prop} {E : Value → Shared → Prop}, Q true ⟨h, g, d, t, os⟩ → wpAny (model prog w) A' (isType (.ref C)) Q E ⟨h, g, d, t, os⟩ := fun q => ks_wpAny_isType_cls hC rfl q
  simp only [checkBuiltinCall, hk, hs]
  repeat (first | (with_reducible refine isT ?_) | simp only [bne_self_eq_false, Bool.false_eq_true, if_false] | lk)
  refine codeAny_builtin_stack PySem.F.entry_list_new rfl fun p st => ?_
  have hown := owner_list_new
  simp only [hown]
  have fin : ∀ A', wpAny (model prog w) A' (do
      let .ref d ← newDict | unsupported "internal:list.__new__"
      ret (← newObj (.ref C) (.seq #[]) (some d))) (fun fin s' => match fin with | .done f => R (.ok f) s' | .again c' => c'.quiet = true ∧ codeAny (model prog w) A c' R s') (fun e s' => R (.error e) s') ⟨h, g, d, t, os⟩ := by
    intro A'
    refine wpAny_bind (wpAny_newObj_type ?_ (by size_fits))
    dsimp only
    refine wpAny_bind ?_
    show wpAny _ _ (newObjAsIs _ _ _) _ _ _
    unfold newObjAsIs classHasDel
    refine wpAny_bind (wpAny_alloc (wpAny_bind (wpAny_bind (wpAny_load (Heap.get?_push_of_some _ (Heap.get?_push_of_some _ hC)) (wpAny_pure ?_)))))
    rw [e2]
    refine wpAny_pure (wpAny_pure ?_)
    show R _ _
    rw [Heap.size_push]
    exact hq
  repeat (first | exact fin _ | (with_reducible refine isT ?_) | simp only [bne_self_eq_false, Bool.false_eq_true, if_false] | lk)

theorem make_coreL {init : Value} (Y : MakesL (model prog w) h C) (hi : Looks (model prog w) h (typeLookup (.ref C) "__init__") (some init))
    (hb : ∀ self, Looks (model prog w) h (bindSpecial init self) (init, [self]))
    (hq : codeAny (model prog w) (A.under (.builtin "type.__call__" ⟨[.ref C], []⟩)) (.call init ⟨[.ref (h.objs.size + 1)], []⟩) (InitBack (h.objs.size + 1) R) ⟨(h.push emptyDict).push (pileO C h.objs.size [] 0), g, d, t, os⟩) :
    codeAny (model prog w) A (.call (.ref C) ⟨[], []⟩) R ⟨h, g, d, t, os⟩ := by
  have Y' := Y
  obtain ⟨⟨oc, od, cd, sl, hC, e1, e2, e4⟩, made, base, self, top, call, typ⟩ := Y
  refine codeAny_of_tree ?_
  show wpAny _ _ (callAny (.ref C) _) _ _ _
  refine nd_load hC ?_
  show wpAny _ _ (callAny.viaDunder (.ref C) _) _ _ _
  unfold callAny.viaDunder
  refine wpAny_bind (call.at ?_)
  dsimp only
  rw [tc_bind]
  refine wpAny_bind (wpAny_pure (wpAny_bind (wpAny_pure ?_)))
  refine wpAny_pure (a := Fin.again (.call (.builtin "type.__call__") ⟨[.ref C], []⟩)) (And.intro rfl ?_)
  refine codeAny_call_builtin_at (Code.quiet_builtin _ (by decide +kernel)) entry_typeCall (check_slot tc_kind tc_split typ (tc_args _ _ _) ?_)
  unfold Builtin.«type.__call__»
  have hm : Looks (model prog w) h (mroOf (.ref C)) cd.mro := ((Looks.ld (part := none) hC).andThen .now).andThen .now
  repeat (first | simp only [e4, Bool.false_eq_true, if_false] | with_reducible refine wpAny_call ?_ | lk)
  refine new_pile Y' ?_
  have k : ∀ b o, h.get? b = some o → ((h.push emptyDict).push (pileO C h.objs.size [] 0)).get? b = some o := fun b o e => Heap.get?_push_of_some _ (Heap.get?_push_of_some _ e)
  have hx : ((h.push emptyDict).push (pileO C h.objs.size [] 0)).get? (h.objs.size + 1) = some (pileO C h.objs.size [] 0) := by heap_get
  have t1 : Looks (model prog w) ((h.push emptyDict).push (pileO C h.objs.size [] 0)) (typeOf (.ref (h.objs.size + 1))) (.ref C) := (Looks.ld hx).andThen .now
  have s1 := self.keeps k
  have i1 := hi.keeps k
  have b1 := (hb (.ref (h.objs.size + 1))).keeps k
  unfold isInstance callSpecial? specialOf
  repeat (first | with_reducible refine wpAny_call ?_ | lk)
  refine codeAny_mono hq fun r s' z => ?_
  rcases r with e | (v | _ | _ | _) <;> first | exact z | exact z.elim | skip
  obtain ⟨rfl, z⟩ := z
  exact wpAny_pure (wpAny_pure z)
end
section
variable {prog : Program} {w : World} {A : Around} {E : Value → Shared → Prop} {K : Frag} {C x : Addr} {s : Shared} {h₀ : Heap} {L : Addr} {m : Str → Option Value} {news : List (Addr × Obj)} {Q : Value → Shared → Prop}
theorem call_pile {fI : Addr} (F : Fr h₀ L s.heap m) (X₀ : K.In h₀) (N : News h₀ L s.heap news) (hm : makesL K C = true)
    (hi : findIn K (.ref C) "__init__" = some (some (.ref fI))) (hf : isFn K (.ref fI) = true)
    (h : ∀ x dx h', Fr h₀ L h' m → News h₀ L h' ((x, pileO C dx [] 0) :: (dx, dictOf [] 0) :: news) → (∀ p ∈ news, p.1 < dx) → dx < x →
      codeAny (model prog w) (A.under (.builtin "type.__call__" ⟨[.ref C], []⟩)) (.call (.ref fI) ⟨[.ref x], []⟩) (InitBack x fun r s' => match r with | .ok (.ret v) => Q v s' | .ok _ => False | .error e => E e s') { s with heap := h' }) :
    wpAny (model prog w) A (call (.ref C) [] []) Q E s := by
  have X := X₀.keeps F.keep
  obtain ⟨hh, g, d, t, os⟩ := s
  refine wpAny_call (make_coreL (makesL_of X hm) (looks_findIn X hi) (fun self => bind_fn X self (beq_iff_eq.mp hf)) (h _ hh.objs.size _ ((F.push _).push _) ?_ (fun p hp => Heap.lt_size (N p hp).1) (Nat.lt_succ_self _)))
  have := (N.push F emptyDict).push (F.push _) (pileO C hh.objs.size [] 0)
  rwa [Heap.size_push] at this
end
end Mine
end
noncomputable section
open PySem PySem.W PySem.Calls PyProof.Rows Mine Builtin Builtin.ObjectAttr Builtin.Getset_descriptor
set_option Elab.async false
set_option maxRecDepth 100000
set_option maxHeartbeats 4000000
namespace Mine
theorem refuse_list (self : Value) : refuseLoop self "__setattr__" [.type "list", .type "object"] = pure () := by kernel_rfl
section
variable {prog : Program} {w : World} {A : Around} {E : Value → Shared → Prop} {K : Frag} {C x : Addr} {s : Shared} {h₀ : Heap} {L : Addr} {m : Str → Option Value} {news : List (Addr × Obj)} {R : Result → Shared → Prop}
theorem osa_pile {dx : Addr} {its : List Value} {n : Nat} {name : Str} {tk : Tok} {v : Value} {cd : ClassData} (F : Fr h₀ L s.heap m) (N : News h₀ L s.heap news) (X : K.In s.heap) (hm : (x, pileO C dx its n) ∈ news) (hdm : (dx, dictOf [] 0) ∈ news)
    (hc : clsIn K C = some cd) (hmr : cd.mro = [.ref C, .type "list", .type "object"]) (hh : cd.hasDict = true) (ht : findIn K (.ref C) name = some none)
    (h : ∀ h' tk', Fr h₀ L h' m → News h₀ L h' (setAt dx (dictOf [⟨PyData.keyHash w.params name, .str name tk', v⟩] 1) news) → R (.ok (.ret .none)) { s with heap := h', toks := s.toks + 1 }) :
    codeAny (model prog w) A (.call (.builtin "object.__setattr__") ⟨[.ref x, .str name tk, v], []⟩) R s := by
  have SF := PySem.F.store_object
  have I := pileInst N hm hdm
  have sub : Looks (model prog w) s.heap (isInstance (.ref x) (.type "object")) true := I.type.andThen (looks_mroIn X (by unfold mroIn; rw [hc, Option.bind_some, hmr]; rfl))
  refine codeAny_call_builtin SF.slot.plain SF.entry (@check_slot (model prog w) _ _ s "object.__setattr__" "object" "__setattr__" (.ref x) [.str name tk, v] [] _ SF.kind SF.split sub (SF.args (.ref x) (.str name tk) v) ?_)
  have hml : Looks (model prog w) s.heap (mroOf (.ref C)) cd.mro := (looks_clsIn X hc).andThen .now
  rw [osa_eq, refuse_eq]
  refine wpAny_bind (wpAny_bind (I.type.here (wpAny_bind (hml.here ?_))))
  rw [hmr, refuseLoop_ref, refuse_list]
  refine wpAny_pure (wpAny_bind (I.type.here (wpAny_bind ((looks_findIn X ht).here (wpAny_bind (wpAny_pure ?_))))))
  have D := (N _ hdm).1
  refine wpAny_bind (wpAny_pure (wpAny_bind (wpAny_bind (wpAny_loadPart I.at_ (wpAny_bind ((looks_clsIn X hc).here ?_))))))
  rw [hh]
  refine wpAny_pure (a := some dx) (wpAny_bind (wpAny_pure (wpAny_bind ?_)))
  unfold nsSet
  refine wpAny_bind (wpAny_bind (wpAny_askSetting (wpAny_pure (wpAny_bind (wpAny_mkText (wpAny_bind (wpAny_loadPart D ?_)))))))
  dsimp only
  have hp : Obj.putName name (PyData.keyHash w.params name) (.str name s.toks) v (dictOf [] 0) = dictOf [⟨PyData.keyHash w.params name, .str name s.toks, v⟩] 1 := by rw [putName_dict]; rfl
  rw [aRefKeyMayBeTheName_at]
  rw [if_neg (by simp)]
  refine wpAny_updatePart D ?_
  have hs : Heap.SameBut dx s.heap (s.heap.update dx (Obj.putName name (PyData.keyHash w.params name) (.str name s.toks) v)) := Heap.SameBut.update ..
  have D' : (s.heap.update dx (Obj.putName name (PyData.keyHash w.params name) (.str name s.toks) v)).get? dx = some (dictOf [⟨PyData.keyHash w.params name, .str name s.toks, v⟩] 1) := by
    rw [Heap.get?_update_self _ D (by dsimp only; rw [hp]; rfl)]
    dsimp only
    rw [hp]
  refine wpAny_bind (wpAny_lookBehind D' (pastItsLine_dict (by rw [List.size_toArray, sizeLine_eq]; simp)) ?_)
  exact wpAny_pure (h _ _ (F.change hs (N _ hdm).2.1 (N _ hdm).2.2) (news_setAt N hdm hs D'))
theorem set_pile {dx : Addr} {its : List Value} {n : Nat} {name : Str} {v : Value} {cd : ClassData} {Q : Unit → Shared → Prop} (F : Fr h₀ L s.heap m) (X₀ : K.In h₀) (N : News h₀ L s.heap news) (hm : (x, pileO C dx its n) ∈ news) (hdm : (dx, dictOf [] 0) ∈ news)
    (hs : findIn K (.ref C) "__setattr__" = some (some (.builtin "object.__setattr__"))) (hc : clsIn K C = some cd) (hmr : cd.mro = [.ref C, .type "list", .type "object"]) (hh : cd.hasDict = true) (ht : findIn K (.ref C) name = some none)
    (h : ∀ h' tk', Fr h₀ L h' m → News h₀ L h' (setAt dx (dictOf [⟨PyData.keyHash w.params name, .str name tk', v⟩] 1) news) → Q () { s with heap := h', toks := s.toks + 2 }) :
    wpAny (model prog w) A (setAttr (.ref x) name v) Q E s :=
  set_plain (X₀.keeps F.keep) (pileInst N hm hdm) hs (osa_pile (s := { s with toks := s.toks + 1 }) F N (X₀.keeps F.keep) hm hdm hc hmr hh ht fun h' tk' F' N' => h h' tk' F' N')
theorem bi_init {dx : Addr} {its : List Value} {n : Nat} {Q : Value → Shared → Prop} (F : Fr h₀ L s.heap m) (N : News h₀ L s.heap news) (hm : (x, pileO C dx its n) ∈ news) (hz : its.length ≤ sizeLine)
    (h : ∀ h' n', Fr h₀ L h' m → News h₀ L h' (setAt x (pileO C dx [] n') news) → Q .none { s with heap := h' }) :
    wpAny (model prog w) A (Builtin.«list.__init__» ⟨[.ref x], []⟩) (fun fin s' => ∃ v, fin = .done (.ret v) ∧ Q v s') E s := by
  have z := N _ hm
  unfold Builtin.«list.__init__»
  simp only [List.isEmpty_nil, Bool.not_true, Bool.false_eq_true, if_false, List.length_nil, Nat.not_lt_zero, gt_iff_lt]
  unfold Builtin.List.listItems
  refine wpAny_bind (wpAny_bind (wpAny_seqItems z.1 rfl (wpAny_pure ?_)))
  show wpAny _ _ (updateSeq x _ >>= _) _ _ _
  refine wpAny_bind (wpAny_updateSeq z.1 rfl (wpAny_bind (wpAny_letGo (wpAny_pure ⟨.none, rfl, h _ (if (#[] : Array Value).size == its.toArray.size then n else n + 1) (F.change (Heap.SameBut.update ..) z.2.1 z.2.2) (news_setAt N hm (Heap.SameBut.update ..) ?_)⟩))) (by simpa using hz) (by simp))
  rw [Heap.get?_update_self _ z.1 (by simp [Obj.mapSeq, Obj.isFreed])]
  show some (Obj.mapSeq _ _) = _
  unfold Obj.mapSeq
  rfl
theorem call_init {q dx : Addr} {its : List Value} {n : Nat} {Q : Value → Shared → Prop} (F : Fr h₀ L s.heap m) (N : News h₀ L s.heap news) (hq : (q, boundO "method-wrapper" "list.__init__" x) ∈ news) (hm : (x, pileO C dx its n) ∈ news) (hf : its.length ≤ sizeLine)
    (h : ∀ h' n', Fr h₀ L h' m → News h₀ L h' (setAt x (pileO C dx [] n') news) → Q .none { s with heap := h' }) : wpAny (model prog w) A (call (.ref q) []) Q E s :=
  call_bound N hq (by decide) (by decide) (fun hq => wpAny_of_eq (bound_init _) hq) (by decide +kernel) entry_init (bi_init F N hm hf h)

theorem news_dict2 {h : Heap} {dx : Addr} {o od ox : Obj} (N : News h₀ L h (setAt dx o ((x, ox) :: (dx, od) :: news))) (hl : ∀ p ∈ news, p.1 < dx) (hx : dx < x) : News h₀ L h ((x, ox) :: (dx, o) :: news) := by
  intro p hp
  rcases List.mem_cons.mp hp with e | hp
  · subst e; exact N _ (setAt_mem (List.Mem.head _) (Nat.ne_of_gt hx))
  · rcases List.mem_cons.mp hp with e | hp
    · subst e; exact N _ (setAt_self (o' := od) (List.Mem.tail _ (List.Mem.head _)))
    · exact N _ (setAt_mem (List.Mem.tail _ (List.Mem.tail _ hp)) (Nat.ne_of_lt (hl p hp)))
theorem news_make {h : Heap} {dx : Addr} {o od ox : Obj} {q1 q2 : Addr × Obj} (N : News h₀ L h (setAt x o (q1 :: q2 :: (x, ox) :: (dx, od) :: news))) (hl : ∀ p ∈ news, p.1 < dx) (hx : dx < x) : News h₀ L h ((x, o) :: (dx, od) :: news) := by
  intro p hp
  rcases List.mem_cons.mp hp with e | hp
  · subst e; exact N _ (setAt_self (o' := ox) (List.Mem.tail _ (List.Mem.tail _ (List.Mem.head _))))
  · rcases List.mem_cons.mp hp with e | hp
    · subst e; exact N _ (setAt_mem (List.Mem.tail _ (List.Mem.tail _ (List.Mem.tail _ (List.Mem.head _)))) (Nat.ne_of_lt hx))
    · exact N _ (setAt_mem (List.Mem.tail _ (List.Mem.tail _ (List.Mem.tail _ (List.Mem.tail _ hp)))) (Nat.ne_of_lt (Nat.lt_trans (hl p hp) hx)))
end
end Mine
end
noncomputable section
open PySem PySem.W PySem.Calls PyProof.Rows Mine
set_option Elab.async false
set_option maxRecDepth 100000
set_option maxHeartbeats 4000000
namespace Mine
/-- a sequence's items, whatever its class -/
def SeqAt (h : Heap) (l : Addr) (items : Array Value) : Prop := ∃ o n, h.get? l = some o ∧ o.data = .seq items n
theorem SeqAt.at {h h' : Heap} {l : Addr} {items : Array Value} (x : SeqAt h l items) (e : ∀ o, h.get? l = some o → h'.get? l = some o) : SeqAt h' l items :=
  let ⟨o, n, a, b⟩ := x; ⟨o, n, e o a, b⟩
section
variable {prog : Program} {w : World} {A : Around} {E : Value → Shared → Prop} {s : Shared} {K : Frag} {x C : Addr} {ox : Obj} {od : Option Obj}

theorem next_item {it l : Addr} {i : Nat} {items : Array Value} {v : Value} {Q : Option Value → Shared → Prop} (hit : s.heap.IsListIter it l i) (hl : SeqAt s.heap l items) (hx : items[i]? = some v)
    (hQ : ∀ h', h'.IsListIter it l (i + 1) → Heap.SameBut it s.heap h' → Q (some v) { s with heap := h' }) : wpAny (model prog w) A (pyNext (.ref it)) Q E s := by
  obtain ⟨o, ho, hc, hd⟩ := id hit
  obtain ⟨ol, nl, hol, hdl⟩ := hl
  unfold pyNext
  refine wpAny_bind (wpAny_attempt (wpAny_callSpecial?_slot (name := Str.ofString "__next__") hit.typeIs slot_listiter_next (wpAny_call_entry slot_listiter_next hit.typeIs entry_listiter_next ?_ (args_listiter_next _))))
  show wpAny _ _ (field (.ref it) 0 >>= _) _ _ s
  refine wpAny_bind (wpAny_field ho hd (x := .ref l) rfl ?_)
  rw [if_neg (show ¬ ((Value.ref l == Value.none) = true) from Bool.false_ne_true)]
  refine wpAny_bind (wpAny_field ho hd (x := .int i 0) rfl ?_)
  refine wpAny_bind (wpAny_seqItems hol hdl ?_)
  simp only [Int.toNat_natCast, hx]
  refine wpAny_bind (wpAny_setField ho hd (by simp) (wpAny_pure ⟨v, rfl, wpAny_pure (hQ _ ⟨_, Heap.get?_update_self _ ho (Obj.isFreed_of_fields (Obj.data_mapFields hd _)), (Obj.cls_mapFields ..).trans hc, ?_⟩ (Heap.SameBut.update ..))⟩))
  rw [Obj.data_mapFields hd]; simp [rawInt]

theorem next_end {it l : Addr} {i : Nat} {items : Array Value} {Q : Option Value → Shared → Prop} (hh : A.handled = none) (hit : s.heap.IsListIter it l i) (hl : SeqAt s.heap l items) (hx : items[i]? = none)
    (hQ : ∀ h', Heap.ExtBut it s.heap h' → Q none { s with heap := h' }) : wpAny (model prog w) A (pyNext (.ref it)) Q E s := by
  obtain ⟨o, ho, hc, hd⟩ := id hit
  obtain ⟨ol, nl, hol, hdl⟩ := hl
  unfold pyNext
  refine wpAny_bind (wpAny_attempt (wpAny_callSpecial?_slot (name := Str.ofString "__next__") hit.typeIs slot_listiter_next (wpAny_call_entry slot_listiter_next hit.typeIs entry_listiter_next ?_ (args_listiter_next _))))
  show wpAny _ _ (field (.ref it) 0 >>= _) _ _ s
  refine wpAny_bind (wpAny_field ho hd (x := .ref l) rfl ?_)
  rw [if_neg (show ¬ ((Value.ref l == Value.none) = true) from Bool.false_ne_true)]
  refine wpAny_bind (wpAny_field ho hd (x := .int i 0) rfl ?_)
  refine wpAny_bind (wpAny_seqItems hol hdl ?_)
  simp only [Int.toNat_natCast, hx]
  refine wpAny_bind (wpAny_rule (wpAny_bind (wpAny_setField ho hd (by simp) ?_)))
  show wpAny _ _ (newExc (.type "StopIteration") [] >>= _) _ _ _
  refine wpAny_bind ?_
  simp only [newExc, newTuple]
  refine wpAny_bind (wpAny_newObj_type ?_ (by size_fits))
  refine wpAny_bind (m := firstArgMember _ _) (wpAny_of_eq (a := Value.none) (by first | rfl | (simp only [firstArgMember]; rfl)) ?_)
  refine wpAny_newObj_type ?_ (by size_fits)
  simp only [raiseNew]
  refine wpAny_bind (wpAny_handled ?_)
  rw [show A.in1.handled = none from hh]
  refine wpAny_bind (wpAny_pure (wpAny_throw ?_))
  refine wpAny_bind (wpAny_isInstance (T := "StopIteration") (b := true) ⟨_, Heap.get?_push_size _ rfl, rfl⟩ isSubtype_stop ?_)
  exact wpAny_pure (hQ _ (((Heap.SameBut.update ..).extBut.push _).push _))

theorem walks_pile (hh : A.handled = none) (I ax : Addr) (hne : ax ≠ I) (items : Array Value) (Ts : Nat → Addr) (vals : Nat → Array Value)
    (hit : ∀ j, j < items.size → items[j]? = some (.ref (Ts j))) (hTI : ∀ j, j < items.size → Ts j ≠ I) :
    WalksU prog w A I (I :: ax :: (List.range items.size).map Ts) [I] items.size (fun j v => v = vals j)
      (fun j h => h.IsListIter I ax j ∧ SeqAt h ax items ∧ ∀ k, k < items.size → h.IsTuple (Ts k) (vals k))
      (fun j T h => (j < items.size ∧ T = Ts j) ∧ h.IsListIter I ax (j + 1) ∧ SeqAt h ax items ∧ ∀ k, k < items.size → h.IsTuple (Ts k) (vals k)) where
  sub := fun b hb => by simp at hb; simp [hb]
  frame := fun _ _ _ st hk => ⟨st.1.at fun o e => hk I (by simp) o e, st.2.1.at fun o e => hk ax (by simp) o e,
    fun k hk' => (st.2.2 k hk').at fun o e => hk (Ts k) (List.mem_cons_of_mem _ (List.mem_cons_of_mem _ (List.mem_map.mpr ⟨k, List.mem_range.mpr hk', rfl⟩))) o e⟩
  item := fun i s Q E hi st hQ => by
    refine next_item st.1 st.2.1 (v := .ref (Ts i)) (hit i hi) fun h' hit' hs' => ?_
    have tup : ∀ k, k < items.size → h'.IsTuple (Ts k) (vals k) := fun k hk' => (st.2.2 k hk').extBut hs'.extBut (hTI k hk')
    exact hQ (Ts i) (vals i) h' s.toks rfl (tup i hi) ⟨⟨hi, rfl⟩, hit', st.2.1.at fun o e => hs'.extBut _ _ hne e, tup⟩ fun b o hb e => hs'.extBut b o (fun h => hb (by simp [h])) e
  go := fun _ _ _ _ _ s Q _ hm hQ => wpAny_letOwnedTupleGo_listiter hm.2.1 (hQ s.heap hm.2 fun _ _ _ e => e)
  apart := fun j T _ hm hmem => by
    rcases List.mem_cons.mp hmem with e | e
    · exact hTI j hm.1.1 (hm.1.2 ▸ e)
    · cases e
  done := fun s Q E st hQ => next_end hh st.1 st.2.1 (by simp) fun h' he' => hQ h' s.toks fun b o hb e => he' b o (fun h => hb (by simp [h])) e
  self := fun _ _ _ _ st hQ => wpAny_pyIter_listiter st.1 hQ

theorem pile_iter {Q : Value → Shared → Prop} (X : K.In s.heap) (I : InstAt s.heap x ox C od) (hl : mroIn K C (.type "list") = some true) (hf : findIn K (.ref C) "__iter__" = some (some (.builtin "list.__iter__")))
    (hQ : Q (.ref s.heap.objs.size) { s with heap := s.heap.push { cls := .type "list_iterator", data := .fields #[.ref x, .int 0 0] } }) : wpAny (model prog w) A (pyIter (.ref x)) Q E s := by
  have sp : ∀ {A' : Around} {Q' : Option Value → Shared → Prop} {E' : Value → Shared → Prop}, Q' (some (.builtin "list.__iter__")) s → wpAny (model prog w) A' (specialOf (.ref x) "__iter__") Q' E' s :=
    fun q => wpAny_bind (I.type.here ((looks_findIn X hf).here q))
  have hb := slot_list_iter.bind (.ref x)
  unfold pyIter
  refine wpAny_bind (sp ?_)
  dsimp only
  have hc : wpAny (model prog w) A (call (.builtin "list.__iter__") [.ref x]) (fun v s' => v = .ref s.heap.objs.size ∧ s' = { s with heap := s.heap.push { cls := .type "list_iterator", data := .fields #[.ref x, .int 0 0] } }) E s := by
    refine call_sub (owner := "list") (n := "__iter__") (by decide +kernel) (by first | exact .inl (by decide +kernel) | exact .inr (by decide +kernel)) (by decide +kernel) entry_list_iter (looks_inst X I hl) (args_list_iter _) ?_
    show wpAny _ _ (do ret (← newFields "list_iterator" [.ref x, rawInt 0])) _ _ s
    exact wpAny_bind (wpAny_newObj_type (wpAny_pure ⟨_, rfl, rfl, rfl⟩))
  refine wpAny_bind (Q := Q) ?_
  simp only [callSpecialIfBoundUnlessNone?, bindSpecialIfBound?]
  refine wpAny_holding (wpAny_bind (wpAny_bind (sp ?_)))
  dsimp only
  simp only [hb]
  have fin : wpAny (model prog w) A (call (.builtin "list.__iter__") [.ref x] >>= fun v => pure (some v)) (fun a s' => wpAny (model prog w) A (match a with
    | some it => do
      match ← specialOf it "__next__" with
      | none => rule "iter.non-iterator"; raiseError "TypeError" s!"iter() returned non-iterator of type '{← typeNameOf it}'"
      | some _ => pure it
    | none => do
      match ← bindSpecialIfBound? (.ref x) "__getitem__" with
      | none => rule "iter.not-iterable"; raiseError "TypeError" s!"'{← typeNameOf (.ref x)}' object is not iterable"
      | some _ => rule "iter.getitem-fallback"; newFields "iterator" [.ref x, ← mkInt 0]) Q E s') E s := by
    refine wpAny_bind (wpAny_mono hc (fun v s' hv => wpAny_pure ?_) fun _ _ z => z)
    obtain ⟨rfl, rfl⟩ := hv
    exact wpAny_bind (wpAny_specialOf (T := "list_iterator") ⟨_, Heap.get?_push_size _ rfl, rfl⟩ slot_listiter_next.lookup (wpAny_pure hQ))
  refine wpAny_bind (wpAny_askSetting (wpAny_ite ?_))
  split
  · exact wpAny_bind (wpAny_pure (wpAny_pure fin))
  · exact wpAny_tryCatch (wpAny_bind (wpAny_pure (wpAny_pure fin)))
end
end Mine
end
noncomputable section
open PySem PySem.W PySem.Calls PyProof.Rows Mine
set_option Elab.async false
set_option maxRecDepth 100000
set_option maxHeartbeats 4000000
namespace Mine
section
variable {prog : Program} {w : World} {A : Around} {E : Value → Shared → Prop} {s : Shared}
theorem elt_join {env : Env} {pe pa pc p1 p2 pt : Pos} {m mg : Str → Option Value} {te tf tq : Tok} {f q : Str} {Q : Value → Shared → Prop} (hk : env.scope.kind = .function) (he : env.kindOf "EMPTYSTRING" = some .globalImplicit)
    (hf : env.kindOf "fws" = some .local) (hp : env.kindOf "part" = some .local) (hg : s.heap.Ns env.globals mg) (hgv : mg "EMPTYSTRING" = some (.str "" te)) (hn : s.heap.Ns env.locals m) (hfv : m "fws" = some (.str f tf)) (hpv : m "part" = some (.str q tq))
    (hz : f.length + q.length ≤ 100000) (hline : (pa.endLine == pc.line) = true)
    (h : ∀ h' tk t, (∀ b o, s.heap.get? b = some o → h'.get? b = some o) → Q (.str (Txt.join "" [f, q]) t) { s with heap := h', toks := tk }) :
    wpAny (model prog w) A (eval (.Call (.Attribute (.Name "EMPTYSTRING" pe) "join" pa) [.Tuple [.Name "fws" p1, .Name "part" p2] 0 pt] [] pc) env) Q E s := by
  refine Call_method1 rfl rfl hline ?_
  refine Name_function_global hk he (loadGlobal_global hg hgv ?_)
  refine ⟨"str", "str.join", PySem.F.plainAttrs_str, PySem.F.slot_str_join, PySem.F.type_str_join, typeIs_str _ _ _, (fun a e => nomatch e), ?_⟩
  refine callWith_builtin rfl (evalArgs_plain ?_)
  refine spliced_cons ?_
  refine Tuple_ ?_
  refine spliced_cons (wpAny_Name (wpAny_loadName_local hk hf hn hfv ?_) (by decide))
  refine spliced_cons (wpAny_Name (wpAny_loadName_local hk hp hn hpv ?_) (by decide))
  refine spliced_nil (wpAny_newObj_type (spliced_nil ?_) (by size_fits))
  have ht : IsTup (s.heap.push { cls := .type "tuple", data := .seq #[.str f tf, .str q tq] }) s.heap.objs.size #[.str f tf, .str q tq] := ⟨_, Heap.get?_push_size _ rfl, rfl, _, rfl⟩
  refine join_tupleW ht (.cons _ _ (.cons _ _ .nil)) (by decide) (by simp; omega) fun t' k => ?_
  exact h _ _ _ fun b o e => Heap.get?_push_of_some _ e
end
end Mine
end
noncomputable section
open PySem PySem.W PySem.Calls PyProof.Rows Mine
set_option Elab.async false
set_option maxRecDepth 100000
set_option maxHeartbeats 4000000
namespace Mine
section
variable {prog : Program} {w : World} {A : Around} {E : Value → Shared → Prop} {s : Shared}

def GenW (prog : Program) (w : World) (A : Around) (N a : Addr) (n : Nat) (F : Nat → Value → Prop) (s : Shared) : Prop :=
  ∃ fp wr g St, WalksS prog w A.in4 a fp wr (GenOnlyQ g) n F St ∧ St 0 s ∧ (∀ i s', St i s' → s'.TypeIs (.ref a) "generator") ∧ a ∈ fp ∧ (∀ b ∈ fp, b < s.heap.objs.size) ∧ ∀ b ∈ wr, N ≤ b

theorem passing_all (n : Nat) : passing (fun _ => true) n 0 = List.range n := by simp [passing]

theorem gcode {env : Env} {c P : Addr} {ps : Array Value} {pos : Pos} {qualname : Str} {scope : Scope} {Q : Value → Shared → Prop} (hc : env.code = .ref c) (hok : s.heap.IsCode c P ps) (htab : s.heap.TableAt c P ps)
    (hQ : ∀ code h' tk more, Heap.ExtBut P s.heap h' → s.heap.objs.size ≤ h'.objs.size → h'.IsCode c P (ps ++ more) → h'.TableAt c P (ps ++ more) → Q code { s with heap := h', toks := tk }) :
    wpAny (model prog w) A (genexprCode env pos qualname scope) Q E s := by
  cases hnf : codeAmong pos ps.toList with
  | some cv => exact wpAny_genexprCode_hit hc hok hnf (hQ cv s.heap s.toks #[] (fun _ _ _ e => e) (Nat.le_refl _) (by simpa using hok) (by simpa using htab))
  | none => exact wpAny_genexprCodeX hc hok htab hnf fun c' h' tk hx hge hlt hcode _ htab' _ => hQ _ h' tk _ hx (Nat.le_trans hge (Nat.le_of_lt hlt)) hcode htab'

theorem gen_pile {env : Env} {elt iter : PySem.Expr} {xa xb : Str} {pa pb pt pos : Pos} {kt : Nat} {scope : Scope} {Q : Value → Shared → Prop} {K : Frag} {C x c P bm : Addr} {ox ob : Obj} {od : Option Obj} {ps : Array Value} {mg : Str → Option Value} {its : List Value} {n : Nat}
    (Ts : Nat → Addr) (va vb : Nat → Value) (F : Nat → Value → Prop) (hh : A.handled = none) (hroom : A.depth < recursionLimit)
    (hco : scope.isCoroutine = false) (hclos : closureFor scope env = pure []) (hcell : ∀ y ∈ scope.names, y.2 ≠ .cell) (h0 : scope.names.lookup (".0" : Str) = some NameKind.local)
    (hxa : scope.names.lookup xa = some .local) (hxb : scope.names.lookup xb = some .local) (hab : xa ≠ xb) (hkind : scope.kind = .function)
    (hcode : env.code = .ref c) (hok : s.heap.IsCode c P ps) (htab : s.heap.TableAt c P ps) (M : BMod s.heap env.globals mg bm ob) (hlim : s.heap.NoLimit) (G : AllBare s.gens)
    (X : K.In s.heap) (I : InstAt s.heap x ox C od) (hdt : ox.data = .seq its.toArray n) (hl : mroIn K C (.type "list") = some true) (hf : findIn K (.ref C) "__iter__" = some (some (.builtin "list.__iter__")))
    (hiter : ∀ {Q' : Value → Shared → Prop} {E' : Value → Shared → Prop}, Q' (.ref x) s → wpAny (model prog w) A (eval iter env) Q' E' s) (hs : ∀ v, genFold iter env v = pure v)
    (hit : ∀ j, j < its.length → its[j]? = some (.ref (Ts j))) (htu : ∀ j, j < its.length → s.heap.IsTuple (Ts j) #[va j, vb j])
    (helt : ∀ (C' : Addr) (code : Value) (A' : Around) (E' : Value → Shared → Prop) (i : Nat) (s₂ : Shared) (m₂ : Str → Option Value) (Q' : Value → Shared → Prop), i < its.length → A'.handled = none → s₂.heap.Ns C' m₂ → m₂ xa = some (va i) → m₂ xb = some (vb i) →
      (∀ b o, b ≠ P → s.heap.get? b = some o → s₂.heap.get? b = some o) → (∀ y h' tk, F i y → (∀ b o, s₂.heap.get? b = some o → h'.get? b = some o) → Q' y { s₂ with heap := h', toks := tk }) →
      wpAny (model prog w) A' (eval elt (genEnv scope [] C' code builtinsNs env)) Q' E' s₂)
    (h : ∀ a (s₅ : Shared) more, Heap.ExtBut P s.heap s₅.heap → s₅.heap.IsCode c P (ps ++ more) → s₅.heap.TableAt c P (ps ++ more) → AllBare s₅.gens → s₅.os = s.os → s₅.drawn = s.drawn → GenW prog w A s.heap.objs.size a its.length F s₅ → Q (.ref a) s₅) :
    wpAny (model prog w) A (eval (.GeneratorExp elt [⟨.Tuple [.Name xa pa, .Name xb pb] kt pt, iter, [], 0⟩] scope pos) env) Q E s := by
  have up : ∀ b o, s.heap.get? b = some o → (s.heap.push { cls := .type "list_iterator", data := .fields #[.ref x, .int 0 0] }).get? b = some o := fun b o e => Heap.get?_push_of_some _ e
  have hxlt : x < s.heap.objs.size := Heap.lt_size I.at_
  refine wpAny_GeneratorExp_walksQTD hh hco hclos hcell h0 hxa hxb hab hkind hroom (hiter (pile_iter X I hl hf ⟨hlim.keeps up, ?_⟩)) hs
  have hok₂ := hok.keeps up
  have htab₂ := htab.keeps up
  refine gcode (s := { s with heap := s.heap.push { cls := .type "list_iterator", data := .fields #[.ref x, .int 0 0] } }) hcode hok₂ htab₂ fun code h₃ tk₃ more hx₃ hsz₃ hcode₃ htab₃ => ?_
  have M₃ : BMod h₃ env.globals mg bm ob := (M.keeps up).extBut htab₂ hx₃
  have hPlt : P < s.heap.objs.size := Heap.lt_size htab.2
  have hcP : cStatics ≠ P := fun e => by
    obtain ⟨_, hns, _⟩ := hlim
    obtain ⟨o, es, ep, ho, hd, _⟩ := hns
    rw [e, htab.2] at ho; cases ho; cases hd
  have hl₃ : h₃.NoLimit := (hlim.keeps up).extBut hx₃ hcP
  have hIsz : s.heap.objs.size < h₃.objs.size := Nat.lt_of_lt_of_le (by rw [Heap.size_push]; exact Nat.lt_succ_self _) hsz₃
  have k₃ : ∀ b o, b ≠ P → s.heap.get? b = some o → h₃.get? b = some o := fun b o hb e => hx₃ b o hb (up b o e)
  refine wpAny_builtinsFor M₃.ns M₃.name M₃.ne M₃.obj M₃.cls M₃.dict M₃.data ?_
  have hxP : x ≠ P := fun e => by
    have a := I.at_
    have b := I.cls
    rw [e, htab.2] at a; cases a; cases b
  have hTP : ∀ j, j < its.length → Ts j ≠ P := fun j hj e => by
    obtain ⟨o, a, b, _⟩ := htu j hj
    rw [e, htab.2] at a; cases a; cases b
  have hTlt : ∀ j, j < its.length → Ts j < s.heap.objs.size := fun j hj => by obtain ⟨o, a, _⟩ := htu j hj; exact Heap.lt_size a
  have hsize : its.toArray.size = its.length := List.size_toArray
  have W : ∀ A' : Around, A'.handled = none → _ := fun A' hA => (walks_pile (prog := prog) (w := w) (A := A') hA s.heap.objs.size x (Nat.ne_of_lt hxlt) its.toArray Ts (fun j => #[va j, vb j]) (fun j hj => by rw [hsize] at hj; simpa using hit j hj) (fun j hj => Nat.ne_of_lt (hTlt j (by rwa [hsize] at hj)))).bound
  refine ⟨s.heap.objs.size, _, [s.heap.objs.size], its.toArray.size, _, _, _, (fun _ => true), F, rfl, W, ?_, ?_, ?_, hl₃, ?_, ?_, ?_⟩
  · exact fun i vals hv => ⟨va i, vb i, hv.2⟩
  · refine ⟨?_, ?_, ?_⟩
    · exact ⟨_, hx₃ _ _ (Nat.ne_of_gt hPlt) (Heap.get?_push_size _ rfl), rfl, rfl⟩
    · exact ⟨ox, n, k₃ _ _ hxP I.at_, hdt⟩
    · intro k hk
      rw [hsize] at hk
      obtain ⟨o, a, r⟩ := htu k hk
      exact ⟨o, k₃ _ _ (hTP k hk) a, r⟩
  · intro b hb
    rcases List.mem_cons.mp hb with rfl | hb
    · exact hIsz
    · rcases List.mem_cons.mp hb with rfl | hb
      · exact Nat.lt_trans hxlt hIsz
      · obtain ⟨j, hj, rfl⟩ := List.mem_map.mp hb
        exact Nat.lt_trans (hTlt j (by have := List.mem_range.mp hj; rwa [hsize] at this)) hIsz
  · intro hm
    have e : cStatics = s.heap.objs.size := by simpa using hm
    have : cStatics < s.heap.objs.size := let ⟨_, hn, _⟩ := hlim; hn.lt
    exact Nat.lt_irrefl _ (e ▸ this)
  · intro href hhref
    have kr : ∀ {s₂ : Shared}, (∀ b ∈ List.range h₃.objs.size, b ∉ [s.heap.objs.size] → ∀ o, href.get? b = some o → s₂.heap.get? b = some o) → ∀ b o, b ≠ P → s.heap.get? b = some o → s₂.heap.get? b = some o := fun hk b o hb e =>
      hk b (List.mem_range.mpr (Nat.lt_trans (Heap.lt_size e) hIsz)) (fun hm => Nat.lt_irrefl _ ((List.mem_singleton.mp hm) ▸ Heap.lt_size e)) o (hhref b o (k₃ b o hb e))
    refine ⟨fun A' E' i va' vb' s₂ m₂ hA _ _ hP hn ha hb hk => ?_, fun A' E' i va' vb' s₂ m₂ hA _ _ hP _ hn ha hb hk => ?_⟩
    · exact wpAny_pure ⟨rfl, s₂.heap, s₂.toks, rfl, fun _ _ e => e⟩
    · have e := hP.2
      injection e with e
      injection e with e1 e2
      injection e2 with e2 _
      subst e1 e2
      exact helt _ code A' E' i s₂ m₂ _ (by have := hP.1; rwa [hsize] at this) hA hn ha hb (kr hk) fun y h' tk hF hk' => ⟨hF, h', tk, rfl, hk'⟩
  · intro a h₅ tk gs hgb hag hsz₅ hk₅ W₅ hat
    have W₆ : WalksS prog w A.in4 a (a :: h₃.objs.size :: List.range h₃.objs.size) (h₃.objs.size :: [s.heap.objs.size]) (GenOnlyQ s.gens.size) its.length F (GenAt prog w A.in4 a s.gens.size h₃.objs.size (List.range h₃.objs.size) [s.heap.objs.size] (fun _ => true) its.toArray.size F) := by
      have e : (passing (fun _ => true) its.toArray.size 0).length = its.length := by rw [passing_all, List.length_range, hsize]
      rw [e] at W₅
      refine ⟨W₅.sub, W₅.grefl, W₅.gtrans, W₅.frame, fun i s' Q' E' hi st hQ => W₅.item i s' Q' E' hi st fun v s'' hP => hQ v s'' ?_, W₅.done, W₅.self⟩
      obtain ⟨k, hk, hF⟩ := hP
      rw [passing_all, List.getElem?_range (by rw [hsize]; exact hi)] at hk
      cases hk
      exact hF
    refine h a _ more (fun b o hb e => hk₅ b o (k₃ b o hb e)) (hcode₃.keeps hk₅) (htab₃.keeps hk₅) (G.push hgb) rfl rfl ⟨_, _, _, _, W₆, hat, (fun i s' st => st.1.typeIs), List.mem_cons_self, ?_, ?_⟩
    · intro b hb
      show b < h₅.objs.size
      rw [hsz₅]
      rcases List.mem_cons.mp hb with rfl | hb
      · exact Nat.lt_succ_self _
      · rcases List.mem_cons.mp hb with rfl | hb
        · exact Nat.lt_succ_of_lt hag
        · exact Nat.lt_succ_of_lt (Nat.lt_trans (List.mem_range.mp hb) hag)
    · intro b hb
      rcases List.mem_cons.mp hb with rfl | hb
      · exact Nat.le_of_lt hIsz
      · rw [List.mem_singleton.mp hb]; exact Nat.le_refl _
end
end Mine
end
noncomputable section
open PySem PySem.W PySem.Calls PyProof.Rows Mine
set_option Elab.async false
set_option maxRecDepth 100000
set_option maxHeartbeats 4000000
namespace Mine
section
variable {prog : Program} {w : World} {A : Around} {E : Value → Shared → Prop} {s : Shared}
theorem join_genW {sep : Str} {t : Tok} {a N : Addr} {n : Nat} {F : Nat → Value → Prop} {Q : Value → Shared → Prop} (X : GenW prog w A N a n F s) (G : AllBare s.gens) (tx : Nat → Str) (htx : ∀ j v, F j v → ∃ u, v = .str (tx j) u)
    (hok : JoinOk sep ((List.range n).map tx) = true) (hsz : n ≤ sizeLine)
    (hQ : ∀ s' t', (∀ b o, b < N → s.heap.get? b = some o → s'.heap.get? b = some o) → AllBare s'.gens → s'.os = s.os → s'.drawn = s.drawn → Q (.str (Txt.join sep ((List.range n).map tx)) t') s') :
    wpAny (model prog w) A (call (.builtin "str.join") [.str sep t, .ref a]) Q E s := by
  obtain ⟨fp, wr, g, St, W, hst, hT, ha, hfp, hwr⟩ := X
  have W := W.in4_2
  refine SC.joinGen W hT hst hfp ha (fun j v hv => let ⟨u, e⟩ := htx j v hv; ⟨_, u, e⟩) (fun s' lt hm hacc => ?_) hsz
  have hl : lt.map (·.1) = (List.range n).map tx := by
    apply List.ext_getElem?
    intro j
    have hsz : lt.length = n := by simpa [strValues] using hacc.1
    by_cases hj : j < n
    · have hj' : j < lt.length := hsz ▸ hj
      obtain ⟨u, hv⟩ := htx j _ (hacc.2 j (.str lt[j].1 lt[j].2) (by simp [strValues, List.getElem?_eq_getElem hj']))
      injection hv with h1 _
      simp [List.getElem?_eq_getElem hj', hj, h1]
    · rw [List.getElem?_eq_none (by simpa [hsz] using Nat.le_of_not_lt hj), List.getElem?_eq_none (by simpa using Nat.le_of_not_lt hj)]
  rw [hl]
  have k1 : ∀ b o, b < N → s.heap.get? b = some o → s'.heap.get? b = some o := fun b o hb e => hm.heap b o (fun hmem => Nat.lt_irrefl _ (Nat.lt_of_lt_of_le hb (hwr b hmem))) e
  have g1 := G.movedS hm
  exact ⟨hok, fun t' k => hQ { s' with toks := k } t' k1 g1 hm.os hm.drawn⟩
theorem shared_eta (s s' : Shared) (h1 : s'.os = s.os) (h2 : s'.drawn = s.drawn) : s' = { s with heap := s'.heap, gens := s'.gens, toks := s'.toks } := by
  obtain ⟨a, b, c, d, e⟩ := s'
  cases h1; cases h2; rfl
end
structure Pc where
  a : Addr
  f : Str
  tf : Tok
  p : Str
  tp : Tok
  deriving Inhabited
abbrev Pc.obj (c : Pc) : Obj := tupO [.str c.f c.tf, .str c.p c.tp]
def pcText (c : Pc) : Str := Txt.join "" [c.f, c.p]
def pileText (pcs : List Pc) : Str := Txt.join "" (pcs.map pcText)
theorem le_sum_of_mem {l : List Nat} {x : Nat} (h : x ∈ l) : x ≤ l.sum := by
  induction l with
  | nil => cases h
  | cons y l ih =>
    rw [List.sum_cons]
    rcases List.mem_cons.mp h with e | h
    · omega
    · have := ih h; omega
theorem range_map_getD {α β : Type} [Inhabited α] (l : List α) (f : α → β) : (List.range l.length).map (fun j => f (l.getD j default)) = l.map f := by
  apply List.ext_getElem?
  intro j
  by_cases h : j < l.length
  · simp [List.getD_eq_getElem?_getD, h]
  · rw [List.getElem?_eq_none (by simpa using Nat.le_of_not_lt h), List.getElem?_eq_none (by simpa using Nat.le_of_not_lt h)]
theorem join0_length (ts : List Str) : (Txt.join "" ts).length = (ts.map (·.length)).sum := by
  show (Builtin.Str.glued "" ts).length = _
  rw [size_glued]
  show _ + (ts.length - 1) * 0 = _
  simp
theorem pcText_length (c : Pc) : (pcText c).length = c.f.length + c.p.length := by
  unfold pcText
  rw [join0_length]
  simp
theorem pcs_weight (pcs : List Pc) : ((pcs.map pcText).map (·.length)).sum = (pcs.map fun c => c.f.length + c.p.length).sum := by
  rw [List.map_map]
  congr 1
  apply List.map_congr_left
  intro c _
  exact pcText_length c
end Mine
end
noncomputable section
open PySem PySem.W PySem.Calls PyProof.Rows Mine Builtin Builtin.Str
set_option Elab.async false
set_option maxRecDepth 100000
set_option maxHeartbeats 4000000
namespace Mine
structure Pr where
  o : Str
  t : Tok
  n : Str
  u : Tok
  deriving Inhabited
def Pr.ok (q : Pr) : Prop := 1 ≤ q.o.length ∧ q.n.length ≤ q.o.length ∧ q.o.length ≤ 100
def prVals : List Pr → List Value
  | [] => []
  | q :: r => .str q.o q.t :: .str q.n q.u :: prVals r
theorem prVals_len (l : List Pr) : (prVals l).length = 2 * l.length := by
  induction l with
  | nil => rfl
  | cons q r ih => simp only [prVals, List.length_cons, ih]; omega
def repl (x o n : Str) : Str := Txt.join n (Txt.split x o)
def replAll (x : Str) : List Pr → Str
  | [] => x
  | q :: r => replAll (repl x q.o q.n) r
theorem split_glued (x o : Str) : glued o (Txt.split x o) = x := by
  unfold Txt.split
  split
  · exact (StrLaws.glued_eq_join o [x]).trans rfl
  · split
    · exact (StrLaws.glued_eq_join o [x]).trans rfl
    · exact StrLaws.glued_between_self x o (x.length + 1)
theorem split_len (x o : Str) : ((Txt.split x o).map (·.length)).sum + ((Txt.split x o).length - 1) * o.length = x.length := by
  have e := size_glued o (Txt.split x o)
  rw [split_glued] at e
  exact e.symm
theorem split_count (x o : Str) (h : 1 ≤ o.length) : (Txt.split x o).length ≤ x.length + 1 := by
  have e := split_len x o
  have : (Txt.split x o).length - 1 ≤ ((Txt.split x o).length - 1) * o.length := Nat.le_mul_of_pos_right _ h
  omega
theorem repl_len (x o n : Str) (h : n.length ≤ o.length) : (repl x o n).length ≤ x.length := by
  have e := split_len x o
  have e2 := size_glued n (Txt.split x o)
  have e3 : (repl x o n).length = (glued n (Txt.split x o)).length := rfl
  have : ((Txt.split x o).length - 1) * n.length ≤ ((Txt.split x o).length - 1) * o.length := Nat.mul_le_mul_left _ h
  omega
theorem split_weight (x o n : Str) (h : 1 ≤ o.length) (hx : x.length ≤ 1000) (hn : n.length ≤ 100) : ((Txt.split x o).map (·.length)).sum + (Txt.split x o).length * n.length ≤ 16777216 := by
  have e := split_len x o
  have c := split_count x o h
  have : (Txt.split x o).length * n.length ≤ 1001 * 100 := Nat.mul_le_mul (by omega) hn
  omega
section
variable {prog : Program} {w : World} {A : Around} {E : Value → Shared → Prop} {s : Shared} {h₀ : Heap} {L : Addr} {m : Str → Option Value} {news : List (Addr × Obj)} {Q : Value → Shared → Prop}
theorem split_K {x y : Str} {t u : Tok} (hF : Fr h₀ L s.heap m) (hN : News h₀ L s.heap news) (hy : 1 ≤ y.length) (hx : x.length ≤ 1000)
    (h : ∀ D l h' k, l.map (·.1) = Txt.split x y → Fr h₀ L h' m → News h₀ L h' ((D, lstO (strValues l) 0) :: news) → (∀ p ∈ news, p.1 < D) → Q (.ref D) { s with heap := h', toks := k }) :
    wpAny (model prog w) A (call (.builtin "str.split") [.str x t, .str y u]) Q E s :=
  splitN1 hF hN (by simp; omega) (fun l h' k e F N => h _ l h' k e F N fun p hp => Heap.lt_size (hN p hp).1) (by rw [sizeLine_eq]; omega)
theorem join_K {D : Addr} {x y n : Str} {t : Tok} {l : List (Str × Tok)} (hN : News h₀ L s.heap news) (hm : (D, lstO (strValues l) 0) ∈ news) (e : l.map (·.1) = Txt.split x y) (hy : 1 ≤ y.length) (hx : x.length ≤ 1000) (hn : n.length ≤ 100)
    (h : ∀ t' k, Q (.str (repl x y n) t') { s with toks := k }) : wpAny (model prog w) A (call (.builtin "str.join") [.str n t, .ref D]) Q E s := by
  refine join_list (News.isList hN hm) (ys := Txt.split x y) ?_ (split_weight x y n hy hx hn) h
  rw [← e]
  exact strsAre_of_values l
end
section
variable {prog : Program} {w : World} {A : Around} {E : Value → Shared → Prop} {s : Shared} {h₀ : Heap} {L : Addr} {m : Str → Option Value} {news : List (Addr × Obj)} {Q : Value → Shared → Prop}
theorem tup_item0 {value slice : PySem.Expr} {tp : Addr} {v0 v1 : Value} {r : List Value} {u : Tok} (N : News h₀ L s.heap news) (hm : (tp, tupO (v0 :: v1 :: r)) ∈ news) (h : Q v0 s)
    (hs : subscripted slice false (.ref tp) (.int 0 u) = operate [.ref tp, .int 0 u] (getItem (.ref tp) (.int 0 u))) : wpAny (model prog w) A (subscriptTail value slice (.ref tp) (.int 0 u)) Q E s :=
  item_tupleT (l := v0 :: v1 :: r) (j := 0) (News.isTup N hm) (by decide) (by decide) (by simp [seqIndex?]; omega) rfl h hs
theorem tup_item1 {value slice : PySem.Expr} {tp : Addr} {v0 v1 : Value} {r : List Value} {u : Tok} (N : News h₀ L s.heap news) (hm : (tp, tupO (v0 :: v1 :: r)) ∈ news) (h : Q v1 s)
    (hs : subscripted slice false (.ref tp) (.int 1 u) = operate [.ref tp, .int 1 u] (getItem (.ref tp) (.int 1 u))) : wpAny (model prog w) A (subscriptTail value slice (.ref tp) (.int 1 u)) Q E s :=
  item_tupleT (l := v0 :: v1 :: r) (j := 1) (News.isTup N hm) (by decide) (by decide) (by simp [seqIndex?]; omega) rfl h hs
theorem tup_drop2 {value slice : PySem.Expr} {tp : Addr} {v0 v1 : Value} {r : List Value} {u : Tok} (F : Fr h₀ L s.heap m) (N : News h₀ L s.heap news) (hm : (tp, tupO (v0 :: v1 :: r)) ∈ news) (hz : (v0 :: v1 :: r).length ≤ 1000)
    (hs : subscripted slice false (.ref tp) (.ref s.heap.objs.size) = operate [.ref s.heap.objs.size, .ref tp] (getItem (.ref tp) (.ref s.heap.objs.size))) (hg : ∀ x, letTemporaryGo value (.ref tp) x = pure ())
    (h : ∀ D h', Fr h₀ L h' m → News h₀ L h' ((D, tupO r) :: news) → (∀ p ∈ news, p.1 < D) → Q (.ref D) { s with heap := h' }) :
    wpAny (model prog w) A (subscriptTail value slice (.ref tp) (.ref s.heap.objs.size)) Q E { s with heap := s.heap.push { cls := .type "slice", data := .fields #[.int 2 u, .none, .none] } } :=
  slice_tuple_from (a := 2) F N (News.isTup N hm) (by decide) (by simp) (fun h' F' N' => h _ h' F' N' fun p hp => Nat.lt_succ_of_lt (Heap.lt_size (N p hp).1)) hs hg (by rw [sizeLine_eq, List.size_toArray]; omega)
end
theorem lookup2 (a b : Str) (va vb : Value) : (fun y : Str => ([(a, va), (b, vb)] : List (Str × Value)).lookup y) = fun y => if y = a then some va else if y = b then some vb else none := by
  funext y
  simp only [List.lookup]
  by_cases h : y = a
  · simp [h]
  · have : (y == a) = false := by simpa using h
    rw [this, if_neg h]
    by_cases h2 : y = b
    · simp [h2]
    · have : (y == b) = false := by simpa using h2
      rw [this, if_neg h2]
end Mine
end
noncomputable section
open PySem PySem.W PySem.Calls PyProof.Rows Mine Builtin Builtin.Str
set_option Elab.async false
set_option maxRecDepth 100000
set_option maxHeartbeats 4000000
namespace Mine
abbrev isz (hs : Int) (ta tb : Tok) : List DictEntry := [⟨hs, .str (Str.ofString "_initial_size") ta, .int 0 tb⟩]
theorem bind_rest {name qual : Str} {a1 b : Arg} {body : List Stmt} {scope : Scope} {kV doc pm cdv ct : Value} {an : Option Addr} {x : Value} {rest : List Value} :
    bindArgs (fnOf name qual { posonlyargs := [], args := [a1], vararg := some b, kwonlyargs := [], kw_defaults := [], kwarg := none, defaults := [] } body scope .none kV doc pm an cdv ct) ⟨x :: rest, []⟩ =
      (newTuple rest >>= fun t => pure [(a1.arg, x), (b.arg, t)]) := by
  unfold bindArgs
  simp [fnOf, seqItems?]
  rfl
section
variable {prog : Program} {w : World} {A₀ A : Around} {s : Shared} {K : Frag} {L : Addr} {h₀ base : Heap} {m mg mb : Str → Option Value} {news : List (Addr × Obj)} {p : Program} {loose : List Str} {mean : ExcName → Option Value}
theorem code_rest {env : Env} {outer : List Env} {R : Result → Shared → Prop} {name qual : Str} {a1 b : Arg} {body : List Stmt} {scope : Scope} {kV doc pm cdv ct oc : Value} {an od : Option Addr} {osl : Array (Option Value)} {f : Addr} {x : Value} {vs : List Value}
    (B : Below A₀ base outer h₀) (F : Fr h₀ L s.heap m) (X₀ : K.In h₀) (N : News h₀ L s.heap news) (T : Top p loose mean mg mb h₀) (hA : A.frames = some (env :: outer)) (hf : env.frame = some L) (hke : env.scope.kind = .function)
    (ho : K.lookup f = some ⟨oc, od, .func (fnOf name qual { posonlyargs := [], args := [a1], vararg := some b, kwonlyargs := [], kw_defaults := [], kwarg := none, defaults := [] } body scope .none kV doc pm an cdv ct), osl⟩) (hcd : codeIn K cdv qual = true) (hroom : A.depth < recursionLimit)
    (hz : vs.length ≤ sizeLine) (hloc : ∀ D : Addr, ∀ y ∈ [(a1.arg, x), (b.arg, Value.ref D)], scope.names.lookup y.1 = some .local)
    (h : ∀ D g L' h₁, (∀ p ∈ news, p.1 < D) → Fr h₀ L g m → Fr g L' h₁ (fun y => ([(a1.arg, x), (b.arg, Value.ref D)] : List (Str × Value)).reverse.lookup y) → News g L' h₁ ((D, tupO vs) :: news) → Below A base (env :: outer) g → K.In g → Top p loose mean mg mb g →
      wpAny (model prog w) (A.deeper (envOf qual scope L' f cdv)) (execs body (envOf qual scope L' f cdv))
        (fun fl s' => LeaveK h₀ L m g R (match fl with | .ret v => v | _ => .none) s')
        (fun e s' => wpAny (model prog w) (A.deeper (envOf qual scope L' f cdv)) (leaving (envOf qual scope L' f cdv) e) (fun _ s'' => R (.error e) s'') (fun e' s'' => R (.error e') s'') s')
        { s with heap := h₁, toks := s.toks + 2 })
    (hco : scope.isCoroutine = false) (hgen : scope.isGenerator = false) (hk : scope.kind = .function)
    (hcell : ∀ x ∈ scope.names, x.2 ≠ .cell) : codeAny (model prog w) A (.call (.ref f) ⟨x :: vs, []⟩) R s := by
  refine codeAny_call_function (fd := fnOf name qual _ body scope .none kV doc pm an cdv ct) (body := body) hroom ((X₀.keeps F.keep) _ _ ho) rfl hco hgen rfl (codeRec_of (X₀.keeps F.keep) hcd) ?_
  rw [bind_rest]
  refine wpAny_bind (newTuple_N F N (fun h' F' N' => wpAny_pure ?_) hz)
  exact kp_frame (cl := []) (s := { s with heap := h' }) B F' N' T.nolimit hA hf hke (hloc s.heap.objs.size) (fun g L' h₁ FG FL NG BG st => h s.heap.objs.size g L' h₁ (fun p hp => Heap.lt_size (N p hp).1) FG FL NG BG (X₀.keeps st) (T.keeps st)) hcell hk
end
end Mine
end
noncomputable section
open PySem PySem.W PySem.Calls PyProof.Rows Mine
set_option Elab.async false
set_option maxRecDepth 100000
set_option maxHeartbeats 4000000
namespace Mine
/-- a frame's map with some of its names written out -/
def lay : List (Str × Value) → (Str → Option Value) → Str → Option Value
  | [], m => m
  | (a, v) :: r, m => fun y => if y = a then some v else lay r m y
def LayOk : List (Str × Value) → (Str → Option Value) → Prop
  | [], _ => True
  | (a, v) :: r, m => m a = some v ∧ LayOk r m
theorem lay_eq (M : Str → Option Value) : ∀ l, LayOk l M → ∀ y, lay l M y = M y
  | [], _, _ => rfl
  | (a, v) :: r, h, y => by
    show (if y = a then some v else lay r M y) = M y
    by_cases e : y = a
    · rw [if_pos e, e, h.1]
    · rw [if_neg e]; exact lay_eq M r h.2 y
theorem Fr.lay {h₀ h : Heap} {L : Addr} {M : Str → Option Value} {l : List (Str × Value)} (F : Fr h₀ L h M) (hl : LayOk l M) : Fr h₀ L h (Mine.lay l M) := by
  rw [show Mine.lay l M = M from funext (lay_eq M l hl)]; exact F
inductive Reach (prs : List Pr) (x : Str) : Str → Prop
  | start : Reach prs x x
  | step {y : Str} : Reach prs x y → Reach prs x (replAll y prs)
abbrev Inv := Nat → (Str → Option Value) → List (Addr × Obj) → Array GenState → Prop
/-- the end of a turn: the iterator stands in the ledger at its next place, the word holds of what is kept -/
def LedStep (h₀ : Heap) (L : Addr) (s : Shared) (I : Addr) (It : Nat → Obj → Prop) (J : Inv) (Q : Flow → Shared → Prop) (i : Nat) (f : Flow) (s₃ : Shared) : Prop :=
  match f with
  | .next | .cont => ∃ h' tk gs m₂ X news₂ o, s₃ = { s with heap := h', gens := gs, toks := tk } ∧ Fr h₀ L h' m₂ ∧ News h₀ L h' X ∧ (I, o) ∈ X ∧ It (i + 1) o ∧ (∀ q ∈ news₂, q ∈ X ∧ q.1 ≠ I) ∧ J (i + 1) m₂ news₂ gs
  | .brk => Q .next s₃
  | .ret v => Q (.ret v) s₃
section
variable {prog : Program} {w : World} {A : Around} {E : Value → Shared → Prop} {s : Shared} {env : Env} {h₀ : Heap} {L : Addr} {Q : Flow → Shared → Prop}
theorem Fr.upto {h h' : Heap} {m : Str → Option Value} {I : Addr} (F : Fr h₀ L h m) (hI : h₀.get? I = none) (hL : L ≠ I) (hx : Heap.ExtBut I h h') : Fr h₀ L h' m :=
  ⟨F.ns.extBut hx hL, fun b o e => hx b o (fun q => by rw [q, hI] at e; cases e) (F.keep b o e), F.above⟩
theorem News.upto {h h' : Heap} {news : List (Addr × Obj)} {I : Addr} (N : News h₀ L h news) (hne : ∀ q ∈ news, q.1 ≠ I) (hx : Heap.ExtBut I h h') : News h₀ L h' news :=
  fun q hq => ⟨hx _ _ (hne q hq) (N q hq).1, (N q hq).2⟩

structure LedIter (prog : Program) (w : World) (A : Around) (I : Addr) (n : Nat) (It : Nat → Obj → Prop) (P : Nat → Value → Prop) (aux : Heap → Prop) : Prop where
  item : ∀ i o (s : Shared) (Q : Option Value → Shared → Prop) (E : Value → Shared → Prop), i < n → s.heap.get? I = some o → It i o → aux s.heap →
    (∀ v h' tk o', P i v → h'.get? I = some o' → It (i + 1) o' → Heap.ExtBut I s.heap h' → Q (some v) { s with heap := h', toks := tk }) → wpAny (model prog w) A (pyNext (.ref I)) Q E s
  done : ∀ o (s : Shared) (Q : Option Value → Shared → Prop) (E : Value → Shared → Prop), s.heap.get? I = some o → It n o → aux s.heap →
    (∀ h' tk, Heap.ExtBut I s.heap h' → Q none { s with heap := h', toks := tk }) → wpAny (model prog w) A (pyNext (.ref I)) Q E s
  plain : ∀ i o, It i o → ∃ ty vs, o.cls = .type ty ∧ o.data = .fields vs ∧ (["enumerate", "zip", "dict_itemiterator", "dict_reverseitemiterator", "odict_iterator", "itertools.zip_longest", "itertools.pairwise"].contains ty) = false

theorem go_plain {target : PySem.Expr} {I : Addr} {o : Obj} {v : Value} {Q : Unit → Shared → Prop} (hg : s.heap.get? I = some o) (hp : ∃ ty vs, o.cls = .type ty ∧ o.data = .fields vs ∧ (["enumerate", "zip", "dict_itemiterator", "dict_reverseitemiterator", "odict_iterator", "itertools.zip_longest", "itertools.pairwise"].contains ty) = false)
    (hQ : Q () s) : wpAny (model prog w) A (letOwnedTupleGo target (.ref I) v) Q E s := by
  obtain ⟨ty, vs, hc, hd, hn⟩ := hp
  have go : wpAny (model prog w) A (letOwnedTupleGo (.Tuple [] 0 default) (.ref I) v) Q E s := by
    cases v with
    | ref a =>
      show wpAny _ _ (load I >>= _) _ _ _
      refine wpAny_bind (wpAny_load hg ?_)
      rw [hc, hd]
      dsimp only
      rw [hn, Bool.false_and, if_neg Bool.false_ne_true]
      exact wpAny_pure hQ
    | _ => exact wpAny_pure hQ
  cases target with
  | Tuple => exact go
  | List => exact go
  | _ => exact wpAny_pure hQ

def LedAt (prog : Program) (w : World) (A : Around) (h₀ : Heap) (L : Addr) (env : Env) (target : PySem.Expr) (body : List Stmt) (Q : Flow → Shared → Prop) (E : Value → Shared → Prop) (it : Value) (s₂ : Shared) : Prop :=
  ∃ (I : Addr) (n : Nat) (It : Nat → Obj → Prop) (P : Nat → Value → Prop) (aux : Heap → Prop) (o : Obj) (m : Str → Option Value) (news : List (Addr × Obj)) (J : Inv),
    it = .ref I ∧ LedIter prog w A I n It P aux ∧ It 0 o ∧ Fr h₀ L s₂.heap m ∧ News h₀ L s₂.heap ((I, o) :: news) ∧ (∀ q ∈ news, q.1 ≠ I) ∧ J 0 m news s₂.gens ∧
    (∀ i m₁ news₁ h gs, J i m₁ news₁ gs → Fr h₀ L h m₁ → News h₀ L h news₁ → aux h) ∧
    (∀ i v m₁ news₁ h tk gs o, i < n → P i v → J i m₁ news₁ gs → Fr h₀ L h m₁ → News h₀ L h ((I, o) :: news₁) → It (i + 1) o → (∀ q ∈ news₁, q.1 ≠ I) →
      wpAny (model prog w) A (assign target env v) (fun _ s₃ => wpAny (model prog w) A (execs body env) (LedStep h₀ L s₂ I It J Q i) E s₃) E { s₂ with heap := h, gens := gs, toks := tk }) ∧
    ∀ m₁ news₁ h tk gs, J n m₁ news₁ gs → Fr h₀ L h m₁ → News h₀ L h news₁ → Q .next { s₂ with heap := h, gens := gs, toks := tk }

/-- the loop's source is at hand: here the walk rests -/
def LedPre (prog : Program) (w : World) (A : Around) (h₀ : Heap) (L : Addr) (env : Env) (target : PySem.Expr) (body : List Stmt) (Q : Flow → Shared → Prop) (E : Value → Shared → Prop) (xv : Value) (s₁ : Shared) : Prop :=
  wpAny (model prog w) A (pyIter xv) (fun it s₂ => LedAt prog w A h₀ L env target body Q E it s₂) E s₁
theorem For_led {target iter : PySem.Expr} {body : List Stmt} {pos : Pos} {mF : Str → Option Value} (_F : Fr h₀ L s.heap mF)
    (h : wpAny (model prog w) A (eval iter env) (LedPre prog w A h₀ L env target body Q E) E s)
    (hs : ∀ x, foldedSetIterable iter env x = pure x := by intro _; rfl)
    (hE : PassesOwn (model prog w) A env E := by passes_own) :
    wpAny (model prog w) A (exec (.For target iter body [] pos) env) Q E s := by
  refine wpAny_For (wpAny_mono h (fun xv s₁ h₁ => wpAny_mono h₁ (fun it s₂ h₂ => ?_) fun _ _ e => e) fun _ _ e => e) hs
  obtain ⟨I, n, It, P, aux, o₀, m, news, J, rfl, D, hIt, F, N, hne, hJ, haux, turn, done⟩ := h₂
  have hz := (N (I, o₀) List.mem_cons_self).2
  refine codeAny_forLoop_any (R := fun r s' => match r with | .ok f => Q f s' | .error e => cameBackBy (model prog w) A env E e s')
    (fun k s' => ∃ h' tk gs m' news' i o, s' = { s₂ with heap := h', gens := gs, toks := tk } ∧ Fr h₀ L h' m' ∧ News h₀ L h' ((I, o) :: news') ∧ It i o ∧ (∀ q ∈ news', q.1 ≠ I) ∧ J i m' news' gs ∧ i ≤ n ∧ k = n + 1 - i) ?_ (n + 1)
    ⟨s₂.heap, s₂.toks, s₂.gens, m, news, 0, o₀, rfl, F, N, hIt, hne, hJ, Nat.zero_le _, rfl⟩
  rintro k s' ⟨h', tk, gs, m', news', i, o, rfl, F', N', hIt', hne', hJ', hi, rfl⟩
  have N'' : News h₀ L h' news' := fun q hq => N' q (List.mem_cons_of_mem _ hq)
  have hg := (N' (I, o) List.mem_cons_self).1
  have hax := haux _ _ _ _ _ hJ' F' N''
  by_cases hlt : i < n
  · refine D.item i o _ _ _ hlt hg hIt' hax fun v h₁ tk₁ o₁ hP hg₁ hIt₁ hx => ?_
    have F₁ := Fr.upto F' hz.2 (Ne.symm hz.1) hx
    have N₁ := News.upto N'' hne' hx
    have N₂ : News h₀ L h₁ ((I, o₁) :: news') := fun q hq => by
      rcases List.mem_cons.mp hq with rfl | hq
      · exact ⟨hg₁, hz⟩
      · exact N₁ q hq
    refine go_plain hg₁ (D.plain _ _ hIt₁) ?_
    refine wpAny_passesOwn hE (wpAny_mono (turn i v m' news' h₁ tk₁ gs o₁ hlt hP hJ' F₁ N₂ hIt₁ hne') (fun _ s₃ h₃ => ?_) fun _ _ e => e)
    refine wpAny_passesOwn hE (wpAny_mono h₃ (fun f s₄ h₄ => ?_) fun _ _ e => e)
    have fin : (∃ h' tk gs m₂ X news₂ o, s₄ = { s₂ with heap := h', gens := gs, toks := tk } ∧ Fr h₀ L h' m₂ ∧ News h₀ L h' X ∧ (I, o) ∈ X ∧ It (i + 1) o ∧ (∀ q ∈ news₂, q ∈ X ∧ q.1 ≠ I) ∧ J (i + 1) m₂ news₂ gs) →
        ∃ k', k' < n + 1 - i ∧ ∃ h' tk gs m' news' i o, s₄ = { s₂ with heap := h', gens := gs, toks := tk } ∧ Fr h₀ L h' m' ∧ News h₀ L h' ((I, o) :: news') ∧ It i o ∧ (∀ q ∈ news', q.1 ≠ I) ∧ J i m' news' gs ∧ i ≤ n ∧ k' = n + 1 - i := by
      rintro ⟨h', tk, gs, m₂, X, news₂, o, rfl, F₂, N₂, hm, hit, hsub, hJ₂⟩
      refine ⟨n + 1 - (i + 1), by omega, h', tk, gs, m₂, news₂, i + 1, o, rfl, F₂, ?_, hit, fun q hq => (hsub q hq).2, hJ₂, hlt, rfl⟩
      intro q hq
      rcases List.mem_cons.mp hq with rfl | hq
      · exact N₂ _ hm
      · exact N₂ _ (hsub q hq).1
    cases f with
    | ret v => exact h₄
    | brk => exact h₄
    | next => exact fin h₄
    | cont => exact fin h₄
  · have e : i = n := by omega
    subst e
    refine D.done o _ _ _ hg hIt' hax fun h₁ tk₁ hx => ?_
    exact wpAny_execs_nil (done m' news' h₁ tk₁ gs hJ' (Fr.upto F' hz.2 (Ne.symm hz.1) hx) (News.upto N'' hne' hx))

def ItStr (ty : String) (x : Str) (t : Tok) (i : Nat) (o : Obj) : Prop := o.cls = .type ty ∧ o.data = .fields #[.str x t, .int i 0]
def ItLst (l : Addr) (i : Nat) (o : Obj) : Prop := o.cls = .type "list_iterator" ∧ o.data = .fields #[.ref l, .int i 0]

theorem iterAscii (hh : A.handled = none) (I : Addr) (x : Str) (t : Tok) : LedIter prog w A I x.cps.size (ItStr "str_ascii_iterator" x t) (PySem.SignAt x) (fun _ => True) where
  item := fun i o s Q E hi hg hit _ hQ => by
    refine wpAny_pyNext_ascii_item ⟨o, hg, hit⟩ (c := x.cps[i]) (by simp [hi]) fun h' hit' hs' => ?_
    obtain ⟨o', hg', hit'⟩ := hit'
    exact hQ _ h' (s.toks + 1) o' ⟨_, _, by simp [hi], rfl⟩ hg' hit' hs'.extBut
  done := fun o s Q E hg hit _ hQ => wpAny_pyNext_ascii_end hh ⟨o, hg, hit⟩ (by simp) fun h' he' => hQ h' s.toks he'
  plain := fun _ _ h => ⟨_, _, h.1, h.2, by decide⟩
theorem iterWide (hh : A.handled = none) (I : Addr) (x : Str) (t : Tok) : LedIter prog w A I x.cps.size (ItStr "str_iterator" x t) (PySem.SignAt x) (fun _ => True) where
  item := fun i o s Q E hi hg hit _ hQ => by
    refine wpAny_pyNext_wide_item ⟨o, hg, hit⟩ (c := x.cps[i]) (by simp [hi]) fun h' hit' hs' => ?_
    obtain ⟨o', hg', hit'⟩ := hit'
    exact hQ _ h' (s.toks + 1) o' ⟨_, _, by simp [hi], rfl⟩ hg' hit' hs'.extBut
  done := fun o s Q E hg hit _ hQ => wpAny_pyNext_wide_end hh ⟨o, hg, hit⟩ (by simp) fun h' he' => hQ h' s.toks he'
  plain := fun _ _ h => ⟨_, _, h.1, h.2, by decide⟩
theorem iterList (hh : A.handled = none) (I l : Addr) (items : Array Value) : LedIter prog w A I items.size (ItLst l) (fun i v => items[i]? = some v) (fun h => h.IsList l items) where
  item := fun i o s Q E hi hg hit hl hQ => by
    refine wpAny_pyNext_list_item ⟨o, hg, hit⟩ hl (x := items[i]) (by simp [hi]) fun h' hit' hs' => ?_
    obtain ⟨o', hg', hit'⟩ := hit'
    exact hQ _ h' s.toks o' (by simp [hi]) hg' hit' hs'.extBut
  done := fun o s Q E hg hit hl hQ => wpAny_pyNext_list_end hh ⟨o, hg, hit⟩ hl (by simp) fun h' he' => hQ h' s.toks he'
  plain := fun _ _ h => ⟨_, _, h.1, h.2, by decide⟩

theorem led_str {target : PySem.Expr} {body : List Stmt} {x : Str} {t : Tok} {m : Str → Option Value} {news : List (Addr × Obj)} (J : Inv) (hh : A.handled = none) (F : Fr h₀ L s.heap m) (N : News h₀ L s.heap news) (hJ : J 0 m news s.gens)
    (turn : ∀ I It i c u m₁ news₁ h tk gs o, x.cps[i]? = some c → J i m₁ news₁ gs → Fr h₀ L h m₁ → News h₀ L h ((I, o) :: news₁) → It (i + 1) o → (∀ q ∈ news₁, q.1 ≠ I) →
      (∀ i o, It i o → ∃ ty, (ty = "str_ascii_iterator" ∨ ty = "str_iterator") ∧ o.cls = .type ty) →
      wpAny (model prog w) A (assign target env (.str ⟨#[c]⟩ u)) (fun _ s₃ => wpAny (model prog w) A (execs body env) (LedStep h₀ L s I It J Q i) E s₃) E { s with heap := h, gens := gs, toks := tk })
    (done : ∀ m₁ news₁ h tk gs, J x.length m₁ news₁ gs → Fr h₀ L h m₁ → News h₀ L h news₁ → Q .next { s with heap := h, gens := gs, toks := tk }) :
    LedPre prog w A h₀ L env target body Q E (.str x t) s := by
  unfold LedPre
  have hf : ∀ q ∈ news, q.1 ≠ s.heap.objs.size := fun q hq => Nat.ne_of_lt (Heap.lt_size (N q hq).1)
  have go : ∀ ty, (ty = "str_ascii_iterator" ∨ ty = "str_iterator") → LedIter prog w A s.heap.objs.size x.cps.size (ItStr ty x t) (PySem.SignAt x) (fun _ => True) →
      LedAt prog w A h₀ L env target body Q E (.ref s.heap.objs.size) { s with heap := s.heap.push { cls := .type ty, data := .fields #[.str x t, .int 0 0] } } := by
    intro ty hty D
    refine ⟨_, _, _, _, _, _, m, news, J, rfl, D, ⟨rfl, rfl⟩, F.push _, N.push F _, hf, hJ, fun _ _ _ _ _ _ _ _ => trivial, ?_, done⟩
    rintro i v m₁ news₁ h tk gs o hi ⟨c, u, hc, rfl⟩ hJ₁ F₁ N₁ hIt hne
    exact turn _ _ i c u m₁ news₁ h tk gs o hc hJ₁ F₁ N₁ hIt hne fun j o' h' => ⟨ty, hty, h'.1⟩
  cases ha : x.cps.all (· < 128)
  · exact wpAny_pyIter_wide ha (go _ (.inr rfl) (iterWide hh _ x t))
  · exact wpAny_pyIter_ascii ha (go _ (.inl rfl) (iterAscii hh _ x t))

theorem led_list {target : PySem.Expr} {body : List Stmt} {l : Addr} {items : List Value} {k : Nat} {m : Str → Option Value} {news : List (Addr × Obj)} (J : Inv) (hh : A.handled = none) (F : Fr h₀ L s.heap m) (N : News h₀ L s.heap news) (hl : (l, lstO items k) ∈ news) (hJ : J 0 m news s.gens)
    (haux : ∀ i m₁ news₁ gs, J i m₁ news₁ gs → (l, lstO items k) ∈ news₁)
    (turn : ∀ I i v m₁ news₁ h tk gs o, items[i]? = some v → J i m₁ news₁ gs → Fr h₀ L h m₁ → News h₀ L h ((I, o) :: news₁) → ItLst l (i + 1) o → (∀ q ∈ news₁, q.1 ≠ I) →
      wpAny (model prog w) A (assign target env v) (fun _ s₃ => wpAny (model prog w) A (execs body env) (LedStep h₀ L s I (ItLst l) J Q i) E s₃) E { s with heap := h, gens := gs, toks := tk })
    (done : ∀ m₁ news₁ h tk gs, J items.length m₁ news₁ gs → Fr h₀ L h m₁ → News h₀ L h news₁ → Q .next { s with heap := h, gens := gs, toks := tk }) :
    LedPre prog w A h₀ L env target body Q E (.ref l) s := by
  unfold LedPre
  have hf : ∀ q ∈ news, q.1 ≠ s.heap.objs.size := fun q hq => Nat.ne_of_lt (Heap.lt_size (N q hq).1)
  have D := iterList (prog := prog) (w := w) (A := A) hh s.heap.objs.size l items.toArray
  rw [List.size_toArray] at D
  refine wpAny_pyIter_list (News.isList N hl) ?_
  refine ⟨_, _, _, _, _, _, m, news, J, rfl, D, ⟨rfl, rfl⟩, F.push _, N.push F _, hf, hJ, fun i m₁ news₁ h gs hJ₁ _ N₁ => News.isList N₁ (haux _ _ _ _ hJ₁), ?_, done⟩
  intro i v m₁ news₁ h tk gs o hi hv hJ₁ F₁ N₁ hIt hne
  exact turn _ i v m₁ news₁ h tk gs o (by simpa using hv) hJ₁ F₁ N₁ hIt hne
end
end Mine
end
noncomputable section
open PySem PySem.W PySem.Calls PyProof.Rows PyProof.V PySem.Spec Mine
set_option Elab.async false
set_option maxRecDepth 100000
set_option maxHeartbeats 4000000
namespace Mine
section
variable {prog : Program} {w : World} {A : Around} {E : Value → Shared → Prop} {s : Shared} {env : Env} {h₀ : Heap} {L : Addr} {Q : Flow → Shared → Prop}
def ItTup (l : Addr) (i : Nat) (o : Obj) : Prop := o.cls = .type "tuple_iterator" ∧ o.data = .fields #[.ref l, .int i 0]
end

abbrev Pc.fp (c : Pc) : Str × Str := (c.f, c.p)
abbrev Pc.v (c : Pc) : Value := .ref c.a
abbrev fpD (q : Str × Str) : PyData := .tuple [.str q.1, .str q.2]
def fpOk (q : Str × Str) : Prop := PyData.strOk q.1 = true ∧ PyData.strOk q.2 = true
section
variable {prog : Program} {w : World} {A : Around} {E : Value → Shared → Prop} {s : Shared} {h₀ : Heap} {L : Addr} {news : List (Addr × Obj)} {Q : Value → Shared → Prop}
end
end Mine
namespace Mine
theorem news_ne {h₀ h : Heap} {L a b : Addr} {o o' : Obj} {l : List (Addr × Obj)} (N : News h₀ L h l) (ha : (a, o) ∈ l) (hb : (b, o') ∈ l) (hne : o ≠ o') : a ≠ b := by
  intro e
  subst e
  exact hne (Option.some.inj ((N _ ha).1.symm.trans (N _ hb).1))
theorem setAt_tail {p : Addr} {o : Obj} {l : List (Addr × Obj)} {x q : Addr × Obj} (hq : q ∈ setAt p o l) : q ∈ setAt p o (x :: l) := List.mem_cons_of_mem _ hq
theorem pile_ne_tup {C d : Addr} {vs us : List Value} {n : Nat} : tupO us ≠ pileO C d vs n := by
  intro e; injection e with e1; cases e1
theorem pile_ne_lst {C d : Addr} {vs us : List Value} {n k : Nat} : lstO us k ≠ pileO C d vs n := by
  intro e; injection e with e1; cases e1
theorem pile_ne_dict {C d : Addr} {vs : List Value} {es : List DictEntry} {n k : Nat} : dictOf es k ≠ pileO C d vs n := by
  intro e; injection e with e1; cases e1
/-- a pile in the ledger, with its pieces -/
structure Pile (C : Addr) (l : List (Addr × Obj)) (p d : Addr) (pcs : List Pc) : Prop where
  obj : ∃ n, (p, pileO C d (pcs.map Pc.v) n) ∈ l
  dict : ∃ hs ta tb k, (d, dictOf (isz hs ta tb) k) ∈ l
  its : ∀ c ∈ pcs, (c.a, c.obj) ∈ l
def Keeps (p : Addr) (l l' : List (Addr × Obj)) : Prop := ∀ q ∈ l, q.1 ≠ p → q ∈ l'
theorem Keeps.refl (p : Addr) (l : List (Addr × Obj)) : Keeps p l l := fun _ h _ => h
theorem Keeps.trans {p : Addr} {l₁ l₂ l₃ : List (Addr × Obj)} (a : Keeps p l₁ l₂) (b : Keeps p l₂ l₃) : Keeps p l₁ l₃ := fun q h e => b q (a q h e) e
theorem Keeps.setAt (p : Addr) (o : Obj) (l : List (Addr × Obj)) : Keeps p l (setAt p o l) := fun _ h e => setAt_mem h e
theorem Keeps.cons {p : Addr} {x : Addr × Obj} {l l' : List (Addr × Obj)} (a : Keeps p l l') : Keeps p l (x :: l') := fun q h e => .tail _ (a q h e)
theorem Pile.moved {C p d : Addr} {pcs qcs : List Pc} {l l' : List (Addr × Obj)} {h₀ h : Heap} {L : Addr} {n : Nat} (P : Pile C l p d pcs) (N : News h₀ L h l) (K : Keeps p l l') (ho : (p, pileO C d (qcs.map Pc.v) n) ∈ l') (hq : ∀ c ∈ qcs, c ∈ pcs ∨ (c.a, c.obj) ∈ l') : Pile C l' p d qcs := by
  obtain ⟨⟨n₀, h1⟩, ⟨hs, ta, tb, k, h2⟩, h3⟩ := P
  refine ⟨⟨n, ho⟩, ⟨hs, ta, tb, k, K _ h2 (news_ne N h2 h1 pile_ne_dict)⟩, fun c hc => ?_⟩
  rcases hq c hc with h | h
  · exact K _ (h3 c h) (news_ne N (h3 c h) h1 pile_ne_tup)
  · exact h
end Mine

namespace Mine
section
variable {prog : Program} {w : World} {A : Around} {E : Value → Shared → Prop} {s : Shared} {h₀ : Heap} {L : Addr} {news : List (Addr × Obj)} {Q : Value → Shared → Prop}
end
end Mine
end
noncomputable section
open PySem PySem.W PySem.Calls PyProof.Rows Mine
set_option Elab.async false
set_option maxRecDepth 100000
set_option maxHeartbeats 4000000
namespace Mine
section
variable {h₀ h hb hO : Heap} {L Lb pl d C D t I : Addr} {pcs : List Pc} {X X₁ : List (Addr × Obj)}
theorem popped {i : Int} {n' kk : Nat} (P : Pile C X₁ pl d pcs) (NO : News hb Lb hO X₁)
    (N : News h₀ L h ((D, lstO ((pcs.map Pc.v).drop i.toNat) 0) :: setAt pl (pileO C d ((pcs.map Pc.v).take i.toNat) n') X₁)) (e : i.toNat = kk) :
    ∃ X₂, News h₀ L h X₂ ∧ (D, lstO ((pcs.drop kk).map Pc.v) 0) ∈ X₂ ∧ Pile C X₂ pl d (pcs.take kk) ∧ Keeps pl X₁ X₂ ∧ ∀ c ∈ pcs, (c.a, c.obj) ∈ X₂ := by
  subst e
  obtain ⟨n, h1⟩ := P.obj
  have K : Keeps pl X₁ ((D, lstO ((pcs.map Pc.v).drop i.toNat) 0) :: setAt pl (pileO C d ((pcs.map Pc.v).take i.toNat) n') X₁) := Keeps.cons (Keeps.setAt _ _ _)
  refine ⟨_, N, by rw [List.map_drop]; exact List.Mem.head _, ?_, K, fun c hc => K _ (P.its c hc) (news_ne NO (P.its c hc) h1 pile_ne_tup)⟩
  refine P.moved NO K (n := n') ?_ fun c hc => .inl (List.mem_of_mem_take hc)
  rw [List.map_take]
  exact List.Mem.tail _ (setAt_self h1)
theorem pushed {n' : Nat} {f p : Str} {tf tp : Tok} (P : Pile C X₁ pl d pcs) (NO : News hb Lb hO X₁)
    (N : News h₀ L h ((t, tupO [.str f tf, .str p tp]) :: setAt pl (pileO C d (pcs.map Pc.v ++ [.ref t]) n') X₁)) :
    ∃ X₂, News h₀ L h X₂ ∧ Pile C X₂ pl d (pcs ++ [⟨t, f, tf, p, tp⟩]) ∧ Keeps pl X₁ X₂ := by
  obtain ⟨n, h1⟩ := P.obj
  have K : Keeps pl X₁ ((t, tupO [.str f tf, .str p tp]) :: setAt pl (pileO C d (pcs.map Pc.v ++ [.ref t]) n') X₁) := Keeps.cons (Keeps.setAt _ _ _)
  refine ⟨_, N, P.moved NO K (n := n') ?_ fun c hc => ?_, K⟩
  · rw [List.map_append]; exact List.Mem.tail _ (setAt_self h1)
  · rcases List.mem_append.mp hc with hc | hc
    · exact .inl hc
    · rw [List.mem_singleton.mp hc]; exact .inr (List.Mem.head _)
def but (I : Addr) (X : List (Addr × Obj)) : List (Addr × Obj) := X.filter fun q => decide (q.1 ≠ I)
theorem but_mem {q : Addr × Obj} : q ∈ but I X ↔ q ∈ X ∧ q.1 ≠ I := by unfold but; rw [List.mem_filter]; simp
/-- an iterator's class: no tuple, no dict, no own class -/
def Iterish (o : Obj) : Prop := ∃ ty, o.cls = .type ty ∧ ty ≠ "tuple" ∧ ty ≠ "dict" ∧ ty ≠ "list"
theorem Iterish.ne {o o' : Obj} (hi : Iterish o) (h' : (∃ C, o'.cls = .ref C) ∨ o'.cls = .type "tuple" ∨ o'.cls = .type "dict" ∨ o'.cls = .type "list") : o' ≠ o := by
  intro e
  obtain ⟨ty, h1, h2, h3, h4⟩ := hi
  rw [e] at h'
  rw [h1] at h'
  rcases h' with ⟨C, h'⟩ | h' | h' | h'
  · cases h'
  · exact h2 (by injection h')
  · exact h3 (by injection h')
  · exact h4 (by injection h')
theorem Pile.but {o : Obj} (P : Pile C X pl d pcs) (N : News h₀ L h X) (hI : (I, o) ∈ X) (hi : Iterish o) : Pile C (but I X) pl d pcs := by
  obtain ⟨⟨n, h1⟩, ⟨hs, ta, tb, k, h2⟩, h3⟩ := P
  exact ⟨⟨n, but_mem.mpr ⟨h1, news_ne N h1 hI (hi.ne (.inl ⟨_, rfl⟩))⟩⟩, ⟨hs, ta, tb, k, but_mem.mpr ⟨h2, news_ne N h2 hI (hi.ne (.inr (.inr (.inl rfl))))⟩⟩,
    fun c hc => but_mem.mpr ⟨h3 c hc, news_ne N (h3 c hc) hI (hi.ne (.inr (.inl rfl)))⟩⟩
theorem Keeps.but {X₀ news₁ : List (Addr × Obj)} {o : Obj} (K₁ : Keeps pl X₀ news₁) (hne : ∀ q ∈ news₁, q.1 ≠ I) (K₂ : Keeps pl ((I, o) :: news₁) X) : Keeps pl X₀ (Mine.but I X) :=
  fun q hq e => but_mem.mpr ⟨K₂ q (.tail _ (K₁ q hq e)) e, hne q (K₁ q hq e)⟩
theorem ItLst.iterish {l : Addr} {i : Nat} {o : Obj} (h : ItLst l i o) : Iterish o := ⟨_, h.1, by decide, by decide, by decide⟩
theorem ItTup.iterish {l : Addr} {i : Nat} {o : Obj} (h : ItTup l i o) : Iterish o := ⟨_, h.1, by decide, by decide, by decide⟩
theorem ItStr.iterish' {ty : String} {o : Obj} (hty : ty = "str_ascii_iterator" ∨ ty = "str_iterator") (h : o.cls = .type ty) : Iterish o := by
  rcases hty with rfl | rfl <;> exact ⟨_, h, by decide, by decide, by decide⟩
theorem Pile.weak {x : Addr × Obj} (P : Pile C X pl d pcs) : Pile C (x :: X) pl d pcs :=
  ⟨P.obj.imp fun _ => .tail _, P.dict.imp fun _ ⟨a, b, c, h⟩ => ⟨a, b, c, .tail _ h⟩, fun c hc => .tail _ (P.its c hc)⟩
theorem Keeps.weak {x : Addr × Obj} {X' : List (Addr × Obj)} (K : Keeps pl (x :: X) X') : Keeps pl X X' := fun q hq e => K q (.tail _ hq) e
end
end Mine
end
noncomputable section
open PySem PySem.W PySem.Calls PyProof.Rows Mine
set_option Elab.async false
set_option maxRecDepth 100000
set_option maxHeartbeats 4000000
namespace Mine
theorem law_good {c : ClaimW} {cl : Str → Option Addr} {mean : ExcName → Option Value} {args : List WData} {s₁ s' : Shared} {tabs : List (Addr × Addr)} {L : Addr} {m : Str → Option Value} {b : Bool} (hT : TabsAt tabs s₁.heap) (F : Fr (ghostOf s₁.heap tabs) L s'.heap m) (hgr : GrownAll tabs s'.heap)
    (hg : AllBare s'.gens) (hn : ∀ cls, c.raises args cls = false) (hp : c.post args (.bool b) args = true) (hos : s'.os = s₁.os) : GoodWG c cl mean args s₁ (.ok (.ret (.bool b))) s' := by
  have keep : ∀ b o, b ∉ tabs.map (·.2) → s₁.heap.get? b = some o → s'.heap.get? b = some o := fun b o hb e => F.keep b o (ghost_ne e hb)
  have grown : ∀ b o, b ∈ tabs.map (·.2) → s₁.heap.get? b = some o → isCodeTable s₁.heap b ∧ o = tabObj #[] ∧ ∃ ps, s'.heap.get? b = some (tabObj ps) := fun b o hb e => by
    obtain ⟨q, hq, rfl⟩ := List.mem_map.mp hb
    have e2 := (hT q hq).2
    rw [e] at e2
    exact ⟨((hT q hq).1.tab (hT q hq).2).isCodeTable, Option.some.inj e2, hgr.get q hq⟩
  refine ⟨.inl ⟨.bool b, .bool b, [], rfl, hn, .bool b, hp, fun _ => ⟨.nil, fun _ h => nomatch h⟩⟩, ⟨fun b o e => ?_, fun b o e => ?_⟩, hos, hg⟩
  · by_cases hb : b ∈ tabs.map (·.2)
    · obtain ⟨ht, rfl, ps, hP⟩ := grown b o hb e
      exact .inr (.inl ⟨ht, rfl, #[], ps, rfl, by rw [Array.empty_append]; exact hP⟩)
    · exact .inl (keep b o hb e)
  · by_cases hb : b ∈ tabs.map (·.2)
    · obtain ⟨_, _, ps, hP⟩ := grown b o hb e
      exact ⟨_, hP⟩
    · exact ⟨o, keep b o hb e⟩
end Mine
end
noncomputable section
open PySem PySem.W PySem.Calls PyProof.Rows PyProof.V PySem.Spec Mine
set_option Elab.async false
set_option maxRecDepth 100000
set_option maxHeartbeats 4000000
namespace Mine
section
variable {prog : Program} {w : World} {A : Around} {E : Value → Shared → Prop} {s : Shared} {env : Env} {h₀ : Heap} {L : Addr} {Q : Flow → Shared → Prop}
def ItRng (a c : Int) (n : Nat) (i : Nat) (o : Obj) : Prop := o = { cls := .type "range_iterator", dict := none, data := .fields #[rawInt (a + (i : Nat) * c), rawInt ((n : Int) - (i : Nat)), rawInt c], slots := #[] }
theorem iterRng (hh : A.handled = none) (I : Addr) (a c : Int) (n : Nat) : LedIter prog w A I n (ItRng a c n) (fun i v => ∃ t, v = .int (a + i * c) t) (fun _ => True) where
  item := fun i o s Q E hi hg hit _ hQ => by
    subst hit
    refine wpAny_pyNext_range_item hg (by omega) fun h' hit' hs' => ?_
    refine hQ _ h' _ _ ⟨_, rfl⟩ hit' ?_ hs'.extBut
    have e1 : a + ((i + 1 : Nat) : Int) * c = a + (i : Int) * c + c := by push_cast; rw [Int.add_mul, Int.one_mul, Int.add_assoc]
    have e2 : (n : Int) - ((i + 1 : Nat) : Int) = (n : Int) - (i : Int) - 1 := by push_cast; omega
    show _ = _
    rw [e1, e2]
  done := fun o s Q E hg hit _ hQ => by
    subst hit
    exact wpAny_pyNext_range_end hh hg (by omega) fun h' he' => hQ h' s.toks he'
  plain := fun _ _ h => by
    subst h
    exact ⟨_, _, rfl, rfl, by decide⟩
theorem led_range {target : PySem.Expr} {body : List Stmt} {r : Addr} {a b c : Int} {t u v : Tok} {n : Nat} {m : Str → Option Value} {news : List (Addr × Obj)} (J : Inv) (hh : A.handled = none) (hr : IsRange s.heap r a b c t u v) (hsmall : Builtin.Range.small a b c = true) (hn : Builtin.Range.rangeSize a b c = (n : Int)) (F : Fr h₀ L s.heap m) (N : News h₀ L s.heap news) (hJ : J 0 m news s.gens)
    (turn : ∀ I i t m₁ news₁ h tk gs o, i < n → J i m₁ news₁ gs → Fr h₀ L h m₁ → News h₀ L h ((I, o) :: news₁) → ItRng a c n (i + 1) o → (∀ q ∈ news₁, q.1 ≠ I) →
      wpAny (model prog w) A (assign target env (.int (a + (i : Nat) * c) t)) (fun _ s₃ => wpAny (model prog w) A (execs body env) (LedStep h₀ L s I (ItRng a c n) J Q i) E s₃) E { s with heap := h, gens := gs, toks := tk })
    (done : ∀ m₁ news₁ h tk gs, J n m₁ news₁ gs → Fr h₀ L h m₁ → News h₀ L h news₁ → Q .next { s with heap := h, gens := gs, toks := tk }) :
    LedPre prog w A h₀ L env target body Q E (.ref r) s := by
  unfold LedPre
  have hf : ∀ q ∈ news, q.1 ≠ s.heap.objs.size := fun q hq => Nat.ne_of_lt (Heap.lt_size (N q hq).1)
  have D := iterRng (prog := prog) (w := w) (A := A) hh s.heap.objs.size a c n
  refine wpAny_pyIter_range hr hsmall ?_
  refine ⟨_, _, _, _, _, _, m, news, J, rfl, D, ?_, F.push _, N.push F _, hf, hJ, fun _ _ _ _ _ _ _ _ => trivial, ?_, done⟩
  · show _ = _
    rw [hn]
    simp
  · rintro i v m₁ news₁ h tk gs o hi ⟨t, rfl⟩ hJ₁ F₁ N₁ hIt hne
    exact turn _ i t m₁ news₁ h tk gs o hi hJ₁ F₁ N₁ hIt hne
end
end Mine
end
noncomputable section
open PySem PySem.W PySem.Calls PyProof.Rows PyProof.V PySem.Spec Mine
set_option Elab.async false
set_option maxRecDepth 100000
set_option maxHeartbeats 4000000
namespace Mine
section
variable {prog : Program} {w : World} {A : Around} {E : Value → Shared → Prop} {s : Shared} {h₀ : Heap} {L : Addr} {m : Str → Option Value} {news : List (Addr × Obj)} {Q : Value → Shared → Prop}
theorem lst_item {value slice : PySem.Expr} {l : Addr} {items : List Value} {n : Nat} {k : Int} {u : Tok} {v : Value} (N : News h₀ L s.heap news) (hm : (l, lstO items n) ∈ news)
    (h0 : 0 ≤ k) (hfit : k < 2 ^ 63) (hx : items[k.toNat]? = some v) (h : Q v s)
    (hs : subscripted slice false (.ref l) (.int k u) = operate [.ref l, .int k u] (getItem (.ref l) (.int k u))) :
    wpAny (model prog w) A (subscriptTail value slice (.ref l) (.int k u)) Q E s :=
  tail_any (News.isList N hm).typeIs slot_list_getitem.lookup (getItem_listL (News.isList N hm) h0 hfit hx h) hs
end
end Mine
end
noncomputable section
open PySem PySem.W PySem.Calls PyProof.Rows Mine Builtin Builtin.Str
set_option Elab.async false
set_option maxRecDepth 100000
set_option maxHeartbeats 4000000
namespace Mine
def occL (o : List Nat) : Nat → Nat → List Nat → List Nat
  | _, _, [] => []
  | i, 0, c :: x => if (c :: x).take o.length = o then i :: occL o (i + 1) (o.length - 1) x else occL o (i + 1) 0 x
  | i, k + 1, _ :: x => occL o (i + 1) k x
/-- replace, on plain lists: from the left, what is found gives way, and is not looked at again -/
def rp {α : Type} [DecidableEq α] (o n : List α) : Nat → List α → List α
  | _, [] => []
  | 0, c :: x => if (c :: x).take o.length = o then n ++ rp o n (o.length - 1) x else c :: rp o n 0 x
  | k + 1, _ :: x => rp o n k x
theorem occ_list (s sub : Str) (limit : Nat) (ho : 1 ≤ sub.length) : ∀ (n i : Nat) (found : Array Nat) (free : Nat), i + n = s.length + 1 → found.size + n ≤ limit →
    (forIn (List.range' i n) (found, free) (StrLaws.occBody s sub s.length limit)).run.fst.toList = found.toList ++ occL sub.cps.toList i (free - i) (s.cps.toList.drop i)
  | 0, i, found, free, hi, _ => by
    have e : s.cps.toList.drop i = [] := List.drop_eq_nil_of_le (by show s.cps.toList.length ≤ i; rw [Array.length_toList]; show s.length ≤ i; omega)
    rw [e, occL]
    simp
  | n + 1, i, found, free, hi, hl => by
    rw [List.range'_succ, List.forIn_cons]
    have hlen : s.cps.toList.length = s.length := Array.length_toList
    have hol : sub.cps.toList.length = sub.length := Array.length_toList
    unfold StrLaws.occBody
    by_cases hend : i < s.length
    · have hd : s.cps.toList.drop i = s.cps.toList[i]'(by omega) :: s.cps.toList.drop (i + 1) := List.drop_eq_getElem_cons (by omega)
      by_cases hf : free ≤ i
      · have hz : free - i = 0 := by omega
        by_cases hm : (s.cps.toList.drop i).take sub.cps.toList.length = sub.cps.toList
        · have hsz : i + sub.length ≤ s.length := by
            have e := congrArg List.length hm
            rw [List.length_take, List.length_drop, hlen, hol] at e
            omega
          have hat : subAt s sub i = true := by rw [StrLaws.subAt_eq, beq_iff_eq, ← hol]; exact hm
          rw [if_pos ⟨⟨⟨by dsimp only; omega, hf⟩, hsz⟩, hat⟩]
          have ih := occ_list s sub limit ho n (i + 1) (found.push i) (i + sub.length) (by omega) (by rw [Array.size_push]; omega)
          refine Eq.trans ih ?_
          rw [hd] at hm ⊢
          rw [hz, occL, if_pos hm, Array.toList_push, List.append_assoc]
          have e : i + sub.length - (i + 1) = sub.cps.toList.length - 1 := by omega
          rw [e]; rfl
        · have hat : ¬ subAt s sub i = true := by rw [StrLaws.subAt_eq, beq_iff_eq, ← hol]; exact hm
          rw [if_neg fun h => hat h.2]
          have ih := occ_list s sub limit ho n (i + 1) found free (by omega) (by omega)
          refine Eq.trans ih ?_
          rw [hd] at hm ⊢
          rw [hz, occL, if_neg hm, show free - (i + 1) = 0 by omega]
      · rw [if_neg fun h => hf h.1.1.2]
        have ih := occ_list s sub limit ho n (i + 1) found free (by omega) (by omega)
        refine Eq.trans ih ?_
        rw [hd, show free - i = (free - (i + 1)) + 1 by omega, occL]
    · have e : s.cps.toList.drop i = [] := List.drop_eq_nil_of_le (by omega)
      have e' : s.cps.toList.drop (i + 1) = [] := List.drop_eq_nil_of_le (by omega)
      rw [if_neg fun h => by have := h.1.2; omega]
      have ih := occ_list s sub limit ho n (i + 1) found free (by omega) (by omega)
      refine Eq.trans ih ?_
      rw [e, e', occL, occL]
def gl (X N : List Nat) (w : Nat) : Nat → List Nat → List Nat
  | a, [] => X.drop a
  | a, c :: cs => (X.drop a).take (c - a) ++ N ++ gl X N w (c + w) cs
theorem glue_list (x n : Str) (w : Nat) : ∀ (cuts : List Nat) (a : Nat), (glued n (((a :: cuts.map (· + w)).zip (cuts ++ [x.length])).map fun (i, j) => strSub x i j)).cps.toList = gl x.cps.toList n.cps.toList w a cuts
  | [], a => by
    rw [StrLaws.glued_eq_join]
    show (strSub x a x.length).cps.toList = _
    rw [StrLaws.strSub_toList, gl]
    refine List.take_of_length_le ?_
    rw [List.length_drop, Array.length_toList]
    exact Nat.le_refl _
  | c :: cs, a => by
    have ih := glue_list x n w cs (c + w)
    rw [StrLaws.glued_eq_join] at ih ⊢
    have e : (((a :: (c :: cs).map (· + w)).zip ((c :: cs) ++ [x.length])).map fun (i, j) => strSub x i j) = strSub x a c :: ((((c + w) :: cs.map (· + w)).zip (cs ++ [x.length])).map fun (i, j) => strSub x i j) := rfl
    rw [e]
    obtain ⟨y, r, hr⟩ : ∃ y r, ((((c + w) :: cs.map (· + w)).zip (cs ++ [x.length])).map fun (i, j) => strSub x i j) = y :: r := by
      cases cs with
      | nil => exact ⟨_, _, rfl⟩
      | cons d ds => exact ⟨_, _, rfl⟩
    rw [hr] at ih ⊢
    show (strSub x a c ++ n ++ Str.join n (y :: r)).cps.toList = _
    rw [Str.cps_append, Str.cps_append, Array.toList_append, Array.toList_append, ih, StrLaws.strSub_toList, gl]
theorem gl_rp (X o N : List Nat) (ho : 1 ≤ o.length) : ∀ (y : List Nat) (i : Nat), X.drop i = y →
    (∀ a, a ≤ i → gl X N o.length a (occL o i 0 y) = (X.drop a).take (i - a) ++ rp o N 0 y) ∧ (∀ k, gl X N o.length (i + k) (occL o i k y) = rp o N k y)
  | [], i, h => by
    have hle : X.length ≤ i := List.drop_eq_nil_iff.mp h
    refine ⟨fun a ha => ?_, fun k => ?_⟩
    · rw [occL, gl, rp, List.append_nil, List.take_of_length_le (by rw [List.length_drop]; omega)]
    · rw [occL, gl, rp, List.drop_eq_nil_of_le (by omega)]
  | c :: y, i, h => by
    have h' : X.drop (i + 1) = y := by rw [← List.drop_drop, h]; rfl
    have hc : X[i]? = some c := by
      have e : (X.drop i)[0]? = some c := by rw [h]; rfl
      rwa [List.getElem?_drop, Nat.add_zero] at e
    obtain ⟨ih1, ih2⟩ := gl_rp X o N ho y (i + 1) h'
    have first : ∀ a, a ≤ i → gl X N o.length a (occL o i 0 (c :: y)) = (X.drop a).take (i - a) ++ rp o N 0 (c :: y) := by
      intro a ha
      rw [occL, rp]
      by_cases hm : (c :: y).take o.length = o
      · rw [if_pos hm, if_pos hm, gl, show i + o.length = (i + 1) + (o.length - 1) by omega, ih2, List.append_assoc]
      · rw [if_neg hm, if_neg hm, ih1 a (by omega), show i + 1 - a = (i - a) + 1 by omega, List.take_add_one, List.getElem?_drop, show a + (i - a) = i by omega, hc, List.append_assoc]
        rfl
    refine ⟨first, fun k => ?_⟩
    cases k with
    | zero =>
      have := first i (Nat.le_refl _)
      rw [Nat.sub_self, List.take_zero, List.nil_append] at this
      exact this
    | succ k =>
      rw [occL, rp, show i + (k + 1) = (i + 1) + k by omega]
      exact ih2 k
theorem rp_short {α : Type} [DecidableEq α] (o n : List α) : ∀ y : List α, y.length < o.length → rp o n 0 y = y
  | [], _ => rfl
  | c :: y, h => by
    have hm : ¬ (c :: y).take o.length = o := fun e => by
      have := congrArg List.length e
      rw [List.length_take] at this
      omega
    rw [rp, if_neg hm, rp_short o n y (Nat.lt_trans (Nat.lt_succ_self _) h)]
theorem kind_ge (x : Str) : 1 ≤ Builtin.Str.strKind x := by unfold Builtin.Str.strKind; split; exact Nat.le_refl _; split <;> decide
theorem repl_rp (x o n : Str) (ho : 1 ≤ o.length) (hk : Builtin.Str.strKind o = 1) : (repl x o n).cps.toList = rp o.cps.toList n.cps.toList 0 x.cps.toList := by
  have hol : o.cps.toList.length = o.length := Array.length_toList
  have hxl : x.cps.toList.length = x.length := Array.length_toList
  have h1 : ∀ x : Str, glued n [x] = x := fun x => (StrLaws.glued_eq_join n [x]).trans rfl
  have hocc : occurrences x o 0 x.length (x.length + 1) = occL o.cps.toList 0 0 x.cps.toList := by
    rw [StrLaws.occ_eq]
    exact (occ_list x o (x.length + 1) ho (x.length + 1) 0 #[] 0 (by omega) (by simp)).trans (by simp)
  have hC := ((gl_rp x.cps.toList o.cps.toList n.cps.toList (by omega) x.cps.toList 0 rfl).1 0 (Nat.le_refl _))
  rw [Nat.sub_self, List.take_zero, List.nil_append] at hC
  unfold repl Txt.join Txt.split
  split
  · rename_i h
    rw [h1]
    have hlt : x.length < o.length := by
      rcases (Bool.or_eq_true _ _).mp h with h | h
      · exact of_decide_eq_true h
      · have h2 := of_decide_eq_true h
        have := kind_ge x
        omega
    rw [rp_short _ _ _ (by omega)]
  · split
    · rename_i h
      rw [h1, ← hC]
      rw [hocc] at h
      rw [List.isEmpty_iff.mp h, gl]; rfl
    · rw [hocc, ← hC, ← hol]
      exact glue_list x n _ _ 0
section
variable {α β : Type} [DecidableEq α] [DecidableEq β]
theorem map_inj' {f : α → β} (hf : ∀ a b, f a = f b → a = b) : ∀ {x y : List α}, x.map f = y.map f → x = y
  | [], [], _ => rfl
  | [], _ :: _, h => by cases h
  | _ :: _, [], h => by cases h
  | a :: x, b :: y, h => by
    rw [List.map_cons, List.map_cons] at h
    injection h with h1 h2
    rw [hf a b h1, map_inj' hf h2]
theorem rp_map {f : α → β} (hf : ∀ a b, f a = f b → a = b) (o n : List α) : ∀ (x : List α) (k : Nat), rp (o.map f) (n.map f) k (x.map f) = (rp o n k x).map f
  | [], k => by cases k <;> rfl
  | c :: x, 0 => by
    have hm : ((c :: x).map f).take (o.map f).length = o.map f ↔ (c :: x).take o.length = o := by
      rw [List.length_map, ← List.map_take]
      exact ⟨fun h => map_inj' hf h, fun h => by rw [h]⟩
    rw [List.map_cons, rp, rp]
    rw [List.map_cons] at hm
    by_cases h : (c :: x).take o.length = o
    · rw [if_pos h, if_pos (hm.mpr h), List.map_append, List.length_map, rp_map hf o n x]
    · rw [if_neg h, if_neg fun e => h (hm.mp e), List.map_cons]
      have := rp_map hf o n x 0
      rw [this]
  | c :: x, k + 1 => by
    rw [List.map_cons, rp, rp]
    exact rp_map hf o n x k
end
end Mine
end
noncomputable section
open PySem PySem.W PySem.Calls PyProof PyProof.Rows PyProof.V PySem.Spec Mine Builtin Builtin.Str
set_option Elab.async false
set_option maxRecDepth 100000
set_option maxHeartbeats 4000000
set_option linter.unusedVariables false
namespace Mine
theorem sliceIdx_clip (a b len : Nat) : strSliceIndices (some (a : Int)) (some (b : Int)) 1 len = strSliceIndices (some ((min a len : Nat) : Int)) (some ((min b len : Nat) : Int)) 1 len := by
  simp only [strSliceIndices, show ((1 : Int) > 0) = True from by simp, if_true]
  congr 1 <;> omega
theorem txt_slice (x : Str) (a n : Nat) : (Txt.slice x (some (a : Int)) (some ((a : Int) + (n : Int)))).cps.toList = (x.cps.toList.drop a).take n := by
  have hlen : x.cps.toList.length = x.length := Array.length_toList
  rw [← Int.natCast_add]
  have key : (strSliceIndices (some (a : Int)) (some ((a + n : Nat) : Int)) 1 x.length).filterMap (x.cps[·]?) = (x.cps.toList.drop a).take n := by
    rw [sliceIdx_clip, StrLaws.sliced_plain x (by omega) (by omega)]
    by_cases h : a ≤ x.length
    · rw [show min a x.length = a by omega]
      by_cases h2 : a + n ≤ x.length
      · rw [show min (a + n) x.length - a = n by omega]
      · rw [List.take_of_length_le (by rw [List.length_drop]; omega), List.take_of_length_le (by rw [List.length_drop]; omega)]
    · rw [List.drop_eq_nil_of_le (by omega), List.drop_eq_nil_of_le (by omega)]
      simp
  unfold Txt.slice
  split
  · rename_i h
    have h2 : (strSliceIndices (some (a : Int)) (some ((a + n : Nat) : Int)) 1 x.length).length = x.length := by simpa using h
    have h3 : (strSliceIndices (some (a : Int)) (some ((a + n : Nat) : Int)) 1 x.length).filterMap (x.cps[·]?) = x.cps.toList := by
      rw [sliceIdx_clip, StrLaws.strSliceIndices_plain (by omega) (by omega), List.length_map, List.length_range] at h2
      rw [key]
      by_cases hz : x.length = 0
      · have : x.cps.toList = [] := List.eq_nil_of_length_eq_zero (by omega)
        rw [this]; simp
      · rw [show a = 0 by omega, List.drop_zero, List.take_of_length_le (by omega)]
    rw [← key, h3]
  · rw [key]
theorem rp_drop {α : Type} [DecidableEq α] (o n : List α) : ∀ (k : Nat) (x : List α), rp o n k x = rp o n 0 (x.drop k)
  | 0, _ => rfl
  | k + 1, [] => by simp [rp]
  | k + 1, c :: x => by rw [rp, rp_drop o n k x]; rfl
end Mine
namespace Mine
theorem str_ext' {a b : Str} (h : a.cps.toList = b.cps.toList) : a = b := Str.ext' (Array.toList_inj.mp h)
end Mine
end
noncomputable section
open PySem PySem.W PySem.Calls PyProof PyProof.Rows PyProof.V PySem.Spec Mine Builtin Builtin.Str
set_option Elab.async false
set_option maxRecDepth 100000
set_option maxHeartbeats 4000000
set_option linter.unusedVariables false
namespace Mine
section
variable {prog : Program} {w : World} {A : Around} {E : Value → Shared → Prop} {s : Shared} {h₀ : Heap} {L : Addr} {m : Str → Option Value} {news : List (Addr × Obj)} {Q : Value → Shared → Prop}
end
theorem join0' : ∀ l : List Str, (Txt.join (Str.ofString "") l).cps.toList = (l.map (·.cps.toList)).flatten := by
  intro l
  unfold Txt.join
  rw [StrLaws.glued_eq_join]
  induction l with
  | nil => rfl
  | cons x r ih =>
    cases r with
    | nil => show x.cps.toList = _; simp
    | cons y t =>
      show (x ++ Str.ofString "" ++ Str.join (Str.ofString "") (y :: t)).cps.toList = _
      rw [Str.cps_append, Str.cps_append, Array.toList_append, Array.toList_append, ih, show (Str.ofString "").cps.toList = [] from by decide +kernel]
      simp
end Mine
end
noncomputable section
open PySem PySem.W PySem.Calls PyProof PyProof.Rows PyProof.V PySem.Spec Mine Builtin Builtin.Str
set_option Elab.async false
set_option maxRecDepth 100000
set_option maxHeartbeats 4000000
set_option linter.unusedVariables false
namespace Mine
section
variable {prog : Program} {w : World} {A : Around} {E : Value → Shared → Prop} {s : Shared} {env : Env} {h₀ : Heap} {L : Addr} {m : Str → Option Value} {news : List (Addr × Obj)}
def partV (c : Pc) : Value := .str c.p c.tp
theorem parts_led {scope : Scope} {cl : List (Str × Addr)} {p1 : Pos} {tl : Addr} {qs : List Pc} {k : Nat} {Q : Value → Shared → Prop} (hh : A.handled = none) (F : Fr h₀ L s.heap m) (N : News h₀ L s.heap news)
    (hm : (tl, lstO (qs.map Pc.v) k) ∈ news) (hq : ∀ c ∈ qs, (c.a, c.obj) ∈ news) (hz : qs.length ≤ 1000) (hk : scope.kind = .function) (hkp : ∀ C, (compEnvC scope cl C env).kindOf (Str.ofString "part") = some .local)
    (h : ∀ D h' tk, Fr h₀ L h' m → News h₀ L h' ((D, lstO (qs.map partV) qs.length) :: news) → Q (.ref D) { s with heap := h', toks := tk }) :
    LCp.SrcLP prog w A h₀ L m env (.Name (Str.ofString "part") p1) (Str.ofString "gap") (Str.ofString "part") scope cl (fun s₂ => LCg.FinE h₀ L m s₂ Q) (.ref tl) s := by
  refine LCp.SrcLP.ledger hh F N hm (by rw [List.size_toArray, List.length_map, sizeLine_eq]; omega) (fun g => ?_)
  have key : ∀ (r done : List Pc), qs = done ++ r → LCp.CompRestP prog w A h₀ L m env (.Name (Str.ofString "part") p1) (Str.ofString "gap") (Str.ofString "part") scope cl { s with heap := g } (LCg.SrcAt h₀ tl (qs.map Pc.v).toArray) (fun i v => (qs.map Pc.v).toArray[i]? = some v) (LCg.FinE h₀ L m { s with heap := g } Q) r.length done.length (done.map partV) news := by
    intro r
    induction r with
    | nil =>
      intro done e
      rw [List.append_nil] at e
      subst e
      refine LCp.CompRestP.zero fun D h' tk F' N' off => h D h' tk F' ?_
      have e2 : LCg.lst (qs.map partV) = lstO (qs.map partV) qs.length := by unfold LCg.lst lstO; rw [List.length_map]
      rw [← e2]
      exact N'
    | cons c r ih =>
      intro done e
      refine LCp.CompRestP.succ fun v hv => ?_
      have hc : v = .ref c.a := by
        have : (qs.map Pc.v)[done.length]? = some v := by simpa using hv
        rw [e, List.map_append, List.getElem?_append_right (by rw [List.length_map]; exact Nat.le_refl _), List.length_map, Nat.sub_self] at this
        exact (Option.some.inj this).symm
      subst hc
      have hcm : c ∈ qs := by rw [e]; exact List.mem_append_right _ List.mem_cons_self
      refine ⟨c.a, c.obj, .str c.f c.tf, .str c.p c.tp, _, rfl, hq c hcm, rfl, rfl, ?_⟩
      intro I oI C oC D m₂ h' tk E' hC hx hx2 F' N' off ne
      refine wpAny_Name (wpAny_loadName_local hk (hkp C) (LCg.NsObj.ns hC (N' _ (.tail _ (.head _))).1) hx2 ?_) (by decide)
      refine ⟨h', tk, news, rfl, F', N', off, .inr ⟨_, hm, rfl, _, rfl⟩, ?_⟩
      have := ih (done ++ [c]) (by rw [e]; simp)
      rw [List.length_append, List.length_singleton, List.map_append] at this
      exact this
  have := key qs [] rfl
  rw [List.size_toArray, List.length_map]
  exact this
end
end Mine
namespace Mine
section
variable {prog : Program} {w : World} {A : Around} {E : Value → Shared → Prop} {s : Shared} {h₀ : Heap} {L : Addr} {m : Str → Option Value} {news : List (Addr × Obj)} {Q : Value → Shared → Prop}
theorem strsAre_get {vals : List Value} {xs : List Str} (h : StrsAre vals xs) : ∀ i, i < xs.length → ∃ t, vals[i]? = some (.str (xs.getD i default) t) := by
  induction h with
  | nil => intro i hi; exact absurd hi (Nat.not_lt_zero _)
  | cons x t _ ih =>
    intro i hi
    cases i with
    | zero => exact ⟨_, rfl⟩
    | succ i => exact ih i (Nat.lt_of_succ_lt_succ hi)
theorem strsAre_len {vals : List Value} {xs : List Str} (h : StrsAre vals xs) : vals.length = xs.length := by
  induction h with
  | nil => rfl
  | cons _ _ _ ih => exact congrArg (· + 1) ih
theorem tup_pick {value slice : PySem.Expr} {tp : Addr} {vals : List Value} {xs : List Str} {k : Int} {u : Tok} (N : News h₀ L s.heap news) (hm : (tp, tupO vals) ∈ news) (hv : StrsAre vals xs) (h0 : 0 ≤ k) (h1 : k < (xs.length : Int)) (hz : xs.length ≤ 1000)
    (h : ∀ t', Q (.str (xs.getD k.toNat default) t') s)
    (hs : subscripted slice false (.ref tp) (.int k u) = operate [.ref tp, .int k u] (getItem (.ref tp) (.int k u))) : wpAny (model prog w) A (subscriptTail value slice (.ref tp) (.int k u)) Q E s := by
  obtain ⟨t, ht⟩ := strsAre_get hv k.toNat (by omega)
  have hl := strsAre_len hv
  refine item_tupleT (l := vals) (j := k.toNat) (News.isTup N hm) (by omega) (by omega) ?_ ht (h t) hs
  have h0' : ¬ k < 0 := by omega
  simp only [seqIndex?, if_neg h0']
  rw [if_pos (by simp; omega)]
end
end Mine
end
noncomputable section
open PySem PySem.W PySem.Calls PyProof PyProof.Rows PyProof.V PySem.Spec Mine Builtin Builtin.Str
set_option Elab.async false
set_option maxRecDepth 100000
set_option maxHeartbeats 4000000
set_option linter.unusedVariables false
namespace Mine
section
variable {prog : Program} {w : World} {A : Around} {E : Value → Shared → Prop} {s : Shared} {h₀ : Heap} {L : Addr} {m : Str → Option Value} {news : List (Addr × Obj)} {Q : Value → Shared → Prop}
theorem lst_append {D : Addr} {its : List Value} {n : Nat} {v : Value} (F : Fr h₀ L s.heap m) (N : News h₀ L s.heap news) (hD : (D, lstO its n) ∈ news) (hz : its.length ≤ sizeLine)
    (h : ∀ h', Fr h₀ L h' m → News h₀ L h' (setAt D (lstO (its ++ [v]) (n + 1)) news) → Q .none { s with heap := h' }) : wpAny (model prog w) A (call (.builtin "list.append") [.ref D, v]) Q E s := by
  have z := N _ hD
  refine append_at (hsz := by simpa using hz) z.1 fun h' hs ho => h h' (F.change hs z.2.1 z.2.2) (news_setAt N hD hs ?_)
  rw [ho]
  simp
theorem lst_pop {D : Addr} {p : List Value} {y : Value} {n : Nat} (F : Fr h₀ L s.heap m) (N : News h₀ L s.heap news) (hD : (D, lstO (p ++ [y]) n) ∈ news) (hz : (p ++ [y]).length ≤ sizeLine)
    (h : ∀ h', Fr h₀ L h' m → News h₀ L h' (setAt D (lstO p (n + 1)) news) → Q y { s with heap := h' }) : wpAny (model prog w) A (call (.builtin "list.pop") [.ref D]) Q E s := by
  have z := N _ hD
  have hk : (p ++ [y]).toArray.size - 1 = p.length := by rw [List.size_toArray, List.length_append]; rfl
  have hy : (p ++ [y]).toArray[(p ++ [y]).toArray.size - 1]? = some y := by rw [hk]; simp
  refine call_meets PySem.F.slot_list_pop ⟨_, z.1, rfl⟩ PySem.F.entry_list_pop (PySem.F.args_list_pop_1 _) (PySem.MeetsSeq.list_pop_last D _ n y hy (by rw [List.size_toArray]; exact hz)) ⟨z.1, h _ (F.change (Heap.SameBut.update ..) z.2.1 z.2.2) (news_setAt N hD (Heap.SameBut.update ..) ?_)⟩
  have q := PySem.IsL.update z.1 (fun a : Array Value => a.eraseIdxIfInBounds ((p ++ [y]).toArray.size - 1))
  have e : (p ++ [y]).toArray.eraseIdxIfInBounds ((p ++ [y]).toArray.size - 1) = p.toArray := by rw [hk, kl_erase, List.append_nil]
  rw [e, if_neg (by simp)] at q
  exact q
end
end Mine
end
noncomputable section
open PySem PySem.W PySem.Calls PyProof PyProof.Rows PyProof.V PySem.Spec Mine Builtin Builtin.Str
set_option Elab.async false
set_option maxRecDepth 100000
set_option maxHeartbeats 4000000
set_option linter.unusedVariables false
namespace Mine
section
variable {prog : Program} {w : World} {A : Around} {E : Value → Shared → Prop} {s : Shared} {h₀ : Heap} {L : Addr} {m mg mb : Str → Option Value} {news : List (Addr × Obj)} {K : Frag} {x C D so q dx : Addr} {ox : Obj} {odx : Option Obj}
theorem super_pop {pl : Sem Bool} {Q : Value × List Value → Shared → Prop} (F : Fr h₀ L s.heap m) (X₀ : K.In h₀) (N : News h₀ L s.heap news) (hso : (so, ks_superObj D x C) ∈ news) (I : InstAt s.heap x ox C odx) (ho : nsIn K cStatics "thirdparty.any" = some none)
    (hm : ks_superIn K C D "pop" = some (some (.builtin "list.pop"))) (hl : mroIn K C (.type "list") = some true)
    (h : ∀ q h', Fr h₀ L h' m → News h₀ L h' ((q, boundO "builtin_function_or_method" "list.pop" x) :: news) → (∀ p ∈ news, p.1 < q) → Q (.ref q, []) { s with heap := h', toks := s.toks + 1 }) : wpAny (model prog w) A (getMethod (.ref so) "pop" pl) Q E s :=
  super_bi F X₀ N hso I ho hm (by decide) Mine.F.ty_pop Mine.F.slot_md_get Mine.F.entry_md_get Mine.F.mdArgs (fun hq => md_get I.at_ I.cls (looks_mroIn (X₀.keeps F.keep) hl) hq) h
theorem seq_last (p : List Value) (y : Value) : seqIndex? (-1) (p ++ [y]).toArray.size = some p.length := by
  have e : ((p ++ [y]).toArray.size : Int) = p.length + 1 := by simp
  unfold seqIndex?
  rw [e]
  have h1 : ((-1 : Int) < 0) = True := by simp
  simp only [h1, if_true]
  have h2 : (-1 + ((p.length : Int) + 1)) = p.length := by omega
  rw [h2]
  simp
  omega
theorem bi_pop {p : List Value} {y : Value} {n : Nat} {Q : Value → Shared → Prop} (F : Fr h₀ L s.heap m) (N : News h₀ L s.heap news) (hm : (x, pileO C dx (p ++ [y]) n) ∈ news) (hz : (p ++ [y]).length ≤ sizeLine)
    (h : ∀ h' n', Fr h₀ L h' m → News h₀ L h' (setAt x (pileO C dx p n') news) → Q y { s with heap := h' }) :
    wpAny (model prog w) A (Builtin.«list.pop» ⟨[.ref x], []⟩) (fun fin s' => ∃ v, fin = .done (.ret v) ∧ Q v s') E s := by
  have z := N _ hm
  have hidx := seq_last p y
  have hget : (p ++ [y]).toArray[p.length]? = some y := by simp
  have hb : (seqIndex? (-1) (p ++ [y]).toArray.size).bind (fun k => (p ++ [y]).toArray[k]?.map (k, ·)) = some (p.length, y) := by rw [hidx]; simp
  have e : (p ++ [y]).toArray.eraseIdxIfInBounds p.length = p.toArray := by rw [kl_erase, List.append_nil]
  unfold Builtin.«list.pop»
  refine wpAny_bind (wpAny_of_eq (a := (.ref x, [])) (by rfl) ?_)
  dsimp only
  refine wpAny_bind (wpAny_pure ?_)
  have hfit : (!Builtin.List.listFitsIndex (-1)) = false := by decide
  rw [if_neg (by rw [hfit]; exact Bool.false_ne_true)]
  refine wpAny_bind ?_
  unfold Builtin.List.listItems
  refine wpAny_bind (wpAny_seqItems z.1 rfl (wpAny_pure ?_))
  rw [if_neg (by simp)]
  rw [hb]
  show wpAny _ _ (updateSeq x _ >>= fun _ => ret y) _ _ s
  refine wpAny_bind (wpAny_updateSeq z.1 rfl (wpAny_pure ⟨y, rfl, h _ (n + 1) (F.change (Heap.SameBut.update ..) z.2.1 z.2.2) (news_setAt N hm (Heap.SameBut.update ..) ?_)⟩) (by simpa using hz) ?_)
  · rw [Heap.get?_update_self _ z.1 (by simp [Obj.mapSeq, Obj.isFreed])]
    simp [Obj.mapSeq, e]
  · rw [e]
    rw [List.length_append, List.length_singleton] at hz
    simp
    omega
end
end Mine
end
noncomputable section
open PySem PySem.W PySem.Calls PyProof PyProof.Rows PyProof.V PySem.Spec Mine Builtin Builtin.Str
set_option Elab.async false
set_option maxRecDepth 100000
set_option maxHeartbeats 4000000
set_option linter.unusedVariables false
namespace Mine
section
variable {prog : Program} {w : World} {A : Around} {E : Value → Shared → Prop} {s : Shared} {K : Frag} {x C dx : Addr} {od : Option Obj}
theorem check_pop {cd : ClassData} {vs : List Value} {n : Nat} {Q : Unit → Shared → Prop} (X : K.In s.heap) (I : InstAt s.heap x (pileO C dx vs n) C od) (hmod : mroIn K C (.type "module") = some false) (hcd : clsIn K C = some cd) (htc : typeIn K (.ref C) = some (.type "type")) (hqn : cd.qualname = Str.ofString "_Accumulator")
    (h : Q () s) : wpAny (model prog w) A (checkBoundCall "list.pop" ⟨[.ref x], []⟩) Q E s := by
  have kd : builtinKind "list.pop" = some .method := by decide +kernel
  have hv : Manifest.varargsMethods.contains "list.pop" = false := by decide +kernel
  have hargs : ∀ sig, Manifest.signature? "list.pop" = some sig → Bind.checkArgs "list.pop" { sig with full := toString (Str.ofString "_Accumulator").toString ++ toString "." ++ toString (Bind.lastOf "list.pop") } ⟨[.ref x], []⟩ = pure () := by
    intro sig hsig
    rw [signature?_of (id := "list.pop") (n := ['p', 'o', 'p']) (o := ['t', 's', 'i', 'l']) (by kernel_rfl) PySem.F.owner_list] at hsig
    have e := Option.some.inj (hsig.symm.trans (rfl : _ = some _))
    subst e
    kernel_rfl
  unfold checkBoundCall
  cases hsig : Manifest.signature? "list.pop" with
  | none => exact wpAny_pure h
  | some sig =>
    simp only [kd]
    rw [if_neg (by decide)]
    have hin : Looks (model prog w) s.heap (isInstance (.ref x) (.type "module")) false := I.type.andThen (looks_mroIn X hmod)
    refine wpAny_bind (hin.here ?_)
    rw [hv, if_neg (by simp)]
    refine wpAny_bind ?_
    unfold isType
    refine wpAny_bind (wpAny_loadPart I.at_ (wpAny_pure ?_))
    dsimp only
    rw [if_neg (by simp)]
    refine wpAny_bind (I.type.here ?_)
    dsimp only
    refine wpAny_bind ((looks_clsIn X hcd).here ?_)
    refine wpAny_bind ((looks_typeIn X htc).here ?_)
    rw [if_pos (by simp)]
    rw [hqn]
    rw [hargs sig hsig]
    exact wpAny_pure h
end
end Mine
namespace Mine
section
variable {prog : Program} {w : World} {A : Around} {E : Value → Shared → Prop} {s : Shared} {h₀ : Heap} {L : Addr} {m : Str → Option Value} {news : List (Addr × Obj)} {K : Frag} {x C dx q : Addr}
theorem call_pop {cd : ClassData} {p : List Value} {y : Value} {n : Nat} {o2 : Obj} {Q : Value → Shared → Prop} (F : Fr h₀ L s.heap m) (X₀ : K.In h₀) (N : News h₀ L s.heap news) (hq : (q, boundO "builtin_function_or_method" "list.pop" x) ∈ news)
    (hm : (x, pileO C dx (p ++ [y]) n) ∈ news) (hdm : (dx, o2) ∈ news) (hmod : mroIn K C (.type "module") = some false) (hcd : clsIn K C = some cd) (htc : typeIn K (.ref C) = some (.type "type")) (hqn : cd.qualname = Str.ofString "_Accumulator") (hz : (p ++ [y]).length ≤ sizeLine)
    (h : ∀ h' n', Fr h₀ L h' m → News h₀ L h' (setAt x (pileO C dx p n') news) → Q y { s with heap := h' }) : wpAny (model prog w) A (call (.ref q) []) Q E s :=
  call_bound N hq (by decide) (by decide) (fun hQ => check_pop (X₀.keeps F.keep) (pileInst N hm hdm) hmod hcd htc hqn hQ) (by decide +kernel) PySem.F.entry_list_pop (bi_pop F N hm hz h)
theorem callWith_pop {env : Env} {pos : Pos} {Q : Value → Shared → Prop} (N : News h₀ L s.heap news) (hq : (q, boundO "builtin_function_or_method" "list.pop" x) ∈ news)
    (h : wpAny (model prog w) A (call (.ref q) []) Q E s) : wpAny (model prog w) A (callWith pos (.ref q) [] (backTo pos (starEach [] env)) []) Q E s := callWith_bound N hq (by decide) (by decide) h
end
end Mine
end
noncomputable section
open PySem PySem.W PySem.Calls PyProof PyProof.Rows PyProof.V PySem.Spec Mine Builtin Builtin.Str
set_option Elab.async false
set_option maxRecDepth 100000
set_option maxHeartbeats 4000000
set_option linter.unusedVariables false
namespace Mine
theorem pick_init (its : List Value) : slicePick its.toArray none (some (-1)) none = its.dropLast.toArray := by
  have e : sliceBounds none (some (-1)) none its.toArray.size = (((0 : Nat) : Int), ((its.length - 1 : Nat) : Int), 1) := by
    rw [List.size_toArray]
    simp only [sliceBounds, Option.getD_none, show (1 : Int) > 0 by decide, if_true, show ((-1 : Int) < 0) by decide]
    congr 2
    all_goals omega
  rw [kmk_pick_nat _ e]
  show ((its.drop 0).take (its.length - 1 - 0)).toArray = _
  rw [List.drop_zero, Nat.sub_zero, List.dropLast_eq_take]
section
variable {prog : Program} {w : World} {A : Around} {E : Value → Shared → Prop} {s : Shared} {h₀ : Heap} {L : Addr} {m : Str → Option Value} {news : List (Addr × Obj)} {Q : Value → Shared → Prop}
theorem lst_init {value slice : PySem.Expr} {l : Addr} {items : List Value} {n : Nat} {u : Tok} (F : Fr h₀ L s.heap m) (N : News h₀ L s.heap news) (hm : (l, lstO items n) ∈ news) (hz : items.length ≤ sizeLine)
    (hs : subscripted slice false (.ref l) (.ref s.heap.objs.size) = operate [.ref s.heap.objs.size, .ref l] (getItem (.ref l) (.ref s.heap.objs.size))) (hg : ∀ x, letTemporaryGo value (.ref l) x = pure ())
    (h : ∀ D h', Fr h₀ L h' m → News h₀ L h' ((D, lstO items.dropLast 0) :: news) → (∀ p ∈ news, p.1 < D) → Q (.ref D) { s with heap := h' }) :
    wpAny (model prog w) A (subscriptTail value slice (.ref l) (.ref s.heap.objs.size)) Q E { s with heap := s.heap.push { cls := .type "slice", data := .fields #[.none, .int (-1) u, .none] } } := by
  refine PyProof.Rows.slice_list F N (News.isList N hm) .none (.int (-1) u) (fun h' F' N' => ?_) hs hg (by simpa using hz)
  rw [pick_init items] at N'
  exact h _ h' F' N' fun p hp => Nat.lt_succ_of_lt (Heap.lt_size (N p hp).1)
end
end Mine
namespace Mine
section
variable {prog : Program} {w : World} {A : Around} {E : Value → Shared → Prop} {s : Shared} {h₀ : Heap} {L : Addr} {m : Str → Option Value} {news : List (Addr × Obj)}
theorem truthy_cons {l : Addr} {v : Value} {items : List Value} {n : Nat} {Q : Bool → Shared → Prop} (N : News h₀ L s.heap news) (hm : (l, lstO (v :: items) n) ∈ news) (hz : items.length ≤ 1000) (h : Q true { s with toks := s.toks + 1 + 1 }) : wpAny (model prog w) A (truthy (.ref l)) Q E s := by
  refine wpAny_truthy_list (News.isList N hm) (by simp; omega) ?_
  simpa using h
theorem truthy_nil {l : Addr} {n : Nat} {Q : Bool → Shared → Prop} (N : News h₀ L s.heap news) (hm : (l, lstO [] n) ∈ news) (h : Q false { s with toks := s.toks + 1 + 1 }) : wpAny (model prog w) A (truthy (.ref l)) Q E s := by
  refine wpAny_truthy_list (News.isList N hm) (by simp) ?_
  simpa using h
end
end Mine
end
noncomputable section
open PySem PySem.W PySem.Calls PyProof PyProof.Rows PyProof.V PySem.Spec Mine Builtin Builtin.Str
set_option Elab.async false
set_option maxRecDepth 100000
set_option maxHeartbeats 4000000
set_option linter.unusedVariables false
namespace Mine
theorem args_sum2' (a b : Value) : argsOk "sum" ⟨[a, b], []⟩ := by unfold argsOk; kernel_rfl
section
variable {prog : Program} {w : World} {A : Around} {E : Value → Shared → Prop} {s : Shared}
theorem sum_start {x : Value} {tz : Tok} {Q : Value → Shared → Prop}
    (h : wpAny (model prog w) A.in1 (pyIter x) (fun it s₂ => ∃ I fp wr G n P St val, it = .ref I ∧ WalksS prog w A.in1 I fp wr G n P St ∧ St 0 s₂ ∧ (∀ b ∈ fp, b < s₂.heap.objs.size) ∧
      (∀ i v, P i v → ∃ t, v = .int (val i) t) ∧ (∀ j, j < n → InLong (val j) ∧ InLong (preSum val (j + 1))) ∧
      ∀ s' t', Moved wr G s₂ s' → Q (.int (preSum val n) t') s') E s) :
    wpAny (model prog w) A (call (.builtin "sum") [x, .int 0 tz]) Q E s := by
  refine call_function_tree F.kind_sum F.plain_sum F.entry_sum (args_sum2' _ _) ?_
  unfold Builtin.«sum»
  simp only [List.length_cons, List.length_nil]
  rw [if_neg (by decide)]
  refine wpAny_bind (wpAny_of_eq (show Builtin.Builtins.bindParams "sum" ["start"] 0 ⟨[.int 0 tz], []⟩ = pure [some (.int 0 tz)] from rfl) ?_)
  refine wpAny_bind (wpAny_mono h (fun it s₂ h₂ => ?_) fun _ _ e => e)
  obtain ⟨I, fp, wr, G, n, P, St, val, rfl, W, hst, hfp, hval, hfit, hQ⟩ := h₂
  refine wpAny_bind ?_
  refine wpAny_rule (wpAny_bind (wpAny_mkInt (wpAny_bind (wpAny_pure ?_))))
  simp only [List.forIn_cons, List.forIn_nil]
  refine wpAny_bind (wpAny_bind (wpAny_bind (wpAny_isInstance (T := "int") (b := false) (typeIs_int _ _ _) PySem.sub_int_str ?_)))
  simp only [Bool.false_eq_true, if_false]
  refine wpAny_pure (wpAny_bind (wpAny_bind (wpAny_isInstance (T := "int") (b := false) (typeIs_int _ _ _) PySem.sub_int_bytes ?_)))
  simp only [Bool.false_eq_true, if_false]
  refine wpAny_pure (wpAny_bind (wpAny_bind (wpAny_isInstance (T := "int") (b := false) (typeIs_int _ _ _) PySem.sub_int_bytearray ?_)))
  simp only [Bool.false_eq_true, if_false]
  refine wpAny_pure (wpAny_pure ?_)
  refine wpAny_bind (wpAny_newObj_type ?_)
  have hSf : s₂.heap.objs.size ∉ fp := fun hm => Nat.lt_irrefl _ (hfp _ hm)
  refine wpAny_pure ⟨plainId_quiet F.plain_sum_loop _, codeAny_sum_loopS W val hval hfit s₂.heap.objs.size hSf n 0 _ s₂.toks 0 rfl (Nat.zero_le _)
    (W.frame 0 s₂ _ _ hst (by first | exact Nat.le_refl _ | exact Nat.le_succ _ | omega) fun b _ o e => Heap.get?_push_of_some _ e) (Heap.get?_push_size _ rfl) fun s' t' hm => ?_⟩
  exact hQ s' t' (hm.drop_new (by first | exact Nat.le_refl _ | exact Nat.le_succ _ | omega))
end
end Mine
namespace Mine
section
variable {prog : Program} {w : World} {A : Around} {E : Value → Shared → Prop} {s : Shared}
theorem one_len {env : Env} {p1 p2 p3 : Pos} {x : Str} {m mg mb : Str → Option Value} {tf : Tok} {f : Str} {Q : Value → Shared → Prop} (hk : env.scope.kind = .function) (hl : env.kindOf "len" = some .globalImplicit)
    (hf : env.kindOf x = some .local) (hxd : (x == ("__debug__" : Str)) = false) (hg : s.heap.Ns env.globals mg) (hgv : mg "len" = none) (hb : s.heap.Ns env.builtins mb) (hbv : mb "len" = some (.builtin "len")) (hn : s.heap.Ns env.locals m) (hfv : m x = some (.str f tf))
    (hz : f.length ≤ 100000)
    (h : ∀ tk t, Q (.int f.length t) { s with toks := tk }) :
    wpAny (model prog w) A (eval (.Call (.Name "len" p1) [.Name x p2] [] p3) env) Q E s := by
  refine Call_name1 rfl ?_
  refine Name_function_global hk hl (loadGlobal_builtin hg hgv hb hbv ?_)
  refine callWith_builtin rfl (evalArgs_plain ?_)
  refine spliced_cons (wpAny_Name (wpAny_loadName_local hk hf hn hfv ?_) hxd)
  refine spliced_nil ?_
  refine len_str (by omega) ?_
  exact h _ _
theorem elt_len {env : Env} {p1 p2 p3 p4 p5 p6 p7 : Pos} {m mg mb : Str → Option Value} {tf tq : Tok} {f q : Str} {Q : Value → Shared → Prop} (hk : env.scope.kind = .function) (hl : env.kindOf "len" = some .globalImplicit)
    (hf : env.kindOf "fws" = some .local) (hp : env.kindOf "part" = some .local) (hg : s.heap.Ns env.globals mg) (hgv : mg "len" = none) (hb : s.heap.Ns env.builtins mb) (hbv : mb "len" = some (.builtin "len")) (hn : s.heap.Ns env.locals m) (hfv : m "fws" = some (.str f tf)) (hpv : m "part" = some (.str q tq))
    (hz : f.length + q.length ≤ 100000)
    (h : ∀ tk t, Q (.int ((f.length : Int) + (q.length : Int)) t) { s with toks := tk }) :
    wpAny (model prog w) A (eval (.BinOp (.Call (.Name "len" p1) [.Name "fws" p2] [] p3) .Add (.Call (.Name "len" p4) [.Name "part" p5] [] p6) p7) env) Q E s := by
  refine wpAny_BinOp ?_
  refine one_len hk hl hf (by decide) hg hgv hb hbv hn hfv (by omega) fun tk t => ?_
  refine one_len hk hl hp (by decide) hg hgv hb hbv hn hpv (by omega) fun tk' t' => ?_
  refine wpAny_add_int ?_
  exact h _ _
theorem sum_genW {a N : Addr} {n : Nat} {F : Nat → Value → Prop} {tz : Tok} {Q : Value → Shared → Prop} (X : GenW prog w A N a n F s) (G : AllBare s.gens) (val : Nat → Int) (hval : ∀ j v, F j v → ∃ t, v = .int (val j) t) (hfit : ∀ j, j < n → InLong (val j) ∧ InLong (preSum val (j + 1)))
    (hQ : ∀ s' t', (∀ b o, b < N → s.heap.get? b = some o → s'.heap.get? b = some o) → AllBare s'.gens → s'.os = s.os → s'.drawn = s.drawn → Q (.int (preSum val n) t') s') :
    wpAny (model prog w) A (call (.builtin "sum") [.ref a, .int 0 tz]) Q E s := by
  obtain ⟨fp, wr, g, St, W, hst, hT, ha, hfp, hwr⟩ := X
  have W := W.in4_1
  exact sum_start (W.self 0 _ _ _ hst ⟨a, _, _, _, _, _, _, val, rfl, W, hst, hfp, hval, hfit, fun s' t' hm => hQ s' t' (fun b o hb e => hm.heap b o (fun hmem => Nat.lt_irrefl _ (Nat.lt_of_lt_of_le hb (hwr b hmem))) e) (G.movedS hm) hm.os hm.drawn⟩)
def pcLen (c : Pc) : Nat := c.f.length + c.p.length
theorem preSum_pcs (pcs : List Pc) : ∀ j, j ≤ pcs.length → preSum (fun j => ((pcLen (pcs.getD j default) : Nat) : Int)) j = ((((pcs.take j).map pcLen).sum : Nat) : Int) := by
  intro j
  induction j with
  | zero => intro _; rfl
  | succ j ih =>
    intro hj
    have e : pcs.getD j default = pcs[j] := by simp [List.getD_eq_getElem?_getD, List.getElem?_eq_getElem (show j < pcs.length by omega)]
    show preSum _ j + ((pcLen (pcs.getD j default) : Nat) : Int) = _
    rw [ih (by omega), e, List.take_succ_eq_append_getElem (by omega), List.map_append, List.sum_append]
    simp
theorem sum_take_le (l : List Nat) (j : Nat) : (l.take j).sum ≤ l.sum := by
  have := congrArg List.sum (List.take_append_drop j l)
  rw [List.sum_append] at this
  omega
end
end Mine
end
noncomputable section
open PySem PySem.W PySem.Calls PyProof PyProof.Rows PyProof.V PySem.Spec Mine Builtin Builtin.Str
set_option Elab.async false
set_option maxRecDepth 100000
set_option maxHeartbeats 4000000
set_option linter.unusedVariables false
namespace Mine
section
variable {prog : Program} {w : World} {A : Around} {E : Value → Shared → Prop} {s : Shared} {K : Frag} {x C : Addr} {ox : Obj} {od : Option Obj} {name : Str} {expr : Bool}
theorem oga_pile {v : Value} {t : Tok} {Q : Value → Shared → Prop} (X : K.In s.heap) (I : InstAt s.heap x ox C od) (hf : findObj K C od name = some (.value v)) (h : Q v s) :
    wpAny (model prog w) A (Builtin.«object.__getattribute__» ⟨[.ref x, .str name t], []⟩) (fun fin s' => ∃ v, fin = .done (.ret v) ∧ Q v s') E s := by
  obtain ⟨hh', g, d, tk, os⟩ := s
  have L0 := I.type (M := model prog w)
  have L1 := looks_find (M := model prog w) X I hf
  unfold Builtin.«object.__getattribute__»
  refine wpAny_bind (wpAny_pure (wpAny_bind (wpAny_pure (wpAny_bind (L0.at (wpAny_bind (L1.at ?_)))))))
  exact wpAny_pure ⟨v, rfl, h⟩
theorem get_pile {v : Value} {Q : Value → Shared → Prop} (X : K.In s.heap) (I : InstAt s.heap x ox C od) (hga : findIn K (.ref C) "__getattribute__" = some (some (.builtin "list.__getattribute__"))) (hgh : findIn K (.ref C) "__getattr__" = some none)
    (hm : mroIn K C (.type "list") = some true) (hf : findObj K C od name = some (.value v)) (hh : handedIn v = true) (h : Q v { s with toks := s.toks + 1 }) : wpAny (model prog w) A (getAttr (.ref x) name expr) Q E s := by
  obtain ⟨hh', g, d, t, os⟩ := s
  have L0 := I.type (M := model prog w)
  have L1 := looks_findIn (M := model prog w) X hga
  have L2 := looks_findIn (M := model prog w) X hgh
  have hI := looks_inst (M := model prog w) X I hm
  unfold getAttr getAttrBy
  refine wpAny_bind (wpAny_mkText (wpAny_holding (wpAny_bind (L0.at (wpAny_bind (L1.at ?_))))))
  show wpAny _ _ (getAttrByItsOwn _ _ _ _ _ _) _ _ _
  unfold getAttrByItsOwn hookBefore callGetattribute boundAndCalled
  refine wpAny_bind (L2.at ?_)
  refine wpAny_bind (wpAny_attempt (wpAny_holding ?_))
  simp only [onTheHeap, Bool.and_false, Bool.false_eq_true, if_false]
  refine wpAny_bind (wpAny_of_eq (F.slot_list_getattribute.bind (.ref x)) ?_)
  refine call_sub (owner := "list") (n := "__getattribute__") (by kernel_rfl) (.inl (by kernel_rfl)) F.slot_list_getattribute.plain F.entry_list_ga hI (F.args_list_getattribute_2 _ _) ?_
  refine oga_pile (s := ⟨hh', g, d, t + 1, os⟩) X I hf ?_
  show wpAny _ _ (handedOut v) _ _ _
  rw [handedOut_of hh]
  exact wpAny_pure h
end
end Mine
namespace Mine
theorem GenW.tok {prog : Program} {w : World} {A : Around} {s : Shared} {N a : Addr} {n : Nat} {F : Nat → Value → Prop} (X : GenW prog w A N a n F s) : GenW prog w A N a n F { s with toks := s.toks + 1 } := by
  obtain ⟨fp, wr, g, St, W, hst, hT, ha, hfp, hwr⟩ := X
  exact ⟨fp, wr, g, St, W, W.frame 0 s _ _ hst (Nat.le_succ _) (fun _ _ _ e => e), hT, ha, hfp, hwr⟩
end Mine
end
noncomputable section
open PySem PySem.W PySem.Calls PyProof PyProof.Rows Mine
set_option Elab.async false
set_option maxRecDepth 100000
set_option maxHeartbeats 4000000
set_option linter.unusedVariables false
namespace Mine
theorem rev_ind2 {α : Type} {P : List α → Prop} (h0 : P []) (h1 : ∀ l b, P l → P (l ++ [b])) (l : List α) : P l := by
  have : ∀ l : List α, P l.reverse := by
    intro l
    induction l with
    | nil => exact h0
    | cons b l ih => rw [List.reverse_cons]; exact h1 _ b ih
  have h := this l.reverse
  rwa [List.reverse_reverse] at h
/-- a pile's pieces: a sign, or what was put in -/
abbrev Pi := Option Bool
structure PSt where
  ps : List Pi
  lg : List Bool
  deriving DecidableEq
def lastN {α : Type} (n : Nat) (l : List α) : List α := l.drop (l.length - n)
def onP (o : List Bool) (s : PSt) (c : Bool) : PSt :=
  let q := s.ps ++ [some c]
  if lastN o.length q = o.map some then ⟨q.take (q.length - o.length) ++ [none], s.lg ++ [true]⟩ else ⟨q, s.lg ++ [false]⟩
def offP (o : List Bool) (s : PSt) : PSt :=
  ⟨s.ps.dropLast ++ (if s.lg.getLastD false then (o.map some).dropLast else []), s.lg.dropLast⟩
def stP (o : List Bool) (w : List Bool) : PSt := w.foldl (onP o) ⟨[], []⟩
def txtP (n : List Bool) (ps : List Pi) : List Bool := ps.flatMap fun p => match p with | some c => [c] | none => n
theorem stP_snoc (o w : List Bool) (c : Bool) : stP o (w ++ [c]) = onP o (stP o w) c := by unfold stP; rw [List.foldl_append]; rfl
theorem lastN_suffix {α : Type} {n : Nat} {l : List α} : l.take (l.length - n) ++ lastN n l = l := List.take_append_drop _ _
/-- taken back, the pile stands as before -/
theorem off_on (o : List Bool) (s : PSt) (c : Bool) (ho : o ≠ []) : offP o (onP o s c) = s := by
  unfold onP
  dsimp only
  split
  · rename_i h
    unfold offP
    simp only [List.dropLast_concat, List.getLastD_concat, if_true]
    have e : (s.ps ++ [some c]).take ((s.ps ++ [some c]).length - o.length) ++ o.map some = s.ps ++ [some c] := by
      rw [← h]; exact lastN_suffix
    have e2 : ((s.ps ++ [some c]).take ((s.ps ++ [some c]).length - o.length) ++ o.map some).dropLast = s.ps := by rw [e, List.dropLast_concat]
    rw [List.dropLast_append_of_ne_nil (by simpa using ho)] at e2
    rw [e2]
  · unfold offP
    simp
end Mine
namespace Mine
def NoOcc (o l : List Bool) : Prop := ∀ i, i < l.length → ¬ (l.drop i).take o.length = o
theorem rp_free {o n : List Bool} : ∀ (l : List Bool), NoOcc o l → rp o n 0 l = l
  | [], _ => rfl
  | c :: l, h => by
    have h0 : ¬ (c :: l).take o.length = o := h 0 (Nat.zero_lt_succ _)
    rw [rp, if_neg h0, rp_free l fun i hi => h (i + 1) (Nat.succ_lt_succ hi)]
theorem rp_skip {o n : List Bool} : ∀ (A y : List Bool), (∀ i, i < A.length → ¬ ((A ++ y).drop i).take o.length = o) → rp o n 0 (A ++ y) = A ++ rp o n 0 y
  | [], _, _ => rfl
  | c :: A, y, h => by
    have h0 : ¬ (c :: (A ++ y)).take o.length = o := h 0 (Nat.zero_lt_succ _)
    rw [List.cons_append, rp, if_neg h0, rp_skip A y fun i hi => h (i + 1) (Nat.succ_lt_succ hi)]; rfl
theorem rp_hit {o n : List Bool} (ho : o ≠ []) (y : List Bool) : rp o n 0 (o ++ y) = n ++ rp o n 0 y := by
  cases o with
  | nil => exact absurd rfl ho
  | cons a o' =>
    have hm : (a :: (o' ++ y)).take (a :: o').length = a :: o' := by
      show ((a :: o') ++ y).take (a :: o').length = _
      rw [List.take_left]
    rw [List.cons_append, rp, if_pos hm, rp_drop]
    congr 2
    show (o' ++ y).drop o'.length = y
    rw [List.drop_left]
theorem txtP_append (n : List Bool) (a b : List Pi) : txtP n (a ++ b) = txtP n a ++ txtP n b := by unfold txtP; rw [List.flatMap_append]
theorem txtP_some (n l : List Bool) : txtP n (l.map some) = l := by
  induction l with
  | nil => rfl
  | cons c l ih => rw [List.map_cons]; show [c] ++ txtP n (l.map some) = _; rw [ih]; rfl
theorem txtP_none (n : List Bool) : txtP n [none] = n := by show n ++ [] = n; exact List.append_nil n
structure Run (o n w : List Bool) (ps : List Pi) (dn : List Pi) (run : List Bool) : Prop where
  eq : ps = dn ++ run.map some
  ends : dn = [] ∨ ∃ d, dn = d ++ [none]
  free : NoOcc o run
  txt : ∀ x, txtP n dn ++ rp o n 0 (run ++ x) = rp o n 0 (w ++ x)
theorem map_some_inj {a b : List Bool} (h : a.map some = b.map some) : a = b := map_inj' (fun _ _ e => by injection e) h
theorem last_run {o : List Bool} (ho : o ≠ []) {dn : List Pi} {r : List Bool} (he : dn = [] ∨ ∃ d, dn = d ++ [none]) : lastN o.length (dn ++ r.map some) = o.map some ↔ (o.length ≤ r.length ∧ r.drop (r.length - o.length) = o) := by
  unfold lastN
  by_cases hl : o.length ≤ r.length
  · have e : (dn ++ r.map some).drop ((dn ++ r.map some).length - o.length) = (r.drop (r.length - o.length)).map some := by
      rw [List.length_append, List.length_map, show dn.length + r.length - o.length = dn.length + (r.length - o.length) by omega, List.drop_append, List.map_drop]
      rw [List.drop_of_length_le (by omega), List.nil_append]
      congr 1
      omega
    rw [e]
    exact ⟨fun h => ⟨hl, map_some_inj h⟩, fun h => by rw [h.2]⟩
  · refine ⟨fun h => ?_, fun h => absurd h.1 hl⟩
    exfalso
    rcases he with rfl | ⟨d, rfl⟩
    · have := congrArg List.length h
      rw [List.length_drop, List.nil_append, List.length_map, List.length_map] at this
      have : 0 < o.length := List.length_pos_iff.mpr ho
      omega
    · have hn : (none : Pi) ∈ (d ++ [none] ++ r.map some).drop ((d ++ [none] ++ r.map some).length - o.length) := by
        have e : d ++ [none] ++ r.map some = d ++ (none :: r.map some) := by simp
        rw [e]
        have hlen : (d ++ (none :: r.map some)).length - o.length ≤ d.length := by
          rw [List.length_append, List.length_cons, List.length_map]; omega
        rw [List.drop_append_of_le_length hlen]
        exact List.mem_append_right _ List.mem_cons_self
      rw [h] at hn
      obtain ⟨x, _, hx⟩ := List.mem_map.mp hn
      cases hx
theorem run_st {o n : List Bool} (ho : o ≠ []) (w : List Bool) : ∃ dn run, Run o n w (stP o w).ps dn run := by
  refine rev_ind2 (P := fun w => ∃ dn run, Run o n w (stP o w).ps dn run) ?_ ?_ w
  · exact ⟨[], [], rfl, .inl rfl, fun i hi => absurd hi (Nat.not_lt_zero _), fun x => rfl⟩
  · rintro w c ⟨dn, run, hR⟩
    rw [stP_snoc]
    unfold onP
    dsimp only
    have eq : (stP o w).ps ++ [some c] = dn ++ (run ++ [c]).map some := by rw [hR.eq, List.map_append, List.append_assoc]; rfl
    rw [eq]
    have htx : ∀ x, txtP n dn ++ rp o n 0 (run ++ [c] ++ x) = rp o n 0 (w ++ [c] ++ x) := fun x => by
      rw [List.append_assoc, List.append_assoc]; exact hR.txt _
    by_cases h : lastN o.length (dn ++ (run ++ [c]).map some) = o.map some
    · rw [if_pos h]
      obtain ⟨hl, hs⟩ := (last_run ho hR.ends).mp h
      have hsplit : (run ++ [c]) = (run ++ [c]).take ((run ++ [c]).length - o.length) ++ o := by
        have := (List.take_append_drop ((run ++ [c]).length - o.length) (run ++ [c])).symm
        rwa [hs] at this
      generalize hA : (run ++ [c]).take ((run ++ [c]).length - o.length) = A at hsplit
      have hAl : A.length + o.length = run.length + 1 := by
        have := congrArg List.length hsplit
        simp only [List.length_append, List.length_singleton] at this
        omega
      have hAr : ∀ i, i < A.length → ∀ y : List Bool, ¬ ((A ++ (o ++ y)).drop i).take o.length = o := by
        intro i hi y e
        have hop : 0 < o.length := List.length_pos_iff.mpr ho
        have hpre : run ++ ([c] ++ y) = A ++ (o ++ y) := by rw [← List.append_assoc, hsplit, List.append_assoc]
        rw [← hpre, List.drop_append_of_le_length (by omega), List.take_append_of_le_length (by rw [List.length_drop]; omega)] at e
        exact hR.free i (by omega) e
      refine ⟨dn ++ A.map some ++ [none], [], ?_, .inr ⟨_, rfl⟩, fun i hi => absurd hi (Nat.not_lt_zero _), fun x => ?_⟩
      · have e1 : (dn ++ (run ++ [c]).map some).take ((dn ++ (run ++ [c]).map some).length - o.length) = dn ++ A.map some := by
          rw [List.length_append, List.length_map, List.length_append, List.length_singleton, show dn.length + (run.length + 1) - o.length = dn.length + A.length by omega, List.take_length_add_append]
          rw [hsplit, List.map_append, List.take_append_of_le_length (by rw [List.length_map]; omega), List.take_of_length_le (by rw [List.length_map]; omega)]
        rw [e1]
        simp
      · rw [← htx x, hsplit, txtP_append, txtP_append, txtP_some, txtP_none, List.nil_append, List.append_assoc A, rp_skip A (o ++ x) (fun i hi => hAr i hi x), rp_hit ho]
        simp
    · rw [if_neg h]
      refine ⟨dn, run ++ [c], rfl, hR.ends, fun i hi e => ?_, htx⟩
      rw [List.length_append, List.length_singleton] at hi
      have hle : i + o.length ≤ run.length + 1 := by
        have := congrArg List.length e
        rw [List.length_take, List.length_drop, List.length_append, List.length_singleton] at this
        omega
      have hop : 0 < o.length := List.length_pos_iff.mpr ho
      by_cases hlt : i + o.length ≤ run.length
      · refine hR.free i (by omega) ?_
        rwa [List.drop_append_of_le_length (by omega), List.take_append_of_le_length (by rw [List.length_drop]; omega)] at e
      · refine h ((last_run ho hR.ends).mpr ⟨by rw [List.length_append, List.length_singleton]; omega, ?_⟩)
        rw [List.length_append, List.length_singleton, show run.length + 1 - o.length = i by omega]
        rw [List.take_of_length_le (by rw [List.length_drop, List.length_append, List.length_singleton]; omega)] at e
        exact e
theorem txt_st {o n : List Bool} (ho : o ≠ []) (w : List Bool) : txtP n (stP o w).ps = rp o n 0 w := by
  obtain ⟨dn, run, hR⟩ := run_st (n := n) ho w
  have := hR.txt []
  rw [List.append_nil, List.append_nil, rp_free run hR.free] at this
  rw [hR.eq, txtP_append, txtP_some, this]
end Mine
namespace Mine
def offN (o : List Bool) : Nat → PSt → PSt
  | 0, s => s
  | k + 1, s => offN o k (offP o s)
theorem on_found {o n : List Bool} {s : PSt} {c : Bool} (ho : o ≠ []) (h : lastN o.length (s.ps ++ [some c]) = o.map some) :
    ∃ X, txtP n s.ps = X ++ o.dropLast ∧ txtP n (onP o s c).ps = X ++ n ∧ (onP o s c).lg = s.lg ++ [true] := by
  have e : (s.ps ++ [some c]).take ((s.ps ++ [some c]).length - o.length) ++ o.map some = s.ps ++ [some c] := by rw [← h]; exact lastN_suffix
  refine ⟨txtP n ((s.ps ++ [some c]).take ((s.ps ++ [some c]).length - o.length)), ?_, ?_, ?_⟩
  · have e2 := congrArg List.dropLast e
    rw [List.dropLast_concat, List.dropLast_append_of_ne_nil (by simpa using ho)] at e2
    have e3 : txtP n s.ps = txtP n ((s.ps ++ [some c]).take ((s.ps ++ [some c]).length - o.length) ++ (o.map some).dropLast) := congrArg (txtP n) e2.symm
    rw [e3, txtP_append, ← List.map_dropLast, txtP_some]
  · unfold onP
    dsimp only
    rw [if_pos h, txtP_append, txtP_none]
  · unfold onP
    dsimp only
    rw [if_pos h]
theorem on_not {o n : List Bool} {s : PSt} {c : Bool} (h : ¬ lastN o.length (s.ps ++ [some c]) = o.map some) : txtP n (onP o s c).ps = txtP n s.ps ++ [c] ∧ (onP o s c).lg = s.lg ++ [false] := by
  unfold onP
  dsimp only
  rw [if_neg h]
  exact ⟨by rw [txtP_append]; rfl, rfl⟩
end Mine
end
noncomputable section
open PySem PySem.W PySem.Calls PyProof PyProof.Rows Mine
set_option Elab.async false
set_option maxRecDepth 100000
set_option maxHeartbeats 4000000
set_option linter.unusedVariables false
namespace Mine
def chB (c : Bool) : Nat := if c then 98 else 97
def strB (l : List Bool) : Str := ⟨(l.map chB).toArray⟩
abbrev chS (c : Bool) : Str := strB [c]
theorem chB_inj : ∀ {a b : Bool}, chB a = chB b → a = b := by decide
theorem strB_cps (l : List Bool) : (strB l).cps.toList = l.map chB := by simp [strB]
theorem strB_len (l : List Bool) : (strB l).length = l.length := by simp [strB, Str.length]
theorem strB_inj {a b : List Bool} (h : strB a = strB b) : a = b := by
  have := congrArg (fun x : Str => x.cps.toList) h
  simp only [strB_cps] at this
  exact map_inj' (fun _ _ e => chB_inj e) this
theorem strB_get {l : List Bool} {i c : Nat} (h : (strB l).cps[i]? = some c) : ∃ b, l[i]? = some b ∧ (⟨#[c]⟩ : Str) = chS b := by
  have h' : (l.map chB)[i]? = some c := by simpa [strB] using h
  rw [List.getElem?_map] at h'
  cases hb : l[i]? with
  | none => rw [hb] at h'; cases h'
  | some b =>
    rw [hb] at h'
    refine ⟨b, rfl, ?_⟩
    rw [← Option.some.inj h']
    rfl
theorem strB_nil : strB [] = Str.ofString "" := by decide +kernel
/-- what a pile holds for a piece: the blanks ahead, the part -/
def fpPi (n : List Bool) : Pi → Str × Str
  | some c => (Str.ofString "", chS c)
  | none => (strB n, Str.ofString "")
def piPart : Pi → List Bool
  | some c => [c]
  | none => []
theorem part_fp (n : List Bool) (p : Pi) : (fpPi n p).2 = strB (piPart p) := by
  cases p with
  | none => exact strB_nil.symm
  | some c => rfl
/-- the last pieces' parts are what is sought -/
theorem parts_found : ∀ {q : List Pi} {o : List Bool}, q.length ≤ o.length → (q.flatMap piPart = o ↔ q = o.map some)
  | [], o, _ => by
    constructor
    · intro h; rw [← h]; rfl
    · intro h
      cases o with
      | nil => rfl
      | cons a o => cases h
  | p :: q, o, hl => by
    have hle : ∀ r : List Pi, (r.flatMap piPart).length ≤ r.length := by
      intro r
      induction r with
      | nil => exact Nat.le_refl _
      | cons a r ih => cases a <;> simp [piPart] at ih ⊢ <;> omega
    cases p with
    | none =>
      constructor
      · intro h
        have h1 : ([] ++ q.flatMap piPart).length = o.length := congrArg List.length h
        have h2 := hle q
        rw [List.nil_append] at h1
        rw [List.length_cons] at hl
        omega
      · intro h
        cases o with
        | nil => cases h
        | cons a o => cases h
    | some c =>
      cases o with
      | nil => exact ⟨(fun h => by simp [piPart] at h), (fun h => by cases h)⟩
      | cons a o =>
        have ih := parts_found (q := q) (o := o) (by simpa using hl)
        rw [List.flatMap_cons, List.map_cons]
        show c :: q.flatMap piPart = a :: o ↔ _
        constructor
        · intro h
          injection h with h1 h2
          rw [h1, ih.mp h2]
        · intro h
          injection h with h1 h2
          injection h1 with h1
          rw [h1, ih.mpr h2]
theorem parts_join {n : List Bool} {q : List Pi} {qs : List Pc} (h : qs.map Pc.fp = q.map (fpPi n)) : Txt.join (Str.ofString "") (qs.map Pc.p) = strB (q.flatMap piPart) := by
  apply str_ext'
  rw [join0', strB_cps]
  have e : qs.map Pc.p = q.map fun x => strB (piPart x) := by
    have := congrArg (List.map Prod.snd) h
    rw [List.map_map, List.map_map] at this
    rw [show qs.map Pc.p = qs.map (Prod.snd ∘ Pc.fp) from rfl, this]
    apply List.map_congr_left
    intro x _
    exact part_fp n x
  rw [e]
  clear e h
  induction q with
  | nil => rfl
  | cons a q ih =>
    rw [List.flatMap_cons, List.map_append, ← ih, List.map_cons, List.map_cons, List.flatten_cons, strB_cps]
/-- the log's entries: lists of tuples -/
inductive Ents (X : List (Addr × Obj)) (M : Addr) (o : List Bool) : List Addr → List Bool → Prop
  | nil : Ents X M o [] []
  | snoc {es : List Addr} {bs : List Bool} {e : Addr} {b : Bool} {qs : List Pc} {k : Nat} : Ents X M o es bs → M < e → (e, lstO (qs.map Pc.v) k) ∈ X → (∀ c ∈ qs, (c.a, c.obj) ∈ X) → qs.map Pc.fp = (if b then o.map fun c => fpPi [] (some c) else []) → Ents X M o (es ++ [e]) (bs ++ [b])
theorem Ents.up {X X' : List (Addr × Obj)} {M : Addr} {o : List Bool} {es : List Addr} {bs : List Bool} (E : Ents X M o es bs) (hl : ∀ q ∈ X, M < q.1 → (∃ vs k, q.2 = lstO vs k) → q ∈ X') (ht : ∀ q ∈ X, (∃ vs, q.2 = tupO vs) → q ∈ X') : Ents X' M o es bs := by
  induction E with
  | nil => exact .nil
  | snoc E h1 h2 h3 h4 ih => exact .snoc ih h1 (hl _ h2 h1 ⟨_, _, rfl⟩) (fun c hc => ht _ (h3 c hc) ⟨_, rfl⟩) h4
theorem Ents.len {X : List (Addr × Obj)} {M : Addr} {o : List Bool} {es : List Addr} {bs : List Bool} (E : Ents X M o es bs) : es.length = bs.length := by
  induction E with
  | nil => rfl
  | snoc E h1 h2 h3 h4 ih => rw [List.length_append, List.length_append, ih]; rfl
theorem Ents.last {X : List (Addr × Obj)} {M : Addr} {o : List Bool} {es : List Addr} {bs : List Bool} {b : Bool} (E : Ents X M o es (bs ++ [b])) : ∃ (es' : List Addr) (e : Addr) (qs : List Pc) (k : Nat), es = es' ++ [e] ∧ Ents X M o es' bs ∧ M < e ∧ (e, lstO (qs.map Pc.v) k) ∈ X ∧ (∀ c ∈ qs, (c.a, c.obj) ∈ X) ∧ qs.map Pc.fp = (if b then o.map fun c => fpPi [] (some c) else []) := by
  generalize hB : bs ++ [b] = B at E
  cases E with
  | nil => exact absurd hB (by simp)
  | snoc E h1 h2 h3 h4 =>
    obtain ⟨e1, e2⟩ := List.append_inj' hB rfl
    injection e2 with e2
    subst e1 e2
    exact ⟨_, _, _, _, rfl, E, h1, h2, h3, h4⟩
def Keeps2 (p lg : Addr) (l l' : List (Addr × Obj)) : Prop := ∀ q ∈ l, q.1 ≠ p → q.1 ≠ lg → q ∈ l'
theorem Keeps2.refl (p lg : Addr) (l : List (Addr × Obj)) : Keeps2 p lg l l := fun _ h _ _ => h
theorem Keeps2.trans {p lg : Addr} {l₁ l₂ l₃ : List (Addr × Obj)} (a : Keeps2 p lg l₁ l₂) (b : Keeps2 p lg l₂ l₃) : Keeps2 p lg l₁ l₃ := fun q h e f => b q (a q h e f) e f
theorem Keeps.two {p lg : Addr} {l l' : List (Addr × Obj)} (a : Keeps p l l') : Keeps2 p lg l l' := fun q h e _ => a q h e
theorem Keeps2.setAt (p lg : Addr) (o : Obj) (l : List (Addr × Obj)) : Keeps2 p lg l (setAt lg o l) := fun _ h _ e => setAt_mem h e
theorem Keeps2.cons {p lg : Addr} {x : Addr × Obj} {l l' : List (Addr × Obj)} (a : Keeps2 p lg l l') : Keeps2 p lg l (x :: l') := fun q h e f => .tail _ (a q h e f)
theorem Keeps2.weak {p lg : Addr} {x : Addr × Obj} {X X' : List (Addr × Obj)} (K : Keeps2 p lg (x :: X) X') : Keeps2 p lg X X' := fun q hq e f => K q (.tail _ hq) e f
theorem Keeps2.but {p lg I : Addr} {X₀ news₁ X : List (Addr × Obj)} {o : Obj} (K₁ : Keeps2 p lg X₀ news₁) (hne : ∀ q ∈ news₁, q.1 ≠ I) (K₂ : Keeps2 p lg ((I, o) :: news₁) X) : Keeps2 p lg X₀ (Mine.but I X) :=
  fun q hq e f => but_mem.mpr ⟨K₂ q (.tail _ (K₁ q hq e f)) e f, hne q (K₁ q hq e f)⟩
/-- a pile and its log stand at a state -/
structure Duo (C : Addr) (X : List (Addr × Obj)) (p d lg M : Addr) (o n : List Bool) (s : PSt) : Prop where
  pile : ∃ pcs, Pile C X p d pcs ∧ pcs.map Pc.fp = s.ps.map (fpPi n)
  log : ∃ es k, (lg, lstO (es.map Value.ref) k) ∈ X ∧ Ents X M o es s.lg
  low : lg < M
theorem news_cls {h₀ h : Heap} {L a b : Addr} {o o' : Obj} {l : List (Addr × Obj)} (N : News h₀ L h l) (ha : (a, o) ∈ l) (hb : (b, o') ∈ l) (hne : o.cls ≠ o'.cls) : a ≠ b :=
  news_ne N ha hb fun e => hne (e ▸ rfl)
theorem cls_lp {C d : Addr} {vs us : List Value} {n k : Nat} : (lstO us k).cls ≠ (pileO C d vs n).cls := by intro e; cases e
theorem cls_pl {C d : Addr} {vs us : List Value} {n k : Nat} : (pileO C d vs n).cls ≠ (lstO us k).cls := by intro e; cases e
theorem cls_tp {C d : Addr} {vs us : List Value} {n : Nat} : (tupO us).cls ≠ (pileO C d vs n).cls := by intro e; cases e
theorem cls_tl {vs us : List Value} {n : Nat} : (tupO us).cls ≠ (lstO vs n).cls := by intro e; injection e with e; exact absurd e (by decide)
theorem cls_dp {C d : Addr} {vs : List Value} {es : List DictEntry} {n k : Nat} : (dictOf es k).cls ≠ (pileO C d vs n).cls := by intro e; cases e
theorem cls_dl {vs : List Value} {es : List DictEntry} {n k : Nat} : (dictOf es k).cls ≠ (lstO vs n).cls := by intro e; injection e with e; exact absurd e (by decide)
section
variable {h₀ h hb hO : Heap} {L Lb p d lg M C : Addr} {o n : List Bool} {X X' : List (Addr × Obj)} {s : PSt}
theorem Duo.weak {x : Addr × Obj} (D : Duo C X p d lg M o n s) : Duo C (x :: X) p d lg M o n s := by
  obtain ⟨⟨pcs, P, hp⟩, ⟨es, k, hl, E⟩, lo⟩ := D
  exact ⟨⟨pcs, P.weak, hp⟩, ⟨es, k, .tail _ hl, E.up (fun q hq _ _ => .tail _ hq) fun q hq _ => .tail _ hq⟩, lo⟩
/-- another pile's doings leave it -/
theorem Duo.keep {p' lg' d' : Addr} {vs us : List Value} {n' k' : Nat} (D : Duo C X p d lg M o n s) (N : News h₀ L h X) (K : Keeps2 p' lg' X X') (hp' : (p', pileO C d' vs n') ∈ X) (hl' : (lg', lstO us k') ∈ X) (hpp : p ≠ p') (hll : lg ≠ lg') (lo' : lg' < M) : Duo C X' p d lg M o n s := by
  obtain ⟨⟨pcs, P, hp⟩, ⟨es, k, hl, E⟩, lo⟩ := D
  obtain ⟨⟨a, h1⟩, ⟨hs, ta, tb, b, h2⟩, h3⟩ := P
  refine ⟨⟨pcs, ⟨⟨a, K _ h1 hpp (news_cls N h1 hl' cls_pl)⟩, ⟨hs, ta, tb, b, K _ h2 (news_cls N h2 hp' cls_dp) (news_cls N h2 hl' cls_dl)⟩, fun c hc => K _ (h3 c hc) (news_cls N (h3 c hc) hp' cls_tp) (news_cls N (h3 c hc) hl' cls_tl)⟩, hp⟩, ⟨es, k, K _ hl (news_cls N hl hp' cls_lp) hll, E.up ?_ ?_⟩, lo⟩
  · rintro ⟨q, ob⟩ hq hM ⟨vs', k'', rfl⟩
    exact K _ hq (news_cls N hq hp' cls_lp) (Nat.ne_of_gt (Nat.lt_trans lo' hM))
  · rintro ⟨q, ob⟩ hq ⟨vs', rfl⟩
    exact K _ hq (news_cls N hq hp' cls_tp) (news_cls N hq hl' cls_tl)
/-- nothing but an iterator is let go -/
theorem Duo.but {I : Addr} {ob : Obj} (D : Duo C X p d lg M o n s) (N : News h₀ L h X) (hI : (I, ob) ∈ X) (hi : Iterish ob) : Duo C (but I X) p d lg M o n s := by
  obtain ⟨⟨pcs, P, hp⟩, ⟨es, k, hl, E⟩, lo⟩ := D
  refine ⟨⟨pcs, P.but N hI hi, hp⟩, ⟨es, k, but_mem.mpr ⟨hl, news_ne N hl hI (hi.ne (.inr (.inr (.inr rfl))))⟩, E.up ?_ ?_⟩, lo⟩
  · rintro ⟨q, o'⟩ hq _ ⟨vs', k'', rfl⟩
    exact but_mem.mpr ⟨hq, news_ne N hq hI (hi.ne (.inr (.inr (.inr rfl))))⟩
  · rintro ⟨q, o'⟩ hq ⟨vs', rfl⟩
    exact but_mem.mpr ⟨hq, news_ne N hq hI (hi.ne (.inr (.inl rfl)))⟩
end
end Mine
namespace Mine
section
variable {prog : Program} {w : World} {A : Around} {E : Value → Shared → Prop} {s : Shared} {h₀ : Heap} {L : Addr} {news : List (Addr × Obj)} {Q : Value → Shared → Prop}
theorem strsAre_parts : ∀ qs : List Pc, StrsAre (qs.map partV) (qs.map Pc.p)
  | [] => .nil
  | c :: r => .cons _ _ (strsAre_parts r)
theorem join_parts {x : Str} {t : Tok} {D : Addr} {qs : List Pc} {k : Nat} {nn : List Bool} {q : List Pi} (N : News h₀ L s.heap news) (hm : (D, lstO (qs.map partV) k) ∈ news) (hq : qs.map Pc.fp = q.map (fpPi nn)) (hl : qs.length ≤ 1000) (hx : x = Str.ofString "")
    (h : ∀ t' k', Q (.str (strB (q.flatMap piPart)) t') { s with toks := k' }) : wpAny (model prog w) A (call (.builtin "str.join") [.str x t, .ref D]) Q E s := by
  subst hx
  refine join_listW (ys := qs.map Pc.p) (News.isList N hm) (by simpa using strsAre_parts qs) (by decide +kernel) ?_ ?_
  · have h1 : ∀ y ∈ qs.map Pc.p, y.length ≤ 1 := by
      intro y hy
      obtain ⟨c, hc, rfl⟩ := List.mem_map.mp hy
      have : c.fp ∈ q.map (fpPi nn) := hq ▸ List.mem_map_of_mem hc
      obtain ⟨z, hz, he⟩ := List.mem_map.mp this
      have : c.p = (fpPi nn z).2 := (congrArg Prod.snd he).symm
      rw [this, part_fp, strB_len]
      cases z <;> simp [piPart]
    have h2 : ∀ l : List Str, (∀ y ∈ l, y.length ≤ 1) → (l.map (·.length)).sum ≤ l.length := by
      intro l
      induction l with
      | nil => intro _; exact Nat.le_refl _
      | cons y l ih =>
        intro hy
        have a := hy y List.mem_cons_self
        have b := ih fun z hz => hy z (List.mem_cons_of_mem _ hz)
        rw [List.map_cons, List.sum_cons, List.length_cons]
        omega
    have h3 := h2 _ h1
    rw [List.length_map] at h3 ⊢
    omega
  · rw [parts_join hq]
    intro t' k'
    exact h t' k'
end
end Mine
namespace Mine
def Cut (R : Flow → Shared → Prop) (fl : Flow) (s' : Shared) : Prop := R fl s'
def PushJ (C p d : Addr) (gs₀ : Array GenState) (X₀ : List (Addr × Obj)) (nm : List (Str × Value)) (T : Nat → List (Str × Str)) : Inv := fun i m₁ news₁ gs =>
  gs = gs₀ ∧ (∃ mr, m₁ = lay nm mr) ∧ Mine.Keeps p X₀ news₁ ∧ ∃ pcs, Pile C news₁ p d pcs ∧ pcs.map Pc.fp = T i
theorem get_v' {l : List Pc} {j : Nat} {v : Value} (h : (l.map Pc.v)[j]? = some v) : ∃ c, l[j]? = some c ∧ v = .ref c.a := by
  rw [List.getElem?_map] at h
  obtain ⟨c, h1, h2⟩ := Option.map_eq_some_iff.mp h
  exact ⟨c, h1, h2.symm⟩
theorem take_next' {l : List Pc} {base : List (Str × Str)} {q : List (Str × Str)} {j : Nat} {c : Pc} (hc : l[j]? = some c) (hq : q = base ++ (l.map Pc.fp).take j) : q ++ [c.fp] = base ++ (l.map Pc.fp).take (j + 1) := by
  rw [hq, List.take_add_one, List.getElem?_map, hc, List.append_assoc]; rfl
theorem found_eq {o : List Bool} {q : List Pi} (hq : q.length ≤ o.length) : (strB (q.flatMap piPart) == strB o) = decide (q = o.map some) := by
  by_cases h : q = o.map some
  · rw [decide_eq_true h, (parts_found hq).mpr h]
    simp
  · rw [decide_eq_false h]
    have : ¬ strB (q.flatMap piPart) = strB o := fun e => h ((parts_found hq).mp (strB_inj e))
    simpa using this
theorem lastN_len {α : Type} (k : Nat) (l : List α) : (lastN k l).length ≤ k := by
  rw [lastN, List.length_drop]
  omega
/-- the pile behind a sign -/
theorem on_fp {o n : List Bool} {st : PSt} {c : Bool} {b : Bool} {q : List Pi} (hq : q = st.ps ++ [some c]) (hb : b = decide (lastN o.length q = o.map some)) : (q.take (q.length - o.length)).map (fpPi n) ++ (if b then [(strB n, Str.ofString "")] else (lastN o.length q).map (fpPi n)) = (onP o st c).ps.map (fpPi n) ∧ (onP o st c).lg = st.lg ++ [b] := by
  subst hq
  unfold onP
  dsimp only
  by_cases h : lastN o.length (st.ps ++ [some c]) = o.map some
  · rw [decide_eq_true h] at hb
    subst hb
    rw [if_pos h, if_pos rfl, List.map_append]
    exact ⟨rfl, rfl⟩
  · rw [decide_eq_false h] at hb
    subst hb
    rw [if_neg h, if_neg Bool.false_ne_true]
    refine ⟨?_, rfl⟩
    rw [← List.map_append, lastN_suffix]
end Mine
namespace Mine
section
variable {h₀ h hb hO : Heap} {L Lb p d lg M C : Addr} {o n : List Bool} {X X' : List (Addr × Obj)} {s : PSt}
theorem Ents.keep {es : List Addr} {bs : List Bool} {vs : List Value} {k : Nat} (E : Ents X M o es bs) (K : Keeps p X X') (N : News hb Lb hO X) (hp : (p, pileO C d vs k) ∈ X) : Ents X' M o es bs :=
  E.up (fun q hq _ ⟨us, j, e⟩ => K q hq (news_cls N (o := q.2) hq hp (e ▸ cls_lp))) (fun q hq ⟨us, e⟩ => K q hq (news_cls N (o := q.2) hq hp (e ▸ cls_tp)))
theorem Duo.logged {e : Addr} {es : List Addr} {bs : List Bool} {b : Bool} {pcs qs : List Pc} {k kl k' : Nat} (P : Pile C X p d pcs) (hp : pcs.map Pc.fp = s.ps.map (fpPi n)) (N : News hb Lb hO X) (hl : (lg, lstO (es.map Value.ref) kl) ∈ X) (E : Ents X M o es bs) (lo : lg < M) (he : M < e) (hk : ∀ q ∈ X, q.1 ≠ lg → q ∈ X') (hl' : (lg, lstO (es.map Value.ref ++ [.ref e]) k') ∈ X')
    (hm : (e, lstO (qs.map Pc.v) k) ∈ X') (hq : ∀ c ∈ qs, (c.a, c.obj) ∈ X) (hf : qs.map Pc.fp = (if b then o.map fun c => fpPi [] (some c) else [])) (hs : s.lg = bs ++ [b]) : Duo C X' p d lg M o n s := by
  obtain ⟨⟨a, h1⟩, ⟨hs', ta, tb, b', h2⟩, h3⟩ := P
  have ht : ∀ q ∈ X, (∃ vs, q.2 = tupO vs) → q ∈ X' := by
    rintro ⟨q, ob⟩ hq ⟨vs, rfl⟩
    exact hk _ hq (news_cls N hq hl cls_tl)
  have hle : ∀ q ∈ X, M < q.1 → (∃ vs k, q.2 = lstO vs k) → q ∈ X' := by
    rintro ⟨q, ob⟩ hq hM ⟨vs, k, rfl⟩
    exact hk _ hq (Nat.ne_of_gt (Nat.lt_trans lo hM))
  refine ⟨⟨pcs, ⟨⟨a, hk _ h1 (news_cls N h1 hl cls_pl)⟩, ⟨hs', ta, tb, b', hk _ h2 (news_cls N h2 hl cls_dl)⟩, fun c hc => ht _ (h3 c hc) ⟨_, rfl⟩⟩, hp⟩, ⟨es ++ [e], k', ?_, ?_⟩, lo⟩
  · rw [List.map_append]
    exact hl'
  · rw [hs]
    exact .snoc (E.up hle ht) he hm (fun c hc => ht _ (hq c hc) ⟨_, rfl⟩) hf
end
end Mine
namespace Mine
theorem snoc_map {α β : Type} {f : α → β} {l : List α} {r : List β} {x : β} (h : l.map f = r ++ [x]) : ∃ l' y, l = l' ++ [y] ∧ l'.map f = r ∧ f y = x := by
  obtain ⟨l1, l2, rfl, h1, h2⟩ := List.map_eq_append_iff.mp h
  match l2, h2 with
  | [y], h2 => exact ⟨l1, y, rfl, h1, by injection h2⟩
/-- the pile behind a sign taken back -/
theorem off_fp {o n : List Bool} {st : PSt} {ps0 : List Pi} {x0 : Pi} {bs : List Bool} {b : Bool} {qs : List Pc} (hps : st.ps = ps0 ++ [x0]) (hlg : st.lg = bs ++ [b]) (hf : qs.map Pc.fp = (if b then o.map fun c => fpPi [] (some c) else [])) :
    ps0.map (fpPi n) ++ qs.dropLast.map Pc.fp = (offP o st).ps.map (fpPi n) ∧ (offP o st).lg = bs := by
  unfold offP
  rw [hps, hlg, List.dropLast_concat, List.getLastD_concat, List.dropLast_concat]
  refine ⟨?_, rfl⟩
  rw [List.map_append, List.map_dropLast, hf]
  cases b
  · rfl
  · rw [if_pos rfl, if_pos rfl, ← List.map_dropLast, ← List.map_dropLast, List.map_map]
    rfl
end Mine
end
noncomputable section
open PySem PySem.W PySem.Calls PyProof PyProof.Rows Mine
set_option Elab.async false
set_option maxRecDepth 100000
set_option maxHeartbeats 4000000
set_option linter.unusedVariables false
namespace Mine
theorem onP_ne (o : List Bool) (s : PSt) (c : Bool) : ∃ ps0 x0, (onP o s c).ps = ps0 ++ [x0] := by
  unfold onP
  dsimp only
  split
  · exact ⟨_, _, rfl⟩
  · exact ⟨_, _, rfl⟩
theorem onP_lg (o : List Bool) (s : PSt) (c : Bool) : (onP o s c).lg = s.lg ++ [decide (lastN o.length (s.ps ++ [some c]) = o.map some)] := by
  unfold onP
  dsimp only
  split
  · rename_i h; rw [decide_eq_true h]
  · rename_i h; rw [decide_eq_false h]
theorem stP_ne (o w : List Bool) (c : Bool) : ∃ ps0 x0, (stP o (w ++ [c])).ps = ps0 ++ [x0] := by rw [stP_snoc]; exact onP_ne _ _ _
theorem stP_lg (o w : List Bool) (c : Bool) : (stP o (w ++ [c])).lg = (stP o w).lg ++ [decide (lastN o.length ((stP o w).ps ++ [some c]) = o.map some)] := by rw [stP_snoc, onP_lg]
theorem off_snoc {o : List Bool} (ho : o ≠ []) (w : List Bool) (c : Bool) : offP o (stP o (w ++ [c])) = stP o w := by rw [stP_snoc, off_on _ _ _ ho]
theorem stP_lens {o : List Bool} (ho : o ≠ []) (w : List Bool) : (stP o w).lg.length = w.length ∧ (stP o w).ps.length ≤ w.length := by
  refine rev_ind2 (P := fun w => (stP o w).lg.length = w.length ∧ (stP o w).ps.length ≤ w.length) ?_ ?_ w
  · exact ⟨rfl, Nat.le_refl _⟩
  · rintro w c ⟨h1, h2⟩
    rw [stP_lg, List.length_append, List.length_append, h1, stP_snoc]
    refine ⟨rfl, ?_⟩
    have hop : 0 < o.length := List.length_pos_iff.mpr ho
    unfold onP
    dsimp only
    split
    · simp only [List.length_append, List.length_take, List.length_singleton]
      omega
    · simp only [List.length_append, List.length_singleton]
      omega
theorem typ_found {o n w : List Bool} {c : Bool} (ho : o ≠ []) (h : lastN o.length ((stP o w).ps ++ [some c]) = o.map some) : ∃ X, rp o n 0 w = X ++ o.dropLast ∧ rp o n 0 (w ++ [c]) = X ++ n := by
  obtain ⟨X, e1, e2, _⟩ := on_found (n := n) ho h
  rw [txt_st ho] at e1
  rw [← stP_snoc, txt_st ho] at e2
  exact ⟨X, e1, e2⟩
theorem typ_not {o n w : List Bool} {c : Bool} (ho : o ≠ []) (h : ¬ lastN o.length ((stP o w).ps ++ [some c]) = o.map some) : rp o n 0 (w ++ [c]) = rp o n 0 w ++ [c] := by
  have e := (on_not (n := n) h).1
  rwa [← stP_snoc, txt_st ho, txt_st ho] at e
/-- what is given back while signs come off, one by one -/
theorem off_word {X Y : List Bool} {i : Nat} (hi : i < Y.length) : ∃ W c, X ++ Y.take (Y.length - i) = W ++ [c] ∧ X ++ Y.take (Y.length - (i + 1)) = W := by
  refine ⟨X ++ Y.take (Y.length - (i + 1)), Y[Y.length - (i + 1)]'(by omega), ?_, rfl⟩
  rw [List.append_assoc]
  congr 1
  rw [show Y.length - i = Y.length - (i + 1) + 1 by omega, List.take_succ_eq_append_getElem]
def Keeps4 (p1 g1 p2 g2 : Addr) (l l' : List (Addr × Obj)) : Prop := ∀ q ∈ l, q.1 ≠ p1 → q.1 ≠ g1 → q.1 ≠ p2 → q.1 ≠ g2 → q ∈ l'
theorem Keeps4.refl (p1 g1 p2 g2 : Addr) (l : List (Addr × Obj)) : Keeps4 p1 g1 p2 g2 l l := fun _ h _ _ _ _ => h
theorem Keeps4.trans {p1 g1 p2 g2 : Addr} {l₁ l₂ l₃ : List (Addr × Obj)} (a : Keeps4 p1 g1 p2 g2 l₁ l₂) (b : Keeps4 p1 g1 p2 g2 l₂ l₃) : Keeps4 p1 g1 p2 g2 l₁ l₃ := fun q h e f e' f' => b q (a q h e f e' f') e f e' f'
theorem Keeps2.four1 {p1 g1 p2 g2 : Addr} {l l' : List (Addr × Obj)} (a : Keeps2 p1 g1 l l') : Keeps4 p1 g1 p2 g2 l l' := fun q h e f _ _ => a q h e f
theorem Keeps2.four2 {p1 g1 p2 g2 : Addr} {l l' : List (Addr × Obj)} (a : Keeps2 p2 g2 l l') : Keeps4 p1 g1 p2 g2 l l' := fun q h _ _ e f => a q h e f
theorem Keeps4.cons {p1 g1 p2 g2 : Addr} {x : Addr × Obj} {l l' : List (Addr × Obj)} (a : Keeps4 p1 g1 p2 g2 l l') : Keeps4 p1 g1 p2 g2 l (x :: l') := fun q h e f e' f' => .tail _ (a q h e f e' f')
theorem Keeps4.weak {p1 g1 p2 g2 : Addr} {x : Addr × Obj} {X X' : List (Addr × Obj)} (K : Keeps4 p1 g1 p2 g2 (x :: X) X') : Keeps4 p1 g1 p2 g2 X X' := fun q hq e f e' f' => K q (.tail _ hq) e f e' f'
theorem Keeps4.but {p1 g1 p2 g2 I : Addr} {X₀ news₁ X : List (Addr × Obj)} {o : Obj} (K₁ : Keeps4 p1 g1 p2 g2 X₀ news₁) (hne : ∀ q ∈ news₁, q.1 ≠ I) (K₂ : Keeps4 p1 g1 p2 g2 ((I, o) :: news₁) X) : Keeps4 p1 g1 p2 g2 X₀ (Mine.but I X) :=
  fun q hq e f e' f' => but_mem.mpr ⟨K₂ q (.tail _ (K₁ q hq e f e' f')) e f e' f', hne q (K₁ q hq e f e' f')⟩
/-- the two piles, their tuples and the pairs -/
structure Two (C : Addr) (X : List (Addr × Obj)) (l : Addr) (np : Nat) (T1 M p1 d1 g1 p2 d2 g2 : Addr) (o1 n1 o2 n2 : List Bool) (t1 t2 t3 t4 : Tok) (w v : List Bool) : Prop where
  lst : (l, lstO [.str (strB o1) t1, .str (strB n1) t2, .str (strB o2) t3, .str (strB n2) t4] np) ∈ X
  one : (T1, tupO [.ref p1, .ref g1]) ∈ X
  two : (M, tupO [.ref p2, .ref g2]) ∈ X
  D1 : Duo C X p1 d1 g1 M o1 n1 (stP o1 w)
  D2 : Duo C X p2 d2 g2 M o2 n2 (stP o2 v)
  pp : p1 ≠ p2
  gg : g1 ≠ g2
  l1 : l ≠ g1
  l2 : l ≠ g2
theorem Duo.obj {C : Addr} {X : List (Addr × Obj)} {p d lg M : Addr} {o n : List Bool} {s : PSt} (D : Duo C X p d lg M o n s) : (∃ vs k, (p, pileO C d vs k) ∈ X) ∧ ∃ us k, (lg, lstO us k) ∈ X := by
  obtain ⟨⟨pcs, P, _⟩, ⟨es, k, hl, _⟩, _⟩ := D
  exact ⟨⟨_, P.obj⟩, ⟨_, _, hl⟩⟩
section
variable {h₀ h hb hO : Heap} {L Lb C l T1 M p1 d1 g1 p2 d2 g2 : Addr} {np : Nat} {o1 n1 o2 n2 w w' v v' : List Bool} {t1 t2 t3 t4 : Tok} {X X' : List (Addr × Obj)}
theorem Two.first (T : Two C X l np T1 M p1 d1 g1 p2 d2 g2 o1 n1 o2 n2 t1 t2 t3 t4 w v) (N : News hb Lb hO X) (K : Keeps2 p1 g1 X X') (D : Duo C X' p1 d1 g1 M o1 n1 (stP o1 w')) : Two C X' l np T1 M p1 d1 g1 p2 d2 g2 o1 n1 o2 n2 t1 t2 t3 t4 w' v := by
  obtain ⟨⟨vs, k, hp⟩, ⟨us, j, hg⟩⟩ := T.D1.obj
  exact ⟨K _ T.lst (news_cls N T.lst hp cls_lp) T.l1, K _ T.one (news_cls N T.one hp cls_tp) (news_cls N T.one hg cls_tl), K _ T.two (news_cls N T.two hp cls_tp) (news_cls N T.two hg cls_tl), D, T.D2.keep N K hp hg T.pp.symm T.gg.symm T.D1.low, T.pp, T.gg, T.l1, T.l2⟩
theorem Two.second (T : Two C X l np T1 M p1 d1 g1 p2 d2 g2 o1 n1 o2 n2 t1 t2 t3 t4 w v) (N : News hb Lb hO X) (K : Keeps2 p2 g2 X X') (D : Duo C X' p2 d2 g2 M o2 n2 (stP o2 v')) : Two C X' l np T1 M p1 d1 g1 p2 d2 g2 o1 n1 o2 n2 t1 t2 t3 t4 w v' := by
  obtain ⟨⟨vs, k, hp⟩, ⟨us, j, hg⟩⟩ := T.D2.obj
  exact ⟨K _ T.lst (news_cls N T.lst hp cls_lp) T.l2, K _ T.one (news_cls N T.one hp cls_tp) (news_cls N T.one hg cls_tl), K _ T.two (news_cls N T.two hp cls_tp) (news_cls N T.two hg cls_tl), T.D1.keep N K hp hg T.pp T.gg T.D2.low, D, T.pp, T.gg, T.l1, T.l2⟩
theorem Two.weak {x : Addr × Obj} (T : Two C X l np T1 M p1 d1 g1 p2 d2 g2 o1 n1 o2 n2 t1 t2 t3 t4 w v) : Two C (x :: X) l np T1 M p1 d1 g1 p2 d2 g2 o1 n1 o2 n2 t1 t2 t3 t4 w v :=
  ⟨.tail _ T.lst, .tail _ T.one, .tail _ T.two, T.D1.weak, T.D2.weak, T.pp, T.gg, T.l1, T.l2⟩
theorem Two.but {I : Addr} {ob : Obj} (T : Two C X l np T1 M p1 d1 g1 p2 d2 g2 o1 n1 o2 n2 t1 t2 t3 t4 w v) (N : News h₀ L h X) (hI : (I, ob) ∈ X) (hi : Iterish ob) : Two C (but I X) l np T1 M p1 d1 g1 p2 d2 g2 o1 n1 o2 n2 t1 t2 t3 t4 w v :=
  ⟨but_mem.mpr ⟨T.lst, news_ne N T.lst hI (hi.ne (.inr (.inr (.inr rfl))))⟩, but_mem.mpr ⟨T.one, news_ne N T.one hI (hi.ne (.inr (.inl rfl)))⟩, but_mem.mpr ⟨T.two, news_ne N T.two hI (hi.ne (.inr (.inl rfl)))⟩, T.D1.but N hI hi, T.D2.but N hI hi, T.pp, T.gg, T.l1, T.l2⟩
/-- what stands apart from both piles is kept -/
theorem Two.apart (T : Two C X l np T1 M p1 d1 g1 p2 d2 g2 o1 n1 o2 n2 t1 t2 t3 t4 w v) (N : News hb Lb hO X) {q : Addr} {ob : Obj} (hq : (q, ob) ∈ X) (h1 : ∀ d vs k, ob ≠ pileO C d vs k) (h2 : ∀ us k, ob ≠ lstO us k) : q ≠ p1 ∧ q ≠ g1 ∧ q ≠ p2 ∧ q ≠ g2 := by
  obtain ⟨⟨vs, k, hp⟩, ⟨us, j, hg⟩⟩ := T.D1.obj
  obtain ⟨⟨vs', k', hp'⟩, ⟨us', j', hg'⟩⟩ := T.D2.obj
  exact ⟨news_ne N hq hp (h1 _ _ _), news_ne N hq hg (h2 _ _), news_ne N hq hp' (h1 _ _ _), news_ne N hq hg' (h2 _ _)⟩
end
/-- a loop that changes the second pile -/
def TwoJ (C l : Addr) (np : Nat) (T1 M p1 d1 g1 p2 d2 g2 : Addr) (o1 n1 o2 n2 : List Bool) (t1 t2 t3 t4 : Tok) (w : List Bool) (gs₀ : Array GenState) (X₀ : List (Addr × Obj)) (nm : List (Str × Value)) (T : Nat → List Bool) : Inv := fun i m₁ news₁ gs =>
  gs = gs₀ ∧ (∃ mr, m₁ = lay nm mr) ∧ Keeps2 p2 g2 X₀ news₁ ∧ Two C news₁ l np T1 M p1 d1 g1 p2 d2 g2 o1 n1 o2 n2 t1 t2 t3 t4 w (T i)
theorem ItRng.iterish {a c : Int} {n i : Nat} {o : Obj} (h : ItRng a c n i o) : Iterish o := by
  subst h
  exact ⟨_, rfl, by decide, by decide, by decide⟩
theorem Iterish.off {o : Obj} (h : Iterish o) : (∀ C d vs k, o ≠ pileO C d vs k) ∧ ∀ us k, o ≠ lstO us k :=
  ⟨fun C d vs k e => h.ne (o' := o) (.inl ⟨C, e ▸ rfl⟩) rfl, fun us k e => h.ne (o' := o) (.inr (.inr (.inr (e ▸ rfl)))) rfl⟩
end Mine
namespace Mine
theorem small_up {a b : Int} (ha : -(2 ^ 62) ≤ a) (ha' : a < 2 ^ 62) (hb : -(2 ^ 62) ≤ b) (hb' : b < 2 ^ 62) : Builtin.Range.small a b 1 = true := by
  unfold Builtin.Range.small
  rw [rangeSize_nat]
  simp only [Builtin.Range.rangeFitsLong, Bool.and_eq_true, Bool.or_eq_true, decide_eq_true_eq, beq_iff_eq, show ((1 : Int) > 0) by decide, if_true]
  omega
theorem take_snoc {α : Type} {Z ys : List α} {i : Nat} {b : α} (h : ys[i]? = some b) : Z ++ ys.take (i + 1) = Z ++ ys.take i ++ [b] := by
  rw [List.take_add_one, h, List.append_assoc]
  rfl
theorem long_take {α : Type} {Z ys : List α} {i n : Nat} (h : (Z ++ ys).length ≤ n) : (Z ++ ys.take i).length ≤ n := by
  rw [List.length_append] at h ⊢
  rw [List.length_take]
  omega
end Mine
namespace Mine
theorem back_word {o1 n1 wd : List Bool} {c b : Bool} {qs : List Pc} (ho : o1 ≠ []) (hb : b = decide (lastN o1.length ((stP o1 wd).ps ++ [some c]) = o1.map some)) (hf : qs.map Pc.fp = (if b then o1.map fun c => fpPi [] (some c) else [])) :
    ∃ Xz Y zs, rp o1 n1 0 (wd ++ [c]) = Xz ++ Y ∧ rp o1 n1 0 wd = Xz ++ zs ∧ ((qs ≠ [] ∧ Y = n1) ∨ (qs = [] ∧ Y = [c])) ∧ qs.dropLast.map Pc.fp = zs.map fun c => fpPi [] (some c) := by
  by_cases h : lastN o1.length ((stP o1 wd).ps ++ [some c]) = o1.map some
  · rw [decide_eq_true h] at hb
    subst hb
    rw [if_pos rfl] at hf
    obtain ⟨X, e1, e2⟩ := typ_found (n := n1) ho h
    refine ⟨X, n1, o1.dropLast, e2, e1, .inl ⟨?_, rfl⟩, ?_⟩
    · rintro rfl
      cases o1 with
      | nil => exact ho rfl
      | cons a o => cases hf
    · rw [List.map_dropLast, hf, ← List.map_dropLast]
  · rw [decide_eq_false h] at hb
    subst hb
    rw [if_neg Bool.false_ne_true] at hf
    refine ⟨rp o1 n1 0 wd, [c], [], typ_not ho h, (List.append_nil _).symm, .inr ⟨List.map_eq_nil_iff.mp hf, rfl⟩, ?_⟩
    rw [List.map_eq_nil_iff.mp hf]
    rfl
theorem part_get {qs : List Pc} {zs : List Bool} {i : Nat} {c : Pc} (h : qs.map Pc.fp = zs.map fun c => fpPi [] (some c)) (hc : qs[i]? = some c) : ∃ b, zs[i]? = some b ∧ c.p = chS b := by
  have e := congrArg (fun l : List (Str × Str) => l[i]?) h
  simp only [List.getElem?_map, hc, Option.map_some] at e
  cases hb : zs[i]? with
  | none => rw [hb] at e; cases e
  | some b =>
    rw [hb] at e
    exact ⟨b, rfl, congrArg Prod.snd (Option.some.inj e)⟩
end Mine
end
noncomputable section
open PySem PySem.W PySem.Calls PyProof PyProof.Rows PyProof.V PySem.Spec Mine Builtin Builtin.Str
set_option Elab.async false
set_option maxRecDepth 100000
set_option maxHeartbeats 4000000
set_option linter.unusedVariables false
namespace Mine
theorem strB_app (a b : List Bool) : strB a ++ strB b = strB (a ++ b) := by
  apply str_ext'
  rw [Str.cps_append, Array.toList_append, strB_cps, strB_cps, strB_cps, List.map_append]
theorem repl_B {l o n : List Bool} (ho : 1 ≤ o.length) (hk : Builtin.Str.strKind (strB o) = 1) : repl (strB l) (strB o) (strB n) = strB (rp o n 0 l) := by
  apply str_ext'
  rw [repl_rp _ _ _ (by rw [strB_len]; exact ho) hk, strB_cps, strB_cps, strB_cps, strB_cps, rp_map (fun _ _ e => chB_inj e)]
theorem txtP_len {n : List Bool} (hn : n.length ≤ 2) : ∀ ps : List Pi, (txtP n ps).length ≤ 2 * ps.length
  | [] => Nat.le_refl _
  | p :: ps => by
    have ih := txtP_len hn ps
    have e : txtP n (p :: ps) = (match p with | some c => [c] | none => n) ++ txtP n ps := rfl
    rw [e, List.length_append, List.length_cons]
    cases p with
    | none => dsimp only; omega
    | some c => dsimp only; rw [List.length_singleton]; omega
theorem rp_two {o n : List Bool} (ho : o ≠ []) (hn : n.length ≤ 2) (w : List Bool) : (rp o n 0 w).length ≤ 2 * w.length := by
  rw [← txt_st ho]
  have a := txtP_len hn (stP o w).ps
  have b := (stP_lens ho w).2
  omega
theorem pc_text {n : List Bool} {c : Pc} {p : Pi} (h : c.fp = fpPi n p) : (pcText c).cps.toList = (txtP n [p]).map chB ∧ pcLen c = (txtP n [p]).length := by
  have h1 : c.f = (fpPi n p).1 := congrArg Prod.fst h
  have h2 : c.p = (fpPi n p).2 := congrArg Prod.snd h
  have e0 : (Str.ofString "").cps.toList = [] := by decide +kernel
  have e1 : (Str.ofString "").length = 0 := by decide +kernel
  unfold pcText pcLen
  rw [show (("" : Str)) = Str.ofString "" from rfl, join0', h1, h2]
  cases p with
  | none =>
    have et : txtP n [none] = n := txtP_none n
    rw [et]
    simp only [fpPi, List.map_cons, List.map_nil, List.flatten_cons, List.flatten_nil, strB_cps, e0, List.append_nil, strB_len, e1, Nat.add_zero, and_self]
  | some b =>
    have et : txtP n [some b] = [b] := rfl
    rw [et]
    simp only [fpPi, List.map_cons, List.map_nil, List.flatten_cons, List.flatten_nil, strB_cps, e0, List.append_nil, List.nil_append, strB_len, e1, Nat.zero_add, and_self]
theorem pile_text {n : List Bool} : ∀ {pcs : List Pc} {ps : List Pi}, pcs.map Pc.fp = ps.map (fpPi n) → pileText pcs = strB (txtP n ps) ∧ (pcs.map pcLen).sum = (txtP n ps).length := by
  intro pcs
  have key : ∀ {pcs : List Pc} {ps : List Pi}, pcs.map Pc.fp = ps.map (fpPi n) → ((pcs.map pcText).map (·.cps.toList)).flatten = (txtP n ps).map chB ∧ (pcs.map pcLen).sum = (txtP n ps).length := by
    intro pcs
    induction pcs with
    | nil =>
      intro ps h
      cases ps with
      | nil => exact ⟨rfl, rfl⟩
      | cons p ps => cases h
    | cons c pcs ih =>
      intro ps h
      cases ps with
      | nil => cases h
      | cons p ps =>
        rw [List.map_cons, List.map_cons] at h
        injection h with h1 h2
        obtain ⟨a, b⟩ := ih h2
        obtain ⟨x, y⟩ := pc_text h1
        have e : txtP n (p :: ps) = txtP n [p] ++ txtP n ps := txtP_append n [p] ps
        rw [e]
        simp only [List.map_cons, List.flatten_cons, List.sum_cons, List.map_append, List.length_append]
        rw [a, x, b, y]
        exact ⟨rfl, rfl⟩
  intro ps h
  obtain ⟨a, b⟩ := key h
  refine ⟨?_, b⟩
  apply str_ext'
  unfold pileText
  rw [show (("" : Str)) = Str.ofString "" from rfl, join0', a, strB_cps]
theorem item_aabb {k : Int} (h0 : 0 ≤ k) (h1 : k < 4) : Txt.item (Str.ofString "aabb") k = chS (decide (2 ≤ k)) := by
  have : ∀ k : Fin 4, Txt.item (Str.ofString "aabb") (k.val : Int) = chS (decide (2 ≤ ((k.val : Nat) : Int))) := by decide +kernel
  have e := this ⟨k.toNat, by omega⟩
  dsimp only at e
  rwa [Int.toNat_of_nonneg h0] at e
theorem item_last (w : List Bool) (c : Bool) : Txt.item (strB (w ++ [c])) (-1) = chS c := by
  have hl : (strB (w ++ [c])).length = w.length + 1 := by rw [strB_len, List.length_append, List.length_singleton]
  have e : seqIndex? (-1 : Int) (strB (w ++ [c])).length = some w.length := by
    rw [hl]
    simp only [seqIndex?, if_pos (show (-1 : Int) < 0 by decide)]
    rw [if_pos (by simp; omega)]
    congr 1
    omega
  have e2 : (strB (w ++ [c])).cps[w.length]? = some (chB c) := by simp [strB]
  unfold Txt.item Txt.charAt
  rw [e]
  show (⟨#[((strB (w ++ [c])).cps[w.length]?).getD 0]⟩ : Str) = _
  rw [e2]
  rfl
theorem txt_init (x : Str) : (Txt.slice x none (some (-1))).cps.toList = x.cps.toList.dropLast := by
  have e : strSliceIndices none (some (-1)) 1 x.length = strSliceIndices (some ((0 : Nat) : Int)) (some (((0 : Nat) : Int) + ((x.length - 1 : Nat) : Int))) 1 x.length := by
    simp only [strSliceIndices, show ((1 : Int) > 0) = True from by simp, if_true, if_pos (show (-1 : Int) < 0 by decide)]
    congr 1 <;> omega
  have e2 : Txt.slice x none (some (-1)) = Txt.slice x (some ((0 : Nat) : Int)) (some (((0 : Nat) : Int) + ((x.length - 1 : Nat) : Int))) := by
    unfold Txt.slice
    rw [e]
  rw [e2, txt_slice, List.drop_zero, List.dropLast_eq_take]
  rfl
theorem strB_init (w : List Bool) : Txt.slice (strB w) none (some (-1)) = strB w.dropLast := by
  apply str_ext'
  rw [txt_init, strB_cps, strB_cps, List.map_dropLast]
/-- the text after a deed -/
def stepW (w : List Bool) (x : Int) : List Bool := if x.fmod 5 < 4 then w ++ [decide (2 ≤ x.fmod 5)] else w.dropLast
theorem stepW_len (w : List Bool) (x : Int) : (stepW w x).length ≤ w.length + 1 := by
  unfold stepW
  split
  · rw [List.length_append]; exact Nat.le_refl _
  · rw [List.length_dropLast]; omega
section
variable {prog : Program} {w : World} {A : Around} {E : Value → Shared → Prop} {s : Shared} {h₀ : Heap} {L : Addr} {m : Str → Option Value} {news : List (Addr × Obj)} {Q : Value → Shared → Prop}
theorem lst_two {value slice : PySem.Expr} {l : Addr} {q1 q2 : Pr} {n : Nat} {u : Tok} (F : Fr h₀ L s.heap m) (N : News h₀ L s.heap news) (hm : (l, lstO (prVals [q1, q2]) n) ∈ news)
    (hs : subscripted slice false (.ref l) (.ref s.heap.objs.size) = operate [.ref s.heap.objs.size, .ref l] (getItem (.ref l) (.ref s.heap.objs.size))) (hg : ∀ x, letTemporaryGo value (.ref l) x = pure ())
    (h : ∀ D h', Fr h₀ L h' m → News h₀ L h' ((D, lstO (prVals [q1]) 0) :: news) → (∀ p ∈ news, p.1 < D) → Q (.ref D) { s with heap := h' }) :
    wpAny (model prog w) A (subscriptTail value slice (.ref l) (.ref s.heap.objs.size)) Q E { s with heap := s.heap.push { cls := .type "slice", data := .fields #[.none, .int 2 u, .none] } } := by
  refine PyProof.Rows.slice_list F N (News.isList N hm) .none (.int 2 u) (fun h' F' N' => ?_) hs hg (by rw [List.size_toArray, prVals_len, sizeLine_eq]; exact Nat.le_of_ble_eq_true rfl)
  have e : slicePick (prVals [q1, q2]).toArray none (some 2) none = (prVals [q1]).toArray := by
    have e0 : sliceBounds none (some 2) none (prVals [q1, q2]).toArray.size = (((0 : Nat) : Int), ((2 : Nat) : Int), 1) := by
      rw [List.size_toArray, prVals_len]; rfl
    rw [kmk_pick_nat _ e0]
    rfl
  rw [e] at N'
  exact h _ h' F' N' fun p hp => Nat.lt_succ_of_lt (Heap.lt_size (N p hp).1)
end
end Mine
namespace Mine
theorem ints_get : ∀ {vs : List Value} {ns : List Int}, IntsAre vs ns → ∀ {i : Nat} {v : Value}, vs[i]? = some v → ∃ n t, v = .int n t ∧ ns[i]? = some n := by
  intro vs ns h
  induction h with
  | nil => intro i v hv; cases hv
  | cons n t _ ih =>
    intro i v hv
    cases i with
    | zero => exact ⟨n, t, (Option.some.inj hv).symm, rfl⟩
    | succ i => exact ih hv
theorem stepW_fold : ∀ (l : List Int) (w : List Bool), (l.foldl stepW w).length ≤ w.length + l.length
  | [], _ => Nat.le_refl _
  | x :: l, w => by
    have a := stepW_fold l (stepW w x)
    have b := stepW_len w x
    rw [List.foldl_cons, List.length_cons]
    omega
theorem stepW_next {l : List Int} {i : Nat} {x : Int} {w : List Bool} (h : l[i]? = some x) : (l.take (i + 1)).foldl stepW w = stepW ((l.take i).foldl stepW w) x := by
  rw [List.take_add_one, h, List.foldl_append]
  rfl
section
variable {prog : Program} {w : World} {A : Around} {E : Value → Shared → Prop} {s : Shared} {Q : Value → Shared → Prop}
theorem last_B {value slice : PySem.Expr} {wd : List Bool} {c : Bool} {t u : Tok} (hl : wd.length ≤ 1000) (h : ∀ t' k', Q (.str (chS c) t') { s with toks := k' })
    (hs : subscripted slice false (.str (strB (wd ++ [c])) t) (.int (-1) u) = operate [.str (strB (wd ++ [c])) t, .int (-1) u] (getItem (.str (strB (wd ++ [c])) t) (.int (-1) u))) (ht : ∀ r, letTemporaryGo value (.str (strB (wd ++ [c])) t) r = pure ()) :
    wpAny (model prog w) A (subscriptTail value slice (.str (strB (wd ++ [c])) t) (.int (-1) u)) Q E s := by
  have hlen : (strB (wd ++ [c])).length = wd.length + 1 := by rw [strB_len, List.length_append, List.length_singleton]
  refine item_str (by decide) (by rw [hlen]; omega) (by rw [hlen]; omega) ?_ hs ht
  intro _
  rw [item_last]
  exact h _ _
end
end Mine
namespace Mine
theorem tab_ne {ps : Array Value} : (∀ C d vs k, tabObj ps ≠ pileO C d vs k) ∧ (∀ us k, tabObj ps ≠ lstO us k) ∧ (∀ us, tabObj ps ≠ tupO us) ∧ ∀ es k, tabObj ps ≠ dictOf es k := by
  refine ⟨fun C d vs k e => ?_, fun us k e => ?_, fun us e => ?_, fun es k e => ?_⟩
  · cases e
  · cases e
  · cases e
  · cases e
section
variable {h₀ h hb hO : Heap} {L Lb C l T1 M p d lg p1 d1 g1 p2 d2 g2 T : Addr} {np : Nat} {o n o1 n1 o2 n2 w w' v v' : List Bool} {t1 t2 t3 t4 : Tok} {X X' : List (Addr × Obj)} {s : PSt} {ps : Array Value} {pcs : List Pc}
theorem Pile.tab (P : Pile C X p d pcs) (N : News hb Lb hO X) (hT : (T, tabObj ps) ∈ X) (K : Keeps T X X') : Pile C X' p d pcs := by
  obtain ⟨⟨a, h1⟩, ⟨hs, ta, tb, b, h2⟩, h3⟩ := P
  exact ⟨⟨a, K _ h1 (news_ne N h1 hT (Ne.symm (tab_ne.1 _ _ _ _)))⟩, ⟨hs, ta, tb, b, K _ h2 (news_ne N h2 hT (Ne.symm (tab_ne.2.2.2 _ _)))⟩, fun c hc => K _ (h3 c hc) (news_ne N (h3 c hc) hT (Ne.symm (tab_ne.2.2.1 _)))⟩
theorem Duo.tab (D : Duo C X p d lg M o n s) (N : News hb Lb hO X) (hT : (T, tabObj ps) ∈ X) (K : Keeps T X X') : Duo C X' p d lg M o n s := by
  obtain ⟨⟨pcs, P, hp⟩, ⟨es, k, hl, E⟩, lo⟩ := D
  refine ⟨⟨pcs, P.tab N hT K, hp⟩, ⟨es, k, K _ hl (news_ne N hl hT (Ne.symm (tab_ne.2.1 _ _))), E.up ?_ ?_⟩, lo⟩
  · rintro ⟨q, ob⟩ hq _ ⟨vs, k, rfl⟩
    exact K _ hq (news_ne N hq hT (Ne.symm (tab_ne.2.1 _ _)))
  · rintro ⟨q, ob⟩ hq ⟨vs, rfl⟩
    exact K _ hq (news_ne N hq hT (Ne.symm (tab_ne.2.2.1 _)))
theorem Two.tab (W : Two C X l np T1 M p1 d1 g1 p2 d2 g2 o1 n1 o2 n2 t1 t2 t3 t4 w v) (N : News hb Lb hO X) (hT : (T, tabObj ps) ∈ X) (K : Keeps T X X') : Two C X' l np T1 M p1 d1 g1 p2 d2 g2 o1 n1 o2 n2 t1 t2 t3 t4 w v :=
  ⟨K _ W.lst (news_ne N W.lst hT (Ne.symm (tab_ne.2.1 _ _))), K _ W.one (news_ne N W.one hT (Ne.symm (tab_ne.2.2.1 _))), K _ W.two (news_ne N W.two hT (Ne.symm (tab_ne.2.2.1 _))), W.D1.tab N hT K, W.D2.tab N hT K, W.pp, W.gg, W.l1, W.l2⟩
end
/-- what the end of a turn leans on: piles, tables, the loop's list and its iterator -/
structure LW (C S R l : Addr) (np : Nat) (T1 M p1 d1 g1 p2 d2 g2 : Addr) (o1 n1 o2 n2 : List Bool) (t1 t2 t3 t4 : Tok) (w v : List Bool) (I : Addr) (o : Obj) (DL : Addr) (vs : List Value) (pcs1 pcs2 : List Pc) (X : List (Addr × Obj)) : Prop where
  two : Two C X l np T1 M p1 d1 g1 p2 d2 g2 o1 n1 o2 n2 t1 t2 t3 t4 w v
  one : Pile C X p1 d1 pcs1
  sec : Pile C X p2 d2 pcs2
  it : (I, o) ∈ X
  dl : (DL, lstO vs 0) ∈ X
  s : ∃ ps : Array Value, (S, tabObj ps) ∈ X ∧ TriplesOk ps.toList
  r : ∃ ps : Array Value, (R, tabObj ps) ∈ X ∧ TriplesOk ps.toList
  iS : I ≠ S
  iR : I ≠ R
  sR : S ≠ R
  dS : DL ≠ S
  dR : DL ≠ R
section
variable {h₀ h hb hO : Heap} {L Lb C S R l T1 M p1 d1 g1 p2 d2 g2 I DL : Addr} {np : Nat} {o1 n1 o2 n2 w v : List Bool} {t1 t2 t3 t4 : Tok} {o : Obj} {vs : List Value} {pcs1 pcs2 : List Pc} {X X' : List (Addr × Obj)} {ps : Array Value}
theorem LW.tabS (W : LW C S R l np T1 M p1 d1 g1 p2 d2 g2 o1 n1 o2 n2 t1 t2 t3 t4 w v I o DL vs pcs1 pcs2 X) (N : News hb Lb hO X) (K : Keeps S X X') (h' : (S, tabObj ps) ∈ X') (t' : TriplesOk ps.toList) : LW C S R l np T1 M p1 d1 g1 p2 d2 g2 o1 n1 o2 n2 t1 t2 t3 t4 w v I o DL vs pcs1 pcs2 X' := by
  obtain ⟨_, hT, _⟩ := W.s
  obtain ⟨pr, hr, tr⟩ := W.r
  exact ⟨W.two.tab N hT K, W.one.tab N hT K, W.sec.tab N hT K, K _ W.it W.iS, K _ W.dl W.dS, ⟨_, h', t'⟩, ⟨pr, K _ hr (Ne.symm W.sR), tr⟩, W.iS, W.iR, W.sR, W.dS, W.dR⟩
theorem LW.tabR (W : LW C S R l np T1 M p1 d1 g1 p2 d2 g2 o1 n1 o2 n2 t1 t2 t3 t4 w v I o DL vs pcs1 pcs2 X) (N : News hb Lb hO X) (K : Keeps R X X') (h' : (R, tabObj ps) ∈ X') (t' : TriplesOk ps.toList) : LW C S R l np T1 M p1 d1 g1 p2 d2 g2 o1 n1 o2 n2 t1 t2 t3 t4 w v I o DL vs pcs1 pcs2 X' := by
  obtain ⟨_, hT, _⟩ := W.r
  obtain ⟨pr, hr, tr⟩ := W.s
  exact ⟨W.two.tab N hT K, W.one.tab N hT K, W.sec.tab N hT K, K _ W.it W.iR, K _ W.dl W.dR, ⟨pr, K _ hr W.sR, tr⟩, ⟨_, h', t'⟩, W.iS, W.iR, W.sR, W.dS, W.dR⟩
end
end Mine
namespace Mine
theorem LW.fin {C S R l T1 M p1 d1 g1 p2 d2 g2 I DL : Addr} {np : Nat} {o1 n1 o2 n2 w v : List Bool} {t1 t2 t3 t4 : Tok} {o : Obj} {vs : List Value} {pcs1 pcs2 : List Pc} {X : List (Addr × Obj)} {h₀ h : Heap} {L : Addr}
    (W : LW C S R l np T1 M p1 d1 g1 p2 d2 g2 o1 n1 o2 n2 t1 t2 t3 t4 w v I o DL vs pcs1 pcs2 X) (N : News h₀ L h X) (hi : Iterish o) (hDI : DL ≠ I) :
    (I, o) ∈ X ∧ (DL, lstO vs 0) ∈ but I X ∧ Two C (but I X) l np T1 M p1 d1 g1 p2 d2 g2 o1 n1 o2 n2 t1 t2 t3 t4 w v ∧ (∃ ps : Array Value, (S, tabObj ps) ∈ but I X ∧ TriplesOk ps.toList) ∧ ∃ ps : Array Value, (R, tabObj ps) ∈ but I X ∧ TriplesOk ps.toList := by
  obtain ⟨ps, hs, ts⟩ := W.s
  obtain ⟨pr, hr, tr⟩ := W.r
  exact ⟨W.it, but_mem.mpr ⟨W.dl, hDI⟩, W.two.but N W.it hi, ⟨ps, but_mem.mpr ⟨hs, Ne.symm W.iS⟩, ts⟩, ⟨pr, but_mem.mpr ⟨hr, Ne.symm W.iR⟩, tr⟩⟩
end Mine
end
section
open PySem PySem.W PyProof.Rows
set_option Elab.async false
set_option maxRecDepth 100000
set_option maxHeartbeats 8000000
namespace Mine
section
local macro_rules | `(tactic| o_head $_) => `(tactic| skip)
theorem hd0 : (∀ P : Prop, P) → True := by
  intro h
  refine' (?f : PySem.Challenge.rw_ph0024_01.Holds → True) ?x
  case f => exact fun _ => trivial
  case x =>
    w_on
    o_law
    k_head
    exact h _
end
noncomputable def kK : Params → Frag := by
  refine' (fun (_ : (Str.ofString "k").cps.size = 1) => (?f : (hd0.heap_39 = ?K) → Params → Frag) ?h) ?p
  case f => exact fun _ => ?K
  case h =>
    delta hd0.heap_39
    exact rfl
  case p => rfl
abbrev kAddrs : List Addr := [2,3,15,17,18,20,21,22,24,25,27,28,29,32,37,38,39,41,42,44,45,46,48,49,51,52,53,54,56,57,59,60,61,62,64,65,67,68,69,71,72,74,75,76,78,79,81,82,83,84,86,87,89,90,91,93,94,96,97,98,99,101,102,104,105,106,107,108,109,110,113,115,116,118,119,120,123,124,125,127,128,130,131,132,134,135,137,138,139,141,142,144,145,146,148,149,151,152]
local macro_rules | `(tactic| k_head) => `(tactic| o_head (kmHook kK kAddrs (fun _ => by kernel_rfl) [70,77]))
open_top hd for PySem.Challenge.rw_ph0024_01
end Mine
end
section
open PySem PySem.W PySem.Calls PyProof.Rows Mine
set_option Elab.async false
set_option compiler.extract_closed false
set_option maxRecDepth 100000
set_option maxHeartbeats 8000000
set_option linter.unusedVariables false
namespace Mine
set_option hygiene false in
local macro_rules | `(tactic| wtm_at "S8") => `(tactic| ((case k1 | k2 | k3 | k4 | k5 => k_asm); (case k6 => first | rfl | assumption); (case k7 => ktr_room); (case k8 => ktr_units)))
set_option hygiene false in
local macro_rules | `(tactic| wtm_at "E8") => `(tactic| ((case kA | kF => exact rfl); (case kK => first | assumption | exact rfl); (case k1 | k2 | k3 | k4 | k5 => k_asm); (case k6 | k7 => k_is); (case k8 => ktr_room)))
set_option hygiene false in
local macro_rules | `(tactic| wtm_at "E9") => `(tactic| ((case k9 => first | exact BindsTo.of_eq rfl | exact binds_K (by k_in) rfl (by k_is) rfl rfl rfl)))
local macro_rules | `(tactic| wtm_at "R1") => `(tactic| (with_reducible show wpAny _ _ (subscriptTail _ _ (Value.ref _) (Value.ref _)) _ _ _))
local macro_rules | `(tactic| wtm_at "R2") => `(tactic| (with_reducible show wpAny _ _ (subscriptTail _ _ (Value.ref _) (Value.int _ _)) _ _ _))
local macro_rules | `(tactic| k_mem) => `(tactic| assumption)
local macro_rules | `(tactic| ktr_enter) => `(tactic| (refine' code_def ?k1 ?k2 ?k3 ?k4 ?k5 ?kA ?kF ?kK ?k6 ?k7 ?k8 ?k9 ?kB ?_ ?c2 ?c3 ?c4 ?c5; wtm_at "E8"; wtm_at "E9"; (case c5 => decide); (case kB => exact locs rfl); (case c2 | c3 | c4 => exact rfl); k_whole; intro g' L' h' FG' F' N' B' X' T'; (try dsimp only); (try k_fold)))
local macro_rules | `(tactic| k_inst) => `(tactic| (refine' Mine.pileInst ?N ?h1 ?h2; (case N => k_asm); (case h1 | h2 => k_mem)))
local macro_rules | `(tactic| walk_at "getMethod ref") => `(tactic| (k_here; k_dflt (refine' Mine.method_sub ?k1 ?k2 ?k3 ?k4 ?k4b ?k4c ?k5 ?k6 ?k7 ?k8 ?_; (case k1 | k2 => k_asm); (case k3 => k_inst); (case k4 => k_is); (case k4b => decide +kernel); (case k4c | k5 | k6 => k_is); (case k7 => decide); (case k8 => k_get); k_whole)))
local macro_rules | `(tactic| walk_at "call builtin:list.append") => `(tactic| (k_here; k_dflt (refine' Mine.pile_append ?k1 ?k2 ?k3 ?k4 ?k5 ?k6 ?k7 ?_; (case k1 | k2 | k3 => k_asm); (case k4 | k5 => k_mem); (case k6 => k_is); (case k7 => assumption); k_whole; intro h' F' N')))
local macro_rules | `(tactic| walk_at "subscriptTail") => `(tactic| (k_here; wtm_at "R1"; k_dflt (refine' Mine.pile_from ?k1 ?k2 ?k3 ?k4 ?k5 ?k6 ?k7 ?k8 ?k9 ?k10 ?k11 ?k12 ?_; (case k1 | k2 | k3 => k_asm); (case k4 | k5 => k_mem); (case k6 | k7 | k8 => k_is); (case k9 | k10 => assumption); (case k11 => (intro _; with_unfolding_all rfl)); (case k12 => (intro _; with_unfolding_all rfl)); k_whole; intro D' h' F' N' l1)))
local macro_rules | `(tactic| walk_at "setItem ref ref") => `(tactic| (k_here; k_dflt (refine' Mine.pile_cut ?k1 ?k2 ?k3 ?kl ?k4 ?k5 ?k6 ?k7 ?k8 ?k9 ?k10 ?_; (case k1 | k2 | k3 | kl => k_asm); (case k4 | k5 => k_mem); (case k6 | k7 | k8 => k_is); (case k9 | k10 => assumption); k_whole; intro h' n' F' N'; (try dsimp only))))
local macro_rules | `(tactic| ks_enter) => `(tactic| (refine' ks_code_super ?k1 ?k2 ?k3 ?k4 ?k5 ?kA ?kF ?kK ?k6 ?k7 ?k8 ?k9 ?kB ?_ ?c1 ?c2 ?c3 ?c4; wtm_at "E8"; wtm_at "E9"; (case kB => exact locs rfl); (case c1 => decide); (case c2 | c3 | c4 => exact rfl); intro g' L' h' FG' F' N' B' X' T' l1; (try dsimp only)))
local macro_rules | `(tactic| walk_at "getMethod ref") => `(tactic| (k_here; k_dflt (first
  | (refine' Mine.super_len ?k1 ?k2 ?k3 ?k4 ?k5 ?k6 ?k7 ?k8 ?_; (case k1 => k_asm); (case k2 => k_asm); (case k3 => k_asm); (case k4 => k_mem); (case k5 => k_inst); (case k6 => k_is); (case k7 => ks_is); (case k8 => k_is); intro q' h' F' N' l1)
  | (refine' Mine.super_init ?k1 ?k2 ?k3 ?k4 ?k5 ?k6 ?k7 ?k8 ?_; (case k1 => k_asm); (case k2 => k_asm); (case k3 => k_asm); (case k4 => k_mem); (case k5 => k_inst); (case k6 => k_is); (case k7 => ks_is); (case k8 => k_is); intro q' h' F' N' l1))))
local macro_rules | `(tactic| walk_at "callWith ref") => `(tactic| (k_here; k_dflt (refine' Mine.callWith_wrap ?k1 ?k2 ?_; (case k1 => k_asm); (case k2 => k_mem); k_whole)))
local macro_rules | `(tactic| walk_at "call ref") => `(tactic| (k_here; k_dflt (refine' Mine.call_len ?k1 ?k2 ?k3 ?k4 ?_; (case k1 => k_asm); (case k2 | k3 => k_mem); (case k4 => assumption); k_whole)))
local macro_rules | `(tactic| walk_at "setAttr ref") => `(tactic| (k_here; k_dflt (refine' Mine.set_pile ?k1 ?k2 ?k3 ?k4 ?k5 ?k6 ?k7 ?k8 ?k9 ?k10 ?_; (case k1 | k2 | k3 => k_asm); (case k4 | k5 => k_mem); (case k6 | k7 => k_is); (case k8 | k9 => rfl); (case k10 => k_is); intro h' tk' F' N'; (try replace N' := Mine.news_dict2 N' (by assumption) (by assumption)); (try dsimp only))))
local macro_rules | `(tactic| walk_at "call ref") => `(tactic| (k_here; k_dflt (refine' Mine.call_init ?k1 ?k2 ?k3 ?k4 ?k5 ?_; (case k1 | k2 => k_asm); (case k3 | k4 => k_mem); (case k5 => first | assumption | (simp; done) | decide); intro h' n' F' N')))
section
theorem topOffpush : True := by
  w_top off
  trivial
theorem push_spec {w : World} {p : Program} {loose : List Str} {mean : ExcName → Option Value} {mg mb : Str → Option Value}
  {dp un : Nat} {gd : Option (List Code)} {cn : Str} {cs : Scope} {a : Addr} {ccd : Value} {cl : List (Str × Addr)} {outer : List Env} {A₀ : Around} {base h₀ : Heap} {L : Addr} {m : Str → Option Value} {news : List (Addr × Obj)} {s : Shared}
    {Q E : Value → Shared → Prop}
    (B : Below A₀ base outer h₀) (F : Fr h₀ L s.heap m) (X : (kK w.params).In h₀) (N : News h₀ L s.heap news) (T : Top p loose mean mg mb h₀) (hk : cs.kind = .function)
    (hd1 : dp + 1 < recursionLimit) (hu : un + 8 < cLine)
    (pl d : Addr) (its : List Value) (n k : Nat) (hs : Int) (ta tb : Tok) (x y : Value)
    (hm : (pl, pileO 108 d its n) ∈ news) (hdm : (d, dictOf (isz hs ta tb) k) ∈ news) (hsz : its.length ≤ sizeLine)
    (hret : ∀ t h' tk' n', Fr h₀ L h' m → News h₀ L h' ((t, tupO [x, y]) :: setAt pl (pileO 108 d (its ++ [.ref t]) n') news) → (∀ q ∈ news, q.1 < t) → Q .none { s with heap := h', toks := tk' }) :
    wpAny (model PySem.Challenge.rw_ph0024_01.row.prog w) (ktrTop dp un gd cn cs L a ccd cl outer) (call (.ref 52) [.ref pl, x, y]) Q E s := by
  revert X; k_fill; intro X
  refine wpAny_call ?_
  k_dflt ktr_enter
  k_steps
  exact hret _ _ _ _ (by k_asm) (news_cons (by k_asm) hm (by assumption)) (by assumption)
end
section
theorem topOffpopfrom : True := by
  w_top off
  trivial
theorem pop_from_spec {w : World} {p : Program} {loose : List Str} {mean : ExcName → Option Value} {mg mb : Str → Option Value}
  {dp un : Nat} {gd : Option (List Code)} {cn : Str} {cs : Scope} {a : Addr} {ccd : Value} {cl : List (Str × Addr)} {outer : List Env} {A₀ : Around} {base h₀ : Heap} {L : Addr} {m : Str → Option Value} {news : List (Addr × Obj)} {s : Shared}
    {Q E : Value → Shared → Prop}
    (B : Below A₀ base outer h₀) (F : Fr h₀ L s.heap m) (X : (kK w.params).In h₀) (N : News h₀ L s.heap news) (T : Top p loose mean mg mb h₀) (hk : cs.kind = .function)
    (hd1 : dp + 1 < recursionLimit) (hu : un + 8 < cLine)
    (pl d : Addr) (its : List Value) (n k : Nat) (hs : Int) (ta tb : Tok) (i : Int) (ti : Tok)
    (hm : (pl, pileO 108 d its n) ∈ news) (hdm : (d, dictOf (isz hs ta tb) k) ∈ news) (hsz : its.length ≤ sizeLine) (hi0 : 0 ≤ i)
    (hret : ∀ D h' tk' n', Fr h₀ L h' m → News h₀ L h' ((D, lstO (its.drop i.toNat) 0) :: setAt pl (pileO 108 d (its.take i.toNat) n') news) → (∀ q ∈ news, q.1 < D) → Q (.ref D) { s with heap := h', toks := tk' }) :
    wpAny (model PySem.Challenge.rw_ph0024_01.row.prog w) (ktrTop dp un gd cn cs L a ccd cl outer) (call (.ref 60) [.ref pl, .int i ti]) Q E s := by
  revert X; k_fill; intro X
  refine wpAny_call ?_
  k_dflt ktr_enter
  k_steps
  exact hret _ _ _ _ (by k_asm) (news_cons (by k_asm) hm (by assumption)) (by assumption)
end
section
theorem topOffpartcount : True := by
  w_top off
  trivial
theorem part_count_spec {w : World} {p : Program} {loose : List Str} {mean : ExcName → Option Value} {mg mb : Str → Option Value}
  {dp un : Nat} {gd : Option (List Code)} {cn : Str} {cs : Scope} {a : Addr} {ccd : Value} {cl : List (Str × Addr)} {outer : List Env} {A₀ : Around} {base h₀ : Heap} {L : Addr} {m : Str → Option Value} {news : List (Addr × Obj)} {s : Shared}
    {Q E : Value → Shared → Prop}
    (B : Below A₀ base outer h₀) (F : Fr h₀ L s.heap m) (X : (kK w.params).In h₀) (N : News h₀ L s.heap news) (T : Top p loose mean mg mb h₀) (hk : cs.kind = .function)
    (hd1 : dp + 1 < recursionLimit) (hu : un + 8 < cLine)
    (pl d : Addr) (its : List Value) (n k : Nat) (hs : Int) (ta tb : Tok)
    (hm : (pl, pileO 108 d its n) ∈ news) (hdm : (d, dictOf (isz hs ta tb) k) ∈ news) (hsz : its.length ≤ sizeLine)
    (hret : ∀ h' tk' t, Fr h₀ L h' m → News h₀ L h' news → Q (.int its.length t) { s with heap := h', toks := tk' }) :
    wpAny (model PySem.Challenge.rw_ph0024_01.row.prog w) (ktrTop dp un gd cn cs L a ccd cl outer) (call (.ref 105) [.ref pl]) Q E s := by
  revert X; k_fill; intro X
  refine wpAny_call ?_
  k_dflt ks_enter
  k_steps
  exact hret _ _ _ (by k_asm) (news_tail (news_tail (by k_asm)))
end
section
theorem topOffmake : True := by
  w_top off
  trivial
theorem make_spec {w : World} {p : Program} {loose : List Str} {mean : ExcName → Option Value} {mg mb : Str → Option Value}
  {dp un : Nat} {gd : Option (List Code)} {cn : Str} {cs : Scope} {a : Addr} {ccd : Value} {cl : List (Str × Addr)} {outer : List Env} {A₀ : Around} {base h₀ : Heap} {L : Addr} {m : Str → Option Value} {news : List (Addr × Obj)} {s : Shared}
    {Q E : Value → Shared → Prop}
    (B : Below A₀ base outer h₀) (F : Fr h₀ L s.heap m) (X : (kK w.params).In h₀) (N : News h₀ L s.heap news) (T : Top p loose mean mg mb h₀) (hk : cs.kind = .function)
    (hd1 : dp + 2 < recursionLimit) (hu : un + 12 < cLine)
    (hret : ∀ x dx h' tk' n' hs ta tb, Fr h₀ L h' m → News h₀ L h' ((x, pileO 108 dx [] n') :: (dx, dictOf (isz hs ta tb) 1) :: news) → (∀ q ∈ news, q.1 < dx) → dx < x → Q (.ref x) { s with heap := h', toks := tk' }) :
    wpAny (model PySem.Challenge.rw_ph0024_01.row.prog w) (ktrTop dp un gd cn cs L a ccd cl outer) (call (.ref 108) [] []) Q E s := by
  revert X; k_fill; intro X
  refine call_pile F X N (by kernel_rfl) (by k_is) (by k_is) ?_
  intro x dx h' F' N' l1 l2
  k_dflt ks_enter
  refine ks_wpAt_execs_cons ?_
  refine wpAt_of_wpAny ?_
  walk1
  walk1
  walk1
  walk1
  refine ks_wpAt_execs_cons ?_
  refine ks_wpAt_Expr_any ?_ rfl rfl
  k_steps
  exact hret _ _ _ _ _ _ _ _ (by k_asm) (news_make (by k_asm) l1 l2) l1 l2
end
section
theorem topOffreplace : True := by
  w_top off
  trivial
local macro_rules | `(tactic| ktr_enter) => `(tactic| (refine' Mine.code_rest ?k1 ?k2 ?k3 ?k4 ?k5 ?kA ?kF ?kK ?k6 ?k7 ?k8 ?kz ?kB ?_ ?c2 ?c3 ?c4 ?c5; wtm_at "E8"; (case kz => assumption); (case kB => exact fun _ => locs rfl); (case c5 => decide); (case c2 | c3 | c4 => exact rfl); k_whole; intro D' g' L' h' l1 FG' F' N' B' X' T'; (try dsimp only); (try k_fold)))
local macro_rules | `(tactic| walk_at "truthy ref") => `(tactic| (k_here; (with_reducible show wpAny _ _ (truthy (Value.ref _)) _ _ _); k_dflt (refine' ktl_truthyK ?N ?m ?z ?_; (case N => k_asm); (case m => k_mem); (case z => first | assumption | exact Nat.le_of_ble_eq_true rfl); k_whole); (try simp only [prVals, List.isEmpty_cons, List.isEmpty_nil, Bool.not_false, Bool.not_true])))
local macro_rules | `(tactic| walk_at "call builtin:str.split") => `(tactic| (k_here; k_dflt (refine' Mine.split_K ?k1 ?k2 ?k3 ?k4 ?_; (case k1 | k2 => k_asm); (case k3 | k4 => assumption); k_whole; intro D' l' h' k' e' F' N' l1)))
local macro_rules | `(tactic| walk_at "call builtin:str.join") => `(tactic| (k_here; k_dflt (refine' Mine.join_K ?k1 ?k2 ?k3 ?k4 ?k5 ?k6 ?_; (case k1 => k_asm); (case k2 => exact List.Mem.head _); (case k3 | k4 | k5 | k6 => assumption); k_whole; intro t' k')))
local macro_rules | `(tactic| walk_at "subscriptTail") => `(tactic| (k_here; (with_reducible show wpAny _ _ (subscriptTail _ _ (Value.ref _) (Value.int 0 _)) _ _ _); (refine' Mine.tup_item0 ?k1 ?k2 ?_ ?k3; (case k1 => k_asm); (case k2 => k_mem); (case k3 => with_unfolding_all rfl); k_whole)))
local macro_rules | `(tactic| walk_at "subscriptTail") => `(tactic| (k_here; (with_reducible show wpAny _ _ (subscriptTail _ _ (Value.ref _) (Value.int 1 _)) _ _ _); (refine' Mine.tup_item1 ?k1 ?k2 ?_ ?k3; (case k1 => k_asm); (case k2 => k_mem); (case k3 => with_unfolding_all rfl); k_whole)))
local macro_rules | `(tactic| walk_at "subscriptTail") => `(tactic| (k_here; wtm_at "R1"; k_dflt (refine' Mine.tup_drop2 ?k1 ?k2 ?k3 ?k4 ?k5 ?k6 ?_; (case k1 | k2 => k_asm); (case k3 => k_mem); (case k4 => assumption); (case k5 => with_unfolding_all rfl); (case k6 => (intro _; with_unfolding_all rfl)); k_whole; intro D' h' F' N' l1)))
abbrev rMap (x : Str) (tx : Tok) (tp : Addr) : Str → Option Value := fun y => if y = (Str.ofString "pairs") then some (.ref tp) else if y = (Str.ofString "text") then some (.str x tx) else none
theorem rMap_next (x y : Str) (tx ty : Tok) (tp tq : Addr) : (fun z : Str => if z = Str.ofString "pairs" then some (Value.ref tq) else if z = Str.ofString "text" then some (Value.str y ty) else rMap x tx tp z) = rMap y ty tq := by
  funext z
  unfold rMap
  by_cases h : z = Str.ofString "pairs"
  · rw [if_pos h, if_pos h]
  · rw [if_neg h]
    by_cases h2 : z = Str.ofString "text"
    · rw [if_pos h2, if_neg h, if_pos h2]
    · rw [if_neg h2, if_neg h, if_neg h2, if_neg h, if_neg h2]
theorem news_sub {h₀ h : Heap} {L : Addr} {n₁ n₂ : List (Addr × Obj)} (N : News h₀ L h n₁) (s : ∀ e ∈ n₂, e ∈ n₁) : News h₀ L h n₂ := fun p hp => N p (s p hp)
def rJ (news : List (Addr × Obj)) (fin : Str) : Nat → (Str → Option Value) → List (Addr × Obj) → Prop := fun k m₁ news₁ =>
  ∃ prs x tx tp, k = prs.length ∧ m₁ = rMap x tx tp ∧ news₁ = (tp, tupO (prVals prs)) :: news ∧ replAll x prs = fin ∧ x.length ≤ 1000 ∧ (∀ q ∈ prs, q.ok) ∧ prs.length ≤ 100
theorem replace_spec {w : World} {p : Program} {loose : List Str} {mean : ExcName → Option Value} {mg mb : Str → Option Value}
  {dp un : Nat} {gd : Option (List Code)} {cn : Str} {cs : Scope} {a : Addr} {ccd : Value} {cl : List (Str × Addr)} {outer : List Env} {A₀ : Around} {base h₀ : Heap} {L : Addr} {m : Str → Option Value} {news : List (Addr × Obj)} {s : Shared}
    {Q E : Value → Shared → Prop}
    (B : Below A₀ base outer h₀) (F : Fr h₀ L s.heap m) (X : (kK w.params).In h₀) (N : News h₀ L s.heap news) (T : Top p loose mean mg mb h₀) (hk : cs.kind = .function)
    (hd1 : dp + 1 < recursionLimit) (hu : un + 8 < cLine)
    (x : Str) (tx : Tok) (prs₀ : List Pr) (ok : ∀ q ∈ prs₀, q.ok) (hl₀ : prs₀.length ≤ 100) (hx : x.length ≤ 1000)
    (hret : ∀ h' tk' t, Fr h₀ L h' m → News h₀ L h' news → Q (.str (replAll x prs₀) t) { s with heap := h', toks := tk' }) :
    wpAny (model PySem.Challenge.rw_ph0024_01.row.prog w) (ktrTop dp un gd cn cs L a ccd cl outer) (call (.ref 28) (.str x tx :: prVals prs₀)) Q E s := by
  have hz₀ : (prVals prs₀).length ≤ sizeLine := by rw [prVals_len, sizeLine_eq]; omega
  revert X; k_fill; intro X
  refine wpAny_call ?_
  k_dflt ktr_enter
  rename_i D' g' L' h' l1 FG' F' N' B' X' T' 
  refine wpAny_execs_cons ?_
  have F2 : Fr g' L' h' (rMap x tx D') := by
    have e := lookup2 (Str.ofString "pairs") (Str.ofString "text") (.ref D') (.str x tx)
    have F3 : Fr g' L' h' (fun y : Str => ([(Str.ofString "pairs", .ref D'), (Str.ofString "text", .str x tx)] : List (Str × Value)).lookup y) := F'
    rw [e] at F3
    exact F3
  refine While_inv2 (h₀ := g') (L := L') (news := (D', tupO (prVals prs₀)) :: news) (rJ news (replAll x prs₀)) (n₀ := prs₀.length) (m := rMap x tx D') F2 N' ⟨prs₀, x, tx, D', rfl, rfl, rfl, rfl, hx, ok, hl₀⟩ ?_ (by with_unfolding_all passes_own)
  clear F' N' F2
  intro k m₁ news₁ h₁ tk₁ F₁ N₁ J₁
  obtain ⟨prs, y, ty, tp, rfl, rfl, rfl, hfin, hy, hpr, hlen⟩ := J₁
  cases prs with
  | nil =>
    k_steps
    subst hfin
    exact hret _ _ _ (by k_asm) (news_tail (by k_asm))
  | cons q r =>
    obtain ⟨ho, hn, ho2⟩ := hpr q List.mem_cons_self
    change News _ _ _ ((tp, tupO (Value.str q.o q.t :: Value.str q.n q.u :: prVals r)) :: news) at N₁
    have hn2 : q.n.length ≤ 100 := Nat.le_trans hn ho2
    have hz : (Value.str q.o q.t :: Value.str q.n q.u :: prVals r).length ≤ 1000 := by
      have := prVals_len r
      simp only [List.length_cons] at hlen ⊢
      omega
    k_steps
    refine ⟨_, _, _, (_, tupO (prVals r)) :: news, r.length, rfl, by k_asm, news_sub (by k_asm) ?_, Nat.lt_succ_self _, r, repl y q.o q.n, _, _, rfl, rMap_next .., rfl, hfin, ?_, fun q' hq' => hpr q' (List.mem_cons_of_mem _ hq'), Nat.le_trans (Nat.le_succ _) hlen⟩
    · intro e he
      rcases List.mem_cons.mp he with rfl | he
      · exact List.Mem.head _
      · exact List.Mem.tail _ (List.Mem.tail _ (List.Mem.tail _ he))
    · exact Nat.le_trans (repl_len _ _ _ hn) hy
end
section
theorem topOffstr : True := by
  w_top off
  trivial
theorem str_spec (w : World) (p : Program) (loose : List Str) (mean : ExcName → Option Value) (mg mb : Str → Option Value) (A : Around) (Q E : Value → Shared → Prop) (s : Shared)
    (X : (kK w.params).In s.heap) (T : Top p loose mean mg mb s.heap) (hA : A.handled = none) (hdep : A.depth + 3 < recursionLimit) (hu : A.units + 20 < cLine)
    (pl d P : Addr) (od : Obj) (pcs : List Pc) (n : Nat) (ps : Array Value) (hm : s.heap.get? pl = some (pileO 108 d (pcs.map fun c => .ref c.a) n)) (hdm : s.heap.get? d = some od) (hit : ∀ c ∈ pcs, s.heap.get? c.a = some c.obj)
    (hw : (pcs.map fun c => c.f.length + c.p.length).sum + pcs.length ≤ 100000)
    (hok : s.heap.IsCode 81 P ps) (htab : s.heap.TableAt 81 P ps) (G : AllBare s.gens)
    (hret : ∀ h' tk' g' more t, Heap.ExtBut P s.heap h' → h'.IsCode 81 P (ps ++ more) → h'.TableAt 81 P (ps ++ more) → AllBare g' → Q (.str (pileText pcs) t) { s with heap := h', toks := tk', gens := g' }) :
    wpAny (model PySem.Challenge.rw_ph0024_01.row.prog w) A (call (.ref 82) [.ref pl]) Q E s := by
  revert X; k_fill; intro X
  refine wpAny_call ?_
  refine ks_codeAny_call_defAt (binds := [("self", .ref pl)]) (by omega) (X _ _ (by k_is)) rfl T.nolimit (codeRec_of X (by k_is)) rfl (BindsTo.of_eq rfl) (by decide) (locs rfl) (fun h₁ hns hk => wpAt_of_wpAny ?_) rfl rfl rfl
  have F : Fr s.heap s.heap.objs.size h₁ (fun x => [(("self" : Str), Value.ref pl)].reverse.lookup x) := ⟨hns, hk, Nat.le_refl _⟩
  have N : News s.heap s.heap.objs.size h₁ [] := News.nil
  k_steps
  obtain ⟨bm, ob, M⟩ := bmod_of_top T
  have X₁ : (kK w.params).In h₁ := X.keeps hk
  have hEm : mg "EMPTYSTRING" = some (.str "" 206) := mg_of X T.g (by k_is)
  refine gen_pile (K := kK w.params) (C := 108) (x := pl) (c := 81) (P := P) (ps := ps) (its := pcs.map fun c => .ref c.a) (n := n) (ox := pileO 108 d (pcs.map fun c => .ref c.a) n) (od := some od) (mg := mg) (bm := bm) (ob := ob)
    (fun j => (pcs.getD j default).a) (fun j => .str (pcs.getD j default).f (pcs.getD j default).tf) (fun j => .str (pcs.getD j default).p (pcs.getD j default).tp) (fun j y => ∃ u, y = .str (pcText (pcs.getD j default)) u)
    hA (Nat.lt_of_lt_of_le (Nat.add_lt_add_right (Nat.lt_add_of_pos_right (by decide : 0 < 2)) 1) (Nat.le_of_lt hdep)) rfl rfl (by decide) rfl rfl rfl (by decide) rfl rfl (hok.keeps hk) (htab.keeps hk) (M.keeps hk) (T.nolimit.keeps hk) G X₁
    ⟨hk _ _ hm, rfl, rfl, hk _ _ hdm⟩ rfl (by k_is) (by k_is) (fun q => wpAny_Name (wpAny_loadName_local rfl rfl hns rfl q) (by decide)) (fun _ => rfl) ?_ ?_ ?_ ?_
  · intro j hj
    rw [List.length_map] at hj
    simp [List.getD_eq_getElem?_getD, List.getElem?_eq_getElem hj]
  · intro j hj
    rw [List.length_map] at hj
    have e : pcs.getD j default = pcs[j] := by simp [List.getD_eq_getElem?_getD, List.getElem?_eq_getElem hj]
    rw [e]
    exact ⟨_, hk _ _ (hit _ (List.getElem_mem hj)), rfl, _, rfl⟩
  · intro C' code A' E' i s₂ m₂ Q' hi hA' hn ha hb hkp hq
    rw [List.length_map] at hi
    have e : pcs.getD i default = pcs[i] := by simp [List.getD_eq_getElem?_getD, List.getElem?_eq_getElem hi]
    have hle : (pcs.getD i default).f.length + (pcs.getD i default).p.length ≤ 100000 := by
      rw [e]
      have : pcs[i].f.length + pcs[i].p.length ≤ (pcs.map fun c => c.f.length + c.p.length).sum := le_sum_of_mem (List.mem_map.mpr ⟨pcs[i], List.getElem_mem hi, rfl⟩)
      omega
    exact elt_join (mg := mg) (te := 206) rfl rfl rfl rfl ((T.g.keeps hk).at' fun o e => hkp _ o (M.apart htab).1 e) hEm hn ha hb hle rfl fun h' tk t hk' => hq _ _ _ ⟨_, rfl⟩ hk'
  · intro a s₅ more hx hok' htab' G' ho hd' W
    dsimp only at hx ho hd' W
    refine spliced_nil ?_
    dsimp only
    rw [List.length_map] at W
    refine join_genW W G' (fun j => pcText (pcs.getD j default)) (fun j v hv => hv) ?_ ?_ fun s' t' hk' G'' ho' hd'' => ?_
    · rw [range_map_getD pcs pcText]
      exact joinOk_of_weight (by rw [pcs_weight, List.length_map]; omega) (by decide)
    · rw [sizeLine_eq]; omega
    · rw [range_map_getD pcs pcText]
      rw [shared_eta s s' (ho'.trans ho) (hd''.trans hd')]
      have hN : s.heap.objs.size < h₁.objs.size := hns.lt
      refine hret _ _ _ more _ (fun b o hb e => hk' b o (Heap.lt_size (hk _ _ e)) (hx b o hb (hk _ _ e))) (hok'.at2 (fun o e => hk' _ o (hok.keeps hk).lt.1 e) (fun o e => hk' _ o (hok.keeps hk).lt.2 e)) (htab'.at2 (fun o e => hk' _ o (hok.keeps hk).lt.1 e) (fun o e => hk' _ o (hok.keeps hk).lt.2 e)) G''
theorem str_led {w : World} {p : Program} {loose : List Str} {mean : ExcName → Option Value} {mg mb : Str → Option Value} {A : Around} {Q E : Value → Shared → Prop} {s : Shared} {h₀ : Heap} {L : Addr} {m : Str → Option Value} {news : List (Addr × Obj)}
    (F : Fr h₀ L s.heap m) (X : (kK w.params).In h₀) (N : News h₀ L s.heap news) (T : Top p loose mean mg mb h₀) (hA : A.handled = none) (hdep : A.depth + 3 < recursionLimit) (hu : A.units + 20 < cLine)
    (pl d : Addr) (pcs : List Pc) (ps : Array Value) (Pl : Pile 108 news pl d pcs) (hw : (pcs.map fun c => c.f.length + c.p.length).sum + pcs.length ≤ 100000) (hP : (77, tabObj ps) ∈ news) (hT : TriplesOk ps.toList) (G : AllBare s.gens)
    (hret : ∀ h' tk' g' ps' t news', Fr h₀ L h' m → News h₀ L h' news' → (77, tabObj ps') ∈ news' → TriplesOk ps'.toList → AllBare g' → Keeps 77 news news' → Q (.str (pileText pcs) t) { s with heap := h', toks := tk', gens := g' }) :
    wpAny (model PySem.Challenge.rw_ph0024_01.row.prog w) A (call (.ref 82) [.ref pl]) Q E s := by
  obtain ⟨⟨n, hm⟩, ⟨hs, ta, tb, k, hdm⟩, hit⟩ := Pl
  have C : CodeHd s.heap 81 77 := codeHd_of_K (X.keeps F.keep) (by kernel_rfl)
  have hz := (N _ hP).2
  refine str_spec w p loose mean mg mb A Q E s (X.keeps F.keep) (T.keeps F.keep) hA hdep hu pl d 77 _ pcs n ps (N.get hm) (N.get hdm) (fun c hc => N.get (hit c hc)) hw (C.code (N.get hP) hT) (C.tab (N.get hP)) G fun h' tk' g' more t hx hc ht hg => ?_
  refine hret h' tk' g' (ps ++ more) t ((77, tabObj (ps ++ more)) :: but 77 news) (Fr.upto F hz.2 (Ne.symm hz.1) hx) ?_ (List.Mem.head _) ?_ hg (fun q hq e => List.Mem.tail _ (but_mem.mpr ⟨hq, e⟩))
  · intro q hq
    rcases List.mem_cons.mp hq with rfl | hq
    · exact ⟨ht.2, hz⟩
    · obtain ⟨h1, h2⟩ := but_mem.mp hq
      exact ⟨hx _ _ h2 (N q h1).1, (N q h1).2⟩
  · obtain ⟨_, _, _, _, _, _, _, _, _, op, _, _, _, _, _, _, _, h1, h2, h3, _⟩ := hc
    exact h3
end
section
theorem topOffpairs1 : True := by
  w_top off
  trivial
local macro_rules | `(tactic| walk_at "subscriptTail") => `(tactic| (k_here; wtm_at "R2"; k_dflt (refine' Mine.tup_pick ?k1 ?k2 ?k3 ?k4 ?k5 ?k6 ?_ ?k7; (case k1 => k_asm); (case k2 => first | exact List.Mem.head _ | exact List.Mem.tail _ (List.Mem.head _) | exact List.Mem.tail _ (List.Mem.tail _ (List.Mem.head _))); (case k3 => repeat constructor); (case k4 | k5 => assumption); (case k6 => decide); (case k7 => with_unfolding_all rfl); k_whole; intro t')))
theorem news_drop3 {h₀ h : Heap} {L : Addr} {a b c d : Addr × Obj} {r : List (Addr × Obj)} (N : News h₀ L h (a :: b :: c :: d :: r)) : News h₀ L h (a :: r) := fun q hq => by
  rcases List.mem_cons.mp hq with rfl | hq
  · exact N _ (.head _)
  · exact N _ (.tail _ (.tail _ (.tail _ (.tail _ hq))))
def olds1 : List Str := [Str.ofString "ab", Str.ofString "ba", Str.ofString "aab", Str.ofString "bb", Str.ofString "aba", Str.ofString "abb"]
def news1 : List Str := [Str.ofString "", Str.ofString "ba", Str.ofString "b", Str.ofString "aa", Str.ofString "ab"]
theorem pairs1_spec {w : World} {p : Program} {loose : List Str} {mean : ExcName → Option Value} {mg mb : Str → Option Value}
  {dp un : Nat} {gd : Option (List Code)} {cn : Str} {cs : Scope} {a : Addr} {ccd : Value} {cl : List (Str × Addr)} {outer : List Env} {A₀ : Around} {base h₀ : Heap} {L : Addr} {m : Str → Option Value} {news : List (Addr × Obj)} {s : Shared}
    {Q E : Value → Shared → Prop}
    (B : Below A₀ base outer h₀) (F : Fr h₀ L s.heap m) (X : (kK w.params).In h₀) (N : News h₀ L s.heap news) (T : Top p loose mean mg mb h₀) (hk : cs.kind = .function)
    (hd1 : dp + 1 < recursionLimit) (hu : un + 20 < cLine)
    (sm : Int) (ts : Tok)
    (hret : ∀ l h' tk' n' t1 t2 t3 t4, Fr h₀ L h' m → News h₀ L h' ((l, lstO [.str (olds1.getD (sm.fmod 6).toNat default) t1, .str (news1.getD ((sm.fdiv 6).fmod 5).toNat default) t2, .str (olds1.getD ((sm.fdiv 30).fmod 6).toNat default) t3, .str (news1.getD ((sm.fdiv 180).fmod 5).toNat default) t4] n') :: news) → (∀ q ∈ news, q.1 < l) → Q (.ref l) { s with heap := h', toks := tk' }) :
    wpAny (model PySem.Challenge.rw_ph0024_01.row.prog w) (ktrTop dp un gd cn cs L a ccd cl outer) (call (.ref 119) [.int sm ts]) Q E s := by
  have h1 : 0 ≤ sm.fmod 6 := Int.fmod_nonneg_of_pos _ (by decide)
  have h2 : sm.fmod 6 < ((olds1.length : Nat) : Int) := Int.fmod_lt_of_pos _ (by decide)
  have h3 : 0 ≤ (sm.fdiv 6).fmod 5 := Int.fmod_nonneg_of_pos _ (by decide)
  have h4 : (sm.fdiv 6).fmod 5 < ((news1.length : Nat) : Int) := Int.fmod_lt_of_pos _ (by decide)
  have h5 : 0 ≤ (sm.fdiv 30).fmod 6 := Int.fmod_nonneg_of_pos _ (by decide)
  have h6 : (sm.fdiv 30).fmod 6 < ((olds1.length : Nat) : Int) := Int.fmod_lt_of_pos _ (by decide)
  have h7 : 0 ≤ (sm.fdiv 180).fmod 5 := Int.fmod_nonneg_of_pos _ (by decide)
  have h8 : (sm.fdiv 180).fmod 5 < ((news1.length : Nat) : Int) := Int.fmod_lt_of_pos _ (by decide)
  revert X; k_fill; intro X
  refine wpAny_call ?_
  k_dflt ktr_enter
  k_steps
  rename News _ _ _ _ => N9
  rename _ < _ ∧ _ => hlt
  refine hret _ _ _ _ _ _ _ _ (by k_asm) (news_drop3 N9) ?_
  intro q hq
  repeat (first | exact allLt_mem hlt hq | replace hlt := hlt.2)
end
local macro_rules | `(tactic| wtm_at "L1") => `(tactic| (k_here; k_dflt (refine' Mine.part_count_spec ?k1 ?k2 ?k3 ?k4 ?k5 ?k6 ?k7 ?k8 _ _ _ _ _ _ _ _ ?c1 ?c2 ?c3 ?_; wtm_at "S8"; (case c1 | c2 => k_mem); (case c3 => assumption); k_whole; intro h' tk' t' F' N'; (try dsimp only))))
section
theorem topOffpop : True := by
  w_top off
  trivial
local macro_rules | `(tactic| walk_at "call ref") => `(tactic| wtm_at "L1")
local macro_rules | `(tactic| walk_at "getMethod ref") => `(tactic| (k_here; k_dflt (refine' Mine.super_pop ?k1 ?k2 ?k3 ?k4 ?k5 ?k6 ?k7 ?k8 ?_; (case k1 | k2 | k3 => k_asm); (case k4 => k_mem); (case k5 => k_inst); (case k6 => k_is); (case k7 => ks_is); (case k8 => k_is); intro q' h' F' N' l1)))
local macro_rules | `(tactic| walk_at "callWith ref") => `(tactic| (k_here; k_dflt (refine' Mine.callWith_pop ?k1 ?k2 ?_; (case k1 => k_asm); (case k2 => k_mem); k_whole)))
local macro_rules | `(tactic| walk_at "call ref") => `(tactic| (k_here; k_dflt (refine' Mine.call_pop ?k1 ?k2 ?k3 ?k4 ?k5 ?k6 ?k7 ?k8 ?k9 ?k10 ?k11 ?_; (case k1 | k2 | k3 => k_asm); (case k4 | k5 | k6 => k_mem); (case k7 => k_is); (case k8 => first | k_is | exact rfl); (case k9 => k_is); (case k10 => rfl); (case k11 => assumption); k_whole; intro h' n' F' N')))
theorem pop_spec {w : World} {p : Program} {loose : List Str} {mean : ExcName → Option Value} {mg mb : Str → Option Value}
  {dp un : Nat} {gd : Option (List Code)} {cn : Str} {cs : Scope} {a : Addr} {ccd : Value} {cl : List (Str × Addr)} {outer : List Env} {A₀ : Around} {base h₀ : Heap} {L : Addr} {m : Str → Option Value} {news : List (Addr × Obj)} {s : Shared}
    {Q E : Value → Shared → Prop}
    (B : Below A₀ base outer h₀) (F : Fr h₀ L s.heap m) (X : (kK w.params).In h₀) (N : News h₀ L s.heap news) (T : Top p loose mean mg mb h₀) (hk : cs.kind = .function)
    (hd1 : dp + 2 < recursionLimit) (hu : un + 30 < cLine)
    (pl d : Addr) (p : List Value) (y : Value) (n k : Nat) (hs : Int) (ta tb : Tok)
    (hm : (pl, pileO 108 d (p ++ [y]) n) ∈ news) (hdm : (d, dictOf (isz hs ta tb) k) ∈ news) (hsz : (p ++ [y]).length ≤ sizeLine)
    (hret : ∀ h' tk' n', Fr h₀ L h' m → News h₀ L h' (setAt pl (pileO 108 d p n') news) → Q y { s with heap := h', toks := tk' }) :
    wpAny (model PySem.Challenge.rw_ph0024_01.row.prog w) (ktrTop dp un gd cn cs L a ccd cl outer) (call (.ref 68) [.ref pl]) Q E s := by
  have hpos : (((p ++ [y]).length : Nat) : Int) ≠ 0 := by simp; omega
  revert X; k_fill; intro X
  refine wpAny_call ?_
  k_dflt ks_enter
  iterate 13 walk1
  · rename _ = _ => hb
    exact absurd (by simpa using hb) hpos
  · walk1
    walk1
    walk1
    dsimp only
    w_top off
    k_steps
    rename News _ _ _ _ => N9
    exact hret _ _ _ (by k_asm) (fun q hq => N9 _ (setAt_tail (setAt_tail hq)))
end
local macro_rules | `(tactic| wtm_at "L2") => `(tactic| (k_here; k_dflt (refine' Mine.push_spec ?k1 ?k2 ?k3 ?k4 ?k5 ?k6 ?k7 ?k8 _ _ _ _ _ _ _ _ _ _ ?c1 ?c2 ?c3 ?_; wtm_at "S8"; (case c1 | c2 => k_mem); (case c3 => assumption); k_whole; intro t' h' tk' n' F' N' l1; (try dsimp only))))
section
theorem topOffon : True := by
  w_top off
  trivial
local macro_rules | `(tactic| walk_at "call ref") => `(tactic| wtm_at "L2")
local macro_rules | `(tactic| walk_at "call ref") => `(tactic| (k_here; k_dflt (refine' Mine.pop_from_spec ?k1 ?k2 ?k3 ?k4 ?k5 ?k6 ?k7 ?k8 _ _ _ _ _ _ _ _ _ _ ?c1 ?c2 ?c3 ?c4 ?_; wtm_at "S8"; (case c1 | c2 => k_mem); (case c3 => assumption); (case c4 => first | assumption | (split <;> omega)); k_whole; intro D' h' tk' n' F' N' l1; (try dsimp only))))
local macro_rules | `(tactic| walk_at "call ref") => `(tactic| wtm_at "L1")
local macro_rules | `(tactic| walk_at "call builtin:list.append") => `(tactic| (k_here; k_dflt (refine' Mine.lst_append ?k1 ?k2 ?k3 ?k4 ?_; (case k1 | k2 => k_asm); (case k3 => first | assumption | exact List.Mem.tail _ (by assumption)); (case k4 => assumption); k_whole; intro h' F' N')))
local macro_rules | `(tactic| walk_at "eval ListComp") => `(tactic| (k_here; k_dflt (refine LCp.ListComp_P (F₀ := by k_asm) (by with_unfolding_all rfl) (by decide) (by rfl) (by decide) (by rfl) (by rfl) (by decide) ?_)))
local macro_rules | `(tactic| walk_at "call builtin:str.join") => `(tactic| (k_here; k_dflt (refine' Mine.join_parts ?k1 ?k2 ?k3 ?k4 ?k5 ?_; (case k1 => k_asm); (case k2 => k_mem); (case k3 | k4 => assumption); (case k5 => rfl); k_whole; intro t' k')))
local macro_rules | `(tactic| walk_at "SrcLP") => `(tactic| (k_here; k_dflt (refine' Mine.parts_led ?hh ?k1 ?k2 ?k3 ?k4 ?k5 ?k6 ?k7 ?_; (case hh => rfl); (case k1 | k2 => k_asm); (case k3 => k_mem); (case k4 | k5 => assumption); (case k6 => rfl); (case k7 => (intro _; with_unfolding_all rfl)); k_whole; intro D' h' tk' F' N')))
theorem on_spec {w : World} {p : Program} {loose : List Str} {mean : ExcName → Option Value} {mg mb : Str → Option Value}
  {dp un : Nat} {gd : Option (List Code)} {cn : Str} {cs : Scope} {a : Addr} {ccd : Value} {cl : List (Str × Addr)} {outer : List Env} {A₀ : Around} {base h₀ : Heap} {L : Addr} {m : Str → Option Value} {news : List (Addr × Obj)} {s : Shared}
    {Q E : Value → Shared → Prop}
    (B : Below A₀ base outer h₀) (F : Fr h₀ L s.heap m) (X : (kK w.params).In h₀) (N : News h₀ L s.heap news) (T : Top p loose mean mg mb h₀) (hk : cs.kind = .function)
    (hd1 : dp + 3 < recursionLimit) (hu : un + 100 < cLine)
    (p d lg M : Addr) (vM : List Value) (o n : List Bool) (c : Bool) (st : PSt) (to tn tc : Tok) (D : Duo 108 news p d lg M o n st) (hM : (M, tupO vM) ∈ news) (hps : st.ps.length ≤ 1000) (hlg : st.lg.length ≤ 1000) (hol : o.length ≤ 1000) (hnl : n.length ≤ 1000)
    (hret : ∀ h' tk' news', Fr h₀ L h' m → News h₀ L h' news' → Duo 108 news' p d lg M o n (onP o st c) → Keeps2 p lg news news' → Q (.bool (decide (lastN o.length (st.ps ++ [some c]) = o.map some))) { s with heap := h', toks := tk' }) :
    wpAny (model PySem.Challenge.rw_ph0024_01.row.prog w) (ktrTop dp un gd cn cs L a ccd cl outer) (call (.ref 124) [.ref p, .ref lg, .str (chS c) tc, .str (strB o) to, .str (strB n) tn]) Q E s := by
  obtain ⟨⟨pcs, P, hpc⟩, ⟨es, kl, hl, En⟩, low⟩ := id D
  obtain ⟨⟨np, hm⟩, ⟨hs, ta, tb, k, hdm⟩, hit⟩ := id P
  have hpl : pcs.length = st.ps.length := by
    have := congrArg List.length hpc
    rwa [List.length_map, List.length_map] at this
  have hz : (pcs.map Pc.v).length ≤ sizeLine := by rw [List.length_map, sizeLine_eq]; omega
  have hos : (strB o).length ≤ 1000 := by rw [strB_len]; exact hol
  have hns : (strB n).length ≤ 1000 := by rw [strB_len]; exact hnl
  revert X; k_fill; intro X
  refine wpAny_call ?_
  k_dflt ktr_enter
  rename_i gg LL hh FGG FFF NNN BBB XXX TTT
  rename Fr _ _ _ _ => F9
  obtain ⟨mr, F0⟩ : ∃ mr, Fr _ _ _ (lay [(Str.ofString "pile", .ref p), (Str.ofString "log", .ref lg), (Str.ofString "sign", .str (chS c) tc), (Str.ofString "old", .str (strB o) to), (Str.ofString "new", .str (strB n) tn)] mr) := ⟨_, Mine.Fr.lay F9 ⟨rfl, rfl, rfl, rfl, rfl, trivial⟩⟩
  clear F9
  dsimp only [lay] at F0
  generalize hW : Stmt.For _ _ _ _ _ = W
  have NO : ∃ h, News _ _ h news := ⟨_, N⟩
  k_steps
  rename News _ _ _ _ => N9
  obtain ⟨_, NO⟩ := NO
  obtain ⟨X2, N4, ⟨pcs2, P2, hpc2⟩, K2⟩ : ∃ X2, News _ _ _ X2 ∧ (∃ pcs2, Pile 108 X2 p d pcs2 ∧ pcs2.map Pc.fp = (st.ps ++ [some c]).map (fpPi n)) ∧ Keeps p news X2 := by
    obtain ⟨X2, N4, P2, K2⟩ := pushed P NO N9
    exact ⟨X2, N4, ⟨_, P2, by rw [List.map_append, List.map_append, hpc]; rfl⟩, K2⟩
  clear N9
  have hl2 := K2 _ hl (news_cls N hl hm cls_lp)
  have En2 := En.keep K2 N hm
  have hM2 := K2 _ hM (news_cls N hM hm cls_tp)
  obtain ⟨⟨np2, hm2⟩, ⟨hs2, ta2, tb2, k2, hdm2⟩, hit2⟩ := id P2
  have hpl2 : pcs2.length = st.ps.length + 1 := by
    have := congrArg List.length hpc2
    rwa [List.length_map, List.length_map, List.length_append] at this
  have hz2 : (pcs2.map Pc.v).length ≤ sizeLine := by rw [List.length_map, sizeLine_eq]; omega
  have NO : ∃ h, News _ _ h X2 := ⟨_, N4⟩
  iterate 28 walk1
  rename Fr _ _ _ _ => F5
  rename News _ _ _ _ => N9
  rename ∀ q : Addr × Obj, q ∈ X2 → q.1 < _ => hlt2
  obtain ⟨_, NO⟩ := NO
  obtain ⟨X5, N5, K5, ⟨pcs5, P5, hpc5⟩, qs, hD5, hq5, hqs⟩ : ∃ X5, News _ _ _ X5 ∧ Keeps p X2 X5 ∧ (∃ pcs5, Pile 108 X5 p d pcs5 ∧ pcs5.map Pc.fp = ((st.ps ++ [some c]).take ((st.ps ++ [some c]).length - o.length)).map (fpPi n)) ∧ ∃ qs : List Pc, (_, lstO (qs.map Pc.v) 0) ∈ X5 ∧ (∀ c ∈ qs, (c.a, c.obj) ∈ X5) ∧ qs.map Pc.fp = (lastN o.length (st.ps ++ [some c])).map (fpPi n) := by
    obtain ⟨X5, N5, hD5, P5, K5, hit5⟩ := popped (kk := pcs2.length - o.length) P2 NO N9 (by rw [strB_len, List.length_map]; split <;> omega)
    refine ⟨X5, N5, K5, ⟨_, P5, ?_⟩, _, hD5, fun c hc => hit5 c (List.mem_of_mem_drop hc), ?_⟩
    · rw [List.map_take, hpc2, List.map_take, hpl2, List.length_append]; rfl
    · rw [List.map_drop, hpc2, lastN, List.map_drop, hpl2, List.length_append]; rfl
  clear N9
  have hql : qs.length ≤ 1000 := by
    have := congrArg List.length hqs
    rw [List.length_map, List.length_map, lastN, List.length_drop] at this
    omega
  have hl5 := K5 _ hl2 (news_cls NO hl2 hm2 cls_lp)
  have En5 := En2.keep K5 NO hm2
  have hM5 := K5 _ hM2 (news_cls NO hM2 hm2 cls_tp)
  have NO : ∃ h, News _ _ h X5 := ⟨_, N5⟩
  k_steps
  rename Fr _ _ _ _ => F6
  rename News _ _ _ _ => N6
  obtain ⟨_, NO⟩ := NO
  obtain ⟨b, D5, hb, hD5, hlt5, ⟨mr6, F7⟩⟩ : ∃ (b : Bool) (D5 : Addr), b = decide (lastN o.length (st.ps ++ [some c]) = o.map some) ∧ (D5, lstO (qs.map Pc.v) 0) ∈ X5 ∧ (∀ q ∈ X2, q.1 < D5) ∧ ∃ mr, Fr _ _ _ (lay [(Str.ofString "found", .bool b), (Str.ofString "tail", .ref D5), (Str.ofString "pile", .ref p), (Str.ofString "log", .ref lg), (Str.ofString "new", .str (strB n) tn)] mr) :=
    ⟨_, _, found_eq (lastN_len _ _), hD5, hlt2, _, Mine.Fr.lay F6 ⟨rfl, rfl, rfl, rfl, rfl, trivial⟩⟩
  clear F6
  dsimp only [lay] at F7
  replace N6 := news_tail N6
  rw [← hb] at hret
  obtain ⟨hps', hlg'⟩ := on_fp (n := n) rfl hb
  have hpl5 : pcs5.length ≤ 1001 := by
    have := congrArg List.length hpc5
    rw [List.length_map, List.length_map, List.length_take, List.length_append] at this
    simp only [List.length_singleton] at this
    omega
  subst hW
  refine wpAny_mono (Q := Cut fun fl s' => fl = Flow.next ∧ ∃ (h' : Heap) (tk' : Nat) (X' : List (Addr × Obj)) (mr' : Str → Option Value), s' = { heap := h', gens := s.gens, drawn := s.drawn, toks := tk', os := s.os } ∧
      Fr gg LL h' (lay [(Str.ofString "found", .bool b), (Str.ofString "tail", .ref D5), (Str.ofString "log", .ref lg)] mr') ∧ News gg LL h' X' ∧ Keeps p X5 X' ∧ ∃ pcs', Pile 108 X' p d pcs' ∧ pcs'.map Pc.fp = (onP o st c).ps.map (fpPi n)) ?_ ?_ (fun _ _ z => z)
  · clear hret
    generalize hon : (onP o st c).ps.map (fpPi n) = fin at hps'
    obtain ⟨⟨n5, hpl5'⟩, _, _⟩ := id P5
    cases b
    all_goals (refine For_led F7 ?_ (by intro _; with_unfolding_all rfl) (by with_unfolding_all passes_own))
    all_goals k_steps
    all_goals (rename Fr _ _ _ _ => F8)
    all_goals (rename News _ _ _ _ => N8)
    all_goals first
      | obtain ⟨X6, k6, qs6, hD6, hq6, N6', hql6, P6, K6, hqs6⟩ : ∃ (X6 : List (Addr × Obj)) (k6 : Nat) (qs6 : List Pc), (_, lstO (qs6.map Pc.v) k6) ∈ X6 ∧ (∀ c ∈ qs6, (c.a, c.obj) ∈ X6) ∧ News _ _ _ X6 ∧ qs6.length ≤ 1001 ∧ Pile 108 X6 p d pcs5 ∧ Keeps p X5 X6 ∧ pcs5.map Pc.fp ++ qs6.map Pc.fp = fin :=
      ⟨X5, 0, qs, hD5, hq5, N8, Nat.le_succ_of_le hql, P5, Keeps.refl _ _, by rw [hpc5, hqs]; exact hps'⟩
      | obtain ⟨X6, k6, qs6, hD6, hq6, N6', hql6, P6, K6, hqs6⟩ : ∃ (X6 : List (Addr × Obj)) (k6 : Nat) (qs6 : List Pc), (_, lstO (qs6.map Pc.v) k6) ∈ X6 ∧ (∀ c ∈ qs6, (c.a, c.obj) ∈ X6) ∧ News _ _ _ X6 ∧ qs6.length ≤ 1001 ∧ Pile 108 X6 p d pcs5 ∧ Keeps p X5 X6 ∧ pcs5.map Pc.fp ++ qs6.map Pc.fp = fin :=
      ⟨_, _, [⟨_, strB n, _, Str.ofString "", _⟩], .head _, fun c hc => by rw [List.mem_singleton.mp hc]; exact .tail _ (.head _), N8, Nat.le_of_ble_eq_true rfl, P5.weak.weak, (Keeps.refl _ _).cons.cons, by rw [hpc5]; exact hps'⟩
    all_goals
      clear hqs hq5 hD5 hps' N8
      have F9 := Mine.Fr.lay (l := [(Str.ofString "found", .bool _), (Str.ofString "tail", .ref D5), (Str.ofString "pile", .ref p), (Str.ofString "log", .ref lg)]) F8 ⟨rfl, rfl, rfl, rfl, trivial⟩
      clear F8
      obtain ⟨⟨n6, hpl6⟩, _, _⟩ := id P6
      have hDpl := news_ne N6' hD6 hpl6 pile_ne_lst
      have hqn : ∀ c ∈ qs6, c.a ≠ p := fun c hc => news_ne N6' (hq6 c hc) hpl6 pile_ne_tup
      refine led_list (PushJ 108 p d s.gens X6 [(Str.ofString "found", .bool _), (Str.ofString "tail", .ref D5), (Str.ofString "pile", .ref p), (Str.ofString "log", .ref lg)] (fun j => pcs5.map Pc.fp ++ (qs6.map Pc.fp).take j)) rfl F9 N6' hD6 ⟨rfl, ⟨_, rfl⟩, Mine.Keeps.refl _ _, _, P6, by simp⟩ (fun _ _ _ _ hJ => hJ.2.2.1 _ hD6 hDpl) ?_ ?_
      · clear F9 N6'
        intro I' j v m₃ news₃ h₃ tk₃ gs₃ o₃ hv hJ F₃ N₃ hIt₃ hne₃
        obtain ⟨rfl, ⟨mr₃, rfl⟩, K₃, pcs₃, P₃, hT₃⟩ := hJ
        obtain ⟨c₃, hc, rfl⟩ := get_v' hv
        have hcm := List.mem_of_getElem? hc
        have hc₃ : (c₃.a, tupO [.str c₃.f c₃.tf, .str c₃.p c₃.tp]) ∈ (I', o₃) :: news₃ := List.Mem.tail _ (K₃ _ (hq6 c₃ hcm) (hqn c₃ hcm))
        obtain ⟨⟨n₃, hpl₃⟩, ⟨hs₃, ta₃, tb₃, k₃, hdm₃⟩, hit₃⟩ := id P₃
        have hz₃ : (pcs₃.map Pc.v).length ≤ sizeLine := by
          have e := congrArg List.length hT₃
          simp only [List.length_map, List.length_append, List.length_take] at e ⊢
          rw [sizeLine_eq]; omega
        have hI₃ : (I', o₃) ∈ (I', o₃) :: news₃ := List.Mem.head _
        have hIpl₃ : I' ≠ p := Ne.symm (hne₃ _ hpl₃)
        have hKX₃ : ∀ X', Mine.Keeps p ((I', o₃) :: news₃) X' → Mine.Keeps p X6 (but I' X') := fun X' K => Keeps.but K₃ hne₃ K
        replace hpl₃ := List.Mem.tail (I', o₃) hpl₃
        replace hdm₃ := List.Mem.tail (I', o₃) hdm₃
        have P₄ : Pile 108 ((I', o₃) :: news₃) p d pcs₃ := Pile.weak P₃
        generalize hX₃ : (I', o₃) :: news₃ = X₈ at N₃ hpl₃ hdm₃ hc₃ hI₃ hKX₃ P₄
        have NO : ∃ h, News _ _ h X₈ := ⟨_, N₃⟩
        dsimp only [lay] at F₃
        k_steps
        rename Fr _ _ _ _ => F9
        rename News _ _ _ _ => N9
        obtain ⟨_, NO⟩ := NO
        obtain ⟨X₉, N4, P5, K4⟩ := pushed P₄ NO N9
        have hI4 := K4 _ hI₃ hIpl₃
        have F10 := Mine.Fr.lay (l := [(Str.ofString "found", .bool _), (Str.ofString "tail", .ref D5), (Str.ofString "pile", .ref p), (Str.ofString "log", .ref lg)]) F9 ⟨rfl, rfl, rfl, rfl, trivial⟩
        exact ⟨_, _, _, _, X₉, but I' X₉, o₃, rfl, F10, N4, hI4, hIt₃, fun q hq => but_mem.mp hq, rfl, ⟨_, rfl⟩, hKX₃ _ K4, _, Pile.but P5 N4 hI4 hIt₃.iterish, by rw [List.map_append]; exact take_next' (c := c₃) hc hT₃⟩
      · clear F9 N6'
        intro m₃ news₃ h₃ tk₃ gs₃ hJ F₃ N₃
        obtain ⟨rfl, ⟨mr₃, rfl⟩, K₃, pcs₃, P₃, hT₃⟩ := hJ
        dsimp only [lay] at F₃
        have F10 := Mine.Fr.lay (l := [(Str.ofString "found", .bool _), (Str.ofString "tail", .ref D5), (Str.ofString "log", .ref lg)]) F₃ ⟨rfl, rfl, rfl, trivial⟩
        have e : (qs6.map Pc.fp).take (qs6.map Pc.v).length = qs6.map Pc.fp := List.take_of_length_le (by rw [List.length_map, List.length_map]; exact Nat.le_refl _)
        exact ⟨rfl, _, _, _, _, rfl, F10, N₃, K6.trans K₃, _, P₃, hT₃.trans ((congrArg (fun z => pcs5.map Pc.fp ++ z) e).trans hqs6)⟩
  · rintro _ _ ⟨rfl, h', tk', X7, mr', rfl, F8, N8, K7, pcs7, P7, hpc7⟩
    have hD7 := K7 _ hD5 (news_cls N6 hD5 (P5.obj.choose_spec) cls_lp)
    have hl7 := K7 _ hl5 (news_cls N6 hl5 (P5.obj.choose_spec) cls_lp)
    have En7 := En5.keep K7 N6 P5.obj.choose_spec
    have hq7 : ∀ c ∈ qs, (c.a, c.obj) ∈ X7 := fun c hc => K7 _ (hq5 c hc) (news_cls N6 (hq5 c hc) (P5.obj.choose_spec) cls_tp)
    have hle7 : (es.map Value.ref).length ≤ sizeLine := by
      rw [List.length_map, En.len, sizeLine_eq]
      omega
    have hM7 := K7 _ hM5 (news_cls N6 hM5 (P5.obj.choose_spec) cls_tp)
    have hMD : M < D5 := hlt5 _ hM2
    have K7' : Keeps p news X7 := K2.trans (K5.trans K7)
    have NO7 : ∃ h, News _ _ h X7 := ⟨_, N8⟩
    dsimp only [lay] at F8
    dsimp only
    cases b
    all_goals k_steps
    all_goals (rename News _ _ _ _ => N9)
    all_goals (obtain ⟨_, NO7⟩ := NO7)
    · rename ∀ q : Addr × Obj, q ∈ X7 → q.1 < _ => hltL
      refine hret _ _ _ (by k_asm) N9 (Duo.logged (b := false) (qs := []) (k := 0) P7 hpc7 NO7 hl7 En7 low (hltL _ hM7) (fun q hq hne => setAt_mem (.tail _ hq) hne) (setAt_self (.tail _ hl7)) ?_ (fun c hc => nomatch hc) rfl hlg') ?_
      · exact setAt_mem (List.Mem.head _) (Nat.ne_of_gt (hltL _ hl7))
      · exact K7'.two.trans ((Keeps2.refl _ _ _).cons.trans (Keeps2.setAt _ _ _ _))
    · refine hret _ _ _ (by k_asm) N9 (Duo.logged (b := true) (qs := qs) P7 hpc7 NO7 hl7 En7 low hMD (fun q hq hne => setAt_mem hq hne) (setAt_self hl7) (setAt_mem hD7 (Nat.ne_of_gt (Nat.lt_trans low hMD))) hq7 ?_ hlg') (K7'.two.trans (Keeps2.setAt _ _ _ _))
      rw [hqs, of_decide_eq_true hb.symm, List.map_map]
      rfl
end
local macro_rules | `(tactic| wtm_at "L3") => `(tactic| (k_here; wtm_at "R1"; k_dflt (refine' Mine.lst_init ?k1 ?k2 ?k3 ?k4 ?k6 ?k7 ?_; (case k1 | k2 => k_asm); (case k3 | k4 => assumption); (case k6 => with_unfolding_all rfl); (case k7 => (intro _; with_unfolding_all rfl)); k_whole; intro D' h' F' N' l1)))
section
theorem topOffoff : True := by
  w_top off
  trivial
local macro_rules | `(tactic| walk_at "call ref") => `(tactic| wtm_at "L2")
local macro_rules | `(tactic| walk_at "call ref") => `(tactic| (k_here; k_dflt (refine' Mine.pop_spec ?k1 ?k2 ?k3 ?k4 ?k5 ?k6 ?k7 ?k8 _ _ _ _ _ _ _ _ _ ?c1 ?c2 ?c3 ?_; wtm_at "S8"; (case c1 | c2 => k_mem); (case c3 => assumption); k_whole; intro h' tk' n' F' N'; (try dsimp only))))
local macro_rules | `(tactic| walk_at "call builtin:list.pop") => `(tactic| (k_here; k_dflt (refine' Mine.lst_pop ?k1 ?k2 ?k3 ?k4 ?_; (case k1 | k2 => k_asm); (case k3 | k4 => assumption); k_whole; intro h' F' N')))
local macro_rules | `(tactic| walk_at "subscriptTail") => `(tactic| wtm_at "L3")
theorem off_spec {w : World} {p : Program} {loose : List Str} {mean : ExcName → Option Value} {mg mb : Str → Option Value}
  {dp un : Nat} {gd : Option (List Code)} {cn : Str} {cs : Scope} {a : Addr} {ccd : Value} {cl : List (Str × Addr)} {outer : List Env} {A₀ : Around} {base h₀ : Heap} {L : Addr} {m : Str → Option Value} {news : List (Addr × Obj)} {s : Shared}
    {Q E : Value → Shared → Prop}
    (B : Below A₀ base outer h₀) (F : Fr h₀ L s.heap m) (X : (kK w.params).In h₀) (N : News h₀ L s.heap news) (T : Top p loose mean mg mb h₀) (hk : cs.kind = .function)
    (hd1 : dp + 3 < recursionLimit) (hu : un + 100 < cLine)
    (p d lg M : Addr) (o n : List Bool) (st : PSt) (ps0 : List Pi) (x0 : Pi) (bs : List Bool) (b : Bool) (D : Duo 108 news p d lg M o n st) (hst : st.ps = ps0 ++ [x0]) (hsl : st.lg = bs ++ [b]) (hps : st.ps.length ≤ 1000) (hlg : st.lg.length ≤ 1000) (hol : o.length ≤ 1000)
    (hret : ∀ (D' : Addr) h' tk' news' (qs : List Pc) (k : Nat), Fr h₀ L h' m → News h₀ L h' news' → Duo 108 news' p d lg M o n (offP o st) → Keeps2 p lg news news' → M < D' → (D', lstO (qs.map Pc.v) k) ∈ news' → (∀ c ∈ qs, (c.a, c.obj) ∈ news') → qs.map Pc.fp = (if b then o.map fun c => fpPi [] (some c) else []) → Q (.ref D') { s with heap := h', toks := tk' }) :
    wpAny (model PySem.Challenge.rw_ph0024_01.row.prog w) (ktrTop dp un gd cn cs L a ccd cl outer) (call (.ref 131) [.ref p, .ref lg]) Q E s := by
  obtain ⟨⟨pcs, P, hpc⟩, ⟨es, kl, hl, En⟩, low⟩ := id D
  rw [hsl] at En
  obtain ⟨es', e, qs, kq, rfl, En', hMe, hme, hqe, hfe⟩ := En.last
  rw [hst, List.map_append] at hpc
  obtain ⟨pcs', y, rfl, hpc', -⟩ := snoc_map hpc
  obtain ⟨⟨np, hm⟩, ⟨hs, ta, tb, k, hdm⟩, hit⟩ := id P
  have hlen : ps0.length + 1 ≤ 1000 := by rw [hst, List.length_append] at hps; exact hps
  have hplen : pcs'.length = ps0.length := by
    have := congrArg List.length hpc'
    rwa [List.length_map, List.length_map] at this
  have hblen : bs.length + 1 ≤ 1000 := by rw [hsl, List.length_append] at hlg; exact hlg
  have hqlen : qs.length ≤ 1000 := by
    have := congrArg List.length hfe
    rw [List.length_map] at this
    rw [this]
    cases b
    · exact Nat.zero_le _
    · rw [if_pos rfl, List.length_map]; exact hol
  rw [List.map_append] at hm hl
  replace hm : (p, pileO 108 d (pcs'.map Pc.v ++ [Value.ref y.a]) np) ∈ news := hm
  replace hl : (lg, lstO (es'.map Value.ref ++ [Value.ref e]) kl) ∈ news := hl
  have hz1 : (es'.map Value.ref ++ [Value.ref e]).length ≤ sizeLine := by
    rw [List.length_append, List.length_map, En'.len, sizeLine_eq, List.length_singleton]; omega
  have hz2 : (pcs'.map Pc.v ++ [Value.ref y.a]).length ≤ sizeLine := by
    rw [List.length_append, List.length_map, sizeLine_eq, List.length_singleton]; omega
  have hz3 : (qs.map Pc.v).length ≤ sizeLine := by rw [List.length_map, sizeLine_eq]; omega
  have hm1 : (p, pileO 108 d (pcs'.map Pc.v ++ [Value.ref y.a]) np) ∈ setAt lg (lstO (es'.map Value.ref) (kl + 1)) news := setAt_mem hm (news_cls N hm hl cls_pl)
  have hdm1 : (d, dictOf (isz hs ta tb) k) ∈ setAt lg (lstO (es'.map Value.ref) (kl + 1)) news := setAt_mem hdm (news_cls N hdm hl cls_dl)
  have NO : ∃ h, News _ _ h news := ⟨_, N⟩
  revert X; k_fill; intro X
  refine wpAny_call ?_
  k_dflt ktr_enter
  rename_i gg LL hh FGG FFF NNN BBB XXX TTT
  rename Fr _ _ _ _ => F9
  obtain ⟨mr, F0⟩ : ∃ mr, Fr _ _ _ (lay [(Str.ofString "pile", .ref p), (Str.ofString "log", .ref lg)] mr) := ⟨_, Mine.Fr.lay F9 ⟨rfl, rfl, trivial⟩⟩
  clear F9
  dsimp only [lay] at F0
  generalize hW : Stmt.For _ _ _ _ _ = W
  k_steps
  subst hW
  rename Fr _ _ _ _ => F6
  rename News _ _ _ _ => N6
  obtain ⟨_, NO⟩ := NO
  obtain ⟨X2, NX2, hl2, P2, En2, hme2, hqe2, K2⟩ : ∃ X2, News gg LL _ X2 ∧ (lg, lstO (es'.map Value.ref) (kl + 1)) ∈ X2 ∧ Pile 108 X2 p d pcs' ∧ Ents X2 M o es' bs ∧ (e, lstO (qs.map Pc.v) kq) ∈ X2 ∧ (∀ c ∈ qs, (c.a, c.obj) ∈ X2) ∧ Keeps2 p lg news X2 := by
    have K : ∀ ob, Keeps2 p lg news (setAt p ob (setAt lg (lstO (es'.map Value.ref) (kl + 1)) news)) := fun ob q hq h1 h2 => setAt_mem (setAt_mem hq h2) h1
    refine ⟨_, N6, setAt_mem (setAt_self hl) (news_cls NO hl hm cls_lp), ⟨⟨_, setAt_self hm1⟩, ⟨hs, ta, tb, k, K _ _ hdm (news_cls NO hdm hm cls_dp) (news_cls NO hdm hl cls_dl)⟩, fun c hc => K _ _ (hit c (List.mem_append_left _ hc)) (news_cls NO (hit c (List.mem_append_left _ hc)) hm cls_tp) (news_cls NO (hit c (List.mem_append_left _ hc)) hl cls_tl)⟩, ?_, ?_, ?_, K _⟩
    · refine En'.up ?_ ?_
      · rintro ⟨q, ob⟩ hq hM ⟨vs, k, rfl⟩
        exact K _ _ hq (news_cls NO hq hm cls_lp) (Nat.ne_of_gt (Nat.lt_trans low hM))
      · rintro ⟨q, ob⟩ hq ⟨vs, rfl⟩
        exact K _ _ hq (news_cls NO hq hm cls_tp) (news_cls NO hq hl cls_tl)
    · exact K _ _ hme (news_cls NO hme hm cls_lp) (Nat.ne_of_gt (Nat.lt_trans low hMe))
    · exact fun c hc => K _ _ (hqe c hc) (news_cls NO (hqe c hc) hm cls_tp) (news_cls NO (hqe c hc) hl cls_tl)
  clear N6
  have F7 := Mine.Fr.lay (l := [(Str.ofString "tail", .ref e), (Str.ofString "pile", .ref p)]) F6 ⟨rfl, rfl, trivial⟩
  clear F6
  dsimp only [lay] at F7
  have NO2 : ∃ h, News _ _ h X2 := ⟨_, NX2⟩
  refine For_led F7 ?_ (by intro _; with_unfolding_all rfl) (by with_unfolding_all passes_own)
  k_steps
  rename Fr _ _ _ _ => F8
  rename News _ _ _ _ => N8
  obtain ⟨_, NO2⟩ := NO2
  obtain ⟨X6, k6, qs6, hqs6, hD6, hq6, N6', hql6, P6, K6⟩ : ∃ (X6 : List (Addr × Obj)) (k6 : Nat) (qs6 : List Pc), qs6 = qs.dropLast ∧ (_, lstO (qs6.map Pc.v) k6) ∈ X6 ∧ (∀ c ∈ qs6, (c.a, c.obj) ∈ X6) ∧ News _ _ _ X6 ∧ qs6.length ≤ 1000 ∧ Pile 108 X6 p d pcs' ∧ Keeps p X2 X6 :=
    ⟨_, 0, qs.dropLast, rfl, by rw [List.map_dropLast]; exact .head _, fun c hc => .tail _ (hqe2 c (List.dropLast_subset _ hc)), N8, by rw [List.length_dropLast]; omega, P2.weak, (Keeps.refl _ _).cons⟩
  clear N8
  have F9 := Mine.Fr.lay (l := [(Str.ofString "tail", .ref e), (Str.ofString "pile", .ref p)]) F8 ⟨rfl, rfl, trivial⟩
  clear F8
  obtain ⟨⟨n6, hpl6⟩, _, _⟩ := id P6
  have hDpl := news_ne N6' hD6 hpl6 pile_ne_lst
  have hqn : ∀ c ∈ qs6, c.a ≠ p := fun c hc => news_ne N6' (hq6 c hc) hpl6 pile_ne_tup
  refine led_list (PushJ 108 p d s.gens X6 [(Str.ofString "tail", .ref e), (Str.ofString "pile", .ref p)] (fun j => pcs'.map Pc.fp ++ (qs6.map Pc.fp).take j)) rfl F9 N6' hD6 ⟨rfl, ⟨_, rfl⟩, Mine.Keeps.refl _ _, _, P6, by simp⟩ (fun _ _ _ _ hJ => hJ.2.2.1 _ hD6 hDpl) ?_ ?_
  · clear F9 N6' hret
    intro I' j v m₃ news₃ h₃ tk₃ gs₃ o₃ hv hJ F₃ N₃ hIt₃ hne₃
    obtain ⟨rfl, ⟨mr₃, rfl⟩, K₃, pcs₃, P₃, hT₃⟩ := hJ
    obtain ⟨c₃, hc, rfl⟩ := get_v' hv
    have hcm := List.mem_of_getElem? hc
    have hc₃ : (c₃.a, tupO [.str c₃.f c₃.tf, .str c₃.p c₃.tp]) ∈ (I', o₃) :: news₃ := List.Mem.tail _ (K₃ _ (hq6 c₃ hcm) (hqn c₃ hcm))
    obtain ⟨⟨n₃, hpl₃⟩, ⟨hs₃, ta₃, tb₃, k₃, hdm₃⟩, hit₃⟩ := id P₃
    have hz₃ : (pcs₃.map Pc.v).length ≤ sizeLine := by
      have e := congrArg List.length hT₃
      simp only [List.length_map, List.length_append, List.length_take] at e ⊢
      rw [sizeLine_eq]; omega
    have hI₃ : (I', o₃) ∈ (I', o₃) :: news₃ := List.Mem.head _
    have hIpl₃ : I' ≠ p := Ne.symm (hne₃ _ hpl₃)
    have hKX₃ : ∀ X', Mine.Keeps p ((I', o₃) :: news₃) X' → Mine.Keeps p X6 (but I' X') := fun X' K => Keeps.but K₃ hne₃ K
    replace hpl₃ := List.Mem.tail (I', o₃) hpl₃
    replace hdm₃ := List.Mem.tail (I', o₃) hdm₃
    have P₄ : Pile 108 ((I', o₃) :: news₃) p d pcs₃ := Pile.weak P₃
    generalize hX₃ : (I', o₃) :: news₃ = X₈ at N₃ hpl₃ hdm₃ hc₃ hI₃ hKX₃ P₄
    have NO : ∃ h, News _ _ h X₈ := ⟨_, N₃⟩
    dsimp only [lay] at F₃
    k_steps
    rename Fr _ _ _ _ => F9
    rename News _ _ _ _ => N9
    obtain ⟨_, NO⟩ := NO
    obtain ⟨X₉, N4, P5, K4⟩ := pushed P₄ NO N9
    have hI4 := K4 _ hI₃ hIpl₃
    have F10 := Mine.Fr.lay (l := [(Str.ofString "tail", .ref e), (Str.ofString "pile", .ref p)]) F9 ⟨rfl, rfl, trivial⟩
    exact ⟨_, _, _, _, X₉, but I' X₉, o₃, rfl, F10, N4, hI4, hIt₃, fun q hq => but_mem.mp hq, rfl, ⟨_, rfl⟩, hKX₃ _ K4, _, Pile.but P5 N4 hI4 hIt₃.iterish, by rw [List.map_append]; exact take_next' (c := c₃) hc hT₃⟩
  · clear F9
    intro m₃ news₃ h₃ tk₃ gs₃ hJ F₃ N₃
    obtain ⟨rfl, ⟨mr₃, rfl⟩, K₃, pcs₃, P₃, hT₃⟩ := hJ
    dsimp only [lay] at F₃
    have e9 : (qs6.map Pc.fp).take (qs6.map Pc.v).length = qs6.map Pc.fp := List.take_of_length_le (by rw [List.length_map, List.length_map]; exact Nat.le_refl _)
    replace hT₃ := hT₃.trans (congrArg (fun z => pcs'.map Pc.fp ++ z) e9)
    obtain ⟨hf1, hf2⟩ := off_fp (n := n) hst hsl hfe
    rw [hpc', hqs6, hf1] at hT₃
    obtain ⟨n2, hp2⟩ := P2.obj
    have K' : Keeps p X2 news₃ := K6.trans K₃
    have Du : Duo 108 news₃ p d lg M o n (offP o st) := ⟨⟨_, P₃, hT₃⟩, ⟨es', _, K' _ hl2 (news_cls NO2 hl2 hp2 cls_lp), hf2 ▸ En2.keep K' NO2 hp2⟩, low⟩
    have KK : Keeps2 p lg news news₃ := K2.trans K'.two
    have he9 := K' _ hme2 (news_cls NO2 hme2 hp2 cls_lp)
    have hq9 : ∀ c ∈ qs, (c.a, c.obj) ∈ news₃ := fun c hc => K' _ (hqe2 c hc) (news_cls NO2 (hqe2 c hc) hp2 cls_tp)
    k_steps
    rename News _ _ _ _ => N9
    exact hret _ _ _ _ _ _ (by k_asm) N9 Du KK hMe he9 hq9 hfe
end
section
theorem topOfflenp : True := by
  w_top off
  trivial
theorem len_spec (w : World) (p : Program) (loose : List Str) (mean : ExcName → Option Value) (mg mb : Str → Option Value) (A : Around) (Q E : Value → Shared → Prop) (s : Shared)
    (X : (kK w.params).In s.heap) (T : Top p loose mean mg mb s.heap) (hA : A.handled = none) (hdep : A.depth + 3 < recursionLimit) (hu : A.units + 20 < cLine)
    (h₀ : Heap) (X₀ : (kK w.params).In h₀) (hk₀ : ∀ b o, h₀.get? b = some o → s.heap.get? b = some o)
    (pl d P : Addr) (hP₀ : h₀.get? P = none) (hs : Int) (ta tb : Tok) (kd : Nat) (pcs : List Pc) (n : Nat) (ps : Array Value) (hm : s.heap.get? pl = some (pileO 108 d (pcs.map fun c => .ref c.a) n)) (hdm : s.heap.get? d = some (dictOf (isz hs ta tb) kd)) (hit : ∀ c ∈ pcs, s.heap.get? c.a = some c.obj)
    (hw : (pcs.map fun c => c.f.length + c.p.length).sum + pcs.length ≤ 100000)
    (hok : s.heap.IsCode 74 P ps) (htab : s.heap.TableAt 74 P ps) (G : AllBare s.gens)
    (hret : ∀ h' tk' g' more t, Heap.ExtBut P s.heap h' → h'.IsCode 74 P (ps ++ more) → h'.TableAt 74 P (ps ++ more) → AllBare g' → Q (.int (((pcs.map pcLen).sum : Nat) : Int) t) { s with heap := h', toks := tk', gens := g' }) :
    wpAny (model PySem.Challenge.rw_ph0024_01.row.prog w) A (call (.ref 75) [.ref pl]) Q E s := by
  revert X; k_fill; intro X
  refine wpAny_call ?_
  refine ks_codeAny_call_defAt (binds := [("self", .ref pl)]) (by omega) (X _ _ (by k_is)) rfl T.nolimit (codeRec_of X (by k_is)) rfl (BindsTo.of_eq rfl) (by decide) (locs rfl) (fun h₁ hns hk => wpAt_of_wpAny ?_) rfl rfl rfl
  have F : Fr s.heap s.heap.objs.size h₁ (fun x => [(("self" : Str), Value.ref pl)].reverse.lookup x) := ⟨hns, hk, Nat.le_refl _⟩
  have N : News s.heap s.heap.objs.size h₁ [] := News.nil
  k_steps
  obtain ⟨bm, ob, M⟩ := bmod_of_top T
  have X₁ : (kK w.params).In h₁ := X.keeps hk
  have hLm : mg "len" = none := mg_none_of X T.g (by k_is)
  have hLb : mb "len" = some (.builtin "len") := (T.builtins _ (by decide)).trans (by kernel_rfl)
  have hbP : builtinsNs ≠ P := fun e => by
    obtain ⟨o, es, ep, ho, hd, _⟩ := T.b
    rw [e, htab.2] at ho; cases ho; cases hd
  refine gen_pile (K := kK w.params) (C := 108) (x := pl) (c := 74) (P := P) (ps := ps) (its := pcs.map fun c => .ref c.a) (n := n) (ox := pileO 108 d (pcs.map fun c => .ref c.a) n) (od := some (dictOf (isz hs ta tb) kd)) (mg := mg) (bm := bm) (ob := ob)
    (fun j => (pcs.getD j default).a) (fun j => .str (pcs.getD j default).f (pcs.getD j default).tf) (fun j => .str (pcs.getD j default).p (pcs.getD j default).tp) (fun j y => ∃ u, y = .int ((pcLen (pcs.getD j default) : Nat) : Int) u)
    hA (Nat.lt_of_lt_of_le (Nat.add_lt_add_right (Nat.lt_add_of_pos_right (by decide : 0 < 2)) 1) (Nat.le_of_lt hdep)) rfl rfl (by decide) rfl rfl rfl (by decide) rfl rfl (hok.keeps hk) (htab.keeps hk) (M.keeps hk) (T.nolimit.keeps hk) G X₁
    ⟨hk _ _ hm, rfl, rfl, hk _ _ hdm⟩ rfl (by k_is) (by k_is) (fun q => wpAny_Name (wpAny_loadName_local rfl rfl hns rfl q) (by decide)) (fun _ => rfl) ?_ ?_ ?_ ?_
  · intro j hj
    rw [List.length_map] at hj
    simp [List.getD_eq_getElem?_getD, List.getElem?_eq_getElem hj]
  · intro j hj
    rw [List.length_map] at hj
    have e : pcs.getD j default = pcs[j] := by simp [List.getD_eq_getElem?_getD, List.getElem?_eq_getElem hj]
    rw [e]
    exact ⟨_, hk _ _ (hit _ (List.getElem_mem hj)), rfl, _, rfl⟩
  · intro C' code A' E' i s₂ m₂ Q' hi hA' hn ha hb hkp hq
    rw [List.length_map] at hi
    have e : pcs.getD i default = pcs[i] := by simp [List.getD_eq_getElem?_getD, List.getElem?_eq_getElem hi]
    have hle : (pcs.getD i default).f.length + (pcs.getD i default).p.length ≤ 100000 := by
      rw [e]
      have : pcs[i].f.length + pcs[i].p.length ≤ (pcs.map fun c => c.f.length + c.p.length).sum := le_sum_of_mem (List.mem_map.mpr ⟨pcs[i], List.getElem_mem hi, rfl⟩)
      omega
    exact elt_len (mg := mg) (mb := mb) rfl rfl rfl rfl ((T.g.keeps hk).at' fun o e => hkp _ o (M.apart htab).1 e) hLm ((T.b.keeps hk).at' fun o e => hkp _ o hbP e) hLb hn ha hb hle fun tk t => hq _ _ _ ⟨_, rfl⟩ fun _ _ e => e
  · intro a s₅ more hx hok' htab' G' ho hd' W
    dsimp only at hx ho hd' W
    have hN : s.heap.objs.size < h₁.objs.size := hns.lt
    have hPlt : P < s.heap.objs.size := Heap.lt_size htab.2
    have hSP : s.heap.objs.size ≠ P := Nat.ne_of_gt hPlt
    have hP₀' : ∀ b o, h₀.get? b = some o → b ≠ P := fun b o e q => by rw [q, hP₀] at e; cases e
    have X₅ : (kK w.params).In s₅.heap := X₀.keeps fun b o e => hx b o (hP₀' b o e) (hk _ _ (hk₀ _ _ e))
    have hplP : pl ≠ P := fun e => by rw [e, htab.2] at hm; cases hm
    have hdP : d ≠ P := fun e => by rw [e, htab.2] at hdm; cases hdm
    have I₅ : InstAt s₅.heap pl (pileO 108 d (pcs.map fun c => .ref c.a) n) 108 (some (dictOf (isz hs ta tb) kd)) := ⟨hx _ _ hplP (hk _ _ hm), rfl, rfl, hx _ _ hdP (hk _ _ hdm)⟩
    refine spliced_cons ?_
    refine Attribute_name ?_
    refine wpAny_Name (wpAny_loadName_local rfl rfl (hns.extBut hx hSP) rfl ?_) (by decide)
    refine get_pile (v := .int 0 tb) X₅ I₅ (by k_is) (by k_is) (by k_is) (findObj_own (by k_is) (attr := none) (by k_is) rfl rfl) rfl ?_
    refine spliced_nil ?_
    dsimp only
    rw [List.length_map] at W
    have hsum : (pcs.map pcLen).sum ≤ 100000 := by
      have : (pcs.map pcLen).sum = (pcs.map fun c => c.f.length + c.p.length).sum := rfl
      omega
    refine sum_genW W.tok G' (fun j => ((pcLen (pcs.getD j default) : Nat) : Int)) (fun j v hv => hv) ?_ fun s' t' hk' G'' ho' hd'' => ?_
    · intro j hj
      have e1 := preSum_pcs pcs (j + 1) (by omega)
      have e2 := sum_take_le (pcs.map pcLen) (j + 1)
      rw [← List.map_take] at e2
      have e3 : pcs.getD j default = pcs[j] := by simp [List.getD_eq_getElem?_getD, List.getElem?_eq_getElem hj]
      have e4 : pcLen pcs[j] ≤ (pcs.map pcLen).sum := le_sum_of_mem (List.mem_map.mpr ⟨pcs[j], List.getElem_mem hj, rfl⟩)
      rw [e1]
      rw [e3]
      unfold InLong
      omega
    · have e1 := preSum_pcs pcs pcs.length (Nat.le_refl _)
      rw [List.take_length] at e1
      rw [e1]
      rw [shared_eta s s' (ho'.trans ho) (hd''.trans hd')]
      refine hret _ _ _ more _ (fun b o hb e => hk' b o (Heap.lt_size (hk _ _ e)) (hx b o hb (hk _ _ e))) (hok'.at2 (fun o e => hk' _ o (hok.keeps hk).lt.1 e) (fun o e => hk' _ o (hok.keeps hk).lt.2 e)) (htab'.at2 (fun o e => hk' _ o (hok.keeps hk).lt.1 e) (fun o e => hk' _ o (hok.keeps hk).lt.2 e)) G''
theorem len_led {w : World} {p : Program} {loose : List Str} {mean : ExcName → Option Value} {mg mb : Str → Option Value} {A : Around} {Q E : Value → Shared → Prop} {s : Shared} {h₀ : Heap} {L : Addr} {m : Str → Option Value} {news : List (Addr × Obj)}
    (F : Fr h₀ L s.heap m) (X : (kK w.params).In h₀) (N : News h₀ L s.heap news) (T : Top p loose mean mg mb h₀) (hA : A.handled = none) (hdep : A.depth + 3 < recursionLimit) (hu : A.units + 20 < cLine)
    (pl d : Addr) (pcs : List Pc) (ps : Array Value) (Pl : Pile 108 news pl d pcs) (hw : (pcs.map fun c => c.f.length + c.p.length).sum + pcs.length ≤ 100000) (hP : (70, tabObj ps) ∈ news) (hT : TriplesOk ps.toList) (G : AllBare s.gens)
    (hret : ∀ h' tk' g' ps' t news', Fr h₀ L h' m → News h₀ L h' news' → (70, tabObj ps') ∈ news' → TriplesOk ps'.toList → AllBare g' → Keeps 70 news news' → Q (.int (((pcs.map pcLen).sum : Nat) : Int) t) { s with heap := h', toks := tk', gens := g' }) :
    wpAny (model PySem.Challenge.rw_ph0024_01.row.prog w) A (call (.ref 75) [.ref pl]) Q E s := by
  obtain ⟨⟨n, hm⟩, ⟨hs, ta, tb, k, hdm⟩, hit⟩ := Pl
  have C : CodeHd s.heap 74 70 := codeHd_of_K (X.keeps F.keep) (by kernel_rfl)
  have hz := (N _ hP).2
  refine len_spec w p loose mean mg mb A Q E s (X.keeps F.keep) (T.keeps F.keep) hA hdep hu h₀ X F.keep pl d 70 hz.2 hs ta tb k pcs n ps (N.get hm) (N.get hdm) (fun c hc => N.get (hit c hc)) hw (C.code (N.get hP) hT) (C.tab (N.get hP)) G fun h' tk' g' more t hx hc ht hg => ?_
  refine hret h' tk' g' (ps ++ more) t ((70, tabObj (ps ++ more)) :: but 70 news) (Fr.upto F hz.2 (Ne.symm hz.1) hx) ?_ (List.Mem.head _) ?_ hg (fun q hq e => List.Mem.tail _ (but_mem.mpr ⟨hq, e⟩))
  · intro q hq
    rcases List.mem_cons.mp hq with rfl | hq
    · exact ⟨ht.2, hz⟩
    · obtain ⟨h1, h2⟩ := but_mem.mp hq
      exact ⟨hx _ _ h2 (N q h1).1, (N q h1).2⟩
  · obtain ⟨_, _, _, _, _, _, _, _, _, op, _, _, _, _, _, _, _, h1, h2, h3, _⟩ := hc
    exact h3
end
local macro_rules | `(tactic| wtm_at "L4") => `(tactic| (k_here; k_dflt (refine' Mine.on_spec ?k1 ?k2 ?k3 ?k4 ?k5 ?k6 ?k7 ?k8 _ _ _ _ _ _ _ _ _ _ _ _ ?c1 ?c2 ?c3 ?c4 ?c5 ?c6 ?_; wtm_at "S8"; (case c1 | c2 | c3 | c4 | c5 | c6 => assumption); k_whole; intro h' tk' news' F' N' D' K'; (try dsimp only))))
local macro_rules | `(tactic| wtm_at "L5") => `(tactic| (k_here; k_dflt (refine' Mine.off_spec ?k1 ?k2 ?k3 ?k4 ?k5 ?k6 ?k7 ?k8 _ _ _ _ _ _ _ _ _ _ _ ?c1 ?c2 ?c3 ?c4 ?c5 ?c6 ?_; wtm_at "S8"; (case c1 | c2 | c3 | c4 | c5 | c6 => assumption); k_whole; intro D' h' tk' news' qs' k' F' N' Du' K' hM' hm' hq' hf'; (try dsimp only))))
local macro_rules | `(tactic| wtm_at "L6") => `(tactic| (k_here; wtm_at "R2"; (first | (refine' Mine.tup_item0 ?k1 ?k2 ?_ ?k3; (case k1 => k_asm); (case k2 => assumption); (case k3 => with_unfolding_all rfl); k_whole) | (refine' Mine.tup_item1 ?k1 ?k2 ?_ ?k3; (case k1 => k_asm); (case k2 => assumption); (case k3 => with_unfolding_all rfl); k_whole))))
local macro_rules | `(tactic| wtm_at "L7") => `(tactic| (k_here; wtm_at "R2"; k_dflt (refine' Mine.lst_item ?k1 ?k2 ?k3 ?k4 ?k5 ?_ ?k6; (case k1 => k_asm); (case k2 => k_mem); (case k5 => assumption); (case k3 | k4 => first | assumption | omega); (case k6 => with_unfolding_all rfl); k_whole)))
section
theorem topOfftyped : True := by
  w_top off
  trivial
local macro_rules | `(tactic| walk_at "call ref") => `(tactic| wtm_at "L4")
local macro_rules | `(tactic| walk_at "call ref") => `(tactic| wtm_at "L5")
local macro_rules | `(tactic| walk_at "subscriptTail") => `(tactic| wtm_at "L6")
local macro_rules | `(tactic| walk_at "subscriptTail") => `(tactic| wtm_at "L7")
theorem typed_spec {w : World} {p : Program} {loose : List Str} {mean : ExcName → Option Value} {mg mb : Str → Option Value}
  {dp un : Nat} {gd : Option (List Code)} {cn : Str} {cs : Scope} {a : Addr} {ccd : Value} {cl : List (Str × Addr)} {outer : List Env} {A₀ : Around} {base h₀ : Heap} {L : Addr} {m : Str → Option Value} {news : List (Addr × Obj)} {s : Shared}
    {Q E : Value → Shared → Prop}
    (B : Below A₀ base outer h₀) (F : Fr h₀ L s.heap m) (X : (kK w.params).In h₀) (N : News h₀ L s.heap news) (T : Top p loose mean mg mb h₀) (hk : cs.kind = .function)
    (hd1 : dp + 4 < recursionLimit) (hu : un + 140 < cLine)
    (l T1 M p1 d1 g1 p2 d2 g2 : Addr) (np : Nat) (o1 n1 o2 n2 : List Bool) (t1 t2 t3 t4 : Tok) (wd : List Bool) (c : Bool) (tc : Tok) (W2 : Two 108 news l np T1 M p1 d1 g1 p2 d2 g2 o1 n1 o2 n2 t1 t2 t3 t4 wd (rp o1 n1 0 wd)) (ho1 : o1 ≠ []) (ho2 : o2 ≠ []) (hl1 : o1.length ≤ 100) (hl2 : o2.length ≤ 100) (hn1 : n1.length ≤ 100) (hn2 : n2.length ≤ 100) (hw : wd.length ≤ 100) (hv : (rp o1 n1 0 wd).length ≤ 100) (hv' : (rp o1 n1 0 (wd ++ [c])).length ≤ 100)
    (hret : ∀ h' tk' news', Fr h₀ L h' m → News h₀ L h' news' → Two 108 news' l np T1 M p1 d1 g1 p2 d2 g2 o1 n1 o2 n2 t1 t2 t3 t4 (wd ++ [c]) (rp o1 n1 0 (wd ++ [c])) → Keeps4 p1 g1 p2 g2 news news' → Q .none { s with heap := h', toks := tk' }) :
    wpAny (model PySem.Challenge.rw_ph0024_01.row.prog w) (ktrTop dp un gd cn cs L a ccd cl outer) (call (.ref 138) [.ref T1, .ref M, .str (chS c) tc, .ref l]) Q E s := by
  obtain ⟨hlst, hone, htwo, D1, D2, hpp, hgg, -, -⟩ := id W2
  have hps1 : (stP o1 wd).ps.length ≤ 1000 := by have := (stP_lens ho1 wd).2; omega
  have hlg1 : (stP o1 wd).lg.length ≤ 1000 := by have := (stP_lens ho1 wd).1; omega
  have hol1 : o1.length ≤ 1000 := by omega
  have hnl1 : n1.length ≤ 1000 := by omega
  have hos1 : (strB o1).length ≤ 1000 := by rw [strB_len]; omega
  have hi0 : ([.str (strB o1) t1, .str (strB n1) t2, .str (strB o2) t3, .str (strB n2) t4] : List Value)[(0 : Int).toNat]? = some (.str (strB o1) t1) := rfl
  have hi1 : ([.str (strB o1) t1, .str (strB n1) t2, .str (strB o2) t3, .str (strB n2) t4] : List Value)[(1 : Int).toNat]? = some (.str (strB n1) t2) := rfl
  have hi2 : ([.str (strB o1) t1, .str (strB n1) t2, .str (strB o2) t3, .str (strB n2) t4] : List Value)[(2 : Int).toNat]? = some (.str (strB o2) t3) := rfl
  have hi3 : ([.str (strB o1) t1, .str (strB n1) t2, .str (strB o2) t3, .str (strB n2) t4] : List Value)[(3 : Int).toNat]? = some (.str (strB n2) t4) := rfl
  have NO : ∃ h, News _ _ h news := ⟨_, N⟩
  revert X; k_fill; intro X
  refine wpAny_call ?_
  k_dflt ktr_enter
  rename_i gg LL hh FGG FFF NNN BBB XXX TTT
  rename Fr _ _ _ _ => F9
  obtain ⟨mr, F0⟩ : ∃ mr, Fr _ _ _ (lay [(Str.ofString "first", .ref T1), (Str.ofString "second", .ref M), (Str.ofString "sign", .str (chS c) tc), (Str.ofString "pairs", .ref l)] mr) := ⟨_, Mine.Fr.lay F9 ⟨rfl, rfl, rfl, rfl, trivial⟩⟩
  clear F9
  dsimp only [lay] at F0
  generalize hWI : Stmt.If _ _ _ _ = WI
  generalize hW : Stmt.For _ _ _ _ _ = W
  k_steps
  subst hWI
  rename Fr _ _ _ _ => F1
  have F2 := Mine.Fr.lay (l := [(Str.ofString "more", .str (chS c) tc), (Str.ofString "first", .ref T1), (Str.ofString "second", .ref M), (Str.ofString "sign", .str (chS c) tc), (Str.ofString "pairs", .ref l)]) F1 ⟨rfl, rfl, rfl, rfl, rfl, trivial⟩
  clear F1
  dsimp only [lay] at F2
  refine wpAny_mono (Q := Cut fun fl s' => fl = Flow.next ∧ ∃ (h' : Heap) (tk' : Nat) (X' : List (Addr × Obj)) (mr' : Str → Option Value) (Z ys : List Bool) (ty : Tok), s' = { heap := h', gens := s.gens, drawn := s.drawn, toks := tk', os := s.os } ∧
      Fr gg LL h' (lay [(Str.ofString "more", .str (strB ys) ty), (Str.ofString "second", .ref M), (Str.ofString "pairs", .ref l)] mr') ∧ News gg LL h' X' ∧ Keeps4 p1 g1 p2 g2 news X' ∧ Two 108 X' l np T1 M p1 d1 g1 p2 d2 g2 o1 n1 o2 n2 t1 t2 t3 t4 (wd ++ [c]) Z ∧ Z ++ ys = rp o1 n1 0 (wd ++ [c])) ?_ ?_ (fun _ _ z => z)
  · clear hret
    generalize hWF : Stmt.For _ _ _ _ _ = WF
    iterate 32 walk1
    all_goals (rename Fr _ _ _ _ => F3)
    all_goals (rename News _ _ _ _ => N3)
    all_goals (rename Duo _ _ _ _ _ _ _ _ _ => D3)
    all_goals (rename Keeps2 _ _ _ _ => K3)
    all_goals (obtain ⟨_, NO⟩ := NO)
    all_goals (have W3 := W2.first (w' := wd ++ [c]) NO K3 (by rw [stP_snoc]; exact D3))
    all_goals (clear NO)
    · rename lastN _ _ = _ => hfd
      obtain ⟨Xw, e1, e2⟩ := typ_found (n := n1) ho1 hfd
      rw [e1] at W3
      obtain ⟨hlst3, hone3, htwo3, -, -, -, -, -, -⟩ := id W3
      clear D3
      k_steps
      subst hWF
      rename Fr _ _ _ _ => F5
      have F6 := Mine.Fr.lay (l := [(Str.ofString "more", .str (strB n1) t2), (Str.ofString "second", .ref M), (Str.ofString "pairs", .ref l)]) F5 ⟨rfl, rfl, rfl, trivial⟩
      clear F5
      dsimp only [lay] at F6
      refine For_led F6 ?_ (by intro _; with_unfolding_all rfl) (by with_unfolding_all passes_own)
      k_steps
      rename Fr _ _ _ _ => F7
      rename News _ _ _ _ => N7
      rename IsRange _ _ _ _ _ _ _ _ => hrng
      have F8 := Mine.Fr.lay (l := [(Str.ofString "more", .str (strB n1) t2), (Str.ofString "second", .ref M), (Str.ofString "pairs", .ref l)]) F7 ⟨rfl, rfl, rfl, trivial⟩
      clear F7
      have hvl : (Xw ++ o1.dropLast).length ≤ 100 := by rw [← e1]; exact hv
      refine led_range (n := o1.dropLast.length) (TwoJ 108 l np T1 M p1 d1 g1 p2 d2 g2 o1 n1 o2 n2 t1 t2 t3 t4 (wd ++ [c]) s.gens _ [(Str.ofString "more", .str (strB n1) t2), (Str.ofString "second", .ref M), (Str.ofString "pairs", .ref l)] (fun i => Xw ++ o1.dropLast.take (o1.dropLast.length - i))) rfl hrng (small_up (by decide) (by decide) (by omega) (by omega)) (by rw [rangeSize_nat, strB_len, List.length_dropLast]; omega) F8 N7 ⟨rfl, ⟨_, rfl⟩, Keeps2.refl _ _ _, by dsimp only; rw [Nat.sub_zero, List.take_length]; exact W3⟩ ?_ ?_
      · clear F8 N7
        intro I i t m₁ news₁ h tk gs o hi hJ F₁ N₁ hIt hne
        obtain ⟨rfl, ⟨mr₁, rfl⟩, K₁, W₁⟩ := hJ
        obtain ⟨Wd, cc, hW1, hW2⟩ := off_word (X := Xw) hi
        dsimp only at W₁
        rw [hW1] at W₁
        have hWl : (Wd ++ [cc]).length ≤ 100 := by rw [← hW1]; exact long_take hvl
        obtain ⟨ps0, x0, hst2⟩ := stP_ne o2 Wd cc
        have hsl2 := stP_lg o2 Wd cc
        have hps2 : (stP o2 (Wd ++ [cc])).ps.length ≤ 1000 := by have := (stP_lens ho2 (Wd ++ [cc])).2; omega
        have hlg2 : (stP o2 (Wd ++ [cc])).lg.length ≤ 1000 := by have := (stP_lens ho2 (Wd ++ [cc])).1; omega
        have hol2 : o2.length ≤ 1000 := by omega
        obtain ⟨⟨vs, kv, hp⟩, ⟨us, ju, hg⟩⟩ := W₁.D2.obj
        have hIp : I ≠ p2 := Ne.symm (hne _ hp)
        have hIg : I ≠ g2 := Ne.symm (hne _ hg)
        have hI₈ : (I, o) ∈ (I, o) :: news₁ := List.Mem.head _
        have W₈ := W₁.weak (x := (I, o))
        have hKX : ∀ X', Keeps2 p2 g2 ((I, o) :: news₁) X' → Keeps2 p2 g2 _ (but I X') := fun X' K => Keeps2.but K₁ hne K
        generalize hX₈ : (I, o) :: news₁ = X₈ at N₁ hI₈ W₈ hKX
        obtain ⟨hlst8, hone8, htwo8, -, D28, -, -, -, -⟩ := id W₈
        have NO : ∃ h, News _ _ h X₈ := ⟨_, N₁⟩
        dsimp only [lay] at F₁
        k_steps
        rename Fr _ _ _ _ => F9
        rename News _ _ _ _ => N9
        rename Duo _ _ _ _ _ _ _ _ _ => D9
        rename Keeps2 _ _ _ _ => K9
        obtain ⟨_, NO⟩ := NO
        rw [off_snoc ho2] at D9
        have W9 := W₈.second NO K9 D9
        rw [← hW2] at W9
        have hI9 := K9 _ hI₈ hIp hIg
        have F10 := Mine.Fr.lay (l := [(Str.ofString "more", .str (strB n1) t2), (Str.ofString "second", .ref M), (Str.ofString "pairs", .ref l)]) F9 ⟨rfl, rfl, rfl, trivial⟩
        exact ⟨_, _, _, _, _, but I _, o, rfl, F10, N9, hI9, hIt, fun q hq => but_mem.mp hq, rfl, ⟨_, rfl⟩, hKX _ K9, W9.but N9 hI9 hIt.iterish⟩
      · clear F8 N7
        intro m₁ news₁ h₁ tk₁ gs₁ hJ F₁ N₁
        obtain ⟨rfl, ⟨mr₁, rfl⟩, K₁, W₁⟩ := hJ
        dsimp only at W₁
        rw [Nat.sub_self, List.take_zero, List.append_nil] at W₁
        dsimp only [lay] at F₁
        k_steps
        rename Fr _ _ _ _ => F9
        rename News _ _ _ _ => N9
        exact ⟨rfl, _, _, _, _, Xw, n1, t2, rfl, Mine.Fr.lay (l := [(Str.ofString "more", .str (strB n1) t2), (Str.ofString "second", .ref M), (Str.ofString "pairs", .ref l)]) F9 ⟨rfl, rfl, rfl, trivial⟩, N9, K3.four1.trans K₁.four2, W₁, e2.symm⟩
    · rename ¬ lastN _ _ = _ => hfd
      have e2 := typ_not (n := n1) ho1 hfd
      k_steps
      rename Fr _ _ _ _ => F7
      rename News _ _ _ _ => N7
      exact ⟨rfl, _, _, _, _, rp o1 n1 0 wd, [c], tc, rfl, Mine.Fr.lay (l := [(Str.ofString "more", .str (strB [c]) tc), (Str.ofString "second", .ref M), (Str.ofString "pairs", .ref l)]) F7 ⟨rfl, rfl, rfl, trivial⟩, N7, K3.four1, W3, e2.symm⟩
  · rintro _ _ ⟨rfl, h', tk', X5, mr', Z, ys, ty, rfl, F5, N5, K5, W5, hZ⟩
    have hzl : (Z ++ ys).length ≤ 100 := by rw [hZ]; exact hv'
    have hyl : (strB ys).length ≤ 1000 := by rw [strB_len]; rw [List.length_append] at hzl; omega
    dsimp only [lay] at F5
    dsimp only
    k_steps
    subst hW
    refine For_led F5 ?_ (by intro _; with_unfolding_all rfl) (by with_unfolding_all passes_own)
    walk1
    rename Fr _ _ _ _ => F6
    rename News _ _ _ _ => N6
    have F7 := Mine.Fr.lay (l := [(Str.ofString "second", .ref M), (Str.ofString "pairs", .ref l)]) F6 ⟨rfl, rfl, trivial⟩
    refine led_str (TwoJ 108 l np T1 M p1 d1 g1 p2 d2 g2 o1 n1 o2 n2 t1 t2 t3 t4 (wd ++ [c]) s.gens X5 [(Str.ofString "second", .ref M), (Str.ofString "pairs", .ref l)] (fun i => Z ++ ys.take i)) rfl F7 N6 ⟨rfl, ⟨_, rfl⟩, Keeps2.refl _ _ _, by dsimp only; rw [List.take_zero, List.append_nil]; exact W5⟩ ?_ ?_
    · clear F7 N6 hret
      intro I It i ch u m₁ news₁ h tk gs o hc hJ F₁ N₁ hIt hne hcls
      obtain ⟨rfl, ⟨mr₁, rfl⟩, K₁, W₁⟩ := hJ
      obtain ⟨b, hb, he⟩ := strB_get hc
      rw [he]
      obtain ⟨ty', hty, hoc⟩ := hcls _ _ hIt
      have hiter := ItStr.iterish' hty hoc
      dsimp only at W₁
      have hWl : (Z ++ ys.take i).length ≤ 100 := long_take hzl
      have hps2 : (stP o2 (Z ++ ys.take i)).ps.length ≤ 1000 := by have := (stP_lens ho2 (Z ++ ys.take i)).2; omega
      have hlg2 : (stP o2 (Z ++ ys.take i)).lg.length ≤ 1000 := by have := (stP_lens ho2 (Z ++ ys.take i)).1; omega
      have hol2 : o2.length ≤ 1000 := by omega
      have hnl2 : n2.length ≤ 1000 := by omega
      obtain ⟨⟨vs, kv, hp⟩, ⟨us, ju, hg⟩⟩ := W₁.D2.obj
      have hIp : I ≠ p2 := Ne.symm (hne _ hp)
      have hIg : I ≠ g2 := Ne.symm (hne _ hg)
      have hI₈ : (I, o) ∈ (I, o) :: news₁ := List.Mem.head _
      have W₈ := W₁.weak (x := (I, o))
      have hKX : ∀ X', Keeps2 p2 g2 ((I, o) :: news₁) X' → Keeps2 p2 g2 X5 (but I X') := fun X' K => Keeps2.but K₁ hne K
      generalize hX₈ : (I, o) :: news₁ = X₈ at N₁ hI₈ W₈ hKX
      obtain ⟨hlst8, hone8, htwo8, -, D28, -, -, -, -⟩ := id W₈
      have NO : ∃ h, News _ _ h X₈ := ⟨_, N₁⟩
      dsimp only [lay] at F₁
      k_steps
      rename Fr _ _ _ _ => F9
      rename News _ _ _ _ => N9
      rename Duo _ _ _ _ _ _ _ _ _ => D9
      rename Keeps2 _ _ _ _ => K9
      obtain ⟨_, NO⟩ := NO
      rw [← stP_snoc, ← take_snoc hb] at D9
      have W9 := W₈.second NO K9 D9
      have hI9 := K9 _ hI₈ hIp hIg
      have F10 := Mine.Fr.lay (l := [(Str.ofString "second", .ref M), (Str.ofString "pairs", .ref l)]) F9 ⟨rfl, rfl, trivial⟩
      exact ⟨_, _, _, _, _, but I _, o, rfl, F10, N9, hI9, hIt, fun q hq => but_mem.mp hq, rfl, ⟨_, rfl⟩, hKX _ K9, W9.but N9 hI9 hiter⟩
    · clear F7 N6
      intro m₁ news₁ h₁ tk₁ gs₁ hJ F₁ N₁
      obtain ⟨rfl, ⟨mr₁, rfl⟩, K₁, W₁⟩ := hJ
      dsimp only at W₁
      rw [strB_len, List.take_length, hZ] at W₁
      have KK : Keeps4 p1 g1 p2 g2 news news₁ := K5.trans K₁.four2
      dsimp only [lay] at F₁
      k_steps
      rename News _ _ _ _ => N9
      exact hret _ _ _ (by k_asm) N9 W₁ KK
end
section
theorem topOffback : True := by
  w_top off
  trivial
local macro_rules | `(tactic| walk_at "call ref") => `(tactic| wtm_at "L4")
local macro_rules | `(tactic| walk_at "call ref") => `(tactic| wtm_at "L5")
local macro_rules | `(tactic| walk_at "subscriptTail") => `(tactic| wtm_at "L6")
local macro_rules | `(tactic| walk_at "subscriptTail") => `(tactic| wtm_at "L7")
local macro_rules | `(tactic| walk_at "subscriptTail") => `(tactic| wtm_at "L3")
local macro_rules | `(tactic| walk_at "truthy ref") => `(tactic| (k_here; (with_reducible show wpAny _ _ (truthy (Value.ref _)) _ _ _); first | (refine' Mine.truthy_cons ?k1 ?k2 ?k3 ?_; (case k1 => k_asm); (case k2 | k3 => assumption); k_whole) | (refine' Mine.truthy_nil ?k1 ?k2 ?_; (case k1 => k_asm); (case k2 => assumption); k_whole)))
theorem back_spec {w : World} {p : Program} {loose : List Str} {mean : ExcName → Option Value} {mg mb : Str → Option Value}
  {dp un : Nat} {gd : Option (List Code)} {cn : Str} {cs : Scope} {a : Addr} {ccd : Value} {cl : List (Str × Addr)} {outer : List Env} {A₀ : Around} {base h₀ : Heap} {L : Addr} {m : Str → Option Value} {news : List (Addr × Obj)} {s : Shared}
    {Q E : Value → Shared → Prop}
    (B : Below A₀ base outer h₀) (F : Fr h₀ L s.heap m) (X : (kK w.params).In h₀) (N : News h₀ L s.heap news) (T : Top p loose mean mg mb h₀) (hk : cs.kind = .function)
    (hd1 : dp + 4 < recursionLimit) (hu : un + 140 < cLine)
    (l T1 M p1 d1 g1 p2 d2 g2 : Addr) (np : Nat) (o1 n1 o2 n2 : List Bool) (t1 t2 t3 t4 : Tok) (wd : List Bool) (c : Bool) (W2 : Two 108 news l np T1 M p1 d1 g1 p2 d2 g2 o1 n1 o2 n2 t1 t2 t3 t4 (wd ++ [c]) (rp o1 n1 0 (wd ++ [c]))) (ho1 : o1 ≠ []) (ho2 : o2 ≠ []) (hl1 : o1.length ≤ 100) (hl2 : o2.length ≤ 100) (hn1 : n1.length ≤ 100) (hn2 : n2.length ≤ 100) (hw : wd.length ≤ 100) (hv : (rp o1 n1 0 wd).length ≤ 100) (hv' : (rp o1 n1 0 (wd ++ [c])).length ≤ 100)
    (hret : ∀ h' tk' news', Fr h₀ L h' m → News h₀ L h' news' → Two 108 news' l np T1 M p1 d1 g1 p2 d2 g2 o1 n1 o2 n2 t1 t2 t3 t4 wd (rp o1 n1 0 wd) → Keeps4 p1 g1 p2 g2 news news' → Q .none { s with heap := h', toks := tk' }) :
    wpAny (model PySem.Challenge.rw_ph0024_01.row.prog w) (ktrTop dp un gd cn cs L a ccd cl outer) (call (.ref 145) [.ref T1, .ref M, .ref l]) Q E s := by
  obtain ⟨hlst, hone, htwo, D1, D2, hpp, hgg, -, -⟩ := id W2
  have hwl : (wd ++ [c]).length ≤ 101 := by rw [List.length_append, List.length_singleton]; omega
  obtain ⟨ps0, x0, hst1⟩ := stP_ne o1 wd c
  have hsl1 := stP_lg o1 wd c
  have hps1 : (stP o1 (wd ++ [c])).ps.length ≤ 1000 := by have := (stP_lens ho1 (wd ++ [c])).2; omega
  have hlg1 : (stP o1 (wd ++ [c])).lg.length ≤ 1000 := by have := (stP_lens ho1 (wd ++ [c])).1; omega
  have hol1 : o1.length ≤ 1000 := by omega
  have hns1 : (strB n1).length ≤ 1000 := by rw [strB_len]; omega
  have hi1 : ([.str (strB o1) t1, .str (strB n1) t2, .str (strB o2) t3, .str (strB n2) t4] : List Value)[(1 : Int).toNat]? = some (.str (strB n1) t2) := rfl
  have hi2 : ([.str (strB o1) t1, .str (strB n1) t2, .str (strB o2) t3, .str (strB n2) t4] : List Value)[(2 : Int).toNat]? = some (.str (strB o2) t3) := rfl
  have hi3 : ([.str (strB o1) t1, .str (strB n1) t2, .str (strB o2) t3, .str (strB n2) t4] : List Value)[(3 : Int).toNat]? = some (.str (strB n2) t4) := rfl
  have NO : ∃ h, News _ _ h news := ⟨_, N⟩
  revert X; k_fill; intro X
  refine wpAny_call ?_
  k_dflt ktr_enter
  rename_i gg LL hh FGG FFF NNN BBB XXX TTT
  rename Fr _ _ _ _ => F9
  obtain ⟨mr, F0⟩ : ∃ mr, Fr _ _ _ (lay [(Str.ofString "first", .ref T1), (Str.ofString "second", .ref M), (Str.ofString "pairs", .ref l)] mr) := ⟨_, Mine.Fr.lay F9 ⟨rfl, rfl, rfl, trivial⟩⟩
  clear F9
  dsimp only [lay] at F0
  generalize hW1 : Stmt.For _ _ _ _ _ = W1
  generalize hWz : Stmt.For _ _ _ _ _ = Wz
  k_steps
  subst hW1
  rename Fr _ _ _ _ => F1
  rename News _ _ _ _ => N3
  rename Duo _ _ _ _ _ _ _ _ _ => D3
  rename Keeps2 _ _ _ _ => K3
  obtain ⟨_, NO⟩ := NO
  have W3 := W2.first (w' := wd) NO K3 (by rw [off_snoc ho1] at D3; exact D3)
  clear NO D3
  rename List.map Pc.fp _ = _ => hf3
  rename M < _ => hM3
  rename (_, lstO _ _) ∈ _ => hD3
  rename ∀ c : Pc, _ → _ => hq3
  obtain ⟨X3, D5, qs, k5, hM5, hD5, hq5, hf5, W5, K5, N5, ⟨mr5, F5⟩⟩ : ∃ (X3 : List (Addr × Obj)) (D5 : Addr) (qs : List Pc) (k5 : Nat), M < D5 ∧ (D5, lstO (qs.map Pc.v) k5) ∈ X3 ∧ (∀ c ∈ qs, (c.a, c.obj) ∈ X3) ∧ (qs.map Pc.fp = if decide (lastN o1.length ((stP o1 wd).ps ++ [some c]) = o1.map some) = true then o1.map (fun c => fpPi [] (some c)) else []) ∧ Two 108 X3 l np T1 M p1 d1 g1 p2 d2 g2 o1 n1 o2 n2 t1 t2 t3 t4 wd (rp o1 n1 0 (wd ++ [c])) ∧ Keeps2 p1 g1 news X3 ∧ News gg LL _ X3 ∧ ∃ mr, Fr gg LL _ (lay [(Str.ofString "tail", .ref D5), (Str.ofString "second", .ref M), (Str.ofString "pairs", .ref l)] mr) :=
    ⟨_, _, _, _, hM3, hD3, hq3, hf3, W3, K3, N3, _, Mine.Fr.lay F1 ⟨rfl, rfl, rfl, trivial⟩⟩
  clear F1 N3 W3 K3 hM3 hD3 hq3 hf3
  obtain ⟨Xz, Y, zs, e1, e2, hcase, hzs⟩ := back_word (n1 := n1) ho1 rfl hf5
  rw [e1] at W5 hv'
  rw [e2] at hv hret
  have hql : qs.length ≤ 100 := by
    have := congrArg List.length hf5
    rw [List.length_map] at this
    rw [this]
    split
    · rw [List.length_map]; exact hl1
    · exact Nat.zero_le _
  have hDg : D5 ≠ g2 := Nat.ne_of_gt (Nat.lt_trans W5.D2.low hM5)
  have hDp : D5 ≠ p2 := by
    obtain ⟨⟨vs, kv, hp⟩, -⟩ := W5.D2.obj
    exact news_cls N5 hD5 hp cls_lp
  have hqa : ∀ {X' : List (Addr × Obj)}, Keeps2 p2 g2 X3 X' → ∀ c ∈ qs, (c.a, c.obj) ∈ X' := fun K c hc => by
    obtain ⟨⟨vs, kv, hp⟩, ⟨us, ju, hg⟩⟩ := W5.D2.obj
    exact K _ (hq5 c hc) (news_cls N5 (hq5 c hc) hp cls_tp) (news_cls N5 (hq5 c hc) hg cls_tl)
  dsimp only [lay] at F5
  refine wpAny_mono (Q := Cut fun fl s' => fl = Flow.next ∧ ∃ (h' : Heap) (tk' : Nat) (X' : List (Addr × Obj)) (mr' : Str → Option Value), s' = { heap := h', gens := s.gens, drawn := s.drawn, toks := tk', os := s.os } ∧
      Fr gg LL h' (lay [(Str.ofString "tail", .ref D5), (Str.ofString "second", .ref M), (Str.ofString "pairs", .ref l)] mr') ∧ News gg LL h' X' ∧ Keeps2 p2 g2 X3 X' ∧ Two 108 X' l np T1 M p1 d1 g1 p2 d2 g2 o1 n1 o2 n2 t1 t2 t3 t4 wd Xz) ?_ ?_ (fun _ _ z => z)
  · clear hret
    refine For_led F5 ?_ (by intro _; with_unfolding_all rfl) (by with_unfolding_all passes_own)
    obtain ⟨hlst5, hone5, htwo5, -, -, -, -, -, -⟩ := id W5
    have hDD := hD5
    rcases hcase with ⟨hqne, hY⟩ | ⟨hq0, hY⟩
    all_goals first
      | (obtain ⟨q0, qr, hq⟩ := List.exists_cons_of_ne_nil hqne
         have hqr : (qr.map Pc.v).length ≤ 1000 := by rw [List.length_map]; rw [hq, List.length_cons] at hql; omega
         rw [hq] at hDD
         replace hDD : (D5, lstO (.ref q0.a :: qr.map Pc.v) k5) ∈ X3 := hDD
         k_steps
         rename IsRange _ _ _ _ _ _ _ _ => hrng
         have hn : Builtin.Range.rangeSize 0 ((strB n1).length : Int) 1 = (Y.length : Int) := by rw [rangeSize_nat, strB_len, hY]; omega
         have hsm : Builtin.Range.small 0 ((strB n1).length : Int) 1 = true := small_up (by decide) (by decide) (by omega) (by omega))
      | (rw [hq0] at hDD
         replace hDD : (D5, lstO [] k5) ∈ X3 := hDD
         k_steps
         rename IsRange _ _ _ _ _ _ _ _ => hrng
         have hn : Builtin.Range.rangeSize 0 1 1 = (Y.length : Int) := by rw [rangeSize_nat, hY]; rfl
         have hsm : Builtin.Range.small 0 1 1 = true := by decide)
    all_goals
      rename Fr _ _ _ _ => F7
      rename News _ _ _ _ => N7
      have F8 := Mine.Fr.lay (l := [(Str.ofString "tail", .ref D5), (Str.ofString "second", .ref M), (Str.ofString "pairs", .ref l)]) F7 ⟨rfl, rfl, rfl, trivial⟩
      clear F7
      have hvl : (Xz ++ Y).length ≤ 100 := hv'
      refine led_range (n := Y.length) (TwoJ 108 l np T1 M p1 d1 g1 p2 d2 g2 o1 n1 o2 n2 t1 t2 t3 t4 wd s.gens X3 [(Str.ofString "tail", .ref D5), (Str.ofString "second", .ref M), (Str.ofString "pairs", .ref l)] (fun i => Xz ++ Y.take (Y.length - i))) rfl hrng hsm hn F8 N7 ⟨rfl, ⟨_, rfl⟩, Keeps2.refl _ _ _, by dsimp only; rw [Nat.sub_zero, List.take_length]; exact W5⟩ ?_ ?_
      · clear F8 N7
        intro I i t m₁ news₁ h tk gs o hi hJ F₁ N₁ hIt hne
        obtain ⟨rfl, ⟨mr₁, rfl⟩, K₁, W₁⟩ := hJ
        obtain ⟨Wd, cc, hW1, hW2⟩ := off_word (X := Xz) hi
        dsimp only at W₁
        rw [hW1] at W₁
        have hWl : (Wd ++ [cc]).length ≤ 100 := by rw [← hW1]; exact long_take hvl
        obtain ⟨ps0, x0, hst2⟩ := stP_ne o2 Wd cc
        have hsl2 := stP_lg o2 Wd cc
        have hps2 : (stP o2 (Wd ++ [cc])).ps.length ≤ 1000 := by have := (stP_lens ho2 (Wd ++ [cc])).2; omega
        have hlg2 : (stP o2 (Wd ++ [cc])).lg.length ≤ 1000 := by have := (stP_lens ho2 (Wd ++ [cc])).1; omega
        have hol2 : o2.length ≤ 1000 := by omega
        obtain ⟨⟨vs, kv, hp⟩, ⟨us, ju, hg⟩⟩ := W₁.D2.obj
        have hIp : I ≠ p2 := Ne.symm (hne _ hp)
        have hIg : I ≠ g2 := Ne.symm (hne _ hg)
        have hI₈ : (I, o) ∈ (I, o) :: news₁ := List.Mem.head _
        have W₈ := W₁.weak (x := (I, o))
        have hKX : ∀ X', Keeps2 p2 g2 ((I, o) :: news₁) X' → Keeps2 p2 g2 X3 (but I X') := fun X' K => Keeps2.but K₁ hne K
        generalize hX₈ : (I, o) :: news₁ = X₈ at N₁ hI₈ W₈ hKX
        obtain ⟨hlst8, hone8, htwo8, -, D28, -, -, -, -⟩ := id W₈
        have NO : ∃ h, News _ _ h X₈ := ⟨_, N₁⟩
        dsimp only [lay] at F₁
        k_steps
        rename Fr _ _ _ _ => F9
        rename News _ _ _ _ => N9
        rename Duo _ _ _ _ _ _ _ _ _ => D9
        rename Keeps2 _ _ _ _ => K9
        obtain ⟨_, NO⟩ := NO
        rw [off_snoc ho2] at D9
        have W9 := W₈.second NO K9 D9
        rw [← hW2] at W9
        have hI9 := K9 _ hI₈ hIp hIg
        have F10 := Mine.Fr.lay (l := [(Str.ofString "tail", .ref D5), (Str.ofString "second", .ref M), (Str.ofString "pairs", .ref l)]) F9 ⟨rfl, rfl, rfl, trivial⟩
        exact ⟨_, _, _, _, _, but I _, o, rfl, F10, N9, hI9, hIt, fun q hq => but_mem.mp hq, rfl, ⟨_, rfl⟩, hKX _ K9, W9.but N9 hI9 hIt.iterish⟩
      · clear F8 N7
        intro m₁ news₁ h₁ tk₁ gs₁ hJ F₁ N₁
        obtain ⟨rfl, ⟨mr₁, rfl⟩, K₁, W₁⟩ := hJ
        dsimp only at W₁
        rw [Nat.sub_self, List.take_zero, List.append_nil] at W₁
        exact ⟨rfl, _, _, _, _, rfl, F₁, N₁, K₁, W₁⟩
  · rintro _ _ ⟨rfl, h', tk', X5, mr', rfl, F6, N6, K6, W6⟩
    have hD6 := K6 _ hD5 hDp hDg
    have hq6 := hqa K6
    have hzq : (qs.map Pc.v).length ≤ sizeLine := by rw [List.length_map, sizeLine_eq]; omega
    have hg6 : ∃ us ju, (g2, lstO us ju) ∈ X5 := W6.D2.obj.2
    obtain ⟨us6, ju6, hg6⟩ := hg6
    dsimp only [lay] at F6
    dsimp only
    k_steps
    subst hWz
    refine For_led F6 ?_ (by intro _; with_unfolding_all rfl) (by with_unfolding_all passes_own)
    k_steps
    rename Fr _ _ _ _ => F7
    rename News _ _ _ _ => N7
    rename ∀ q : Addr × Obj, q ∈ X5 → q.1 < _ => hlt
    obtain ⟨X7, k7, qs7, hqs7, hD7, hq7, N7', W7, K7, hDg7⟩ : ∃ (X7 : List (Addr × Obj)) (k7 : Nat) (qs7 : List Pc), qs7 = qs.dropLast ∧ (_, lstO (qs7.map Pc.v) k7) ∈ X7 ∧ (∀ c ∈ qs7, (c.a, c.obj) ∈ X7) ∧ News _ _ _ X7 ∧ Two 108 X7 l np T1 M p1 d1 g1 p2 d2 g2 o1 n1 o2 n2 t1 t2 t3 t4 wd Xz ∧ Keeps2 p2 g2 X5 X7 ∧ _ ≠ g2 :=
      ⟨_, 0, qs.dropLast, rfl, by rw [List.map_dropLast]; exact .head _, fun c hc => .tail _ (hq6 c (List.dropLast_subset _ hc)), N7, W6.weak, (Keeps2.refl _ _ _).cons, Nat.ne_of_gt (hlt _ hg6)⟩
    clear N7
    have hDp7 := news_cls N7' hD7 W7.D2.obj.1.choose_spec.choose_spec cls_lp
    have hqa7 : ∀ {X' : List (Addr × Obj)}, Keeps2 p2 g2 X7 X' → ∀ c ∈ qs7, (c.a, c.obj) ∈ X' := fun K c hc => by
      obtain ⟨⟨vs, kv, hp⟩, ⟨us, ju, hg⟩⟩ := W7.D2.obj
      exact K _ (hq7 c hc) (news_cls N7' (hq7 c hc) hp cls_tp) (news_cls N7' (hq7 c hc) hg cls_tl)
    rw [← hqs7] at hzs
    have hzl : (Xz ++ zs).length ≤ 100 := hv
    have F8 := Mine.Fr.lay (l := [(Str.ofString "second", .ref M), (Str.ofString "pairs", .ref l)]) F7 ⟨rfl, rfl, trivial⟩
    clear F7
    refine led_list (TwoJ 108 l np T1 M p1 d1 g1 p2 d2 g2 o1 n1 o2 n2 t1 t2 t3 t4 wd s.gens X7 [(Str.ofString "second", .ref M), (Str.ofString "pairs", .ref l)] (fun i => Xz ++ zs.take i)) rfl F8 N7' hD7 ⟨rfl, ⟨_, rfl⟩, Keeps2.refl _ _ _, by dsimp only; rw [List.take_zero, List.append_nil]; exact W7⟩ (fun _ _ _ _ hJ => hJ.2.2.1 _ hD7 hDp7 hDg7) ?_ ?_
    · clear F8 hret
      intro I i v m₁ news₁ h tk gs o hvv hJ F₁ N₁ hIt hne
      obtain ⟨rfl, ⟨mr₁, rfl⟩, K₁, W₁⟩ := hJ
      obtain ⟨c₃, hc, rfl⟩ := get_v' hvv
      obtain ⟨b, hb, hcp⟩ := part_get hzs hc
      have hc₃ : (c₃.a, tupO [.str c₃.f c₃.tf, .str c₃.p c₃.tp]) ∈ (I, o) :: news₁ := List.Mem.tail _ (hqa7 K₁ c₃ (List.mem_of_getElem? hc))
      rw [hcp] at hc₃
      dsimp only at W₁
      have hWl : (Xz ++ zs.take i).length ≤ 100 := long_take hzl
      have hps2 : (stP o2 (Xz ++ zs.take i)).ps.length ≤ 1000 := by have := (stP_lens ho2 (Xz ++ zs.take i)).2; omega
      have hlg2 : (stP o2 (Xz ++ zs.take i)).lg.length ≤ 1000 := by have := (stP_lens ho2 (Xz ++ zs.take i)).1; omega
      have hol2 : o2.length ≤ 1000 := by omega
      have hnl2 : n2.length ≤ 1000 := by omega
      obtain ⟨⟨vs, kv, hp⟩, ⟨us, ju, hg⟩⟩ := W₁.D2.obj
      have hIp : I ≠ p2 := Ne.symm (hne _ hp)
      have hIg : I ≠ g2 := Ne.symm (hne _ hg)
      have hI₈ : (I, o) ∈ (I, o) :: news₁ := List.Mem.head _
      have W₈ := W₁.weak (x := (I, o))
      have hKX : ∀ X', Keeps2 p2 g2 ((I, o) :: news₁) X' → Keeps2 p2 g2 X7 (but I X') := fun X' K => Keeps2.but K₁ hne K
      generalize hX₈ : (I, o) :: news₁ = X₈ at N₁ hI₈ W₈ hKX hc₃
      obtain ⟨hlst8, hone8, htwo8, -, D28, -, -, -, -⟩ := id W₈
      have NO : ∃ h, News _ _ h X₈ := ⟨_, N₁⟩
      dsimp only [lay] at F₁
      k_steps
      rename Fr _ _ _ _ => F9
      rename News _ _ _ _ => N9
      rename Duo _ _ _ _ _ _ _ _ _ => D9
      rename Keeps2 _ _ _ _ => K9
      obtain ⟨_, NO⟩ := NO
      rw [← stP_snoc, ← take_snoc hb] at D9
      have W9 := W₈.second NO K9 D9
      have hI9 := K9 _ hI₈ hIp hIg
      have F10 := Mine.Fr.lay (l := [(Str.ofString "second", .ref M), (Str.ofString "pairs", .ref l)]) F9 ⟨rfl, rfl, trivial⟩
      exact ⟨_, _, _, _, _, but I _, o, rfl, F10, N9, hI9, hIt, fun q hq => but_mem.mp hq, rfl, ⟨_, rfl⟩, hKX _ K9, W9.but N9 hI9 hIt.iterish⟩
    · clear F8
      intro m₁ news₁ h₁ tk₁ gs₁ hJ F₁ N₁
      obtain ⟨rfl, ⟨mr₁, rfl⟩, K₁, W₁⟩ := hJ
      dsimp only at W₁
      have hlz : (qs7.map Pc.v).length = zs.length := by
        have := congrArg List.length hzs
        rw [List.length_map, List.length_map] at this
        rw [List.length_map, this]
      rw [hlz, List.take_length] at W₁
      have KK : Keeps4 p1 g1 p2 g2 news news₁ := K5.four1.trans (K6.four2.trans (K7.four2.trans K₁.four2))
      dsimp only [lay] at F₁
      k_steps
      rename News _ _ _ _ => N9
      exact hret _ _ _ (by k_asm) N9 W₁ KK
end
section
theorem topOfflaw1 : True := by
  w_top off
  trivial
local macro_rules | `(tactic| walk_at "call ref") => `(tactic| (k_here; k_dflt (refine' Mine.typed_spec ?k1 ?k2 ?k3 ?k4 ?k5 ?k6 ?k7 ?k8 _ _ _ _ _ _ _ _ _ _ _ _ _ _ _ _ _ _ _ _ _ ?c1 ?c2 ?c3 ?c4 ?c5 ?c6 ?c7 ?c8 ?c9 ?c10 ?_; wtm_at "S8"; (case c1 | c2 | c3 | c4 | c5 | c6 | c7 | c8 | c9 | c10 => assumption); k_whole; intro h' tk' news' F' N' W' K'; (try dsimp only))))
local macro_rules | `(tactic| walk_at "call ref") => `(tactic| (k_here; k_dflt (refine' Mine.back_spec ?k1 ?k2 ?k3 ?k4 ?k5 ?k6 ?k7 ?k8 _ _ _ _ _ _ _ _ _ _ _ _ _ _ _ _ _ _ _ _ ?c1 ?c2 ?c3 ?c4 ?c5 ?c6 ?c7 ?c8 ?c9 ?c10 ?_; wtm_at "S8"; (case c1 | c2 | c3 | c4 | c5 | c6 | c7 | c8 | c9 | c10 => assumption); k_whole; intro h' tk' news' F' N' W' K'; (try dsimp only))))
local macro_rules | `(tactic| walk_at "call ref") => `(tactic| (k_here; k_dflt (refine' Mine.make_spec ?k1 ?k2 ?k3 ?k4 ?k5 ?k6 ?k7 ?k8   ?_; wtm_at "S8"; skip; k_whole; intro x' dx' h' tk' n' hs' ta' tb' F' N' l1 l2; (try dsimp only))))
local macro_rules | `(tactic| walk_at "call ref") => `(tactic| (k_here; k_dflt (refine' Mine.pairs1_spec ?k1 ?k2 ?k3 ?k4 ?k5 ?k6 ?k7 ?k8 _ _  ?_; wtm_at "S8"; skip; k_whole; intro l' h' tk' n' t1' t2' t3' t4' F' N' l1'; (try dsimp only))))
local macro_rules | `(tactic| walk_at "StarOf ref") => `(tactic| (k_here; k_dflt (refine' star_seq ?k1 ?k2 ?m ?c ?d ?T ?e ?z ?_; (case k1 | k2 => k_asm); (case m => k_mem); (case c | d => exact rfl); (case T => first | exact .inl rfl | exact .inr rfl); (case e => exact rfl); (case z => assumption); k_whole); intro h' F' N'; (try dsimp only [List.nil_append, List.cons_append])))
local macro_rules | `(tactic| walk_at "subscriptTail") => `(tactic| wtm_at "L6")
local macro_rules | `(tactic| walk_at "subscriptTail Name UnaryOp str int") => `(tactic| (k_here; (with_reducible show wpAny _ _ (subscriptTail _ _ (Value.str (strB (_ ++ [_])) _) (Value.int (-1) _)) _ _ _); k_dflt (refine' Mine.last_B ?k1 ?_ ?k2 ?k3; (case k1 => assumption); (case k2 => with_unfolding_all rfl); (case k3 => (intro _; with_unfolding_all rfl)); k_whole; intro t' k')))
/-- what is to come at the end stands as a variable while the walk goes on: the proof's text stays small -/
theorem qv_key1 {α : Type} {M : Model} {A : Around} {t : Sem α} {Q : α → Shared → Prop} {E : Value → Shared → Prop} {s : Shared}
    (h : ∀ QV : α → Shared → Prop, (∀ v s', Q v s' → QV v s') → wpAny M A t QV E s) : wpAny M A t Q E s := h Q fun _ _ z => z
theorem turn_key {M : Model} {A : Around} {t : Sem Unit} {u : Sem Flow} {Q : Flow → Shared → Prop} {E : Value → Shared → Prop} {s : Shared}
    (h : ∀ (QL : Flow → Shared → Prop) (EL : Value → Shared → Prop), (∀ f s', Q f s' → QL f s') → wpAny M A t (fun _ s' => wpAny M A u QL EL s') EL s) : wpAny M A t (fun _ s' => wpAny M A u Q E s') E s := h Q E fun _ _ z => z
theorem str_lw {w : World} {p : Program} {loose : List Str} {mean : ExcName → Option Value} {mg mb : Str → Option Value} {A : Around} {Q E : Value → Shared → Prop} {s : Shared} {h₀ : Heap} {L : Addr} {m : Str → Option Value} {news : List (Addr × Obj)}
    {l T1 M p1 d1 g1 p2 d2 g2 : Addr} {np : Nat} {o1 n1 o2 n2 : List Bool} {t1 t2 t3 t4 : Tok} {wd vd : List Bool} {I : Addr} {o : Obj} {DL : Addr} {vs : List Value} {pcs1 pcs2 : List Pc}
    (F : Fr h₀ L s.heap m) (X : (kK w.params).In h₀) (N : News h₀ L s.heap news) (T : Top p loose mean mg mb h₀) (hA : A.handled = none) (hdep : A.depth + 3 < recursionLimit) (hu : A.units + 20 < cLine)
    (W : LW 108 77 70 l np T1 M p1 d1 g1 p2 d2 g2 o1 n1 o2 n2 t1 t2 t3 t4 wd vd I o DL vs pcs1 pcs2 news) (G : AllBare s.gens) (pl d : Addr) (pcs : List Pc) (Pl : Pile 108 news pl d pcs) (hw : (pcs.map fun c => c.f.length + c.p.length).sum + pcs.length ≤ 100000)
    (hret : ∀ h' tk' g' t news' a1 b1 c1 e1 f1 a2 b2 c2 e2 f2, Fr h₀ L h' m → News h₀ L h' news' → (p1, pileO 108 d1 (pcs1.map Pc.v) a1) ∈ news' → (d1, dictOf (isz b1 c1 e1) f1) ∈ news' → (p2, pileO 108 d2 (pcs2.map Pc.v) a2) ∈ news' → (d2, dictOf (isz b2 c2 e2) f2) ∈ news' → LW 108 77 70 l np T1 M p1 d1 g1 p2 d2 g2 o1 n1 o2 n2 t1 t2 t3 t4 wd vd I o DL vs pcs1 pcs2 news' → Pile 108 news' p1 d1 pcs1 → Pile 108 news' p2 d2 pcs2 → (T1, tupO [.ref p1, .ref g1]) ∈ news' → (M, tupO [.ref p2, .ref g2]) ∈ news' → AllBare g' → Q (.str (pileText pcs) t) { s with heap := h', toks := tk', gens := g' }) :
    wpAny (model PySem.Challenge.rw_ph0024_01.row.prog w) A (call (.ref 82) [.ref pl]) Q E s := by
  obtain ⟨ps, hP, hT⟩ := W.s
  refine str_led F X N T hA hdep hu pl d pcs ps Pl hw hP hT G fun h' tk' g' ps' t news' F' N' hP' hT' G' K' => ?_
  have W' := W.tabS N K' hP' hT'
  obtain ⟨⟨a1, x1⟩, ⟨b1, c1, e1, f1, y1⟩, _⟩ := id W'.one
  obtain ⟨⟨a2, x2⟩, ⟨b2, c2, e2, f2, y2⟩, _⟩ := id W'.sec
  exact hret h' tk' g' t news' a1 b1 c1 e1 f1 a2 b2 c2 e2 f2 F' N' x1 y1 x2 y2 W' W'.one W'.sec W'.two.one W'.two.two G'
theorem len_lw {w : World} {p : Program} {loose : List Str} {mean : ExcName → Option Value} {mg mb : Str → Option Value} {A : Around} {Q E : Value → Shared → Prop} {s : Shared} {h₀ : Heap} {L : Addr} {m : Str → Option Value} {news : List (Addr × Obj)}
    {l T1 M p1 d1 g1 p2 d2 g2 : Addr} {np : Nat} {o1 n1 o2 n2 : List Bool} {t1 t2 t3 t4 : Tok} {wd vd : List Bool} {I : Addr} {o : Obj} {DL : Addr} {vs : List Value} {pcs1 pcs2 : List Pc}
    (F : Fr h₀ L s.heap m) (X : (kK w.params).In h₀) (N : News h₀ L s.heap news) (T : Top p loose mean mg mb h₀) (hA : A.handled = none) (hdep : A.depth + 3 < recursionLimit) (hu : A.units + 20 < cLine)
    (W : LW 108 77 70 l np T1 M p1 d1 g1 p2 d2 g2 o1 n1 o2 n2 t1 t2 t3 t4 wd vd I o DL vs pcs1 pcs2 news) (G : AllBare s.gens) (pl d : Addr) (pcs : List Pc) (Pl : Pile 108 news pl d pcs) (hw : (pcs.map fun c => c.f.length + c.p.length).sum + pcs.length ≤ 100000)
    (hret : ∀ h' tk' g' t news' a1 b1 c1 e1 f1 a2 b2 c2 e2 f2, Fr h₀ L h' m → News h₀ L h' news' → (p1, pileO 108 d1 (pcs1.map Pc.v) a1) ∈ news' → (d1, dictOf (isz b1 c1 e1) f1) ∈ news' → (p2, pileO 108 d2 (pcs2.map Pc.v) a2) ∈ news' → (d2, dictOf (isz b2 c2 e2) f2) ∈ news' → LW 108 77 70 l np T1 M p1 d1 g1 p2 d2 g2 o1 n1 o2 n2 t1 t2 t3 t4 wd vd I o DL vs pcs1 pcs2 news' → Pile 108 news' p1 d1 pcs1 → Pile 108 news' p2 d2 pcs2 → (T1, tupO [.ref p1, .ref g1]) ∈ news' → (M, tupO [.ref p2, .ref g2]) ∈ news' → AllBare g' → (0 ≤ (((pcs.map pcLen).sum : Nat) : Int) ∧ (((pcs.map pcLen).sum : Nat) : Int) < 2 ^ 63) → Q (.int (((pcs.map pcLen).sum : Nat) : Int) t) { s with heap := h', toks := tk', gens := g' }) :
    wpAny (model PySem.Challenge.rw_ph0024_01.row.prog w) A (call (.ref 75) [.ref pl]) Q E s := by
  obtain ⟨ps, hP, hT⟩ := W.r
  refine len_led F X N T hA hdep hu pl d pcs ps Pl hw hP hT G fun h' tk' g' ps' t news' F' N' hP' hT' G' K' => ?_
  have W' := W.tabR N K' hP' hT'
  have hsum : (pcs.map pcLen).sum ≤ 100000 := by
    have : (pcs.map pcLen).sum = (pcs.map fun c => c.f.length + c.p.length).sum := rfl
    omega
  obtain ⟨⟨a1, x1⟩, ⟨b1, c1, e1, f1, y1⟩, _⟩ := id W'.one
  obtain ⟨⟨a2, x2⟩, ⟨b2, c2, e2, f2, y2⟩, _⟩ := id W'.sec
  exact hret h' tk' g' t news' a1 b1 c1 e1 f1 a2 b2 c2 e2 f2 F' N' x1 y1 x2 y2 W' W'.one W'.sec W'.two.one W'.two.two G' ⟨by omega, by omega⟩
theorem olds_pick (sm : Int) : ∃ o : List Bool, olds1.getD (sm.fmod 6).toNat default = strB o ∧ 2 ≤ o.length ∧ o.length ≤ 3 ∧ Builtin.Str.strKind (strB o) = 1 := by
  have h0 : 0 ≤ sm.fmod 6 := Int.fmod_nonneg_of_pos _ (by decide)
  have h1 : sm.fmod 6 < 6 := Int.fmod_lt_of_pos _ (by decide)
  have key : ∀ k : Fin 6, olds1.getD k.val default = strB (([[false, true], [true, false], [false, false, true], [true, true], [false, true, false], [false, true, true]] : List (List Bool)).getD k.val []) ∧ 2 ≤ (([[false, true], [true, false], [false, false, true], [true, true], [false, true, false], [false, true, true]] : List (List Bool)).getD k.val []).length ∧ (([[false, true], [true, false], [false, false, true], [true, true], [false, true, false], [false, true, true]] : List (List Bool)).getD k.val []).length ≤ 3 ∧ Builtin.Str.strKind (strB (([[false, true], [true, false], [false, false, true], [true, true], [false, true, false], [false, true, true]] : List (List Bool)).getD k.val [])) = 1 := by decide +kernel
  exact ⟨_, key ⟨(sm.fmod 6).toNat, by omega⟩⟩
theorem news_pick (sm : Int) : ∃ n : List Bool, news1.getD (sm.fmod 5).toNat default = strB n ∧ n.length ≤ 2 := by
  have h0 : 0 ≤ sm.fmod 5 := Int.fmod_nonneg_of_pos _ (by decide)
  have h1 : sm.fmod 5 < 5 := Int.fmod_lt_of_pos _ (by decide)
  have key : ∀ k : Fin 5, news1.getD k.val default = strB (([[], [true, false], [true], [false, false], [false, true]] : List (List Bool)).getD k.val []) ∧ (([[], [true, false], [true], [false, false], [false, true]] : List (List Bool)).getD k.val []).length ≤ 2 := by decide +kernel
  exact ⟨_, key ⟨(sm.fmod 5).toNat, by omega⟩⟩
local macro_rules | `(tactic| walk_at "call ref") => `(tactic| (k_here; k_dflt (refine' Mine.str_lw ?k1 ?k2 ?k3 ?k4 ?k5 ?k6 ?k7 ?c0 ?c9 _ _ _ ?c1 ?c2 ?_; (case k1 | k2 | k3 | k4 => k_asm); (case k5 => exact rfl); (case k6 => ktr_room); (case k7 => ktr_units); (case c0 | c9 | c1 | c2 => assumption); k_whole; intro h' tk' g' t' news' a1' b1' c1' e1' f1' a2' b2' c2' e2' f2' F' N' x1' y1' x2' y2' W' P1' P2' H1' H2' G'; (try dsimp only [StrBack]))))
local macro_rules | `(tactic| walk_at "call ref") => `(tactic| (k_here; k_dflt (refine' Mine.len_lw ?k1 ?k2 ?k3 ?k4 ?k5 ?k6 ?k7 ?c0 ?c9 _ _ _ ?c1 ?c2 ?_; (case k1 | k2 | k3 | k4 => k_asm); (case k5 => exact rfl); (case k6 => ktr_room); (case k7 => ktr_units); (case c0 | c9 | c1 | c2 => assumption); k_whole; intro h' tk' g' t' news' a1' b1' c1' e1' f1' a2' b2' c2' e2' f2' F' N' x1' y1' x2' y2' W' P1' P2' H1' H2' G' b'; (try dsimp only [LenBack]); (refine' And.intro ?bb ?_; (case bb => assumption)))))
local macro_rules | `(tactic| walk_at "subscriptTail") => `(tactic| (k_here; wtm_at "R1"; k_dflt (refine' Mine.lst_two ?k1 ?k2 ?k3 ?k6 ?k7 ?_; (case k1 | k2 => k_asm); (case k3 => assumption); (case k6 => with_unfolding_all rfl); (case k7 => (intro _; with_unfolding_all rfl)); k_whole; intro D' h' F' N' l1)))
local macro_rules | `(tactic| walk_at "call type:str") => `(tactic| (k_here; (with_reducible show wpAny _ _ (call (Value.type "str") [Value.ref _]) _ _ _); (refine' kso_call ?k1 ?k2 ?k3 ?k4 ?k5 ?_; (case k1 => first | k_units | ktr_units); (case k2 => k_in); (case k3 => k_inst); (case k4 | k5 => k_is); k_whole)))
theorem replace_1 {w : World} {p : Program} {loose : List Str} {mean : ExcName → Option Value} {mg mb : Str → Option Value}
  {dp un : Nat} {gd : Option (List Code)} {cn : Str} {cs : Scope} {a : Addr} {ccd : Value} {cl : List (Str × Addr)} {outer : List Env} {A₀ : Around} {base h₀ : Heap} {L : Addr} {m : Str → Option Value} {news : List (Addr × Obj)} {s : Shared}
    {Q E : Value → Shared → Prop}
    (B : Below A₀ base outer h₀) (F : Fr h₀ L s.heap m) (X : (kK w.params).In h₀) (N : News h₀ L s.heap news) (T : Top p loose mean mg mb h₀) (hk : cs.kind = .function)
    (hd1 : dp + 1 < recursionLimit) (hu : un + 8 < cLine)
    (x : Str) (tx : Tok) (q : Pr) (ok : ∀ r ∈ [q], r.ok) (hx : x.length ≤ 1000)
    (hret : ∀ h' tk' t, Fr h₀ L h' m → News h₀ L h' news → Q (.str (replAll x [q]) t) { s with heap := h', toks := tk' }) :
    wpAny (model PySem.Challenge.rw_ph0024_01.row.prog w) (ktrTop dp un gd cn cs L a ccd cl outer) (call (.ref 28) [.str x tx, .str q.o q.t, .str q.n q.u]) Q E s :=
  replace_spec B F X N T hk hd1 hu x tx [q] ok (by simp) hx hret
theorem replace_2 {w : World} {p : Program} {loose : List Str} {mean : ExcName → Option Value} {mg mb : Str → Option Value}
  {dp un : Nat} {gd : Option (List Code)} {cn : Str} {cs : Scope} {a : Addr} {ccd : Value} {cl : List (Str × Addr)} {outer : List Env} {A₀ : Around} {base h₀ : Heap} {L : Addr} {m : Str → Option Value} {news : List (Addr × Obj)} {s : Shared}
    {Q E : Value → Shared → Prop}
    (B : Below A₀ base outer h₀) (F : Fr h₀ L s.heap m) (X : (kK w.params).In h₀) (N : News h₀ L s.heap news) (T : Top p loose mean mg mb h₀) (hk : cs.kind = .function)
    (hd1 : dp + 1 < recursionLimit) (hu : un + 8 < cLine)
    (x : Str) (tx : Tok) (q r : Pr) (ok : ∀ z ∈ [q, r], z.ok) (hx : x.length ≤ 1000)
    (hret : ∀ h' tk' t, Fr h₀ L h' m → News h₀ L h' news → Q (.str (replAll x [q, r]) t) { s with heap := h', toks := tk' }) :
    wpAny (model PySem.Challenge.rw_ph0024_01.row.prog w) (ktrTop dp un gd cn cs L a ccd cl outer) (call (.ref 28) [.str x tx, .str q.o q.t, .str q.n q.u, .str r.o r.t, .str r.n r.u]) Q E s :=
  replace_spec B F X N T hk hd1 hu x tx [q, r] ok (by simp) hx hret
local macro_rules | `(tactic| walk_at "call ref") => `(tactic| (k_here; k_dflt (refine' Mine.replace_1 ?k1 ?k2 ?k3 ?k4 ?k5 ?k6 ?k7 ?k8 _ _ _ ?c1 ?c2 ?_; wtm_at "S8"; (case c1 | c2 => assumption); k_whole; intro h' tk' t' F' N'; (try dsimp only))))
local macro_rules | `(tactic| walk_at "call ref") => `(tactic| (k_here; k_dflt (refine' Mine.replace_2 ?k1 ?k2 ?k3 ?k4 ?k5 ?k6 ?k7 ?k8 _ _ _ _ ?c1 ?c2 ?_; wtm_at "S8"; (case c1 | c2 => assumption); k_whole; intro h' tk' t' F' N'; (try dsimp only))))
def LJ1 (C S N l : Addr) (np : Nat) (T1 M p1 d1 g1 p2 d2 g2 : Addr) (o1 n1 o2 n2 : List Bool) (t1 t2 t3 t4 : Tok) (DL : Addr) (vs : List Value) (xs : List Int) : Inv := fun i m₁ news₁ gs =>
  AllBare gs ∧ (DL, lstO vs 0) ∈ news₁ ∧ (∃ mr tl, m₁ = lay [(Str.ofString "first", .ref T1), (Str.ofString "second", .ref M), (Str.ofString "line", .str (strB ((xs.take i).foldl stepW [])) tl), (Str.ofString "pairs", .ref l)] mr) ∧
    Two C news₁ l np T1 M p1 d1 g1 p2 d2 g2 o1 n1 o2 n2 t1 t2 t3 t4 ((xs.take i).foldl stepW []) (rp o1 n1 0 ((xs.take i).foldl stepW [])) ∧ (∃ ps : Array Value, (S, tabObj ps) ∈ news₁ ∧ TriplesOk ps.toList) ∧ ∃ ps : Array Value, (N, tabObj ps) ∈ news₁ ∧ TriplesOk ps.toList
theorem holds : PySem.Challenge.rw_ph0024_01.Holds := hd (by
  k_fill
  intro w s₀ s₁ mg mb G Y fa o pm cd doc dV kV ho hd hcd hD hmg hg args vals as hpre hlay hrd hwl hlo
  have KX := km_in_of Y
  have hTab := km_tabs_of Y
  have X := (Ground.X G).1
  have V := (Ground.X G).2
  refine Ground.open G ?_
  intro T B D TE TW
  try (refine guard_noD D (by decide +kernel) ?_; clear D)
  clear hmg
  wrow_args hpre hlay hrd hwl hlo
  all_goals (
    first | refine callC_kw (enter_call ?_) | refine enter_call ?_
    w_top on
    w_call any ho hd hcd hD T F
    clear hd
    skip)
  have hT9 : TabsAt [(81, 77), (74, 70)] s₁.heap := List.forall_mem_cons.mpr ⟨⟨codeHd_of_K KX (by kernel_rfl), hTab _ (by simp)⟩, List.forall_mem_cons.mpr ⟨⟨codeHd_of_K KX (by kernel_rfl), hTab _ (by simp)⟩, fun _ h => nomatch h⟩⟩
  rename News _ _ _ _ => N
  have X' := ghost_K hT9 KX (by kernel_rfl)
  have T' := ghost_top hT9 T
  have K' := ghost_below hT9
  have N' := ghost_news hT9 F N
  have F' := ghost_fr hT9 F
  rename PySem.Heap.IsList _ _ _ => hLs
  replace hLs := ghost_list hT9 hLs
  simp only [tabNews, List.map_cons, List.map_nil, List.nil_append] at N'
  clear N F G Y X V B TE TW hcd hD T KX hTab ho
  refine qv_key1 ?_
  intro QV hQV
  generalize hW : Stmt.For _ _ _ _ _ = W
  k_steps
  rename_i D3 ws h14 hI12 hC12 hL12 l17 h13 tk3 t0 l h12 tk2 np t1 t2 t3 t4 l1p h11 tkx p1 d1 h10 tk1 nn1 hs1 ta1 tb1 l16 l21 g1 h9 l15 T1 h8 l14 p2 d2 h7 tk0 nn2 hs2 ta2 tb2 l13 l20 g2 h6 l12 M h5 l11 D0 h4 l10 h3 h2 h1 h0 F1 N1
  have hp12 : p1 < d2 := l13 _ (.tail _ (.tail _ (.head _)))
  have hg1M : @LT.lt Nat _ g1 M := by omega
  have hg2M : @LT.lt Nat _ g2 M := by omega
  have hpp : p1 ≠ p2 := Nat.ne_of_lt (Nat.lt_trans hp12 l20)
  have hg12 : @LT.lt Nat _ g1 g2 := by omega
  have hlg1 : @LT.lt Nat _ l g1 := by omega
  have hlg2 : @LT.lt Nat _ l g2 := by omega
  generalize (List.take 12 (_ : List Int)).sum + 636 = sm at N1
  obtain ⟨o1, eo1, ho1, hl1, hk1⟩ := olds_pick sm
  obtain ⟨n1, en1, hn1⟩ := news_pick (sm.fdiv 6)
  obtain ⟨o2, eo2, ho2, hl2, hk2⟩ := olds_pick (sm.fdiv 30)
  obtain ⟨n2, en2, hn2⟩ := news_pick (sm.fdiv 180)
  rw [eo1, en1, eo2, en2] at N1
  obtain ⟨X0, NX0, W0, hP0, hQ0⟩ : ∃ X0, News _ _ _ X0 ∧ Two 108 X0 l np T1 M p1 d1 g1 p2 d2 g2 o1 n1 o2 n2 t1 t2 t3 t4 [] [] ∧ (77, tabObj #[]) ∈ X0 ∧ (70, tabObj #[]) ∈ X0 :=
    ⟨_, N1, ⟨by simp, by simp, by simp, ⟨⟨[], ⟨⟨nn1, by simp⟩, ⟨hs1, ta1, tb1, 1, by simp⟩, fun _ h => nomatch h⟩, rfl⟩, ⟨[], 0, by simp, .nil⟩, hg1M⟩, ⟨⟨[], ⟨⟨nn2, by simp⟩, ⟨hs2, ta2, tb2, 1, by simp⟩, fun _ h => nomatch h⟩, rfl⟩, ⟨[], 0, by simp, .nil⟩, hg2M⟩, hpp, Nat.ne_of_lt hg12, Nat.ne_of_lt hlg1, Nat.ne_of_lt hlg2⟩, by simp, by simp⟩
  rw [← strB_nil] at F1
  obtain ⟨mr0, tl0, F2⟩ : ∃ mr tl, Fr _ _ _ (lay [(Str.ofString "first", .ref T1), (Str.ofString "second", .ref M), (Str.ofString "line", .str (strB []) tl), (Str.ofString "pairs", .ref l), (Str.ofString "script", .ref _)] mr) := ⟨_, _, Mine.Fr.lay F1 ⟨rfl, rfl, rfl, rfl, rfl, trivial⟩⟩
  clear F1 N1 l10 l11 l12 l13 l14 l15 l16 l17 l1p l20 l21
  subst hW
  refine For_led F2 ?_ (by intro _; with_unfolding_all rfl) (by with_unfolding_all passes_own)
  dsimp only [lay] at F2
  k_steps
  rename_i DL vs hL F3 N3 hIv l1v
  have hDlt : ∀ q ∈ X0, q.1 < DL := fun q hq => allLt_mem l1v.2.2.2 hq
  obtain ⟨xs, hxs, hxl, hIv⟩ : ∃ xs : List Int, xs = [2, 0, 3, 4, 3, 1, 2] ++ List.take 12 _ ∧ xs.length ≤ 19 ∧ IntsAre vs xs := ⟨_, rfl, by rw [List.length_append, List.length_take]; simp only [List.length_cons, List.length_nil]; omega, hIv⟩
  obtain ⟨X1, N4, hDL, W1, hP1, hQ1⟩ : ∃ X1, News _ _ _ X1 ∧ (DL, lstO vs 0) ∈ X1 ∧ Two 108 X1 l np T1 M p1 d1 g1 p2 d2 g2 o1 n1 o2 n2 t1 t2 t3 t4 [] [] ∧ (77, tabObj #[]) ∈ X1 ∧ (70, tabObj #[]) ∈ X1 :=
    ⟨_, N3, .head _, W0.weak.weak.weak.weak, .tail _ (.tail _ (.tail _ (.tail _ hP0))), .tail _ (.tail _ (.tail _ (.tail _ hQ0)))⟩
  have hDp1 : DL ≠ p1 := Nat.ne_of_gt (hDlt _ W0.D1.obj.1.choose_spec.choose_spec)
  have hDg1 : DL ≠ g1 := Nat.ne_of_gt (hDlt _ W0.D1.obj.2.choose_spec.choose_spec)
  have hDp2 : DL ≠ p2 := Nat.ne_of_gt (hDlt _ W0.D2.obj.1.choose_spec.choose_spec)
  have hDg2 : DL ≠ g2 := Nat.ne_of_gt (hDlt _ W0.D2.obj.2.choose_spec.choose_spec)
  have hDs : DL ≠ 77 := Nat.ne_of_gt (hDlt _ hP0)
  have hDn : DL ≠ 70 := Nat.ne_of_gt (hDlt _ hQ0)
  have ho1' : o1 ≠ [] := by rintro rfl; exact absurd ho1 (by decide)
  have ho2' : o2 ≠ [] := by rintro rfl; exact absurd ho2 (by decide)
  have hgen : AllBare s₁.gens := by rw [hg]; intro y hy; simp at hy
  have F4 := Mine.Fr.lay (l := [(Str.ofString "first", .ref T1), (Str.ofString "second", .ref M), (Str.ofString "line", .str (strB []) tl0), (Str.ofString "pairs", .ref l)]) F3 ⟨rfl, rfl, rfl, rfl, trivial⟩
  clear F3 N3 W0 hP0 hQ0 hDlt l1v
  refine led_list (LJ1 108 77 70 l np T1 M p1 d1 g1 p2 d2 g2 o1 n1 o2 n2 t1 t2 t3 t4 DL vs xs) rfl F4 N4 hDL ⟨hgen, hDL, ⟨_, tl0, rfl⟩, W1, ⟨_, hP1, trivial⟩, ⟨_, hQ1, trivial⟩⟩ (fun _ _ _ _ hJ => hJ.2.1) ?_ ?_
  · clear F4 N4 W1 hP1 hQ1
    intro I i v m₁ news₁ h tk gs o hv hJ F₁ N₁ hIt hne
    obtain ⟨G₁, hD₁, ⟨mr₁, tl, rfl⟩, W₁, ⟨ps1, hP₁, hT₁⟩, ⟨ps2, hQ₁, hT₂⟩⟩ := hJ
    obtain ⟨x, tx, rfl, hx⟩ := ints_get hIv hv
    have hnext := stepW_next (w := []) hx
    have hwl : ((xs.take i).foldl stepW []).length ≤ 19 := by
      have := stepW_fold (xs.take i) []
      rw [List.length_take] at this
      simp only [List.length_nil] at this
      omega
    generalize (xs.take i).foldl stepW [] = wd at W₁ F₁ hnext hwl
    have hwl' : (stepW wd x).length ≤ 20 := by have := stepW_len wd x; omega
    have hrp : ∀ y : List Bool, y.length ≤ 20 → (rp o1 n1 0 y).length ≤ 40 := fun y hy => by have := rp_two ho1' hn1 y; omega
    have hIi := hIt.iterish
    obtain ⟨⟨_, _, hp₁⟩, ⟨_, _, hg₁⟩⟩ := W₁.D1.obj
    obtain ⟨⟨_, _, hp₂⟩, ⟨_, _, hg₂⟩⟩ := W₁.D2.obj
    have hI1 : I ≠ p1 := Ne.symm (hne _ hp₁)
    have hI2 : I ≠ g1 := Ne.symm (hne _ hg₁)
    have hI3 : I ≠ p2 := Ne.symm (hne _ hp₂)
    have hI4 : I ≠ g2 := Ne.symm (hne _ hg₂)
    have hI5 : I ≠ 77 := Ne.symm (hne _ hP₁)
    have hI6 : I ≠ 70 := Ne.symm (hne _ hQ₁)
    have hDI : DL ≠ I := hne _ hD₁
    clear hp₁ hg₁ hp₂ hg₂
    have hI₂ : (I, o) ∈ (I, o) :: news₁ := List.Mem.head _
    have W₂ := W₁.weak (x := (I, o))
    replace hD₁ := List.Mem.tail (I, o) hD₁
    replace hP₁ := List.Mem.tail (I, o) hP₁
    replace hQ₁ := List.Mem.tail (I, o) hQ₁
    have hPap := W₂.apart N₁ hP₁ (fun _ _ _ => tab_ne.1 _ _ _ _) (fun _ _ => tab_ne.2.1 _ _)
    have hQap := W₂.apart N₁ hQ₁ (fun _ _ _ => tab_ne.1 _ _ _ _) (fun _ _ => tab_ne.2.1 _ _)
    clear W₁
    generalize (I, o) :: news₁ = X2 at N₁ hI₂ W₂ hD₁ hP₁ hQ₁
    clear hne
    dsimp only [lay] at F₁
    refine turn_key ?_
    intro QL EL hQL
    show wpAny _ _ _ _ _ { heap := h, gens := gs, drawn := s₁.drawn, toks := tk, os := s₁.os }
    generalize hWa : Stmt.If _ _ _ _ = Wa
    generalize hWb : Stmt.Assign _ _ _ = Wb
    generalize hWc : Stmt.If _ _ _ _ = Wc
    generalize hWd : Stmt.If _ _ _ _ = Wd
    k_steps
    subst hWa
    rename Fr _ _ _ _ => F5
    rename News _ _ _ _ => N5
    have F6 := Mine.Fr.lay (l := [(Str.ofString "x", .int x tx), (Str.ofString "first", .ref T1), (Str.ofString "second", .ref M), (Str.ofString "line", .str (strB wd) tl), (Str.ofString "pairs", .ref l)]) F5 ⟨rfl, rfl, rfl, rfl, rfl, trivial⟩
    clear F5
    dsimp only [lay] at F6
    have hx0 : 0 ≤ x.fmod 5 := Int.fmod_nonneg_of_pos _ (by decide)
    have hwl3 : (strB wd).length ≤ 1000 := by rw [strB_len]; omega
    have hw100 : wd.length ≤ 100 := by omega
    have hl1' : o1.length ≤ 100 := by omega
    have hl2' : o2.length ≤ 100 := by omega
    have hn1' : n1.length ≤ 100 := by omega
    have hn2' : n2.length ≤ 100 := by omega
    have hv : (rp o1 n1 0 wd).length ≤ 100 := by have := hrp wd (by omega); omega
    refine wpAny_mono (Q := Cut fun fl s' => fl = Flow.next ∧ ∃ (h' : Heap) (tk' : Nat) (X' : List (Addr × Obj)) (mr' : Str → Option Value) (tl' : Tok), s' = { heap := h', gens := gs, drawn := s₁.drawn, toks := tk', os := s₁.os } ∧
      Fr (ghostOf s₁.heap [(81, 77), (74, 70)]) s₁.heap.objs.size h' (lay [(Str.ofString "first", .ref T1), (Str.ofString "second", .ref M), (Str.ofString "line", .str (strB (stepW wd x)) tl'), (Str.ofString "pairs", .ref l)] mr') ∧ News (ghostOf s₁.heap [(81, 77), (74, 70)]) s₁.heap.objs.size h' X' ∧ Two 108 X' l np T1 M p1 d1 g1 p2 d2 g2 o1 n1 o2 n2 t1 t2 t3 t4 (stepW wd x) (rp o1 n1 0 (stepW wd x)) ∧ Keeps4 p1 g1 p2 g2 X2 X') ?_ ?_ (fun _ _ z => z)
    · generalize hWe1 : Stmt.Expr _ _ = We1
      generalize hWe2 : Stmt.Expr _ _ = We2
      k_steps
      · rename x.fmod 5 < 4 => hx4
        rename Fr _ _ _ _ => F7
        have hst : stepW wd x = wd ++ [decide (2 ≤ x.fmod 5)] := if_pos hx4
        rw [item_aabb hx0 hx4, strB_app] at F7
        generalize decide (2 ≤ x.fmod 5) = c at hst F7
        have F8 := Mine.Fr.lay (l := [(Str.ofString "first", .ref T1), (Str.ofString "second", .ref M), (Str.ofString "line", .str (strB (wd ++ [c])) _), (Str.ofString "pairs", .ref l)]) F7 ⟨rfl, rfl, rfl, rfl, trivial⟩
        clear F7
        dsimp only [lay] at F8
        have hv' : (rp o1 n1 0 (wd ++ [c])).length ≤ 100 := by rw [← hst]; have := hrp (stepW wd x) hwl'; omega
        have hw1000 : wd.length ≤ 1000 := by omega
        rw [hst]
        subst hWe1
        k_steps
        rename Fr _ _ _ _ => F9
        rename News _ _ _ _ => N9
        rename Keeps4 _ _ _ _ _ _ => K9
        exact ⟨rfl, _, _, _, _, _, rfl, Mine.Fr.lay (l := [(Str.ofString "first", .ref T1), (Str.ofString "second", .ref M), (Str.ofString "line", .str (strB (wd ++ [c])) _), (Str.ofString "pairs", .ref l)]) F9 ⟨rfl, rfl, rfl, rfl, trivial⟩, N9, by assumption, K9⟩
      · rename ¬ x.fmod 5 < 4 => hx4
        rename Fr _ _ _ _ => F7
        rename (_ : Int) ≠ 0 => hne0
        rw [strB_len] at hne0
        have hst : stepW wd x = wd.dropLast := if_neg hx4
        obtain ⟨wz, c, rfl⟩ : ∃ wz c, wd = wz ++ [c] := by
          rcases List.eq_nil_or_concat wd with h0 | ⟨wz, c, h0⟩
          · rw [h0] at hne0; exact absurd rfl hne0
          · exact ⟨wz, c, by rw [h0, List.concat_eq_append]⟩
        rw [strB_init, List.dropLast_concat] at F7
        rw [List.dropLast_concat] at hst
        have F8 := Mine.Fr.lay (l := [(Str.ofString "first", .ref T1), (Str.ofString "second", .ref M), (Str.ofString "line", .str (strB wz) _), (Str.ofString "pairs", .ref l)]) F7 ⟨rfl, rfl, rfl, rfl, trivial⟩
        clear F7
        dsimp only [lay] at F8
        have hwz : wz.length ≤ 100 := by rw [List.length_append, List.length_singleton] at hw100; omega
        have hvz : (rp o1 n1 0 wz).length ≤ 100 := by rw [← hst]; have := hrp _ hwl'; omega
        rw [hst]
        subst hWe2
        k_steps
        rename Fr _ _ _ _ => F9
        rename News _ _ _ _ => N9
        rename Keeps4 _ _ _ _ _ _ => K9
        exact ⟨rfl, _, _, _, _, _, rfl, Mine.Fr.lay (l := [(Str.ofString "first", .ref T1), (Str.ofString "second", .ref M), (Str.ofString "line", .str (strB wz) _), (Str.ofString "pairs", .ref l)]) F9 ⟨rfl, rfl, rfl, rfl, trivial⟩, N9, by assumption, K9⟩
      · rename ¬ x.fmod 5 < 4 => hx4
        rename (_ : Int) = 0 => he0
        rw [strB_len] at he0
        have hw0 : wd = [] := List.eq_nil_of_length_eq_zero (by omega)
        have hst : stepW wd x = wd := by rw [stepW, if_neg hx4, hw0]; rfl
        rename Fr _ _ _ _ => F7
        rename News _ _ _ _ => N7
        rw [hst]
        exact ⟨rfl, _, _, _, _, tl, rfl, Mine.Fr.lay (l := [(Str.ofString "first", .ref T1), (Str.ofString "second", .ref M), (Str.ofString "line", .str (strB wd) tl), (Str.ofString "pairs", .ref l)]) F7 ⟨rfl, rfl, rfl, rfl, trivial⟩, N7, W₂, Keeps4.refl _ _ _ _ _⟩
    · rintro _ _ ⟨rfl, h', tk', XA, mr', tl', rfl, FA, NA, WA, KA⟩
      have hIA := KA _ hI₂ hI1 hI2 hI3 hI4
      have hDA := KA _ hD₁ hDp1 hDg1 hDp2 hDg2
      have hPA := KA _ hP₁ hPap.1 hPap.2.1 hPap.2.2.1 hPap.2.2.2
      have hQA := KA _ hQ₁ hQap.1 hQap.2.1 hQap.2.2.1 hQap.2.2.2
      clear W₂ KA hI₂ hD₁ hP₁ hQ₁ hw100 hwl3 hv hwl
      generalize stepW wd x = yw at FA WA hwl' hnext
      have hyl : (strB yw).length ≤ 1000 := by rw [strB_len]; omega
      have hr1 : (rp o1 n1 0 yw).length ≤ 40 := hrp _ hwl'
      have hr2 : (rp o2 n2 0 (rp o1 n1 0 yw)).length ≤ 80 := by have := rp_two ho2' hn2 (rp o1 n1 0 yw); omega
      have hq1 : ∀ q ∈ [(⟨strB o1, t1, strB n1, t2⟩ : Pr)], q.ok := by
        intro q hq
        rw [List.mem_singleton.mp hq]
        exact ⟨by rw [strB_len]; omega, by rw [strB_len, strB_len]; omega, by rw [strB_len]; omega⟩
      have hq2 : ∀ q ∈ [(⟨strB o1, t1, strB n1, t2⟩ : Pr), ⟨strB o2, t3, strB n2, t4⟩], q.ok := by
        intro q hq
        rcases List.mem_cons.mp hq with rfl | hq
        · exact hq1 _ (List.mem_singleton.mpr rfl)
        · rw [List.mem_singleton.mp hq]
          exact ⟨by rw [strB_len]; omega, by rw [strB_len, strB_len]; omega, by rw [strB_len]; omega⟩
      have hq1l : [(⟨strB o1, t1, strB n1, t2⟩ : Pr)].length ≤ 100 := by simp
      have hq2l : [(⟨strB o1, t1, strB n1, t2⟩ : Pr), ⟨strB o2, t3, strB n2, t4⟩].length ≤ 100 := by simp
      have hz1 : (prVals [(⟨strB o1, t1, strB n1, t2⟩ : Pr)]).toArray.size ≤ sizeLine := by rw [List.size_toArray, prVals_len, sizeLine_eq]; omega
      have hz2 : (prVals [(⟨strB o1, t1, strB n1, t2⟩ : Pr), ⟨strB o2, t3, strB n2, t4⟩]).toArray.size ≤ sizeLine := by rw [List.size_toArray, prVals_len, sizeLine_eq]; omega
      have hlP : (l, lstO (prVals [(⟨strB o1, t1, strB n1, t2⟩ : Pr), ⟨strB o2, t3, strB n2, t4⟩]) np) ∈ XA := WA.lst
      have er1 : replAll (strB yw) [(⟨strB o1, t1, strB n1, t2⟩ : Pr)] = strB (rp o1 n1 0 yw) := repl_B (by omega) hk1
      have er2 : replAll (strB yw) [(⟨strB o1, t1, strB n1, t2⟩ : Pr), ⟨strB o2, t3, strB n2, t4⟩] = strB (rp o2 n2 0 (rp o1 n1 0 yw)) := by
        show repl (repl (strB yw) (strB o1) (strB n1)) (strB o2) (strB n2) = _
        rw [repl_B (by omega) hk1, repl_B (by omega) hk2]
      generalize (⟨strB o1, t1, strB n1, t2⟩ : Pr) = q1 at *
      generalize (⟨strB o2, t3, strB n2, t4⟩ : Pr) = q2 at *
      dsimp only [lay] at FA
      dsimp only
      k_steps
      subst hWb
      k_steps
      rename Fr _ _ _ _ => FB
      rename News _ _ _ _ => NB
      rw [er1, er2] at FB
      have FC := Mine.Fr.lay (l := [(Str.ofString "once", .str (strB (rp o1 n1 0 yw)) _), (Str.ofString "twice", .str (strB (rp o2 n2 0 (rp o1 n1 0 yw))) _), (Str.ofString "first", .ref T1), (Str.ofString "second", .ref M), (Str.ofString "line", .str (strB yw) _), (Str.ofString "pairs", .ref l)]) FB ⟨rfl, rfl, rfl, rfl, rfl, rfl, trivial⟩
      clear FB
      dsimp only [lay] at FC
      have hr3 : (strB (rp o1 n1 0 yw)).length ≤ 1000 := by rw [strB_len]; omega
      have hr4 : (strB (rp o2 n2 0 (rp o1 n1 0 yw))).length ≤ 1000 := by rw [strB_len]; omega
      replace NB := news_tail (news_tail NB)
      obtain ⟨pcs1, P1, hpc1⟩ := WA.D1.pile
      obtain ⟨pcs2, P2, hpc2⟩ := WA.D2.pile
      obtain ⟨htx1, hln1⟩ := pile_text hpc1
      obtain ⟨htx2, hln2⟩ := pile_text hpc2
      rw [txt_st ho1'] at htx1 hln1
      rw [txt_st ho2'] at htx2 hln2
      have hpl1 : pcs1.length ≤ 20 := by
        have e := congrArg List.length hpc1
        rw [List.length_map, List.length_map] at e
        have := (stP_lens ho1' yw).2
        omega
      have hpl2 : pcs2.length ≤ 40 := by
        have e := congrArg List.length hpc2
        rw [List.length_map, List.length_map] at e
        have := (stP_lens ho2' (rp o1 n1 0 yw)).2
        omega
      have hw1 : (pcs1.map fun c => c.f.length + c.p.length).sum + pcs1.length ≤ 100000 := by
        have e : (pcs1.map pcLen).sum = (pcs1.map fun c => c.f.length + c.p.length).sum := rfl
        omega
      have hw2 : (pcs2.map fun c => c.f.length + c.p.length).sum + pcs2.length ≤ 100000 := by
        have e : (pcs2.map pcLen).sum = (pcs2.map fun c => c.f.length + c.p.length).sum := rfl
        omega
      have hone := WA.one
      have htwo := WA.two
      obtain ⟨⟨aa1, hmA1⟩, ⟨ab1, ac1, ad1, ae1, hdA1⟩, _⟩ := id P1
      obtain ⟨⟨aa2, hmA2⟩, ⟨ab2, ac2, ad2, ae2, hdA2⟩, _⟩ := id P2
      have hLW : LW 108 77 70 l np T1 M p1 d1 g1 p2 d2 g2 o1 n1 o2 n2 t1 t2 t3 t4 yw (rp o1 n1 0 yw) I o DL vs pcs1 pcs2 XA := ⟨WA, P1, P2, hIA, hDA, ⟨ps1, hPA, hT₁⟩, ⟨ps2, hQA, hT₂⟩, hI5, hI6, by decide, hDs, hDn⟩
      clear WA hIA hDA hPA hQA hpc1 hpc2 hq1 hq2 hq1l hq2l hz1 hz2 hlP er1 er2 hPap hQap
      subst hWc
      k_steps
      · rename (_ != _) = true => hbad
        rw [htx1] at hbad
        simp at hbad
      · rename (_ != _) = true => hbad
        rw [htx2] at hbad
        simp at hbad
      · subst hWd
        k_steps
        · rename (_ : Int) ≠ _ => hbad
          exact absurd (by rw [hln1, strB_len]) hbad
        · rename (_ : Int) ≠ _ => hbad
          exact absurd (by rw [hln2, strB_len]) hbad
        · rename Fr _ _ _ _ => F9
          rename News _ _ _ _ => N9
          rename AllBare _ => G9
          obtain ⟨z1, z2, z3, z4, z5⟩ := LW.fin (by assumption) N9 hIi hDI
          have F10 := Mine.Fr.lay (l := [(Str.ofString "first", .ref T1), (Str.ofString "second", .ref M), (Str.ofString "line", .str (strB yw) _), (Str.ofString "pairs", .ref l)]) F9 ⟨rfl, rfl, rfl, rfl, trivial⟩
          refine hQL _ _ ?_
          refine ⟨_, _, _, _, _, but I _, o, rfl, F10, N9, z1, hIt, fun q hq => but_mem.mp hq, ?_⟩
          unfold LJ1
          rw [hnext]
          exact ⟨G9, z2, ⟨_, _, rfl⟩, z3, z4, z5⟩
  · intro m₁ news₁ h₁ tk₁ gs₁ hJ F₁ N₁
    obtain ⟨G₁, hD₁, ⟨mr₁, tl, rfl⟩, W₁, ⟨ps1, hP₁, hT₁⟩, ⟨ps2, hQ₁, hT₂⟩⟩ := hJ
    dsimp only [lay] at F₁
    k_steps
    refine hQV _ _ ?_
    exact law_good hT9 F₁ ⟨GrownAt.of N₁ hP₁, GrownAt.of N₁ hQ₁, trivial⟩ G₁ (fun _ => rfl) (by kernel_rfl) rfl)
end
end Mine
end
theorem PySem.Challenge.cw_ph0024_01_holds : PySem.Challenge.rw_ph0024_01.Holds :=
  Mine.holds
