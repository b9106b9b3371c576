import PyProof.Rows.All
import Wide.All
import OpenK.AllK
import Wide.FinOn
import KE.KBoundM
import KE.KStar
import Lean
import PySem.Challenge.RW_xl0020_01
set_option Elab.async false
open PySem PySem.W PyProof.Rows PySem.Calls PySem.Spec
namespace Mine
section
open PySem PySem.W PyProof.Rows
set_option maxRecDepth 100000
set_option maxHeartbeats 8000000
/-- so many steps of the top, over the tree of objects -/
noncomputable def topRunT (sk : Nat → Option Value → Thread → Bool) (st : SharedT → Thread → Option (SharedT × Thread)) (n₀ : Nat) (ann : Option Value) : Nat → SharedT × Thread → Option SharedT
  | 0, _ => none
  | n + 1, x => bif through x.2 then some x.1 else bif sk n₀ ann x.2 then (st x.1 x.2).bind (topRunT sk st n₀ ann n) else none
theorem topRunT_of {tb : String → Option Builtin} {p : Program} {w : World} {n₀ : Nat} {ann : Option Value} {r : SharedT} (n : Nat) : ∀ x : SharedT × Thread, topRunT stepOk (stepT (denote tb) p w) n₀ ann n x = some r → topRun tb p w n₀ ann n x.1.abs x.2 = some r.abs := by
  induction n with
  | zero => exact fun x h => nomatch h
  | succ n ih =>
    intro x h
    rw [topRunT] at h
    rw [topRun]
    revert h
    cases through x.2 with
    | true => exact fun h => congrArg (Option.map SharedT.abs) h
    | false =>
      cases stepOk n₀ ann x.2 with
      | false => exact fun h => nomatch h
      | true =>
        intro h
        obtain ⟨y, e, h⟩ := Option.bind_eq_some_iff.mp h
        dsimp only
        rw [stepT_spec e]
        exact ih y h
/-- what is asked of the state at the end -/
abbrev looksT (p q : Program) (loose : List Str) (Xt : Shared → Bool) {α β : Type} (Yf : Shared → α) (g0 : Bool) (oS : Program → List Str → List Str → (Shared → Bool) → Bool → Shared → β) (h₀ : Heap) (s : Shared) : Bool × β × α :=
  ((staticsOk (importedModules p.main.body) h₀ s.heap && namesBound p s.heap && gensDone s && laidKept h₀ s.heap), oS q loose (importedModules p.main.body) Xt g0 s, Yf s)
theorem left_tree {p q : Program} {loose : List Str} {Xt : Shared → Bool} {α : Type} {Yf : Shared → α} {Ya : World → α} {N : Nat} {g0 : Bool} {T₀ : Params → BT} {H₀ : Params → Heap} {gs₀ : Array GenState} {d₀ : Drawn} {k₀ m₀ : Nat} {life : Life} {ann : Option Value} {tb dn sk sT oS}
    (htb : treeTable = tb) (hdn : denote = dn) (hsk : stepOk = sk) (hsT : stepT = sT) (hoS : openSeen = oS)
    (first : ∀ w : World, (fencedOpening treeTable p w N).map (fun s => (s.heap, s.gens, s.drawn, s.toks)) = some (H₀ w.params, gs₀, d₀, k₀)) (tree : ∀ P, absHeap (T₀ P) m₀ life = H₀ P)
    (main : ∀ w : World, ((H₀ w.params).isNs mainGlobals && gs₀.size == 0, (H₀ w.params).nsMap mainGlobals "__annotations__") = (true, ann))
    (run : ∀ (w : World) (os : OsState), (topRunT sk (sT (dn tb) p w) m₀ ann N (⟨T₀ w.params, m₀, life, gs₀, d₀, k₀, os⟩, topStub p)).map (fun s => looksT p q loose Xt Yf g0 oS (H₀ w.params) s.abs) = some (true, openGood q loose, Ya w)) : LeftO p q loose Xt Yf Ya N g0 := by
  subst hdn hsk hsT hoS htb
  intro w
  obtain ⟨s₀, e₀, i₀⟩ := Option.map_eq_some_iff.mp (first w)
  obtain ⟨s₁, e₁, i₁⟩ := Option.map_eq_some_iff.mp (run w s₀.os)
  have t₁ := topRunT_of _ _ e₁
  have m₁ := congrArg Prod.fst (main w)
  have m₂ := congrArg Prod.snd (main w)
  have m₃ : (H₀ w.params).objs.size = m₀ := (congrArg (fun h : Heap => h.objs.size) (tree w.params)).symm.trans (absHeap_size _ _ _)
  have hs : s₀ = ⟨H₀ w.params, gs₀, d₀, k₀, s₀.os⟩ := by
    obtain ⟨_, _, _, _, _⟩ := s₀
    cases i₀
    rfl
  have hf : topFrom treeTable p w N s₀ = some s₁.abs := by
    rw [hs]
    unfold topFrom
    dsimp only at m₁ m₂ ⊢
    rw [m₁, m₂, m₃]
    simp only [SharedT.abs, tree] at t₁
    rw [t₁]
    show (match (looksT p q loose Xt Yf g0 openSeen (H₀ w.params) s₁.abs).1 with | true => some s₁.abs | false => none) = _
    rw [congrArg Prod.fst i₁]
  unfold openEnds
  rw [e₀, Option.bind_some, hf]
  exact congrArg (fun x => some x.2) i₁
/-- the tree of the objects at the start -/
noncomputable def bt0 (P : Params) : BT := ((boot_heap P).objs.toList.foldl (fun (x : BT × Nat) o => (x.1.ins x.2 o, x.2 + 1)) (.nil, 0)).1
/-- the text's statements less the names of its files -/
noncomputable def vw : Program := { PySem.Challenge.pw_xl0020_01 with main := { PySem.Challenge.pw_xl0020_01.main with body := [0, 2, 4, 5, 6, 7, 9, 10, 11, 12, 13, 15, 16, 17].filterMap (PySem.Challenge.pw_xl0020_01.main.body[·]?) } }
theorem bt0_abs (P : Params) : absHeap (bt0 P) 11 {} = boot_heap P := by kernel_rfl
/-- the law is well said -/
theorem law_said : PySem.Challenge.rw_xl0020_01.wellSaid = true := by
  first | rw [PySem.W.Fast.te9446332074065402090] | skip
  kernel_rfl
local macro_rules | `(tactic| o_law) => `(tactic| refine holds_law Mine.law_said fun said => ?_)
local macro_rules | `(tactic| o_head ($f:ident $k $a $e)) => `(tactic| (
  refine holds_open (q := Mine.vw) (loose := [PySem.Str.ofString "_Accumulator"]) (Xt := fun s => xlAt Mine.vw [] s && recOk (RowW.records (OpenRow.toRowW (OpenLaw.row PySem.Challenge.rw_xl0020_01))) s) (XP := XL Mine.vw []) (Yf := Hook.obs (PySem.W.kmHook $k $a $e [147, 154])) (Ya := Hook.val (PySem.W.kmHook $k $a $e [147, 154])) (YP := Hook.says (PySem.W.kmHook $k $a $e [147, 154])) (N := 2720) ?hl (Hook.of (PySem.W.kmHook $k $a $e [147, 154])) (Hook.keeps (PySem.W.kmHook $k $a $e [147, 154])) (fun s e => xl_of s (Bool.and_eq_true_iff.mp e).1) XL.keeps (by rfl) (by rfl) (by rfl) (fun s e => recFacts_of (Bool.and_eq_true_iff.mp e).2) (by first | rfl | fail "open_line: no head takes a call that writes beside a table") (by first | assumption | decide +kernel) (by decide +kernel) ⟨rfl, rfl, rfl, rfl, rfl, by decide +kernel⟩ ?hw ?hc
  case hl => (
    refine left_tree (T₀ := bt0) (m₀ := 11) (life := {}) (ann := some (.ref 6)) (tb := ?tb) (dn := ?dn) (sk := ?sk) (sT := ?sT) (oS := ?oS) ?e1 ?e2 ?e3 ?e4 ?e5 (boot_open (by rfl) (by rfl) (fun _ => by rfl)) bt0_abs (fun w => by kernel_rfl) ?run
    case e1 => first | exact PySem.W.Fast.te14364793385576792824 | exact rfl
    case e2 => first | exact PySem.W.Fast.te11892475500146522536 | exact rfl
    case e3 => first | exact PySem.W.Fast.te6613529449190102663 | exact rfl
    case e4 => first | exact PySem.W.Fast.te10156331382660048174 | exact rfl
    case e5 => first | exact PySem.W.Fast.te4187177175401517315 | exact rfl
    case run => (intro w os; kernel_rfl))))
open_top hd for PySem.Challenge.rw_xl0020_01
end

section
open PySem PySem.W PyProof.Rows PySem.Calls PySem.Spec
set_option maxRecDepth 100000
set_option maxHeartbeats 8000000
noncomputable abbrev prg : Program := PySem.Challenge.rw_xl0020_01.row.prog
noncomputable abbrev lse : List Str := looseW vw [Str.ofString "_Accumulator"]

/-- the claim of a call from a def's frame -/
def Cl (w : World) (mean : ExcName → Option Value) (mg mb : Str → Option Value) (f : Value) (news : List (Addr × Obj)) (vs : List Value) (ret : Value → Shared → (Heap → List (Addr × Obj) → Prop) → Prop) : Prop :=
  ∀ (dp un : Nat) (gd : Option (List Code)) (cn : Str) (nm : List (Str × NameKind)) (gg co : Bool) (more : List (Str × Const)) (a : Addr) (ccd : Value) (cl : List (Str × Addr)) (outer : List Env) (A₀ : Around) (base h₀ : Heap) (L : Addr) (m : Str → Option Value) (s : Shared) (Q E : Value → Shared → Prop),
    Below A₀ base outer h₀ → Fr h₀ L s.heap m → (hd.heap_1 w.params).In h₀ → News h₀ L s.heap news → Top vw (looseW vw [Str.ofString "_Accumulator"]) mean mg mb h₀ →
    dp + 20 < recursionLimit → un + 100 < cLine → AllBare s.gens →
    (∀ v s', s'.os = s.os → AllBare s'.gens → ret v s' (fun h n => Fr h₀ L h m ∧ News h₀ L h n) → Q v s') →
    wpAny (model PySem.Challenge.rw_xl0020_01.row.prog w) (ktrTop dp un gd cn ⟨.function, nm, gg, co, more⟩ L a ccd cl outer) (call f vs) Q E s

section
variable {A : Around} {env : Env} {k K n c R : Nat}
theorem rm0 (h : n + 0 < R) : n < R := h
theorem rm_deeper (h : A.depth + (k + 1) < R) : (A.deeper env).depth + k < R := by
  show A.depth + 1 + k < R
  omega
theorem rm_in1 (h : A.depth + k < R) : A.in1.depth + k < R := h
theorem rm_top (h : n + K < R) (hk : k ≤ K) : n + k < R := Nat.lt_of_le_of_lt (Nat.add_le_add_left hk n) h
theorem um_deeper (h : A.units + (k + 3) < R) : (A.deeper env).units + k < R := by
  show A.units + 3 + k < R
  omega
theorem um_in1 (h : A.units + (k + 1) < R) : A.in1.units + k < R := by
  show A.units + 1 + k < R
  omega
theorem ltA {L a b c : Nat} (h : L + a < c) (k : b < a) : L + b < c := Nat.lt_trans (Nat.add_lt_add_left k L) h
theorem lt154 {a : Nat} (h : 154 < a) : 147 < a := by omega
end
end

section

theorem mn_pos {i n : Nat} (h : i < n) : 0 < min (n - i) n := Nat.lt_min.mpr ⟨Nat.sub_pos_of_lt h, Nat.lt_of_le_of_lt (Nat.zero_le _) h⟩
theorem mn_lt {i n : Nat} (h : 0 < min (n - i) n) : i < n := Nat.lt_of_sub_pos (Nat.lt_of_lt_of_le h (Nat.min_le_left _ _))
theorem mn_no {s n : Nat} (h : ¬ s < n) : ¬ 0 < min (n - s) n := fun k => h (mn_lt k)
theorem sb_no {s n : Nat} (h : ¬ s < n) : ¬ 0 < n - s := fun k => h (Nat.lt_of_sub_pos k)
theorem nm1 {p : Nat} : ((p : Int) - 1).toNat = p - 1 := Int.toNat_sub p 1
theorem cpp {n : Nat} (h : 1 ≤ n) : (n : Int) - 1 = ((n - 1 : Nat) : Int) := (Int.ofNat_sub h).symm
theorem sub1 {j n : Nat} (h : j < n) : (n : Int) - 1 - (j : Int) = ((n - 1 - j : Nat) : Int) := (congrArg (· - (j : Int)) (cpp (Nat.lt_of_le_of_lt (Nat.zero_le _) h))).trans (Int.ofNat_sub (Nat.le_sub_one_of_lt h)).symm
theorem cp1 {n N : Nat} (h : 16 ≤ n ∧ n ≤ N) : (n : Int) - 1 = ((n - 1 : Nat) : Int) := cpp (Nat.le_trans (by decide) h.1)
theorem cpn {n N : Nat} (h : 16 ≤ n ∧ n ≤ N) : n - 1 ≤ N := Nat.le_trans (Nat.sub_le _ _) h.2
theorem cpa {n N : Nat} (h : 16 ≤ n ∧ n ≤ N) : ((n : Int) - 1).natAbs ≤ N := by rw [cp1 h]; exact cpn h
theorem sz1 {n : Nat} (h : 1 < n) : 1 + ((n - 1 : Nat) : Int) = (n : Int) := congrArg Nat.cast (Nat.add_sub_cancel' (n := n) (m := 1) (Nat.le_of_lt h))
theorem sz2 {n i : Nat} (h : i < n - 1) : 1 + i < n := Nat.add_comm i 1 ▸ Nat.add_lt_of_lt_sub h
theorem sz4 {n j : Nat} (h : n ≤ 8) : n - 1 - j ≤ 7 := Nat.le_trans (Nat.sub_le _ _) (Nat.sub_le_sub_right h 1)
theorem sz5 {n j K : Nat} (h : n ≤ 8) (k : 7 ≤ K) : n - 1 - j ≤ K := Nat.le_trans (sz4 h) k
theorem sz3 {n j : Nat} (h : n ≤ 8) : n - 1 - j + 1 ≤ 8 := Nat.succ_le_succ (sz4 h)
theorem na4 {n i : Nat} (k : n ≤ 8) (h : i < n) : (i : Int).natAbs < 2 ^ 64 := Nat.lt_of_lt_of_le h (Nat.le_trans k (by decide))
theorem na3 {n i : Nat} (k : n ≤ 8) (h : i < n - 1) : (1 + (i : Int)).natAbs < 2 ^ 64 := na4 k (sz2 h)
theorem na5 {a b : Nat} (h : a ≤ 40) (k : b ≤ 40) : ((a : Int) - (b : Int)).natAbs < 2 ^ 64 := by omega
theorem fl1 {n K : Nat} (h : n ≤ 8) (k : 8 ≤ K) : 0 + 1 + (n - 1) * (0 + 1) ≤ K := Nat.le_trans (Nat.add_le_add_left (show (n - 1) * 1 ≤ 7 from (Nat.mul_one (n - 1)).symm ▸ Nat.sub_le_sub_right h 1) 1) k
end

section
open PySem PySem.W PyProof.Rows PySem.Calls PySem.Spec
set_option maxRecDepth 100000
set_option maxHeartbeats 4000000
open Builtin Builtin.ObjectAttr

/-- an object of a class over list -/
abbrev accObj (C dx : Addr) (xs : List Value) (n : Nat) : Obj := { cls := .ref C, dict := some dx, data := .seq xs.toArray n }

theorem instL {h₀ h : Heap} {L x C dx : Addr} {news : List (Addr × Obj)} {od : Obj} {xs : List Value} {n : Nat} (N : News h₀ L h news) (h1 : (x, accObj C dx xs n) ∈ news) (h2 : (dx, od) ∈ news) :
    InstAt h x (accObj C dx xs n) C (some od) := ⟨(N _ h1).1, rfl, rfl, (N _ h2).1⟩

theorem canon_lga : (Manifest.canonical "list.__getattribute__" != "object.__getattribute__") = false := by decide +kernel

section
variable {prog : Program} {w : World} {A : Around} {E : Value → Shared → Prop} {s : Shared} {K : Frag} {x C dx L : Addr} {h₀ : Heap} {m : Str → Option Value} {news news' : List (Addr × Obj)} {ox od : Obj} {es es' : List DictEntry} {n n' : Nat} {name : Str} {v : Value}

theorem acc_method {pl : Sem Bool} {f T : Value} {Q : Value × List Value → Shared → Prop} (F : Fr h₀ L s.heap m) (X₀ : K.In h₀) (I : InstAt s.heap x ox C (some (dictOf es n)))
    (hga : findIn K (.ref C) "__getattribute__" = some (some (.builtin "list.__getattribute__"))) (hk : findIn K (.ref C) "__getattr__" = some none)
    (hf : findIn K (.ref C) name = some (some f)) (ht : typeIn K f = some T) (hT : (T != .type "function" && T != .type "method_descriptor" && T != .type "wrapper_descriptor") = false)
    (hl : getL name es = some none) (h : Q (f, [.ref x]) s) : wpAny (model prog w) A (getMethod (.ref x) name pl) Q E s := by
  have X := X₀.keeps F.keep
  unfold getMethod specialOf
  refine wpAny_bind (wpAny_bind (I.type.here ((looks_findIn X hga).here ?_)))
  dsimp only
  rw [canon_lga, if_neg (by decide)]
  refine wpAny_bind (wpAny_bind (I.type.here ((looks_findIn X hk).here ?_)))
  refine wpAny_bind (wpAny_bind (I.type.here ((looks_findIn X hf).here (wpAny_bind ((looks_typeIn X ht).here ?_)))))
  rw [hT, if_neg (by decide)]
  refine wpAny_bind (wpAny_loadPart I.at_ ?_)
  have hd := I.dict
  cases e : ox.dict with
  | none => exact wpAny_bind (wpAny_rule (wpAny_pure h))
  | some dx =>
    rw [e] at hd
    refine wpAny_bind (wpAny_bind (wpAny_loadPart hd ?_))
    rw [nsLook_of (r := none) (by rw [lookIn_dict]; exact hl)]
    refine wpAny_pure ?_
    exact wpAny_bind (wpAny_rule (wpAny_pure h))

theorem entry_lga : entryFor table "list.__getattribute__" = some Builtin.«object.__getattribute__» :=
  entryFor_alias (id' := "object.__getattribute__") (by rw [fastTable_eq_tree]; kernel_rfl) (by first | rfl | decide +kernel) (by decide +kernel) (by rw [fastTable_eq_tree]; kernel_rfl)
theorem lga_plain : plainId "list.__getattribute__" = true := by decide +kernel
theorem lga_kind : builtinKind "list.__getattribute__" = some .slot := by decide +kernel
theorem lga_split : splitId "list.__getattribute__" = some ("list", "__getattribute__") := by decide +kernel
theorem lga_args (a b : Value) : argsOk "list.__getattribute__" ⟨[a, b], []⟩ := by unfold argsOk; kernel_rfl
theorem lga_bind (self : Value) : bindSpecial (.builtin "list.__getattribute__") self = pure (.builtin "list.__getattribute__", [self]) :=
  (Slot.of (T := "list") (name := "__getattribute__") (owner := "list") (n := "__getattribute__") (by rw [typeLookup_type, builtinLookup_eq_fast]; kernel_rfl) (by decide +kernel) (by decide +kernel) (by decide +kernel)
    (by first | exact .inl (by decide +kernel) | exact .inr (by decide +kernel)) (by rw [isSubtype_type]; kernel_rfl)).bind self

set_option maxHeartbeats 400000 in
theorem acc_get {expr : Bool} {Q : Value → Shared → Prop} (F : Fr h₀ L s.heap m) (X₀ : K.In h₀) (I : InstAt s.heap x ox C (some (dictOf es n)))
    (hga : findIn K (.ref C) "__getattribute__" = some (some (.builtin "list.__getattribute__"))) (hk : findIn K (.ref C) "__getattr__" = some none) (hm : mroIn K C (.type "list") = some true) (hh : hasDictIn K C = true)
    (ha : findIn K (.ref C) name = some none) (hl : getL name es = some (some v)) (hv : handedIn v = true)
    (h : Q v { s with toks := s.toks + 1 }) : wpAny (model prog w) A (getAttr (.ref x) name expr) Q E s := by
  have X := X₀.keeps F.keep
  obtain ⟨hh', g, d, t, os⟩ := s
  have L0 := I.type (M := model prog w)
  have L1 := looks_findIn (M := model prog w) X hga
  have L2 := looks_findIn (M := model prog w) X hk
  have L3 : Looks (model prog w) hh' (isInstance (.ref x) (.type "list")) true := L0.andThen (looks_mroIn X hm)
  have e4 : findObj K C (some (dictOf es n)) name = some (.value v) := findObj_own hh ha (by rfl) (by rw [lookIn_dict]; exact hl)
  have L4 := looks_find (M := model prog w) X I e4
  unfold getAttr getAttrBy
  refine wpAny_bind (wpAny_mkText (wpAny_holding (wpAny_bind (L0.at (wpAny_bind (L1.at ?_))))))
  show wpAny _ _ (getAttrByItsOwn (.ref x) (.str name t) (.ref C) (.builtin "list.__getattribute__") true expr) _ _ _
  unfold getAttrByItsOwn
  refine wpAny_bind (L2.at ?_)
  refine wpAny_bind (wpAny_attempt (wpAny_holding ?_))
  have e5 : callGetattribute (.ref x) (.str name t) (.builtin "list.__getattribute__") expr = boundAndCalled (.builtin "list.__getattribute__") (.ref x) (.str name t) := by
    unfold callGetattribute; rw [if_neg (by simp [onTheHeap])]
  rw [e5]
  unfold boundAndCalled
  rw [lga_bind]
  refine wpAny_bind (wpAny_pure ?_)
  show wpAny _ _ (call (.builtin "list.__getattribute__") [.ref x, .str name t] []) _ _ _
  refine wpAny_call ?_
  refine codeAny_call_builtin (id := "list.__getattribute__") lga_plain entry_lga ?_
  refine @check_slot (model prog w) _ _ _ "list.__getattribute__" "list" "__getattribute__" (.ref x) [.str name t] [] _ lga_kind lga_split L3 (lga_args (.ref x) (.str name t)) ?_
  unfold Builtin.«object.__getattribute__» slotArgs attrName
  repeat lk
  show wpAny _ _ (handedOut v) _ _ _
  rw [handedOut_of hv]; exact wpAny_pure h

theorem refuse_list (self : Value) : refuseLoop self "__setattr__" [.type "list", .type "object"] = pure () := by kernel_rfl

theorem acc_set {cd : ClassData} {Q : Unit → Shared → Prop} (F : Fr h₀ L s.heap m) (X₀ : K.In h₀) (N : News h₀ L s.heap news) (I : InstAt s.heap x ox C (some (dictOf es n))) (hd : ox.dict = some dx)
    (hs : findIn K (.ref C) "__setattr__" = some (some (.builtin "object.__setattr__"))) (hc : clsIn K C = some cd) (hmro : cd.mro = [.ref C, .type "list", .type "object"]) (hdc : cd.hasDict = true)
    (hf : findIn K (.ref C) name = some none) (hl : (getL name es).isSome = true)
    (e : (putL name (PyData.keyHash w.params name) (.str name (s.toks + 1)) v es, putN name es n) = (es', n')) (U : Upd dx (dictOf es n) (dictOf es' n') news news') (hz : es'.length ≤ 1000)
    (h : ∀ h', Fr h₀ L h' m → News h₀ L h' news' → Q () { s with heap := h', toks := s.toks + 2 }) :
    wpAny (model prog w) A (setAttr (.ref x) name v) Q E s := by
  obtain ⟨hh, g, d, t, os⟩ := s
  dsimp only at *
  have X := X₀.keeps F.keep
  obtain ⟨pre, post, rfl, rfl, a, b⟩ := U.split
  obtain ⟨e1, e2⟩ := Prod.mk.inj e
  refine set_plain X I hs ?_
  have SF := PySem.F.store_object
  have hm : Looks (model prog w) hh (mroOf (.ref C)) cd.mro := (looks_clsIn X hc).andThen .now
  have sub : Looks (model prog w) hh (isInstance (.ref x) (.type "object")) true := I.type.andThen (looks_mroIn X (by unfold mroIn; rw [hc, Option.bind_some, hmro]; rfl))
  refine codeAny_call_builtin SF.slot.plain SF.entry (@check_slot (model prog w) _ _ _ "object.__setattr__" "object" "__setattr__" (.ref x) [.str name t, v] [] _ SF.kind SF.split sub (SF.args (.ref x) (.str name t) v) ?_)
  rw [osa_eq, refuse_eq]
  refine wpAny_bind (wpAny_bind (I.type.at (wpAny_bind (hm.at ?_))))
  rw [hmro, refuseLoop_ref, refuse_list]
  have L3 : Looks (model prog w) hh (storeTaker? none) none := .now
  refine wpAny_pure (wpAny_bind (I.type.at (wpAny_bind ((looks_findIn X hf).at (wpAny_bind (L3.at ?_))))))
  obtain ⟨U1, U2⟩ := news_upd (f := Obj.putName name (PyData.keyHash w.params name) (.str name (t + 1)) v) F N a b (o' := dictOf es' n') (by rw [putName_dict, e1, e2]) rfl
  have D := (N (dx, dictOf es n) (by simp)).1
  have D' := (U2 (dx, dictOf es' n') (by simp)).1
  have hx := I.at_
  have hC := looks_clsIn (M := model prog w) X hc
  have hcl := I.cls
  obtain ⟨oc, odi, oda, osl⟩ := ox
  dsimp only at hcl hd
  subst hcl hd
  dsimp only [storeInOwnDict]
  repeat lk
  rw [hdc]
  refine wpAny_pure (a := some dx) ?_
  unfold storeInDict nsSet
  repeat lk
  have c : aRefKeyMayBeTheName name es.toArray = false := by
    rw [aRefKeyMayBeTheName_at, ← Array.any_toList, ← Array.any_toList]
    unfold getL at hl
    split at hl
    · rename_i en he
      rw [show (es.toArray.toList.any fun x => x.key.isStr name) = true from List.any_eq_true.mpr ⟨en, List.mem_of_find?_eq_some he, List.find?_some (p := fun (x : DictEntry) => x.key.isStr name) he⟩]; rfl
    · split at hl
      · cases hl
      · rename_i z
        rw [show (es.toArray.toList.any fun x => x.refKey) = false from by simpa using z, Bool.and_false]
  rw [c, if_neg Bool.false_ne_true]
  refine wpAny_updatePart D (wpAny_bind (wpAny_lookBehind D' (pastItsLine_dict (by rw [List.size_toArray, sizeLine_eq]; omega)) ?_))
  exact wpAny_pure (h _ U1 U2)
end
end

section
open PySem PySem.W PyProof.Rows PySem.Calls PySem.Spec
set_option maxRecDepth 100000
set_option maxHeartbeats 400000
open Builtin Builtin.ObjectAttr
section
variable {prog : Program} {w : World} {A : Around} {E : Value → Shared → Prop} {s : Shared} {K : Frag} {x C dx L : Addr} {h₀ : Heap} {m : Str → Option Value} {news news' : List (Addr × Obj)} {ox od : Obj} {es es' : List DictEntry} {n n' : Nat} {name : Str} {v : Value}

theorem lnew_kind : builtinKind "list.__new__" = some .builtinFn := by decide +kernel
theorem lnew_split : splitId "list.__new__" = some ("list", "__new__") := by decide +kernel

theorem acc_new {A : Around} {C : Addr} {h : Heap} {g : Array GenState} {d : Drawn} {t : Nat} {os : OsState} {rest : List Value} {oc : Value} {odc : Option Addr} {cd : ClassData} {sl : Array (Option Value)} {R : Result → Shared → Prop}
    (hC : h.get? C = some ⟨oc, odc, .cls cd, sl⟩) (hdel : cd.hasDel = false) (made : Looks (model prog w) h (Bind.madeBy (.ref C)) (some "list.__new__")) (base : Looks (model prog w) h (Bind.staticBase (.ref C)) (.ref C))
    (sub : Looks (model prog w) h (isSubtype (.ref C) (.type "list")) true) (typ : Looks (model prog w) h (isInstance (.ref C) (.type "type")) true)
    (hargs : argsOk "list.__new__" ⟨.ref C :: rest, []⟩)
    (hq : R (.ok (.ret (.ref (h.objs.size + 1)))) ⟨(h.push emptyDict).push (accObj C h.objs.size [] 0), g, d, t, os⟩) :
    codeAny (model prog w) A (.call (.builtin "list.__new__") ⟨.ref C :: rest, []⟩) R ⟨h, g, d, t, os⟩ := by
  refine codeAny_call_builtin_code (Code.quiet_builtin _ (by decide +kernel)) ?_
  unfold checkBuiltinCall
  rw [lnew_kind]
  dsimp only
  rw [lnew_split]
  dsimp only
  repeat lk
  refine codeAny_builtin_stack PySem.F.entry_list_new rfl fun p st => ?_
  rw [Around.under_plainId PySem.F.plain_list_new _]
  have hown := owner_list_new
  dsimp only
  rw [hown]
  have hC' : ((h.push emptyDict).push (accObj C h.objs.size [] 0)).get? C = some ⟨oc, odc, .cls cd, sl⟩ := Heap.get?_push_of_some _ (Heap.get?_push_of_some emptyDict hC)
  repeat lk
  rw [hdel]
  repeat lk
  rw [Heap.size_push]
  exact hq

theorem acc_make {pos : List Value} {fI : Addr} {oc : Value} {odc : Option Addr} {cd : ClassData} {sl : Array (Option Value)} {Q : Value → Shared → Prop} (F : Fr h₀ L s.heap m) (X₀ : K.In h₀) (N : News h₀ L s.heap news)
    (hC : K.lookup C = some ⟨oc, odc, .cls cd, sl⟩) (hmro : cd.mro = [.ref C, .type "list", .type "object"]) (hdel : cd.hasDel = false) (hsl : sl.toList[4]? = some (some (.builtin "list.__new__")))
    (hcall : specialIn K (.ref C) "__call__" = some (some (.builtin "type.__call__"))) (htyp : instIn K (.ref C) (.type "type") = some true)
    (hi : findIn K (.ref C) "__init__" = some (some (.ref fI))) (hf : isFn K (.ref fI) = true) (hargs : argsOk "list.__new__" ⟨.ref C :: pos, []⟩)
    (h : ∀ x dx h', Fr h₀ L h' m → News h₀ L h' ((x, accObj C dx [] 0) :: (dx, dictOf [] 0) :: news) → (∀ p ∈ news, p.1 < dx) → dx < x →
      codeAny (model prog w) (A.under (.builtin "type.__call__" ⟨.ref C :: pos, []⟩)) (.call (.ref fI) ⟨.ref x :: pos, []⟩) (InitBack x fun r s' => match r with | .ok (.ret v) => Q v s' | .ok _ => False | .error e => E e s') { s with heap := h' }) :
    wpAny (model prog w) A (call (.ref C) pos []) Q E s := by
  have X := X₀.keeps F.keep
  obtain ⟨hh, g, d, t, os⟩ := s
  dsimp only at *
  have hC1 := X _ _ hC
  have hc : clsIn K C = some cd := by unfold clsIn; rw [hC]
  have e4 : cd.mro.isEmpty = false := by rw [hmro]; rfl
  have hm : Looks (model prog w) hh (mroOf (.ref C)) cd.mro := (looks_clsIn X hc).andThen .now
  have call := looks_specialIn (M := model prog w) X hcall
  have typ := looks_instIn (M := model prog w) X htyp
  have hsub : Looks (model prog w) hh (isSubtype (.ref C) (.type "list")) true := looks_mroIn X (by unfold mroIn; rw [hc, Option.bind_some, hmro]; rfl)
  have self : Looks (model prog w) hh (isSubtype (.ref C) (.ref C)) true := looks_mroIn X (by unfold mroIn; rw [hc, Option.bind_some, hmro]; simp)
  have made : Looks (model prog w) hh (Bind.madeBy (.ref C)) (some "list.__new__") := by
    intro A Q E s k q
    unfold Bind.madeBy
    refine wpAny_bind (hm A _ E s k ?_)
    rw [hmro, List.forIn_cons]
    refine wpAny_bind (wpAny_bind (wpAny_bind (wpAny_bind (wpAny_loadPart (k _ _ hC1) (wpAny_pure ?_)))))
    dsimp only
    rw [← Array.getElem?_toList, hsl]
    exact wpAny_pure (wpAny_pure (wpAny_pure q))
  have base : Looks (model prog w) hh (Bind.staticBase (.ref C)) (.ref C) := by
    intro A Q E s k q
    unfold Bind.staticBase
    refine wpAny_bind (hm A _ E s k ?_)
    rw [hmro, List.forIn_cons]
    exact wpAny_bind (wpAny_bind (wpAny_bind (made A _ E s k (wpAny_pure (wpAny_pure (wpAny_pure q))))))
  refine wpAny_call (codeAny_of_tree ?_)
  show wpAny _ _ (callAny (.ref C) _) _ _ _
  refine nd_load hC1 ?_
  show wpAny _ _ (callAny.viaDunder (.ref C) _) _ _ _
  unfold callAny.viaDunder
  refine wpAny_bind (call.at ?_)
  dsimp only
  rw [tc_bind]
  refine wpAny_bind (wpAny_pure (wpAny_bind (wpAny_pure ?_)))
  refine wpAny_pure (a := Fin.again (.call (.builtin "type.__call__") ⟨.ref C :: pos, []⟩)) (And.intro rfl ?_)
  refine codeAny_call_builtin_at (Code.quiet_builtin _ (by decide +kernel)) entry_typeCall (check_slot tc_kind tc_split typ (tc_args _ _ _) ?_)
  unfold Builtin.«type.__call__»
  repeat (first | rw [e4, if_neg Bool.false_ne_true] | with_reducible refine wpAny_call ?_ | lk)
  refine acc_new hC1 hdel made base hsub typ hargs ?_
  have k : ∀ b o, hh.get? b = some o → ((hh.push emptyDict).push (accObj C hh.objs.size [] 0)).get? b = some o := fun b o e => Heap.get?_push_of_some _ (Heap.get?_push_of_some _ e)
  have N2 := (N.push F emptyDict).push (F.push _) (accObj C hh.objs.size [] 0)
  rw [Heap.size_push] at N2
  have hx : ((hh.push emptyDict).push (accObj C hh.objs.size [] 0)).get? (hh.objs.size + 1) = some (accObj C hh.objs.size [] 0) := (N2 _ (.head _)).1
  have t1 : Looks (model prog w) ((hh.push emptyDict).push (accObj C hh.objs.size [] 0)) (typeOf (.ref (hh.objs.size + 1))) (.ref C) := (Looks.ld hx).andThen .now
  have s1 := self.keeps k
  have i1 := (looks_findIn (M := model prog w) X hi).keeps k
  have b1 := (bind_fn (M := model prog w) X (.ref (hh.objs.size + 1)) (beq_iff_eq.mp hf)).keeps k
  have z := h _ hh.objs.size _ ((F.push _).push _) N2 (fun p hp => Heap.lt_size (N p hp).1) (Nat.lt_succ_self _)
  dsimp only
  unfold isInstance callSpecial? specialOf
  repeat (first | with_reducible refine wpAny_call ?_ | lk)
  refine codeAny_mono z fun r s' z => ?_
  rcases r with e | (v | _ | _ | _) <;> first | exact z | exact z.elim | skip
  obtain ⟨rfl, z⟩ := z
  exact wpAny_pure (wpAny_pure z)
end
end

section
open PySem PySem.W PyProof.Rows PySem.Calls PySem.Spec
set_option maxRecDepth 100000
set_option maxHeartbeats 400000
open Builtin Builtin.ObjectAttr
section
variable {prog : Program} {w : World} {A : Around} {E : Value → Shared → Prop} {K : Frag} {x C D so L : Addr} {h₀ : Heap} {m : Str → Option Value} {news news' : List (Addr × Obj)} {name : Str} {v : Value}
  {h : Heap} {g : Array GenState} {d : Drawn} {t : Nat} {os : OsState}

abbrev bmObj (T id : String) (x : Addr) : Obj := { cls := .type T, data := .fields #[.builtin id, .ref x] }

theorem md_entry : entryFor table "method_descriptor.__get__" = some Builtin.«method_descriptor.__get__» := entryFor_of_tree (by kernel_rfl)
theorem wd_entry : entryFor table "wrapper_descriptor.__get__" = some Builtin.«wrapper_descriptor.__get__» := entryFor_of_tree (by kernel_rfl)
theorem md_plain : plainId "method_descriptor.__get__" = true := by decide +kernel
theorem wd_plain : plainId "wrapper_descriptor.__get__" = true := by decide +kernel
theorem md_kind : builtinKind "method_descriptor.__get__" = some .slot := by decide +kernel
theorem wd_kind : builtinKind "wrapper_descriptor.__get__" = some .slot := by decide +kernel
theorem md_split : splitId "method_descriptor.__get__" = some ("method_descriptor", "__get__") := by decide +kernel
theorem wd_split : splitId "wrapper_descriptor.__get__" = some ("wrapper_descriptor", "__get__") := by decide +kernel
theorem md_args (a b c : Value) : argsOk "method_descriptor.__get__" ⟨[a, b, c], []⟩ := by unfold argsOk; kernel_rfl
theorem wd_args (a b c : Value) : argsOk "wrapper_descriptor.__get__" ⟨[a, b, c], []⟩ := by unfold argsOk; kernel_rfl
theorem ty_pop : typeOf (.builtin "list.pop") = pure (.type "method_descriptor") := by show builtinType _ = _; rw [builtinType_eq_fast]; kernel_rfl
theorem ty_init : typeOf (.builtin "list.__init__") = pure (.type "wrapper_descriptor") := by show builtinType _ = _; rw [builtinType_eq_fast]; kernel_rfl
theorem ty_len : typeOf (.builtin "list.__len__") = pure (.type "wrapper_descriptor") := by show builtinType _ = _; rw [builtinType_eq_fast]; kernel_rfl
theorem sub_md : isSubtype (.type "method_descriptor") (.type "method_descriptor") = pure true := by rw [isSubtype_type]; kernel_rfl
theorem sub_wd : isSubtype (.type "wrapper_descriptor") (.type "wrapper_descriptor") = pure true := by rw [isSubtype_type]; kernel_rfl

theorem own_pop : ".".intercalate ("list.pop".cutAt '.').dropLast = "list" := by decide +kernel
theorem own_init : ".".intercalate ("list.__init__".cutAt '.').dropLast = "list" := by decide +kernel
theorem own_len : ".".intercalate ("list.__len__".cutAt '.').dropLast = "list" := by decide +kernel

theorem get_pop {ox : Obj} {R : Result → Shared → Prop} (hx : h.get? x = some ox) (hc : ox.cls = .ref C) (L1 : Looks (model prog w) h (isSubtype (.ref C) (.type "list")) true)
    (hq : R (.ok (.ret (.ref h.objs.size))) ⟨h.push (bmObj "builtin_function_or_method" "list.pop" x), g, d, t, os⟩) :
    codeAny (model prog w) A (.call (.builtin "method_descriptor.__get__") ⟨[.builtin "list.pop", .ref x, .ref C], []⟩) R ⟨h, g, d, t, os⟩ := by
  obtain ⟨oc, odi, oda, osl⟩ := ox
  dsimp only at hc
  subst hc
  have L2 := L1
  rw [← own_pop] at L2
  have L4 : Looks (model prog w) h (isInstance (.builtin "list.pop") (.type "method_descriptor")) true := (Looks.of_pure ty_pop).andThen (Looks.of_pure sub_md)
  refine codeAny_call_builtin (id := "method_descriptor.__get__") md_plain md_entry ?_
  refine @check_slot (model prog w) _ _ _ "method_descriptor.__get__" "method_descriptor" "__get__" (.builtin "list.pop") [.ref x, .ref C] [] _ md_kind md_split L4 (md_args _ _ _) ?_
  unfold Builtin.«method_descriptor.__get__»
  repeat lk
  exact hq

theorem get_init {ox : Obj} {R : Result → Shared → Prop} (hx : h.get? x = some ox) (hc : ox.cls = .ref C) (L1 : Looks (model prog w) h (isSubtype (.ref C) (.type "list")) true)
    (hq : R (.ok (.ret (.ref h.objs.size))) ⟨h.push (bmObj "method-wrapper" "list.__init__" x), g, d, t, os⟩) :
    codeAny (model prog w) A (.call (.builtin "wrapper_descriptor.__get__") ⟨[.builtin "list.__init__", .ref x, .ref C], []⟩) R ⟨h, g, d, t, os⟩ := by
  obtain ⟨oc, odi, oda, osl⟩ := ox
  dsimp only at hc
  subst hc
  have L2 := L1
  rw [← own_init] at L2
  have L4 : Looks (model prog w) h (isInstance (.builtin "list.__init__") (.type "wrapper_descriptor")) true := (Looks.of_pure ty_init).andThen (Looks.of_pure sub_wd)
  refine codeAny_call_builtin (id := "wrapper_descriptor.__get__") wd_plain wd_entry ?_
  refine @check_slot (model prog w) _ _ _ "wrapper_descriptor.__get__" "wrapper_descriptor" "__get__" (.builtin "list.__init__") [.ref x, .ref C] [] _ wd_kind wd_split L4 (wd_args _ _ _) ?_
  unfold Builtin.«wrapper_descriptor.__get__»
  repeat lk
  exact hq

theorem get_len {ox : Obj} {R : Result → Shared → Prop} (hx : h.get? x = some ox) (hc : ox.cls = .ref C) (L1 : Looks (model prog w) h (isSubtype (.ref C) (.type "list")) true)
    (hq : R (.ok (.ret (.ref h.objs.size))) ⟨h.push (bmObj "method-wrapper" "list.__len__" x), g, d, t, os⟩) :
    codeAny (model prog w) A (.call (.builtin "wrapper_descriptor.__get__") ⟨[.builtin "list.__len__", .ref x, .ref C], []⟩) R ⟨h, g, d, t, os⟩ := by
  obtain ⟨oc, odi, oda, osl⟩ := ox
  dsimp only at hc
  subst hc
  have L2 := L1
  rw [← own_len] at L2
  have L4 : Looks (model prog w) h (isInstance (.builtin "list.__len__") (.type "wrapper_descriptor")) true := (Looks.of_pure ty_len).andThen (Looks.of_pure sub_wd)
  refine codeAny_call_builtin (id := "wrapper_descriptor.__get__") wd_plain wd_entry ?_
  refine @check_slot (model prog w) _ _ _ "wrapper_descriptor.__get__" "wrapper_descriptor" "__get__" (.builtin "list.__len__") [.ref x, .ref C] [] _ wd_kind wd_split L4 (wd_args _ _ _) ?_
  unfold Builtin.«wrapper_descriptor.__get__»
  repeat lk
  exact hq

/-- how an attribute of a type over list is bound to an object: from the value, what stands on the heap -/
def BoundBy (prog : Program) (w : World) (a gt : Value) (T id : String) : Prop :=
  typeOf a = pure gt ∧ (∃ gid, typeLookup gt "__get__" = pure (some (.builtin gid)) ∧
   ∀ {A : Around} {x C : Addr} {h : Heap} {g : Array GenState} {d : Drawn} {t : Nat} {os : OsState} {ox : Obj} {R : Result → Shared → Prop}, h.get? x = some ox → ox.cls = .ref C → Looks (model prog w) h (isSubtype (.ref C) (.type "list")) true →
    R (.ok (.ret (.ref h.objs.size))) ⟨h.push (bmObj T id x), g, d, t, os⟩ → codeAny (model prog w) A (.call (.builtin gid) ⟨[a, .ref x, .ref C], []⟩) R ⟨h, g, d, t, os⟩)

theorem bound_pop : BoundBy prog w (.builtin "list.pop") (.type "method_descriptor") "builtin_function_or_method" "list.pop" :=
  ⟨ty_pop, _, by rw [typeLookup_type, builtinLookup_eq_fast]; kernel_rfl, fun a b c d => get_pop a b c d⟩
theorem bound_init : BoundBy prog w (.builtin "list.__init__") (.type "wrapper_descriptor") "method-wrapper" "list.__init__" :=
  ⟨ty_init, _, by rw [typeLookup_type, builtinLookup_eq_fast]; kernel_rfl, fun a b c d => get_init a b c d⟩
theorem bound_len : BoundBy prog w (.builtin "list.__len__") (.type "wrapper_descriptor") "method-wrapper" "list.__len__" :=
  ⟨ty_len, _, by rw [typeLookup_type, builtinLookup_eq_fast]; kernel_rfl, fun a b c d => get_len a b c d⟩

theorem sup_ga {ox : Obj} {l₀ l : List Value} {a gt : Value} {T id : String} {tk : Tok} {Q : Fin → Shared → Prop} (BB : BoundBy prog w a gt T id) (hx : h.get? x = some ox) (hc : ox.cls = .ref C) (L1 : Looks (model prog w) h (isSubtype (.ref C) (.type "list")) true)
    (hso : h.get? so = some (ks_superObj D x C)) (hno : Looks (model prog w) h (opaqueClassAbove (.ref C)) none)
    (hC : Looks (model prog w) h (mroOf (.ref C)) l₀) (hl : (l₀.dropWhile (· != .ref D)).drop 1 = l) (X : K.In h)
    (hf : alongIn K name l = some (some a)) (hxC : x ≠ C) (hn : (name == ("__class__" : Str)) = false)
    (hq : Q (.done (.ret (.ref h.objs.size))) ⟨h.push (bmObj T id x), g, d, t, os⟩) :
    wpAny (model prog w) A (Builtin.«super.__getattribute__» ⟨[.ref so, .str name tk], []⟩) Q E ⟨h, g, d, t, os⟩ := by
  obtain ⟨hty, gid, hlk, hget⟩ := BB
  have hne : (Value.ref x == Value.ref C) = false := by simp [hxC]
  have hdt : (ks_superObj D x C).data = .fields #[.ref D, .ref x, .ref C] := rfl
  have f0 : (#[.ref D, .ref x, .ref C] : Array Value)[0]? = some (.ref D) := rfl
  have f1 : (#[.ref D, .ref x, .ref C] : Array Value)[1]? = some (.ref x) := rfl
  have f2 : (#[.ref D, .ref x, .ref C] : Array Value)[2]? = some (.ref C) := rfl
  unfold Builtin.«super.__getattribute__»
  repeat (first
    | (with_reducible refine wpAny_field hso hdt f0 ?_) | (with_reducible refine wpAny_field hso hdt f1 ?_) | (with_reducible refine wpAny_field hso hdt f2 ?_)
    | (with_reducible refine ks_wpAny_notOpaque hno ?_)
    | (with_reducible refine Looks.at hC ?_; rw [hl])
    | (refine ks_forIn_along X (fun _ _ => rfl) rfl ?_ hf)
    | rw [hn] | rw [hne] | rw [hty] | rw [hlk] | rw [Bool.or_false] | rw [if_neg Bool.false_ne_true]
    | wp_step
    | dsimp only)
  refine hget hx hc L1 ?_
  dsimp only
  repeat lk
  exact hq

theorem sup_getMethod {ox : Obj} {l₀ l : List Value} {a gt : Value} {T id : String} {pl : Sem Bool} {Q : Value × List Value → Shared → Prop} (BB : BoundBy prog w a gt T id) (hx : h.get? x = some ox) (hc : ox.cls = .ref C) (L1 : Looks (model prog w) h (isSubtype (.ref C) (.type "list")) true)
    (hso : h.get? so = some (ks_superObj D x C)) (hno : Looks (model prog w) h (opaqueClassAbove (.ref C)) none)
    (hC : Looks (model prog w) h (mroOf (.ref C)) l₀) (hl : (l₀.dropWhile (· != .ref D)).drop 1 = l) (X : K.In h)
    (hf : alongIn K name l = some (some a)) (hxC : x ≠ C) (hn : (name == ("__class__" : Str)) = false)
    (hq : Q (.ref h.objs.size, []) ⟨h.push (bmObj T id x), g, d, t + 1, os⟩) :
    wpAny (model prog w) A (getMethod (.ref so) name pl) Q E ⟨h, g, d, t, os⟩ := by
  have hlk := F.ks_slot_super_ga.lookup
  have hcan := F.ks_canon_super_ga
  have hT : ∀ t', (⟨h, g, d, t', os⟩ : Shared).TypeIs (.ref so) "super" := fun _ => ⟨_, hso, rfl⟩
  unfold getMethod
  refine wpAny_bind (wpAny_specialOf (hT _) hlk ?_)
  show wpAny _ _ (if (Manifest.canonical "super.__getattribute__" != "object.__getattribute__") = true then _ else _) _ _ _
  rw [if_pos hcan]
  unfold getAttr getAttrBy
  refine wpAny_bind (wpAny_bind (wpAny_mkText (wpAny_holding (wpAny_bind (wpAny_typeOf (hT _) (wpAny_bind (wpAny_of_eq hlk ?_)))))))
  show wpAny _ _ (getAttrByItsOwn (.ref so) (.str name t) (.type "super") (.builtin "super.__getattribute__") true false) _ _ _
  unfold getAttrByItsOwn hookBefore callGetattribute boundAndCalled
  refine wpAny_bind (wpAny_of_eq (show (if onTheHeap (.type "super") then typeLookup (.type "super") "__getattr__" else pure none) = pure none from rfl) ?_)
  refine wpAny_bind (wpAny_attempt (wpAny_holding ?_))
  show wpAny _ _ (bindSpecial (.builtin "super.__getattribute__") (.ref so) >>= _) _ _ _
  refine wpAny_bind (wpAny_of_eq (F.ks_slot_super_ga.bind _) ?_)
  refine wpAny_mono (Q := fun v s' => v = .ref h.objs.size ∧ s' = ⟨h.push (bmObj T id x), g, d, t + 1, os⟩) (E := fun _ _ => False)
    (wpAny_call_entry F.ks_slot_super_ga (hT _) F.ks_entry_super_ga (sup_ga BB hx hc L1 hso hno hC hl X hf hxC hn ⟨_, rfl, rfl, rfl⟩) (F.ks_gaArgs_super _ _)) (fun v s' hv => ?_) fun _ _ z => z.elim
  obtain ⟨rfl, rfl⟩ := hv
  exact wpAny_pure (wpAny_pure hq)

theorem sup_method {s : Shared} {ox : Obj} {od : Option Obj} {a gt : Value} {T id : String} {pl : Sem Bool} {Q : Value × List Value → Shared → Prop} (BB : BoundBy prog w a gt T id)
    (F : Fr h₀ L s.heap m) (X₀ : K.In h₀) (N : News h₀ L s.heap news) (hso : (so, ks_superObj D x C) ∈ news) (I : W.InstAt s.heap x ox C od) (ho : nsIn K cStatics "thirdparty.any" = some none)
    (hm : ks_superIn K C D name = some (some a)) (hl : mroIn K C (.type "list") = some true) (hn : (name == ("__class__" : Str)) = false)
    (hq : ∀ q h', Fr h₀ L h' m → News h₀ L h' ((q, bmObj T id x) :: news) → (∀ p ∈ news, p.1 < q) → Q (.ref q, []) { s with heap := h', toks := s.toks + 1 }) : wpAny (model prog w) A (getMethod (.ref so) name pl) Q E s := by
  have X : K.In s.heap := X₀.keeps F.keep
  obtain ⟨hh, g, d, t, os⟩ := s
  cases hc : clsIn K C with
  | none => unfold ks_superIn at hm; rw [hc] at hm; cases hm
  | some cd =>
    unfold ks_superIn at hm
    rw [hc] at hm
    refine sup_getMethod BB I.at_ I.cls (looks_mroIn X hl) (N _ hso).1 (looks_opaque X ho) (l₀ := cd.mro) ?_ rfl X hm (ks_ne X I hc) hn ?_
    · exact fun A Q E s k q => wpAny_bind ((looks_clsIn X hc) A _ E s k (wpAny_pure q))
    · obtain ⟨F', N', l'⟩ := ks_newsPush (s := ⟨hh, g, d, t, os⟩) (o := bmObj T id x) F N rfl (Heap.get?_push_at rfl rfl) (fun b o e => Heap.get?_push_of_some _ e)
      exact hq _ _ F' N' l'

theorem keeps_bm {M : Model} {q : Addr} {T id : String} (hT : (T == "builtin_function_or_method" || T == "method-wrapper") = true) (hT2 : (Value.type T != .type "method") = true) (h : Heap) (e : h.get? q = some (bmObj T id x)) :
    ∃ k, (k = Keeper.frame ∨ k = Keeper.machine ∨ k = Keeper.boundFrame) ∧ Looks M h (keeperOf (.ref q)) k := by
  refine ⟨.machine, .inr (.inl rfl), (Looks.ld (part := none) e).andThen ?_⟩
  dsimp only
  rw [if_pos hT2]
  have : (Value.type T == .type "builtin_function_or_method" || Value.type T == .type "method-wrapper") = true := by
    rcases Bool.or_eq_true_iff.mp hT with e | e <;> rw [beq_iff_eq.mp e] <;> simp
  rw [if_pos this]
  exact .now
end
end

section
open PySem PySem.W PyProof.Rows PySem.Calls PySem.Spec
set_option maxRecDepth 100000
set_option maxHeartbeats 400000
open Builtin Builtin.ObjectAttr Builtin.List
section
variable {prog : Program} {w : World} {M : Model} {A : Around} {E : Value → Shared → Prop} {K : Frag} {x C D dx q so L : Addr} {h₀ : Heap} {m : Str → Option Value} {news news' : List (Addr × Obj)} {name : Str} {v : Value} {s : Shared}
  {h : Heap} {g : Array GenState} {d : Drawn} {t : Nat} {os : OsState} {xs xs' : List Value} {n n' : Nat}

theorem upd_acc {f : Array Value → Array Value} {Q : Unit → Shared → Prop} (hs : h.get? x = some (accObj C dx xs n)) (e : Obj.mapSeq f (accObj C dx xs n) = accObj C dx xs' n') (hsz : xs'.length ≤ sizeLine)
    (hq : Q () ⟨h.update x (Obj.mapSeq f), g, d, t, os⟩) : wpAny M A (listUpdate (.ref x) f) Q E ⟨h, g, d, t, os⟩ := by
  show wpAny M A (updateSeq x f) Q E _
  unfold updateSeq
  refine wpAny_bind (wpAny_load hs (wpAny_bind (wpAny_update hs ?_)))
  have e' : (h.update x (Obj.mapSeq f)).get? x = some (accObj C dx xs' n') := by
    rw [← e]; exact Heap.get?_update_self _ hs (by rw [e]; rfl)
  refine wpAny_lookBehind e' ?_ hq
  exact pastItsLine_seq (by rw [List.size_toArray]; omega)

theorem mro_list_of {K : Frag} {M : Model} {h : Heap} (X : K.In h) {ox : Obj} {od : Option Obj} (I : W.InstAt h x ox C od) (hl : mroIn K C (.type "list") = some true) : Looks M h (isInstance (.ref x) (.type "list")) true := I.type.andThen (looks_mroIn X hl)

theorem lap_plain : plainId "list.append" = true := by decide +kernel
theorem lap_entry : entryFor table "list.append" = some Builtin.«list.append» := entryFor_of_tree (by kernel_rfl)
theorem lap_kind : builtinKind "list.append" = some .method := by decide +kernel
theorem lap_split : splitId "list.append" = some ("list", "append") := by decide +kernel

theorem push_acc (xs : List Value) (v : Value) (n : Nat) : Obj.mapSeq (·.push v) (accObj C dx xs n) = accObj C dx (xs ++ [v]) (n + 1) := by
  simp [Obj.mapSeq, accObj]

theorem acc_append {od : Option Obj} {Q : Value → Shared → Prop} (F : Fr h₀ L s.heap m) (X₀ : K.In h₀) (N : News h₀ L s.heap news) (I : W.InstAt s.heap x (accObj C dx xs n) C od) (hl : mroIn K C (.type "list") = some true)
    (U : Upd x (accObj C dx xs n) (accObj C dx (xs ++ [v]) (n + 1)) news news') (hsz : xs.length < sizeLine)
    (h : ∀ h', Fr h₀ L h' m → News h₀ L h' news' → Q .none { s with heap := h' }) : wpAny (model prog w) A (call (.builtin "list.append") [.ref x, v]) Q E s := by
  have X := X₀.keeps F.keep
  obtain ⟨hh, g, d, t, os⟩ := s
  dsimp only at *
  have L3 := mro_list_of (M := model prog w) X I hl
  have hs := I.at_
  obtain ⟨pre, post, rfl, rfl, a, b⟩ := U.split
  obtain ⟨U1, U2⟩ := news_upd (f := Obj.mapSeq (·.push v)) F N a b (push_acc xs v n) rfl
  refine wpAny_call (codeAny_call_builtin (id := "list.append") lap_plain lap_entry ?_)
  unfold checkBuiltinCall
  rw [lap_kind]
  dsimp only
  rw [lap_split]
  dsimp only
  have hz : (xs ++ [v]).length ≤ sizeLine := by rw [List.length_append]; exact hsz
  repeat (first | with_reducible refine upd_acc hs (push_acc xs v n) hz ?_ | lk)
  exact h _ U1 U2

theorem pop_acc' (xs : List Value) (v : Value) (n : Nat) : Obj.mapSeq (·.eraseIdxIfInBounds xs.length) (accObj C dx (xs ++ [v]) n) = accObj C dx xs (n + 1) := by
  have e : (xs ++ [v]).toArray.eraseIdxIfInBounds xs.length = xs.toArray := by
    unfold Array.eraseIdxIfInBounds
    rw [dif_pos (by simp)]
    apply Array.ext'
    rw [Array.toList_eraseIdx]
    simp [List.eraseIdx_append_of_length_le]
  simp [Obj.mapSeq, e]

theorem lpop_entry : entryFor table "list.pop" = some Builtin.«list.pop» := entryFor_of_tree (by kernel_rfl)
theorem lpop_plain : plainId "list.pop" = true := by decide +kernel

theorem chk_pop (y : Value) : Bind.checkArgs "list.pop" { machinery := Manifest.Machinery.positional, full := toString "_Accumulator" ++ toString "." ++ toString (Bind.lastOf "list.pop"), short := "pop", receiver := Manifest.Receiver.self, params := [{ name := "index", kind := Manifest.ParamKind.posOnly, required := false }] } { pos := [y] } = pure () := by kernel_rfl

theorem bm_pop {od odc : Option Obj} {cda : Option Addr} {cd : ClassData} {sl : Array (Option Value)} {Q : Value → Shared → Prop} (F : Fr h₀ L s.heap m) (X₀ : K.In h₀) (N : News h₀ L s.heap news) (hq : (q, bmObj "builtin_function_or_method" "list.pop" x) ∈ news) (I : W.InstAt s.heap x (accObj C dx (xs ++ [v]) n) C od)
    (hC : K.lookup C = some ⟨.type "type", cda, .cls cd, sl⟩) (hmro : cd.mro = [.ref C, .type "list", .type "object"]) (hqn : cd.qualname.toString = "_Accumulator")
    (U : Upd x (accObj C dx (xs ++ [v]) n) (accObj C dx xs (n + 1)) news news') (hsz : xs.length < sizeLine)
    (h : ∀ h', Fr h₀ L h' m → News h₀ L h' news' → Q v { s with heap := h' }) : wpAny (model prog w) A (call (.ref q) []) Q E s := by
  have X := X₀.keeps F.keep
  obtain ⟨hh, g, d, t, os⟩ := s
  dsimp only at *
  have hs := I.at_
  have hb := (N _ hq).1
  obtain ⟨pre, post, rfl, rfl, a, b⟩ := U.split
  obtain ⟨U1, U2⟩ := news_upd (f := Obj.mapSeq (·.eraseIdxIfInBounds xs.length)) F N a b (pop_acc' xs v n) rfl
  have hC1 := X _ _ hC
  have e4 : cd.mro.isEmpty = false := by rw [hmro]; rfl
  have e5 : cd.mro.contains (.type "module") = false := by rw [hmro]; simp
  refine wpAny_call (codeAny_of_tree ?_)
  show wpAny _ _ (callAny (.ref q) _) _ _ _
  repeat (first | ((with_reducible show wpAny _ _ (Bind.checkArgs _ _ _) _ _ _); rw [hqn]; refine wpAny_of_eq (chk_pop _) ?_) | rw [e4] | rw [e5] | rw [Bool.or_false] | rw [if_neg Bool.false_ne_true] | lk)
  refine ⟨plainId_quiet lpop_plain _, codeAny_builtin lpop_entry ?_⟩
  rw [Around.under_plainId lpop_plain]
  show wpAny _ _ (Builtin.«list.pop» ⟨[.ref x], []⟩) _ _ _
  have e8 : (xs ++ [v]).toArray.isEmpty = false := by simp [Array.isEmpty]
  have e9 : (seqIndex? (-1) (xs ++ [v]).toArray.size).bind (fun k => (xs ++ [v]).toArray[k]?.map (k, ·)) = some (xs.length, v) := by
    have : seqIndex? (-1) (xs ++ [v]).toArray.size = some xs.length := by
      have e : (if (-1 : Int) < 0 then -1 + ((xs ++ [v]).toArray.size : Int) else -1) = (xs.length : Int) := by
        rw [if_pos (by decide), List.size_toArray, List.length_append]; simp; omega
      unfold seqIndex?
      simp only [e]
      rw [if_pos (by rw [List.size_toArray, List.length_append]; simp; omega)]
      rfl
    rw [this]
    simp
  have hz : xs.length ≤ sizeLine := Nat.le_of_lt hsz
  repeat (first | with_reducible refine upd_acc hs (pop_acc' xs v n) hz ?_ | rw [e9] | rw [e8] | lk)
  exact h _ U1 U2
end
end

section
open PySem PySem.W PyProof.Rows PySem.Calls PySem.Spec
set_option maxRecDepth 100000
set_option maxHeartbeats 400000
open Builtin Builtin.ObjectAttr Builtin.List
section
variable {prog : Program} {w : World} {M : Model} {A : Around} {E : Value → Shared → Prop} {K : Frag} {x C D dx q so L : Addr} {h₀ : Heap} {m : Str → Option Value} {news news' : List (Addr × Obj)} {name : Str} {v : Value} {s : Shared}
  {h : Heap} {g : Array GenState} {d : Drawn} {t : Nat} {os : OsState} {xs xs' : List Value} {n n' : Nat}

theorem linit_entry : entryFor table "list.__init__" = some Builtin.«list.__init__» := entryFor_of_tree (by kernel_rfl)
theorem linit_plain : plainId "list.__init__" = true := by decide +kernel
theorem llen_entry : entryFor table "list.__len__" = some Builtin.«list.__len__» := entryFor_of_tree (by kernel_rfl)
theorem llen_plain : plainId "list.__len__" = true := by decide +kernel

theorem clear_acc (n : Nat) : Obj.mapSeq (fun _ => #[]) (accObj C dx [] n) = accObj C dx [] n := rfl

theorem bm_init {od : Option Obj} {Q : Value → Shared → Prop} (F : Fr h₀ L s.heap m) (N : News h₀ L s.heap news) (hq : (q, bmObj "method-wrapper" "list.__init__" x) ∈ news) (I : W.InstAt s.heap x (accObj C dx [] n) C od)
    (U : Upd x (accObj C dx [] n) (accObj C dx [] n) news news')
    (h : ∀ h', Fr h₀ L h' m → News h₀ L h' news' → Q .none { s with heap := h' }) : wpAny (model prog w) A (call (.ref q) []) Q E s := by
  obtain ⟨hh, g, d, t, os⟩ := s
  dsimp only at *
  have hs := I.at_
  have hb := (N _ hq).1
  obtain ⟨pre, post, rfl, rfl, a, b⟩ := U.split
  obtain ⟨U1, U2⟩ := news_upd (f := Obj.mapSeq (fun _ => #[])) F N a b (clear_acc n) rfl
  refine wpAny_call (codeAny_of_tree ?_)
  show wpAny _ _ (callAny (.ref q) _) _ _ _
  repeat lk
  refine ⟨plainId_quiet linit_plain _, codeAny_builtin linit_entry ?_⟩
  rw [Around.under_plainId linit_plain]
  show wpAny _ _ (Builtin.«list.__init__» ⟨[.ref x], []⟩) _ _ _
  have hz : ([] : List Value).length ≤ sizeLine := Nat.zero_le _
  repeat (first | with_reducible refine upd_acc hs (clear_acc n) hz ?_ | lk)
  exact h _ U1 U2

theorem bm_len {od : Option Obj} {Q : Value → Shared → Prop} (N : News h₀ L s.heap news) (hq : (q, bmObj "method-wrapper" "list.__len__" x) ∈ news) (I : W.InstAt s.heap x (accObj C dx xs n) C od)
    (h : Q (.int xs.length s.toks) { s with toks := s.toks + 1 }) : wpAny (model prog w) A (call (.ref q) []) Q E s := by
  obtain ⟨hh, g, d, t, os⟩ := s
  dsimp only at *
  have hs := I.at_
  have hb := (N _ hq).1
  refine wpAny_call (codeAny_of_tree ?_)
  show wpAny _ _ (callAny (.ref q) _) _ _ _
  repeat lk
  refine ⟨plainId_quiet llen_plain _, codeAny_builtin llen_entry ?_⟩
  rw [Around.under_plainId llen_plain]
  show wpAny _ _ (Builtin.«list.__len__» ⟨[.ref x], []⟩) _ _ _
  repeat lk
  exact h

theorem lgi_plain : plainId "list.__getitem__" = true := by decide +kernel
theorem lgi_entry : entryFor table "list.__getitem__" = some Builtin.«list.__getitem__» := entryFor_of_tree (by kernel_rfl)

theorem lgi_kind : builtinKind "list.__getitem__" = some .method := by decide +kernel
theorem lgi_split : splitId "list.__getitem__" = some ("list", "__getitem__") := by decide +kernel

theorem lgi_args (a b : Value) : argsOk "list.__getitem__" ⟨[a, b], []⟩ := by unfold argsOk; kernel_rfl
theorem check_meth {M : Model} {A : Around} {E : Value → Shared → Prop} {s : Shared} {i owner n : String} {self : Value} {rest : List Value} {kw : List (Str × Value)} {Q : Unit → Shared → Prop}
    (hk : builtinKind i = some .method) (hs : splitId i = some (owner, n)) (hi : Looks M s.heap (isInstance self (.type owner)) true) (ha : argsOk i ⟨self :: rest, kw⟩) (q : Q () s) :
    wpAny M A (checkBuiltinCall i ⟨self :: rest, kw⟩) Q E s := by
  simp only [checkBuiltinCall, hk, hs]
  refine wpAny_bind (hi.here ?_)
  simp only [Bool.not_true, Bool.false_eq_true, if_false]
  cases hsig : Manifest.signature? i with
  | none => exact wpAny_pure q
  | some sig =>
    simp only [argsOk, hsig] at ha
    have h2 : Bind.checkArgs i sig ⟨self :: rest, kw⟩ = pure () := ha
    show wpAny M A (Bind.checkArgs i sig ⟨self :: rest, kw⟩) Q E s
    rw [h2]; exact wpAny_pure q

theorem acc_item {od : Option Obj} {k : Int} {u : Tok} {Q : Value → Shared → Prop} (F : Fr h₀ L s.heap m) (X₀ : K.In h₀) (I : W.InstAt s.heap x (accObj C dx xs n) C od)
    (hg : findIn K (.ref C) "__getitem__" = some (some (.builtin "list.__getitem__"))) (hl : mroIn K C (.type "list") = some true) (hdq : mroIn K C (.type "collections.deque") = some false)
    (h0 : 0 ≤ k) (h1 : k < 2 ^ 63) (hv : xs[k.toNat]? = some v) (h : Q v s) : wpAny (model prog w) A (getItem (.ref x) (.int k u)) Q E s := by
  have X := X₀.keeps F.keep
  obtain ⟨hh, g, d, t, os⟩ := s
  dsimp only at *
  have hs := I.at_
  have L0 := I.type (M := model prog w)
  have L1 := looks_findIn (M := model prog w) X hg
  have L3 := mro_list_of (M := model prog w) X I hl
  have L5 := looks_mroIn (M := model prog w) X hdq
  unfold getItem sequenceKey callSpecial? specialOf
  have hb := (slot_list_getitem).bind (.ref x)
  repeat (first | with_reducible refine wpAny_call ?_ | rw [hb] | lk)
  refine codeAny_call_builtin (id := "list.__getitem__") lgi_plain lgi_entry ?_
  refine @check_meth (model prog w) _ _ _ "list.__getitem__" "list" "__getitem__" (.ref x) [.int k u] [] _ lgi_kind lgi_split L3 (lgi_args _ _) ?_
  show wpAny _ _ (Builtin.«list.__getitem__» ⟨[.ref x, .int k u], []⟩) _ _ _
  have hfit := fitsIndex_of h0 h1
  clear h1
  obtain ⟨j, rfl⟩ := Int.eq_ofNat_of_zero_le h0
  have hv' : xs.toArray[j]? = some v := by simpa using hv
  unfold Builtin.«list.__getitem__»
  repeat ((fail_if_success (with_reducible show wpAny _ _ (seqItemAt _ _) _ _ _)); (first | with_reducible refine wpAny_listSubscript_int hfit ?_ | lk))
  refine wpAny_seqItemAt hs rfl ?_
  rw [hv']
  repeat lk
  exact h

theorem callWith_bm {A : Around} {M : Model} {env : Env} {pos : Pos} {first : List Value} {T id : String} {Q : Value → Shared → Prop} (N : News h₀ L s.heap news) (hq : (q, bmObj T id x) ∈ news)
    (hT : (T == "builtin_function_or_method" || T == "method-wrapper") = true) (hT2 : (Value.type T != .type "method") = true)
    (h : wpAny M A (call (.ref q) (first ++ [])) Q E s) : wpAny M A (callWith pos (.ref q) first (backTo pos (starEach [] env)) []) Q E s :=
  callWith_of (P := fun h => h.get? q = some (bmObj T id x)) rfl (fun h e => keeps_bm hT hT2 h e) (evalArgs_nil3 ⟨(N _ hq).1, h⟩)
end
end

section
open PySem PySem.W PyProof.Rows PySem.Calls PySem.Spec
set_option maxRecDepth 100000
set_option maxHeartbeats 400000
open Builtin Builtin.ObjectAttr Builtin.List

/-- an object whose items stand written -/
def HasSeq (h : Heap) (l : Addr) (items : Array Value) : Prop := ∃ o n, h.get? l = some o ∧ o.data = .seq items n
theorem HasSeq.at {h h' : Heap} {l : Addr} {items : Array Value} (x : HasSeq h l items) (e : ∀ o, h.get? l = some o → h'.get? l = some o) : HasSeq h' l items := let ⟨o, n, a, b⟩ := x; ⟨o, n, e _ a, b⟩

section
variable {prog : Program} {w : World} {A : Around} {E : Value → Shared → Prop} {s : Shared}

theorem seq_next {it l : Addr} {i : Nat} {items : Array Value} {x : Value} {Q : Option Value → Shared → Prop} (hit : s.heap.IsListIter it l i)
    (hl : HasSeq s.heap l items) (hx : items[i]? = some x)
    (hQ : ∀ h', h'.IsListIter it l (i + 1) → Heap.SameBut it s.heap h' → Q (some x) { s with heap := h' }) :
    wpAny (model prog w) A (pyNext (.ref it)) Q E s := by
  obtain ⟨o, ho, hc, hd⟩ := id hit
  obtain ⟨ol, nl, hol, hdl⟩ := hl
  unfold pyNext
  refine wpAny_bind (wpAny_attempt (wpAny_callSpecial?_slot (name := Str.ofString "__next__") hit.typeIs slot_listiter_next
    (wpAny_call_entry slot_listiter_next hit.typeIs entry_listiter_next ?_ (args_listiter_next _))))
  show wpAny _ _ (field (.ref it) 0 >>= _) _ _ s
  refine wpAny_bind (wpAny_field ho hd (x := .ref l) rfl ?_)
  show wpAny _ _ (if (Value.ref l == Value.none) = true then _ else _) _ _ s
  rw [if_neg (show ¬ ((Value.ref l == Value.none) = true) from Bool.false_ne_true)]
  show wpAny _ _ (field (.ref it) 1 >>= _) _ _ s
  refine wpAny_bind (wpAny_field ho hd (x := .int i 0) rfl ?_)
  show wpAny _ _ (seqItems? (.ref l) >>= _) _ _ s
  refine wpAny_bind (wpAny_seqItems hol hdl ?_)
  simp only [Int.toNat_natCast, hx]
  refine wpAny_bind (wpAny_setField ho hd (by simp) (wpAny_pure ⟨x, rfl, wpAny_pure (hQ _ ?_ (Heap.SameBut.update ..))⟩))
  exact ⟨_, Heap.get?_update_self _ ho (Obj.isFreed_of_fields (Obj.data_mapFields hd _)), (Obj.cls_mapFields ..).trans hc, by
    rw [Obj.data_mapFields hd]; simp [rawInt]⟩

theorem seq_end {it l : Addr} {i : Nat} {items : Array Value} {Q : Option Value → Shared → Prop} (hh : A.handled = none)
    (hit : s.heap.IsListIter it l i) (hl : HasSeq s.heap l items) (hx : items[i]? = none)
    (hQ : ∀ h', Heap.ExtBut it s.heap h' → Q none { s with heap := h' }) : wpAny (model prog w) A (pyNext (.ref it)) Q E s := by
  obtain ⟨o, ho, hc, hd⟩ := id hit
  obtain ⟨ol, nl, hol, hdl⟩ := hl
  unfold pyNext
  refine wpAny_bind (wpAny_attempt (wpAny_callSpecial?_slot (name := Str.ofString "__next__") hit.typeIs slot_listiter_next
    (wpAny_call_entry slot_listiter_next hit.typeIs entry_listiter_next ?_ (args_listiter_next _))))
  show wpAny _ _ (field (.ref it) 0 >>= _) _ _ s
  refine wpAny_bind (wpAny_field ho hd (x := .ref l) rfl ?_)
  show wpAny _ _ (if (Value.ref l == Value.none) = true then _ else _) _ _ s
  rw [if_neg (show ¬ ((Value.ref l == Value.none) = true) from Bool.false_ne_true)]
  show wpAny _ _ (field (.ref it) 1 >>= _) _ _ s
  refine wpAny_bind (wpAny_field ho hd (x := .int i 0) rfl ?_)
  show wpAny _ _ (seqItems? (.ref l) >>= _) _ _ s
  refine wpAny_bind (wpAny_seqItems hol hdl ?_)
  simp only [Int.toNat_natCast, hx]
  refine wpAny_bind (wpAny_rule (wpAny_bind (wpAny_setField ho hd (by simp) ?_)))
  show wpAny _ _ (newExc (.type "StopIteration") [] >>= _) _ _ _
  refine wpAny_bind ?_
  simp only [newExc, newTuple]
  refine wpAny_bind (wpAny_newObj_type ?_ (by size_fits))
  refine wpAny_bind (m := firstArgMember _ _) (wpAny_of_eq (a := Value.none) (by first | rfl | (simp only [firstArgMember]; rfl)) ?_)
  refine wpAny_newObj_type ?_ (by size_fits)
  simp only [raiseNew]
  refine wpAny_bind (wpAny_handled ?_)
  rw [show A.in1.handled = none from hh]
  refine wpAny_bind (wpAny_pure (wpAny_throw ?_))
  refine wpAny_bind (wpAny_isInstance (T := "StopIteration") (b := true) ⟨_, Heap.get?_push_size _ rfl, rfl⟩ isSubtype_stop ?_)
  exact wpAny_pure (hQ _ (((Heap.SameBut.update ..).extBut.push _).push _))

/-- tuples of two texts -/
def PairAt (h : Heap) (v : Value) (p : Str × Str) : Prop := ∃ T ta tb, v = .ref T ∧ h.IsTuple T #[.str p.1 ta, .str p.2 tb]
def PairsAt (h : Heap) : List Value → List (Str × Str) → Prop
  | [], [] => True
  | v :: vs, p :: ps => PairAt h v p ∧ PairsAt h vs ps
  | _, _ => False
theorem PairAt.keeps {h h' : Heap} {v : Value} {p : Str × Str} (x : PairAt h v p) (k : ∀ T o, v = .ref T → h.get? T = some o → h'.get? T = some o) : PairAt h' v p := by
  obtain ⟨T, ta, tb, e, o, ho, r⟩ := x
  exact ⟨T, ta, tb, e, o, k T o e ho, r⟩
theorem PairsAt.keeps {h h' : Heap} : ∀ {vs : List Value} {ps : List (Str × Str)}, PairsAt h vs ps → (∀ T o, .ref T ∈ vs → h.get? T = some o → h'.get? T = some o) → PairsAt h' vs ps
  | [], [], _, _ => trivial
  | v :: vs, p :: ps, x, k => ⟨x.1.keeps fun T o e => k T o (by rw [e]; exact .head _), PairsAt.keeps x.2 fun T o m => k T o (.tail _ m)⟩
  | [], _ :: _, x, _ => x.elim
  | _ :: _, [], x, _ => x.elim
theorem PairsAt.length {h : Heap} : ∀ {vs : List Value} {ps : List (Str × Str)}, PairsAt h vs ps → vs.length = ps.length
  | [], [], _ => rfl
  | _ :: _, _ :: _, x => by rw [List.length_cons, List.length_cons, PairsAt.length x.2]
  | [], _ :: _, x => x.elim
  | _ :: _, [], x => x.elim
theorem PairsAt.get {h : Heap} : ∀ {vs : List Value} {ps : List (Str × Str)}, PairsAt h vs ps → ∀ {i : Nat} {v : Value}, vs[i]? = some v → ∃ p, ps[i]? = some p ∧ PairAt h v p
  | [], [], _, i, v, e => by simp at e
  | a :: vs, p :: ps, x, 0, v, e => by cases e; exact ⟨p, rfl, x.1⟩
  | a :: vs, p :: ps, x, i + 1, v, e => by simpa using PairsAt.get x.2 (i := i) (by simpa using e)
  | [], _ :: _, x, _, _, _ => x.elim
  | _ :: _, [], x, _, _, _ => x.elim

theorem lte_lt {n : Nat} {xs : List Value} (h : n < xs.length) : xs.toArray[n]? = some xs[n] := by simp [h]

/-- the walk over such a list's items -/
theorem pairs_walks (hh : A.handled = none) (I ax : Addr) (hne : ax ≠ I) (xs : List Value) (ps : List (Str × Str)) (tas : List Addr) (hI : I ∉ tas) (htas : ∀ T, .ref T ∈ xs → T ∈ tas) :
    WalksU prog w A I (I :: ax :: tas) [I] xs.length (fun i vals => ∃ p ta tb, ps[i]? = some p ∧ vals = #[.str p.1 ta, .str p.2 tb])
      (fun i h => h.IsListIter I ax i ∧ HasSeq h ax xs.toArray ∧ PairsAt h xs ps)
      (fun i T h => T ∈ tas ∧ h.IsListIter I ax (i + 1) ∧ HasSeq h ax xs.toArray ∧ PairsAt h xs ps) where
  sub := fun b hb => by simp at hb; simp [hb]
  frame := fun _ _ _ st hk => ⟨st.1.at fun o e => hk I (by simp) o e, st.2.1.at fun o e => hk ax (by simp) o e, st.2.2.keeps fun T o m e => hk T (by simp [htas T m]) o e⟩
  item := fun i s Q E hi st hQ => by
    refine seq_next st.1 st.2.1 (lte_lt hi) fun h' hit' hs' => ?_
    obtain ⟨p, hp, T, ta, tb, e, hT⟩ := st.2.2.get (i := i) (v := xs[i]) (by simp [hi])
    rw [e]
    have hTm : T ∈ tas := htas T (by rw [← e]; exact List.getElem_mem hi)
    have hTI : T ≠ I := fun q => hI (q ▸ hTm)
    have k : ∀ T' o, Value.ref T' ∈ xs → s.heap.get? T' = some o → h'.get? T' = some o := fun T' o m e => hs'.extBut T' o (fun q => hI (q ▸ htas T' m)) e
    exact hQ T _ h' s.toks ⟨p, ta, tb, hp, rfl⟩ (let ⟨o, ho, r⟩ := hT; ⟨o, hs'.extBut _ _ hTI ho, r⟩) ⟨hTm, hit', st.2.1.at fun o e => hs'.extBut _ _ hne e, st.2.2.keeps k⟩
      fun b o hb e => hs'.extBut b o (fun h => hb (by simp [h])) e
  go := fun elts k pos i T s Q E hm hQ => by
    obtain ⟨o, ho, hc, hd⟩ := hm.2.1
    obtain ⟨oc, odi, oda, osl⟩ := o
    dsimp only at hc hd
    subst hc hd
    unfold letOwnedTupleGo
    refine wpAny_bind (wpAny_load ho ?_)
    exact wpAny_pure (hQ _ hm.2 fun _ _ _ e => e)
  apart := fun i T h hm hw => hI (by simp at hw; rw [← hw]; exact hm.1)
  done := fun s Q E st hQ => seq_end hh st.1 st.2.1 (by simp) fun h' he' => hQ h' s.toks fun b o hb e => he' b o (fun h => hb (by simp [h])) e
  self := fun _ _ _ _ st hQ => wpAny_pyIter_listiter st.1 hQ
end
end

section
open PySem PySem.W PyProof.Rows PySem.Calls PySem.Spec
set_option maxRecDepth 100000
set_option maxHeartbeats 400000
open Builtin Builtin.ObjectAttr Builtin.List

/-- a code object and its table of codes -/
def TabIn (h : Heap) (c P : Addr) (tp : Array Value) : Prop := h.IsCode c P tp ∧ h.TableAt c P tp
theorem TabIn.keeps {h h' : Heap} {c P : Addr} {tp : Array Value} (x : TabIn h c P tp) (k : ∀ b o, h.get? b = some o → h'.get? b = some o) : TabIn h' c P tp := ⟨x.1.keeps k, x.2.keeps k⟩
theorem TabIn.at_ {h : Heap} {c P : Addr} {tp : Array Value} (x : TabIn h c P tp) : h.get? P = some (X.tableObj tp) := x.2.2

section
variable {M : Model} {A : Around} {E : Value → Shared → Prop} {s : Shared}
theorem gen_code {env : Env} {c P : Addr} {tp : Array Value} {pos : Pos} {qualname : Str} {scope : Scope} {Q : Value → Shared → Prop} (hc : env.code = .ref c) (T : TabIn s.heap c P tp)
    (hQ : ∀ code h' tk tp', Heap.ExtBut P s.heap h' → TabIn h' c P tp' → s.heap.objs.size ≤ h'.objs.size → Q code { s with heap := h', toks := tk }) :
    wpAny M A (genexprCode env pos qualname scope) Q E s := by
  cases hf : codeAmong pos tp.toList with
  | some c' => exact wpAny_genexprCode_hit hc T.1 hf (hQ c' s.heap s.toks tp (Heap.ExtBut.refl _ _) T (Nat.le_refl _))
  | none => exact wpAny_genexprCodeX hc T.1 T.2 hf fun c' h' tk hx hge hlt hcode _ ht _ => hQ _ h' tk _ hx ⟨hcode, ht⟩ (Nat.le_trans hge (Nat.le_of_lt hlt))
end

theorem news_after {h₀ h h' : Heap} {L P : Addr} {o o' : Obj} {news news' : List (Addr × Obj)} (N : News h₀ L h news) (U : Upd P o o' news news') (k : ∀ b x, b ≠ P → h.get? b = some x → h'.get? b = some x) (ht : h'.get? P = some o') : News h₀ L h' news' := by
  obtain ⟨pre, post, rfl, rfl, a, b⟩ := U.split
  have D := N (P, o) (by simp)
  intro p hp
  rcases List.mem_append.mp hp with q | q
  · have P' := N p (List.mem_append_left _ q); exact ⟨k _ _ (a p q) P'.1, P'.2⟩
  · rcases List.mem_cons.mp q with rfl | q
    · exact ⟨ht, D.2⟩
    · have P' := N p (List.mem_append_right _ (.tail _ q)); exact ⟨k _ _ (b p q) P'.1, P'.2⟩
theorem fr_after {h₀ h h' : Heap} {L P : Addr} {m : Str → Option Value} (F : Fr h₀ L h m) (hL : P ≠ L) (hP : h₀.get? P = none) (k : ∀ b x, b ≠ P → h.get? b = some x → h'.get? b = some x) : Fr h₀ L h' m :=
  ⟨F.ns.at' fun o e => k _ _ (Ne.symm hL) e, fun b o e => k b o (fun q => by rw [q, hP] at e; cases e) (F.keep b o e), F.above⟩

section
variable {prog : Program} {w : World} {A : Around} {E : Value → Shared → Prop} {s : Shared} {K : Frag} {x C : Addr}
theorem acc_iter {h₀ : Heap} {L : Addr} {m : Str → Option Value} {ox : Obj} {od : Option Obj} {Q : Value → Shared → Prop} (F : Fr h₀ L s.heap m) (X₀ : K.In h₀) (I : W.InstAt s.heap x ox C od)
    (hi : findIn K (.ref C) "__iter__" = some (some (.builtin "list.__iter__"))) (hl : mroIn K C (.type "list") = some true)
    (h : Q (.ref s.heap.objs.size) { s with heap := s.heap.push { cls := .type "list_iterator", data := .fields #[.ref x, .int 0 0] } }) : wpAny (model prog w) A (pyIter (.ref x)) Q E s := by
  have X := X₀.keeps F.keep
  obtain ⟨hh, g, d, t, os⟩ := s
  dsimp only at *
  have hs := I.at_
  have L0 := I.type (M := model prog w)
  have L1 := looks_findIn (M := model prog w) X hi
  have L3 := mro_list_of (M := model prog w) X I hl
  have hb := slot_list_iter.bind (.ref x)
  unfold pyIter specialOf
  repeat (first | with_reducible refine wpAny_call ?_ | rw [hb] | lk)
  have fin : ∀ (Q' : Value → Shared → Prop), Q' (.ref hh.objs.size) ⟨hh.push { cls := .type "list_iterator", data := .fields #[.ref x, .int 0 0] }, g, d, t, os⟩ →
      codeAny (model prog w) A (.call (.builtin "list.__iter__") ⟨[.ref x], []⟩) (fun r s' => match r with | .ok (.ret v) => Q' v s' | .ok _ => False | .error e => E e s') ⟨hh, g, d, t, os⟩ := by
    intro Q' hq
    refine codeAny_call_builtin (id := "list.__iter__") (by decide +kernel) entry_list_iter ?_
    refine @check_slot (model prog w) _ _ _ "list.__iter__" "list" "__iter__" (.ref x) [] [] _ (by decide +kernel) (by decide +kernel) L3 (args_list_iter _) ?_
    show wpAny _ _ (do ret (← newFields "list_iterator" [.ref x, rawInt 0])) _ _ _
    exact wpAny_bind (wpAny_newObj_type (wpAny_pure hq))
  have L9 : Looks (model prog w) (hh.push { cls := .type "list_iterator", data := .fields #[.ref x, .int 0 0] }) (typeOf (.ref hh.objs.size)) (.type "list_iterator") := (Looks.ld (Heap.get?_push_size _ rfl)).andThen .now
  have L10 : Looks (model prog w) (hh.push { cls := .type "list_iterator", data := .fields #[.ref x, .int 0 0] }) (typeLookup (.type "list_iterator") "__next__") (some (.builtin "list_iterator.__next__")) := Looks.of_pure slot_listiter_next.lookup
  split
  · repeat (first | with_reducible refine wpAny_call ?_ | lk)
    refine fin _ ?_
    repeat lk
    exact h
  · repeat (first | with_reducible refine wpAny_call ?_ | with_reducible refine wpAny_tryCatch ?_ | lk)
    refine fin _ ?_
    repeat lk
    exact h

theorem walks_imp {I : Addr} {fp wr : List Addr} {G : Array GenState → Array GenState → Prop} {n : Nat} {P P' : Nat → Value → Prop} {St : Nat → Shared → Prop} (W : WalksS prog w A I fp wr G n P St) (h : ∀ i v, i < n → P i v → P' i v) : WalksS prog w A I fp wr G n P' St :=
  ⟨W.sub, W.grefl, W.gtrans, W.frame, fun i s Q E hi st hQ => W.item i s Q E hi st fun v s' hv => hQ v s' (h i v hi hv), W.done, W.self⟩

theorem passing_all (n : Nat) : passing (fun _ => true) n 0 = List.range n := by simp [passing]

/-- a generator over a list of pairs that an object over list holds -/
theorem gen_pairs {h₀ : Heap} {L c P dx : Addr} {m mg mb : Str → Option Value} {news : List (Addr × Obj)} {p : Program} {loose : List Str} {mean : ExcName → Option Value} {xs : List Value} {n k : Nat} {es : List DictEntry} {ps : List (Str × Str)} {tp : Array Value}
    {name : Str} {scope gscope : Scope} {fa : Addr} {elt : Expr} {xa xb slf : Str} {p0 pa pb pt pos : Pos} {kt : Nat} {Fv : Nat → Value → Prop} {Q : Value → Shared → Prop}
    (F : Fr h₀ L s.heap m) (X₀ : K.In h₀) (N : News h₀ L s.heap news) (T : Top p loose mean mg mb h₀) (hx : (x, accObj C dx xs n) ∈ news) (hd : (dx, dictOf es k) ∈ news) (hP : (P, X.tableObj tp) ∈ news)
    (TI : TabIn s.heap c P tp) (PA : PairsAt s.heap xs ps) (G : AllBare s.gens)
    (hi : findIn K (.ref C) "__iter__" = some (some (.builtin "list.__iter__"))) (hl : mroIn K C (.type "list") = some true)
    (hm : m slf = some (.ref x)) (hh : A.handled = none) (hroom : A.depth < recursionLimit)
    (hkf : scope.kind = .function) (hself : (envOf name scope L fa (.ref c)).kindOf slf = some .local) (hdb : (slf == ("__debug__" : Str)) = false)
    (hco : gscope.isCoroutine = false) (hclos : closureFor gscope (envOf name scope L fa (.ref c)) = pure []) (hcell : ∀ y ∈ gscope.names, y.2 ≠ .cell) (h0 : gscope.names.lookup (".0" : Str) = some NameKind.local)
    (hxa : gscope.names.lookup xa = some .local) (hxb : gscope.names.lookup xb = some .local) (hab : xa ≠ xb) (hkind : gscope.kind = .function)
    (hel : ∀ (Ca : Addr) (code : Value) (A' : Around) (E' : Value → Shared → Prop) (i : Nat) (q : Str × Str) (ta tb : Tok) (t : Shared) (m₂ : Str → Option Value), A'.handled = none → A'.depth ≤ A.depth + 1 → A'.units ≤ A.units + 8 → ps[i]? = some q → Fr h₀ Ca t.heap m₂ →
      m₂ xa = some (.str q.1 ta) → m₂ xb = some (.str q.2 tb) → wpAny (model prog w) A' (eval elt (genEnv gscope [] Ca code builtinsNs (envOf name scope L fa (.ref c)))) (fun y s₃ => Fv i y ∧ Keeps t s₃) E' t)
    (hQ : ∀ a s' tp', TabIn s'.heap c P tp' → (∀ b o, b ≠ P → s.heap.get? b = some o → s'.heap.get? b = some o) → AllBare s'.gens → s'.os = s.os → s.heap.objs.size ≤ s'.heap.objs.size →
      Gen prog w A (s.heap.objs.size - 1) a xs.length Fv s' → Q (.ref a) s')
    (hs : ∀ v, genFold (.Name slf p0) (envOf name scope L fa (.ref c)) v = pure v) :
    wpAny (model prog w) A (eval (.GeneratorExp elt [⟨.Tuple [.Name xa pa, .Name xb pb] kt pt, .Name slf p0, [], 0⟩] gscope pos) (envOf name scope L fa (.ref c))) Q E s := by
  have I := instL N hx hd
  have hPL : P ≠ L := (N _ hP).2.1
  have hP0 : h₀.get? P = none := (N _ hP).2.2
  have hxlt : x < s.heap.objs.size := Heap.lt_size (N _ hx).1
  have hLlt : L < s.heap.objs.size := F.ns.lt
  have hPlt : P < s.heap.objs.size := Heap.lt_size (N _ hP).1
  refine wpAny_GeneratorExp_walksQTD hh hco hclos hcell h0 hxa hxb hab hkind hroom (ld F hm ?_ hkf hself hdb) hs
  refine acc_iter F X₀ I hi hl ⟨(T.nolimit.keeps F.keep).push _, ?_⟩
  have TI1 : TabIn (s.heap.push { cls := .type "list_iterator", data := .fields #[.ref x, .int 0 0] }) c P tp := TI.keeps fun b o e => Heap.get?_push_of_some _ e
  refine gen_code (c := c) (P := P) (tp := tp) rfl TI1 fun code h₃ tk₃ tp' hx₃ TI₃ hsz₃ => ?_
  have kp : ∀ b o, b ≠ P → s.heap.get? b = some o → h₃.get? b = some o := fun b o hb e => hx₃ b o hb (Heap.get?_push_of_some _ e)
  have F₃ : Fr h₀ L h₃ m := fr_after F hPL hP0 kp
  have T₃ := T.keeps F₃.keep
  obtain ⟨bm, ob, hb1, hb2, hb3, hb4, hb5, hb6⟩ := T₃.bmain
  refine wpAny_builtinsFor T₃.g hb1 hb2 hb3 hb4 hb5 hb6 ?_
  have hsz : s.heap.objs.size < h₃.objs.size := by
    have : (s.heap.push { cls := .type "list_iterator", data := .fields #[.ref x, .int 0 0] }).objs.size ≤ h₃.objs.size := hsz₃
    rw [Heap.size_push] at this; exact this
  have hIP : s.heap.objs.size ≠ P := Nat.ne_of_gt hPlt
  have hIit : h₃.IsListIter s.heap.objs.size x 0 := ⟨_, hx₃ _ _ hIP (Heap.get?_push_size _ rfl), rfl, rfl⟩
  have hxP : x ≠ P := fun q => by
    have e1 := (N _ hx).1; have e2 := (N _ hP).1
    dsimp only at e1 e2
    rw [q] at e1; rw [e1] at e2; cases e2
  have hseq : HasSeq h₃ x xs.toArray := ⟨_, _, kp _ _ hxP (N _ hx).1, rfl⟩
  have tupP : ∀ T o, .ref T ∈ xs → s.heap.get? T = some o → T ≠ P := by
    intro T o hT e q
    obtain ⟨i, hi', e'⟩ := List.getElem_of_mem hT
    obtain ⟨pq, _, T', ta, tb, er, o', ho', hc', _⟩ := PA.get (i := i) (v := .ref T) (by rw [List.getElem?_eq_getElem hi', e'])
    cases er
    rw [q, TI.at_] at ho'
    cases ho'
    cases hc'
  have hpairs : PairsAt h₃ xs ps := PA.keeps fun T o hT e => kp T o (tupP T o hT e) e
  have tlt : ∀ T, .ref T ∈ xs → T < s.heap.objs.size := by
    intro T hT
    obtain ⟨i, hi', e'⟩ := List.getElem_of_mem hT
    obtain ⟨pq, _, T', ta, tb, er, o', ho', _⟩ := PA.get (i := i) (v := .ref T) (by rw [List.getElem?_eq_getElem hi', e'])
    cases er
    exact Heap.lt_size ho'
  have W : ∀ A' : Around, A'.handled = none → _ := fun A' hA => pairs_walks (prog := prog) (w := w) (A := A') hA s.heap.objs.size x (Nat.ne_of_lt hxlt) xs ps (List.range s.heap.objs.size) (fun h => Nat.lt_irrefl _ (List.mem_range.mp h)) (fun T hT => List.mem_range.mpr (tlt T hT))
  refine ⟨s.heap.objs.size, _, _, _, _, _, _, (fun _ => true), Fv, rfl, W, ?_, ⟨hIit, hseq, hpairs⟩, ?_, T₃.nolimit, ?_, ?_, ?_⟩
  · rintro i vals ⟨q, ta, tb, _, rfl⟩; exact ⟨_, _, rfl⟩
  · intro b hb
    rcases List.mem_cons.mp hb with rfl | hb
    · exact hsz
    · rcases List.mem_cons.mp hb with rfl | hb
      · exact Nat.lt_trans hxlt hsz
      · exact Nat.lt_trans (List.mem_range.mp hb) hsz
  · intro hc
    have : cStatics < s.heap.objs.size := let ⟨_, hn, _⟩ := (T.nolimit.keeps F.keep); hn.lt
    rw [List.mem_singleton.mp hc] at this
    exact Nat.lt_irrefl _ this
  · intro href hhref
    have frm : ∀ (t : Shared) m₂, t.heap.Ns h₃.objs.size m₂ → (∀ b ∈ List.range h₃.objs.size, b ∉ [s.heap.objs.size] → ∀ o, href.get? b = some o → t.heap.get? b = some o) → Fr h₀ h₃.objs.size t.heap m₂ := fun t m₂ hn hkp =>
      ⟨hn, fun b o e => hkp b (List.mem_range.mpr (Heap.lt_size (F₃.keep b o e))) (fun hm => by
          have := Heap.lt_size (F.keep b o e)
          rw [List.mem_singleton.mp hm] at this
          exact Nat.lt_irrefl _ this) o (hhref b o (F₃.keep b o e)), Nat.le_trans F₃.above (Nat.le_of_lt (Nat.lt_trans hLlt hsz))⟩
    refine ⟨fun A' E' i va vb t m₂ _ _ _ _ _ _ _ _ => wpAny_pure ⟨rfl, t.heap, t.toks, rfl, fun _ _ e => e⟩, fun A' E' i va vb t m₂ hA hD hU hPt _ hn hma hmb hkp => ?_⟩
    obtain ⟨q, ta, tb, hq, ev⟩ := hPt
    have e1 : va = .str q.1 ta ∧ vb = .str q.2 tb := by simpa using ev
    rw [e1.1] at hma
    rw [e1.2] at hmb
    exact hel _ code A' E' i q ta tb t m₂ hA hD hU hq (frm t m₂ hn hkp) hma hmb
  · intro a h₅ tk gs hgb hag hsz₅ hk₅ WS hat
    refine hQ a _ tp' (TI₃.keeps hk₅) (fun b o hb e => hk₅ b o (kp b o hb e)) (G.push hgb) rfl (Nat.le_of_lt (Nat.lt_trans hsz (by show h₃.objs.size < h₅.objs.size; rw [hsz₅]; exact Nat.lt_succ_of_lt hag))) ?_
    have hag' : h₃.objs.size < a := hag
    have e0 : (passing (fun _ => true) xs.length 0).length = xs.length := by rw [passing_all, List.length_range]
    have WS' := WS
    rw [e0] at WS'
    refine ⟨_, _, _, _, walks_imp (P' := Fv) WS' (fun i v hi hv => ?_), hat, (fun i s' st => st.1.typeIs), List.mem_cons_self, ?_, ?_⟩
    · obtain ⟨i', h1, h2⟩ := hv
      rw [passing_all, List.getElem?_range hi] at h1
      cases h1
      exact h2
    · intro b hb
      show b < h₅.objs.size
      rw [hsz₅]
      rcases List.mem_cons.mp hb with rfl | hb
      · exact Nat.lt_succ_self _
      · rcases List.mem_cons.mp hb with rfl | hb
        · exact Nat.lt_succ_of_lt hag
        · exact Nat.lt_succ_of_lt (Nat.lt_trans (List.mem_range.mp hb) hag)
    · intro b hb
      have h1 : s.heap.objs.size - 1 < s.heap.objs.size := Nat.sub_lt (Nat.lt_of_le_of_lt (Nat.zero_le _) hPlt) (Nat.one_pos)
      rcases List.mem_cons.mp hb with rfl | hb
      · exact Nat.lt_trans h1 hsz
      · rw [List.mem_singleton.mp hb]; exact h1
end
end

section
open PySem PySem.W PyProof.Rows PySem.Calls PySem.Spec
set_option maxRecDepth 100000
set_option maxHeartbeats 400000
open Builtin Builtin.ObjectAttr Builtin.List
section
variable {prog : Program} {w : World} {A : Around} {E : Value → Shared → Prop} {s : Shared}

/-- the same walk, one place later -/
theorem walks_later {I : Addr} {fp wr : List Addr} {G : Array GenState → Array GenState → Prop} {n : Nat} {P : Nat → Value → Prop} {St : Nat → Shared → Prop} (W : WalksS prog w A I fp wr G n P St) :
    WalksS prog w A I fp wr G (n + 1) (fun i v => ∃ j, i = j + 1 ∧ P j v) (fun i s => ∃ j, i = j + 1 ∧ St j s) where
  sub := W.sub
  grefl := W.grefl
  gtrans := W.gtrans
  frame := fun i s h' tk ⟨j, e, st⟩ ht hk => ⟨j, e, W.frame j s h' tk st ht hk⟩
  item := fun i s Q E hi st hQ => by
    obtain ⟨j, rfl, st⟩ := st
    exact W.item j s Q E (Nat.lt_of_succ_lt_succ hi) st fun v s' hv hst hm => hQ v s' ⟨j, rfl, hv⟩ ⟨j + 1, rfl, hst⟩ hm
  done := fun s Q E st hQ => by
    obtain ⟨j, e, st⟩ := st
    cases e
    exact W.done s Q E st hQ
  self := fun i s Q E st hQ => by
    obtain ⟨j, rfl, st⟩ := st
    exact W.self j s Q E st hQ

def withStart (i0 : Int) (val : Nat → Int) : Nat → Int
  | 0 => i0
  | j + 1 => val j
theorem preSum_start (i0 : Int) (val : Nat → Int) : ∀ n, preSum (withStart i0 val) (n + 1) = i0 + preSum val n
  | 0 => by simp [preSum, withStart]
  | n + 1 => by
    rw [preSum, preSum_start i0 val n]
    show i0 + preSum val n + val n = i0 + (preSum val n + val n)
    (first | lia | omega)

theorem args_sum2 (a b : Value) : argsOk "sum" ⟨[a, b], []⟩ := by unfold argsOk; kernel_rfl

theorem sum_start {a Kb : Addr} {n : Nat} {Fv : Nat → Value → Prop} {i0 : Int} {t0 : Tok} {Q : Value → Shared → Prop} (G : AllBare s.gens) (X : Gen prog w A Kb a n Fv s) (val : Nat → Int) (hval : ∀ j v, Fv j v → ∃ t, v = .int (val j) t)
    (hi0 : InLong i0) (hfit : ∀ j, j < n → InLong (val j) ∧ InLong (i0 + preSum val (j + 1)))
    (hQ : ∀ s' t', AllBare s'.gens → s'.os = s.os → (∀ b o, b ≤ Kb → s.heap.get? b = some o → s'.heap.get? b = some o) → Q (.int (i0 + preSum val n) t') s') :
    wpAny (model prog w) A (call (.builtin "sum") [.ref a, .int i0 t0]) Q E s := by
  obtain ⟨fp, wr, g, St, W, hst, _, _, hfp, hwr⟩ := X
  have W := W.in4_1
  refine call_function_tree F.kind_sum F.plain_sum F.entry_sum (args_sum2 _ _) ?_
  unfold Builtin.«sum»
  simp only [List.length_cons, List.length_nil]
  rw [if_neg (by decide)]
  refine wpAny_bind (wpAny_of_eq (show Builtin.Builtins.bindParams "sum" ["start"] 0 ⟨[.int i0 t0], []⟩ = pure [some (.int i0 t0)] from rfl) ?_)
  refine wpAny_bind (W.self 0 _ _ _ hst ?_)
  have c1 : (decide (-(2 ^ 63) ≤ i0) && decide (i0 < 2 ^ 63)) = true := by
    simp only [Bool.and_eq_true, decide_eq_true_eq]; exact hi0
  show wpAny _ _ (if (decide (-(2 ^ 63) ≤ i0) && decide (i0 < 2 ^ 63)) = true then _ else _) _ _ _
  rw [if_pos c1]
  refine wpAny_bind (wpAny_rule (wpAny_bind (wpAny_mkInt (wpAny_bind (wpAny_pure ?_)))))
  simp only [List.forIn_cons, List.forIn_nil]
  refine wpAny_bind (wpAny_bind (wpAny_bind (wpAny_isInstance (T := "int") (b := false) (typeIs_int _ _ _) PySem.sub_int_str ?_)))
  simp only [Bool.false_eq_true, if_false]
  refine wpAny_pure (wpAny_bind (wpAny_bind (wpAny_isInstance (T := "int") (b := false) (typeIs_int _ _ _) PySem.sub_int_bytes ?_)))
  simp only [Bool.false_eq_true, if_false]
  refine wpAny_pure (wpAny_bind (wpAny_bind (wpAny_isInstance (T := "int") (b := false) (typeIs_int _ _ _) PySem.sub_int_bytearray ?_)))
  simp only [Bool.false_eq_true, if_false]
  refine wpAny_pure (wpAny_pure ?_)
  refine wpAny_bind (wpAny_newObj_type ?_)
  have hSf : s.heap.objs.size ∉ fp := fun hm => Nat.lt_irrefl _ (hfp _ hm)
  have st1 := W.frame 0 s (s.heap.push { cls := .type "list", data := .seq #[.int i0 s.toks] }) (s.toks + 1) hst (Nat.le_succ _) fun b _ o e => Heap.get?_push_of_some _ e
  refine wpAny_pure ⟨plainId_quiet F.plain_sum_loop _, codeAny_sum_loopS (walks_later W) (withStart i0 val) ?_ ?_ s.heap.objs.size hSf n 1 _ s.toks 0 rfl (Nat.succ_le_succ (Nat.zero_le _)) ⟨0, rfl, st1⟩ ?_ fun s' t' hm => ?_⟩
  · rintro i v ⟨j, rfl, hv⟩; exact hval j v hv
  · intro j hj
    cases j with
    | zero => exact ⟨hi0, by rw [preSum_start]; simpa [preSum] using hi0⟩
    | succ j => exact ⟨(hfit j (Nat.lt_of_succ_lt_succ hj)).1, by rw [preSum_start]; exact (hfit j (Nat.lt_of_succ_lt_succ hj)).2⟩
  · have e1 : preSum (withStart i0 val) 1 = i0 := by simp [preSum, withStart]
    rw [e1]
    exact Heap.get?_push_size _ rfl
  · have hm' := hm.drop_new (by first | exact Nat.le_refl _ | exact Nat.le_succ _ | (first | lia | omega))
    have := hQ s' t' (G.movedS hm') hm'.os (fun b o hb e => hm'.heap b o (fun hmem => Nat.lt_irrefl _ (Nat.lt_of_lt_of_le (hwr b hmem) hb)) e)
    rw [preSum_start]
    exact this
end
end

local macro_rules | `(tactic| walk_at $s:str) => `(tactic| k_extra $s)
local macro_rules | `(tactic| k_enter) => `(tactic| k_extra "k_enter")
local macro_rules | `(tactic| k_inst) => `(tactic| k_extra "k_inst")
local macro_rules | `(tactic| k_ne) => `(tactic| k_extra "zn")
local macro_rules | `(tactic| k_room) => `(tactic| ktr_room)
local macro_rules | `(tactic| k_units) => `(tactic| ktr_units)
local macro_rules | `(tactic| ktr_room) => `(tactic| k_extra "zr")
local macro_rules | `(tactic| ktr_units) => `(tactic| k_extra "zu")
theorem reg_zz : True := by
  k_with "zz" => (first | assumption | exact Nat.le_trans (by assumption) (by decide) | exact Nat.lt_of_le_of_lt (by assumption) (by decide) | exact Nat.le_trans (Nat.sub_le _ _) (Nat.le_trans (by assumption) (by decide)) | exact Nat.le_trans (Nat.min_le_right _ _) (Nat.le_trans (by assumption) (by decide)) | exact Nat.sub_pos_of_lt (by assumption) | exact Nat.lt_of_sub_pos (by assumption) | exact mn_pos (by assumption) | exact mn_lt (by assumption) | exact mn_no (by assumption) | exact sb_no (by assumption) | exact nm1 | exact sub1 (by assumption) | exact cp1 (by assumption) | exact cpp (by assumption) | exact cpn (by assumption) | exact cpa (by assumption) | exact sz1 (by assumption) | exact sz2 (by assumption) | exact sz3 (by assumption) | exact sz5 (by assumption) (by decide) | exact na3 (by assumption) (by assumption) | exact na4 (by assumption) (by assumption) | exact na5 (by assumption) (by assumption) | exact fl1 (by assumption) (by decide) | lia | omega)
  k_with "zr" => ((repeat (with_reducible refine rm_deeper ?_)); exact rm_top (by assumption) (by decide))
  k_with "zu" => ((repeat (first | with_reducible refine um_deeper ?_ | with_reducible refine um_in1 ?_)); exact rm_top (by assumption) (by decide))
  k_with "zn" => (refine neN ?_; (try dsimp only); first | exact Nat.ne_of_lt (Nat.add_lt_add_left (by decide) _) | exact Nat.ne_of_gt (Nat.add_lt_add_left (by decide) _) | (refine Nat.ne_of_lt ?_; (try refine lt154 ?_); (repeat (first | assumption | exact ltA (by assumption) (by decide) | refine Nat.lt_trans (by assumption) ?_ | refine Nat.lt_trans (ltA (by assumption) (by decide)) ?_)); done) | (refine Nat.ne_of_gt ?_; (try refine lt154 ?_); (repeat (first | assumption | exact ltA (by assumption) (by decide) | refine Nat.lt_trans (by assumption) ?_ | refine Nat.lt_trans (ltA (by assumption) (by decide)) ?_)); done) | (first | lia | omega))
  trivial

section
open PySem PySem.W PyProof.Rows PySem.Calls PySem.Spec
set_option maxRecDepth 100000
set_option maxHeartbeats 4000000
open Builtin Builtin.ObjectAttr Builtin.List
theorem reg_ACC9_0 : True := by
  k_with_none
  k_with "zz" => (first | assumption | exact Nat.le_trans (by assumption) (by decide) | exact Nat.lt_of_le_of_lt (by assumption) (by decide) | exact Nat.le_trans (Nat.sub_le _ _) (Nat.le_trans (by assumption) (by decide)) | exact Nat.le_trans (Nat.min_le_right _ _) (Nat.le_trans (by assumption) (by decide)) | exact Nat.sub_pos_of_lt (by assumption) | exact Nat.lt_of_sub_pos (by assumption) | exact mn_pos (by assumption) | exact mn_lt (by assumption) | exact mn_no (by assumption) | exact sb_no (by assumption) | exact nm1 | exact sub1 (by assumption) | exact cp1 (by assumption) | exact cpp (by assumption) | exact cpn (by assumption) | exact cpa (by assumption) | exact sz1 (by assumption) | exact sz2 (by assumption) | exact sz3 (by assumption) | exact sz5 (by assumption) (by decide) | exact na3 (by assumption) (by assumption) | exact na4 (by assumption) (by assumption) | exact na5 (by assumption) (by assumption) | exact fl1 (by assumption) (by decide) | lia | omega)
  k_with "zr" => ((repeat (with_reducible refine rm_deeper ?_)); exact rm_top (by assumption) (by decide))
  k_with "zu" => ((repeat (first | with_reducible refine um_deeper ?_ | with_reducible refine um_in1 ?_)); exact rm_top (by assumption) (by decide))
  k_with "zn" => (refine neN ?_; (try dsimp only); first | exact Nat.ne_of_lt (Nat.add_lt_add_left (by decide) _) | exact Nat.ne_of_gt (Nat.add_lt_add_left (by decide) _) | (refine Nat.ne_of_lt ?_; (try refine lt154 ?_); (repeat (first | assumption | exact ltA (by assumption) (by decide) | refine Nat.lt_trans (by assumption) ?_ | refine Nat.lt_trans (ltA (by assumption) (by decide)) ?_)); done) | (refine Nat.ne_of_gt ?_; (try refine lt154 ?_); (repeat (first | assumption | exact ltA (by assumption) (by decide) | refine Nat.lt_trans (by assumption) ?_ | refine Nat.lt_trans (ltA (by assumption) (by decide)) ?_)); done) | (first | lia | omega))
  k_with "k_enter" => (refine ks_code_super (by k_asm) (by k_asm) (by k_asm) (by k_asm) (by k_asm) (by exact rfl) (by exact rfl) (by exact rfl) (by k_is) (by k_is) (by k_room) (by first | exact BindsTo.of_eq rfl | exact binds_K (by k_in) rfl (by k_is) rfl rfl rfl) (by exact locs rfl) ?_ (by decide) (by exact rfl) (by exact rfl) (by exact rfl); intro g' L' h' FG' F' N' B' X' T' l1; (try k_lt l1); (try dsimp only); (try k_lift B'))
  k_with "k_inst" => (refine Mine.instL (by k_asm) (by k_mem) (by k_mem))
  k_with "call ref" => (k_here; k_dflt (refine Mine.acc_make (by k_asm) (by k_asm) (by k_asm) (by k_is) (by rfl) (by rfl) (by rfl) (by k_is) (by k_is) (by k_is) (by k_is) (by (unfold argsOk; kernel_rfl)) ?_; k_whole; intro x' d' h' F' N' l1 l2; (try k_lt l1); (try k_lt2 l2); (try k_sweep); (first | k_enter | ks_enter)))
  k_with "setAttr ref" => (k_here; k_dflt (refine Mine.acc_set (by k_asm) (by k_asm) (by k_asm) (by k_inst) (by exact rfl) (by k_is) (by k_is) (by rfl) (by rfl) (by k_is) (by k_get) (by k_put) (by k_upd) (by exact Nat.le_of_ble_eq_true rfl) ?_; k_whole; intro h' F' N'; (try k_sweep)))
  k_with "getMethod ref" => (k_here; k_dflt (refine Mine.acc_method (by k_asm) (by k_asm) (by k_inst) (by k_is) (by k_is) (by k_is) (by k_is) (by (first | rfl | decide +kernel)) (by k_get) ?_; k_whole))
  k_with "getMethod ref" => (k_here; k_dflt (first
  | (refine Mine.sup_method Mine.bound_pop (by k_asm) (by k_asm) (by k_asm) (by k_mem) (by k_inst) (by k_is) (by ks_is) (by k_is) (by decide) ?_; k_whole; intro q' h' F' N' l1; (try k_lt l1))
  | (refine Mine.sup_method Mine.bound_init (by k_asm) (by k_asm) (by k_asm) (by k_mem) (by k_inst) (by k_is) (by ks_is) (by k_is) (by decide) ?_; k_whole; intro q' h' F' N' l1; (try k_lt l1))
  | (refine Mine.sup_method Mine.bound_len (by k_asm) (by k_asm) (by k_asm) (by k_mem) (by k_inst) (by k_is) (by ks_is) (by k_is) (by decide) ?_; k_whole; intro q' h' F' N' l1; (try k_lt l1))))
  k_with "callWith ref" => (k_here; k_dflt (refine Mine.callWith_bm (by k_asm) (by k_mem) (by rfl) (by rfl) ?_; k_whole))
  k_with "call ref" => (k_here; k_dflt (first
  | (refine Mine.bm_pop (by k_asm) (by k_asm) (by k_asm) (by k_mem) (by k_inst) (by k_is) (by rfl) (by (first | rfl | decide +kernel)) (by k_upd) (by size_fits) ?_; k_whole; intro h' F' N'; (try k_sweep))
  | (refine Mine.bm_init (by k_asm) (by k_asm) (by k_mem) (by k_inst) (by k_upd) ?_; k_whole; intro h' F' N'; (try k_sweep))
  | (refine Mine.bm_len (by k_asm) (by k_mem) (by k_inst) ?_; k_whole)))
  k_with "call builtin:list.append" => (k_here; k_dflt (refine Mine.acc_append (by k_asm) (by k_asm) (by k_asm) (by k_inst) (by k_is) (by k_upd) (by size_fits) ?_; k_whole; intro h' F' N'; (try k_sweep)))
  k_with "wpAt" => ((try dsimp only); ks_step "execs cons"; refine ks_wpAt_execs_cons ?_)
  k_with "wpAt" => (k_dflt (ks_step "exec Expr"; refine ks_wpAt_Expr_any ?_))
  k_with "wpAt" => (k_dflt (ks_step "exec Return"; refine ks_wpAt_Return_some ?_))
  k_with "wpAt" => (k_dflt (ks_step "exec Assign"; first | refine ks_wpAt_Assign_Name ?_ | refine ks_wpAt_Assign_Attr ?_))
  k_with "wpAt" => (k_dflt (ks_step "exec If"; refine ks_wpAt_If ?_))
  k_with "wpAt" => (k_dflt (ks_step "eval BinOp"; refine ks_wpAt_BinOp2 ?_))
  k_with "wpAt" => (k_dflt (ks_step "eval Call"; refine ks_wpAt_MethodCall ?_))
  k_with "wpAt" => (k_dflt (ks_step "attributeBase Call"; k_here; (refine ks_node (by k_asm) (by k_asm) (by k_asm) (by k_asm) (by k_is) (by rfl) (by rfl) (by k_inst) (by k_is) (by rfl) (by first | rfl | decide +kernel) (by k_is) (by k_is) (by k_is) (by k_is) (by decide) (by rfl) (by rfl) (by rfl) (by rfl) (by decide +kernel) (by first | boot_by_name | rfl | kernel_rfl) ?_; intro so' h' F' N' l1; (try k_lt l1))))
  trivial
section
variable {prog : Program} {w : World} {A : Around} {E : Value → Shared → Prop} {s : Shared} {K : Frag} {h₀ : Heap} {L : Addr} {m mg mb : Str → Option Value} {news : List (Addr × Obj)} {p : Program} {loose : List Str} {mean : ExcName → Option Value}
theorem enterD {R : Result → Shared → Prop} {name qual : Str} {params : Arguments} {body : List Stmt} {scope : Scope} {dV kV doc pm cdv ct oc : Value} {an od : Option Addr} {osl : Array (Option Value)} {f : Addr} {args : Args} {binds : List (Str × Value)}
    (F : Fr h₀ L s.heap m) (X₀ : K.In h₀) (T : Top p loose mean mg mb h₀) (N : News h₀ L s.heap news)
    (ho : K.lookup f = some ⟨oc, od, .func (fnOf name qual params body scope dV kV doc pm an cdv ct), osl⟩) (hcd : codeIn K cdv qual = true) (hroom : A.depth < recursionLimit)
    (hbind : BindsTo s (fnOf name qual params body scope dV kV doc pm an cdv ct) args binds) (hloc : ∀ y ∈ binds, scope.names.lookup y.1 = some .local)
    (h : ∀ L' h₁, L' = s.heap.objs.size → Fr h₀ L' h₁ (fun y => binds.reverse.lookup y) → News h₀ L' h₁ news → (∀ b o, s.heap.get? b = some o → h₁.get? b = some o) →
      wpAny (model prog w) (A.deeper (envOf qual scope L' f cdv)) (execs body (envOf qual scope L' f cdv))
        (fun fl s' => R (.ok (.ret (match fl with | .ret v => v | _ => .none))) s')
        (fun e s' => wpAny (model prog w) (A.deeper (envOf qual scope L' f cdv)) (leaving (envOf qual scope L' f cdv) e) (fun _ s'' => R (.error e) s'') (fun e' s'' => R (.error e') s'') s')
        { s with heap := h₁, toks := s.toks + binds.length })
    (hco : scope.isCoroutine = false) (hgen : scope.isGenerator = false) (hk : scope.kind = .function) (hcell : ∀ x ∈ scope.names, x.2 ≠ .cell) : codeAny (model prog w) A (.call (.ref f) args) R s := by
  refine codeAny_call_def (fd := fnOf name qual params body scope dV kV doc pm an cdv ct) (body := body) (binds := binds) hroom ((X₀.keeps F.keep) _ _ ho) rfl (T.nolimit.keeps F.keep) (codeRec_of (X₀.keeps F.keep) hcd) rfl hbind hcell hloc (fun h₁ hns hk₁ => ?_) hco hgen hk
  have hL : h₀.objs.size ≤ s.heap.objs.size := Nat.le_trans F.above (Nat.le_of_lt F.ns.lt)
  exact h _ h₁ rfl ⟨hns, fun b o e => hk₁ b o (F.keep b o e), hL⟩ (fun q hq => ⟨hk₁ _ _ (N q hq).1, Nat.ne_of_lt (Heap.lt_size (N q hq).1), (N q hq).2.2⟩) hk₁
end

def total (ps : List (Str × Str)) : Int := (ps.map fun q => ((q.1.length + q.2.length : Nat) : Int)).sum

section
variable {M : Model} {A : Around} {E : Value → Shared → Prop} {s : Shared} {K : Frag} {h₀ : Heap} {C : Addr} {m mg mb : Str → Option Value} {gscope : Scope} {cl : List (Str × Addr)} {code : Value} {cn : Str} {cs : Scope} {L0 a0 : Addr} {ccd : Value} {x : Str} {pos : Pos} {v : Value} {Q : Value → Shared → Prop} {p : Program} {loose : List Str}
theorem gname_L (F : Fr h₀ C s.heap m) (hv : m x = some v) (h : Q v s) (hk : gscope.kind = .function := by rfl) (hx : (genEnv gscope cl C code builtinsNs (envOf cn cs L0 a0 ccd)).kindOf x = some .local := by rfl) (hd : (x == ("__debug__" : Str)) = false := by decide) :
    wpAny M A (PySem.eval (.Name x pos) (genEnv gscope cl C code builtinsNs (envOf cn cs L0 a0 ccd))) Q E s := wpAny_Name (wpAny_loadName_local hk hx F.ns hv h) hd
theorem gname_B (F : Fr h₀ C s.heap m) (X : K.In h₀) (T : TopRead p loose mg mb h₀) (e : nsIn K mainGlobals x = some none) (hv : bootBuiltins x = some v) (hn : x ≠ "__name__") (h : Q v s)
    (hk : gscope.kind = .function := by rfl) (hx : (genEnv gscope cl C code builtinsNs (envOf cn cs L0 a0 ccd)).kindOf x = some .globalImplicit := by rfl) (hd : (x == ("__debug__" : Str)) = false := by decide) :
    wpAny M A (PySem.eval (.Name x pos) (genEnv gscope cl C code builtinsNs (envOf cn cs L0 a0 ccd))) Q E s :=
  Name_function_global hk hx (loadGlobal_builtin (env := genEnv gscope cl C code builtinsNs (envOf cn cs L0 a0 ccd)) (T.g.keeps F.keep) (mg_none_of X T.g e) (T.b.keeps F.keep) ((T.builtins x hn).trans hv) h) hd
end
theorem reg_ACC9_1 : True := by
  k_with "eval Name" => (k_here; (with_reducible show wpAny _ _ (PySem.eval _ (genEnv _ _ _ _ _ _)) _ _ _); k_dflt (refine Mine.gname_L (by k_asm) (by assumption) ?_; k_whole))
  k_with "eval Name" => (k_here; (with_reducible show wpAny _ _ (PySem.eval _ (genEnv _ _ _ _ _ _)) _ _ _); k_dflt (refine Mine.gname_B (by k_asm) (by k_asm) (by k_asm) (by k_is) (by boot_by_name) (by decide) ?_; k_whole))
  k_with "getAttr ref" => (k_here; k_dflt (refine Mine.acc_get (by k_asm) (by k_asm) (by k_inst) (by k_is) (by k_is) (by k_is) (by k_is) (by k_is) (by first | assumption | k_get) (by k_handed) ?_; k_whole))
  trivial
theorem len_txt {prog : Program} {w : World} {A : Around} {E : Value → Shared → Prop} {s : Shared} {x : Str} {t : Tok} {Q : Value → Shared → Prop} (h63 : x.length ≤ 1048576) (h : Q (.int x.length (s.toks + 1)) { s with toks := s.toks + 1 + 1 }) : wpAny (model prog w) A (call (.builtin "len") [.str x t]) Q E s :=
  PySem.P.len_str (by (first | lia | omega)) h
theorem reg_ACC9_2 : True := by
  k_with "call builtin:len" => (k_here; (with_reducible show wpAny _ _ (call (Value.builtin "len") [Value.str _ _]) _ _ _); k_dflt (refine Mine.len_txt (by assumption) ?_; k_whole))
  trivial

theorem gen_toks {prog : Program} {w : World} {A : Around} {Kb a : Addr} {n : Nat} {Fv : Nat → Value → Prop} {s : Shared} (X : Gen prog w A Kb a n Fv s) (tk : Nat) (h : s.toks ≤ tk) : Gen prog w A Kb a n Fv { s with toks := tk } := by
  obtain ⟨fp, wr, g, St, W, hst, r1, r2, r3, r4⟩ := X
  exact ⟨fp, wr, g, St, W, W.frame 0 s s.heap tk hst h fun _ _ _ e => e, r1, r2, r3, r4⟩
theorem preSum_getD (l : List Int) : ∀ n, n ≤ l.length → preSum (fun j => l.getD j 0) n = (l.take n).sum
  | 0, _ => by simp [preSum]
  | n + 1, h => by
    rw [preSum, preSum_getD l n (by (first | lia | omega)), List.take_succ_eq_append_getElem (by (first | lia | omega)), List.sum_append]
    simp [List.getD_eq_getElem?_getD, List.getElem?_eq_getElem (show n < l.length by (first | lia | omega))]
theorem total_eq (ps : List (Str × Str)) : preSum (fun j => (ps.map fun q => ((q.1.length + q.2.length : Nat) : Int)).getD j 0) ps.length = total ps := by
  have := preSum_getD (ps.map fun q => ((q.1.length + q.2.length : Nat) : Int)) ps.length (by simp)
  rw [this, List.take_of_length_le (by simp)]
  rfl

theorem TabIn.keeps2 {h h' : Heap} {c P : Addr} {tp : Array Value} (x : TabIn h c P tp) (k1 : ∀ o, h.get? c = some o → h'.get? c = some o) (k2 : ∀ o, h.get? P = some o → h'.get? P = some o) : TabIn h' c P tp := by
  obtain ⟨⟨o, vs, file, tf, flags, tg, inF, text, tt, op, a, r1, r2, r3, r4, r5, r6, b, r⟩, ⟨o2, v2, a2, s1, s2, s3⟩, b2⟩ := x
  exact ⟨⟨o, vs, file, tf, flags, tg, inF, text, tt, op, k1 _ a, r1, r2, r3, r4, r5, r6, k2 _ b, r⟩, ⟨o2, v2, k1 _ a2, s1, s2, s3⟩, k2 _ b2⟩

theorem len_body (w : World) {A : Around} {E Q : Value → Shared → Prop} {s : Shared} {h₀ : Heap} {L : Addr} {m mg mb : Str → Option Value} {news : List (Addr × Obj)} {p : Program} {loose : List Str} {mean : ExcName → Option Value}
    {x dx : Addr} {xs : List Value} {n k : Nat} {es : List DictEntry} {i0 : Int} {t0 : Tok} {tp : Array Value} {ps : List (Str × Str)}
    (F : Fr h₀ L s.heap m) (X₀ : (hd.heap_1 w.params).In h₀) (N : News h₀ L s.heap news) (T : Top p loose mean mg mb h₀) (hh : A.handled = none) (hd1 : A.depth + 6 < recursionLimit) (hu : A.units + 40 < cLine) (G : AllBare s.gens)
    (hx : (x, accObj 185 dx xs n) ∈ news) (hdx : (dx, dictOf es k) ∈ news) (hes : getL (Str.ofString "_initial_size") es = some (some (.int i0 t0))) (hP : (147, X.tableObj tp) ∈ news) (TI : TabIn s.heap 151 147 tp) (PA : PairsAt s.heap xs ps) (hsm : ∀ q ∈ ps, q.1.length ≤ 1048576 ∧ q.2.length ≤ 1048576)
    (hi0 : InLong i0) (hfit : ∀ j, j < xs.length → InLong (((ps.map fun q => ((q.1.length + q.2.length : Nat) : Int)).getD j 0)) ∧ InLong (i0 + preSum (fun j => (ps.map fun q => ((q.1.length + q.2.length : Nat) : Int)).getD j 0) (j + 1)))
    (hQ : ∀ s' t' tp', TabIn s'.heap 151 147 tp' → (∀ b o, b ≠ 147 → s.heap.get? b = some o → s'.heap.get? b = some o) → AllBare s'.gens → s'.os = s.os → Q (.int (i0 + total ps) t') s') :
    wpAny (model PySem.Challenge.rw_xl0020_01.row.prog w) A (call (.ref 152) [.ref x]) Q E s := by
  revert X₀; k_fill; intro X₀
  refine wpAny_call ?_
  k_dflt (refine' enterD F X₀ T N ?k6 ?k7 ?k8 ?k9 ?kB ?_ ?c2 ?c3 ?c4 ?c5)
  (case k6 => k_is)
  (case k7 => k_is)
  (case k8 => (first | lia | omega))
  (case k9 => exact BindsTo.of_eq rfl)
  (case kB => exact locs rfl)
  (case c2 => exact rfl)
  (case c3 => exact rfl)
  (case c4 => exact rfl)
  (case c5 => decide)
  intro L' h₁ hL' F1 N1 hk1
  dsimp only
  k_steps
  have IN1 := instL N1 hx hdx
  have TI1 : TabIn h₁ 151 147 tp := TI.keeps hk1
  have PA1 : PairsAt h₁ xs ps := PA.keeps fun T o _ e => hk1 T o e
  refine gen_pairs (K := hd.heap_1 w.params) (x := x) (C := 185) (c := 151) (P := 147) (ps := ps) (xs := xs) (slf := Str.ofString "self") (Fv := fun i y => ∃ q t, ps[i]? = some q ∧ y = .int ((q.1.length + q.2.length : Nat) : Int) t) F1 X₀ N1 T hx hdx hP TI1 PA1 G ?i1 ?i2 ?i3 ?i4 ?i5 ?i6 ?i7 ?i8 ?i9 ?i10 ?i11 ?i12 ?i13 ?i14 ?i15 ?i16 ?i17 ?i18 ?i19
  case i1 => k_is
  case i2 => k_is
  case i3 => exact rfl
  case i4 => exact hh
  case i5 => show A.depth + 1 < recursionLimit; (first | lia | omega)
  case i6 => rfl
  case i7 => rfl
  case i8 => decide
  case i9 => rfl
  case i10 => rfl
  case i11 => decide
  case i12 => rfl
  case i13 => rfl
  case i14 => rfl
  case i15 => decide
  case i16 => rfl
  case i19 => intro v; rfl
  case i17 =>
    intro Ca code A' E' i q ta tb t m₂ hA' hD hU hq F2 hma hmb
    have hs1 := (hsm q (List.mem_of_getElem? hq)).1
    have hs2 := (hsm q (List.mem_of_getElem? hq)).2
    k_steps
    exact ⟨_, _, rfl, fun _ _ e => e⟩
  case i18 =>
    intro a s' tp' TI' hk' G' os' hsz X'
    have hn147 : ∀ b o, (b, o) ∈ news → o ≠ X.tableObj tp → b ≠ 147 := by
      intro b o hb ho q
      have e1 := (N _ hb).1; have e2 := (N _ hP).1
      dsimp only at e1 e2
      rw [q, e2] at e1
      exact ho (Option.some.inj e1).symm
    have F2 : Fr h₀ L' s'.heap _ := fr_after F1 (N1 _ hP).2.1 (N1 _ hP).2.2 hk'
    have N2 : News h₀ L' s'.heap [(x, accObj 185 dx xs n), (dx, dictOf es k)] := by
      intro q hq
      rcases List.mem_cons.mp hq with rfl | hq
      · exact ⟨hk' _ _ (hn147 _ _ hx (by intro z; cases z)) (N1 _ hx).1, (N1 _ hx).2⟩
      · rw [List.mem_singleton.mp hq]
        exact ⟨hk' _ _ (hn147 _ _ hdx (by intro z; cases z)) (N1 _ hdx).1, (N1 _ hdx).2⟩
    clear N1 F1
    k_steps
    have X2 := gen_toks X' (s'.toks + 1) (Nat.le_succ _)
    have e1 : total ps = preSum (fun j => (ps.map fun q => ((q.1.length + q.2.length : Nat) : Int)).getD j 0) xs.length := by
      rw [PA.length, total_eq]
    refine sum_start G' X2 (fun j => (ps.map fun q => ((q.1.length + q.2.length : Nat) : Int)).getD j 0) ?_ hi0 hfit ?_
    · rintro j v ⟨q, t, hq, rfl⟩
      exact ⟨t, by rw [List.getD_eq_getElem?_getD, List.getElem?_map, hq]; rfl⟩
    · intro s2 t' G2 os2 hk2
      have kk : ∀ b o, b ≠ 147 → s.heap.get? b = some o → s2.heap.get? b = some o := by
        intro b o hb e
        have e2 := hk1 b o e
        have hlt := Heap.lt_size e2
        exact hk2 b o (Nat.le_sub_one_of_lt hlt) (hk' b o hb e2)
      have := hQ s2 t' tp' ?_ kk G2 (os2.trans os')
      · rw [e1] at this; exact this
      · have lt1 : ∀ b o, s.heap.get? b = some o → b ≤ h₁.objs.size - 1 := fun b o e => Nat.le_sub_one_of_lt (Heap.lt_size (hk1 b o e))
        obtain ⟨oc, hoc⟩ : ∃ o, s.heap.get? 151 = some o := by obtain ⟨⟨o, vs, file, tf, flags, tg, inF, text, tt, op, a, _⟩, _⟩ := TI; exact ⟨o, a⟩
        exact TI'.keeps2 (fun o e => hk2 151 o (lt1 _ _ hoc) e) (fun o e => hk2 147 o (lt1 _ _ TI.at_) e)
end

section
open PySem PySem.W PyProof.Rows PySem.Calls PySem.Spec
set_option maxRecDepth 100000
set_option maxHeartbeats 4000000
open Builtin Builtin.ObjectAttr Builtin.List
theorem reg_ACC10_0 : True := by
  k_with_none
  k_with "zz" => (first | assumption | exact Nat.le_trans (by assumption) (by decide) | exact Nat.lt_of_le_of_lt (by assumption) (by decide) | exact Nat.le_trans (Nat.sub_le _ _) (Nat.le_trans (by assumption) (by decide)) | exact Nat.le_trans (Nat.min_le_right _ _) (Nat.le_trans (by assumption) (by decide)) | exact Nat.sub_pos_of_lt (by assumption) | exact Nat.lt_of_sub_pos (by assumption) | exact mn_pos (by assumption) | exact mn_lt (by assumption) | exact mn_no (by assumption) | exact sb_no (by assumption) | exact nm1 | exact sub1 (by assumption) | exact cp1 (by assumption) | exact cpp (by assumption) | exact cpn (by assumption) | exact cpa (by assumption) | exact sz1 (by assumption) | exact sz2 (by assumption) | exact sz3 (by assumption) | exact sz5 (by assumption) (by decide) | exact na3 (by assumption) (by assumption) | exact na4 (by assumption) (by assumption) | exact na5 (by assumption) (by assumption) | exact fl1 (by assumption) (by decide) | lia | omega)
  k_with "zr" => ((repeat (with_reducible refine rm_deeper ?_)); exact rm_top (by assumption) (by decide))
  k_with "zu" => ((repeat (first | with_reducible refine um_deeper ?_ | with_reducible refine um_in1 ?_)); exact rm_top (by assumption) (by decide))
  k_with "zn" => (refine neN ?_; (try dsimp only); first | exact Nat.ne_of_lt (Nat.add_lt_add_left (by decide) _) | exact Nat.ne_of_gt (Nat.add_lt_add_left (by decide) _) | (refine Nat.ne_of_lt ?_; (try refine lt154 ?_); (repeat (first | assumption | exact ltA (by assumption) (by decide) | refine Nat.lt_trans (by assumption) ?_ | refine Nat.lt_trans (ltA (by assumption) (by decide)) ?_)); done) | (refine Nat.ne_of_gt ?_; (try refine lt154 ?_); (repeat (first | assumption | exact ltA (by assumption) (by decide) | refine Nat.lt_trans (by assumption) ?_ | refine Nat.lt_trans (ltA (by assumption) (by decide)) ?_)); done) | (first | lia | omega))
  k_with "k_enter" => (refine ks_code_super (by k_asm) (by k_asm) (by k_asm) (by k_asm) (by k_asm) (by exact rfl) (by exact rfl) (by exact rfl) (by k_is) (by k_is) (by k_room) (by first | exact BindsTo.of_eq rfl | exact binds_K (by k_in) rfl (by k_is) rfl rfl rfl) (by exact locs rfl) ?_ (by decide) (by exact rfl) (by exact rfl) (by exact rfl); intro g' L' h' FG' F' N' B' X' T' l1; (try k_lt l1); (try dsimp only); (try k_lift B'))
  k_with "k_inst" => (refine Mine.instL (by k_asm) (by k_mem) (by k_mem))
  k_with "call ref" => (k_here; k_dflt (refine Mine.acc_make (by k_asm) (by k_asm) (by k_asm) (by k_is) (by rfl) (by rfl) (by rfl) (by k_is) (by k_is) (by k_is) (by k_is) (by (unfold argsOk; kernel_rfl)) ?_; k_whole; intro x' d' h' F' N' l1 l2; (try k_lt l1); (try k_lt2 l2); (try k_sweep); (first | k_enter | ks_enter)))
  k_with "setAttr ref" => (k_here; k_dflt (refine Mine.acc_set (by k_asm) (by k_asm) (by k_asm) (by k_inst) (by exact rfl) (by k_is) (by k_is) (by rfl) (by rfl) (by k_is) (by k_get) (by k_put) (by k_upd) (by exact Nat.le_of_ble_eq_true rfl) ?_; k_whole; intro h' F' N'; (try k_sweep)))
  k_with "getMethod ref" => (k_here; k_dflt (refine Mine.acc_method (by k_asm) (by k_asm) (by k_inst) (by k_is) (by k_is) (by k_is) (by k_is) (by (first | rfl | decide +kernel)) (by k_get) ?_; k_whole))
  k_with "getMethod ref" => (k_here; k_dflt (first
  | (refine Mine.sup_method Mine.bound_pop (by k_asm) (by k_asm) (by k_asm) (by k_mem) (by k_inst) (by k_is) (by ks_is) (by k_is) (by decide) ?_; k_whole; intro q' h' F' N' l1; (try k_lt l1))
  | (refine Mine.sup_method Mine.bound_init (by k_asm) (by k_asm) (by k_asm) (by k_mem) (by k_inst) (by k_is) (by ks_is) (by k_is) (by decide) ?_; k_whole; intro q' h' F' N' l1; (try k_lt l1))
  | (refine Mine.sup_method Mine.bound_len (by k_asm) (by k_asm) (by k_asm) (by k_mem) (by k_inst) (by k_is) (by ks_is) (by k_is) (by decide) ?_; k_whole; intro q' h' F' N' l1; (try k_lt l1))))
  k_with "callWith ref" => (k_here; k_dflt (refine Mine.callWith_bm (by k_asm) (by k_mem) (by rfl) (by rfl) ?_; k_whole))
  k_with "call ref" => (k_here; k_dflt (first
  | (refine Mine.bm_pop (by k_asm) (by k_asm) (by k_asm) (by k_mem) (by k_inst) (by k_is) (by rfl) (by (first | rfl | decide +kernel)) (by k_upd) (by size_fits) ?_; k_whole; intro h' F' N'; (try k_sweep))
  | (refine Mine.bm_init (by k_asm) (by k_asm) (by k_mem) (by k_inst) (by k_upd) ?_; k_whole; intro h' F' N'; (try k_sweep))
  | (refine Mine.bm_len (by k_asm) (by k_mem) (by k_inst) ?_; k_whole)))
  k_with "call builtin:list.append" => (k_here; k_dflt (refine Mine.acc_append (by k_asm) (by k_asm) (by k_asm) (by k_inst) (by k_is) (by k_upd) (by size_fits) ?_; k_whole; intro h' F' N'; (try k_sweep)))
  k_with "wpAt" => ((try dsimp only); ks_step "execs cons"; refine ks_wpAt_execs_cons ?_)
  k_with "wpAt" => (k_dflt (ks_step "exec Expr"; refine ks_wpAt_Expr_any ?_))
  k_with "wpAt" => (k_dflt (ks_step "exec Return"; refine ks_wpAt_Return_some ?_))
  k_with "wpAt" => (k_dflt (ks_step "exec Assign"; first | refine ks_wpAt_Assign_Name ?_ | refine ks_wpAt_Assign_Attr ?_))
  k_with "wpAt" => (k_dflt (ks_step "exec If"; refine ks_wpAt_If ?_))
  k_with "wpAt" => (k_dflt (ks_step "eval BinOp"; refine ks_wpAt_BinOp2 ?_))
  k_with "wpAt" => (k_dflt (ks_step "eval Call"; refine ks_wpAt_MethodCall ?_))
  k_with "wpAt" => (k_dflt (ks_step "attributeBase Call"; k_here; (refine ks_node (by k_asm) (by k_asm) (by k_asm) (by k_asm) (by k_is) (by rfl) (by rfl) (by k_inst) (by k_is) (by rfl) (by first | rfl | decide +kernel) (by k_is) (by k_is) (by k_is) (by k_is) (by decide) (by rfl) (by rfl) (by rfl) (by rfl) (by decide +kernel) (by first | boot_by_name | rfl | kernel_rfl) ?_; intro so' h' F' N' l1; (try k_lt l1))))
  k_with "eval Name" => (k_here; (with_reducible show wpAny _ _ (PySem.eval _ (genEnv _ _ _ _ _ _)) _ _ _); k_dflt (refine Mine.gname_L (by k_asm) (by assumption) ?_; k_whole))
  k_with "eval Name" => (k_here; (with_reducible show wpAny _ _ (PySem.eval _ (genEnv _ _ _ _ _ _)) _ _ _); k_dflt (refine Mine.gname_B (by k_asm) (by k_asm) (by k_asm) (by k_is) (by boot_by_name) (by decide) ?_; k_whole))
  k_with "getAttr ref" => (k_here; k_dflt (refine Mine.acc_get (by k_asm) (by k_asm) (by k_inst) (by k_is) (by k_is) (by k_is) (by k_is) (by k_is) (by first | assumption | k_get) (by k_handed) ?_; k_whole))
  k_with "call builtin:len" => (k_here; (with_reducible show wpAny _ _ (call (Value.builtin "len") [Value.str _ _]) _ _ _); k_dflt (refine Mine.len_txt (by assumption) ?_; k_whole))
  trivial
section
variable {M : Model} {A : Around} {E : Value → Shared → Prop} {s : Shared} {K : Frag} {h₀ : Heap} {C : Addr} {m mg mb : Str → Option Value} {gscope : Scope} {cl : List (Str × Addr)} {code : Value} {cn : Str} {cs : Scope} {L0 a0 : Addr} {ccd : Value} {x : Str} {pos : Pos} {v : Value} {Q : Value → Shared → Prop} {p : Program} {loose : List Str}
theorem gname_K (F : Fr h₀ C s.heap m) (X : K.In h₀) (T : TopRead p loose mg mb h₀) (e : nsIn K mainGlobals x = some (some v)) (h : Q v s)
    (hk : gscope.kind = .function := by rfl) (hx : (genEnv gscope cl C code builtinsNs (envOf cn cs L0 a0 ccd)).kindOf x = some .globalImplicit := by rfl) (hd : (x == ("__debug__" : Str)) = false := by decide) :
    wpAny M A (PySem.eval (.Name x pos) (genEnv gscope cl C code builtinsNs (envOf cn cs L0 a0 ccd))) Q E s :=
  Name_function_global hk hx (loadGlobal_global (env := genEnv gscope cl C code builtinsNs (envOf cn cs L0 a0 ccd)) (T.g.keeps F.keep) (mg_of X T.g e) h) hd
end
theorem reg_ACC10_1 : True := by
  k_with "eval Name" => (k_here; (with_reducible show wpAny _ _ (PySem.eval _ (genEnv _ _ _ _ _ _)) _ _ _); k_dflt (refine Mine.gname_K (by k_asm) (by k_asm) (by k_asm) (by k_is) ?_; k_whole))
  trivial

structure GMark : Prop where
theorem newTuple_G {M : Model} {A : Around} {E : Value → Shared → Prop} {s : Shared} {h₀ : Heap} {L : Addr} {m : Str → Option Value} {vs : List Value} {Q : Value → Shared → Prop} (F : Fr h₀ L s.heap m)
    (h : Fr h₀ L (s.heap.push { cls := .type "tuple", data := .seq vs.toArray }) m → News h₀ L (s.heap.push { cls := .type "tuple", data := .seq vs.toArray }) [(s.heap.objs.size, { cls := .type "tuple", data := .seq vs.toArray })] →
      Q (.ref s.heap.objs.size) { s with heap := s.heap.push { cls := .type "tuple", data := .seq vs.toArray } }) (hsz : vs.length ≤ sizeLine) :
    wpAny M A (newTuple vs) Q E s := wpAny_newObj_type (h (F.push _) (News.nil.push F _)) (by show vs.toArray.size ≤ sizeLine; rw [List.size_toArray]; exact hsz)
theorem reg_ACC10_2 : True := by
  k_with "newTuple" => ((with_reducible rename Mine.GMark => hG9); k_here; k_dflt (refine Mine.newTuple_G (by k_asm) ?_ (by size_fits)); k_whole; intro F' N'; (try k_sweep))
  trivial

theorem str_body (w : World) {A : Around} {E Q : Value → Shared → Prop} {s : Shared} {h₀ : Heap} {L : Addr} {m mg mb : Str → Option Value} {news : List (Addr × Obj)} {p : Program} {loose : List Str} {mean : ExcName → Option Value}
    {x dx : Addr} {xs : List Value} {n k : Nat} {es : List DictEntry} {tp : Array Value} {ps : List (Str × Str)}
    (F : Fr h₀ L s.heap m) (X₀ : (hd.heap_1 w.params).In h₀) (N : News h₀ L s.heap news) (T : Top p loose mean mg mb h₀) (hh : A.handled = none) (hd1 : A.depth + 6 < recursionLimit) (hu : A.units + 40 < cLine) (G : AllBare s.gens)
    (hx : (x, accObj 185 dx xs n) ∈ news) (hdx : (dx, dictOf es k) ∈ news) (hP : (154, X.tableObj tp) ∈ news) (TI : TabIn s.heap 158 154 tp) (PA : PairsAt s.heap xs ps) (hsm : ∀ q ∈ ps, q.1.length ≤ 1048576 ∧ q.2.length ≤ 1048576)
    (hok : JoinOk "" ((List.range xs.length).map fun i => (ps.getD i ("", "")).1 ++ (ps.getD i ("", "")).2) = true) (hlen : xs.length ≤ sizeLine)
    (hQ : ∀ s' t' tp', TabIn s'.heap 158 154 tp' → (∀ b o, b ≠ 154 → s.heap.get? b = some o → s'.heap.get? b = some o) → AllBare s'.gens → s'.os = s.os → Q (.str (Txt.join "" ((List.range xs.length).map fun i => (ps.getD i ("", "")).1 ++ (ps.getD i ("", "")).2)) t') s') :
    wpAny (model PySem.Challenge.rw_xl0020_01.row.prog w) A (call (.ref 159) [.ref x]) Q E s := by
  revert X₀; k_fill; intro X₀
  refine wpAny_call ?_
  k_dflt (refine' enterD F X₀ T N ?k6 ?k7 ?k8 ?k9 ?kB ?_ ?c2 ?c3 ?c4 ?c5)
  (case k6 => k_is)
  (case k7 => k_is)
  (case k8 => (first | lia | omega))
  (case k9 => exact BindsTo.of_eq rfl)
  (case kB => exact locs rfl)
  (case c2 => exact rfl)
  (case c3 => exact rfl)
  (case c4 => exact rfl)
  (case c5 => decide)
  intro L' h₁ hL' F1 N1 hk1
  dsimp only
  k_steps
  have IN1 := instL N1 hx hdx
  have TI1 : TabIn h₁ 158 154 tp := TI.keeps hk1
  have PA1 : PairsAt h₁ xs ps := PA.keeps fun T o _ e => hk1 T o e
  refine gen_pairs (K := hd.heap_1 w.params) (x := x) (C := 185) (c := 158) (P := 154) (ps := ps) (xs := xs) (slf := Str.ofString "self") (Fv := fun i y => ∃ q t, ps[i]? = some q ∧ y = .str (q.1 ++ q.2) t) F1 X₀ N1 T hx hdx hP TI1 PA1 G ?i1 ?i2 ?i3 ?i4 ?i5 ?i6 ?i7 ?i8 ?i9 ?i10 ?i11 ?i12 ?i13 ?i14 ?i15 ?i16 ?i17 ?i18 ?i19
  case i1 => k_is
  case i2 => k_is
  case i3 => exact rfl
  case i4 => exact hh
  case i5 => show A.depth + 1 < recursionLimit; (first | lia | omega)
  case i6 => rfl
  case i7 => rfl
  case i8 => decide
  case i9 => rfl
  case i10 => rfl
  case i11 => decide
  case i12 => rfl
  case i13 => rfl
  case i14 => rfl
  case i15 => decide
  case i16 => rfl
  case i19 => intro v; rfl
  case i17 =>
    intro Ca code A' E' i q ta tb t m₂ hA' hD hU hq F2 hma hmb
    have hs1 := (hsm q (List.mem_of_getElem? hq)).1
    have hs2 := (hsm q (List.mem_of_getElem? hq)).2
    have N2 : News h₀ Ca t.heap [] := News.nil
    have hG : GMark := .mk
    k_steps
    exact ⟨_, _, rfl, fun _ _ e => Heap.get?_push_of_some _ e⟩
  case i18 =>
    intro a s' tp' TI' hk' G' os' hsz X'
    have F2 : Fr h₀ L' s'.heap _ := fr_after F1 (N1 _ hP).2.1 (N1 _ hP).2.2 hk'
    k_steps
    refine join_rowsK F2 G' X' (Nat.le_sub_one_of_lt F1.ns.lt) (fun i => (ps.getD i ("", "")).1 ++ (ps.getD i ("", "")).2) ?_ hok ?_ hlen
    · rintro j v ⟨q, t, hq, rfl⟩
      exact ⟨t, by rw [List.getD_eq_getElem?_getD, hq]; rfl⟩
    · intro s2 t' F3 G2 os2 hk2
      have kk : ∀ b o, b ≠ 154 → s.heap.get? b = some o → s2.heap.get? b = some o := by
        intro b o hb e
        have e2 := hk1 b o e
        exact hk2 b o (Nat.le_sub_one_of_lt (Heap.lt_size e2)) (hk' b o hb e2)
      refine hQ s2 t' tp' ?_ kk G2 (os2.trans os')
      have lt1 : ∀ b o, s.heap.get? b = some o → b ≤ h₁.objs.size - 1 := fun b o e => Nat.le_sub_one_of_lt (Heap.lt_size (hk1 b o e))
      obtain ⟨oc, hoc⟩ : ∃ o, s.heap.get? 158 = some o := by obtain ⟨⟨o, vs, file, tf, flags, tg, inF, text, tt, op, a, _⟩, _⟩ := TI; exact ⟨o, a⟩
      exact TI'.keeps2 (fun o e => hk2 158 o (lt1 _ _ hoc) e) (fun o e => hk2 154 o (lt1 _ _ TI.at_) e)
end

section
open PySem PySem.W PyProof.Rows PySem.Calls PySem.Spec
set_option maxRecDepth 100000
set_option maxHeartbeats 4000000
open Builtin Builtin.ObjectAttr Builtin.List
theorem reg_ACC11_0 : True := by
  k_with_none
  k_with "zz" => (first | assumption | exact Nat.le_trans (by assumption) (by decide) | exact Nat.lt_of_le_of_lt (by assumption) (by decide) | exact Nat.le_trans (Nat.sub_le _ _) (Nat.le_trans (by assumption) (by decide)) | exact Nat.le_trans (Nat.min_le_right _ _) (Nat.le_trans (by assumption) (by decide)) | exact Nat.sub_pos_of_lt (by assumption) | exact Nat.lt_of_sub_pos (by assumption) | exact mn_pos (by assumption) | exact mn_lt (by assumption) | exact mn_no (by assumption) | exact sb_no (by assumption) | exact nm1 | exact sub1 (by assumption) | exact cp1 (by assumption) | exact cpp (by assumption) | exact cpn (by assumption) | exact cpa (by assumption) | exact sz1 (by assumption) | exact sz2 (by assumption) | exact sz3 (by assumption) | exact sz5 (by assumption) (by decide) | exact na3 (by assumption) (by assumption) | exact na4 (by assumption) (by assumption) | exact na5 (by assumption) (by assumption) | exact fl1 (by assumption) (by decide) | lia | omega)
  k_with "zr" => ((repeat (with_reducible refine rm_deeper ?_)); exact rm_top (by assumption) (by decide))
  k_with "zu" => ((repeat (first | with_reducible refine um_deeper ?_ | with_reducible refine um_in1 ?_)); exact rm_top (by assumption) (by decide))
  k_with "zn" => (refine neN ?_; (try dsimp only); first | exact Nat.ne_of_lt (Nat.add_lt_add_left (by decide) _) | exact Nat.ne_of_gt (Nat.add_lt_add_left (by decide) _) | (refine Nat.ne_of_lt ?_; (try refine lt154 ?_); (repeat (first | assumption | exact ltA (by assumption) (by decide) | refine Nat.lt_trans (by assumption) ?_ | refine Nat.lt_trans (ltA (by assumption) (by decide)) ?_)); done) | (refine Nat.ne_of_gt ?_; (try refine lt154 ?_); (repeat (first | assumption | exact ltA (by assumption) (by decide) | refine Nat.lt_trans (by assumption) ?_ | refine Nat.lt_trans (ltA (by assumption) (by decide)) ?_)); done) | (first | lia | omega))
  k_with "k_enter" => (refine ks_code_super (by k_asm) (by k_asm) (by k_asm) (by k_asm) (by k_asm) (by exact rfl) (by exact rfl) (by exact rfl) (by k_is) (by k_is) (by k_room) (by first | exact BindsTo.of_eq rfl | exact binds_K (by k_in) rfl (by k_is) rfl rfl rfl) (by exact locs rfl) ?_ (by decide) (by exact rfl) (by exact rfl) (by exact rfl); intro g' L' h' FG' F' N' B' X' T' l1; (try k_lt l1); (try dsimp only); (try k_lift B'))
  k_with "k_inst" => (refine Mine.instL (by k_asm) (by k_mem) (by k_mem))
  k_with "call ref" => (k_here; k_dflt (refine Mine.acc_make (by k_asm) (by k_asm) (by k_asm) (by k_is) (by rfl) (by rfl) (by rfl) (by k_is) (by k_is) (by k_is) (by k_is) (by (unfold argsOk; kernel_rfl)) ?_; k_whole; intro x' d' h' F' N' l1 l2; (try k_lt l1); (try k_lt2 l2); (try k_sweep); (first | k_enter | ks_enter)))
  k_with "setAttr ref" => (k_here; k_dflt (refine Mine.acc_set (by k_asm) (by k_asm) (by k_asm) (by k_inst) (by exact rfl) (by k_is) (by k_is) (by rfl) (by rfl) (by k_is) (by k_get) (by k_put) (by k_upd) (by exact Nat.le_of_ble_eq_true rfl) ?_; k_whole; intro h' F' N'; (try k_sweep)))
  k_with "getMethod ref" => (k_here; k_dflt (refine Mine.acc_method (by k_asm) (by k_asm) (by k_inst) (by k_is) (by k_is) (by k_is) (by k_is) (by (first | rfl | decide +kernel)) (by k_get) ?_; k_whole))
  k_with "getMethod ref" => (k_here; k_dflt (first
  | (refine Mine.sup_method Mine.bound_pop (by k_asm) (by k_asm) (by k_asm) (by k_mem) (by k_inst) (by k_is) (by ks_is) (by k_is) (by decide) ?_; k_whole; intro q' h' F' N' l1; (try k_lt l1))
  | (refine Mine.sup_method Mine.bound_init (by k_asm) (by k_asm) (by k_asm) (by k_mem) (by k_inst) (by k_is) (by ks_is) (by k_is) (by decide) ?_; k_whole; intro q' h' F' N' l1; (try k_lt l1))
  | (refine Mine.sup_method Mine.bound_len (by k_asm) (by k_asm) (by k_asm) (by k_mem) (by k_inst) (by k_is) (by ks_is) (by k_is) (by decide) ?_; k_whole; intro q' h' F' N' l1; (try k_lt l1))))
  k_with "callWith ref" => (k_here; k_dflt (refine Mine.callWith_bm (by k_asm) (by k_mem) (by rfl) (by rfl) ?_; k_whole))
  k_with "call ref" => (k_here; k_dflt (first
  | (refine Mine.bm_pop (by k_asm) (by k_asm) (by k_asm) (by k_mem) (by k_inst) (by k_is) (by rfl) (by (first | rfl | decide +kernel)) (by k_upd) (by first | size_fits | (rw [sizeLine_eq]; (first | lia | omega))) ?_; k_whole; intro h' F' N'; (try k_sweep))
  | (refine Mine.bm_init (by k_asm) (by k_asm) (by k_mem) (by k_inst) (by k_upd) ?_; k_whole; intro h' F' N'; (try k_sweep))
  | (refine Mine.bm_len (by k_asm) (by k_mem) (by k_inst) ?_; k_whole)))
  k_with "call builtin:list.append" => (k_here; k_dflt (refine Mine.acc_append (by k_asm) (by k_asm) (by k_asm) (by k_inst) (by k_is) (by k_upd) (by first | size_fits | (rw [sizeLine_eq]; (first | lia | omega))) ?_; k_whole; intro h' F' N'; (try k_sweep)))
  k_with "wpAt" => ((try dsimp only); ks_step "execs cons"; refine ks_wpAt_execs_cons ?_)
  k_with "wpAt" => (k_dflt (ks_step "exec Expr"; refine ks_wpAt_Expr_any ?_))
  k_with "wpAt" => (k_dflt (ks_step "exec Return"; refine ks_wpAt_Return_some ?_))
  k_with "wpAt" => (k_dflt (ks_step "exec Assign"; first | refine ks_wpAt_Assign_Name ?_ | refine ks_wpAt_Assign_Attr ?_))
  k_with "wpAt" => (k_dflt (ks_step "exec If"; refine ks_wpAt_If ?_))
  k_with "wpAt" => (k_dflt (ks_step "eval BinOp"; refine ks_wpAt_BinOp2 ?_))
  k_with "wpAt" => (k_dflt (ks_step "eval Call"; refine ks_wpAt_MethodCall ?_))
  k_with "wpAt" => (k_dflt (ks_step "attributeBase Call"; k_here; (refine ks_node (by k_asm) (by k_asm) (by k_asm) (by k_asm) (by k_is) (by rfl) (by rfl) (by k_inst) (by k_is) (by rfl) (by first | rfl | decide +kernel) (by k_is) (by k_is) (by k_is) (by k_is) (by decide) (by rfl) (by rfl) (by rfl) (by rfl) (by decide +kernel) (by first | boot_by_name | rfl | kernel_rfl) ?_; intro so' h' F' N' l1; (try k_lt l1))))
  k_with "eval Name" => (k_here; (with_reducible show wpAny _ _ (PySem.eval _ (genEnv _ _ _ _ _ _)) _ _ _); k_dflt (refine Mine.gname_L (by k_asm) (by assumption) ?_; k_whole))
  k_with "eval Name" => (k_here; (with_reducible show wpAny _ _ (PySem.eval _ (genEnv _ _ _ _ _ _)) _ _ _); k_dflt (refine Mine.gname_B (by k_asm) (by k_asm) (by k_asm) (by k_is) (by boot_by_name) (by decide) ?_; k_whole))
  k_with "getAttr ref" => (k_here; k_dflt (refine Mine.acc_get (by k_asm) (by k_asm) (by k_inst) (by k_is) (by k_is) (by k_is) (by k_is) (by k_is) (by first | assumption | k_get) (by k_handed) ?_; k_whole))
  k_with "call builtin:len" => (k_here; (with_reducible show wpAny _ _ (call (Value.builtin "len") [Value.str _ _]) _ _ _); k_dflt (refine Mine.len_txt (by assumption) ?_; k_whole))
  k_with "eval Name" => (k_here; (with_reducible show wpAny _ _ (PySem.eval _ (genEnv _ _ _ _ _ _)) _ _ _); k_dflt (refine Mine.gname_K (by k_asm) (by k_asm) (by k_asm) (by k_is) ?_; k_whole))
  k_with "newTuple" => ((with_reducible rename Mine.GMark => hG9); k_here; k_dflt (refine Mine.newTuple_G (by k_asm) ?_ (by size_fits)); k_whole; intro F' N'; (try k_sweep))
  trivial
section
variable {prog : Program} {w : World} {A A₀ : Around} {E : Value → Shared → Prop} {s : Shared} {K : Frag} {base h₀ : Heap} {env : Env} {outer : List Env} {L : Addr} {m mg mb : Str → Option Value} {news : List (Addr × Obj)} {p : Program} {loose : List Str} {mean : ExcName → Option Value}
theorem enterL {R : Result → Shared → Prop} {name qual : Str} {params : Arguments} {body : List Stmt} {scope : Scope} {dV kV doc pm cdv ct oc : Value} {an od : Option Addr} {osl : Array (Option Value)} {f : Addr} {args : Args} {binds : List (Str × Value)}
    (B : Below A₀ base outer h₀) (F : Fr h₀ L s.heap m) (X₀ : K.In h₀) (N : News h₀ L s.heap news) (T : Top p loose mean mg mb h₀) (hA : A.frames = some (env :: outer)) (hf : env.frame = some L) (hke : env.scope.kind = .function)
    (ho : K.lookup f = some ⟨oc, od, .func (fnOf name qual params body scope dV kV doc pm an cdv ct), osl⟩) (hcd : codeIn K cdv qual = true) (hroom : A.depth < recursionLimit)
    (hbind : BindsTo s (fnOf name qual params body scope dV kV doc pm an cdv ct) args binds) (hloc : ∀ y ∈ binds, scope.names.lookup y.1 = some .local)
    (h : ∀ g L' h₁, (∀ b o, s.heap.get? b = some o → b ∉ news.map (·.1) → g.get? b = some o) → Fr g L' h₁ (fun y => binds.reverse.lookup y) → News g L' h₁ news → Below A base (env :: outer) g → K.In g → Top p loose mean mg mb g → (∀ p ∈ news, p.1 < L') →
      wpAny (model prog w) (A.deeper (envOf qual scope L' f cdv)) (execs body (envOf qual scope L' f cdv))
        (fun fl s' => R (.ok (.ret (match fl with | .ret v => v | _ => .none))) s')
        (fun e s' => wpAny (model prog w) (A.deeper (envOf qual scope L' f cdv)) (leaving (envOf qual scope L' f cdv) e) (fun _ s'' => R (.error e) s'') (fun e' s'' => R (.error e') s'') s')
        { s with heap := h₁, toks := s.toks + binds.length })
    (hco : scope.isCoroutine = false) (hgen : scope.isGenerator = false) (hk : scope.kind = .function) (hcell : ∀ x ∈ scope.names, x.2 ≠ .cell) : codeAny (model prog w) A (.call (.ref f) args) R s := by
  obtain ⟨FG, BG, st, lv⟩ := groundX (R := R) B F N hA hf hke
  refine codeAny_call_def (fd := fnOf name qual params body scope dV kV doc pm an cdv ct) (body := body) (binds := binds) hroom ((X₀.keeps F.keep) _ _ ho) rfl (T.nolimit.keeps F.keep) (codeRec_of (X₀.keeps F.keep) hcd) rfl hbind hcell hloc (fun h₁ hns hk₁ => ?_) hco hgen hk
  exact h _ s.heap.objs.size h₁ (fun b o e hb => hideAll_get _ e hb) ⟨hns, fun b o e => hk₁ b o (of_hideAll _ e), Nat.le_of_eq (hideAll_size _ _)⟩
    (fun p hp => ⟨hk₁ _ _ (N p hp).1, Nat.ne_of_lt (Heap.lt_size (N p hp).1), hideAll_none _ (List.mem_map_of_mem hp)⟩) BG (X₀.keeps st) (T.keeps st) (fun p hp => Heap.lt_size (N p hp).1)
end

theorem triples_of {h : Heap} {c P : Addr} {tp : Array Value} (x : TabIn h c P tp) : TriplesOk tp.toList := by
  obtain ⟨⟨o, vs, file, tf, flags, tg, inF, text, tt, op, a, r1, r2, r3, r4, r5, r6, b, r7, r8, r9⟩, _⟩ := x
  exact r8
theorem pairs_snoc {h₀ h : Heap} {L T : Addr} {m : Str → Option Value} {news : List (Addr × Obj)} {a b : Str} {ta tb : Tok} {n : Nat} : ∀ {xs : List Value} {ps : List (Str × Str)}, PairsAt h₀ xs ps → Fr h₀ L h m → News h₀ L h news → (T, ({ cls := .type "tuple", data := .seq [.str a ta, .str b tb].toArray n } : Obj)) ∈ news → PairsAt h (xs ++ [.ref T]) (ps ++ [(a, b)])
  | [], [], _, F, N, hm => ⟨⟨T, ta, tb, rfl, _, (N _ hm).1, rfl, _, rfl⟩, trivial⟩
  | v :: vs, p :: ps, x, F, N, hm => ⟨x.1.keeps fun T o _ e => F.keep T o e, pairs_snoc x.2 F N hm⟩
  | [], _ :: _, x, _, _, _ => x.elim
  | _ :: _, [], x, _, _, _ => x.elim
theorem PairsAt.hide {h₀ h g : Heap} {L : Addr} {news : List (Addr × Obj)} {xs : List Value} {ps : List (Str × Str)} (x : PairsAt h xs ps) (N : News h₀ L h news) (hk : ∀ b o, h.get? b = some o → b ∉ news.map (·.1) → g.get? b = some o)
    (hn : ∀ p ∈ news, p.2.cls ≠ .type "tuple") : PairsAt g xs ps := by
  induction xs generalizing ps with
  | nil => cases ps with | nil => trivial | cons _ _ => exact x.elim
  | cons v vs ih =>
    cases ps with
    | nil => exact x.elim
    | cons q ps =>
      obtain ⟨⟨T, ta, tb, rfl, hT⟩, x2⟩ := x
      refine ⟨⟨T, ta, tb, rfl, ?_⟩, ih x2⟩
      obtain ⟨o, e, hc, nn, hd⟩ := hT
      refine ⟨o, hk _ _ e fun hm => ?_, hc, nn, hd⟩
      obtain ⟨q', hq, rfl⟩ := List.mem_map.mp hm
      have := (N _ hq).1.symm.trans e
      injection this with this
      exact hn _ hq (this ▸ hc)
theorem PairsAt.hideT {h₀ h g : Heap} {L : Addr} {news : List (Addr × Obj)} {xs : List Value} {ps : List (Str × Str)} (x : PairsAt h xs ps) (N : News h₀ L h news) (hk : ∀ b o, h.get? b = some o → b ∉ news.map (·.1) → g.get? b = some o)
    (hn : ∀ p ∈ news, p.2.cls ≠ .type "tuple" ∨ .ref p.1 ∉ xs) : PairsAt g xs ps := by
  induction xs generalizing ps with
  | nil => cases ps with | nil => trivial | cons _ _ => exact x.elim
  | cons v vs ih =>
    cases ps with
    | nil => exact x.elim
    | cons q ps =>
      obtain ⟨⟨T, ta, tb, rfl, hT⟩, x2⟩ := x
      refine ⟨⟨T, ta, tb, rfl, ?_⟩, ih x2 fun p hp => (hn p hp).imp id fun h hm => h (.tail _ hm)⟩
      obtain ⟨o, e, hc, nn, hd⟩ := hT
      refine ⟨o, hk _ _ e fun hm => ?_, hc, nn, hd⟩
      obtain ⟨q', hq, rfl⟩ := List.mem_map.mp hm
      have := (N _ hq).1.symm.trans e
      injection this with this
      rcases hn _ hq with h | h
      · exact h (this ▸ hc)
      · exact h (.head _)
theorem total_nonneg (ps : List (Str × Str)) : 0 ≤ total ps := by
  unfold total
  induction ps with
  | nil => simp
  | cons q ps ih => rw [List.map_cons, List.sum_cons]; (first | lia | omega)
theorem total_cons (q : Str × Str) (ps : List (Str × Str)) : total (q :: ps) = ((q.1.length + q.2.length : Nat) : Int) + total ps := by simp [total]
theorem total_snoc (q : Str × Str) (ps : List (Str × Str)) : total (ps ++ [q]) = total ps + ((q.1.length + q.2.length : Nat) : Int) := by simp [total]
theorem total_take (ps : List (Str × Str)) (n : Nat) : total (ps.take n) ≤ total ps := by
  induction ps generalizing n with
  | nil => simp
  | cons q ps ih =>
    cases n with
    | zero => simp only [List.take_zero]; have := total_nonneg (q :: ps); simpa [total] using this
    | succ n => rw [List.take_succ_cons, total_cons, total_cons]; have := ih n; (first | lia | omega)
theorem pre_le (ps : List (Str × Str)) (j : Nat) (hj : j < ps.length) : preSum (fun j => (ps.map fun q => ((q.1.length + q.2.length : Nat) : Int)).getD j 0) (j + 1) = total (ps.take (j + 1)) := by
  have := preSum_getD (ps.map fun q => ((q.1.length + q.2.length : Nat) : Int)) (j + 1) (by simp; (first | lia | omega))
  rw [this, ← List.map_take]; rfl

section
variable {w : World} {A : Around} {E Q : Value → Shared → Prop} {s : Shared} {h₀ : Heap} {L : Addr} {m mg mb : Str → Option Value} {news : List (Addr × Obj)} {p : Program} {loose : List Str} {mean : ExcName → Option Value}
    {x dx : Addr} {xs : List Value} {n k : Nat} {es : List DictEntry} {i0 : Int} {t0 : Tok} {tp : Array Value} {ps : List (Str × Str)}
theorem tab_at {K : Frag} {c P : Addr} {cd : Option Addr} {vs : Array Value} {sl : Array (Option Value)} {file : Str} {tf tg tt : Tok} {flags text : Int} {inF : Bool} (F : Fr h₀ L s.heap m) (X₀ : K.In h₀) (N : News h₀ L s.heap news) (hP : (P, X.tableObj tp) ∈ news) (ht : TriplesOk tp.toList)
    (hc : K.lookup c = some ⟨.type "code", cd, .fields vs, sl⟩) (e11 : vs[11]? = some (.ref P)) (e18 : vs[18]? = some (.str file tf)) (e7 : vs[7]? = some (.int flags tg)) (e9 : vs[9]? = some (.bool inF)) (e10 : vs[10]? = some (.int text tt)) : TabIn s.heap c P tp := by
  have hC := (X₀.keeps F.keep) _ _ hc
  have hPt := (N _ hP).1
  have hne : c ≠ P := fun q => by
    rw [q] at hC
    have := hC.symm.trans hPt
    cases this
  have gd : ∀ {i : Nat} {v : Value}, vs[i]? = some v → vs.getD i .none = v := fun e => by rw [Array.getD_eq_getD_getElem?, e]; rfl
  exact ⟨⟨_, vs, file, tf, flags, tg, inF, text, tt, _, hC, rfl, gd e11, gd e18, gd e7, gd e9, gd e10, hPt, rfl, ht, hne⟩, ⟨_, vs, hC, rfl, rfl, e11⟩, hPt⟩

theorem acc_len_L {cd : Option Addr} {vs : Array Value} {sl : Array (Option Value)} {file : Str} {tf tg tt : Tok} {flags text : Int} {inF : Bool}
    (F : Fr h₀ L s.heap m) (X₀ : (hd.heap_1 w.params).In h₀) (N : News h₀ L s.heap news) (T : Top p loose mean mg mb h₀) (hh : A.handled = none) (hd1 : A.depth + 6 < recursionLimit) (hu : A.units + 40 < cLine) (G : AllBare s.gens)
    (hx : (x, accObj 185 dx xs n) ∈ news) (hdx : (dx, dictOf es k) ∈ news) (hes : getL (Str.ofString "_initial_size") es = some (some (.int i0 t0))) (hP : (147, X.tableObj tp) ∈ news) (ht : TriplesOk tp.toList)
    (hc : (hd.heap_1 w.params).lookup 151 = some ⟨.type "code", cd, .fields vs, sl⟩) (e11 : vs[11]? = some (.ref 147)) (e18 : vs[18]? = some (.str file tf)) (e7 : vs[7]? = some (.int flags tg)) (e9 : vs[9]? = some (.bool inF)) (e10 : vs[10]? = some (.int text tt))
    (PA : PairsAt s.heap xs ps) (hsm : ∀ q ∈ ps, q.1.length ≤ 1048576 ∧ q.2.length ≤ 1048576) (hi0 : 0 ≤ i0) (hfit : i0 + total ps ≤ 1099511627776)
    (hQ : ∀ s' t' tp', TriplesOk tp'.toList → Fr h₀ L s'.heap m → (∀ news', Upd 147 (X.tableObj tp) (X.tableObj tp') news news' → News h₀ L s'.heap news') → AllBare s'.gens → s'.os = s.os → 0 ≤ i0 + total ps → Q (.int (i0 + total ps) t') s') :
    wpAny (model PySem.Challenge.rw_xl0020_01.row.prog w) A (call (.ref 152) [.ref x]) Q E s := by
  have TI := tab_at F X₀ N hP ht hc e11 e18 e7 e9 e10
  have t0 := total_nonneg ps
  refine len_body w F X₀ N T hh hd1 hu G hx hdx hes hP TI PA hsm ⟨by (first | lia | omega), by (first | lia | omega)⟩ (fun j hj => ?_) fun s' t' tp' TI' hk G' os' => ?_
  · have hj' : j < ps.length := by rw [← PA.length]; exact hj
    rw [pre_le ps j hj']
    have h1 := total_take ps (j + 1)
    have h2 := total_nonneg (ps.take (j + 1))
    have h3 := hsm ps[j] (List.getElem_mem hj')
    refine ⟨⟨?_, ?_⟩, by (first | lia | omega), by (first | lia | omega)⟩ <;> (rw [List.getD_eq_getElem?_getD, List.getElem?_map, List.getElem?_eq_getElem hj']; simp only [Option.map_some, Option.getD_some]; (first | lia | omega))
  · exact hQ s' t' tp' (triples_of TI') (fr_after F (N _ hP).2.1 (N _ hP).2.2 hk) (fun news' U => news_after N U hk TI'.at_) G' os' (by (first | lia | omega))
end
end

section
open PySem PySem.W PyProof.Rows PySem.Calls PySem.Spec
set_option maxRecDepth 100000
set_option maxHeartbeats 4000000
def TurnG (h₀ : Heap) (L I : Addr) (o : Obj) (Jn : (Str → Option Value) → List (Addr × Obj) → Shared → Prop) (Qr : Value → Shared → Prop) (Qb : Shared → Prop) (f : Flow) (s₂ : Shared) : Prop := match f with
  | .next | .cont => ∃ m₂ news₂, Fr h₀ L s₂.heap m₂ ∧ News h₀ L s₂.heap ((I, o) :: news₂) ∧ (∀ p ∈ news₂, p.1 ≠ I) ∧ Jn m₂ news₂ s₂
  | .brk => Qb s₂
  | .ret v => Qr v s₂

section
variable {prog : Program} {w : World} {A : Around} {s : Shared} {env : Env} {h₀ : Heap} {E : Value → Shared → Prop} {Q : Flow → Shared → Prop} {x : Str} {px : Pos} {body orelse : List Stmt} {I : Addr} {n : Nat} {P : Nat → Value → Prop}
  {m : Str → Option Value} {news : List (Addr × Obj)}

def LoopAtG (prog : Program) (w : World) (A : Around) (h₀ : Heap) (env : Env) (x : Str) (px : Pos) (body orelse : List Stmt) (Q : Flow → Shared → Prop) (E : Value → Shared → Prop) (it : Value) (s₂ : Shared) : Prop :=
  codeAny (model prog w) A (.forLoop (.Name x px) it body orelse env) (fun r s' => match r with | .ok f => Q f s' | .error e => cameBackBy (model prog w) A env E e s') s₂

theorem For_G {iter : Expr} {pos : Pos} (h₀ : Heap)
    (h : wpAny (model prog w) A (eval iter env) (fun xv s₁ => wpAny (model prog w) A (pyIter xv) (fun it s₂ => LoopAtG prog w A h₀ env x px body orelse Q E it s₂) E s₁) E s)
    (hs : ∀ x, foldedSetIterable iter env x = pure x := by intro _; rfl) :
    wpAny (model prog w) A (exec (.For (.Name x px) iter body orelse pos) env) Q E s :=
  wpAny_For (wpAny_mono h (fun _ _ h₁ => wpAny_mono h₁ (fun _ _ h₂ => h₂) fun _ _ e => e) fun _ _ e => e) hs

/-- the loop's state -/
inductive LoopI (h₀ : Heap) (L I : Addr) (n : Nat) (St : Nat → Heap → Prop) (J : Nat → (Str → Option Value) → List (Addr × Obj) → Shared → Prop) : Nat → Shared → Prop
  | mk {s' : Shared} (m' : Str → Option Value) (news' : List (Addr × Obj)) (i : Nat) (hst : St i s'.heap) (F : Fr h₀ L s'.heap m') (N : News h₀ L s'.heap news') (hnw : ∀ p ∈ news', p.1 ≠ I) (hJ : J i m' news' s') (hi : i ≤ n) : LoopI h₀ L I n St J (n + 1 - i) s'
/-- what storing the loop's name does: Sto v m news m' news' -/
theorem loopH {St : Nat → Heap → Prop} {PO : Obj → Prop} (PN : List (Addr × Obj) → Prop) (Sto : Value → (Str → Option Value) → List (Addr × Obj) → (Str → Option Value) → List (Addr × Obj) → Prop) (hE : PassesOwn (model prog w) A env E) (W : Walks prog w A I [I] [I] n P St)
    (hsto : ∀ (v : Value) (s : Shared) m news (R : Unit → Shared → Prop) (E' : Value → Shared → Prop), Fr h₀ env.locals s.heap m → News h₀ env.locals s.heap news → (∀ p ∈ news, p.1 ≠ I) → PN news →
      (∀ h' tk m' news', Fr h₀ env.locals h' m' → News h₀ env.locals h' news' → (∀ p ∈ news', p.1 ≠ I) → (∀ b o, b = I → s.heap.get? b = some o → h'.get? b = some o) → Sto v m news m' news' → R () { s with heap := h', toks := tk }) → wpAny (model prog w) A (storeName env x v) R E' s)
    (hLI : env.locals ≠ I) (hIn : h₀.get? I = none) (hL : ∀ i h, St i h → ∃ o, h.get? I = some o ∧ PO o) (hst : St 0 s.heap) (F : Fr h₀ env.locals s.heap m) (N : News h₀ env.locals s.heap news) (hnw : ∀ p ∈ news, p.1 ≠ I)
    (J : Nat → (Str → Option Value) → List (Addr × Obj) → Shared → Prop) (hJs : ∀ i m news s h tk, J i m news s → J i m news { s with heap := h, toks := tk }) (h0 : J 0 m news s) (hJP : ∀ i m news s, J i m news s → PN news)
    (step : ∀ i v m₀ news₀ m₁ news₁ s₁ o, i < n → P i v → PO o → J i m₀ news₀ s₁ → Sto v m₀ news₀ m₁ news₁ → (∀ p ∈ news₁, p.1 ≠ I) → Fr h₀ env.locals s₁.heap m₁ → News h₀ env.locals s₁.heap ((I, o) :: news₁) →
      wpAny (model prog w) A (execs body env) (TurnG h₀ env.locals I o (J (i + 1)) (fun v s' => Q (.ret v) s') (fun s' => Q .next s')) E s₁)
    (fin : ∀ m' news' s', Fr h₀ env.locals s'.heap m' → News h₀ env.locals s'.heap news' → J n m' news' s' → wpAny (model prog w) A (execs orelse env) Q E s') :
    LoopAtG prog w A h₀ env x px body orelse Q E (.ref I) s := by
  have old : ∀ b o, h₀.get? b = some o → b ≠ I := fun b o e q => by rw [q, hIn] at e; cases e
  refine codeAny_forLoop
    (LoopI h₀ env.locals I n St J) ?_ (n + 1)
    (.mk m news 0 hst F N hnw h0 (Nat.zero_le _))
  rintro k s' ⟨m', news', i, hst', F', N', hnw', hJ, hi⟩
  have next : ∀ h₁ : Heap, (∀ b o, b ∉ [I] → s'.heap.get? b = some o → h₁.get? b = some o) → Fr h₀ env.locals h₁ m' ∧ News h₀ env.locals h₁ news' := fun h₁ hk₁ =>
    ⟨⟨F'.ns.at' fun o e => hk₁ _ o (by simp [hLI]) e, fun b o e => hk₁ b o (by simp [old b o e]) (F'.keep b o e), F'.above⟩, fun p hp => ⟨hk₁ _ _ (by simp [hnw' p hp]) (N' p hp).1, (N' p hp).2⟩⟩
  by_cases hlt : i < n
  · refine W.item i _ _ _ hlt hst' fun v h₁ tk₁ hP hst₁ hk₁ => ?_
    obtain ⟨F₁, N₁⟩ := next h₁ hk₁
    refine wpAny_assign_Name (hsto v _ _ _ _ _ F₁ N₁ hnw' (hJP _ _ _ _ hJ) fun h₂ tk₂ m₂ news₂ F₂ N₂ hn₂ hk₂ hS => ?_)
    have hst₂ : St (i + 1) h₂ := W.frame _ _ _ hst₁ fun b hb o e => hk₂ b o (by simpa using hb) e
    · obtain ⟨o, ho, hpo⟩ := hL _ _ hst₂
      have N₃ : News h₀ env.locals h₂ ((I, o) :: news₂) := fun p hp => by
        rcases List.mem_cons.mp hp with rfl | hp
        · exact ⟨ho, Ne.symm hLI, hIn⟩
        · exact N₂ p hp
      refine wpAny_passesOwn hE (wpAny_mono (step i v m' news' m₂ news₂ _ o hlt hP hpo (by exact hJs _ _ _ s' _ _ hJ) hS hn₂ F₂ N₃) (fun f s₃ h₃ => ?_) fun _ _ e => e)
      have nx : (∃ m₂ news₂, Fr h₀ env.locals s₃.heap m₂ ∧ News h₀ env.locals s₃.heap ((I, o) :: news₂) ∧ (∀ p ∈ news₂, p.1 ≠ I) ∧ J (i + 1) m₂ news₂ s₃) → ∃ k', k' < n + 1 - i ∧ LoopI h₀ env.locals I n St J k' s₃ := by
        rintro ⟨m₂, news₂, F₃, N₃, ha₃, hJ₃⟩
        refine ⟨n + 1 - (i + 1), Nat.sub_lt_sub_left (Nat.lt_succ_of_lt hlt) (Nat.lt_succ_self i), .mk m₂ news₂ (i + 1) (W.frame _ _ _ hst₂ (fun b hb o' e => ?_)) F₃ (fun p hp => N₃ p (.tail _ hp)) ha₃ hJ₃ hlt⟩
        simp only [List.mem_singleton] at hb
        subst hb
        rw [ho] at e
        cases e
        exact (N₃ _ (.head _)).1
      cases f with
      | next => exact nx h₃
      | cont => exact nx h₃
      | brk => exact h₃
      | ret v => exact h₃
  · have hin : i = n := by (first | lia | omega)
    subst hin
    refine W.done _ _ _ hst' fun h₁ tk₁ hk₁ => ?_
    obtain ⟨F₁, N₁⟩ := next h₁ hk₁
    exact wpAny_passesOwn hE (fin m' news' _ F₁ N₁ (by exact hJs _ _ _ s' _ _ hJ))
theorem loopG {St : Nat → Heap → Prop} (hE : PassesOwn (model prog w) A env E) (W : Walks prog w A I [I] [I] n P St) (hx : env.kindOf x = some .local)
    (hp : (env.scope.kind == .class || (env.scope.kind == .module && env.locals != env.globals)) = false)
    (hLI : env.locals ≠ I) (hIn : h₀.get? I = none) (hL : ∀ i h, St i h → ∃ o, h.get? I = some o) (hst : St 0 s.heap) (F : Fr h₀ env.locals s.heap m) (N : News h₀ env.locals s.heap news) (hnw : ∀ p ∈ news, p.1 ≠ I)
    (J : Nat → (Str → Option Value) → List (Addr × Obj) → Shared → Prop) (hJs : ∀ i m news s h tk, J i m news s → J i m news { s with heap := h, toks := tk }) (h0 : J 0 m news s)
    (step : ∀ i v m₁ news₁ s₁ o, i < n → P i v → J i m₁ news₁ s₁ → (∀ p ∈ news₁, p.1 ≠ I) → Fr h₀ env.locals s₁.heap (fun y => if y = x then some v else m₁ y) → News h₀ env.locals s₁.heap ((I, o) :: news₁) →
      wpAny (model prog w) A (execs body env) (TurnG h₀ env.locals I o (J (i + 1)) (fun v s' => Q (.ret v) s') (fun s' => Q .next s')) E s₁)
    (fin : ∀ m' news' s', Fr h₀ env.locals s'.heap m' → News h₀ env.locals s'.heap news' → J n m' news' s' → wpAny (model prog w) A (execs orelse env) Q E s') :
    LoopAtG prog w A h₀ env x px body orelse Q E (.ref I) s := by
  refine loopH (PO := fun _ => True) (fun _ => True) (fun v m₀ news₀ m₁ news₁ => m₁ = (fun y => if y = x then some v else m₀ y) ∧ news₁ = news₀) hE W ?_ hLI hIn (fun i h e => (hL i h e).imp fun _ e => ⟨e, trivial⟩) hst F N hnw J hJs h0 (fun _ _ _ _ _ => trivial) ?_ fin
  · intro v s m₀ news₀ R E' F₁ N₁ hn _ k
    refine wpAny_storeName_local hx F₁.ns (fun h₂ hn₂ hs₂ => ?_) hp
    exact k h₂ _ _ _ (F₁.set hn₂ hs₂) (N₁.set hs₂) hn (fun b o hb e => (hs₂.2 b fun q => hLI (q.symm.trans hb)).trans e) ⟨rfl, rfl⟩
  · rintro i v m₀ news₀ m₁ news₁ s₁ o hi hP - hJ ⟨rfl, rfl⟩ ha F₁ N₁
    exact step i v m₀ news₁ s₁ o hi hP hJ ha F₁ N₁
theorem rangeWalks (hh : A.handled = none) (I : Addr) (a c : Int) (n : Nat) : Walks prog w A I [I] [I] n (fun i v => ∃ t, v = .int (a + (i : Int) * c) t) (fun i h => IsRangeIter h I (a + (i : Nat) * c) ((n : Int) - (i : Nat)) c) where
  sub := fun _ hb => hb
  frame := fun _ _ _ st hk => hk I (by simp) _ st
  item := fun i s Q E hi st hQ => by
    refine wpAny_pyNext_range_item st (by (first | lia | omega)) fun h' hit' hs' => ?_
    refine hQ _ h' (s.toks + 1) ⟨_, rfl⟩ ?_ fun b o hb e => hs'.extBut b o (fun h => hb (by simp [h])) e
    have e1 : a + ((i + 1 : Nat) : Int) * c = a + (i : Int) * c + c := by push_cast; rw [Int.add_mul, Int.one_mul, Int.add_assoc]
    have e2 : (n : Int) - ((i + 1 : Nat) : Int) = (n : Int) - (i : Int) - 1 := by push_cast; (first | lia | omega)
    rw [e1, e2]; exact hit'
  done := fun s Q E st hQ => wpAny_pyNext_range_end hh st (by (first | lia | omega)) fun h' he' => hQ h' s.toks fun b o hb e => he' b o (fun h => hb (by simp [h])) e
  self := fun _ _ _ _ st hQ => wpAny_pyIter_rangeiter st hQ

theorem loopG_range {r : Addr} {a b c : Int} {t u v : Tok} (hE : PassesOwn (model prog w) A env E) (hh : A.handled = none) (hr : IsRange s.heap r a b c t u v) (hsmall : Builtin.Range.small a b c = true) (hn : Builtin.Range.rangeSize a b c = (n : Int)) (hx : env.kindOf x = some .local)
    (hp : (env.scope.kind == .class || (env.scope.kind == .module && env.locals != env.globals)) = false)
    (F : Fr h₀ env.locals s.heap m) (N : News h₀ env.locals s.heap news)
    (J : Nat → (Str → Option Value) → List (Addr × Obj) → Shared → Prop) (hJs : ∀ i m news s h tk, J i m news s → J i m news { s with heap := h, toks := tk }) (h0 : J 0 m news s)
    (step : ∀ I i tk m₁ news₁ s₁ o, i < n → J i m₁ news₁ s₁ → (∀ p ∈ news₁, p.1 ≠ I) → Fr h₀ env.locals s₁.heap (fun y => if y = x then some (.int (a + (i : Int) * c) tk) else m₁ y) → News h₀ env.locals s₁.heap ((I, o) :: news₁) →
      wpAny (model prog w) A (execs body env) (TurnG h₀ env.locals I o (J (i + 1)) (fun v s' => Q (.ret v) s') (fun s' => Q .next s')) E s₁)
    (fin : ∀ m' news' s', Fr h₀ env.locals s'.heap m' → News h₀ env.locals s'.heap news' → J n m' news' s' → wpAny (model prog w) A (execs orelse env) Q E s') :
    wpAny (model prog w) A (pyIter (.ref r)) (fun it s₂ => LoopAtG prog w A h₀ env x px body orelse Q E it s₂) E s := by
  refine wpAny_pyIter_range hr hsmall ?_
  have hI : h₀.get? s.heap.objs.size = none := by
    cases e : h₀.get? s.heap.objs.size with
    | none => rfl
    | some o => exact absurd (Heap.lt_size (F.keep _ _ e)) (Nat.lt_irrefl _)
  refine loopG hE (rangeWalks hh s.heap.objs.size a c n) hx hp (Nat.ne_of_lt F.ns.lt) hI (fun i h st => ⟨_, st⟩) ?_ (F.push _) (N.pushKeep _) (fun p hp => N.apart p hp) J hJs (by exact hJs _ _ _ s _ _ h0) (fun i v m₁ news₁ s₁ o hi hP hJ ha F₁ N₁ => ?_) fin
  · show IsRangeIter _ _ (a + (0 : Nat) * c) ((n : Int) - (0 : Nat)) c
    rw [hn]
    simp only [Int.ofNat_zero, Int.zero_mul, Int.add_zero, Int.sub_zero]
    exact Heap.get?_push_size _ rfl
  · obtain ⟨tk, rfl⟩ := hP
    exact step _ i tk m₁ news₁ s₁ o hi hJ ha F₁ N₁

theorem loopG_str {xs : Str} {t : Tok} (hE : PassesOwn (model prog w) A env E) (hh : A.handled = none) (hasc : xs.cps.all (· < 128) = true) (hx : env.kindOf x = some .local)
    (hp : (env.scope.kind == .class || (env.scope.kind == .module && env.locals != env.globals)) = false)
    (F : Fr h₀ env.locals s.heap m) (N : News h₀ env.locals s.heap news)
    (J : Nat → (Str → Option Value) → List (Addr × Obj) → Shared → Prop) (hJs : ∀ i m news s h tk, J i m news s → J i m news { s with heap := h, toks := tk }) (h0 : J 0 m news s)
    (step : ∀ I i ch u m₁ news₁ s₁ o, i < xs.cps.size → xs.cps[i]? = some ch → J i m₁ news₁ s₁ → (∀ p ∈ news₁, p.1 ≠ I) → Fr h₀ env.locals s₁.heap (fun y => if y = x then some (.str ⟨#[ch]⟩ u) else m₁ y) → News h₀ env.locals s₁.heap ((I, o) :: news₁) →
      wpAny (model prog w) A (execs body env) (TurnG h₀ env.locals I o (J (i + 1)) (fun v s' => Q (.ret v) s') (fun s' => Q .next s')) E s₁)
    (fin : ∀ m' news' s', Fr h₀ env.locals s'.heap m' → News h₀ env.locals s'.heap news' → J xs.cps.size m' news' s' → wpAny (model prog w) A (execs orelse env) Q E s') :
    wpAny (model prog w) A (pyIter (.str xs t)) (fun it s₂ => LoopAtG prog w A h₀ env x px body orelse Q E it s₂) E s := by
  refine wpAny_pyIter_ascii hasc ?_
  have hI : h₀.get? s.heap.objs.size = none := by
    cases e : h₀.get? s.heap.objs.size with
    | none => rfl
    | some o => exact absurd (Heap.lt_size (F.keep _ _ e)) (Nat.lt_irrefl _)
  refine loopG hE (Walks.strAscii hh s.heap.objs.size xs t) hx hp (Nat.ne_of_lt F.ns.lt) hI (fun i h st => let ⟨o, ho, _⟩ := st; ⟨o, ho⟩) ⟨_, Heap.get?_push_size _ rfl, rfl, rfl⟩ (F.push _) (N.pushKeep _) (fun p hp => N.apart p hp) J hJs (by exact hJs _ _ _ s _ _ h0) (fun i v m₁ news₁ s₁ o hi hP hJ ha F₁ N₁ => ?_) fin
  obtain ⟨ch, u, hc, rfl⟩ := hP
  exact step _ i ch u m₁ news₁ s₁ o hi hc hJ ha F₁ N₁
end
end

section
open PySem PySem.W PyProof.Rows PySem.Calls PySem.Spec
set_option maxRecDepth 100000
set_option maxHeartbeats 4000000
/-- the marks that the maker's texts bear -/
structure FT where
  (k1 k2 k3 k4 k5 k6 k7 : Int)
  (t1 t2 t3 t4 t5 t6 t7 u1 u2 u3 u4 u7 : Tok)
abbrev fmtLed (z : FT) (mx i0 : Int) (am ad al ac acd : Addr) (ls : List Value) (nl : Nat) (xs : List Value) (n : Nat) (tp1 tp2 : Array Value) : List (Addr × Obj) :=
  [(am, instObj 101 ad), (ad, dictOf [⟨z.k1, .str (Str.ofString "_maxlen") z.t1, .int mx z.u1⟩, ⟨z.k2, .str (Str.ofString "_continuation_ws") z.t2, .str (Str.ofString " ") z.u2⟩, ⟨z.k3, .str (Str.ofString "_continuation_ws_len") z.t3, .int 1 z.u3⟩,
    ⟨z.k4, .str (Str.ofString "_splitchars") z.t4, .str (Str.ofString "; ") z.u4⟩, ⟨z.k5, .str (Str.ofString "_lines") z.t5, .ref al⟩, ⟨z.k6, .str (Str.ofString "_current_line") z.t6, .ref ac⟩] 6),
   (al, W.listOf ls.toArray nl), (ac, accObj 185 acd xs n), (acd, dictOf [⟨z.k7, .str (Str.ofString "_initial_size") z.t7, .int i0 z.u7⟩] 1), (147, X.tableObj tp1), (154, X.tableObj tp2)]

structure FSt where
  i0 : Int
  lines : List Str
  ps : List (Str × Str)

def LinesAt : List Value → List Str → Prop
  | [], [] => True
  | v :: vs, x :: xs => (∃ t, v = .str x t) ∧ LinesAt vs xs
  | _, _ => False
theorem LinesAt.snoc {a : Str} {t : Tok} : ∀ {vs : List Value} {xs : List Str}, LinesAt vs xs → LinesAt (vs ++ [.str a t]) (xs ++ [a])
  | [], [], _ => ⟨⟨t, rfl⟩, trivial⟩
  | _ :: _, _ :: _, h => ⟨h.1, LinesAt.snoc h.2⟩
  | [], _ :: _, h => h.elim
  | _ :: _, [], h => h.elim
theorem LinesAt.length : ∀ {vs : List Value} {xs : List Str}, LinesAt vs xs → vs.length = xs.length
  | [], [], _ => rfl
  | _ :: _, _ :: _, h => by rw [List.length_cons, List.length_cons, LinesAt.length h.2]
  | [], _ :: _, h => h.elim
  | _ :: _, [], h => h.elim

/-- the row's tuples, written out -/
def Exact (h : Heap) (xs : List Value) : Prop := ∀ T, .ref T ∈ xs → ∃ items n, h.get? T = some { cls := .type "tuple", data := .seq items n }
theorem exact_hide {h₀ h g : Heap} {L : Addr} {news : List (Addr × Obj)} {xs : List Value} (x : Exact h xs) (N : News h₀ L h news) (hk : ∀ b o, h.get? b = some o → b ∉ news.map (·.1) → g.get? b = some o)
    (hn : ∀ p ∈ news, p.2.cls ≠ .type "tuple") : Exact g xs := fun T hT => by
  obtain ⟨items, n, e⟩ := x T hT
  refine ⟨items, n, hk _ _ e fun hm => ?_⟩
  obtain ⟨q, hq, rfl⟩ := List.mem_map.mp hm
  have := (N _ hq).1.symm.trans e
  injection this with this
  exact hn _ hq (by rw [this])
theorem exact_snoc {g h' : Heap} {L' D : Addr} {m' : Str → Option Value} {led' : List (Addr × Obj)} {xs : List Value} {items : Array Value} {n : Nat} (x : Exact g xs) (F : Fr g L' h' m') (N : News g L' h' led') (hm : (D, ({ cls := .type "tuple", data := .seq items n } : Obj)) ∈ led') : Exact h' (xs ++ [.ref D]) := fun T hT => by
  rcases List.mem_append.mp hT with hT | hT
  · obtain ⟨items, n, e⟩ := x T hT
    exact ⟨items, n, F.keep _ _ e⟩
  · simp only [List.mem_singleton, Value.ref.injEq] at hT
    subst hT
    exact ⟨_, _, (N _ hm).1⟩
theorem exact_nil {h : Heap} : Exact h [] := fun _ hT => nomatch hT
/-- the row's tuples stand above -/
def Above (ac : Addr) (xs : List Value) : Prop := ∀ T, .ref T ∈ xs → @LT.lt Nat _ ac T
theorem above_nil {ac : Addr} : Above ac [] := fun _ h => nomatch h
theorem above_snoc {ac D : Addr} {xs : List Value} (h : Above ac xs) (hD : @LT.lt Nat _ ac D) : Above ac (xs ++ [.ref D]) := fun T hT => by
  rcases List.mem_append.mp hT with hT | hT
  · exact h T hT
  · simp only [List.mem_singleton, Value.ref.injEq] at hT
    exact hT ▸ hD
def MakerAt (h₀ : Heap) (L : Addr) (h : Heap) (mx : Int) (am ad al ac acd : Addr) (σ : FSt) : Prop :=
  ∃ z nl n ls xs tp1 tp2, (∀ q ∈ fmtLed z mx σ.i0 am ad al ac acd ls nl xs n tp1 tp2, h.get? q.1 = some q.2) ∧ TriplesOk tp1.toList ∧ TriplesOk tp2.toList ∧ PairsAt h xs σ.ps ∧ LinesAt ls σ.lines ∧ xs.Nodup ∧ Exact h xs ∧ Above ac xs ∧ ∀ T, .ref T ∈ xs → T ≠ L ∧ h₀.get? T = none

theorem News.gets {h₀ h : Heap} {L : Addr} {news led : List (Addr × Obj)} (N : News h₀ L h news) (hs : ∀ q ∈ led, q ∈ news) : ∀ q ∈ led, h.get? q.1 = some q.2 := fun q hq => (N q (hs q hq)).1

theorem MakerAt.of {z : FT} {mx i0 : Int} {am ad al ac acd : Addr} {ls xs : List Value} {nl n : Nat} {tp1 tp2 : Array Value} {ps : List (Str × Str)} {lines : List Str} {h₀ h : Heap} {L : Addr} {news : List (Addr × Obj)} {u7 : Tok} {hB : Heap} {LB : Addr} (N : News h₀ L h news)
    (h1 : (am, instObj 101 ad) ∈ news)
    (h2 : (ad, dictOf [⟨z.k1, .str (Str.ofString "_maxlen") z.t1, .int mx z.u1⟩, ⟨z.k2, .str (Str.ofString "_continuation_ws") z.t2, .str (Str.ofString " ") z.u2⟩, ⟨z.k3, .str (Str.ofString "_continuation_ws_len") z.t3, .int 1 z.u3⟩,
      ⟨z.k4, .str (Str.ofString "_splitchars") z.t4, .str (Str.ofString "; ") z.u4⟩, ⟨z.k5, .str (Str.ofString "_lines") z.t5, .ref al⟩, ⟨z.k6, .str (Str.ofString "_current_line") z.t6, .ref ac⟩] 6) ∈ news)
    (h3 : (al, W.listOf ls.toArray nl) ∈ news) (h4 : (ac, accObj 185 acd xs n) ∈ news) (h5 : (acd, dictOf [⟨z.k7, .str (Str.ofString "_initial_size") z.t7, .int i0 u7⟩] 1) ∈ news) (h6 : (147, X.tableObj tp1) ∈ news) (h7 : (154, X.tableObj tp2) ∈ news)
    (ht1 : TriplesOk tp1.toList) (ht2 : TriplesOk tp2.toList) (PA : PairsAt h xs ps) (hl : LinesAt ls lines) (hnd : xs.Nodup) (hex : Exact h xs) (hab : Above ac xs) (hfr : ∀ T, .ref T ∈ xs → T ≠ LB ∧ hB.get? T = none) : MakerAt hB LB h mx am ad al ac acd ⟨i0, lines, ps⟩ :=
  ⟨{ z with u7 := u7 }, nl, n, ls, xs, tp1, tp2, fun q hq => by
    simp only [fmtLed, List.mem_cons, List.not_mem_nil, or_false] at hq
    rcases hq with rfl | rfl | rfl | rfl | rfl | rfl | rfl
    · exact (N _ h1).1
    · exact (N _ h2).1
    · exact (N _ h3).1
    · exact (N _ h4).1
    · exact (N _ h5).1
    · exact (N _ h6).1
    · exact (N _ h7).1, ht1, ht2, PA, hl, hnd, hex, hab, hfr⟩

theorem fresh_new {h₀ h g h' : Heap} {L L' D : Addr} {led led' : List (Addr × Obj)} {m m' : Str → Option Value} {o : Obj} (F : Fr h₀ L h m) (N : News h₀ L h led) (hk : ∀ b o, h.get? b = some o → b ∉ led.map (·.1) → g.get? b = some o) (_ : Fr g L' h' m') (N' : News g L' h' led') (hm : (D, o) ∈ led') : D ≠ L ∧ h₀.get? D = none := by
  have hg := (N' _ hm).2.2
  refine ⟨fun e => ?_, ?_⟩
  · obtain ⟨o', _, _, e', _⟩ := F.ns
    have := hk L _ e' fun q => by
      obtain ⟨p, hp, e2⟩ := List.mem_map.mp q
      exact (N p hp).2.1 e2
    dsimp only at hg
    rw [e, this] at hg
    cases hg
  · cases e : h₀.get? D with
    | none => rfl
    | some o' =>
      have := hk D o' (F.keep _ _ e) fun q => by
        obtain ⟨p, hp, e2⟩ := List.mem_map.mp q
        have := (N p hp).2.2
        rw [e2, e] at this
        cases this
      dsimp only at hg
      rw [this] at hg
      cases hg
theorem pairs_hasT {h : Heap} {T : Addr} : ∀ {xs : List Value} {ps : List (Str × Str)}, PairsAt h xs ps → .ref T ∈ xs → ∃ o, h.get? T = some o
  | [], _, _, hm => nomatch hm
  | v :: vs, p :: ps, x, hm => by
    rcases List.mem_cons.mp hm with e | hm
    · obtain ⟨⟨T', ta, tb, e', o, ho, _⟩, _⟩ := x
      rw [← e] at e'
      cases e'
      exact ⟨o, ho⟩
    · exact pairs_hasT x.2 hm
  | _ :: _, [], x, _ => x.elim
theorem nodup_snoc {g h' : Heap} {L' D : Addr} {led' : List (Addr × Obj)} {o : Obj} {xs : List Value} {ps : List (Str × Str)} (hnd : xs.Nodup) (PA : PairsAt g xs ps) (N' : News g L' h' led') (hm : (D, o) ∈ led') : (xs ++ [Value.ref D]).Nodup := by
  rw [List.nodup_append]
  refine ⟨hnd, by simp, fun a ha b hb e => ?_⟩
  simp only [List.mem_singleton] at hb
  subst hb e
  obtain ⟨o', ho'⟩ := pairs_hasT PA ha
  have := (N' _ hm).2.2
  dsimp only at this
  rw [this] at ho'
  cases ho'
theorem fresh_snoc {h₀ : Heap} {L D : Addr} {xs : List Value} (h : ∀ T, .ref T ∈ xs → T ≠ L ∧ h₀.get? T = none) (hD : D ≠ L ∧ h₀.get? D = none) : ∀ T, .ref T ∈ xs ++ [.ref D] → T ≠ L ∧ h₀.get? T = none := fun T hT => by
  rcases List.mem_append.mp hT with hT | hT
  · exact h T hT
  · simp only [List.mem_singleton, Value.ref.injEq] at hT
    exact hT ▸ hD

/-- what a call leaves as it stood -/
theorem kept_of {h₀ h g h' : Heap} {L L' : Addr} {led led' : List (Addr × Obj)} {m : Str → Option Value} (N : News h₀ L h led) (hk : ∀ b o, h.get? b = some o → b ∉ led.map (·.1) → g.get? b = some o) (F : Fr g L' h' m) (N' : News g L' h' led') (ch : List Addr)
    (hs : ∀ q ∈ led, q.1 ∉ ch → q ∈ led') : ∀ b o, b ∉ ch → h.get? b = some o → h'.get? b = some o := fun b o hb e => by
  by_cases hm : b ∈ led.map (·.1)
  · obtain ⟨q, hq, rfl⟩ := List.mem_map.mp hm
    have := (N _ hq).1.symm.trans e
    cases this
    exact (N' _ (hs q hq hb)).1
  · exact F.keep b o (hk b o e hm)
theorem News.sub {h₀ h : Heap} {L : Addr} {news led : List (Addr × Obj)} (N : News h₀ L h news) (hs : ∀ q ∈ led, q ∈ news) : News h₀ L h led := fun q hq => N q (hs q hq)
theorem sub_nil {news : List (Addr × Obj)} : ∀ q ∈ ([] : List (Addr × Obj)), q ∈ news := fun _ hq => nomatch hq
theorem sub_cons {a : Addr × Obj} {led news : List (Addr × Obj)} (h : a ∈ news) (ht : ∀ q ∈ led, q ∈ news) : ∀ q ∈ a :: led, q ∈ news := fun q hq => by
  rcases List.mem_cons.mp hq with rfl | hq
  · exact h
  · exact ht q hq
/-- what a search within a call leaves -/
def Past (g : Heap) (L' : Addr) (NW : List (Addr × Obj)) (G : Array GenState) (os : OsState) (am : Addr) (fw st : Str) (p : Nat) (s' : Shared) : Prop :=
  ∃ m' tk t1 t2, Fr g L' s'.heap m' ∧ News g L' s'.heap NW ∧ m' (Str.ofString "self") = some (.ref am) ∧ m' (Str.ofString "i") = some (.int (p : Int) tk) ∧ m' (Str.ofString "fws") = some (.str fw t1) ∧ m' (Str.ofString "string") = some (.str st t2) ∧ s'.gens = G ∧ s'.os = os
theorem wpAny_past {M : Model} {A : Around} {t : Sem Flow} {Q : Flow → Shared → Prop} {E : Value → Shared → Prop} {s : Shared} {g : Heap} {L' : Addr} {NW : List (Addr × Obj)} (_ : News g L' s.heap NW) (am : Addr) (fw st : Str) (p : Nat)
    (hl : wpAny M A t (fun f s' => f = .next ∧ Past g L' NW s.gens s.os am fw st p s') E s)
    (hr : ∀ s', Past g L' NW s.gens s.os am fw st p s' → Q .next s') : wpAny M A t Q E s :=
  wpAny_mono hl (fun f s' h => by obtain ⟨rfl, h⟩ := h; exact hr s' h) fun _ _ e => e
/-- a loop's state: the names outside ex stand as they stood -/
def JL (NW : List (Addr × Obj)) (G : Array GenState) (os : OsState) (m : Str → Option Value) (ex : List Str) (k : Nat) (i : Nat) (m₁ : Str → Option Value) (news₁ : List (Addr × Obj)) (s₁ : Shared) : Prop :=
  i ≤ k ∧ news₁ = NW ∧ (∀ y, ex.contains y = false → m₁ y = m y) ∧ s₁.gens = G ∧ s₁.os = os
theorem frame_ex {m m₁ : Str → Option Value} {ex : List Str} (h : ∀ y, ex.contains y = false → m₁ y = m y) : m₁ = fun y => if ex.contains y then m₁ y else m y := by
  funext y
  cases e : ex.contains y with
  | true => rfl
  | false => exact h y e
section
variable {prog : Program} {w : World} {A : Around} {s : Shared} {env : Env} {h₀ : Heap} {E : Value → Shared → Prop} {Q : Flow → Shared → Prop} {x : Str} {px : Pos} {body orelse : List Stmt} {n : Nat} {L' : Addr}
  {m : Str → Option Value} {NW : List (Addr × Obj)}
theorem jloop_str {xs : Str} {t : Tok} (ex : List Str) (k : Nat) (hE : PassesOwn (model prog w) A env E) (hh : A.handled = none) (hasc : xs.cps.all (· < 128) = true) (hx : env.kindOf x = some .local)
    (hp : (env.scope.kind == .class || (env.scope.kind == .module && env.locals != env.globals)) = false) (hL : env.locals = L')
    (F : Fr h₀ L' s.heap m) (N : News h₀ L' s.heap NW)
    (step : ∀ I i ch u (m₁ : Str → Option Value) (s₁ : Shared) o, i < xs.cps.size → i ≤ k → xs.cps[i]? = some ch → (∀ p ∈ NW, p.1 ≠ I) → Fr h₀ L' s₁.heap (fun y => if y = x then some (.str ⟨#[ch]⟩ u) else if ex.contains y then m₁ y else m y) → News h₀ L' s₁.heap ((I, o) :: NW) →
      s₁.gens = s.gens → s₁.os = s.os →
      wpAny (model prog w) A (execs body env) (TurnG h₀ L' I o (JL NW s.gens s.os m ex k (i + 1)) (fun v s' => Q (.ret v) s') (fun s' => Q .next s')) E s₁)
    (fin : ∀ (m' : Str → Option Value) (s' : Shared), Fr h₀ L' s'.heap (fun y => if ex.contains y then m' y else m y) → News h₀ L' s'.heap NW → JL NW s.gens s.os m ex k xs.cps.size m' NW s' → wpAny (model prog w) A (execs orelse env) Q E s') :
    wpAny (model prog w) A (pyIter (.str xs t)) (fun it s₂ => LoopAtG prog w A h₀ env x px body orelse Q E it s₂) E s := by
  subst hL
  refine loopG_str hE hh hasc hx hp F N (JL NW s.gens s.os m ex k) (fun _ _ _ _ _ _ h => h) ⟨Nat.zero_le _, rfl, fun _ _ => rfl, rfl, rfl⟩ (fun I i ch u m₁ news₁ s₁ o hi hc hJ ha F₁ N₁ => ?_) fun m' news' s' F' N' hJ => ?_
  · obtain ⟨hk, rfl, a1, a4, a5⟩ := hJ
    rw [frame_ex a1] at F₁
    exact step I i ch u m₁ s₁ o hi hk hc ha F₁ N₁ a4 a5
  · have e : news' = NW := hJ.2.1
    subst e
    rw [frame_ex hJ.2.2.1] at F'
    exact fin m' s' F' N' hJ

theorem jloop_range {r : Addr} {a b c : Int} {t u v : Tok} (ex : List Str) (k : Nat) (hE : PassesOwn (model prog w) A env E) (hh : A.handled = none) (hr : IsRange s.heap r a b c t u v) (hsmall : Builtin.Range.small a b c = true) (hn : Builtin.Range.rangeSize a b c = (n : Int)) (hx : env.kindOf x = some .local)
    (hp : (env.scope.kind == .class || (env.scope.kind == .module && env.locals != env.globals)) = false) (hL : env.locals = L')
    (F : Fr h₀ L' s.heap m) (N : News h₀ L' s.heap NW)
    (step : ∀ I i tk (m₁ : Str → Option Value) (s₁ : Shared) o, i < n → i ≤ k → (∀ p ∈ NW, p.1 ≠ I) → Fr h₀ L' s₁.heap (fun y => if y = x then some (.int (a + (i : Int) * c) tk) else if ex.contains y then m₁ y else m y) → News h₀ L' s₁.heap ((I, o) :: NW) →
      s₁.gens = s.gens → s₁.os = s.os →
      wpAny (model prog w) A (execs body env) (TurnG h₀ L' I o (JL NW s.gens s.os m ex k (i + 1)) (fun v s' => Q (.ret v) s') (fun s' => Q .next s')) E s₁)
    (fin : ∀ (m' : Str → Option Value) (s' : Shared), Fr h₀ L' s'.heap (fun y => if ex.contains y then m' y else m y) → News h₀ L' s'.heap NW → JL NW s.gens s.os m ex k n m' NW s' → wpAny (model prog w) A (execs orelse env) Q E s') :
    wpAny (model prog w) A (pyIter (.ref r)) (fun it s₂ => LoopAtG prog w A h₀ env x px body orelse Q E it s₂) E s := by
  subst hL
  refine loopG_range hE hh hr hsmall hn hx hp F N (JL NW s.gens s.os m ex k) (fun _ _ _ _ _ _ h => h) ⟨Nat.zero_le _, rfl, fun _ _ => rfl, rfl, rfl⟩ (fun I i tk m₁ news₁ s₁ o hi hJ ha F₁ N₁ => ?_) fun m' news' s' F' N' hJ => ?_
  · obtain ⟨hk, rfl, a1, a4, a5⟩ := hJ
    rw [frame_ex a1] at F₁
    exact step I i tk m₁ s₁ o hi hk ha F₁ N₁ a4 a5
  · have e : news' = NW := hJ.2.1
    subst e
    rw [frame_ex hJ.2.2.1] at F'
    exact fin m' s' F' N' hJ
end
theorem News.like {h₀ h h' : Heap} {L : Addr} {news led : List (Addr × Obj)} (_ : News h₀ L h led) (N : News h₀ L h' news) (hs : ∀ q ∈ led, q ∈ news) : News h₀ L h' led := fun q hq => N q (hs q hq)
theorem rangeSize_down (n : Nat) : Builtin.Range.rangeSize (n : Int) 0 (-1) = (n : Int) := by
  unfold Builtin.Range.rangeSize
  by_cases h : n = 0
  · subst h; decide
  · have h1 : ¬ ((-1 : Int) > 0) := by decide
    have h2 : (0 : Int) < (n : Int) := by (first | lia | omega)
    simp only [h1, if_false, h2, if_true, Int.neg_neg, Int.ediv_one]
    (first | lia | omega)
theorem rangeSmall_down (n : Nat) (h : n ≤ 1000) : Builtin.Range.small (n : Int) 0 (-1) = true := by
  unfold Builtin.Range.small
  rw [rangeSize_down]
  simp [Builtin.Range.rangeFitsLong]
  (first | lia | omega)
end

section
open PySem PySem.W PyProof.Rows PySem.Calls PySem.Spec
set_option maxRecDepth 100000
set_option maxHeartbeats 4000000
open Builtin Builtin.ObjectAttr Builtin.List
section
variable {prog : Program} {w : World} {A : Around} {E : Value → Shared → Prop} {s : Shared} {K : Frag} {h₀ : Heap} {L x dx C D : Addr} {m : Str → Option Value} {news : List (Addr × Obj)} {xs : List Value} {n : Nat} {v : Value}
theorem InstAt.keeps {h h' : Heap} {ox : Obj} {od : Option Obj} (I : W.InstAt h x ox C od) (k : ∀ b o, h.get? b = some o → h'.get? b = some o) : W.InstAt h' x ox C od := by
  obtain ⟨a, b, c, d⟩ := I
  refine ⟨k _ _ a, b, c, ?_⟩
  cases e : ox.dict <;> cases od <;> simp only [e] at d ⊢ <;> exact k _ _ d
theorem acc_tailG {value slice : Expr} {od : Option Obj} {i : Value} {l : List Value} {Q : Value → Shared → Prop} (F : Fr h₀ L s.heap m) (X₀ : K.In h₀) (I : W.InstAt s.heap x (accObj C dx xs n) C od)
    (hg : findIn K (.ref C) "__getitem__" = some (some (.builtin "list.__getitem__")))
    (h : wpAny (model prog w) A (getItem (.ref x) i) Q E s) (hs : subscripted slice false (.ref x) i = operate l (getItem (.ref x) i)) (ht : ∀ r, letTemporaryGo value (.ref x) r = pure ()) :
    wpAny (model prog w) A (subscriptTail value slice (.ref x) i) Q E s := by
  have X := X₀.keeps F.keep
  have L0 := I.type (M := model prog w)
  have L1 := looks_findIn (M := model prog w) X hg
  unfold subscriptTail
  refine wpAny_bind ?_
  have fin : wpAny (model prog w) A (subscripted slice false (.ref x) i) (fun r s₃ => wpAny (model prog w) A (letTemporaryGo value (.ref x) r >>= fun _ => pure r) Q E s₃) E s := by
    rw [hs]
    exact wpAny_operating (wpAny_mono h (fun r s₃ h₃ => wpAny_bind (wpAny_of_eq (ht r) (wpAny_pure h₃))) fun _ _ x => x)
  unfold getitemInPython specialOf
  obtain ⟨hh, g, d, t, os⟩ := s
  dsimp only at *
  repeat lk
  exact fin

theorem acc_pair {value slice : Expr} {od : Option Obj} {k : Int} {u : Tok} {ps : List (Str × Str)} {Q : Value → Shared → Prop} (F : Fr h₀ L s.heap m) (X₀ : K.In h₀) (I : W.InstAt s.heap x (accObj C dx xs n) C od)
    (hg : findIn K (.ref C) "__getitem__" = some (some (.builtin "list.__getitem__"))) (hl : mroIn K C (.type "list") = some true) (hdq : mroIn K C (.type "collections.deque") = some false)
    (PA : PairsAt s.heap xs ps) (h0 : 0 ≤ k) (h1 : k < 2 ^ 63) (h2 : k < (xs.length : Int)) (h : ∀ T p ta tb, ps[k.toNat]? = some p → IsTup s.heap T #[.str p.1 ta, .str p.2 tb] → Q (.ref T) s)
    (hs : subscripted slice false (.ref x) (.int k u) = operate [.ref x, .int k u] (getItem (.ref x) (.int k u))) (ht : ∀ r, letTemporaryGo value (.ref x) r = pure ()) :
    wpAny (model prog w) A (subscriptTail value slice (.ref x) (.int k u)) Q E s := by
  have hk : k.toNat < xs.length := by (first | lia | omega)
  obtain ⟨p, hp, T, ta, tb, e, hT⟩ := PA.get (i := k.toNat) (v := xs[k.toNat]) (by simp [hk])
  refine acc_tailG F X₀ I hg (acc_item F X₀ I hg hl hdq h0 h1 (v := .ref T) (by rw [← e]; simp [hk]) (h T p ta tb hp hT)) hs ht

theorem acc_get_slice {sl : Addr} {od : Option Obj} {vl vu : Value} {lo hi : Option Int} {Q : Value → Shared → Prop} (F : Fr h₀ L s.heap m) (X₀ : K.In h₀) (I : W.InstAt s.heap x (accObj C dx xs n) C od)
    (hg : findIn K (.ref C) "__getitem__" = some (some (.builtin "list.__getitem__"))) (hl : mroIn K C (.type "list") = some true) (hdq : mroIn K C (.type "collections.deque") = some false)
    (hsl : s.heap.IsSliceOf sl vl vu .none) (pl : IsPart vl lo) (pu : IsPart vu hi) (hz : xs.length ≤ sizeLine)
    (h : Q (.ref s.heap.objs.size) { s with heap := s.heap.push { cls := .type "list", data := .seq (slicePick xs.toArray lo hi none) } }) : wpAny (model prog w) A (getItem (.ref x) (.ref sl)) Q E s := by
  have X := X₀.keeps F.keep
  have hs := I.at_
  have L0 := I.type (M := model prog w)
  have L1 := looks_findIn (M := model prog w) X hg
  have L3 := mro_list_of (M := model prog w) X I hl
  have L5 := looks_mroIn (M := model prog w) X hdq
  obtain ⟨os, hos, hcs, hds⟩ := id hsl
  have hTs : s.TypeIs (.ref sl) "slice" := ⟨os, hos, hcs⟩
  obtain ⟨hh, g, d, t, os0⟩ := s
  dsimp only at *
  unfold getItem sequenceKey callSpecial? specialOf
  have hb := (slot_list_getitem).bind (.ref x)
  repeat (first | with_reducible refine wpAny_call ?_ | rw [hb] | lk)
  refine codeAny_call_builtin (id := "list.__getitem__") lgi_plain lgi_entry ?_
  refine @check_meth (model prog w) _ _ _ "list.__getitem__" "list" "__getitem__" (.ref x) [.ref sl] [] _ lgi_kind lgi_split L3 (lgi_args _ _) ?_
  show wpAny _ _ (Builtin.List.listSubscript? (.ref sl) >>= _) _ _ _
  refine wpAny_bind ?_
  unfold Builtin.List.listSubscript?
  refine wpAny_bind (wpAny_specialOf hTs slice_no_index ?_)
  rw [Option.isNone_none, if_pos rfl]
  refine wpAny_pure ?_
  show wpAny _ _ (typeOf (.ref sl) >>= _) _ _ _
  refine wpAny_bind (wpAny_typeOf hTs ?_)
  rw [if_neg (by decide)]
  rw [listSliceParts_eq]
  refine wpAny_bind (wpAny_bind (wpAny_field hos hds (x := .none) rfl (wpAny_bind (wpAny_listPart .none ?_))))
  rw [if_neg (by exact Bool.false_ne_true)]
  refine wpAny_bind (wpAny_field hos hds (x := vl) rfl (wpAny_bind (wpAny_listPart pl ?_)))
  refine wpAny_bind (wpAny_field hos hds (x := vu) rfl (wpAny_bind (wpAny_listPart pu (wpAny_pure ?_))))
  refine wpAny_bind (m := Builtin.List.listItems (.ref x)) ?_
  unfold Builtin.List.listItems
  refine wpAny_bind (wpAny_seqItems hs rfl (wpAny_pure ?_))
  refine wpAny_bind (wpAny_of_eq (sliceIndices_raw lo hi none xs.toArray.size (by simp)) ?_)
  refine wpAny_bind (wpAny_newObj_type ?_ (Nat.le_trans (slicePick_size_le xs.toArray lo hi none) (by simpa using hz)))
  repeat lk
  exact h
theorem acc_slice {value slice : Expr} {od : Option Obj} {vl vu : Value} {lo hi : Option Int} {Q : Value → Shared → Prop} (F : Fr h₀ L s.heap m) (X₀ : K.In h₀) (N : News h₀ L s.heap news) (I : W.InstAt s.heap x (accObj C dx xs n) C od)
    (hg : findIn K (.ref C) "__getitem__" = some (some (.builtin "list.__getitem__"))) (hl : mroIn K C (.type "list") = some true) (hdq : mroIn K C (.type "collections.deque") = some false)
    (pl : IsPart vl lo) (pu : IsPart vu hi) (hz : xs.length ≤ sizeLine)
    (h : ∀ D h', Fr h₀ L h' m → News h₀ L h' ((D, listOf (slicePick xs.toArray lo hi none) 0) :: news) → (∀ p ∈ news, p.1 < D) → L ≤ D → Q (.ref D) { s with heap := h' })
    (hs : subscripted slice false (.ref x) (.ref s.heap.objs.size) = operate [.ref s.heap.objs.size, .ref x] (getItem (.ref x) (.ref s.heap.objs.size))) (ht : ∀ r, letTemporaryGo value (.ref x) r = pure ()) :
    wpAny (model prog w) A (subscriptTail value slice (.ref x) (.ref s.heap.objs.size)) Q E { s with heap := s.heap.push { cls := .type "slice", data := .fields #[vl, vu, .none] } } := by
  have I' : W.InstAt (s.heap.push { cls := .type "slice", data := .fields #[vl, vu, .none] }) x (accObj C dx xs n) C od := InstAt.keeps I fun b o e => Heap.get?_push_of_some _ e
  refine acc_tailG (F.push _) X₀ I' hg (acc_get_slice (F.push _) X₀ I' hg hl hdq (Heap.IsSliceOf.new ..) pl pu hz ?_) hs ht
  have N1 := N.pushKeep { cls := .type "slice", data := .fields #[vl, vu, .none] }
  refine h _ _ ((F.push _).push _) ?_ (fun p hp => Heap.lt_size (N1 p hp).1) (Nat.le_of_lt (F.push _).ns.lt)
  exact News.push (F.push _) N1 _
theorem lsi_plain : plainId "list.__setitem__" = true := by decide +kernel
theorem lsi_entry : entryFor table "list.__setitem__" = some Builtin.«list.__setitem__» := entryFor_of_tree (by kernel_rfl)
theorem lsi_kind : builtinKind "list.__setitem__" = some .slot := by decide +kernel
theorem lsi_split : splitId "list.__setitem__" = some ("list", "__setitem__") := by decide +kernel
theorem lsi_args (a b c : Value) : argsOk "list.__setitem__" ⟨[a, b, c], []⟩ := by unfold argsOk; kernel_rfl

def nxt (xs : List Value) (j : Nat) (ys : List Value) (n : Nat) : Nat := if ((xs.take j ++ ys).toArray.size == xs.toArray.size) then n else n + 1
theorem slice_acc {xs ys : List Value} {j n : Nat} : Obj.mapSeq (fun zs => zs.extract 0 ((j : Int)).toNat ++ ys.toArray ++ zs.extract (max (j : Int) (xs.toArray.size : Int)).toNat zs.size) (accObj C dx xs n) = accObj C dx (xs.take j ++ ys) (nxt xs j ys n) := by
  have e : xs.toArray.extract 0 ((j : Int)).toNat ++ ys.toArray ++ xs.toArray.extract (max (j : Int) (xs.toArray.size : Int)).toNat xs.toArray.size = (xs.take j ++ ys).toArray := by
    have h1 : xs.toArray.extract (max (j : Int) (xs.toArray.size : Int)).toNat xs.toArray.size = #[] := by
      apply Array.extract_empty_of_stop_le_start; (first | lia | omega)
    rw [h1]
    simp [List.extract_eq_drop_take]
  simp only [Obj.mapSeq, accObj, nxt, e]
theorem bounds_from (lo : Option Int) (j n : Nat) (hlo : lo.getD 0 = (j : Int)) (hj : j ≤ n) : sliceBounds lo none none n = ((j : Int), (n : Int), 1) := by
  have h1 : (1 : Int) > 0 := by decide
  cases lo with
  | none =>
    have : j = 0 := by simp only [Option.getD_none] at hlo; (first | lia | omega)
    subst this
    simp [sliceBounds]
  | some i =>
    simp only [Option.getD_some] at hlo
    subst hlo
    have h2 : ¬ ((j : Int) < 0) := by (first | lia | omega)
    simp only [sliceBounds, Option.getD_none, h1, if_true, h2, if_false]
    congr 1
    (first | lia | omega)
theorem acc_set_slice {sl y : Addr} {od : Option Obj} {vl : Value} {lo : Option Int} {ys : List Value} {ny j : Nat} {news' : List (Addr × Obj)} {Q : Unit → Shared → Prop} (F : Fr h₀ L s.heap m) (X₀ : K.In h₀) (N : News h₀ L s.heap news) (I : W.InstAt s.heap x (accObj C dx xs n) C od)
    (hg : findIn K (.ref C) "__setitem__" = some (some (.builtin "list.__setitem__"))) (hl : mroIn K C (.type "list") = some true) (hdq : mroIn K C (.type "collections.deque") = some false)
    (hsl : s.heap.IsSliceOf sl vl .none .none) (pl : IsPart vl lo) (hlo : lo.getD 0 = (j : Int)) (hj : j ≤ xs.length) (hy : (y, W.listOf ys.toArray ny) ∈ news) (hz : xs.length + ys.length ≤ sizeLine)
    (U : Upd x (accObj C dx xs n) (accObj C dx (xs.take j ++ ys) (nxt xs j ys n)) news news')
    (h : ∀ h', Fr h₀ L h' m → News h₀ L h' news' → Q () { s with heap := h' }) : wpAny (model prog w) A (setItem (.ref x) (.ref sl) (.ref y)) Q E s := by
  have X := X₀.keeps F.keep
  have hs := I.at_
  have L0 := I.type (M := model prog w)
  have L1 := looks_findIn (M := model prog w) X hg
  have L3 := mro_list_of (M := model prog w) X I hl
  have L5 := looks_mroIn (M := model prog w) X hdq
  obtain ⟨os, hos, hcs, hds⟩ := id hsl
  have hTs : s.TypeIs (.ref sl) "slice" := ⟨os, hos, hcs⟩
  have hyo := (N _ hy).1
  have hTy : s.TypeIs (.ref y) "list" := ⟨_, hyo, rfl⟩
  have hxy : ¬ (listSameRef (.ref x) (.ref y) = true) := by
    intro e
    have e' : x = y := by simpa [listSameRef] using e
    subst e'
    have := hs.symm.trans hyo
    simp [accObj, W.listOf] at this
  obtain ⟨pre, post, rfl, rfl, a, b⟩ := U.split
  obtain ⟨U1, U2⟩ := news_upd (f := _) F N a b slice_acc rfl
  obtain ⟨hh, g, d, t, os0⟩ := s
  dsimp only at *
  unfold setItem sequenceKey callSpecial? specialOf
  have hb := (slot_list_setitem).bind (.ref x)
  repeat (first | with_reducible refine wpAny_call ?_ | rw [hb] | lk)
  refine codeAny_call_builtin (id := "list.__setitem__") lsi_plain lsi_entry ?_
  refine @check_slot (model prog w) _ _ _ "list.__setitem__" "list" "__setitem__" (.ref x) [.ref sl, .ref y] [] _ lsi_kind lsi_split L3 (lsi_args _ _ _) ?_
  show wpAny _ _ (Builtin.List.listSubscript? (.ref sl) >>= _) _ _ _
  refine wpAny_bind ?_
  unfold Builtin.List.listSubscript?
  refine wpAny_bind (wpAny_specialOf hTs slice_no_index ?_)
  rw [Option.isNone_none, if_pos rfl]
  refine wpAny_pure ?_
  show wpAny _ _ (typeOf (.ref sl) >>= _) _ _ _
  refine wpAny_bind (wpAny_typeOf hTs ?_)
  rw [if_neg (by decide)]
  rw [listSliceParts_eq]
  refine wpAny_bind (wpAny_bind (wpAny_field hos hds (x := .none) rfl (wpAny_bind (wpAny_listPart .none ?_))))
  rw [if_neg (by exact Bool.false_ne_true)]
  refine wpAny_bind (wpAny_field hos hds (x := vl) rfl (wpAny_bind (wpAny_listPart pl ?_)))
  refine wpAny_bind (wpAny_field hos hds (x := .none) rfl (wpAny_bind (wpAny_listPart .none (wpAny_pure ?_))))
  dsimp only
  rw [if_neg hxy]
  refine wpAny_bind (m := listAllItems (.ref y) _) ?_
  unfold listAllItems
  refine wpAny_bind (wpAny_typeOf hTy ?_)
  rw [if_pos (by decide)]
  unfold Builtin.List.listItems
  refine wpAny_bind (wpAny_seqItems hyo rfl (wpAny_pure ?_))
  refine wpAny_bind (wpAny_bind (wpAny_seqItems hs rfl (wpAny_pure ?_)))
  refine wpAny_bind (wpAny_of_eq (sliceIndices_raw lo none none xs.toArray.size (by simp)) ?_)
  rw [bounds_from lo j xs.toArray.size hlo (by simpa using hj)]
  rw [if_pos (by rfl)]
  have hz2 : ¬ (listTooLong (xs.toArray.size + ys.toArray.size) = true) := by
    simp only [listTooLong, List.size_toArray, decide_eq_true_eq]; (first | lia | omega)
  have hz : (xs.take j ++ ys).length ≤ sizeLine := by simp only [List.length_append, List.length_take]; (first | lia | omega)
  refine wpAny_bind (wpAny_rule ?_)
  rw [if_neg hz2]
  refine wpAny_bind (upd_acc hs slice_acc hz ?_)
  refine wpAny_bind (wpAny_letGo ?_)
  repeat lk
  exact h _ U1 U2
theorem pair_tail {value slice : Expr} {T : Addr} {items : Array Value} {k : Int} {u : Tok} {j : Nat} {x : Value} {Q : Value → Shared → Prop} (ht : IsTup s.heap T items) (hlo : -(2 ^ 63) ≤ k) (hhi : k < 2 ^ 63) (hj : seqIndex? k items.size = some j) (hx : items[j]? = some x) (h : Q x s)
    (hs : subscripted slice false (.ref T) (.int k u) = operate [.ref T, .int k u] (getItem (.ref T) (.int k u))) :
    wpAny (model prog w) A (subscriptTail value slice (.ref T) (.int k u)) Q E s :=
  kba_turn (value' := PySem.Expr.Name (PySem.Str.ofString "_") ⟨0, 0, 0, 0⟩) (fun _ => rfl) (item_tuple ht hlo hhi hj hx h hs (fun _ => rfl))
theorem pair_fst {value slice : Expr} {T : Addr} {a b : Str} {ta tb u : Tok} {Q : Value → Shared → Prop} (ht : IsTup s.heap T #[.str a ta, .str b tb]) (h : Q (.str a ta) s)
    (hs : subscripted slice false (.ref T) (.int 0 u) = operate [.ref T, .int 0 u] (getItem (.ref T) (.int 0 u))) :
    wpAny (model prog w) A (subscriptTail value slice (.ref T) (.int 0 u)) Q E s := pair_tail (j := 0) ht (by decide) (by decide) rfl rfl h hs
theorem pair_snd {value slice : Expr} {T : Addr} {a b : Str} {ta tb u : Tok} {Q : Value → Shared → Prop} (ht : IsTup s.heap T #[.str a ta, .str b tb]) (h : Q (.str b tb) s)
    (hs : subscripted slice false (.ref T) (.int 1 u) = operate [.ref T, .int 1 u] (getItem (.ref T) (.int 1 u))) :
    wpAny (model prog w) A (subscriptTail value slice (.ref T) (.int 1 u)) Q E s := pair_tail (j := 1) ht (by decide) (by decide) rfl rfl h hs
structure AllW (l : List (Str × Str)) (a b c : Str) : Prop where
  all : ∀ q ∈ l, q.1 = a ∧ (q.2 = b ∨ q.2 = c)
theorem pairW {l : List (Str × Str)} {a b c : Str} (h : AllW l a b c) {k : Nat} {p : Str × Str} (hp : l[k]? = some p) : p = (a, b) ∨ p = (a, c) := by
  obtain ⟨h1, h2⟩ := h.all p (List.mem_of_getElem? hp)
  obtain ⟨p1, p2⟩ := p
  dsimp only at h1 h2
  subst h1
  rcases h2 with rfl | rfl
  · exact .inl rfl
  · exact .inr rfl
theorem turn_next {I : Addr} {o : Obj} {NW : List (Addr × Obj)} {G : Array GenState} {os : OsState} {m₂ : Str → Option Value} {ex : List Str} {k i : Nat} {Qr : Value → Shared → Prop} {Qb : Shared → Prop} (F : Fr h₀ L s.heap m₂) (N : News h₀ L s.heap news)
    (hs : ∀ q ∈ (I, o) :: NW, q ∈ news) (ha : ∀ p ∈ NW, p.1 ≠ I) (hk : i + 1 ≤ k) (hm : ∀ y, ex.contains y = false → m₂ y = m y) (hg : s.gens = G) (hos : s.os = os) : TurnG h₀ L I o (JL NW G os m ex k (i + 1)) Qr Qb .next s :=
  ⟨m₂, NW, F, News.sub N hs, ha, hk, rfl, hm, hg, hos⟩
theorem turn_cont {I : Addr} {o : Obj} {NW : List (Addr × Obj)} {G : Array GenState} {os : OsState} {m₂ : Str → Option Value} {ex : List Str} {k i : Nat} {Qr : Value → Shared → Prop} {Qb : Shared → Prop} (F : Fr h₀ L s.heap m₂) (N : News h₀ L s.heap news)
    (hs : ∀ q ∈ (I, o) :: NW, q ∈ news) (ha : ∀ p ∈ NW, p.1 ≠ I) (hk : i + 1 ≤ k) (hm : ∀ y, ex.contains y = false → m₂ y = m y) (hg : s.gens = G) (hos : s.os = os) : TurnG h₀ L I o (JL NW G os m ex k (i + 1)) Qr Qb .cont s :=
  ⟨m₂, NW, F, News.sub N hs, ha, hk, rfl, hm, hg, hos⟩
theorem past_intro {NW : List (Addr × Obj)} {G : Array GenState} {os : OsState} {am : Addr} {fw st : Str} {p : Nat} {pi : Int} {tk t1 t2 : Tok} (F : Fr h₀ L s.heap m) (N : News h₀ L s.heap news) (hs : ∀ q ∈ NW, q ∈ news)
    (h1 : m (Str.ofString "self") = some (.ref am)) (h2 : m (Str.ofString "i") = some (.int pi tk)) (hpi : pi = (p : Int)) (h3 : m (Str.ofString "fws") = some (.str fw t1)) (h4 : m (Str.ofString "string") = some (.str st t2)) (hg : s.gens = G) (hos : s.os = os) :
    Past h₀ L NW G os am fw st p s := ⟨m, tk, t1, t2, F, News.sub N hs, h1, hpi ▸ h2, h3, h4, hg, hos⟩
/-- what a search within a call leaves, the names written out -/
inductive PastO (g : Heap) (L' : Addr) (NW : List (Addr × Obj)) (G : Array GenState) (os : OsState) (am : Addr) (fw st : Str) (p : Nat) (s : Shared) : Prop
  | mk (m' : Str → Option Value) (tk t1 t2 : Tok) (F : Fr g L' s.heap (fun y => if y = Str.ofString "self" then some (.ref am) else if y = Str.ofString "i" then some (.int (p : Int) tk) else if y = Str.ofString "fws" then some (.str fw t1) else if y = Str.ofString "string" then some (.str st t2) else m' y)) (N : News g L' s.heap NW) (hg : s.gens = G) (ho : s.os = os)
theorem Past.out {NW : List (Addr × Obj)} {G : Array GenState} {os : OsState} {am : Addr} {fw st : Str} {p : Nat} (h : Past h₀ L NW G os am fw st p s) :
    PastO h₀ L NW G os am fw st p s := by
  obtain ⟨m', tk, t1, t2, F, N, h1, h2, h3, h4, hg, hos⟩ := h
  refine ⟨m', tk, t1, t2, ?_, N, hg, hos⟩
  have e : m' = fun y => if y = Str.ofString "self" then some (.ref am) else if y = Str.ofString "i" then some (.int (p : Int) tk) else if y = Str.ofString "fws" then some (.str fw t1) else if y = Str.ofString "string" then some (.str st t2) else m' y := by
    funext y
    split
    · rename_i e; rw [e, h1]
    · split
      · rename_i e; rw [e, h2]
      · split
        · rename_i e; rw [e, h3]
        · split
          · rename_i e; rw [e, h4]
          · rfl
  rw [← e]
  exact F
theorem acc_slice_from {value slice : Expr} {od : Option Obj} {j : Nat} {t : Tok} {zs : List Value} {Q : Value → Shared → Prop} (F : Fr h₀ L s.heap m) (X₀ : K.In h₀) (N : News h₀ L s.heap news) (I : W.InstAt s.heap x (accObj C dx xs n) C od)
    (hg : findIn K (.ref C) "__getitem__" = some (some (.builtin "list.__getitem__"))) (hl : mroIn K C (.type "list") = some true) (hdq : mroIn K C (.type "collections.deque") = some false)
    (hj : j ≤ xs.length) (hz : xs.length ≤ sizeLine) (e : xs.drop j = zs)
    (h : ∀ D h', Fr h₀ L h' m → News h₀ L h' ((D, W.listOf zs.toArray 0) :: news) → (∀ p ∈ news, p.1 < D) → L ≤ D → Q (.ref D) { s with heap := h' })
    (hs : subscripted slice false (.ref x) (.ref s.heap.objs.size) = operate [.ref s.heap.objs.size, .ref x] (getItem (.ref x) (.ref s.heap.objs.size))) (ht : ∀ r, letTemporaryGo value (.ref x) r = pure ()) :
    wpAny (model prog w) A (subscriptTail value slice (.ref x) (.ref s.heap.objs.size)) Q E { s with heap := s.heap.push { cls := .type "slice", data := .fields #[.int j t, .none, .none] } } := by
  refine acc_slice F X₀ N I hg hl hdq (.int j t) .none hz (fun D h' F' N' l l2 => h D h' F' ?_ l l2) hs ht
  rw [slicePick_from xs.toArray j (by simpa using hj)] at N'
  simpa [e] using N'
theorem drop_snoc {v : Value} {j : Nat} (h : xs.length = j) : (xs ++ [v]).drop j = [v] := by subst h; simp
theorem take_snoc {v : Value} {j : Nat} (h : xs.length = j) : (xs ++ [v]).take j ++ [] = xs := by subst h; simp
theorem acc_set_slice_at {y : Addr} {od : Option Obj} {vl : Value} {lo : Option Int} {ys zs : List Value} {ny j n' : Nat} {news' : List (Addr × Obj)} {Q : Unit → Shared → Prop} (F : Fr h₀ L s.heap m) (X₀ : K.In h₀) (N : News h₀ L s.heap news) (I : W.InstAt s.heap x (accObj C dx xs n) C od)
    (hg : findIn K (.ref C) "__setitem__" = some (some (.builtin "list.__setitem__"))) (hl : mroIn K C (.type "list") = some true) (hdq : mroIn K C (.type "collections.deque") = some false)
    (pl : IsPart vl lo) (hlo : lo.getD 0 = (j : Int)) (hj : j ≤ xs.length) (hy : (y, W.listOf ys.toArray ny) ∈ news) (hz : xs.length + ys.length ≤ sizeLine) (e : xs.take j ++ ys = zs) (hn' : nxt xs j ys n = n')
    (U : Upd x (accObj C dx xs n) (accObj C dx zs n') news news')
    (h : ∀ h', Fr h₀ L h' m → News h₀ L h' news' → Q () { s with heap := h' }) : wpAny (model prog w) A (setItem (.ref x) (.ref s.heap.objs.size) (.ref y)) Q E { s with heap := s.heap.push { cls := .type "slice", data := .fields #[vl, .none, .none] } } := by
  subst e hn'
  exact acc_set_slice (s := { s with heap := s.heap.push { cls := .type "slice", data := .fields #[vl, .none, .none] } }) (F.push _) X₀ (N.pushKeep _) (InstAt.keeps I fun b o e => Heap.get?_push_of_some _ e) hg hl hdq (Heap.IsSliceOf.new ..) pl hlo hj hy hz U h
/-- the text of a row of pairs -/
def cat (ps : List (Str × Str)) : Str := Txt.join "" (ps.map fun q => q.1 ++ q.2)
theorem cat_range {ps : List (Str × Str)} {n : Nat} (h : n = ps.length) : ((List.range n).map fun i => (ps.getD i ("", "")).1 ++ (ps.getD i ("", "")).2) = ps.map fun q => q.1 ++ q.2 := by
  subst h
  apply List.ext_getElem
  · simp
  · intro i h1 h2
    simp at h1 h2
    simp [List.getD_eq_getElem?_getD, h2]
theorem acc_str_L {w : World} {A : Around} {E Q : Value → Shared → Prop} {mg mb : Str → Option Value} {p : Program} {loose : List Str} {mean : ExcName → Option Value} {k : Nat} {es : List DictEntry} {tp : Array Value} {ps : List (Str × Str)}
    {cd : Option Addr} {vs : Array Value} {sl : Array (Option Value)} {file : Str} {tf tg tt : Tok} {flags text : Int} {inF : Bool}
    (F : Fr h₀ L s.heap m) (X₀ : (hd.heap_1 w.params).In h₀) (N : News h₀ L s.heap news) (T : Top p loose mean mg mb h₀) (hh : A.handled = none) (hd1 : A.depth + 6 < recursionLimit) (hu : A.units + 40 < cLine) (G : AllBare s.gens)
    (hx : (x, accObj 185 dx xs n) ∈ news) (hdx : (dx, dictOf es k) ∈ news) (hP : (154, X.tableObj tp) ∈ news) (ht : TriplesOk tp.toList)
    (hc : (hd.heap_1 w.params).lookup 158 = some ⟨.type "code", cd, .fields vs, sl⟩) (e11 : vs[11]? = some (.ref 154)) (e18 : vs[18]? = some (.str file tf)) (e7 : vs[7]? = some (.int flags tg)) (e9 : vs[9]? = some (.bool inF)) (e10 : vs[10]? = some (.int text tt))
    (PA : PairsAt s.heap xs ps) (hsm : ∀ q ∈ ps, q.1.length ≤ 1048576 ∧ q.2.length ≤ 1048576) (hW : ((ps.map fun q => q.1 ++ q.2).map (·.length)).sum + (ps.map fun q => q.1 ++ q.2).length ≤ 1048576)
    (hQ : ∀ s' t' tp', TriplesOk tp'.toList → Fr h₀ L s'.heap m → (∀ news', Upd 154 (X.tableObj tp) (X.tableObj tp') news news' → News h₀ L s'.heap news') → AllBare s'.gens → s'.os = s.os → Q (.str (cat ps) t') s') :
    wpAny (model PySem.Challenge.rw_xl0020_01.row.prog w) A (call (.ref 159) [.ref x]) Q E s := by
  have TI := tab_at F X₀ N hP ht hc e11 e18 e7 e9 e10
  have hl := PA.length
  have e := cat_range (ps := ps) hl
  refine str_body w F X₀ N T hh hd1 hu G hx hdx hP TI PA hsm ?_ ?_ fun s' t' tp' TI' hk G' os' => ?_
  · rw [e]; exact joinOk_of_weight hW (by decide)
  · rw [sizeLine_eq]; simp only [List.length_map] at hW; (first | lia | omega)
  · rw [e]
    exact hQ s' t' tp' (triples_of TI') (fr_after F (N _ hP).2.1 (N _ hP).2.2 hk) (fun news' U => news_after N U hk TI'.at_) G' os'
theorem AllW.weight {l : List (Str × Str)} {c : Str × Str} {a b d : Str} (h : AllW (l ++ [c]) a b d) (hl : l.length ≤ 1000) (ha : a.length ≤ 8 := by decide +kernel) (hb : b.length ≤ 8 := by decide +kernel) (hd : d.length ≤ 8 := by decide +kernel) :
    ((l.map fun q => q.1 ++ q.2).map (·.length)).sum + (l.map fun q => q.1 ++ q.2).length ≤ 1048576 := by
  have key : ∀ l : List (Str × Str), (∀ q ∈ l, q.1 = a ∧ (q.2 = b ∨ q.2 = d)) → ((l.map fun q => q.1 ++ q.2).map (·.length)).sum ≤ 16 * l.length := by
    intro l
    induction l with
    | nil => intro _; simp
    | cons q l ih =>
      intro hq
      have h1 := ih fun p hp => hq p (.tail _ hp)
      obtain ⟨h2, h3⟩ := hq q (.head _)
      have h4 : (q.1 ++ q.2).length ≤ 16 := by
        have e : (q.1 ++ q.2).length = q.1.length + q.2.length := by
          show (q.1.cps ++ q.2.cps).size = q.1.cps.size + q.2.cps.size
          simp
        rw [e, h2]
        rcases h3 with h3 | h3 <;> rw [h3] <;> (first | lia | omega)
      simp only [List.map_cons, List.sum_cons, List.length_cons]
      (first | lia | omega)
  have := key l fun q hq => h.all q (List.mem_append_left _ hq)
  simp only [List.length_map] at *
  (first | lia | omega)
theorem append_KL {ls : List Value} {n : Nat} {v : Value} {news' : List (Addr × Obj)} {Q : Value → Shared → Prop} (F : Fr h₀ L s.heap m) (N : News h₀ L s.heap news) (U : Upd D (W.listOf ls.toArray n) (W.listOf (ls ++ [v]).toArray (n + 1)) news news') (hsz : ls.length ≤ sizeLine)
    (h : ∀ h', Fr h₀ L h' m → News h₀ L h' news' → Q .none { s with heap := h' }) : wpAny (model prog w) A (call (.builtin "list.append") [.ref D, v]) Q E s := by
  have e : (ls ++ [v]).toArray = ls.toArray.push v := by simp
  rw [e] at U
  exact append_K F N U h (by simpa using hsz)
theorem shaped2 {a b : Str} (ha : PyData.strOk a = true) (hb : PyData.strOk b = true) : SeqAt.shaped (.tuple [.str a, .str b]) = true := by
  simp [SeqAt.shaped, PyData.canLay0, PyData.canLayAll0, PyData.depth, PyData.depthAll, ha, hb]
theorem eqv_ne {a b c : Str} (h : b ≠ Str.ofString "") : PyData.eqv (.tuple [.str a, .str b]) (.tuple [.str c, .str (Str.ofString "")]) = false := by
  simp [PyData.eqv, PyData.eqvAll, h]
end
end

section
open PySem PySem.W PyProof.Rows PySem.Calls PySem.Spec
set_option maxRecDepth 100000
set_option maxHeartbeats 4000000
section
variable {prog : Program} {w : World} {A : Around} {s : Shared} {env : Env} {h₀ : Heap} {E : Value → Shared → Prop} {Q : Flow → Shared → Prop} {x : Str} {px : Pos} {body orelse : List Stmt} {I : Addr} {n : Nat} {P : Nat → Value → Prop}
  {m : Str → Option Value} {news : List (Addr × Obj)}
/-- a local name -/
def StoL (x : Str) (v : Value) (m : Str → Option Value) (news : List (Addr × Obj)) (m' : Str → Option Value) (news' : List (Addr × Obj)) : Prop := m' = (fun y => if y = x then some v else m y) ∧ news' = news
/-- a cell -/
def StoC (c : Addr) (v : Value) (m : Str → Option Value) (news : List (Addr × Obj)) (m' : Str → Option Value) (news' : List (Addr × Obj)) : Prop := m' = m ∧ ∃ own rest o o' v₀, news = own ++ (c, o) :: rest ∧ o.data = .cell v₀ ∧ news' = own ++ (c, o') :: rest ∧ o'.data = .cell (some v)
theorem sto_local {PN : List (Addr × Obj) → Prop} (hx : env.kindOf x = some .local) (hp : (env.scope.kind == .class || (env.scope.kind == .module && env.locals != env.globals)) = false) (hLI : env.locals ≠ I) :
    ∀ (v : Value) (s : Shared) m news (R : Unit → Shared → Prop) (E' : Value → Shared → Prop), Fr h₀ env.locals s.heap m → News h₀ env.locals s.heap news → (∀ p ∈ news, p.1 ≠ I) → PN news →
      (∀ h' tk m' news', Fr h₀ env.locals h' m' → News h₀ env.locals h' news' → (∀ p ∈ news', p.1 ≠ I) → (∀ b o, b = I → s.heap.get? b = some o → h'.get? b = some o) → StoL x v m news m' news' → R () { s with heap := h', toks := tk }) → wpAny (model prog w) A (storeName env x v) R E' s := by
  intro v s m news R E' F N hn _ h
  refine wpAny_storeName_local hx F.ns (fun h₂ hn₂ hs₂ => ?_) hp
  exact h _ _ _ _ (F.set hn₂ hs₂) (N.set hs₂) hn (fun b o e q => (hs₂.2 b fun q' => hLI (by rw [← q', e])).trans q) ⟨rfl, rfl⟩
theorem loopL_range {r : Addr} {a b c : Int} {t u v : Tok} (hE : PassesOwn (model prog w) A env E) (hh : A.handled = none) (hr : IsRange s.heap r a b c t u v) (hsmall : Builtin.Range.small a b c = true) (hn : Builtin.Range.rangeSize a b c = (n : Int)) (hx : env.kindOf x = some .local)
    (hp : (env.scope.kind == .class || (env.scope.kind == .module && env.locals != env.globals)) = false)
    (F : Fr h₀ env.locals s.heap m) (N : News h₀ env.locals s.heap news)
    (J : Nat → (Str → Option Value) → List (Addr × Obj) → Shared → Prop) (hJs : ∀ i m news s h tk, J i m news s → J i m news { s with heap := h, toks := tk }) (h0 : J 0 m news s)
    (step : ∀ I i tk m₁ news₁ s₁ o, i < n → o.cls = .type "range_iterator" → J i m₁ news₁ s₁ → (∀ p ∈ news₁, p.1 ≠ I) → Fr h₀ env.locals s₁.heap (fun y => if y = x then some (.int (a + (i : Int) * c) tk) else m₁ y) → News h₀ env.locals s₁.heap ((I, o) :: news₁) →
      wpAny (model prog w) A (execs body env) (TurnG h₀ env.locals I o (J (i + 1)) (fun v s' => Q (.ret v) s') (fun s' => Q .next s')) E s₁)
    (fin : ∀ m' news' s', Fr h₀ env.locals s'.heap m' → News h₀ env.locals s'.heap news' → J n m' news' s' → wpAny (model prog w) A (execs orelse env) Q E s') :
    wpAny (model prog w) A (pyIter (.ref r)) (fun it s₂ => LoopAtG prog w A h₀ env x px body orelse Q E it s₂) E s := by
  refine wpAny_pyIter_range hr hsmall ?_
  have hI : h₀.get? s.heap.objs.size = none := by
    cases e : h₀.get? s.heap.objs.size with
    | none => rfl
    | some o => exact absurd (Heap.lt_size (F.keep _ _ e)) (Nat.lt_irrefl _)
  have hLI := Nat.ne_of_lt F.ns.lt
  refine loopH (PO := fun o => o.cls = .type "range_iterator") (fun _ => True) (StoL x) hE (rangeWalks hh s.heap.objs.size a c n) (sto_local hx hp hLI) hLI hI (fun i h st => ⟨_, st, rfl⟩) ?_ (F.push _) (N.pushKeep _) (fun p hp => N.apart p hp) J hJs (by exact hJs _ _ _ s _ _ h0) (fun _ _ _ _ _ => trivial) (fun i v m₀ news₀ m₁ news₁ s₁ o hi hP hpo hJ hS ha F₁ N₁ => ?_) fin
  · show IsRangeIter _ _ (a + (0 : Nat) * c) ((n : Int) - (0 : Nat)) c
    rw [hn]
    simp only [Int.ofNat_zero, Int.zero_mul, Int.add_zero, Int.sub_zero]
    exact Heap.get?_push_size _ rfl
  · obtain ⟨tk, rfl⟩ := hP
    obtain ⟨rfl, rfl⟩ := hS
    exact step _ i tk m₀ news₁ s₁ o hi hpo hJ ha F₁ N₁
/-- the ledger holds the cell -/
def HasCell (c : Addr) (news : List (Addr × Obj)) : Prop := ∃ own rest o v₀, news = own ++ (c, o) :: rest ∧ (∀ p ∈ own, p.1 ≠ c) ∧ (∀ p ∈ rest, p.1 ≠ c) ∧ o.data = .cell v₀
theorem sto_cell {c : Addr} (hk : env.scope.kind = .function) (hx : env.kindOf x = some .cell) (hc : env.cells.lookup x = some c) (hLI : env.locals ≠ I) :
    ∀ (v : Value) (s : Shared) m news (R : Unit → Shared → Prop) (E' : Value → Shared → Prop), Fr h₀ env.locals s.heap m → News h₀ env.locals s.heap news → (∀ p ∈ news, p.1 ≠ I) → HasCell c news →
      (∀ h' tk m' news', Fr h₀ env.locals h' m' → News h₀ env.locals h' news' → (∀ p ∈ news', p.1 ≠ I) → (∀ b o, b = I → s.heap.get? b = some o → h'.get? b = some o) → StoC c v m news m' news' → R () { s with heap := h', toks := tk }) → wpAny (model prog w) A (storeName env x v) R E' s := by
  rintro v s m news R E' F N hn ⟨own, rest, o, v₀, rfl, h1, h2, hd⟩ h
  have hmem := N (c, o) (List.mem_append_right _ (.head _))
  refine wpAny_storeName_cell hk hx hc ⟨o, hmem.1, hd⟩ fun h' hv hs => ?_
  obtain ⟨o', ho', hd'⟩ := hv
  refine h h' s.toks m (own ++ (c, o') :: rest) ⟨F.ns.sameBut hs (Ne.symm hmem.2.1), fun b ob e => (hs.2 b (fun q => ?_)).trans (F.keep b ob e), F.above⟩ (N.setAt h1 h2 hs ho') (fun p hp => ?_) (fun b ob e q => (hs.2 b fun q' => ?_).trans q) ⟨rfl, own, rest, o, o', v₀, rfl, hd, rfl, hd'⟩
  · rw [q, hmem.2.2] at e; cases e
  · rcases List.mem_append.mp hp with hp | hp
    · exact hn p (List.mem_append_left _ hp)
    · rcases List.mem_cons.mp hp with rfl | hp
      · exact hn (c, o) (List.mem_append_right _ (.head _))
      · exact hn p (List.mem_append_right _ (.tail _ hp))
  · exact hn (c, o) (List.mem_append_right _ (.head _)) (by rw [← e, q'])
theorem loopC_range {r cc : Addr} {a b c : Int} {t u v : Tok} (hE : PassesOwn (model prog w) A env E) (hh : A.handled = none) (hr : IsRange s.heap r a b c t u v) (hsmall : Builtin.Range.small a b c = true) (hn : Builtin.Range.rangeSize a b c = (n : Int)) (hk : env.scope.kind = .function) (hx : env.kindOf x = some .cell) (hc : env.cells.lookup x = some cc)
    (F : Fr h₀ env.locals s.heap m) (N : News h₀ env.locals s.heap news)
    (J : Nat → (Str → Option Value) → List (Addr × Obj) → Shared → Prop) (hJs : ∀ i m news s h tk, J i m news s → J i m news { s with heap := h, toks := tk }) (h0 : J 0 m news s) (hJP : ∀ i m news s, J i m news s → HasCell cc news)
    (step : ∀ I i tk m₁ own rest (c₀ c₁ : Obj) v₀ s₁ o, i < n → o.cls = .type "range_iterator" → J i m₁ (own ++ (cc, c₀) :: rest) s₁ → c₀.data = .cell v₀ → c₁.data = .cell (some (.int (a + (i : Int) * c) tk)) → (∀ p ∈ own ++ (cc, c₁) :: rest, p.1 ≠ I) → Fr h₀ env.locals s₁.heap m₁ → News h₀ env.locals s₁.heap ((I, o) :: (own ++ (cc, c₁) :: rest)) →
      wpAny (model prog w) A (execs body env) (TurnG h₀ env.locals I o (J (i + 1)) (fun v s' => Q (.ret v) s') (fun s' => Q .next s')) E s₁)
    (fin : ∀ m' news' s', Fr h₀ env.locals s'.heap m' → News h₀ env.locals s'.heap news' → J n m' news' s' → wpAny (model prog w) A (execs orelse env) Q E s') :
    wpAny (model prog w) A (pyIter (.ref r)) (fun it s₂ => LoopAtG prog w A h₀ env x px body orelse Q E it s₂) E s := by
  refine wpAny_pyIter_range hr hsmall ?_
  have hI : h₀.get? s.heap.objs.size = none := by
    cases e : h₀.get? s.heap.objs.size with
    | none => rfl
    | some o => exact absurd (Heap.lt_size (F.keep _ _ e)) (Nat.lt_irrefl _)
  have hLI := Nat.ne_of_lt F.ns.lt
  refine loopH (PO := fun o => o.cls = .type "range_iterator") (HasCell cc) (StoC cc) hE (rangeWalks hh s.heap.objs.size a c n) (sto_cell hk hx hc hLI) hLI hI (fun i h st => ⟨_, st, rfl⟩) ?_ (F.push _) (N.pushKeep _) (fun p hp => N.apart p hp) J hJs (by exact hJs _ _ _ s _ _ h0) hJP (fun i v m₀ news₀ m₁ news₁ s₁ o hi hP hpo hJ hS ha F₁ N₁ => ?_) fin
  · show IsRangeIter _ _ (a + (0 : Nat) * c) ((n : Int) - (0 : Nat)) c
    rw [hn]
    simp only [Int.ofNat_zero, Int.zero_mul, Int.add_zero, Int.sub_zero]
    exact Heap.get?_push_size _ rfl
  · obtain ⟨tk, rfl⟩ := hP
    obtain ⟨rfl, own, rest, c₀, c₁, v₀, rfl, hd, rfl, hd'⟩ := hS
    exact step _ i tk m₁ own rest c₀ c₁ v₀ s₁ o hi hpo hJ hd hd' ha F₁ N₁
end
end

section
open PySem PySem.W PyProof.Rows PySem.Calls PySem.Spec
set_option maxRecDepth 100000
set_option maxHeartbeats 400000
open Builtin Builtin.ObjectAttr Builtin.List
section
variable {prog : Program} {w : World} {A : Around} {E : Value → Shared → Prop} {s : Shared} {K : Frag} {x C dx L f : Addr} {h₀ : Heap} {m : Str → Option Value} {news : List (Addr × Obj)} {ox : Obj} {es : List DictEntry} {n : Nat} {name : Str}
theorem acc_bound {expr : Bool} {Q : Value → Shared → Prop} (F : Fr h₀ L s.heap m) (X₀ : K.In h₀) (N : News h₀ L s.heap news) (I : W.InstAt s.heap x ox C (some (dictOf es n)))
    (hga : findIn K (.ref C) "__getattribute__" = some (some (.builtin "list.__getattribute__"))) (hk : findIn K (.ref C) "__getattr__" = some none) (hm : mroIn K C (.type "list") = some true) (hh : hasDictIn K C = true)
    (ha : findIn K (.ref C) name = some (some (.ref f))) (hf : isFn K (.ref f) = true) (hgf : specialIn K (.ref f) "__get__" = some (some (.builtin "function.__get__"))) (ht : takesIn K (.ref f) = some false) (hc : copiedNames.contains name = false) (hl : getL name es = some none)
    (h : ∀ q h', Fr h₀ L h' m → News h₀ L h' ((q, methodObj (.ref f) (.ref x)) :: news) → (∀ p ∈ news, p.1 < q) → Q (.ref q) { s with heap := h', toks := s.toks + 1 }) : wpAny (model prog w) A (getAttr (.ref x) name expr) Q E s := by
  have X := X₀.keeps F.keep
  have fin := h s.heap.objs.size _ (F.push _) (N.push F _) fun p hp => Heap.lt_size (N p hp).1
  obtain ⟨hh', g, d, t, os⟩ := s
  have L0 := I.type (M := model prog w)
  have L1 := looks_findIn (M := model prog w) X hga
  have L2 := looks_findIn (M := model prog w) X hk
  have L3 : Looks (model prog w) hh' (isInstance (.ref x) (.type "list")) true := L0.andThen (looks_mroIn X hm)
  have e4 := findObj_fn (od := dictOf es n) hh ha hgf ht hc (by rw [lookIn_dict, hl])
  have L4 := looks_find (M := model prog w) X I e4
  unfold getAttr getAttrBy
  refine wpAny_bind (wpAny_mkText (wpAny_holding (wpAny_bind (L0.at (wpAny_bind (L1.at ?_))))))
  show wpAny _ _ (getAttrByItsOwn (.ref x) (.str name t) (.ref C) (.builtin "list.__getattribute__") true expr) _ _ _
  unfold getAttrByItsOwn
  refine wpAny_bind (L2.at ?_)
  refine wpAny_bind (wpAny_attempt (wpAny_holding ?_))
  have e5 : callGetattribute (.ref x) (.str name t) (.builtin "list.__getattribute__") expr = boundAndCalled (.builtin "list.__getattribute__") (.ref x) (.str name t) := by
    unfold callGetattribute; rw [if_neg (by simp [onTheHeap])]
  rw [e5]
  unfold boundAndCalled
  rw [lga_bind]
  refine wpAny_bind (wpAny_pure ?_)
  show wpAny _ _ (call (.builtin "list.__getattribute__") [.ref x, .str name t] []) _ _ _
  refine wpAny_call ?_
  refine codeAny_call_builtin (id := "list.__getattribute__") lga_plain entry_lga ?_
  refine @check_slot (model prog w) _ _ _ "list.__getattribute__" "list" "__getattribute__" (.ref x) [.str name t] [] _ lga_kind lga_split L3 (lga_args (.ref x) (.str name t)) ?_
  unfold Builtin.«object.__getattribute__» slotArgs attrName
  repeat (first | with_reducible refine wpAny_call ?_ | lk)
  refine fn_get X (beq_iff_eq.mp hf) ?_
  repeat lk
  exact fin
theorem methodCall_star {M : Model} {A : Around} {E : Value → Shared → Prop} {s : Shared} {env : Env} {o : PySem.Expr} {name : Str} {apos pos : Pos} {args : List PySem.Expr} {Q : Value → Shared → Prop}
    (hform : methodCallForm (args.length + 0) (backTo pos (starEach args env)) (backToKw pos (keywordEach [] env)) = false) (hb : ∀ whole, attributeBase o name env whole = whole)
    (h : wpAny M A (PySem.eval o env) (fun ov s₁ => wpAny M A (getAttr ov name true) (fun f s₂ => wpAny M A (callWith pos f [] (backTo pos (starEach args env)) []) Q E s₂) E s₁) E s) :
    wpAny M A (PySem.eval (.Call (.Attribute o name apos) args [] pos) env) Q E s := by
  have e : PySem.eval (.Call (.Attribute o name apos) args [] pos) env = (do
    let ov ← attributeBase o name env (PySem.eval o env)
    standAt apos.atName
    methodCall o name apos pos env ov (args.length + 0) (backTo pos (starEach args env)) (backToKw pos (keywordEach [] env))) := by
    rfl
  rw [e, hb]
  refine wpAny_bind (wpAny_mono h (fun ov s₁ h₁ => wpAny_bind (wpAny_standAt ?_)) fun _ _ e => e)
  unfold methodCall
  rw [hform]
  unfold calleeOf methodCallPos
  refine wpAny_bind (wpAny_holding ?_)
  simp only [Bool.false_eq_true, if_false, Bool.not_false, Bool.true_or, if_true]
  refine wpAny_bind (wpAny_mono h₁ (fun f s₂ h₂ => wpAny_pure (wpAny_bind (wpAny_pure ?_))) fun _ _ e => e)
  exact h₂
theorem callWith_MS {M : Model} {A : Around} {E : Value → Shared → Prop} {s : Shared} {env : Env} {pos p : Pos} {first : List Value} {q g : Addr} {self : Value} {e : PySem.Expr} {Q : Value → Shared → Prop} (_X : K.In h₀) (_N : News h₀ L s.heap news) (_q : (q, methodObj (.ref g) self) ∈ news) (hf : fnIn K g = true)
    (h : wpAny M A (PySem.eval e env) (fun v s₁ => StarOf M A E v (fun vs s₂ => MethP K q g self s₂.heap ∧ wpAny M A (call (.ref q) (first ++ vs)) Q E s₂) s₁) E s)
    (he : starEach [.Starred e p] env = [(true, PySem.eval e env)] := by rfl) :
    wpAny M A (callWith pos (.ref q) first (backTo pos (starEach [.Starred e p] env)) []) Q E s := by
  rw [he]
  exact ks_call rfl (keeps_M hf) (ks_lone h)
theorem truthy_lenK {od : Option Obj} {Q : Bool → Shared → Prop} (F : Fr h₀ L s.heap m) (X₀ : K.In h₀) (I : W.InstAt s.heap x ox C od) (hb : findIn K (.ref C) "__bool__" = some none) (hs : findIn K (.ref C) "__len__" = some (some (.ref f))) (hf : isFn K (.ref f) = true)
    (h : wpAny (model prog w) A.in1 (call (.ref f) [.ref x]) (PySem.W.LenBack (fun v s' => match v with | .int n _ => Q (n != 0) s' | _ => False)) E s) : wpAny (model prog w) A (truthy (.ref x)) Q E s := by
  have X := X₀.keeps F.keep
  unfold truthy
  refine wpAny_bind (m := callSpecial? (.ref x) (Str.ofString "__bool__")) (wpAny_bind (wpAny_bind (I.type.here ((looks_findIn X hb).here (wpAny_pure ?_)))))
  refine wpAny_bind (wpAny_bind (I.type.here ((looks_findIn X hs).here ?_)))
  refine wpAny_bind (wpAny_runValue (codeAny_builtin PySem.entry_len ?_))
  unfold Builtin.«len»
  refine wpAny_bind (m := oneArg "len" _) (wpAny_pure ?_)
  refine wpAny_bind (m := callSpecial? (.ref x) (Str.ofString "__len__")) (special_fn X I hs (beq_iff_eq.mp hf) (wpAny_mono h (fun r s' hr => ?_) fun _ _ y => y))
  cases r <;> first | exact hr.elim | skip
  rename_i n u
  obtain ⟨⟨h0, h1⟩, hq⟩ := hr
  refine wpAny_bind (wpAny_holding (wpAny_pure ?_))
  refine wpAny_bind (wpAny_letGo ?_)
  show wpAny _ _ (if n < 0 then _ else _) _ _ _
  rw [if_neg (by omega)]
  show wpAny _ _ (if n ≥ 2 ^ 63 then _ else _) _ _ _
  rw [if_neg (by omega)]
  refine wpAny_bind (wpAny_mkInt (wpAny_pure ?_))
  exact wpAny_pure hq
theorem LinesAt.marks : ∀ {vs : List Value} {xs : List Str}, LinesAt vs xs → ∃ l : List (Str × Tok), vs = strValues l ∧ l.map (·.1) = xs
  | [], [], _ => ⟨[], rfl, rfl⟩
  | _ :: _, x :: _, h => by
    obtain ⟨⟨t, rfl⟩, h2⟩ := h
    obtain ⟨l, rfl, rfl⟩ := LinesAt.marks h2
    exact ⟨(x, t) :: l, rfl, rfl⟩
  | [], _ :: _, h => h.elim
  | _ :: _, [], h => h.elim
theorem join_L {sep : Str} {t : Tok} {D : Addr} {ls : List Value} {lines : List Str} {Q : Value → Shared → Prop} (N : News h₀ L s.heap news) (hD : (D, W.listOf ls.toArray n) ∈ news) (hl : LinesAt ls lines) (hok : JoinOk sep lines = true)
    (hq : ∀ t' k, Q (.str (Txt.join sep lines) t') { s with toks := k }) : wpAny (model prog w) A (call (.builtin "str.join") [.str sep t, .ref D]) Q E s := by
  obtain ⟨l, rfl, ht⟩ := hl.marks
  exact SC.join ⟨_, (N _ hD).1, rfl, _, rfl⟩ ht hok hq
end
end

section
open PySem PySem.W PyProof.Rows PySem.Calls PySem.Spec
set_option maxRecDepth 100000
set_option maxHeartbeats 4000000
open Builtin Builtin.ObjectAttr Builtin.List
theorem pairs_fr {h₀ h : Heap} {L : Addr} {m : Str → Option Value} {xs : List Value} {ps : List (Str × Str)} (F : Fr h₀ L h m) (x : PairsAt h₀ xs ps) : PairsAt h xs ps := x.keeps fun T o _ e => F.keep T o e
theorem pairs_snoc_r {h₀ h : Heap} {L T : Addr} {m : Str → Option Value} {news : List (Addr × Obj)} {a b : Str} {ta tb : Tok} {n : Nat} {xs : List Value} {ps : List (Str × Str)} (F : Fr h₀ L h m) (N : News h₀ L h news) (hm : (T, ({ cls := .type "tuple", data := .seq [.str a ta, .str b tb].toArray n } : Obj)) ∈ news) (x : PairsAt h₀ xs ps) : PairsAt h (xs ++ [.ref T]) (ps ++ [(a, b)]) := pairs_snoc x F N hm
theorem reg_MTA_0 : True := by
  k_with_none
  k_with "zz" => (first | assumption | exact Nat.le_trans (by assumption) (by decide) | exact Nat.lt_of_le_of_lt (by assumption) (by decide) | exact Nat.le_trans (Nat.sub_le _ _) (Nat.le_trans (by assumption) (by decide)) | exact Nat.le_trans (Nat.min_le_right _ _) (Nat.le_trans (by assumption) (by decide)) | exact Nat.sub_pos_of_lt (by assumption) | exact Nat.lt_of_sub_pos (by assumption) | exact mn_pos (by assumption) | exact mn_lt (by assumption) | exact mn_no (by assumption) | exact sb_no (by assumption) | exact nm1 | exact sub1 (by assumption) | exact cp1 (by assumption) | exact cpp (by assumption) | exact cpn (by assumption) | exact cpa (by assumption) | exact sz1 (by assumption) | exact sz2 (by assumption) | exact sz3 (by assumption) | exact sz5 (by assumption) (by decide) | exact na3 (by assumption) (by assumption) | exact na4 (by assumption) (by assumption) | exact na5 (by assumption) (by assumption) | exact fl1 (by assumption) (by decide) | lia | omega)
  k_with "zr" => ((repeat (with_reducible refine rm_deeper ?_)); exact rm_top (by assumption) (by decide))
  k_with "zu" => ((repeat (first | with_reducible refine um_deeper ?_ | with_reducible refine um_in1 ?_)); exact rm_top (by assumption) (by decide))
  k_with "zn" => (refine neN ?_; (try dsimp only); first | exact Nat.ne_of_lt (Nat.add_lt_add_left (by decide) _) | exact Nat.ne_of_gt (Nat.add_lt_add_left (by decide) _) | (refine Nat.ne_of_lt ?_; (try refine lt154 ?_); (repeat (first | assumption | exact ltA (by assumption) (by decide) | refine Nat.lt_trans (by assumption) ?_ | refine Nat.lt_trans (ltA (by assumption) (by decide)) ?_)); done) | (refine Nat.ne_of_gt ?_; (try refine lt154 ?_); (repeat (first | assumption | exact ltA (by assumption) (by decide) | refine Nat.lt_trans (by assumption) ?_ | refine Nat.lt_trans (ltA (by assumption) (by decide)) ?_)); done) | (first | lia | omega))
  k_with "k_enter" => (refine ks_code_super (by k_asm) (by k_asm) (by k_asm) (by k_asm) (by k_asm) (by exact rfl) (by exact rfl) (by exact rfl) (by k_is) (by k_is) (by k_room) (by first | exact BindsTo.of_eq rfl | exact binds_K (by k_in) rfl (by k_is) rfl rfl rfl) (by exact locs rfl) ?_ (by decide) (by exact rfl) (by exact rfl) (by exact rfl); intro g' L' h' FG' F' N' B' X' T' l1; (try k_lt l1); (try dsimp only); (try k_lift B'))
  k_with "k_inst" => (refine Mine.instL (by k_asm) (by k_mem) (by k_mem))
  k_with "call ref" => (k_here; k_dflt (refine Mine.acc_make (by k_asm) (by k_asm) (by k_asm) (by k_is) (by rfl) (by rfl) (by rfl) (by k_is) (by k_is) (by k_is) (by k_is) (by (unfold argsOk; kernel_rfl)) ?_; k_whole; intro x' d' h' F' N' l1 l2; (try k_lt l1); (try k_lt2 l2); (try k_sweep); (first | k_enter | ks_enter)))
  k_with "setAttr ref" => (k_here; k_dflt (refine Mine.acc_set (by k_asm) (by k_asm) (by k_asm) (by k_inst) (by exact rfl) (by k_is) (by k_is) (by rfl) (by rfl) (by k_is) (by k_get) (by k_put) (by k_upd) (by exact Nat.le_of_ble_eq_true rfl) ?_; k_whole; intro h' F' N'; (try k_sweep)))
  k_with "getMethod ref" => (k_here; k_dflt (refine Mine.acc_method (by k_asm) (by k_asm) (by k_inst) (by k_is) (by k_is) (by k_is) (by k_is) (by (first | rfl | decide +kernel)) (by k_get) ?_; k_whole))
  k_with "getMethod ref" => (k_here; k_dflt (first
  | (refine Mine.sup_method Mine.bound_pop (by k_asm) (by k_asm) (by k_asm) (by k_mem) (by k_inst) (by k_is) (by ks_is) (by k_is) (by decide) ?_; k_whole; intro q' h' F' N' l1; (try k_lt l1))
  | (refine Mine.sup_method Mine.bound_init (by k_asm) (by k_asm) (by k_asm) (by k_mem) (by k_inst) (by k_is) (by ks_is) (by k_is) (by decide) ?_; k_whole; intro q' h' F' N' l1; (try k_lt l1))
  | (refine Mine.sup_method Mine.bound_len (by k_asm) (by k_asm) (by k_asm) (by k_mem) (by k_inst) (by k_is) (by ks_is) (by k_is) (by decide) ?_; k_whole; intro q' h' F' N' l1; (try k_lt l1))))
  k_with "callWith ref" => (k_here; k_dflt (refine Mine.callWith_bm (by k_asm) (by k_mem) (by rfl) (by rfl) ?_; k_whole))
  k_with "call ref" => (k_here; k_dflt (first
  | (refine Mine.bm_pop (by k_asm) (by k_asm) (by k_asm) (by k_mem) (by k_inst) (by k_is) (by rfl) (by (first | rfl | decide +kernel)) (by k_upd) (by first | size_fits | (rw [sizeLine_eq]; (first | lia | omega))) ?_; k_whole; intro h' F' N'; (try k_sweep))
  | (refine Mine.bm_init (by k_asm) (by k_asm) (by k_mem) (by k_inst) (by k_upd) ?_; k_whole; intro h' F' N'; (try k_sweep))
  | (refine Mine.bm_len (by k_asm) (by k_mem) (by k_inst) ?_; k_whole)))
  k_with "call builtin:list.append" => (k_here; k_dflt (refine Mine.acc_append (by k_asm) (by k_asm) (by k_asm) (by k_inst) (by k_is) (by k_upd) (by first | size_fits | (rw [sizeLine_eq]; (first | lia | omega))) ?_; k_whole; intro h' F' N'; (try k_sweep)))
  k_with "wpAt" => ((try dsimp only); ks_step "execs cons"; refine ks_wpAt_execs_cons ?_)
  k_with "wpAt" => (k_dflt (ks_step "exec Expr"; refine ks_wpAt_Expr_any ?_))
  k_with "wpAt" => (k_dflt (ks_step "exec Return"; refine ks_wpAt_Return_some ?_))
  k_with "wpAt" => (k_dflt (ks_step "exec Assign"; first | refine ks_wpAt_Assign_Name ?_ | refine ks_wpAt_Assign_Attr ?_))
  k_with "wpAt" => (k_dflt (ks_step "exec If"; refine ks_wpAt_If ?_))
  k_with "wpAt" => (k_dflt (ks_step "eval BinOp"; refine ks_wpAt_BinOp2 ?_))
  k_with "wpAt" => (k_dflt (ks_step "eval Call"; refine ks_wpAt_MethodCall ?_))
  k_with "wpAt" => (k_dflt (ks_step "attributeBase Call"; k_here; (refine ks_node (by k_asm) (by k_asm) (by k_asm) (by k_asm) (by k_is) (by rfl) (by rfl) (by k_inst) (by k_is) (by rfl) (by first | rfl | decide +kernel) (by k_is) (by k_is) (by k_is) (by k_is) (by decide) (by rfl) (by rfl) (by rfl) (by rfl) (by decide +kernel) (by first | boot_by_name | rfl | kernel_rfl) ?_; intro so' h' F' N' l1; (try k_lt l1))))
  k_with "eval Name" => (k_here; (with_reducible show wpAny _ _ (PySem.eval _ (genEnv _ _ _ _ _ _)) _ _ _); k_dflt (refine Mine.gname_L (by k_asm) (by assumption) ?_; k_whole))
  k_with "eval Name" => (k_here; (with_reducible show wpAny _ _ (PySem.eval _ (genEnv _ _ _ _ _ _)) _ _ _); k_dflt (refine Mine.gname_B (by k_asm) (by k_asm) (by k_asm) (by k_is) (by boot_by_name) (by decide) ?_; k_whole))
  k_with "getAttr ref" => (k_here; k_dflt (refine Mine.acc_get (by k_asm) (by k_asm) (by k_inst) (by k_is) (by k_is) (by k_is) (by k_is) (by k_is) (by first | assumption | k_get) (by k_handed) ?_; k_whole))
  k_with "call builtin:len" => (k_here; (with_reducible show wpAny _ _ (call (Value.builtin "len") [Value.str _ _]) _ _ _); k_dflt (refine Mine.len_txt (by assumption) ?_; k_whole))
  k_with "eval Name" => (k_here; (with_reducible show wpAny _ _ (PySem.eval _ (genEnv _ _ _ _ _ _)) _ _ _); k_dflt (refine Mine.gname_K (by k_asm) (by k_asm) (by k_asm) (by k_is) ?_; k_whole))
  k_with "newTuple" => ((with_reducible rename Mine.GMark => hG9); k_here; k_dflt (refine Mine.newTuple_G (by k_asm) ?_ (by size_fits)); k_whole; intro F' N'; (try k_sweep))
  k_with "call ref" => (k_here; (with_reducible show wpAny _ _ (call (Value.ref 152) [Value.ref _]) _ _ _); k_dflt (refine Mine.acc_len_L (by k_asm) (by k_asm) (by k_asm) (by k_asm) (by rfl) (by ktr_room) (by ktr_units) (by ((try dsimp only); assumption)) (by k_mem) (by k_mem) (by k_get) (by k_mem) (by assumption) (by k_is) (by rfl) (by rfl) (by rfl) (by rfl) (by rfl) (by (first | (refine Mine.pairs_snoc (by assumption) (by k_asm) (by k_asm) (by k_mem)) | (refine Mine.PairsAt.keeps (by assumption) (fun T o _ e => Fr.keep (by k_asm) T o e)) | (refine Mine.pairs_snoc_r (by k_asm) (by k_asm) (by k_mem) (by (first | exact Mine.pairs_fr (by assumption) (by assumption) | exact Mine.pairs_fr (by assumption) (Mine.pairs_fr (by assumption) (by assumption))))) | (refine Mine.pairs_fr (by k_asm) (by (first | exact Mine.pairs_fr (by assumption) (by assumption) | exact Mine.pairs_fr (by assumption) (Mine.pairs_fr (by assumption) (by assumption))))))) (by assumption) (by assumption) (by assumption) ?_); intro s9 t9 tp9 ht9 F' hN9 G9 os9 hb9; (have N' := hN9 _ (by k_upd)); clear hN9; (try k_sweep); (try (dsimp only [PySem.W.LenBack]; refine ⟨⟨by (first | lia | omega), by (first | lia | omega)⟩, ?_⟩)))
  k_with "subscriptTail" => (k_here; (with_reducible show wpAny _ _ (subscriptTail _ _ (Value.ref _) (Value.int _ _)) _ _ _); k_dflt (refine Mine.acc_pair (by k_asm) (by k_asm) (by k_inst) (by k_is) (by k_is) (by k_is) (by (first | (refine Mine.pairs_snoc (by assumption) (by k_asm) (by k_asm) (by k_mem)) | (refine Mine.PairsAt.keeps (by assumption) (fun T o _ e => Fr.keep (by k_asm) T o e)))) (by (first | lia | omega)) (by (first | lia | omega)) (by (first | (first | lia | omega) | (simp only [List.length_append, List.length_cons, List.length_nil]; (first | lia | omega)))) ?_ (by with_unfolding_all rfl) (by (intro _; with_unfolding_all rfl))); intro T9 p9 ta9 tb9 hp9 hT9; (try ((with_reducible rename Mine.AllW _ _ _ _ => w9); rcases Mine.pairW w9 hp9 with e9 | e9) <;> subst e9); (try dsimp only at hT9))
  k_with "subscriptTail" => (k_here; (with_reducible show wpAny _ _ (subscriptTail _ _ (Value.ref _) (Value.int _ _)) _ _ _); k_dflt (first | ((with_reducible show wpAny _ _ (subscriptTail _ _ (Value.ref _) (Value.int 0 _)) _ _ _); refine Mine.pair_fst (by assumption) ?_ (by with_unfolding_all rfl)) | ((with_reducible show wpAny _ _ (subscriptTail _ _ (Value.ref _) (Value.int 1 _)) _ _ _); refine Mine.pair_snd (by assumption) ?_ (by with_unfolding_all rfl))))
  k_with "subscriptTail" => (k_here; (with_reducible show wpAny _ _ (subscriptTail _ (PySem.Expr.Slice _ _ none _) (Value.ref _) (Value.ref _)) _ _ _); k_dflt (refine Mine.acc_slice_from (by k_asm) (by k_asm) (by k_asm) (by k_inst) (by k_is) (by k_is) (by k_is) (by (simp only [List.length_append, List.length_cons, List.length_nil]; (first | lia | omega))) (by (rw [sizeLine_eq]; simp only [List.length_append, List.length_cons, List.length_nil]; (first | lia | omega))) (by exact Mine.drop_snoc (by assumption)) ?_ (by with_unfolding_all rfl) (by (intro _; with_unfolding_all rfl))); intro D' h' F' N' l1 l2; (try k_lt l1); (try k_sweep))
  k_with "setItem ref" => (k_here; (with_reducible show wpAny _ _ (setItem (Value.ref _) (Value.ref _) (Value.ref _)) _ _ _); k_dflt (refine Mine.acc_set_slice_at (by k_asm) (by k_asm) (by k_asm) (by k_inst) (by k_is) (by k_is) (by k_is) (by kmk_part) (by exact rfl) (by first | exact Nat.zero_le _ | (simp only [List.length_append, List.length_cons, List.length_nil]; (first | lia | omega))) (by k_mem) (by (rw [sizeLine_eq]; simp only [List.length_append, List.length_cons, List.length_nil]; (first | lia | omega))) (by first | exact Mine.take_snoc (by assumption) | exact rfl) (by exact rfl) (by k_upd) ?_); intro h' F' N'; (try k_sweep))
  k_with "call ref" => (k_here; (with_reducible show wpAny _ _ (call (Value.ref 159) [Value.ref _]) _ _ _); k_dflt (refine Mine.acc_str_L (by k_asm) (by k_asm) (by k_asm) (by k_asm) (by rfl) (by ktr_room) (by ktr_units) (by ((try dsimp only); assumption)) (by k_mem) (by k_mem) (by k_mem) (by assumption) (by k_is) (by rfl) (by rfl) (by rfl) (by rfl) (by rfl) (by (first | (refine Mine.pairs_snoc (by assumption) (by k_asm) (by k_asm) (by k_mem)) | (refine Mine.PairsAt.keeps (by assumption) (fun T o _ e => Fr.keep (by k_asm) T o e)) | (refine Mine.pairs_snoc_r (by k_asm) (by k_asm) (by k_mem) (by (first | exact Mine.pairs_fr (by assumption) (by assumption) | exact Mine.pairs_fr (by assumption) (Mine.pairs_fr (by assumption) (by assumption))))) | (refine Mine.pairs_fr (by k_asm) (by (first | exact Mine.pairs_fr (by assumption) (by assumption) | exact Mine.pairs_fr (by assumption) (Mine.pairs_fr (by assumption) (by assumption))))))) (by assumption) (by assumption) ?_); intro s9 t9 tp9 ht9 F' hN9 G9 os9; (have N' := hN9 _ (by k_upd)); clear hN9; (try k_sweep); (try (dsimp only [PySem.W.StrBack])))
  k_with "call builtin:list.append" => (k_here; k_dflt (refine Mine.append_KL (by k_asm) (by k_asm) (by k_upd) (by (rw [sizeLine_eq]; (first | lia | omega))) ?_; k_whole; intro h' F' N'; (try k_sweep)))
  k_with "call ref" => (k_here; k_dflt (refine Mine.bm_pop (odc := none) (by k_asm) (by k_asm) (by k_asm) (by k_mem) (by k_inst) (by k_is) (by rfl) (by (first | rfl | decide +kernel)) (by k_upd) (by first | size_fits | (rw [sizeLine_eq]; (first | lia | omega))) ?_; k_whole; intro h' F' N'; (try k_sweep)))
  k_with "compareOp NotEq ref ref" => (k_here; (with_reducible show wpAny _ _ (compareOp CmpOp.NotEq (Value.ref _) (Value.ref _)) _ _ _); k_dflt (refine ne_dataH (by ke_read) (by ke_read) (by first | exact Mine.shaped2 (by assumption) (by assumption) | ke_shaped) (by ke_shaped) (by ktr_units) ?_); (try rw [Mine.eqv_ne (by assumption)]); ke_norm)
  k_with "eval Call Attribute" => (k_here; (with_reducible show wpAny _ _ (PySem.eval (PySem.Expr.Call (PySem.Expr.Attribute _ _ _) [PySem.Expr.Starred _ _] [] _) _) _ _ _); k_dflt (refine Mine.methodCall_star (by rfl) (by (intro _; rfl)) ?_; k_whole))
  k_with "getAttr ref" => (k_here; k_dflt (refine Mine.acc_bound (by k_asm) (by k_asm) (by k_asm) (by k_inst) (by k_is) (by k_is) (by k_is) (by k_is) (by k_is) (by k_is) (by k_is) (by k_is) (by decide +kernel) (by k_get) ?_; k_whole); intro q' h' F' N' l1; (try k_lt l1); (try k_sweep))
  k_with "callWith ref" => (k_here; (with_reducible show wpAny _ _ (callWith _ (Value.ref _) _ (backTo _ (starEach [PySem.Expr.Starred _ _] _)) []) _ _ _); k_dflt (refine Mine.callWith_MS (by k_asm) (by k_asm) (by k_mem) (by k_is) ?_; k_whole))
  k_with "truthy ref" => (k_here; (with_reducible show wpAny _ _ (truthy (Value.ref _)) _ _ _); k_dflt (refine Mine.truthy_lenK (by k_asm) (by k_asm) (by k_inst) (by k_is) (by k_is) (by k_is) ?_; k_whole))
  trivial

/-- an accumulator's own dict -/
abbrev acdO (k7 : Int) (t7 : Tok) (i0 : Int) (u7 : Tok) : Obj := dictOf [⟨k7, .str (Str.ofString "_initial_size") t7, .int i0 u7⟩] 1
/-- all stands but these -/
def Kept (ch : List Addr) (h h' : Heap) : Prop := ∀ b o, b ∉ ch → h.get? b = some o → h'.get? b = some o
theorem kin_nil {ch : List Addr} {led' : List (Addr × Obj)} : ∀ q ∈ ([] : List (Addr × Obj)), q.1 ∉ ch → q ∈ led' := fun _ h => nomatch h
theorem kin_in {ch : List Addr} {led led' : List (Addr × Obj)} {a : Addr × Obj} (h : a ∈ led') (t : ∀ q ∈ led, q.1 ∉ ch → q ∈ led') : ∀ q ∈ a :: led, q.1 ∉ ch → q ∈ led' := fun q hq hn => by
  rcases List.mem_cons.mp hq with rfl | hq
  · exact h
  · exact t q hq hn
theorem kin_ch {ch : List Addr} {led led' : List (Addr × Obj)} {a : Addr × Obj} (h : a.1 ∈ ch) (t : ∀ q ∈ led, q.1 ∉ ch → q ∈ led') : ∀ q ∈ a :: led, q.1 ∉ ch → q ∈ led' := fun q hq hn => by
  rcases List.mem_cons.mp hq with rfl | hq
  · exact absurd h hn
  · exact t q hq hn
theorem News.get' {h₀ h : Heap} {L D : Addr} {news : List (Addr × Obj)} {o : Obj} (N : News h₀ L h news) (hm : (D, o) ∈ news) : h.get? D = some o := (N _ hm).1
section
variable {prog : Program} {w : World} {A : Around} {E : Value → Shared → Prop} {s : Shared} {K : Frag} {h₀ : Heap} {L : Addr} {m mg mb : Str → Option Value} {news : List (Addr × Obj)} {p : Program} {loose : List Str} {mean : ExcName → Option Value}
theorem enterH {R : Result → Shared → Prop} {name qual : Str} {params : Arguments} {body : List Stmt} {scope : Scope} {dV kV doc pm cdv ct oc : Value} {an od : Option Addr} {osl : Array (Option Value)} {f : Addr} {args : Args} {binds : List (Str × Value)}
    (F : Fr h₀ L s.heap m) (X₀ : K.In h₀) (N : News h₀ L s.heap news) (T : Top p loose mean mg mb h₀)
    (ho : K.lookup f = some ⟨oc, od, .func (fnOf name qual params body scope dV kV doc pm an cdv ct), osl⟩) (hcd : codeIn K cdv qual = true) (hroom : A.depth < recursionLimit)
    (hbind : BindsTo s (fnOf name qual params body scope dV kV doc pm an cdv ct) args binds) (hloc : ∀ y ∈ binds, scope.names.lookup y.1 = some .local)
    (h : ∀ g L' h₁, s.heap.objs.size = L' → (∀ b o, s.heap.get? b = some o → b ∉ news.map (·.1) → g.get? b = some o) → Fr g L' h₁ (fun y => binds.reverse.lookup y) → News g L' h₁ news → K.In g → Top p loose mean mg mb g → (∀ p ∈ news, p.1 < L') →
      wpAny (model prog w) (A.deeper (envOf qual scope L' f cdv)) (execs body (envOf qual scope L' f cdv))
        (fun fl s' => R (.ok (.ret (match fl with | .ret v => v | _ => .none))) s')
        (fun e s' => wpAny (model prog w) (A.deeper (envOf qual scope L' f cdv)) (leaving (envOf qual scope L' f cdv) e) (fun _ s'' => R (.error e) s'') (fun e' s'' => R (.error e') s'') s')
        { s with heap := h₁, toks := s.toks + binds.length })
    (hco : scope.isCoroutine = false) (hgen : scope.isGenerator = false) (hk : scope.kind = .function) (hcell : ∀ x ∈ scope.names, x.2 ≠ .cell) : codeAny (model prog w) A (.call (.ref f) args) R s := by
  have st : ∀ b o, h₀.get? b = some o → (hideAll s.heap (news.map (·.1))).get? b = some o := fun b o e => hideAll_get _ (F.keep b o e) fun q => by
    obtain ⟨p, hp, rfl⟩ := List.mem_map.mp q
    rw [(N p hp).2.2] at e; cases e
  refine codeAny_call_def (fd := fnOf name qual params body scope dV kV doc pm an cdv ct) (body := body) (binds := binds) hroom ((X₀.keeps F.keep) _ _ ho) rfl (T.nolimit.keeps F.keep) (codeRec_of (X₀.keeps F.keep) hcd) rfl hbind hcell hloc (fun h₁ hns hk₁ => ?_) hco hgen hk
  exact h _ s.heap.objs.size h₁ rfl (fun b o e hb => hideAll_get _ e hb) ⟨hns, fun b o e => hk₁ b o (of_hideAll _ e), Nat.le_of_eq (hideAll_size _ _)⟩
    (fun p hp => ⟨hk₁ _ _ (N p hp).1, Nat.ne_of_lt (Heap.lt_size (N p hp).1), hideAll_none _ (List.mem_map_of_mem hp)⟩) (X₀.keeps st) (T.keeps st) (fun p hp => Heap.lt_size (N p hp).1)
end
theorem newTuple_P {M : Model} {A : Around} {E : Value → Shared → Prop} {s : Shared} {h₀ : Heap} {L : Addr} {m : Str → Option Value} {news : List (Addr × Obj)} {vs : List Value} {Q : Value → Shared → Prop} (F : Fr h₀ L s.heap m) (N : News h₀ L s.heap news)
    (h : ∀ D h', Fr h₀ L h' m → News h₀ L h' ((D, { cls := .type "tuple", data := .seq vs.toArray }) :: news) → (∀ p ∈ news, p.1 < D) → L ≤ D → Q (.ref D) { s with heap := h' }) (hsz : vs.length ≤ sizeLine) :
    wpAny M A (newTuple vs) Q E s := wpAny_newObj_type (h _ _ (F.push _) (N.push F _) (fun p hp => Heap.lt_size (N p hp).1) (Nat.le_of_lt F.ns.lt)) (by show vs.toArray.size ≤ sizeLine; rw [List.size_toArray]; exact hsz)
theorem reg_MTA_1 : True := by
  k_with "newTuple" => (k_here; k_dflt (refine Mine.newTuple_P (by k_asm) (by k_asm) ?_ (by size_fits)); k_whole; intro D' h' F' N' l1 l2; (try k_lt l1); (try k_sweep))
  trivial
theorem push_raw (w : World) {A : Around} {E Q : Value → Shared → Prop} {s : Shared} {h₀ : Heap} {L : Addr} {m mg mb : Str → Option Value} {p : Program} {loose : List Str} {mean : ExcName → Option Value}
    {k7 : Int} {t7 u7 ta tb : Tok} {x dx : Addr} {xs : List Value} {n : Nat} {i0 : Int} {a b : Str}
    (F : Fr h₀ L s.heap m) (X₀ : (hd.heap_1 w.params).In h₀) (N : News h₀ L s.heap [(x, accObj 185 dx xs n), (dx, acdO k7 t7 i0 u7)]) (T : Top p loose mean mg mb h₀) (hh : A.handled = none) (hd1 : A.depth + 4 < recursionLimit) (hu : A.units + 40 < cLine) (hxs : xs.length ≤ 1000) (o5 : @LT.lt Nat _ dx x)
    (hQ : ∀ D h' tk, Kept [x] s.heap h' → h'.get? x = some (accObj 185 dx (xs ++ [.ref D]) (n + 1)) → h'.get? D = some { cls := .type "tuple", data := .seq [.str a ta, .str b tb].toArray } → s.heap.objs.size ≤ D → Q .none { s with heap := h', toks := tk }) :
    codeAny (model PySem.Challenge.rw_xl0020_01.row.prog w) A (.call (.ref 129) ⟨[.ref x, .str a ta, .str b tb], []⟩) (fun r s' => match r with | .ok (.ret v) => Q v s' | .ok _ => False | .error e => E e s') s := by
  revert X₀; k_fill; intro X₀
  k_dflt (refine' enterH F X₀ N T ?k6 ?k7 ?k8 ?k9 ?kB ?_ ?c2 ?c3 ?c4 ?c5)
  (case k6 => k_is)
  (case k7 => k_is)
  (case k8 => (first | lia | omega))
  (case k9 => exact BindsTo.of_eq rfl)
  (case kB => exact locs rfl)
  (case c2 => exact rfl)
  (case c3 => exact rfl)
  (case c4 => exact rfl)
  (case c5 => decide)
  intro g L' h₁ hL' hk1 F1 N1 X1 T1 hlt
  dsimp only
  k_lt hlt
  k_steps
  refine' hQ _ _ _ ?q0 ?q1 ?q2 ?q3
  (case q0 => refine' kept_of N hk1 (by k_asm) (by k_asm) _ ?_; exact kin_ch (.head _) (kin_in (by k_mem) kin_nil))
  (case q1 => exact News.get' (by k_asm) (by k_mem))
  (case q2 => exact News.get' (by k_asm) (by k_mem))
  (case q3 => rw [hL']; assumption)

section
variable {h₀ h h' : Heap} {L x : Addr} {m : Str → Option Value} {news : List (Addr × Obj)}
theorem frk {ch : List Addr} (F : Fr h₀ L h m) (k : Kept ch h h') (N : ∀ b ∈ ch, b ≠ L ∧ h₀.get? b = none) : Fr h₀ L h' m :=
  ⟨F.ns.at' fun o e => k _ _ (fun q => (N _ q).1 rfl) e, fun b o e => k b o (fun q => by rw [(N _ q).2] at e; cases e) (F.keep b o e), F.above⟩
theorem ch_one {o : Obj} (N : News h₀ L h news) (hx : (x, o) ∈ news) : ∀ b ∈ [x], b ≠ L ∧ h₀.get? b = none := fun b hb => by
  cases List.mem_singleton.mp hb
  exact (N _ hx).2
theorem kept_one (k : Kept [x] h h') : ∀ b o, b ≠ x → h.get? b = some o → h'.get? b = some o := fun b o n e => k b o (by simpa using n) e
theorem fresh_of (F : Fr h₀ L h m) {D : Addr} (hD : h.objs.size ≤ D) : D ≠ L ∧ h₀.get? D = none := by
  refine ⟨fun e => ?_, ?_⟩
  · have := F.ns.lt
    rw [← e] at this
    exact absurd this (Nat.not_lt.mpr hD)
  · cases e : h₀.get? D with
    | none => rfl
    | some o => exact absurd (Heap.lt_size (F.keep _ _ e)) (Nat.not_lt.mpr hD)
theorem news_new {D : Addr} {o : Obj} (F : Fr h₀ L h m) (N : News h₀ L h' news) (hD : h.objs.size ≤ D) (e : h'.get? D = some o) : News h₀ L h' ((D, o) :: news) := fun p hp => by
  rcases List.mem_cons.mp hp with rfl | hp
  · exact ⟨e, fresh_of F hD⟩
  · exact N p hp
theorem news_two {a b : Addr × Obj} (N : News h₀ L h news) (ha : a ∈ news) (hb : b ∈ news) : News h₀ L h [a, b] := fun p hp => by
  rcases List.mem_cons.mp hp with rfl | hp
  · exact N _ ha
  · rw [List.mem_singleton.mp hp]; exact N _ hb
end
theorem acc_push_C {w : World} {A : Around} {E Q : Value → Shared → Prop} {s : Shared} {h₀ : Heap} {L : Addr} {m mg mb : Str → Option Value} {p : Program} {loose : List Str} {mean : ExcName → Option Value} {news : List (Addr × Obj)}
    {k7 : Int} {t7 u7 ta tb : Tok} {x dx : Addr} {xs : List Value} {n : Nat} {i0 : Int} {a b : Str}
    (F : Fr h₀ L s.heap m) (X₀ : (hd.heap_1 w.params).In h₀) (N : News h₀ L s.heap news) (T : Top p loose mean mg mb h₀) (hx : (x, accObj 185 dx xs n) ∈ news) (hdx : (dx, acdO k7 t7 i0 u7) ∈ news) (hh : A.handled = none) (hd1 : A.depth + 4 < recursionLimit) (hu : A.units + 40 < cLine) (hxs : xs.length ≤ 1000) (o5 : @LT.lt Nat _ dx x)
    (hQ : ∀ D h' tk, Fr h₀ L h' m → (∀ news', Upd x (accObj 185 dx xs n) (accObj 185 dx (xs ++ [.ref D]) (n + 1)) news news' → News h₀ L h' ((D, { cls := .type "tuple", data := .seq [.str a ta, .str b tb].toArray }) :: news')) → (∀ p ∈ news, p.1 < D) → Q .none { s with heap := h', toks := tk }) :
    codeAny (model PySem.Challenge.rw_xl0020_01.row.prog w) A (.call (.ref 129) ⟨[.ref x, .str a ta, .str b tb], []⟩) (fun r s' => match r with | .ok (.ret v) => Q v s' | .ok _ => False | .error e => E e s') s :=
  push_raw w F X₀ (news_two N hx hdx) T hh hd1 hu hxs o5 fun D h' tk k e1 e2 hD => hQ D h' tk (frk F k (ch_one N hx)) (fun _ U => news_new F (news_after N U (kept_one k) e1) hD e2) fun p hp => Nat.lt_of_lt_of_le (Heap.lt_size (N p hp).1) hD
theorem acc_push_L {w : World} {A : Around} {E Q : Value → Shared → Prop} {s : Shared} {h₀ : Heap} {L : Addr} {m mg mb : Str → Option Value} {p : Program} {loose : List Str} {mean : ExcName → Option Value} {news : List (Addr × Obj)}
    {k7 : Int} {t7 u7 ta tb : Tok} {x dx : Addr} {xs : List Value} {n : Nat} {i0 : Int} {a b : Str}
    (F : Fr h₀ L s.heap m) (X₀ : (hd.heap_1 w.params).In h₀) (N : News h₀ L s.heap news) (T : Top p loose mean mg mb h₀) (hx : (x, accObj 185 dx xs n) ∈ news) (hdx : (dx, acdO k7 t7 i0 u7) ∈ news) (hh : A.handled = none) (hd1 : A.depth + 4 < recursionLimit) (hu : A.units + 40 < cLine) (hxs : xs.length ≤ 1000) (o5 : @LT.lt Nat _ dx x)
    (hQ : ∀ D h' tk, Fr h₀ L h' m → (∀ news', Upd x (accObj 185 dx xs n) (accObj 185 dx (xs ++ [.ref D]) (n + 1)) news news' → News h₀ L h' ((D, { cls := .type "tuple", data := .seq [.str a ta, .str b tb].toArray }) :: news')) → (∀ p ∈ news, p.1 < D) → Q .none { s with heap := h', toks := tk }) :
    wpAny (model PySem.Challenge.rw_xl0020_01.row.prog w) A (call (.ref 129) [.ref x, .str a ta, .str b tb]) Q E s :=
  wpAny_call (acc_push_C F X₀ N T hx hdx hh hd1 hu hxs o5 hQ)
theorem acc_push_M {w : World} {A : Around} {E Q : Value → Shared → Prop} {s : Shared} {h₀ : Heap} {L : Addr} {m mg mb : Str → Option Value} {p : Program} {loose : List Str} {mean : ExcName → Option Value} {news : List (Addr × Obj)}
    {k7 : Int} {t7 u7 ta tb : Tok} {x dx : Addr} {xs : List Value} {n : Nat} {i0 : Int} {a b : Str}
    (F : Fr h₀ L s.heap m) (X₀ : (hd.heap_1 w.params).In h₀) (N : News h₀ L s.heap news) (T : Top p loose mean mg mb h₀) {q : Addr} (hq : (q, methodObj (.ref 129) (.ref x)) ∈ news) (hx : (x, accObj 185 dx xs n) ∈ news) (hdx : (dx, acdO k7 t7 i0 u7) ∈ news) (hh : A.handled = none) (hd1 : A.depth + 4 < recursionLimit) (hu : A.units + 40 < cLine) (hxs : xs.length ≤ 1000) (o5 : @LT.lt Nat _ dx x)
    (hQ : ∀ D h' tk, Fr h₀ L h' m → (∀ news', Upd x (accObj 185 dx xs n) (accObj 185 dx (xs ++ [.ref D]) (n + 1)) news news' → News h₀ L h' ((D, { cls := .type "tuple", data := .seq [.str a ta, .str b tb].toArray }) :: news')) → (∀ p ∈ news, p.1 < D) → Q .none { s with heap := h', toks := tk }) :
    wpAny (model PySem.Challenge.rw_xl0020_01.row.prog w) A (call (.ref q) [.str a ta, .str b tb]) Q E s :=
  call_meth N hq (acc_push_C F X₀ N T hx hdx hh hd1 hu hxs o5 hQ)
section
variable {prog : Program} {w : World} {A A₀ : Around} {E : Value → Shared → Prop} {s : Shared} {K : Frag} {base h₀ : Heap} {env : Env} {outer : List Env} {L : Addr} {m mg mb : Str → Option Value} {news : List (Addr × Obj)} {p : Program} {loose : List Str} {mean : ExcName → Option Value}
theorem enterS {R : Result → Shared → Prop} {name qual : Str} {params : Arguments} {body : List Stmt} {scope : Scope} {dV kV doc pm cdv ct oc : Value} {an od : Option Addr} {osl : Array (Option Value)} {f cc : Addr} {args : Args} {binds : List (Str × Value)}
    (B : Below A₀ base outer h₀) (F : Fr h₀ L s.heap m) (X₀ : K.In h₀) (N : News h₀ L s.heap news) (T : Top p loose mean mg mb h₀) (hA : A.frames = some (env :: outer)) (hf : env.frame = some L) (hke : env.scope.kind = .function)
    (ho : K.lookup f = some ⟨oc, od, .func (ksFn name qual params body scope dV kV doc pm an cdv ct cc), osl⟩) (hcd : codeIn K cdv qual = true) (hroom : A.depth < recursionLimit)
    (hbind : BindsTo s (ksFn name qual params body scope dV kV doc pm an cdv ct cc) args binds) (hloc : ∀ y ∈ binds, scope.names.lookup y.1 = some .local)
    (h : ∀ g L' h₁, s.heap.objs.size = L' → (∀ b o, s.heap.get? b = some o → b ∉ news.map (·.1) → g.get? b = some o) → Fr g L' h₁ (fun y => binds.reverse.lookup y) → News g L' h₁ news → Below A base (env :: outer) g → K.In g → Top p loose mean mg mb g → (∀ p ∈ news, p.1 < L') →
      _root_.PySem.wpAt (model prog w) (A.deeper (ksEnv qual scope L' f cdv cc)) (.func body (ksEnv qual scope L' f cdv cc)) (execs body (ksEnv qual scope L' f cdv cc))
        (fun fl s' => R (.ok (.ret (match fl with | .ret v => v | _ => .none))) s')
        (fun e s' => wpAny (model prog w) (A.deeper (ksEnv qual scope L' f cdv cc)) (leaving (ksEnv qual scope L' f cdv cc) e) (fun _ s'' => R (.error e) s'') (fun e' s'' => R (.error e') s'') s')
        { s with heap := h₁, toks := s.toks + binds.length })
    (hcell : ∀ x ∈ scope.names, x.2 ≠ .cell) (hco : scope.isCoroutine = false) (hgen : scope.isGenerator = false) (hk : scope.kind = .function) : codeAny (model prog w) A (.call (.ref f) args) R s := by
  obtain ⟨FG, BG, st, lv⟩ := groundX (R := R) B F N hA hf hke
  refine ks_codeAny_call_defAt (fd := ksFn name qual params body scope dV kV doc pm an cdv ct cc) (body := body) (binds := binds) hroom ((X₀.keeps F.keep) _ _ ho) rfl (T.nolimit.keeps F.keep) (codeRec_of (X₀.keeps F.keep) hcd) rfl hbind hcell hloc (fun h₁ hns hk₁ => ?_) hco hgen hk
  exact h _ s.heap.objs.size h₁ rfl (fun b o e hb => hideAll_get _ e hb) ⟨hns, fun b o e => hk₁ b o (of_hideAll _ e), Nat.le_of_eq (hideAll_size _ _)⟩
    (fun p hp => ⟨hk₁ _ _ (N p hp).1, Nat.ne_of_lt (Heap.lt_size (N p hp).1), hideAll_none _ (List.mem_map_of_mem hp)⟩) BG (X₀.keeps st) (T.keeps st) (fun p hp => Heap.lt_size (N p hp).1)
end
theorem pcount_raw (w : World) {A₀ A : Around} {E Q : Value → Shared → Prop} {s : Shared} {base h₀ : Heap} {env : Env} {outer : List Env} {L : Addr} {m mg mb : Str → Option Value} {p : Program} {loose : List Str} {mean : ExcName → Option Value}
    {k7 : Int} {t7 u7 : Tok} {x dx : Addr} {xs : List Value} {n : Nat} {i0 : Int}
    (B : Below A₀ base outer h₀) (F : Fr h₀ L s.heap m) (X₀ : (hd.heap_1 w.params).In h₀) (N : News h₀ L s.heap [(x, accObj 185 dx xs n), (dx, acdO k7 t7 i0 u7)]) (T : Top p loose mean mg mb h₀) (hA : A.frames = some (env :: outer)) (hf : env.frame = some L) (hke : env.scope.kind = .function) (hh : A.handled = none) (hd1 : A.depth + 4 < recursionLimit) (hu : A.units + 40 < cLine) (o5 : @LT.lt Nat _ dx x)
    (hQ : ∀ h' tk t, Kept [] s.heap h' → Q (.int xs.length t) { s with heap := h', toks := tk }) :
    wpAny (model PySem.Challenge.rw_xl0020_01.row.prog w) A (call (.ref 182) [.ref x]) Q E s := by
  obtain ⟨hd, dp, fr, gd, un⟩ := A
  dsimp only at hA hh hd1 hu
  subst hA hh
  revert X₀; k_fill; intro X₀
  refine wpAny_call ?_
  k_dflt (refine' enterS B F X₀ N T rfl hf hke ?k6 ?k7 ?k8 ?k9 ?kB ?_ ?c2 ?c3 ?c4 ?c5)
  (case k6 => k_is)
  (case k7 => k_is)
  (case k8 => show dp < recursionLimit; (first | lia | omega))
  (case k9 => first | exact BindsTo.of_eq rfl | exact binds_K (by k_in) rfl (by k_is) rfl rfl rfl)
  (case kB => exact locs rfl)
  (case c2 => decide)
  (case c3 => exact rfl)
  (case c4 => exact rfl)
  (case c5 => exact rfl)
  intro g L' h₁ hL' hk1 F1 N1 B1 X1 T1 hlt
  dsimp only
  k_lt hlt
  k_steps
  refine hQ _ _ _ (kept_of N hk1 (by k_asm) (by k_asm) _ (kin_in (by k_mem) (kin_in (by k_mem) kin_nil)))

theorem acc_pcount_L {w : World} {A₀ A : Around} {E Q : Value → Shared → Prop} {s : Shared} {base h₀ : Heap} {env : Env} {outer : List Env} {L : Addr} {m mg mb : Str → Option Value} {p : Program} {loose : List Str} {mean : ExcName → Option Value} {news : List (Addr × Obj)}
    {k7 : Int} {t7 u7 : Tok} {x dx : Addr} {xs : List Value} {n : Nat} {i0 : Int}
    (B : Below A₀ base outer h₀) (F : Fr h₀ L s.heap m) (X₀ : (hd.heap_1 w.params).In h₀) (N : News h₀ L s.heap news) (T : Top p loose mean mg mb h₀) (hx : (x, accObj 185 dx xs n) ∈ news) (hdx : (dx, acdO k7 t7 i0 u7) ∈ news) (hA : A.frames = some (env :: outer)) (hf : env.frame = some L) (hke : env.scope.kind = .function) (hh : A.handled = none) (hd1 : A.depth + 4 < recursionLimit) (hu : A.units + 40 < cLine) (o5 : @LT.lt Nat _ dx x)
    (hQ : ∀ h' tk t, Fr h₀ L h' m → News h₀ L h' news → Q (.int xs.length t) { s with heap := h', toks := tk }) :
    wpAny (model PySem.Challenge.rw_xl0020_01.row.prog w) A (call (.ref 182) [.ref x]) Q E s :=
  pcount_raw w B F X₀ (news_two N hx hdx) T hA hf hke hh hd1 hu o5 fun h' tk t k => hQ h' tk t (frk F k fun _ h => nomatch h) fun q hq => ⟨k _ _ (fun h => nomatch h) (N q hq).1, (N q hq).2⟩
theorem reg_MTA_2 : True := by
  k_with "call ref" => (k_here; (with_reducible show wpAny _ _ (call (Value.ref 129) _) _ _ _); k_dflt (refine Mine.acc_push_L (by k_asm) (by k_asm) (by k_asm) (by k_asm) (by k_mem) (by k_mem) (by rfl) (by ktr_room) (by ktr_units) (by assumption) (by assumption) ?_); intro D' h' tk' F' hN9 l1; (have N' := hN9 _ (by k_upd)); clear hN9; (try k_lt l1); (try k_sweep))
  k_with "call ref" => (k_here; (with_reducible show wpAny _ _ (call (Value.ref 182) _) _ _ _); k_dflt (refine Mine.acc_pcount_L (by k_asm) (by k_asm) (by k_asm) (by k_asm) (by k_asm) (by k_mem) (by k_mem) (by exact rfl) (by exact rfl) (by exact rfl) (by rfl) (by ktr_room) (by ktr_units) (by assumption) ?_); intro h' tk' t' F' N'; (try k_sweep))
  trivial
theorem pop_raw (w : World) {A₀ A : Around} {E Q : Value → Shared → Prop} {s : Shared} {base h₀ : Heap} {env : Env} {outer : List Env} {L : Addr} {m mg mb : Str → Option Value} {p : Program} {loose : List Str} {mean : ExcName → Option Value}
    {k7 : Int} {t7 u7 : Tok} {x dx : Addr} {xs : List Value} {v : Value} {n : Nat} {i0 : Int}
    (B : Below A₀ base outer h₀) (F : Fr h₀ L s.heap m) (X₀ : (hd.heap_1 w.params).In h₀) (N : News h₀ L s.heap [(x, accObj 185 dx (xs ++ [v]) n), (dx, acdO k7 t7 i0 u7)]) (T : Top p loose mean mg mb h₀) (hA : A.frames = some (env :: outer)) (hf : env.frame = some L) (hke : env.scope.kind = .function) (hh : A.handled = none) (hd1 : A.depth + 8 < recursionLimit) (hu : A.units + 60 < cLine) (o5 : @LT.lt Nat _ dx x) (hxs : xs.length ≤ 1000)
    (hQ : ∀ h' tk, Kept [x] s.heap h' → h'.get? x = some (accObj 185 dx xs (n + 1)) → Q v { s with heap := h', toks := tk }) :
    wpAny (model PySem.Challenge.rw_xl0020_01.row.prog w) A (call (.ref 145) [.ref x]) Q E s := by
  obtain ⟨hd, dp, fr, gd, un⟩ := A
  dsimp only at hA hh hd1 hu
  subst hA hh
  revert X₀; k_fill; intro X₀
  refine wpAny_call ?_
  k_dflt (refine' enterS B F X₀ N T rfl hf hke ?k6 ?k7 ?k8 ?k9 ?kB ?_ ?c2 ?c3 ?c4 ?c5)
  (case k6 => k_is)
  (case k7 => k_is)
  (case k8 => show dp < recursionLimit; (first | lia | omega))
  (case k9 => first | exact BindsTo.of_eq rfl | exact binds_K (by k_in) rfl (by k_is) rfl rfl rfl)
  (case kB => exact locs rfl)
  (case c2 => decide)
  (case c3 => exact rfl)
  (case c4 => exact rfl)
  (case c5 => exact rfl)
  intro g L' h₁ hL' hk1 F1 N1 B1 X1 T1 hlt
  dsimp only
  k_lt hlt
  k_steps
  · exfalso
    have h0 := ‹(((xs ++ [v]).length : Nat) : Int) = 0›
    simp only [List.length_append, List.length_cons, List.length_nil] at h0
    (first | lia | omega)
  · refine hQ _ _ (kept_of N hk1 (by k_asm) (by k_asm) _ (kin_ch (.head _) (kin_in (by k_mem) kin_nil))) (News.get' (by k_asm) (by k_mem))
end

section
open PySem PySem.W PyProof.Rows PySem.Calls PySem.Spec
set_option maxRecDepth 100000
set_option maxHeartbeats 4000000
open Builtin Builtin.ObjectAttr Builtin.List
theorem reg_MTB_0 : True := by
  k_with_none
  k_with "zz" => (first | assumption | exact Nat.le_trans (by assumption) (by decide) | exact Nat.lt_of_le_of_lt (by assumption) (by decide) | exact Nat.le_trans (Nat.sub_le _ _) (Nat.le_trans (by assumption) (by decide)) | exact Nat.le_trans (Nat.min_le_right _ _) (Nat.le_trans (by assumption) (by decide)) | exact Nat.sub_pos_of_lt (by assumption) | exact Nat.lt_of_sub_pos (by assumption) | exact mn_pos (by assumption) | exact mn_lt (by assumption) | exact mn_no (by assumption) | exact sb_no (by assumption) | exact nm1 | exact sub1 (by assumption) | exact cp1 (by assumption) | exact cpp (by assumption) | exact cpn (by assumption) | exact cpa (by assumption) | exact sz1 (by assumption) | exact sz2 (by assumption) | exact sz3 (by assumption) | exact sz5 (by assumption) (by decide) | exact na3 (by assumption) (by assumption) | exact na4 (by assumption) (by assumption) | exact na5 (by assumption) (by assumption) | exact fl1 (by assumption) (by decide) | lia | omega)
  k_with "zr" => ((repeat (with_reducible refine rm_deeper ?_)); exact rm_top (by assumption) (by decide))
  k_with "zu" => ((repeat (first | with_reducible refine um_deeper ?_ | with_reducible refine um_in1 ?_)); exact rm_top (by assumption) (by decide))
  k_with "zn" => (refine neN ?_; (try dsimp only); first | exact Nat.ne_of_lt (Nat.add_lt_add_left (by decide) _) | exact Nat.ne_of_gt (Nat.add_lt_add_left (by decide) _) | (refine Nat.ne_of_lt ?_; (try refine lt154 ?_); (repeat (first | assumption | exact ltA (by assumption) (by decide) | refine Nat.lt_trans (by assumption) ?_ | refine Nat.lt_trans (ltA (by assumption) (by decide)) ?_)); done) | (refine Nat.ne_of_gt ?_; (try refine lt154 ?_); (repeat (first | assumption | exact ltA (by assumption) (by decide) | refine Nat.lt_trans (by assumption) ?_ | refine Nat.lt_trans (ltA (by assumption) (by decide)) ?_)); done) | (first | lia | omega))
  k_with "k_enter" => (refine ks_code_super (by k_asm) (by k_asm) (by k_asm) (by k_asm) (by k_asm) (by exact rfl) (by exact rfl) (by exact rfl) (by k_is) (by k_is) (by k_room) (by first | exact BindsTo.of_eq rfl | exact binds_K (by k_in) rfl (by k_is) rfl rfl rfl) (by exact locs rfl) ?_ (by decide) (by exact rfl) (by exact rfl) (by exact rfl); intro g' L' h' FG' F' N' B' X' T' l1; (try k_lt l1); (try dsimp only); (try k_lift B'))
  k_with "k_inst" => (refine Mine.instL (by k_asm) (by k_mem) (by k_mem))
  k_with "call ref" => (k_here; k_dflt (refine Mine.acc_make (by k_asm) (by k_asm) (by k_asm) (by k_is) (by rfl) (by rfl) (by rfl) (by k_is) (by k_is) (by k_is) (by k_is) (by (unfold argsOk; kernel_rfl)) ?_; k_whole; intro x' d' h' F' N' l1 l2; (try k_lt l1); (try k_lt2 l2); (try k_sweep); (first | k_enter | ks_enter)))
  k_with "setAttr ref" => (k_here; k_dflt (refine Mine.acc_set (by k_asm) (by k_asm) (by k_asm) (by k_inst) (by exact rfl) (by k_is) (by k_is) (by rfl) (by rfl) (by k_is) (by k_get) (by k_put) (by k_upd) (by exact Nat.le_of_ble_eq_true rfl) ?_; k_whole; intro h' F' N'; (try k_sweep)))
  k_with "getMethod ref" => (k_here; k_dflt (refine Mine.acc_method (by k_asm) (by k_asm) (by k_inst) (by k_is) (by k_is) (by k_is) (by k_is) (by (first | rfl | decide +kernel)) (by k_get) ?_; k_whole))
  k_with "getMethod ref" => (k_here; k_dflt (first
  | (refine Mine.sup_method Mine.bound_pop (by k_asm) (by k_asm) (by k_asm) (by k_mem) (by k_inst) (by k_is) (by ks_is) (by k_is) (by decide) ?_; k_whole; intro q' h' F' N' l1; (try k_lt l1))
  | (refine Mine.sup_method Mine.bound_init (by k_asm) (by k_asm) (by k_asm) (by k_mem) (by k_inst) (by k_is) (by ks_is) (by k_is) (by decide) ?_; k_whole; intro q' h' F' N' l1; (try k_lt l1))
  | (refine Mine.sup_method Mine.bound_len (by k_asm) (by k_asm) (by k_asm) (by k_mem) (by k_inst) (by k_is) (by ks_is) (by k_is) (by decide) ?_; k_whole; intro q' h' F' N' l1; (try k_lt l1))))
  k_with "callWith ref" => (k_here; k_dflt (refine Mine.callWith_bm (by k_asm) (by k_mem) (by rfl) (by rfl) ?_; k_whole))
  k_with "call ref" => (k_here; k_dflt (first
  | (refine Mine.bm_pop (by k_asm) (by k_asm) (by k_asm) (by k_mem) (by k_inst) (by k_is) (by rfl) (by (first | rfl | decide +kernel)) (by k_upd) (by first | size_fits | (rw [sizeLine_eq]; (first | lia | omega))) ?_; k_whole; intro h' F' N'; (try k_sweep))
  | (refine Mine.bm_init (by k_asm) (by k_asm) (by k_mem) (by k_inst) (by k_upd) ?_; k_whole; intro h' F' N'; (try k_sweep))
  | (refine Mine.bm_len (by k_asm) (by k_mem) (by k_inst) ?_; k_whole)))
  k_with "call builtin:list.append" => (k_here; k_dflt (refine Mine.acc_append (by k_asm) (by k_asm) (by k_asm) (by k_inst) (by k_is) (by k_upd) (by first | size_fits | (rw [sizeLine_eq]; (first | lia | omega))) ?_; k_whole; intro h' F' N'; (try k_sweep)))
  k_with "wpAt" => ((try dsimp only); ks_step "execs cons"; refine ks_wpAt_execs_cons ?_)
  k_with "wpAt" => (k_dflt (ks_step "exec Expr"; refine ks_wpAt_Expr_any ?_))
  k_with "wpAt" => (k_dflt (ks_step "exec Return"; refine ks_wpAt_Return_some ?_))
  k_with "wpAt" => (k_dflt (ks_step "exec Assign"; first | refine ks_wpAt_Assign_Name ?_ | refine ks_wpAt_Assign_Attr ?_))
  k_with "wpAt" => (k_dflt (ks_step "exec If"; refine ks_wpAt_If ?_))
  k_with "wpAt" => (k_dflt (ks_step "eval BinOp"; refine ks_wpAt_BinOp2 ?_))
  k_with "wpAt" => (k_dflt (ks_step "eval Call"; refine ks_wpAt_MethodCall ?_))
  k_with "wpAt" => (k_dflt (ks_step "attributeBase Call"; k_here; (refine ks_node (by k_asm) (by k_asm) (by k_asm) (by k_asm) (by k_is) (by rfl) (by rfl) (by k_inst) (by k_is) (by rfl) (by first | rfl | decide +kernel) (by k_is) (by k_is) (by k_is) (by k_is) (by decide) (by rfl) (by rfl) (by rfl) (by rfl) (by decide +kernel) (by first | boot_by_name | rfl | kernel_rfl) ?_; intro so' h' F' N' l1; (try k_lt l1))))
  k_with "eval Name" => (k_here; (with_reducible show wpAny _ _ (PySem.eval _ (genEnv _ _ _ _ _ _)) _ _ _); k_dflt (refine Mine.gname_L (by k_asm) (by assumption) ?_; k_whole))
  k_with "eval Name" => (k_here; (with_reducible show wpAny _ _ (PySem.eval _ (genEnv _ _ _ _ _ _)) _ _ _); k_dflt (refine Mine.gname_B (by k_asm) (by k_asm) (by k_asm) (by k_is) (by boot_by_name) (by decide) ?_; k_whole))
  k_with "getAttr ref" => (k_here; k_dflt (refine Mine.acc_get (by k_asm) (by k_asm) (by k_inst) (by k_is) (by k_is) (by k_is) (by k_is) (by k_is) (by first | assumption | k_get) (by k_handed) ?_; k_whole))
  k_with "call builtin:len" => (k_here; (with_reducible show wpAny _ _ (call (Value.builtin "len") [Value.str _ _]) _ _ _); k_dflt (refine Mine.len_txt (by assumption) ?_; k_whole))
  k_with "eval Name" => (k_here; (with_reducible show wpAny _ _ (PySem.eval _ (genEnv _ _ _ _ _ _)) _ _ _); k_dflt (refine Mine.gname_K (by k_asm) (by k_asm) (by k_asm) (by k_is) ?_; k_whole))
  k_with "newTuple" => ((with_reducible rename Mine.GMark => hG9); k_here; k_dflt (refine Mine.newTuple_G (by k_asm) ?_ (by size_fits)); k_whole; intro F' N'; (try k_sweep))
  k_with "call ref" => (k_here; (with_reducible show wpAny _ _ (call (Value.ref 152) [Value.ref _]) _ _ _); k_dflt (refine Mine.acc_len_L (by k_asm) (by k_asm) (by k_asm) (by k_asm) (by rfl) (by ktr_room) (by ktr_units) (by ((try dsimp only); assumption)) (by k_mem) (by k_mem) (by k_get) (by k_mem) (by assumption) (by k_is) (by rfl) (by rfl) (by rfl) (by rfl) (by rfl) (by (first | (refine Mine.pairs_snoc (by assumption) (by k_asm) (by k_asm) (by k_mem)) | (refine Mine.PairsAt.keeps (by assumption) (fun T o _ e => Fr.keep (by k_asm) T o e)) | (refine Mine.pairs_snoc_r (by k_asm) (by k_asm) (by k_mem) (by (first | exact Mine.pairs_fr (by assumption) (by assumption) | exact Mine.pairs_fr (by assumption) (Mine.pairs_fr (by assumption) (by assumption))))) | (refine Mine.pairs_fr (by k_asm) (by (first | exact Mine.pairs_fr (by assumption) (by assumption) | exact Mine.pairs_fr (by assumption) (Mine.pairs_fr (by assumption) (by assumption))))))) (by assumption) (by assumption) (by assumption) ?_); intro s9 t9 tp9 ht9 F' hN9 G9 os9 hb9; (have N' := hN9 _ (by k_upd)); clear hN9; (try k_sweep); (try (dsimp only [PySem.W.LenBack]; refine ⟨⟨by (first | lia | omega), by (first | lia | omega)⟩, ?_⟩)))
  k_with "subscriptTail" => (k_here; (with_reducible show wpAny _ _ (subscriptTail _ _ (Value.ref _) (Value.int _ _)) _ _ _); k_dflt (refine Mine.acc_pair (by k_asm) (by k_asm) (by k_inst) (by k_is) (by k_is) (by k_is) (by (first | (refine Mine.pairs_snoc (by assumption) (by k_asm) (by k_asm) (by k_mem)) | (refine Mine.PairsAt.keeps (by assumption) (fun T o _ e => Fr.keep (by k_asm) T o e)))) (by (first | lia | omega)) (by (first | lia | omega)) (by (first | (first | lia | omega) | ((try simp only [List.length_append, List.length_cons, List.length_nil]); (first | lia | omega)))) ?_ (by with_unfolding_all rfl) (by (intro _; with_unfolding_all rfl))); intro T9 p9 ta9 tb9 hp9 hT9; (try ((with_reducible rename Mine.AllW _ _ _ _ => w9); rcases Mine.pairW w9 hp9 with e9 | e9) <;> subst e9); (try dsimp only at hT9))
  k_with "subscriptTail" => (k_here; (with_reducible show wpAny _ _ (subscriptTail _ _ (Value.ref _) (Value.int _ _)) _ _ _); k_dflt (first | ((with_reducible show wpAny _ _ (subscriptTail _ _ (Value.ref _) (Value.int 0 _)) _ _ _); refine Mine.pair_fst (by assumption) ?_ (by with_unfolding_all rfl)) | ((with_reducible show wpAny _ _ (subscriptTail _ _ (Value.ref _) (Value.int 1 _)) _ _ _); refine Mine.pair_snd (by assumption) ?_ (by with_unfolding_all rfl))))
  k_with "subscriptTail" => (k_here; (with_reducible show wpAny _ _ (subscriptTail _ (PySem.Expr.Slice _ _ none _) (Value.ref _) (Value.ref _)) _ _ _); k_dflt (refine Mine.acc_slice_from (by k_asm) (by k_asm) (by k_asm) (by k_inst) (by k_is) (by k_is) (by k_is) (by ((try simp only [List.length_append, List.length_cons, List.length_nil]); (first | lia | omega))) (by (rw [sizeLine_eq]; (try simp only [List.length_append, List.length_cons, List.length_nil]); (first | lia | omega))) (by exact Mine.drop_snoc (by assumption)) ?_ (by with_unfolding_all rfl) (by (intro _; with_unfolding_all rfl))); intro D' h' F' N' l1 l2; (try k_lt l1); (try k_sweep))
  k_with "setItem ref" => (k_here; (with_reducible show wpAny _ _ (setItem (Value.ref _) (Value.ref _) (Value.ref _)) _ _ _); k_dflt (refine Mine.acc_set_slice_at (by k_asm) (by k_asm) (by k_asm) (by k_inst) (by k_is) (by k_is) (by k_is) (by kmk_part) (by exact rfl) (by first | exact Nat.zero_le _ | ((try simp only [List.length_append, List.length_cons, List.length_nil]); (first | lia | omega))) (by k_mem) (by (rw [sizeLine_eq]; (try simp only [List.length_append, List.length_cons, List.length_nil]); (first | lia | omega))) (by first | exact Mine.take_snoc (by assumption) | exact rfl) (by exact rfl) (by k_upd) ?_); intro h' F' N'; (try k_sweep))
  k_with "call ref" => (k_here; (with_reducible show wpAny _ _ (call (Value.ref 159) [Value.ref _]) _ _ _); k_dflt (refine Mine.acc_str_L (by k_asm) (by k_asm) (by k_asm) (by k_asm) (by rfl) (by ktr_room) (by ktr_units) (by ((try dsimp only); assumption)) (by k_mem) (by k_mem) (by k_mem) (by assumption) (by k_is) (by rfl) (by rfl) (by rfl) (by rfl) (by rfl) (by (first | (refine Mine.pairs_snoc (by assumption) (by k_asm) (by k_asm) (by k_mem)) | (refine Mine.PairsAt.keeps (by assumption) (fun T o _ e => Fr.keep (by k_asm) T o e)) | (refine Mine.pairs_snoc_r (by k_asm) (by k_asm) (by k_mem) (by (first | exact Mine.pairs_fr (by assumption) (by assumption) | exact Mine.pairs_fr (by assumption) (Mine.pairs_fr (by assumption) (by assumption))))) | (refine Mine.pairs_fr (by k_asm) (by (first | exact Mine.pairs_fr (by assumption) (by assumption) | exact Mine.pairs_fr (by assumption) (Mine.pairs_fr (by assumption) (by assumption))))))) (by assumption) (by assumption) ?_); intro s9 t9 tp9 ht9 F' hN9 G9 os9; (have N' := hN9 _ (by k_upd)); clear hN9; (try k_sweep); (try (dsimp only [PySem.W.StrBack])))
  k_with "call builtin:list.append" => (k_here; k_dflt (refine Mine.append_KL (by k_asm) (by k_asm) (by k_upd) (by (rw [sizeLine_eq]; (first | lia | omega))) ?_; k_whole; intro h' F' N'; (try k_sweep)))
  k_with "call ref" => (k_here; k_dflt (refine Mine.bm_pop (odc := none) (by k_asm) (by k_asm) (by k_asm) (by k_mem) (by k_inst) (by k_is) (by rfl) (by (first | rfl | decide +kernel)) (by k_upd) (by first | size_fits | (rw [sizeLine_eq]; (first | lia | omega))) ?_; k_whole; intro h' F' N'; (try k_sweep)))
  k_with "compareOp NotEq ref ref" => (k_here; (with_reducible show wpAny _ _ (compareOp CmpOp.NotEq (Value.ref _) (Value.ref _)) _ _ _); k_dflt (refine ne_dataH (by ke_read) (by ke_read) (by first | exact Mine.shaped2 (by assumption) (by assumption) | ke_shaped) (by ke_shaped) (by ktr_units) ?_); (try rw [Mine.eqv_ne (by assumption)]); ke_norm)
  k_with "eval Call Attribute" => (k_here; (with_reducible show wpAny _ _ (PySem.eval (PySem.Expr.Call (PySem.Expr.Attribute _ _ _) [PySem.Expr.Starred _ _] [] _) _) _ _ _); k_dflt (refine Mine.methodCall_star (by rfl) (by (intro _; rfl)) ?_; k_whole))
  k_with "getAttr ref" => (k_here; k_dflt (refine Mine.acc_bound (by k_asm) (by k_asm) (by k_asm) (by k_inst) (by k_is) (by k_is) (by k_is) (by k_is) (by k_is) (by k_is) (by k_is) (by k_is) (by decide +kernel) (by k_get) ?_; k_whole); intro q' h' F' N' l1; (try k_lt l1); (try k_sweep))
  k_with "callWith ref" => (k_here; (with_reducible show wpAny _ _ (callWith _ (Value.ref _) _ (backTo _ (starEach [PySem.Expr.Starred _ _] _)) []) _ _ _); k_dflt (refine Mine.callWith_MS (by k_asm) (by k_asm) (by k_mem) (by k_is) ?_; k_whole))
  k_with "truthy ref" => (k_here; (with_reducible show wpAny _ _ (truthy (Value.ref _)) _ _ _); k_dflt (refine Mine.truthy_lenK (by k_asm) (by k_asm) (by k_inst) (by k_is) (by k_is) (by k_is) ?_; k_whole))
  k_with "newTuple" => (k_here; k_dflt (refine Mine.newTuple_P (by k_asm) (by k_asm) ?_ (by size_fits)); k_whole; intro D' h' F' N' l1 l2; (try k_lt l1); (try k_sweep))
  k_with "call ref" => (k_here; (with_reducible show wpAny _ _ (call (Value.ref 129) _) _ _ _); k_dflt (refine Mine.acc_push_L (by k_asm) (by k_asm) (by k_asm) (by k_asm) (by k_mem) (by k_mem) (by rfl) (by ktr_room) (by ktr_units) (by assumption) (by assumption) ?_); intro D' h' tk' F' hN9 l1; (have N' := hN9 _ (by k_upd)); clear hN9; (try k_lt l1); (try k_sweep))
  k_with "call ref" => (k_here; (with_reducible show wpAny _ _ (call (Value.ref 182) _) _ _ _); k_dflt (refine Mine.acc_pcount_L (by k_asm) (by k_asm) (by k_asm) (by k_asm) (by k_asm) (by k_mem) (by k_mem) (by exact rfl) (by exact rfl) (by exact rfl) (by rfl) (by ktr_room) (by ktr_units) (by assumption) ?_); intro h' tk' t' F' N'; (try k_sweep))
  trivial


theorem all_nil {P : Addr × Obj → Prop} : ∀ q ∈ ([] : List (Addr × Obj)), P q := fun _ h => nomatch h
theorem all_cons {P : Addr × Obj → Prop} {a : Addr × Obj} {l : List (Addr × Obj)} (h : P a) (t : ∀ q ∈ l, P q) : ∀ q ∈ a :: l, P q := fun q hq => by
  rcases List.mem_cons.mp hq with rfl | hq
  · exact h
  · exact t q hq
theorem tbl_cls {a : Addr} {tp : Array Value} : ((a, X.tableObj tp) : Addr × Obj).2.cls ≠ .type "tuple" := by simp [X.tableObj]
theorem dct_cls {a : Addr} {es : List DictEntry} {n : Nat} : ((a, dictOf es n) : Addr × Obj).2.cls ≠ .type "tuple" := by simp [dictOf]
theorem popfrom_raw (w : World) {A : Around} {E Q : Value → Shared → Prop} {s : Shared} {h₀ : Heap} {L : Addr} {m mg mb : Str → Option Value} {p : Program} {loose : List Str} {mean : ExcName → Option Value}
    {k7 : Int} {t7 u7 : Tok} {x dx : Addr} {xs : List Value} {n : Nat} {i0 : Int} {v : Value} {j : Nat} {tj : Tok}
    (F : Fr h₀ L s.heap m) (X₀ : (hd.heap_1 w.params).In h₀) (N : News h₀ L s.heap [(x, accObj 185 dx (xs ++ [v]) n), (dx, acdO k7 t7 i0 u7)]) (T : Top p loose mean mg mb h₀) (hh : A.handled = none) (hd1 : A.depth + 4 < recursionLimit) (hu : A.units + 40 < cLine) (o5 : @LT.lt Nat _ dx x) (hxs : xs.length ≤ 1000) (hj : xs.length = j)
    (hQ : ∀ R h' tk n', Kept [x] s.heap h' → h'.get? x = some (accObj 185 dx xs n') → h'.get? R = some (W.listOf [v].toArray 0) → s.heap.objs.size ≤ R → Q (.ref R) { s with heap := h', toks := tk }) :
    wpAny (model PySem.Challenge.rw_xl0020_01.row.prog w) A (call (.ref 137) [.ref x, .int j tj]) Q E s := by
  revert X₀; k_fill; intro X₀
  refine wpAny_call ?_
  k_dflt (refine' enterH F X₀ N T ?k6 ?k7 ?k8 ?k9 ?kB ?_ ?c2 ?c3 ?c4 ?c5)
  (case k6 => k_is)
  (case k7 => k_is)
  (case k8 => (first | lia | omega))
  (case k9 => first | exact BindsTo.of_eq rfl | exact binds_K (by k_in) rfl (by k_is) rfl rfl rfl)
  (case kB => exact locs rfl)
  (case c2 => exact rfl)
  (case c3 => exact rfl)
  (case c4 => exact rfl)
  (case c5 => decide)
  intro g L' h₁ hL' hk1 F1 N1 X1 T1 hlt
  dsimp only
  k_lt hlt
  k_steps
  refine' hQ _ _ _ _ ?q0 ?q1 ?q2 ?q3
  (case q0 => refine' kept_of N hk1 (by k_asm) (by k_asm) _ ?_; exact kin_ch (.head _) (kin_in (by k_mem) kin_nil))
  (case q1 => exact News.get' (by k_asm) (by k_mem))
  (case q2 => exact News.get' (by k_asm) (by k_mem))
  (case q3 => rw [hL']; assumption)
theorem reset0_raw (w : World) {A : Around} {E Q : Value → Shared → Prop} {s : Shared} {h₀ : Heap} {L : Addr} {m mg mb : Str → Option Value} {p : Program} {loose : List Str} {mean : ExcName → Option Value}
    {k7 : Int} {t7 u7 : Tok} {x dx : Addr} {xs : List Value} {n : Nat} {i0 : Int}
    (F : Fr h₀ L s.heap m) (X₀ : (hd.heap_1 w.params).In h₀) (N : News h₀ L s.heap [(x, accObj 185 dx xs n), (dx, acdO k7 t7 i0 u7)]) (T : Top p loose mean mg mb h₀) (hh : A.handled = none) (hd1 : A.depth + 4 < recursionLimit) (hu : A.units + 40 < cLine) (o5 : @LT.lt Nat _ dx x) (hxs : xs.length ≤ 2000)
    (hQ : ∀ h' tk u n', Kept [x, dx] s.heap h' → h'.get? x = some (accObj 185 dx [] n') → h'.get? dx = some (acdO k7 t7 0 u) → Q .none { s with heap := h', toks := tk }) :
    wpAny (model PySem.Challenge.rw_xl0020_01.row.prog w) A (call (.ref 167) [.ref x]) Q E s := by
  revert X₀; k_fill; intro X₀
  refine wpAny_call ?_
  k_dflt (refine' enterH F X₀ N T ?k6 ?k7 ?k8 ?k9 ?kB ?_ ?c2 ?c3 ?c4 ?c5)
  (case k6 => k_is)
  (case k7 => k_is)
  (case k8 => (first | lia | omega))
  (case k9 => first | exact BindsTo.of_eq rfl | exact binds_K (by k_in) rfl (by k_is) rfl rfl rfl)
  (case kB => exact locs rfl)
  (case c2 => exact rfl)
  (case c3 => exact rfl)
  (case c4 => exact rfl)
  (case c5 => decide)
  intro g L' h₁ hL' hk1 F1 N1 X1 T1 hlt
  dsimp only
  k_lt hlt
  k_steps
  refine' hQ _ _ _ _ ?q0 ?q1 ?q2
  (case q0 => refine' kept_of N hk1 (by k_asm) (by k_asm) _ ?_; exact kin_ch (.head _) (kin_ch (.tail _ (.head _)) kin_nil))
  (case q1 => exact News.get' (by k_asm) (by k_mem))
  (case q2 => exact News.get' (by k_asm) (by k_mem))
theorem reset1_raw (w : World) {A : Around} {E Q : Value → Shared → Prop} {s : Shared} {h₀ : Heap} {L : Addr} {m mg mb : Str → Option Value} {p : Program} {loose : List Str} {mean : ExcName → Option Value}
    {k7 : Int} {t7 u7 : Tok} {x dx : Addr} {xs : List Value} {n : Nat} {i0 : Int} {R : Addr} {ys : List Value} {ny : Nat}
    (F : Fr h₀ L s.heap m) (X₀ : (hd.heap_1 w.params).In h₀) (N : News h₀ L s.heap [(x, accObj 185 dx xs n), (dx, acdO k7 t7 i0 u7), (R, W.listOf ys.toArray ny)]) (T : Top p loose mean mg mb h₀) (hh : A.handled = none) (hd1 : A.depth + 4 < recursionLimit) (hu : A.units + 40 < cLine) (o5 : @LT.lt Nat _ dx x) (hxs : xs.length ≤ 2000) (hys : ys.length ≤ 1000) (o6 : @LT.lt Nat _ x R)
    (hQ : ∀ h' tk u n', Kept [x, dx] s.heap h' → h'.get? x = some (accObj 185 dx ys n') → h'.get? dx = some (acdO k7 t7 0 u) → Q .none { s with heap := h', toks := tk }) :
    wpAny (model PySem.Challenge.rw_xl0020_01.row.prog w) A (call (.ref 167) [.ref x, .ref R]) Q E s := by
  revert X₀; k_fill; intro X₀
  refine wpAny_call ?_
  k_dflt (refine' enterH F X₀ N T ?k6 ?k7 ?k8 ?k9 ?kB ?_ ?c2 ?c3 ?c4 ?c5)
  (case k6 => k_is)
  (case k7 => k_is)
  (case k8 => (first | lia | omega))
  (case k9 => first | exact BindsTo.of_eq rfl | exact binds_K (by k_in) rfl (by k_is) rfl rfl rfl)
  (case kB => exact locs rfl)
  (case c2 => exact rfl)
  (case c3 => exact rfl)
  (case c4 => exact rfl)
  (case c5 => decide)
  intro g L' h₁ hL' hk1 F1 N1 X1 T1 hlt
  dsimp only
  k_lt hlt
  k_steps
  refine' hQ _ _ _ _ ?q0 ?q1 ?q2
  (case q0 => refine' kept_of N hk1 (by k_asm) (by k_asm) _ ?_; exact kin_ch (.head _) (kin_ch (.tail _ (.head _)) (kin_in (by k_mem) kin_nil)))
  (case q1 => exact News.get' (by k_asm) (by k_mem))
  (case q2 => exact News.get' (by k_asm) (by k_mem))
theorem onlyws_raw (w : World) {A : Around} {E Q : Value → Shared → Prop} {s : Shared} {h₀ : Heap} {L : Addr} {m mg mb : Str → Option Value} {p : Program} {loose : List Str} {mean : ExcName → Option Value}
    {k7 : Int} {t7 u7 : Tok} {x dx : Addr} {xs : List Value} {n : Nat} {ps : List (Str × Str)} {tp1 tp2 : Array Value}
    (F : Fr h₀ L s.heap m) (X₀ : (hd.heap_1 w.params).In h₀) (N : News h₀ L s.heap [(x, accObj 185 dx xs n), (dx, acdO k7 t7 0 u7), (147, X.tableObj tp1), (154, X.tableObj tp2)]) (T : Top p loose mean mg mb h₀) (hh : A.handled = none) (hd1 : A.depth + 9 < recursionLimit) (hu : A.units + 80 < cLine) (G : AllBare s.gens) (o4 : @LT.lt Nat _ 154 dx) (o5 : @LT.lt Nat _ dx x)
    (ht1 : TriplesOk tp1.toList) (ht2 : TriplesOk tp2.toList) (PA : PairsAt s.heap xs ps) (hsm : ∀ q ∈ ps, q.1.length ≤ 1048576 ∧ q.2.length ≤ 1048576) (hfit0 : 0 + total ps ≤ 1099511627776) (hpos0 : 0 < 0 + total ps) (hW : ((ps.map fun q => q.1 ++ q.2).map (·.length)).sum + (ps.map fun q => q.1 ++ q.2).length ≤ 1048576) (hsp : Txt.isspace (cat ps) = false)
    (hQ : ∀ s' tp1 tp2, Kept [147, 154] s.heap s'.heap → s'.heap.get? 147 = some (X.tableObj tp1) → s'.heap.get? 154 = some (X.tableObj tp2) → TriplesOk tp1.toList → TriplesOk tp2.toList → AllBare s'.gens → s'.os = s.os → Q (.bool false) s') :
    wpAny (model PySem.Challenge.rw_xl0020_01.row.prog w) A (call (.ref 174) [.ref x]) Q E s := by
  obtain ⟨hd, dp, fr, gd, un⟩ := A
  dsimp only at hh hd1 hu
  subst hh
  revert X₀; k_fill; intro X₀
  refine wpAny_call ?_
  k_dflt (refine' enterH F X₀ N T ?k6 ?k7 ?k8 ?k9 ?kB ?_ ?c2 ?c3 ?c4 ?c5)
  (case k6 => k_is)
  (case k7 => k_is)
  (case k8 => show dp < recursionLimit; (first | lia | omega))
  (case k9 => first | exact BindsTo.of_eq rfl | exact binds_K (by k_in) rfl (by k_is) rfl rfl rfl)
  (case kB => exact locs rfl)
  (case c2 => exact rfl)
  (case c3 => exact rfl)
  (case c4 => exact rfl)
  (case c5 => decide)
  intro g L' h₁ hL' hk1 F1 N1 X1 T1 hlt
  dsimp only
  k_lt hlt
  replace PA : PairsAt g xs ps := PA.hide N hk1 (all_cons (by intro e; cases e) (all_cons dct_cls (all_cons tbl_cls (all_cons tbl_cls all_nil))))
  have hz0 : (0 : Int) ≤ 0 := Int.le_refl _
  k_steps
  · rw [hsp]
    refine' hQ _ _ _ ?q0 ?q1 ?q2 ?q3 ?q4 ?q5 ?q6
    (case q0 => refine' kept_of N hk1 (by k_asm) (by k_asm) _ ?_; exact kin_in (by k_mem) (kin_in (by k_mem) (kin_ch (.head _) (kin_ch (.tail _ (.head _)) kin_nil))))
    (case q1 => exact News.get' (by k_asm) (by k_mem))
    (case q2 => exact News.get' (by k_asm) (by k_mem))
    (case q3 => assumption)
    (case q4 => assumption)
    (case q5 => assumption)
    (case q6 => simp only [*])
  · exfalso
    have h0 := ‹0 + total ps = 0›
    (first | lia | omega)
end

section
open PySem PySem.W PyProof.Rows PySem.Calls PySem.Spec
set_option maxRecDepth 100000
set_option maxHeartbeats 400000
section
variable {h₀ h h' : Heap} {L x y : Addr} {m : Str → Option Value} {news news' news'' : List (Addr × Obj)} {o o' d d' : Obj}
theorem upd_mem (U : Upd x o o' news news') {p : Addr × Obj} (hp : p ∈ news') : p = (x, o') ∨ (p ∈ news ∧ p.1 ≠ x) := by
  obtain ⟨pre, post, rfl, rfl, a, b⟩ := U.split
  rcases List.mem_append.mp hp with q | q
  · exact .inr ⟨List.mem_append_left _ q, a p q⟩
  · rcases List.mem_cons.mp q with rfl | q
    · exact .inl rfl
    · exact .inr ⟨List.mem_append_right _ (.tail _ q), b p q⟩
theorem upd_in (U : Upd x o o' news news') : (x, o) ∈ news := by
  obtain ⟨pre, post, rfl, rfl, a, b⟩ := U.split
  simp
theorem news_after2 (N : News h₀ L h news) (U : Upd x o o' news news') (V : Upd y d d' news' news'') (k : Kept [x, y] h h') (e1 : h'.get? x = some o') (e2 : h'.get? y = some d') : News h₀ L h' news'' := fun p hp => by
  have hyx := upd_mem U (upd_in V)
  have hx := (N _ (upd_in U)).2
  rcases upd_mem V hp with rfl | ⟨hp, hny⟩
  · rcases hyx with q | ⟨q, _⟩
    · cases q
      exact ⟨e2, hx⟩
    · exact ⟨e2, (N _ q).2⟩
  · rcases upd_mem U hp with rfl | ⟨hp, hnx⟩
    · exact ⟨e1, hx⟩
    · refine ⟨k _ _ (fun q => ?_) (N _ hp).1, (N _ hp).2⟩
      rcases List.mem_cons.mp q with q | q
      · exact hnx q
      · exact hny (List.mem_singleton.mp q)
theorem ch_two (N : News h₀ L h news) (hx : (x, o) ∈ news) (hy : (y, d) ∈ news) : ∀ b ∈ [x, y], b ≠ L ∧ h₀.get? b = none := fun b hb => by
  rcases List.mem_cons.mp hb with rfl | hb
  · exact (N _ hx).2
  · rw [List.mem_singleton.mp hb]; exact (N _ hy).2
theorem news_three {a b c : Addr × Obj} (N : News h₀ L h news) (ha : a ∈ news) (hb : b ∈ news) (hc : c ∈ news) : News h₀ L h [a, b, c] := fun p hp => by
  rcases List.mem_cons.mp hp with rfl | hp
  · exact N _ ha
  · exact news_two N hb hc p hp
theorem news_four {a b c e : Addr × Obj} (N : News h₀ L h news) (ha : a ∈ news) (hb : b ∈ news) (hc : c ∈ news) (he : e ∈ news) : News h₀ L h [a, b, c, e] := fun p hp => by
  rcases List.mem_cons.mp hp with rfl | hp
  · exact N _ ha
  · exact news_three N hb hc he p hp
end
theorem acc_pop_L {w : World} {A₀ A : Around} {E Q : Value → Shared → Prop} {s : Shared} {base h₀ : Heap} {env : Env} {outer : List Env} {L : Addr} {m mg mb : Str → Option Value} {p : Program} {loose : List Str} {mean : ExcName → Option Value} {news : List (Addr × Obj)}
    {k7 : Int} {t7 u7 : Tok} {x dx : Addr} {xs : List Value} {n : Nat} {i0 : Int} {v : Value} (B : Below A₀ base outer h₀) (F : Fr h₀ L s.heap m) (X₀ : (hd.heap_1 w.params).In h₀) (N : News h₀ L s.heap news) (T : Top p loose mean mg mb h₀) (hx : (x, accObj 185 dx (xs ++ [v]) n) ∈ news) (hdx : (dx, acdO k7 t7 i0 u7) ∈ news) (hA : A.frames = some (env :: outer)) (hf : env.frame = some L) (hke : env.scope.kind = .function) (hh : A.handled = none) (hd1 : A.depth + 8 < recursionLimit) (hu : A.units + 60 < cLine) (o5 : @LT.lt Nat _ dx x) (hxs : xs.length ≤ 1000)
    (hQ : ∀ h' tk, Fr h₀ L h' m → (∀ news', Upd x (accObj 185 dx (xs ++ [v]) n) (accObj 185 dx xs (n + 1)) news news' → News h₀ L h' news') → Q v { s with heap := h', toks := tk }) :
    wpAny (model PySem.Challenge.rw_xl0020_01.row.prog w) A (call (.ref 145) [.ref x]) Q E s :=
  pop_raw w B F X₀ (news_two N hx hdx) T hA hf hke hh hd1 hu o5 hxs fun h' tk k e => hQ h' tk (frk F k (ch_one N hx)) fun _ U => news_after N U (kept_one k) e
theorem acc_popfrom_L {w : World} {A : Around} {E Q : Value → Shared → Prop} {s : Shared} {h₀ : Heap} {L : Addr} {m mg mb : Str → Option Value} {p : Program} {loose : List Str} {mean : ExcName → Option Value} {news : List (Addr × Obj)}
    {k7 : Int} {t7 u7 : Tok} {x dx : Addr} {xs : List Value} {n : Nat} {i0 : Int} {v : Value} {j : Nat} {tj : Tok} (F : Fr h₀ L s.heap m) (X₀ : (hd.heap_1 w.params).In h₀) (N : News h₀ L s.heap news) (T : Top p loose mean mg mb h₀) (hx : (x, accObj 185 dx (xs ++ [v]) n) ∈ news) (hdx : (dx, acdO k7 t7 i0 u7) ∈ news) (hh : A.handled = none) (hd1 : A.depth + 4 < recursionLimit) (hu : A.units + 40 < cLine) (o5 : @LT.lt Nat _ dx x) (hxs : xs.length ≤ 1000) (hj : xs.length = j)
    (hQ : ∀ R h' tk n', Fr h₀ L h' m → (∀ news', Upd x (accObj 185 dx (xs ++ [v]) n) (accObj 185 dx xs n') news news' → News h₀ L h' ((R, W.listOf [v].toArray 0) :: news')) → (∀ p ∈ news, p.1 < R) → Q (.ref R) { s with heap := h', toks := tk }) :
    wpAny (model PySem.Challenge.rw_xl0020_01.row.prog w) A (call (.ref 137) [.ref x, .int j tj]) Q E s :=
  popfrom_raw w F X₀ (news_two N hx hdx) T hh hd1 hu o5 hxs hj fun R h' tk n' k e1 e2 hR => hQ R h' tk n' (frk F k (ch_one N hx)) (fun _ U => news_new F (news_after N U (kept_one k) e1) hR e2) fun p hp => Nat.lt_of_lt_of_le (Heap.lt_size (N p hp).1) hR
theorem acc_reset0_L {w : World} {A : Around} {E Q : Value → Shared → Prop} {s : Shared} {h₀ : Heap} {L : Addr} {m mg mb : Str → Option Value} {p : Program} {loose : List Str} {mean : ExcName → Option Value} {news : List (Addr × Obj)}
    {k7 : Int} {t7 u7 : Tok} {x dx : Addr} {xs : List Value} {n : Nat} {i0 : Int} (F : Fr h₀ L s.heap m) (X₀ : (hd.heap_1 w.params).In h₀) (N : News h₀ L s.heap news) (T : Top p loose mean mg mb h₀) (hx : (x, accObj 185 dx xs n) ∈ news) (hdx : (dx, acdO k7 t7 i0 u7) ∈ news) (hh : A.handled = none) (hd1 : A.depth + 4 < recursionLimit) (hu : A.units + 40 < cLine) (o5 : @LT.lt Nat _ dx x) (hxs : xs.length ≤ 2000)
    (hQ : ∀ h' tk u n', Fr h₀ L h' m → (∀ news' news'', Upd x (accObj 185 dx xs n) (accObj 185 dx [] n') news news' → Upd dx (acdO k7 t7 i0 u7) (acdO k7 t7 0 u) news' news'' → News h₀ L h' news'') → Q .none { s with heap := h', toks := tk }) :
    wpAny (model PySem.Challenge.rw_xl0020_01.row.prog w) A (call (.ref 167) [.ref x]) Q E s :=
  reset0_raw w F X₀ (news_two N hx hdx) T hh hd1 hu o5 hxs fun h' tk u n' k e1 e2 => hQ h' tk u n' (frk F k (ch_two N hx hdx)) fun _ _ U V => news_after2 N U V k e1 e2
theorem acc_reset1_L {w : World} {A : Around} {E Q : Value → Shared → Prop} {s : Shared} {h₀ : Heap} {L : Addr} {m mg mb : Str → Option Value} {p : Program} {loose : List Str} {mean : ExcName → Option Value} {news : List (Addr × Obj)}
    {k7 : Int} {t7 u7 : Tok} {x dx : Addr} {xs : List Value} {n : Nat} {i0 : Int} {R : Addr} {ys : List Value} {ny : Nat} (F : Fr h₀ L s.heap m) (X₀ : (hd.heap_1 w.params).In h₀) (N : News h₀ L s.heap news) (T : Top p loose mean mg mb h₀) (hx : (x, accObj 185 dx xs n) ∈ news) (hdx : (dx, acdO k7 t7 i0 u7) ∈ news) (hR : (R, W.listOf ys.toArray ny) ∈ news) (hh : A.handled = none) (hd1 : A.depth + 4 < recursionLimit) (hu : A.units + 40 < cLine) (o5 : @LT.lt Nat _ dx x) (hxs : xs.length ≤ 2000) (hys : ys.length ≤ 1000) (o6 : @LT.lt Nat _ x R)
    (hQ : ∀ h' tk u n', Fr h₀ L h' m → (∀ news' news'', Upd x (accObj 185 dx xs n) (accObj 185 dx ys n') news news' → Upd dx (acdO k7 t7 i0 u7) (acdO k7 t7 0 u) news' news'' → News h₀ L h' news'') → Q .none { s with heap := h', toks := tk }) :
    wpAny (model PySem.Challenge.rw_xl0020_01.row.prog w) A (call (.ref 167) [.ref x, .ref R]) Q E s :=
  reset1_raw w F X₀ (news_three N hx hdx hR) T hh hd1 hu o5 hxs hys o6 fun h' tk u n' k e1 e2 => hQ h' tk u n' (frk F k (ch_two N hx hdx)) fun _ _ U V => news_after2 N U V k e1 e2
theorem acc_onlyws_L {w : World} {A : Around} {E Q : Value → Shared → Prop} {s : Shared} {h₀ : Heap} {L : Addr} {m mg mb : Str → Option Value} {p : Program} {loose : List Str} {mean : ExcName → Option Value} {news : List (Addr × Obj)}
    {k7 : Int} {t7 u7 : Tok} {x dx : Addr} {xs : List Value} {n : Nat} {ps : List (Str × Str)} {tp1 tp2 : Array Value} (F : Fr h₀ L s.heap m) (X₀ : (hd.heap_1 w.params).In h₀) (N : News h₀ L s.heap news) (T : Top p loose mean mg mb h₀) (hx : (x, accObj 185 dx xs n) ∈ news) (hdx : (dx, acdO k7 t7 0 u7) ∈ news) (h1 : (147, X.tableObj tp1) ∈ news) (h2 : (154, X.tableObj tp2) ∈ news) (hh : A.handled = none) (hd1 : A.depth + 9 < recursionLimit) (hu : A.units + 80 < cLine) (G : AllBare s.gens) (o4 : @LT.lt Nat _ 154 dx) (o5 : @LT.lt Nat _ dx x)
    (ht1 : TriplesOk tp1.toList) (ht2 : TriplesOk tp2.toList) (PA : PairsAt s.heap xs ps) (hsm : ∀ q ∈ ps, q.1.length ≤ 1048576 ∧ q.2.length ≤ 1048576) (hfit0 : 0 + total ps ≤ 1099511627776) (hpos0 : 0 < 0 + total ps) (hW : ((ps.map fun q => q.1 ++ q.2).map (·.length)).sum + (ps.map fun q => q.1 ++ q.2).length ≤ 1048576) (hsp : Txt.isspace (cat ps) = false)
    (hQ : ∀ s' tp1' tp2', TriplesOk tp1'.toList → TriplesOk tp2'.toList → Fr h₀ L s'.heap m → (∀ news' news'', Upd 147 (X.tableObj tp1) (X.tableObj tp1') news news' → Upd 154 (X.tableObj tp2) (X.tableObj tp2') news' news'' → News h₀ L s'.heap news'') → AllBare s'.gens → s'.os = s.os → Q (.bool false) s') :
    wpAny (model PySem.Challenge.rw_xl0020_01.row.prog w) A (call (.ref 174) [.ref x]) Q E s :=
  onlyws_raw w F X₀ (news_four N hx hdx h1 h2) T hh hd1 hu G o4 o5 ht1 ht2 PA hsm hfit0 hpos0 hW hsp fun s' tp1' tp2' k e1 e2 q1 q2 g o => hQ s' tp1' tp2' q1 q2 (frk F k (ch_two N h1 h2)) (fun _ _ U V => news_after2 N U V k e1 e2) g o
end

section
open PySem PySem.W PyProof.Rows PySem.Calls PySem.Spec
set_option maxRecDepth 100000
set_option maxHeartbeats 4000000
open Builtin Builtin.ObjectAttr Builtin.List
theorem reg_MK1_0 : True := by
  k_with_none
  k_with "zz" => (first | assumption | exact Nat.le_trans (by assumption) (by decide) | exact Nat.lt_of_le_of_lt (by assumption) (by decide) | exact Nat.le_trans (Nat.sub_le _ _) (Nat.le_trans (by assumption) (by decide)) | exact Nat.le_trans (Nat.min_le_right _ _) (Nat.le_trans (by assumption) (by decide)) | exact Nat.sub_pos_of_lt (by assumption) | exact Nat.lt_of_sub_pos (by assumption) | exact mn_pos (by assumption) | exact mn_lt (by assumption) | exact mn_no (by assumption) | exact sb_no (by assumption) | exact nm1 | exact sub1 (by assumption) | exact cp1 (by assumption) | exact cpp (by assumption) | exact cpn (by assumption) | exact cpa (by assumption) | exact sz1 (by assumption) | exact sz2 (by assumption) | exact sz3 (by assumption) | exact sz5 (by assumption) (by decide) | exact na3 (by assumption) (by assumption) | exact na4 (by assumption) (by assumption) | exact na5 (by assumption) (by assumption) | exact fl1 (by assumption) (by decide) | lia | omega)
  k_with "zr" => ((repeat (with_reducible refine rm_deeper ?_)); exact rm_top (by assumption) (by decide))
  k_with "zu" => ((repeat (first | with_reducible refine um_deeper ?_ | with_reducible refine um_in1 ?_)); exact rm_top (by assumption) (by decide))
  k_with "zn" => (refine neN ?_; (try dsimp only); first | exact Nat.ne_of_lt (Nat.add_lt_add_left (by decide) _) | exact Nat.ne_of_gt (Nat.add_lt_add_left (by decide) _) | (refine Nat.ne_of_lt ?_; (try refine lt154 ?_); (repeat (first | assumption | exact ltA (by assumption) (by decide) | refine Nat.lt_trans (by assumption) ?_ | refine Nat.lt_trans (ltA (by assumption) (by decide)) ?_)); done) | (refine Nat.ne_of_gt ?_; (try refine lt154 ?_); (repeat (first | assumption | exact ltA (by assumption) (by decide) | refine Nat.lt_trans (by assumption) ?_ | refine Nat.lt_trans (ltA (by assumption) (by decide)) ?_)); done) | (first | lia | omega))
  k_with "k_enter" => (refine ks_code_super (by k_asm) (by k_asm) (by k_asm) (by k_asm) (by k_asm) (by exact rfl) (by exact rfl) (by exact rfl) (by k_is) (by k_is) (by k_room) (by first | exact BindsTo.of_eq rfl | exact binds_K (by k_in) rfl (by k_is) rfl rfl rfl) (by exact locs rfl) ?_ (by decide) (by exact rfl) (by exact rfl) (by exact rfl); intro g' L' h' FG' F' N' B' X' T' l1; (try k_lt l1); (try dsimp only); (try k_lift B'))
  k_with "k_inst" => (refine Mine.instL (by k_asm) (by k_mem) (by k_mem))
  k_with "call ref" => (k_here; k_dflt (refine Mine.acc_make (by k_asm) (by k_asm) (by k_asm) (by k_is) (by rfl) (by rfl) (by rfl) (by k_is) (by k_is) (by k_is) (by k_is) (by (unfold argsOk; kernel_rfl)) ?_; k_whole; intro x' d' h' F' N' l1 l2; (try k_lt l1); (try k_lt2 l2); (try k_sweep); (first | k_enter | ks_enter)))
  k_with "setAttr ref" => (k_here; k_dflt (refine Mine.acc_set (by k_asm) (by k_asm) (by k_asm) (by k_inst) (by exact rfl) (by k_is) (by k_is) (by rfl) (by rfl) (by k_is) (by k_get) (by k_put) (by k_upd) (by exact Nat.le_of_ble_eq_true rfl) ?_; k_whole; intro h' F' N'; (try k_sweep)))
  k_with "getMethod ref" => (k_here; k_dflt (refine Mine.acc_method (by k_asm) (by k_asm) (by k_inst) (by k_is) (by k_is) (by k_is) (by k_is) (by (first | rfl | decide +kernel)) (by k_get) ?_; k_whole))
  k_with "getMethod ref" => (k_here; k_dflt (first
  | (refine Mine.sup_method Mine.bound_pop (by k_asm) (by k_asm) (by k_asm) (by k_mem) (by k_inst) (by k_is) (by ks_is) (by k_is) (by decide) ?_; k_whole; intro q' h' F' N' l1; (try k_lt l1))
  | (refine Mine.sup_method Mine.bound_init (by k_asm) (by k_asm) (by k_asm) (by k_mem) (by k_inst) (by k_is) (by ks_is) (by k_is) (by decide) ?_; k_whole; intro q' h' F' N' l1; (try k_lt l1))
  | (refine Mine.sup_method Mine.bound_len (by k_asm) (by k_asm) (by k_asm) (by k_mem) (by k_inst) (by k_is) (by ks_is) (by k_is) (by decide) ?_; k_whole; intro q' h' F' N' l1; (try k_lt l1))))
  k_with "callWith ref" => (k_here; k_dflt (refine Mine.callWith_bm (by k_asm) (by k_mem) (by rfl) (by rfl) ?_; k_whole))
  k_with "call ref" => (k_here; k_dflt (first
  | (refine Mine.bm_pop (by k_asm) (by k_asm) (by k_asm) (by k_mem) (by k_inst) (by k_is) (by rfl) (by (first | rfl | decide +kernel)) (by k_upd) (by first | size_fits | (rw [sizeLine_eq]; omega)) ?_; k_whole; intro h' F' N'; (try k_sweep))
  | (refine Mine.bm_init (by k_asm) (by k_asm) (by k_mem) (by k_inst) (by k_upd) ?_; k_whole; intro h' F' N'; (try k_sweep))
  | (refine Mine.bm_len (by k_asm) (by k_mem) (by k_inst) ?_; k_whole)))
  k_with "call builtin:list.append" => (k_here; k_dflt (refine Mine.acc_append (by k_asm) (by k_asm) (by k_asm) (by k_inst) (by k_is) (by k_upd) (by first | size_fits | (rw [sizeLine_eq]; omega)) ?_; k_whole; intro h' F' N'; (try k_sweep)))
  k_with "wpAt" => ((try dsimp only); ks_step "execs cons"; refine ks_wpAt_execs_cons ?_)
  k_with "wpAt" => (k_dflt (ks_step "exec Expr"; refine ks_wpAt_Expr_any ?_))
  k_with "wpAt" => (k_dflt (ks_step "exec Return"; refine ks_wpAt_Return_some ?_))
  k_with "wpAt" => (k_dflt (ks_step "exec Assign"; first | refine ks_wpAt_Assign_Name ?_ | refine ks_wpAt_Assign_Attr ?_))
  k_with "wpAt" => (k_dflt (ks_step "exec If"; refine ks_wpAt_If ?_))
  k_with "wpAt" => (k_dflt (ks_step "eval BinOp"; refine ks_wpAt_BinOp2 ?_))
  k_with "wpAt" => (k_dflt (ks_step "eval Call"; refine ks_wpAt_MethodCall ?_))
  k_with "wpAt" => (k_dflt (ks_step "attributeBase Call"; k_here; (refine ks_node (by k_asm) (by k_asm) (by k_asm) (by k_asm) (by k_is) (by rfl) (by rfl) (by k_inst) (by k_is) (by rfl) (by first | rfl | decide +kernel) (by k_is) (by k_is) (by k_is) (by k_is) (by decide) (by rfl) (by rfl) (by rfl) (by rfl) (by decide +kernel) (by first | boot_by_name | rfl | kernel_rfl) ?_; intro so' h' F' N' l1; (try k_lt l1))))
  k_with "eval Name" => (k_here; (with_reducible show wpAny _ _ (PySem.eval _ (genEnv _ _ _ _ _ _)) _ _ _); k_dflt (refine Mine.gname_L (by k_asm) (by assumption) ?_; k_whole))
  k_with "eval Name" => (k_here; (with_reducible show wpAny _ _ (PySem.eval _ (genEnv _ _ _ _ _ _)) _ _ _); k_dflt (refine Mine.gname_B (by k_asm) (by k_asm) (by k_asm) (by k_is) (by boot_by_name) (by decide) ?_; k_whole))
  k_with "getAttr ref" => (k_here; k_dflt (refine Mine.acc_get (by k_asm) (by k_asm) (by k_inst) (by k_is) (by k_is) (by k_is) (by k_is) (by k_is) (by first | assumption | k_get) (by k_handed) ?_; k_whole))
  k_with "call builtin:len" => (k_here; (with_reducible show wpAny _ _ (call (Value.builtin "len") [Value.str _ _]) _ _ _); k_dflt (refine Mine.len_txt (by assumption) ?_; k_whole))
  k_with "eval Name" => (k_here; (with_reducible show wpAny _ _ (PySem.eval _ (genEnv _ _ _ _ _ _)) _ _ _); k_dflt (refine Mine.gname_K (by k_asm) (by k_asm) (by k_asm) (by k_is) ?_; k_whole))
  k_with "newTuple" => ((with_reducible rename Mine.GMark => hG9); k_here; k_dflt (refine Mine.newTuple_G (by k_asm) ?_ (by size_fits)); k_whole; intro F' N'; (try k_sweep))
  k_with "call ref" => (k_here; (with_reducible show wpAny _ _ (call (Value.ref 152) [Value.ref _]) _ _ _); k_dflt (refine Mine.acc_len_L (by k_asm) (by k_asm) (by k_asm) (by k_asm) (by rfl) (by ktr_room) (by ktr_units) (by ((try dsimp only); assumption)) (by k_mem) (by k_mem) (by k_get) (by k_mem) (by assumption) (by k_is) (by rfl) (by rfl) (by rfl) (by rfl) (by rfl) (by (first | (refine Mine.pairs_snoc (by assumption) (by k_asm) (by k_asm) (by k_mem)) | (refine Mine.PairsAt.keeps (by assumption) (fun T o _ e => Fr.keep (by k_asm) T o e)))) (by assumption) (by assumption) (by assumption) ?_); intro s9 t9 tp9 ht9 F' hN9 G9 os9 hb9; (have N' := hN9 _ (by k_upd)); clear hN9; (try k_sweep); (try (dsimp only [PySem.W.LenBack]; refine ⟨⟨by omega, by omega⟩, ?_⟩)))
  k_with "call ref" => (k_here; (with_reducible show wpAny _ _ (call (Value.ref 129) _) _ _ _); k_dflt (refine Mine.acc_push_L (by k_asm) (by k_asm) (by k_asm) (by k_asm) (by k_mem) (by k_mem) (by rfl) (by ktr_room) (by ktr_units) (by assumption) (by assumption) ?_); intro D' h' tk' F' hN9 l1; (have N' := hN9 _ (by k_upd)); clear hN9; (try k_lt l1); (try k_sweep))
  k_with "call ref" => (k_here; (with_reducible show wpAny _ _ (call (Value.ref 182) _) _ _ _); k_dflt (refine Mine.acc_pcount_L (by k_asm) (by k_asm) (by k_asm) (by k_asm) (by k_asm) (by k_mem) (by k_mem) (by exact rfl) (by exact rfl) (by exact rfl) (by rfl) (by ktr_room) (by ktr_units) (by assumption) ?_); intro h' tk' t' F' N'; (try k_sweep))
  k_with "call ref" => (k_here; (with_reducible show wpAny _ _ (call (Value.ref 145) _) _ _ _); k_dflt (refine Mine.acc_pop_L (by k_asm) (by k_asm) (by k_asm) (by k_asm) (by k_asm) (by k_mem) (by k_mem) (by exact rfl) (by exact rfl) (by exact rfl) (by rfl) (by ktr_room) (by ktr_units) (by assumption) (by assumption) ?_); intro h' tk' F' hN9; (have N' := hN9 _ (by k_upd)); clear hN9; (try k_sweep))
  k_with "call ref" => (k_here; (with_reducible show wpAny _ _ (call (Value.ref 137) _) _ _ _); k_dflt (refine Mine.acc_popfrom_L (by k_asm) (by k_asm) (by k_asm) (by k_asm) (by k_mem) (by k_mem) (by rfl) (by ktr_room) (by ktr_units) (by assumption) (by assumption) (by assumption) ?_); intro R' h' tk' n' F' hN9 l1; (have N' := hN9 _ (by k_upd)); clear hN9; (try k_lt l1); (try k_sweep))
  k_with "call ref" => (k_here; (with_reducible show wpAny _ _ (call (Value.ref 167) _) _ _ _); k_dflt (refine Mine.acc_reset0_L (by k_asm) (by k_asm) (by k_asm) (by k_asm) (by k_mem) (by k_mem) (by rfl) (by ktr_room) (by ktr_units) (by assumption) (by first | assumption | omega | (simp only [List.length_append, List.length_cons, List.length_nil]; omega)) ?_); intro h' tk' u' n' F' hN9; (have N' := hN9 _ _ (by k_upd) (by k_upd)); clear hN9; (try k_sweep))
  k_with "call ref" => (k_here; (with_reducible show wpAny _ _ (call (Value.ref 167) _) _ _ _); k_dflt (refine Mine.acc_reset1_L (by k_asm) (by k_asm) (by k_asm) (by k_asm) (by k_mem) (by k_mem) (by k_mem) (by rfl) (by ktr_room) (by ktr_units) (by assumption) (by first | assumption | omega | (simp only [List.length_append, List.length_cons, List.length_nil]; omega)) (by exact Nat.le_of_ble_eq_true rfl) (by omega) ?_); intro h' tk' u' n' F' hN9; (have N' := hN9 _ _ (by k_upd) (by k_upd)); clear hN9; (try k_sweep))
  k_with "call ref" => (k_here; (with_reducible show wpAny _ _ (call (Value.ref 174) _) _ _ _); k_dflt (refine Mine.acc_onlyws_L (by k_asm) (by k_asm) (by k_asm) (by k_asm) (by k_mem) (by k_mem) (by k_mem) (by k_mem) (by rfl) (by ktr_room) (by ktr_units) (by assumption) (by first | assumption | omega) (by assumption) (by assumption) (by assumption) (by (first | (refine Mine.pairs_snoc (by assumption) (by k_asm) (by k_asm) (by k_mem)) | (refine Mine.PairsAt.keeps (by assumption) (fun T o _ e => Fr.keep (by k_asm) T o e)) | (refine Mine.pairs_snoc_r (by k_asm) (by k_asm) (by k_mem) (by (first | exact Mine.pairs_fr (by assumption) (by assumption) | exact Mine.pairs_fr (by assumption) (Mine.pairs_fr (by assumption) (by assumption))))) | (refine Mine.pairs_fr (by k_asm) (by (first | exact Mine.pairs_fr (by assumption) (by assumption) | exact Mine.pairs_fr (by assumption) (Mine.pairs_fr (by assumption) (by assumption))))))) (by assumption) (by assumption) (by assumption) (by assumption) (by assumption) ?_); intro s9 tp9 tp8 ht9 ht8 F' hN9 G9 os9; (have N' := hN9 _ _ (by k_upd) (by k_upd)); clear hN9; (try k_sweep))
  trivial
theorem chunk1 (w : World) {E Q : Value → Shared → Prop} {s : Shared} {A₀ : Around} {base h₀ : Heap} {outer : List Env} {L : Addr} {m mg mb : Str → Option Value} {p : Program} {loose : List Str} {mean : ExcName → Option Value}
    {dp un : Nat} {gd : Option (List Code)} {cn : Str} {nm : List (Str × NameKind)} {gg co : Bool} {more : List (Str × Const)} {a : Addr} {ccd : Value} {cl : List (Str × Addr)}
    {z : FT} {mx i0 : Int} {am ad al ac acd : Addr} {ls xs : List Value} {nl n : Nat} {tp1 tp2 : Array Value} {ps : List (Str × Str)} {fw st : Str} {tf ts : Tok}
    (B : Below A₀ base outer h₀) (F : Fr h₀ L s.heap m) (X₀ : (hd.heap_1 w.params).In h₀) (T : Top p loose mean mg mb h₀)
    (hd1 : dp + 12 < recursionLimit) (hu : un + 80 < cLine) (G : AllBare s.gens)
    (N : News h₀ L s.heap (fmtLed z mx i0 am ad al ac acd ls nl xs n tp1 tp2))
    (o1 : 154 < ad) (o2 : ad < am) (o3 : am < al) (o4 : al < acd) (o5 : acd < ac) (hxs : xs.length ≤ 1000) (ht1 : TriplesOk tp1.toList) (ht2 : TriplesOk tp2.toList) (PA : PairsAt s.heap xs ps) (hsm : ∀ q ∈ ps ++ [(fw, st)], q.1.length ≤ 1048576 ∧ q.2.length ≤ 1048576) (hi0 : 0 ≤ i0) (hfit : i0 + total (ps ++ [(fw, st)]) ≤ 1099511627776)
    (hcmp : i0 + total (ps ++ [(fw, st)]) ≤ mx)
    {lines : List Str} (hl : LinesAt ls lines) (hnd : xs.Nodup) (hex : Exact s.heap xs) (hab : Above ac xs) (hfr : ∀ T, .ref T ∈ xs → T ≠ L ∧ h₀.get? T = none)
    (hQ : ∀ s', (∀ b o, b ∉ [al, ac, acd, 147, 154] → s.heap.get? b = some o → s'.heap.get? b = some o) → MakerAt h₀ L s'.heap mx am ad al ac acd ⟨i0, lines, ps ++ [(fw, st)]⟩ → AllBare s'.gens → s'.os = s.os → Q .none s') :
    wpAny (model PySem.Challenge.rw_xl0020_01.row.prog w) (ktrTop dp un gd cn ⟨.function, nm, gg, co, more⟩ L a ccd cl outer) (call (.ref 98) [.ref am, .str fw tf, .str st ts]) Q E s := by
  revert X₀; k_fill; intro X₀
  dsimp only [fmtLed] at N
  refine wpAny_call ?_
  k_dflt (refine' enterL B F X₀ N T rfl rfl rfl ?k6 ?k7 ?k8 ?k9 ?kB ?_ ?c2 ?c3 ?c4 ?c5)
  (case k6 => k_is)
  (case k7 => k_is)
  (case k8 => show dp < recursionLimit; omega)
  (case k9 => exact BindsTo.of_eq rfl)
  (case kB => exact locs rfl)
  (case c2 => exact rfl)
  (case c3 => exact rfl)
  (case c4 => exact rfl)
  (case c5 => decide)
  intro g L' h₁ hk1 F1 N1 B1 X1 T1 hlt
  dsimp only
  replace PA := PA.hide N hk1 (by simp [X.tableObj])
  replace hex := exact_hide hex N hk1 (by simp [X.tableObj])
  k_lt hlt
  replace o1 := ltN o1; replace o2 := ltN o2; replace o3 := ltN o3; replace o4 := ltN o4; replace o5 := ltN o5
  k_steps
  refine' hQ _ (kept_of N hk1 (by k_asm) (by k_asm) _ (by (repeat (first | exact kin_nil | refine kin_in (by k_mem) ?_ | refine kin_ch (by k_mem) ?_)))) ?q1 ?q2 ?q3
  (case q1 =>
    refine' MakerAt.of (z := z) (by k_asm) ?h1 ?h2 ?h3 ?h4 ?h5 ?h6 ?h7 ?t1 ?t2 ?pa hl ?nd ?ex ?ab ?fr
    (case h1 => k_mem)
    (case h2 => k_mem)
    (case h3 => k_mem)
    (case h4 => k_mem)
    (case h5 => k_mem)
    (case h6 => k_mem)
    (case h7 => k_mem)
    (case t1 => assumption)
    (case t2 => assumption)
    (case pa => refine' Mine.pairs_snoc ?p1 ?p2 ?p3 ?p4; (case p1 => assumption); (case p2 => k_asm); (case p3 => k_asm); (case p4 => k_mem))
    (case nd => (refine' nodup_snoc hnd ?p1 ?p2 ?p3; (case p2 => k_asm); (case p1 => assumption); (case p3 => k_mem)))
    (case ex => (refine' exact_snoc hex ?p1 ?p2 ?p3; (case p1 => k_asm); (case p2 => k_asm); (case p3 => k_mem)))
    (case ab => exact above_snoc hab (by (try dsimp only); omega))
    (case fr => (refine' fresh_snoc hfr (fresh_new F N hk1 (by k_asm) (by k_asm) ?hm); (case hm => k_mem))))
  (case q2 => assumption)
  (case q3 => assumption)
end

section
open PySem PySem.W PyProof.Rows PySem.Calls PySem.Spec
set_option maxRecDepth 100000
set_option maxHeartbeats 4000000
open Builtin Builtin.ObjectAttr Builtin.List
local macro_rules | `(tactic| k_mem) => `(tactic| first | assumption | exact List.Mem.head _ | (refine' List.Mem.tail _ ?_; assumption) | (refine' List.Mem.tail _ (List.Mem.tail _ ?_); assumption) | (refine' List.Mem.tail _ (List.Mem.tail _ (List.Mem.tail _ ?_)); assumption))
theorem reg_MKL_0 : True := by
  k_with_none
  k_with "zz" => (first | assumption | exact Nat.le_trans (by assumption) (by decide) | exact Nat.lt_of_le_of_lt (by assumption) (by decide) | exact Nat.le_trans (Nat.sub_le _ _) (Nat.le_trans (by assumption) (by decide)) | exact Nat.le_trans (Nat.min_le_right _ _) (Nat.le_trans (by assumption) (by decide)) | exact Nat.sub_pos_of_lt (by assumption) | exact Nat.lt_of_sub_pos (by assumption) | exact mn_pos (by assumption) | exact mn_lt (by assumption) | exact mn_no (by assumption) | exact sb_no (by assumption) | exact nm1 | exact sub1 (by assumption) | exact cp1 (by assumption) | exact cpp (by assumption) | exact cpn (by assumption) | exact cpa (by assumption) | exact sz1 (by assumption) | exact sz2 (by assumption) | exact sz3 (by assumption) | exact sz5 (by assumption) (by decide) | exact na3 (by assumption) (by assumption) | exact na4 (by assumption) (by assumption) | exact na5 (by assumption) (by assumption) | exact fl1 (by assumption) (by decide) | lia | omega)
  k_with "zr" => ((repeat (with_reducible refine rm_deeper ?_)); exact rm_top (by assumption) (by decide))
  k_with "zu" => ((repeat (first | with_reducible refine um_deeper ?_ | with_reducible refine um_in1 ?_)); exact rm_top (by assumption) (by decide))
  k_with "zn" => (refine neN ?_; (try dsimp only); first | exact Nat.ne_of_lt (Nat.add_lt_add_left (by decide) _) | exact Nat.ne_of_gt (Nat.add_lt_add_left (by decide) _) | (refine Nat.ne_of_lt ?_; (try refine lt154 ?_); (repeat (first | assumption | exact ltA (by assumption) (by decide) | refine Nat.lt_trans (by assumption) ?_ | refine Nat.lt_trans (ltA (by assumption) (by decide)) ?_)); done) | (refine Nat.ne_of_gt ?_; (try refine lt154 ?_); (repeat (first | assumption | exact ltA (by assumption) (by decide) | refine Nat.lt_trans (by assumption) ?_ | refine Nat.lt_trans (ltA (by assumption) (by decide)) ?_)); done) | (first | lia | omega))
  k_with "k_enter" => (refine ks_code_super (by k_asm) (by k_asm) (by k_asm) (by k_asm) (by k_asm) (by exact rfl) (by exact rfl) (by exact rfl) (by k_is) (by k_is) (by k_room) (by first | exact BindsTo.of_eq rfl | exact binds_K (by k_in) rfl (by k_is) rfl rfl rfl) (by exact locs rfl) ?_ (by decide) (by exact rfl) (by exact rfl) (by exact rfl); intro g' L' h' FG' F' N' B' X' T' l1; (try k_lt l1); (try dsimp only); (try k_lift B'))
  k_with "k_inst" => (refine Mine.instL (by k_asm) (by k_mem) (by k_mem))
  k_with "call ref" => (k_here; k_dflt (refine Mine.acc_make (by k_asm) (by k_asm) (by k_asm) (by k_is) (by rfl) (by rfl) (by rfl) (by k_is) (by k_is) (by k_is) (by k_is) (by (unfold argsOk; kernel_rfl)) ?_; k_whole; intro x' d' h' F' N' l1 l2; (try k_lt l1); (try k_lt2 l2); (try k_sweep); (first | k_enter | ks_enter)))
  k_with "setAttr ref" => (k_here; k_dflt (refine Mine.acc_set (by k_asm) (by k_asm) (by k_asm) (by k_inst) (by exact rfl) (by k_is) (by k_is) (by rfl) (by rfl) (by k_is) (by k_get) (by k_put) (by k_upd) (by exact Nat.le_of_ble_eq_true rfl) ?_; k_whole; intro h' F' N'; (try k_sweep)))
  k_with "getMethod ref" => (k_here; k_dflt (refine Mine.acc_method (by k_asm) (by k_asm) (by k_inst) (by k_is) (by k_is) (by k_is) (by k_is) (by (first | rfl | decide +kernel)) (by k_get) ?_; k_whole))
  k_with "getMethod ref" => (k_here; k_dflt (first
  | (refine Mine.sup_method Mine.bound_pop (by k_asm) (by k_asm) (by k_asm) (by k_mem) (by k_inst) (by k_is) (by ks_is) (by k_is) (by decide) ?_; k_whole; intro q' h' F' N' l1; (try k_lt l1))
  | (refine Mine.sup_method Mine.bound_init (by k_asm) (by k_asm) (by k_asm) (by k_mem) (by k_inst) (by k_is) (by ks_is) (by k_is) (by decide) ?_; k_whole; intro q' h' F' N' l1; (try k_lt l1))
  | (refine Mine.sup_method Mine.bound_len (by k_asm) (by k_asm) (by k_asm) (by k_mem) (by k_inst) (by k_is) (by ks_is) (by k_is) (by decide) ?_; k_whole; intro q' h' F' N' l1; (try k_lt l1))))
  k_with "callWith ref" => (k_here; k_dflt (refine Mine.callWith_bm (by k_asm) (by k_mem) (by rfl) (by rfl) ?_; k_whole))
  k_with "call ref" => (k_here; k_dflt (first
  | (refine Mine.bm_pop (by k_asm) (by k_asm) (by k_asm) (by k_mem) (by k_inst) (by k_is) (by rfl) (by (first | rfl | decide +kernel)) (by k_upd) (by first | size_fits | (rw [sizeLine_eq]; (first | lia | omega))) ?_; k_whole; intro h' F' N'; (try k_sweep))
  | (refine Mine.bm_init (by k_asm) (by k_asm) (by k_mem) (by k_inst) (by k_upd) ?_; k_whole; intro h' F' N'; (try k_sweep))
  | (refine Mine.bm_len (by k_asm) (by k_mem) (by k_inst) ?_; k_whole)))
  k_with "call builtin:list.append" => (k_here; k_dflt (refine Mine.acc_append (by k_asm) (by k_asm) (by k_asm) (by k_inst) (by k_is) (by k_upd) (by first | size_fits | (rw [sizeLine_eq]; (first | lia | omega))) ?_; k_whole; intro h' F' N'; (try k_sweep)))
  k_with "wpAt" => ((try dsimp only); ks_step "execs cons"; refine ks_wpAt_execs_cons ?_)
  k_with "wpAt" => (k_dflt (ks_step "exec Expr"; refine ks_wpAt_Expr_any ?_))
  k_with "wpAt" => (k_dflt (ks_step "exec Return"; refine ks_wpAt_Return_some ?_))
  k_with "wpAt" => (k_dflt (ks_step "exec Assign"; first | refine ks_wpAt_Assign_Name ?_ | refine ks_wpAt_Assign_Attr ?_))
  k_with "wpAt" => (k_dflt (ks_step "exec If"; refine ks_wpAt_If ?_))
  k_with "wpAt" => (k_dflt (ks_step "eval BinOp"; refine ks_wpAt_BinOp2 ?_))
  k_with "wpAt" => (k_dflt (ks_step "eval Call"; refine ks_wpAt_MethodCall ?_))
  k_with "wpAt" => (k_dflt (ks_step "attributeBase Call"; k_here; (refine ks_node (by k_asm) (by k_asm) (by k_asm) (by k_asm) (by k_is) (by rfl) (by rfl) (by k_inst) (by k_is) (by rfl) (by first | rfl | decide +kernel) (by k_is) (by k_is) (by k_is) (by k_is) (by decide) (by rfl) (by rfl) (by rfl) (by rfl) (by decide +kernel) (by first | boot_by_name | rfl | kernel_rfl) ?_; intro so' h' F' N' l1; (try k_lt l1))))
  k_with "eval Name" => (k_here; (with_reducible show wpAny _ _ (PySem.eval _ (genEnv _ _ _ _ _ _)) _ _ _); k_dflt (refine Mine.gname_L (by k_asm) (by assumption) ?_; k_whole))
  k_with "eval Name" => (k_here; (with_reducible show wpAny _ _ (PySem.eval _ (genEnv _ _ _ _ _ _)) _ _ _); k_dflt (refine Mine.gname_B (by k_asm) (by k_asm) (by k_asm) (by k_is) (by boot_by_name) (by decide) ?_; k_whole))
  k_with "getAttr ref" => (k_here; k_dflt (refine Mine.acc_get (by k_asm) (by k_asm) (by k_inst) (by k_is) (by k_is) (by k_is) (by k_is) (by k_is) (by first | assumption | k_get) (by k_handed) ?_; k_whole))
  k_with "call builtin:len" => (k_here; (with_reducible show wpAny _ _ (call (Value.builtin "len") [Value.str _ _]) _ _ _); k_dflt (refine Mine.len_txt (by assumption) ?_; k_whole))
  k_with "eval Name" => (k_here; (with_reducible show wpAny _ _ (PySem.eval _ (genEnv _ _ _ _ _ _)) _ _ _); k_dflt (refine Mine.gname_K (by k_asm) (by k_asm) (by k_asm) (by k_is) ?_; k_whole))
  k_with "newTuple" => ((with_reducible rename Mine.GMark => hG9); k_here; k_dflt (refine Mine.newTuple_G (by k_asm) ?_ (by size_fits)); k_whole; intro F' N'; (try k_sweep))
  k_with "call ref" => (k_here; (with_reducible show wpAny _ _ (call (Value.ref 152) [Value.ref _]) _ _ _); k_dflt (refine Mine.acc_len_L (by k_asm) (by k_asm) (by k_asm) (by k_asm) (by rfl) (by ktr_room) (by ktr_units) (by ((try dsimp only); assumption)) (by k_mem) (by k_mem) (by k_get) (by k_mem) (by assumption) (by k_is) (by rfl) (by rfl) (by rfl) (by rfl) (by rfl) (by (first | (refine Mine.pairs_snoc (by assumption) (by k_asm) (by k_asm) (by k_mem)) | (refine Mine.PairsAt.keeps (by assumption) (fun T o _ e => Fr.keep (by k_asm) T o e)))) (by assumption) (by assumption) (by assumption) ?_); intro s9 t9 tp9 ht9 F' hN9 G9 os9 hb9; (have N' := hN9 _ (by k_upd)); clear hN9; (try k_sweep); (try (dsimp only [PySem.W.LenBack]; refine ⟨⟨by (first | lia | omega), by (first | lia | omega)⟩, ?_⟩)))
  k_with "subscriptTail" => (k_here; (with_reducible show wpAny _ _ (subscriptTail _ _ (Value.ref _) (Value.int _ _)) _ _ _); k_dflt (refine Mine.acc_pair (by k_asm) (by k_asm) (by k_inst) (by k_is) (by k_is) (by k_is) (by (first | (refine Mine.pairs_snoc (by assumption) (by k_asm) (by k_asm) (by k_mem)) | (refine Mine.PairsAt.keeps (by assumption) (fun T o _ e => Fr.keep (by k_asm) T o e)))) (by (first | lia | omega)) (by (first | lia | omega)) (by (first | (first | lia | omega) | (simp only [List.length_append, List.length_cons, List.length_nil]; (first | lia | omega)))) ?_ (by with_unfolding_all rfl) (by (intro _; with_unfolding_all rfl))); intro T9 p9 ta9 tb9 hp9 hT9; (try ((with_reducible rename Mine.AllW _ _ _ _ => w9); rcases Mine.pairW w9 hp9 with e9 | e9) <;> subst e9); (try dsimp only at hT9))
  k_with "subscriptTail" => (k_here; (with_reducible show wpAny _ _ (subscriptTail _ _ (Value.ref _) (Value.int _ _)) _ _ _); k_dflt (first | ((with_reducible show wpAny _ _ (subscriptTail _ _ (Value.ref _) (Value.int 0 _)) _ _ _); refine Mine.pair_fst (by assumption) ?_ (by with_unfolding_all rfl)) | ((with_reducible show wpAny _ _ (subscriptTail _ _ (Value.ref _) (Value.int 1 _)) _ _ _); refine Mine.pair_snd (by assumption) ?_ (by with_unfolding_all rfl))))
  k_with "subscriptTail" => (k_here; (with_reducible show wpAny _ _ (subscriptTail _ (PySem.Expr.Slice _ _ none _) (Value.ref _) (Value.ref _)) _ _ _); k_dflt (refine Mine.acc_slice_from (by k_asm) (by k_asm) (by k_asm) (by k_inst) (by k_is) (by k_is) (by k_is) (by (simp only [List.length_append, List.length_cons, List.length_nil]; (first | lia | omega))) (by (rw [sizeLine_eq]; simp only [List.length_append, List.length_cons, List.length_nil]; (first | lia | omega))) (by exact Mine.drop_snoc (by assumption)) ?_ (by with_unfolding_all rfl) (by (intro _; with_unfolding_all rfl))); intro D' h' F' N' l1 l2; (try k_lt l1); (try k_sweep))
  k_with "setItem ref" => (k_here; (with_reducible show wpAny _ _ (setItem (Value.ref _) (Value.ref _) (Value.ref _)) _ _ _); k_dflt (refine Mine.acc_set_slice_at (by k_asm) (by k_asm) (by k_asm) (by k_inst) (by k_is) (by k_is) (by k_is) (by kmk_part) (by exact rfl) (by first | exact Nat.zero_le _ | (simp only [List.length_append, List.length_cons, List.length_nil]; (first | lia | omega))) (by k_mem) (by (rw [sizeLine_eq]; simp only [List.length_append, List.length_cons, List.length_nil]; (first | lia | omega))) (by first | exact Mine.take_snoc (by assumption) | exact rfl) (by exact rfl) (by k_upd) ?_); intro h' F' N'; (try k_sweep))
  k_with "call ref" => (k_here; (with_reducible show wpAny _ _ (call (Value.ref 159) [Value.ref _]) _ _ _); k_dflt (refine Mine.acc_str_L (by k_asm) (by k_asm) (by k_asm) (by k_asm) (by rfl) (by ktr_room) (by ktr_units) (by ((try dsimp only); assumption)) (by k_mem) (by k_mem) (by k_mem) (by assumption) (by k_is) (by rfl) (by rfl) (by rfl) (by rfl) (by rfl) (by (first | (refine Mine.PairsAt.keeps (by assumption) (fun T o _ e => Fr.keep (by k_asm) T o e)) | (refine Mine.pairs_snoc (by assumption) (by k_asm) (by k_asm) (by k_mem)))) (by assumption) (by assumption) ?_); intro s9 t9 tp9 ht9 F' hN9 G9 os9; (have N' := hN9 _ (by k_upd)); clear hN9; (try k_sweep); (try (dsimp only [PySem.W.StrBack])))
  k_with "call builtin:list.append" => (k_here; k_dflt (refine Mine.append_KL (by k_asm) (by k_asm) (by k_upd) (by (rw [sizeLine_eq]; (first | lia | omega))) ?_; k_whole; intro h' F' N'; (try k_sweep)))
  k_with "call ref" => (k_here; (with_reducible show wpAny _ _ (call (Value.ref 129) _) _ _ _); k_dflt (refine Mine.acc_push_L (by k_asm) (by k_asm) (by k_asm) (by k_asm) (by k_mem) (by k_mem) (by rfl) (by ktr_room) (by ktr_units) (by assumption) (by assumption) ?_); intro D' h' tk' F' hN9 l1; (have N' := hN9 _ (by k_upd)); clear hN9; (try k_lt l1); (try k_sweep))
  k_with "call ref" => (k_here; (with_reducible show wpAny _ _ (call (Value.ref 182) _) _ _ _); k_dflt (refine Mine.acc_pcount_L (by k_asm) (by k_asm) (by k_asm) (by k_asm) (by k_asm) (by k_mem) (by k_mem) (by first | assumption | exact rfl) (by exact rfl) (by exact rfl) (by first | assumption | rfl) (by ktr_room) (by ktr_units) (by assumption) ?_); intro h' tk' t' F' N'; (try k_sweep))
  k_with "call ref" => (k_here; (with_reducible show wpAny _ _ (call (Value.ref 145) _) _ _ _); k_dflt (refine Mine.acc_pop_L (by k_asm) (by k_asm) (by k_asm) (by k_asm) (by k_asm) (by k_mem) (by k_mem) (by exact rfl) (by exact rfl) (by exact rfl) (by rfl) (by ktr_room) (by ktr_units) (by assumption) (by assumption) ?_); intro h' tk' F' hN9; (have N' := hN9 _ (by k_upd)); clear hN9; (try k_sweep))
  k_with "call ref" => (k_here; (with_reducible show wpAny _ _ (call (Value.ref 137) _) _ _ _); k_dflt (refine Mine.acc_popfrom_L (by k_asm) (by k_asm) (by k_asm) (by k_asm) (by k_mem) (by k_mem) (by rfl) (by ktr_room) (by ktr_units) (by assumption) (by assumption) (by assumption) ?_); intro R' h' tk' n' F' hN9 l1; (have N' := hN9 _ (by k_upd)); clear hN9; (try k_lt l1); (try k_sweep))
  k_with "call ref" => (k_here; (with_reducible show wpAny _ _ (call (Value.ref 167) _) _ _ _); k_dflt (refine Mine.acc_reset0_L (by k_asm) (by k_asm) (by k_asm) (by k_asm) (by k_mem) (by k_mem) (by rfl) (by ktr_room) (by ktr_units) (by assumption) (by first | assumption | (first | lia | omega) | (simp only [List.length_append, List.length_cons, List.length_nil]; (first | lia | omega))) ?_); intro h' tk' u' n' F' hN9; (have N' := hN9 _ _ (by k_upd) (by k_upd)); clear hN9; (try k_sweep))
  k_with "call ref" => (k_here; (with_reducible show wpAny _ _ (call (Value.ref 167) _) _ _ _); k_dflt (refine Mine.acc_reset1_L (by k_asm) (by k_asm) (by k_asm) (by k_asm) (by k_mem) (by k_mem) (by k_mem) (by rfl) (by ktr_room) (by ktr_units) (by assumption) (by first | assumption | (first | lia | omega) | (simp only [List.length_append, List.length_cons, List.length_nil]; (first | lia | omega))) (by exact Nat.le_of_ble_eq_true rfl) (by (first | lia | omega)) ?_); intro h' tk' u' n' F' hN9; (have N' := hN9 _ _ (by k_upd) (by k_upd)); clear hN9; (try k_sweep))
  k_with "call ref" => (k_here; (with_reducible show wpAny _ _ (call (Value.ref 174) _) _ _ _); k_dflt (refine Mine.acc_onlyws_L (by k_asm) (by k_asm) (by k_asm) (by k_asm) (by k_mem) (by k_mem) (by k_mem) (by k_mem) (by rfl) (by ktr_room) (by ktr_units) (by assumption) (by first | assumption | (first | lia | omega)) (by assumption) (by assumption) (by assumption) (by (first | (refine Mine.pairs_snoc (by assumption) (by k_asm) (by k_asm) (by k_mem)) | (refine Mine.PairsAt.keeps (by assumption) (fun T o _ e => Fr.keep (by k_asm) T o e)) | (refine Mine.pairs_snoc_r (by k_asm) (by k_asm) (by k_mem) (by (first | exact Mine.pairs_fr (by assumption) (by assumption) | exact Mine.pairs_fr (by assumption) (Mine.pairs_fr (by assumption) (by assumption))))) | (refine Mine.pairs_fr (by k_asm) (by (first | exact Mine.pairs_fr (by assumption) (by assumption) | exact Mine.pairs_fr (by assumption) (Mine.pairs_fr (by assumption) (by assumption))))))) (by assumption) (by assumption) (by assumption) (by assumption) (by assumption) ?_); intro s9 tp9 tp8 ht9 ht8 F' hN9 G9 os9; (have N' := hN9 _ _ (by k_upd) (by k_upd)); clear hN9; (try k_sweep))
  trivial

noncomputable def chFd (P : Params) : FuncData := match (hd.heap_1 P).lookup 98 with
  | some ⟨_, _, .func fd, _⟩ => fd
  | _ => default
noncomputable def chFor (P : Params) : Stmt := match (chFd P).body with
  | .stmts [_, .If _ (f :: _) _ _] => f
  | _ => .Pass ⟨0, 0, 0, 0⟩
noncomputable def chScope (P : Params) : Scope := (chFd P).scope
noncomputable abbrev chEnv (P : Params) (L : Addr) (cd : Value) : Env := envOf (Str.ofString "_ValueFormatter._append_chunk") (chScope P) L 98 cd
theorem fr3 {h₀ h : Heap} {L : Addr} {m : Str → Option Value} {a b c : Str} {va vb vc : Value} (F : Fr h₀ L h m) (ha : m a = some va) (hb : m b = some vb) (hc : m c = some vc) : Fr h₀ L h (fun y => if y = a then some va else if y = b then some vb else if y = c then some vc else m y) := by
  have e : (fun y => if y = a then some va else if y = b then some vb else if y = c then some vc else m y) = m := by
    funext y
    split
    · rename_i q; rw [q, ha]
    · split
      · rename_i q; rw [q, hb]
      · split
        · rename_i q; rw [q, hc]
        · rfl
  rw [e]; exact F
/-- the search for the place of the cut, where the row holds ps and then this pair -/
def LoopOk (w : World) (ps : List (Str × Str)) (fw st : Str) : Prop :=
  ∀ {A A₀ : Around} {E : Value → Shared → Prop} {s : Shared} {base g : Heap} {outer : List Env} {L' : Addr} {cd : Value} {m mg mb : Str → Option Value} {p : Program} {loose : List Str} {mean : ExcName → Option Value} {NW : List (Addr × Obj)}
    {z : FT} {mx i0 : Int} {am ad al ac acd : Addr} {xs : List Value} {T : Addr} {n nt : Nat} {t1 t2 t3 t4 : Tok},
    PassesOwn (model PySem.Challenge.rw_xl0020_01.row.prog w) A (chEnv w.params L' cd) E → Below A₀ base outer g → A.frames = some (chEnv w.params L' cd :: outer) → A.handled = none → A.depth + 6 < recursionLimit → A.units + 50 < cLine →
    Fr g L' s.heap (fun y => if y = Str.ofString "self" then some (.ref am) else if y = Str.ofString "fws" then some (.str fw t1) else if y = Str.ofString "string" then some (.str st t2) else m y) → (hd.heap_1 w.params).In g → Top p loose mean mg mb g → News g L' s.heap NW →
    (am, instObj 101 ad) ∈ NW → (ad, dictOf [⟨z.k1, .str (Str.ofString "_maxlen") z.t1, .int mx z.u1⟩, ⟨z.k2, .str (Str.ofString "_continuation_ws") z.t2, .str (Str.ofString " ") z.u2⟩, ⟨z.k3, .str (Str.ofString "_continuation_ws_len") z.t3, .int 1 z.u3⟩,
      ⟨z.k4, .str (Str.ofString "_splitchars") z.t4, .str (Str.ofString "; ") z.u4⟩, ⟨z.k5, .str (Str.ofString "_lines") z.t5, .ref al⟩, ⟨z.k6, .str (Str.ofString "_current_line") z.t6, .ref ac⟩] 6) ∈ NW →
    (ac, accObj 185 acd (xs ++ [.ref T]) n) ∈ NW → (acd, acdO z.k7 z.t7 i0 z.u7) ∈ NW → @LT.lt Nat _ acd ac → xs.length ≤ 1000 → (T, ({ cls := .type "tuple", data := .seq [.str fw t3, .str st t4].toArray nt } : Obj)) ∈ NW → PairsAt g xs ps →
    wpAny (model PySem.Challenge.rw_xl0020_01.row.prog w) A (exec (chFor w.params) (chEnv w.params L' cd)) (fun f s' => f = .next ∧ Past g L' NW s.gens s.os am fw st ps.length s') E s

theorem loop2 (w : World) {ps : List (Str × Str)} {st : Str} (hne : 0 < ps.length) (hw : AllW (ps ++ [(Str.ofString " ", st)]) (Str.ofString " ") (Str.ofString "X") (Str.ofString "x")) : LoopOk w ps (Str.ofString " ") st := by
  intro A A₀ E s base g outer L' cd m mg mb p loose mean NW z mx i0 am ad al ac acd xs T n nt t1 t2 t3 t4 hE B1 hA hh hd1 hu F9 X₀ T1 N9 ham had hac hacd o5 hxs hTm PA
  revert X₀; k_fill; intro X₀
  have hlen := PA.length
  unfold chEnv chFor at *
  conv in (occs := *) chScope _ => all_goals whnf
  conv at hE in (occs := *) chScope _ => all_goals whnf
  conv at hA in (occs := *) chScope _ => all_goals whnf
  conv in chFd _ => all_goals whnf
  dsimp only

  refine For_G g ?_
  k_steps
  refine' jloop_str [Str.ofString "ch", Str.ofString "i", Str.ofString "prevpart"] 1 (hE := hE) (hh := hh) (hasc := by decide +kernel) (hx := rfl) (hp := rfl) (hL := rfl) (F := by k_asm) (N := by k_asm) (step := ?step) (fin := ?fin)
  case fin =>
    intro m' s' F' N' hJ
    exact absurd hJ.1 (by decide)
  case step =>
    clear F9 N9
    intro I i ch u m₁ s₁ o hi hi1 hch hap F9 N9 hG1 hos1
    have hI : i = 0 ∨ i = 1 := by (first | lia | omega)
    rcases hI with rfl | rfl
    · have e : ch = 59 := by
        have : (Str.ofString "; ").cps[0]? = some 59 := by decide +kernel
        rw [this] at hch; exact (Option.some.inj hch).symm
      subst e
      k_steps
      refine For_G g ?_
      k_steps
      have ea : ∀ v : Value, (((xs ++ [v]).length : Nat) : Int) - 1 = (xs.length : Int) := by intro v; simp
      rw [ea] at *
      rename News g L' _ _ => N9
      rename Fr g L' _ _ => F9
      refine' jloop_range [Str.ofString "i", Str.ofString "prevpart"] xs.length (n := xs.length) (hE := hE) (hh := hh) (hr := by assumption) (hsmall := rangeSmall_down _ hxs) (hn := rangeSize_down _) (hx := rfl) (hp := rfl) (hL := rfl) (F := by k_asm) (N := by k_asm) (step := ?step) (fin := ?fin)
      case fin =>
        clear F9 N9
        intro m2 s2 F9 N9 hJ2
        k_steps
        refine' turn_cont (F := F9) (N := N9) ?s1 hap (by decide) ?m1 (hJ2.2.2.2.1.trans hG1) (hJ2.2.2.2.2.trans hos1)
        (case s1 => (intro q hq; repeat (first | exact hq | refine List.mem_cons_of_mem _ ?_)))
        (case m1 => (intro y hy; (simp only [List.contains_cons, List.contains_nil, Bool.or_false, Bool.or_eq_false_iff, beq_eq_false_iff_ne, ne_eq] at hy); (simp only [List.contains_cons, List.contains_nil, Bool.or_false, Bool.or_eq_true, beq_iff_eq, hy, or_self, if_false])))
      case step =>
        clear F9 N9
        intro I2 i2 tk2 m2 s2 o2 hi2 hk2 hap2 F9 N9 hG2 hos2
        k_steps
        all_goals (refine' turn_next (F := by k_asm) (N := by k_asm) ?s1 hap2 (by (first | lia | omega)) ?m1 hG2 hos2; (case s1 => (intro q hq; repeat (first | exact hq | refine List.mem_cons_of_mem _ ?_))); (case m1 => (intro y hy; (simp only [List.contains_cons, List.contains_nil, Bool.or_false, Bool.or_eq_false_iff, beq_eq_false_iff_ne, ne_eq] at hy); (simp only [List.contains_cons, List.contains_nil, Bool.or_false, Bool.or_eq_true, beq_iff_eq, hy, or_self, if_false]))))
    · have e : ch = 32 := by
        have : (Str.ofString "; ").cps[1]? = some 32 := by decide +kernel
        rw [this] at hch; exact (Option.some.inj hch).symm
      subst e
      k_steps
      refine For_G g ?_
      k_steps
      have ea : ∀ v : Value, (((xs ++ [v]).length : Nat) : Int) - 1 = (xs.length : Int) := by intro v; simp
      rw [ea] at *
      rename News g L' _ _ => N9
      rename Fr g L' _ _ => F9
      refine' jloop_range [Str.ofString "i", Str.ofString "prevpart"] 0 (n := xs.length) (hE := hE) (hh := hh) (hr := by assumption) (hsmall := rangeSmall_down _ hxs) (hn := rangeSize_down _) (hx := rfl) (hp := rfl) (hL := rfl) (F := by k_asm) (N := by k_asm) (step := ?step) (fin := ?fin)
      case fin =>
        intro m2 s2 F9 N9 hJ2
        have := hJ2.1
        have := PA.length
        (first | lia | omega)
      case step =>
        clear F9 N9
        intro I2 i2 tk2 m2 s2 o2 hi2 hk2 hap2 F9 N9 hG2 hos2
        have hi20 : i2 = 0 := by (first | lia | omega)
        subst hi20
        k_steps
        all_goals ((try dsimp only [TurnG]); k_steps)
        all_goals ((try dsimp only [TurnG]))
        all_goals (refine ⟨by trivial, ?_⟩; refine' past_intro (F := by k_asm) (N := by k_asm) (hs := ?s1) (h1 := rfl) (h2 := rfl) (hpi := ?pi) (h3 := rfl) (h4 := rfl) (hg := hG2.trans hG1) (hos := hos2.trans hos1); (case s1 => (intro q hq; repeat (first | exact hq | refine List.mem_cons_of_mem _ ?_))); (case pi => (have := PA.length; (first | lia | omega))))

theorem loop3 (w : World) {ps : List (Str × Str)} {st : Str} (hne : 0 < ps.length) (hw : AllW (ps ++ [(Str.ofString "", st)]) (Str.ofString "") (Str.ofString "X;") (Str.ofString "x;")) : LoopOk w ps (Str.ofString "") st := by
  intro A A₀ E s base g outer L' cd m mg mb p loose mean NW z mx i0 am ad al ac acd xs T n nt t1 t2 t3 t4 hE B1 hA hh hd1 hu F9 X₀ T1 N9 ham had hac hacd o5 hxs hTm PA
  revert X₀; k_fill; intro X₀
  have hlen := PA.length
  unfold chEnv chFor at *
  conv in (occs := *) chScope _ => all_goals whnf
  conv at hE in (occs := *) chScope _ => all_goals whnf
  conv at hA in (occs := *) chScope _ => all_goals whnf
  conv in chFd _ => all_goals whnf
  dsimp only

  refine For_G g ?_
  k_steps
  refine' jloop_str [Str.ofString "ch", Str.ofString "i", Str.ofString "prevpart"] 0 (hE := hE) (hh := hh) (hasc := by decide +kernel) (hx := rfl) (hp := rfl) (hL := rfl) (F := by k_asm) (N := by k_asm) (step := ?step) (fin := ?fin)
  case fin =>
    intro m' s' F' N' hJ
    exact absurd hJ.1 (by decide)
  case step =>
    clear F9 N9
    intro I i ch u m₁ s₁ o hi hi1 hch hap F9 N9 hG1 hos1
    have hI : i = 0 := by (first | lia | omega)
    subst hI
    have e : ch = 59 := by
      have : (Str.ofString "; ").cps[0]? = some 59 := by decide +kernel
      rw [this] at hch; exact (Option.some.inj hch).symm
    subst e
    k_steps
    refine For_G g ?_
    k_steps
    have ea : ∀ v : Value, (((xs ++ [v]).length : Nat) : Int) - 1 = (xs.length : Int) := by intro v; simp
    rw [ea] at *
    rename News g L' _ _ => N9
    rename Fr g L' _ _ => F9
    refine' jloop_range [Str.ofString "i", Str.ofString "prevpart"] 0 (n := xs.length) (hE := hE) (hh := hh) (hr := by assumption) (hsmall := rangeSmall_down _ hxs) (hn := rangeSize_down _) (hx := rfl) (hp := rfl) (hL := rfl) (F := by k_asm) (N := by k_asm) (step := ?step) (fin := ?fin)
    case fin =>
      intro m2 s2 F9 N9 hJ2
      have := hJ2.1
      have := PA.length
      (first | lia | omega)
    case step =>
      clear F9 N9
      intro I2 i2 tk2 m2 s2 o2 hi2 hk2 hap2 F9 N9 hG2 hos2
      have hi20 : i2 = 0 := by (first | lia | omega)
      subst hi20
      k_steps
      all_goals ((try dsimp only [TurnG]); k_steps)
      all_goals ((try dsimp only [TurnG]))
      all_goals (refine ⟨by trivial, ?_⟩; refine' past_intro (F := by k_asm) (N := by k_asm) (hs := ?s1) (h1 := rfl) (h2 := rfl) (hpi := ?pi) (h3 := rfl) (h4 := rfl) (hg := hG2.trans hG1) (hos := hos2.trans hos1); (case s1 => (intro q hq; repeat (first | exact hq | refine List.mem_cons_of_mem _ ?_))); (case pi => (have := PA.length; (first | lia | omega))))
end

section
open PySem PySem.W PyProof.Rows PySem.Calls PySem.Spec
set_option maxRecDepth 100000
set_option maxHeartbeats 4000000
open Builtin Builtin.ObjectAttr Builtin.List
theorem reg_MKC_0 : True := by
  k_with_none
  k_with "zz" => (first | assumption | exact Nat.le_trans (by assumption) (by decide) | exact Nat.lt_of_le_of_lt (by assumption) (by decide) | exact Nat.le_trans (Nat.sub_le _ _) (Nat.le_trans (by assumption) (by decide)) | exact Nat.le_trans (Nat.min_le_right _ _) (Nat.le_trans (by assumption) (by decide)) | exact Nat.sub_pos_of_lt (by assumption) | exact Nat.lt_of_sub_pos (by assumption) | exact mn_pos (by assumption) | exact mn_lt (by assumption) | exact mn_no (by assumption) | exact sb_no (by assumption) | exact nm1 | exact sub1 (by assumption) | exact cp1 (by assumption) | exact cpp (by assumption) | exact cpn (by assumption) | exact cpa (by assumption) | exact sz1 (by assumption) | exact sz2 (by assumption) | exact sz3 (by assumption) | exact sz5 (by assumption) (by decide) | exact na3 (by assumption) (by assumption) | exact na4 (by assumption) (by assumption) | exact na5 (by assumption) (by assumption) | exact fl1 (by assumption) (by decide) | lia | omega)
  k_with "zr" => ((repeat (with_reducible refine rm_deeper ?_)); exact rm_top (by assumption) (by decide))
  k_with "zu" => ((repeat (first | with_reducible refine um_deeper ?_ | with_reducible refine um_in1 ?_)); exact rm_top (by assumption) (by decide))
  k_with "zn" => (refine neN ?_; (try dsimp only); first | exact Nat.ne_of_lt (Nat.add_lt_add_left (by decide) _) | exact Nat.ne_of_gt (Nat.add_lt_add_left (by decide) _) | (refine Nat.ne_of_lt ?_; (try refine lt154 ?_); (repeat (first | assumption | exact ltA (by assumption) (by decide) | refine Nat.lt_trans (by assumption) ?_ | refine Nat.lt_trans (ltA (by assumption) (by decide)) ?_)); done) | (refine Nat.ne_of_gt ?_; (try refine lt154 ?_); (repeat (first | assumption | exact ltA (by assumption) (by decide) | refine Nat.lt_trans (by assumption) ?_ | refine Nat.lt_trans (ltA (by assumption) (by decide)) ?_)); done) | (first | lia | omega))
  k_with "k_enter" => (refine ks_code_super (by k_asm) (by k_asm) (by k_asm) (by k_asm) (by k_asm) (by exact rfl) (by exact rfl) (by exact rfl) (by k_is) (by k_is) (by k_room) (by first | exact BindsTo.of_eq rfl | exact binds_K (by k_in) rfl (by k_is) rfl rfl rfl) (by exact locs rfl) ?_ (by decide) (by exact rfl) (by exact rfl) (by exact rfl); intro g' L' h' FG' F' N' B' X' T' l1; (try k_lt l1); (try dsimp only); (try k_lift B'))
  k_with "k_inst" => (refine Mine.instL (by k_asm) (by k_mem) (by k_mem))
  k_with "call ref" => (k_here; k_dflt (refine Mine.acc_make (by k_asm) (by k_asm) (by k_asm) (by k_is) (by rfl) (by rfl) (by rfl) (by k_is) (by k_is) (by k_is) (by k_is) (by (unfold argsOk; kernel_rfl)) ?_; k_whole; intro x' d' h' F' N' l1 l2; (try k_lt l1); (try k_lt2 l2); (try k_sweep); (first | k_enter | ks_enter)))
  k_with "setAttr ref" => (k_here; k_dflt (refine Mine.acc_set (by k_asm) (by k_asm) (by k_asm) (by k_inst) (by exact rfl) (by k_is) (by k_is) (by rfl) (by rfl) (by k_is) (by k_get) (by k_put) (by k_upd) (by exact Nat.le_of_ble_eq_true rfl) ?_; k_whole; intro h' F' N'; (try k_sweep)))
  k_with "getMethod ref" => (k_here; k_dflt (refine Mine.acc_method (by k_asm) (by k_asm) (by k_inst) (by k_is) (by k_is) (by k_is) (by k_is) (by (first | rfl | decide +kernel)) (by k_get) ?_; k_whole))
  k_with "getMethod ref" => (k_here; k_dflt (first
  | (refine Mine.sup_method Mine.bound_pop (by k_asm) (by k_asm) (by k_asm) (by k_mem) (by k_inst) (by k_is) (by ks_is) (by k_is) (by decide) ?_; k_whole; intro q' h' F' N' l1; (try k_lt l1))
  | (refine Mine.sup_method Mine.bound_init (by k_asm) (by k_asm) (by k_asm) (by k_mem) (by k_inst) (by k_is) (by ks_is) (by k_is) (by decide) ?_; k_whole; intro q' h' F' N' l1; (try k_lt l1))
  | (refine Mine.sup_method Mine.bound_len (by k_asm) (by k_asm) (by k_asm) (by k_mem) (by k_inst) (by k_is) (by ks_is) (by k_is) (by decide) ?_; k_whole; intro q' h' F' N' l1; (try k_lt l1))))
  k_with "callWith ref" => (k_here; k_dflt (refine Mine.callWith_bm (by k_asm) (by k_mem) (by rfl) (by rfl) ?_; k_whole))
  k_with "call ref" => (k_here; k_dflt (first
  | (refine Mine.bm_pop (by k_asm) (by k_asm) (by k_asm) (by k_mem) (by k_inst) (by k_is) (by rfl) (by (first | rfl | decide +kernel)) (by k_upd) (by first | size_fits | (rw [sizeLine_eq]; (first | lia | omega))) ?_; k_whole; intro h' F' N'; (try k_sweep))
  | (refine Mine.bm_init (by k_asm) (by k_asm) (by k_mem) (by k_inst) (by k_upd) ?_; k_whole; intro h' F' N'; (try k_sweep))
  | (refine Mine.bm_len (by k_asm) (by k_mem) (by k_inst) ?_; k_whole)))
  k_with "call builtin:list.append" => (k_here; k_dflt (refine Mine.acc_append (by k_asm) (by k_asm) (by k_asm) (by k_inst) (by k_is) (by k_upd) (by first | size_fits | (rw [sizeLine_eq]; (first | lia | omega))) ?_; k_whole; intro h' F' N'; (try k_sweep)))
  k_with "wpAt" => ((try dsimp only); ks_step "execs cons"; refine ks_wpAt_execs_cons ?_)
  k_with "wpAt" => (k_dflt (ks_step "exec Expr"; refine ks_wpAt_Expr_any ?_))
  k_with "wpAt" => (k_dflt (ks_step "exec Return"; refine ks_wpAt_Return_some ?_))
  k_with "wpAt" => (k_dflt (ks_step "exec Assign"; first | refine ks_wpAt_Assign_Name ?_ | refine ks_wpAt_Assign_Attr ?_))
  k_with "wpAt" => (k_dflt (ks_step "exec If"; refine ks_wpAt_If ?_))
  k_with "wpAt" => (k_dflt (ks_step "eval BinOp"; refine ks_wpAt_BinOp2 ?_))
  k_with "wpAt" => (k_dflt (ks_step "eval Call"; refine ks_wpAt_MethodCall ?_))
  k_with "wpAt" => (k_dflt (ks_step "attributeBase Call"; k_here; (refine ks_node (by k_asm) (by k_asm) (by k_asm) (by k_asm) (by k_is) (by rfl) (by rfl) (by k_inst) (by k_is) (by rfl) (by first | rfl | decide +kernel) (by k_is) (by k_is) (by k_is) (by k_is) (by decide) (by rfl) (by rfl) (by rfl) (by rfl) (by decide +kernel) (by first | boot_by_name | rfl | kernel_rfl) ?_; intro so' h' F' N' l1; (try k_lt l1))))
  k_with "eval Name" => (k_here; (with_reducible show wpAny _ _ (PySem.eval _ (genEnv _ _ _ _ _ _)) _ _ _); k_dflt (refine Mine.gname_L (by k_asm) (by assumption) ?_; k_whole))
  k_with "eval Name" => (k_here; (with_reducible show wpAny _ _ (PySem.eval _ (genEnv _ _ _ _ _ _)) _ _ _); k_dflt (refine Mine.gname_B (by k_asm) (by k_asm) (by k_asm) (by k_is) (by boot_by_name) (by decide) ?_; k_whole))
  k_with "getAttr ref" => (k_here; k_dflt (refine Mine.acc_get (by k_asm) (by k_asm) (by k_inst) (by k_is) (by k_is) (by k_is) (by k_is) (by k_is) (by first | assumption | k_get) (by k_handed) ?_; k_whole))
  k_with "call builtin:len" => (k_here; (with_reducible show wpAny _ _ (call (Value.builtin "len") [Value.str _ _]) _ _ _); k_dflt (refine Mine.len_txt (by assumption) ?_; k_whole))
  k_with "eval Name" => (k_here; (with_reducible show wpAny _ _ (PySem.eval _ (genEnv _ _ _ _ _ _)) _ _ _); k_dflt (refine Mine.gname_K (by k_asm) (by k_asm) (by k_asm) (by k_is) ?_; k_whole))
  k_with "newTuple" => ((with_reducible rename Mine.GMark => hG9); k_here; k_dflt (refine Mine.newTuple_G (by k_asm) ?_ (by size_fits)); k_whole; intro F' N'; (try k_sweep))
  k_with "call ref" => (k_here; (with_reducible show wpAny _ _ (call (Value.ref 152) [Value.ref _]) _ _ _); k_dflt (refine Mine.acc_len_L (by k_asm) (by k_asm) (by k_asm) (by k_asm) (by rfl) (by ktr_room) (by ktr_units) (by ((try dsimp only); assumption)) (by k_mem) (by k_mem) (by k_get) (by k_mem) (by assumption) (by k_is) (by rfl) (by rfl) (by rfl) (by rfl) (by rfl) (by (first | (refine Mine.pairs_snoc (by assumption) (by k_asm) (by k_asm) (by k_mem)) | (refine Mine.PairsAt.keeps (by assumption) (fun T o _ e => Fr.keep (by k_asm) T o e)))) (by assumption) (by assumption) (by assumption) ?_); intro s9 t9 tp9 ht9 F' hN9 G9 os9 hb9; (have N' := hN9 _ (by k_upd)); clear hN9; (try k_sweep); (try (dsimp only [PySem.W.LenBack]; refine ⟨⟨by (first | lia | omega), by (first | lia | omega)⟩, ?_⟩)))
  k_with "subscriptTail" => (k_here; (with_reducible show wpAny _ _ (subscriptTail _ _ (Value.ref _) (Value.int _ _)) _ _ _); k_dflt (refine Mine.acc_pair (by k_asm) (by k_asm) (by k_inst) (by k_is) (by k_is) (by k_is) (by (first | (refine Mine.pairs_snoc (by assumption) (by k_asm) (by k_asm) (by k_mem)) | (refine Mine.PairsAt.keeps (by assumption) (fun T o _ e => Fr.keep (by k_asm) T o e)))) (by (first | lia | omega)) (by (first | lia | omega)) (by (first | (first | lia | omega) | (simp only [List.length_append, List.length_cons, List.length_nil]; (first | lia | omega)))) ?_ (by with_unfolding_all rfl) (by (intro _; with_unfolding_all rfl))); intro T9 p9 ta9 tb9 hp9 hT9; (try ((with_reducible rename Mine.AllW _ _ _ _ => w9); rcases Mine.pairW w9 hp9 with e9 | e9) <;> subst e9); (try dsimp only at hT9))
  k_with "subscriptTail" => (k_here; (with_reducible show wpAny _ _ (subscriptTail _ _ (Value.ref _) (Value.int _ _)) _ _ _); k_dflt (first | ((with_reducible show wpAny _ _ (subscriptTail _ _ (Value.ref _) (Value.int 0 _)) _ _ _); refine Mine.pair_fst (by assumption) ?_ (by with_unfolding_all rfl)) | ((with_reducible show wpAny _ _ (subscriptTail _ _ (Value.ref _) (Value.int 1 _)) _ _ _); refine Mine.pair_snd (by assumption) ?_ (by with_unfolding_all rfl))))
  k_with "subscriptTail" => (k_here; (with_reducible show wpAny _ _ (subscriptTail _ (PySem.Expr.Slice _ _ none _) (Value.ref _) (Value.ref _)) _ _ _); k_dflt (refine Mine.acc_slice_from (by k_asm) (by k_asm) (by k_asm) (by k_inst) (by k_is) (by k_is) (by k_is) (by (simp only [List.length_append, List.length_cons, List.length_nil]; (first | lia | omega))) (by (rw [sizeLine_eq]; simp only [List.length_append, List.length_cons, List.length_nil]; (first | lia | omega))) (by exact Mine.drop_snoc (by assumption)) ?_ (by with_unfolding_all rfl) (by (intro _; with_unfolding_all rfl))); intro D' h' F' N' l1 l2; (try k_lt l1); (try k_sweep))
  k_with "setItem ref" => (k_here; (with_reducible show wpAny _ _ (setItem (Value.ref _) (Value.ref _) (Value.ref _)) _ _ _); k_dflt (refine Mine.acc_set_slice_at (by k_asm) (by k_asm) (by k_asm) (by k_inst) (by k_is) (by k_is) (by k_is) (by kmk_part) (by exact rfl) (by first | exact Nat.zero_le _ | (simp only [List.length_append, List.length_cons, List.length_nil]; (first | lia | omega))) (by k_mem) (by (rw [sizeLine_eq]; simp only [List.length_append, List.length_cons, List.length_nil]; (first | lia | omega))) (by first | exact Mine.take_snoc (by assumption) | exact rfl) (by exact rfl) (by k_upd) ?_); intro h' F' N'; (try k_sweep))
  k_with "call ref" => (k_here; (with_reducible show wpAny _ _ (call (Value.ref 159) [Value.ref _]) _ _ _); k_dflt (refine Mine.acc_str_L (by k_asm) (by k_asm) (by k_asm) (by k_asm) (by rfl) (by ktr_room) (by ktr_units) (by ((try dsimp only); assumption)) (by k_mem) (by k_mem) (by k_mem) (by assumption) (by k_is) (by rfl) (by rfl) (by rfl) (by rfl) (by rfl) (by (first | (refine Mine.PairsAt.keeps (by assumption) (fun T o _ e => Fr.keep (by k_asm) T o e)) | (refine Mine.pairs_snoc (by assumption) (by k_asm) (by k_asm) (by k_mem)))) (by assumption) (by assumption) ?_); intro s9 t9 tp9 ht9 F' hN9 G9 os9; (have N' := hN9 _ (by k_upd)); clear hN9; (try k_sweep); (try (dsimp only [PySem.W.StrBack])))
  k_with "call builtin:list.append" => (k_here; k_dflt (refine Mine.append_KL (by k_asm) (by k_asm) (by k_upd) (by (rw [sizeLine_eq]; (first | lia | omega))) ?_; k_whole; intro h' F' N'; (try k_sweep)))
  k_with "call ref" => (k_here; (with_reducible show wpAny _ _ (call (Value.ref 129) _) _ _ _); k_dflt (refine Mine.acc_push_L (by k_asm) (by k_asm) (by k_asm) (by k_asm) (by k_mem) (by k_mem) (by rfl) (by ktr_room) (by ktr_units) (by assumption) (by assumption) ?_); intro D' h' tk' F' hN9 l1; (have N' := hN9 _ (by k_upd)); clear hN9; (try k_lt l1); (try k_sweep))
  k_with "call ref" => (k_here; (with_reducible show wpAny _ _ (call (Value.ref 182) _) _ _ _); k_dflt (refine Mine.acc_pcount_L (by k_asm) (by k_asm) (by k_asm) (by k_asm) (by k_asm) (by k_mem) (by k_mem) (by exact rfl) (by exact rfl) (by exact rfl) (by rfl) (by ktr_room) (by ktr_units) (by assumption) ?_); intro h' tk' t' F' N'; (try k_sweep))
  k_with "call ref" => (k_here; (with_reducible show wpAny _ _ (call (Value.ref 145) _) _ _ _); k_dflt (refine Mine.acc_pop_L (by k_asm) (by k_asm) (by k_asm) (by k_asm) (by k_asm) (by k_mem) (by k_mem) (by exact rfl) (by exact rfl) (by exact rfl) (by rfl) (by ktr_room) (by ktr_units) (by assumption) (by assumption) ?_); intro h' tk' F' hN9; (have N' := hN9 _ (by k_upd)); clear hN9; (try k_sweep))
  k_with "call ref" => (k_here; (with_reducible show wpAny _ _ (call (Value.ref 137) _) _ _ _); k_dflt (refine Mine.acc_popfrom_L (by k_asm) (by k_asm) (by k_asm) (by k_asm) (by k_mem) (by k_mem) (by rfl) (by ktr_room) (by ktr_units) (by assumption) (by assumption) (by assumption) ?_); intro R' h' tk' n' F' hN9 l1; (have N' := hN9 _ (by k_upd)); clear hN9; (try k_lt l1); (try k_sweep))
  k_with "call ref" => (k_here; (with_reducible show wpAny _ _ (call (Value.ref 167) _) _ _ _); k_dflt (refine Mine.acc_reset0_L (by k_asm) (by k_asm) (by k_asm) (by k_asm) (by k_mem) (by k_mem) (by rfl) (by ktr_room) (by ktr_units) (by assumption) (by first | assumption | (first | lia | omega) | (simp only [List.length_append, List.length_cons, List.length_nil]; (first | lia | omega))) ?_); intro h' tk' u' n' F' hN9; (have N' := hN9 _ _ (by k_upd) (by k_upd)); clear hN9; (try k_sweep))
  k_with "call ref" => (k_here; (with_reducible show wpAny _ _ (call (Value.ref 167) _) _ _ _); k_dflt (refine Mine.acc_reset1_L (by k_asm) (by k_asm) (by k_asm) (by k_asm) (by k_mem) (by k_mem) (by k_mem) (by rfl) (by ktr_room) (by ktr_units) (by assumption) (by first | assumption | (first | lia | omega) | (simp only [List.length_append, List.length_cons, List.length_nil]; (first | lia | omega))) (by exact Nat.le_of_ble_eq_true rfl) (by (first | lia | omega)) ?_); intro h' tk' u' n' F' hN9; (have N' := hN9 _ _ (by k_upd) (by k_upd)); clear hN9; (try k_sweep))
  k_with "call ref" => (k_here; (with_reducible show wpAny _ _ (call (Value.ref 174) _) _ _ _); k_dflt (refine Mine.acc_onlyws_L (by k_asm) (by k_asm) (by k_asm) (by k_asm) (by k_mem) (by k_mem) (by k_mem) (by k_mem) (by rfl) (by ktr_room) (by ktr_units) (by assumption) (by first | assumption | (first | lia | omega)) (by assumption) (by assumption) (by assumption) (by (first | (refine Mine.pairs_snoc (by assumption) (by k_asm) (by k_asm) (by k_mem)) | (refine Mine.PairsAt.keeps (by assumption) (fun T o _ e => Fr.keep (by k_asm) T o e)) | (refine Mine.pairs_snoc_r (by k_asm) (by k_asm) (by k_mem) (by (first | exact Mine.pairs_fr (by assumption) (by assumption) | exact Mine.pairs_fr (by assumption) (Mine.pairs_fr (by assumption) (by assumption))))) | (refine Mine.pairs_fr (by k_asm) (by (first | exact Mine.pairs_fr (by assumption) (by assumption) | exact Mine.pairs_fr (by assumption) (Mine.pairs_fr (by assumption) (by assumption))))))) (by assumption) (by assumption) (by assumption) (by assumption) (by assumption) ?_); intro s9 tp9 tp8 ht9 ht8 F' hN9 G9 os9; (have N' := hN9 _ _ (by k_upd) (by k_upd)); clear hN9; (try k_sweep))
  trivial
theorem chunkS (w : World) {E Q : Value → Shared → Prop} {s : Shared} {A₀ : Around} {base h₀ : Heap} {outer : List Env} {L : Addr} {m mg mb : Str → Option Value} {p : Program} {loose : List Str} {mean : ExcName → Option Value}
    {dp un : Nat} {gd : Option (List Code)} {cn : Str} {nm : List (Str × NameKind)} {gg co : Bool} {more : List (Str × Const)} {a : Addr} {ccd : Value} {cl : List (Str × Addr)}
    {z : FT} {mx i0 : Int} {am ad al ac acd : Addr} {ls xs : List Value} {nl n : Nat} {tp1 tp2 : Array Value} {ps : List (Str × Str)} {fw st : Str} {tf ts : Tok}
    (B : Below A₀ base outer h₀) (F : Fr h₀ L s.heap m) (X₀ : (hd.heap_1 w.params).In h₀) (T : Top p loose mean mg mb h₀)
    (hd1 : dp + 12 < recursionLimit) (hu : un + 80 < cLine) (G : AllBare s.gens)
    (N : News h₀ L s.heap (fmtLed z mx i0 am ad al ac acd ls nl xs n tp1 tp2))
    (o1 : 154 < ad) (o2 : ad < am) (o3 : am < al) (o4 : al < acd) (o5 : acd < ac) (hxs : xs.length ≤ 1000) (ht1 : TriplesOk tp1.toList) (ht2 : TriplesOk tp2.toList) (PA : PairsAt s.heap xs ps) (hsm : ∀ q ∈ ps ++ [(fw, st)], q.1.length ≤ 1048576 ∧ q.2.length ≤ 1048576) (hi0 : 0 ≤ i0) (hfit : i0 + total (ps ++ [(fw, st)]) ≤ 1099511627776)
    (hcmp : mx < i0 + total (ps ++ [(fw, st)])) (hlo : LoopOk w ps fw st) (hW : ((ps.map fun q => q.1 ++ q.2).map (·.length)).sum + (ps.map fun q => q.1 ++ q.2).length ≤ 1048576)
    {lines : List Str} (hl : LinesAt ls lines) (hfr : ∀ T, .ref T ∈ xs → T ≠ L ∧ h₀.get? T = none) (hls : ls.length ≤ 1000)
    (hQ : ∀ s', (∀ b o, b ∉ [al, ac, acd, 147, 154] → s.heap.get? b = some o → s'.heap.get? b = some o) → MakerAt h₀ L s'.heap mx am ad al ac acd ⟨0, lines ++ [cat ps], [(fw, st)]⟩ → AllBare s'.gens → s'.os = s.os → Q .none s') :
    wpAny (model PySem.Challenge.rw_xl0020_01.row.prog w) (ktrTop dp un gd cn ⟨.function, nm, gg, co, more⟩ L a ccd cl outer) (call (.ref 98) [.ref am, .str fw tf, .str st ts]) Q E s := by
  revert X₀; k_fill; intro X₀
  dsimp only [fmtLed] at N
  refine wpAny_call ?_
  k_dflt (refine' enterL B F X₀ N T rfl rfl rfl ?k6 ?k7 ?k8 ?k9 ?kB ?_ ?c2 ?c3 ?c4 ?c5)
  (case k6 => k_is)
  (case k7 => k_is)
  (case k8 => show dp < recursionLimit; (first | lia | omega))
  (case k9 => exact BindsTo.of_eq rfl)
  (case kB => exact locs rfl)
  (case c2 => exact rfl)
  (case c3 => exact rfl)
  (case c4 => exact rfl)
  (case c5 => decide)
  intro g L' h₁ hk1 F1 N1 B1 X1 T1 hlt
  dsimp only
  replace PA := PA.hide N hk1 (by simp [X.tableObj])
  k_lt hlt
  replace o1 := ltN o1; replace o2 := ltN o2; replace o3 := ltN o3; replace o4 := ltN o4; replace o5 := ltN o5
  k_steps
  rename News g L' _ _ => N9
  rename Fr g L' _ _ => F9
  refine' wpAny_past N9 am fw st ps.length ?loop ?rest
  case rest =>
    clear F9 N9
    intro s' hp
    obtain ⟨m', tk, t1, t2, F9, N9, hG1, hos1⟩ := hp.out
    clear hp
    have hlen := PA.length
    have G3 : AllBare s'.gens := by rw [hG1]; assumption
    have hsm' : ∀ q ∈ ps, q.1.length ≤ 1048576 ∧ q.2.length ≤ 1048576 := fun q hq => hsm q (List.mem_append_left _ hq)
    k_steps
    refine' hQ _ (kept_of N hk1 (by k_asm) (by k_asm) _ (by (repeat (first | exact kin_nil | refine kin_in (by k_mem) ?_ | refine kin_ch (by k_mem) ?_)))) ?q1 ?q2 ?q3
    (case q1 =>
      refine' MakerAt.of (z := z) (by k_asm) ?h1 ?h2 ?h3 ?h4 ?h5 ?h6 ?h7 ?t1 ?t2 ?pa hl.snoc (List.pairwise_singleton _ _) ?ex ?ab ?fr
      (case h1 => k_mem)
      (case h2 => k_mem)
      (case h3 => k_mem)
      (case h4 => k_mem)
      (case h5 => k_mem)
      (case h6 => k_mem)
      (case h7 => k_mem)
      (case t1 => assumption)
      (case t2 => assumption)
      (case pa => refine' Mine.pairs_snoc (xs := []) (ps := []) ?p1 ?p2 ?p3 ?p4; (case p1 => trivial); (case p2 => k_asm); (case p3 => k_asm); (case p4 => k_mem))
      (case ex => (refine' exact_snoc exact_nil ?p1 ?p2 ?p3; (case p1 => k_asm); (case p2 => k_asm); (case p3 => k_mem)))
      (case ab => exact above_snoc above_nil (by (try dsimp only); (first | lia | omega)))
      (case fr => (refine' fresh_snoc (xs := []) (fun _ q => nomatch q) (fresh_new F N hk1 (by k_asm) (by k_asm) ?hm); (case hm => k_mem))))
    (case q2 => assumption)
    (case q3 => (simp only [*]))
  case loop =>
    k_dflt (refine' hlo (z := z) (mx := mx) (i0 := i0) (am := am) (ad := ad) (al := al) (ac := ac) (acd := acd) (xs := xs) (by passes_own) ?b1 rfl rfl ?hd ?hu ?f1 X1 ?t1 N9 ?m1 ?m2 ?m3 ?m4 o5 hxs ?m5 PA)
    case b1 => k_asm
    case hd => ktr_room
    case hu => ktr_units
    case f1 => exact fr3 F9 rfl rfl rfl
    case t1 => k_asm
    case m1 => k_mem
    case m2 => k_mem
    case m3 => k_mem
    case m4 => k_mem
    case m5 => k_mem
theorem chunk2 (w : World) {E Q : Value → Shared → Prop} {s : Shared} {A₀ : Around} {base h₀ : Heap} {outer : List Env} {L : Addr} {m mg mb : Str → Option Value} {p : Program} {loose : List Str} {mean : ExcName → Option Value}
    {dp un : Nat} {gd : Option (List Code)} {cn : Str} {nm : List (Str × NameKind)} {gg co : Bool} {more : List (Str × Const)} {a : Addr} {ccd : Value} {cl : List (Str × Addr)}
    {z : FT} {mx i0 : Int} {am ad al ac acd : Addr} {ls xs : List Value} {nl n : Nat} {tp1 tp2 : Array Value} {ps : List (Str × Str)} {fw st : Str} {tf ts : Tok}
    (B : Below A₀ base outer h₀) (F : Fr h₀ L s.heap m) (X₀ : (hd.heap_1 w.params).In h₀) (T : Top p loose mean mg mb h₀)
    (hd1 : dp + 12 < recursionLimit) (hu : un + 80 < cLine) (G : AllBare s.gens)
    (N : News h₀ L s.heap (fmtLed z mx i0 am ad al ac acd ls nl xs n tp1 tp2))
    (o1 : 154 < ad) (o2 : ad < am) (o3 : am < al) (o4 : al < acd) (o5 : acd < ac) (hxs : xs.length ≤ 1000) (ht1 : TriplesOk tp1.toList) (ht2 : TriplesOk tp2.toList) (PA : PairsAt s.heap xs ps) (hsm : ∀ q ∈ ps ++ [(fw, st)], q.1.length ≤ 1048576 ∧ q.2.length ≤ 1048576) (hi0 : 0 ≤ i0) (hfit : i0 + total (ps ++ [(fw, st)]) ≤ 1099511627776)
    (hcmp : mx < i0 + total (ps ++ [(fw, st)])) (hne : 0 < ps.length) (hw : AllW (ps ++ [(fw, st)]) (Str.ofString " ") (Str.ofString "X") (Str.ofString "x"))
    {lines : List Str} (hl : LinesAt ls lines) (hfr : ∀ T, .ref T ∈ xs → T ≠ L ∧ h₀.get? T = none) (hls : ls.length ≤ 1000)
    (hQ : ∀ s', (∀ b o, b ∉ [al, ac, acd, 147, 154] → s.heap.get? b = some o → s'.heap.get? b = some o) → MakerAt h₀ L s'.heap mx am ad al ac acd ⟨0, lines ++ [cat ps], [(fw, st)]⟩ → AllBare s'.gens → s'.os = s.os → Q .none s') :
    wpAny (model PySem.Challenge.rw_xl0020_01.row.prog w) (ktrTop dp un gd cn ⟨.function, nm, gg, co, more⟩ L a ccd cl outer) (call (.ref 98) [.ref am, .str fw tf, .str st ts]) Q E s := by
  have hfw : fw = Str.ofString " " := (hw.all (fw, st) (List.mem_append_right _ (.head _))).1
  subst hfw
  have hlen := PA.length
  exact chunkS w B F X₀ T hd1 hu G N o1 o2 o3 o4 o5 hxs ht1 ht2 PA hsm hi0 hfit hcmp (loop2 w hne hw) (hw.weight (by omega)) hl hfr hls hQ
theorem chunk3 (w : World) {E Q : Value → Shared → Prop} {s : Shared} {A₀ : Around} {base h₀ : Heap} {outer : List Env} {L : Addr} {m mg mb : Str → Option Value} {p : Program} {loose : List Str} {mean : ExcName → Option Value}
    {dp un : Nat} {gd : Option (List Code)} {cn : Str} {nm : List (Str × NameKind)} {gg co : Bool} {more : List (Str × Const)} {a : Addr} {ccd : Value} {cl : List (Str × Addr)}
    {z : FT} {mx i0 : Int} {am ad al ac acd : Addr} {ls xs : List Value} {nl n : Nat} {tp1 tp2 : Array Value} {ps : List (Str × Str)} {fw st : Str} {tf ts : Tok}
    (B : Below A₀ base outer h₀) (F : Fr h₀ L s.heap m) (X₀ : (hd.heap_1 w.params).In h₀) (T : Top p loose mean mg mb h₀)
    (hd1 : dp + 12 < recursionLimit) (hu : un + 80 < cLine) (G : AllBare s.gens)
    (N : News h₀ L s.heap (fmtLed z mx i0 am ad al ac acd ls nl xs n tp1 tp2))
    (o1 : 154 < ad) (o2 : ad < am) (o3 : am < al) (o4 : al < acd) (o5 : acd < ac) (hxs : xs.length ≤ 1000) (ht1 : TriplesOk tp1.toList) (ht2 : TriplesOk tp2.toList) (PA : PairsAt s.heap xs ps) (hsm : ∀ q ∈ ps ++ [(fw, st)], q.1.length ≤ 1048576 ∧ q.2.length ≤ 1048576) (hi0 : 0 ≤ i0) (hfit : i0 + total (ps ++ [(fw, st)]) ≤ 1099511627776)
    (hcmp : mx < i0 + total (ps ++ [(fw, st)])) (hne : 0 < ps.length) (hw : AllW (ps ++ [(fw, st)]) (Str.ofString "") (Str.ofString "X;") (Str.ofString "x;"))
    {lines : List Str} (hl : LinesAt ls lines) (hfr : ∀ T, .ref T ∈ xs → T ≠ L ∧ h₀.get? T = none) (hls : ls.length ≤ 1000)
    (hQ : ∀ s', (∀ b o, b ∉ [al, ac, acd, 147, 154] → s.heap.get? b = some o → s'.heap.get? b = some o) → MakerAt h₀ L s'.heap mx am ad al ac acd ⟨0, lines ++ [cat ps], [(fw, st)]⟩ → AllBare s'.gens → s'.os = s.os → Q .none s') :
    wpAny (model PySem.Challenge.rw_xl0020_01.row.prog w) (ktrTop dp un gd cn ⟨.function, nm, gg, co, more⟩ L a ccd cl outer) (call (.ref 98) [.ref am, .str fw tf, .str st ts]) Q E s := by
  have hfw : fw = Str.ofString "" := (hw.all (fw, st) (List.mem_append_right _ (.head _))).1
  subst hfw
  have hlen := PA.length
  exact chunkS w B F X₀ T hd1 hu G N o1 o2 o3 o4 o5 hxs ht1 ht2 PA hsm hi0 hfit hcmp (loop3 w hne hw) (hw.weight (by omega)) hl hfr hls hQ
end

section
open PySem PySem.W PyProof.Rows PySem.Calls PySem.Spec
set_option maxRecDepth 100000
set_option maxHeartbeats 4000000
open Builtin Builtin.ObjectAttr Builtin.List
theorem reg_STR_0 : True := by
  k_with_none
  k_with "zz" => (first | assumption | exact Nat.le_trans (by assumption) (by decide) | exact Nat.lt_of_le_of_lt (by assumption) (by decide) | exact Nat.le_trans (Nat.sub_le _ _) (Nat.le_trans (by assumption) (by decide)) | exact Nat.le_trans (Nat.min_le_right _ _) (Nat.le_trans (by assumption) (by decide)) | exact Nat.sub_pos_of_lt (by assumption) | exact Nat.lt_of_sub_pos (by assumption) | exact mn_pos (by assumption) | exact mn_lt (by assumption) | exact mn_no (by assumption) | exact sb_no (by assumption) | exact nm1 | exact sub1 (by assumption) | exact cp1 (by assumption) | exact cpp (by assumption) | exact cpn (by assumption) | exact cpa (by assumption) | exact sz1 (by assumption) | exact sz2 (by assumption) | exact sz3 (by assumption) | exact sz5 (by assumption) (by decide) | exact na3 (by assumption) (by assumption) | exact na4 (by assumption) (by assumption) | exact na5 (by assumption) (by assumption) | exact fl1 (by assumption) (by decide) | lia | omega)
  k_with "zr" => ((repeat (with_reducible refine rm_deeper ?_)); exact rm_top (by assumption) (by decide))
  k_with "zu" => ((repeat (first | with_reducible refine um_deeper ?_ | with_reducible refine um_in1 ?_)); exact rm_top (by assumption) (by decide))
  k_with "zn" => (refine neN ?_; (try dsimp only); first | exact Nat.ne_of_lt (Nat.add_lt_add_left (by decide) _) | exact Nat.ne_of_gt (Nat.add_lt_add_left (by decide) _) | (refine Nat.ne_of_lt ?_; (try refine lt154 ?_); (repeat (first | assumption | exact ltA (by assumption) (by decide) | refine Nat.lt_trans (by assumption) ?_ | refine Nat.lt_trans (ltA (by assumption) (by decide)) ?_)); done) | (refine Nat.ne_of_gt ?_; (try refine lt154 ?_); (repeat (first | assumption | exact ltA (by assumption) (by decide) | refine Nat.lt_trans (by assumption) ?_ | refine Nat.lt_trans (ltA (by assumption) (by decide)) ?_)); done) | (first | lia | omega))
  k_with "k_enter" => (refine ks_code_super (by k_asm) (by k_asm) (by k_asm) (by k_asm) (by k_asm) (by exact rfl) (by exact rfl) (by exact rfl) (by k_is) (by k_is) (by k_room) (by first | exact BindsTo.of_eq rfl | exact binds_K (by k_in) rfl (by k_is) rfl rfl rfl) (by exact locs rfl) ?_ (by decide) (by exact rfl) (by exact rfl) (by exact rfl); intro g' L' h' FG' F' N' B' X' T' l1; (try k_lt l1); (try dsimp only); (try k_lift B'))
  k_with "k_inst" => (refine Mine.instL (by k_asm) (by k_mem) (by k_mem))
  k_with "call ref" => (k_here; k_dflt (refine Mine.acc_make (by k_asm) (by k_asm) (by k_asm) (by k_is) (by rfl) (by rfl) (by rfl) (by k_is) (by k_is) (by k_is) (by k_is) (by (unfold argsOk; kernel_rfl)) ?_; k_whole; intro x' d' h' F' N' l1 l2; (try k_lt l1); (try k_lt2 l2); (try k_sweep); (first | k_enter | ks_enter)))
  k_with "setAttr ref" => (k_here; k_dflt (refine Mine.acc_set (by k_asm) (by k_asm) (by k_asm) (by k_inst) (by exact rfl) (by k_is) (by k_is) (by rfl) (by rfl) (by k_is) (by k_get) (by k_put) (by k_upd) (by exact Nat.le_of_ble_eq_true rfl) ?_; k_whole; intro h' F' N'; (try k_sweep)))
  k_with "getMethod ref" => (k_here; k_dflt (refine Mine.acc_method (by k_asm) (by k_asm) (by k_inst) (by k_is) (by k_is) (by k_is) (by k_is) (by (first | rfl | decide +kernel)) (by k_get) ?_; k_whole))
  k_with "getMethod ref" => (k_here; k_dflt (first
  | (refine Mine.sup_method Mine.bound_pop (by k_asm) (by k_asm) (by k_asm) (by k_mem) (by k_inst) (by k_is) (by ks_is) (by k_is) (by decide) ?_; k_whole; intro q' h' F' N' l1; (try k_lt l1))
  | (refine Mine.sup_method Mine.bound_init (by k_asm) (by k_asm) (by k_asm) (by k_mem) (by k_inst) (by k_is) (by ks_is) (by k_is) (by decide) ?_; k_whole; intro q' h' F' N' l1; (try k_lt l1))
  | (refine Mine.sup_method Mine.bound_len (by k_asm) (by k_asm) (by k_asm) (by k_mem) (by k_inst) (by k_is) (by ks_is) (by k_is) (by decide) ?_; k_whole; intro q' h' F' N' l1; (try k_lt l1))))
  k_with "callWith ref" => (k_here; k_dflt (refine Mine.callWith_bm (by k_asm) (by k_mem) (by rfl) (by rfl) ?_; k_whole))
  k_with "call ref" => (k_here; k_dflt (first
  | (refine Mine.bm_pop (by k_asm) (by k_asm) (by k_asm) (by k_mem) (by k_inst) (by k_is) (by rfl) (by (first | rfl | decide +kernel)) (by k_upd) (by first | size_fits | (rw [sizeLine_eq]; (first | lia | omega))) ?_; k_whole; intro h' F' N'; (try k_sweep))
  | (refine Mine.bm_init (by k_asm) (by k_asm) (by k_mem) (by k_inst) (by k_upd) ?_; k_whole; intro h' F' N'; (try k_sweep))
  | (refine Mine.bm_len (by k_asm) (by k_mem) (by k_inst) ?_; k_whole)))
  k_with "call builtin:list.append" => (k_here; k_dflt (refine Mine.acc_append (by k_asm) (by k_asm) (by k_asm) (by k_inst) (by k_is) (by k_upd) (by first | size_fits | (rw [sizeLine_eq]; (first | lia | omega))) ?_; k_whole; intro h' F' N'; (try k_sweep)))
  k_with "wpAt" => ((try dsimp only); ks_step "execs cons"; refine ks_wpAt_execs_cons ?_)
  k_with "wpAt" => (k_dflt (ks_step "exec Expr"; refine ks_wpAt_Expr_any ?_))
  k_with "wpAt" => (k_dflt (ks_step "exec Return"; refine ks_wpAt_Return_some ?_))
  k_with "wpAt" => (k_dflt (ks_step "exec Assign"; first | refine ks_wpAt_Assign_Name ?_ | refine ks_wpAt_Assign_Attr ?_))
  k_with "wpAt" => (k_dflt (ks_step "exec If"; refine ks_wpAt_If ?_))
  k_with "wpAt" => (k_dflt (ks_step "eval BinOp"; refine ks_wpAt_BinOp2 ?_))
  k_with "wpAt" => (k_dflt (ks_step "eval Call"; refine ks_wpAt_MethodCall ?_))
  k_with "wpAt" => (k_dflt (ks_step "attributeBase Call"; k_here; (refine ks_node (by k_asm) (by k_asm) (by k_asm) (by k_asm) (by k_is) (by rfl) (by rfl) (by k_inst) (by k_is) (by rfl) (by first | rfl | decide +kernel) (by k_is) (by k_is) (by k_is) (by k_is) (by decide) (by rfl) (by rfl) (by rfl) (by rfl) (by decide +kernel) (by first | boot_by_name | rfl | kernel_rfl) ?_; intro so' h' F' N' l1; (try k_lt l1))))
  k_with "eval Name" => (k_here; (with_reducible show wpAny _ _ (PySem.eval _ (genEnv _ _ _ _ _ _)) _ _ _); k_dflt (refine Mine.gname_L (by k_asm) (by assumption) ?_; k_whole))
  k_with "eval Name" => (k_here; (with_reducible show wpAny _ _ (PySem.eval _ (genEnv _ _ _ _ _ _)) _ _ _); k_dflt (refine Mine.gname_B (by k_asm) (by k_asm) (by k_asm) (by k_is) (by boot_by_name) (by decide) ?_; k_whole))
  k_with "getAttr ref" => (k_here; k_dflt (refine Mine.acc_get (by k_asm) (by k_asm) (by k_inst) (by k_is) (by k_is) (by k_is) (by k_is) (by k_is) (by first | assumption | k_get) (by k_handed) ?_; k_whole))
  k_with "call builtin:len" => (k_here; (with_reducible show wpAny _ _ (call (Value.builtin "len") [Value.str _ _]) _ _ _); k_dflt (refine Mine.len_txt (by assumption) ?_; k_whole))
  k_with "eval Name" => (k_here; (with_reducible show wpAny _ _ (PySem.eval _ (genEnv _ _ _ _ _ _)) _ _ _); k_dflt (refine Mine.gname_K (by k_asm) (by k_asm) (by k_asm) (by k_is) ?_; k_whole))
  k_with "newTuple" => ((with_reducible rename Mine.GMark => hG9); k_here; k_dflt (refine Mine.newTuple_G (by k_asm) ?_ (by size_fits)); k_whole; intro F' N'; (try k_sweep))
  k_with "call ref" => (k_here; (with_reducible show wpAny _ _ (call (Value.ref 152) [Value.ref _]) _ _ _); k_dflt (refine Mine.acc_len_L (by k_asm) (by k_asm) (by k_asm) (by k_asm) (by rfl) (by ktr_room) (by ktr_units) (by ((try dsimp only); assumption)) (by k_mem) (by k_mem) (by k_get) (by k_mem) (by assumption) (by k_is) (by rfl) (by rfl) (by rfl) (by rfl) (by rfl) (by (first | (refine Mine.pairs_snoc (by assumption) (by k_asm) (by k_asm) (by k_mem)) | (refine Mine.PairsAt.keeps (by assumption) (fun T o _ e => Fr.keep (by k_asm) T o e)) | (refine Mine.pairs_snoc_r (by k_asm) (by k_asm) (by k_mem) (by (first | exact Mine.pairs_fr (by assumption) (by assumption) | exact Mine.pairs_fr (by assumption) (Mine.pairs_fr (by assumption) (by assumption))))) | (refine Mine.pairs_fr (by k_asm) (by (first | exact Mine.pairs_fr (by assumption) (by assumption) | exact Mine.pairs_fr (by assumption) (Mine.pairs_fr (by assumption) (by assumption))))))) (by assumption) (by assumption) (by assumption) ?_); intro s9 t9 tp9 ht9 F' hN9 G9 os9 hb9; (have N' := hN9 _ (by k_upd)); clear hN9; (try k_sweep); (try (dsimp only [PySem.W.LenBack]; refine ⟨⟨by (first | lia | omega), by (first | lia | omega)⟩, ?_⟩)))
  k_with "subscriptTail" => (k_here; (with_reducible show wpAny _ _ (subscriptTail _ _ (Value.ref _) (Value.int _ _)) _ _ _); k_dflt (refine Mine.acc_pair (by k_asm) (by k_asm) (by k_inst) (by k_is) (by k_is) (by k_is) (by (first | (refine Mine.pairs_snoc (by assumption) (by k_asm) (by k_asm) (by k_mem)) | (refine Mine.PairsAt.keeps (by assumption) (fun T o _ e => Fr.keep (by k_asm) T o e)))) (by (first | lia | omega)) (by (first | lia | omega)) (by (first | (first | lia | omega) | (simp only [List.length_append, List.length_cons, List.length_nil]; (first | lia | omega)))) ?_ (by with_unfolding_all rfl) (by (intro _; with_unfolding_all rfl))); intro T9 p9 ta9 tb9 hp9 hT9; (try ((with_reducible rename Mine.AllW _ _ _ _ => w9); rcases Mine.pairW w9 hp9 with e9 | e9) <;> subst e9); (try dsimp only at hT9))
  k_with "subscriptTail" => (k_here; (with_reducible show wpAny _ _ (subscriptTail _ _ (Value.ref _) (Value.int _ _)) _ _ _); k_dflt (first | ((with_reducible show wpAny _ _ (subscriptTail _ _ (Value.ref _) (Value.int 0 _)) _ _ _); refine Mine.pair_fst (by assumption) ?_ (by with_unfolding_all rfl)) | ((with_reducible show wpAny _ _ (subscriptTail _ _ (Value.ref _) (Value.int 1 _)) _ _ _); refine Mine.pair_snd (by assumption) ?_ (by with_unfolding_all rfl))))
  k_with "subscriptTail" => (k_here; (with_reducible show wpAny _ _ (subscriptTail _ (PySem.Expr.Slice _ _ none _) (Value.ref _) (Value.ref _)) _ _ _); k_dflt (refine Mine.acc_slice_from (by k_asm) (by k_asm) (by k_asm) (by k_inst) (by k_is) (by k_is) (by k_is) (by (simp only [List.length_append, List.length_cons, List.length_nil]; (first | lia | omega))) (by (rw [sizeLine_eq]; simp only [List.length_append, List.length_cons, List.length_nil]; (first | lia | omega))) (by exact Mine.drop_snoc (by assumption)) ?_ (by with_unfolding_all rfl) (by (intro _; with_unfolding_all rfl))); intro D' h' F' N' l1 l2; (try k_lt l1); (try k_sweep))
  k_with "setItem ref" => (k_here; (with_reducible show wpAny _ _ (setItem (Value.ref _) (Value.ref _) (Value.ref _)) _ _ _); k_dflt (refine Mine.acc_set_slice_at (by k_asm) (by k_asm) (by k_asm) (by k_inst) (by k_is) (by k_is) (by k_is) (by kmk_part) (by exact rfl) (by first | exact Nat.zero_le _ | (simp only [List.length_append, List.length_cons, List.length_nil]; (first | lia | omega))) (by k_mem) (by (rw [sizeLine_eq]; simp only [List.length_append, List.length_cons, List.length_nil]; (first | lia | omega))) (by first | exact Mine.take_snoc (by assumption) | exact rfl) (by exact rfl) (by k_upd) ?_); intro h' F' N'; (try k_sweep))
  k_with "call ref" => (k_here; (with_reducible show wpAny _ _ (call (Value.ref 159) [Value.ref _]) _ _ _); k_dflt (refine Mine.acc_str_L (by k_asm) (by k_asm) (by k_asm) (by k_asm) (by rfl) (by ktr_room) (by ktr_units) (by ((try dsimp only); assumption)) (by k_mem) (by k_mem) (by k_mem) (by assumption) (by k_is) (by rfl) (by rfl) (by rfl) (by rfl) (by rfl) (by (first | (refine Mine.pairs_snoc (by assumption) (by k_asm) (by k_asm) (by k_mem)) | (refine Mine.PairsAt.keeps (by assumption) (fun T o _ e => Fr.keep (by k_asm) T o e)) | (refine Mine.pairs_snoc_r (by k_asm) (by k_asm) (by k_mem) (by (first | exact Mine.pairs_fr (by assumption) (by assumption) | exact Mine.pairs_fr (by assumption) (Mine.pairs_fr (by assumption) (by assumption))))) | (refine Mine.pairs_fr (by k_asm) (by (first | exact Mine.pairs_fr (by assumption) (by assumption) | exact Mine.pairs_fr (by assumption) (Mine.pairs_fr (by assumption) (by assumption))))))) (by assumption) (by assumption) ?_); intro s9 t9 tp9 ht9 F' hN9 G9 os9; (have N' := hN9 _ (by k_upd)); clear hN9; (try k_sweep); (try (dsimp only [PySem.W.StrBack])))
  k_with "call builtin:list.append" => (k_here; k_dflt (refine Mine.append_KL (by k_asm) (by k_asm) (by k_upd) (by (rw [sizeLine_eq]; (first | lia | omega))) ?_; k_whole; intro h' F' N'; (try k_sweep)))
  k_with "call ref" => (k_here; k_dflt (refine Mine.bm_pop (odc := none) (by k_asm) (by k_asm) (by k_asm) (by k_mem) (by k_inst) (by k_is) (by rfl) (by (first | rfl | decide +kernel)) (by k_upd) (by first | size_fits | (rw [sizeLine_eq]; (first | lia | omega))) ?_; k_whole; intro h' F' N'; (try k_sweep)))
  k_with "compareOp NotEq ref ref" => (k_here; (with_reducible show wpAny _ _ (compareOp CmpOp.NotEq (Value.ref _) (Value.ref _)) _ _ _); k_dflt (refine ne_dataH (by ke_read) (by ke_read) (by first | exact Mine.shaped2 (by assumption) (by assumption) | ke_shaped) (by ke_shaped) (by ktr_units) ?_); (try rw [Mine.eqv_ne (by assumption)]); ke_norm)
  k_with "eval Call Attribute" => (k_here; (with_reducible show wpAny _ _ (PySem.eval (PySem.Expr.Call (PySem.Expr.Attribute _ _ _) [PySem.Expr.Starred _ _] [] _) _) _ _ _); k_dflt (refine Mine.methodCall_star (by rfl) (by (intro _; rfl)) ?_; k_whole))
  k_with "getAttr ref" => (k_here; k_dflt (refine Mine.acc_bound (by k_asm) (by k_asm) (by k_asm) (by k_inst) (by k_is) (by k_is) (by k_is) (by k_is) (by k_is) (by k_is) (by k_is) (by k_is) (by decide +kernel) (by k_get) ?_; k_whole); intro q' h' F' N' l1; (try k_lt l1); (try k_sweep))
  k_with "callWith ref" => (k_here; (with_reducible show wpAny _ _ (callWith _ (Value.ref _) _ (backTo _ (starEach [PySem.Expr.Starred _ _] _)) []) _ _ _); k_dflt (refine Mine.callWith_MS (by k_asm) (by k_asm) (by k_mem) (by k_is) ?_; k_whole))
  k_with "truthy ref" => (k_here; (with_reducible show wpAny _ _ (truthy (Value.ref _)) _ _ _); k_dflt (refine Mine.truthy_lenK (by k_asm) (by k_asm) (by k_inst) (by k_is) (by k_is) (by k_is) ?_; k_whole))
  k_with "call ref" => (k_here; (with_reducible show wpAny _ _ (call (Value.ref 129) _) _ _ _); k_dflt (refine Mine.acc_push_L (by k_asm) (by k_asm) (by k_asm) (by k_asm) (by k_mem) (by k_mem) (by rfl) (by ktr_room) (by ktr_units) (by assumption) (by assumption) ?_); intro D' h' tk' F' hN9 l1; (have N' := hN9 _ (by k_upd)); clear hN9; (try k_lt l1); (try k_sweep))
  k_with "call ref" => (k_here; (with_reducible show wpAny _ _ (call (Value.ref 182) _) _ _ _); k_dflt (refine Mine.acc_pcount_L (by k_asm) (by k_asm) (by k_asm) (by k_asm) (by k_asm) (by k_mem) (by k_mem) (by exact rfl) (by exact rfl) (by exact rfl) (by rfl) (by ktr_room) (by ktr_units) (by assumption) ?_); intro h' tk' t' F' N'; (try k_sweep))
  k_with "call ref" => (k_here; (with_reducible show wpAny _ _ (call (Value.ref 145) _) _ _ _); k_dflt (refine Mine.acc_pop_L (by k_asm) (by k_asm) (by k_asm) (by k_asm) (by k_asm) (by k_mem) (by k_mem) (by exact rfl) (by exact rfl) (by exact rfl) (by rfl) (by ktr_room) (by ktr_units) (by assumption) (by assumption) ?_); intro h' tk' F' hN9; (have N' := hN9 _ (by k_upd)); clear hN9; (try k_sweep))
  k_with "call ref" => (k_here; (with_reducible show wpAny _ _ (call (Value.ref 137) _) _ _ _); k_dflt (refine Mine.acc_popfrom_L (by k_asm) (by k_asm) (by k_asm) (by k_asm) (by k_mem) (by k_mem) (by rfl) (by ktr_room) (by ktr_units) (by assumption) (by assumption) (by assumption) ?_); intro R' h' tk' n' F' hN9 l1; (have N' := hN9 _ (by k_upd)); clear hN9; (try k_lt l1); (try k_sweep))
  k_with "call ref" => (k_here; (with_reducible show wpAny _ _ (call (Value.ref 167) _) _ _ _); k_dflt (refine Mine.acc_reset0_L (by k_asm) (by k_asm) (by k_asm) (by k_asm) (by k_mem) (by k_mem) (by rfl) (by ktr_room) (by ktr_units) (by assumption) (by first | assumption | (first | lia | omega) | (simp only [List.length_append, List.length_cons, List.length_nil]; (first | lia | omega))) ?_); intro h' tk' u' n' F' hN9; (have N' := hN9 _ _ (by k_upd) (by k_upd)); clear hN9; (try k_sweep))
  k_with "call ref" => (k_here; (with_reducible show wpAny _ _ (call (Value.ref 167) _) _ _ _); k_dflt (refine Mine.acc_reset1_L (by k_asm) (by k_asm) (by k_asm) (by k_asm) (by k_mem) (by k_mem) (by k_mem) (by rfl) (by ktr_room) (by ktr_units) (by assumption) (by first | assumption | (first | lia | omega) | (simp only [List.length_append, List.length_cons, List.length_nil]; (first | lia | omega))) (by exact Nat.le_of_ble_eq_true rfl) (by (first | lia | omega)) ?_); intro h' tk' u' n' F' hN9; (have N' := hN9 _ _ (by k_upd) (by k_upd)); clear hN9; (try k_sweep))
  k_with "call ref" => (k_here; (with_reducible show wpAny _ _ (call (Value.ref 174) _) _ _ _); k_dflt (refine Mine.acc_onlyws_L (by k_asm) (by k_asm) (by k_asm) (by k_asm) (by k_mem) (by k_mem) (by k_mem) (by k_mem) (by rfl) (by ktr_room) (by ktr_units) (by assumption) (by first | assumption | (first | lia | omega)) (by assumption) (by assumption) (by assumption) (by (first | (refine Mine.pairs_snoc (by assumption) (by k_asm) (by k_asm) (by k_mem)) | (refine Mine.PairsAt.keeps (by assumption) (fun T o _ e => Fr.keep (by k_asm) T o e)) | (refine Mine.pairs_snoc_r (by k_asm) (by k_asm) (by k_mem) (by (first | exact Mine.pairs_fr (by assumption) (by assumption) | exact Mine.pairs_fr (by assumption) (Mine.pairs_fr (by assumption) (by assumption))))) | (refine Mine.pairs_fr (by k_asm) (by (first | exact Mine.pairs_fr (by assumption) (by assumption) | exact Mine.pairs_fr (by assumption) (Mine.pairs_fr (by assumption) (by assumption))))))) (by assumption) (by assumption) (by assumption) (by assumption) (by assumption) ?_); intro s9 tp9 tp8 ht9 ht8 F' hN9 G9 os9; (have N' := hN9 _ _ (by k_upd) (by k_upd)); clear hN9; (try k_sweep))
  k_with "call ref" => (k_here; (with_reducible show wpAny _ _ (call (Value.ref _) [Value.str _ _, Value.str _ _]) _ _ _); k_dflt (refine Mine.acc_push_M (by k_asm) (by k_asm) (by k_asm) (by k_asm) (by k_mem) (by k_mem) (by k_mem) (by rfl) (by ktr_room) (by ktr_units) (by assumption) (by assumption) ?_); intro D' h' tk' F' hN9 l1; (have N' := hN9 _ (by k_upd)); clear hN9; (try k_lt l1); (try k_sweep))
  trivial
theorem tabs_in {h₀ h : Heap} {L : Addr} {news : List (Addr × Obj)} {tp1 tp2 : Array Value} (N : News h₀ L h news) (h1 : (147, X.tableObj tp1) ∈ news) (h2 : (154, X.tableObj tp2) ∈ news) :
    ∃ tp1 tp2 : Array Value, h.get? 147 = some (X.tableObj tp1) ∧ h.get? 154 = some (X.tableObj tp2) := ⟨_, _, (N _ h1).1, (N _ h2).1⟩
theorem fmt_str (w : World) {E Q : Value → Shared → Prop} {s : Shared} {A₀ : Around} {base h₀ : Heap} {outer : List Env} {L : Addr} {m mg mb : Str → Option Value} {p : Program} {loose : List Str} {mean : ExcName → Option Value}
    {dp un : Nat} {gd : Option (List Code)} {cn : Str} {nm : List (Str × NameKind)} {gg co : Bool} {more : List (Str × Const)} {a : Addr} {ccd : Value} {cl : List (Str × Addr)}
    {z : FT} {mx : Int} {am ad al ac acd T : Addr} {ls xs : List Value} {nl n nt : Nat} {tp1 tp2 : Array Value} {ps : List (Str × Str)} {fw st : Str} {tf ts tsep : Tok}
    (B : Below A₀ base outer h₀) (F : Fr h₀ L s.heap m) (X₀ : (hd.heap_1 w.params).In h₀) (Tp : Top p loose mean mg mb h₀)
    (hd1 : dp + 12 < recursionLimit) (hu : un + 400 < cLine) (G : AllBare s.gens)
    (N : News h₀ L s.heap ((T, { cls := .type "tuple", data := .seq [.str fw tf, .str st ts].toArray nt }) :: fmtLed z mx 0 am ad al ac acd ls nl (xs ++ [.ref T]) n tp1 tp2))
    (o1 : 154 < ad) (o2 : ad < am) (o3 : am < al) (o4 : al < acd) (o5 : acd < ac) (o6 : ac < T) (hxs : xs.length ≤ 1000) (ht1 : TriplesOk tp1.toList) (ht2 : TriplesOk tp2.toList) (PA : PairsAt s.heap xs ps) (hT : .ref T ∉ xs) (hst : st ≠ Str.ofString "") (hk1 : PyData.strOk fw = true) (hk2 : PyData.strOk st = true) (hsm : ∀ q ∈ ps ++ [(fw, st)], q.1.length ≤ 1048576 ∧ q.2.length ≤ 1048576) (hfit : total (ps ++ [(fw, st)]) ≤ 1099511627776) (hpos : 0 < total (ps ++ [(fw, st)])) (hW : (((ps ++ [(fw, st)]).map fun q => q.1 ++ q.2).map (·.length)).sum + ((ps ++ [(fw, st)]).map fun q => q.1 ++ q.2).length ≤ 1048576)
    {lines : List Str} (hl : LinesAt ls lines) (hls : ls.length ≤ 1000) (hsp : Txt.isspace (cat (ps ++ [(fw, st)])) = false) (hjo : JoinOk (Str.ofString "|") (lines ++ [cat (ps ++ [(fw, st)])]) = true)
    (hQ : ∀ s' t', (∀ b o, b ∉ [al, ac, acd, 147, 154] → s.heap.get? b = some o → s'.heap.get? b = some o) → (∃ tp1 tp2 : Array Value, s'.heap.get? 147 = some (X.tableObj tp1) ∧ s'.heap.get? 154 = some (X.tableObj tp2)) → AllBare s'.gens → s'.os = s.os → Q (.str (Txt.join (Str.ofString "|") (lines ++ [cat (ps ++ [(fw, st)])])) t') s') :
    wpAny (model PySem.Challenge.rw_xl0020_01.row.prog w) (ktrTop dp un gd cn ⟨.function, nm, gg, co, more⟩ L a ccd cl outer) (call (.ref 49) [.ref am, .str (Str.ofString "|") tsep]) Q E s := by
  revert X₀; k_fill; intro X₀
  dsimp only [fmtLed] at N
  refine wpAny_call ?_
  k_dflt (refine' enterL B F X₀ N Tp rfl rfl rfl ?k6 ?k7 ?k8 ?k9 ?kB ?_ ?c2 ?c3 ?c4 ?c5)
  (case k6 => k_is)
  (case k7 => k_is)
  (case k8 => show dp < recursionLimit; (first | lia | omega))
  (case k9 => exact BindsTo.of_eq rfl)
  (case kB => exact locs rfl)
  (case c2 => exact rfl)
  (case c3 => exact rfl)
  (case c4 => exact rfl)
  (case c5 => decide)
  intro g L' h₁ hk1 F1 N1 B1 X1 T1 hlt
  dsimp only
  replace PA : PairsAt g xs ps := PA.hideT N hk1 (by simp [X.tableObj, hT])
  have hz0 : (0 : Int) ≤ 0 := Int.le_refl _
  have hfit0 : 0 + total (ps ++ [(fw, st)]) ≤ 1099511627776 := by (first | lia | omega)
  have hpos0 : 0 < 0 + total (ps ++ [(fw, st)]) := by (first | lia | omega)
  k_lt hlt
  replace o1 := ltN o1; replace o2 := ltN o2; replace o3 := ltN o3; replace o4 := ltN o4; replace o5 := ltN o5; replace o6 := ltN o6
  k_steps
  · refine' join_L (N := by k_asm) (hD := ?m1) (hl := hl.snoc) (hok := hjo) (hq := ?m2)
    (case m1 => k_mem)
    (case m2 =>
      intro t' k'
      refine' hQ _ _ (kept_of N hk1 (by k_asm) (by k_asm) _ (by (repeat (first | exact kin_nil | refine kin_in (by k_mem) ?_ | refine kin_ch (by k_mem) ?_)))) ?q1 ?q2 ?q3
      (case q1 => (refine' tabs_in (N := by k_asm) ?b1 ?b2; (case b1 => k_mem); (case b2 => k_mem)))
      (case q2 => (first | assumption | (dsimp only; assumption) | (simp only [*])))
      (case q3 => (simp only [*])))
end

section
open PySem PySem.W PyProof.Rows PySem.Calls PySem.Spec
set_option maxRecDepth 100000
set_option maxHeartbeats 400000
/-- a place where the walk stands -/
def Halt (P : Prop) : Prop := P
theorem halt {P : Prop} (h : Halt P) : P := h
theorem Halt.go {P : Prop} (h : P) : Halt P := h
/-- names with their values, upon a frame -/
def put : List (Str × Value) → (Str → Option Value) → Str → Option Value
  | [], m => m
  | q :: l, m => fun y => if y = q.1 then some q.2 else put l m y
theorem put_of : ∀ {l : List (Str × Value)} {m : Str → Option Value}, (∀ q ∈ l, m q.1 = some q.2) → m = put l m
  | [], _, _ => rfl
  | q :: l, m, h => by
    funext y
    show m y = if y = q.1 then some q.2 else put l m y
    split
    · rename_i e; rw [e]; exact h q (.head _)
    · exact congrFun (put_of fun p hp => h p (.tail _ hp)) y
/-- the frame has these names with these values -/
def Has (m : Str → Option Value) (l : List (Str × Value)) : Prop := ∀ q ∈ l, m q.1 = some q.2
theorem has_nil {m : Str → Option Value} : Has m [] := fun _ q => nomatch q
theorem has_cons {m : Str → Option Value} {x : Str} {v : Value} {l : List (Str × Value)} (h : m x = some v) (hl : Has m l) : Has m ((x, v) :: l) := fun q hq => by
  rcases List.mem_cons.mp hq with rfl | hq
  · exact h
  · exact hl q hq
theorem fr_put {h₀ h : Heap} {L : Addr} {m : Str → Option Value} (F : Fr h₀ L h m) (l : List (Str × Value)) (hl : Has m l) : Fr h₀ L h (put l m) := put_of hl ▸ F
theorem keep_nil {h g h' : Heap} {L' : Addr} {m' : Str → Option Value} (hk : ∀ b o, h.get? b = some o → b ∉ ([] : List (Addr × Obj)).map (·.1) → g.get? b = some o) (F : Fr g L' h' m') : ∀ b o, h.get? b = some o → h'.get? b = some o :=
  fun b o e => F.keep b o (hk b o e (by simp))
theorem fresh_nil {h g : Heap} {D : Addr} (hk : ∀ b o, h.get? b = some o → b ∉ ([] : List (Addr × Obj)).map (·.1) → g.get? b = some o) (e : g.get? D = none) : h.get? D = none := by
  cases q : h.get? D with
  | none => rfl
  | some o => have := hk D o q (by simp); rw [e] at this; cases this
theorem nil_news {h₀ h : Heap} {L : Addr} : News h₀ L h [] := fun _ q => nomatch q
/-- the state between two statements -/
def Mid (h₀ : Heap) (L : Addr) (s : Shared) (P : (Str → Option Value) → List (Addr × Obj) → Prop) (s' : Shared) : Prop :=
  ∃ h' tk m' news', s' = { s with heap := h', toks := tk } ∧ Fr h₀ L h' m' ∧ News h₀ L h' news' ∧ P m' news'
theorem Mid.intro {h₀ h' : Heap} {L : Addr} {s : Shared} {P : (Str → Option Value) → List (Addr × Obj) → Prop} {tk : Nat} {m' : Str → Option Value} {news' : List (Addr × Obj)}
    (F : Fr h₀ L h' m') (N : News h₀ L h' news') (hP : P m' news') : Mid h₀ L s P { s with heap := h', toks := tk } := ⟨h', tk, m', news', rfl, F, N, hP⟩
section
variable {prog : Program} {w : World} {A : Around} {E : Value → Shared → Prop} {Q : Flow → Shared → Prop} {s : Shared} {env : Env} {h₀ : Heap} {L : Addr}
/-- a statement, and what holds behind it -/
theorem execs_at {st : Stmt} {rest : List Stmt} (P : (Str → Option Value) → List (Addr × Obj) → Prop) {m : Str → Option Value} {news : List (Addr × Obj)} (_F : Fr h₀ L s.heap m) (_N : News h₀ L s.heap news)
    (h1 : wpAny (model prog w) A (exec st env) (fun f s' => match f with | .next => Mid h₀ L s P s' | f => Q f s') E s)
    (h2 : ∀ h' tk m' news', Fr h₀ L h' m' → News h₀ L h' news' → P m' news' → wpAny (model prog w) A (execs rest env) Q E { s with heap := h', toks := tk }) : wpAny (model prog w) A (execs (st :: rest) env) Q E s :=
  wpAny_execs_cons (wpAny_mono h1 (fun f s' h => by
    cases f with
    | next => obtain ⟨h', tk, m', news', rfl, F, N, hP⟩ := h; exact h2 h' tk m' news' F N hP
    | _ => exact h) fun _ _ e => e)
theorem While_at {test : Expr} {body : List Stmt} {pos : Pos} {m : Str → Option Value} {news : List (Addr × Obj)} (J : Nat → (Str → Option Value) → List (Addr × Obj) → Prop) (P : (Str → Option Value) → List (Addr × Obj) → Prop) {n₀ : Nat}
    (F : Fr h₀ L s.heap m) (N : News h₀ L s.heap news) (hJ : J n₀ m news)
    (turn : ∀ n m₁ news₁ h₁ tk₁, Fr h₀ L h₁ m₁ → News h₀ L h₁ news₁ → J n m₁ news₁ →
      wpAny (model prog w) A (isTrue test env (eval test env)) (fun b s₂ =>
        if b = true then wpAny (model prog w) A (execs body env) (WhileStep h₀ L s J n) E s₂ else Mid h₀ L s P s₂) E { s with heap := h₁, toks := tk₁ })
    (rest : ∀ h' tk m' news', Fr h₀ L h' m' → News h₀ L h' news' → P m' news' → Q .next { s with heap := h', toks := tk })
    (hE : PassesOwn (model prog w) A env E := by passes_own) :
    wpAny (model prog w) A (exec (.While test body [] pos) env) Q E s :=
  wpAny_mono (While_inv (Q := fun f s' => f = .next ∧ Mid h₀ L s P s') J F N hJ (fun n m₁ news₁ h₁ tk₁ F₁ N₁ J₁ => wpAny_mono (turn n m₁ news₁ h₁ tk₁ F₁ N₁ J₁) (fun b s₂ h => by
      cases b with
      | true => exact h
      | false => exact ⟨rfl, h⟩) fun _ _ e => e) hE) (fun f s' h => by
    obtain ⟨rfl, h', tk, m', news', rfl, F', N', hP⟩ := h
    exact rest h' tk m' news' F' N' hP) fun _ _ e => e
end
end

section
open PySem PySem.W PyProof.Rows PySem.Calls PySem.Spec
set_option maxRecDepth 100000
set_option maxHeartbeats 400000
open Builtin Builtin._codecs
section
variable {M : Model} {A : Around} {E : Value → Shared → Prop} {s : Shared}
theorem fold_ascii (l : List Nat) (acc : Array UInt8) : (l.toArray).foldl (fun acc y => acc ++ (asciiCodec.bytesOf y).toArray) acc = acc ++ (l.map Nat.toUInt8).toArray := by
  simp only [List.foldl_toArray]
  induction l generalizing acc with
  | nil => simp
  | cons c l ih =>
    rw [List.foldl_cons, ih]
    simp [asciiCodec]
theorem wp_neg {α : Type} {c : Prop} [Decidable c] {a b : Sem α} {Q : α → Shared → Prop} (h : ¬ c) (k : wpAny M A b Q E s) : wpAny M A (if c then a else b) Q E s := by rw [if_neg h]; exact k
theorem wp_pos {α : Type} {c : Prop} [Decidable c] {a b : Sem α} {Q : α → Shared → Prop} (h : c) (k : wpAny M A a Q E s) : wpAny M A (if c then a else b) Q E s := by rw [if_pos h]; exact k
theorem wp_range2 {β : Type} {f : Nat → β → Sem (ForInStep β)} {b b1 : β} {Q : β → Shared → Prop} (h1 : ∀ Q', Q' (.yield b1) s → wpAny M A (f 0 b) Q' E s) (h2 : ∀ i Q', 0 < i → Q' (.done b1) s → wpAny M A (f i b1) Q' E s) (h : Q b1 s) : ∀ {n : Nat}, 0 < n → wpAny M A (forIn (List.range' 0 n) b f) Q E s
  | n + 1, _ => by
    rw [List.range'_succ, List.forIn_cons]
    refine wpAny_bind (h1 _ ?_)
    cases n with
    | zero => exact wpAny_pure h
    | succ n =>
      dsimp only
      rw [List.range'_succ, List.forIn_cons]
      exact wpAny_bind (h2 _ _ (by omega) (wpAny_pure h))
theorem wp_encodeNarrow {x : Str} {id : String} {self : Value} {Q : Array UInt8 → Shared → Prop} (hx : ∀ c ∈ x.cps.toList, c < 128) (hz : x.cps.size ≤ sizeLine) (h : Q (x.cps.toList.map Nat.toUInt8).toArray s) : wpAny M A (encodeNarrow id asciiCodec none self x) Q E s := by
  obtain ⟨⟨l⟩⟩ := x
  dsimp only at hx h hz
  unfold encodeNarrow
  dsimp only
  rw [Std.Legacy.Range.forIn_eq_forIn_range']
  have hsz : ([0 : (⟨l.toArray⟩ : Str).length] : Std.Legacy.Range).size = l.length := by simp [Std.Legacy.Range.size, Str.length]
  rw [hsz]
  refine wpAny_bind ?_
  cases l with
  | nil =>
    refine wpAny_pure (wpAny_pure ?_)
    exact h
  | cons c l =>
    have hb : (!asciiCodec.bad c) = true := by
      have hc : c < 128 := hx c (.head _)
      simp [asciiCodec]; omega
    have e1 : (c :: l).toArray.findIdx? asciiCodec.bad = none := by
      rw [Array.findIdx?_eq_none_iff]
      intro d hd
      have := hx d (by simpa using hd)
      simp [asciiCodec]; omega
    have e0 : ((c :: l).toArray.extract 0 (c :: l).toArray.size) = (c :: l).toArray := by simp
    have e2 : (c :: l).toArray[0]? = some c := rfl
    have e3 : ∀ i, (c :: l).toArray[i + (c :: l).toArray.size]? = none := fun i => by simp
    have e4 := fold_ascii (c :: l) #[]
    have e5 : ¬ (((c :: l).map Nat.toUInt8).toArray.size > sizeLine) := by simp only [List.size_toArray, List.length_map] at hz ⊢; omega
    have e6 : 0 < (c :: l).length := Nat.succ_pos _

    refine wp_range2 (b1 := ((c :: l).toArray.size, ((c :: l).map Nat.toUInt8).toArray, ({ } : Faults))) (fun Q' hq => ?_) (fun i Q' hi hq => ?_) ?_ e6
    · show wpAny M A (if ((#[] : Array UInt8).size > sizeLine) then _ else (if (!asciiCodec.bad c) = true then pure (ForInStep.yield (0 + (Array.findIdx? asciiCodec.bad ((c :: l).toArray.extract 0 (c :: l).toArray.size)).getD ((c :: l).toArray.extract 0 (c :: l).toArray.size).size,
        Array.foldl (fun acc y => acc ++ (asciiCodec.bytesOf y).toArray) (#[] : Array UInt8) (((c :: l).toArray.extract 0 (c :: l).toArray.size).extract 0 ((Array.findIdx? asciiCodec.bad ((c :: l).toArray.extract 0 (c :: l).toArray.size)).getD ((c :: l).toArray.extract 0 (c :: l).toArray.size).size)), ({ } : Faults))) else _)) _ _ _
      refine wp_neg (by simp) (wp_pos hb (wpAny_pure ?_))
      have e : ∀ ar : Array Nat, ar.extract 0 ar.size = ar → ar.findIdx? asciiCodec.bad = none → (0 + (Array.findIdx? asciiCodec.bad (ar.extract 0 ar.size)).getD (ar.extract 0 ar.size).size, Array.foldl (fun acc y => acc ++ (asciiCodec.bytesOf y).toArray) (#[] : Array UInt8) ((ar.extract 0 ar.size).extract 0 ((Array.findIdx? asciiCodec.bad (ar.extract 0 ar.size)).getD (ar.extract 0 ar.size).size)), ({ } : Faults)) = (ar.size, ar.foldl (fun acc y => acc ++ (asciiCodec.bytesOf y).toArray) (#[] : Array UInt8), ({ } : Faults)) := fun ar h0 h1 => by
        rw [h0, h1, Option.getD_none, h0, Nat.zero_add]
      rw [e _ e0 e1, e4, Array.empty_append]
      exact hq
    · refine wp_neg e5 ?_
      dsimp only
      have e2 : (c :: l).toArray[(c :: l).toArray.size]? = none := by simp
      rw [e2]
      exact wpAny_pure hq
    · exact wpAny_pure h
theorem gives_encode (x : Str) (t u : Tok) (hx : ∀ c ∈ x.cps.toList, c < 128) (hz : x.cps.size ≤ sizeLine) : Gives («str.encode» ⟨[.str x t, .str (Str.ofString "ascii") u], []⟩) (.bytes (x.cps.toList.map Nat.toUInt8).toArray) := by
  refine .of_wp fun M A E s Q hq => ?_
  have e : «str.encode» ⟨[.str x t, .str (Str.ofString "ascii") u], []⟩ = (do ret (← encodeRoad "str.encode" (.str x t) x (Str.ofString "ascii") none)) := by kernel_rfl
  rw [e]
  have e2 : encodeRoad "str.encode" (.str x t) x (Str.ofString "ascii") none = (do mkBytes (← encodeNarrow "str.encode" asciiCodec none (.str x t) x)) := by kernel_rfl
  rw [e2]
  refine wpAny_bind (wpAny_bind (wp_encodeNarrow hx hz (wpAny_mkBytes (wpAny_pure ⟨_, rfl, hq.2⟩) hq.1)))
end
theorem call_encode {prog : Program} {w : World} {A : Around} {E : Value → Shared → Prop} {s : Shared} {x : Str} {t u : Tok} {Q : Value → Shared → Prop} (hx : ∀ c ∈ x.cps.toList, c < 128) (hz : x.cps.size ≤ sizeLine)
    (h : Q (.bytes (x.cps.toList.map Nat.toUInt8).toArray s.toks) { s with toks := s.toks + 1 }) : wpAny (model prog w) A (call (.builtin "str.encode") [.str x t, .str (Str.ofString "ascii") u]) Q E s :=
  call_gives F.slot_str_encode (typeIs_str _ _ _) F.entry_str_encode (F.args_str_encode_2 _ _) (gives_encode x t u hx hz) ⟨by simpa using hz, h⟩
theorem meth_encode {M : Model} {A : Around} {E : Value → Shared → Prop} {s : Shared} {x : Str} {t : Tok} {pl : Sem Bool} {Q : Value × List Value → Shared → Prop} (h : Q (.builtin "str.encode", [.str x t]) s) : wpAny M A (getMethod (.str x t) "encode" pl) Q E s := by
  with_reducible exact GM.of (.str x t) (typeIs_str _ _ _) F.slot_str_encode F.type_str_encode GM.noRef h
end

section
open PySem PySem.W PyProof.Rows PySem.Calls PySem.Spec
set_option maxRecDepth 100000
set_option maxHeartbeats 400000
open Builtin Builtin.Str PySem.StrLaws
/-- the text of these signs -/
def tx (l : List Nat) : Str := ⟨l.toArray⟩
theorem tx_len (l : List Nat) : (tx l).length = l.length := by simp [tx, Str.length]
theorem tx_inj {l l' : List Nat} : tx l = tx l' ↔ l = l' := ⟨fun h => by simpa [tx] using h, fun h => h ▸ rfl⟩
theorem tx_beq (l l' : List Nat) : (tx l == tx l') = (l == l') := by
  rw [Bool.eq_iff_iff, beq_iff_eq, beq_iff_eq, tx_inj]
theorem tx_cat (l l' : List Nat) : tx l ++ tx l' = tx (l ++ l') := by
  show (⟨l.toArray ++ l'.toArray⟩ : Str) = _
  simp [tx]
theorem cast_min (a b : Nat) : ((min a b : Nat) : Int) = min (a : Int) (b : Int) := by
  rcases Nat.le_total a b with h | h
  · rw [Nat.min_eq_left h, Int.min_eq_left (Int.ofNat_le.mpr h)]
  · rw [Nat.min_eq_right h, Int.min_eq_right (Int.ofNat_le.mpr h)]
theorem tx_slice {l : List Nat} {lo hi : Option Int} {a b : Nat} (h : strSliceIndices lo hi 1 l.length = strSliceIndices (some (a : Int)) (some (b : Int)) 1 l.length) (hab : a ≤ b) (hb : b ≤ l.length) : Txt.slice (tx l) lo hi = tx ((l.drop a).take (b - a)) := by
  have e := sliced_plain (tx l) (a := a) (b := b) hab (by rw [tx_len]; exact hb)
  rw [tx_len] at e
  unfold Txt.slice
  rw [tx_len, h, e]
  split
  · rename_i hc
    rw [strSliceIndices_plain hab hb] at hc
    have : b - a = l.length := by simpa using hc
    have h0 : a = 0 := by k_extra "zz"
    subst h0
    rw [List.drop_zero, List.take_of_length_le (by k_extra "zz")]
  · rfl
theorem tx_from (l : List Nat) (k : Nat) : Txt.slice (tx l) (some (k : Int)) none = tx (l.drop k) := by
  have h : strSliceIndices (some (k : Int)) none 1 l.length = strSliceIndices (some ((min k l.length : Nat) : Int)) (some (l.length : Int)) 1 l.length := by
    have h1 : ¬ ((k : Int) < 0) := Int.not_lt.mpr (Int.natCast_nonneg _)
    have h2 : ¬ (((min k l.length : Nat) : Int) < 0) := Int.not_lt.mpr (Int.natCast_nonneg _)
    have h3 : ¬ ((l.length : Int) < 0) := Int.not_lt.mpr (Int.natCast_nonneg _)
    have e1 : max (0 : Int) (min (k : Int) (l.length : Int)) = max (0 : Int) (min ((min k l.length : Nat) : Int) (l.length : Int)) := by rw [Mine.cast_min, Int.min_assoc, Int.min_self]
    have e2 : max (0 : Int) (min (l.length : Int) (l.length : Int)) = l.length := by rw [Int.min_self, Int.max_eq_right (Int.natCast_nonneg _)]
    simp only [strSliceIndices, h1, h2, h3, if_false, show ((1 : Int) > 0) = True from by simp, if_true, e1, e2]
  rw [tx_slice h (by k_extra "zz") (by k_extra "zz")]
  congr 1
  rw [List.take_of_length_le (by rw [List.length_drop]; k_extra "zz")]
  rcases Nat.le_total k l.length with hk | hk
  · rw [Nat.min_eq_left hk]
  · rw [Nat.min_eq_right hk, List.drop_of_length_le (Nat.le_refl _), List.drop_of_length_le hk]
theorem tx_to (l : List Nat) (k : Nat) : Txt.slice (tx l) none (some (k : Int)) = tx (l.take k) := by
  have h : strSliceIndices none (some (k : Int)) 1 l.length = strSliceIndices (some ((0 : Nat) : Int)) (some ((min k l.length : Nat) : Int)) 1 l.length := by
    have h1 : ¬ ((k : Int) < 0) := Int.not_lt.mpr (Int.natCast_nonneg _)
    have h2 : ¬ (((min k l.length : Nat) : Int) < 0) := Int.not_lt.mpr (Int.natCast_nonneg _)
    have h3 : ¬ (((0 : Nat) : Int) < 0) := Int.not_lt.mpr (Int.natCast_nonneg _)
    have e1 : max (0 : Int) (min (k : Int) (l.length : Int)) = max (0 : Int) (min ((min k l.length : Nat) : Int) (l.length : Int)) := by rw [Mine.cast_min, Int.min_assoc, Int.min_self]
    have e2 : max (0 : Int) (min ((0 : Nat) : Int) (l.length : Int)) = 0 := by rw [Int.natCast_zero, Int.min_eq_left (Int.natCast_nonneg _)]; rfl
    simp only [strSliceIndices, h1, h2, h3, if_false, show ((1 : Int) > 0) = True from by simp, if_true, e1, e2]
  rw [tx_slice h (by k_extra "zz") (by k_extra "zz")]
  congr 1
  rw [List.drop_zero, Nat.sub_zero]
  rcases Nat.le_total k l.length with hk | hk
  · rw [Nat.min_eq_left hk]
  · rw [Nat.min_eq_right hk, List.take_of_length_le (Nat.le_refl _), List.take_of_length_le hk]
theorem tx_fromI (l : List Nat) {j : Int} (h : 0 ≤ j) : Txt.slice (tx l) (some j) none = tx (l.drop j.toNat) := by
  obtain ⟨k, rfl⟩ := Int.eq_ofNat_of_zero_le h
  exact tx_from l k
theorem tx_toI (l : List Nat) {j : Int} (h : 0 ≤ j) : Txt.slice (tx l) none (some j) = tx (l.take j.toNat) := by
  obtain ⟨k, rfl⟩ := Int.eq_ofNat_of_zero_le h
  exact tx_to l k
theorem tx_all (l : List Nat) : Txt.slice (tx l) none none = tx l := by
  have h : strSliceIndices none none 1 l.length = strSliceIndices (some ((0 : Nat) : Int)) (some (l.length : Int)) 1 l.length := by
    have h2 : ¬ ((l.length : Int) < 0) := Int.not_lt.mpr (Int.natCast_nonneg _)
    have h3 : ¬ (((0 : Nat) : Int) < 0) := Int.not_lt.mpr (Int.natCast_nonneg _)
    have e1 : max (0 : Int) (min (l.length : Int) (l.length : Int)) = l.length := by rw [Int.min_self, Int.max_eq_right (Int.natCast_nonneg _)]
    have e2 : max (0 : Int) (min ((0 : Nat) : Int) (l.length : Int)) = 0 := by rw [Int.natCast_zero, Int.min_eq_left (Int.natCast_nonneg _)]; rfl
    simp only [strSliceIndices, h2, h3, if_false, show ((1 : Int) > 0) = True from by simp, if_true, e1, e2]
  rw [tx_slice h (by k_extra "zz") (by k_extra "zz")]
  simp
theorem tx_to_neg (l : List Nat) (k : Nat) (hk : 0 < k) : Txt.slice (tx l) none (some (-(k : Int))) = tx (l.take (l.length - k)) := by
  have h : strSliceIndices none (some (-(k : Int))) 1 l.length = strSliceIndices (some ((0 : Nat) : Int)) (some ((l.length - k : Nat) : Int)) 1 l.length := by
    have h1 : (-(k : Int) < 0) := by k_extra "zz"
    have h2 : ¬ (((l.length - k : Nat) : Int) < 0) := Int.not_lt.mpr (Int.natCast_nonneg _)
    have h3 : ¬ (((0 : Nat) : Int) < 0) := Int.not_lt.mpr (Int.natCast_nonneg _)
    have e1 : max (0 : Int) (min (-(k : Int) + (l.length : Int)) (l.length : Int)) = max (0 : Int) (min ((l.length - k : Nat) : Int) (l.length : Int)) := by k_extra "zz"
    have e2 : max (0 : Int) (min ((0 : Nat) : Int) (l.length : Int)) = 0 := by rw [Int.natCast_zero, Int.min_eq_left (Int.natCast_nonneg _)]; rfl
    simp only [strSliceIndices, h1, h2, h3, if_false, show ((1 : Int) > 0) = True from by simp, if_true, e1, e2]
  rw [tx_slice h (by k_extra "zz") (by k_extra "zz")]
  simp
theorem map_get_rev (l : List Nat) : (List.range l.length).map (fun k => l.toArray.getD (l.length - 1 - k) 0) = l.reverse := by
  apply List.ext_getElem
  · simp
  · intro i h1 h2
    simp at h1
    simp [Array.getD, List.getElem_reverse, show l.length - 1 - i < l.length by k_extra "zz"]
theorem tx_rev (l : List Nat) (u : Tok) : Txt.sliceBy (tx l) none none (-1, u) = tx l.reverse := by
  have h := step_rev_list (tx l) u
  generalize Txt.sliceBy (tx l) none none (-1, u) = y at *
  obtain ⟨⟨y⟩⟩ := y
  rw [tx_len] at h
  have h2 : y = l.reverse := by
    have := map_get_rev l
    exact (show y = _ from h).trans this
  rw [h2]; rfl
section
variable {prog : Program} {w : World} {A : Around} {E : Value → Shared → Prop} {s : Shared} {value slice : PySem.Expr} {l : List Nat} {t : Tok} {h₀ : Heap} {L : Addr} {m : Str → Option Value} {news : List (Addr × Obj)} {Q : Value → Shared → Prop}
theorem cut_to {j : Int} {uj : Tok} (hF : Fr h₀ L s.heap m) (hN : News h₀ L s.heap news) (hj : 0 ≤ j) (hsz : l.length ≤ 1000000) (h : ∀ h' t' k, Fr h₀ L h' m → News h₀ L h' news → Q (.str (tx (l.take j.toNat)) t') { s with heap := h', toks := k })
    (hs : subscripted slice false (.str (tx l) t) (.ref s.heap.objs.size) = operate [.ref s.heap.objs.size, .str (tx l) t] (getItem (.str (tx l) t) (.ref s.heap.objs.size)))
    (ht : ∀ r, letTemporaryGo value (.str (tx l) t) r = pure ()) :
    wpAny (model prog w) A (subscriptTail value slice (.str (tx l) t) (.ref s.heap.objs.size)) Q E { s with heap := s.heap.push { cls := .type "slice", data := .fields #[.none, .int j uj, .none] } } :=
  slice_strN_ns hF hN (by rw [tx_toI l hj]; exact h) hs ht (by rw [tx_len, sizeLine_eq]; k_extra "zz")
theorem cut_from {j : Int} {uj : Tok} (hF : Fr h₀ L s.heap m) (hN : News h₀ L s.heap news) (hj : 0 ≤ j) (hsz : l.length ≤ 1000000) (h : ∀ h' t' k, Fr h₀ L h' m → News h₀ L h' news → Q (.str (tx (l.drop j.toNat)) t') { s with heap := h', toks := k })
    (hs : subscripted slice false (.str (tx l) t) (.ref s.heap.objs.size) = operate [.ref s.heap.objs.size, .str (tx l) t] (getItem (.str (tx l) t) (.ref s.heap.objs.size)))
    (ht : ∀ r, letTemporaryGo value (.str (tx l) t) r = pure ()) :
    wpAny (model prog w) A (subscriptTail value slice (.str (tx l) t) (.ref s.heap.objs.size)) Q E { s with heap := s.heap.push { cls := .type "slice", data := .fields #[.int j uj, .none, .none] } } :=
  slice_strN_sn hF hN (by rw [tx_fromI l hj]; exact h) hs ht (by rw [tx_len, sizeLine_eq]; k_extra "zz")
theorem cut_neg {k : Nat} {j : Int} {uj : Tok} (hF : Fr h₀ L s.heap m) (hN : News h₀ L s.heap news) (hj : j = -(k : Int)) (hk : 0 < k) (hsz : l.length ≤ 1000000) (h : ∀ h' t' k', Fr h₀ L h' m → News h₀ L h' news → Q (.str (tx (l.take (l.length - k))) t') { s with heap := h', toks := k' })
    (hs : subscripted slice false (.str (tx l) t) (.ref s.heap.objs.size) = operate [.ref s.heap.objs.size, .str (tx l) t] (getItem (.str (tx l) t) (.ref s.heap.objs.size)))
    (ht : ∀ r, letTemporaryGo value (.str (tx l) t) r = pure ()) :
    wpAny (model prog w) A (subscriptTail value slice (.str (tx l) t) (.ref s.heap.objs.size)) Q E { s with heap := s.heap.push { cls := .type "slice", data := .fields #[.none, .int j uj, .none] } } := by
  subst hj
  exact slice_strN_ns hF hN (by rw [tx_to_neg l k hk]; exact h) hs ht (by rw [tx_len, sizeLine_eq]; k_extra "zz")
theorem cut_all (hF : Fr h₀ L s.heap m) (hN : News h₀ L s.heap news) (hsz : l.length ≤ 1000000) (h : ∀ h' t' k', Fr h₀ L h' m → News h₀ L h' news → Q (.str (tx l) t') { s with heap := h', toks := k' })
    (hs : subscripted slice false (.str (tx l) t) (.ref s.heap.objs.size) = operate [.ref s.heap.objs.size, .str (tx l) t] (getItem (.str (tx l) t) (.ref s.heap.objs.size)))
    (ht : ∀ r, letTemporaryGo value (.str (tx l) t) r = pure ()) :
    wpAny (model prog w) A (subscriptTail value slice (.str (tx l) t) (.ref s.heap.objs.size)) Q E { s with heap := s.heap.push { cls := .type "slice", data := .fields #[.none, .none, .none] } } :=
  slice_strN_nn hF hN (by rw [tx_all l]; exact h) hs ht (by rw [tx_len, sizeLine_eq]; k_extra "zz")
theorem cut_nth {i : Int} {u : Tok} {j : Nat} (hi : i = (j : Int)) (hj : j < l.length) (hsz : l.length ≤ 1000000) (h : Q (.str (tx [l.getD j 0]) s.toks) { s with toks := s.toks + 1 })
    (hs : subscripted slice false (.str (tx l) t) (.int i u) = operate [.str (tx l) t, .int i u] (getItem (.str (tx l) t) (.int i u)))
    (ht : ∀ r, letTemporaryGo value (.str (tx l) t) r = pure ()) : wpAny (model prog w) A (subscriptTail value slice (.str (tx l) t) (.int i u)) Q E s := by
  subst hi
  refine tail_of_ItemOn ⟨"str", _, F.slot_str_getitem.lookup, typeIs_str _ _ _, P.getItem_str (c := l.getD j 0) ?_ ?_ h⟩ hs ht
  · rw [Bool.or_eq_false_iff]; simp only [decide_eq_false_iff_not]; k_extra "zz"
  · rw [tx_len]
    have e : seqIndex? (j : Int) l.length = some j := by simp [seqIndex?, show ¬ ((j : Int) < 0) by k_extra "zz"]; k_extra "zz"
    rw [e]
    simp [tx, hj]
theorem cut_nthR {i : Int} {u : Tok} {k : Nat} (hi : i = -(k : Int) - 1) (hk : k < l.length) (hsz : l.length ≤ 1000000) (h : Q (.str (tx [l.reverse.getD k 0]) s.toks) { s with toks := s.toks + 1 })
    (hs : subscripted slice false (.str (tx l) t) (.int i u) = operate [.str (tx l) t, .int i u] (getItem (.str (tx l) t) (.int i u)))
    (ht : ∀ r, letTemporaryGo value (.str (tx l) t) r = pure ()) : wpAny (model prog w) A (subscriptTail value slice (.str (tx l) t) (.int i u)) Q E s := by
  subst hi
  refine tail_of_ItemOn ⟨"str", _, F.slot_str_getitem.lookup, typeIs_str _ _ _, P.getItem_str (c := l.reverse.getD k 0) ?_ ?_ h⟩ hs ht
  · rw [Bool.or_eq_false_iff]; simp only [decide_eq_false_iff_not]; k_extra "zz"
  · rw [tx_len]
    have e : seqIndex? (-(k : Int) - 1) l.length = some (l.length - 1 - k) := by
      have h2 : 0 ≤ -(k : Int) - 1 + (l.length : Int) := by k_extra "zz"
      have h1 : -(k : Int) - 1 < 0 := by k_extra "zz"
      have h3 : -(k : Int) - 1 + (l.length : Int) < l.length := by k_extra "zz"
      simp only [seqIndex?, h1, h2, h3, if_true, and_self]
      simp
      k_extra "zz"
    rw [e]
    have hl : l.length - 1 - k < l.length := by k_extra "zz"
    simp [tx, hl, List.getElem?_reverse, hk]
theorem truthy_tx {n : Nat} {Q : Bool → Shared → Prop} (hn : l.length = n) (hsz : n ≤ 1000000) (h : Q (decide (0 < n)) { s with toks := s.toks + 1 + 1 }) : wpAny (model prog w) A (truthy (.str (tx l) t)) Q E s := by
  subst hn
  refine P.truthy_str (by rw [tx_len]; k_extra "zz") ?_
  have e : (((tx l).length : Int) != 0) = decide (0 < l.length) := by
    rw [tx_len, Bool.eq_iff_iff, decide_eq_true_eq, bne_iff_ne]; k_extra "zz"
  rw [e]; exact h
theorem len_tx (hsz : l.length ≤ 1000000) (h : Q (.int (l.length : Int) (s.toks + 1)) { s with toks := s.toks + 1 + 1 }) : wpAny (model prog w) A (call (.builtin "len") [.str (tx l) t]) Q E s := by
  refine P.len_str (by rw [tx_len]; k_extra "zz") ?_
  rw [tx_len]; exact h
end
end

section
open PySem PySem.W PyProof.Rows PySem.Calls PySem.Spec
set_option maxRecDepth 100000
set_option maxHeartbeats 4000000
open Builtin
def digF : Nat → Nat → List Nat
  | 0, _ => []
  | f + 1, n => if n = 0 then [] else digF f (n / 16) ++ [n % 16]
theorem digF_more : ∀ (f n : Nat), n < 16 ^ f → digF (f + 1) n = digF f n
  | 0, n, h => by
    have : n = 0 := by simpa using h
    subst this; rfl
  | f + 1, n, h => by
    have h2 : n / 16 < 16 ^ f := by rw [Nat.div_lt_iff_lt_mul (by decide)]; rwa [Nat.pow_succ] at h
    show (if n = 0 then [] else digF (f + 1) (n / 16) ++ [n % 16]) = (if n = 0 then [] else digF f (n / 16) ++ [n % 16])
    rw [digF_more f _ h2]
theorem digF_add (f n : Nat) (h : n < 16 ^ f) : ∀ k, digF (f + k) n = digF f n
  | 0 => rfl
  | k + 1 => by
    have : n < 16 ^ (f + k) := Nat.lt_of_lt_of_le h (Nat.pow_le_pow_right (by decide) (Nat.le_add_right _ _))
    rw [← Nat.add_assoc, digF_more _ _ this, digF_add f n h k]
/-- the figures of a number to the base 16 -/
def dig (n : Nat) : List Nat := digF (n.log2 + 1) n
theorem dig_fuel (n : Nat) : n < 16 ^ (n.log2 + 1) := by
  have h := Nat.lt_log2_self (n := n)
  have h2 : (2 : Nat) ^ (n.log2 + 1) ≤ 16 ^ (n.log2 + 1) := Nat.pow_le_pow_left (by decide) _
  (first | lia | omega)
theorem dig_eq (n f : Nat) (h : n < 16 ^ f) : dig n = digF f n := by
  have h1 := dig_fuel n
  rcases Nat.le_total f (n.log2 + 1) with hle | hle
  · obtain ⟨k, hk⟩ := Nat.exists_eq_add_of_le hle
    show digF (n.log2 + 1) n = _
    rw [hk, digF_add f n h]
  · obtain ⟨k, hk⟩ := Nat.exists_eq_add_of_le hle
    rw [hk, digF_add _ n h1]; rfl
theorem dig_zero : dig 0 = [] := rfl
theorem dig_pos (n : Nat) (h : 0 < n) : dig n = dig (n / 16) ++ [n % 16] := by
  have h1 := dig_fuel n
  rw [dig_eq n (n.log2 + 2) (Nat.lt_of_lt_of_le h1 (Nat.pow_le_pow_right (by decide) (by (first | lia | omega))))]
  have h2 : n / 16 < 16 ^ (n.log2 + 1) := Nat.lt_of_le_of_lt (Nat.div_le_self _ _) h1
  rw [dig_eq _ _ h2]
  show (if n = 0 then [] else _) = _
  rw [if_neg (by (first | lia | omega))]
def ap (l : List Nat) : Array UInt8 := (l.map fun d => UInt8.ofNat (65 + d)).toArray
theorem fmod_nat (j : Nat) : Int.fmod (j : Int) 16 = ((j % 16 : Nat) : Int) := by rw [Int.fmod_eq_emod_of_nonneg _ (by decide)]; rfl
theorem fdiv_nat (j : Nat) : Int.fdiv (j : Int) 16 = ((j / 16 : Nat) : Int) := by rw [Int.fdiv_eq_ediv_of_nonneg _ (by decide)]; rfl
theorem ap_pick : ∀ k < 16, KBy.picked #[65, 66, 67, 68, 69, 70, 71, 72, 73, 74, 75, 76, 77, 78, 79, 80] (some (k : Nat)) (some ((k + 1 : Nat) : Int)) = ap [k] := by decide +kernel
theorem ap_slice {prog : Program} {w : World} {A : Around} {E : Value → Shared → Prop} {s : Shared} {value slice : PySem.Expr} {t u v : Tok} {h₀ : Heap} {L : Addr} {m : PySem.Str → Option Value} {news : List (Addr × Obj)} {x y : Int} {Q : Value → Shared → Prop} (k : Nat)
    (hF : Fr h₀ L s.heap m) (hN : News h₀ L s.heap news) (hx : x = (k : Int)) (hy : y = (k : Int) + 1) (hk : k < 16)
    (h : ∀ h' t' tk, Fr h₀ L h' m → News h₀ L h' news → Q (.bytes (ap [k]) t') { s with heap := h', toks := tk })
    (hs : subscripted slice false (.bytes #[65, 66, 67, 68, 69, 70, 71, 72, 73, 74, 75, 76, 77, 78, 79, 80] t) (.ref s.heap.objs.size) = operate [.ref s.heap.objs.size, .bytes #[65, 66, 67, 68, 69, 70, 71, 72, 73, 74, 75, 76, 77, 78, 79, 80] t] (getItem (.bytes #[65, 66, 67, 68, 69, 70, 71, 72, 73, 74, 75, 76, 77, 78, 79, 80] t) (.ref s.heap.objs.size)))
    (ht : ∀ r, letTemporaryGo value (.bytes #[65, 66, 67, 68, 69, 70, 71, 72, 73, 74, 75, 76, 77, 78, 79, 80] t) r = pure ()) :
    wpAny (model prog w) A (subscriptTail value slice (.bytes #[65, 66, 67, 68, 69, 70, 71, 72, 73, 74, 75, 76, 77, 78, 79, 80] t) (.ref s.heap.objs.size)) Q E { s with heap := s.heap.push { cls := .type "slice", data := .fields #[.int x u, .int y v, .none] } } := by
  subst hx hy
  refine KBc.slice_K (lo := some (k : Int)) (hi := some ((k : Int) + 1)) hF hN rfl (by constructor) (by constructor) (by decide +kernel) (fun h' t' tk F' N' _ => ?_) hs ht
  have e := ap_pick k hk
  push_cast at e
  rw [e]
  exact h h' t' tk F' N'
theorem ap_add (l : List Nat) (l' : List Nat) : ap l ++ ap l' = ap (l ++ l') := by simp [ap]
theorem ap_size (l : List Nat) : (ap l).size = l.length := by simp [ap]
theorem reg_FN1_0 : True := by
  k_with_none
  k_with "zz" => (first | assumption | exact Nat.le_trans (by assumption) (by decide) | exact Nat.lt_of_le_of_lt (by assumption) (by decide) | exact Nat.le_trans (Nat.sub_le _ _) (Nat.le_trans (by assumption) (by decide)) | exact Nat.le_trans (Nat.min_le_right _ _) (Nat.le_trans (by assumption) (by decide)) | exact Nat.sub_pos_of_lt (by assumption) | exact Nat.lt_of_sub_pos (by assumption) | exact mn_pos (by assumption) | exact mn_lt (by assumption) | exact mn_no (by assumption) | exact sb_no (by assumption) | exact nm1 | exact sub1 (by assumption) | exact cp1 (by assumption) | exact cpp (by assumption) | exact cpn (by assumption) | exact cpa (by assumption) | exact sz1 (by assumption) | exact sz2 (by assumption) | exact sz3 (by assumption) | exact sz5 (by assumption) (by decide) | exact na3 (by assumption) (by assumption) | exact na4 (by assumption) (by assumption) | exact na5 (by assumption) (by assumption) | exact fl1 (by assumption) (by decide) | lia | omega)
  k_with "zr" => ((repeat (with_reducible refine rm_deeper ?_)); exact rm_top (by assumption) (by decide))
  k_with "zu" => ((repeat (first | with_reducible refine um_deeper ?_ | with_reducible refine um_in1 ?_)); exact rm_top (by assumption) (by decide))
  k_with "zn" => (refine neN ?_; (try dsimp only); first | exact Nat.ne_of_lt (Nat.add_lt_add_left (by decide) _) | exact Nat.ne_of_gt (Nat.add_lt_add_left (by decide) _) | (refine Nat.ne_of_lt ?_; (try refine lt154 ?_); (repeat (first | assumption | exact ltA (by assumption) (by decide) | refine Nat.lt_trans (by assumption) ?_ | refine Nat.lt_trans (ltA (by assumption) (by decide)) ?_)); done) | (refine Nat.ne_of_gt ?_; (try refine lt154 ?_); (repeat (first | assumption | exact ltA (by assumption) (by decide) | refine Nat.lt_trans (by assumption) ?_ | refine Nat.lt_trans (ltA (by assumption) (by decide)) ?_)); done) | (first | lia | omega))
  k_with "binaryOp Add bytes bytes" => (k_here; k_dflt (refine KBy.add_bytes (by (simp only [Mine.ap_size, List.length_cons, List.length_nil]; (first | lia | omega))) ?_); intro _ _)
  k_with "exec While Name cons nil" => refine Mine.halt ?_
  trivial
/-- the loop's state -/
inductive ApI (n : Int) (j : Nat) (m₁ : Str → Option Value) : List (Addr × Obj) → Prop
  | mk (t u v : Tok) (val : List Nat) (hm : Has m₁ [(Str.ofString "num", Value.int (j : Int) t), (Str.ofString "val", .bytes (ap val) u), (Str.ofString "AP", .bytes #[65, 66, 67, 68, 69, 70, 71, 72, 73, 74, 75, 76, 77, 78, 79, 80] v)]) (hk : dig j ++ val = dig n.natAbs) : ApI n j m₁ []
theorem ApI.of {n : Int} {j : Nat} {m₁ : Str → Option Value} {t u v : Tok} {val : List Nat} {x : Int} {b : Array UInt8} (hm : Has m₁ [(Str.ofString "num", Value.int x t), (Str.ofString "val", .bytes b u), (Str.ofString "AP", .bytes #[65, 66, 67, 68, 69, 70, 71, 72, 73, 74, 75, 76, 77, 78, 79, 80] v)]) (e1 : x = (j : Int)) (e2 : b = ap val) (hk : dig j ++ val = dig n.natAbs) : ApI n j m₁ [] := by
  subst e1 e2
  exact .mk t u v val hm hk
theorem int2ap (w : World) {E Q : Value → Shared → Prop} {s : Shared} {A₀ : Around} {base h₀ : Heap} {outer : List Env} {L : Addr} {m mg mb : Str → Option Value} {p : Program} {loose : List Str} {mean : ExcName → Option Value}
    {dp un : Nat} {gd : Option (List Code)} {cn : Str} {nm : List (Str × NameKind)} {gg co : Bool} {more : List (Str × Const)} {a : Addr} {ccd : Value} {cl : List (Str × Addr)} {n : Int} {t : Tok}
    (B : Below A₀ base outer h₀) (F : Fr h₀ L s.heap m) (X₀ : (hd.heap_1 w.params).In h₀) (Tp : Top p loose mean mg mb h₀)
    (hd1 : dp + 12 < recursionLimit) (hu : un + 80 < cLine) (hn : (dig n.natAbs).length ≤ 1000)
    (hQ : ∀ h' tk' t', (∀ b o, s.heap.get? b = some o → h'.get? b = some o) → Q (.bytes (ap (dig n.natAbs)) t') { s with heap := h', toks := tk' }) :
    wpAny (model PySem.Challenge.rw_xl0020_01.row.prog w) (ktrTop dp un gd cn ⟨.function, nm, gg, co, more⟩ L a ccd cl outer) (call (.ref 28) [.int n t]) Q E s := by
  revert X₀; k_fill; intro X₀
  have N : News h₀ L s.heap [] := fun _ q => nomatch q
  refine wpAny_call ?_
  k_dflt (refine' enterL (binds := [(Str.ofString "num", .int n t)]) B F X₀ N Tp rfl rfl rfl ?k6 ?k7 ?k8 ?k9 ?kB ?_ ?c2 ?c3 ?c4 ?c5)
  (case k6 => k_is)
  (case k7 => k_is)
  (case k8 => show dp < recursionLimit; (first | lia | omega))
  (case k9 => exact BindsTo.of_eq rfl)
  (case kB => exact locs rfl)
  (case c2 => exact rfl)
  (case c3 => exact rfl)
  (case c4 => exact rfl)
  (case c5 => decide)
  intro g L' h₁ hk1 F1 N1 B1 X1 T1 hlt
  dsimp only
  k_steps
  refine Halt.go ?_
  k_dflt (refine' While_inv (ApI n) (n₀ := n.natAbs) ?F nil_news ?J ?turn)
  case F => k_asm
  case J => exact ApI.of (val := []) (has_cons rfl (has_cons rfl (has_cons rfl has_nil))) (by split <;> (first | lia | omega)) rfl (by simp)
  case turn =>
    rintro j m₁ news₁ h₁ tk₁ F₁ N₁ ⟨t, u, v, val, hm, hk⟩
    replace F₁ := fr_put F₁ _ hm
    dsimp only [put] at F₁
    k_steps
    · k_here
      k_dflt (refine' ap_slice (j % 16) ?k1 ?k2 ?k3 ?k4 ?k5 ?_ ?k6 ?k7)
      (case k1 => k_asm)
      (case k2 => k_asm)
      (case k3 => exact fmod_nat j)
      (case k4 => rw [fmod_nat j])
      (case k5 => (first | lia | omega))
      (case k6 => with_unfolding_all rfl)
      (case k7 => (intro _; with_unfolding_all rfl))
      intro h' t' tk' F' N'
      have hlen : val.length ≤ 1000 := by have := congrArg List.length hk; simp only [List.length_append] at this; (first | lia | omega)
      k_steps
      rw [ap_add] at *
      refine WhileStep.intro (by k_asm) nil_news (n' := j / 16) ?_ (ApI.of (val := [j % 16] ++ val) (has_cons rfl (has_cons rfl (has_cons rfl has_nil))) (fdiv_nat j) rfl ?_)
      · (first | lia | omega)
      · rw [← List.append_assoc, ← dig_pos j (by (first | lia | omega)), hk]
    · have hj : j = 0 := by (first | lia | omega)
      subst hj
      have e : val = dig n.natAbs := by simpa [dig_zero] using hk
      subst e
      exact hQ _ _ _ (keep_nil hk1 (by k_asm))
end

section
open PySem PySem.W PyProof.Rows PySem.Calls PySem.Spec
set_option maxRecDepth 100000
set_option maxHeartbeats 4000000
open Builtin
/-- a text's signs less the A's ahead -/
def bare (l : List Nat) : List Nat := l.dropWhile (· == 65)
theorem txA : Str.ofString "A" = tx [65] := by decide +kernel
theorem reg_FN2_0 : True := by
  k_with_none
  k_with "zz" => (first | assumption | exact Nat.le_trans (by assumption) (by decide) | exact Nat.lt_of_le_of_lt (by assumption) (by decide) | exact Nat.le_trans (Nat.sub_le _ _) (Nat.le_trans (by assumption) (by decide)) | exact Nat.le_trans (Nat.min_le_right _ _) (Nat.le_trans (by assumption) (by decide)) | exact Nat.sub_pos_of_lt (by assumption) | exact Nat.lt_of_sub_pos (by assumption) | exact mn_pos (by assumption) | exact mn_lt (by assumption) | exact mn_no (by assumption) | exact sb_no (by assumption) | exact nm1 | exact sub1 (by assumption) | exact cp1 (by assumption) | exact cpp (by assumption) | exact cpn (by assumption) | exact cpa (by assumption) | exact sz1 (by assumption) | exact sz2 (by assumption) | exact sz3 (by assumption) | exact sz5 (by assumption) (by decide) | exact na3 (by assumption) (by assumption) | exact na4 (by assumption) (by assumption) | exact na5 (by assumption) (by assumption) | exact fl1 (by assumption) (by decide) | lia | omega)
  k_with "zr" => ((repeat (with_reducible refine rm_deeper ?_)); exact rm_top (by assumption) (by decide))
  k_with "zu" => ((repeat (first | with_reducible refine um_deeper ?_ | with_reducible refine um_in1 ?_)); exact rm_top (by assumption) (by decide))
  k_with "zn" => (refine neN ?_; (try dsimp only); first | exact Nat.ne_of_lt (Nat.add_lt_add_left (by decide) _) | exact Nat.ne_of_gt (Nat.add_lt_add_left (by decide) _) | (refine Nat.ne_of_lt ?_; (try refine lt154 ?_); (repeat (first | assumption | exact ltA (by assumption) (by decide) | refine Nat.lt_trans (by assumption) ?_ | refine Nat.lt_trans (ltA (by assumption) (by decide)) ?_)); done) | (refine Nat.ne_of_gt ?_; (try refine lt154 ?_); (repeat (first | assumption | exact ltA (by assumption) (by decide) | refine Nat.lt_trans (by assumption) ?_ | refine Nat.lt_trans (ltA (by assumption) (by decide)) ?_)); done) | (first | lia | omega))
  k_with "exec While Compare cons nil" => refine Mine.halt ?_
  k_with "subscriptTail" => (k_here; (with_reducible show wpAny _ _ (subscriptTail _ (PySem.Expr.Slice none (some _) none _) (Value.str _ _) (Value.ref _)) _ _ _); k_dflt (refine Mine.cut_to (by k_asm) (by k_asm) (by first | decide | (first | lia | omega)) (by (first | lia | omega)) ?_ (by with_unfolding_all rfl) (by (intro _; with_unfolding_all rfl))); intro h' t' tk' F' N')
  k_with "subscriptTail" => (k_here; (with_reducible show wpAny _ _ (subscriptTail _ (PySem.Expr.Slice (some _) none none _) (Value.str _ _) (Value.ref _)) _ _ _); k_dflt (refine Mine.cut_from (by k_asm) (by k_asm) (by first | decide | (first | lia | omega)) (by (first | lia | omega)) ?_ (by with_unfolding_all rfl) (by (intro _; with_unfolding_all rfl))); intro h' t' tk' F' N')
  k_with "getMethod str" => with_reducible refine Mine.meth_encode ?_
  k_with "call builtin:str.encode" => (k_here; k_dflt (refine Mine.call_encode (by assumption) (by (rw [sizeLine_eq]; simp only [tx, List.size_toArray]; (first | lia | omega))) ?_))
  trivial
/-- the loop's state -/
inductive WdI (l : List Nat) : Nat → (Str → Option Value) → List (Addr × Obj) → Prop
  | mk {m₁ : Str → Option Value} (t : Tok) (k : List Nat) (hm : Has m₁ [(Str.ofString "word", Value.str (tx k) t)]) (hkl : k.length ≤ 1000) (hk : bare k = bare l) (hkc : ∀ c ∈ k, c < 128) : WdI l k.length m₁ []
theorem law_bare (w : World) {E Q : Value → Shared → Prop} {s : Shared} {A₀ : Around} {base h₀ : Heap} {outer : List Env} {L : Addr} {m mg mb : Str → Option Value} {p : Program} {loose : List Str} {mean : ExcName → Option Value}
    {dp un : Nat} {gd : Option (List Code)} {cn : Str} {nm : List (Str × NameKind)} {gg co : Bool} {more : List (Str × Const)} {a : Addr} {ccd : Value} {cl : List (Str × Addr)} {l : List Nat} {t : Tok}
    (B : Below A₀ base outer h₀) (F : Fr h₀ L s.heap m) (X₀ : (hd.heap_1 w.params).In h₀) (Tp : Top p loose mean mg mb h₀)
    (hd1 : dp + 12 < recursionLimit) (hu : un + 80 < cLine) (hl : l.length ≤ 1000) (hc : ∀ c ∈ l, c < 128)
    (hQ : ∀ h' tk' t', (∀ b o, s.heap.get? b = some o → h'.get? b = some o) → Q (.bytes ((bare l).map Nat.toUInt8).toArray t') { s with heap := h', toks := tk' }) :
    wpAny (model PySem.Challenge.rw_xl0020_01.row.prog w) (ktrTop dp un gd cn ⟨.function, nm, gg, co, more⟩ L a ccd cl outer) (call (.ref 217) [.str (tx l) t]) Q E s := by
  revert X₀; k_fill; intro X₀
  have N : News h₀ L s.heap [] := fun _ q => nomatch q
  refine wpAny_call ?_
  k_dflt (refine' enterL (binds := [(Str.ofString "word", .str (tx l) t)]) B F X₀ N Tp rfl rfl rfl ?k6 ?k7 ?k8 ?k9 ?kB ?_ ?c2 ?c3 ?c4 ?c5)
  (case k6 => k_is)
  (case k7 => k_is)
  (case k8 => show dp < recursionLimit; (first | lia | omega))
  (case k9 => exact BindsTo.of_eq rfl)
  (case kB => exact locs rfl)
  (case c2 => exact rfl)
  (case c3 => exact rfl)
  (case c4 => exact rfl)
  (case c5 => decide)
  intro g L' h₁ hk1 F1 N1 B1 X1 T1 hlt
  dsimp only
  k_steps
  refine Halt.go ?_
  k_dflt (refine' While_inv (WdI l) (n₀ := l.length) ?F nil_news ?J ?turn)
  case F => k_asm
  case J => exact .mk _ l (has_cons rfl has_nil) hl rfl hc
  case turn =>
    rintro j m₁ news₁ h₁ tk₁ F₁ N₁ ⟨t, k, hm, hkl, hk, hkc⟩
    replace F₁ := fr_put F₁ _ hm
    dsimp only [put] at F₁
    k_steps
    · have hc1 := ‹(tx (k.take (1 : Int).toNat) == Str.ofString "A") = true›
      rw [txA, tx_beq, beq_iff_eq] at hc1
      obtain ⟨k', rfl⟩ : ∃ k', k = 65 :: k' := by
        cases k with
        | nil => simp at hc1
        | cons c k' => exact ⟨k', by simpa using hc1⟩
      refine WhileStep.intro (by k_asm) nil_news (n' := k'.length) (by simp) (.mk _ k' (has_cons rfl has_nil) ?_ ?_ fun c hc => hkc c (.tail _ hc))
      · simp only [List.length_cons] at hkl; (first | lia | omega)
      · rw [← hk]; simp [bare]
    · have hc1 := ‹(tx (k.take (1 : Int).toNat) == Str.ofString "A") = false›
      rw [txA, tx_beq, beq_eq_false_iff_ne] at hc1
      have e : bare l = k := by
        rw [← hk]
        cases k with
        | nil => rfl
        | cons c k' =>
          have : c ≠ 65 := by simpa using hc1
          simp [bare, this]
      subst e
      exact hQ _ _ _ (keep_nil hk1 (by k_asm))
end

section
open PySem PySem.W PyProof.Rows PySem.Calls PySem.Spec
set_option maxRecDepth 100000
set_option maxHeartbeats 4000000
open Builtin
/-- Euclid's run: the quotients, and the measure -/
def run : Nat → Nat → Nat → List Nat × Nat
  | 0, a, _ => ([], a)
  | f + 1, a, b => if b = 0 then ([], a) else (a / b :: (run f b (a % b)).1, (run f b (a % b)).2)
theorem run_more : ∀ (f a b : Nat), b ≤ f → run (f + 1) a b = run f a b
  | 0, a, b, h => by
    have : b = 0 := by (first | lia | omega)
    subst this; rfl
  | f + 1, a, b, h => by
    show (if b = 0 then _ else _) = (if b = 0 then _ else _)
    by_cases hb : b = 0
    · rw [if_pos hb, if_pos hb]
    · rw [if_neg hb, if_neg hb, run_more f b (a % b) (by have := Nat.mod_lt a (Nat.pos_of_ne_zero hb); (first | lia | omega))]
theorem run_add (f a b : Nat) (h : b ≤ f) : ∀ k, run (f + k) a b = run f a b
  | 0 => rfl
  | k + 1 => by rw [← Nat.add_assoc, run_more _ _ _ (by (first | lia | omega)), run_add f a b h k]
theorem run_any {f f' a b : Nat} (h : b ≤ f) (h' : b ≤ f') : run f a b = run f' a b := by
  rcases Nat.le_total f f' with hle | hle
  · obtain ⟨k, rfl⟩ := Nat.exists_eq_add_of_le hle
    rw [run_add f a b h]
  · obtain ⟨k, rfl⟩ := Nat.exists_eq_add_of_le hle
    rw [run_add f' a b h']
def euc (a b : Nat) : List Nat × Nat := run b a b
theorem euc_zero (a : Nat) : euc a 0 = ([], a) := rfl
theorem euc_pos (a b : Nat) (h : 0 < b) : euc a b = (a / b :: (euc b (a % b)).1, (euc b (a % b)).2) := by
  obtain ⟨c, rfl⟩ : ∃ c, b = c + 1 := ⟨b - 1, by (first | lia | omega)⟩
  have hm := Nat.mod_lt a h
  have e : euc (c + 1) (a % (c + 1)) = run c (c + 1) (a % (c + 1)) := run_any (Nat.le_refl _) (by (first | lia | omega))
  rw [e]
  show run (c + 1) a (c + 1) = _
  rw [run, if_neg (by (first | lia | omega))]
/-- these values are these numbers -/
def NumsAt : List Value → List Nat → Prop
  | [], [] => True
  | v :: vs, n :: ns => (∃ t, v = .int (n : Int) t) ∧ NumsAt vs ns
  | _, _ => False
theorem NumsAt.snoc {n : Nat} {t : Tok} : ∀ {vs : List Value} {ns : List Nat}, NumsAt vs ns → NumsAt (vs ++ [.int (n : Int) t]) (ns ++ [n])
  | [], [], _ => ⟨⟨t, rfl⟩, trivial⟩
  | _ :: _, _ :: _, h => ⟨h.1, NumsAt.snoc h.2⟩
  | [], _ :: _, h => h.elim
  | _ :: _, [], h => h.elim
theorem NumsAt.length : ∀ {vs : List Value} {ns : List Nat}, NumsAt vs ns → vs.length = ns.length
  | [], [], _ => rfl
  | _ :: _, _ :: _, h => by rw [List.length_cons, List.length_cons, NumsAt.length h.2]
  | [], _ :: _, h => h.elim
  | _ :: _, [], h => h.elim
section
variable {prog : Program} {w : World} {A : Around} {E : Value → Shared → Prop} {s : Shared} {t u : Tok} {Q : Value → Shared → Prop}
theorem nat_div {x y : Nat} (hy : 0 < y) (hx : y.log2 ≤ 1000) (h : Q (.int ((x / y : Nat) : Int) s.toks) { s with toks := s.toks + 1 }) : wpAny (model prog w) A (binaryOp .FloorDiv (.int (x : Int) t) (.int (y : Int) u)) Q E s := by
  refine floordiv_int (by (first | lia | omega)) ?_ (.inl (PyProof.noPylong_of_log2 (by simp; (first | lia | omega))))
  rw [Int.fdiv_eq_ediv_of_nonneg _ (by (first | lia | omega))]
  exact h
theorem nat_mod {x y : Nat} (hy : 0 < y) (h : Q (.int ((x % y : Nat) : Int) s.toks) { s with toks := s.toks + 1 }) : wpAny (model prog w) A (binaryOp .Mod (.int (x : Int) t) (.int (y : Int) u)) Q E s := by
  refine mod_int' (by (first | lia | omega)) ?_
  rw [Int.fmod_eq_emod_of_nonneg _ (by (first | lia | omega))]
  exact h
end
theorem log2_small {x : Nat} (h : x ≤ 1000) : x.log2 ≤ 1000 := Nat.le_trans (Nat.log2_le_self x) h
theorem reg_FN3_0 : True := by
  k_with_none
  k_with "zz" => (first | assumption | exact Nat.le_trans (by assumption) (by decide) | exact Nat.lt_of_le_of_lt (by assumption) (by decide) | exact Nat.le_trans (Nat.sub_le _ _) (Nat.le_trans (by assumption) (by decide)) | exact Nat.le_trans (Nat.min_le_right _ _) (Nat.le_trans (by assumption) (by decide)) | exact Nat.sub_pos_of_lt (by assumption) | exact Nat.lt_of_sub_pos (by assumption) | exact mn_pos (by assumption) | exact mn_lt (by assumption) | exact mn_no (by assumption) | exact sb_no (by assumption) | exact nm1 | exact sub1 (by assumption) | exact cp1 (by assumption) | exact cpp (by assumption) | exact cpn (by assumption) | exact cpa (by assumption) | exact sz1 (by assumption) | exact sz2 (by assumption) | exact sz3 (by assumption) | exact sz5 (by assumption) (by decide) | exact na3 (by assumption) (by assumption) | exact na4 (by assumption) (by assumption) | exact na5 (by assumption) (by assumption) | exact fl1 (by assumption) (by decide) | lia | omega)
  k_with "zr" => ((repeat (with_reducible refine rm_deeper ?_)); exact rm_top (by assumption) (by decide))
  k_with "zu" => ((repeat (first | with_reducible refine um_deeper ?_ | with_reducible refine um_in1 ?_)); exact rm_top (by assumption) (by decide))
  k_with "zn" => (refine neN ?_; (try dsimp only); first | exact Nat.ne_of_lt (Nat.add_lt_add_left (by decide) _) | exact Nat.ne_of_gt (Nat.add_lt_add_left (by decide) _) | (refine Nat.ne_of_lt ?_; (try refine lt154 ?_); (repeat (first | assumption | exact ltA (by assumption) (by decide) | refine Nat.lt_trans (by assumption) ?_ | refine Nat.lt_trans (ltA (by assumption) (by decide)) ?_)); done) | (refine Nat.ne_of_gt ?_; (try refine lt154 ?_); (repeat (first | assumption | exact ltA (by assumption) (by decide) | refine Nat.lt_trans (by assumption) ?_ | refine Nat.lt_trans (ltA (by assumption) (by decide)) ?_)); done) | (first | lia | omega))
  k_with "binaryOp FloorDiv int int" => (k_here; (with_reducible show wpAny _ _ (binaryOp _ (Value.int (Nat.cast _) _) (Value.int (Nat.cast _) _)) _ _ _); k_dflt (refine Mine.nat_div (by (first | lia | omega)) (by first | assumption | exact Mine.log2_small (by (first | lia | omega))) ?_))
  k_with "binaryOp Mod int int" => (k_here; (with_reducible show wpAny _ _ (binaryOp _ (Value.int (Nat.cast _) _) (Value.int (Nat.cast _) _)) _ _ _); k_dflt (refine Mine.nat_mod (by (first | lia | omega)) ?_))
  k_with "exec While Compare cons nil" => refine Mine.halt ?_
  k_with "call builtin:list.append" => (k_here; k_dflt (refine Mine.append_KL (by k_asm) (by k_asm) (by k_upd) (by (rw [sizeLine_eq]; (first | lia | omega))) ?_; k_whole; intro h' F' N'; (try k_sweep)))
  trivial
/-- the loop's state -/
inductive RunI (x y j : Nat) (m₁ : Str → Option Value) : List (Addr × Obj) → Prop
  | mk (P : Addr) (vs : List Value) (n : Nat) (t u : Tok) (k : Nat) (ns : List Nat) (hm : Has m₁ [(Str.ofString "parts", .ref P), (Str.ofString "wide", Value.int (k : Int) t), (Str.ofString "step", Value.int (j : Int) u)]) (hkx : k ≤ 1000) (hjx : j ≤ 1000) (hns : NumsAt vs ns) (he1 : ns ++ (euc k j).1 = (euc x y).1) (he2 : (euc k j).2 = (euc x y).2) : RunI x y j m₁ [(P, W.listOf vs.toArray n)]
theorem RunI.of {x y j : Nat} {m₁ : Str → Option Value} {P : Addr} {vs : List Value} {n : Nat} {t u : Tok} {k : Nat} {ns : List Nat} {x' y' : Int} (hm : Has m₁ [(Str.ofString "parts", .ref P), (Str.ofString "wide", Value.int x' t), (Str.ofString "step", Value.int y' u)]) (e1 : x' = (k : Int)) (e2 : y' = (j : Int)) (hkx : k ≤ 1000) (hjx : j ≤ 1000) (hns : NumsAt vs ns) (he1 : ns ++ (euc k j).1 = (euc x y).1) (he2 : (euc k j).2 = (euc x y).2) : RunI x y j m₁ [(P, W.listOf vs.toArray n)] := by
  subst e1 e2
  exact .mk P vs n t u k ns hm hkx hjx hns he1 he2
theorem law_run (w : World) {E Q : Value → Shared → Prop} {s : Shared} {A₀ : Around} {base h₀ : Heap} {outer : List Env} {L : Addr} {m mg mb : Str → Option Value} {p : Program} {loose : List Str} {mean : ExcName → Option Value}
    {dp un : Nat} {gd : Option (List Code)} {cn : Str} {nm : List (Str × NameKind)} {gg co : Bool} {more : List (Str × Const)} {a : Addr} {ccd : Value} {cl : List (Str × Addr)} {x y : Nat} {t u : Tok}
    (B : Below A₀ base outer h₀) (F : Fr h₀ L s.heap m) (X₀ : (hd.heap_1 w.params).In h₀) (Tp : Top p loose mean mg mb h₀)
    (hd1 : dp + 12 < recursionLimit) (hu : un + 80 < cLine) (hl : (euc x y).1.length ≤ 1000) (hx : x ≤ 1000) (hy : y ≤ 1000)
    (hQ : ∀ h' tk' D P n vs t', (∀ b o, s.heap.get? b = some o → h'.get? b = some o) → h'.get? D = some { cls := .type "tuple", data := .seq #[.ref P, .int ((euc x y).2 : Int) t'] } → h'.get? P = some (W.listOf vs.toArray n) → s.heap.get? D = none → s.heap.get? P = none → NumsAt vs (euc x y).1 →
      Q (.ref D) { s with heap := h', toks := tk' }) :
    wpAny (model PySem.Challenge.rw_xl0020_01.row.prog w) (ktrTop dp un gd cn ⟨.function, nm, gg, co, more⟩ L a ccd cl outer) (call (.ref 210) [.int (x : Int) t, .int (y : Int) u]) Q E s := by
  revert X₀; k_fill; intro X₀
  have N : News h₀ L s.heap [] := fun _ q => nomatch q
  refine wpAny_call ?_
  k_dflt (refine' enterL (binds := [(Str.ofString "wide", .int (x : Int) t), (Str.ofString "step", .int (y : Int) u)]) B F X₀ N Tp rfl rfl rfl ?k6 ?k7 ?k8 ?k9 ?kB ?_ ?c2 ?c3 ?c4 ?c5)
  (case k6 => k_is)
  (case k7 => k_is)
  (case k8 => show dp < recursionLimit; (first | lia | omega))
  (case k9 => exact BindsTo.of_eq rfl)
  (case kB => exact locs rfl)
  (case c2 => exact rfl)
  (case c3 => exact rfl)
  (case c4 => exact rfl)
  (case c5 => decide)
  intro g L' h₁ hk1 F1 N1 B1 X1 T1 hlt
  dsimp only
  k_steps
  refine Halt.go ?_
  k_dflt (refine' While_inv (RunI x y) (n₀ := y) ?F ?N ?J ?turn)
  case F => k_asm
  case N => k_asm
  case J => exact RunI.of (k := x) (ns := []) (vs := []) (has_cons rfl (has_cons rfl (has_cons rfl has_nil))) rfl rfl hx hy trivial rfl rfl
  case turn =>
    rintro j m₁ news₁ h₁ tk₁ F₁ N₁ ⟨P, vs, n, t, u, k, ns, hm, hkx, hjx, hns, he1, he2⟩
    replace F₁ := fr_put F₁ _ hm
    dsimp only [put] at F₁
    have hvl : vs.length ≤ 1000 := by
      have h1 := hns.length
      have h2 := congrArg List.length he1
      simp only [List.length_append] at h2
      (first | lia | omega)
    k_steps
    · have hj : 0 < j := by (first | lia | omega)
      have hm := Nat.mod_lt k hj
      rename News g L' _ _ => N9
      refine WhileStep.intro (by k_asm) (News.sub N9 fun q hq => List.mem_cons_of_mem _ hq) (n' := k % j) hm (RunI.of (k := j) (ns := ns ++ [k / j]) (has_cons rfl (has_cons rfl (has_cons rfl has_nil))) rfl rfl hjx (Nat.le_trans (Nat.le_of_lt hm) hjx) hns.snoc ?_ ?_)
      · rw [← he1, euc_pos k j hj]; simp
      · rw [← he2, euc_pos k j hj]
    · have hj : j = 0 := by (first | lia | omega)
      subst hj
      rw [euc_zero] at he1 he2
      simp only [List.append_nil] at he1
      subst he1
      dsimp only at he2
      subst he2
      rename News g L' _ _ => N9
      exact hQ _ _ _ _ _ _ _ (keep_nil hk1 (by k_asm)) (N9 _ (.head _)).1 (N9 _ (.tail _ (.head _))).1 (fresh_nil hk1 (N9 _ (.head _)).2.2) (fresh_nil hk1 (N9 _ (.tail _ (.head _))).2.2) hns
end

section
open PySem PySem.W PyProof.Rows PySem.Calls PySem.Spec
set_option maxRecDepth 100000
set_option maxHeartbeats 4000000
open Builtin Builtin.Str
def low (c : Nat) : Nat := if 65 ≤ c ∧ c ≤ 90 then c + 32 else c
theorem lower_ascii : ∀ c < 128, Unicode.lowerOf c = [low c] := by decide +kernel
theorem tx_lower (l : List Nat) (h : ∀ c ∈ l, c < 128) : Txt.lower (tx l) = tx (l.map low) := by
  unfold Txt.lower
  have e : PySem.placed (tx l) (fun i _ => Unicode.lowerAt (tx l).cps i) = (l.map low).toArray := by
    have e1 : (l.toArray.mapIdx fun i _ => (Unicode.lowerAt l.toArray i).toArray) = (l.map fun c => #[low c]).toArray := by
      apply Array.ext
      · simp
      · intro i h1 h2
        have hi : i < l.length := by simpa using h2
        have hc := h l[i] (List.getElem_mem hi)
        have e2 : l.toArray[i]? = some l[i] := by simp [hi]
        have e3 : (l[i] == 0x3A3) = false := by rw [beq_eq_false_iff_ne]; omega
        simp only [Array.getElem_mapIdx, Unicode.lowerAt, e2, e3, Bool.false_and, Bool.false_eq_true, if_false, lower_ascii _ hc]
        simp
    show (l.toArray.mapIdx fun i _ => (Unicode.lowerAt l.toArray i).toArray).flatten = _
    rw [e1]
    clear e1 h
    have e4 : ∀ l : List Nat, l.flatMap (fun c => [low c]) = l.map low := by
      intro l
      induction l with
      | nil => rfl
      | cons c l ih => rw [List.flatMap_cons, ih]; rfl
    have e5 := e4 l
    simp only [Array.flatten_toArray]
    rw [← e5]
    simp only [List.flatMap_def, List.map_map]
    simp
    rfl
  rw [e]; rfl
theorem call_lower {prog : Program} {w : World} {A : Around} {E : Value → Shared → Prop} {s : Shared} {l : List Nat} {t : Tok} {Q : Value → Shared → Prop} (hc : ∀ c ∈ l, c < 128) (hl : l.length ≤ 1000)
    (h : Q (.str (tx (l.map low)) s.toks) { s with toks := s.toks + 1 }) : wpAny (model prog w) A (call (.builtin "str.lower") [.str (tx l) t]) Q E s := by
  have e := tx_lower l hc
  refine SC.lower ?_ ?_
  · rw [e, tx_len, List.length_map]
    simp only [tooLong, sizeLine_eq, decide_eq_false_iff_not]; omega
  · rw [e]; exact h
theorem asc1 {c : Nat} (h : c < 128) : ∀ d ∈ [c], d < 128 := by simpa using h
theorem reg_FN4_0 : True := by
  k_with_none
  k_with "zz" => (first | assumption | exact Nat.le_trans (by assumption) (by decide) | exact Nat.lt_of_le_of_lt (by assumption) (by decide) | exact Nat.le_trans (Nat.sub_le _ _) (Nat.le_trans (by assumption) (by decide)) | exact Nat.le_trans (Nat.min_le_right _ _) (Nat.le_trans (by assumption) (by decide)) | exact Nat.sub_pos_of_lt (by assumption) | exact Nat.lt_of_sub_pos (by assumption) | exact mn_pos (by assumption) | exact mn_lt (by assumption) | exact mn_no (by assumption) | exact sb_no (by assumption) | exact nm1 | exact sub1 (by assumption) | exact cp1 (by assumption) | exact cpp (by assumption) | exact cpn (by assumption) | exact cpa (by assumption) | exact sz1 (by assumption) | exact sz2 (by assumption) | exact sz3 (by assumption) | exact sz5 (by assumption) (by decide) | exact na3 (by assumption) (by assumption) | exact na4 (by assumption) (by assumption) | exact na5 (by assumption) (by assumption) | exact fl1 (by assumption) (by decide) | lia | omega)
  k_with "zr" => ((repeat (with_reducible refine rm_deeper ?_)); exact rm_top (by assumption) (by decide))
  k_with "zu" => ((repeat (first | with_reducible refine um_deeper ?_ | with_reducible refine um_in1 ?_)); exact rm_top (by assumption) (by decide))
  k_with "zn" => (refine neN ?_; (try dsimp only); first | exact Nat.ne_of_lt (Nat.add_lt_add_left (by decide) _) | exact Nat.ne_of_gt (Nat.add_lt_add_left (by decide) _) | (refine Nat.ne_of_lt ?_; (try refine lt154 ?_); (repeat (first | assumption | exact ltA (by assumption) (by decide) | refine Nat.lt_trans (by assumption) ?_ | refine Nat.lt_trans (ltA (by assumption) (by decide)) ?_)); done) | (refine Nat.ne_of_gt ?_; (try refine lt154 ?_); (repeat (first | assumption | exact ltA (by assumption) (by decide) | refine Nat.lt_trans (by assumption) ?_ | refine Nat.lt_trans (ltA (by assumption) (by decide)) ?_)); done) | (first | lia | omega))
  k_with "call builtin:str.lower" => (k_here; k_dflt (refine Mine.call_lower (by first | assumption | exact Mine.asc1 (by assumption)) (by (first | omega | (simp only [List.length_cons, List.length_nil]; omega))) ?_))
  trivial
def cost (a b : Nat) : Nat := if a = b then 0 else if low a = low b then 1 else 2
theorem subst_cost (w : World) {E Q : Value → Shared → Prop} {s : Shared} {A₀ : Around} {base h₀ : Heap} {outer : List Env} {L : Addr} {m mg mb : Str → Option Value} {p : Program} {loose : List Str} {mean : ExcName → Option Value}
    {dp un : Nat} {gd : Option (List Code)} {cn : Str} {nm : List (Str × NameKind)} {gg co : Bool} {more : List (Str × Const)} {a : Addr} {ccd : Value} {cl : List (Str × Addr)} {x y : Nat} {t u : Tok}
    (B : Below A₀ base outer h₀) (F : Fr h₀ L s.heap m) (X₀ : (hd.heap_1 w.params).In h₀) (Tp : Top p loose mean mg mb h₀)
    (hd1 : dp + 6 < recursionLimit) (hu : un + 40 < cLine) (hx : x < 128) (hy : y < 128)
    (hQ : ∀ h' tk' t', (∀ b o, s.heap.get? b = some o → h'.get? b = some o) → Q (.int (cost x y : Int) t') { s with heap := h', toks := tk' }) :
    wpAny (model PySem.Challenge.rw_xl0020_01.row.prog w) (ktrTop dp un gd cn ⟨.function, nm, gg, co, more⟩ L a ccd cl outer) (call (.ref 196) [.str (tx [x]) t, .str (tx [y]) u]) Q E s := by
  revert X₀; k_fill; intro X₀
  have N : News h₀ L s.heap [] := fun _ q => nomatch q
  refine wpAny_call ?_
  k_dflt (refine' enterL (binds := [(Str.ofString "ch_a", .str (tx [x]) t), (Str.ofString "ch_b", .str (tx [y]) u)]) B F X₀ N Tp rfl rfl rfl ?k6 ?k7 ?k8 ?k9 ?kB ?_ ?c2 ?c3 ?c4 ?c5)
  (case k6 => k_is)
  (case k7 => k_is)
  (case k8 => show dp < recursionLimit; omega)
  (case k9 => exact BindsTo.of_eq rfl)
  (case kB => exact locs rfl)
  (case c2 => exact rfl)
  (case c3 => exact rfl)
  (case c4 => exact rfl)
  (case c5 => decide)
  intro g L' h₁ hk1 F1 N1 B1 X1 T1 hlt
  dsimp only
  k_steps
  · have h1 := ‹(tx [x] == tx [y]) = true›
    rw [tx_beq, beq_iff_eq] at h1
    have e : cost x y = 0 := by unfold cost; rw [if_pos (by simpa using h1)]
    rw [e] at hQ
    exact hQ _ _ _ (keep_nil hk1 (by k_asm))
  · have h1 := ‹(tx [x] == tx [y]) = false›
    have h2 := ‹(tx ([x].map low) == tx ([y].map low)) = true›
    rw [tx_beq, beq_eq_false_iff_ne] at h1
    rw [tx_beq, beq_iff_eq] at h2
    have e : cost x y = 1 := by unfold cost; rw [if_neg (by simpa using h1), if_pos (by simpa using h2)]
    rw [e] at hQ
    exact hQ _ _ _ (keep_nil hk1 (by k_asm))
  · have h1 := ‹(tx [x] == tx [y]) = false›
    have h2 := ‹(tx ([x].map low) == tx ([y].map low)) = false›
    rw [tx_beq, beq_eq_false_iff_ne] at h1 h2
    have e : cost x y = 2 := by unfold cost; rw [if_neg (by simpa using h1), if_neg (by simpa using h2)]
    rw [e] at hQ
    exact hQ _ _ _ (keep_nil hk1 (by k_asm))
theorem getD_asc {l : List Nat} (h : ∀ c ∈ l, c < 128) (j : Nat) : l.getD j 0 < 128 := by
  rw [List.getD_eq_getElem?_getD]
  cases e : l[j]? with
  | none => decide
  | some c => exact h c (List.mem_of_getElem? e)
theorem news_keeps {h₀ h h' : Heap} {L : Addr} {news : List (Addr × Obj)} (N : News h₀ L h news) (hk : ∀ b o, h.get? b = some o → h'.get? b = some o) : News h₀ L h' news := fun p hp => ⟨hk _ _ (N p hp).1, (N p hp).2⟩
theorem subst_costN (w : World) {E Q : Value → Shared → Prop} {s : Shared} {A₀ : Around} {base h₀ : Heap} {outer : List Env} {L : Addr} {m mg mb : Str → Option Value} {p : Program} {loose : List Str} {mean : ExcName → Option Value} {news : List (Addr × Obj)}
    {dp un : Nat} {gd : Option (List Code)} {cn : Str} {nm : List (Str × NameKind)} {gg co : Bool} {more : List (Str × Const)} {a : Addr} {ccd : Value} {cl : List (Str × Addr)} {x y : Nat} {t u : Tok}
    (B : Below A₀ base outer h₀) (F : Fr h₀ L s.heap m) (X₀ : (hd.heap_1 w.params).In h₀) (Tp : Top p loose mean mg mb h₀) (N : News h₀ L s.heap news)
    (hd1 : dp + 6 < recursionLimit) (hu : un + 40 < cLine) (hx : x < 128) (hy : y < 128)
    (hQ : ∀ h' tk' t', Fr h₀ L h' m → News h₀ L h' news → Q (.int (cost x y : Int) t') { s with heap := h', toks := tk' }) :
    wpAny (model PySem.Challenge.rw_xl0020_01.row.prog w) (ktrTop dp un gd cn ⟨.function, nm, gg, co, more⟩ L a ccd cl outer) (call (.ref 196) [.str (tx [x]) t, .str (tx [y]) u]) Q E s :=
  subst_cost w B F X₀ Tp hd1 hu hx hy fun h' tk' t' hk => hQ h' tk' t' (F.keeps hk) (news_keeps N hk)
end

section
open PySem PySem.W PyProof.Rows PySem.Calls PySem.Spec
set_option maxRecDepth 100000
set_option maxHeartbeats 400000
open Builtin
theorem rangeSize_two (k : Nat) : Builtin.Range.rangeSize 2 (2 * ((k : Int) + 1)) 2 = (k : Int) := by
  unfold Builtin.Range.rangeSize
  by_cases h : k = 0
  · subst h; decide
  · have h2 : (2 : Int) < 2 * ((k : Int) + 1) := by (first | lia | omega)
    simp [h2]
    (first | lia | omega)
theorem rangeSmall_two (k : Nat) (h : k ≤ 1000) : Builtin.Range.small 2 (2 * ((k : Int) + 1)) 2 = true := by
  unfold Builtin.Range.small
  rw [rangeSize_two]
  simp [Builtin.Range.rangeFitsLong]
  (first | lia | omega)
theorem rangeSize_up (n : Nat) : Builtin.Range.rangeSize 0 (n : Int) 1 = (n : Int) := by
  unfold Builtin.Range.rangeSize
  by_cases h : n = 0
  · subst h; decide
  · have h2 : (0 : Int) < (n : Int) := by (first | lia | omega)
    simp [h2]
    (first | lia | omega)
theorem rangeSmall_up (n : Nat) (h : n ≤ 1000) : Builtin.Range.small 0 (n : Int) 1 = true := by
  unfold Builtin.Range.small
  rw [rangeSize_up]
  simp [Builtin.Range.rangeFitsLong]
  (first | lia | omega)
theorem ints_of {a c : Int} : ∀ (vs : List Value) (n o : Nat), vs.length = n → (∀ (j : Nat) (v : Value), vs[j]? = some v → ∃ t, v = .int (a + ((j + o : Nat) : Int) * c) t) → IntsAre vs ((List.range n).map fun i : Nat => a + ((i + o : Nat) : Int) * c)
  | [], n, o, e, _ => by
    subst e
    exact IntsAre.nil
  | v :: r, n, o, e, h => by
    subst e
    rw [List.length_cons, List.range_succ_eq_map, List.map_cons, List.map_map]
    obtain ⟨t, ht⟩ := h 0 v rfl
    subst ht
    refine IntsAre.cons _ _ ?_
    have := ints_of r r.length (o + 1) rfl fun j v hj => by
      obtain ⟨t', ht'⟩ := h (j + 1) v hj
      exact ⟨t', ht'.trans (by rw [show j + 1 + o = j + (o + 1) by (first | lia | omega)])⟩
    refine cast (congrArg _ (List.map_congr_left fun i _ => ?_)) this
    simp only [Function.comp]
    rw [show i.succ + o = i + (o + 1) by (first | lia | omega)]
section
variable {prog : Program} {w : World} {A : Around} {E : Value → Shared → Prop} {s : Shared} {h₀ : Heap} {L r : Addr} {m : Str → Option Value} {news : List (Addr × Obj)} {u t₀ u₀ v₀ : Tok} {k : Nat} {Q : Value → Shared → Prop}
theorem list_two {b : Int} (hb : b = 2 * ((k : Int) + 1)) (hh : A.handled = none) (F : Fr h₀ L s.heap m) (N : News h₀ L s.heap news) (hr : IsRange s.heap r 2 b 2 t₀ u₀ v₀) (hk : k ≤ 1000)
    (h : ∀ D us c h' tk, Fr h₀ L h' m → News h₀ L h' ((D, W.listOf (List.toArray us) c) :: news) → (∀ p ∈ news, p.1 < D) → IntsAre us ((List.range k).map fun i : Nat => 2 + 2 * (i : Int)) → Q (.ref D) { s with heap := h', toks := tk }) :
    wpAny (model prog w) A (call (.type "list") [.ref r]) Q E s := by
  subst hb
  refine call_list_range hh hr (rangeSmall_two k hk) (rangeSize_two k) (by (first | lia | omega)) fun h' tk acc c hk hD hI => ?_
  have hD' : h'.get? s.heap.objs.size = some (W.listOf (List.toArray acc.toList) c) := by
    rw [Array.toArray_toList]
    exact hD
  refine h _ acc.toList c h' tk (F.keeps hk) (news_pushed F N hk hD' rfl) (fun p hp => Heap.lt_size (N p hp).1) ?_
  have := ints_of (a := 2) (c := 2) acc.toList k 0 (by rw [Array.length_toList]; exact hI.1) fun j v hj => hI.2 j v (by rw [← hj, Array.getElem?_toList])
  refine cast (congrArg _ (List.map_congr_left fun i _ => ?_)) this
  rw [Nat.add_zero, Int.mul_comm]
end
end

section
open PySem PySem.W PyProof.Rows PySem.Calls PySem.Spec
set_option maxRecDepth 100000
set_option maxHeartbeats 4000000
open Builtin Builtin.Str
/-- how many signs two words share ahead -/
def share : List Nat → List Nat → Nat
  | x :: xs, y :: ys => if x = y then share xs ys + 1 else 0
  | _, _ => 0
theorem share_at {a b : List Nat} {k : Nat} (ha : k < a.length) (hb : k < b.length) (e : a.getD k 0 = b.getD k 0) : share (a.drop k) (b.drop k) = share (a.drop (k + 1)) (b.drop (k + 1)) + 1 := by
  rw [List.drop_eq_getElem_cons ha, List.drop_eq_getElem_cons hb]
  have e1 : a[k] = b[k] := by simpa [ha, hb] using e
  show (if a[k] = b[k] then _ else _) = _
  rw [if_pos e1]
theorem share_ne {a b : List Nat} {k : Nat} (e : a.getD k 0 ≠ b.getD k 0) : share (a.drop k) (b.drop k) = 0 := by
  by_cases ha : k < a.length
  · by_cases hb : k < b.length
    · rw [List.drop_eq_getElem_cons ha, List.drop_eq_getElem_cons hb]
      have e1 : ¬ a[k] = b[k] := by simpa [ha, hb] using e
      show (if a[k] = b[k] then _ else _) = _
      rw [if_neg e1]
    · rw [List.drop_of_length_le (l := b) (by (first | lia | omega))]
      cases a.drop k <;> rfl
  · rw [List.drop_of_length_le (l := a) (by (first | lia | omega))]
    rfl
theorem share_nil {a b : List Nat} {k : Nat} (e : a.length ≤ k ∨ b.length ≤ k) : share (a.drop k) (b.drop k) = 0 := by
  rcases e with e | e
  · rw [List.drop_of_length_le (l := a) e]; rfl
  · rw [List.drop_of_length_le (l := b) e]
    cases a.drop k <;> rfl
structure RowSt where
  (dist res mn : Int)
  (row : List Int)
def stepI (bc : Nat) (as : List Nat) (i : Nat) (q : RowSt) : RowSt :=
  let r : Int := if q.dist + (cost bc (as.getD i 0) : Int) < (if q.row.getD i 0 < q.res then q.row.getD i 0 else q.res) + 2 then q.dist + (cost bc (as.getD i 0) : Int) else (if q.row.getD i 0 < q.res then q.row.getD i 0 else q.res) + 2
  ⟨q.row.getD i 0, r, if r < q.mn then r else q.mn, q.row.set i r⟩
def innerD (bc : Nat) (as : List Nat) (q : RowSt) : Nat → RowSt
  | 0 => q
  | i + 1 => stepI bc as i (innerD bc as q i)
def outerD (as bs : List Nat) (mx : Int) : Nat → Option (Int × List Int)
  | 0 => some (0, (List.range as.length).map fun i : Nat => 2 + 2 * (i : Int))
  | j + 1 => match outerD as bs mx j with
    | none => none
    | some (_, row) =>
      let q := innerD (bs.getD j 0) as ⟨j * 2, j * 2, 9223372036854775807, row⟩ as.length
      if mx < q.mn then none else some (q.res, q.row)
theorem outerD_none {as bs : List Nat} {mx : Int} {j : Nat} (h : outerD as bs mx j = none) : ∀ k, outerD as bs mx (j + k) = none
  | 0 => h
  | k + 1 => by
    show outerD as bs mx ((j + k) + 1) = none
    rw [outerD, outerD_none h k]
def levE (c d : List Nat) (mx : Int) : Int :=
  if mx < ((d.length : Int) - c.length) * 2 then mx + 1 else match outerD c d mx d.length with
    | none => mx + 1
    | some q => q.1
def levC (a b : List Nat) (mx : Int) : Int :=
  if a.length = 0 ∨ b.length = 0 then 2 * ((a.length : Int) + b.length) else if b.length < a.length then levE b a mx else levE a b mx
def levB (a b : List Nat) (mx : Int) : Int := levC (a.take (a.length - share a.reverse b.reverse)) (b.take (b.length - share a.reverse b.reverse)) mx
/-- the distance as the program reckons it -/
def levD (a b : List Nat) (mx : Int) : Int := if a = b then 0 else levB (a.drop (share a b)) (b.drop (share a b)) mx
end

section
open PySem PySem.W PyProof.Rows PySem.Calls PySem.Spec
set_option maxRecDepth 100000
set_option maxHeartbeats 4000000
/-- the law's def as the head finds it -/
noncomputable def lawFd (P : Params) : FuncData := match (hd.heap_1 P).lookup 222 with
  | some ⟨_, _, .func fd, _⟩ => fd
  | _ => default
noncomputable def lawBody (P : Params) : List Stmt := match (lawFd P).body with
  | .stmts l => l
  | _ => []
noncomputable def lawScope (P : Params) : Scope := (lawFd P).scope
/-- the law's statements from a to a + b -/
noncomputable def lawSeg (P : Params) (a b : Nat) : List Stmt := ((lawBody P).drop a).take b
noncomputable abbrev lawEnv (P : Params) (L fa : Addr) (cd : Value) : Env := envOfC (Str.ofString "law") (lawScope P) L fa cd
noncomputable abbrev lawA (P : Params) (L fa : Addr) (cd : Value) : Around := callerA.deeper (lawEnv P L fa cd)
/-- a frame's state -/
def St (h₀ : Heap) (L : Addr) (names : List (Str × Value)) (news : List (Addr × Obj)) (os : OsState) (s : Shared) : Prop :=
  ∃ m, Fr h₀ L s.heap m ∧ Has m names ∧ News h₀ L s.heap news ∧ AllBare s.gens ∧ s.os = os
theorem St.out {h₀ : Heap} {L : Addr} {names : List (Str × Value)} {news : List (Addr × Obj)} {os : OsState} {s : Shared} (x : St h₀ L names news os s) : ∃ m, Fr h₀ L s.heap (put names m) ∧ News h₀ L s.heap news ∧ AllBare s.gens ∧ s.os = os := by
  obtain ⟨m, F, h, N, G, o⟩ := x
  exact ⟨m, fr_put F _ h, N, G, o⟩
theorem St.in {h₀ : Heap} {L : Addr} {names : List (Str × Value)} {news news' : List (Addr × Obj)} {os : OsState} {s : Shared} {m : Str → Option Value} (F : Fr h₀ L s.heap m) (N : News h₀ L s.heap news) (h : Has m names) (hs : ∀ q ∈ news', q ∈ news) (G : AllBare s.gens) (o : s.os = os) : St h₀ L names news' os s :=
  ⟨m, F, h, News.sub N hs, G, o⟩
theorem wp_app {M : Model} {Γ : PySem.Ctx} {env : Env} {Q : Flow → Pos → Shared → Prop} {E : Value → Pos → Shared → Prop} : ∀ {xs ys : List Stmt} {p : Pos} {s : Shared},
    Sem.wp M Γ (execs xs env) (fun f p' s' => match f with | .next => Sem.wp M Γ (execs ys env) Q E p' s' | f => Q f p' s') E p s → Sem.wp M Γ (execs (xs ++ ys) env) Q E p s
  | [], _, _, _, h => h
  | x :: xs, ys, p, s, h => by
    rw [List.cons_append, execs_cons, Sem.wp_bind']
    rw [execs_cons, Sem.wp_bind'] at h
    refine Sem.wp_mono M Γ _ (fun f p' s' h' => ?_) (fun _ _ _ h' => h') _ _ h
    cases f with
    | next => exact wp_app h'
    | _ => exact h'
theorem execs_app {M : Model} {A : Around} {E : Value → Shared → Prop} {Q : Flow → Shared → Prop} {env : Env} {xs ys : List Stmt} {s : Shared}
    (h : wpAny M A (execs xs env) (fun f s' => match f with | .next => wpAny M A (execs ys env) Q E s' | f => Q f s') E s) : wpAny M A (execs (xs ++ ys) env) Q E s := fun Γ p hΓ =>
  wp_app (Q := fun f _ s' => Q f s') (Sem.wp_mono M Γ _ (fun f p' s' h' => by cases f <;> first | exact h' Γ p' hΓ | exact h') (fun _ _ _ h' => h') _ _ (h Γ p hΓ))
theorem ints_any : ∀ {l : List Value}, (∀ v ∈ l, ∃ i t, v = .int i t) → ∃ ns, IntsAre l ns
  | [], _ => ⟨[], .nil⟩
  | v :: l, h => by
    obtain ⟨i, t, rfl⟩ := h v (.head _)
    obtain ⟨ns, hn⟩ := ints_any fun u hu => h u (.tail _ hu)
    exact ⟨i :: ns, .cons i t hn⟩
theorem ints_mem {v : Value} : ∀ {vs : List Value} {ns : List Int}, IntsAre vs ns → v ∈ vs → ∃ i t, v = .int i t
  | _, _, .nil, h => nomatch h
  | _, _, .cons i t hr, h => by
    rcases List.mem_cons.mp h with rfl | h
    · exact ⟨i, t, rfl⟩
    · exact ints_mem hr h
theorem pick_ints {vs : List Value} {ns : List Int} {lo hi st : Option Int} (h : IntsAre vs ns) : ∃ ns', IntsAre (slicePick vs.toArray lo hi st).toList ns' := by
  refine ints_any fun v hv => ?_
  unfold slicePick at hv
  simp only [List.mem_filterMap] at hv
  obtain ⟨j, _, hj⟩ := hv
  exact ints_mem h (by simpa using Array.mem_of_getElem? hj)
section
variable {prog : Program} {w : World} {A : Around} {E : Value → Shared → Prop} {s : Shared} {h₀ : Heap} {L D : Addr} {m : Str → Option Value} {news : List (Addr × Obj)} {vs : List Value} {ns : List Int} {lo hi st : Option Int}
theorem sum_pick {n : Nat} {Q : Value → Shared → Prop} (F : Fr h₀ L s.heap m) (N : News h₀ L s.heap news) (hm : (D, W.listOf (slicePick vs.toArray lo hi st).toList.toArray n) ∈ news) (hI : IntsAre vs ns) (hh : A.handled = none)
    (h : ∀ S h' tk t', Fr h₀ L h' m → News h₀ L h' news → Q (.int S t') { s with heap := h', toks := tk }) : wpAny (model prog w) A (call (.builtin "sum") [.ref D]) Q E s := by
  obtain ⟨ns', hn⟩ := pick_ints (lo := lo) (hi := hi) (st := st) hI
  exact LSm.sum_ints F N hh (vs := (slicePick vs.toArray lo hi st).toList) ⟨_, (N _ hm).1, rfl, _, rfl⟩ hn fun h' tk t' F' N' => h _ h' tk t' F' N'
end
end

section
open PySem PySem.W PyProof.Rows PySem.Calls PySem.Spec
set_option maxRecDepth 100000
set_option maxHeartbeats 4000000
theorem reg_LSA_0 : True := by
  k_with_none
  k_with "zz" => (first | assumption | exact Nat.le_trans (by assumption) (by decide) | exact Nat.lt_of_le_of_lt (by assumption) (by decide) | exact Nat.le_trans (Nat.sub_le _ _) (Nat.le_trans (by assumption) (by decide)) | exact Nat.le_trans (Nat.min_le_right _ _) (Nat.le_trans (by assumption) (by decide)) | exact Nat.sub_pos_of_lt (by assumption) | exact Nat.lt_of_sub_pos (by assumption) | exact mn_pos (by assumption) | exact mn_lt (by assumption) | exact mn_no (by assumption) | exact sb_no (by assumption) | exact nm1 | exact sub1 (by assumption) | exact cp1 (by assumption) | exact cpp (by assumption) | exact cpn (by assumption) | exact cpa (by assumption) | exact sz1 (by assumption) | exact sz2 (by assumption) | exact sz3 (by assumption) | exact sz5 (by assumption) (by decide) | exact na3 (by assumption) (by assumption) | exact na4 (by assumption) (by assumption) | exact na5 (by assumption) (by assumption) | exact fl1 (by assumption) (by decide) | lia | omega)
  k_with "zr" => ((repeat (with_reducible refine rm_deeper ?_)); exact rm_top (by assumption) (by decide))
  k_with "zu" => ((repeat (first | with_reducible refine um_deeper ?_ | with_reducible refine um_in1 ?_)); exact rm_top (by assumption) (by decide))
  k_with "zn" => (refine neN ?_; (try dsimp only); first | exact Nat.ne_of_lt (Nat.add_lt_add_left (by decide) _) | exact Nat.ne_of_gt (Nat.add_lt_add_left (by decide) _) | (refine Nat.ne_of_lt ?_; (try refine lt154 ?_); (repeat (first | assumption | exact ltA (by assumption) (by decide) | refine Nat.lt_trans (by assumption) ?_ | refine Nat.lt_trans (ltA (by assumption) (by decide)) ?_)); done) | (refine Nat.ne_of_gt ?_; (try refine lt154 ?_); (repeat (first | assumption | exact ltA (by assumption) (by decide) | refine Nat.lt_trans (by assumption) ?_ | refine Nat.lt_trans (ltA (by assumption) (by decide)) ?_)); done) | (first | lia | omega))
  k_with "call builtin:sum" => (k_here; (with_reducible show wpAny _ _ (call (Value.builtin "sum") [Value.ref _]) _ _ _); k_dflt (refine Mine.sum_pick (by k_asm) (by k_asm) (by k_mem) (by assumption) (by rfl) ?_); intro S' h' tk' t' F' N'; (try dsimp only))
  k_with "subscriptTail Name Slice ref ref" => (k_here; (with_reducible show wpAny _ _ (subscriptTail _ (PySem.Expr.Slice _ _ (some _) _) (Value.ref _) (Value.ref _)) _ _ _); k_dflt (refine kmk_slice3_lit (by k_asm) (by k_asm) (by kmk_list) (by kmk_part) (by kmk_part) (by kmk_part) (by decide) (by exact rfl) ?_ (by with_unfolding_all rfl) (by kmk_pure) (by kmk_size)); intro D' h' F' N' l1; (try dsimp only); (try k_lt l1); (try k_sweep))
  trivial
theorem wide_of {o : Obj} {D : Int} {t : Tok} (h : o.data = .cell (some (.int (3 + D.fmod 6) t))) : ∃ W : Nat, 3 ≤ W ∧ W ≤ 8 ∧ o.data = .cell (some (.int (W : Int) t)) := by
  have h1 := Int.fmod_nonneg_of_pos D (b := 6) (by decide)
  have h2 := Int.fmod_lt_of_pos D (b := 6) (by decide)
  refine ⟨(3 + D.fmod 6).toNat, by omega, by omega, ?_⟩
  rw [h, Int.toNat_of_nonneg (by omega)]
theorem segA (w : World) {h₀ : Heap} {L fa : Addr} {cd : Value} {s : Shared} {os : OsState} {Q : Flow → Shared → Prop} {E : Value → Shared → Prop} {mg mb : Str → Option Value} {p : Program} {loose : List Str} {mean : ExcName → Option Value}
    {l : Addr} {vs : List Value} {ns : List Int} {c1 c2 c3 c4 c5 c6 c7 : Obj}
    (hLt : 154 < L) (B : Below callerA h₀ [] h₀) (X₀ : (hd.heap_1 w.params).In h₀) (Tp : Top p loose mean mg mb h₀) (hc1 : c1.data = .cell none) (hl : h₀.IsList l vs.toArray) (hI : IntsAre vs ns) (hlen : ns.length ≤ 63)
    (S₀ : St h₀ L [(Str.ofString "script", .ref l)]
      [(L + 7, c7), (L + 6, c6), (L + 5, c5), (L + 4, c4), (L + 3, c3), (L + 2, c2), (L + 1, c1), (147, X.tableObj #[]), (154, X.tableObj #[])] os s)
    (hQ : ∀ s' (D : Int) (W : Nat) t1 t2 c1p, 3 ≤ W → W ≤ 8 → c1p.data = .cell (some (.int (W : Int) t2)) → St h₀ L [(Str.ofString "script", .ref l), (Str.ofString "draw", .int D t1)] [(L + 7, c7), (L + 6, c6), (L + 5, c5), (L + 4, c4), (L + 3, c3), (L + 2, c2), (L + 1, c1p), (147, X.tableObj #[]), (154, X.tableObj #[])] os s' → Q .next s') :
    wpAny (model PySem.Challenge.rw_xl0020_01.row.prog w) (lawA w.params L fa cd) (execs (lawSeg w.params 0 2) (lawEnv w.params L fa cd)) Q E s := by
  obtain ⟨m, F, N, G, ho⟩ := S₀.out
  clear S₀
  obtain ⟨hp, gs, dr, tk0, os0⟩ := s
  dsimp only [put] at F N G ho
  replace hLt := ltN hLt
  revert X₀; k_fill; intro X₀
  unfold lawA lawEnv
  conv in (occs := *) lawScope _ => all_goals whnf
  conv in lawSeg _ _ _ => whnf
  k_steps
  show wpAny _ _ (execs [] _) _ _ _
  refine wpAny_execs_nil ?_
  obtain ⟨W, hW1, hW2, hW⟩ := wide_of (by assumption)
  refine hQ _ _ W _ _ _ hW1 hW2 hW (St.in (by k_asm) (by k_asm) (has_cons rfl (has_cons rfl has_nil)) ?sub G ho)
  (intro q hq; repeat (first | exact hq | refine List.mem_cons_of_mem _ ?_))
end

section
open PySem PySem.W PyProof.Rows PySem.Calls PySem.Spec
set_option maxRecDepth 100000
set_option maxHeartbeats 4000000
theorem reg_LSB_0 : True := by
  k_with_none
  k_with "zz" => (first | assumption | exact Nat.le_trans (by assumption) (by decide) | exact Nat.lt_of_le_of_lt (by assumption) (by decide) | exact Nat.le_trans (Nat.sub_le _ _) (Nat.le_trans (by assumption) (by decide)) | exact Nat.le_trans (Nat.min_le_right _ _) (Nat.le_trans (by assumption) (by decide)) | exact Nat.sub_pos_of_lt (by assumption) | exact Nat.lt_of_sub_pos (by assumption) | exact mn_pos (by assumption) | exact mn_lt (by assumption) | exact mn_no (by assumption) | exact sb_no (by assumption) | exact nm1 | exact sub1 (by assumption) | exact cp1 (by assumption) | exact cpp (by assumption) | exact cpn (by assumption) | exact cpa (by assumption) | exact sz1 (by assumption) | exact sz2 (by assumption) | exact sz3 (by assumption) | exact sz5 (by assumption) (by decide) | exact na3 (by assumption) (by assumption) | exact na4 (by assumption) (by assumption) | exact na5 (by assumption) (by assumption) | exact fl1 (by assumption) (by decide) | lia | omega)
  k_with "zr" => ((repeat (with_reducible refine rm_deeper ?_)); exact rm_top (by assumption) (by decide))
  k_with "zu" => ((repeat (first | with_reducible refine um_deeper ?_ | with_reducible refine um_in1 ?_)); exact rm_top (by assumption) (by decide))
  k_with "zn" => (refine neN ?_; (try dsimp only); first | exact Nat.ne_of_lt (Nat.add_lt_add_left (by decide) _) | exact Nat.ne_of_gt (Nat.add_lt_add_left (by decide) _) | (refine Nat.ne_of_lt ?_; (try refine lt154 ?_); (repeat (first | assumption | exact ltA (by assumption) (by decide) | refine Nat.lt_trans (by assumption) ?_ | refine Nat.lt_trans (ltA (by assumption) (by decide)) ?_)); done) | (refine Nat.ne_of_gt ?_; (try refine lt154 ?_); (repeat (first | assumption | exact ltA (by assumption) (by decide) | refine Nat.lt_trans (by assumption) ?_ | refine Nat.lt_trans (ltA (by assumption) (by decide)) ?_)); done) | (first | lia | omega))
  k_with "call builtin:sum" => (k_here; (with_reducible show wpAny _ _ (call (Value.builtin "sum") [Value.ref _]) _ _ _); k_dflt (refine Mine.sum_pick (by k_asm) (by k_asm) (by k_mem) (by assumption) (by rfl) ?_); intro S' h' tk' t' F' N'; (try dsimp only))
  k_with "subscriptTail Name Slice ref ref" => (k_here; (with_reducible show wpAny _ _ (subscriptTail _ (PySem.Expr.Slice _ _ (some _) _) (Value.ref _) (Value.ref _)) _ _ _); k_dflt (refine kmk_slice3_lit (by k_asm) (by k_asm) (by kmk_list) (by kmk_part) (by kmk_part) (by kmk_part) (by decide) (by exact rfl) ?_ (by with_unfolding_all rfl) (by kmk_pure) (by kmk_size)); intro D' h' F' N' l1; (try dsimp only); (try k_lt l1); (try k_sweep))
  k_with "binaryOp Mod int int" => (k_here; (with_reducible refine mod_int' (by omega) ?_))
  trivial
theorem head_of (D : Int) {W : Nat} (hW : 0 < W) : (D.fmod (W : Int)).toNat < W ∧ D.fmod (W : Int) = ((D.fmod (W : Int)).toNat : Int) := by
  have h1 := Int.fmod_nonneg_of_pos D (b := (W : Int)) (by omega)
  have h2 := Int.fmod_lt_of_pos D (b := (W : Int)) (by omega)
  omega
theorem step_of {o : Obj} {D : Int} {t : Tok} {W : Nat} (hW : 3 ≤ W) (h : o.data = .cell (some (.int (1 + D.fmod ((W : Int) - 1)) t))) : ∃ S : Nat, 1 ≤ S ∧ S < W ∧ o.data = .cell (some (.int (S : Int) t)) := by
  have h1 := Int.fmod_nonneg_of_pos D (b := (W : Int) - 1) (by omega)
  have h2 := Int.fmod_lt_of_pos D (b := (W : Int) - 1) (by omega)
  refine ⟨(1 + D.fmod ((W : Int) - 1)).toNat, by omega, by omega, ?_⟩
  rw [h, Int.toNat_of_nonneg (by omega)]
theorem segB (w : World) {h₀ : Heap} {L fa : Addr} {cd : Value} {s : Shared} {os : OsState} {Q : Flow → Shared → Prop} {E : Value → Shared → Prop} {mg mb : Str → Option Value} {p : Program} {loose : List Str} {mean : ExcName → Option Value}
    {l : Addr} {vs : List Value} {ns : List Int} {c1 c2 c3 c4 c5 c6 c7 : Obj} {D : Int} {W : Nat} {t1 t2 : Tok}
    (hLt : 154 < L) (B : Below callerA h₀ [] h₀) (X₀ : (hd.heap_1 w.params).In h₀) (Tp : Top p loose mean mg mb h₀) (hc1 : c1.data = .cell (some (.int (W : Int) t2))) (hc2 : c2.data = .cell none) (hW1 : 3 ≤ W) (hW2 : W ≤ 8) (hl : h₀.IsList l vs.toArray) (hI : IntsAre vs ns) (hlen : ns.length ≤ 63)
    (S₀ : St h₀ L [(Str.ofString "script", .ref l), (Str.ofString "draw", .int D t1)]
      [(L + 7, c7), (L + 6, c6), (L + 5, c5), (L + 4, c4), (L + 3, c3), (L + 2, c2), (L + 1, c1), (147, X.tableObj #[]), (154, X.tableObj #[])] os s)
    (hQ : ∀ s' (S : Nat) t c2p, 1 ≤ S → S < W → c2p.data = .cell (some (.int (S : Int) t)) → St h₀ L [(Str.ofString "script", .ref l), (Str.ofString "draw", .int D t1)] [(L + 7, c7), (L + 6, c6), (L + 5, c5), (L + 4, c4), (L + 3, c3), (L + 2, c2p), (L + 1, c1), (147, X.tableObj #[]), (154, X.tableObj #[])] os s' → Q .next s') :
    wpAny (model PySem.Challenge.rw_xl0020_01.row.prog w) (lawA w.params L fa cd) (execs (lawSeg w.params 2 1) (lawEnv w.params L fa cd)) Q E s := by
  obtain ⟨m, F, N, G, ho⟩ := S₀.out
  clear S₀
  obtain ⟨hp, gs, dr, tk0, os0⟩ := s
  dsimp only [put] at F N G ho
  replace hLt := ltN hLt
  revert X₀; k_fill; intro X₀
  unfold lawA lawEnv
  conv in (occs := *) lawScope _ => all_goals whnf
  conv in lawSeg _ _ _ => whnf
  k_steps
  show wpAny _ _ (execs [] _) _ _ _
  refine wpAny_execs_nil ?_
  obtain ⟨S, hS1, hS2, hS⟩ := step_of hW1 (by assumption)
  refine hQ _ S _ _ hS1 hS2 hS (St.in (by k_asm) (by k_asm) (has_cons rfl (has_cons rfl has_nil)) ?sub G ho)
  (intro q hq; repeat (first | exact hq | refine List.mem_cons_of_mem _ ?_))
theorem segC (w : World) {h₀ : Heap} {L fa : Addr} {cd : Value} {s : Shared} {os : OsState} {Q : Flow → Shared → Prop} {E : Value → Shared → Prop} {mg mb : Str → Option Value} {p : Program} {loose : List Str} {mean : ExcName → Option Value}
    {l : Addr} {vs : List Value} {ns : List Int} {c1 c2 c3 c4 c5 c6 c7 : Obj} {D : Int} {W : Nat} {t1 t2 : Tok}
    (hLt : 154 < L) (B : Below callerA h₀ [] h₀) (X₀ : (hd.heap_1 w.params).In h₀) (Tp : Top p loose mean mg mb h₀) (hc1 : c1.data = .cell (some (.int (W : Int) t2))) (hW1 : 3 ≤ W) (hW2 : W ≤ 8) (hl : h₀.IsList l vs.toArray) (hI : IntsAre vs ns) (hlen : ns.length ≤ 63)
    (S₀ : St h₀ L [(Str.ofString "script", .ref l), (Str.ofString "draw", .int D t1)]
      [(L + 7, c7), (L + 6, c6), (L + 5, c5), (L + 4, c4), (L + 3, c3), (L + 2, c2), (L + 1, c1), (147, X.tableObj #[]), (154, X.tableObj #[])] os s)
    (hQ : ∀ s' (O x : Int) (H : Nat) t2 t3, H < W → x = (H : Int) → St h₀ L [(Str.ofString "draw", .int D t1), (Str.ofString "lots", .int O t2), (Str.ofString "head", .int x t3)] [(L + 7, c7), (L + 6, c6), (L + 5, c5), (L + 4, c4), (L + 3, c3), (L + 2, c2), (L + 1, c1), (147, X.tableObj #[]), (154, X.tableObj #[])] os s' → Q .next s') :
    wpAny (model PySem.Challenge.rw_xl0020_01.row.prog w) (lawA w.params L fa cd) (execs (lawSeg w.params 3 2) (lawEnv w.params L fa cd)) Q E s := by
  obtain ⟨m, F, N, G, ho⟩ := S₀.out
  clear S₀
  obtain ⟨hp, gs, dr, tk0, os0⟩ := s
  dsimp only [put] at F N G ho
  replace hLt := ltN hLt
  revert X₀; k_fill; intro X₀
  unfold lawA lawEnv
  conv in (occs := *) lawScope _ => all_goals whnf
  conv in lawSeg _ _ _ => whnf
  k_steps
  show wpAny _ _ (execs [] _) _ _ _
  refine wpAny_execs_nil ?_
  refine' hQ _ _ _ _ _ _ ?h1 ?h2 (St.in (by k_asm) (by k_asm) (has_cons rfl (has_cons rfl (has_cons rfl has_nil))) ?sub G ho)
  case h2 => exact (head_of (W := W) _ (by omega)).2
  case h1 => exact (head_of (W := W) _ (by omega)).1
  case sub => (intro q hq; repeat (first | exact hq | refine List.mem_cons_of_mem _ ?_))
end

section
open PySem PySem.W PyProof.Rows PySem.Calls PySem.Spec
set_option maxRecDepth 100000
set_option maxHeartbeats 4000000
/-- what stands ahead of a word and behind it -/
def Marks (fw mk : Str) : Prop := (fw = Str.ofString " " ∧ mk = Str.ofString "") ∨ (fw = Str.ofString "" ∧ mk = Str.ofString ";")
theorem segD1 (w : World) {h₀ : Heap} {L fa : Addr} {cd : Value} {s : Shared} {os : OsState} {Q : Flow → Shared → Prop} {E : Value → Shared → Prop} {mg mb : Str → Option Value} {p : Program} {loose : List Str} {mean : ExcName → Option Value}
    {c1 c2 c3 c4 c5 c6 c7 : Obj} {D O : Int} {H : Nat} {t1 t2 t3 : Tok}
    (hLt : 154 < L) (B : Below callerA h₀ [] h₀) (X₀ : (hd.heap_1 w.params).In h₀) (Tp : Top p loose mean mg mb h₀)
    (S₀ : St h₀ L [(Str.ofString "draw", .int D t1), (Str.ofString "lots", .int O t2), (Str.ofString "head", .int (H : Int) t3)]
      [(L + 7, c7), (L + 6, c6), (L + 5, c5), (L + 4, c4), (L + 3, c3), (L + 2, c2), (L + 1, c1), (147, X.tableObj #[]), (154, X.tableObj #[])] os s)
    (hQ : ∀ s' fw mk t4 t5, Marks fw mk → St h₀ L [(Str.ofString "draw", .int D t1), (Str.ofString "lots", .int O t2), (Str.ofString "head", .int (H : Int) t3), (Str.ofString "lead", .str fw t4), (Str.ofString "mark", .str mk t5)] [(L + 7, c7), (L + 6, c6), (L + 5, c5), (L + 4, c4), (L + 3, c3), (L + 2, c2), (L + 1, c1), (147, X.tableObj #[]), (154, X.tableObj #[])] os s' → Q .next s') :
    wpAny (model PySem.Challenge.rw_xl0020_01.row.prog w) (lawA w.params L fa cd) (execs (lawSeg w.params 5 1) (lawEnv w.params L fa cd)) Q E s := by
  obtain ⟨m, F, N, G, ho⟩ := S₀.out
  clear S₀
  obtain ⟨hp, gs, dr, tk0, os0⟩ := s
  dsimp only [put] at F N G ho
  replace hLt := ltN hLt
  revert X₀; k_fill; intro X₀
  unfold lawA lawEnv
  conv in (occs := *) lawScope _ => all_goals whnf
  conv in lawSeg _ _ _ => whnf
  k_steps
  all_goals
    show wpAny _ _ (execs [] _) _ _ _
    refine wpAny_execs_nil ?_
    refine' hQ _ _ _ _ _ ?m (St.in (by k_asm) (by k_asm) (has_cons rfl (has_cons rfl (has_cons rfl (has_cons rfl (has_cons rfl has_nil))))) ?sub G ho)
    case sub => (intro q hq; repeat (first | exact hq | refine List.mem_cons_of_mem _ ?_))
    case m => first | exact .inl ⟨rfl, rfl⟩ | exact .inr ⟨rfl, rfl⟩
theorem reg_LSD_0 : True := by
  k_with_none
  k_with "zz" => (first | assumption | exact Nat.le_trans (by assumption) (by decide) | exact Nat.lt_of_le_of_lt (by assumption) (by decide) | exact Nat.le_trans (Nat.sub_le _ _) (Nat.le_trans (by assumption) (by decide)) | exact Nat.le_trans (Nat.min_le_right _ _) (Nat.le_trans (by assumption) (by decide)) | exact Nat.sub_pos_of_lt (by assumption) | exact Nat.lt_of_sub_pos (by assumption) | exact mn_pos (by assumption) | exact mn_lt (by assumption) | exact mn_no (by assumption) | exact sb_no (by assumption) | exact nm1 | exact sub1 (by assumption) | exact cp1 (by assumption) | exact cpp (by assumption) | exact cpn (by assumption) | exact cpa (by assumption) | exact sz1 (by assumption) | exact sz2 (by assumption) | exact sz3 (by assumption) | exact sz5 (by assumption) (by decide) | exact na3 (by assumption) (by assumption) | exact na4 (by assumption) (by assumption) | exact na5 (by assumption) (by assumption) | exact fl1 (by assumption) (by decide) | lia | omega)
  k_with "zr" => ((repeat (with_reducible refine rm_deeper ?_)); exact rm_top (by assumption) (by decide))
  k_with "zu" => ((repeat (first | with_reducible refine um_deeper ?_ | with_reducible refine um_in1 ?_)); exact rm_top (by assumption) (by decide))
  k_with "zn" => (refine neN ?_; (try dsimp only); first | exact Nat.ne_of_lt (Nat.add_lt_add_left (by decide) _) | exact Nat.ne_of_gt (Nat.add_lt_add_left (by decide) _) | (refine Nat.ne_of_lt ?_; (try refine lt154 ?_); (repeat (first | assumption | exact ltA (by assumption) (by decide) | refine Nat.lt_trans (by assumption) ?_ | refine Nat.lt_trans (ltA (by assumption) (by decide)) ?_)); done) | (refine Nat.ne_of_gt ?_; (try refine lt154 ?_); (repeat (first | assumption | exact ltA (by assumption) (by decide) | refine Nat.lt_trans (by assumption) ?_ | refine Nat.lt_trans (ltA (by assumption) (by decide)) ?_)); done) | (first | lia | omega))
  k_with "k_enter" => (refine ks_code_super (by k_asm) (by k_asm) (by k_asm) (by k_asm) (by k_asm) (by exact rfl) (by exact rfl) (by exact rfl) (by k_is) (by k_is) (by k_room) (by first | exact BindsTo.of_eq rfl | exact binds_K (by k_in) rfl (by k_is) rfl rfl rfl) (by exact locs rfl) ?_ (by decide) (by exact rfl) (by exact rfl) (by exact rfl); intro g' L' h' FG' F' N' B' X' T' l1; (try k_lt l1); (try dsimp only); (try k_lift B'))
  k_with "k_inst" => (refine Mine.instL (by k_asm) (by k_mem) (by k_mem))
  k_with "call ref" => (k_here; k_dflt (refine Mine.acc_make (by k_asm) (by k_asm) (by k_asm) (by k_is) (by rfl) (by rfl) (by rfl) (by k_is) (by k_is) (by k_is) (by k_is) (by (unfold argsOk; kernel_rfl)) ?_; k_whole; intro x' d' h' F' N' l1 l2; (try k_lt l1); (try k_lt2 l2); (try k_sweep); (first | k_enter | ks_enter)))
  k_with "setAttr ref" => (k_here; k_dflt (refine Mine.acc_set (by k_asm) (by k_asm) (by k_asm) (by k_inst) (by exact rfl) (by k_is) (by k_is) (by rfl) (by rfl) (by k_is) (by k_get) (by k_put) (by k_upd) (by exact Nat.le_of_ble_eq_true rfl) ?_; k_whole; intro h' F' N'; (try k_sweep)))
  k_with "getMethod ref" => (k_here; k_dflt (refine Mine.acc_method (by k_asm) (by k_asm) (by k_inst) (by k_is) (by k_is) (by k_is) (by k_is) (by (first | rfl | decide +kernel)) (by k_get) ?_; k_whole))
  k_with "getMethod ref" => (k_here; k_dflt (first
  | (refine Mine.sup_method Mine.bound_pop (by k_asm) (by k_asm) (by k_asm) (by k_mem) (by k_inst) (by k_is) (by ks_is) (by k_is) (by decide) ?_; k_whole; intro q' h' F' N' l1; (try k_lt l1))
  | (refine Mine.sup_method Mine.bound_init (by k_asm) (by k_asm) (by k_asm) (by k_mem) (by k_inst) (by k_is) (by ks_is) (by k_is) (by decide) ?_; k_whole; intro q' h' F' N' l1; (try k_lt l1))
  | (refine Mine.sup_method Mine.bound_len (by k_asm) (by k_asm) (by k_asm) (by k_mem) (by k_inst) (by k_is) (by ks_is) (by k_is) (by decide) ?_; k_whole; intro q' h' F' N' l1; (try k_lt l1))))
  k_with "callWith ref" => (k_here; k_dflt (refine Mine.callWith_bm (by k_asm) (by k_mem) (by rfl) (by rfl) ?_; k_whole))
  k_with "call ref" => (k_here; k_dflt (first
  | (refine Mine.bm_pop (by k_asm) (by k_asm) (by k_asm) (by k_mem) (by k_inst) (by k_is) (by rfl) (by (first | rfl | decide +kernel)) (by k_upd) (by first | size_fits | (rw [sizeLine_eq]; omega)) ?_; k_whole; intro h' F' N'; (try k_sweep))
  | (refine Mine.bm_init (by k_asm) (by k_asm) (by k_mem) (by k_inst) (by k_upd) ?_; k_whole; intro h' F' N'; (try k_sweep))
  | (refine Mine.bm_len (by k_asm) (by k_mem) (by k_inst) ?_; k_whole)))
  k_with "call builtin:list.append" => (k_here; k_dflt (refine Mine.acc_append (by k_asm) (by k_asm) (by k_asm) (by k_inst) (by k_is) (by k_upd) (by first | size_fits | (rw [sizeLine_eq]; omega)) ?_; k_whole; intro h' F' N'; (try k_sweep)))
  k_with "wpAt" => ((try dsimp only); ks_step "execs cons"; refine ks_wpAt_execs_cons ?_)
  k_with "wpAt" => (k_dflt (ks_step "exec Expr"; refine ks_wpAt_Expr_any ?_))
  k_with "wpAt" => (k_dflt (ks_step "exec Return"; refine ks_wpAt_Return_some ?_))
  k_with "wpAt" => (k_dflt (ks_step "exec Assign"; first | refine ks_wpAt_Assign_Name ?_ | refine ks_wpAt_Assign_Attr ?_))
  k_with "wpAt" => (k_dflt (ks_step "exec If"; refine ks_wpAt_If ?_))
  k_with "wpAt" => (k_dflt (ks_step "eval BinOp"; refine ks_wpAt_BinOp2 ?_))
  k_with "wpAt" => (k_dflt (ks_step "eval Call"; refine ks_wpAt_MethodCall ?_))
  k_with "wpAt" => (k_dflt (ks_step "attributeBase Call"; k_here; (refine ks_node (by k_asm) (by k_asm) (by k_asm) (by k_asm) (by k_is) (by rfl) (by rfl) (by k_inst) (by k_is) (by rfl) (by first | rfl | decide +kernel) (by k_is) (by k_is) (by k_is) (by k_is) (by decide) (by rfl) (by rfl) (by rfl) (by rfl) (by decide +kernel) (by first | boot_by_name | rfl | kernel_rfl) ?_; intro so' h' F' N' l1; (try k_lt l1))))
  k_with "eval Name" => (k_here; (with_reducible show wpAny _ _ (PySem.eval _ (genEnv _ _ _ _ _ _)) _ _ _); k_dflt (refine Mine.gname_L (by k_asm) (by assumption) ?_; k_whole))
  k_with "eval Name" => (k_here; (with_reducible show wpAny _ _ (PySem.eval _ (genEnv _ _ _ _ _ _)) _ _ _); k_dflt (refine Mine.gname_B (by k_asm) (by k_asm) (by k_asm) (by k_is) (by boot_by_name) (by decide) ?_; k_whole))
  k_with "getAttr ref" => (k_here; k_dflt (refine Mine.acc_get (by k_asm) (by k_asm) (by k_inst) (by k_is) (by k_is) (by k_is) (by k_is) (by k_is) (by first | assumption | k_get) (by k_handed) ?_; k_whole))
  k_with "call builtin:len" => (k_here; (with_reducible show wpAny _ _ (call (Value.builtin "len") [Value.str _ _]) _ _ _); k_dflt (refine Mine.len_txt (by assumption) ?_; k_whole))
  k_with "eval Name" => (k_here; (with_reducible show wpAny _ _ (PySem.eval _ (genEnv _ _ _ _ _ _)) _ _ _); k_dflt (refine Mine.gname_K (by k_asm) (by k_asm) (by k_asm) (by k_is) ?_; k_whole))
  k_with "newTuple" => ((with_reducible rename Mine.GMark => hG9); k_here; k_dflt (refine Mine.newTuple_G (by k_asm) ?_ (by size_fits)); k_whole; intro F' N'; (try k_sweep))
  k_with "call ref" => (k_here; (with_reducible show wpAny _ _ (call (Value.ref 152) [Value.ref _]) _ _ _); k_dflt (refine Mine.acc_len_L (by k_asm) (by k_asm) (by k_asm) (by k_asm) (by rfl) (by ktr_room) (by ktr_units) (by ((try dsimp only); assumption)) (by k_mem) (by k_mem) (by k_get) (by k_mem) (by assumption) (by k_is) (by rfl) (by rfl) (by rfl) (by rfl) (by rfl) (by (first | (refine Mine.pairs_snoc (by assumption) (by k_asm) (by k_asm) (by k_mem)) | (refine Mine.PairsAt.keeps (by assumption) (fun T o _ e => Fr.keep (by k_asm) T o e)))) (by assumption) (by assumption) (by assumption) ?_); intro s9 t9 tp9 ht9 F' hN9 G9 os9 hb9; (have N' := hN9 _ (by k_upd)); clear hN9; (try k_sweep); (try (dsimp only [PySem.W.LenBack]; refine ⟨⟨by omega, by omega⟩, ?_⟩)))
  trivial
theorem segD2 (w : World) {h₀ : Heap} {L fa : Addr} {cd : Value} {s : Shared} {os : OsState} {Q : Flow → Shared → Prop} {E : Value → Shared → Prop} {mg mb : Str → Option Value} {p : Program} {loose : List Str} {mean : ExcName → Option Value}
    {c1 c2 c3 c4 c5 c6 c7 : Obj} {D O : Int} {H W : Nat} {t1 t2 t3 t4 t5 tw : Tok} {fw mk : Str}
    (hLt : 154 < L) (B : Below callerA h₀ [] h₀) (X₀ : (hd.heap_1 w.params).In h₀) (Tp : Top p loose mean mg mb h₀) (hc1 : c1.data = .cell (some (.int (W : Int) tw))) (hW2 : W ≤ 8) (hH : H < W)
    (S₀ : St h₀ L [(Str.ofString "draw", .int D t1), (Str.ofString "lots", .int O t2), (Str.ofString "head", .int (H : Int) t3), (Str.ofString "lead", .str fw t4), (Str.ofString "mark", .str mk t5)]
      [(L + 7, c7), (L + 6, c6), (L + 5, c5), (L + 4, c4), (L + 3, c3), (L + 2, c2), (L + 1, c1), (147, X.tableObj #[]), (154, X.tableObj #[])] os s)
    (hQ : ∀ s' (z : FT) (am ad al ac acd : Addr) nl n t6, L + 7 < ad → ad < am → am < al → al < acd → acd < ac → St h₀ L [(Str.ofString "draw", .int D t1), (Str.ofString "lots", .int O t2), (Str.ofString "head", .int (H : Int) t3), (Str.ofString "lead", .str fw t4), (Str.ofString "mark", .str mk t5), (Str.ofString "maker", .ref am), (Str.ofString "line", .str (Str.ofString "") t6)] (fmtLed z (2 * (W : Int)) (2 * (H : Int)) am ad al ac acd [] nl [] n #[] #[] ++ [(L + 7, c7), (L + 6, c6), (L + 5, c5), (L + 4, c4), (L + 3, c3), (L + 2, c2), (L + 1, c1)]) os s' → Q .next s') :
    wpAny (model PySem.Challenge.rw_xl0020_01.row.prog w) (lawA w.params L fa cd) (execs (lawSeg w.params 6 2) (lawEnv w.params L fa cd)) Q E s := by
  obtain ⟨m, F, N, G, ho⟩ := S₀.out
  clear S₀
  obtain ⟨hp, gs, dr, tk0, os0⟩ := s
  dsimp only [put] at F N G ho
  replace hLt := ltN hLt
  revert X₀; k_fill; intro X₀
  unfold lawA lawEnv
  conv in (occs := *) lawScope _ => all_goals whnf
  conv in lawSeg _ _ _ => whnf
  k_steps
  show wpAny _ _ (execs [] _) _ _ _
  refine wpAny_execs_nil ?_
  refine' hQ _ ⟨_, _, _, _, _, _, _, _, _, _, _, _, _, _, _, _, _, _, _⟩ _ _ _ _ _ _ _ _ ?o1 ?o2 ?o3 ?o4 ?o5 (St.in (by k_asm) (by k_asm) (has_cons rfl (has_cons rfl (has_cons rfl (has_cons rfl (has_cons rfl (has_cons rfl (has_cons rfl has_nil))))))) ?sub G ho)
  case sub =>
    refine' sub_cons ?a1 (sub_cons ?a2 (sub_cons ?a3 (sub_cons ?a4 (sub_cons ?a5 (sub_cons ?a6 (sub_cons ?a7 ?a8))))))
    (case a1 => k_mem)
    (case a2 => k_mem)
    (case a3 => k_mem)
    (case a4 => k_mem)
    (case a5 => k_mem)
    (case a6 => k_mem)
    (case a7 => k_mem)
    (case a8 => (refine' sub_cons ?b1 (sub_cons ?b2 (sub_cons ?b3 (sub_cons ?b4 (sub_cons ?b5 (sub_cons ?b6 (sub_cons ?b7 sub_nil)))))); (case b1 => k_mem); (case b2 => k_mem); (case b3 => k_mem); (case b4 => k_mem); (case b5 => k_mem); (case b6 => k_mem); (case b7 => k_mem)))
  case o1 => (refine ltN ?_; omega)
  case o2 => (refine ltN ?_; omega)
  case o3 => (refine ltN ?_; omega)
  case o4 => (refine ltN ?_; omega)
  case o5 => (refine ltN ?_; omega)
end

section
open PySem PySem.W PyProof.Rows PySem.Calls PySem.Spec
set_option maxRecDepth 100000
set_option maxHeartbeats 400000
/-- how the words fall into rows: the head's room, the rows before, the row under way -/
def sim (W H : Nat) : Nat → Nat × List (List Nat) × List Nat
  | 0 => (H, [], [])
  | i + 1 => match sim W H i with
    | (h, d, c) => if h + c.length + 1 ≤ W then (h, d, c ++ [i]) else (0, d ++ [c], [i])
structure SimInv (W H i : Nat) (q : Nat × List (List Nat) × List Nat) : Prop where
  a : q.1 ≤ H
  b : q.1 + q.2.2.length ≤ W
  d : q.2.1.length ≤ i
  c : q.2.2.length ≤ i
theorem sim_inv {W H : Nat} (hH : H < W) : ∀ i, SimInv W H i (sim W H i)
  | 0 => ⟨Nat.le_refl _, Nat.le_of_lt hH, Nat.le_refl _, Nat.le_refl _⟩
  | i + 1 => by
    have x := sim_inv hH i
    rw [sim]
    generalize sim W H i = q at x
    obtain ⟨h, d, c⟩ := q
    obtain ⟨x1, x2, x3, x4⟩ := x
    dsimp only at x1 x2 x3 x4 ⊢
    split
    · exact ⟨x1, by simp; k_extra "zz", by dsimp only; k_extra "zz", by simp; k_extra "zz"⟩
    · exact ⟨Nat.zero_le _, by simp; k_extra "zz", by simp; k_extra "zz", by simp⟩
def wd (S : Nat) (mk : Str) (j : Nat) : Str := (if j % S = 0 then Str.ofString "X" else Str.ofString "x") ++ mk
def pr (fw mk : Str) (S j : Nat) : Str × Str := (fw, wd S mk j)
theorem pr_len {fw mk : Str} (h : Marks fw mk) (S j : Nat) : (pr fw mk S j).1.length + (pr fw mk S j).2.length = 2 := by
  unfold pr wd
  rcases h with ⟨rfl, rfl⟩ | ⟨rfl, rfl⟩ <;> split <;> decide +kernel
theorem total_pr {fw mk : Str} (h : Marks fw mk) (S : Nat) : ∀ l : List Nat, total (l.map (pr fw mk S)) = 2 * (l.length : Int)
  | [] => rfl
  | j :: l => by
    rw [List.map_cons, total_cons, total_pr h S l, pr_len h, List.length_cons]
    push_cast; k_extra "zz"
theorem pr_small {fw mk : Str} (h : Marks fw mk) (S j : Nat) : (pr fw mk S j).1.length ≤ 1048576 ∧ (pr fw mk S j).2.length ≤ 1048576 := by
  have := pr_len h S j
  k_extra "zz"
theorem wd_space (S j : Nat) : wd S (Str.ofString "") j = Str.ofString "X" ∨ wd S (Str.ofString "") j = Str.ofString "x" := by
  unfold wd
  split
  · left; decide +kernel
  · right; decide +kernel
theorem wd_semi (S j : Nat) : wd S (Str.ofString ";") j = Str.ofString "X;" ∨ wd S (Str.ofString ";") j = Str.ofString "x;" := by
  unfold wd
  split
  · left; decide +kernel
  · right; decide +kernel
/-- what holds of the row's values -/
structure RowOk (h₀ : Heap) (L ac : Addr) (h : Heap) (ls xs : List Value) (tp1 tp2 : Array Value) (lines : List Str) (ps : List (Str × Str)) : Prop where
  t1 : TriplesOk tp1.toList
  t2 : TriplesOk tp2.toList
  pa : PairsAt h xs ps
  ln : LinesAt ls lines
  nd : xs.Nodup
  ex : Exact h xs
  ab : Above ac xs
  fr : ∀ T, .ref T ∈ xs → T ≠ L ∧ h₀.get? T = none
theorem maker_news {h₀ h h' : Heap} {L : Addr} {mx i0 : Int} {am ad al ac acd : Addr} {σ : FSt} {z : FT} {ls xs : List Value} {nl n : Nat} {tp1 tp2 : Array Value} (M : MakerAt h₀ L h mx am ad al ac acd σ) (N : News h₀ L h' (fmtLed z mx i0 am ad al ac acd ls nl xs n tp1 tp2)) :
    ∃ z nl n ls xs tp1 tp2, News h₀ L h (fmtLed z mx σ.i0 am ad al ac acd ls nl xs n tp1 tp2) ∧ RowOk h₀ L ac h ls xs tp1 tp2 σ.lines σ.ps := by
  obtain ⟨z', nl', n', ls', xs', tp1', tp2', hg, a, b, c, d, e, f, g', g⟩ := M
  refine ⟨z', nl', n', ls', xs', tp1', tp2', fun q hq => ⟨hg q hq, ?_⟩, a, b, c, d, e, f, g', g⟩
  have key : ∃ q' ∈ fmtLed z mx i0 am ad al ac acd ls nl xs n tp1 tp2, q'.1 = q.1 := by
    simp only [fmtLed, List.mem_cons, List.not_mem_nil, or_false] at hq ⊢
    rcases hq with rfl | rfl | rfl | rfl | rfl | rfl | rfl
    · exact ⟨_, .inl rfl, rfl⟩
    · exact ⟨_, .inr (.inl rfl), rfl⟩
    · exact ⟨_, .inr (.inr (.inl rfl)), rfl⟩
    · exact ⟨_, .inr (.inr (.inr (.inl rfl))), rfl⟩
    · exact ⟨_, .inr (.inr (.inr (.inr (.inl rfl)))), rfl⟩
    · exact ⟨_, .inr (.inr (.inr (.inr (.inr (.inl rfl))))), rfl⟩
    · exact ⟨_, .inr (.inr (.inr (.inr (.inr (.inr rfl))))), rfl⟩
  obtain ⟨q', hq', e'⟩ := key
  rw [← e']
  exact (N q' hq').2
theorem append_word (w : World) {E Q : Value → Shared → Prop} {s : Shared} {A₀ : Around} {base h₀ : Heap} {outer : List Env} {L : Addr} {m mg mb : Str → Option Value} {p : Program} {loose : List Str} {mean : ExcName → Option Value}
    {dp un : Nat} {gd : Option (List Code)} {cn : Str} {nm : List (Str × NameKind)} {gg co : Bool} {more : List (Str × Const)} {a : Addr} {ccd : Value} {cl : List (Str × Addr)}
    {z : FT} {am ad al ac acd : Addr} {ls xs : List Value} {nl n : Nat} {tp1 tp2 : Array Value} {fw mk : Str} {tf ts : Tok} {W H S i : Nat}
    (B : Below A₀ base outer h₀) (F : Fr h₀ L s.heap m) (X₀ : (hd.heap_1 w.params).In h₀) (T : Top p loose mean mg mb h₀)
    (hd1 : dp + 12 < recursionLimit) (hu : un + 80 < cLine) (G : AllBare s.gens) (hW : W ≤ 8) (hH : H < W) (hi : i ≤ 100) (hM : Marks fw mk)
    (N : News h₀ L s.heap (fmtLed z (2 * (W : Int)) (2 * ((sim W H i).1 : Int)) am ad al ac acd ls nl xs n tp1 tp2))
    (R : RowOk h₀ L ac s.heap ls xs tp1 tp2 ((sim W H i).2.1.map fun r => cat (r.map (pr fw mk S))) ((sim W H i).2.2.map (pr fw mk S)))
    (o1 : 154 < ad) (o2 : ad < am) (o3 : am < al) (o4 : al < acd) (o5 : acd < ac)
    (hQ : ∀ s', (∀ b o, b ∉ [al, ac, acd, 147, 154] → s.heap.get? b = some o → s'.heap.get? b = some o) →
      MakerAt h₀ L s'.heap (2 * (W : Int)) am ad al ac acd ⟨2 * ((sim W H (i + 1)).1 : Int), (sim W H (i + 1)).2.1.map fun r => cat (r.map (pr fw mk S)), (sim W H (i + 1)).2.2.map (pr fw mk S)⟩ → AllBare s'.gens → s'.os = s.os → Q .none s') :
    wpAny (model PySem.Challenge.rw_xl0020_01.row.prog w) (ktrTop dp un gd cn ⟨.function, nm, gg, co, more⟩ L a ccd cl outer) (call (.ref 98) [.ref am, .str fw tf, .str (wd S mk i) ts]) Q E s := by
  have x := sim_inv hH i
  rw [sim] at hQ
  generalize sim W H i = q at *
  obtain ⟨h, d, c⟩ := q
  obtain ⟨x1, x2, x3, x4⟩ := x
  dsimp only at *
  have e1 : c.map (pr fw mk S) ++ [(fw, wd S mk i)] = (c ++ [i]).map (pr fw mk S) := by simp [pr]
  have ht : total (c.map (pr fw mk S) ++ [(fw, wd S mk i)]) = 2 * ((c.length : Int) + 1) := by
    rw [e1, total_pr hM, List.length_append]; push_cast; rfl
  have hsm : ∀ q ∈ c.map (pr fw mk S) ++ [(fw, wd S mk i)], q.1.length ≤ 1048576 ∧ q.2.length ≤ 1048576 := by
    rw [e1]
    intro q hq
    obtain ⟨j, _, rfl⟩ := List.mem_map.mp hq
    exact pr_small hM S j
  have hxs : xs.length = c.length := by rw [R.pa.length, List.length_map]
  have hls : ls.length = d.length := by rw [R.ln.length, List.length_map]
  by_cases hc : h + c.length + 1 ≤ W
  · rw [if_pos hc] at hQ
    dsimp only at hQ
    refine chunk1 w B F X₀ T hd1 hu G N o1 o2 o3 o4 o5 (by k_extra "zz") R.t1 R.t2 R.pa hsm (by k_extra "zz") (by rw [ht]; k_extra "zz") (by rw [ht]; k_extra "zz") R.ln R.nd R.ex R.ab R.fr fun s' hk M G' os' => hQ s' hk ?_ G' os'
    rw [← e1]; exact M
  · rw [if_neg hc] at hQ
    dsimp only at hQ
    have hne : 0 < (c.map (pr fw mk S)).length := by rw [List.length_map]; k_extra "zz"
    rcases hM with ⟨rfl, rfl⟩ | ⟨rfl, rfl⟩
    · refine chunk2 w B F X₀ T hd1 hu G N o1 o2 o3 o4 o5 (by k_extra "zz") R.t1 R.t2 R.pa hsm (by k_extra "zz") (by rw [ht]; k_extra "zz") (by rw [ht]; k_extra "zz") hne ⟨?_⟩ R.ln R.fr (by k_extra "zz") fun s' hk M G' os' => hQ s' hk ?_ G' os'
      · rw [e1]
        intro q hq
        obtain ⟨j, _, rfl⟩ := List.mem_map.mp hq
        exact ⟨rfl, wd_space S j⟩
      · simpa [pr] using M
    · refine chunk3 w B F X₀ T hd1 hu G N o1 o2 o3 o4 o5 (by k_extra "zz") R.t1 R.t2 R.pa hsm (by k_extra "zz") (by rw [ht]; k_extra "zz") (by rw [ht]; k_extra "zz") hne ⟨?_⟩ R.ln R.fr (by k_extra "zz") fun s' hk M G' os' => hQ s' hk ?_ G' os'
      · rw [e1]
        intro q hq
        obtain ⟨j, _, rfl⟩ := List.mem_map.mp hq
        exact ⟨rfl, wd_semi S j⟩
      · simpa [pr] using M
end

section
open PySem PySem.W PyProof.Rows PySem.Calls PySem.Spec
set_option maxRecDepth 100000
set_option maxHeartbeats 400000
/-- the row's tuples as a ledger -/
def TupsIn : List (Addr × Obj) → List Value → List (Str × Str) → Prop
  | [], [], [] => True
  | q :: tl, v :: vs, p :: ps => (v = .ref q.1 ∧ ∃ ta tb n, q.2 = { cls := .type "tuple", data := .seq #[.str p.1 ta, .str p.2 tb] n }) ∧ TupsIn tl vs ps
  | _, _, _ => False
theorem tups_of {h₀ h : Heap} {L : Addr} : ∀ {xs : List Value} {ps : List (Str × Str)}, PairsAt h xs ps → Exact h xs → (∀ T, .ref T ∈ xs → T ≠ L ∧ h₀.get? T = none) → ∃ tl, News h₀ L h tl ∧ TupsIn tl xs ps
  | [], [], _, _, _ => ⟨[], nil_news, trivial⟩
  | v :: vs, p :: ps, x, e, f => by
    obtain ⟨⟨T, ta, tb, rfl, o, ho, hc, n, hd⟩, x2⟩ := x
    obtain ⟨tl, N, hT⟩ := tups_of x2 (fun T hT => e T (.tail _ hT)) (fun T hT => f T (.tail _ hT))
    obtain ⟨items, n', he⟩ := e T (.head _)
    have := ho.symm.trans he
    injection this with this
    subst this
    dsimp only at hd
    injection hd with h1 h2
    subst h1
    refine ⟨(T, _) :: tl, fun q hq => ?_, ⟨rfl, ta, tb, n', rfl⟩, hT⟩
    rcases List.mem_cons.mp hq with rfl | hq
    · exact ⟨he, f T (.head _)⟩
    · exact N q hq
  | [], _ :: _, x, _, _ => x.elim
  | _ :: _, [], x, _, _ => x.elim
theorem tups_pairs {h₀ h : Heap} {L : Addr} : ∀ {tl : List (Addr × Obj)} {xs : List Value} {ps : List (Str × Str)}, TupsIn tl xs ps → News h₀ L h tl → PairsAt h xs ps
  | [], [], [], _, _ => trivial
  | q :: tl, v :: vs, p :: ps, x, N => by
    obtain ⟨⟨rfl, ta, tb, n, e⟩, x2⟩ := x
    have h1 := (N q (.head _)).1
    rw [e] at h1
    exact ⟨⟨_, ta, tb, rfl, _, h1, rfl, _, rfl⟩, tups_pairs x2 fun r hr => N r (.tail _ hr)⟩
  | [], [], _ :: _, x, _ => x.elim
  | [], _ :: _, _, x, _ => x.elim
  | _ :: _, [], _, x, _ => x.elim
  | _ :: _, _ :: _, [], x, _ => x.elim
theorem tups_snoc {p : Str × Str} : ∀ {tl : List (Addr × Obj)} {xs : List Value} {ps : List (Str × Str)}, TupsIn tl xs (ps ++ [p]) →
    ∃ tl' T xs' ta tb n, tl = tl' ++ [(T, { cls := .type "tuple", data := .seq #[.str p.1 ta, .str p.2 tb] n })] ∧ xs = xs' ++ [.ref T] ∧ TupsIn tl' xs' ps
  | [], [], [], x => x.elim
  | [], [], _ :: _, x => x.elim
  | q :: tl, v :: vs, [], x => by
    obtain ⟨⟨rfl, ta, tb, n, e⟩, x2⟩ := x
    cases tl with
    | nil =>
      cases vs with
      | nil => exact ⟨[], q.1, [], ta, tb, n, by rw [← e]; rfl, rfl, trivial⟩
      | cons _ _ => exact x2.elim
    | cons _ _ =>
      cases vs with
      | nil => exact x2.elim
      | cons _ _ => exact x2.elim
  | q :: tl, v :: vs, r :: ps, x => by
    obtain ⟨h1, x2⟩ := x
    obtain ⟨tl', T, xs', ta, tb, n, rfl, rfl, h2⟩ := tups_snoc x2
    exact ⟨q :: tl', T, v :: xs', ta, tb, n, rfl, rfl, h1, h2⟩
  | [], _ :: _, [], x => x.elim
  | [], _ :: _, _ :: _, x => x.elim
  | _ :: _, [], [], x => x.elim
  | _ :: _, [], _ :: _, x => x.elim
theorem tups_mem {T : Addr} : ∀ {tl : List (Addr × Obj)} {xs : List Value} {ps : List (Str × Str)}, TupsIn tl xs ps → .ref T ∈ xs → ∃ items n, (T, ({ cls := .type "tuple", data := .seq items n } : Obj)) ∈ tl
  | [], [], [], _, h => nomatch h
  | q :: tl, v :: vs, p :: ps, x, h => by
    obtain ⟨⟨rfl, ta, tb, n, e⟩, x2⟩ := x
    rcases List.mem_cons.mp h with h | h
    · injection h with h
      exact ⟨_, n, by rw [h, ← e]; exact .head _⟩
    · obtain ⟨items, n, hm⟩ := tups_mem x2 h
      exact ⟨items, n, .tail _ hm⟩
  | [], [], _ :: _, x, _ => x.elim
  | [], _ :: _, _, x, _ => x.elim
  | _ :: _, [], _, x, _ => x.elim
  | _ :: _, _ :: _, [], x, _ => x.elim
theorem tups_cls : ∀ {tl : List (Addr × Obj)} {xs : List Value} {ps : List (Str × Str)}, TupsIn tl xs ps → ∀ q ∈ tl, q.2.cls = .type "tuple"
  | [], [], [], _, _, h => nomatch h
  | q :: tl, v :: vs, p :: ps, x, r, h => by
    obtain ⟨⟨_, ta, tb, n, e⟩, x2⟩ := x
    rcases List.mem_cons.mp h with rfl | h
    · rw [e]
    · exact tups_cls x2 r h
  | [], [], _ :: _, x, _, _ => x.elim
  | [], _ :: _, _, x, _, _ => x.elim
  | _ :: _, [], _, x, _, _ => x.elim
  | _ :: _, _ :: _, [], x, _, _ => x.elim
theorem tups_exact {h₀ h : Heap} {L : Addr} {tl : List (Addr × Obj)} {xs : List Value} {ps : List (Str × Str)} (x : TupsIn tl xs ps) (N : News h₀ L h tl) : Exact h xs := fun T hT => by
  obtain ⟨items, n, hm⟩ := tups_mem x hT
  exact ⟨items, n, (N _ hm).1⟩
theorem tups_fresh {h₀ h : Heap} {L : Addr} {tl : List (Addr × Obj)} {xs : List Value} {ps : List (Str × Str)} (x : TupsIn tl xs ps) (N : News h₀ L h tl) : ∀ T, .ref T ∈ xs → T ≠ L ∧ h₀.get? T = none := fun T hT => by
  obtain ⟨items, n, hm⟩ := tups_mem x hT
  exact (N _ hm).2
/-- two of a ledger's entries of unlike classes stand apart -/
theorem cls_ne {h₀ h : Heap} {L : Addr} {news : List (Addr × Obj)} (N : News h₀ L h news) {q r : Addr × Obj} (hq : q ∈ news) (hr : r ∈ news) (hc : q.2.cls ≠ r.2.cls) : q.1 ≠ r.1 := fun e => by
  have h1 := (N q hq).1
  rw [e, (N r hr).1] at h1
  injection h1 with h1
  exact hc (by rw [h1])
theorem news_kept {h₀ h h' : Heap} {L : Addr} {news : List (Addr × Obj)} {ch : List Addr} (N : News h₀ L h news) (hk : ∀ b o, b ∉ ch → h.get? b = some o → h'.get? b = some o) (hd : ∀ q ∈ news, q.1 ∉ ch) : News h₀ L h' news :=
  fun q hq => ⟨hk _ _ (hd q hq) (N q hq).1, (N q hq).2⟩
theorem fr_kept {h₀ h h' : Heap} {L : Addr} {m : Str → Option Value} {ch : List Addr} (F : Fr h₀ L h m) (hk : ∀ b o, b ∉ ch → h.get? b = some o → h'.get? b = some o) (hc : ∀ b ∈ ch, b ≠ L ∧ h₀.get? b = none) : Fr h₀ L h' m :=
  ⟨F.ns.at' fun o e => hk L o (fun hb => (hc L hb).1 rfl) e, fun b o e => hk b o (fun hb => by rw [(hc b hb).2] at e; cases e) (F.keep b o e), F.above⟩
theorem news_app {h₀ h : Heap} {L : Addr} {a b : List (Addr × Obj)} (A : News h₀ L h a) (B : News h₀ L h b) : News h₀ L h (a ++ b) := fun q hq => by
  rcases List.mem_append.mp hq with hq | hq
  · exact A q hq
  · exact B q hq
theorem mem5 {P : Addr → Prop} {a b c d e : Addr} (h1 : P a) (h2 : P b) (h3 : P c) (h4 : P d) (h5 : P e) : ∀ x ∈ [a, b, c, d, e], P x := by
  intro x hx
  simp only [List.mem_cons, List.not_mem_nil, or_false] at hx
  rcases hx with rfl | rfl | rfl | rfl | rfl <;> assumption
theorem no5 {q a b c d e : Addr} (h1 : q ≠ a) (h2 : q ≠ b) (h3 : q ≠ c) (h4 : q ≠ d) (h5 : q ≠ e) : q ∈ [a, b, c, d, e] → False := by
  intro hx
  simp only [List.mem_cons, List.not_mem_nil, or_false] at hx
  rcases hx with h | h | h | h | h
  · exact h1 h
  · exact h2 h
  · exact h3 h
  · exact h4 h
  · exact h5 h
theorem all_n {α : Type} {P : α → Prop} : ∀ q ∈ ([] : List α), P q := fun _ h => nomatch h
theorem all_c {α : Type} {P : α → Prop} {a : α} {l : List α} (h : P a) (t : ∀ q ∈ l, P q) : ∀ q ∈ a :: l, P q := fun q hq => by
  rcases List.mem_cons.mp hq with rfl | hq
  · exact h
  · exact t q hq
theorem sub_c {α : Type} {a : α} {l l' : List α} (h : a ∈ l') (t : ∀ q ∈ l, q ∈ l') : ∀ q ∈ a :: l, q ∈ l' := fun q hq => by
  rcases List.mem_cons.mp hq with rfl | hq
  · exact h
  · exact t q hq
theorem news_pair {h₀ h : Heap} {L a b : Addr} {o q : Obj} (e1 : h.get? a = some o) (p1 : a ≠ L ∧ h₀.get? a = none) (e2 : h.get? b = some q) (p2 : b ≠ L ∧ h₀.get? b = none) : News h₀ L h [(a, o), (b, q)] := fun x hx => by
  rcases List.mem_cons.mp hx with rfl | hx
  · exact ⟨e1, p1⟩
  · rw [List.mem_singleton.mp hx]; exact ⟨e2, p2⟩
end

section
open PySem PySem.W PyProof.Rows PySem.Calls PySem.Spec
set_option maxRecDepth 100000
set_option maxHeartbeats 4000000
/-- the words laid end to end -/
def lineT (fw mk : Str) (S : Nat) : Nat → Str
  | 0 => Str.ofString ""
  | i + 1 => lineT fw mk S i ++ (fw ++ wd S mk i)
def rowsT (fw mk : Str) (S : Nat) (d : List (List Nat)) : List Str := d.map fun r => cat (r.map (pr fw mk S))
theorem marks_len {fw mk : Str} (h : Marks fw mk) : fw.length ≤ 1 ∧ mk.length ≤ 1 := by
  rcases h with ⟨rfl, rfl⟩ | ⟨rfl, rfl⟩ <;> decide +kernel
theorem wd_len {fw mk : Str} (h : Marks fw mk) (S j : Nat) : (wd S mk j).length ≤ 2 := by
  have := pr_len h S j
  unfold pr at this
  dsimp only at this
  (first | lia | omega)
theorem line_len {fw mk : Str} (h : Marks fw mk) (S : Nat) : ∀ i, (lineT fw mk S i).length = 2 * i
  | 0 => by
    show (Str.ofString "").length = 0
    decide +kernel
  | i + 1 => by
    have := pr_len h S i
    unfold pr at this
    dsimp only at this
    rw [lineT, Str.length_append, Str.length_append, line_len h S i]
    (first | lia | omega)
theorem reg_LSE_0 : True := by
  k_with_none
  k_with "zz" => (first | assumption | exact Nat.le_trans (by assumption) (by decide) | exact Nat.lt_of_le_of_lt (by assumption) (by decide) | exact Nat.le_trans (Nat.sub_le _ _) (Nat.le_trans (by assumption) (by decide)) | exact Nat.le_trans (Nat.min_le_right _ _) (Nat.le_trans (by assumption) (by decide)) | exact Nat.sub_pos_of_lt (by assumption) | exact Nat.lt_of_sub_pos (by assumption) | exact mn_pos (by assumption) | exact mn_lt (by assumption) | exact mn_no (by assumption) | exact sb_no (by assumption) | exact nm1 | exact sub1 (by assumption) | exact cp1 (by assumption) | exact cpp (by assumption) | exact cpn (by assumption) | exact cpa (by assumption) | exact sz1 (by assumption) | exact sz2 (by assumption) | exact sz3 (by assumption) | exact sz5 (by assumption) (by decide) | exact na3 (by assumption) (by assumption) | exact na4 (by assumption) (by assumption) | exact na5 (by assumption) (by assumption) | exact fl1 (by assumption) (by decide) | lia | omega)
  k_with "zr" => ((repeat (with_reducible refine rm_deeper ?_)); exact rm_top (by assumption) (by decide))
  k_with "zu" => ((repeat (first | with_reducible refine um_deeper ?_ | with_reducible refine um_in1 ?_)); exact rm_top (by assumption) (by decide))
  k_with "zn" => (refine neN ?_; (try dsimp only); first | exact Nat.ne_of_lt (Nat.add_lt_add_left (by decide) _) | exact Nat.ne_of_gt (Nat.add_lt_add_left (by decide) _) | (refine Nat.ne_of_lt ?_; (try refine lt154 ?_); (repeat (first | assumption | exact ltA (by assumption) (by decide) | refine Nat.lt_trans (by assumption) ?_ | refine Nat.lt_trans (ltA (by assumption) (by decide)) ?_)); done) | (refine Nat.ne_of_gt ?_; (try refine lt154 ?_); (repeat (first | assumption | exact ltA (by assumption) (by decide) | refine Nat.lt_trans (by assumption) ?_ | refine Nat.lt_trans (ltA (by assumption) (by decide)) ?_)); done) | (first | lia | omega))
  k_with "binaryOp Add str str" => (k_here; k_dflt (refine SBL.add ?_ (by (rw [sizeLine_eq]; (first | lia | omega)))); intro tk' t' hl'; (try dsimp only))
  k_with "inplaceOp Add str str" => (k_here; k_dflt (refine SBL.iadd ?_ (by (rw [sizeLine_eq]; (first | lia | omega)))); intro tk' t' hl'; (try dsimp only))
  k_with "exec For Name Call cons nil" => refine Mine.halt ?_
  k_with "call ref" => (k_here; (with_reducible show wpAny _ _ (call (Value.ref 98) _) _ _ _); refine Mine.halt ?_)
  trivial
/-- the state between the turns -/
inductive JE (L am ad al ac acd : Addr) (c1 c2 c3 c4 c5 c6 c7 : Obj) (D O : Int) (H W S : Nat) (fw mk : Str) (os : OsState) (i : Nat) (m₁ : Str → Option Value) (news₁ : List (Addr × Obj)) (s₁ : Shared) : Prop
  | mk (z : FT) (nl n : Nat) (ls xs : List Value) (tp1 tp2 : Array Value) (tl : List (Addr × Obj)) (t1 t2 t3 t4 t5 t6 : Tok)
    (hm : Has m₁ [(Str.ofString "draw", .int D t1), (Str.ofString "lots", .int O t2), (Str.ofString "head", .int (H : Int) t3), (Str.ofString "lead", .str fw t4), (Str.ofString "mark", .str mk t5), (Str.ofString "maker", .ref am), (Str.ofString "line", .str (lineT fw mk S i) t6)])
    (hn : news₁ = fmtLed z (2 * (W : Int)) (2 * ((sim W H i).1 : Int)) am ad al ac acd ls nl xs n tp1 tp2 ++ [(L + 7, c7), (L + 6, c6), (L + 5, c5), (L + 4, c4), (L + 3, c3), (L + 2, c2), (L + 1, c1)] ++ tl)
    (ht1 : TriplesOk tp1.toList) (ht2 : TriplesOk tp2.toList) (hT : TupsIn tl xs ((sim W H i).2.2.map (pr fw mk S))) (hl : LinesAt ls (rowsT fw mk S (sim W H i).2.1)) (hnd : xs.Nodup) (hab : Above ac xs) (hg : AllBare s₁.gens) (ho : s₁.os = os)
/-- the names where the part is known -/
inductive MidE (am : Addr) (D O : Int) (H S i : Nat) (fw mk : Str) (m₁ : Str → Option Value) : Prop
  | mk (x : Str) (t1 t2 t3 t4 t5 t6 t7 : Tok) (hm : Has m₁ [(Str.ofString "draw", .int D t1), (Str.ofString "lots", .int O t2), (Str.ofString "head", .int (H : Int) t3), (Str.ofString "lead", .str fw t4), (Str.ofString "mark", .str mk t5), (Str.ofString "maker", .ref am), (Str.ofString "line", .str (lineT fw mk S i) t6), (Str.ofString "part", .str x t7)]) (hx : x = wd S mk i)
/-- the maker and its row's tuples -/
inductive MkE (h₀ : Heap) (L am ad al ac acd : Addr) (mx i0 : Int) (lines : List Str) (ps : List (Str × Str)) (h : Heap) : Prop
  | mk (z : FT) (nl n : Nat) (ls xs : List Value) (tp1 tp2 : Array Value) (tl : List (Addr × Obj)) (N : News h₀ L h (fmtLed z mx i0 am ad al ac acd ls nl xs n tp1 tp2)) (R : RowOk h₀ L ac h ls xs tp1 tp2 lines ps) (Nt : News h₀ L h tl) (T : TupsIn tl xs ps)
theorem mkE {h₀ h h' : Heap} {L : Addr} {mx i0 : Int} {am ad al ac acd : Addr} {σ : FSt} {z : FT} {ls xs : List Value} {nl n : Nat} {tp1 tp2 : Array Value} (M : MakerAt h₀ L h mx am ad al ac acd σ) (N : News h₀ L h' (fmtLed z mx i0 am ad al ac acd ls nl xs n tp1 tp2)) : MkE h₀ L am ad al ac acd mx σ.i0 σ.lines σ.ps h := by
  obtain ⟨z', nl', n', ls', xs', tp1', tp2', NM', R'⟩ := maker_news M N
  obtain ⟨tl', Nt', hT'⟩ := tups_of R'.pa R'.ex R'.fr
  exact ⟨z', nl', n', ls', xs', tp1', tp2', tl', NM', R', Nt', hT'⟩
theorem segE (w : World) {h₀ : Heap} {L fa : Addr} {cd : Value} {s : Shared} {os : OsState} {Q : Flow → Shared → Prop} {E : Value → Shared → Prop} {mg mb : Str → Option Value} {p : Program} {loose : List Str} {mean : ExcName → Option Value}
    {c1 c2 c3 c4 c5 c6 c7 : Obj} {D O : Int} {H W S : Nat} {t1 t2 t3 t4 t5 t6 tw ts : Tok} {fw mk : Str} {z : FT} {am ad al ac acd : Addr} {nl n : Nat}
    (hLt : 154 < L) (B : Below callerA h₀ [] h₀) (X₀ : (hd.heap_1 w.params).In h₀) (Tp : Top p loose mean mg mb h₀) (hE : PassesOwn (model PySem.Challenge.rw_xl0020_01.row.prog w) (lawA w.params L fa cd) (lawEnv w.params L fa cd) E) (hc1 : c1.data = .cell (some (.int (W : Int) tw))) (hc2 : c2.data = .cell (some (.int (S : Int) ts))) (hW1 : 3 ≤ W) (hW2 : W ≤ 8) (hS1 : 1 ≤ S) (hS2 : S < W) (hH : H < W) (hM : Marks fw mk) (o1 : L + 7 < ad) (o2 : ad < am) (o3 : am < al) (o4 : al < acd) (o5 : acd < ac)
    (S₀ : St h₀ L [(Str.ofString "draw", .int D t1), (Str.ofString "lots", .int O t2), (Str.ofString "head", .int (H : Int) t3), (Str.ofString "lead", .str fw t4), (Str.ofString "mark", .str mk t5), (Str.ofString "maker", .ref am), (Str.ofString "line", .str (Str.ofString "") t6)]
      (fmtLed z (2 * (W : Int)) (2 * (H : Int)) am ad al ac acd [] nl [] n #[] #[] ++ [(L + 7, c7), (L + 6, c6), (L + 5, c5), (L + 4, c4), (L + 3, c3), (L + 2, c2), (L + 1, c1)]) os s)
    (hQ : ∀ s' (z : FT) ls nl xs n tp1 tp2 tl t1 t2 t3 t6, RowOk h₀ L ac s'.heap ls xs tp1 tp2 (rowsT fw mk S (sim W H (W * S + 1)).2.1) ((sim W H (W * S + 1)).2.2.map (pr fw mk S)) → TupsIn tl xs ((sim W H (W * S + 1)).2.2.map (pr fw mk S)) → St h₀ L [(Str.ofString "draw", .int D t1), (Str.ofString "lots", .int O t2), (Str.ofString "head", .int (H : Int) t3), (Str.ofString "maker", .ref am), (Str.ofString "line", .str (lineT fw mk S (W * S + 1)) t6)] (fmtLed z (2 * (W : Int)) (2 * ((sim W H (W * S + 1)).1 : Int)) am ad al ac acd ls nl xs n tp1 tp2 ++ [(L + 7, c7), (L + 6, c6), (L + 5, c5), (L + 4, c4), (L + 3, c3), (L + 2, c2), (L + 1, c1)] ++ tl) os s' → Q .next s') :
    wpAny (model PySem.Challenge.rw_xl0020_01.row.prog w) (lawA w.params L fa cd) (execs (lawSeg w.params 8 1) (lawEnv w.params L fa cd)) Q E s := by
  obtain ⟨m, F, N, G, ho⟩ := S₀.out
  clear S₀
  obtain ⟨hp, gs, dr, tk0, os0⟩ := s
  dsimp only [put] at F N G ho
  replace hLt := ltN hLt
  revert X₀; k_fill; intro X₀
  unfold lawA lawEnv
  conv in (occs := *) lawScope _ => all_goals whnf
  conv in lawSeg _ _ _ => whnf
  have G0 : AllBare gs := G
  have ho0 : os0 = os := ho
  dsimp only [fmtLed, List.cons_append, List.nil_append] at N
  replace o1 := ltN o1; replace o2 := ltN o2; replace o3 := ltN o3; replace o4 := ltN o4; replace o5 := ltN o5
  k_steps
  refine Halt.go ?_
  refine For_G h₀ ?_
  k_steps
  have eWS : (W : Int) * (S : Int) + 1 = ((W * S + 1 : Nat) : Int) := by push_cast; rfl
  have hWS : W * S ≤ 64 := Nat.le_trans (Nat.mul_le_mul hW2 (by (first | lia | omega) : S ≤ 8)) (by decide)
  refine' loopL_range (n := W * S + 1) (hE := hE) (hh := rfl) (hr := by assumption) (hsmall := by rw [eWS]; exact rangeSmall_up _ (by (first | lia | omega))) (hn := by rw [eWS]; exact rangeSize_up _) (hx := rfl) (hp := rfl) (F := by k_asm) (N := by k_asm)
    (J := JE L am ad al ac acd c1 c2 c3 c4 c5 c6 c7 D O H W S fw mk os)
    (hJs := fun _ _ _ _ _ _ h => by obtain ⟨z, nl, n, ls, xs, tp1, tp2, tl, t1, t2, t3, t4, t5, t6, a1, a2, a3, a4, a5, a6, a7, a8, a9, a10⟩ := h; exact ⟨z, nl, n, ls, xs, tp1, tp2, tl, t1, t2, t3, t4, t5, t6, a1, a2, a3, a4, a5, a6, a7, a8, a9, a10⟩) (h0 := ?h0) (step := ?step) (fin := ?fin)
  case h0 => exact ⟨z, nl, n, [], [], #[], #[], [], _, _, _, _, _, _, has_cons rfl (has_cons rfl (has_cons rfl (has_cons rfl (has_cons rfl (has_cons rfl (has_cons rfl has_nil)))))), by simp [sim], trivial, trivial, trivial, trivial, List.nodup_nil, above_nil, G0, ho0⟩
  case fin =>
    rintro m₇ news₇ s₇ F₇ N₇ ⟨z, nl, n, ls, xs, tp1, tp2, tl, t1, t2, t3, t4, t5, t6, hm, rfl, ht1, ht2, hT, hl, hnd, hab, G₇, ho₇⟩
    have Nt : News h₀ L s₇.heap tl := News.sub N₇ fun q hq => List.mem_append_right _ hq
    refine wpAny_execs_nil ?_
    show wpAny _ _ (execs [] _) _ _ _
    refine wpAny_execs_nil ?_
    refine hQ _ z ls nl xs n tp1 tp2 tl t1 t2 t3 t6 ⟨ht1, ht2, tups_pairs hT Nt, hl, hnd, tups_exact hT Nt, hab, tups_fresh hT Nt⟩ hT ⟨_, F₇, fun q hq => hm q (sub_c (by repeat (first | exact List.Mem.head _ | refine List.Mem.tail _ ?_)) (sub_c (by repeat (first | exact List.Mem.head _ | refine List.Mem.tail _ ?_)) (sub_c (by repeat (first | exact List.Mem.head _ | refine List.Mem.tail _ ?_)) (sub_c (by repeat (first | exact List.Mem.head _ | refine List.Mem.tail _ ?_)) (sub_c (by repeat (first | exact List.Mem.head _ | refine List.Mem.tail _ ?_)) all_n)))) q hq), N₇, G₇, ho₇⟩
  case step =>
    rintro I i tk₇ m₇ news₇ ⟨h₇, gens₇, drawn₇, toks₇, os₇⟩ o hi hoc ⟨z, nl, n, ls, xs, tp1, tp2, tl, t1, t2, t3, t4, t5, t6, hm, rfl, ht1, ht2, hT, hl, hnd, hab, G₇, ho₇⟩ hap F₇ N₇
    dsimp only at F₇ N₇ G₇ ho₇
    dsimp only [fmtLed, List.cons_append, List.nil_append] at N₇
    rw [show (0 : Int) + (i : Int) * 1 = i by (first | lia | omega), put_of hm] at F₇
    dsimp only [put] at F₇
    clear hm
    have hlX : (Str.ofString "X").length = 1 := by decide +kernel
    have hlx : (Str.ofString "x").length = 1 := by decide +kernel
    have hlm := marks_len hM
    have hll := line_len hM S i
    have hlw := wd_len hM S i
    refine execs_at (fun m₁ news₁ => news₁ = (I, o) :: (fmtLed z (2 * (W : Int)) (2 * ((sim W H i).1 : Int)) am ad al ac acd ls nl xs n tp1 tp2 ++ [(L + 7, c7), (L + 6, c6), (L + 5, c5), (L + 4, c4), (L + 3, c3), (L + 2, c2), (L + 1, c1)] ++ tl) ∧ MidE am D O H S i fw mk m₁) F₇ N₇ ?s1 ?r1
    case s1 =>
      k_steps
      all_goals refine Mid.intro (by k_asm) (by k_asm) ⟨rfl, _, _, _, _, _, _, _, _, has_cons rfl (has_cons rfl (has_cons rfl (has_cons rfl (has_cons rfl (has_cons rfl (has_cons rfl (has_cons rfl has_nil))))))), ?_⟩
      · have h9 := ‹Int.fmod (i : Int) (S : Int) = 0›
        rw [Int.fmod_eq_emod_of_nonneg _ (by (first | lia | omega))] at h9
        rw [wd, if_pos (by (first | lia | omega))]
      · have h9 := ‹¬ Int.fmod (i : Int) (S : Int) = 0›
        rw [Int.fmod_eq_emod_of_nonneg _ (by (first | lia | omega))] at h9
        rw [wd, if_neg (by (first | lia | omega))]
    case r1 =>
      rintro h₈ tk₈ m₈ news₈ F₈ N₈ ⟨rfl, x, t1, t2, t3, t4, t5, t6, t7, hm, rfl⟩
      clear F₇ N₇
      replace F₈ := fr_put F₈ _ hm
      dsimp only [put] at F₈
      dsimp only [fmtLed, List.cons_append, List.nil_append] at N₈
      clear hm
      k_steps
      refine Halt.go ?_
      rename News h₀ L _ _ => N9
      rename Fr h₀ L _ _ => F9
      have Nt := News.sub (led := tl) N9 (by intro q hq; repeat (first | exact hq | refine List.mem_cons_of_mem _ ?_))
      have NM := News.sub (led := fmtLed z (2 * (W : Int)) (2 * ((sim W H i).1 : Int)) am ad al ac acd ls nl xs n tp1 tp2) N9 (sub_cons (by k_mem) (sub_cons (by k_mem) (sub_cons (by k_mem) (sub_cons (by k_mem) (sub_cons (by k_mem) (sub_cons (by k_mem) (sub_cons (by k_mem) sub_nil)))))))
      have NC := News.sub (led := [(I, o), (L + 7, c7), (L + 6, c6), (L + 5, c5), (L + 4, c4), (L + 3, c3), (L + 2, c2), (L + 1, c1)]) N9 (sub_cons (by k_mem) (sub_cons (by k_mem) (sub_cons (by k_mem) (sub_cons (by k_mem) (sub_cons (by k_mem) (sub_cons (by k_mem) (sub_cons (by k_mem) (sub_cons (by k_mem) sub_nil))))))))
      have p1 := (NM (al, _) (by k_mem)).2
      have p2 := (NM (ac, _) (by k_mem)).2
      have p3 := (NM (acd, _) (by k_mem)).2
      have p4 := (NM (147, _) (by k_mem)).2
      have p5 := (NM (154, _) (by k_mem)).2
      have i1 : @Ne Nat am I := neN (hap (am, _) (by k_mem))
      have i2 : @Ne Nat ad I := neN (hap (ad, _) (by k_mem))
      have i3 : @Ne Nat al I := neN (hap (al, _) (by k_mem))
      have i4 : @Ne Nat ac I := neN (hap (ac, _) (by k_mem))
      have i5 : @Ne Nat acd I := neN (hap (acd, _) (by k_mem))
      have i6 : @Ne Nat 147 I := neN (hap (147, _) (by k_mem))
      have i7 : @Ne Nat 154 I := neN (hap (154, _) (by k_mem))
      k_dflt (refine' append_word w (S := S) (H := H) (i := i) (fw := fw) (mk := mk) B F9 X₀ Tp ?hd ?hu G₇ hW2 hH (by (first | lia | omega)) hM NM ⟨ht1, ht2, tups_pairs hT Nt, hl, hnd, tups_exact hT Nt, hab, tups_fresh hT Nt⟩ (ltN (by (first | lia | omega))) o2 o3 o4 o5 ?hq)
      case hd => first | decide | ktr_room
      case hu => ktr_units
      case hq =>
        intro s9 hk M9 G9 os9
        obtain ⟨z', nl', n', ls', xs', tp1', tp2', tl', NM', R', Nt', hT'⟩ := mkE M9 NM
        have F10 := fr_kept F9 hk (mem5 (P := fun b => b ≠ L ∧ h₀.get? b = none) p1 p2 p3 p4 p5)
        have NC' := news_kept NC hk (all_c (P := fun q : Addr × Obj => q.1 ∈ [al, ac, acd, 147, 154] → False) (no5 (Ne.symm i3) (Ne.symm i4) (Ne.symm i5) (Ne.symm i6) (Ne.symm i7)) (all_c (no5 (by k_ne) (by k_ne) (by k_ne) (by k_ne) (by k_ne)) (all_c (no5 (by k_ne) (by k_ne) (by k_ne) (by k_ne) (by k_ne)) (all_c (no5 (by k_ne) (by k_ne) (by k_ne) (by k_ne) (by k_ne)) (all_c (no5 (by k_ne) (by k_ne) (by k_ne) (by k_ne) (by k_ne)) (all_c (no5 (by k_ne) (by k_ne) (by k_ne) (by k_ne) (by k_ne)) (all_c (no5 (by k_ne) (by k_ne) (by k_ne) (by k_ne) (by k_ne)) (all_c (no5 (by k_ne) (by k_ne) (by k_ne) (by k_ne) (by k_ne)) all_n))))))))
        have N10 : News h₀ L s9.heap ((I, o) :: (fmtLed z' (2 * (W : Int)) (2 * ((sim W H (i + 1)).1 : Int)) am ad al ac acd ls' nl' xs' n' tp1' tp2' ++ [(L + 7, c7), (L + 6, c6), (L + 5, c5), (L + 4, c4), (L + 3, c3), (L + 2, c2), (L + 1, c1)] ++ tl')) := fun q hq => by
          rcases List.mem_cons.mp hq with rfl | hq
          · exact NC' _ (.head _)
          rcases List.mem_append.mp hq with hq | hq
          · rcases List.mem_append.mp hq with hq | hq
            · exact NM' q hq
            · exact NC' q (.tail _ hq)
          · exact Nt' q hq
        have hap' : ∀ p ∈ fmtLed z' (2 * (W : Int)) (2 * ((sim W H (i + 1)).1 : Int)) am ad al ac acd ls' nl' xs' n' tp1' tp2' ++ [(L + 7, c7), (L + 6, c6), (L + 5, c5), (L + 4, c4), (L + 3, c3), (L + 2, c2), (L + 1, c1)] ++ tl', p.1 ≠ I := fun q hq => by
          rcases List.mem_append.mp hq with hq | hq
          · rcases List.mem_append.mp hq with hq | hq
            · exact (all_c (P := fun q : Addr × Obj => q.1 ≠ I) (a := (am, _)) i1 (all_c (a := (ad, _)) i2 (all_c (a := (al, _)) i3 (all_c (a := (ac, _)) i4 (all_c (a := (acd, _)) i5 (all_c (a := (147, _)) i6 (all_c (a := (154, _)) i7 all_n)))))) : ∀ q ∈ fmtLed z' (2 * (W : Int)) (2 * ((sim W H (i + 1)).1 : Int)) am ad al ac acd ls' nl' xs' n' tp1' tp2', q.1 ≠ I) q hq
            · exact hap q (List.mem_append_left _ (List.mem_append_right _ hq))
          · exact cls_ne N10 (.tail _ (List.mem_append_right _ hq)) (.head _) (by rw [tups_cls hT' q hq]; dsimp only; rw [hoc]; decide)
        clear N9 NM NC NM' NC' F9 Nt Nt'
        dsimp only [fmtLed, List.cons_append, List.nil_append] at N10
        k_steps
        rename News h₀ L _ _ => N11
        exact ⟨_, fmtLed z' (2 * (W : Int)) (2 * ((sim W H (i + 1)).1 : Int)) am ad al ac acd ls' nl' xs' n' tp1' tp2' ++ [(L + 7, c7), (L + 6, c6), (L + 5, c5), (L + 4, c4), (L + 3, c3), (L + 2, c2), (L + 1, c1)] ++ tl', by k_asm, N11, hap', z', nl', n', ls', xs', tp1', tp2', tl', _, _, _, _, _, _,
          has_cons rfl (has_cons rfl (has_cons rfl (has_cons rfl (has_cons rfl (has_cons rfl (has_cons rfl has_nil)))))), rfl, R'.t1, R'.t2, hT', R'.ln, R'.nd, R'.ab, G9, os9.trans ho₇⟩
end

section
open PySem PySem.W PyProof.Rows PySem.Calls PySem.Spec
set_option maxRecDepth 100000
set_option maxHeartbeats 400000
open Builtin Builtin.Str PySem.StrLaws
/-- where a sign stands -/
def cuts (c : Nat) : List Nat → Nat → List Nat
  | [], _ => []
  | x :: l, o => if x = c then o :: cuts c l (o + 1) else cuts c l (o + 1)
theorem occ_one (l : List Nat) (c : Nat) : ∀ (k a free : Nat) (found : Array Nat), a + k = l.length + 1 → free ≤ a → found.size ≤ a →
    (forIn (List.range' a k) (found, free) (occBody (tx l) (tx [c]) l.length (l.length + 1))).run.fst.toList = found.toList ++ cuts c (l.drop a) a
  | 0, a, free, found, hk, _, _ => by
    rw [List.drop_of_length_le (by k_extra "zz")]
    simp [cuts]
  | k + 1, a, free, found, hk, hf, hs => by
    rw [List.range'_succ, List.forIn_cons]
    have key := subAt_one (tx l) c a
    have e1 : (tx l).length = l.length := tx_len l
    have e2 : (⟨#[c]⟩ : Str).length = 1 := rfl
    have e3 : (tx [c]) = (⟨#[c]⟩ : Str) := rfl
    have e4 : (tx l).cps.toList = l := by simp [tx]
    rw [e1, e2, e4] at key
    unfold occBody
    by_cases h : l[a]? = some c
    · have ha : a < l.length := (List.getElem?_eq_some_iff.mp h).1
      have hk2 := key.mpr h
      rw [if_pos ⟨⟨⟨by show found.size < _; k_extra "zz", hf⟩, by rw [e3, e2]; k_extra "zz"⟩, by rw [e3]; exact hk2.2⟩]
      have ih := occ_one l c k (a + 1) (a + (tx [c]).length) (found.push a) (by k_extra "zz") (by rw [e3, e2]; exact Nat.le_refl _) (by simp; k_extra "zz")
      refine Eq.trans ih ?_
      rw [List.drop_eq_getElem_cons ha]
      have e5 : l[a] = c := by rw [List.getElem?_eq_getElem ha] at h; exact Option.some.inj h
      simp [cuts, e5]
    · rw [if_neg fun hc => h (key.mp ⟨by have := hc.1.2; rw [e3, e2] at this; exact this, by have := hc.2; rw [e3] at this; exact this⟩)]
      have ih := occ_one l c k (a + 1) free found (by k_extra "zz") (by k_extra "zz") (by k_extra "zz")
      refine Eq.trans ih ?_
      by_cases ha : a < l.length
      · rw [List.drop_eq_getElem_cons ha]
        have e5 : l[a] ≠ c := fun q => h (by rw [List.getElem?_eq_getElem ha, q])
        simp [cuts, e5]
      · rw [List.drop_of_length_le (l := l) (by k_extra "zz"), List.drop_of_length_le (l := l) (by k_extra "zz")]
        simp [cuts]
theorem occ_cuts (l : List Nat) (c : Nat) : occurrences (tx l) (tx [c]) 0 (tx l).length ((tx l).length + 1) = cuts c l 0 := by
  rw [occ_eq, tx_len]
  have := occ_one l c (l.length + 1) 0 0 #[] (by k_extra "zz") (Nat.le_refl _) (by simp)
  simpa using this
/-- a text cut at a sign -/
def splitL (c : Nat) : List Nat → List (List Nat)
  | [] => [[]]
  | x :: l => if x = c then [] :: splitL c l else match splitL c l with
    | [] => [[x]]
    | p :: ps => (x :: p) :: ps
theorem splitL_ne (c : Nat) : ∀ l, splitL c l ≠ []
  | [] => by simp [splitL]
  | x :: l => by
    unfold splitL
    split
    · simp
    · split <;> simp
def partsB (l : List Nat) (n : Nat) : Nat → List Nat → List (List Nat)
  | a, [] => [(l.drop a).take (n - a)]
  | a, k :: ks => (l.drop a).take (k - a) :: partsB l n (k + 1) ks
theorem parts_eq (l : List Nat) (n : Nat) : ∀ (ks : List Nat) (a : Nat), (((a :: ks.map (· + 1)).zip (ks ++ [n])).map fun q => strSub (tx l) q.1 q.2) = (partsB l n a ks).map tx
  | [], a => by simp [partsB, strSub, tx]
  | k :: ks, a => by
    have ih := parts_eq l n ks (k + 1)
    simp only [List.map_cons, List.cons_append, List.zip_cons_cons, partsB]
    rw [← ih]
    simp [strSub, tx]
theorem partsB_split (l : List Nat) (c : Nat) : ∀ (k b a : Nat), b + k = l.length → a ≤ b →
    partsB l l.length a (cuts c (l.drop b) b) = match splitL c (l.drop b) with | [] => [] | p :: ps => ((l.drop a).take (b - a) ++ p) :: ps
  | 0, b, a, hk, ha => by
    rw [List.drop_of_length_le (l := l) (i := b) (by k_extra "zz")]
    simp [cuts, splitL, partsB, show l.length = b by k_extra "zz"]
  | k + 1, b, a, hk, ha => by
    have hb : b < l.length := by k_extra "zz"
    have e : (l.drop a).take (b + 1 - a) = (l.drop a).take (b - a) ++ [l[b]] := by
      rw [show b + 1 - a = b - a + 1 by k_extra "zz", List.take_add_one, List.getElem?_drop, show a + (b - a) = b by k_extra "zz", List.getElem?_eq_getElem hb]
      rfl
    rw [List.drop_eq_getElem_cons hb]
    by_cases h : l[b] = c
    · have ih := partsB_split l c k (b + 1) (b + 1) (by k_extra "zz") (Nat.le_refl _)
      simp only [cuts, h, if_true, partsB, splitL, ih]
      have hne := splitL_ne c (l.drop (b + 1))
      cases hs : splitL c (l.drop (b + 1)) with
      | nil => exact absurd hs hne
      | cons p ps => simp
    · have ih := partsB_split l c k (b + 1) a (by k_extra "zz") (by k_extra "zz")
      simp only [cuts, h, if_false, splitL, ih, e]
      have hne := splitL_ne c (l.drop (b + 1))
      cases hs : splitL c (l.drop (b + 1)) with
      | nil => exact absurd hs hne
      | cons p ps => simp
theorem kind_asc (l : List Nat) (hl : ∀ x ∈ l, x < 128) : Str.strKind (tx l) = 1 := by
  unfold Str.strKind
  rw [if_pos]
  simp only [tx, List.all_toArray, List.all_eq_true, decide_eq_true_eq]
  intro x hx
  have := hl x hx
  k_extra "zz"
theorem split_tx (l : List Nat) (c : Nat) (hc : c < 128) (hl : ∀ x ∈ l, x < 128) : Txt.split (tx l) (tx [c]) = (splitL c l).map tx := by
  have h1 := partsB_split l c l.length 0 0 (by k_extra "zz") (Nat.le_refl _)
  rw [List.drop_zero] at h1
  have h2 := parts_eq l l.length (cuts c l 0) 0
  have h3 : partsB l l.length 0 (cuts c l 0) = splitL c l := by
    rw [h1]
    have hne := splitL_ne c l
    cases hs : splitL c l with
    | nil => exact absurd hs hne
    | cons p ps => simp
  rw [h3] at h2
  unfold Txt.split
  rw [occ_cuts, tx_len, kind_asc l hl, kind_asc [c] (by simpa using hc), tx_len]
  by_cases h0 : l = []
  · subst h0
    rfl
  · have hn : 0 < l.length := List.length_pos_iff.mpr h0
    rw [if_neg (by simp; k_extra "zz")]
    split
    · rename_i he
      have he' : cuts c l 0 = [] := List.isEmpty_iff.mp he
      rw [he'] at h2
      rw [← h2]
      simp [strSub, tx]
    · rw [← h2]
      unfold partsBetween
      rw [tx_len]
      rfl
def joinL (c : Nat) : List (List Nat) → List Nat
  | [] => []
  | [r] => r
  | r :: rs => r ++ c :: joinL c rs
theorem fold_join (c : Nat) : ∀ (rs : List (List Nat)) (acc : List Nat), (rs.map tx).foldl (fun (a : Array Nat) (p : Str) => a ++ (tx [c]).cps ++ p.cps) acc.toArray = (acc ++ rs.flatMap fun r => c :: r).toArray
  | [], acc => by simp
  | r :: rs, acc => by
    rw [List.map_cons, List.foldl_cons]
    have e : acc.toArray ++ (tx [c]).cps ++ (tx r).cps = (acc ++ c :: r).toArray := by simp [tx]
    rw [e, fold_join c rs]
    simp
theorem joinL_eq (c : Nat) : ∀ (rs : List (List Nat)) (r : List Nat), joinL c (r :: rs) = r ++ rs.flatMap fun r => c :: r
  | [], r => by simp [joinL]
  | s :: rs, r => by
    show r ++ c :: joinL c (s :: rs) = _
    rw [joinL_eq c rs s]
    simp
theorem join_tx (c : Nat) (rs : List (List Nat)) : Txt.join (tx [c]) (rs.map tx) = tx (joinL c rs) := by
  cases rs with
  | nil => rfl
  | cons r rs =>
    rw [joinL_eq]
    show (⟨((rs.map tx)).foldl (fun (a : Array Nat) (p : Str) => a ++ (tx [c]).cps ++ p.cps) (tx r).cps⟩ : Str) = _
    have := fold_join c rs r
    rw [show (tx r).cps = r.toArray from rfl, this]
    rfl
theorem splitL_none (c : Nat) : ∀ r : List Nat, c ∉ r → splitL c r = [r]
  | [], _ => rfl
  | x :: r, h => by
    have h1 : x ≠ c := fun e => h (e ▸ .head _)
    rw [splitL, if_neg h1, splitL_none c r fun q => h (.tail _ q)]
theorem splitL_at (c : Nat) (l : List Nat) : ∀ r : List Nat, c ∉ r → splitL c (r ++ c :: l) = r :: splitL c l
  | [], _ => by rw [List.nil_append, splitL, if_pos rfl]
  | x :: r, h => by
    have h1 : x ≠ c := fun e => h (e ▸ .head _)
    rw [List.cons_append, splitL, if_neg h1, splitL_at c l r fun q => h (.tail _ q)]
theorem split_join (c : Nat) : ∀ (rs : List (List Nat)), rs ≠ [] → (∀ r ∈ rs, c ∉ r) → splitL c (joinL c rs) = rs
  | [], h, _ => absurd rfl h
  | [r], _, h => splitL_none c r (h r (.head _))
  | r :: s :: rs, _, h => by
    show splitL c (r ++ c :: joinL c (s :: rs)) = _
    rw [splitL_at c _ r (h r (.head _)), split_join c (s :: rs) (by simp) fun q hq => h q (.tail _ hq)]
end

section
open PySem PySem.W PyProof.Rows PySem.Calls PySem.Spec
set_option maxRecDepth 100000
set_option maxHeartbeats 400000
/-- a word's signs -/
def wc (b : Bool) (S j : Nat) : List Nat := (if b then [32] else []) ++ ((if j % S = 0 then 88 else 120) :: (if b then [] else [59]))
def isB (fw : Str) : Bool := fw == Str.ofString " "
theorem wc_tx {fw mk : Str} (h : Marks fw mk) (S j : Nat) : fw ++ wd S mk j = tx (wc (isB fw) S j) := by
  unfold wd wc isB
  rcases h with ⟨rfl, rfl⟩ | ⟨rfl, rfl⟩ <;> split <;> decide +kernel
theorem wc_asc (b : Bool) (S j : Nat) : ∀ c ∈ wc b S j, c < 128 ∧ c ≠ 124 := by
  unfold wc
  cases b <;> simp <;> split <;> decide
theorem join_empty : ∀ rs : List (List Nat), Txt.join (Str.ofString "") (rs.map tx) = tx rs.flatten := by
  have e0 : Str.ofString "" = tx [] := by decide +kernel
  have key : ∀ (rs : List (List Nat)) (acc : List Nat), (rs.map tx).foldl (fun (a : Array Nat) (p : Str) => a ++ (tx []).cps ++ p.cps) acc.toArray = (acc ++ rs.flatten).toArray := by
    intro rs
    induction rs with
    | nil => intro acc; simp
    | cons r rs ih =>
      intro acc
      rw [List.map_cons, List.foldl_cons]
      have e : acc.toArray ++ (tx []).cps ++ (tx r).cps = (acc ++ r).toArray := by simp [tx]
      rw [e, ih]
      simp
  intro rs
  rw [e0]
  cases rs with
  | nil => rfl
  | cons r rs =>
    show (⟨((rs.map tx)).foldl (fun (a : Array Nat) (p : Str) => a ++ (tx []).cps ++ p.cps) (tx r).cps⟩ : Str) = _
    rw [show (tx r).cps = r.toArray from rfl, key rs r]
    rfl
theorem cat_tx {fw mk : Str} (h : Marks fw mk) (S : Nat) (r : List Nat) : cat (r.map (pr fw mk S)) = tx (r.flatMap (wc (isB fw) S)) := by
  unfold cat
  have e : (r.map (pr fw mk S)).map (fun q => q.1 ++ q.2) = (r.map (wc (isB fw) S)).map tx := by
    rw [List.map_map, List.map_map]
    exact List.map_congr_left fun j _ => wc_tx h S j
  rw [e]
  exact (join_empty _).trans (by rw [List.flatMap_def])
theorem line_tx {fw mk : Str} (h : Marks fw mk) (S : Nat) : ∀ n, lineT fw mk S n = tx ((List.range n).flatMap (wc (isB fw) S))
  | 0 => by
    show Str.ofString "" = tx []
    decide +kernel
  | n + 1 => by
    rw [lineT, line_tx h S n, wc_tx h, tx_cat, List.range_succ, List.flatMap_append]
    simp
theorem sim_flat (W H : Nat) : ∀ i, (sim W H i).2.1.flatten ++ (sim W H i).2.2 = List.range i
  | 0 => rfl
  | i + 1 => by
    have x := sim_flat W H i
    rw [sim, List.range_succ, ← x]
    generalize sim W H i = q
    obtain ⟨h, d, c⟩ := q
    dsimp only
    split <;> simp
theorem rows_tx {fw mk : Str} (h : Marks fw mk) (S : Nat) (d : List (List Nat)) : rowsT fw mk S d = (d.map fun r => r.flatMap (wc (isB fw) S)).map tx := by
  unfold rowsT
  rw [List.map_map]
  exact List.map_congr_left fun r _ => cat_tx h S r
/-- the rows of the page, as signs -/
def page (b : Bool) (W H S : Nat) : List (List Nat) := ((sim W H (W * S + 1)).2.1 ++ [(sim W H (W * S + 1)).2.2]).map fun r => r.flatMap (wc b S)
theorem page_flat (b : Bool) (W H S : Nat) : (page b W H S).flatten = (List.range (W * S + 1)).flatMap (wc b S) := by
  rw [← sim_flat W H (W * S + 1)]
  unfold page
  generalize sim W H (W * S + 1) = q
  rw [show q.2.1.flatten ++ q.2.2 = (q.2.1 ++ [q.2.2]).flatten by simp]
  generalize q.2.1 ++ [q.2.2] = l
  induction l with
  | nil => rfl
  | cons r l ih => simp [ih]
theorem page_asc (b : Bool) (W H S : Nat) : ∀ r ∈ page b W H S, ∀ c ∈ r, c < 128 ∧ c ≠ 124 := by
  intro r hr c hc
  obtain ⟨q, _, rfl⟩ := List.mem_map.mp hr
  obtain ⟨j, _, hj⟩ := List.mem_flatMap.mp hc
  exact wc_asc b S j c hj
theorem joinL_asc (rs : List (List Nat)) (h : ∀ r ∈ rs, ∀ c ∈ r, c < 128 ∧ c ≠ 124) : ∀ c ∈ joinL 124 rs, c < 128 := by
  cases rs with
  | nil => intro c hc; cases hc
  | cons r rs =>
    rw [joinL_eq]
    intro c hc
    rcases List.mem_append.mp hc with hc | hc
    · exact (h r (.head _) c hc).1
    · obtain ⟨q, hq, hc⟩ := List.mem_flatMap.mp hc
      rcases List.mem_cons.mp hc with rfl | hc
      · decide
      · exact (h q (.tail _ hq) c hc).1
theorem page_split (b : Bool) (W H S : Nat) : Txt.split (tx (joinL 124 (page b W H S))) (tx [124]) = (page b W H S).map tx := by
  rw [split_tx _ _ (by decide) (joinL_asc _ (page_asc b W H S)), split_join]
  · unfold page; simp
  · intro r hr h
    exact (page_asc b W H S r hr 124 h).2 rfl
theorem sim_end_all : ((List.range 9).all fun W => (List.range 8).all fun S => (List.range 8).all fun H => !(decide (3 ≤ W) && decide (1 ≤ S) && decide (S < W) && decide (H < W)) || ((sim W H (W * S + 1)).1 == 0 && !(sim W H (W * S + 1)).2.2.isEmpty)) = true := by decide +kernel
theorem sim_end {W S H : Nat} (h1 : 3 ≤ W) (h2 : W ≤ 8) (h3 : 1 ≤ S) (h4 : S < W) (h5 : H < W) : (sim W H (W * S + 1)).1 = 0 ∧ (sim W H (W * S + 1)).2.2 ≠ [] := by
  have a := List.all_eq_true.mp sim_end_all W (List.mem_range.mpr (by k_extra "zz"))
  have b := List.all_eq_true.mp a S (List.mem_range.mpr (by k_extra "zz"))
  have c := List.all_eq_true.mp b H (List.mem_range.mpr (by k_extra "zz"))
  simp only [h1, h3, h4, h5, decide_true, Bool.and_self, Bool.not_true, Bool.false_or, Bool.and_eq_true, beq_iff_eq, Bool.not_eq_true', List.isEmpty_eq_false_iff] at c
  exact c
/-- each row before holds at most W words -/
theorem sim_rows (W H : Nat) (hH : H < W) : ∀ i, ∀ r ∈ (sim W H i).2.1, r.length ≤ W
  | 0 => fun _ h => nomatch h
  | i + 1 => by
    have x := sim_rows W H hH i
    have y := sim_inv hH i
    rw [sim]
    generalize sim W H i = q at x y
    obtain ⟨h, d, c⟩ := q
    dsimp only at x y ⊢
    split
    · exact x
    · intro r hr
      rcases List.mem_append.mp hr with hr | hr
      · exact x r hr
      · simp only [List.mem_singleton] at hr
        subst hr
        have := y.b
        dsimp only at this
        k_extra "zz"
theorem wc_len (b : Bool) (S j : Nat) : (wc b S j).length = 2 := by
  unfold wc
  cases b <;> rfl
theorem flat_len (b : Bool) (S : Nat) : ∀ r : List Nat, (r.flatMap (wc b S)).length = 2 * r.length
  | [] => rfl
  | j :: r => by
    rw [List.flatMap_cons, List.length_append, wc_len, flat_len b S r, List.length_cons]
    k_extra "zz"
theorem weight_pr {fw mk : Str} (h : Marks fw mk) (S : Nat) (r : List Nat) : (((r.map (pr fw mk S)).map fun q => q.1 ++ q.2).map (·.length)).sum + ((r.map (pr fw mk S)).map fun q => q.1 ++ q.2).length = 3 * r.length := by
  induction r with
  | nil => rfl
  | cons j r ih =>
    have e : (pr fw mk S j).1 ++ (pr fw mk S j).2 = tx (wc (isB fw) S j) := wc_tx h S j
    simp only [List.map_cons, List.sum_cons, List.length_cons, e, tx_len, wc_len] at ih ⊢
    k_extra "zz"
theorem space_row {fw mk : Str} (h : Marks fw mk) (S : Nat) (r : List Nat) (hr : r ≠ []) : Txt.isspace (cat (r.map (pr fw mk S))) = false := by
  rw [cat_tx h]
  unfold Txt.isspace
  obtain ⟨j, r', rfl⟩ := List.exists_cons_of_ne_nil hr
  have h1 : (if j % S = 0 then 88 else 120) ∈ (j :: r').flatMap (wc (isB fw) S) := by
    rw [List.flatMap_cons]
    refine List.mem_append_left _ ?_
    unfold wc
    cases isB fw <;> simp
  have h2 : Unicode.isSpace (if j % S = 0 then 88 else 120) = false := by split <;> decide +kernel
  rw [Bool.and_eq_false_iff]
  right
  rw [← Bool.not_eq_true, Array.all_eq_true']
  intro hall
  have := hall _ (show (if j % S = 0 then 88 else 120) ∈ (tx ((j :: r').flatMap (wc (isB fw) S))).cps by simpa [tx] using h1)
  rw [h2] at this
  cases this
theorem rows_weight {fw mk : Str} (h : Marks fw mk) (S W : Nat) (hW : W ≤ 8) : ∀ l : List (List Nat), (∀ r ∈ l, r.length ≤ W) → ((rowsT fw mk S l).map (·.length)).sum + (rowsT fw mk S l).length ≤ 17 * l.length
  | [], _ => Nat.le_refl _
  | r :: l, hl => by
    have ih := rows_weight h S W hW l fun q hq => hl q (.tail _ hq)
    have h1 := hl r (.head _)
    have e : (cat (r.map (pr fw mk S))).length = 2 * r.length := by rw [cat_tx h, tx_len, flat_len]
    have e2 : rowsT fw mk S (r :: l) = cat (r.map (pr fw mk S)) :: rowsT fw mk S l := rfl
    rw [e2, List.map_cons, List.sum_cons, List.length_cons, List.length_cons, e]
    k_extra "zz"
theorem strOk_wd {fw mk : Str} (h : Marks fw mk) (S j : Nat) : PyData.strOk fw = true ∧ PyData.strOk (wd S mk j) = true ∧ wd S mk j ≠ Str.ofString "" := by
  unfold wd
  rcases h with ⟨rfl, rfl⟩ | ⟨rfl, rfl⟩ <;> split <;> decide +kernel
theorem page_len (b : Bool) (S : Nat) : ∀ l : List (List Nat), (∀ r ∈ l, r.length ≤ 8) → (joinL 124 (l.map fun r => r.flatMap (wc b S))).length ≤ 17 * l.length
  | [], _ => Nat.zero_le _
  | [r], h => by
    have := h r (.head _)
    show (r.flatMap (wc b S)).length ≤ 17
    rw [flat_len]; k_extra "zz"
  | r :: s :: l, h => by
    have ih := page_len b S (s :: l) fun q hq => h q (.tail _ hq)
    have := h r (.head _)
    show (r.flatMap (wc b S) ++ 124 :: joinL 124 ((s :: l).map fun r => r.flatMap (wc b S))).length ≤ _
    rw [List.length_append, List.length_cons, flat_len]
    simp only [List.length_cons] at ih ⊢
    k_extra "zz"
end

section
open PySem PySem.W PyProof.Rows PySem.Calls PySem.Spec
set_option maxRecDepth 100000
set_option maxHeartbeats 4000000
theorem reg_LSF_0 : True := by
  k_with_none
  k_with "zz" => (first | assumption | exact Nat.le_trans (by assumption) (by decide) | exact Nat.lt_of_le_of_lt (by assumption) (by decide) | exact Nat.le_trans (Nat.sub_le _ _) (Nat.le_trans (by assumption) (by decide)) | exact Nat.le_trans (Nat.min_le_right _ _) (Nat.le_trans (by assumption) (by decide)) | exact Nat.sub_pos_of_lt (by assumption) | exact Nat.lt_of_sub_pos (by assumption) | exact mn_pos (by assumption) | exact mn_lt (by assumption) | exact mn_no (by assumption) | exact sb_no (by assumption) | exact nm1 | exact sub1 (by assumption) | exact cp1 (by assumption) | exact cpp (by assumption) | exact cpn (by assumption) | exact cpa (by assumption) | exact sz1 (by assumption) | exact sz2 (by assumption) | exact sz3 (by assumption) | exact sz5 (by assumption) (by decide) | exact na3 (by assumption) (by assumption) | exact na4 (by assumption) (by assumption) | exact na5 (by assumption) (by assumption) | exact fl1 (by assumption) (by decide) | lia | omega)
  k_with "zr" => ((repeat (with_reducible refine rm_deeper ?_)); exact rm_top (by assumption) (by decide))
  k_with "zu" => ((repeat (first | with_reducible refine um_deeper ?_ | with_reducible refine um_in1 ?_)); exact rm_top (by assumption) (by decide))
  k_with "zn" => (refine neN ?_; (try dsimp only); first | exact Nat.ne_of_lt (Nat.add_lt_add_left (by decide) _) | exact Nat.ne_of_gt (Nat.add_lt_add_left (by decide) _) | (refine Nat.ne_of_lt ?_; (try refine lt154 ?_); (repeat (first | assumption | exact ltA (by assumption) (by decide) | refine Nat.lt_trans (by assumption) ?_ | refine Nat.lt_trans (ltA (by assumption) (by decide)) ?_)); done) | (refine Nat.ne_of_gt ?_; (try refine lt154 ?_); (repeat (first | assumption | exact ltA (by assumption) (by decide) | refine Nat.lt_trans (by assumption) ?_ | refine Nat.lt_trans (ltA (by assumption) (by decide)) ?_)); done) | (first | lia | omega))
  k_with "call ref" => (k_here; (with_reducible show wpAny _ _ (call (Value.ref 49) _) _ _ _); refine Mine.halt ?_)
  trivial
section
variable {prog : Program} {w : World} {A : Around} {E : Value → Shared → Prop} {s : Shared} {h₀ : Heap} {L D : Addr} {m : Str → Option Value} {news : List (Addr × Obj)} {n : Nat} {Q : Value → Shared → Prop}
theorem split_bar {l : List Nat} {ys : List Str} {t u : Tok} (F : Fr h₀ L s.heap m) (N : News h₀ L s.heap news) (hl : l.length ≤ 10000) (hy : Txt.split (tx l) (tx [124]) = ys)
    (h : ∀ D (v : List (Str × Tok)) h' k, v.map (·.1) = ys → Fr h₀ L h' m → News h₀ L h' ((D, PySem.W.listOf (strValues v).toArray 0) :: news) → (∀ p ∈ news, p.1 < D) → Q (.ref D) { s with heap := h', toks := k }) :
    wpAny (model prog w) A (call (.builtin "str.split") [.str (tx l) t, .str (Str.ofString "|") u]) Q E s := by
  have e : Str.ofString "|" = tx [124] := by decide +kernel
  rw [e]
  refine splitN1 F N rfl (fun v h' k hv F' N' => ?_) (by rw [tx_len, sizeLine_eq]; (first | lia | omega))
  exact h _ v h' k (hv.trans hy) F' N' fun p hp => Heap.lt_size (N p hp).1
theorem join_V {l : List (Str × Tok)} {ys : List Str} {sep : Str} {t : Tok} (N : News h₀ L s.heap news) (hD : (D, PySem.W.listOf (strValues l).toArray n) ∈ news) (hl : l.map (·.1) = ys) (hok : JoinOk sep ys = true)
    (hq : ∀ t' k, Q (.str (Txt.join sep ys) t') { s with toks := k }) : wpAny (model prog w) A (call (.builtin "str.join") [.str sep t, .ref D]) Q E s :=
  SC.join ⟨_, (N _ hD).1, rfl, _, rfl⟩ hl hok hq
end
theorem reg_LSF_1 : True := by
  k_with "call builtin:str.split" => (k_here; k_dflt (refine Mine.split_bar (by k_asm) (by k_asm) (by assumption) (by assumption) ?_); intro D' v' h' tk' hv' F' N' l1; (try dsimp only); (try k_lt l1))
  k_with "call builtin:str.join" => (k_here; k_dflt (refine Mine.join_V (by k_asm) (by k_mem) (by assumption) (by assumption) ?_); intro t' tk'; (try dsimp only))
  trivial
theorem segF (w : World) {h₀ : Heap} {L fa : Addr} {cd : Value} {s : Shared} {os : OsState} {Q : Flow → Shared → Prop} {E : Value → Shared → Prop} {mg mb : Str → Option Value} {p : Program} {loose : List Str} {mean : ExcName → Option Value}
    {c1 c2 c3 c4 c5 c6 c7 : Obj} {D O : Int} {H W S : Nat} {t1 t2 t3 t6 tw ts : Tok} {fw mk : Str} {z : FT} {am ad al ac acd : Addr} {nl n : Nat} {ls xs : List Value} {tp1 tp2 : Array Value} {tl : List (Addr × Obj)}
    (hLt : 154 < L) (B : Below callerA h₀ [] h₀) (X₀ : (hd.heap_1 w.params).In h₀) (Tp : Top p loose mean mg mb h₀) (hc1 : c1.data = .cell (some (.int (W : Int) tw))) (hc2 : c2.data = .cell (some (.int (S : Int) ts))) (hc3 : c3.data = .cell none) (hW1 : 3 ≤ W) (hW2 : W ≤ 8) (hS1 : 1 ≤ S) (hS2 : S < W) (hH : H < W) (hM : Marks fw mk) (o1 : L + 7 < ad) (o2 : ad < am) (o3 : am < al) (o4 : al < acd) (o5 : acd < ac) (R : RowOk h₀ L ac s.heap ls xs tp1 tp2 (rowsT fw mk S (sim W H (W * S + 1)).2.1) ((sim W H (W * S + 1)).2.2.map (pr fw mk S))) (hT : TupsIn tl xs ((sim W H (W * S + 1)).2.2.map (pr fw mk S)))
    (S₀ : St h₀ L [(Str.ofString "draw", .int D t1), (Str.ofString "lots", .int O t2), (Str.ofString "head", .int (H : Int) t3), (Str.ofString "maker", .ref am), (Str.ofString "line", .str (lineT fw mk S (W * S + 1)) t6)]
      (fmtLed z (2 * (W : Int)) (2 * ((sim W H (W * S + 1)).1 : Int)) am ad al ac acd ls nl xs n tp1 tp2 ++ [(L + 7, c7), (L + 6, c6), (L + 5, c5), (L + 4, c4), (L + 3, c3), (L + 2, c2), (L + 1, c1)] ++ tl) os s)
    (hQ : ∀ s' (R : Addr) (l : List (Str × Tok)) (n : Nat) c3p tp1 tp2, c3p.data = .cell (some (.ref R)) → l.map (·.1) = (page (isB fw) W H S).map tx → St h₀ L [(Str.ofString "draw", .int D t1), (Str.ofString "lots", .int O t2), (Str.ofString "head", .int (H : Int) t3)] ((R, PySem.W.listOf (strValues l).toArray n) :: [(L + 7, c7), (L + 6, c6), (L + 5, c5), (L + 4, c4), (L + 3, c3p), (L + 2, c2), (L + 1, c1), (147, X.tableObj tp1), (154, X.tableObj tp2)]) os s' → Q .next s') :
    wpAny (model PySem.Challenge.rw_xl0020_01.row.prog w) (lawA w.params L fa cd) (execs (lawSeg w.params 9 2) (lawEnv w.params L fa cd)) Q E s := by
  obtain ⟨m, F, N, G, ho⟩ := S₀.out
  clear S₀
  obtain ⟨hp, gs, dr, tk0, os0⟩ := s
  dsimp only [put] at F N G ho
  replace hLt := ltN hLt
  revert X₀; k_fill; intro X₀
  unfold lawA lawEnv
  conv in (occs := *) lawScope _ => all_goals whnf
  conv in lawSeg _ _ _ => whnf
  have G0 : AllBare gs := G
  have ho0 : os0 = os := ho
  obtain ⟨hs0, hsne⟩ := sim_end hW1 hW2 hS1 hS2 hH
  have hinv := sim_inv hH (W * S + 1)
  have hrows := sim_rows W H hH (W * S + 1)
  have hWS : W * S ≤ 64 := Nat.le_trans (Nat.mul_le_mul hW2 (by (first | lia | omega) : S ≤ 8)) (by decide)
  have hpage : page (isB fw) W H S = ((sim W H (W * S + 1)).2.1 ++ [(sim W H (W * S + 1)).2.2]).map fun r => r.flatMap (wc (isB fw) S) := rfl
  have hflat := page_flat (isB fw) W H S
  have hsplit := page_split (isB fw) W H S
  have hline := line_tx hM S (W * S + 1)
  generalize sim W H (W * S + 1) = q at *
  obtain ⟨h9, d, c⟩ := q
  dsimp only at *
  subst hs0
  obtain ⟨c', j, rfl⟩ : ∃ c' j, c = c' ++ [j] := ⟨c.dropLast, c.getLast hsne, (List.dropLast_concat_getLast hsne).symm⟩
  rw [List.map_append, List.map_cons, List.map_nil] at R hT
  obtain ⟨tl', T, xs', ta, tb, nt, rfl, rfl, hT'⟩ := tups_snoc hT
  dsimp only [fmtLed, List.cons_append, List.nil_append] at N
  replace o1 := ltN o1; replace o2 := ltN o2; replace o3 := ltN o3; replace o4 := ltN o4; replace o5 := ltN o5
  k_steps
  refine Halt.go ?_
  rename News h₀ L _ _ => N9
  rename Fr h₀ L _ _ => F9
  have Nt := News.sub (led := tl' ++ [(T, { cls := .type "tuple", data := .seq #[.str (pr fw mk S j).1 ta, .str (pr fw mk S j).2 tb] nt })]) N9 (by intro q hq; repeat (first | exact hq | refine List.mem_cons_of_mem _ ?_))
  have NT := News.sub (led := [(T, { cls := .type "tuple", data := .seq #[.str (pr fw mk S j).1 ta, .str (pr fw mk S j).2 tb] nt })]) Nt (fun q hq => List.mem_append_right _ hq)
  have NM := News.sub (led := fmtLed z (2 * (W : Int)) (2 * ((0 : Nat) : Int)) am ad al ac acd ls nl (xs' ++ [.ref T]) n tp1 tp2) N9 (sub_cons (by k_mem) (sub_cons (by k_mem) (sub_cons (by k_mem) (sub_cons (by k_mem) (sub_cons (by k_mem) (sub_cons (by k_mem) (sub_cons (by k_mem) sub_nil)))))))
  have NC := News.sub (led := [(L + 7, c7), (L + 6, c6), (L + 5, c5), (L + 4, c4), (L + 3, c3), (L + 2, c2), (L + 1, c1)]) N9 (sub_cons (by k_mem) (sub_cons (by k_mem) (sub_cons (by k_mem) (sub_cons (by k_mem) (sub_cons (by k_mem) (sub_cons (by k_mem) (sub_cons (by k_mem) sub_nil)))))))
  have p1 := (NM (al, _) (by k_mem)).2
  have p2 := (NM (ac, _) (by k_mem)).2
  have p3 := (NM (acd, _) (by k_mem)).2
  have p4 := (NM (147, _) (by k_mem)).2
  have p5 := (NM (154, _) (by k_mem)).2
  have hab : @LT.lt Nat _ ac T := R.ab T (by simp)
  have hTn : Value.ref T ∉ xs' := fun hm => by
    have := R.nd
    rw [List.nodup_append] at this
    exact this.2.2 _ hm _ (List.mem_singleton.mpr rfl) rfl
  have hlen : xs'.length = c'.length := by have := (tups_pairs hT' (News.sub (led := tl') Nt (fun q hq => List.mem_append_left _ hq))).length; rw [List.length_map] at this; exact this
  have hb := hinv.b
  have hd9 := hinv.d
  dsimp only at hb hd9
  simp only [List.length_append, List.length_cons, List.length_nil] at hb
  have e1 : c'.map (pr fw mk S) ++ [((pr fw mk S j).1, (pr fw mk S j).2)] = (c' ++ [j]).map (pr fw mk S) := by simp
  have hw1 := weight_pr hM S (c' ++ [j])
  have hw2 := rows_weight hM S W hW2 (d ++ [c' ++ [j]]) (by
    intro r hr
    rcases List.mem_append.mp hr with hr | hr
    · exact hrows r hr
    · simp only [List.mem_singleton] at hr
      subst hr
      simp only [List.length_append, List.length_cons, List.length_nil]; (first | lia | omega))
  have ht := total_pr hM S (c' ++ [j])
  simp only [List.length_append, List.length_cons, List.length_nil] at hw1 hw2 ht
  have hls : ls.length = d.length := by have := R.ln.length; simpa [rowsT] using this
  have hok := strOk_wd hM S j
  k_dflt (refine' fmt_str w (st := (pr fw mk S j).2) (fw := (pr fw mk S j).1) (ps := c'.map (pr fw mk S)) (lines := rowsT fw mk S d) B F9 X₀ Tp ?hd ?hu G0 (news_app NT NM) (ltN (by (first | lia | omega))) o2 o3 o4 o5 hab (by (first | lia | omega)) R.t1 R.t2 (tups_pairs hT' (News.sub (led := tl') Nt (fun q hq => List.mem_append_left _ hq))) hTn hok.2.2 hok.1 hok.2.1 ?hsm ?hfit ?hpos ?hW R.ln ?hls ?hsp ?hjo ?hq)
  case hd => first | decide | ktr_room
  case hu => ktr_units
  case hsm =>
    rw [e1]
    intro q hq
    obtain ⟨i, _, rfl⟩ := List.mem_map.mp hq
    exact pr_small hM S i
  case hfit => rw [e1, ht]; push_cast; (first | lia | omega)
  case hpos => rw [e1, ht]; push_cast; (first | lia | omega)
  case hW => rw [e1, hw1]; (first | lia | omega)
  case hls => (first | lia | omega)
  case hsp => rw [e1]; exact space_row hM S _ (by simp)
  case hjo =>
    rw [e1]
    refine joinOk_of_weight ?_ (by decide +kernel)
    have e2 : rowsT fw mk S d ++ [cat ((c' ++ [j]).map (pr fw mk S))] = rowsT fw mk S (d ++ [c' ++ [j]]) := by simp [rowsT]
    rw [e2]
    (first | lia | omega)
  case hq =>
    intro s9 t9 hk htabs G9 os9
    have e2 : rowsT fw mk S d ++ [cat ((c' ++ [j]).map (pr fw mk S))] = rowsT fw mk S (d ++ [c' ++ [j]]) := by simp [rowsT]
    have eR : rowsT fw mk S (d ++ [c' ++ [j]]) = (page (isB fw) W H S).map tx := by rw [hpage]; exact rows_tx hM S _
    have e3 : Txt.join (Str.ofString "|") (rowsT fw mk S d ++ [cat (c'.map (pr fw mk S) ++ [((pr fw mk S j).1, (pr fw mk S j).2)])]) = tx (joinL 124 (page (isB fw) W H S)) := by
      rw [e1, e2, eR, show Str.ofString "|" = tx [124] by decide +kernel]
      exact join_tx 124 _
    have hJl : (joinL 124 (page (isB fw) W H S)).length ≤ 10000 := by
      have h1 := page_len (isB fw) S (d ++ [c' ++ [j]]) (by
        intro r hr
        rcases List.mem_append.mp hr with hr | hr
        · exact Nat.le_trans (hrows r hr) hW2
        · simp only [List.mem_singleton] at hr
          subst hr
          simp only [List.length_append, List.length_cons, List.length_nil]; (first | lia | omega))
      rw [← hpage, List.length_append] at h1
      simp only [List.length_cons, List.length_nil] at h1
      (first | lia | omega)
    rw [e3]
    obtain ⟨tp1', tp2', g1, g2⟩ := htabs
    have F10 := fr_kept F9 hk (mem5 (P := fun b => b ≠ L ∧ h₀.get? b = none) p1 p2 p3 p4 p5)
    have NC' := news_kept NC hk (all_c (P := fun q : Addr × Obj => q.1 ∈ [al, ac, acd, 147, 154] → False) (no5 (by k_ne) (by k_ne) (by k_ne) (by k_ne) (by k_ne)) (all_c (no5 (by k_ne) (by k_ne) (by k_ne) (by k_ne) (by k_ne)) (all_c (no5 (by k_ne) (by k_ne) (by k_ne) (by k_ne) (by k_ne)) (all_c (no5 (by k_ne) (by k_ne) (by k_ne) (by k_ne) (by k_ne)) (all_c (no5 (by k_ne) (by k_ne) (by k_ne) (by k_ne) (by k_ne)) (all_c (no5 (by k_ne) (by k_ne) (by k_ne) (by k_ne) (by k_ne)) (all_c (no5 (by k_ne) (by k_ne) (by k_ne) (by k_ne) (by k_ne)) all_n)))))))
    have N10 : News h₀ L s9.heap [(L + 7, c7), (L + 6, c6), (L + 5, c5), (L + 4, c4), (L + 3, c3), (L + 2, c2), (L + 1, c1), (147, X.tableObj tp1'), (154, X.tableObj tp2')] := news_app NC' (news_pair g1 p4 g2 p5)
    have hjE : JoinOk (Str.ofString "") ((page (isB fw) W H S).map tx) = true := joinOk_of_weight (by rw [← eR]; (first | lia | omega)) (by decide +kernel)
    have hJE : Txt.join (Str.ofString "") ((page (isB fw) W H S).map tx) = lineT fw mk S (W * S + 1) := by rw [join_empty, hflat, hline]
    clear N9 NM NC NC' F9 Nt NT hk
    k_steps
    · exfalso
      have h0 := ‹(Txt.join (Str.ofString "") ((page (isB fw) W H S).map tx) != lineT fw mk S (W * S + 1)) = true›
      rw [hJE] at h0
      simp at h0
    · show wpAny _ _ (execs [] _) _ _ _
      refine wpAny_execs_nil ?_
      exact hQ _ _ v' 0 _ tp1' tp2' (by assumption) hv' (St.in (by k_asm) (by k_asm) (has_cons rfl (has_cons rfl (has_cons rfl has_nil))) (fun q hq => hq) G9 (os9.trans ho0))
end

section
open PySem PySem.W PyProof.Rows PySem.Calls PySem.Spec
set_option maxRecDepth 100000
set_option maxHeartbeats 400000
open LCg
section
variable {prog : Program} {w : World} {A : Around} {E : Value → Shared → Prop} {s : Shared}
/-- a comprehension of two clauses, the second with a test -/
abbrev comp2 (elt iter iter2 test : PySem.Expr) (x y : Str) (px py : Pos) (scope : Scope) (pos : Pos) : PySem.Expr := .ListComp elt [⟨.Name x px, iter, [], 0⟩, ⟨.Name y py, iter2, [test], 0⟩] scope pos
theorem turn2_in (elt iter iter2 test : PySem.Expr) (x y : Str) (px py : Pos) (scope : Scope) (pos : Pos) (it acc : Value) (env : Env) :
    compTurn (comp2 elt iter iter2 test x y px py scope pos) 1 it acc env = (do
      standAt iter2.pos
      match ← pyNext it with
      | none => pure (.done .next)
      | some v =>
        letOwnedTupleGo (.Name y py) it v
        assign (.Name y py) env v
        let mut ok := true
        for c in [test] do
          if ok then ok ← isTrue c env (eval c env)
        if ok then
          (do let _ ← call (.builtin "list.append") [acc, ← eval elt env])
        again (.compLoop (comp2 elt iter iter2 test x y px py scope pos) 1 it acc env)) := by rfl
theorem turn2_out (elt iter iter2 test : PySem.Expr) (x y : Str) (px py : Pos) (scope : Scope) (pos : Pos) (it acc : Value) (env : Env) :
    compTurn (comp2 elt iter iter2 test x y px py scope pos) 0 it acc env = (do
      standAt iter.pos
      match ← pyNext it with
      | none => pure (.done .next)
      | some v =>
        letOwnedTupleGo (.Name x px) it v
        assign (.Name x px) env v
        let mut ok := true
        for c in ([] : List PySem.Expr) do
          if ok then ok ← isTrue c env (eval c env)
        if ok then
          let v ← eval iter2 env
          standAt iter2.pos
          let v ← foldedSetIterable iter2 env v
          let _ ← runOwn (.compStart (comp2 elt iter iter2 test x y px py scope pos) 1 (← holding [v] (pyIter v)) acc env) env
        again (.compLoop (comp2 elt iter iter2 test x y px py scope pos) 0 it acc env)) := by rfl
theorem start2 {elt iter iter2 test : PySem.Expr} {x y : Str} {px py : Pos} {scope : Scope} {pos : Pos} {it acc : Value} {env : Env} {R : Result → Shared → Prop} {d : Nat}
    (h0 : codeAny (model prog w) A (.compLoop (comp2 elt iter iter2 test x y px py scope pos) d it acc env) R s)
    (h : wpAny (model prog w) A (pyIter it) (fun it' s' => codeAny (model prog w) A (.compLoop (comp2 elt iter iter2 test x y px py scope pos) d it' acc env) R s')
      (notedBy (model prog w) A env fun x s' => R (.error x) s') s) (hd : d < 2) :
    codeAny (model prog w) A (.compStart (comp2 elt iter iter2 test x y px py scope pos) d it acc env) R s := by
  refine codeAny_of_tree ?_
  show wpAny _ _ ((compStart (comp2 elt iter iter2 test x y px py scope pos) d it acc env).onRaise (fun x => do noteFrame x env; standAt theWindowsPlace)) _ _ s
  refine wpAny_notedAt ?_
  unfold compStart
  have hd2 : d = 0 ∨ d = 1 := by (first | lia | omega)
  rcases hd2 with rfl | rfl
  all_goals
    show wpAny _ _ (ask >>= _) _ _ s
    refine wpAny_bind (wpAny_askSetting (wpAny_ite ?_))
    split
    · first
        | exact wpAny_bind (wpAny_pure (wpAny_pure (And.intro rfl h0)))
        | exact wpAny_pure (And.intro rfl h0)
    · first
        | exact wpAny_bind (wpAny_rule (wpAny_bind (wpAny_standAt (wpAny_bind (wpAny_mono h (fun it' s' h' => wpAny_pure (And.intro rfl h')) fun _ _ x => x)))))
        | (refine wpAny_bind (wpAny_rule ?_); show wpAny _ _ (standAt _ >>= _) _ _ s; exact wpAny_bind (wpAny_standAt (wpAny_bind (wpAny_mono h (fun it' s' h' => wpAny_pure (And.intro rfl h')) fun _ _ x => x))))
theorem count_take {l : List Nat} {i c : Nat} (a : Nat) (h : l[i]? = some c) : (l.take (i + 1)).count a = (l.take i).count a + if c = a then 1 else 0 := by
  rw [List.take_add_one, h, List.count_append]
  by_cases e : c = a
  · subst e; simp
  · simp [e]
/-- the inner loop's state -/
inductive InnI (C I D : Addr) (s : Shared) (x : Str) (v : Value) (ys : List Value) (l : List Nat) (St : Nat → Heap → Prop) : Nat → Shared → Prop
  | mk (h' : Heap) (tk : Nat) (m' : Str → Option Value) (i : Nat) (hst : St i h') (hn : h'.Ns C m') (hm : m' x = some v) (hD : h'.get? D = some (lst (ys ++ List.replicate ((l.take i).count 88) v))) (hi : i ≤ l.length) (hkp : ∀ b o, b ≠ C → b ≠ I → b ≠ D → s.heap.get? b = some o → h'.get? b = some o) :
    InnI C I D s x v ys l St (l.length + 1 - i) { s with heap := h', toks := tk }
theorem inner2 {iter iter2 : PySem.Expr} {x y q : Str} {px py p0 p1 p2 p3 : Pos} {kk : Nat} {scope : Scope} {pos : Pos} {I D : Addr} {cenv : Env} {R : Result → Shared → Prop} {l : List Nat} {St : Nat → Heap → Prop} {m : Str → Option Value} {v : Value} {ys : List Value}
    (W : Walks prog w A I [I] [I] l.length (SignAt (tx l)) St) (hk : cenv.scope.kind = .function) (hx : cenv.kindOf x = some .local) (hy : cenv.kindOf y = some .local) (hq : q = tx [88]) (hxy : x ≠ y)
    (hp : (cenv.scope.kind == .class || (cenv.scope.kind == .module && cenv.locals != cenv.globals)) = false) (hdx : (x == ("__debug__" : Str)) = false) (hdy : (y == ("__debug__" : Str)) = false)
    (hIC : I ≠ cenv.locals) (hID : I ≠ D) (hDC : D ≠ cenv.locals) (hst : St 0 s.heap) (hn : s.heap.Ns cenv.locals m) (hmx : m x = some v) (hD : s.heap.get? D = some (lst ys)) (hsz : ys.length + l.length ≤ sizeLine)
    (hR : ∀ h' tk m', h'.Ns cenv.locals m' → m' x = some v → h'.get? D = some (lst (ys ++ List.replicate (l.count 88) v)) → (∀ b o, b ≠ cenv.locals → b ≠ I → b ≠ D → s.heap.get? b = some o → h'.get? b = some o) → R (.ok .next) { s with heap := h', toks := tk }) :
    codeAny (model prog w) A (.compLoop (comp2 (.Name x p0) iter iter2 (.Compare (.Name y p1) [.Eq] [.Constant (.str q) kk p2] p3) x y px py scope pos) 1 (.ref I) (.ref D) cenv) R s := by
  refine codeAny_loop rfl (InnI cenv.locals I D s x v ys l St) (fun k s' hI => ?_) (l.length + 1) (.mk s.heap s.toks m 0 hst hn hmx (by simpa using hD) (Nat.zero_le _) fun _ _ _ _ _ e => e)
  obtain ⟨h', tk, m', i, hst', hn', hmx', hD', hi, hkp⟩ := hI
  show wpAny _ A ((compTurn _ 1 (.ref I) (.ref D) cenv).onRaise (fun x => do noteFrame x cenv; theTreesLotGoes x)) _ _ _
  refine wpAny_noted ?_
  rw [turn2_in]
  refine wpAny_bind (wpAny_standAt (wpAny_bind ?_))
  by_cases hlt : i < l.length
  · refine W.item i _ _ _ hlt hst' fun sv h₁ tk₁ hS hst₁ hk₁ => ?_
    obtain ⟨c, u, hc, rfl⟩ := hS
    have hc' : l[i]? = some c := by simpa [tx] using hc
    refine wpAny_bind (wpAny_pure (wpAny_bind ?_))
    refine wpAny_assign_Name (wpAny_storeName_local hy (hn'.at' fun o e => hk₁ _ o (by simpa using Ne.symm hIC) e) (fun h₂ hn₂ hs₂ => ?_) hp)
    have hst₂ : St (i + 1) h₂ := W.frame _ _ _ hst₁ fun b hb o e => hs₂.extBut b o (by simp only [List.mem_singleton] at hb; subst hb; exact hIC) e
    have hD₂ : h₂.get? D = some (lst (ys ++ List.replicate ((l.take i).count 88) v)) := hs₂.extBut _ _ hDC (hk₁ _ _ (by simpa using Ne.symm hID) hD')
    have up : ∀ b o, b ≠ cenv.locals → b ≠ I → b ≠ D → s.heap.get? b = some o → h₂.get? b = some o := fun b o b1 b2 b3 e => hs₂.extBut b o b1 (hk₁ b o (by simpa using b2) (hkp b o b1 b2 b3 e))
    refine wpAny_bind (wpAny_tests_one ?_)
    refine wpAny_isTrue_Compare1 ?_
    refine wpAny_Name (wpAny_loadName_local (v := .str ⟨#[c]⟩ u) hk hy hn₂ (by simp) ?_) hdy
    refine wpAny_Constant_str ?_
    refine PyProof.Rows.eq_str ?_
    refine wpAny_truthy_bool ?_
    have e1 : ((⟨#[c]⟩ : Str) == q) = decide (c = 88) := by
      rw [hq, show (⟨#[c]⟩ : Str) = tx [c] from rfl, tx_beq, Bool.eq_iff_iff]; simp
    have ht := count_take 88 hc'
    by_cases h88 : c = 88
    · rw [e1, decide_eq_true h88]
      refine wpAny_bind (wpAny_bind ?_)
      refine wpAny_Name (wpAny_loadName_local (v := v) hk hx hn₂ (by simp [hxy, hmx']) ?_) hdx
      rw [if_pos h88] at ht
      have hz : (ys ++ List.replicate ((l.take i).count 88) v).toArray.size ≤ sizeLine := by
        have h1 : (l.take i).count 88 ≤ (l.take i).length := List.count_le_length
        have h2 : (l.take i).length ≤ l.length := by rw [List.length_take]; (first | lia | omega)
        simp only [List.size_toArray, List.length_append, List.length_replicate]
        (first | lia | omega)
      refine wpAny_bind (append_at (hsz := hz) hD₂ fun h₃ hs₃ hD₃ => ?_)
      refine wpAny_pure (wpAny_pure ⟨rfl, l.length + 1 - (i + 1), by (first | lia | omega), .mk h₃ _ _ (i + 1) ?_ (hn₂.sameBut hs₃ (Ne.symm hDC)) (by simp [hxy, hmx']) ?_ hlt fun b o b1 b2 b3 e => hs₃.extBut b o b3 (up b o b1 b2 b3 e)⟩)
      · exact W.frame _ _ _ hst₂ fun b hb o e => hs₃.extBut b o (by simp only [List.mem_singleton] at hb; subst hb; exact hID) e
      · rw [hD₃, ht]
        refine congrArg some ((lst_snoc _ _).trans ?_)
        rw [List.append_assoc, List.replicate_succ']
    · rw [e1, decide_eq_false h88]
      rw [if_neg h88, Nat.add_zero] at ht
      refine wpAny_pure ⟨rfl, l.length + 1 - (i + 1), by (first | lia | omega), .mk h₂ _ _ (i + 1) hst₂ hn₂ (by simp [hxy, hmx']) ?_ hlt up⟩
      rw [hD₂, ht]; rfl
  · have hin : i = l.length := by (first | lia | omega)
    subst hin
    rw [List.take_length] at hD'
    refine W.done _ _ _ hst' fun h₁ tk₁ hk₁ => ?_
    refine wpAny_pure ?_
    exact hR h₁ tk₁ m' (hn'.at' fun o e => hk₁ _ o (by simpa using Ne.symm hIC) e) hmx' (hk₁ _ _ (by simpa using Ne.symm hID) hD') fun b o b1 b2 b3 e => hk₁ b o (by simpa using b2) (hkp b o b1 b2 b3 e)
end
/-- the page's second clause: what stands at a row -/
def RowAt (prog : Program) (w : World) (A : Around) (h₀ : Heap) (L : Addr) (m : Str → Option Value) (env : Env) (iter2 : PySem.Expr) (x : Str) (scope : Scope) (cl : List (Str × Addr)) (s : Shared) (f : Nat → List Nat) (n : Nat) (news : List (Addr × Obj)) : Prop :=
  ∀ i t I oI C oC D ys m₂ h tk (E' : Value → Shared → Prop), i < n → NsObj oC m₂ → m₂ x = some (.int (i : Int) t) → Fr h₀ L h m → News h₀ L h ((I, oI) :: (C, oC) :: (D, lst ys) :: news) → Off3 I C D news → ((@Ne Nat I C) ∧ (@Ne Nat I D) ∧ (@Ne Nat C D)) →
    wpAny (model prog w) A (eval iter2 (compEnvC scope cl C env)) (CompEnd h₀ L m { s with heap := h, toks := tk } I oI C oC D (lst ys) (fun _ => True) (fun v news' => news' = news ∧ ∃ t, v = .str (tx (f i)) t)) E' { s with heap := h, toks := tk }
/-- the places so far -/
def plc (f : Nat → List Nat) (i : Nat) : List Int := (List.range i).flatMap fun j => List.replicate ((f j).count 88) (j : Int)
theorem plc_succ (f : Nat → List Nat) (i : Nat) : plc f (i + 1) = plc f i ++ List.replicate ((f i).count 88) (i : Int) := by
  unfold plc
  rw [List.range_succ, List.flatMap_append]
  simp
theorem ints_rep (i : Int) (t : Tok) : ∀ n, IntsAre (List.replicate n (.int i t)) (List.replicate n i)
  | 0 => .nil
  | n + 1 => .cons i t (ints_rep i t n)
section
variable {prog : Program} {w : World} {A : Around} {E : Value → Shared → Prop} {s : Shared} {h₀ : Heap} {L : Addr} {m : Str → Option Value} {env : Env}
/-- the outer loop's state -/
inductive BlkI (h₀ : Heap) (L : Addr) (m : Str → Option Value) (C D : Addr) (n : Nat) (St : Nat → Heap → Prop) (f : Nat → List Nat) (news : List (Addr × Obj)) (s₂ : Shared) : Nat → Shared → Prop
  | mk (h' : Heap) (tk : Nat) (i : Nat) (ys : List Value) (m' : Str → Option Value) (hi : i ≤ n) (hy : IntsAre ys (plc f i)) (hst : St i h') (F : Fr h₀ L h' m) (hn : h'.Ns C m') (N : News h₀ L h' ((D, lst ys) :: news)) : BlkI h₀ L m C D n St f news s₂ (n + 1 - i) { s₂ with heap := h', toks := tk }
theorem block2 {iter iter2 : PySem.Expr} {x y q : Str} {px py p0 p1 p2 p3 : Pos} {kk : Nat} {scope : Scope} {cl : List (Str × Addr)} {pos : Pos} {s₂ : Shared} {I : Addr} {n : Nat} {St : Nat → Heap → Prop} {news : List (Addr × Obj)} {f : Nat → List Nat}
    {RR : Value → Addr → Result → Shared → Prop} (hh : A.handled = none)
    (W : Walks prog w A I [I] [I] n (fun i v => ∃ t, v = .int ((0 : Int) + (i : Int)) t) St) (hsz : ∀ i ≤ n, (plc f i).length + 1000 ≤ sizeLine) (hf : ∀ i < n, (f i).length ≤ 1000) (hIo : ∀ i h, St i h → ∃ o, h.get? I = some o)
    (hSt : ∀ i h h' o, St i h → h.get? I = some o → h'.get? I = some o → St i h')
    (hcell : ∀ y ∈ scope.names, y.2 ≠ .cell) (hkind : scope.kind = .function) (hx : scope.names.lookup x = some .local) (hy : scope.names.lookup y = some .local) (hst : St 0 s₂.heap)
    (hq : q = tx [88]) (hxy : x ≠ y) (hdx : (x == ("__debug__" : Str)) = false) (hdy : (y == ("__debug__" : Str)) = false) (hs2 : ∀ e z, foldedSetIterable iter2 e z = pure z)
    (F : Fr h₀ L s₂.heap m) (N : News h₀ L s₂.heap news) (hIL : L ≠ I) (hI₀ : h₀.get? I = none) (off : ∀ p ∈ news, p.1 ≠ I)
    (R : RowAt prog w A h₀ L m env iter2 x scope cl s₂ f n news)
    (hRR : ∀ D C h tk m' ys, Fr h₀ L h m → News h₀ L h ((D, lst ys) :: news) → Off1 D news → h.Ns C m' → h₀.get? C = none → h₀.get? D = none → C ≠ L → D ≠ L → C ≠ D → (∀ p ∈ news, p.1 ≠ C) → IntsAre ys (plc f n) → RR (.ref D) C (.ok .next) { s₂ with heap := h, toks := tk }) :
    wpAny (model prog w) A (newList []) (fun acc s₃ => wpAny (model prog w) A (newFunctionEnv scope env.globals cl [] env.qual none .none (some env)) (fun cenv s₄ =>
      codeAny (model prog w) A (.compStart (comp2 (.Name x p0) iter iter2 (.Compare (.Name y p1) [.Eq] [.Constant (.str q) kk p2] p3) x y px py scope pos) 0 (.ref I) acc { cenv with scope := relabel scope env }) (RR acc cenv.locals) s₄) E s₃) E s₂ := by
  refine wpAny_newObj_type (wpAny_newFunctionEnv hcell (by intro y hy; simp at hy) (fun h₁ hns₁ hsb₁ => ?_) hkind)
  dsimp only at hns₁ hsb₁ ⊢
  generalize hH2 : s₂.heap.push { cls := .type "list", dict := none, data := .seq ([] : List Value).toArray } = H2 at hns₁ hsb₁ ⊢
  have hC : H2.objs.size = s₂.heap.objs.size + 1 := by rw [← hH2, Heap.size_push]
  have hDC : s₂.heap.objs.size ≠ H2.objs.size := by rw [hC]; exact Nat.ne_of_lt (Nat.lt_succ_self _)
  have below : ∀ b, b < s₂.heap.objs.size → b ≠ H2.objs.size ∧ b ≠ s₂.heap.objs.size := fun b hb => ⟨by rw [hC]; exact Nat.ne_of_lt (Nat.lt_succ_of_lt hb), Nat.ne_of_lt hb⟩
  have hIlt : I < s₂.heap.objs.size := by obtain ⟨o, e⟩ := hIo _ _ hst; exact Heap.lt_size e
  have old : ∀ b o, s₂.heap.get? b = some o → h₁.get? b = some o := fun b o e => hsb₁.extBut b o (below b (Heap.lt_size e)).1 (Heap.get?_push_of_some _ (hH2 ▸ Heap.get?_push_of_some _ e))
  have hacc : h₁.get? s₂.heap.objs.size = some (lst []) := hsb₁.extBut _ _ hDC (Heap.get?_push_of_some _ (hH2 ▸ Heap.get?_push_size _ rfl))
  have hst₁ : St 0 h₁ := W.frame _ _ _ hst fun b _ o e => old b o e
  have fresh : ∀ a, s₂.heap.objs.size ≤ a → s₂.heap.get? a = none := fun a ha => by
    cases e : s₂.heap.get? a with
    | none => rfl
    | some o' => exact absurd (Heap.lt_size e) (Nat.not_lt.mpr ha)
  have fresh₀ : ∀ a, s₂.heap.objs.size ≤ a → h₀.get? a = none := fun a ha => by
    cases e : h₀.get? a with
    | none => rfl
    | some o' => have := F.keep a o' e; rw [fresh a ha] at this; cases this
  have hD₀ : h₀.get? s₂.heap.objs.size = none := fresh₀ _ (Nat.le_refl _)
  have hC₀ : h₀.get? H2.objs.size = none := fresh₀ _ (by rw [hC]; exact Nat.le_succ _)
  have hLlt : L < s₂.heap.objs.size := F.ns.lt
  have hDL : s₂.heap.objs.size ≠ L := Ne.symm (below L hLlt).2
  have hCL : H2.objs.size ≠ L := Ne.symm (below L hLlt).1
  have hCI : I ≠ H2.objs.size := (below I hIlt).1
  have hDI : I ≠ s₂.heap.objs.size := (below I hIlt).2
  have off' : Off3 I H2.objs.size s₂.heap.objs.size news := Off3.of fun p hp => ⟨off p hp, (below _ (Heap.lt_size (N p hp).1)).1, (below _ (Heap.lt_size (N p hp).1)).2⟩
  have off3 := off'.mem
  generalize hDD : s₂.heap.objs.size = D at *
  generalize hCC : H2.objs.size = C at *
  have loop : ∀ s₃ : Shared, s₃ = { s₂ with heap := h₁, toks := s₂.toks + ([] : List (Str × Value)).length } →
      codeAny (model prog w) A (.compLoop (comp2 (.Name x p0) iter iter2 (.Compare (.Name y p1) [.Eq] [.Constant (.str q) kk p2] p3) x y px py scope pos) 0 (.ref I) (.ref D) (compEnvC scope cl C env))
        (RR (.ref D) C) s₃ := by
    rintro s₃ rfl
    refine codeAny_loop rfl
      (BlkI h₀ L m C D n St f news s₂) (fun k s' hI => ?_) (n + 1)
      (.mk h₁ _ 0 [] _ (Nat.zero_le _) .nil hst₁ (F.keeps old) hns₁ fun p hp => ?_)
    · obtain ⟨h', tk, i, ys, m', hi, hyl, hst', F', hn', N'⟩ := hI
      show wpAny _ A ((compTurn _ 0 (.ref I) (.ref D) (compEnvC scope cl C env)).onRaise (fun x => do noteFrame x (compEnvC scope cl C env); theTreesLotGoes x)) _ _ _
      refine wpAny_noted ?_
      rw [turn2_out]
      refine wpAny_bind (wpAny_standAt (wpAny_bind ?_))
      by_cases hlt : i < n
      · refine W.item i _ _ _ hlt hst' fun v h₂ tk₂ hPv hst₂ hk₂ => ?_
        obtain ⟨t, rfl⟩ := hPv
        rw [Int.zero_add]
        refine wpAny_bind (wpAny_pure (wpAny_bind ?_))
        refine wpAny_assign_Name (wpAny_storeName_local (lookup_relabel_local hx) (hn'.at' fun o e => hk₂ _ o (by simpa using Ne.symm hCI) e) (fun h₃ hn₃ hs₃ => ?_) (by simp [compEnvC, relabel, hkind]))
        refine wpAny_bind (wpAny_tests_nil ?_)
        simp only [if_true]
        have hst₃ : St (i + 1) h₃ := W.frame _ _ _ hst₂ fun b hb o e => hs₃.extBut b o (by simp only [List.mem_singleton] at hb; subst hb; exact hCI) e
        obtain ⟨oI, heI⟩ := hIo _ _ hst₃
        obtain ⟨oC, heC, hoC⟩ := ns_obj hn₃
        have F₃ : Fr h₀ L h₃ m := (fr_but F' hk₂ hIL hI₀).change hs₃ hCL hC₀
        have N₂ : News h₀ L h₂ ((D, lst ys) :: news) := news_but N' hk₂ fun p hp => by
          rcases List.mem_cons.mp hp with rfl | hp
          · exact Ne.symm hDI
          · exact (off3 p hp).1
        have N₃ : News h₀ L h₃ ((I, oI) :: (C, oC) :: (D, lst ys) :: news) := fun p hp => by
          rcases List.mem_cons.mp hp with rfl | hp
          · exact ⟨heI, Ne.symm hIL, hI₀⟩
          · rcases List.mem_cons.mp hp with rfl | hp
            · exact ⟨heC, hCL, hC₀⟩
            · have z := N₂ p hp
              refine ⟨hs₃.extBut _ _ ?_ z.1, z.2⟩
              rcases List.mem_cons.mp hp with rfl | hp
              · exact hDC
              · exact (off3 p hp).2.1
        refine wpAny_bind (wpAny_mono (R i t I oI C oC D ys _ h₃ _ _ hlt hoC (by simp) F₃ N₃ off' ⟨hCI, hDI, Ne.symm hDC⟩) (fun v s₄ h₄ => ?_) fun _ _ e => e)
        obtain ⟨h₄, tk₄, news₄, rfl, F₄, N₄, -, -, e₄, t₄, rfl⟩ := h₄
        rw [e₄] at N₄
        clear e₄
        refine wpAny_bind (wpAny_standAt (wpAny_bind (wpAny_of_eq (hs2 _ _) (wpAny_bind ?_))))
        have zI := (N₄ (I, oI) List.mem_cons_self).1
        have zC := (N₄ (C, oC) (List.mem_cons_of_mem _ List.mem_cons_self)).1
        have zD := (N₄ (D, lst ys) (List.mem_cons_of_mem _ (List.mem_cons_of_mem _ List.mem_cons_self))).1
        have hst₄ : St (i + 1) h₄ := hSt _ _ _ _ hst₃ heI zI
        refine wpAny_holding (wpAny_pyIter_str fun o St₂ hW₂ hst2 => ?_)
        refine wpAny_bind (wpAny_runOwn ?_)
        have gtI : I ≠ h₄.objs.size := Nat.ne_of_lt (Heap.lt_size zI)
        have gtC : C ≠ h₄.objs.size := Nat.ne_of_lt (Heap.lt_size zC)
        have gtD : D ≠ h₄.objs.size := Nat.ne_of_lt (Heap.lt_size zD)
        have up₄ : ∀ b ob, h₄.get? b = some ob → (h₄.push o).get? b = some ob := fun b ob e => Heap.get?_push_of_some _ e
        have hW := hW₂ A hh
        rw [show (tx (f i)).cps.size = (f i).length from tx_len _] at hW
        have hlen : ys.length = (plc f i).length := hyl.length
        have hs1 := hsz i hi
        have hf1 := hf i hlt
        have inn : ∀ s₅ : Shared, s₅ = { s₂ with heap := h₄.push o, toks := tk₄ } → codeAny (model prog w) A (.compLoop (comp2 (.Name x p0) iter iter2 (.Compare (.Name y p1) [.Eq] [.Constant (.str q) kk p2] p3) x y px py scope pos) 1 (.ref h₄.objs.size) (.ref D) (compEnvC scope cl C env))
            (fun r s' => match r with
              | .ok _ => wpAny (model prog w) A (again (.compLoop (comp2 (.Name x p0) iter iter2 (.Compare (.Name y p1) [.Eq] [.Constant (.str q) kk p2] p3) x y px py scope pos) 0 (.ref I) (.ref D) (compEnvC scope cl C env))) (fun fin s' => match fin with | .done fl => RR (.ref D) C (.ok fl) s' | .again c' => c' = (.compLoop (comp2 (.Name x p0) iter iter2 (.Compare (.Name y p1) [.Eq] [.Constant (.str q) kk p2] p3) x y px py scope pos) 0 (.ref I) (.ref D) (compEnvC scope cl C env)) ∧ ∃ m', m' < n + 1 - i ∧ BlkI h₀ L m C D n St f news s₂ m' s') (notedBy (model prog w) A (compEnvC scope cl C env) fun e s' => RR (.ref D) C (.error e) s') s'
              | .error e => cameBackBy (model prog w) A (compEnvC scope cl C env) (notedBy (model prog w) A (compEnvC scope cl C env) fun e s' => RR (.ref D) C (.error e) s') e s') s₅ := by
          rintro s₅ rfl
          refine inner2 (cenv := compEnvC scope cl C env) (v := .int (i : Int) t) (ys := ys) hW (by simp [compEnvC, relabel, hkind]) (lookup_relabel_local hx) (lookup_relabel_local hy) hq hxy (by simp [compEnvC, relabel, hkind]) hdx hdy (Ne.symm gtC) (Ne.symm gtD) hDC hst2 ((hoC.ns zC).at' fun o e => up₄ _ _ e) (by simp) (up₄ _ _ zD) (by (first | lia | omega))
            fun h' tk m' hn5 hm5 hD5 hk5 => ?_
          have b0 : ∀ b ob, h₀.get? b = some ob → h'.get? b = some ob := fun b ob e => hk5 b ob (fun q => by
              have q' : b = C := q
              rw [q', hC₀] at e; cases e) (fun q => by
              have e2 := Heap.lt_size (F₄.keep _ _ e)
              rw [q] at e2
              exact absurd e2 (Nat.lt_irrefl _)) (fun q => by rw [q, hD₀] at e; cases e) (up₄ _ _ (F₄.keep b ob e))
          refine wpAny_pure ⟨rfl, n + 1 - (i + 1), by (first | lia | omega), .mk h' tk (i + 1) (ys ++ List.replicate ((f i).count 88) (.int (i : Int) t)) m' hlt ?_ ?_ ⟨?_, b0, F₄.above⟩ hn5 ?_⟩
          · rw [plc_succ]; exact hyl.append (ints_rep _ _ _)
          · exact hSt _ _ _ _ hst₄ zI (hk5 _ _ hCI gtI hDI (up₄ _ _ zI))
          · exact F₄.ns.at' fun o e => hk5 _ o (Ne.symm hCL) (Nat.ne_of_lt F₄.ns.lt) (Ne.symm hDL) (up₄ _ _ e)
          · intro p hp
            rcases List.mem_cons.mp hp with rfl | hp
            · exact ⟨hD5, hDL, hD₀⟩
            · have z := N₄ p (List.mem_cons_of_mem _ (List.mem_cons_of_mem _ (List.mem_cons_of_mem _ hp)))
              exact ⟨hk5 _ _ (off3 p hp).2.1 (Nat.ne_of_lt (Heap.lt_size z.1)) (off3 p hp).2.2 (up₄ _ _ z.1), z.2⟩
        exact start2 (A := A) (inn _ rfl) (hW.self 0 _ _ _ hst2 (inn _ rfl)) (by decide)
      · obtain rfl : i = n := Nat.le_antisymm hi (Nat.not_lt.mp hlt)
        refine W.done _ _ _ hst' fun h₂ tk₂ hk₂ => ?_
        refine wpAny_pure ?_
        exact hRR _ _ h₂ tk₂ _ ys (fr_but F' hk₂ hIL hI₀) (news_but N' hk₂ fun p hp => by
          rcases List.mem_cons.mp hp with rfl | hp
          · exact Ne.symm hDI
          · exact (off3 p hp).1) off'.one (hn'.at' fun o e => hk₂ _ o (by simpa using Ne.symm hCI) e) hC₀ hD₀ hCL hDL (Ne.symm hDC) (fun p hp => (off3 p hp).2.1) hyl
    · rcases List.mem_cons.mp hp with rfl | hp
      · exact ⟨hacc, hDL, hD₀⟩
      · exact ⟨old _ _ (N p hp).1, (N p hp).2⟩
  exact start2 (loop _ rfl) (W.self 0 _ _ _ hst₁ (loop _ rfl)) (by decide)
end
end

section
open PySem PySem.W PyProof.Rows PySem.Calls PySem.Spec
set_option maxRecDepth 100000
set_option maxHeartbeats 400000
open LCg
section
variable {prog : Program} {w : World} {A : Around} {E : Value → Shared → Prop} {s : Shared} {h₀ : Heap} {L : Addr} {m : Str → Option Value} {env : Env}
/-- the range is made, and what holds of each row and behind the whole -/
def Src2 (prog : Program) (w : World) (A : Around) (h₀ : Heap) (L : Addr) (m : Str → Option Value) (env : Env) (iter2 : PySem.Expr) (x z : Str) (scope : Scope) (cl : List (Str × Addr)) (f : Nat → List Nat) (Q : Flow → Shared → Prop) (xv : Value) (s₁ : Shared) : Prop :=
  ∃ r t u v n news, xv = .ref r ∧ A.handled = none ∧ Fr h₀ L s₁.heap m ∧ News h₀ L s₁.heap news ∧ IsRange s₁.heap r 0 ((n : Nat) : Int) 1 t u v ∧ n ≤ 1000 ∧ (∀ i ≤ n, (plc f i).length + 1000 ≤ sizeLine) ∧ (∀ i < n, (f i).length ≤ 1000) ∧
    (∀ g, RowAt prog w A h₀ L m env iter2 x scope cl { s₁ with heap := g } f n news) ∧
    ∀ D ys h tk, Fr h₀ L h (fun y => if y = z then some (.ref D) else m y) → News h₀ L h ((D, lst ys) :: news) → Off1 D news → IntsAre ys (plc f n) → Q .next { s₁ with heap := h, toks := tk }
theorem Assign_comp2 {iter iter2 : PySem.Expr} {x y z q : Str} {px py pz p0 p1 p2 p3 pos spos : Pos} {kk : Nat} {scope : Scope} {cl : List (Str × Addr)} {Q : Flow → Shared → Prop} (f : Nat → List Nat) (F₀ : Fr h₀ L s.heap m) (hLe : env.locals = L)
    (hsw : swapsWith (comp2 (.Name x p0) iter iter2 (.Compare (.Name y p1) [.Eq] [.Constant (.str q) kk p2] p3) x y px py scope pos) (some (.Name z pz)) spos.line env = pure true)
    (hclos : closureFor scope env = pure cl) (hcell : ∀ z ∈ scope.names, z.2 ≠ .cell) (hkind : scope.kind = .function)
    (hnames : ∀ z ∈ scope.names, z.2 = .local → scope.names.lookup z.1 = some .local) (hx : scope.names.lookup x = some .local) (hy : scope.names.lookup y = some .local)
    (hz : env.kindOf z = some .local) (hp : (env.scope.kind == .class || (env.scope.kind == .module && env.locals != env.globals)) = false)
    (hq : q = tx [88]) (hxy : x ≠ y) (hdx : (x == ("__debug__" : Str)) = false) (hdy : (y == ("__debug__" : Str)) = false) (hs2 : ∀ e z, foldedSetIterable iter2 e z = pure z)
    (h : wpAny (model prog w) A (eval iter env) (Src2 prog w A h₀ L m env iter2 x z scope cl f Q) E s)
    (hs : ∀ x, foldedSetIterable iter env x = pure x := by intro _; rfl) :
    wpAny (model prog w) A (exec (.Assign [.Name z pz] (comp2 (.Name x p0) iter iter2 (.Compare (.Name y p1) [.Eq] [.Constant (.str q) kk p2] p3) x y px py scope pos) spos) env) Q E s := by
  subst hLe
  rw [exec_Assign_Name_used _ _ _ _ hsw]
  refine wpAny_bind (wpAny_standAt (wpAny_bind ?_))
  show wpAny _ A (do let _ ← comprehension (comp2 (.Name x p0) iter iter2 (.Compare (.Name y p1) [.Eq] [.Constant (.str q) kk p2] p3) x y px py scope pos) scope env _ (newList []) false (eval iter env) (some (assign (.Name z pz) env))) _ _ s
  refine wpAny_bind (wpAny_mono (wpAny_comprehension_free (use := some (assign (.Name z pz) env)) (Q := fun _ s' => Q .next s') rfl hs hclos hkind hnames
    (wpAny_mono h (fun xv s₁ h₁ => ?_) fun _ _ e => e)) (fun _ s' hq => wpAny_pure (wpAny_pure hq)) fun _ _ e => e)
  obtain ⟨r, t, u, v, n, news, rfl, hh, F, N, hr, hn, h1, h2, R, fin⟩ := h₁
  refine wpAny_pyIter_range hr (rangeSmall_up n hn) ?_
  refine block2 hh (range_walks hh (0 : Int) n) h1 h2 (fun i h st => ⟨_, st⟩) (fun i h h' o st e e' => by
      have st' : h.get? _ = some _ := st
      show h'.get? _ = some _
      rw [e', ← e]; exact st') hcell hkind hx hy (by show IsRangeIter _ _ _ _ _; rw [rangeSize_up]; simpa using Heap.get?_push_size _ rfl)
    hq hxy hdx hdy hs2 (F.keeps fun _ _ e => Heap.get?_push_of_some _ e) (N.grown fun _ _ e => Heap.get?_push_of_some _ e) (Nat.ne_of_lt F.ns.lt) (next_is_new F) (fun p hp => Nat.ne_of_lt (Heap.lt_size (N p hp).1)) (R _) ?_
  intro D C h' tk m' ys F' N' o1 hn hC₀ hD₀ hCL hDL hCD offC hI
  show wpAny _ A (assign (.Name z pz) env (.ref D)) _ _ _
  refine wpAny_assign_Name (wpAny_storeName_local hz F'.ns (fun h₂ hn₂ hs₂ => ?_) hp)
  have hL₀ : h₀.get? env.locals = none := Heap.get?_none_of_le F'.above
  have F₂ : Fr h₀ env.locals h₂ (fun y => if y = z then some (.ref D) else m y) := ⟨hn₂, fun b o e => hs₂.extBut b o (fun q => by rw [q, hL₀] at e; cases e) (F'.keep b o e), F'.above⟩
  refine ⟨m', hn.sameBut hs₂ hCL, fun h'' hs'' => fin D ys h'' _ (F₂.change hs'' hCL hC₀) (fun p hp => ?_) o1 hI⟩
  have z : h₂.get? p.1 = some p.2 := hs₂.extBut _ _ (N' p hp).2.1 (N' p hp).1
  refine ⟨hs''.extBut _ _ ?_ z, (N' p hp).2⟩
  rcases List.mem_cons.mp hp with rfl | hp
  · exact Ne.symm hCD
  · exact offC p hp
end
section
variable {prog : Program} {w : World} {A : Around} {E : Value → Shared → Prop} {s : Shared} {h₀ : Heap} {L D : Addr} {m : Str → Option Value} {news : List (Addr × Obj)} {n : Nat} {Q : Value → Shared → Prop}
theorem strs_item {l : List (Str × Tok)} {pg : List (List Nat)} {i : Nat} (hl : l.map (·.1) = pg.map tx) (hi : i < pg.length) : ∃ t, (strValues l)[i]? = some (.str (tx (pg.getD i [])) t) := by
  have h1 : i < l.length := by
    have := congrArg List.length hl
    simp only [List.length_map] at this
    omega
  have h2 : (l.map (·.1))[i]? = (pg.map tx)[i]? := by rw [hl]
  simp only [List.getElem?_map, List.getElem?_eq_getElem h1, List.getElem?_eq_getElem hi, Option.map_some, Option.some.injEq] at h2
  refine ⟨l[i].2, ?_⟩
  simp [strValues, List.getElem?_eq_getElem h1, h2, List.getD_eq_getElem?_getD, List.getElem?_eq_getElem hi]
theorem row_item {l : List (Str × Tok)} {pg : List (List Nat)} {i : Nat} {u : Tok} {value slice : PySem.Expr} (N : News h₀ L s.heap news) (hD : (D, W.listOf (strValues l).toArray n) ∈ news) (hl : l.map (·.1) = pg.map tx) (hi : i < pg.length) (hz : pg.length ≤ 1000)
    (h : ∀ t, Q (.str (tx (pg.getD i [])) t) s)
    (hs : subscripted slice false (.ref D) (.int (i : Int) u) = operate [.ref D, .int (i : Int) u] (getItem (.ref D) (.int (i : Int) u)) := by with_unfolding_all rfl) :
    wpAny (model prog w) A (subscriptTail value slice (.ref D) (.int (i : Int) u)) Q E s := by
  obtain ⟨t, ht⟩ := strs_item hl hi
  have hL : s.heap.IsList D (strValues l).toArray := ⟨_, (N _ hD).1, rfl, _, rfl⟩
  exact tail_any hL.typeIs slot_list_getitem.lookup (wpAny_getItem_list hL (by omega) (by omega) (by simpa using ht) (h t)) hs
theorem len_strs {l : List (Str × Tok)} {pg : List (List Nat)} (N : News h₀ L s.heap news) (hD : (D, W.listOf (strValues l).toArray n) ∈ news) (hl : l.map (·.1) = pg.map tx) : s.heap.IsList D (strValues l).toArray ∧ (strValues l).toArray.size = pg.length := by
  refine ⟨⟨_, (N _ hD).1, rfl, _, rfl⟩, ?_⟩
  have := congrArg List.length hl
  simp only [List.length_map] at this
  simp [strValues, this]
end
end

section
open PySem PySem.W PyProof.Rows PySem.Calls PySem.Spec
set_option maxRecDepth 100000
set_option maxHeartbeats 400000
/-- what a value is, less its token -/
inductive VD where
  | int (n : Int) | str (l : List Nat) | bytes (l : List Nat) | bool (b : Bool) | ints (ns : List Int) | ref (a : Addr)
def ok (h : Heap) : VD → Value → Prop
  | .int n, v => ∃ t, v = .int n t
  | .str l, v => ∃ t, v = .str (tx l) t
  | .bytes l, v => ∃ t, v = .bytes (l.map Nat.toUInt8).toArray t
  | .bool b, v => v = .bool b
  | .ref a, v => v = .ref a
  | .ints ns, v => ∃ a vs n, v = .ref a ∧ h.get? a = some (W.listOf vs.toArray n) ∧ IntsAre vs ns
/-- the heap has grown, and what is not of these is as it was -/
def But (P : Addr → Prop) (h h' : Heap) : Prop := ∀ b o, ¬ P b → h.get? b = some o → h'.get? b = some o
/-- the frame's own objects -/
def Own (env : Env) (b : Addr) : Prop := b = env.locals ∨ ∃ x, env.cells.lookup x = some b
def CellAt (h₀ : Heap) (L : Addr) (h : Heap) (c : Addr) (w : Option Value) : Prop := c ≠ L ∧ h₀.get? c = none ∧ h.IsCell c w
structure Sg (h₀ : Heap) (env : Env) (σ ks : List (Str × VD)) (s : Shared) : Prop where
  fr : ∃ m, Fr h₀ env.locals s.heap m ∧ ∀ x d, σ.lookup x = some d → ∃ v, m x = some v ∧ ok s.heap d v
  ce : ∀ x c, env.cells.lookup x = some c → ∃ w, CellAt h₀ env.locals s.heap c w ∧ ∀ d, ks.lookup x = some d → ∃ v, w = some v ∧ ok s.heap d v
/-- all is kept -/
def Kp (_L : Addr) (s s' : Shared) : Prop := ∃ h' tk, s' = { s with heap := h', toks := tk } ∧ ∀ b o, s.heap.get? b = some o → h'.get? b = some o
def Mv (env : Env) (s s' : Shared) : Prop := ∃ h' tk, s' = { s with heap := h', toks := tk } ∧ But (Own env) s.heap h'
theorem ok_but {h h' : Heap} {d : VD} {v : Value} (x : ok h d v) (k : ∀ b o, (∃ l n, o.data = .seq l n) → h.get? b = some o → h'.get? b = some o) : ok h' d v := by
  cases d <;> first | exact x | skip
  obtain ⟨a, vs, n, e, hg, hi⟩ := x
  exact ⟨a, vs, n, e, k _ _ ⟨_, _, rfl⟩ hg, hi⟩
theorem ok_keep {h h' : Heap} {d : VD} {v : Value} (x : ok h d v) (k : ∀ b o, h.get? b = some o → h'.get? b = some o) : ok h' d v := ok_but x fun b o _ => k b o
theorem IsCell.keep {h h' : Heap} {c : Addr} {w : Option Value} (x : h.IsCell c w) (k : ∀ b o, h.get? b = some o → h'.get? b = some o) : h'.IsCell c w := by
  obtain ⟨o, e, r⟩ := x
  exact ⟨o, k _ _ e, r⟩
section
variable {prog : Program} {w : World} {A : Around} {h₀ : Heap} {env : Env} {σ ks σ' ks' : List (Str × VD)} {s s' : Shared} {L : Addr}
theorem ns_seq {h : Heap} {L b : Addr} {m : Str → Option Value} {o : Obj} (hn : h.Ns L m) (e : h.get? b = some o) (ho : ∃ l n, o.data = .seq l n) : b ≠ L := by
  rintro rfl
  obtain ⟨l, n, hd⟩ := ho
  obtain ⟨o', es, ep, e', hd', _⟩ := hn
  rw [e] at e'
  cases e'
  rw [hd] at hd'
  cases hd'
theorem Kp.ok {L : Addr} {d : VD} {v : Value} {m : Str → Option Value} (k : Kp L s s') (_hn : s.heap.Ns L m) (x : Mine.ok s.heap d v) : Mine.ok s'.heap d v := by
  obtain ⟨h', tk, rfl, k⟩ := k
  exact ok_keep x k
theorem Sg.ns (x : Sg h₀ env σ ks s) : ∃ m, s.heap.Ns env.locals m := let ⟨m, F, _⟩ := x.fr; ⟨m, F.ns⟩
theorem Sg.keeps (x : Sg h₀ env σ ks s) (k : Kp env.locals s s') : Sg h₀ env σ ks s' := by
  have kk := k
  obtain ⟨h', tk, rfl, k⟩ := k
  obtain ⟨m, F, hm⟩ := x.fr
  refine ⟨⟨m, F.keeps k, fun y d e => ?_⟩, fun y c e => ?_⟩
  · obtain ⟨v, e1, e2⟩ := hm y d e
    exact ⟨v, e1, kk.ok F.ns e2⟩
  · obtain ⟨w, ⟨c1, c2, ⟨o, e3, e4⟩⟩, hd⟩ := x.ce y c e
    refine ⟨w, ⟨c1, c2, ⟨o, k _ _ e3, e4⟩⟩, fun d e => ?_⟩
    obtain ⟨v, e1, e2⟩ := hd d e
    exact ⟨v, e1, kk.ok F.ns e2⟩
theorem Sg.okk {L : Addr} {d : VD} {v : Value} (hL : env.locals = L) (x : Sg h₀ env σ ks s) (k : Kp L s s') (o : ok s.heap d v) : ok s'.heap d v := by
  subst hL
  obtain ⟨m, hn⟩ := x.ns
  exact k.ok hn o
theorem Kp.rfl' {L : Addr} : Kp L s s := ⟨s.heap, s.toks, rfl, fun _ _ e => e⟩
theorem Kp.tok {L : Addr} {k : Nat} : Kp L s { s with toks := k } := ⟨s.heap, k, rfl, fun _ _ e => e⟩
theorem Kp.of {L : Addr} {h' : Heap} {k : Nat} (h : ∀ b o, s.heap.get? b = some o → h'.get? b = some o) : Kp L s { s with heap := h', toks := k } := ⟨h', k, rfl, h⟩
theorem Kp.trans' {L : Addr} {s'' : Shared} (a : Kp L s s') (b : Kp L s' s'') : Kp L s s'' := by
  obtain ⟨h1, t1, rfl, k1⟩ := a
  obtain ⟨h2, t2, rfl, k2⟩ := b
  exact ⟨h2, t2, rfl, fun b o e => k2 b o (k1 b o e)⟩
theorem Mv.of (a : Kp env.locals s s') : Mv env s s' := by
  obtain ⟨h1, t1, rfl, k1⟩ := a
  exact ⟨h1, t1, rfl, fun b o _ e => k1 b o e⟩
theorem Mv.trans {s'' : Shared} (a : Mv env s s') (b : Mv env s' s'') : Mv env s s'' := by
  obtain ⟨h1, t1, rfl, k1⟩ := a
  obtain ⟨h2, t2, rfl, k2⟩ := b
  exact ⟨h2, t2, rfl, fun b o n e => k2 b o n (k1 b o n e)⟩
/-- an expression's value -/
structure EvS (prog : Program) (w : World) (A : Around) (h₀ : Heap) (env : Env) (σ ks : List (Str × VD)) (e : PySem.Expr) (d : VD) : Prop where
  out : ∀ s Q E, Sg h₀ env σ ks s → (∀ v s', Kp env.locals s s' → ok s'.heap d v → Q v s') → wpAny (model prog w) A (eval e env) Q E s
/-- a test's answer -/
structure EvT (prog : Program) (w : World) (A : Around) (h₀ : Heap) (env : Env) (σ ks : List (Str × VD)) (e : PySem.Expr) (b : Bool) : Prop where
  out : ∀ s Q E, Sg h₀ env σ ks s → (∀ s', Kp env.locals s s' → Q b s') → wpAny (model prog w) A (isTrue e env (eval e env)) Q E s
/-- two values in, one out -/
structure OpS (L : Addr) (t : ∀ (s : Shared) (Q : Value → Shared → Prop) (E : Value → Shared → Prop), Value → Value → Prop) (a b d : VD) : Prop where
  out : ∀ v u s Q E, (∃ m, s.heap.Ns L m) → ok s.heap a v → ok s.heap b u → (∀ x s', Kp L s s' → ok s'.heap d x → Q x s') → t s Q E v u
abbrev BinS (L : Addr) (prog : Program) (w : World) (A : Around) (op : Operator) (a b d : VD) : Prop := OpS L (fun s Q E v u => wpAny (model prog w) A (binaryOp op v u) Q E s) a b d
abbrev CmpS (L : Addr) (prog : Program) (w : World) (A : Around) (op : CmpOp) (a b : VD) (c : Bool) : Prop := OpS L (fun s Q E v u => wpAny (model prog w) A (compareOp op v u) Q E s) a b (.bool c)
abbrev InpS (L : Addr) (prog : Program) (w : World) (A : Around) (op : Operator) (a b d : VD) : Prop := OpS L (fun s Q E v u => wpAny (model prog w) A (inplaceOp op v u) Q E s) a b d
theorem ev_int {n : Int} {k : Nat} {pos : Pos} : EvS prog w A h₀ env σ ks (.Constant (.int n) k pos) (.int n) := .mk fun _ _ _ _ h => wpAny_Constant_int (h _ _ .tok ⟨_, rfl⟩)
theorem ev_str {x : Str} {l : List Nat} {k : Nat} {pos : Pos} (e : x = tx l) : EvS prog w A h₀ env σ ks (.Constant (.str x) k pos) (.str l) := .mk fun _ _ _ _ h => wpAny_Constant_str (h _ _ .tok ⟨_, by rw [e]⟩)
theorem ev_bytes {x : List UInt8} {l : List Nat} {k : Nat} {pos : Pos} (e : x = l.map Nat.toUInt8) : EvS prog w A h₀ env σ ks (.Constant (.bytes x) k pos) (.bytes l) := .mk fun _ _ _ _ h => Constant_bytes (h _ _ .tok ⟨_, by rw [e]⟩)
theorem ev_name {x : Str} {d : VD} {pos : Pos} (hd : σ.lookup x = some d) (hk : env.scope.kind = .function) (hl : env.kindOf x = some .local) (hb : (x == ("__debug__" : Str)) = false) : EvS prog w A h₀ env σ ks (.Name x pos) d := .mk fun s Q E S h => by
  obtain ⟨m, F, hm⟩ := S.fr
  obtain ⟨v, e1, e2⟩ := hm _ _ hd
  exact wpAny_Name (wpAny_loadName_local hk hl F.ns e1 (h _ _ .rfl' e2)) hb
theorem ev_cell {x : Str} {c : Addr} {d : VD} {pos : Pos} (hd : ks.lookup x = some d) (hc : env.cells.lookup x = some c) (hk : env.scope.kind = .function) (hl : env.kindOf x = some .cell) (hb : (x == ("__debug__" : Str)) = false) : EvS prog w A h₀ env σ ks (.Name x pos) d := .mk fun s Q E S h => by
  obtain ⟨w, ⟨_, _, e1⟩, hw⟩ := S.ce _ _ hc
  obtain ⟨v, rfl, e2⟩ := hw _ hd
  exact wpAny_Name (wpAny_loadName_cell hk hl hc e1 (h _ _ .rfl' e2)) hb
theorem ev_bin {l r : PySem.Expr} {op : Operator} {pos : Pos} {a b d : VD} (hl : EvS prog w A h₀ env σ ks l a) (hr : EvS prog w A h₀ env σ ks r b) (ho : BinS env.locals prog w A op a b d) : EvS prog w A h₀ env σ ks (.BinOp l op r pos) d := .mk fun s Q E S h =>
  wpAny_BinOp (hl.out s _ _ S fun v s₁ k₁ o₁ => hr.out s₁ _ _ (S.keeps k₁) fun u s₂ k₂ o₂ => ho.out v u s₂ _ _ ((S.keeps k₁).keeps k₂).ns ((S.keeps k₁).okk rfl k₂ o₁) o₂ fun x s₃ k₃ o₃ => h x s₃ ((k₁.trans' k₂).trans' k₃) o₃)
theorem ev_neg {x : PySem.Expr} {pos : Pos} {n : Int} (hx : EvS prog w A h₀ env σ ks x (.int n)) : EvS prog w A h₀ env σ ks (.UnaryOp .USub x pos) (.int (-n)) := .mk fun s Q E S h =>
  wpAny_UnaryOp (hx.out s _ _ S fun v s₁ k₁ o₁ => by
    obtain ⟨t, rfl⟩ := o₁
    exact P.neg_int (h _ _ (k₁.trans' .tok) ⟨_, rfl⟩))
theorem ev_cmp {l r : PySem.Expr} {op : CmpOp} {pos : Pos} {a b : VD} {c : Bool} (hl : EvS prog w A h₀ env σ ks l a) (hr : EvS prog w A h₀ env σ ks r b) (ho : CmpS env.locals prog w A op a b c) (hm : behindInMarks op r = false) : EvS prog w A h₀ env σ ks (.Compare l [op] [r] pos) (.bool c) := .mk fun s Q E S h =>
  wpAny_Compare1 (hl.out s _ _ S fun v s₁ k₁ o₁ => hr.out s₁ _ _ (S.keeps k₁) fun u s₂ k₂ o₂ => ho.out v u s₂ _ _ ((S.keeps k₁).keeps k₂).ns ((S.keeps k₁).okk rfl k₂ o₁) o₂ fun x s₃ k₃ o₃ => h x s₃ ((k₁.trans' k₂).trans' k₃) o₃) hm
theorem et_cmp {l r : PySem.Expr} {op : CmpOp} {pos : Pos} {a b : VD} {c : Bool} (hl : EvS prog w A h₀ env σ ks l a) (hr : EvS prog w A h₀ env σ ks r b) (ho : CmpS env.locals prog w A op a b c) (hm : behindInMarks op r = false) : EvT prog w A h₀ env σ ks (.Compare l [op] [r] pos) c := .mk fun s Q E S h =>
  wpAny_isTrue_Compare1 (hl.out s _ _ S fun v s₁ k₁ o₁ => hr.out s₁ _ _ (S.keeps k₁) fun u s₂ k₂ o₂ => ho.out v u s₂ _ _ ((S.keeps k₁).keeps k₂).ns ((S.keeps k₁).okk rfl k₂ o₁) o₂ fun x s₃ k₃ o₃ => by
    cases o₃
    exact wpAny_truthy_bool (h s₃ ((k₁.trans' k₂).trans' k₃))) hm
theorem et_and {x y : PySem.Expr} {pos : Pos} {a b : Bool} (hx : EvT prog w A h₀ env σ ks x a) (hy : a = true → EvT prog w A h₀ env σ ks y b) : EvT prog w A h₀ env σ ks (.BoolOp .And [x, y] pos) (a && b) := .mk fun s Q E S h =>
  isTrue_and (hx.out s _ _ S fun s₁ k₁ => by
    cases a with
    | false => exact h s₁ k₁
    | true => exact isTrue_and ((hy rfl).out s₁ _ _ (S.keeps k₁) fun s₂ k₂ => by
        cases b with
        | false => exact h s₂ (k₁.trans' k₂)
        | true => exact isTrue_and_nil (h s₂ (k₁.trans' k₂))))
-- the operations
theorem o_add {a b : Int} : BinS L prog w A .Add (.int a) (.int b) (.int (a + b)) := .mk fun _ _ _ _ _ _ ⟨_, ha⟩ ⟨_, hb⟩ h => by
  subst ha hb; exact P.add_int (h _ _ .tok ⟨_, rfl⟩)
theorem o_iadd {a b : Int} : InpS L prog w A .Add (.int a) (.int b) (.int (a + b)) := .mk fun _ _ _ _ _ _ ⟨_, ha⟩ ⟨_, hb⟩ h => by
  subst ha hb; exact P.iadd_int (h _ _ .tok ⟨_, rfl⟩)
theorem o_sub {a b : Int} : BinS L prog w A .Sub (.int a) (.int b) (.int (a - b)) := .mk fun _ _ _ _ _ _ ⟨_, ha⟩ ⟨_, hb⟩ h => by
  subst ha hb; exact P.sub_int (h _ _ .tok ⟨_, rfl⟩)
theorem o_mul {a b : Int} (hm : IntMulOk a b) : BinS L prog w A .Mult (.int a) (.int b) (.int (a * b)) := .mk fun _ _ _ _ _ _ ⟨_, ha⟩ ⟨_, hb⟩ h => by
  subst ha hb; exact P.mul_int (h _ _ .tok ⟨_, rfl⟩) hm
theorem o_div {a b : Int} (hb : b ≠ 0) (hl : b.natAbs.log2 < 9000) : BinS L prog w A .FloorDiv (.int a) (.int b) (.int (a.fdiv b)) := .mk fun _ _ _ _ _ _ ⟨_, ha⟩ ⟨_, hb'⟩ h => by
  subst ha hb'; exact floordiv_int hb (h _ _ .tok ⟨_, rfl⟩) (.inl (PyProof.noPylong_of_log2 hl))
theorem o_mod {a b : Int} (hb : b ≠ 0) : BinS L prog w A .Mod (.int a) (.int b) (.int (a.fmod b)) := .mk fun _ _ _ _ _ _ ⟨_, ha⟩ ⟨_, hb'⟩ h => by
  subst ha hb'; exact mod_int' hb (h _ _ .tok ⟨_, rfl⟩)
theorem o_pow {b : Nat} (hb : b ≤ 1000) : BinS L prog w A .Pow (.int 16) (.int b) (.int (16 ^ b : Nat)) := .mk fun _ _ _ _ _ _ ⟨_, ha⟩ ⟨_, hb'⟩ h => by
  subst ha hb'
  by_cases h0 : b = 0
  · subst h0
    exact AutoIntOps.pow_0 (by decide) (by decide) (h _ _ .tok ⟨_, rfl⟩)
  · refine AutoIntOps.pow_4 (by (first | lia | omega)) (by simp; (first | lia | omega)) (by decide) (by decide) ?_ (h _ _ .tok ⟨_, by rw [Int.toNat_natCast]; push_cast; rfl⟩)
    rw [show Builtin.Int.intBits 16 = 5 by decide +kernel]
    unfold Builtin.Int.intTooBig
    have : 5000 < bitsLine := by decide +kernel
    simp
    (first | lia | omega)
theorem o_adds {a b : List Nat} (hz : a.length + b.length ≤ 1000000) : BinS L prog w A .Add (.str a) (.str b) (.str (a ++ b)) := .mk fun _ _ _ _ _ _ ⟨_, ha⟩ ⟨_, hb'⟩ h => by
  subst ha hb'
  exact PyProof.Rows.add_str (fun t' tk => h _ _ .tok ⟨t', by rw [tx_cat]⟩) (by rw [tx_len, tx_len, sizeLine_eq]; (first | lia | omega))
theorem o_addb {a b : List Nat} (hz : a.length + b.length ≤ 1000000) : BinS L prog w A .Add (.bytes a) (.bytes b) (.bytes (a ++ b)) := .mk fun _ _ _ _ _ _ ⟨_, ha⟩ ⟨_, hb'⟩ h => by
  subst ha hb'
  exact KBy.add_bytes (by simp; (first | lia | omega)) (fun t' tk => h _ _ .tok ⟨t', by simp⟩)
theorem o_mulb {a : List Nat} {n : Int} (ha : a ≠ []) (hl : a.length ≤ 16) (h1 : -1048576 ≤ n) (h2 : n ≤ 1048576) : BinS L prog w A .Mult (.bytes a) (.int n) (.bytes (List.replicate n.toNat a).flatten) := .mk fun _ _ _ _ _ _ ⟨_, e1⟩ ⟨_, e2⟩ h => by
  subst e1 e2
  refine bytes_mul_any (b := a.map Nat.toUInt8) (by simpa using ha) h1 h2 (by simpa using hl) fun t' k => h _ _ .tok ⟨t', ?_⟩
  rw [List.map_flatten, List.map_replicate]
theorem c_eq {a b : Int} : CmpS L prog w A .Eq (.int a) (.int b) (a == b) := .mk fun _ _ _ _ _ _ ⟨_, ha⟩ ⟨_, hb⟩ h => by
  subst ha hb; exact P.eq_int (h _ _ .rfl' rfl)
theorem c_ne {a b : Int} : CmpS L prog w A .NotEq (.int a) (.int b) (a != b) := .mk fun _ _ _ _ _ _ ⟨_, ha⟩ ⟨_, hb⟩ h => by
  subst ha hb; exact P.ne_int (h _ _ .rfl' rfl)
theorem c_lt {a b : Int} : CmpS L prog w A .Lt (.int a) (.int b) (decide (a < b)) := .mk fun _ _ _ _ _ _ ⟨_, ha⟩ ⟨_, hb⟩ h => by
  subst ha hb; exact P.lt_int (h _ _ .rfl' rfl)
theorem c_le {a b : Int} : CmpS L prog w A .LtE (.int a) (.int b) (decide (a ≤ b)) := .mk fun _ _ _ _ _ _ ⟨_, ha⟩ ⟨_, hb⟩ h => by
  subst ha hb; exact P.le_int (h _ _ .rfl' rfl)
theorem c_neb {a b : List Nat} (e : a = b) : CmpS L prog w A .NotEq (.bytes a) (.bytes b) false := .mk fun _ _ _ _ _ _ ⟨_, ha⟩ ⟨_, hb⟩ h => by
  subst ha hb e
  refine ne_bytes ?_
  simpa using h _ _ .rfl' rfl
theorem c_eqb {a b : List Nat} (e : a = b) : CmpS L prog w A .Eq (.bytes a) (.bytes b) true := .mk fun _ _ _ _ _ _ ⟨_, ha⟩ ⟨_, hb⟩ h => by
  subst ha hb e
  refine eq_bytes ?_
  simpa using h _ _ .rfl' rfl
end
end

section
open PySem PySem.W PyProof.Rows PySem.Calls PySem.Spec
set_option maxRecDepth 100000
set_option maxHeartbeats 400000
section
variable {prog : Program} {w : World} {A : Around} {h₀ : Heap} {env : Env} {σ ks σ' ks' σ'' ks'' : List (Str × VD)} {s s' : Shared} {L : Addr}
/-- a statement, from one state to another -/
structure StS (prog : Program) (w : World) (A : Around) (h₀ : Heap) (env : Env) (σ ks : List (Str × VD)) (st : Stmt) (σ' ks' : List (Str × VD)) : Prop where
  out : ∀ s (Q : Flow → Shared → Prop) E, PassesOwn (model prog w) A env E → Sg h₀ env σ ks s → (∀ s', Mv env s s' → Sg h₀ env σ' ks' s' → Q .next s') → wpAny (model prog w) A (exec st env) Q E s
structure ExS (prog : Program) (w : World) (A : Around) (h₀ : Heap) (env : Env) (σ ks : List (Str × VD)) (st : List Stmt) (σ' ks' : List (Str × VD)) : Prop where
  out : ∀ s (Q : Flow → Shared → Prop) E, PassesOwn (model prog w) A env E → Sg h₀ env σ ks s → (∀ s', Mv env s s' → Sg h₀ env σ' ks' s' → Q .next s') → wpAny (model prog w) A (execs st env) Q E s
theorem Mv.refl : Mv env s s := ⟨s.heap, s.toks, rfl, fun _ _ _ e => e⟩
theorem ex_nil : ExS prog w A h₀ env σ ks [] σ ks := .mk fun s _ _ _ S h => wpAny_execs_nil (h s .refl S)
theorem ex_cons {st : Stmt} {rest : List Stmt} (h1 : StS prog w A h₀ env σ ks st σ' ks') (h2 : ExS prog w A h₀ env σ' ks' rest σ'' ks'') : ExS prog w A h₀ env σ ks (st :: rest) σ'' ks'' := .mk fun s Q E hE S h =>
  wpAny_execs_cons (h1.out s _ E hE S fun s₁ m₁ S₁ => h2.out s₁ Q E hE S₁ fun s₂ m₂ S₂ => h s₂ (m₁.trans m₂) S₂)
/-- these names among those -/
def Among : List (Str × VD) → List (Str × VD) → Prop
  | [], _ => True
  | p :: r, σ => σ.lookup p.1 = some p.2 ∧ Among r σ
theorem Among.get : ∀ {r σ : List (Str × VD)} {x : Str} {d : VD}, Among r σ → r.lookup x = some d → σ.lookup x = some d
  | p :: r, σ, x, d, h, e => by
    rw [List.lookup_cons] at e
    split at e
    · rename_i hx
      cases e
      have : x = p.1 := by simpa using hx
      rw [this]; exact h.1
    · exact Among.get h.2 e
theorem Sg.weak (x : Sg h₀ env σ ks s) (h1 : Among σ' σ) (h2 : Among ks' ks) : Sg h₀ env σ' ks' s := by
  obtain ⟨m, F, hm⟩ := x.fr
  refine ⟨⟨m, F, fun y d e => hm y d (h1.get e)⟩, fun y c e => ?_⟩
  obtain ⟨w, c1, hd⟩ := x.ce y c e
  exact ⟨w, c1, fun d e => hd d (h2.get e)⟩
theorem ex_weak {st : List Stmt} (h : ExS prog w A h₀ env σ ks st σ' ks') (h1 : Among σ'' σ') (h2 : Among ks'' ks') : ExS prog w A h₀ env σ ks st σ'' ks'' := .mk fun s Q E hE S k => h.out s Q E hE S fun s₁ m₁ S₁ => k s₁ m₁ (S₁.weak h1 h2)
theorem cell_seq {h : Heap} {c b : Addr} {w : Option Value} {o : Obj} (hc : h.IsCell c w) (e : h.get? b = some o) (ho : ∃ l n, o.data = .seq l n) : b ≠ c := by
  rintro rfl
  obtain ⟨l, n, hd⟩ := ho
  obtain ⟨o', e', hd'⟩ := hc
  rw [e] at e'
  cases e'
  rw [hd] at hd'
  cases hd'
/-- a name is stored: a local one -/
theorem store_local {x : Str} {d : VD} {v : Value} {Q : Unit → Shared → Prop} {E : Value → Shared → Prop} (hl : env.kindOf x = some .local) (hp : (env.scope.kind == .class || (env.scope.kind == .module && env.locals != env.globals)) = false)
    (S : Sg h₀ env σ ks s) (o : ok s.heap d v) (h : ∀ s', Mv env s s' → Sg h₀ env ((x, d) :: σ) ks s' → Q () s') : wpAny (model prog w) A (storeName env x v) Q E s := by
  obtain ⟨m, F, hm⟩ := S.fr
  refine wpAny_storeName_local hl F.ns (fun h' hn hs => ?_) hp
  have kb : ∀ b ob, b ≠ env.locals → s.heap.get? b = some ob → h'.get? b = some ob := fun b ob n e => hs.extBut b ob n e
  have kd : ∀ {d : VD} {v : Value}, ok s.heap d v → ok h' d v := fun o => ok_but o fun b ob ho e => kb b ob (ns_seq F.ns e ho) e
  refine h _ ⟨h', _, rfl, fun b ob n e => kb b ob (fun q => n (.inl q)) e⟩ ⟨⟨_, F.set hn hs, fun y d' e => ?_⟩, fun y c e => ?_⟩
  · rw [List.lookup_cons] at e
    by_cases hy : y = x
    · subst hy
      simp only [beq_self_eq_true] at e
      cases e
      exact ⟨v, by simp, kd o⟩
    · have : (y == x) = false := by simpa using hy
      rw [this] at e
      obtain ⟨v', e1, e2⟩ := hm y d' e
      exact ⟨v', by simp [hy, e1], kd e2⟩
  · obtain ⟨w', ⟨c1, c2, ⟨oc, e3, e4⟩⟩, hd⟩ := S.ce y c e
    refine ⟨w', ⟨c1, c2, ⟨oc, kb _ _ c1 e3, e4⟩⟩, fun d' e => ?_⟩
    obtain ⟨v', e1, e2⟩ := hd d' e
    exact ⟨v', e1, kd e2⟩
/-- no two names share a cell -/
def CellInj (env : Env) : Prop := ∀ x y c, env.cells.lookup x = some c → env.cells.lookup y = some c → x = y
theorem store_cell {x : Str} {c : Addr} {d : VD} {v : Value} {Q : Unit → Shared → Prop} {E : Value → Shared → Prop} (hi : CellInj env) (hc : env.cells.lookup x = some c) (hk : env.scope.kind = .function) (hl : env.kindOf x = some .cell)
    (S : Sg h₀ env σ ks s) (o : ok s.heap d v) (h : ∀ s', Mv env s s' → Sg h₀ env σ ((x, d) :: ks) s' → Q () s') : wpAny (model prog w) A (storeName env x v) Q E s := by
  obtain ⟨m, F, hm⟩ := S.fr
  obtain ⟨w₀, ⟨c1, c2, c3⟩, _⟩ := S.ce x c hc
  refine wpAny_storeName_cell hk hl hc c3 fun h' hv hs => ?_
  have kb : ∀ b ob, b ≠ c → s.heap.get? b = some ob → h'.get? b = some ob := fun b ob n e => hs.extBut b ob n e
  have kd : ∀ {d : VD} {v : Value}, ok s.heap d v → ok h' d v := fun o => ok_but o fun b ob ho e => kb b ob (cell_seq c3 e ho) e
  refine h _ ⟨h', s.toks, rfl, fun b ob n e => kb b ob (fun q => n (.inr ⟨x, q ▸ hc⟩)) e⟩ ⟨⟨m, F.change hs c1 c2, fun y d' e => ?_⟩, fun y c' e => ?_⟩
  · obtain ⟨v', e1, e2⟩ := hm y d' e
    exact ⟨v', e1, kd e2⟩
  · by_cases hy : y = x
    · subst hy
      rw [hc] at e
      cases e
      refine ⟨some v, ⟨c1, c2, hv⟩, fun d' e => ?_⟩
      rw [List.lookup_cons] at e
      simp only [beq_self_eq_true] at e
      cases e
      exact ⟨v, rfl, kd o⟩
    · obtain ⟨w', ⟨d1, d2, ⟨oc, e3, e4⟩⟩, hd⟩ := S.ce y c' e
      have hne : c' ≠ c := fun q => hy (hi y x c (q ▸ e) hc)
      refine ⟨w', ⟨d1, d2, ⟨oc, kb _ _ hne e3, e4⟩⟩, fun d' e => ?_⟩
      rw [List.lookup_cons] at e
      have : (y == x) = false := by simpa using hy
      rw [this] at e
      obtain ⟨v', e1, e2⟩ := hd d' e
      exact ⟨v', e1, kd e2⟩
theorem st_assign {x : Str} {e : PySem.Expr} {d : VD} {px pos : Pos} (he : EvS prog w A h₀ env σ ks e d) (hl : env.kindOf x = some .local) (hp : (env.scope.kind == .class || (env.scope.kind == .module && env.locals != env.globals)) = false)
    (hs : swapsWith e (some (.Name x px)) pos.line env = pure false) : StS prog w A h₀ env σ ks (.Assign [.Name x px] e pos) ((x, d) :: σ) ks := .mk fun s Q E _ S h =>
  wpAny_Assign_Name (he.out s _ _ S fun v s₁ k₁ o₁ => store_local hl hp (S.keeps k₁) o₁ fun s₂ m₂ S₂ => h s₂ ((Mv.of k₁).trans m₂) S₂) hs
theorem st_assignC {x : Str} {c : Addr} {e : PySem.Expr} {d : VD} {px pos : Pos} (he : EvS prog w A h₀ env σ ks e d) (hi : CellInj env) (hc : env.cells.lookup x = some c) (hk : env.scope.kind = .function) (hl : env.kindOf x = some .cell)
    (hs : swapsWith e (some (.Name x px)) pos.line env = pure false) : StS prog w A h₀ env σ ks (.Assign [.Name x px] e pos) σ ((x, d) :: ks) := .mk fun s Q E _ S h =>
  wpAny_Assign_Name (he.out s _ _ S fun v s₁ k₁ o₁ => store_cell hi hc hk hl (S.keeps k₁) o₁ fun s₂ m₂ S₂ => h s₂ ((Mv.of k₁).trans m₂) S₂) hs
theorem st_aug {x : Str} {e : PySem.Expr} {op : Operator} {a b d : VD} {px pos : Pos} (ha : σ.lookup x = some a) (he : EvS prog w A h₀ env σ ks e b) (ho : InpS env.locals prog w A op a b d) (hk : env.scope.kind = .function) (hl : env.kindOf x = some .local)
    (hp : (env.scope.kind == .class || (env.scope.kind == .module && env.locals != env.globals)) = false) : StS prog w A h₀ env σ ks (.AugAssign (.Name x px) op e pos) ((x, d) :: σ) ks := .mk fun s Q E _ S h => by
  obtain ⟨m, F, hm⟩ := S.fr
  obtain ⟨v, e1, e2⟩ := hm _ _ ha
  exact wpAny_AugAssign_Name (wpAny_loadName_local hk hl F.ns e1 (he.out s _ _ S fun u s₁ k₁ o₁ => ho.out v u s₁ _ _ (S.keeps k₁).ns (S.okk rfl k₁ e2) o₁ fun z s₂ k₂ o₂ => store_local hl hp ((S.keeps k₁).keeps k₂) o₂ fun s₃ m₃ S₃ => h s₃ (((Mv.of k₁).trans (Mv.of k₂)).trans m₃) S₃))
/-- a test that is false: what stands behind it is not reached -/
theorem st_skip {t : PySem.Expr} {body : List Stmt} {pos : Pos} {b : Bool} (ht : EvT prog w A h₀ env σ ks t b) (hb : b = false) : StS prog w A h₀ env σ ks (.If t body [] pos) σ ks := .mk fun s Q E _ S h => by
  subst hb
  exact wpAny_If (ht.out s _ _ S fun s₁ k₁ => by
    rw [if_neg (by decide)]
    exact wpAny_execs_nil (h s₁ (Mv.of k₁) (S.keeps k₁)))
theorem st_if {t : PySem.Expr} {body orelse : List Stmt} {pos : Pos} {b : Bool} (ht : EvT prog w A h₀ env σ ks t b) (h1 : b = true → ExS prog w A h₀ env σ ks body σ' ks') (h2 : b = false → ExS prog w A h₀ env σ ks orelse σ' ks') : StS prog w A h₀ env σ ks (.If t body orelse pos) σ' ks' := .mk fun s Q E hE S h =>
  wpAny_If (ht.out s _ _ S fun s₁ k₁ => by
    cases b with
    | true =>
      rw [if_pos rfl]
      exact (h1 rfl).out s₁ Q E hE (S.keeps k₁) fun s₂ m₂ S₂ => h s₂ ((Mv.of k₁).trans m₂) S₂
    | false =>
      rw [if_neg (by decide)]
      exact (h2 rfl).out s₁ Q E hE (S.keeps k₁) fun s₂ m₂ S₂ => h s₂ ((Mv.of k₁).trans m₂) S₂)
-- tuples
theorem ev_pair {e1 e2 : PySem.Expr} {a b : VD} {kk : Nat} {pos : Pos} {Q : Value → Shared → Prop} {E : Value → Shared → Prop} (h1 : EvS prog w A h₀ env σ ks e1 a) (h2 : EvS prog w A h₀ env σ ks e2 b)
    (hs : starEach [e1, e2] env = [(false, eval e1 env), (false, eval e2 env)]) (S : Sg h₀ env σ ks s)
    (h : ∀ T u v s', Kp env.locals s s' → s'.heap.get? T = some { cls := .type "tuple", data := .seq #[u, v] } → ok s'.heap a u → ok s'.heap b v → Q (.ref T) s') : wpAny (model prog w) A (eval (.Tuple [e1, e2] kk pos) env) Q E s := by
  rw [arm_eval_Tuple, hs]
  refine wpAny_bind (wpAny_standAt (wpAny_bind ?_))
  refine spliced_cons (h1.out s _ _ S fun u s₁ k₁ o₁ => spliced_cons (h2.out s₁ _ _ (S.keeps k₁) fun v s₂ k₂ o₂ => spliced_nil ?_))
  refine wpAny_newTuple ?_
  have S2 := (S.keeps k₁).keeps k₂
  have k₃ : Kp env.locals s₂ { s₂ with heap := s₂.heap.push { cls := .type "tuple", data := .seq [u, v].toArray } } := Kp.of (k := s₂.toks) fun b o e => Heap.get?_push_of_some _ e
  exact h _ u v _ ((k₁.trans' k₂).trans' k₃) (Heap.get?_push_size _ rfl) (S2.okk rfl k₃ ((S.keeps k₁).okk rfl k₂ o₁)) (S2.okk rfl k₃ o₂)
theorem st_two {x y : Str} {e1 e2 : PySem.Expr} {a b : VD} {kk k2 : Nat} {px py tp vp pos : Pos} (h1 : EvS prog w A h₀ env σ ks e1 a) (h2 : EvS prog w A h₀ env σ ks e2 b) (hh : A.handled = none)
    (hs : starEach [e1, e2] env = [(false, eval e1 env), (false, eval e2 env)]) (hx : env.kindOf x = some .local) (hy : env.kindOf y = some .local) (hp : (env.scope.kind == .class || (env.scope.kind == .module && env.locals != env.globals)) = false)
    (hsw : swapsWithSole [.Tuple [.Name x px, .Name y py] kk tp] (.Tuple [e1, e2] k2 vp) pos.line env = pure false) (hw : swappedStores [.Tuple [.Name x px, .Name y py] kk tp] (.Tuple [e1, e2] k2 vp) env = pure (some [x, y])) :
    StS prog w A h₀ env σ ks (.Assign [.Tuple [.Name x px, .Name y py] kk tp] (.Tuple [e1, e2] k2 vp) pos) ((x, a) :: (y, b) :: σ) ks := .mk fun s Q E _ S h =>
  Assign_Tuple_swapped (names := [x, y]) (ev_pair h1 h2 hs S fun T u v s₁ k₁ hT o1 o2 => wpAny_unpackItems_tuple (items := #[u, v]) hh ⟨_, hT, rfl, _, rfl⟩ fun h' hx' => by
    have k₂ : Kp env.locals s₁ { s₁ with heap := h' } := Kp.of (k := s₁.toks) fun b o e => hx' b o (Nat.ne_of_lt (Heap.lt_size e)) e
    have S1 := S.keeps k₁
    refine assignInOrder_cons (bindName_ (store_local hy hp (S1.keeps k₂) (S1.okk rfl k₂ o2) fun s₂ m₂ S₂ => ?_))
    refine assignInOrder_cons (bindName_ (store_local (d := a) hx hp S₂ ?_ fun s₃ m₃ S₃ => assignInOrder_nil (h s₃ ((((Mv.of k₁).trans (Mv.of k₂)).trans m₂).trans m₃) S₃)))
    obtain ⟨h2', t2, rfl, kk⟩ := m₂
    obtain ⟨m0, hn0⟩ := (S1.keeps k₂).ns
    exact ok_but (S1.okk rfl k₂ o1) fun bb oo ho e => kk bb oo (fun q => by
      rcases q with q | ⟨z, q⟩
      · exact ns_seq hn0 e ho q
      · obtain ⟨_, ⟨_, _, c3⟩, _⟩ := (S1.keeps k₂).ce z bb q
        exact cell_seq c3 e ho rfl) e) hsw hw
end
end

section
open PySem PySem.W PyProof.Rows PySem.Calls PySem.Spec
set_option maxRecDepth 100000
set_option maxHeartbeats 400000
section
variable {prog : Program} {w : World} {A : Around} {h₀ : Heap} {env : Env} {σ ks σ' ks' σ'' ks'' : List (Str × VD)} {s s' : Shared} {L : Addr}
/-- a name's store -/
structure StoS (prog : Program) (w : World) (A : Around) (h₀ : Heap) (env : Env) (x : Str) (d : VD) (σ ks σ' ks' : List (Str × VD)) : Prop where
  out : ∀ s v Q E, Sg h₀ env σ ks s → ok s.heap d v → (∀ s', Mv env s s' → Sg h₀ env σ' ks' s' → Q () s') → wpAny (model prog w) A (storeName env x v) Q E s
theorem sto_l {x : Str} {d : VD} (hl : env.kindOf x = some .local) (hp : (env.scope.kind == .class || (env.scope.kind == .module && env.locals != env.globals)) = false) : StoS prog w A h₀ env x d σ ks ((x, d) :: σ) ks := .mk fun _ _ _ _ S o h => store_local hl hp S o h
theorem sto_c {x : Str} {c : Addr} {d : VD} (hi : CellInj env) (hc : env.cells.lookup x = some c) (hk : env.scope.kind = .function) (hl : env.kindOf x = some .cell) : StoS prog w A h₀ env x d σ ks σ ((x, d) :: ks) := .mk fun _ _ _ _ S o h => store_cell hi hc hk hl S o h
/-- an expression gives a pair -/
structure PairS (prog : Program) (w : World) (A : Around) (h₀ : Heap) (env : Env) (σ ks : List (Str × VD)) (e : PySem.Expr) (a b : VD) : Prop where
  out : ∀ s Q E, Sg h₀ env σ ks s → (∀ T u v n s', Kp env.locals s s' → s'.heap.get? T = some { cls := .type "tuple", data := .seq #[u, v] n } → ok s'.heap a u → ok s'.heap b v → Q (.ref T) s') → wpAny (model prog w) A (eval e env) Q E s
theorem pair_lit {e1 e2 : PySem.Expr} {a b : VD} {kk : Nat} {pos : Pos} (h1 : EvS prog w A h₀ env σ ks e1 a) (h2 : EvS prog w A h₀ env σ ks e2 b) (hs : starEach [e1, e2] env = [(false, eval e1 env), (false, eval e2 env)]) : PairS prog w A h₀ env σ ks (.Tuple [e1, e2] kk pos) a b :=
  .mk fun _ _ _ S h => ev_pair h1 h2 hs S fun T u v s' k e => h T u v _ s' k e
theorem Sg.okm {d : VD} {v : Value} (S : Sg h₀ env σ ks s) (m : Mv env s s') (o : ok s.heap d v) : ok s'.heap d v := by
  obtain ⟨h', t, rfl, kk⟩ := m
  obtain ⟨m0, hn0⟩ := S.ns
  exact ok_but o fun bb oo ho e => kk bb oo (fun q => by
    rcases q with q | ⟨z, q⟩
    · exact ns_seq hn0 e ho q
    · obtain ⟨_, ⟨_, _, c3⟩, _⟩ := S.ce z bb q
      exact cell_seq c3 e ho rfl) e
theorem st_pair {x y : Str} {value : PySem.Expr} {a b : VD} {kk : Nat} {px py tp pos : Pos} (hv : PairS prog w A h₀ env σ ks value a b) (hh : A.handled = none) (h1 : StoS prog w A h₀ env x a σ ks σ' ks') (h2 : StoS prog w A h₀ env y b σ' ks' σ'' ks'')
    (hsw : swapsWithSole [.Tuple [.Name x px, .Name y py] kk tp] value pos.line env = pure false) (hw : swappedStores [.Tuple [.Name x px, .Name y py] kk tp] value env = pure none) :
    StS prog w A h₀ env σ ks (.Assign [.Tuple [.Name x px, .Name y py] kk tp] value pos) σ'' ks'' := .mk fun s Q E _ S h =>
  Assign_Tuple (hv.out s _ _ S fun T u v n s₁ k₁ hT o1 o2 => wpAny_assign_Tuple (items := #[u, v]) hh ⟨_, hT, rfl, _, rfl⟩ rfl rfl fun h' hx' => by
    have k₂ : Kp env.locals s₁ { s₁ with heap := h' } := Kp.of (k := s₁.toks) fun b o e => hx' b o (Nat.ne_of_lt (Heap.lt_size e)) e
    have S1 := S.keeps k₁
    show wpAny _ _ (assignInOrder [assign (.Name x px) env, assign (.Name y py) env] [u, v]) _ _ _
    refine assignInOrder_cons (wpAny_assign_Name (h1.out _ _ _ _ (S1.keeps k₂) (S1.okk rfl k₂ o1) fun s₂ m₂ S₂ => ?_))
    exact assignInOrder_cons (wpAny_assign_Name (h2.out _ _ _ _ S₂ ((S1.keeps k₂).okm m₂ (S1.okk rfl k₂ o2)) fun s₃ m₃ S₃ => assignInOrder_nil (h s₃ ((((Mv.of k₁).trans (Mv.of k₂)).trans m₂).trans m₃) S₃)))) hsw hw
-- lists
theorem ints_at : ∀ {vs : List Value} {ns : List Int} {i : Nat} {n : Int}, IntsAre vs ns → ns[i]? = some n → ∃ t, vs[i]? = some (.int n t)
  | _, _, 0, _, .cons k t _, e => by
    simp only [List.getElem?_cons_zero] at e
    cases e
    exact ⟨t, rfl⟩
  | _, _, i + 1, _, .cons k t h, e => by
    simp only [List.getElem?_cons_succ] at e ⊢
    exact ints_at h e
  | _, _, i, _, .nil, e => by simp at e
theorem ev_item {value slice : PySem.Expr} {pos : Pos} {ns : List Int} {i n : Int} (hv : EvS prog w A h₀ env σ ks value (.ints ns)) (hs : EvS prog w A h₀ env σ ks slice (.int i)) (h0 : 0 ≤ i) (h1 : i < 1000000) (hn : ns[i.toNat]? = some n)
    (hsub : ∀ a u, subscripted slice false (.ref a) (.int i u) = operate [.ref a, .int i u] (getItem (.ref a) (.int i u))) (ht : ∀ a r, letTemporaryGo value (.ref a) r = pure ()) : EvS prog w A h₀ env σ ks (.Subscript value slice pos) (.int n) := .mk fun s Q E S h =>
  Subscript_ (hv.out s _ _ S fun v s₁ k₁ o₁ => hs.out s₁ _ _ (S.keeps k₁) fun u s₂ k₂ o₂ => by
    obtain ⟨a, vs, m, rfl, hg, hi⟩ := (S.keeps k₁).okk rfl k₂ o₁
    obtain ⟨t, rfl⟩ := o₂
    obtain ⟨t', e'⟩ := ints_at hi hn
    have hL : s₂.heap.IsList a vs.toArray := ⟨_, hg, rfl, _, rfl⟩
    exact tail_of_ItemOn ⟨"list", _, slot_list_getitem.lookup, hL.typeIs, wpAny_getItem_list hL h0 (by (first | lia | omega)) (by simpa using e') (h _ _ (k₁.trans' k₂) ⟨t', rfl⟩)⟩ (hsub a t) (ht a))
-- calls
/-- these values are of these kinds -/
def oks (h : Heap) : List VD → List Value → Prop
  | [], [] => True
  | d :: ds, v :: vs => ok h d v ∧ oks h ds vs
  | _, _ => False
theorem Sg.okks (S : Sg h₀ env σ ks s) (k : Kp env.locals s s') : ∀ {ds : List VD} {vs : List Value}, oks s.heap ds vs → oks s'.heap ds vs
  | [], [], h => h
  | d :: ds, v :: vs, h => ⟨S.okk rfl k h.1, Sg.okks S k h.2⟩
  | [], _ :: _, h => h.elim
  | _ :: _, [], h => h.elim
structure EvL (prog : Program) (w : World) (A : Around) (h₀ : Heap) (env : Env) (σ ks : List (Str × VD)) (pos : Pos) (es : List PySem.Expr) (ds : List VD) : Prop where
  out : ∀ s Q E, Sg h₀ env σ ks s → (∀ vs s', Kp env.locals s s' → oks s'.heap ds vs → Q vs s') → wpAny (model prog w) A (spliced (backTo pos (starEach es env))) Q E s
theorem el_nil {pos : Pos} : EvL prog w A h₀ env σ ks pos [] [] := .mk fun s Q E S h => args_nil (h [] s .rfl' trivial)
theorem el_cons {pos : Pos} {e : PySem.Expr} {es : List PySem.Expr} {d : VD} {ds : List VD} (h1 : EvS prog w A h₀ env σ ks e d) (h2 : EvL prog w A h₀ env σ ks pos es ds) (he : starEach (e :: es) env = (false, eval e env) :: starEach es env) : EvL prog w A h₀ env σ ks pos (e :: es) (d :: ds) := .mk fun s Q E S h =>
  args_cons (h1.out s _ _ S fun v s₁ k₁ o₁ => h2.out s₁ _ _ (S.keeps k₁) fun vs s₂ k₂ o₂ => h (v :: vs) s₂ (k₁.trans' k₂) ⟨(S.keeps k₁).okk rfl k₂ o₁, o₂⟩) he
theorem oks1 {h : Heap} {a : VD} : ∀ {vs : List Value}, oks h [a] vs → ∃ v, vs = [v] ∧ ok h a v
  | [v], o => ⟨v, rfl, o.1⟩
theorem oks2 {h : Heap} {a b : VD} : ∀ {vs : List Value}, oks h [a, b] vs → ∃ v u, vs = [v, u] ∧ ok h a v ∧ ok h b u
  | [v, u], o => ⟨v, u, rfl, o.1, o.2.1⟩
theorem oks3 {h : Heap} {a b c : VD} : ∀ {vs : List Value}, oks h [a, b, c] vs → ∃ v u x, vs = [v, u, x] ∧ ok h a v ∧ ok h b u ∧ ok h c x
  | [v, u, x], o => ⟨v, u, x, rfl, o.1, o.2.1, o.2.2.1⟩
/-- a name that stands for this value -/
structure NmS (prog : Program) (w : World) (A : Around) (h₀ : Heap) (env : Env) (σ ks : List (Str × VD)) (e : PySem.Expr) (f : Value) : Prop where
  out : ∀ s Q E, Sg h₀ env σ ks s → Q f s → wpAny (model prog w) A (eval e env) Q E s
/-- how a call of this value with these arguments runs -/
structure CwS (prog : Program) (w : World) (A : Around) (h₀ : Heap) (env : Env) (σ ks : List (Str × VD)) (f : Value) (es : List PySem.Expr) (pos : Pos) : Prop where
  out : ∀ s (Q : Value → Shared → Prop) E, Sg h₀ env σ ks s →
  wpAny (model prog w) A (spliced (backTo pos (starEach es env))) (fun vs s₁ => Sg h₀ env σ ks s₁ ∧ wpAny (model prog w) A (call f vs) Q E s₁) E s → wpAny (model prog w) A (callWith pos f [] (backTo pos (starEach es env)) []) Q E s
/-- what a call gives -/
structure CalR (prog : Program) (w : World) (A : Around) (h₀ : Heap) (env : Env) (σ ks : List (Str × VD)) (f : Value) (ds : List VD) (R : Heap → Value → Prop) : Prop where
  out : ∀ vs s Q E, Sg h₀ env σ ks s → oks s.heap ds vs → (∀ y s', Kp env.locals s s' → R s'.heap y → Q y s') → wpAny (model prog w) A (call f vs) Q E s
theorem cw_builtin {id : String} {e : PySem.Expr} {es : List PySem.Expr} {pos : Pos} (he : starEach (e :: es) env = (false, eval e env) :: starEach es env) (hp : (backTo pos (starEach es env)).any (·.1) = false) : CwS prog w A h₀ env σ ks (.builtin id) (e :: es) pos := .mk fun s Q E _ h =>
  PyProof.Rows.callWith_builtin1 (wpAny_mono h (fun _ _ x => x.2) fun _ _ x => x) he hp
theorem cw_type {T : String} {e : PySem.Expr} {es : List PySem.Expr} {pos : Pos} (he : starEach (e :: es) env = (false, eval e env) :: starEach es env) (hp : (backTo pos (starEach es env)).any (·.1) = false) : CwS prog w A h₀ env σ ks (.type T) (e :: es) pos := .mk fun s Q E _ h =>
  PyProof.Rows.callWith_type1 (wpAny_mono h (fun _ _ x => x.2) fun _ _ x => x) he hp
theorem cw_fn {K : Frag} {f : Value} {e : PySem.Expr} {es : List PySem.Expr} {pos : Pos} (X : K.In h₀) (hk : keepIn K f = true) (he : starEach (e :: es) env = (false, eval e env) :: starEach es env) (hp : (backTo pos (starEach es env)).any (·.1) = false) : CwS prog w A h₀ env σ ks f (e :: es) pos := .mk fun s Q E _ h =>
  callWith_K (first := []) X hk (wpAny_mono h (fun vs s₁ x => ⟨X.keeps (let ⟨_, F, _⟩ := x.1.fr; F.keep), x.2⟩) fun _ _ x => x) he hp
theorem er_call {fe : PySem.Expr} {f : Value} {es : List PySem.Expr} {ds : List VD} {R : Heap → Value → Prop} {pos : Pos} {Q : Value → Shared → Prop} {E : Value → Shared → Prop} (hf : NmS prog w A h₀ env σ ks fe f) (hc : CwS prog w A h₀ env σ ks f es pos) (hl : EvL prog w A h₀ env σ ks pos es ds) (hr : CalR prog w A h₀ env σ ks f ds R)
    (he : eval (.Call fe es [] pos) env = (do callWith pos (← eval fe env) [] (backTo pos (starEach es env)) (backToKw pos (keywordEach [] env)))) (S : Sg h₀ env σ ks s) (h : ∀ y s', Kp env.locals s s' → R s'.heap y → Q y s') : wpAny (model prog w) A (eval (.Call fe es [] pos) env) Q E s :=
  Call_ (hf.out s _ _ S (hc.out s _ _ S (hl.out s _ _ S fun vs s₁ k₁ o₁ => ⟨S.keeps k₁, hr.out vs s₁ _ _ (S.keeps k₁) o₁ fun y s₂ k₂ r => h y s₂ (k₁.trans' k₂) r⟩))) he
theorem ev_call {fe : PySem.Expr} {f : Value} {es : List PySem.Expr} {ds : List VD} {d : VD} {pos : Pos} (hf : NmS prog w A h₀ env σ ks fe f) (hc : CwS prog w A h₀ env σ ks f es pos) (hl : EvL prog w A h₀ env σ ks pos es ds) (hr : CalR prog w A h₀ env σ ks f ds fun h v => ok h d v)
    (he : eval (.Call fe es [] pos) env = (do callWith pos (← eval fe env) [] (backTo pos (starEach es env)) (backToKw pos (keywordEach [] env)))) : EvS prog w A h₀ env σ ks (.Call fe es [] pos) d := .mk fun _ _ _ S h => er_call hf hc hl hr he S h
theorem cl_len {ns : List Int} (hn : ns.length < 1000000) : CalR prog w A h₀ env σ ks (.builtin "len") [.ints ns] fun h v => ok h (.int (ns.length : Int)) v := .mk fun vs s Q E S o h => by
  obtain ⟨v, rfl, p1⟩ := oks1 o
  obtain ⟨a, vs, m, rfl, hg, hi⟩ := p1
  have e : vs.toArray.size = ns.length := by rw [List.size_toArray, hi.length]
  exact len_list ⟨_, hg, rfl, _, rfl⟩ (by rw [e]; (first | lia | omega)) (h _ _ .tok ⟨_, by rw [e]⟩)
theorem cl_int {b : Bool} : CalR prog w A h₀ env σ ks (.type "int") [.bool b] fun h v => ok h (.int (if b then 1 else 0)) v := .mk fun vs s Q E S o h => by
  obtain ⟨v, rfl, p1⟩ := oks1 o
  cases p1
  exact call_int_bool (h _ _ .tok ⟨_, rfl⟩)
theorem cl_max {a b : Int} (hh : A.handled = none) : CalR prog w A h₀ env σ ks (.builtin "max") [.int a, .int b] fun h v => ok h (.int (if b > a then b else a)) v := .mk fun vs s Q E S o h => by
  obtain ⟨v, u, rfl, p1, p2⟩ := oks2 o
  obtain ⟨t, rfl⟩ := p1
  obtain ⟨t', rfl⟩ := p2
  refine max_two_ints hh fun h' tk hk => h _ _ (Kp.of hk) ?_
  by_cases c : b > a
  · rw [if_pos c, if_pos c]; exact ⟨_, rfl⟩
  · rw [if_neg c, if_neg c]; exact ⟨_, rfl⟩
/-- a range from a to b -/
def Rng (a b : Int) (h : Heap) (v : Value) : Prop := ∃ r t u x, v = .ref r ∧ IsRange h r a b 1 t u x
theorem cl_range1 {b : Int} : CalR prog w A h₀ env σ ks (.type "range") [.int b] (Rng 0 b) := .mk fun vs s Q E S o h => by
  obtain ⟨v, rfl, p1⟩ := oks1 o
  obtain ⟨t, rfl⟩ := p1
  obtain ⟨m, F, _⟩ := S.fr
  exact range1_rows F nil_news fun h' tk t1 u1 v1 hr _ _ hk => h _ _ (Kp.of hk) ⟨_, _, _, _, rfl, hr⟩
theorem cl_range2 {a b : Int} : CalR prog w A h₀ env σ ks (.type "range") [.int a, .int b] (Rng a b) := .mk fun vs s Q E S o h => by
  obtain ⟨v, u, rfl, p1, p2⟩ := oks2 o
  obtain ⟨t, rfl⟩ := p1
  obtain ⟨t', rfl⟩ := p2
  obtain ⟨m, F, _⟩ := S.fr
  exact range2_rows F nil_news fun h' tk t1 u1 v1 hr _ _ hk => h _ _ (Kp.of hk) ⟨_, _, _, _, rfl, hr⟩
theorem cl_divmod {a b : Int} (hb : b ≠ 0) (hl : b.natAbs.log2 < 9000) : CalR prog w A h₀ env σ ks (.builtin "divmod") [.int a, .int b] fun h v => ∃ T u x n, v = .ref T ∧ h.get? T = some { cls := .type "tuple", data := .seq #[u, x] n } ∧ ok h (.int (a.fdiv b)) u ∧ ok h (.int (a.fmod b)) x := .mk fun vs s Q E S o h => by
  obtain ⟨v, u, rfl, p1, p2⟩ := oks2 o
  obtain ⟨t, rfl⟩ := p1
  obtain ⟨t', rfl⟩ := p2
  exact divmod_int hb (h _ _ (Kp.of fun b o e => Heap.get?_push_of_some _ e) ⟨_, _, _, _, rfl, Heap.get?_push_size _ rfl, ⟨_, rfl⟩, ⟨_, rfl⟩⟩) (.inl (PyProof.noPylong_of_log2 hl))
-- a loop over a range
theorem Sg.iter {I : Addr} {h' : Heap} {tk : Nat} {vs : Array Value} (S : Sg h₀ env σ ks s) (hI : ∃ o, s.heap.get? I = some o ∧ o.data = .fields vs) (hI₀ : h₀.get? I = none) (k : ∀ b o, b ≠ I → s.heap.get? b = some o → h'.get? b = some o) : Sg h₀ env σ ks { s with heap := h', toks := tk } := by
  obtain ⟨oI, hI, hd⟩ := hI
  obtain ⟨m, F, hm⟩ := S.fr
  have hL : env.locals ≠ I := by
    rintro rfl
    obtain ⟨o', es, ep, e', hd', _⟩ := F.ns
    rw [hI] at e'; cases e'
    rw [hd] at hd'; cases hd'
  have kd : ∀ {d : VD} {v : Value}, ok s.heap d v → ok h' d v := fun o => ok_but o fun b ob ho e => k b ob (fun q => by
    obtain ⟨l, n, e1⟩ := ho
    rw [q, hI] at e; cases e
    rw [hd] at e1; cases e1) e
  refine ⟨⟨m, ⟨F.ns.at' fun o e => k _ o hL e, fun b o e => k b o (fun q => by rw [q, hI₀] at e; cases e) (F.keep b o e), F.above⟩, fun y d e => ?_⟩, fun y c e => ?_⟩
  · obtain ⟨v, e1, e2⟩ := hm y d e
    exact ⟨v, e1, kd e2⟩
  · obtain ⟨w', ⟨c1, c2, ⟨oc, e3, e4⟩⟩, hd'⟩ := S.ce y c e
    have hne : c ≠ I := fun q => by
      rw [q, hI] at e3; cases e3
      rw [hd] at e4; cases e4
    refine ⟨w', ⟨c1, c2, ⟨oc, k _ _ hne e3, e4⟩⟩, fun d e => ?_⟩
    obtain ⟨v, e1, e2⟩ := hd' d e
    exact ⟨v, e1, kd e2⟩
theorem Sg.own {I : Addr} {vs : Array Value} (S : Sg h₀ env σ ks s) (hI : ∃ o, s.heap.get? I = some o ∧ o.data = .fields vs) : ¬ Own env I := by
  obtain ⟨oI, hI, hd⟩ := hI
  rintro (q | ⟨x, q⟩)
  · obtain ⟨m, hn⟩ := S.ns
    obtain ⟨o', es, ep, e', hd', _⟩ := hn
    rw [← q, hI] at e'; cases e'
    rw [hd] at hd'; cases hd'
  · obtain ⟨w', ⟨_, _, ⟨oc, e3, e4⟩⟩, _⟩ := S.ce x I q
    rw [hI] at e3; cases e3
    rw [hd] at e4; cases e4
/-- the loop's state -/
inductive ForX (h₀ : Heap) (env : Env) (s : Shared) (I : Addr) (a : Int) (n : Nat) (st kt : Nat → List (Str × VD)) : Nat → Shared → Prop
  | mk {s' : Shared} (i : Nat) (mv : Mv env s s') (S : Sg h₀ env (st i) (kt i) s') (hit : IsRangeIter s'.heap I (a + (i : Nat) * 1) ((n : Int) - (i : Nat)) 1) (hi : i ≤ n) : ForX h₀ env s I a n st kt (n + 1 - i) s'
theorem st_for {x : Str} {iter : PySem.Expr} {body : List Stmt} {px pos : Pos} {a : Int} {n : Nat} (st kt st' kt' : Nat → List (Str × VD)) (hh : A.handled = none)
    (hr : ∀ s Q E, Sg h₀ env (st 0) (kt 0) s → (∀ v s', Kp env.locals s s' → Rng a (a + n) s'.heap v → Q v s') → wpAny (model prog w) A (eval iter env) Q E s) (ha : 0 ≤ a) (ha2 : a ≤ 1000) (hn : n ≤ 1000)
    (sto : ∀ i < n, StoS prog w A h₀ env x (.int (a + (i : Int))) (st i) (kt i) (st' i) (kt' i)) (hb : ∀ i < n, ExS prog w A h₀ env (st' i) (kt' i) body (st (i + 1)) (kt (i + 1)))
    (hs : ∀ z, foldedSetIterable iter env z = pure z) : StS prog w A h₀ env (st 0) (kt 0) (.For (.Name x px) iter body [] pos) (st n) (kt n) := .mk fun s Q E hE S h => by
  refine For_G h₀ (hr s _ _ S fun v s₁ k₁ R => ?_) hs
  obtain ⟨r, t, u, y, rfl, hr⟩ := R
  have S1 := S.keeps k₁
  obtain ⟨m, F, _⟩ := S1.fr
  have hsize : Builtin.Range.rangeSize a (a + n) 1 = (n : Int) := by
    unfold Builtin.Range.rangeSize
    by_cases h : n = 0
    · subst h; simp
    · have h2 : a < a + (n : Int) := by (first | lia | omega)
      simp [h2]
      (first | lia | omega)
  have hsmall : Builtin.Range.small a (a + n) 1 = true := by
    unfold Builtin.Range.small
    rw [hsize]
    simp [Builtin.Range.rangeFitsLong]
    (first | lia | omega)
  refine wpAny_pyIter_range hr hsmall ?_
  have hI₀ : h₀.get? s₁.heap.objs.size = none := by
    cases e : h₀.get? s₁.heap.objs.size with
    | none => rfl
    | some o => exact absurd (Heap.lt_size (F.keep _ _ e)) (Nat.lt_irrefl _)
  generalize hII : s₁.heap.objs.size = I at hI₀
  have W := rangeWalks (prog := prog) (w := w) (A := A) hh I a 1 n
  have notI : ∀ b o, s.heap.get? b = some o → ¬ Own env b → b ≠ I := fun b o e hb q => by
    obtain ⟨h1, t1, rfl, kk⟩ := k₁
    have e2 := Heap.lt_size (kk b o e)
    rw [q, ← hII] at e2
    exact absurd e2 (Nat.lt_irrefl _)
  have stepM : ∀ (s' : Shared) (h₁ : Heap) (tk₁ : Nat), Mv env s s' → (∀ b o, b ∉ [I] → s'.heap.get? b = some o → h₁.get? b = some o) → Mv env s { s' with heap := h₁, toks := tk₁ } := fun s' h₁ tk₁ mv hk => by
    obtain ⟨h1, t1, rfl, kk⟩ := mv
    exact ⟨h₁, tk₁, rfl, fun b o hb e => hk b o (by simpa using notI b o e hb) (kk b o hb e)⟩
  show codeAny _ _ _ _ _
  refine codeAny_forLoop (ForX h₀ env s I a n st kt) ?_ (n + 1) (.mk 0 ?_ ?_ ?_ (Nat.zero_le _))
  · rintro k s' ⟨i, mv, S', hit, hi⟩
    by_cases hlt : i < n
    · refine W.item i _ _ _ hlt hit fun v h₁ tk₁ hP hit₁ hk₁ => ?_
      obtain ⟨tk, rfl⟩ := hP
      rw [Int.mul_one]
      have S2 : Sg h₀ env (st i) (kt i) { s' with heap := h₁, toks := tk₁ } := S'.iter (vs := _) ⟨_, hit, rfl⟩ hI₀ fun b o hb e => hk₁ b o (by simpa using hb) e
      have m2 := stepM s' h₁ tk₁ mv hk₁
      refine wpAny_assign_Name ((sto i hlt).out _ _ _ _ S2 ⟨_, rfl⟩ fun s₂ m₃ S₃ => ?_)
      have hit₂ : IsRangeIter s₂.heap I (a + ((i + 1 : Nat) : Int) * 1) ((n : Int) - ((i + 1 : Nat) : Int)) 1 := by
        have own := S2.own (vs := _) ⟨_, hit₁, rfl⟩
        obtain ⟨h3, t3, rfl, kk⟩ := m₃
        exact kk _ _ own hit₁
      refine wpAny_passesOwn hE ((hb i hlt).out _ _ _ hE S₃ fun s₄ m₄ S₄ => ?_)
      refine ⟨n + 1 - (i + 1), Nat.sub_lt_sub_left (Nat.lt_succ_of_lt hlt) (Nat.lt_succ_self i), .mk (i + 1) ((m2.trans m₃).trans m₄) S₄ ?_ hlt⟩
      have own := S₃.own (vs := _) ⟨_, hit₂, rfl⟩
      obtain ⟨h3, t3, rfl, kk⟩ := m₄
      exact kk _ _ own hit₂
    · have hin : i = n := by (first | lia | omega)
      subst hin
      refine W.done _ _ _ hit fun h₁ tk₁ hk₁ => ?_
      have S2 : Sg h₀ env (st i) (kt i) { s' with heap := h₁, toks := tk₁ } := S'.iter (vs := _) ⟨_, hit, rfl⟩ hI₀ fun b o hb e => hk₁ b o (by simpa using hb) e
      exact wpAny_execs_nil (h _ (stepM s' h₁ tk₁ mv hk₁) S2)
  · obtain ⟨h1, t1, rfl, kk⟩ := k₁
    exact ⟨_, t1, rfl, fun b o _ e => Heap.get?_push_of_some _ (kk b o e)⟩
  · exact S1.keeps (Kp.of (k := s₁.toks) fun b o e => Heap.get?_push_of_some _ e)
  · show IsRangeIter _ _ (a + (0 : Nat) * 1) ((n : Int) - (0 : Nat)) 1
    rw [hsize]
    simp only [Int.ofNat_zero, Int.zero_mul, Int.add_zero, Int.sub_zero]
    rw [← hII]
    exact Heap.get?_push_size _ rfl
end
end

section
open PySem PySem.W PyProof.Rows PySem.Calls PySem.Spec
set_option maxRecDepth 100000
set_option maxHeartbeats 400000
section
variable {prog : Program} {w : World} {A : Around} {h₀ : Heap} {env : Env} {σ ks σ' ks' σ'' ks'' : List (Str × VD)} {s s' : Shared} {L : Addr}
/-- an item, wherever the list comes from -/
theorem ev_at {value slice : PySem.Expr} {pos : Pos} {ns : List Int} {i n : Int} (hv : EvS prog w A h₀ env σ ks value (.ints ns)) (hs : EvS prog w A h₀ env σ ks slice (.int i)) (h0 : 0 ≤ i) (h1 : i < 1000000) (hn : ns[i.toNat]? = some n)
    (hsub : ∀ a u, subscripted slice false (.ref a) (.int i u) = operate [.ref a, .int i u] (getItem (.ref a) (.int i u))) : EvS prog w A h₀ env σ ks (.Subscript value slice pos) (.int n) := .mk fun s Q E S h =>
  Subscript_ (hv.out s _ _ S fun v s₁ k₁ o₁ => hs.out s₁ _ _ (S.keeps k₁) fun u s₂ k₂ o₂ => by
    obtain ⟨a, vs, m, rfl, hg, hi⟩ := (S.keeps k₁).okk rfl k₂ o₁
    obtain ⟨t, rfl⟩ := o₂
    obtain ⟨t', e'⟩ := ints_at hi hn
    have hL : s₂.heap.IsList a vs.toArray := ⟨_, hg, rfl, _, rfl⟩
    exact kba_turn (value' := PySem.Expr.Name (PySem.Str.ofString "_") ⟨0, 0, 0, 0⟩) (fun _ => rfl) (tail_of_ItemOn ⟨"list", _, slot_list_getitem.lookup, hL.typeIs, wpAny_getItem_list hL h0 (by k_extra "zz") (by simpa using e') (h _ _ (k₁.trans' k₂) ⟨t', rfl⟩)⟩ (hsub a t) (fun _ => rfl)))
theorem ev_list2 {e1 e2 : PySem.Expr} {a b : Int} {pos : Pos} (h1 : EvS prog w A h₀ env σ ks e1 (.int a)) (h2 : EvS prog w A h₀ env σ ks e2 (.int b)) (hs : starEach [e1, e2] env = [(false, eval e1 env), (false, eval e2 env)]) : EvS prog w A h₀ env σ ks (.List [e1, e2] pos) (.ints [a, b]) := .mk fun s Q E S h => by
  rw [arm_eval_List, hs]
  refine wpAny_bind (wpAny_standAt (wpAny_bind ?_))
  refine spliced_cons (h1.out s _ _ S fun u s₁ k₁ o₁ => spliced_cons (h2.out s₁ _ _ (S.keeps k₁) fun v s₂ k₂ o₂ => spliced_nil ?_))
  obtain ⟨t, rfl⟩ := o₁
  obtain ⟨t', rfl⟩ := o₂
  refine wpAny_newList ?_
  have k₃ : Kp env.locals s₂ { s₂ with heap := s₂.heap.push { cls := .type "list", data := .seq [Value.int a t, Value.int b t'].toArray } } := Kp.of (k := s₂.toks) fun b o e => Heap.get?_push_of_some _ e
  exact h _ _ ((k₁.trans' k₂).trans' k₃) ⟨_, [.int a t, .int b t'], 0, rfl, Heap.get?_push_size _ rfl, .cons _ _ (.cons _ _ .nil)⟩
theorem o_addl {a b : List Int} (hz : a.length + b.length ≤ 1000000) : BinS L prog w A .Add (.ints a) (.ints b) (.ints (a ++ b)) := .mk fun v u s Q E _ o1 o2 h => by
  obtain ⟨x, vs, n, rfl, hg, hi⟩ := o1
  obtain ⟨y, ws, n2, rfl, hg2, hi2⟩ := o2
  refine concat_meets ⟨_, hg, rfl⟩ ⟨_, hg2, rfl⟩ noFill_list_add seq_list_add PySem.F.slot_list_add PySem.F.entry_list_add (PySem.F.args_list_add_2 _ _) (list_addW x y vs.toArray ws.toArray n n2 _ _ _ _ (by simp only [List.size_toArray, hi.length, hi2.length]; rw [sizeLine_eq]; k_extra "zz")) ⟨hg, hg2, ?_⟩
  refine h _ _ (Kp.of fun b o e => Heap.get?_push_of_some _ e) ⟨_, vs ++ ws, 0, rfl, ?_, hi.append hi2⟩
  rw [show (vs ++ ws).toArray = vs.toArray ++ ws.toArray by simp]
  exact Heap.get?_push_size _ rfl
/-- all but the last -/
theorem ev_front {value x : PySem.Expr} {sp pos : Pos} {ns : List Int} (hv : EvS prog w A h₀ env σ ks value (.ints ns)) (hx : EvS prog w A h₀ env σ ks x (.int (-1))) (hz : ns.length ≤ 1000000)
    (hsub : ∀ a b, subscripted (.Slice none (some x) none sp) false (.ref a) (.ref b) = operate [.ref b, .ref a] (getItem (.ref a) (.ref b))) : EvS prog w A h₀ env σ ks (.Subscript value (.Slice none (some x) none sp) pos) (.ints (ns.take (ns.length - 1))) := .mk fun s Q E S h =>
  Subscript_ (hv.out s _ _ S fun v s₁ k₁ o₁ => wpAny_Slice (evalPart_none_step (evalPart_some_step (hx.out s₁ _ _ (S.keeps k₁) fun u s₂ k₂ o₂ => evalPart_none_step (by
    obtain ⟨a, vs, m, rfl, hg, hi⟩ := (S.keeps k₁).okk rfl k₂ o₁
    obtain ⟨t, rfl⟩ := o₂
    have hL : s₂.heap.IsList a vs.toArray := ⟨_, hg, rfl, _, rfl⟩
    refine kba_turn (value' := PySem.Expr.Name (PySem.Str.ofString "_") ⟨0, 0, 0, 0⟩) (fun _ => rfl) (subscriptTail_ops (Heap.IsList.typeIs (s := { s₂ with heap := s₂.heap.push { cls := .type "slice", data := .fields #[.none, .int (-1) t, .none] } }) (hL.push _)) list_getitem_lookup
      (wpAny_getItem_list_slice (hL.push _) (Heap.IsSliceOf.new ..) .none (.int _ _) .none (by decide) ?_ (by rw [List.size_toArray, hi.length, sizeLine_eq]; k_extra "zz")) (hsub _ _) (fun _ => rfl))
    have hi2 := kmk_upto_neg (y := -1) hi (by decide)
    refine h _ _ ((k₁.trans' k₂).trans' (Kp.of (k := s₂.toks) fun b o e => Heap.get?_push_of_some _ (Heap.get?_push_of_some _ e))) ⟨_, (slicePick vs.toArray none (some (-1)) none).toList, 0, rfl, ?_, hi2⟩
    rw [Array.toArray_toList]
    exact Heap.get?_push_size _ rfl)))))
theorem ev_last {value slice : PySem.Expr} {pos : Pos} {ns : List Int} {n : Int} (hv : EvS prog w A h₀ env σ ks value (.ints ns)) (hs : EvS prog w A h₀ env σ ks slice (.int (-1))) (hn : ns.getLast? = some n) (hz : ns.length ≤ 1000000)
    (hsub : ∀ a u, subscripted slice false (.ref a) (.int (-1) u) = operate [.ref a, .int (-1) u] (getItem (.ref a) (.int (-1) u))) : EvS prog w A h₀ env σ ks (.Subscript value slice pos) (.int n) := .mk fun s Q E S h =>
  Subscript_ (hv.out s _ _ S fun v s₁ k₁ o₁ => hs.out s₁ _ _ (S.keeps k₁) fun u s₂ k₂ o₂ => by
    obtain ⟨a, vs, m, rfl, hg, hi⟩ := (S.keeps k₁).okk rfl k₂ o₁
    obtain ⟨t, rfl⟩ := o₂
    have hl : 0 < ns.length := by
      cases ns with
      | nil => simp at hn
      | cons _ _ => simp
    have hn' : ns[ns.length - 1]? = some n := by rw [List.getLast?_eq_getElem?] at hn; exact hn
    obtain ⟨t', e'⟩ := ints_at hi hn'
    have hL : s₂.heap.IsList a vs.toArray := ⟨_, hg, rfl, _, rfl⟩
    have hlen := hi.length
    refine kba_turn (value' := PySem.Expr.Name (PySem.Str.ofString "_") ⟨0, 0, 0, 0⟩) (fun _ => rfl) (tail_of_ItemOn ⟨"list", _, slot_list_getitem.lookup, hL.typeIs, wpAny_getItem_list_neg hL (by decide) (by rw [List.size_toArray]; k_extra "zz") (by decide) ?_ (h _ _ (k₁.trans' k₂) ⟨t', rfl⟩)⟩ (hsub a t) (fun _ => rfl))
    rw [List.size_toArray, show ((-1 : Int) + (vs.length : Int)).toNat = ns.length - 1 by k_extra "zz"]
    simpa using e')
-- texts
theorem ev_rev {value x : PySem.Expr} {sp pos : Pos} {l : List Nat} (hv : EvS prog w A h₀ env σ ks value (.str l)) (hx : EvS prog w A h₀ env σ ks x (.int (-1))) (hz : l.length ≤ 1000000)
    (hsub : ∀ a t b, subscripted (.Slice none none (some x) sp) false (.str a t) (.ref b) = operate [.str a t, .ref b] (getItem (.str a t) (.ref b))) (ht : ∀ a t r, letTemporaryGo value (.str a t) r = pure ()) : EvS prog w A h₀ env σ ks (.Subscript value (.Slice none none (some x) sp) pos) (.str l.reverse) := .mk fun s Q E S h =>
  Subscript_ (hv.out s _ _ S fun v s₁ k₁ o₁ => wpAny_Slice (evalPart_none_step (evalPart_none_step (evalPart_some_step (hx.out s₁ _ _ (S.keeps k₁) fun u s₂ k₂ o₂ => by
    obtain ⟨t, rfl⟩ := o₁
    obtain ⟨t', rfl⟩ := o₂
    refine tail_of_ItemOn ⟨"str", _, F.slot_str_getitem.lookup, typeIs_str _ _ _, wpAny_getItem_str_slice (l := none) (u := none) (st := some (-1, t')) ⟨_, Heap.get?_push_size _ rfl, rfl, rfl⟩ rfl
      (post_val_or_str ⟨?_, fun t'' c => ?_⟩)⟩ (hsub _ _ _) (ht _ _)
    · exact Nat.le_trans (Txt.sliceBy_le _ _ _ (-1, t') (by show (-1 : Int) ≠ 0; decide)) (by rw [tx_len, sizeLine_eq]; k_extra "zz")
    · have e := tx_rev l t'
      exact h _ _ ((k₁.trans' k₂).trans' (Kp.of fun b o e => Heap.get?_push_of_some _ e)) ⟨t'', by rw [← e]; rfl⟩)))))
theorem ev_lower {o : PySem.Expr} {ap pos : Pos} {l : List Nat} {pl : Sem Bool} (ho : EvS prog w A h₀ env σ ks o (.str l)) (hc : ∀ c ∈ l, c < 128) (hz : l.length ≤ 1000)
    (he : eval (.Call (.Attribute o "lower" ap) [] [] pos) env = (do
      let ov ← eval o env
      standAt ap.atName
      let (f, first) ← holding [ov] (getMethod ov "lower" pl)
      callWith pos f first (backTo pos (starEach [] env)) [])) : EvS prog w A h₀ env σ ks (.Call (.Attribute o "lower" ap) [] [] pos) (.str (l.map low)) := .mk fun s Q E S h =>
  MethodCall_ (ho.out s _ _ S fun v s₁ k₁ o₁ => by
    obtain ⟨t, rfl⟩ := o₁
    exact GM.lower (PyProof.Rows.callWith_method0 (call_lower hc hz (h _ _ (k₁.trans' .tok) ⟨_, rfl⟩)))) he
theorem ev_encode {o a : PySem.Expr} {ap pos : Pos} {l : List Nat} {pl : Sem Bool} (ho : EvS prog w A h₀ env σ ks o (.str l)) (ha : EvS prog w A h₀ env σ ks a (.str [97, 115, 99, 105, 105])) (hc : ∀ c ∈ l, c < 128) (hz : l.length ≤ 1000)
    (hs : starEach [a] env = (false, eval a env) :: starEach [] env)
    (he : eval (.Call (.Attribute o "encode" ap) [a] [] pos) env = (do
      let ov ← eval o env
      standAt ap.atName
      let (f, first) ← holding [ov] (getMethod ov "encode" pl)
      callWith pos f first (backTo pos (starEach [a] env)) [])) : EvS prog w A h₀ env σ ks (.Call (.Attribute o "encode" ap) [a] [] pos) (.bytes l) := .mk fun s Q E S h =>
  MethodCall_ (ho.out s _ _ S fun v s₁ k₁ o₁ => by
    obtain ⟨t, rfl⟩ := o₁
    refine meth_encode (PyProof.Rows.callWith_method1 (args_cons (ha.out s₁ _ _ (S.keeps k₁) fun u s₂ k₂ o₂ => args_nil ?_) hs) hs rfl)
    obtain ⟨t', rfl⟩ := o₂
    rw [show tx [97, 115, 99, 105, 105] = Str.ofString "ascii" by decide +kernel]
    refine call_encode (x := tx l) (by simpa [tx] using hc) (by simp only [tx, List.size_toArray]; rw [sizeLine_eq]; k_extra "zz") ?_
    exact h _ _ ((k₁.trans' k₂).trans' .tok) ⟨s₂.toks, by simp [tx]⟩) he
theorem fold_rep (a : List Nat) : ∀ (n : Nat) (acc : List Nat), (List.replicate n a.toArray).foldl (· ++ ·) acc.toArray = (acc ++ (List.replicate n a).flatten).toArray
  | 0, acc => by simp
  | n + 1, acc => by
    rw [List.replicate_succ, List.replicate_succ, List.foldl_cons, List.flatten_cons, show acc.toArray ++ a.toArray = (acc ++ a).toArray by simp, fold_rep a n (acc ++ a), List.append_assoc]
theorem tx_mul (a : List Nat) (n : Nat) : Txt.mul (tx a) (n : Int) = tx (List.replicate n a).flatten := by
  unfold Txt.mul
  by_cases h0 : (n : Int) < 1
  · have : n = 0 := by k_extra "zz"
    subst this
    rw [if_pos h0]; rfl
  · rw [if_neg h0]
    by_cases h1 : (((n : Int) == 1) || ((tx a).length == 0)) = true
    · rw [if_pos h1]
      rcases Bool.or_eq_true_iff.mp h1 with h2 | h2
      · have : n = 1 := by have : (n : Int) = 1 := by simpa using h2
                           k_extra "zz"
        subst this
        simp
      · have : a = [] := by simpa [tx_len] using h2
        subst this
        simp
    · rw [if_neg h1, Int.toNat_natCast]
      have := fold_rep a n []
      exact congrArg Str.mk ((show _ = List.foldl (fun x1 x2 => x1 ++ x2) (List.toArray []) (List.replicate n a.toArray) from rfl).trans (by simpa using this))
theorem o_muls {a : List Nat} {n : Nat} (h1 : n ≤ 1000) (h2 : a.length ≤ 1000) : BinS L prog w A .Mult (.str a) (.int (n : Int)) (.str (List.replicate n a).flatten) := .mk fun _ _ _ _ _ _ ⟨_, e1⟩ ⟨_, e2⟩ h => by
  subst e1 e2
  refine SB.mul ⟨?_, ?_, ?_⟩ fun t' k => h _ _ .tok ⟨t', ?_⟩
  · simp; k_extra "zz"
  · intro h3 _ h4
    have h5 : ((tx a).length : Int) ≤ (2 ^ 63 - 1) / (n : Int) := by
      refine Int.le_ediv_of_mul_le (by k_extra "zz") ?_
      have := Nat.mul_le_mul h2 h1
      rw [tx_len]
      have h6 : ((a.length : Int) * (n : Int)) = ((a.length * n : Nat) : Int) := by push_cast; rfl
      rw [h6]
      k_extra "zz"
    k_extra "zz"
  · intro _ _
    have := Nat.mul_le_mul h2 h1
    rw [tx_len, Int.toNat_natCast]
    simp only [Builtin.Str.tooLong, sizeLine_eq, decide_eq_false_iff_not]
    k_extra "zz"
  · rw [tx_mul]
-- comprehensions over a range
/-- values that need no heap -/
def Plain (d : VD) : Prop := ∀ h h' v, ok h d v → ok h' d v
theorem plain_int {n : Int} : Plain (.int n) := fun _ _ _ h => h
theorem plain_str {l : List Nat} : Plain (.str l) := fun _ _ _ h => h
def vals : List Value → List VD → Prop
  | [], [] => True
  | v :: vs, d :: ds => (∀ h, ok h d v) ∧ vals vs ds
  | _, _ => False
theorem vals_ints : ∀ {vs : List Value} {ns : List Int}, vals vs (ns.map .int) → IntsAre vs ns
  | [], [], _ => .nil
  | v :: vs, n :: ns, h => by
    obtain ⟨t, rfl⟩ := h.1 default
    exact .cons n t (vals_ints h.2)
  | [], _ :: _, h => h.elim
  | _ :: _, [], h => h.elim
def passV (p : Nat → Bool) : Value → Bool
  | .int k _ => p k.toNat
  | _ => false
def giveV (g : Nat → VD) (v y : Value) : Prop := match v with
  | .int k _ => ∀ h, ok h (g k.toNat) y
  | _ => False
theorem paired_vals (p : Nat → Bool) (g : Nat → VD) : ∀ (vs : List Value) (o : Nat) (ys : List Value), (∀ j v, vs[j]? = some v → ∃ t, v = Value.int ((o + j : Nat) : Int) t) → Paired (giveV g) (vs.filter (passV p)) ys → vals ys (((List.range' o vs.length).filter p).map g)
  | [], o, ys, _, h => by
    cases h
    exact trivial
  | v :: vs, o, ys, hv, h => by
    obtain ⟨t, rfl⟩ := hv 0 v rfl
    have ih := fun ys h => paired_vals p g vs (o + 1) ys (fun j v e => by
      obtain ⟨t, e2⟩ := hv (j + 1) v e
      exact ⟨t, by rw [e2, show o + (j + 1) = o + 1 + j by k_extra "zz"]⟩) h
    rw [List.length_cons, List.range'_succ]
    have e1 : passV p (Value.int ((o + 0 : Nat) : Int) t) = p o := by simp [passV]
    cases hp : p o with
    | true =>
      rw [List.filter_cons_of_pos (by rw [e1, hp])] at h
      rw [List.filter_cons_of_pos (by simpa using hp)]
      cases h with
      | cons h1 h2 => exact ⟨by simpa [giveV] using h1, ih _ h2⟩
    | false =>
      rw [List.filter_cons_of_neg (by rw [e1, hp]; decide)] at h
      rw [List.filter_cons_of_neg (by simp [hp])]
      exact ih _ h
structure TestsS (prog : Program) (w : World) (A : Around) (h₀ : Heap) (env : Env) (σ ks : List (Str × VD)) (ifs : List PySem.Expr) (b : Bool) : Prop where
  out : ∀ s Q E, Sg h₀ env σ ks s → (∀ s', Kp env.locals s s' → Q b s') →
  wpAny (model prog w) A (forIn ifs true fun c r => if r = true then do let ok ← isTrue c env (eval c env); pure (ForInStep.yield ok) else pure (ForInStep.yield r)) Q E s
theorem tests_nil : TestsS prog w A h₀ env σ ks [] true := .mk fun s _ _ _ h => wpAny_tests_nil (h s .rfl')
theorem tests_one {c : PySem.Expr} {b : Bool} (hc : EvT prog w A h₀ env σ ks c b) : TestsS prog w A h₀ env σ ks [c] b := .mk fun s _ _ S h => wpAny_tests_one (hc.out s _ _ S h)
theorem er_comp {elt iter : PySem.Expr} {x : Str} {px : Pos} {ifs : List PySem.Expr} {scope : Scope} {cl : List (Str × Addr)} {pos : Pos} {n : Nat} (p : Nat → Bool) (g : Nat → VD) {Q : Value → Shared → Prop} {E : Value → Shared → Prop} (hh : A.handled = none)
    (hr : ∀ s Q E, Sg h₀ env σ ks s → (∀ v s', Kp env.locals s s' → Rng 0 n s'.heap v → Q v s') → wpAny (model prog w) A (eval iter env) Q E s) (hn : n ≤ 1000)
    (hclos : closureFor scope env = pure cl) (hcell : ∀ y ∈ scope.names, y.2 ≠ .cell) (hkind : scope.kind = .function)
    (hnames : ∀ y ∈ scope.names, y.2 = .local → scope.names.lookup y.1 = some .local) (hx : scope.names.lookup x = some .local) (hcl : ∀ y c, cl.lookup y = some c → env.cells.lookup y = some c) (hg : ∀ i, Plain (g i))
    (ht : ∀ C i, i < n → TestsS prog w A h₀ (compEnvC scope cl C env) [(x, .int (i : Int))] ks ifs (p i))
    (he : ∀ C i, i < n → p i = true → EvS prog w A h₀ (compEnvC scope cl C env) [(x, .int (i : Int))] ks elt (g i))
    (hs : ∀ x, foldedSetIterable iter env x = pure x) (S : Sg h₀ env σ ks s)
    (h : ∀ D ys m s', Kp env.locals s s' → s'.heap.get? D = some (W.listOf ys.toArray m) → vals ys (((List.range n).filter p).map g) → Q (.ref D) s') : wpAny (model prog w) A (eval (.ListComp elt [⟨.Name x px, iter, ifs, 0⟩] scope pos) env) Q E s := by
  refine wpAny_ListComp_free (passV p) (giveV g) hclos hcell hkind hnames hx (hr s _ _ S fun v s₁ k₁ R => ?_) hs
  obtain ⟨r, t, u, z, rfl, hr⟩ := R
  have S1 := S.keeps k₁
  refine wpAny_pyIter_range hr (rangeSmall_up n hn) ?_
  obtain ⟨m, F, hm⟩ := S1.fr
  have hI₀ : h₀.get? s₁.heap.objs.size = none := by
    cases e : h₀.get? s₁.heap.objs.size with
    | none => rfl
    | some o => exact absurd (Heap.lt_size (F.keep _ _ e)) (Nat.lt_irrefl _)
  have up : ∀ o b ob, s₁.heap.get? b = some ob → (s₁.heap.push o).get? b = some ob := fun o b ob e => Heap.get?_push_of_some _ e
  have mk : ∀ (o : Obj) C i (v : Value) (s₃ : Shared) m₃, (s₁.heap.push o).objs.size ≤ C → v = Value.int ((0 : Int) + (i : Nat) * 1) 0 ∨ (∃ t, v = Value.int ((0 : Int) + (i : Nat) * 1) t) → s₃.heap.Ns C m₃ → m₃ x = some v → (∀ b ob, b ∉ [s₁.heap.objs.size] → (s₁.heap.push o).get? b = some ob → s₃.heap.get? b = some ob) →
      Sg h₀ (compEnvC scope cl C env) [(x, .int (i : Int))] ks s₃ := fun o C i v s₃ m₃ hC hv hn3 hm3 hk3 => by
    rw [Heap.size_push] at hC
    have k3 : ∀ b ob, s₁.heap.get? b = some ob → s₃.heap.get? b = some ob := fun b ob e => hk3 b ob (by simpa using Nat.ne_of_lt (Heap.lt_size e)) (up o b ob e)
    have hLs : env.locals < s₁.heap.objs.size := F.ns.lt
    refine ⟨⟨m₃, ⟨hn3, fun b ob e => k3 b ob (F.keep b ob e), ?_⟩, fun y d e => ?_⟩, fun y c e => ?_⟩
    · exact Nat.le_trans F.above (Nat.le_of_lt (Nat.lt_of_lt_of_le hLs (Nat.le_trans (Nat.le_succ _) hC)))
    · rw [List.lookup_cons] at e
      split at e
      · rename_i hy
        cases e
        have : y = x := by simpa using hy
        subst this
        refine ⟨v, hm3, ?_⟩
        rcases hv with rfl | ⟨t, rfl⟩
        · exact ⟨0, by simp⟩
        · exact ⟨t, by simp⟩
      · cases e
    · obtain ⟨w', ⟨c1, c2, ⟨oc, e3, e4⟩⟩, hd⟩ := S1.ce y c (hcl y c e)
      refine ⟨w', ⟨fun q => ?_, c2, ⟨oc, k3 _ _ e3, e4⟩⟩, fun d e => ?_⟩
      · have := Heap.lt_size e3
        have q' : c = C := q
        rw [q'] at this
        exact absurd this (Nat.not_lt.mpr (Nat.le_trans (Nat.le_succ _) hC))
      · obtain ⟨v', e5, e6⟩ := hd d e
        exact ⟨v', e5, ok_keep e6 k3⟩
  refine ⟨s₁.heap.objs.size, [s₁.heap.objs.size], [s₁.heap.objs.size], n, fun i v => i < n ∧ ∃ t, v = .int ((0 : Int) + (i : Int) * 1) t, fun i h => IsRangeIter h s₁.heap.objs.size ((0 : Int) + (i : Nat) * 1) ((n : Int) - (i : Nat)) 1, rfl, (rangeWalks hh _ 0 1 n).bound, by rw [sizeLine_eq]; k_extra "zz", ?_, ?_, ⟨?_, ?_⟩, ?_⟩
  · show IsRangeIter _ _ ((0 : Int) + (0 : Nat) * 1) ((n : Int) - (0 : Nat)) 1
    rw [rangeSize_up]
    simp only [Int.ofNat_zero, Int.zero_mul, Int.add_zero, Int.sub_zero]
    exact Heap.get?_push_size _ rfl
  · intro b hb
    rw [List.mem_singleton.mp hb, Heap.size_push]
    exact Nat.lt_succ_self _
  · rintro C i v s₃ m₃ E' hC ⟨hi, hv⟩ hn3 hm3 hk3 -
    have Sg3 := mk _ C i v s₃ m₃ hC (.inr hv) hn3 hm3 hk3
    refine (ht C i hi).out s₃ _ _ Sg3 fun s₄ k₄ => ⟨?_, k₄⟩
    obtain ⟨t, rfl⟩ := hv
    simp [passV]
  · rintro C i v s₃ m₃ E' hC ⟨hi, hv⟩ hp hn3 hm3 hk3 -
    have Sg3 := mk _ C i v s₃ m₃ hC (.inr hv) hn3 hm3 hk3
    obtain ⟨t, rfl⟩ := hv
    refine (he C i hi (by simpa [passV] using hp)).out s₃ _ _ Sg3 fun y s₄ k₄ o₄ => ⟨?_, k₄⟩
    intro h
    have := hg i _ h y o₄
    simpa using this
  · intro D h' tk ys vs hD hl hpl hlen hP hF hk
    obtain ⟨mm, hg2⟩ := hpl
    have k5 : ∀ b ob, s₁.heap.get? b = some ob → h'.get? b = some ob := fun b ob e => hk b ob (by simpa using Nat.ne_of_lt (Heap.lt_size e)) (up _ b ob e)
    have hv := paired_vals p g vs 0 ys.toList (fun j v e => by
      obtain ⟨_, t, e2⟩ := hP j v e
      exact ⟨t, by rw [e2]; simp⟩) hF
    rw [hlen, ← List.range_eq_range'] at hv
    refine h D ys.toList mm _ (k₁.trans' (Kp.of (k := tk) k5)) ?_ hv
    rw [Array.toArray_toList]
    exact hg2
theorem ev_comp {elt iter : PySem.Expr} {x : Str} {px : Pos} {ifs : List PySem.Expr} {scope : Scope} {cl : List (Str × Addr)} {pos : Pos} {n : Nat} (p : Nat → Bool) (g : Nat → Int) (hh : A.handled = none)
    (hr : ∀ s Q E, Sg h₀ env σ ks s → (∀ v s', Kp env.locals s s' → Rng 0 n s'.heap v → Q v s') → wpAny (model prog w) A (eval iter env) Q E s) (hn : n ≤ 1000)
    (hclos : closureFor scope env = pure cl) (hcell : ∀ y ∈ scope.names, y.2 ≠ .cell) (hkind : scope.kind = .function)
    (hnames : ∀ y ∈ scope.names, y.2 = .local → scope.names.lookup y.1 = some .local) (hx : scope.names.lookup x = some .local) (hcl : ∀ y c, cl.lookup y = some c → env.cells.lookup y = some c)
    (ht : ∀ C i, i < n → TestsS prog w A h₀ (compEnvC scope cl C env) [(x, .int (i : Int))] ks ifs (p i))
    (he : ∀ C i, i < n → p i = true → EvS prog w A h₀ (compEnvC scope cl C env) [(x, .int (i : Int))] ks elt (.int (g i)))
    (hs : ∀ x, foldedSetIterable iter env x = pure x) : EvS prog w A h₀ env σ ks (.ListComp elt [⟨.Name x px, iter, ifs, 0⟩] scope pos) (.ints (((List.range n).filter p).map g)) := .mk fun s Q E S h =>
  er_comp p (fun i => .int (g i)) hh hr hn hclos hcell hkind hnames hx hcl (fun _ => plain_int) ht he hs S fun D ys m s' k hg hv => h _ _ k ⟨D, ys, m, rfl, hg, vals_ints (by rw [List.map_map]; exact hv)⟩
end
end

section
open PySem PySem.W PyProof.Rows
set_option maxRecDepth 100000
set_option maxHeartbeats 4000000
def com (W S : Nat) : Nat := (euc W S).2
/-- the small quotients, as they are or the last one parted -/
def prt (b : Bool) (W S : Nat) : List Nat := if b then (euc W S).1.take ((euc W S).1.length - 1) ++ [(euc W S).1.getLast?.getD 0 - 1, 1] else (euc W S).1
def siz (W S : Nat) : Nat := W / com W S
def goa (b : Bool) (W S : Nat) : Int := ((S / com W S : Nat) : Int) - (((prt b W S).length % 2 : Nat) : Int)
def pag (bF : Bool) (W H S : Nat) (i : Nat) : List Nat := (page bF W H S).getD i []
def plcs (bF : Bool) (W H S : Nat) : List Int := plc (pag bF W H S) (page bF W H S).length
def num1 (pl : List Int) : Nat → Int
  | 0 => 0
  | k + 1 => 16 * num1 pl k + pl.getD (k + 1) 0 - pl.getD k 0
def plj (W S k : Nat) : List Nat := (List.range (siz W S)).filter fun j => (j * S + k * com W S) % W == 0
def pow1 (W S k : Nat) : Nat := 16 ^ (siz W S - 1 - (plj W S k).head?.getD 0) * ((16 ^ W - 1) / (16 ^ siz W S - 1))
def num2 (b : Bool) (W S H : Nat) (n : Int) : Nat → Int
  | 0 => n
  | i + 1 => num2 b W S H n i + 15 * (pow1 W S (1 + i) : Int) * ((if ((1 + i : Nat) : Int) ≤ goa b W S then 1 else 0) - (if ((1 + i : Nat) : Int) ≤ ((H / com W S : Nat) : Int) then 1 else 0))
def numF (bF b : Bool) (W S H : Nat) : Int := num2 b W S H (num1 (plcs bF W H S) W) (siz W S - 1)
def numN (b : Bool) (W S : Nat) : Nat := (numF false b W S 0).toNat
def cases3 (f : Nat → Nat → Bool) : Bool := (List.range 9).all fun W => (List.range 8).all fun S => !(decide (3 ≤ W) && decide (1 ≤ S) && decide (S < W)) || f W S
theorem cases3_get {f : Nat → Nat → Bool} (h : cases3 f = true) {W S : Nat} (h1 : 3 ≤ W) (h2 : W ≤ 8) (h3 : 1 ≤ S) (h4 : S < W) : f W S = true := by
  have a := List.all_eq_true.mp h W (List.mem_range.mpr (by (first | lia | omega)))
  have b := List.all_eq_true.mp a S (List.mem_range.mpr (by (first | lia | omega)))
  simpa [h1, h3, h4] using b
/-- the number does not hang on the head nor on the marks -/
def chkN (W S : Nat) : Bool := [true, false].all fun b => decide (0 < numN b W S) && decide (numN b W S < 16 ^ W) && [true, false].all fun bF => (List.range W).all fun H => numF bF b W S H == (numN b W S : Int) && decide (W + 1 ≤ (plcs bF W H S).length) && decide ((page bF W H S).length ≤ 100) && (List.range (page bF W H S).length).all fun i => decide ((pag bF W H S i).length ≤ 100)
theorem chkN_all : cases3 chkN = true := by decide +kernel
def chkZ (W S : Nat) : Bool := decide (1 ≤ com W S) && decide (com W S ≤ 8) && decide (1 < siz W S) && decide (siz W S ≤ 8) && decide (siz W S * com W S = W) && decide ((euc W S).1.length ≤ 8) && decide (1 ≤ (euc W S).1.length) && decide (1 < (euc W S).1.getLast?.getD 0) && (List.range (siz W S)).all fun k => decide (k = 0) || match plj W S k with | [] => false | j :: _ => decide (j < siz W S)
theorem chkZ_all : cases3 chkZ = true := by decide +kernel
end

section
open PySem PySem.W PyProof.Rows
set_option maxRecDepth 100000
set_option maxHeartbeats 4000000
structure LS where
  (u l last now short full : Nat)
  (other one : List Nat)
/-- one turn of the law's great division -/
def stepL (k p : Nat) (q : LS) : LS := ⟨q.l, q.u % q.l, q.now, q.u / q.l * q.now + q.last, q.full, p * q.full + q.short, q.one, (List.replicate (p - if k = 0 then 1 else 0) q.one).flatten ++ q.other⟩
def inL (b : Bool) (W S : Nat) : LS := ⟨(16 ^ W - 1) / 15, numN b W S, 1, 1, 0, 1, [67], [66]⟩
def runL (b : Bool) (W S : Nat) : Nat → LS
  | 0 => inL b W S
  | k + 1 => stepL k ((prt b W S).getD k 0) (runL b W S k)
def ap6 (l : List Nat) : List Nat := l.map (65 + ·)
/-- what the law asks at a turn -/
def askL (k p : Nat) (q r : LS) : Bool :=
  decide (0 < q.l) && decide (1 ≤ p) && decide (p ≤ 100) && decide (q.full ≤ 8) && decide (1 ≤ q.full) && decide (q.short ≤ 8) && decide (r.full ≤ 16) && decide (q.l < 16 ^ 9) && decide (q.u < 16 ^ 9) && decide (r.now < 16 ^ 20) && decide (r.last < 16 ^ 20) &&
  decide (r.one.length ≤ 20) && decide (r.other.length ≤ 20) && (r.one.all fun c => decide (c < 128)) && (r.other.all fun c => decide (c < 128)) && decide (q.one.length ≤ 20) &&
  (ap6 (dig (q.u / q.l)) == (List.replicate (p - 1) (66 :: List.replicate (q.full - 1) 65)).flatten ++ [66] ++ List.replicate q.short 65) &&
  (ap6 (dig (r.now * 16 ^ r.short + r.last)) == r.one ++ r.other) &&
  (ap6 (dig (((r.now : Int) * (16 ^ r.short : Nat) + r.last - (r.last : Int) * (16 ^ r.full : Nat) - r.now).natAbs)) == [80]) &&
  (levD (r.one ++ r.other) (r.other ++ r.one) (3 + (k % 2 : Nat)) == 4) &&
  (levD r.other.reverse (r.one.reverse.map low) (if 2 * (r.full : Int) - r.short > 2 then 2 * (r.full : Int) - r.short else 2) == (if 2 * (r.full : Int) - r.short > 2 then 2 * (r.full : Int) - r.short else 2)) &&
  (decide (7 ≤ r.full + r.short) || levD (r.one ++ r.other) ((r.other ++ r.one).map low) ((r.full : Int) + r.short + 2) == (r.full : Int) + r.short + 2)
def chkL (W S : Nat) : Bool := [true, false].all fun b => ((List.range (prt b W S).length).all fun k => askL k ((prt b W S).getD k 0) (runL b W S k) (runL b W S (k + 1))) && decide ((runL b W S (prt b W S).length).l = 0) && decide ((runL b W S (prt b W S).length).u = (16 ^ W - 1) / (16 ^ siz W S - 1))
theorem chkL_all : cases3 chkL = true := by decide +kernel
end

section
open PySem PySem.W PyProof.Rows
set_option maxRecDepth 100000
set_option maxHeartbeats 400000
/-- k figures of a number, the greatest ahead -/
def pd (n k : Nat) : List Nat := (List.range k).map fun i => n / 16 ^ (k - 1 - i) % 16
theorem pd_succ (n k : Nat) : pd n (k + 1) = pd (n / 16) k ++ [n % 16] := by
  unfold pd
  rw [List.range_succ, List.map_append]
  congr 1
  · refine List.map_congr_left fun i hi => ?_
    have := List.mem_range.mp hi
    rw [Nat.div_div_eq_div_mul, show k + 1 - 1 - i = (k - 1 - i) + 1 by (first | lia | omega), Nat.pow_succ, Nat.mul_comm]
  · simp
theorem dig_pd : ∀ (k n : Nat), n < 16 ^ k → dig n = (pd n k).dropWhile (· == 0)
  | 0, n, h => by
    have : n = 0 := by simpa using h
    subst this
    rfl
  | k + 1, n, h => by
    have h2 : n / 16 < 16 ^ k := by rw [Nat.div_lt_iff_lt_mul (by decide)]; rwa [Nat.pow_succ] at h
    have ih := dig_pd k (n / 16) h2
    rw [pd_succ, List.dropWhile_append, ← ih]
    by_cases h0 : n = 0
    · subst h0
      simp [dig_zero]
    · rw [dig_pos n (by (first | lia | omega))]
      by_cases h1 : n / 16 = 0
      · have h3 : n % 16 = n := by (first | lia | omega)
        rw [h1, dig_zero, h3]
        simp [h0]
      · rw [dig_pos (n / 16) (by (first | lia | omega))]
        simp
theorem pd_cat (a k : Nat) : ∀ (m t : Nat), t < 16 ^ m → pd (a * 16 ^ m + t) (k + m) = pd a k ++ pd t m
  | 0, t, h => by
    have : t = 0 := by simpa using h
    subst this
    simp [pd]
  | m + 1, t, h => by
    have h2 : t / 16 < 16 ^ m := by rw [Nat.div_lt_iff_lt_mul (by decide)]; rwa [Nat.pow_succ] at h
    have e1 : (a * 16 ^ (m + 1) + t) / 16 = a * 16 ^ m + t / 16 := by rw [Nat.pow_succ, ← Nat.mul_assoc]; (first | lia | omega)
    have e2 : (a * 16 ^ (m + 1) + t) % 16 = t % 16 := by rw [Nat.pow_succ, ← Nat.mul_assoc]; (first | lia | omega)
    rw [← Nat.add_assoc, pd_succ, pd_succ, e1, e2, pd_cat a k m (t / 16) h2, List.append_assoc]
/-- c ones, m figures apart -/
def repf (m : Nat) : Nat → Nat
  | 0 => 0
  | c + 1 => repf m c * 16 ^ m + 1
theorem rep_pd (m t : Nat) (h : t < 16 ^ m) : ∀ c, pd (t * repf m c) (m * c) = (List.replicate c (pd t m)).flatten ∧ t * repf m c < 16 ^ (m * c)
  | 0 => by simp [repf, pd]
  | c + 1 => by
    obtain ⟨ih1, ih2⟩ := rep_pd m t h c
    have e : t * repf m (c + 1) = t * repf m c * 16 ^ m + t := by rw [repf, Nat.mul_add, Nat.mul_one, Nat.mul_assoc]
    rw [e, Nat.mul_succ]
    refine ⟨?_, ?_⟩
    · rw [pd_cat _ _ m t h, ih1, List.replicate_succ', List.flatten_append]
      simp
    · rw [Nat.pow_add]
      have : (t * repf m c + 1) * 16 ^ m ≤ 16 ^ (m * c) * 16 ^ m := Nat.mul_le_mul_right _ ih2
      rw [Nat.add_mul, Nat.one_mul] at this
      (first | lia | omega)
theorem rep_all : cases3 (fun W S => (16 ^ W - 1) / (16 ^ siz W S - 1) == repf (siz W S) (com W S)) = true := by decide +kernel
theorem bare_ap (l : List Nat) : bare (ap6 l) = ap6 (l.dropWhile (· == 0)) := by
  unfold bare ap6
  induction l with
  | nil => rfl
  | cons x l ih =>
    by_cases h : x = 0
    · subst h
      simpa using ih
    · have : ¬ 65 + x = 65 := by (first | lia | omega)
      simp [h, this]
theorem last_law {W S t : Nat} (h1 : 3 ≤ W) (h2 : W ≤ 8) (h3 : 1 ≤ S) (h4 : S < W) (ht : t < 16 ^ siz W S) :
    ap6 (dig (t * ((16 ^ W - 1) / (16 ^ siz W S - 1)))) = bare (List.replicate (com W S) (ap6 (pd t (siz W S)))).flatten := by
  have e1 : (16 ^ W - 1) / (16 ^ siz W S - 1) = repf (siz W S) (com W S) := by simpa using cases3_get rep_all h1 h2 h3 h4
  obtain ⟨e2, e3⟩ := rep_pd (siz W S) t ht (com W S)
  rw [e1, dig_pd _ _ e3, e2, ← bare_ap]
  congr 1
  unfold ap6
  rw [List.map_flatten, List.map_replicate]
theorem ap_ap6 (l : List Nat) : ap l = ((ap6 l).map Nat.toUInt8).toArray := by
  unfold ap ap6
  rw [List.map_map]
  rfl
end

section
open PySem PySem.W PyProof.Rows PySem.Calls PySem.Spec
set_option maxRecDepth 100000
set_option maxHeartbeats 400000
section
variable {prog : Program} {w : World} {A : Around} {h₀ : Heap} {env : Env} {σ ks σ' ks' σ'' ks'' : List (Str × VD)} {s s' : Shared} {L : Addr}
-- tests
theorem et_str {x : PySem.Expr} {l : List Nat} (hx : EvS prog w A h₀ env σ ks x (.str l)) (hz : l.length ≤ 1000000) (he : isTrue x env (eval x env) = (do let v ← eval x env; standAt x.pos; holding [v] (truthy v))) : EvT prog w A h₀ env σ ks x (decide (0 < l.length)) := .mk fun s Q E S h =>
  wpAny_isTrue_value (hx.out s _ _ S fun v s₁ k₁ o₁ => by
    obtain ⟨t, rfl⟩ := o₁
    exact truthy_tx rfl hz (h _ (k₁.trans' .tok))) he
theorem et_not {x : PySem.Expr} {pos : Pos} {a : Bool} (hx : EvT prog w A h₀ env σ ks x a) : EvT prog w A h₀ env σ ks (.UnaryOp .Not x pos) (!a) := .mk fun s Q E S h => isTrue_not (hx.out s _ _ S h)
theorem et_or {x y : PySem.Expr} {pos : Pos} {a b : Bool} (hx : EvT prog w A h₀ env σ ks x a) (hy : a = false → EvT prog w A h₀ env σ ks y b) : EvT prog w A h₀ env σ ks (.BoolOp .Or [x, y] pos) (a || b) := .mk fun s Q E S h =>
  isTrue_or (hx.out s _ _ S fun s₁ k₁ => by
    cases a with
    | true => exact h s₁ k₁
    | false => exact isTrue_or ((hy rfl).out s₁ _ _ (S.keeps k₁) fun s₂ k₂ => by
        cases b with
        | true => exact h s₂ (k₁.trans' k₂)
        | false => exact isTrue_or_nil (h s₂ (k₁.trans' k₂))))
theorem et_and3 {x y z : PySem.Expr} {pos : Pos} {a b c : Bool} (hx : EvT prog w A h₀ env σ ks x a) (hy : a = true → EvT prog w A h₀ env σ ks y b) (hz : a = true → b = true → EvT prog w A h₀ env σ ks z c) : EvT prog w A h₀ env σ ks (.BoolOp .And [x, y, z] pos) (a && (b && c)) := .mk fun s Q E S h =>
  isTrue_and (hx.out s _ _ S fun s₁ k₁ => by
    cases a with
    | false => exact h s₁ k₁
    | true => exact isTrue_and ((hy rfl).out s₁ _ _ (S.keeps k₁) fun s₂ k₂ => by
        cases b with
        | false => exact h s₂ (k₁.trans' k₂)
        | true => exact isTrue_and ((hz rfl rfl).out s₂ _ _ ((S.keeps k₁).keeps k₂) fun s₃ k₃ => by
            cases c with
            | false => exact h s₃ ((k₁.trans' k₂).trans' k₃)
            | true => exact isTrue_and_nil (h s₃ ((k₁.trans' k₂).trans' k₃)))))
theorem c_gt {a b : Int} : CmpS L prog w A .Gt (.int a) (.int b) (decide (b < a)) := .mk fun _ _ _ _ _ _ ⟨_, ha⟩ ⟨_, hb⟩ h => by
  subst ha hb; exact PyProof.Rows.gt_int (h _ _ .rfl' rfl)
theorem c_eqs {a b : List Nat} : CmpS L prog w A .Eq (.str a) (.str b) (a == b) := .mk fun _ _ _ _ _ _ ⟨_, ha⟩ ⟨_, hb⟩ h => by
  subst ha hb
  refine PyProof.Rows.eq_str ?_
  rw [tx_beq]
  exact h _ _ .rfl' rfl
-- parts of a text
theorem ev_from {value x : PySem.Expr} {sp pos : Pos} {l : List Nat} {k : Nat} (hv : EvS prog w A h₀ env σ ks value (.str l)) (hx : EvS prog w A h₀ env σ ks x (.int (k : Int))) (hz : l.length ≤ 1000000)
    (hsub : ∀ a t b, subscripted (.Slice (some x) none none sp) false (.str a t) (.ref b) = operate [.ref b, .str a t] (getItem (.str a t) (.ref b))) (ht : ∀ a t r, letTemporaryGo value (.str a t) r = pure ()) : EvS prog w A h₀ env σ ks (.Subscript value (.Slice (some x) none none sp) pos) (.str (l.drop k)) := .mk fun s Q E S h =>
  Subscript_ (hv.out s _ _ S fun v s₁ k₁ o₁ => wpAny_Slice (evalPart_some_step (hx.out s₁ _ _ (S.keeps k₁) fun u s₂ k₂ o₂ => evalPart_none_step (evalPart_none_step (by
    obtain ⟨t, rfl⟩ := o₁
    obtain ⟨t', rfl⟩ := o₂
    refine tail_of_ItemOn ⟨"str", _, F.slot_str_getitem.lookup, typeIs_str _ _ _, wpAny_getItem_str_slice (l := some ((k : Int), t')) (u := none) (st := none) ⟨_, Heap.get?_push_size _ rfl, rfl, rfl⟩ rfl
      (post_val_or_str ⟨?_, fun t'' c => ?_⟩)⟩ (hsub _ _ _) (ht _ _)
    · exact Nat.le_trans (Txt.slice_le _ _ _) (by rw [tx_len, sizeLine_eq]; (first | lia | omega))
    · have e := tx_from l k
      exact h _ _ ((k₁.trans' k₂).trans' (Kp.of fun b o e => Heap.get?_push_of_some _ e)) ⟨t'', by rw [← e]; rfl⟩)))))
theorem ev_upto {value x : PySem.Expr} {kk : Nat} {cp bp sp pos : Pos} {l : List Nat} {k : Nat} (hv : EvS prog w A h₀ env σ ks value (.str l)) (hx : EvS prog w A h₀ env σ ks x (.int (-(k : Int)))) (hz : l.length ≤ 1000000)
    (hsub : ∀ a t b, subscripted (.Slice none (some (.BoolOp .Or [x, .Constant .none kk cp] bp)) none sp) false (.str a t) (.ref b) = operate [.ref b, .str a t] (getItem (.str a t) (.ref b))) (ht : ∀ a t r, letTemporaryGo value (.str a t) r = pure ()) :
    EvS prog w A h₀ env σ ks (.Subscript value (.Slice none (some (.BoolOp .Or [x, .Constant .none kk cp] bp)) none sp) pos) (.str (l.take (l.length - k))) := .mk fun s Q E S h =>
  Subscript_ (hv.out s _ _ S fun v s₁ k₁ o₁ => wpAny_Slice (evalPart_none_step (evalPart_some_step (BoolOp_or (hx.out s₁ _ _ (S.keeps k₁) fun u s₂ k₂ o₂ => by
    obtain ⟨t, rfl⟩ := o₁
    obtain ⟨t', rfl⟩ := o₂
    refine P.truthy_int ?_
    by_cases hk : k = 0
    · subst hk
      refine (?_ : if (-((0 : Nat) : Int) != 0) = true then _ else _)
      rw [if_neg (by decide)]
      refine BoolOp_one (wpAny_Constant_none (evalPart_none_step ?_))
      refine tail_of_ItemOn ⟨"str", _, F.slot_str_getitem.lookup, typeIs_str _ _ _, wpAny_getItem_str_slice (l := none) (u := none) (st := none) ⟨_, Heap.get?_push_size _ rfl, rfl, rfl⟩ rfl
        (post_val_or_str ⟨?_, fun t'' c => ?_⟩)⟩ (hsub _ _ _) (ht _ _)
      · exact Nat.le_trans (Txt.slice_le _ _ _) (by rw [tx_len, sizeLine_eq]; (first | lia | omega))
      · have e := tx_all l
        exact h _ _ ((k₁.trans' k₂).trans' (Kp.of fun b o e => Heap.get?_push_of_some _ e)) ⟨t'', by rw [Nat.sub_zero, List.take_length]; exact congrArg (fun z => Value.str z t'') e⟩
    · refine (?_ : if (-((k : Nat) : Int) != 0) = true then _ else _)
      rw [if_pos (by simp; (first | lia | omega))]
      refine evalPart_none_step ?_
      refine tail_of_ItemOn ⟨"str", _, F.slot_str_getitem.lookup, typeIs_str _ _ _, wpAny_getItem_str_slice (l := none) (u := some (-(k : Int), t')) (st := none) ⟨_, Heap.get?_push_size _ rfl, rfl, rfl⟩ rfl
        (post_val_or_str ⟨?_, fun t'' c => ?_⟩)⟩ (hsub _ _ _) (ht _ _)
      · exact Nat.le_trans (Txt.slice_le _ _ _) (by rw [tx_len, sizeLine_eq]; (first | lia | omega))
      · have e := tx_to_neg l k (by (first | lia | omega))
        exact h _ _ ((k₁.trans' k₂).trans' (Kp.of fun b o e => Heap.get?_push_of_some _ e)) ⟨t'', by rw [← e]; rfl⟩)))))
theorem ev_nth {value slice : PySem.Expr} {pos : Pos} {l : List Nat} {i : Nat} (hv : EvS prog w A h₀ env σ ks value (.str l)) (hs : EvS prog w A h₀ env σ ks slice (.int (i : Int))) (hi : i < l.length) (hz : l.length ≤ 1000000)
    (hsub : ∀ a t u, subscripted slice false (.str a t) (.int (i : Int) u) = operate [.str a t, .int (i : Int) u] (getItem (.str a t) (.int (i : Int) u))) (ht : ∀ a t r, letTemporaryGo value (.str a t) r = pure ()) : EvS prog w A h₀ env σ ks (.Subscript value slice pos) (.str [l.getD i 0]) := .mk fun s Q E S h =>
  Subscript_ (hv.out s _ _ S fun v s₁ k₁ o₁ => hs.out s₁ _ _ (S.keeps k₁) fun u s₂ k₂ o₂ => by
    obtain ⟨t, rfl⟩ := o₁
    obtain ⟨t', rfl⟩ := o₂
    exact cut_nth rfl hi hz (h _ _ ((k₁.trans' k₂).trans' .tok) ⟨_, rfl⟩) (hsub _ _ _) (ht _ _))
theorem ev_nthR {value slice : PySem.Expr} {pos : Pos} {l : List Nat} {k : Nat} {i : Int} (e : i = -(k : Int) - 1) (hv : EvS prog w A h₀ env σ ks value (.str l)) (hs : EvS prog w A h₀ env σ ks slice (.int i)) (hi : k < l.length) (hz : l.length ≤ 1000000)
    (hsub : ∀ a t u, subscripted slice false (.str a t) (.int i u) = operate [.str a t, .int i u] (getItem (.str a t) (.int i u))) (ht : ∀ a t r, letTemporaryGo value (.str a t) r = pure ()) : EvS prog w A h₀ env σ ks (.Subscript value slice pos) (.str [l.reverse.getD k 0]) := .mk fun s Q E S h =>
  Subscript_ (hv.out s _ _ S fun v s₁ k₁ o₁ => hs.out s₁ _ _ (S.keeps k₁) fun u s₂ k₂ o₂ => by
    obtain ⟨t, rfl⟩ := o₁
    obtain ⟨t', rfl⟩ := o₂
    exact cut_nthR e hi hz (h _ _ ((k₁.trans' k₂).trans' .tok) ⟨_, rfl⟩) (hsub _ _ _) (ht _ _))
theorem cl_lens {l : List Nat} (hn : l.length ≤ 1000000) : CalR prog w A h₀ env σ ks (.builtin "len") [.str l] fun h v => ok h (.int (l.length : Int)) v := .mk fun vs s Q E S o h => by
  obtain ⟨v, rfl, ⟨t, rfl⟩⟩ := oks1 o
  exact len_tx hn (h _ _ .tok ⟨_, rfl⟩)
theorem cl_min {a b : Int} (hh : A.handled = none) : CalR prog w A h₀ env σ ks (.builtin "min") [.int a, .int b] fun h v => ok h (.int (if b < a then b else a)) v := .mk fun vs s Q E S o h => by
  obtain ⟨v, u, rfl, ⟨t, rfl⟩, ⟨t', rfl⟩⟩ := oks2 o
  refine min_two_ints hh fun h' tk hk => h _ _ (Kp.of hk) ?_
  by_cases c : b < a
  · rw [if_pos c, if_pos c]; exact ⟨_, rfl⟩
  · rw [if_neg c, if_neg c]; exact ⟨_, rfl⟩
/-- a loop of so many turns -/
theorem st_while {test : PySem.Expr} {body : List Stmt} {pos : Pos} {n : Nat} (st : Nat → List (Str × VD)) (ht : ∀ i < n, EvT prog w A h₀ env (st i) ks test true) (hf : EvT prog w A h₀ env (st n) ks test false)
    (hb : ∀ i < n, ExS prog w A h₀ env (st i) ks body (st (i + 1)) ks) : StS prog w A h₀ env (st 0) ks (.While test body [] pos) (st n) ks := .mk fun s Q E hE S h => by
  refine wpAny_While (codeAny_whileLoop (fun k s' => ∃ i, Mv env s s' ∧ Sg h₀ env (st i) ks s' ∧ i ≤ n ∧ k = n - i) ?_ n ⟨0, .refl, S, Nat.zero_le _, rfl⟩)
  rintro k s' ⟨i, mv, S', hi, rfl⟩
  by_cases hlt : i < n
  · refine wpAny_passesOwn hE ((ht i hlt).out _ _ _ S' fun s₁ k₁ => ?_)
    rw [if_pos rfl]
    refine wpAny_passesOwn hE ((hb i hlt).out _ _ _ hE (S'.keeps k₁) fun s₂ m₂ S₂ => ?_)
    exact ⟨n - (i + 1), by (first | lia | omega), i + 1, (mv.trans (.of k₁)).trans m₂, S₂, hlt, rfl⟩
  · have hin : i = n := by (first | lia | omega)
    subst hin
    refine wpAny_passesOwn hE (hf.out _ _ _ S' fun s₁ k₁ => ?_)
    rw [if_neg (by decide)]
    exact wpAny_execs_nil (h _ (mv.trans (.of k₁)) (S'.keeps k₁))
end
def Sub (a b : List (Str × VD)) : Prop := ∀ x d, a.lookup x = some d → b.lookup x = some d
theorem Sub.rfl' {a : List (Str × VD)} : Sub a a := fun _ _ h => h
theorem Sub.of {a b : List (Str × VD)} (h : Among a b) : Sub a b := fun _ _ => h.get
theorem Sub.trans {a b c : List (Str × VD)} (h : Sub a b) (k : Sub b c) : Sub a c := fun x d e => k x d (h x d e)
theorem Sub.cons {a b : List (Str × VD)} {x : Str} {d : VD} (h : Sub a b) : Sub ((x, d) :: a) ((x, d) :: b) := fun y e q => by
  rw [List.lookup_cons] at q ⊢
  split at q
  · exact q
  · exact h y e q
theorem Sg.sub {h₀ : Heap} {env : Env} {σ ks σ' ks' : List (Str × VD)} {s : Shared} (x : Sg h₀ env σ ks s) (h1 : Sub σ' σ) (h2 : Sub ks' ks) : Sg h₀ env σ' ks' s := by
  obtain ⟨m, F, hm⟩ := x.fr
  refine ⟨⟨m, F, fun y d e => hm y d (h1 y d e)⟩, fun y c e => ?_⟩
  obtain ⟨w, c1, hd⟩ := x.ce y c e
  exact ⟨w, c1, fun d e => hd d (h2 _ d e)⟩
theorem st_sub {prog : Program} {w : World} {A : Around} {h₀ : Heap} {env : Env} {σ ks σ' ks' σ'' ks'' : List (Str × VD)} {st : Stmt} (h : StS prog w A h₀ env σ ks st σ' ks') (h1 : Sub σ'' σ') (h2 : Sub ks'' ks') : StS prog w A h₀ env σ ks st σ'' ks'' := .mk fun s Q E hE S k => h.out s Q E hE S fun s₁ m₁ S₁ => k s₁ m₁ (S₁.sub h1 h2)
theorem ex_sub {prog : Program} {w : World} {A : Around} {h₀ : Heap} {env : Env} {σ ks σ' ks' σ'' ks'' : List (Str × VD)} {st : List Stmt} (h : ExS prog w A h₀ env σ ks st σ' ks') (h1 : Sub σ'' σ') (h2 : Sub ks'' ks') : ExS prog w A h₀ env σ ks st σ'' ks'' := .mk fun s Q E hE S k => h.out s Q E hE S fun s₁ m₁ S₁ => k s₁ m₁ (S₁.sub h1 h2)
theorem ex_one {prog : Program} {w : World} {A : Around} {h₀ : Heap} {env : Env} {σ ks σ' ks' : List (Str × VD)} {st : Stmt} (h : StS prog w A h₀ env σ ks st σ' ks') : ExS prog w A h₀ env σ ks [st] σ' ks' := ex_cons h ex_nil
theorem et_eq {prog : Program} {w : World} {A : Around} {h₀ : Heap} {env : Env} {σ ks : List (Str × VD)} {e : PySem.Expr} {a b : Bool} (h : EvT prog w A h₀ env σ ks e a) (q : a = b) : EvT prog w A h₀ env σ ks e b := q ▸ h
end

section
open PySem PySem.W PyProof.Rows PySem.Calls PySem.Spec
set_option maxRecDepth 100000
set_option maxHeartbeats 400000
/-- the frame, the walks that stand, the lists that are written, and the rest as it was -/
structure AS (h₀ : Heap) (env : Env) (s₀ : Shared) (σ : List (Str × VD)) (ex : List (Addr × Obj)) (ro : List (Addr × List Int)) (s : Shared) : Prop where
  sg : Sg h₀ env σ [] s
  it : ∀ p ∈ ex, s.heap.get? p.1 = some p.2 ∧ ∃ vs, p.2.data = .fields vs
  rw : ∀ p ∈ ro, h₀.get? p.1 = none ∧ ∃ us n, s.heap.get? p.1 = some (W.listOf (List.toArray us) n) ∧ IntsAre us p.2
  sm : ∃ h tk, s = { s₀ with heap := h, toks := tk }
section
variable {prog : Program} {w : World} {A : Around} {h₀ : Heap} {env : Env} {s₀ s s' : Shared} {σ σ' σ'' : List (Str × VD)} {ex : List (Addr × Obj)} {ro ro' : List (Addr × List Int)} {P P' P'' : Shared → Prop} {ans : Int}
theorem AS.mv (x : AS h₀ env s₀ σ ex ro s) (m : Mv env s s') (S : Sg h₀ env σ' [] s') : AS h₀ env s₀ σ' ex ro s' := by
  obtain ⟨h', tk, rfl, k⟩ := m
  refine ⟨S, fun p hp => ?_, fun p hp => ?_, ?_⟩
  · obtain ⟨e, vs, hd⟩ := x.it p hp
    exact ⟨k _ _ (x.sg.own (vs := vs) ⟨_, e, hd⟩) e, vs, hd⟩
  · obtain ⟨e0, us, n, e, hi⟩ := x.rw p hp
    refine ⟨e0, us, n, k _ _ (fun q => ?_) e, hi⟩
    rcases q with q | ⟨z, q⟩
    · obtain ⟨m0, hn0⟩ := x.sg.ns
      exact ns_seq hn0 e ⟨_, _, rfl⟩ q
    · obtain ⟨_, ⟨_, _, c3⟩, _⟩ := x.sg.ce z _ q
      exact cell_seq c3 e ⟨_, _, rfl⟩ rfl
  · obtain ⟨h1, t1, rfl⟩ := x.sm
    exact ⟨h', tk, rfl⟩
theorem AS.kp (x : AS h₀ env s₀ σ ex ro s) (k : Kp env.locals s s') : AS h₀ env s₀ σ ex ro s' := x.mv (.of k) (x.sg.keeps k)
theorem AS.fin (x : AS h₀ env s₀ σ ex ro s) : AS h₀ env s₀ [] [] [] s := ⟨x.sg.sub (fun _ _ e => (nomatch e)) (fun _ _ e => (nomatch e)), (fun _ h => (nomatch h)), (fun _ h => (nomatch h)), x.sm⟩
theorem AS.sub (x : AS h₀ env s₀ σ ex ro s) (h : Sub σ' σ) : AS h₀ env s₀ σ' ex ro s := ⟨x.sg.sub h .rfl', x.it, x.rw, x.sm⟩
/-- an iterator steps -/
theorem AS.poke {I : Addr} {o o₁ : Obj} {h' : Heap} {tk : Nat} {vs : Array Value} (x : AS h₀ env s₀ σ ((I, o) :: ex) ro s) (hI₀ : h₀.get? I = none) (ne : ∀ p ∈ ex, p.1 ≠ I) (k : ∀ b q, b ≠ I → s.heap.get? b = some q → h'.get? b = some q) (e : h'.get? I = some o₁) (hd : o₁.data = .fields vs) :
    AS h₀ env s₀ σ ((I, o₁) :: ex) ro { s with heap := h', toks := tk } := by
  obtain ⟨e0, vs0, hd0⟩ := x.it _ (.head _)
  refine ⟨x.sg.iter (vs := vs0) ⟨_, e0, hd0⟩ hI₀ k, fun p hp => ?_, fun p hp => ?_, ?_⟩
  · rcases List.mem_cons.mp hp with rfl | hp
    · exact ⟨e, vs, hd⟩
    · obtain ⟨e1, v1, d1⟩ := x.it p (.tail _ hp)
      exact ⟨k _ _ (ne p hp) e1, v1, d1⟩
  · obtain ⟨e1, us, n, e2, hi⟩ := x.rw p hp
    refine ⟨e1, us, n, k _ _ (fun q => ?_) e2, hi⟩
    rw [q, e0] at e2
    cases e2
    cases hd0
  · obtain ⟨h1, t1, rfl⟩ := x.sm
    exact ⟨h', tk, rfl⟩
structure HoS (prog : Program) (w : World) (A : Around) (h₀ : Heap) (env : Env) (s₀ : Shared) (ans : Int) (P : Shared → Prop) (st : Stmt) (P' : Shared → Prop) : Prop where
  out : ∀ s (Q : Flow → Shared → Prop) E, PassesOwn (model prog w) A env E → P s → (∀ s', P' s' → Q .next s') →
  (∀ s' t, AS h₀ env s₀ [] [] [] s' → Q (.ret (.int ans t)) s') → wpAny (model prog w) A (exec st env) Q E s
structure HoX (prog : Program) (w : World) (A : Around) (h₀ : Heap) (env : Env) (s₀ : Shared) (ans : Int) (P : Shared → Prop) (st : List Stmt) (P' : Shared → Prop) : Prop where
  out : ∀ s (Q : Flow → Shared → Prop) E, PassesOwn (model prog w) A env E → P s → (∀ s', P' s' → Q .next s') →
  (∀ s' t, AS h₀ env s₀ [] [] [] s' → Q (.ret (.int ans t)) s') → wpAny (model prog w) A (execs st env) Q E s
theorem ho_nil : HoX prog w A h₀ env s₀ ans P [] P := .mk fun s _ _ _ S h _ => wpAny_execs_nil (h s S)
theorem ho_cons {st : Stmt} {rest : List Stmt} (h1 : HoS prog w A h₀ env s₀ ans P st P') (h2 : HoX prog w A h₀ env s₀ ans P' rest P'') : HoX prog w A h₀ env s₀ ans P (st :: rest) P'' := .mk fun s Q E hE S h r =>
  wpAny_execs_cons (h1.out s _ E hE S (fun s₁ S₁ => h2.out s₁ Q E hE S₁ h r) r)
theorem ho_st {st : Stmt} (h : StS prog w A h₀ env σ [] st σ' []) : HoS prog w A h₀ env s₀ ans (AS h₀ env s₀ σ ex ro) st (AS h₀ env s₀ σ' ex ro) := .mk fun s Q E hE S k _ =>
  h.out s Q E hE S.sg fun s₁ m₁ S₁ => k s₁ (S.mv m₁ S₁)
theorem ho_pre {st : List Stmt} (h : HoX prog w A h₀ env s₀ ans P' st P'') (k : ∀ s, P s → P' s) : HoX prog w A h₀ env s₀ ans P st P'' := .mk fun s Q E hE S => h.out s Q E hE (k s S)
theorem ho_post {st : List Stmt} (h : HoX prog w A h₀ env s₀ ans P st P') (k : ∀ s, P' s → P'' s) : HoX prog w A h₀ env s₀ ans P st P'' := .mk fun s Q E hE S q r => h.out s Q E hE S (fun s₁ S₁ => q s₁ (k s₁ S₁)) r
theorem ho_ex {α : Type} {R : α → Shared → Prop} {st : List Stmt} (h : ∀ a, HoX prog w A h₀ env s₀ ans (R a) st P') : HoX prog w A h₀ env s₀ ans (fun s => ∃ a, R a s) st P' := .mk fun s Q E hE ⟨a, S⟩ => (h a).out s Q E hE S
theorem ho_ret {e : PySem.Expr} {pos : Pos} (he : EvS prog w A h₀ env σ [] e (.int ans)) : HoS prog w A h₀ env s₀ ans (AS h₀ env s₀ σ ex ro) (.Return (some e) pos) P' := .mk fun s Q E _ S _ r =>
  wpAny_Return_some (he.out s _ _ S.sg fun v s₁ k₁ o₁ => by
    obtain ⟨t, rfl⟩ := o₁
    exact r s₁ t (S.kp k₁).fin)
theorem ho_if {t : PySem.Expr} {body orelse : List Stmt} {pos : Pos} {b : Bool} (ht : EvT prog w A h₀ env σ [] t b) (h1 : b = true → HoX prog w A h₀ env s₀ ans (AS h₀ env s₀ σ ex ro) body P') (h2 : b = false → HoX prog w A h₀ env s₀ ans (AS h₀ env s₀ σ ex ro) orelse P') :
    HoS prog w A h₀ env s₀ ans (AS h₀ env s₀ σ ex ro) (.If t body orelse pos) P' := .mk fun s Q E hE S k r =>
  wpAny_If (ht.out s _ _ S.sg fun s₁ k₁ => by
    cases b with
    | true => rw [if_pos rfl]; exact (h1 rfl).out s₁ Q E hE (S.kp k₁) k r
    | false => rw [if_neg (by decide)]; exact (h2 rfl).out s₁ Q E hE (S.kp k₁) k r)
/-- the loop's state -/
inductive ForI (h₀ : Heap) (env : Env) (s₀ : Shared) (I : Addr) (n : Nat) (φ : Nat → Prop) (st : Nat → List (Str × VD)) (ex : List (Addr × Obj)) (ro : Nat → List (Addr × List Int)) : Nat → Shared → Prop
  | mk {s' : Shared} (i : Nat) (o : Obj) (hφ : φ i) (S : AS h₀ env s₀ (st i) ((I, o) :: ex) (ro i) s') (hit : IsRangeIter s'.heap I (0 + (i : Nat) * 1) ((n : Int) - (i : Nat)) 1) (hi : i ≤ n) : ForI h₀ env s₀ I n φ st ex ro (n + 1 - i) s'
theorem ho_for {x : Str} {iter : PySem.Expr} {body : List Stmt} {px pos : Pos} {n : Nat} (φ : Nat → Prop) (st st' : Nat → List (Str × VD)) (ro : Nat → List (Addr × List Int)) (hh : A.handled = none)
    (hr : ∀ s Q E, Sg h₀ env (st 0) [] s → (∀ v s', Kp env.locals s s' → Rng 0 n s'.heap v → Q v s') → wpAny (model prog w) A (eval iter env) Q E s) (hn : n ≤ 1000) (h0 : φ 0)
    (sto : ∀ i < n, StoS prog w A h₀ env x (.int (i : Int)) (st i) [] (st' i) []) (hb : ∀ i < n, ∀ ex, φ i → HoX prog w A h₀ env s₀ ans (AS h₀ env s₀ (st' i) ex (ro i)) body (fun s => φ (i + 1) ∧ AS h₀ env s₀ (st (i + 1)) ex (ro (i + 1)) s))
    (hs : ∀ z, foldedSetIterable iter env z = pure z) : HoS prog w A h₀ env s₀ ans (AS h₀ env s₀ (st 0) ex (ro 0)) (.For (.Name x px) iter body [] pos) (fun s => φ n ∧ AS h₀ env s₀ (st n) ex (ro n) s) := .mk fun s Q E hE S h r => by
  refine For_G h₀ (hr s _ _ S.sg fun v s₁ k₁ R => ?_) hs
  obtain ⟨rr, t, u, y, rfl, hr⟩ := R
  have S1 := S.kp k₁
  obtain ⟨m, F, _⟩ := S1.sg.fr
  refine wpAny_pyIter_range hr (rangeSmall_up n hn) ?_
  have hI₀ : h₀.get? s₁.heap.objs.size = none := by
    cases e : h₀.get? s₁.heap.objs.size with
    | none => rfl
    | some o => exact absurd (Heap.lt_size (F.keep _ _ e)) (Nat.lt_irrefl _)
  have ne : ∀ p ∈ ex, p.1 ≠ s₁.heap.objs.size := fun p hp q => by
    have e2 := Heap.lt_size (S1.it p hp).1
    rw [q] at e2
    exact absurd e2 (Nat.lt_irrefl _)
  generalize hII : s₁.heap.objs.size = I at hI₀ ne
  have W := rangeWalks (prog := prog) (w := w) (A := A) hh I 0 1 n
  show codeAny _ _ _ _ _
  refine codeAny_forLoop (ForI h₀ env s₀ I n φ st ex ro) ?_ (n + 1) (.mk 0 { cls := .type "range_iterator", data := .fields #[rawInt 0, rawInt (Builtin.Range.rangeSize 0 (n : Int) 1), rawInt 1] } h0 ⟨?_, ?_, ?_, ?_⟩ ?_ (Nat.zero_le _))
  · rintro k s' ⟨i, o, hφ, S', hit, hi⟩
    have hoI : some o = _ := (S'.it _ (.head _)).1.symm.trans hit
    cases hoI
    by_cases hlt : i < n
    · refine W.item i _ _ _ hlt hit fun v h₁ tk₁ hP hit₁ hk₁ => ?_
      obtain ⟨tk, rfl⟩ := hP
      rw [Int.mul_one, Int.zero_add]
      have S2 := S'.poke (tk := tk₁) hI₀ ne (fun b o hb e => hk₁ b o (by simpa using hb) e) hit₁ rfl
      refine wpAny_assign_Name ((sto i hlt).out _ _ _ _ S2.sg ⟨_, rfl⟩ fun s₂ m₃ S₃ => ?_)
      have S3 := S2.mv m₃ S₃
      refine wpAny_passesOwn hE ((hb i hlt _ hφ).out _ _ _ hE S3 (fun s₄ S₄ => ?_) r)
      refine ⟨n + 1 - (i + 1), Nat.sub_lt_sub_left (Nat.lt_succ_of_lt hlt) (Nat.lt_succ_self i), .mk (i + 1) _ S₄.1 S₄.2 ?_ hlt⟩
      exact (S₄.2.it _ (.head _)).1
    · have hin : i = n := by (first | lia | omega)
      subst hin
      refine W.done _ _ _ hit fun h₁ tk₁ hk₁ => ?_
      have S2 : AS h₀ env s₀ (st i) ex (ro i) { s' with heap := h₁, toks := tk₁ } := by
        refine ⟨S'.sg.iter (vs := _) ⟨_, hit, rfl⟩ hI₀ fun b o hb e => hk₁ b o (by simpa using hb) e, fun p hp => ?_, fun p hp => ?_, ?_⟩
        · obtain ⟨e1, v1, d1⟩ := S'.it p (.tail _ hp)
          exact ⟨hk₁ _ _ (by simpa using ne p hp) e1, v1, d1⟩
        · obtain ⟨e1, us, m1, e2, hi2⟩ := S'.rw p hp
          refine ⟨e1, us, m1, hk₁ _ _ (by
            simp only [List.mem_singleton]
            intro q
            rw [q] at e2
            exact nomatch (show Data.fields _ = Data.seq _ _ from congrArg Obj.data (Option.some.inj (hit.symm.trans e2)))) e2, hi2⟩
        · obtain ⟨h1, t1, rfl⟩ := S'.sm
          exact ⟨h₁, tk₁, rfl⟩
      exact wpAny_execs_nil (h _ ⟨hφ, S2⟩)
  · exact S1.sg.keeps (Kp.of (k := s₁.toks) fun b o e => Heap.get?_push_of_some _ e)
  · intro p hp
    rcases List.mem_cons.mp hp with rfl | hp
    · rw [← hII]
      exact ⟨Heap.get?_push_size _ rfl, _, rfl⟩
    · obtain ⟨e1, v1, d1⟩ := S1.it p hp
      exact ⟨Heap.get?_push_of_some _ e1, v1, d1⟩
  · intro p hp
    obtain ⟨e1, us, m1, e2, hi2⟩ := S1.rw p hp
    exact ⟨e1, us, m1, Heap.get?_push_of_some _ e2, hi2⟩
  · obtain ⟨h1, t1, rfl⟩ := S1.sm
    exact ⟨_, t1, rfl⟩
  · show IsRangeIter _ _ (0 + (0 : Nat) * 1) ((n : Int) - (0 : Nat)) 1
    rw [rangeSize_up]
    simp only [Int.ofNat_zero, Int.zero_mul, Int.add_zero, Int.sub_zero]
    rw [← hII]
    exact Heap.get?_push_size _ rfl
/-- the written list's item -/
theorem ho_get {x : Str} {value slice : PySem.Expr} {R : Addr} {row : List Int} {i : Nat} {n : Int} {px pp pos : Pos} (hv : EvS prog w A h₀ env σ [] value (.ref R)) (hs : EvS prog w A h₀ env σ [] slice (.int (i : Int))) (hR : (R, row) ∈ ro) (h1 : i < 1000000) (hn : row[i]? = some n)
    (hsub : ∀ a u, subscripted slice false (.ref a) (.int (i : Int) u) = operate [.ref a, .int (i : Int) u] (getItem (.ref a) (.int (i : Int) u))) (ht : ∀ a r, letTemporaryGo value (.ref a) r = pure ()) (sto : StoS prog w A h₀ env x (.int n) σ [] σ' [])
    (hsw : swapsWith (.Subscript value slice pp) (some (.Name x px)) pos.line env = pure false) : HoS prog w A h₀ env s₀ ans (AS h₀ env s₀ σ ex ro) (.Assign [.Name x px] (.Subscript value slice pp) pos) (AS h₀ env s₀ σ' ex ro) := .mk fun s Q E _ S h _ =>
  wpAny_Assign_Name (Subscript_ (hv.out s _ _ S.sg fun v s₁ k₁ o₁ => hs.out s₁ _ _ (S.kp k₁).sg fun u s₂ k₂ o₂ => by
    cases o₁
    obtain ⟨t, rfl⟩ := o₂
    have S2 := (S.kp k₁).kp k₂
    obtain ⟨_, us, c, hg, hi⟩ := S2.rw _ hR
    obtain ⟨t', e'⟩ := ints_at hi hn
    have hL : s₂.heap.IsList R us.toArray := ⟨_, hg, rfl, _, rfl⟩
    refine tail_of_ItemOn ⟨"list", _, slot_list_getitem.lookup, hL.typeIs, wpAny_getItem_list hL (by (first | lia | omega)) (by (first | lia | omega)) (by simpa using e') ?_⟩ (hsub R t) (ht R)
    exact sto.out s₂ _ _ _ S2.sg ⟨t', rfl⟩ fun s₃ m₃ S₃ => h s₃ (S2.mv m₃ S₃))) hsw
def Flat (σ : List (Str × VD)) : Prop := ∀ x d, σ.lookup x = some d → Plain d
theorem Sg.poke {R : Addr} {h' : Heap} {tk : Nat} {o : Obj} (S : Sg h₀ env σ [] s) (hf : Flat σ) (hR : s.heap.get? R = some o) (hq : ∃ l n, o.data = .seq l n) (hR₀ : h₀.get? R = none) (k : ∀ b q, b ≠ R → s.heap.get? b = some q → h'.get? b = some q) : Sg h₀ env σ [] { s with heap := h', toks := tk } := by
  obtain ⟨m, F, hm⟩ := S.fr
  refine ⟨⟨m, ⟨F.ns.at' fun q e => k _ q (fun z => ns_seq F.ns hR hq z.symm) e, fun b q e => k b q (fun z => by rw [z, hR₀] at e; cases e) (F.keep b q e), F.above⟩, fun y d e => ?_⟩, fun y c e => ?_⟩
  · obtain ⟨v, e1, e2⟩ := hm y d e
    exact ⟨v, e1, hf y d e _ _ _ e2⟩
  · obtain ⟨w', ⟨c1, c2, ⟨oc, e3, e4⟩⟩, hd'⟩ := S.ce y c e
    exact ⟨w', ⟨c1, c2, ⟨oc, k _ _ (fun z => cell_seq ⟨oc, e3, e4⟩ hR hq z.symm) e3, e4⟩⟩, fun d e => nomatch e⟩
theorem ho_put {o i value : PySem.Expr} {R : Addr} {row : List Int} {k : Nat} {n : Int} {pp pos : Pos} (hv : EvS prog w A h₀ env σ [] value (.int n)) (ho : EvS prog w A h₀ env σ [] o (.ref R)) (hi : EvS prog w A h₀ env σ [] i (.int (k : Int))) (hk : k < row.length) (hk2 : k < 1000000) (hf : Flat σ)
    (hsw : swapsWith value (some (.Subscript o i pp)) pos.line env = pure false) : HoS prog w A h₀ env s₀ ans (AS h₀ env s₀ σ ex [(R, row)]) (.Assign [.Subscript o i pp] value pos) (AS h₀ env s₀ σ ex [(R, row.set k n)]) := .mk fun s Q E _ S h _ =>
  wpAny_Assign_Subscript (hv.out s _ _ S.sg fun v s₁ k₁ o₁ => ho.out s₁ _ _ (S.kp k₁).sg fun ov s₂ k₂ o₂ => hi.out s₂ _ _ ((S.kp k₁).kp k₂).sg fun iv s₃ k₃ o₃ => by
    cases o₂
    obtain ⟨t, rfl⟩ := o₁
    obtain ⟨t', rfl⟩ := o₃
    have S3 := ((S.kp k₁).kp k₂).kp k₃
    obtain ⟨hR₀, us, c, hg, hI⟩ := S3.rw _ (.head _)
    have hlen : us.length = row.length := hI.length
    refine ki_setAt hg (by (first | lia | omega)) (by (first | lia | omega)) (by simp; (first | lia | omega)) ?_
    have kk := Heap.SameBut.update (a := R) (h := s₃.heap) (f := Obj.mapSeq (·.setIfInBounds (k : Int).toNat (.int n t)))
    have q := PySem.IsL.update hg (·.setIfInBounds (k : Int).toNat (.int n t))
    rw [Int.toNat_natCast] at q kk ⊢
    refine h _ ⟨S3.sg.poke (tk := s₃.toks) hf hg ⟨_, _, rfl⟩ hR₀ fun b ob hb e => kk.extBut b ob hb e, fun p hp => ?_, fun p hp => ?_, ?_⟩
    · obtain ⟨e1, v1, d1⟩ := S3.it p hp
      refine ⟨kk.extBut _ _ (fun z => ?_) e1, v1, d1⟩
      rw [z, hg] at e1
      exact nomatch (show Data.seq _ _ = Data.fields _ from (congrArg Obj.data (Option.some.inj e1)).trans d1)
    · rcases List.mem_singleton.mp hp with rfl
      rw [show us.toArray.setIfInBounds k (.int n t) = (us.set k (.int n t)).toArray by simp] at q
      exact ⟨hR₀, us.set k (.int n t), _, q, ints_set hI k⟩
    · obtain ⟨h1, t1, rfl⟩ := S3.sm
      exact ⟨_, t1, rfl⟩) hsw
end
end

section
open PySem PySem.W PyProof.Rows PySem.Calls PySem.Spec
set_option maxRecDepth 100000
set_option maxHeartbeats 4000000
noncomputable def lvFd (P : Params) : FuncData := match (hd.heap_1 P).lookup 203 with
  | some ⟨_, _, .func fd, _⟩ => fd
  | _ => default
noncomputable def lvBody (P : Params) : List Stmt := match (lvFd P).body with
  | .stmts l => l
  | _ => []
noncomputable def lvScope (P : Params) : Scope := (lvFd P).scope
noncomputable def lvSt (P : Params) (i : Nat) : Stmt := match (lvBody P)[i]? with
  | some st => st
  | none => .Pass ⟨0, 0, 0, 0⟩
noncomputable abbrev lvEnv (P : Params) (L : Addr) (cd : Value) : Env := envOf (Str.ofString "_levenshtein_distance") (lvScope P) L 203 cd
theorem lv_kind (P : Params) : (lvScope P).kind = .function := by rfl
def vlN : List Str := ["a", "b", "max_cost", "pre", "post", "row", "result", "bindex", "bchar", "distance", "minimum", "index", "substitute", "insert_delete"]
theorem lv_locs (P : Params) : (vlN.all fun x => ((lvScope P).names.lookup x == some .local) && !(x == ("__debug__" : Str))) = true := by kernel_rfl
theorem vloc_of (P : Params) (L : Addr) (cd : Value) {x : Str} (h : x ∈ vlN) : (lvEnv P L cd).kindOf x = some .local ∧ (x == ("__debug__" : Str)) = false := by
  have := List.all_eq_true.mp (lv_locs P) x h
  rw [Bool.and_eq_true, beq_iff_eq, Bool.not_eq_true'] at this
  exact this
theorem lk_head {x : Str} {d : VD} {σ : List (Str × VD)} : ((x, d) :: σ).lookup x = some d := by simp [List.lookup_cons]
theorem lk_tail {x y : Str} {d e : VD} {σ : List (Str × VD)} (h : (x == y) = false) (k : σ.lookup x = some d) : ((y, e) :: σ).lookup x = some d := by rw [List.lookup_cons, h]; exact k
section
variable {w : World} {A : Around} {prog : Program} {h₀ : Heap} {L : Addr} {cd : Value} {σ ks σ' ks' : List (Str × VD)} {pos px py : Pos} {x y : Str} {d d' : VD} {e : PySem.Expr}
theorem vplain (P : Params) (L : Addr) (cd : Value) : ((lvEnv P L cd).scope.kind == .class || ((lvEnv P L cd).scope.kind == .module && (lvEnv P L cd).locals != (lvEnv P L cd).globals)) = false := by
  rw [show (lvEnv P L cd).scope.kind = .function from lv_kind P]
  rfl
theorem v_name (hx : x ∈ vlN) (hd : σ.lookup x = some d) : EvS prog w A h₀ (lvEnv w.params L cd) σ ks (.Name x pos) d := ev_name hd (lv_kind w.params) (vloc_of w.params L cd hx).1 (vloc_of w.params L cd hx).2
theorem v_sto (hx : x ∈ vlN) : StoS prog w A h₀ (lvEnv w.params L cd) x d σ ks ((x, d) :: σ) ks := sto_l (vloc_of w.params L cd hx).1 (vplain w.params L cd)
theorem v_assign (hx : x ∈ vlN) (he : EvS prog w A h₀ (lvEnv w.params L cd) σ ks e d) (hs : swapsWith e (some (.Name x px)) pos.line (lvEnv w.params L cd) = pure false) : StS prog w A h₀ (lvEnv w.params L cd) σ ks (.Assign [.Name x px] e pos) ((x, d) :: σ) ks := st_assign he (vloc_of w.params L cd hx).1 (vplain w.params L cd) hs
theorem v_two (hx : x ∈ vlN) (hy : y ∈ vlN) (he : EvS prog w A h₀ (lvEnv w.params L cd) σ ks e d) (ha : (assignEach [.Name x px, .Name y py] (lvEnv w.params L cd)).map (·.2) = [assign (.Name x px) (lvEnv w.params L cd), assign (.Name y py) (lvEnv w.params L cd)]) (hw : swappedStores [.Name x px, .Name y py] e (lvEnv w.params L cd) = pure none) :
    StS prog w A h₀ (lvEnv w.params L cd) σ ks (.Assign [.Name x px, .Name y py] e pos) ((y, d) :: (x, d) :: σ) ks := .mk fun s Q E _ S h =>
  wpAny_Assign_two (he.out s _ _ S fun v s₁ k₁ o₁ => wpAny_assign_Name ((v_sto hx).out _ _ _ _ (S.keeps k₁) o₁ fun s₂ m₂ S₂ => wpAny_assign_Name ((v_sto hy).out _ _ _ _ S₂ ((S.keeps k₁).okm m₂ o₁) fun s₃ m₃ S₃ => h s₃ (((Mv.of k₁).trans m₂).trans m₃) S₃))) ha hw
end
/-- the ground of the distance's frame -/
structure VG (w : World) (A : Around) (h₀ : Heap) (L : Addr) (cd : Value) : Prop where
  hx : (hd.heap_1 w.params).In h₀
  tp : ∃ p loose mean mg mb, Top p loose mean mg mb h₀
  hh : A.handled = none
  co : ∀ σ x y, x < 128 → y < 128 → CalR PySem.Challenge.rw_xl0020_01.row.prog w A h₀ (lvEnv w.params L cd) σ [] (.ref 196) [.str [x], .str [y]] fun h v => ok h (.int (cost x y : Int)) v
section
variable {w : World} {A : Around} {h₀ : Heap} {L : Addr} {cd : Value} {σ : List (Str × VD)} {pos : Pos}
theorem vm_len (G : VG w A h₀ L cd) : NmS PySem.Challenge.rw_xl0020_01.row.prog w A h₀ (lvEnv w.params L cd) σ [] (.Name "len" pos) (.builtin "len") := .mk fun s Q E S h => by
  obtain ⟨m, F, _⟩ := S.fr
  change Fr h₀ L s.heap m at F
  clear S
  obtain ⟨p, loose, mean, mg, mb, Tp⟩ := G.tp
  have X₀ := G.hx
  clear G
  have N : News h₀ L s.heap [] := nil_news
  obtain ⟨hp, gs, dr, tk0, os0⟩ := s
  dsimp only at F N h
  revert X₀; k_fill; intro X₀
  unfold lvEnv
  conv in (occs := *) lvScope _ => all_goals whnf
  k_steps
  exact h
theorem vm_range (G : VG w A h₀ L cd) : NmS PySem.Challenge.rw_xl0020_01.row.prog w A h₀ (lvEnv w.params L cd) σ [] (.Name "range" pos) (.type "range") := .mk fun s Q E S h => by
  obtain ⟨m, F, _⟩ := S.fr
  change Fr h₀ L s.heap m at F
  clear S
  obtain ⟨p, loose, mean, mg, mb, Tp⟩ := G.tp
  have X₀ := G.hx
  clear G
  have N : News h₀ L s.heap [] := nil_news
  obtain ⟨hp, gs, dr, tk0, os0⟩ := s
  dsimp only at F N h
  revert X₀; k_fill; intro X₀
  unfold lvEnv
  conv in (occs := *) lvScope _ => all_goals whnf
  k_steps
  exact h
theorem vm_list (G : VG w A h₀ L cd) : NmS PySem.Challenge.rw_xl0020_01.row.prog w A h₀ (lvEnv w.params L cd) σ [] (.Name "list" pos) (.type "list") := .mk fun s Q E S h => by
  obtain ⟨m, F, _⟩ := S.fr
  change Fr h₀ L s.heap m at F
  clear S
  obtain ⟨p, loose, mean, mg, mb, Tp⟩ := G.tp
  have X₀ := G.hx
  clear G
  have N : News h₀ L s.heap [] := nil_news
  obtain ⟨hp, gs, dr, tk0, os0⟩ := s
  dsimp only at F N h
  revert X₀; k_fill; intro X₀
  unfold lvEnv
  conv in (occs := *) lvScope _ => all_goals whnf
  k_steps
  exact h
theorem vm_min (G : VG w A h₀ L cd) : NmS PySem.Challenge.rw_xl0020_01.row.prog w A h₀ (lvEnv w.params L cd) σ [] (.Name "min" pos) (.builtin "min") := .mk fun s Q E S h => by
  obtain ⟨m, F, _⟩ := S.fr
  change Fr h₀ L s.heap m at F
  clear S
  obtain ⟨p, loose, mean, mg, mb, Tp⟩ := G.tp
  have X₀ := G.hx
  clear G
  have N : News h₀ L s.heap [] := nil_news
  obtain ⟨hp, gs, dr, tk0, os0⟩ := s
  dsimp only at F N h
  revert X₀; k_fill; intro X₀
  unfold lvEnv
  conv in (occs := *) lvScope _ => all_goals whnf
  k_steps
  exact h
theorem vm_cost (G : VG w A h₀ L cd) : NmS PySem.Challenge.rw_xl0020_01.row.prog w A h₀ (lvEnv w.params L cd) σ [] (.Name "_substitution_cost" pos) (.ref 196) := .mk fun s Q E S h => by
  obtain ⟨m, F, _⟩ := S.fr
  change Fr h₀ L s.heap m at F
  clear S
  obtain ⟨p, loose, mean, mg, mb, Tp⟩ := G.tp
  have X₀ := G.hx
  clear G
  have N : News h₀ L s.heap [] := nil_news
  obtain ⟨hp, gs, dr, tk0, os0⟩ := s
  dsimp only at F N h
  revert X₀; k_fill; intro X₀
  unfold lvEnv
  conv in (occs := *) lvScope _ => all_goals whnf
  k_steps
  exact h
theorem ve_move (G : VG w A h₀ L cd) : EvS PySem.Challenge.rw_xl0020_01.row.prog w A h₀ (lvEnv w.params L cd) σ [] (.Name "_MOVE_COST" pos) (.int 2) := .mk fun s Q E S h => by
  obtain ⟨m, F, _⟩ := S.fr
  change Fr h₀ L s.heap m at F
  clear S
  obtain ⟨p, loose, mean, mg, mb, Tp⟩ := G.tp
  have X₀ := G.hx
  clear G
  have N : News h₀ L s.heap [] := nil_news
  have h := fun t => h (.int 2 t) s .rfl' ⟨t, rfl⟩
  obtain ⟨hp, gs, dr, tk0, os0⟩ := s
  dsimp only at F N h
  revert X₀; k_fill; intro X₀
  unfold lvEnv
  conv in (occs := *) lvScope _ => all_goals whnf
  k_steps
  exact h _
theorem ve_max (G : VG w A h₀ L cd) : EvS PySem.Challenge.rw_xl0020_01.row.prog w A h₀ (lvEnv w.params L cd) σ [] (.Name "_MAX_STRING_SIZE" pos) (.int 40) := .mk fun s Q E S h => by
  obtain ⟨m, F, _⟩ := S.fr
  change Fr h₀ L s.heap m at F
  clear S
  obtain ⟨p, loose, mean, mg, mb, Tp⟩ := G.tp
  have X₀ := G.hx
  clear G
  have N : News h₀ L s.heap [] := nil_news
  have h := fun t => h (.int 40 t) s .rfl' ⟨t, rfl⟩
  obtain ⟨hp, gs, dr, tk0, os0⟩ := s
  dsimp only at F N h
  revert X₀; k_fill; intro X₀
  unfold lvEnv
  conv in (occs := *) lvScope _ => all_goals whnf
  k_steps
  exact h _
end
end

section
open PySem PySem.W PyProof.Rows PySem.Calls PySem.Spec
set_option maxRecDepth 100000
set_option maxHeartbeats 4000000
theorem o_isub {prog : Program} {w : World} {A : Around} {L : Addr} {a b : Int} : InpS L prog w A .Sub (.int a) (.int b) (.int (a - b)) := .mk fun _ _ _ _ _ _ ⟨_, ha⟩ ⟨_, hb⟩ h => by
  subst ha hb; exact P.isub_int (h _ _ .tok ⟨_, rfl⟩)
theorem reg_lv : True := by
  k_with_none
  k_with "zz" => (first | assumption | exact Nat.le_trans (by assumption) (by decide) | exact Nat.lt_of_le_of_lt (by assumption) (by decide) | exact Nat.le_trans (Nat.sub_le _ _) (Nat.le_trans (by assumption) (by decide)) | exact Nat.le_trans (Nat.min_le_right _ _) (Nat.le_trans (by assumption) (by decide)) | exact Nat.sub_pos_of_lt (by assumption) | exact Nat.lt_of_sub_pos (by assumption) | exact mn_pos (by assumption) | exact mn_lt (by assumption) | exact mn_no (by assumption) | exact sb_no (by assumption) | exact nm1 | exact sub1 (by assumption) | exact cp1 (by assumption) | exact cpp (by assumption) | exact cpn (by assumption) | exact cpa (by assumption) | exact sz1 (by assumption) | exact sz2 (by assumption) | exact sz3 (by assumption) | exact sz5 (by assumption) (by decide) | exact na3 (by assumption) (by assumption) | exact na4 (by assumption) (by assumption) | exact na5 (by assumption) (by assumption) | exact fl1 (by assumption) (by decide) | lia | omega)
  k_with "zr" => ((repeat (with_reducible refine rm_deeper ?_)); exact rm_top (by assumption) (by decide))
  k_with "zu" => ((repeat (first | with_reducible refine um_deeper ?_ | with_reducible refine um_in1 ?_)); exact rm_top (by assumption) (by decide))
  k_with "zn" => (refine neN ?_; (try dsimp only); first | exact Nat.ne_of_lt (Nat.add_lt_add_left (by decide) _) | exact Nat.ne_of_gt (Nat.add_lt_add_left (by decide) _) | (refine Nat.ne_of_lt ?_; (try refine lt154 ?_); (repeat (first | assumption | exact ltA (by assumption) (by decide) | refine Nat.lt_trans (by assumption) ?_ | refine Nat.lt_trans (ltA (by assumption) (by decide)) ?_)); done) | (refine Nat.ne_of_gt ?_; (try refine lt154 ?_); (repeat (first | assumption | exact ltA (by assumption) (by decide) | refine Nat.lt_trans (by assumption) ?_ | refine Nat.lt_trans (ltA (by assumption) (by decide)) ?_)); done) | (first | lia | omega))
  k_with "vlk" => first
    | with_reducible exact lk_head
    | ((with_reducible apply lk_tail); (focus kernel_rfl); k_extra "vlk")
  k_with "vs" => first | assumption | k_extra "zz" | decide | exact rfl | (intros; exact rfl)
  k_with "ve" => first
    | with_reducible exact ev_int
    | ((with_reducible apply v_name); (focus decide +kernel); k_extra "vlk")
    | ((with_reducible apply ve_move); assumption)
    | ((with_reducible apply ve_max); assumption)
    | ((with_reducible apply ev_bin); k_extra "ve"; k_extra "ve"; k_extra "vo")
  k_with "vo" => first
    | with_reducible exact o_add
    | with_reducible exact o_sub
    | with_reducible exact c_eq
    | with_reducible exact c_lt
    | with_reducible exact c_gt
    | with_reducible exact c_eqs
    | ((with_reducible apply o_mul); (focus exact mul_tiny (by k_extra "zz")))
  trivial
theorem share_in : ∀ {a b : List Nat} {i : Nat}, i < share a b → i < a.length ∧ i < b.length ∧ a.getD i 0 = b.getD i 0
  | x :: xs, y :: ys, i, h => by
    unfold share at h
    by_cases e : x = y
    · rw [if_pos e] at h
      cases i with
      | zero => simp [e]
      | succ i =>
        have := share_in (a := xs) (b := ys) (i := i) (by k_extra "zz")
        simpa using this
    · rw [if_neg e] at h; k_extra "zz"
  | [], _, _, h => absurd h (Nat.not_lt_zero _)
  | _ :: _, [], _, h => absurd h (Nat.not_lt_zero _)
theorem share_out : ∀ {a b : List Nat}, share a b < a.length → share a b < b.length → a.getD (share a b) 0 ≠ b.getD (share a b) 0
  | x :: xs, y :: ys, h1, h2 => by
    unfold share at h1 h2 ⊢
    by_cases e : x = y
    · rw [if_pos e] at h1 h2 ⊢
      simpa using share_out (a := xs) (b := ys) (by simpa using h1) (by simpa using h2)
    · rw [if_neg e]; simpa using e
  | [], _, h, _ => absurd h (Nat.not_lt_zero _)
  | _ :: _, [], _, h => absurd h (Nat.not_lt_zero _)
theorem Sub.over {x : Str} {d e : VD} {σ : List (Str × VD)} : Sub ((x, d) :: σ) ((x, d) :: (x, e) :: σ) := fun y f q => by
  rw [List.lookup_cons] at q ⊢
  split at q
  · exact q
  · rename_i h
    rw [List.lookup_cons, h]; exact q
theorem Sub.tail {x : Str} {d : VD} {σ τ : List (Str × VD)} (h : Sub τ σ) (k : (τ.all fun p => !(p.1 == x)) = true) : Sub τ ((x, d) :: σ) := fun y f q => by
  have : (y == x) = false := by
    cases e : (y == x) with
    | false => rfl
    | true =>
      have hy : y = x := by simpa using e
      subst hy
      have mem : ∀ {τ : List (Str × VD)}, τ.lookup y = some f → ∃ p ∈ τ, p.1 = y := by
        intro τ q
        induction τ with
        | nil => cases q
        | cons p τ ih =>
          rw [List.lookup_cons] at q
          split at q
          · rename_i hp; exact ⟨p, .head _, by simpa using Eq.symm (by simpa using hp : y = p.1)⟩
          · obtain ⟨p', hp', e'⟩ := ih q; exact ⟨p', .tail _ hp', e'⟩
      obtain ⟨p, hp, e'⟩ := mem q
      have := List.all_eq_true.mp k p hp
      simp [e'] at this
  rw [List.lookup_cons, this]; exact h y f q
theorem mul_tiny {a b : Int} (ha : a.natAbs < 2 ^ 64) : IntMulOk a b := by
  refine .of_left ?_
  unfold Builtin.Int.intBits
  split
  · k_extra "zz"
  · rename_i h0
    have : a.natAbs ≠ 0 := by simpa using h0
    have := (Nat.log2_lt this).mpr ha
    k_extra "zz"
theorem ho_and {prog : Program} {w : World} {A : Around} {h₀ : Heap} {env : Env} {s₀ : Shared} {ans : Int} {φ : Prop} {P P' : Shared → Prop} {st : List Stmt} (h : φ → HoX prog w A h₀ env s₀ ans P st P') : HoX prog w A h₀ env s₀ ans (fun s => φ ∧ P s) st P' := .mk fun s Q E hE ⟨f, S⟩ => (h f).out s Q E hE S
abbrev PV : Program := PySem.Challenge.rw_xl0020_01.row.prog
abbrev s0 (a b : List Nat) (mx : Int) : List (Str × VD) := [("a", .str a), ("b", .str b), ("max_cost", .int mx)]
section
variable {w : World} {A : Around} {h₀ : Heap} {L : Addr} {cd : Value} {s₀ : Shared} {a b c d : List Nat} {mx : Int} {ex : List (Addr × Obj)} {ro : List (Addr × List Int)} {ans : Int} {P' : Shared → Prop}
theorem d0 (h : a = b → ans = 0) : HoS PV w A h₀ (lvEnv w.params L cd) s₀ ans (AS h₀ (lvEnv w.params L cd) s₀ (s0 a b mx) ex ro) (lvSt w.params 0) (fun s => a ≠ b ∧ AS h₀ (lvEnv w.params L cd) s₀ (s0 a b mx) ex ro s) := by
  conv in lvSt _ _ => whnf
  refine ho_if (b := (a == b)) (et_cmp (by k_extra "ve") (by k_extra "ve") c_eqs rfl) (fun hb => ?_) (fun hb => ?_)
  · rw [h (by simpa using hb)]
    exact ho_cons (ho_ret ev_int) ho_nil
  · exact ho_post ho_nil fun s S => ⟨by simpa using hb, S⟩
theorem d1 {σ : List (Str × VD)} : StS PV w A h₀ (lvEnv w.params L cd) σ [] (lvSt w.params 1) (("pre", .int 0) :: σ) [] := by
  conv in lvSt _ _ => whnf
  exact v_assign (by decide +kernel) ev_int rfl
theorem t_pre {p p1 p2 p3 p4 q1 q2 q3 q4 r1 r2 r3 r4 r5 r6 r7 : Pos} (ha : a.length ≤ 40) (hb : b.length ≤ 40) (i : Nat) : EvT PV w A h₀ (lvEnv w.params L cd) (("pre", .int (i : Int)) :: s0 a b mx) []
    (.BoolOp .And [.Subscript (.Name "a" p1) (.Slice (some (.Name "pre" p2)) none none p3) p4, .Subscript (.Name "b" q1) (.Slice (some (.Name "pre" q2)) none none q3) q4, .Compare (.Subscript (.Name "a" r1) (.Name "pre" r2) r3) [.Eq] [.Subscript (.Name "b" r4) (.Name "pre" r5) r6] r7] p)
    (decide (0 < (a.drop i).length) && (decide (0 < (b.drop i).length) && ([a.getD i 0] == [b.getD i 0]))) := by
  refine et_and3 (et_str (ev_from (by k_extra "ve") (by k_extra "ve") (by k_extra "zz") (fun _ _ _ => rfl) (fun _ _ _ => rfl)) ?z1 rfl) (fun _ => et_str (ev_from (by k_extra "ve") (by k_extra "ve") (by k_extra "zz") (fun _ _ _ => rfl) (fun _ _ _ => rfl)) ?z2 rfl)
      (fun h1 h2 => et_cmp (ev_nth (l := a) (i := i) (by k_extra "ve") (by k_extra "ve") ?z3 (by k_extra "zz") (fun _ _ _ => rfl) (fun _ _ _ => rfl)) (ev_nth (l := b) (i := i) (by k_extra "ve") (by k_extra "ve") ?z4 (by k_extra "zz") (fun _ _ _ => rfl) (fun _ _ _ => rfl)) c_eqs rfl)
  case z1 => rw [List.length_drop]; k_extra "zz"
  case z2 => rw [List.length_drop]; k_extra "zz"
  case z3 => rw [decide_eq_true_eq, List.length_drop] at h1; k_extra "zz"
  case z4 => rw [decide_eq_true_eq, List.length_drop] at h2; k_extra "zz"
theorem pre_in {i : Nat} (h : i < share a b) : (decide (0 < (a.drop i).length) && (decide (0 < (b.drop i).length) && ([a.getD i 0] == [b.getD i 0]))) = true := by
  obtain ⟨h1, h2, h3⟩ := share_in h
  rw [List.length_drop, List.length_drop, h3, Bool.and_eq_true, Bool.and_eq_true, decide_eq_true_eq, decide_eq_true_eq]
  exact ⟨by k_extra "zz", by k_extra "zz", beq_self_eq_true _⟩
theorem pre_out : (decide (0 < (a.drop (share a b)).length) && (decide (0 < (b.drop (share a b)).length) && ([a.getD (share a b) 0] == [b.getD (share a b) 0]))) = false := by
  rw [List.length_drop, List.length_drop]
  by_cases h1 : share a b < a.length
  · by_cases h2 : share a b < b.length
    · rw [show ([a.getD (share a b) 0] == [b.getD (share a b) 0]) = false by simpa using share_out h1 h2, Bool.and_false, Bool.and_false]
    · rw [show decide (0 < b.length - share a b) = false by rw [decide_eq_false_iff_not]; k_extra "zz", Bool.false_and, Bool.and_false]
  · rw [show decide (0 < a.length - share a b) = false by rw [decide_eq_false_iff_not]; k_extra "zz", Bool.false_and]
theorem d2 (ha : a.length ≤ 40) (hb : b.length ≤ 40) : StS PV w A h₀ (lvEnv w.params L cd) (("pre", .int ((0 : Nat) : Int)) :: s0 a b mx) [] (lvSt w.params 2) (("pre", .int (share a b : Int)) :: s0 a b mx) [] := by
  conv in lvSt _ _ => whnf
  refine st_while (n := share a b) (fun i => ("pre", .int (i : Int)) :: s0 a b mx) (fun i hi => et_eq (t_pre ha hb i) (pre_in hi)) (et_eq (t_pre ha hb (share a b)) pre_out) (fun i hi => ?_)
  exact ex_sub (ex_one (st_aug (by k_extra "vlk") ev_int o_iadd (lv_kind w.params) (vloc_of w.params L cd (by decide +kernel)).1 (vplain w.params L cd))) Sub.over .rfl'
theorem d34 (ha : a.length ≤ 40) {n : Nat} : StS PV w A h₀ (lvEnv w.params L cd) (("pre", .int (n : Int)) :: s0 a b mx) [] (lvSt w.params 3) (("a", .str (a.drop n)) :: ("pre", .int (n : Int)) :: s0 a b mx) [] := by
  conv in lvSt _ _ => whnf
  exact v_assign (by decide +kernel) (ev_from (by k_extra "ve") (by k_extra "ve") (by k_extra "zz") (fun _ _ _ => rfl) (fun _ _ _ => rfl)) rfl
theorem d4 (hb : b.length ≤ 40) {n : Nat} : StS PV w A h₀ (lvEnv w.params L cd) (("a", .str c) :: ("pre", .int (n : Int)) :: s0 a b mx) [] (lvSt w.params 4) (("b", .str (b.drop n)) :: ("a", .str c) :: ("pre", .int (n : Int)) :: s0 a b mx) [] := by
  conv in lvSt _ _ => whnf
  exact v_assign (by decide +kernel) (ev_from (by k_extra "ve") (by k_extra "ve") (by k_extra "zz") (fun _ _ _ => rfl) (fun _ _ _ => rfl)) rfl
theorem d5 {σ : List (Str × VD)} : StS PV w A h₀ (lvEnv w.params L cd) σ [] (lvSt w.params 5) (("post", .int 0) :: σ) [] := by
  conv in lvSt _ _ => whnf
  exact v_assign (by decide +kernel) ev_int rfl
theorem t_post {k1 k2 k3 k4 : Nat} {p p1 p2 p3 p4 p5 p6 q1 q2 q3 q4 q5 q6 r1 r2 r3 r4 r5 r6 r7 r8 r9 r10 r11 : Pos} (ha : a.length ≤ 40) (hb : b.length ≤ 40) (i : Nat) : EvT PV w A h₀ (lvEnv w.params L cd) (("post", .int (-(i : Int))) :: s0 a b mx) []
    (.BoolOp .And [.Subscript (.Name "a" p1) (.Slice none (some (.BoolOp .Or [.Name "post" p2, .Constant .none k1 p3] p4)) none p5) p6, .Subscript (.Name "b" q1) (.Slice none (some (.BoolOp .Or [.Name "post" q2, .Constant .none k2 q3] q4)) none q5) q6,
      .Compare (.Subscript (.Name "a" r1) (.BinOp (.Name "post" r2) .Sub (.Constant (.int 1) k3 r3) r4) r5) [.Eq] [.Subscript (.Name "b" r6) (.BinOp (.Name "post" r7) .Sub (.Constant (.int 1) k4 r8) r9) r10] r11] p)
    (decide (0 < (a.take (a.length - i)).length) && (decide (0 < (b.take (b.length - i)).length) && ([a.reverse.getD i 0] == [b.reverse.getD i 0]))) := by
  refine et_and3 (et_str (ev_upto (by k_extra "ve") (by k_extra "ve") (by k_extra "zz") (fun _ _ _ => rfl) (fun _ _ _ => rfl)) ?z1 rfl) (fun _ => et_str (ev_upto (by k_extra "ve") (by k_extra "ve") (by k_extra "zz") (fun _ _ _ => rfl) (fun _ _ _ => rfl)) ?z2 rfl)
      (fun h1 h2 => et_cmp (ev_nthR (l := a) (k := i) rfl (by k_extra "ve") (ev_bin (by k_extra "ve") ev_int o_sub) ?z3 (by k_extra "zz") (fun _ _ _ => rfl) (fun _ _ _ => rfl)) (ev_nthR (l := b) (k := i) rfl (by k_extra "ve") (ev_bin (by k_extra "ve") ev_int o_sub) ?z4 (by k_extra "zz") (fun _ _ _ => rfl) (fun _ _ _ => rfl)) c_eqs rfl)
  case z1 => rw [List.length_take]; k_extra "zz"
  case z2 => rw [List.length_take]; k_extra "zz"
  case z3 => rw [decide_eq_true_eq, List.length_take] at h1; k_extra "zz"
  case z4 => rw [decide_eq_true_eq, List.length_take] at h2; k_extra "zz"
theorem post_in {i : Nat} (h : i < share a.reverse b.reverse) : (decide (0 < (a.take (a.length - i)).length) && (decide (0 < (b.take (b.length - i)).length) && ([a.reverse.getD i 0] == [b.reverse.getD i 0]))) = true := by
  obtain ⟨h1, h2, h3⟩ := share_in h
  rw [List.length_reverse] at h1 h2
  rw [List.length_take, List.length_take, h3, Bool.and_eq_true, Bool.and_eq_true, decide_eq_true_eq, decide_eq_true_eq]
  exact ⟨by k_extra "zz", by k_extra "zz", beq_self_eq_true _⟩
theorem post_out : (decide (0 < (a.take (a.length - share a.reverse b.reverse)).length) && (decide (0 < (b.take (b.length - share a.reverse b.reverse)).length) && ([a.reverse.getD (share a.reverse b.reverse) 0] == [b.reverse.getD (share a.reverse b.reverse) 0]))) = false := by
  rw [List.length_take, List.length_take]
  by_cases h1 : share a.reverse b.reverse < a.length
  · by_cases h2 : share a.reverse b.reverse < b.length
    · rw [show ([a.reverse.getD (share a.reverse b.reverse) 0] == [b.reverse.getD (share a.reverse b.reverse) 0]) = false by simpa using share_out (by rw [List.length_reverse]; exact h1) (by rw [List.length_reverse]; exact h2), Bool.and_false, Bool.and_false]
    · rw [show decide (0 < min (b.length - share a.reverse b.reverse) b.length) = false by rw [decide_eq_false_iff_not]; k_extra "zz", Bool.false_and, Bool.and_false]
  · rw [show decide (0 < min (a.length - share a.reverse b.reverse) a.length) = false by rw [decide_eq_false_iff_not]; k_extra "zz", Bool.false_and]
theorem d6 (ha : a.length ≤ 40) (hb : b.length ≤ 40) : StS PV w A h₀ (lvEnv w.params L cd) (("post", .int (-((0 : Nat) : Int))) :: s0 a b mx) [] (lvSt w.params 6) (("post", .int (-(share a.reverse b.reverse : Int))) :: s0 a b mx) [] := by
  conv in lvSt _ _ => whnf
  refine st_while (n := share a.reverse b.reverse) (fun i => ("post", .int (-(i : Int))) :: s0 a b mx) (fun i hi => et_eq (t_post ha hb i) (post_in hi)) (et_eq (t_post ha hb _) post_out) (fun i hi => ?_)
  rw [show -((i + 1 : Nat) : Int) = -(i : Int) - 1 by k_extra "zz"]
  exact ex_sub (ex_one (st_aug (by k_extra "vlk") ev_int o_isub (lv_kind w.params) (vloc_of w.params L cd (by decide +kernel)).1 (vplain w.params L cd))) Sub.over .rfl'
theorem d7 (ha : a.length ≤ 40) {n : Nat} : StS PV w A h₀ (lvEnv w.params L cd) (("post", .int (-(n : Int))) :: s0 a b mx) [] (lvSt w.params 7) (("a", .str (a.take (a.length - n))) :: ("post", .int (-(n : Int))) :: s0 a b mx) [] := by
  conv in lvSt _ _ => whnf
  exact v_assign (by decide +kernel) (ev_upto (by k_extra "ve") (by k_extra "ve") (by k_extra "zz") (fun _ _ _ => rfl) (fun _ _ _ => rfl)) rfl
theorem d8 (hb : b.length ≤ 40) {n : Nat} : StS PV w A h₀ (lvEnv w.params L cd) (("a", .str c) :: ("post", .int (-(n : Int))) :: s0 a b mx) [] (lvSt w.params 8) (("b", .str (b.take (b.length - n))) :: ("a", .str c) :: ("post", .int (-(n : Int))) :: s0 a b mx) [] := by
  conv in lvSt _ _ => whnf
  exact v_assign (by decide +kernel) (ev_upto (by k_extra "ve") (by k_extra "ve") (by k_extra "zz") (fun _ _ _ => rfl) (fun _ _ _ => rfl)) rfl
theorem v_len {σ : List (Str × VD)} {l : List Nat} {x : Str} {p1 p2 pos : Pos} (G : VG w A h₀ L cd) (hx : x ∈ vlN) (hd : σ.lookup x = some (.str l)) (hl : l.length ≤ 40) : EvS PV w A h₀ (lvEnv w.params L cd) σ [] (.Call (.Name "len" p1) [.Name x p2] [] pos) (.int (l.length : Int)) :=
  ev_call (vm_len G) (cw_builtin rfl rfl) (el_cons (v_name hx hd) el_nil rfl) (cl_lens (by k_extra "zz")) rfl
theorem d9 (G : VG w A h₀ L cd) (ha : a.length ≤ 40) (hb : b.length ≤ 40) (h : a.length = 0 ∨ b.length = 0 → ans = 2 * ((a.length : Int) + b.length)) : HoS PV w A h₀ (lvEnv w.params L cd) s₀ ans (AS h₀ (lvEnv w.params L cd) s₀ (s0 a b mx) ex ro) (lvSt w.params 9) (fun s => ¬ (a.length = 0 ∨ b.length = 0) ∧ AS h₀ (lvEnv w.params L cd) s₀ (s0 a b mx) ex ro s) := by
  conv in lvSt _ _ => whnf
  refine ho_if (b := (!decide (0 < a.length) || !decide (0 < b.length))) (et_or (et_not (et_str (by k_extra "ve") (by k_extra "zz") rfl)) (fun _ => et_not (et_str (by k_extra "ve") (by k_extra "zz") rfl))) (fun hq => ?_) (fun hq => ?_)
  · rw [h (by rw [Bool.or_eq_true, Bool.not_eq_true', Bool.not_eq_true', decide_eq_false_iff_not, decide_eq_false_iff_not] at hq; k_extra "zz")]
    exact ho_cons (ho_ret (ev_bin (ve_move G) (ev_bin (v_len G (by decide +kernel) (by k_extra "vlk") ha) (v_len G (by decide +kernel) (by k_extra "vlk") hb) o_add) (o_mul (mul_tiny (by decide))))) ho_nil
  · exact ho_post ho_nil fun s S => ⟨by rw [Bool.or_eq_false_iff, Bool.not_eq_false', Bool.not_eq_false', decide_eq_true_eq, decide_eq_true_eq] at hq; k_extra "zz", S⟩
theorem d10 (G : VG w A h₀ L cd) (ha : a.length ≤ 40) (hb : b.length ≤ 40) : StS PV w A h₀ (lvEnv w.params L cd) (s0 a b mx) [] (lvSt w.params 10) (s0 a b mx) [] := by
  conv in lvSt _ _ => whnf
  exact st_skip (et_or (et_cmp (v_len G (by decide +kernel) (by k_extra "vlk") ha) (ve_max G) c_gt rfl) (fun _ => et_cmp (v_len G (by decide +kernel) (by k_extra "vlk") hb) (ve_max G) c_gt rfl)) (by rw [Bool.or_eq_false_iff, decide_eq_false_iff_not, decide_eq_false_iff_not]; k_extra "zz")
theorem d11 (G : VG w A h₀ L cd) (ha : a.length ≤ 40) (hb : b.length ≤ 40) : StS PV w A h₀ (lvEnv w.params L cd) (s0 a b mx) [] (lvSt w.params 11) (s0 (if b.length < a.length then b else a) (if b.length < a.length then a else b) mx) [] := by
  conv in lvSt _ _ => whnf
  refine st_if (b := decide ((b.length : Int) < a.length)) (et_cmp (v_len G (by decide +kernel) (by k_extra "vlk") hb) (v_len G (by decide +kernel) (by k_extra "vlk") ha) c_lt rfl) (fun hq => ?_) (fun hq => ?_)
  · have : b.length < a.length := by simpa using hq
    rw [if_pos this, if_pos this]
    refine ex_sub (ex_one (st_two (by k_extra "ve") (by k_extra "ve") G.hh rfl (vloc_of w.params L cd (by decide +kernel)).1 (vloc_of w.params L cd (by decide +kernel)).1 (vplain w.params L cd) rfl rfl)) ?_ .rfl'
    exact .of ⟨by k_extra "vlk", by k_extra "vlk", by k_extra "vlk", trivial⟩
  · have : ¬ b.length < a.length := by simpa using hq
    rw [if_neg this, if_neg this]
    exact ex_nil
theorem d12 (G : VG w A h₀ L cd) (ha : c.length ≤ 40) (hb : d.length ≤ 40) (h : mx < ((d.length : Int) - c.length) * 2 → ans = mx + 1) : HoS PV w A h₀ (lvEnv w.params L cd) s₀ ans (AS h₀ (lvEnv w.params L cd) s₀ (s0 c d mx) ex ro) (lvSt w.params 12) (fun s => ¬ (mx < ((d.length : Int) - c.length) * 2) ∧ AS h₀ (lvEnv w.params L cd) s₀ (s0 c d mx) ex ro s) := by
  conv in lvSt _ _ => whnf
  refine ho_if (b := decide (mx < ((d.length : Int) - c.length) * 2)) (et_cmp (ev_bin (ev_bin (v_len G (by decide +kernel) (by k_extra "vlk") hb) (v_len G (by decide +kernel) (by k_extra "vlk") ha) o_sub) (ve_move G) (o_mul (mul_tiny (by k_extra "zz")))) (by k_extra "ve") c_gt rfl) (fun hq => ?_) (fun hq => ?_)
  · rw [h (by simpa using hq)]
    exact ho_cons (ho_ret (ev_bin (by k_extra "ve") ev_int o_add)) ho_nil
  · exact ho_post ho_nil fun s S => ⟨by simpa using hq, S⟩
end
end

section
open PySem PySem.W PyProof.Rows PySem.Calls PySem.Spec
set_option maxRecDepth 100000
set_option maxHeartbeats 4000000
theorem reg_lvg : True := by
  k_with_none
  k_with "zz" => (first | assumption | exact Nat.le_trans (by assumption) (by decide) | exact Nat.lt_of_le_of_lt (by assumption) (by decide) | exact Nat.le_trans (Nat.sub_le _ _) (Nat.le_trans (by assumption) (by decide)) | exact Nat.le_trans (Nat.min_le_right _ _) (Nat.le_trans (by assumption) (by decide)) | exact Nat.sub_pos_of_lt (by assumption) | exact Nat.lt_of_sub_pos (by assumption) | exact mn_pos (by assumption) | exact mn_lt (by assumption) | exact mn_no (by assumption) | exact sb_no (by assumption) | exact nm1 | exact sub1 (by assumption) | exact cp1 (by assumption) | exact cpp (by assumption) | exact cpn (by assumption) | exact cpa (by assumption) | exact sz1 (by assumption) | exact sz2 (by assumption) | exact sz3 (by assumption) | exact sz5 (by assumption) (by decide) | exact na3 (by assumption) (by assumption) | exact na4 (by assumption) (by assumption) | exact na5 (by assumption) (by assumption) | exact fl1 (by assumption) (by decide) | lia | omega)
  k_with "zr" => ((repeat (with_reducible refine rm_deeper ?_)); exact rm_top (by assumption) (by decide))
  k_with "zu" => ((repeat (first | with_reducible refine um_deeper ?_ | with_reducible refine um_in1 ?_)); exact rm_top (by assumption) (by decide))
  k_with "zn" => (refine neN ?_; (try dsimp only); first | exact Nat.ne_of_lt (Nat.add_lt_add_left (by decide) _) | exact Nat.ne_of_gt (Nat.add_lt_add_left (by decide) _) | (refine Nat.ne_of_lt ?_; (try refine lt154 ?_); (repeat (first | assumption | exact ltA (by assumption) (by decide) | refine Nat.lt_trans (by assumption) ?_ | refine Nat.lt_trans (ltA (by assumption) (by decide)) ?_)); done) | (refine Nat.ne_of_gt ?_; (try refine lt154 ?_); (repeat (first | assumption | exact ltA (by assumption) (by decide) | refine Nat.lt_trans (by assumption) ?_ | refine Nat.lt_trans (ltA (by assumption) (by decide)) ?_)); done) | (first | lia | omega))
  k_with "vlk" => first
    | with_reducible exact lk_head
    | ((with_reducible apply lk_tail); (focus kernel_rfl); k_extra "vlk")
  k_with "ve" => first
    | with_reducible exact ev_int
    | ((with_reducible apply v_name); (focus decide +kernel); k_extra "vlk")
  trivial
noncomputable def lvB (P : Params) (i : Nat) : Stmt := match lvSt P 15 with
  | .For _ _ body _ _ => match body[i]? with
    | some st => st
    | none => .Pass ⟨0, 0, 0, 0⟩
  | st => st
noncomputable def lvC (P : Params) (i : Nat) : Stmt := match lvB P 3 with
  | .For _ _ body _ _ => match body[i]? with
    | some st => st
    | none => .Pass ⟨0, 0, 0, 0⟩
  | st => st
def stR (dist cst ri res : Int) : Int := if dist + cst < (if ri < res then ri else res) + 2 then dist + cst else (if ri < res then ri else res) + 2
abbrev sI (c d : List Nat) (mx : Int) (R : Addr) (j x : Nat) (dist res mn : Int) : List (Str × VD) := [("minimum", .int mn), ("result", .int res), ("distance", .int dist), ("bchar", .str [x]), ("bindex", .int (j : Int)), ("row", .ref R), ("a", .str c), ("b", .str d), ("max_cost", .int mx)]
theorem Flat.cons {σ : List (Str × VD)} {x : Str} {d : VD} (h : Plain d) (k : Flat σ) : Flat ((x, d) :: σ) := fun y e q => by
  rw [List.lookup_cons] at q
  split at q
  · cases q; exact h
  · exact k y e q
theorem Flat.nil : Flat [] := fun _ _ q => nomatch q
theorem plain_ref {a : Addr} : Plain (.ref a) := fun _ _ _ h => h
theorem flat_sI {c d : List Nat} {mx : Int} {R : Addr} {j x : Nat} {dist res mn : Int} : Flat (sI c d mx R j x dist res mn) :=
  .cons plain_int (.cons plain_int (.cons plain_int (.cons plain_str (.cons plain_int (.cons plain_ref (.cons plain_str (.cons plain_str (.cons plain_int .nil))))))))
theorem cl_range3 {prog : Program} {w : World} {A : Around} {h₀ : Heap} {env : Env} {σ ks : List (Str × VD)} {a b c : Int} (hc : c ≠ 0) (hp : (c.natAbs.log2 < 9000)) : CalR prog w A h₀ env σ ks (.type "range") [.int a, .int b, .int c] fun h v => ∃ r t u x, v = .ref r ∧ IsRange h r a b c t u x := .mk fun vs s Q E S o h => by
  obtain ⟨v, u, x, rfl, ⟨t, rfl⟩, ⟨t', rfl⟩, ⟨t'', rfl⟩⟩ := oks3 o
  obtain ⟨m, F, _⟩ := S.fr
  exact range3_rows F nil_news hc (fun h' tk t1 u1 v1 hr _ _ hk => h _ _ (Kp.of hk) ⟨_, _, _, _, rfl, hr⟩) (.inl (PyProof.noPylong_of_log2 hp))
section
variable {w : World} {A : Around} {h₀ : Heap} {L : Addr} {cd : Value} {s₀ : Shared} {a b c d : List Nat} {mx : Int} {ex : List (Addr × Obj)} {ro : List (Addr × List Int)} {ans : Int} {P' : Shared → Prop} {R : Addr} {j x i : Nat} {dist res mn : Int} {row : List Int} {σ : List (Str × VD)}
theorem keep_cost (P : Params) : keepIn (hd.heap_1 P) (.ref 196) = true := by kernel_rfl
theorem e0 (G : VG w A h₀ L cd) (hc : c.length ≤ 40) (hi : i < c.length) (hx : x < 128) (hy : c.getD i 0 < 128) : StS PV w A h₀ (lvEnv w.params L cd) (("index", .int (i : Int)) :: sI c d mx R j x dist res mn) [] (lvC w.params 0) (("substitute", .int (dist + (cost x (c.getD i 0) : Int))) :: ("index", .int (i : Int)) :: sI c d mx R j x dist res mn) [] := by
  conv in lvC _ _ => whnf
  exact v_assign (by decide +kernel) (ev_bin (by k_extra "ve") (ev_call (vm_cost G) (cw_fn (f := .ref 196) G.hx (keep_cost w.params) rfl rfl) (el_cons (d := .str [x]) (by k_extra "ve") (el_cons (ev_nth (l := c) (i := i) (by k_extra "ve") (by k_extra "ve") hi (by k_extra "zz") (fun _ _ _ => rfl) (fun _ _ _ => rfl)) el_nil rfl) rfl) (G.co _ _ _ hx hy) rfl) o_add) rfl
theorem e1 (hi : i < row.length) (hk : i < 1000) (hr : (R, row) ∈ ro) {cs : Int} : HoS PV w A h₀ (lvEnv w.params L cd) s₀ ans (AS h₀ (lvEnv w.params L cd) s₀ (("substitute", .int cs) :: ("index", .int (i : Int)) :: sI c d mx R j x dist res mn) ex ro) (lvC w.params 1)
    (AS h₀ (lvEnv w.params L cd) s₀ (("distance", .int (row.getD i 0)) :: ("substitute", .int cs) :: ("index", .int (i : Int)) :: sI c d mx R j x dist res mn) ex ro) := by
  conv in lvC _ _ => whnf
  exact ho_get (by k_extra "ve") (by k_extra "ve") hr (by k_extra "zz") (by rw [List.getD_eq_getElem?_getD, List.getElem?_eq_getElem hi]; rfl) (fun _ _ => rfl) (fun _ _ => rfl) (v_sto (by decide +kernel)) rfl
theorem e2 (G : VG w A h₀ L cd) {cs ri : Int} : StS PV w A h₀ (lvEnv w.params L cd) (("distance", .int ri) :: ("substitute", .int cs) :: ("index", .int (i : Int)) :: sI c d mx R j x dist res mn) [] (lvC w.params 2)
    (("insert_delete", .int ((if ri < res then ri else res) + 2)) :: ("distance", .int ri) :: ("substitute", .int cs) :: ("index", .int (i : Int)) :: sI c d mx R j x dist res mn) [] := by
  conv in lvC _ _ => whnf
  exact v_assign (by decide +kernel) (ev_bin (ev_call (vm_min G) (cw_builtin rfl rfl) (el_cons (d := .int res) (by k_extra "ve") (el_cons (d := .int ri) (by k_extra "ve") el_nil rfl) rfl) (cl_min G.hh) rfl) (ve_move G) o_add) rfl
theorem e3 (G : VG w A h₀ L cd) {cs ri iv : Int} : StS PV w A h₀ (lvEnv w.params L cd) (("insert_delete", .int iv) :: ("distance", .int ri) :: ("substitute", .int cs) :: ("index", .int (i : Int)) :: sI c d mx R j x dist res mn) [] (lvC w.params 3)
    (("result", .int (if cs < iv then cs else iv)) :: ("insert_delete", .int iv) :: ("distance", .int ri) :: ("substitute", .int cs) :: ("index", .int (i : Int)) :: sI c d mx R j x dist res mn) [] := by
  conv in lvC _ _ => whnf
  exact v_assign (by decide +kernel) (ev_call (vm_min G) (cw_builtin rfl rfl) (el_cons (d := .int iv) (by k_extra "ve") (el_cons (d := .int cs) (by k_extra "ve") el_nil rfl) rfl) (cl_min G.hh) rfl) rfl
theorem e4 (hi : i < row.length) (hk : i < 1000) {cs ri iv r : Int} : HoS PV w A h₀ (lvEnv w.params L cd) s₀ ans (AS h₀ (lvEnv w.params L cd) s₀ (("result", .int r) :: ("insert_delete", .int iv) :: ("distance", .int ri) :: ("substitute", .int cs) :: ("index", .int (i : Int)) :: sI c d mx R j x dist res mn) ex [(R, row)]) (lvC w.params 4)
    (AS h₀ (lvEnv w.params L cd) s₀ (("result", .int r) :: ("insert_delete", .int iv) :: ("distance", .int ri) :: ("substitute", .int cs) :: ("index", .int (i : Int)) :: sI c d mx R j x dist res mn) ex [(R, row.set i r)]) := by
  conv in lvC _ _ => whnf
  exact ho_put (by k_extra "ve") (by k_extra "ve") (by k_extra "ve") hi (by k_extra "zz") (.cons plain_int (.cons plain_int (.cons plain_int (.cons plain_int (.cons plain_int flat_sI))))) rfl
theorem e5 {cs ri iv r : Int} : StS PV w A h₀ (lvEnv w.params L cd) (("result", .int r) :: ("insert_delete", .int iv) :: ("distance", .int ri) :: ("substitute", .int cs) :: ("index", .int (i : Int)) :: sI c d mx R j x dist res mn) [] (lvC w.params 5) (sI c d mx R j x ri r (if r < mn then r else mn)) [] := by
  conv in lvC _ _ => whnf
  refine st_if (b := decide (r < mn)) (et_cmp (by k_extra "ve") (by k_extra "ve") c_lt rfl) (fun hq => ?_) (fun hq => ?_)
  · rw [if_pos (by simpa using hq)]
    refine ex_sub (ex_one (v_assign (d := .int r) (by decide +kernel) (by k_extra "ve") rfl)) ?_ .rfl'
    exact .of ⟨by k_extra "vlk", by k_extra "vlk", by k_extra "vlk", by k_extra "vlk", by k_extra "vlk", by k_extra "vlk", by k_extra "vlk", by k_extra "vlk", by k_extra "vlk", trivial⟩
  · rw [if_neg (by simpa using hq)]
    refine ex_sub ex_nil ?_ .rfl'
    exact .of ⟨by k_extra "vlk", by k_extra "vlk", by k_extra "vlk", by k_extra "vlk", by k_extra "vlk", by k_extra "vlk", by k_extra "vlk", by k_extra "vlk", by k_extra "vlk", trivial⟩
theorem in_body (G : VG w A h₀ L cd) (hc : c.length ≤ 40) (hi : i < c.length) (hl : row.length = c.length) (hx : x < 128) (hy : c.getD i 0 < 128) : HoX PV w A h₀ (lvEnv w.params L cd) s₀ ans (AS h₀ (lvEnv w.params L cd) s₀ (("index", .int (i : Int)) :: sI c d mx R j x dist res mn) ex [(R, row)])
    [lvC w.params 0, lvC w.params 1, lvC w.params 2, lvC w.params 3, lvC w.params 4, lvC w.params 5]
    (AS h₀ (lvEnv w.params L cd) s₀ (sI c d mx R j x (row.getD i 0) (stR dist (cost x (c.getD i 0)) (row.getD i 0) res) (if stR dist (cost x (c.getD i 0)) (row.getD i 0) res < mn then stR dist (cost x (c.getD i 0)) (row.getD i 0) res else mn)) ex [(R, row.set i (stR dist (cost x (c.getD i 0)) (row.getD i 0) res))]) :=
  ho_cons (ho_st (e0 G hc hi hx hy)) (ho_cons (e1 (by k_extra "zz") (by k_extra "zz") (.head _)) (ho_cons (ho_st (e2 G)) (ho_cons (ho_st (e3 G)) (ho_cons (e4 (by k_extra "zz") (by k_extra "zz")) (ho_cons (ho_st e5) ho_nil)))))
theorem innerD_len (x : Nat) (c : List Nat) (q : RowSt) : ∀ i, (innerD x c q i).row.length = q.row.length
  | 0 => rfl
  | i + 1 => (List.length_set ..).trans (innerD_len x c q i)
theorem c_get {c : List Nat} (hc : ∀ x ∈ c, x < 128) (hi : i < c.length) : c.getD i 0 < 128 := by
  rw [List.getD_eq_getElem?_getD, List.getElem?_eq_getElem hi]
  exact hc _ (List.getElem_mem hi)
theorem b3 (G : VG w A h₀ L cd) (hc : c.length ≤ 40) (hcc : ∀ x ∈ c, x < 128) (hl : row.length = c.length) (hx : x < 128) : HoS PV w A h₀ (lvEnv w.params L cd) s₀ ans (AS h₀ (lvEnv w.params L cd) s₀ (sI c d mx R j x dist res mn) ex [(R, row)]) (lvB w.params 3)
    (fun s => True ∧ AS h₀ (lvEnv w.params L cd) s₀ (sI c d mx R j x (innerD x c ⟨dist, res, mn, row⟩ c.length).dist (innerD x c ⟨dist, res, mn, row⟩ c.length).res (innerD x c ⟨dist, res, mn, row⟩ c.length).mn) ex [(R, (innerD x c ⟨dist, res, mn, row⟩ c.length).row)] s) := by
  conv in lvB _ _ => whnf
  refine ho_for (n := c.length) (fun _ => True) (fun i => sI c d mx R j x (innerD x c ⟨dist, res, mn, row⟩ i).dist (innerD x c ⟨dist, res, mn, row⟩ i).res (innerD x c ⟨dist, res, mn, row⟩ i).mn) (fun i => ("index", .int (i : Int)) :: sI c d mx R j x (innerD x c ⟨dist, res, mn, row⟩ i).dist (innerD x c ⟨dist, res, mn, row⟩ i).res (innerD x c ⟨dist, res, mn, row⟩ i).mn)
    (fun i => [(R, (innerD x c ⟨dist, res, mn, row⟩ i).row)]) G.hh ?_ (by k_extra "zz") trivial (fun i _ => v_sto (by decide +kernel)) (fun i hi ex _ => ?_) (fun _ => rfl)
  · intro s Q E S h
    exact er_call (vm_range G) (cw_type rfl rfl) (el_cons (v_len G (by decide +kernel) (by k_extra "vlk") hc) el_nil rfl) cl_range1 rfl S h
  · exact ho_post (in_body (row := (innerD x c ⟨dist, res, mn, row⟩ i).row) G hc hi ((innerD_len ..).trans hl) hx (c_get hcc hi)) fun s S => ⟨trivial, S⟩
end
end

section
open PySem PySem.W PyProof.Rows PySem.Calls PySem.Spec
set_option maxRecDepth 100000
set_option maxHeartbeats 4000000
theorem reg_lvh : True := by
  k_with_none
  k_with "zz" => (first | assumption | exact Nat.le_trans (by assumption) (by decide) | exact Nat.lt_of_le_of_lt (by assumption) (by decide) | exact Nat.le_trans (Nat.sub_le _ _) (Nat.le_trans (by assumption) (by decide)) | exact Nat.le_trans (Nat.min_le_right _ _) (Nat.le_trans (by assumption) (by decide)) | exact Nat.sub_pos_of_lt (by assumption) | exact Nat.lt_of_sub_pos (by assumption) | exact mn_pos (by assumption) | exact mn_lt (by assumption) | exact mn_no (by assumption) | exact sb_no (by assumption) | exact nm1 | exact sub1 (by assumption) | exact cp1 (by assumption) | exact cpp (by assumption) | exact cpn (by assumption) | exact cpa (by assumption) | exact sz1 (by assumption) | exact sz2 (by assumption) | exact sz3 (by assumption) | exact sz5 (by assumption) (by decide) | exact na3 (by assumption) (by assumption) | exact na4 (by assumption) (by assumption) | exact na5 (by assumption) (by assumption) | exact fl1 (by assumption) (by decide) | lia | omega)
  k_with "zr" => ((repeat (with_reducible refine rm_deeper ?_)); exact rm_top (by assumption) (by decide))
  k_with "zu" => ((repeat (first | with_reducible refine um_deeper ?_ | with_reducible refine um_in1 ?_)); exact rm_top (by assumption) (by decide))
  k_with "zn" => (refine neN ?_; (try dsimp only); first | exact Nat.ne_of_lt (Nat.add_lt_add_left (by decide) _) | exact Nat.ne_of_gt (Nat.add_lt_add_left (by decide) _) | (refine Nat.ne_of_lt ?_; (try refine lt154 ?_); (repeat (first | assumption | exact ltA (by assumption) (by decide) | refine Nat.lt_trans (by assumption) ?_ | refine Nat.lt_trans (ltA (by assumption) (by decide)) ?_)); done) | (refine Nat.ne_of_gt ?_; (try refine lt154 ?_); (repeat (first | assumption | exact ltA (by assumption) (by decide) | refine Nat.lt_trans (by assumption) ?_ | refine Nat.lt_trans (ltA (by assumption) (by decide)) ?_)); done) | (first | lia | omega))
  k_with "vlk" => first
    | with_reducible exact lk_head
    | ((with_reducible apply lk_tail); (focus kernel_rfl); k_extra "vlk")
  k_with "ve" => first
    | with_reducible exact ev_int
    | ((with_reducible apply v_name); (focus decide +kernel); k_extra "vlk")
  trivial
section
variable {w : World} {A : Around} {h₀ : Heap} {L : Addr} {cd : Value} {s₀ : Shared} {a b c d : List Nat} {mx : Int} {ex : List (Addr × Obj)} {ro : List (Addr × List Int)} {ans : Int} {P' : Shared → Prop} {R : Addr} {j x i : Nat} {dist res mn : Int} {row : List Int} {σ : List (Str × VD)}
abbrev sJ (c d : List Nat) (mx : Int) (R : Addr) (res : Int) : List (Str × VD) := [("result", .int res), ("row", .ref R), ("a", .str c), ("b", .str d), ("max_cost", .int mx)]
theorem b0 (hd : d.length ≤ 40) (hj : j < d.length) : StS PV w A h₀ (lvEnv w.params L cd) (("bindex", .int (j : Int)) :: sJ c d mx R res) [] (lvB w.params 0) (("bchar", .str [d.getD j 0]) :: ("bindex", .int (j : Int)) :: sJ c d mx R res) [] := by
  conv in lvB _ _ => whnf
  exact v_assign (by decide +kernel) (ev_nth (l := d) (i := j) (by k_extra "ve") (by k_extra "ve") hj (by omega) (fun _ _ _ => rfl) (fun _ _ _ => rfl)) rfl
theorem b1 (G : VG w A h₀ L cd) (hj : j < 1000) : StS PV w A h₀ (lvEnv w.params L cd) (("bchar", .str [x]) :: ("bindex", .int (j : Int)) :: sJ c d mx R res) [] (lvB w.params 1) (("result", .int ((j : Int) * 2)) :: ("distance", .int ((j : Int) * 2)) :: ("bchar", .str [x]) :: ("bindex", .int (j : Int)) :: sJ c d mx R res) [] := by
  conv in lvB _ _ => whnf
  exact v_two (by decide +kernel) (by decide +kernel) (ev_bin (by k_extra "ve") (ve_move G) (o_mul (mul_tiny (by omega)))) rfl rfl
theorem b2 : StS PV w A h₀ (lvEnv w.params L cd) (("result", .int dist) :: ("distance", .int dist) :: ("bchar", .str [x]) :: ("bindex", .int (j : Int)) :: sJ c d mx R res) [] (lvB w.params 2) (sI c d mx R j x dist dist 9223372036854775807) [] := by
  conv in lvB _ _ => whnf
  refine st_sub (v_assign (by decide +kernel) ev_int rfl) ?_ .rfl'
  exact .of ⟨by k_extra "vlk", by k_extra "vlk", by k_extra "vlk", by k_extra "vlk", by k_extra "vlk", by k_extra "vlk", by k_extra "vlk", by k_extra "vlk", by k_extra "vlk", trivial⟩
theorem b4 (h : mx < mn → ans = mx + 1) : HoS PV w A h₀ (lvEnv w.params L cd) s₀ ans (AS h₀ (lvEnv w.params L cd) s₀ (sI c d mx R j x dist res mn) ex ro) (lvB w.params 4) (fun s => ¬ mx < mn ∧ AS h₀ (lvEnv w.params L cd) s₀ (sJ c d mx R res) ex ro s) := by
  conv in lvB _ _ => whnf
  refine ho_if (b := decide (mx < mn)) (et_cmp (by k_extra "ve") (by k_extra "ve") c_gt rfl) (fun hq => ?_) (fun hq => ?_)
  · rw [h (by simpa using hq)]
    exact ho_cons (ho_ret (ev_bin (by k_extra "ve") ev_int o_add)) ho_nil
  · refine ho_post ho_nil fun s S => ⟨by simpa using hq, S.sub (.of ⟨?_, ?_, ?_, ?_, ?_, trivial⟩)⟩
    all_goals k_extra "vlk"
/-- the rows' state after so many turns -/
def oq (c d : List Nat) (mx : Int) (j : Nat) : Int × List Int := (outerD c d mx j).getD (0, [])
theorem d15 (G : VG w A h₀ L cd) (hc : c.length ≤ 40) (hd : d.length ≤ 40) (hcc : ∀ x ∈ c, x < 128) (hcd : ∀ x ∈ d, x < 128) (h : outerD c d mx d.length = none → ans = mx + 1) :
    HoS PV w A h₀ (lvEnv w.params L cd) s₀ ans (AS h₀ (lvEnv w.params L cd) s₀ (sJ c d mx R 0) ex [(R, (List.range c.length).map fun i : Nat => 2 + 2 * (i : Int))]) (lvSt w.params 15)
      (fun s => (∃ res row, outerD c d mx d.length = some (res, row) ∧ row.length = c.length) ∧ AS h₀ (lvEnv w.params L cd) s₀ (sJ c d mx R (oq c d mx d.length).1) ex [(R, (oq c d mx d.length).2)] s) := by
  conv in lvSt _ _ => whnf
  refine ho_for (n := d.length) (fun j => ∃ res row, outerD c d mx j = some (res, row) ∧ row.length = c.length) (fun j => sJ c d mx R (oq c d mx j).1) (fun j => ("bindex", .int (j : Int)) :: sJ c d mx R (oq c d mx j).1) (fun j => [(R, (oq c d mx j).2)]) G.hh ?_ (by omega) ⟨_, _, rfl, by simp⟩ (fun i _ => v_sto (by decide +kernel)) (fun j hj ex hφ => ?_) (fun _ => rfl)
  · intro s Q E S h
    exact er_call (vm_range G) (cw_type rfl rfl) (el_cons (v_len G (by decide +kernel) (by k_extra "vlk") hd) el_nil rfl) cl_range1 rfl S h
  · obtain ⟨res, row, e, hl⟩ := hφ
    have eq : oq c d mx j = (res, row) := by unfold oq; rw [e]; rfl
    rw [eq]
    have hstep : outerD c d mx (j + 1) = if mx < (innerD (d.getD j 0) c ⟨(j : Int) * 2, (j : Int) * 2, 9223372036854775807, row⟩ c.length).mn then none else some ((innerD (d.getD j 0) c ⟨(j : Int) * 2, (j : Int) * 2, 9223372036854775807, row⟩ c.length).res, (innerD (d.getD j 0) c ⟨(j : Int) * 2, (j : Int) * 2, 9223372036854775807, row⟩ c.length).row) := by
      rw [outerD, e]
    refine (ho_cons (ho_st (b0 hd hj)) (ho_cons (ho_st (b1 G (by omega))) (ho_cons (ho_st b2) (ho_cons (b3 G hc hcc hl (c_get hcd hj)) (ho_and fun _ => ho_cons (b4 ?_) (ho_and fun hq => ?_))))) : HoX PV w A h₀ (lvEnv w.params L cd) s₀ ans _ [lvB w.params 0, lvB w.params 1, lvB w.params 2, lvB w.params 3, lvB w.params 4] _)
    · intro hq
      rw [if_pos hq] at hstep
      have e5 := outerD_none hstep (d.length - (j + 1))
      rw [show j + 1 + (d.length - (j + 1)) = d.length by omega] at e5
      exact h e5
    · rw [if_neg hq] at hstep
      have eq2 : oq c d mx (j + 1) = ((innerD (d.getD j 0) c ⟨(j : Int) * 2, (j : Int) * 2, 9223372036854775807, row⟩ c.length).res, (innerD (d.getD j 0) c ⟨(j : Int) * 2, (j : Int) * 2, 9223372036854775807, row⟩ c.length).row) := by unfold oq; rw [hstep]; rfl
      rw [eq2]
      exact ho_post ho_nil fun s S => ⟨⟨_, _, hstep, (innerD_len ..).trans hl⟩, S⟩
theorem d13 (G : VG w A h₀ L cd) (hc : c.length ≤ 40) : HoS PV w A h₀ (lvEnv w.params L cd) s₀ ans (AS h₀ (lvEnv w.params L cd) s₀ (s0 c d mx) ex []) (lvSt w.params 13)
    (fun s => ∃ R, AS h₀ (lvEnv w.params L cd) s₀ (("row", .ref R) :: s0 c d mx) ex [(R, (List.range c.length).map fun i : Nat => 2 + 2 * (i : Int))] s) := by
  conv in lvSt _ _ => whnf
  refine .mk ?_
  intro s Q E _ S h _
  refine wpAny_Assign_Name (Call_ ((vm_list G).out s _ _ S.sg (PyProof.Rows.callWith_type1 (args_cons (er_call (vm_range G) (cw_type rfl rfl) (el_cons (ve_move G) (el_cons (ev_bin (ve_move G) (ev_bin (v_len G (by decide +kernel) (by k_extra "vlk") hc) ev_int o_add) (o_mul (mul_tiny (by decide)))) (el_cons (ve_move G) el_nil rfl) rfl) rfl) (cl_range3 (by decide) (by decide +kernel)) rfl S.sg fun y s₁ k₁ R => args_nil ?_) rfl) rfl rfl)) rfl) rfl
  obtain ⟨r, t, u, x, rfl, hr⟩ := R
  have S1 := S.kp k₁
  refine call_list_range G.hh hr (rangeSmall_two c.length (by omega)) (rangeSize_two c.length) (by omega) fun h' tk acc n hk hD hI => ?_
  have S2 : AS h₀ (lvEnv w.params L cd) s₀ (s0 c d mx) ex [] { s₁ with heap := h', toks := tk } := S1.kp (Kp.of hk)
  have hD₀ : h₀.get? s₁.heap.objs.size = none := by
    obtain ⟨m, F, _⟩ := S1.sg.fr
    cases e : h₀.get? s₁.heap.objs.size with
    | none => rfl
    | some o => exact absurd (Heap.lt_size (F.keep _ _ e)) (Nat.lt_irrefl _)
  have hD' : h'.get? s₁.heap.objs.size = some (W.listOf (List.toArray acc.toList) n) := by
    rw [Array.toArray_toList]
    exact hD
  have hI' : IntsAre acc.toList ((List.range c.length).map fun i : Nat => 2 + 2 * (i : Int)) := by
    have := ints_of (a := 2) (c := 2) acc.toList c.length 0 (by rw [Array.length_toList]; exact hI.1) fun j v hj => hI.2 j v (by rw [← hj, Array.getElem?_toList])
    refine cast (congrArg _ (List.map_congr_left fun i _ => ?_)) this
    rw [Nat.add_zero, Int.mul_comm]
  have S3 : AS h₀ (lvEnv w.params L cd) s₀ (s0 c d mx) ex [(s₁.heap.objs.size, (List.range c.length).map fun i : Nat => 2 + 2 * (i : Int))] { s₁ with heap := h', toks := tk } :=
    ⟨S2.sg, S2.it, fun p hp => by rcases List.mem_singleton.mp hp with rfl; exact ⟨hD₀, acc.toList, n, hD', hI'⟩, S2.sm⟩
  exact (v_sto (x := "row") (d := .ref s₁.heap.objs.size) (by decide +kernel)).out _ _ _ _ S3.sg rfl fun s₃ m₃ S₃ => h s₃ ⟨_, S3.mv m₃ S₃⟩
theorem d14 : StS PV w A h₀ (lvEnv w.params L cd) σ [] (lvSt w.params 14) (("result", .int 0) :: σ) [] := by
  conv in lvSt _ _ => whnf
  exact v_assign (by decide +kernel) ev_int rfl
theorem d16 : HoS PV w A h₀ (lvEnv w.params L cd) s₀ ans (AS h₀ (lvEnv w.params L cd) s₀ (sJ c d mx R ans) ex ro) (lvSt w.params 16) P' := by
  conv in lvSt _ _ => whnf
  exact ho_ret (by k_extra "ve")
theorem lv_e (G : VG w A h₀ L cd) (hc : c.length ≤ 40) (hd : d.length ≤ 40) (hcc : ∀ x ∈ c, x < 128) (hcd : ∀ x ∈ d, x < 128) : HoX PV w A h₀ (lvEnv w.params L cd) s₀ (levE c d mx) (AS h₀ (lvEnv w.params L cd) s₀ (s0 c d mx) ex [])
    [lvSt w.params 12, lvSt w.params 13, lvSt w.params 14, lvSt w.params 15, lvSt w.params 16] (fun _ => False) := by
  with_reducible refine ho_cons (d12 G hc hd ?i9) (ho_and fun hn => ?_)
  case i9 => exact fun h => if_pos h
  have e : levE c d mx = match outerD c d mx d.length with | none => (mx : Int) + 1 | some q => q.1 := if_neg hn
  with_reducible refine ho_cons (d13 G hc) (ho_ex fun R => ho_cons (ho_st d14) (ho_cons (d15 G hc hd hcc hcd fun h => ?_) (ho_and fun hq => ?_)))
  · rw [e, h]
  · obtain ⟨res, row, hs, _⟩ := hq
    have e2 : levE c d mx = (oq c d mx d.length).1 := by unfold oq; rw [e, hs]; rfl
    rw [← e2]
    with_reducible exact ho_cons d16 ho_nil
theorem lv_c (G : VG w A h₀ L cd) (ha : a.length ≤ 40) (hb : b.length ≤ 40) (hca : ∀ x ∈ a, x < 128) (hcb : ∀ x ∈ b, x < 128) : HoX PV w A h₀ (lvEnv w.params L cd) s₀ (levC a b mx) (AS h₀ (lvEnv w.params L cd) s₀ (s0 a b mx) ex [])
    [lvSt w.params 9, lvSt w.params 10, lvSt w.params 11, lvSt w.params 12, lvSt w.params 13, lvSt w.params 14, lvSt w.params 15, lvSt w.params 16] (fun _ => False) := by
  with_reducible refine ho_cons (d9 G ha hb ?i9) (ho_and fun hn => ho_cons (ho_st (d10 G ha hb)) (ho_cons (ho_st (d11 G ha hb)) ?_))
  case i9 => exact fun h => if_pos h
  have e : levC a b mx = if b.length < a.length then levE b a mx else levE a b mx := if_neg hn
  rw [e]
  by_cases h : b.length < a.length
  · rw [if_pos h, if_pos h, if_pos h]
    with_reducible exact lv_e G hb ha hcb hca
  · rw [if_neg h, if_neg h, if_neg h]
    with_reducible exact lv_e G ha hb hca hcb
theorem lv_b (G : VG w A h₀ L cd) (ha : a.length ≤ 40) (hb : b.length ≤ 40) (hca : ∀ x ∈ a, x < 128) (hcb : ∀ x ∈ b, x < 128) : HoX PV w A h₀ (lvEnv w.params L cd) s₀ (levB a b mx) (AS h₀ (lvEnv w.params L cd) s₀ (s0 a b mx) ex [])
    [lvSt w.params 5, lvSt w.params 6, lvSt w.params 7, lvSt w.params 8, lvSt w.params 9, lvSt w.params 10, lvSt w.params 11, lvSt w.params 12, lvSt w.params 13, lvSt w.params 14, lvSt w.params 15, lvSt w.params 16] (fun _ => False) := by
  with_reducible refine ho_cons (ho_st d5) (ho_cons (ho_st (d6 ha hb)) (ho_cons (ho_st (d7 ha)) (ho_cons (ho_st (d8 hb)) ?_)))
  refine ho_pre (lv_c G (by rw [List.length_take]; omega) (by rw [List.length_take]; omega) (fun c hc => hca c (List.mem_of_mem_take hc)) (fun c hc => hcb c (List.mem_of_mem_take hc))) fun s S => S.sub (.of ⟨?_, ?_, ?_, trivial⟩)
  all_goals k_extra "vlk"
theorem lv_d (G : VG w A h₀ L cd) (ha : a.length ≤ 40) (hb : b.length ≤ 40) (hca : ∀ x ∈ a, x < 128) (hcb : ∀ x ∈ b, x < 128) : HoX PV w A h₀ (lvEnv w.params L cd) s₀ (levD a b mx) (AS h₀ (lvEnv w.params L cd) s₀ (s0 a b mx) ex [])
    [lvSt w.params 0, lvSt w.params 1, lvSt w.params 2, lvSt w.params 3, lvSt w.params 4, lvSt w.params 5, lvSt w.params 6, lvSt w.params 7, lvSt w.params 8, lvSt w.params 9, lvSt w.params 10, lvSt w.params 11, lvSt w.params 12, lvSt w.params 13, lvSt w.params 14, lvSt w.params 15, lvSt w.params 16] (fun _ => False) := by
  with_reducible refine ho_cons (d0 ?i9) (ho_and fun hn => ho_cons (ho_st d1) (ho_cons (ho_st (d2 ha hb)) (ho_cons (ho_st (d34 ha)) (ho_cons (ho_st (d4 hb)) ?_))))
  case i9 => exact fun h => if_pos h
  have e : levD a b mx = levB (a.drop (share a b)) (b.drop (share a b)) mx := if_neg hn
  rw [e]
  refine ho_pre (lv_b G (by rw [List.length_drop]; omega) (by rw [List.length_drop]; omega) (fun c hc => hca c (List.mem_of_mem_drop hc)) (fun c hc => hcb c (List.mem_of_mem_drop hc))) fun s S => S.sub (.of ⟨?_, ?_, ?_, trivial⟩)
  all_goals k_extra "vlk"
end
end

section
open PySem PySem.W PyProof.Rows PySem.Calls PySem.Spec
set_option maxRecDepth 100000
set_option maxHeartbeats 4000000
open Builtin Builtin.Str
theorem lv_body (P : Params) : lvBody P = [lvSt P 0, lvSt P 1, lvSt P 2, lvSt P 3, lvSt P 4, lvSt P 5, lvSt P 6, lvSt P 7, lvSt P 8, lvSt P 9, lvSt P 10, lvSt P 11, lvSt P 12, lvSt P 13, lvSt P 14, lvSt P 15, lvSt P 16] := by kernel_rfl
theorem lk3 {x n1 n2 n3 : Str} {d d1 d2 d3 : VD} {v1 v2 v3 : Value} {h : Heap} (e : [(n1, d1), (n2, d2), (n3, d3)].lookup x = some d) (o1 : ok h d1 v1) (o2 : ok h d2 v2) (o3 : ok h d3 v3) (h12 : (n1 == n2) = false) (h13 : (n1 == n3) = false) (h23 : (n2 == n3) = false) :
    ∃ v, [(n3, v3), (n2, v2), (n1, v1)].lookup x = some v ∧ ok h d v := by
  rw [List.lookup_cons] at e
  split at e
  · rename_i q
    have : x = n1 := by simpa using q
    subst this
    cases e
    exact ⟨v1, by simp [List.lookup_cons, h12, h13], o1⟩
  · rw [List.lookup_cons] at e
    split at e
    · rename_i q
      have : x = n2 := by simpa using q
      subst this
      cases e
      exact ⟨v2, by simp [List.lookup_cons, h23], o2⟩
    · rw [List.lookup_cons] at e
      split at e
      · rename_i q
        have : x = n3 := by simpa using q
        subst this
        cases e
        exact ⟨v3, by simp [List.lookup_cons], o3⟩
      · cases e
theorem lev (w : World) {E Q : Value → Shared → Prop} {s : Shared} {A₀ : Around} {base h₀ : Heap} {outer : List Env} {L : Addr} {m mg mb : Str → Option Value} {p : Program} {loose : List Str} {mean : ExcName → Option Value}
    {dp un : Nat} {gd : Option (List Code)} {cn : Str} {nm : List (Str × NameKind)} {gg co : Bool} {more : List (Str × Const)} {a : Addr} {ccd : Value} {cl : List (Str × Addr)} {la lb : List Nat} {mx : Nat} {t u v : Tok}
    (B : Below A₀ base outer h₀) (F : Fr h₀ L s.heap m) (X₀ : (hd.heap_1 w.params).In h₀) (Tp : Top p loose mean mg mb h₀)
    (hd1 : dp + 12 < recursionLimit) (hu : un + 80 < cLine) (hla : la.length ≤ 40) (hlb : lb.length ≤ 40) (hca : ∀ c ∈ la, c < 128) (hcb : ∀ c ∈ lb, c < 128)
    (hQ : ∀ h' tk' t', (∀ b o, s.heap.get? b = some o → h'.get? b = some o) → Q (.int (levD la lb mx) t') { s with heap := h', toks := tk' }) :
    wpAny (model PySem.Challenge.rw_xl0020_01.row.prog w) (ktrTop dp un gd cn ⟨.function, nm, gg, co, more⟩ L a ccd cl outer) (call (.ref 203) [.str (tx la) t, .str (tx lb) u, .int (mx : Int) v]) Q E s := by
  revert X₀; k_fill; intro X₀
  have N : News h₀ L s.heap [] := fun _ q => nomatch q
  refine wpAny_call ?_
  k_dflt (refine' enterL (binds := [(Str.ofString "a", .str (tx la) t), (Str.ofString "b", .str (tx lb) u), (Str.ofString "max_cost", .int (mx : Int) v)]) B F X₀ N Tp rfl rfl rfl ?k6 ?k7 ?k8 ?k9 ?kB ?_ ?c2 ?c3 ?c4 ?c5)
  (case k6 => k_is)
  (case k7 => k_is)
  (case k8 => show dp < recursionLimit; omega)
  (case k9 => exact BindsTo.of_eq rfl)
  (case kB => exact locs rfl)
  (case c2 => exact rfl)
  (case c3 => exact rfl)
  (case c4 => exact rfl)
  (case c5 => decide)
  intro g L' h₁ hk1 F1 N1 B1 X1 T1 hlt
  have hc : ∀ σ x y, x < 128 → y < 128 → CalR PV w (Around.deeper (ktrTop dp un gd cn ⟨.function, nm, gg, co, more⟩ L a ccd cl outer) (lvEnv w.params L' (.ref 202))) g (lvEnv w.params L' (.ref 202)) σ [] (.ref 196) [.str [x], .str [y]] fun h v => ok h (.int (cost x y : Int)) v := fun σ x y hx hy => .mk fun vs s Q E S o h => by
    obtain ⟨v, u, rfl, ⟨t, rfl⟩, ⟨t', rfl⟩⟩ := oks2 o
    obtain ⟨m, F, _⟩ := S.fr
    clear hQ
    unfold lvEnv
    conv in (occs := *) lvScope _ => all_goals whnf
    refine' subst_cost w (un := ?un) B1 F X1 T1 ?hd ?hu hx hy fun h' tk' t' hk => ?hq
    case hd => first | decide | ktr_room
    case hu => ktr_units
    case hq => exact h _ _ (Kp.of hk) ⟨_, rfl⟩
  refine (?_ : wpAny _ (Around.deeper (ktrTop dp un gd cn ⟨.function, nm, gg, co, more⟩ L a ccd cl outer) (lvEnv w.params L' (.ref 202))) (execs (lvBody w.params) (lvEnv w.params L' (.ref 202))) _ _ _)
  rw [lv_body]
  refine (lv_d (mx := (mx : Int)) (s₀ := { s with heap := h₁, toks := s.toks + 3 }) (ex := []) ⟨X1, ⟨p, loose, mean, mg, mb, T1⟩, rfl, hc⟩ hla hlb hca hcb).out _ _ _ (by passes_own) ⟨⟨⟨_, F1, fun x d e => lk3 e ⟨t, rfl⟩ ⟨u, rfl⟩ ⟨v, rfl⟩ (by decide +kernel) (by decide +kernel) (by decide +kernel)⟩, fun x c e => (nomatch e)⟩, (fun _ h => (nomatch h)), (fun _ h => (nomatch h)), ⟨h₁, _, rfl⟩⟩ (fun _ f => f.elim) (fun s' t' S' => ?_)
  obtain ⟨⟨⟨m', F', _⟩, _⟩, _, _, ⟨h', tk, rfl⟩⟩ := S'
  exact hQ h' tk t' (keep_nil hk1 F')
end

section
open PySem PySem.W PyProof.Rows PySem.Calls PySem.Spec
set_option maxRecDepth 100000
set_option maxHeartbeats 4000000
theorem law_kind (P : Params) : (lawScope P).kind = .function := by rfl
def locN : List Str := ["draw", "lots", "head", "places", "parts", "goal", "number", "place", "power", "upper", "lower", "last", "now", "short", "full", "other", "one", "great", "rest", "apart", "both", "filled"]
theorem law_locs (P : Params) : (locN.all fun x => ((lawScope P).names.lookup x == some .local) && !(x == ("__debug__" : Str))) = true := by kernel_rfl
def celL (L : Addr) : List (Str × Addr) := [("times", L + 7), ("k", L + 6), ("size", L + 5), ("common", L + 4), ("rows", L + 3), ("step", L + 2), ("wide", L + 1)]
theorem law_cels (P : Params) : ((celL 0).all fun x => ((lawScope P).names.lookup x.1 == some .cell) && !(x.1 == ("__debug__" : Str))) = true := by kernel_rfl
theorem law_cells (P : Params) (L fa : Addr) (cd : Value) : (lawEnv P L fa cd).cells = celL L := by kernel_rfl
theorem law_inj (P : Params) (L fa : Addr) (cd : Value) : CellInj (lawEnv P L fa cd) := by
  intro x y c hx hy
  rw [law_cells] at hx hy
  have key : ∀ {l : List (Str × Addr)} {x y : Str} {c : Addr}, (l.map (·.2)).Nodup → l.lookup x = some c → l.lookup y = some c → x = y := by
    intro l
    induction l with
    | nil => intro x y c _ h; cases h
    | cons p l ih =>
      intro x y c hn h1 h2
      have mem : ∀ {z : Str}, l.lookup z = some c → c ∈ l.map (·.2) := fun {z} h => by
        clear ih hn h1 h2
        induction l with
        | nil => cases h
        | cons q l ih =>
          rw [List.lookup_cons] at h
          split at h
          · cases h; exact .head _
          · exact .tail _ (ih h)
      rw [List.map_cons, List.nodup_cons] at hn
      rw [List.lookup_cons] at h1 h2
      by_cases e1 : x = p.1 <;> by_cases e2 : y = p.1
      · rw [e1, e2]
      · subst e1
        rw [beq_self_eq_true] at h1
        cases h1
        rw [show (y == p.1) = false by simpa using e2] at h2
        exact absurd (mem h2) hn.1
      · subst e2
        rw [beq_self_eq_true] at h2
        cases h2
        rw [show (x == p.1) = false by simpa using e1] at h1
        exact absurd (mem h1) hn.1
      · rw [show (x == p.1) = false by simpa using e1] at h1
        rw [show (y == p.1) = false by simpa using e2] at h2
        exact ih hn.2 h1 h2
  refine key ?_ hx hy
  have e : (celL L).map (·.2) = ([7, 6, 5, 4, 3, 2, 1] : List Nat).map (L + ·) := rfl
  rw [e]
  refine List.Pairwise.map _ ?_ (show ([7, 6, 5, 4, 3, 2, 1] : List Nat).Nodup by decide)
  intro a b h q
  exact h (Nat.add_left_cancel q)
section
variable (w : World) {h₀ : Heap} {L fa : Addr} {cd : Value} {mg mb : Str → Option Value} {p : Program} {loose : List Str} {mean : ExcName → Option Value} {σ ks : List (Str × VD)} {pos : Pos}
/-- the law's ground: what its names need -/
structure LG (w : World) (h₀ : Heap) (L fa : Addr) (cd : Value) : Prop where
  lt : 154 < L
  be : Below callerA h₀ [] h₀
  hx : (hd.heap_1 w.params).In h₀
  tp : ∃ p loose mean mg mb, Top p loose mean mg mb h₀
theorem cl_int2ap {n : Int} (G : LG w h₀ L fa cd) (hn : (dig n.natAbs).length ≤ 1000) : CalR PySem.Challenge.rw_xl0020_01.row.prog w (lawA w.params L fa cd) h₀ (lawEnv w.params L fa cd) σ ks (.ref 28) [.int n] fun h v => ok h (.bytes (ap6 (dig n.natAbs))) v := .mk fun vs s Q E S o h => by
  obtain ⟨v, rfl, p1⟩ := oks1 o
  obtain ⟨t, rfl⟩ := p1
  obtain ⟨m, F, _⟩ := S.fr
  obtain ⟨p, loose, mean, mg, mb, Tp⟩ := G.tp
  have B := G.be
  have X₀ := G.hx
  unfold lawA lawEnv
  conv in (occs := *) lawScope _ => all_goals whnf
  refine' int2ap w (un := ?un) B F X₀ Tp ?hd ?hu hn fun h' tk' t' hk => ?hq
  case hd => first | decide | ktr_room
  case hu => ktr_units
  case hq => exact h _ _ (Kp.of hk) ⟨t', by rw [ap_ap6]⟩
theorem cl_lev {la lb : List Nat} {mx : Nat} (G : LG w h₀ L fa cd) (hla : la.length ≤ 40) (hlb : lb.length ≤ 40) (hca : ∀ c ∈ la, c < 128) (hcb : ∀ c ∈ lb, c < 128) : CalR PySem.Challenge.rw_xl0020_01.row.prog w (lawA w.params L fa cd) h₀ (lawEnv w.params L fa cd) σ ks (.ref 203) [.str la, .str lb, .int (mx : Int)] fun h v => ok h (.int (levD la lb mx)) v := .mk fun vs s Q E S o h => by
  obtain ⟨v, u, x, rfl, p1, p2, p3⟩ := oks3 o
  obtain ⟨t, rfl⟩ := p1
  obtain ⟨t', rfl⟩ := p2
  obtain ⟨t'', rfl⟩ := p3
  obtain ⟨m, F, _⟩ := S.fr
  obtain ⟨p, loose, mean, mg, mb, Tp⟩ := G.tp
  have B := G.be
  have X₀ := G.hx
  unfold lawA lawEnv
  conv in (occs := *) lawScope _ => all_goals whnf
  refine' lev w (un := ?un) B F X₀ Tp ?hd ?hu hla hlb hca hcb fun h' tk' t' hk => ?hq
  case hd => first | decide | ktr_room
  case hu => ktr_units
  case hq => exact h _ _ (Kp.of hk) ⟨t', rfl⟩
theorem cl_bare {l : List Nat} (G : LG w h₀ L fa cd) (hl : l.length ≤ 1000) (hc : ∀ c ∈ l, c < 128) : CalR PySem.Challenge.rw_xl0020_01.row.prog w (lawA w.params L fa cd) h₀ (lawEnv w.params L fa cd) σ ks (.ref 217) [.str l] fun h v => ok h (.bytes (bare l)) v := .mk fun vs s Q E S o h => by
  obtain ⟨v, rfl, p1⟩ := oks1 o
  obtain ⟨t, rfl⟩ := p1
  obtain ⟨m, F, _⟩ := S.fr
  obtain ⟨p, loose, mean, mg, mb, Tp⟩ := G.tp
  have B := G.be
  have X₀ := G.hx
  unfold lawA lawEnv
  conv in (occs := *) lawScope _ => all_goals whnf
  refine' law_bare w (un := ?un) B F X₀ Tp ?hd ?hu hl hc fun h' tk' t' hk => ?hq
  case hd => first | decide | ktr_room
  case hu => ktr_units
  case hq => exact h _ _ (Kp.of hk) ⟨t', rfl⟩
theorem nums_ints : ∀ {vs : List Value} {ns : List Nat}, NumsAt vs ns → IntsAre vs (ns.map fun n : Nat => (n : Int))
  | [], [], _ => .nil
  | _ :: _, n :: _, h => by
    obtain ⟨⟨t, rfl⟩, h2⟩ := h
    exact .cons (n : Int) t (nums_ints h2)
  | [], _ :: _, h => h.elim
  | _ :: _, [], h => h.elim
/-- a pair of these kinds -/
def PairR (a b : VD) (h : Heap) (v : Value) : Prop := ∃ T u x n, v = .ref T ∧ h.get? T = some { cls := .type "tuple", data := .seq #[u, x] n } ∧ ok h a u ∧ ok h b x
theorem cl_run {x y : Nat} (G : LG w h₀ L fa cd) (hl : (euc x y).1.length ≤ 1000) (hx : x ≤ 1000) (hy : y ≤ 1000) : CalR PySem.Challenge.rw_xl0020_01.row.prog w (lawA w.params L fa cd) h₀ (lawEnv w.params L fa cd) σ ks (.ref 210) [.int (x : Int), .int (y : Int)] (PairR (.ints ((euc x y).1.map fun n : Nat => (n : Int))) (.int ((euc x y).2 : Int))) := .mk fun vs s Q E S o h => by
  obtain ⟨v, u, rfl, p1, p2⟩ := oks2 o
  obtain ⟨t, rfl⟩ := p1
  obtain ⟨t', rfl⟩ := p2
  obtain ⟨m, F, _⟩ := S.fr
  obtain ⟨p, loose, mean, mg, mb, Tp⟩ := G.tp
  have B := G.be
  have X₀ := G.hx
  unfold lawA lawEnv
  conv in (occs := *) lawScope _ => all_goals whnf
  refine' law_run w (un := ?un) B F X₀ Tp ?hd ?hu hl hx hy fun h' tk' D P n vs t' hk hD hP _ _ hv => ?hq
  case hd => first | decide | ktr_room
  case hu => ktr_units
  case hq => exact h _ _ (Kp.of hk) ⟨_, _, _, _, rfl, hD, ⟨_, _, _, rfl, hP, nums_ints hv⟩, ⟨_, rfl⟩⟩
theorem pair_call {prog : Program} {A : Around} {env : Env} {fe : PySem.Expr} {f : Value} {es : List PySem.Expr} {ds : List VD} {a b : VD} {pos : Pos} (hf : NmS prog w A h₀ env σ ks fe f) (hc : CwS prog w A h₀ env σ ks f es pos) (hl : EvL prog w A h₀ env σ ks pos es ds) (hr : CalR prog w A h₀ env σ ks f ds (PairR a b))
    (he : eval (.Call fe es [] pos) env = (do callWith pos (← eval fe env) [] (backTo pos (starEach es env)) (backToKw pos (keywordEach [] env)))) : PairS prog w A h₀ env σ ks (.Call fe es [] pos) a b := .mk fun _ _ _ S h =>
  er_call hf hc hl hr he S fun _ s' k ⟨T, u, x, n, e, g, o1, o2⟩ => e ▸ h T u x n s' k g o1 o2
theorem nm_len (G : LG w h₀ L fa cd) : NmS PySem.Challenge.rw_xl0020_01.row.prog w (lawA w.params L fa cd) h₀ (lawEnv w.params L fa cd) σ ks (.Name "len" pos) (.builtin "len") := .mk fun s Q E S h => by
  obtain ⟨m, F, _⟩ := S.fr
  change Fr h₀ L s.heap m at F
  clear S
  obtain ⟨p, loose, mean, mg, mb, Tp⟩ := G.tp
  have B := G.be
  have X₀ := G.hx
  have hLt := ltN G.lt
  have N : News h₀ L s.heap [] := nil_news
  obtain ⟨hp, gs, dr, tk0, os0⟩ := s
  dsimp only at F N h
  revert X₀; k_fill; intro X₀
  unfold lawA lawEnv
  conv in (occs := *) lawScope _ => all_goals whnf
  k_steps
  exact h
theorem nm_range (G : LG w h₀ L fa cd) : NmS PySem.Challenge.rw_xl0020_01.row.prog w (lawA w.params L fa cd) h₀ (lawEnv w.params L fa cd) σ ks (.Name "range" pos) (.type "range") := .mk fun s Q E S h => by
  obtain ⟨m, F, _⟩ := S.fr
  change Fr h₀ L s.heap m at F
  clear S
  obtain ⟨p, loose, mean, mg, mb, Tp⟩ := G.tp
  have B := G.be
  have X₀ := G.hx
  have hLt := ltN G.lt
  have N : News h₀ L s.heap [] := nil_news
  obtain ⟨hp, gs, dr, tk0, os0⟩ := s
  dsimp only at F N h
  revert X₀; k_fill; intro X₀
  unfold lawA lawEnv
  conv in (occs := *) lawScope _ => all_goals whnf
  k_steps
  exact h
theorem nm_int (G : LG w h₀ L fa cd) : NmS PySem.Challenge.rw_xl0020_01.row.prog w (lawA w.params L fa cd) h₀ (lawEnv w.params L fa cd) σ ks (.Name "int" pos) (.type "int") := .mk fun s Q E S h => by
  obtain ⟨m, F, _⟩ := S.fr
  change Fr h₀ L s.heap m at F
  clear S
  obtain ⟨p, loose, mean, mg, mb, Tp⟩ := G.tp
  have B := G.be
  have X₀ := G.hx
  have hLt := ltN G.lt
  have N : News h₀ L s.heap [] := nil_news
  obtain ⟨hp, gs, dr, tk0, os0⟩ := s
  dsimp only at F N h
  revert X₀; k_fill; intro X₀
  unfold lawA lawEnv
  conv in (occs := *) lawScope _ => all_goals whnf
  k_steps
  exact h
theorem nm_max (G : LG w h₀ L fa cd) : NmS PySem.Challenge.rw_xl0020_01.row.prog w (lawA w.params L fa cd) h₀ (lawEnv w.params L fa cd) σ ks (.Name "max" pos) (.builtin "max") := .mk fun s Q E S h => by
  obtain ⟨m, F, _⟩ := S.fr
  change Fr h₀ L s.heap m at F
  clear S
  obtain ⟨p, loose, mean, mg, mb, Tp⟩ := G.tp
  have B := G.be
  have X₀ := G.hx
  have hLt := ltN G.lt
  have N : News h₀ L s.heap [] := nil_news
  obtain ⟨hp, gs, dr, tk0, os0⟩ := s
  dsimp only at F N h
  revert X₀; k_fill; intro X₀
  unfold lawA lawEnv
  conv in (occs := *) lawScope _ => all_goals whnf
  k_steps
  exact h
theorem nm_divmod (G : LG w h₀ L fa cd) : NmS PySem.Challenge.rw_xl0020_01.row.prog w (lawA w.params L fa cd) h₀ (lawEnv w.params L fa cd) σ ks (.Name "divmod" pos) (.builtin "divmod") := .mk fun s Q E S h => by
  obtain ⟨m, F, _⟩ := S.fr
  change Fr h₀ L s.heap m at F
  clear S
  obtain ⟨p, loose, mean, mg, mb, Tp⟩ := G.tp
  have B := G.be
  have X₀ := G.hx
  have hLt := ltN G.lt
  have N : News h₀ L s.heap [] := nil_news
  obtain ⟨hp, gs, dr, tk0, os0⟩ := s
  dsimp only at F N h
  revert X₀; k_fill; intro X₀
  unfold lawA lawEnv
  conv in (occs := *) lawScope _ => all_goals whnf
  k_steps
  exact h
theorem nm_int2ap (G : LG w h₀ L fa cd) : NmS PySem.Challenge.rw_xl0020_01.row.prog w (lawA w.params L fa cd) h₀ (lawEnv w.params L fa cd) σ ks (.Name "Int2AP" pos) (.ref 28) := .mk fun s Q E S h => by
  obtain ⟨m, F, _⟩ := S.fr
  change Fr h₀ L s.heap m at F
  clear S
  obtain ⟨p, loose, mean, mg, mb, Tp⟩ := G.tp
  have B := G.be
  have X₀ := G.hx
  have hLt := ltN G.lt
  have N : News h₀ L s.heap [] := nil_news
  obtain ⟨hp, gs, dr, tk0, os0⟩ := s
  dsimp only at F N h
  revert X₀; k_fill; intro X₀
  unfold lawA lawEnv
  conv in (occs := *) lawScope _ => all_goals whnf
  k_steps
  exact h
theorem nm_lev (G : LG w h₀ L fa cd) : NmS PySem.Challenge.rw_xl0020_01.row.prog w (lawA w.params L fa cd) h₀ (lawEnv w.params L fa cd) σ ks (.Name "_levenshtein_distance" pos) (.ref 203) := .mk fun s Q E S h => by
  obtain ⟨m, F, _⟩ := S.fr
  change Fr h₀ L s.heap m at F
  clear S
  obtain ⟨p, loose, mean, mg, mb, Tp⟩ := G.tp
  have B := G.be
  have X₀ := G.hx
  have hLt := ltN G.lt
  have N : News h₀ L s.heap [] := nil_news
  obtain ⟨hp, gs, dr, tk0, os0⟩ := s
  dsimp only at F N h
  revert X₀; k_fill; intro X₀
  unfold lawA lawEnv
  conv in (occs := *) lawScope _ => all_goals whnf
  k_steps
  exact h
theorem nm_bare (G : LG w h₀ L fa cd) : NmS PySem.Challenge.rw_xl0020_01.row.prog w (lawA w.params L fa cd) h₀ (lawEnv w.params L fa cd) σ ks (.Name "_law_bare" pos) (.ref 217) := .mk fun s Q E S h => by
  obtain ⟨m, F, _⟩ := S.fr
  change Fr h₀ L s.heap m at F
  clear S
  obtain ⟨p, loose, mean, mg, mb, Tp⟩ := G.tp
  have B := G.be
  have X₀ := G.hx
  have hLt := ltN G.lt
  have N : News h₀ L s.heap [] := nil_news
  obtain ⟨hp, gs, dr, tk0, os0⟩ := s
  dsimp only at F N h
  revert X₀; k_fill; intro X₀
  unfold lawA lawEnv
  conv in (occs := *) lawScope _ => all_goals whnf
  k_steps
  exact h
theorem nm_run (G : LG w h₀ L fa cd) : NmS PySem.Challenge.rw_xl0020_01.row.prog w (lawA w.params L fa cd) h₀ (lawEnv w.params L fa cd) σ ks (.Name "_law_run" pos) (.ref 210) := .mk fun s Q E S h => by
  obtain ⟨m, F, _⟩ := S.fr
  change Fr h₀ L s.heap m at F
  clear S
  obtain ⟨p, loose, mean, mg, mb, Tp⟩ := G.tp
  have B := G.be
  have X₀ := G.hx
  have hLt := ltN G.lt
  have N : News h₀ L s.heap [] := nil_news
  obtain ⟨hp, gs, dr, tk0, os0⟩ := s
  dsimp only at F N h
  revert X₀; k_fill; intro X₀
  unfold lawA lawEnv
  conv in (occs := *) lawScope _ => all_goals whnf
  k_steps
  exact h
end
end

section
open PySem PySem.W PyProof.Rows PySem.Calls PySem.Spec
set_option maxRecDepth 100000
set_option maxHeartbeats 4000000
noncomputable def lawSt (P : Params) (i : Nat) : Stmt := match (lawBody P)[i]? with
  | some st => st
  | none => .Pass ⟨0, 0, 0, 0⟩
theorem loc_of (P : Params) (L fa : Addr) (cd : Value) {x : Str} (h : x ∈ locN) : (lawEnv P L fa cd).kindOf x = some .local ∧ (x == ("__debug__" : Str)) = false := by
  have := List.all_eq_true.mp (law_locs P) x h
  rw [Bool.and_eq_true, beq_iff_eq, Bool.not_eq_true'] at this
  exact this
theorem cel_of (P : Params) (L fa : Addr) (cd : Value) {x : Str} {c : Addr} (h : (celL L).lookup x = some c) : (lawEnv P L fa cd).kindOf x = some .cell ∧ (x == ("__debug__" : Str)) = false ∧ (lawEnv P L fa cd).cells.lookup x = some c := by
  rw [law_cells]
  have key : ∀ {l : List (Str × Addr)} {x : Str} {c : Addr}, l.lookup x = some c → x ∈ l.map (·.1) := by
    intro l x c h
    induction l with
    | nil => cases h
    | cons q l ih =>
      rw [List.lookup_cons] at h
      by_cases e : x = q.1
      · subst e; exact .head _
      · rw [show (x == q.1) = false by simpa using e] at h
        exact .tail _ (ih h)
  have hm : x ∈ (celL 0).map (·.1) := key (l := celL L) h
  obtain ⟨q, hq, rfl⟩ := List.mem_map.mp hm
  have := List.all_eq_true.mp (law_cels P) q hq
  rw [Bool.and_eq_true, beq_iff_eq, Bool.not_eq_true'] at this
  exact ⟨this.1, this.2, h⟩
section
variable {w : World} {A : Around} {prog : Program} {h₀ : Heap} {L fa : Addr} {cd : Value} {σ ks σ' ks' : List (Str × VD)} {pos px : Pos} {x : Str} {c : Addr} {d d' : VD} {e : PySem.Expr}
theorem lplain (P : Params) (L fa : Addr) (cd : Value) : ((lawEnv P L fa cd).scope.kind == .class || ((lawEnv P L fa cd).scope.kind == .module && (lawEnv P L fa cd).locals != (lawEnv P L fa cd).globals)) = false := by
  rw [show (lawEnv P L fa cd).scope.kind = .function from law_kind P]
  rfl
theorem lv_name (hx : x ∈ locN) (hd : σ.lookup x = some d) : EvS prog w A h₀ (lawEnv w.params L fa cd) σ ks (.Name x pos) d := ev_name hd (law_kind w.params) (loc_of w.params L fa cd hx).1 (loc_of w.params L fa cd hx).2
theorem lv_cell (hc : (celL L).lookup x = some c) (hd : ks.lookup x = some d) : EvS prog w A h₀ (lawEnv w.params L fa cd) σ ks (.Name x pos) d := ev_cell hd (cel_of w.params L fa cd hc).2.2 (law_kind w.params) (cel_of w.params L fa cd hc).1 (cel_of w.params L fa cd hc).2.1
theorem ev_eq {env : Env} (h : EvS prog w A h₀ env σ ks e d) (q : d = d') : EvS prog w A h₀ env σ ks e d' := q ▸ h
theorem lt_assign (hx : x ∈ locN) (he : EvS prog w A h₀ (lawEnv w.params L fa cd) σ ks e d) (hs : swapsWith e (some (.Name x px)) pos.line (lawEnv w.params L fa cd) = pure false) : StS prog w A h₀ (lawEnv w.params L fa cd) σ ks (.Assign [.Name x px] e pos) ((x, d) :: σ) ks := st_assign he (loc_of w.params L fa cd hx).1 (lplain w.params L fa cd) hs
theorem lt_assignC (hc : (celL L).lookup x = some c) (he : EvS prog w A h₀ (lawEnv w.params L fa cd) σ ks e d) (hs : swapsWith e (some (.Name x px)) pos.line (lawEnv w.params L fa cd) = pure false) : StS prog w A h₀ (lawEnv w.params L fa cd) σ ks (.Assign [.Name x px] e pos) σ ((x, d) :: ks) := st_assignC he (law_inj w.params L fa cd) (cel_of w.params L fa cd hc).2.2 (law_kind w.params) (cel_of w.params L fa cd hc).1 hs
theorem ls_l (hx : x ∈ locN) : StoS prog w A h₀ (lawEnv w.params L fa cd) x d σ ks ((x, d) :: σ) ks := sto_l (loc_of w.params L fa cd hx).1 (lplain w.params L fa cd)
theorem ls_c (hc : (celL L).lookup x = some c) : StoS prog w A h₀ (lawEnv w.params L fa cd) x d σ ks σ ((x, d) :: ks) := sto_c (law_inj w.params L fa cd) (cel_of w.params L fa cd hc).2.2 (law_kind w.params) (cel_of w.params L fa cd hc).1
theorem lt_two {y : Str} {e1 e2 : PySem.Expr} {a b : VD} {kk k2 : Nat} {py tp vp : Pos} (hx : x ∈ locN) (hy : y ∈ locN) (h1 : EvS prog w A h₀ (lawEnv w.params L fa cd) σ ks e1 a) (h2 : EvS prog w A h₀ (lawEnv w.params L fa cd) σ ks e2 b) (hh : A.handled = none)
    (hs : starEach [e1, e2] (lawEnv w.params L fa cd) = [(false, eval e1 (lawEnv w.params L fa cd)), (false, eval e2 (lawEnv w.params L fa cd))])
    (hsw : swapsWithSole [.Tuple [.Name x px, .Name y py] kk tp] (.Tuple [e1, e2] k2 vp) pos.line (lawEnv w.params L fa cd) = pure false) (hw : swappedStores [.Tuple [.Name x px, .Name y py] kk tp] (.Tuple [e1, e2] k2 vp) (lawEnv w.params L fa cd) = pure (some [x, y])) :
    StS prog w A h₀ (lawEnv w.params L fa cd) σ ks (.Assign [.Tuple [.Name x px, .Name y py] kk tp] (.Tuple [e1, e2] k2 vp) pos) ((x, a) :: (y, b) :: σ) ks := st_two h1 h2 hh hs (loc_of w.params L fa cd hx).1 (loc_of w.params L fa cd hy).1 (lplain w.params L fa cd) hsw hw
end
theorem mul_ok {a b : Int} (ha : a.natAbs < 2 ^ 1000) (hb : b.natAbs < 2 ^ 1000) : IntMulOk a b := by
  have key : ∀ {a : Int}, a.natAbs < 2 ^ 1000 → Builtin.Int.intBits a ≤ 1001 := fun {a} h => by
    unfold Builtin.Int.intBits
    split
    · omega
    · rename_i h0
      have : a.natAbs ≠ 0 := by simpa using h0
      have := (Nat.log2_lt this).mpr h
      omega
  have h1 := key ha
  have h2 := key hb
  unfold IntMulOk
  intro h
  simp only [Bool.and_eq_true] at h
  have h3 := h.2
  unfold Builtin.Int.intTooBig at h3
  have h4 : 5000 < bitsLine := by decide +kernel
  simp at h3
  omega
theorem mul_small {a b : Int} (ha : a.natAbs < 2 ^ 64) : IntMulOk a b := by
  refine .of_left ?_
  unfold Builtin.Int.intBits
  split
  · omega
  · rename_i h0
    have : a.natAbs ≠ 0 := by simpa using h0
    have := (Nat.log2_lt this).mpr ha
    omega
end

section
open PySem PySem.W PyProof.Rows PySem.Calls PySem.Spec
set_option maxRecDepth 100000
set_option maxHeartbeats 4000000
theorem reg : True := by
  k_with_none
  k_with "zz" => (first | assumption | exact Nat.le_trans (by assumption) (by decide) | exact Nat.lt_of_le_of_lt (by assumption) (by decide) | exact Nat.le_trans (Nat.sub_le _ _) (Nat.le_trans (by assumption) (by decide)) | exact Nat.le_trans (Nat.min_le_right _ _) (Nat.le_trans (by assumption) (by decide)) | exact Nat.sub_pos_of_lt (by assumption) | exact Nat.lt_of_sub_pos (by assumption) | exact mn_pos (by assumption) | exact mn_lt (by assumption) | exact mn_no (by assumption) | exact sb_no (by assumption) | exact nm1 | exact sub1 (by assumption) | exact cp1 (by assumption) | exact cpp (by assumption) | exact cpn (by assumption) | exact cpa (by assumption) | exact sz1 (by assumption) | exact sz2 (by assumption) | exact sz3 (by assumption) | exact sz5 (by assumption) (by decide) | exact na3 (by assumption) (by assumption) | exact na4 (by assumption) (by assumption) | exact na5 (by assumption) (by assumption) | exact fl1 (by assumption) (by decide) | lia | omega)
  k_with "zr" => ((repeat (with_reducible refine rm_deeper ?_)); exact rm_top (by assumption) (by decide))
  k_with "zu" => ((repeat (first | with_reducible refine um_deeper ?_ | with_reducible refine um_in1 ?_)); exact rm_top (by assumption) (by decide))
  k_with "zn" => (refine neN ?_; (try dsimp only); first | exact Nat.ne_of_lt (Nat.add_lt_add_left (by decide) _) | exact Nat.ne_of_gt (Nat.add_lt_add_left (by decide) _) | (refine Nat.ne_of_lt ?_; (try refine lt154 ?_); (repeat (first | assumption | exact ltA (by assumption) (by decide) | refine Nat.lt_trans (by assumption) ?_ | refine Nat.lt_trans (ltA (by assumption) (by decide)) ?_)); done) | (refine Nat.ne_of_gt ?_; (try refine lt154 ?_); (repeat (first | assumption | exact ltA (by assumption) (by decide) | refine Nat.lt_trans (by assumption) ?_ | refine Nat.lt_trans (ltA (by assumption) (by decide)) ?_)); done) | (first | lia | omega))
  k_with "ev" => first
    | with_reducible exact ev_int
    | ((with_reducible apply lv_name); (focus decide +kernel); exact rfl)
    | ((with_reducible apply lv_cell); exact rfl; exact rfl)
    | ((with_reducible apply ev_neg); k_extra "ev")
    | ((with_reducible apply ev_str); decide +kernel)
    | ((with_reducible apply ev_bytes); decide +kernel)
    | ((with_reducible apply ev_bin); k_extra "ev"; k_extra "ev"; k_extra "op")
    | ((with_reducible apply ev_at); k_extra "ev"; k_extra "ev"; k_extra "side"; k_extra "side"; k_extra "side"; (intro _ _; exact rfl))
    | ((with_reducible apply ev_cmp); k_extra "ev"; k_extra "ev"; k_extra "op"; exact rfl)
  k_with "op" => first
    | with_reducible exact o_add
    | with_reducible exact o_sub
    | with_reducible exact o_iadd
    | ((with_reducible apply o_mod); k_extra "side")
    | ((with_reducible apply o_div); k_extra "side"; k_extra "side")
    | ((with_reducible apply o_mul); k_extra "side")
    | ((with_reducible apply o_pow); k_extra "side")
    | ((with_reducible apply o_adds); k_extra "side")
    | with_reducible exact c_eq
    | with_reducible exact c_ne
    | with_reducible exact c_lt
    | with_reducible exact c_le
  k_with "side" => first | assumption | (first | lia | omega) | decide | exact mul_small (by decide) | exact rfl
  k_with "et" => first
    | ((with_reducible apply et_cmp); k_extra "ev"; k_extra "ev"; k_extra "op"; exact rfl)
  k_with "lk" => first | exact trivial | (refine ⟨rfl, ?_⟩; k_extra "lk")
  trivial
abbrev PP : Program := PySem.Challenge.rw_xl0020_01.row.prog
section
variable {w : World} {h₀ : Heap} {L fa : Addr} {cd : Value} {W S H : Nat} {D O : Int} {pl : List Int}
def sA (D O : Int) (H : Nat) (pl : List Int) : List (Str × VD) := [("draw", .int D), ("lots", .int O), ("head", .int (H : Int)), ("places", .ints pl)]
def kA (W S : Nat) : List (Str × VD) := [("wide", .int (W : Int)), ("step", .int (S : Int))]
def cast1 (l : List Nat) : List Int := l.map fun n : Nat => (n : Int)
theorem keep_fns (P : Params) : keepIn (hd.heap_1 P) (.ref 28) = true ∧ keepIn (hd.heap_1 P) (.ref 203) = true ∧ keepIn (hd.heap_1 P) (.ref 217) = true ∧ keepIn (hd.heap_1 P) (.ref 210) = true := ⟨by kernel_rfl, by kernel_rfl, by kernel_rfl, by kernel_rfl⟩
theorem h12 (G : LG w h₀ L fa cd) (hl : (euc W S).1.length ≤ 1000) (hW : W ≤ 1000) (hS : S ≤ 1000) : StS PP w (lawA w.params L fa cd) h₀ (lawEnv w.params L fa cd) (sA D O H pl) (kA W S) (lawSt w.params 12) (("parts", .ints (cast1 (euc W S).1)) :: sA D O H pl) (("common", .int (com W S : Int)) :: kA W S) := by
  conv in lawSt _ _ => whnf
  refine' st_pair (a := .ints (cast1 (euc W S).1)) (b := .int (com W S : Int)) (pair_call w (nm_run w G) (cw_fn (f := .ref 210) G.hx (keep_fns w.params).2.2.2 rfl rfl) (el_cons ?e1 (el_cons ?e2 el_nil ?q2) ?q1) (cl_run w G hl hW hS) rfl) rfl (ls_l (by decide +kernel)) (ls_c (c := L + 4) rfl) rfl rfl
  case e1 => exact lv_cell (c := L + 1) rfl rfl
  case e2 => exact lv_cell (c := L + 2) rfl rfl
  case q1 => rfl
  case q2 => rfl
theorem h14 (hc : 0 < com W S) (hc2 : com W S ≤ 8) {σ : List (Str × VD)} {ks : List (Str × VD)} (e1 : ks.lookup (Str.ofString "common") = some (VD.int (com W S : Int))) (e2 : ks.lookup (Str.ofString "wide") = some (VD.int (W : Int))) :
    StS PP w (lawA w.params L fa cd) h₀ (lawEnv w.params L fa cd) σ ks (lawSt w.params 14) σ (("size", .int (siz W S : Int)) :: ks) := by
  conv in lawSt _ _ => whnf
  have hc3 : (com W S : Int).natAbs.log2 < 9000 := by
    rw [Int.natAbs_natCast]
    exact Nat.lt_of_le_of_lt (Nat.log2_le_self _) (by (first | lia | omega))
  refine lt_assignC (c := L + 5) rfl (ev_eq (ev_bin (lv_cell (c := L + 1) rfl e2) (lv_cell (c := L + 4) rfl e1) (o_div (by (first | lia | omega)) hc3)) ?_) rfl
  rw [Int.fdiv_eq_ediv_of_nonneg _ (by (first | lia | omega))]
  rfl
theorem prt_last {ps : List Nat} (h : 0 < ps.getLast?.getD 0) : (cast1 ps).getLast? = some (ps.getLast?.getD 0 : Int) := by
  unfold cast1
  rw [List.getLast?_map]
  cases e : ps.getLast? with
  | none => rw [e] at h; simp at h
  | some n => rfl
theorem prt_true {ps : List Nat} (h : 0 < ps.getLast?.getD 0) : (cast1 ps).take ((cast1 ps).length - 1) ++ [(ps.getLast?.getD 0 : Int) - 1, 1] = cast1 (ps.take (ps.length - 1) ++ [ps.getLast?.getD 0 - 1, 1]) := by
  unfold cast1
  rw [List.length_map, List.map_append, ← List.map_take]
  congr 1
  simp only [List.map_cons, List.map_nil, List.cons.injEq, and_true]
  refine ⟨by (first | lia | omega), rfl⟩
theorem h13 {ks : List (Str × VD)} (hl : (euc W S).1.length ≤ 1000) (hg : 0 < (euc W S).1.getLast?.getD 0) :
    StS PP w (lawA w.params L fa cd) h₀ (lawEnv w.params L fa cd) (("parts", .ints (cast1 (euc W S).1)) :: sA D O H pl) ks (lawSt w.params 13) (("parts", .ints (cast1 (prt ((D.fdiv 12).fmod 2 == 1) W S))) :: sA D O H pl) ks := by
  conv in lawSt _ _ => whnf
  have hlen : (cast1 (euc W S).1).length ≤ 1000000 := by unfold cast1; rw [List.length_map]; (first | lia | omega)
  refine' st_if (b := ((D.fdiv 12).fmod 2 == 1)) (et_cmp (ev_bin (ev_bin (lv_name (by decide +kernel) rfl) ev_int (o_div (by decide) (by decide +kernel))) ev_int (o_mod (by decide))) ev_int c_eq rfl) (fun hb => ?h1) (fun hb => ?h2)
  case h2 =>
    rw [hb]
    exact ex_nil
  case h1 =>
    rw [hb]
    refine' ex_sub (ex_one (lt_assign (by decide +kernel) (ev_eq (ev_bin (ev_front (ns := cast1 (euc W S).1) (lv_name (by decide +kernel) rfl) (ev_neg ev_int) hlen (fun _ _ => rfl)) (ev_list2 (ev_bin (ev_last (ns := cast1 (euc W S).1) (lv_name (by decide +kernel) rfl) (ev_neg ev_int) (prt_last hg) hlen (fun _ _ => rfl)) ev_int o_sub) ev_int rfl) (o_addl ?z)) ?q) rfl)) ?a1 ?a2
    case z =>
      rw [List.length_take]
      simp only [List.length_cons, List.length_nil]
      unfold cast1
      rw [List.length_map]
      (first | lia | omega)
    case q => rw [prt_true hg]
    case a1 => exact .of ⟨rfl, rfl, rfl, rfl, rfl, trivial⟩
    case a2 => exact .rfl'
theorem h15 (hc : 0 < com W S) (hc2 : com W S ≤ 8) {b : Bool} {σ ks : List (Str × VD)} (hl : (prt b W S).length ≤ 1000) (e0 : σ.lookup (Str.ofString "parts") = some (.ints (cast1 (prt b W S)))) (e1 : ks.lookup (Str.ofString "common") = some (VD.int (com W S : Int))) (e2 : ks.lookup (Str.ofString "step") = some (VD.int (S : Int))) (G : LG w h₀ L fa cd) :
    StS PP w (lawA w.params L fa cd) h₀ (lawEnv w.params L fa cd) σ ks (lawSt w.params 15) (("goal", .int (goa b W S)) :: σ) ks := by
  conv in lawSt _ _ => whnf
  have hc3 : (com W S : Int).natAbs.log2 < 9000 := by
    rw [Int.natAbs_natCast]
    exact Nat.lt_of_le_of_lt (Nat.log2_le_self _) (by (first | lia | omega))
  have hlen : (cast1 (prt b W S)).length = (prt b W S).length := List.length_map ..
  refine' lt_assign (by decide +kernel) (ev_eq (ev_bin (ev_bin (lv_cell (c := L + 2) rfl e2) (lv_cell (c := L + 4) rfl e1) (o_div (by (first | lia | omega)) hc3)) (ev_bin (ev_call (nm_len w G) (cw_builtin rfl rfl) (el_cons (lv_name (by decide +kernel) e0) el_nil rfl) (cl_len (by (first | lia | omega))) rfl) ev_int (o_mod (by decide))) o_sub) ?q) rfl
  rw [Int.fdiv_eq_ediv_of_nonneg _ (by (first | lia | omega)), hlen, Int.fmod_eq_emod_of_nonneg _ (by decide)]
  rfl
theorem h16 {σ ks : List (Str × VD)} : StS PP w (lawA w.params L fa cd) h₀ (lawEnv w.params L fa cd) σ ks (lawSt w.params 16) (("number", .int 0) :: σ) ks := by
  conv in lawSt _ _ => whnf
  exact lt_assign (by decide +kernel) ev_int rfl
def sIh (O : Int) (H : Nat) (pl : List Int) (pt : List Nat) (g n : Int) : List (Str × VD) := [("lots", .int O), ("head", .int (H : Int)), ("places", .ints pl), ("parts", .ints (cast1 pt)), ("goal", .int g), ("number", .int n)]
def kI (W S : Nat) : List (Str × VD) := [("size", .int (siz W S : Int)), ("common", .int (com W S : Int)), ("wide", .int (W : Int)), ("step", .int (S : Int))]
theorem list_at {pl : List Int} {i : Nat} {j : Int} (h : i < pl.length) (e : j.toNat = i) : pl[j.toNat]? = some (pl.getD i 0) := by
  rw [e, List.getD_eq_getElem?_getD, List.getElem?_eq_getElem h]
  rfl
theorem h17 (G : LG w h₀ L fa cd) {pt : List Nat} {g : Int} (hW : W ≤ 1000) (hp : W + 1 ≤ pl.length) :
    StS PP w (lawA w.params L fa cd) h₀ (lawEnv w.params L fa cd) (sIh O H pl pt g 0) (kI W S) (lawSt w.params 17) (sIh O H pl pt g (num1 pl W)) (kI W S) := by
  conv in lawSt _ _ => whnf
  refine' st_for (a := 0) (n := W) (fun i => sIh O H pl pt g (num1 pl i)) (fun _ => kI W S) (fun i => sIh O H pl pt g (num1 pl i)) (fun i => ("k", .int ((0 : Int) + (i : Int))) :: kI W S) rfl ?hr (by decide) (by decide) hW (fun i hi => ls_c (c := L + 6) rfl) (fun i hi => ?hb) (fun _ => rfl)
  case hr =>
    intro s Q E S₀ h
    refine er_call (nm_range w G) (cw_type rfl rfl) (el_cons (lv_cell (c := L + 1) rfl rfl) el_nil rfl) cl_range1 rfl S₀ fun y s' k R => h y s' k ?_
    rw [Int.zero_add]
    exact R
  case hb =>
    have n1 : num1 pl (i + 1) = 16 * num1 pl i + pl.getD (i + 1) 0 - pl.getD i 0 := rfl
    rw [n1]
    refine' ex_sub (ex_one (lt_assign (by decide +kernel) (ev_bin (ev_bin (ev_bin ev_int (lv_name (by decide +kernel) rfl) (o_mul (mul_small (by decide)))) (ev_at (lv_name (by decide +kernel) rfl) (ev_bin (lv_cell (c := L + 6) rfl rfl) ev_int o_add) (by (first | lia | omega)) (by (first | lia | omega)) (list_at (i := i + 1) (by (first | lia | omega)) (by (first | lia | omega))) (fun _ _ => rfl)) o_add) (ev_at (lv_name (by decide +kernel) rfl) (lv_cell (c := L + 6) rfl rfl) (by (first | lia | omega)) (by (first | lia | omega)) (list_at (i := i) (by (first | lia | omega)) (by (first | lia | omega))) (fun _ _ => rfl)) o_sub) rfl)) ?a1 ?a2
    case a1 => exact .of ⟨rfl, rfl, rfl, rfl, rfl, rfl, trivial⟩
    case a2 => exact .of ⟨rfl, rfl, rfl, rfl, trivial⟩
end
end

section
open PySem PySem.W PyProof.Rows PySem.Calls PySem.Spec
set_option maxRecDepth 100000
set_option maxHeartbeats 4000000
theorem look_sub {α : Type} : ∀ {a b : List (Str × α)} {y : Str} {c : α}, (∀ p ∈ a, b.lookup p.1 = some p.2) → a.lookup y = some c → b.lookup y = some c
  | [], _, _, _, _, h => by cases h
  | p :: a, b, y, c, hs, h => by
    rw [List.lookup_cons] at h
    by_cases e : y = p.1
    · subst e
      rw [beq_self_eq_true] at h
      cases h
      exact hs p (.head _)
    · rw [show (y == p.1) = false by simpa using e] at h
      exact look_sub (fun q hq => hs q (.tail _ hq)) h
/-- the small facts of a width and a step -/
structure WS (W S : Nat) : Prop where
  a : 3 ≤ W
  b : W ≤ 8
  c : 1 ≤ S
  d : S < W
  com1 : 1 ≤ com W S
  com8 : com W S ≤ 8
  siz1 : 1 < siz W S
  siz8 : siz W S ≤ 8
  mul : siz W S * com W S = W
  len8 : (euc W S).1.length ≤ 8
  len1 : 1 ≤ (euc W S).1.length
  last : 1 < (euc W S).1.getLast?.getD 0
  pl : ∀ k, 1 ≤ k → k < siz W S → ∃ j r, plj W S k = j :: r ∧ j < siz W S
theorem ws_of {W S : Nat} (h1 : 3 ≤ W) (h2 : W ≤ 8) (h3 : 1 ≤ S) (h4 : S < W) : WS W S := by
  have h := cases3_get chkZ_all h1 h2 h3 h4
  unfold chkZ at h
  simp only [Bool.and_eq_true, decide_eq_true_eq] at h
  obtain ⟨⟨⟨⟨⟨⟨⟨⟨a1, a2⟩, a3⟩, a4⟩, a5⟩, a6⟩, a7⟩, a8⟩, a9⟩ := h
  refine ⟨h1, h2, h3, h4, a1, a2, a3, a4, a5, a6, a7, a8, fun k hk1 hk2 => ?_⟩
  have a10 := List.all_eq_true.mp a9 k (List.mem_range.mpr hk2)
  rw [decide_eq_false (show ¬ k = 0 by k_extra "zz"), Bool.false_or] at a10
  cases e : plj W S k with
  | nil => rw [e] at a10; cases a10
  | cons j r => rw [e] at a10; exact ⟨j, r, rfl, by simpa using a10⟩
theorem pow_facts {n : Nat} (h1 : 1 ≤ n) (h2 : n ≤ 8) : 16 ≤ 16 ^ n ∧ 16 ^ n ≤ 4294967296 := by
  refine ⟨?_, ?_⟩
  · exact Nat.le_trans (by decide) (Nat.pow_le_pow_right (show 0 < 16 by decide) h1)
  · exact Nat.le_trans (Nat.pow_le_pow_right (show 0 < 16 by decide) h2) (by decide)
theorem log2_le {a b : Nat} (h : a ≤ b) (hb : b.log2 < 9000) : a.log2 < 9000 := by
  refine Nat.lt_of_le_of_lt ?_ hb
  by_cases h0 : a = 0
  · subst h0; simp
  · have : b ≠ 0 := by k_extra "zz"
    exact (Nat.le_log2 this).mpr (Nat.le_trans (Nat.log2_self_le h0) h)
section
variable {w : World} {h₀ : Heap} {L fa : Addr} {cd : Value} {W S H : Nat} {D O : Int} {pl : List Int}
theorem law_closJ (P : Params) (L fa : Addr) (cd : Value) : closureFor { kind := .function, names := [(".0", .local), ("j", .local), ("common", .free), ("k", .free), ("step", .free), ("wide", .free)], isGenerator := false, isCoroutine := false, more := [] } (lawEnv P L fa cd) = pure ([(("wide" : Str), L + 1), ("step", L + 2), ("k", L + 6), ("common", L + 4)] : List (Str × Addr)) := by kernel_rfl
theorem h18 (G : LG w h₀ L fa cd) {pt : List Nat} {b : Bool} {n : Int} (hw : WS W S) :
    StS PP w (lawA w.params L fa cd) h₀ (lawEnv w.params L fa cd) (sIh O H pl pt (goa b W S) n) (kI W S) (lawSt w.params 18) (sIh O H pl pt (goa b W S) (num2 b W S H n (siz W S - 1))) (kI W S) := by
  conv in lawSt _ _ => whnf
  have c1 := hw.com1
  have c8 := hw.com8
  have z1 := hw.siz1
  have z8 := hw.siz8
  have wa := hw.a
  have wb := hw.b
  have hc3 : (com W S : Int).natAbs.log2 < 9000 := by
    rw [Int.natAbs_natCast]
    exact Nat.lt_of_le_of_lt (Nat.log2_le_self _) (by k_extra "zz")
  refine' st_for (a := 1) (n := siz W S - 1) (fun i => sIh O H pl pt (goa b W S) (num2 b W S H n i)) (fun _ => kI W S) (fun i => sIh O H pl pt (goa b W S) (num2 b W S H n i)) (fun i => ("k", .int ((1 : Int) + (i : Int))) :: kI W S) rfl ?hr (by decide) (by decide) (by k_extra "zz") (fun i hi => ls_c (c := L + 6) rfl) (fun i hi => ?hb) (fun _ => rfl)
  case hr =>
    intro s Q E S₀ h
    refine er_call (nm_range w G) (cw_type rfl rfl) (el_cons ev_int (el_cons (lv_cell (c := L + 5) rfl rfl) el_nil rfl) rfl) cl_range2 rfl S₀ fun y s' k R => h y s' k ?_
    rw [show (1 : Int) + ((siz W S - 1 : Nat) : Int) = (siz W S : Int) by k_extra "zz"]
    exact R
  case hb =>
    obtain ⟨j0, r0, ej, hj0⟩ := hw.pl (1 + i) (by k_extra "zz") (by k_extra "zz")
    have hp0 : (plj W S (1 + i)).head?.getD 0 = j0 := by rw [ej]; rfl
    have n1 : num2 b W S H n (i + 1) = num2 b W S H n i + 15 * (pow1 W S (1 + i) : Int) * ((if ((1 + i : Nat) : Int) ≤ goa b W S then 1 else 0) - (if ((1 + i : Nat) : Int) ≤ ((H / com W S : Nat) : Int) then 1 else 0)) := rfl
    have pf1 := pow_facts (n := siz W S) (by k_extra "zz") z8
    have pf2 := pow_facts (n := W) (by k_extra "zz") wb
    have pf3 := pow_facts (n := siz W S - 1 - j0 + 1) (by k_extra "zz") (by k_extra "zz")
    refine ex_sub (ex_cons (σ' := ("place", .int (j0 : Int)) :: sIh O H pl pt (goa b W S) (num2 b W S H n i)) (ks' := ("k", .int ((1 : Int) + (i : Int))) :: kI W S) ?s1 (ex_cons (σ' := ("power", .int (pow1 W S (1 + i) : Int)) :: ("place", .int (j0 : Int)) :: sIh O H pl pt (goa b W S) (num2 b W S H n i)) (ks' := ("k", .int ((1 : Int) + (i : Int))) :: kI W S) ?s2 (ex_cons (σ' := ("number", .int (num2 b W S H n (i + 1))) :: ("power", .int (pow1 W S (1 + i) : Int)) :: ("place", .int (j0 : Int)) :: sIh O H pl pt (goa b W S) (num2 b W S H n i)) (ks' := ("k", .int ((1 : Int) + (i : Int))) :: kI W S) ?s3 ex_nil))) ?a1 ?a2
    case a1 => exact .of ⟨rfl, rfl, rfl, rfl, rfl, rfl, trivial⟩
    case a2 => exact .of ⟨rfl, rfl, rfl, rfl, trivial⟩
    case s1 =>
      have e0 : (((List.range (siz W S)).filter fun j => (j * S + (1 + i) * com W S) % W == 0).map fun j : Nat => (j : Int))[(0 : Int).toNat]? = some (j0 : Int) := by
        have : plj W S (1 + i) = (List.range (siz W S)).filter fun j => (j * S + (1 + i) * com W S) % W == 0 := rfl
        rw [← this, ej]
        rfl
      refine lt_assign (by decide +kernel) (ev_at (ev_comp (n := siz W S) (cl := [("wide", L + 1), ("step", L + 2), ("k", L + 6), ("common", L + 4)]) (fun j => (j * S + (1 + i) * com W S) % W == 0) (fun j => (j : Int)) rfl ?r (by k_extra "zz") (law_closJ _ _ _ _) (by decide) rfl (by decide) rfl ?cl ?ht ?he (fun _ => rfl)) ev_int (by decide) (by decide) e0 (fun _ _ => rfl)) rfl
      case r =>
        intro s Q E S₀ h
        refine er_call (nm_range w G) (cw_type rfl rfl) (el_cons (lv_cell (c := L + 5) rfl rfl) el_nil rfl) cl_range1 rfl S₀ fun y s' k R => h y s' k R
      case cl =>
        intro y c h
        rw [law_cells]
        refine look_sub ?_ h
        intro p hp
        simp only [List.mem_cons, List.not_mem_nil, or_false] at hp
        rcases hp with rfl | rfl | rfl | rfl <;> rfl
      case he =>
        intro C j hj _
        exact ev_name rfl rfl rfl rfl
      case ht =>
        intro C j hj
        refine tests_one (et_eq (et_cmp (ev_bin (ev_bin (ev_bin (ev_name rfl rfl rfl rfl) (ev_cell (c := L + 2) rfl rfl rfl (by kernel_rfl) rfl) (o_mul ?m1)) (ev_bin (ev_cell (c := L + 6) rfl rfl rfl (by kernel_rfl) rfl) (ev_cell (c := L + 4) rfl rfl rfl (by kernel_rfl) rfl) (o_mul ?m2)) o_add) (ev_cell (c := L + 1) rfl rfl rfl (by kernel_rfl) rfl) (o_mod (by k_extra "zz"))) ev_int c_eq rfl) ?q)
        case m1 => exact mul_small (by k_extra "zz")
        case m2 => exact mul_small (by k_extra "zz")
        case q =>
          rw [Int.fmod_eq_emod_of_nonneg _ (by k_extra "zz")]
          have e1 : (j : Int) * (S : Int) + (1 + (i : Int)) * (com W S : Int) = ((j * S + (1 + i) * com W S : Nat) : Int) := by push_cast; rfl
          rw [e1, Bool.eq_iff_iff]
          simp only [beq_iff_eq]
          k_extra "zz"
    case s2 =>
      have q1 : (siz W S : Int) - 1 - (j0 : Int) = ((siz W S - 1 - j0 : Nat) : Int) := by k_extra "zz"
      have hd : ((16 ^ siz W S : Nat) : Int) - 1 ≠ 0 := by k_extra "zz"
      have hd2 : (((16 ^ siz W S : Nat) : Int) - 1).natAbs.log2 < 9000 := log2_le (b := 4294967296) (by k_extra "zz") (by decide +kernel)
      have hdiv : (((16 ^ W : Nat) : Int) - 1).fdiv (((16 ^ siz W S : Nat) : Int) - 1) = (((16 ^ W - 1) / (16 ^ siz W S - 1) : Nat) : Int) := by
        rw [Int.fdiv_eq_ediv_of_nonneg _ (by k_extra "zz"), show ((16 ^ W : Nat) : Int) - 1 = ((16 ^ W - 1 : Nat) : Int) by k_extra "zz", show ((16 ^ siz W S : Nat) : Int) - 1 = ((16 ^ siz W S - 1 : Nat) : Int) by k_extra "zz"]
        rfl
      have hle : (16 ^ W - 1) / (16 ^ siz W S - 1) ≤ 4294967296 := Nat.le_trans (Nat.div_le_self _ _) (by k_extra "zz")
      have hle2 : 16 ^ (siz W S - 1 - j0) ≤ 4294967296 := Nat.le_trans (Nat.pow_le_pow_right (show 0 < 16 by decide) (Nat.le_succ _)) pf3.2
      refine lt_assign (by decide +kernel) (ev_eq (ev_bin (ev_bin ev_int (ev_eq (ev_bin (ev_bin (lv_cell (c := L + 5) rfl rfl) ev_int o_sub) (lv_name (by decide +kernel) rfl) o_sub) (congrArg VD.int q1)) (o_pow (by k_extra "zz"))) (ev_bin (ev_bin (ev_bin ev_int (lv_cell (c := L + 1) rfl rfl) (o_pow (by k_extra "zz"))) ev_int o_sub) (ev_bin (ev_bin ev_int (lv_cell (c := L + 5) rfl rfl) (o_pow (by k_extra "zz"))) ev_int o_sub) (o_div hd hd2)) (o_mul ?m)) ?q) rfl
      case m =>
        rw [hdiv]
        exact mul_small (by k_extra "zz")
      case q =>
        rw [hdiv]
        unfold pow1
        rw [hp0]
        push_cast
        rfl
    case s3 =>
      have hpw : pow1 W S (1 + i) ≤ 4294967296 * 4294967296 := by
        unfold pow1
        rw [hp0]
        exact Nat.mul_le_mul (Nat.le_trans (Nat.pow_le_pow_right (show 0 < 16 by decide) (Nat.le_succ _)) pf3.2) (Nat.le_trans (Nat.div_le_self _ _) (by k_extra "zz"))
      refine st_aug (a := .int (num2 b W S H n i)) rfl (ev_bin (ev_bin ev_int (lv_name (by decide +kernel) rfl) (o_mul (mul_small (by decide)))) (ev_bin (ev_call (nm_int w G) (cw_type rfl rfl) (el_cons (ev_cmp (lv_cell (c := L + 6) rfl rfl) (lv_name (by decide +kernel) rfl) c_le rfl) el_nil rfl) cl_int rfl) (ev_call (nm_int w G) (cw_type rfl rfl) (el_cons (ev_cmp (lv_cell (c := L + 6) rfl rfl) (ev_bin (lv_name (by decide +kernel) rfl) (lv_cell (c := L + 4) rfl rfl) (o_div (by k_extra "zz") hc3)) c_le rfl) el_nil rfl) cl_int rfl) o_sub) (o_mul ?m)) ?op (law_kind w.params) (loc_of w.params L fa cd (x := Str.ofString "number") (by decide +kernel)).1 (lplain w.params L fa cd)
      case m =>
        refine mul_ok ?_ ?_
        · have e : (15 * (pow1 W S (1 + i) : Int)).natAbs = 15 * pow1 W S (1 + i) := by k_extra "zz"
          rw [e]
          exact Nat.lt_of_le_of_lt (Nat.mul_le_mul_left 15 hpw) (by decide +kernel)
        · refine Nat.lt_of_le_of_lt (m := 1) ?_ (by decide +kernel)
          split <;> split <;> decide
      case op =>
        have e3 : num2 b W S H n (i + 1) = num2 b W S H n i + 15 * (pow1 W S (1 + i) : Int) * ((if decide ((1 : Int) + (i : Int) ≤ goa b W S) = true then 1 else 0) - (if decide ((1 : Int) + (i : Int) ≤ (H : Int).fdiv (com W S : Int)) = true then 1 else 0)) := by
          rw [n1, Int.fdiv_eq_ediv_of_nonneg _ (by k_extra "zz")]
          simp only [decide_eq_true_eq]
          push_cast
          rfl
        rw [e3]
        exact o_iadd
end
end

section
open PySem PySem.W PyProof.Rows PySem.Calls PySem.Spec
set_option maxRecDepth 100000
set_option maxHeartbeats 4000000
theorem l_draw : (Str.ofString "draw") ∈ locN := by decide +kernel
theorem l_lots : (Str.ofString "lots") ∈ locN := by decide +kernel
theorem l_head : (Str.ofString "head") ∈ locN := by decide +kernel
theorem l_places : (Str.ofString "places") ∈ locN := by decide +kernel
theorem l_parts : (Str.ofString "parts") ∈ locN := by decide +kernel
theorem l_goal : (Str.ofString "goal") ∈ locN := by decide +kernel
theorem l_number : (Str.ofString "number") ∈ locN := by decide +kernel
theorem l_place : (Str.ofString "place") ∈ locN := by decide +kernel
theorem l_power : (Str.ofString "power") ∈ locN := by decide +kernel
theorem l_upper : (Str.ofString "upper") ∈ locN := by decide +kernel
theorem l_lower : (Str.ofString "lower") ∈ locN := by decide +kernel
theorem l_last : (Str.ofString "last") ∈ locN := by decide +kernel
theorem l_now : (Str.ofString "now") ∈ locN := by decide +kernel
theorem l_short : (Str.ofString "short") ∈ locN := by decide +kernel
theorem l_full : (Str.ofString "full") ∈ locN := by decide +kernel
theorem l_other : (Str.ofString "other") ∈ locN := by decide +kernel
theorem l_one : (Str.ofString "one") ∈ locN := by decide +kernel
theorem l_great : (Str.ofString "great") ∈ locN := by decide +kernel
theorem l_rest : (Str.ofString "rest") ∈ locN := by decide +kernel
theorem l_apart : (Str.ofString "apart") ∈ locN := by decide +kernel
theorem l_both : (Str.ofString "both") ∈ locN := by decide +kernel
theorem l_filled : (Str.ofString "filled") ∈ locN := by decide +kernel
section
variable {w : World} {h₀ : Heap} {L fa : Addr} {cd : Value} {W S H : Nat} {D O : Int} {pl : List Int}
def sL (pt : List Nat) (T : Nat) (q : LS) : List (Str × VD) := [("parts", .ints (cast1 pt)), ("upper", .int ((T * q.u : Nat) : Int)), ("lower", .int ((T * q.l : Nat) : Int)), ("last", .int (q.last : Int)), ("now", .int (q.now : Int)), ("short", .int (q.short : Int)), ("full", .int (q.full : Int)), ("other", .str q.other), ("one", .str q.one)]
def kL (W S T : Nat) : List (Str × VD) := [("times", .int (T : Int)), ("size", .int (siz W S : Int)), ("common", .int (com W S : Int)), ("wide", .int (W : Int))]
theorem h19 {σ : List (Str × VD)} (hw : WS W S) (e1 : σ.lookup (Str.ofString "lots") = some (VD.int O)) : StS PP w (lawA w.params L fa cd) h₀ (lawEnv w.params L fa cd) σ (kI W S) (lawSt w.params 19) σ (kL W S (1 + (O.fmod (((16 ^ siz W S : Nat) : Int) - 1)).toNat)) := by
  conv in lawSt _ _ => whnf
  have z1 := hw.siz1
  have z8 := hw.siz8
  have pf1 := pow_facts (n := siz W S) (by k_extra "zz") z8
  have hm := Int.fmod_nonneg_of_pos O (b := ((16 ^ siz W S : Nat) : Int) - 1) (by k_extra "zz")
  refine' st_sub (lt_assignC (c := L + 7) rfl (ev_eq (ev_bin ev_int (ev_bin (lv_name l_lots e1) (ev_bin (ev_bin ev_int (lv_cell (c := L + 5) rfl rfl) (o_pow (by k_extra "zz"))) ev_int o_sub) (o_mod (by k_extra "zz"))) o_add) ?q) rfl) .rfl' ?a
  case a => exact .of ⟨rfl, rfl, rfl, rfl, trivial⟩
  case q => exact congrArg VD.int (by k_extra "zz")
theorem h20 {σ : List (Str × VD)} {T N : Nat} (hw : WS W S) (hT : T < 2 ^ 64) (e1 : σ.lookup (Str.ofString "number") = some (VD.int (N : Int))) : StS PP w (lawA w.params L fa cd) h₀ (lawEnv w.params L fa cd) σ (kL W S T) (lawSt w.params 20) (("upper", .int ((T * ((16 ^ W - 1) / 15) : Nat) : Int)) :: ("lower", .int ((T * N : Nat) : Int)) :: σ) (kL W S T) := by
  conv in lawSt _ _ => whnf
  have wa := hw.a
  have wb := hw.b
  have pf2 := pow_facts (n := W) (by k_extra "zz") wb
  have hd : (((16 ^ W : Nat) : Int) - 1).fdiv 15 = (((16 ^ W - 1) / 15 : Nat) : Int) := by
    rw [Int.fdiv_eq_ediv_of_nonneg _ (by decide), show ((16 ^ W : Nat) : Int) - 1 = ((16 ^ W - 1 : Nat) : Int) by k_extra "zz"]
    rfl
  refine' lt_two l_upper l_lower (ev_eq (ev_bin (lv_cell (c := L + 7) rfl rfl) (ev_bin (ev_bin (ev_bin ev_int (lv_cell (c := L + 1) rfl rfl) (o_pow (by k_extra "zz"))) ev_int o_sub) ev_int (o_div (by decide) (by decide +kernel))) (o_mul (mul_small (by k_extra "zz")))) ?q1) (ev_eq (ev_bin (lv_cell (c := L + 7) rfl rfl) (lv_name l_number e1) (o_mul (mul_small (by k_extra "zz")))) ?q2) rfl rfl rfl (by kernel_rfl)
  case q1 =>
    rw [hd]
    exact congrArg VD.int (by push_cast; rfl)
  case q2 => exact congrArg VD.int (by push_cast; rfl)
theorem h21 {σ ks : List (Str × VD)} : StS PP w (lawA w.params L fa cd) h₀ (lawEnv w.params L fa cd) σ ks (lawSt w.params 21) (("now", .int 1) :: ("last", .int 1) :: σ) ks := by
  conv in lawSt _ _ => whnf
  exact st_pair (pair_lit ev_int ev_int rfl) rfl (ls_l l_last) (ls_l l_now) rfl (by kernel_rfl)
theorem h22 {σ ks : List (Str × VD)} : StS PP w (lawA w.params L fa cd) h₀ (lawEnv w.params L fa cd) σ ks (lawSt w.params 22) (("full", .int 1) :: ("short", .int 0) :: σ) ks := by
  conv in lawSt _ _ => whnf
  exact st_pair (pair_lit ev_int ev_int rfl) rfl (ls_l l_short) (ls_l l_full) rfl (by kernel_rfl)
theorem h23 {σ ks : List (Str × VD)} : StS PP w (lawA w.params L fa cd) h₀ (lawEnv w.params L fa cd) σ ks (lawSt w.params 23) (("one", .str [66]) :: ("other", .str [67]) :: σ) ks := by
  conv in lawSt _ _ => whnf
  exact st_pair (pair_lit (ev_str (by decide +kernel)) (ev_str (by decide +kernel)) rfl) rfl (ls_l l_other) (ls_l l_one) rfl (by kernel_rfl)
end
end

section
open PySem PySem.W PyProof.Rows PySem.Calls PySem.Spec
set_option maxRecDepth 100000
set_option maxHeartbeats 4000000
theorem rep1 (n c : Nat) : (List.replicate n [c]).flatten = List.replicate n c := by
  induction n with
  | zero => rfl
  | succ n ih => rw [List.replicate_succ, List.flatten_cons, ih]; rfl
theorem rep_len (n : Nat) (l : List Nat) : (List.replicate n l).flatten.length = n * l.length := by
  induction n with
  | zero => simp
  | succ n ih => rw [List.replicate_succ, List.flatten_cons, List.length_append, ih, Nat.add_mul]; (first | lia | omega)
theorem pair_eq {prog : Program} {w : World} {A : Around} {h₀ : Heap} {env : Env} {σ ks : List (Str × VD)} {e : PySem.Expr} {a b a' b' : VD} (h : PairS prog w A h₀ env σ ks e a b) (q : a = a') (r : b = b') : PairS prog w A h₀ env σ ks e a' b' := by
  subst q r
  exact h
/-- what a turn's questions say -/
structure Ask (k p : Nat) (q r : LS) : Prop where
  l0 : 0 < q.l
  p1 : 1 ≤ p
  p2 : p ≤ 100
  f8 : q.full ≤ 8
  f1 : 1 ≤ q.full
  s8 : q.short ≤ 8
  rf : r.full ≤ 16
  l9 : q.l < 16 ^ 9
  u9 : q.u < 16 ^ 9
  n20 : r.now < 16 ^ 20
  t20 : r.last < 16 ^ 20
  o20 : r.one.length ≤ 20
  r20 : r.other.length ≤ 20
  oa : ∀ c ∈ r.one, c < 128
  ra : ∀ c ∈ r.other, c < 128
  q20 : q.one.length ≤ 20
  e1 : ap6 (dig (q.u / q.l)) = (List.replicate (p - 1) (66 :: List.replicate (q.full - 1) 65)).flatten ++ [66] ++ List.replicate q.short 65
  e2 : ap6 (dig (r.now * 16 ^ r.short + r.last)) = r.one ++ r.other
  e3 : ap6 (dig (((r.now : Int) * (16 ^ r.short : Nat) + r.last - (r.last : Int) * (16 ^ r.full : Nat) - r.now).natAbs)) = [80]
  e4 : levD (r.one ++ r.other) (r.other ++ r.one) (3 + (k % 2 : Nat)) = 4
  e5 : levD r.other.reverse (r.one.reverse.map low) (if 2 * (r.full : Int) - r.short > 2 then 2 * (r.full : Int) - r.short else 2) = (if 2 * (r.full : Int) - r.short > 2 then 2 * (r.full : Int) - r.short else 2)
  e6 : 7 ≤ r.full + r.short ∨ levD (r.one ++ r.other) ((r.other ++ r.one).map low) ((r.full : Int) + r.short + 2) = (r.full : Int) + r.short + 2
theorem ask_of {k p : Nat} {q r : LS} (h : askL k p q r = true) : Ask k p q r := by
  unfold askL at h
  simp only [Bool.and_eq_true, Bool.or_eq_true, decide_eq_true_eq, beq_iff_eq, List.all_eq_true] at h
  obtain ⟨⟨⟨⟨⟨⟨⟨⟨⟨⟨⟨⟨⟨⟨⟨⟨⟨⟨⟨⟨⟨a1, a2⟩, a3⟩, a4⟩, a5⟩, a6⟩, a7⟩, a8⟩, a9⟩, a10⟩, a11⟩, a12⟩, a13⟩, a14⟩, a15⟩, a16⟩, a17⟩, a18⟩, a19⟩, a20⟩, a21⟩, a22⟩ := h
  exact ⟨a1, a2, a3, a4, a5, a6, a7, a8, a9, a10, a11, a12, a13, a14, a15, a16, a17, a18, a19, a20, a21, a22⟩
theorem dig_len (n k : Nat) (h : n < 16 ^ k) : (dig n).length ≤ k := by
  rw [dig_pd k n h]
  refine Nat.le_trans (List.dropWhile_sublist _).length_le ?_
  simp [pd]
section
variable {w : World} {h₀ : Heap} {L fa : Addr} {cd : Value} {W S H : Nat} {D O : Int} {pl : List Int}
theorem keep28 (G : LG w h₀ L fa cd) {σ ks : List (Str × VD)} {e : PySem.Expr} {es : List PySem.Expr} {pos : Pos} (hp : (backTo pos (starEach es (lawEnv w.params L fa cd))).any (·.1) = false) (he : starEach (e :: es) (lawEnv w.params L fa cd) = (false, eval e (lawEnv w.params L fa cd)) :: starEach es (lawEnv w.params L fa cd)) : CwS PP w (lawA w.params L fa cd) h₀ (lawEnv w.params L fa cd) σ ks (.ref 28) (e :: es) pos := cw_fn G.hx (keep_fns w.params).1 he hp
theorem keep203 (G : LG w h₀ L fa cd) {σ ks : List (Str × VD)} {e : PySem.Expr} {es : List PySem.Expr} {pos : Pos} (hp : (backTo pos (starEach es (lawEnv w.params L fa cd))).any (·.1) = false) (he : starEach (e :: es) (lawEnv w.params L fa cd) = (false, eval e (lawEnv w.params L fa cd)) :: starEach es (lawEnv w.params L fa cd)) : CwS PP w (lawA w.params L fa cd) h₀ (lawEnv w.params L fa cd) σ ks (.ref 203) (e :: es) pos := cw_fn G.hx (keep_fns w.params).2.1 he hp
/-- the loop's statements -/
noncomputable def bodyL (P : Params) : List Stmt := match lawSt P 24 with
  | .For _ _ b _ _ => b
  | _ => []
noncomputable def bodyAt (P : Params) (i : Nat) : Stmt := match (bodyL P)[i]? with
  | some st => st
  | none => .Pass ⟨0, 0, 0, 0⟩
def s1 (pt : List Nat) (T : Nat) (q : LS) : List (Str × VD) := ("rest", .int ((T * (q.u % q.l) : Nat) : Int)) :: ("great", .int ((q.u / q.l : Nat) : Int)) :: sL pt T q
def k1 (W S T k : Nat) : List (Str × VD) := ("k", .int ((0 : Int) + (k : Int))) :: kL W S T
variable {pt : List Nat} {T k p : Nat} {q r : LS}
theorem bq0 (hT : 0 < T) (a : Ask k p q r) : StS PP w (lawA w.params L fa cd) h₀ (lawEnv w.params L fa cd) (sL pt T q) (k1 W S T k) (bodyAt w.params 0) (sL pt T q) (k1 W S T k) := by
  conv in bodyAt _ _ => whnf
  refine st_skip (et_cmp (lv_name l_lower rfl) ev_int c_eq rfl) ?_
  have := Nat.mul_pos hT a.l0
  rw [beq_eq_false_iff_ne]
  (first | lia | omega)
theorem bq1 (G : LG w h₀ L fa cd) (hT : 0 < T) (hT2 : T < 2 ^ 64) (a : Ask k p q r) : StS PP w (lawA w.params L fa cd) h₀ (lawEnv w.params L fa cd) (sL pt T q) (k1 W S T k) (bodyAt w.params 1) (s1 pt T q) (k1 W S T k) := by
  conv in bodyAt _ _ => whnf
  have h0 := Nat.mul_pos hT a.l0
  have hl : ((T * q.l : Nat) : Int).natAbs.log2 < 9000 := by
    rw [Int.natAbs_natCast]
    exact log2_le (Nat.mul_le_mul (Nat.le_of_lt hT2) (Nat.le_of_lt a.l9)) (by decide +kernel)
  refine' st_pair (pair_eq (pair_call w (nm_divmod w G) (cw_builtin rfl rfl) (el_cons (lv_name l_upper rfl) (el_cons (lv_name l_lower rfl) el_nil ?q4) ?q3) (cl_divmod (by (first | lia | omega)) hl) rfl) ?q1 ?q2) rfl (ls_l l_great) (ls_l l_rest) rfl (by kernel_rfl)
  case q1 =>
    rw [Int.fdiv_eq_ediv_of_nonneg _ (by (first | lia | omega))]
    exact congrArg VD.int (by rw [← Int.natCast_ediv, Nat.mul_div_mul_left _ _ hT])
  case q2 =>
    rw [Int.fmod_eq_emod_of_nonneg _ (by (first | lia | omega))]
    exact congrArg VD.int (by rw [← Int.natCast_emod, Nat.mul_mod_mul_left])
  case q3 => rfl
  case q4 => rfl
end
end

section
open PySem PySem.W PyProof.Rows PySem.Calls PySem.Spec
set_option maxRecDepth 100000
set_option maxHeartbeats 4000000
section
variable {w : World} {h₀ : Heap} {L fa : Addr} {cd : Value} {W S H : Nat} {D O : Int} {pl : List Int}
variable {pt : List Nat} {T k p : Nat} {q r : LS}
def s3 (pt : List Nat) (T : Nat) (q : LS) : List (Str × VD) := ("upper", .int ((T * q.l : Nat) : Int)) :: ("lower", .int ((T * (q.u % q.l) : Nat) : Int)) :: s1 pt T q
def s4 (pt : List Nat) (T : Nat) (q r : LS) : List (Str × VD) := ("last", .int (q.now : Int)) :: ("now", .int (r.now : Int)) :: s3 pt T q
def s5 (pt : List Nat) (T : Nat) (q r : LS) : List (Str × VD) := ("short", .int (q.full : Int)) :: ("full", .int (r.full : Int)) :: s4 pt T q r
def s6 (pt : List Nat) (T : Nat) (q r : LS) : List (Str × VD) := ("other", .str q.one) :: ("one", .str r.one) :: s5 pt T q r
def apN (r : LS) : Nat := (if 2 * (r.full : Int) - r.short > 2 then 2 * (r.full : Int) - r.short else 2).toNat
def s10 (pt : List Nat) (T : Nat) (q r : LS) : List (Str × VD) := ("apart", .int (apN r : Int)) :: s6 pt T q r
def s12 (pt : List Nat) (T : Nat) (q r : LS) : List (Str × VD) := ("both", .int ((r.full : Int) + (q.full : Int))) :: s10 pt T q r
theorem part_at (hk : pt[k]? = some p) : (cast1 pt)[((0 : Int) + (k : Int)).toNat]? = some (p : Int) := by
  rw [show ((0 : Int) + (k : Int)).toNat = k by k_extra "zz"]
  unfold cast1
  rw [List.getElem?_map, hk]
  rfl
theorem bq2 (G : LG w h₀ L fa cd) (a : Ask k p q r) (hk : pt[k]? = some p) (hk2 : k ≤ 1000) : StS PP w (lawA w.params L fa cd) h₀ (lawEnv w.params L fa cd) (s1 pt T q) (k1 W S T k) (bodyAt w.params 2) (s1 pt T q) (k1 W S T k) := by
  conv in bodyAt _ _ => whnf
  have hd : (dig (-((q.u / q.l : Nat) : Int)).natAbs).length ≤ 1000 := by
    rw [Int.natAbs_neg, Int.natAbs_natCast]
    exact Nat.le_trans (dig_len _ 9 (Nat.lt_of_le_of_lt (Nat.div_le_self _ _) a.u9)) (by decide)
  have f1 := a.f1
  have f8 := a.f8
  have p1 := a.p1
  have p2 := a.p2
  have s8 := a.s8
  have e7 : ((q.full : Int) - 1).toNat = q.full - 1 := by k_extra "zz"
  have e8 : ((p : Int) - 1).toNat = p - 1 := by k_extra "zz"
  have e9 : ((q.short : Int)).toNat = q.short := by k_extra "zz"
  have hz := Nat.mul_le_mul (show p - 1 ≤ 100 by k_extra "zz") (show 0 + 1 + (q.full - 1) * (0 + 1) ≤ 8 by k_extra "zz")
  refine' st_skip (et_cmp (ev_call (nm_int2ap w G) (keep28 G rfl rfl) (el_cons (ev_neg (lv_name l_great rfl)) el_nil rfl) (cl_int2ap w G hd) rfl) (ev_bin (ev_bin (ev_bin (ev_bin (ev_bytes (l := [66]) (by decide +kernel)) (ev_bin (ev_bytes (l := [65]) (by decide +kernel)) (ev_bin (lv_name l_full rfl) ev_int o_sub) (o_mulb (by decide) (by decide) (by k_extra "zz") (by k_extra "zz"))) (o_addb ?z1)) (ev_bin (ev_at (lv_name l_parts rfl) (lv_cell (c := L + 6) rfl rfl) (by k_extra "zz") (by k_extra "zz") (part_at hk) (fun _ _ => rfl)) ev_int o_sub) (o_mulb (by simp) ?z2 (by k_extra "zz") (by k_extra "zz"))) (ev_bytes (l := [66]) (by decide +kernel)) (o_addb ?z3)) (ev_bin (ev_bytes (l := [65]) (by decide +kernel)) (lv_name l_short rfl) (o_mulb (by decide) (by decide) (by k_extra "zz") (by k_extra "zz"))) (o_addb ?z4)) (c_neb ?e) rfl) rfl
  case z1 => rw [rep_len, e7]; simp only [List.length_cons, List.length_nil]; k_extra "zz"
  case z2 => rw [List.length_append, rep_len, e7]; simp only [List.length_cons, List.length_nil]; k_extra "zz"
  case z3 => rw [rep_len, List.length_append, rep_len, e7, e8]; simp only [List.length_cons, List.length_nil]; k_extra "zz"
  case z4 => rw [List.length_append, rep_len, List.length_append, rep_len, rep_len, e7, e8, e9]; simp only [List.length_cons, List.length_nil]; k_extra "zz"
  case e =>
    rw [Int.natAbs_neg, Int.natAbs_natCast, e7, e8, e9, rep1, rep1, a.e1]
    rfl
theorem bq3 : StS PP w (lawA w.params L fa cd) h₀ (lawEnv w.params L fa cd) (s1 pt T q) (k1 W S T k) (bodyAt w.params 3) (s3 pt T q) (k1 W S T k) := by
  conv in bodyAt _ _ => whnf
  exact lt_two l_upper l_lower (lv_name l_lower rfl) (lv_name l_rest rfl) rfl rfl rfl (by kernel_rfl)
theorem bq4 (hr : r = stepL k p q) (a : Ask k p q r) : StS PP w (lawA w.params L fa cd) h₀ (lawEnv w.params L fa cd) (s3 pt T q) (k1 W S T k) (bodyAt w.params 4) (s4 pt T q r) (k1 W S T k) := by
  conv in bodyAt _ _ => whnf
  have hn : r.now = q.u / q.l * q.now + q.last := by rw [hr]; rfl
  refine' lt_two l_last l_now (lv_name l_now rfl) (ev_eq (ev_bin (ev_bin (lv_name l_great rfl) (lv_name l_now rfl) (o_mul ?m)) (lv_name l_last rfl) o_add) ?q) rfl rfl rfl (by kernel_rfl)
  case q => rw [hn]; exact congrArg VD.int (by push_cast; rfl)
  case m =>
    refine mul_small ?_
    rw [Int.natAbs_natCast]
    exact Nat.lt_of_le_of_lt (Nat.div_le_self _ _) (Nat.lt_trans a.u9 (by decide))
theorem b5 (hr : r = stepL k p q) (a : Ask k p q r) (hk : pt[k]? = some p) (hk2 : k ≤ 1000) : StS PP w (lawA w.params L fa cd) h₀ (lawEnv w.params L fa cd) (s4 pt T q r) (k1 W S T k) (bodyAt w.params 5) (s5 pt T q r) (k1 W S T k) := by
  conv in bodyAt _ _ => whnf
  have hn : r.full = p * q.full + q.short := by rw [hr]; rfl
  have p2 := a.p2
  refine' lt_two l_short l_full (lv_name l_full rfl) (ev_eq (ev_bin (ev_bin (ev_at (lv_name l_parts rfl) (lv_cell (c := L + 6) rfl rfl) (by k_extra "zz") (by k_extra "zz") (part_at hk) (fun _ _ => rfl)) (lv_name l_full rfl) (o_mul (mul_small (by k_extra "zz")))) (lv_name l_short rfl) o_add) ?q) rfl rfl rfl (by kernel_rfl)
  case q => rw [hn]; exact congrArg VD.int (by push_cast; rfl)
theorem b6 (G : LG w h₀ L fa cd) (hr : r = stepL k p q) (a : Ask k p q r) (hk : pt[k]? = some p) (hk2 : k ≤ 1000) : StS PP w (lawA w.params L fa cd) h₀ (lawEnv w.params L fa cd) (s5 pt T q r) (k1 W S T k) (bodyAt w.params 6) (s6 pt T q r) (k1 W S T k) := by
  conv in bodyAt _ _ => whnf
  have hn : r.one = (List.replicate (p - if k = 0 then 1 else 0) q.one).flatten ++ q.other := by rw [hr]; rfl
  have p1 := a.p1
  have p2 := a.p2
  have q20 := a.q20
  have ho := a.o20
  rw [hn, List.length_append] at ho
  have e1 : (p : Int) - (if (((0 : Int) + (k : Int)) == 0) = true then 1 else 0) = ((p - if k = 0 then 1 else 0 : Nat) : Int) := by
    by_cases h : k = 0
    · subst h
      simp
      k_extra "zz"
    · rw [if_neg h, if_neg (by simp; k_extra "zz")]
      k_extra "zz"
  refine' lt_two l_other l_one (lv_name l_one rfl) (ev_eq (ev_bin (ev_bin (lv_name l_one rfl) (ev_eq (ev_bin (ev_at (lv_name l_parts rfl) (lv_cell (c := L + 6) rfl rfl) (by k_extra "zz") (by k_extra "zz") (part_at hk) (fun _ _ => rfl)) (ev_call (nm_int w G) (cw_type rfl rfl) (el_cons (ev_cmp (lv_cell (c := L + 6) rfl rfl) ev_int c_eq rfl) el_nil rfl) cl_int rfl) o_sub) (congrArg VD.int e1)) (o_muls ?z1 (by k_extra "zz"))) (lv_name l_other rfl) (o_adds (by k_extra "zz"))) ?q) rfl rfl rfl (by kernel_rfl)
  case z1 => split <;> k_extra "zz"
  case q => rw [hn]
theorem b7 (G : LG w h₀ L fa cd) (hr : r = stepL k p q) (a : Ask k p q r) : StS PP w (lawA w.params L fa cd) h₀ (lawEnv w.params L fa cd) (s6 pt T q r) (k1 W S T k) (bodyAt w.params 7) (s6 pt T q r) (k1 W S T k) := by
  conv in bodyAt _ _ => whnf
  have h1 : r.short = q.full := by rw [hr]; rfl
  have h2 : r.last = q.now := by rw [hr]; rfl
  have h3 : r.other = q.one := by rw [hr]; rfl
  have f8 := a.f8
  have ho := a.o20
  have hq := a.q20
  have e0 : ((r.now : Int) * ((16 ^ q.full : Nat) : Int) + (q.now : Int)).natAbs = r.now * 16 ^ r.short + r.last := by
    rw [h1, h2]
    have : (r.now : Int) * ((16 ^ q.full : Nat) : Int) + (q.now : Int) = ((r.now * 16 ^ q.full + q.now : Nat) : Int) := by push_cast; rfl
    rw [this, Int.natAbs_natCast]
  have hd : (dig ((r.now : Int) * ((16 ^ q.full : Nat) : Int) + (q.now : Int)).natAbs).length ≤ 1000 := by
    have := congrArg List.length a.e2
    unfold ap6 at this
    rw [e0]
    rw [List.length_map, List.length_append, h3] at this
    k_extra "zz"
  have pf := pow_facts (n := q.full) a.f1 f8
  have hasc : ∀ c ∈ r.one ++ q.one, c < 128 := fun c hc => by
    rcases List.mem_append.mp hc with h | h
    · exact a.oa c h
    · exact a.ra c (h3 ▸ h)
  refine' st_skip (et_cmp (ev_call (nm_int2ap w G) (keep28 G rfl rfl) (el_cons (ev_bin (ev_bin (lv_name l_now rfl) (ev_bin ev_int (lv_name l_short rfl) (o_pow (by k_extra "zz"))) (o_mul (mul_ok ?m1 ?m2))) (lv_name l_last rfl) o_add) el_nil rfl) (cl_int2ap w G hd) rfl) (ev_encode (ev_bin (lv_name l_one rfl) (lv_name l_other rfl) (o_adds (by k_extra "zz"))) (ev_str (by decide +kernel)) hasc ?z rfl rfl) (c_neb ?e) rfl) rfl
  case m1 => rw [Int.natAbs_natCast]; exact Nat.lt_trans a.n20 (by decide +kernel)
  case m2 => rw [Int.natAbs_natCast]; exact Nat.lt_of_le_of_lt pf.2 (by decide +kernel)
  case z => rw [List.length_append]; k_extra "zz"
  case e => rw [e0, a.e2, h3]
theorem b8 (G : LG w h₀ L fa cd) (hr : r = stepL k p q) (a : Ask k p q r) : StS PP w (lawA w.params L fa cd) h₀ (lawEnv w.params L fa cd) (s6 pt T q r) (k1 W S T k) (bodyAt w.params 8) (s6 pt T q r) (k1 W S T k) := by
  conv in bodyAt _ _ => whnf
  have h1 : r.short = q.full := by rw [hr]; rfl
  have h2 : r.last = q.now := by rw [hr]; rfl
  have f8 := a.f8
  have rf := a.rf
  have pf := pow_facts (n := q.full) a.f1 f8
  have pf2 : 16 ^ r.full ≤ 16 ^ 16 := Nat.pow_le_pow_right (by decide) rf
  have e0 := a.e3
  rw [h1, h2] at e0
  have hd : (dig ((r.now : Int) * ((16 ^ q.full : Nat) : Int) + (q.now : Int) - (q.now : Int) * ((16 ^ r.full : Nat) : Int) - (r.now : Int)).natAbs).length ≤ 1000 := by
    have := congrArg List.length e0
    unfold ap6 at this
    rw [List.length_map] at this
    rw [this]
    decide
  refine' st_skip (et_cmp (ev_call (nm_int2ap w G) (keep28 G rfl rfl) (el_cons (ev_bin (ev_bin (ev_bin (ev_bin (lv_name l_now rfl) (ev_bin ev_int (lv_name l_short rfl) (o_pow (by k_extra "zz"))) (o_mul (mul_ok ?m1 ?m2))) (lv_name l_last rfl) o_add) (ev_bin (lv_name l_last rfl) (ev_bin ev_int (lv_name l_full rfl) (o_pow (by k_extra "zz"))) (o_mul (mul_ok ?m3 ?m4))) o_sub) (lv_name l_now rfl) o_sub) el_nil rfl) (cl_int2ap w G hd) rfl) (ev_bytes (l := [80]) (by decide +kernel)) (c_neb e0) rfl) rfl
  case m1 => rw [Int.natAbs_natCast]; exact Nat.lt_trans a.n20 (by decide +kernel)
  case m2 => rw [Int.natAbs_natCast]; exact Nat.lt_of_le_of_lt pf.2 (by decide +kernel)
  case m3 => rw [Int.natAbs_natCast, ← h2]; exact Nat.lt_trans a.t20 (by decide +kernel)
  case m4 => rw [Int.natAbs_natCast]; exact Nat.lt_of_le_of_lt pf2 (by decide +kernel)
theorem b9 (G : LG w h₀ L fa cd) (hr : r = stepL k p q) (a : Ask k p q r) : StS PP w (lawA w.params L fa cd) h₀ (lawEnv w.params L fa cd) (s6 pt T q r) (k1 W S T k) (bodyAt w.params 9) (s6 pt T q r) (k1 W S T k) := by
  conv in bodyAt _ _ => whnf
  have h3 : r.other = q.one := by rw [hr]; rfl
  have ho := a.o20
  have hq := a.q20
  have e0 := a.e4
  rw [h3] at e0
  have hasc : ∀ c ∈ r.one ++ q.one, c < 128 := fun c hc => by
    rcases List.mem_append.mp hc with h | h
    · exact a.oa c h
    · exact a.ra c (h3 ▸ h)
  have hasc2 : ∀ c ∈ q.one ++ r.one, c < 128 := fun c hc => hasc c (List.mem_append.mpr (List.mem_append.mp hc).symm)
  have ek : (3 : Int) + ((0 : Int) + (k : Int)).fmod 2 = ((3 + k % 2 : Nat) : Int) := by
    rw [Int.fmod_eq_emod_of_nonneg _ (by decide)]
    k_extra "zz"
  refine' st_skip (et_cmp (ev_call (nm_lev w G) (keep203 G rfl rfl) (el_cons (ev_bin (lv_name l_one rfl) (lv_name l_other rfl) (o_adds (by k_extra "zz"))) (el_cons (ev_bin (lv_name l_other rfl) (lv_name l_one rfl) (o_adds (by k_extra "zz"))) (el_cons (ev_eq (ev_bin ev_int (ev_bin (lv_cell (c := L + 6) rfl rfl) ev_int (o_mod (by decide))) o_add) (congrArg VD.int ek)) el_nil rfl) rfl) rfl) (cl_lev w G ?z1 ?z2 hasc hasc2) rfl) ev_int c_ne rfl) ?b
  case z1 => rw [List.length_append]; k_extra "zz"
  case z2 => rw [List.length_append]; k_extra "zz"
  case b =>
    rw [show (((3 + k % 2 : Nat) : Nat) : Int) = 3 + ((k % 2 : Nat) : Int) by k_extra "zz", e0]
    rfl
theorem ap_eq : ((apN r : Nat) : Int) = (if 2 * (r.full : Int) - r.short > 2 then 2 * (r.full : Int) - r.short else 2) := by
  unfold apN
  split <;> k_extra "zz"
theorem b10 (G : LG w h₀ L fa cd) (hr : r = stepL k p q) : StS PP w (lawA w.params L fa cd) h₀ (lawEnv w.params L fa cd) (s6 pt T q r) (k1 W S T k) (bodyAt w.params 10) (s10 pt T q r) (k1 W S T k) := by
  conv in bodyAt _ _ => whnf
  have h1 : r.short = q.full := by rw [hr]; rfl
  refine' lt_assign l_apart (ev_eq (ev_call (nm_max w G) (cw_builtin rfl rfl) (el_cons ev_int (el_cons (ev_bin (ev_bin ev_int (lv_name l_full rfl) (o_mul (mul_small (by decide)))) (lv_name l_short rfl) o_sub) el_nil rfl) rfl) (cl_max rfl) rfl) ?q) rfl
  rw [ap_eq, h1]
theorem b11 (G : LG w h₀ L fa cd) (hr : r = stepL k p q) (a : Ask k p q r) : StS PP w (lawA w.params L fa cd) h₀ (lawEnv w.params L fa cd) (s10 pt T q r) (k1 W S T k) (bodyAt w.params 11) (s10 pt T q r) (k1 W S T k) := by
  conv in bodyAt _ _ => whnf
  have h3 : r.other = q.one := by rw [hr]; rfl
  have ho := a.o20
  have hq := a.q20
  have e0 := a.e5
  rw [h3, ← ap_eq] at e0
  have oa : ∀ c ∈ r.one.reverse, c < 128 := fun c hc => a.oa c (List.mem_reverse.mp hc)
  have ra : ∀ c ∈ q.one.reverse, c < 128 := fun c hc => a.ra c (h3 ▸ List.mem_reverse.mp hc)
  have low_asc : ∀ c ∈ r.one.reverse.map low, c < 128 := fun c hc => by
    obtain ⟨d, hd, rfl⟩ := List.mem_map.mp hc
    have := oa d hd
    unfold low
    split <;> k_extra "zz"
  refine' st_skip (et_cmp (ev_call (nm_lev w G) (keep203 G rfl rfl) (el_cons (ev_rev (lv_name l_other rfl) (ev_neg ev_int) (by k_extra "zz") (fun _ _ _ => rfl) (fun _ _ _ => rfl)) (el_cons (ev_lower (ev_rev (lv_name l_one rfl) (ev_neg ev_int) (by k_extra "zz") (fun _ _ _ => rfl) (fun _ _ _ => rfl)) oa (by rw [List.length_reverse]; k_extra "zz") rfl) (el_cons (lv_name l_apart rfl) el_nil rfl) rfl) rfl) (cl_lev w G (by rw [List.length_reverse]; k_extra "zz") (by rw [List.length_map, List.length_reverse]; k_extra "zz") ra low_asc) rfl) (lv_name l_apart rfl) c_ne rfl) ?b
  rw [e0]
  simp
theorem b12 : StS PP w (lawA w.params L fa cd) h₀ (lawEnv w.params L fa cd) (s10 pt T q r) (k1 W S T k) (bodyAt w.params 12) (s12 pt T q r) (k1 W S T k) := by
  conv in bodyAt _ _ => whnf
  exact lt_assign l_both (ev_bin (lv_name l_full rfl) (lv_name l_short rfl) o_add) rfl
theorem b13 (G : LG w h₀ L fa cd) (hr : r = stepL k p q) (a : Ask k p q r) : StS PP w (lawA w.params L fa cd) h₀ (lawEnv w.params L fa cd) (s12 pt T q r) (k1 W S T k) (bodyAt w.params 13) (s12 pt T q r) (k1 W S T k) := by
  conv in bodyAt _ _ => whnf
  have h1 : r.short = q.full := by rw [hr]; rfl
  have h3 : r.other = q.one := by rw [hr]; rfl
  have ho := a.o20
  have hq := a.q20
  have e0 := a.e6
  rw [h3, h1] at e0
  have hasc : ∀ c ∈ r.one ++ q.one, c < 128 := fun c hc => by
    rcases List.mem_append.mp hc with h | h
    · exact a.oa c h
    · exact a.ra c (h3 ▸ h)
  have hasc2 : ∀ c ∈ q.one ++ r.one, c < 128 := fun c hc => hasc c (List.mem_append.mpr (List.mem_append.mp hc).symm)
  have low_asc : ∀ c ∈ (q.one ++ r.one).map low, c < 128 := fun c hc => by
    obtain ⟨d, hd, rfl⟩ := List.mem_map.mp hc
    have := hasc2 d hd
    unfold low
    split <;> k_extra "zz"
  have eb : (r.full : Int) + (q.full : Int) + 2 = ((r.full + q.full + 2 : Nat) : Int) := by k_extra "zz"
  refine' st_skip (et_and (b := levD (r.one ++ q.one) ((q.one ++ r.one).map low) ((r.full + q.full + 2 : Nat) : Int) != (r.full : Int) + (q.full : Int) + 2) (et_cmp (lv_name l_both rfl) ev_int c_lt rfl) (fun _ => et_cmp (ev_call (nm_lev w G) (keep203 G rfl rfl) (el_cons (ev_bin (lv_name l_one rfl) (lv_name l_other rfl) (o_adds (by k_extra "zz"))) (el_cons (ev_lower (ev_bin (lv_name l_other rfl) (lv_name l_one rfl) (o_adds (by k_extra "zz"))) hasc2 ?z rfl) (el_cons (ev_eq (ev_bin (lv_name l_both rfl) ev_int o_add) (congrArg VD.int eb)) el_nil rfl) rfl) rfl) (cl_lev w G ?z1 ?z2 hasc low_asc) rfl) (ev_bin (lv_name l_both rfl) ev_int o_add) c_ne rfl)) ?b
  case z => rw [List.length_append]; k_extra "zz"
  case z1 => rw [List.length_append]; k_extra "zz"
  case z2 => rw [List.length_map, List.length_append]; k_extra "zz"
  case b =>
    rw [← eb]
    rcases e0 with h | h
    · rw [decide_eq_false (by k_extra "zz"), Bool.false_and]
    · rw [h]
      simp
end
end

section
open PySem PySem.W PyProof.Rows PySem.Calls PySem.Spec
set_option maxRecDepth 100000
set_option maxHeartbeats 4000000
section
variable {w : World} {h₀ : Heap} {L fa : Addr} {cd : Value} {W S H : Nat} {D O : Int} {pl : List Int} {pt : List Nat} {T : Nat}
theorem cl_chr {A : Around} {env : Env} {σ ks : List (Str × VD)} {prog : Program} {n : Int} (h0 : 0 ≤ n) (h1 : n ≤ 1114111) : CalR prog w A h₀ env σ ks (.builtin "chr") [.int n] fun h v => ok h (.str [n.toNat]) v := .mk fun vs s Q E S o h => by
  match vs, o with
  | [v], o =>
    obtain ⟨t, rfl⟩ := o.1
    exact chr_of_range h0 h1 (h _ _ .tok ⟨_, rfl⟩)
theorem nm_chr (G : LG w h₀ L fa cd) {A : Around} {scope : Scope} {cl : List (Str × Addr)} {C : Addr} {σ ks : List (Str × VD)} {pos : Pos} (hk : scope.kind = .function) (hx : (compEnvC scope cl C (lawEnv w.params L fa cd)).kindOf (Str.ofString "chr") = some .globalImplicit) :
    NmS PP w A h₀ (compEnvC scope cl C (lawEnv w.params L fa cd)) σ ks (.Name "chr" pos) (.builtin "chr") := .mk fun s Q E S₀ h => by
  obtain ⟨m, F, _⟩ := S₀.fr
  obtain ⟨p, loose, mean, mg, mb, Tp⟩ := G.tp
  exact Name_function_global hk hx (loadGlobal_builtin (env := compEnvC scope cl C (lawEnv w.params L fa cd)) (Tp.g.keeps F.keep) (mg_none_of G.hx Tp.g (by kernel_rfl)) (Tp.b.keeps F.keep) ((Tp.builtins (Str.ofString "chr") (by decide)).trans (by boot_by_name)) h) (by decide)
theorem h24 (G : LG w h₀ L fa cd) {b : Bool} (hT : 0 < T) (hT2 : T < 2 ^ 64) (hlen : (prt b W S).length ≤ 1000) (hask : ∀ k, k < (prt b W S).length → askL k ((prt b W S).getD k 0) (runL b W S k) (runL b W S (k + 1)) = true) :
    StS PP w (lawA w.params L fa cd) h₀ (lawEnv w.params L fa cd) (sL (prt b W S) T (inL b W S)) (kL W S T) (lawSt w.params 24) (sL (prt b W S) T (runL b W S (prt b W S).length)) (kL W S T) := by
  have e : lawSt w.params 24 = lawSt w.params 24 := rfl
  conv in lawSt _ _ => whnf
  refine' st_for (a := 0) (n := (prt b W S).length) (fun i => sL (prt b W S) T (runL b W S i)) (fun _ => kL W S T) (fun i => sL (prt b W S) T (runL b W S i)) (fun i => k1 W S T i) rfl ?hr (by decide) (by decide) hlen (fun i hi => ls_c (c := L + 6) rfl) (fun i hi => ?hb) (fun _ => rfl)
  case hr =>
    intro s Q E S₀ h
    refine er_call (nm_range w G) (cw_type rfl rfl) (el_cons (ev_call (nm_len w G) (cw_builtin rfl rfl) (el_cons (lv_name l_parts rfl) el_nil rfl) (cl_len (ns := cast1 (prt b W S)) (by rw [cast1, List.length_map]; (first | lia | omega))) rfl) el_nil rfl) cl_range1 rfl S₀ fun y s' k R => h y s' k ?_
    rw [cast1, List.length_map] at R
    rw [Int.zero_add]
    exact R
  case hb =>
    have a := ask_of (hask i hi)
    have hr : runL b W S (i + 1) = stepL i ((prt b W S).getD i 0) (runL b W S i) := rfl
    have hk : (prt b W S)[i]? = some ((prt b W S).getD i 0) := by
      rw [List.getD_eq_getElem?_getD, List.getElem?_eq_getElem hi]; rfl
    have hk2 : i ≤ 1000 := by (first | lia | omega)
    generalize runL b W S i = q at *
    generalize runL b W S (i + 1) = r at *
    generalize (prt b W S).getD i 0 = p at *
    show ExS _ _ _ _ _ _ _ [bodyAt w.params 0, bodyAt w.params 1, bodyAt w.params 2, bodyAt w.params 3, bodyAt w.params 4, bodyAt w.params 5, bodyAt w.params 6, bodyAt w.params 7, bodyAt w.params 8, bodyAt w.params 9, bodyAt w.params 10, bodyAt w.params 11, bodyAt w.params 12, bodyAt w.params 13] _ _
    refine ex_sub (ex_cons (bq0 hT a) (ex_cons (bq1 G hT hT2 a) (ex_cons (bq2 G a hk hk2) (ex_cons bq3 (ex_cons (bq4 hr a) (ex_cons (b5 hr a hk hk2) (ex_cons (b6 G hr a hk hk2) (ex_cons (b7 G hr a) (ex_cons (b8 G hr a) (ex_cons (b9 G hr a) (ex_cons (b10 G hr) (ex_cons (b11 G hr a) (ex_cons b12 (ex_cons (b13 G hr a) ex_nil)))))))))))))) ?_ ?_
    · have e1 : r.u = q.l := by rw [hr]; rfl
      have e2 : r.l = q.u % q.l := by rw [hr]; rfl
      have e3 : r.last = q.now := by rw [hr]; rfl
      have e4 : r.short = q.full := by rw [hr]; rfl
      have e5 : r.other = q.one := by rw [hr]; rfl
      refine .of ?_
      unfold sL
      rw [e1, e2, e3, e4, e5]
      exact ⟨rfl, rfl, rfl, rfl, rfl, rfl, rfl, rfl, rfl, trivial⟩
    · exact .of ⟨rfl, rfl, rfl, rfl, trivial⟩
theorem law_closM (P : Params) (L fa : Addr) (cd : Value) : closureFor { kind := .function, names := [(".0", .local), ("k", .local), ("chr", .globalImplicit), ("size", .free), ("times", .free)], isGenerator := false, isCoroutine := false, more := [] } (lawEnv P L fa cd) = pure ([(("times" : Str), L + 7), ("size", L + 5)] : List (Str × Addr)) := by kernel_rfl
theorem vals_strs : ∀ {vs : List Value} {ls : List (List Nat)}, vals vs (ls.map .str) → ∃ l : List (Str × Tok), vs = strValues l ∧ l.map (·.1) = ls.map tx
  | [], [], _ => ⟨[], rfl, rfl⟩
  | v :: vs, x :: ls, h => by
    obtain ⟨t, rfl⟩ := h.1 default
    obtain ⟨l, rfl, e⟩ := vals_strs h.2
    exact ⟨(tx x, t) :: l, rfl, by rw [List.map_cons, List.map_cons, e]⟩
  | [], _ :: _, h => h.elim
  | _ :: _, [], h => h.elim
theorem flat_one (f : Nat → Nat) : ∀ l : List Nat, (l.map fun i => [f i]).flatten = l.map f
  | [] => rfl
  | x :: l => by rw [List.map_cons, List.flatten_cons, flat_one f l]; rfl
theorem one_weight (f : Nat → Nat) : ∀ l : List Nat, ((((l.map fun i => [f i]).map tx).map (·.length)).sum + ((l.map fun i => [f i]).map tx).length) = 2 * l.length
  | [] => rfl
  | x :: l => by
    have ih := one_weight f l
    simp only [List.map_cons, List.sum_cons, List.length_cons, tx_len, List.length_nil] at ih ⊢
    (first | lia | omega)
theorem h25 (G : LG w h₀ L fa cd) (hw : WS W S) {σ : List (Str × VD)} : StS PP w (lawA w.params L fa cd) h₀ (lawEnv w.params L fa cd) σ (kL W S T) (lawSt w.params 25) (("filled", .str (ap6 (pd T (siz W S)))) :: σ) (kL W S T) := by
  conv in lawSt _ _ => whnf
  have z1 := hw.siz1
  have z8 := hw.siz8
  refine lt_assign l_filled (.mk ?_) rfl
  intro s Q E S₀ h
  refine MethodCall_ ((ev_str (l := []) (by decide +kernel)).out s _ _ S₀ fun v s₁ k₁ o₁ => ?_) rfl
  obtain ⟨t, rfl⟩ := o₁
  refine GM.join (PyProof.Rows.callWith_method1 (args_cons (er_comp (n := siz W S) (cl := [("times", L + 7), ("size", L + 5)]) (fun _ => true) (fun i => .str [65 + T / 16 ^ (siz W S - 1 - i) % 16]) rfl ?r (by (first | lia | omega)) (law_closM _ _ _ _) (by decide) rfl (by decide) rfl ?cl (fun _ => plain_str) (fun _ _ _ => tests_nil) ?he (fun _ => rfl) (S₀.keeps k₁) fun Da ys m s₂ k₂ hg hv => args_nil ?fin) rfl) rfl rfl)
  case r =>
    intro s Q E S₀ h
    refine er_call (nm_range w G) (cw_type rfl rfl) (el_cons (lv_cell (c := L + 5) rfl rfl) el_nil rfl) cl_range1 rfl S₀ fun y s' k R => h y s' k R
  case cl =>
    intro y c h
    rw [law_cells]
    refine look_sub ?_ h
    intro p hp
    simp only [List.mem_cons, List.not_mem_nil, or_false] at hp
    rcases hp with rfl | rfl <;> rfl
  case he =>
    intro C i hi _
    have q1 : (siz W S : Int) - 1 - (i : Int) = ((siz W S - 1 - i : Nat) : Int) := by (first | lia | omega)
    have pf := pow_facts (n := siz W S - 1 - i + 1) (by (first | lia | omega)) (by (first | lia | omega))
    have hpos : 0 < 16 ^ (siz W S - 1 - i) := Nat.pow_pos (by decide)
    have hle : 16 ^ (siz W S - 1 - i) ≤ 4294967296 := Nat.le_trans (Nat.pow_le_pow_right (show 0 < 16 by decide) (Nat.le_succ _)) pf.2
    have hl : ((16 ^ (siz W S - 1 - i) : Nat) : Int).natAbs.log2 < 9000 := by
      rw [Int.natAbs_natCast]
      exact log2_le hle (by decide +kernel)
    have hv : (65 : Int) + (((T : Int).fdiv ((16 ^ (siz W S - 1 - i) : Nat) : Int)).fmod 16) = ((65 + T / 16 ^ (siz W S - 1 - i) % 16 : Nat) : Int) := by
      rw [Int.fdiv_eq_ediv_of_nonneg _ (by (first | lia | omega)), Int.fmod_eq_emod_of_nonneg _ (by decide), ← Int.natCast_ediv]
      (first | lia | omega)
    refine ev_eq (ev_call (nm_chr G rfl (by kernel_rfl)) (cw_builtin rfl rfl) (el_cons (ev_eq (ev_bin ev_int (ev_bin (ev_bin (ev_cell (c := L + 7) rfl rfl rfl (by kernel_rfl) rfl) (ev_bin ev_int (ev_eq (ev_bin (ev_bin (ev_cell (c := L + 5) rfl rfl rfl (by kernel_rfl) rfl) ev_int o_sub) (ev_name rfl rfl rfl rfl) o_sub) (congrArg VD.int q1)) (o_pow (by (first | lia | omega)))) (o_div (by (first | lia | omega)) hl)) ev_int (o_mod (by decide))) o_add) (congrArg VD.int hv)) el_nil rfl) (cl_chr (by (first | lia | omega)) (by (first | lia | omega))) rfl) ?_
    rw [Int.toNat_natCast]
  case fin =>
    have hf : ((List.range (siz W S)).filter fun _ => true) = List.range (siz W S) := List.filter_eq_self.mpr fun _ _ => rfl
    rw [hf, show ((List.range (siz W S)).map fun i => VD.str [65 + T / 16 ^ (siz W S - 1 - i) % 16]) = (((List.range (siz W S)).map fun i => [65 + T / 16 ^ (siz W S - 1 - i) % 16]).map VD.str) by rw [List.map_map]; rfl] at hv
    obtain ⟨l, rfl, el⟩ := vals_strs hv
    rw [show tx ([] : List Nat) = Str.ofString "" by decide +kernel]
    refine SC.join ⟨_, hg, rfl, _, rfl⟩ el ?ok fun t' k => ?q
    case ok =>
      refine joinOk_of_weight ?_ (by decide +kernel)
      rw [one_weight]
      rw [List.length_range]
      (first | lia | omega)
    case q =>
      rw [join_empty, flat_one]
      refine h _ _ ((k₁.trans' k₂).trans' .tok) ⟨t', ?_⟩
      congr 1
      unfold ap6 pd
      rw [List.map_map]
      rfl
theorem h26 (G : LG w h₀ L fa cd) (hw : WS W S) {q : LS} (hT2 : T < 16 ^ siz W S) (h1 : q.l = 0) (h2 : q.u = (16 ^ W - 1) / (16 ^ siz W S - 1)) {s : Shared} {Q : Flow → Shared → Prop} {E : Value → Shared → Prop}
    (S₀ : Sg h₀ (lawEnv w.params L fa cd) (("filled", .str (ap6 (pd T (siz W S)))) :: sL pt T q) (kL W S T) s) (h : ∀ s', Kp (lawEnv w.params L fa cd).locals s s' → Q (.ret (.bool true)) s') :
    wpAny (model PP w) (lawA w.params L fa cd) (exec (lawSt w.params 26) (lawEnv w.params L fa cd)) Q E s := by
  conv in lawSt _ _ => whnf
  have z1 := hw.siz1
  have z8 := hw.siz8
  have c1 := hw.com1
  have c8 := hw.com8
  have hz : ((T * q.l : Nat) : Int).natAbs = 0 := by rw [h1]; simp
  have hu : ((T * q.u : Nat) : Int).natAbs = T * ((16 ^ W - 1) / (16 ^ siz W S - 1)) := by rw [h2, Int.natAbs_natCast]
  have hlaw := last_law hw.a hw.b hw.c hw.d hT2
  have hd0 : (dig ((T * q.l : Nat) : Int).natAbs).length ≤ 1000 := by rw [hz]; decide
  have hlen : (ap6 (pd T (siz W S))).length = siz W S := by simp [ap6, pd]
  have hfl : (List.replicate (com W S) (ap6 (pd T (siz W S)))).flatten.length ≤ 64 := by
    rw [rep_len, hlen]
    exact Nat.mul_le_mul c8 z8
  have hd1 : (dig ((T * q.u : Nat) : Int).natAbs).length ≤ 1000 := by
    rw [hu]
    have := congrArg List.length hlaw
    unfold ap6 at this
    rw [List.length_map] at this
    rw [this]
    exact Nat.le_trans (List.dropWhile_sublist _).length_le (Nat.le_trans hfl (by decide))
  have hasc : ∀ c ∈ (List.replicate (com W S) (ap6 (pd T (siz W S)))).flatten, c < 128 := fun c hc => by
    obtain ⟨l, hl, hc⟩ := List.mem_flatten.mp hc
    rw [(List.mem_replicate.mp hl).2] at hc
    unfold ap6 pd at hc
    obtain ⟨d, hd, rfl⟩ := List.mem_map.mp hc
    obtain ⟨i, _, rfl⟩ := List.mem_map.mp hd
    (first | lia | omega)
  refine wpAny_Return_some (wpAny_And2 ?_)
  refine (ev_cmp (ev_call (nm_int2ap w G) (keep28 G rfl rfl) (el_cons (lv_name l_lower rfl) el_nil rfl) (cl_int2ap w G hd0) rfl) (ev_bytes (l := []) (by decide +kernel)) (c_eqb (by rw [hz]; rfl)) rfl).out s _ _ S₀ fun v s₁ k₁ o₁ => ?_
  cases o₁
  refine wpAny_truthy_bool ?_
  rw [if_pos rfl]
  refine (ev_cmp (ev_call (nm_int2ap w G) (keep28 G rfl rfl) (el_cons (lv_name l_upper rfl) el_nil rfl) (cl_int2ap w G hd1) rfl) (ev_call (nm_bare w G) (cw_fn G.hx (keep_fns w.params).2.2.1 rfl rfl) (el_cons (ev_bin (lv_name l_filled rfl) (lv_cell (c := L + 4) rfl rfl) (o_muls (by (first | lia | omega)) (by (first | lia | omega)))) el_nil rfl) (cl_bare w G (by (first | lia | omega)) hasc) rfl) (c_eqb (by rw [hu, hlaw])) rfl).out s₁ _ _ (S₀.keeps k₁) fun v s₂ k₂ o₂ => ?_
  cases o₂
  exact h s₂ (k₁.trans' k₂)
end
end

section
open PySem PySem.W PyProof.Rows PySem.Calls PySem.Spec
set_option maxRecDepth 100000
set_option maxHeartbeats 4000000
theorem plc_len (f : Nat → List Nat) (k : Nat) (h : ∀ i, (f i).length ≤ k) : ∀ i, (plc f i).length ≤ i * k
  | 0 => Nat.zero_le _
  | i + 1 => by
    rw [plc_succ, List.length_append, List.length_replicate, Nat.add_mul, Nat.one_mul]
    exact Nat.add_le_add (plc_len f k h i) (Nat.le_trans List.count_le_length (h i))
theorem law_closG (P : Params) (L fa : Addr) (cd : Value) : closureFor { kind := .function, names := [(".0", .local), ("row", .local), ("sign", .local), ("rows", .free)], isGenerator := false, isCoroutine := false, more := [] } (lawEnv P L fa cd) = pure ([(("rows" : Str), L + 3)] : List (Str × Addr)) := by kernel_rfl
section
variable {w : World} {h₀ : Heap} {L fa : Addr} {cd : Value} {W S H : Nat} {D O : Int}
/-- the seven cells stand -/
def Cells7 (L : Addr) (news : List (Addr × Obj)) : Prop := ∀ i : Nat, 1 ≤ i → i ≤ 7 → ∃ o v, (L + i, o) ∈ news ∧ o.data = .cell v
theorem cells_sg {s : Shared} {m : Str → Option Value} {news : List (Addr × Obj)} {σ ks : List (Str × VD)} (F : Fr h₀ L s.heap m) (N : News h₀ L s.heap news) (hc : Cells7 L news) (hm : ∀ x d, σ.lookup x = some d → ∃ v, m x = some v ∧ ok s.heap d v)
    (hk : ∀ x c, (celL L).lookup x = some c → ∀ o v, (c, o) ∈ news → o.data = .cell v → ∀ d, ks.lookup x = some d → ∃ u, v = some u ∧ ok s.heap d u) : Sg h₀ (lawEnv w.params L fa cd) σ ks s := by
  refine ⟨⟨m, F, hm⟩, fun x c e => ?_⟩
  rw [law_cells] at e
  have key : ∃ i : Nat, 1 ≤ i ∧ i ≤ 7 ∧ c = L + i := by
    have : ∀ {l : List (Str × Addr)}, (∀ p ∈ l, ∃ i : Nat, 1 ≤ i ∧ i ≤ 7 ∧ p.2 = L + i) → l.lookup x = some c → ∃ i : Nat, 1 ≤ i ∧ i ≤ 7 ∧ c = L + i := by
      intro l hl e
      induction l with
      | nil => cases e
      | cons q l ih =>
        rw [List.lookup_cons] at e
        by_cases hx : x = q.1
        · rw [show (x == q.1) = true by simpa using hx] at e
          cases e
          exact hl q (.head _)
        · rw [show (x == q.1) = false by simpa using hx] at e
          exact ih (fun p hp => hl p (.tail _ hp)) e
    refine this ?_ e
    intro p hp
    simp only [celL, List.mem_cons, List.not_mem_nil, or_false] at hp
    rcases hp with rfl | rfl | rfl | rfl | rfl | rfl | rfl
    · exact ⟨7, by decide, by decide, rfl⟩
    · exact ⟨6, by decide, by decide, rfl⟩
    · exact ⟨5, by decide, by decide, rfl⟩
    · exact ⟨4, by decide, by decide, rfl⟩
    · exact ⟨3, by decide, by decide, rfl⟩
    · exact ⟨2, by decide, by decide, rfl⟩
    · exact ⟨1, by decide, by decide, rfl⟩
  obtain ⟨i, h1, h2, rfl⟩ := key
  obtain ⟨o, v, hm, hd⟩ := hc i h1 h2
  exact ⟨v, ⟨(N _ hm).2.1, (N _ hm).2.2, ⟨o, (N _ hm).1, hd⟩⟩, hk x _ e o v hm hd⟩
theorem h11 (G : LG w h₀ L fa cd) {bF : Bool} {s : Shared} {Q : Flow → Shared → Prop} {E : Value → Shared → Prop} {m : Str → Option Value} {news : List (Addr × Obj)} {R : Addr} {l : List (Str × Tok)} {n : Nat} {c3 : Obj}
    (F : Fr h₀ L s.heap m) (N : News h₀ L s.heap news) (hc : Cells7 L news) (hc3 : (L + 3, c3) ∈ news) (hd3 : c3.data = .cell (some (.ref R))) (hR : (R, PySem.W.listOf (strValues l).toArray n) ∈ news) (hl : l.map (·.1) = (page bF W H S).map tx)
    (hp : (page bF W H S).length ≤ 100) (hr : ∀ i, (pag bF W H S i).length ≤ 100)
    (hQ : ∀ D ys h' tk, Fr h₀ L h' (fun y => if y = Str.ofString "places" then some (.ref D) else m y) → News h₀ L h' ((D, LCg.lst ys) :: news) → IntsAre ys (plcs bF W H S) → Q .next { s with heap := h', toks := tk }) :
    wpAny (model PP w) (lawA w.params L fa cd) (exec (lawSt w.params 11) (lawEnv w.params L fa cd)) Q E s := by
  conv in lawSt _ _ => whnf
  have S₀ : Sg h₀ (lawEnv w.params L fa cd) [] [] s := cells_sg F N hc (fun _ _ e => nomatch e) (fun _ _ _ _ _ _ _ _ e => nomatch e)
  refine Assign_comp2 (pag bF W H S) F rfl rfl (law_closG _ _ _ _) (by decide) rfl (by decide) rfl rfl (loc_of w.params L fa cd (x := Str.ofString "places") (by decide +kernel)).1 (lplain _ _ _ _) (by decide +kernel) (by decide) (by decide) (by decide) (fun _ _ => rfl) ?_ (fun _ => rfl)
  refine Call_ ((nm_range w G).out s _ _ S₀ (PyProof.Rows.callWith_type1 (args_cons (Call_ ((nm_len w G).out s _ _ S₀ (PyProof.Rows.callWith_builtin1 (args_cons (wpAny_Name (wpAny_loadName_cell (v := .ref R) (c := L + 3) (law_kind w.params) (cel_of w.params L fa cd (x := Str.ofString "rows") rfl).1 (cel_of w.params L fa cd (x := Str.ofString "rows") rfl).2.2 ⟨c3, (N _ hc3).1, hd3⟩ (args_nil ?_)) (by decide)) rfl) rfl rfl)) rfl) rfl) rfl rfl)) rfl
  obtain ⟨hL, hsz⟩ := len_strs N hR hl
  refine len_list hL (by rw [hsz]; (first | lia | omega)) ?_
  rw [hsz]
  refine args_nil (range1_rows F N fun h' tk t1 u1 v1 hir F' N' hk => ?_)
  refine ⟨_, _, _, _, (page bF W H S).length, news, rfl, rfl, F', N', hir, by (first | lia | omega), fun i hi => ?_, fun i _ => Nat.le_trans (hr i) (by decide), fun g => ?_, fun Da ys hh tk' F3 N3 _ hI => ?_⟩
  · have h1 := plc_len _ 100 hr i
    have h2 := Nat.mul_le_mul_right 100 (Nat.le_trans hi hp)
    rw [sizeLine_eq]
    (first | lia | omega)
  · intro i t I oI C oC Da ys m₂ h tk E' hi hC hx F2 N2 off ne
    have mem : ∀ {q : Addr × Obj}, q ∈ news → q ∈ (I, oI) :: (C, oC) :: (Da, LCg.lst ys) :: news := fun hq => .tail _ (.tail _ (.tail _ hq))
    have hns : h.Ns C m₂ := hC.ns (N2 _ (.tail _ (.head _))).1
    refine Subscript_ (wpAny_Name (wpAny_loadName_cell (v := .ref R) (c := L + 3) rfl (by kernel_rfl) rfl ⟨c3, (N2 _ (mem hc3)).1, hd3⟩ ?_) (by decide))
    refine wpAny_Name (wpAny_loadName_local rfl rfl hns hx ?_) (by decide)
    refine row_item N2 (mem hR) hl hi (by (first | lia | omega)) fun t' => ?_
    exact LCg.CompEnd.intro F2 N2 news (fun _ hp => hp) off trivial ⟨rfl, t', rfl⟩
  · exact hQ Da ys hh tk' F3 N3 hI
end
end

section
open PySem PySem.W PyProof.Rows PySem.Calls PySem.Spec
set_option maxRecDepth 100000
set_option maxHeartbeats 4000000
theorem mv_news {env : Env} {s s' : Shared} {h₀ : Heap} {L : Addr} {news : List (Addr × Obj)} (m : Mv env s s') (N : News h₀ L s.heap news) (h : ∀ q ∈ news, ¬ Own env q.1) : News h₀ L s'.heap news := fun q hq => by
  obtain ⟨h', tk, rfl, k⟩ := m
  exact ⟨k _ _ (h q hq) (N q hq).1, (N q hq).2⟩
theorem kp_news {s s' : Shared} {h₀ : Heap} {L L' : Addr} {news : List (Addr × Obj)} (m : Kp L' s s') (N : News h₀ L s.heap news) : News h₀ L s'.heap news := fun q hq => by
  obtain ⟨h', tk, rfl, k⟩ := m
  exact ⟨k _ _ (N q hq).1, (N q hq).2⟩
section
variable {w : World} {h₀ : Heap} {L fa : Addr} {cd : Value} {W S H : Nat} {D O : Int}
/-- statements 12 to 25 -/
theorem mid (G : LG w h₀ L fa cd) {bF : Bool} (hw : WS W S) (hH : H < W) :
    ∃ (b : Bool) (T : Nat), T < 16 ^ siz W S ∧ (runL b W S (prt b W S).length).l = 0 ∧ (runL b W S (prt b W S).length).u = (16 ^ W - 1) / (16 ^ siz W S - 1) ∧
    ExS PP w (lawA w.params L fa cd) h₀ (lawEnv w.params L fa cd) (sA D O H (plcs bF W H S)) (kA W S) [lawSt w.params 12, lawSt w.params 13, lawSt w.params 14, lawSt w.params 15, lawSt w.params 16, lawSt w.params 17, lawSt w.params 18, lawSt w.params 19, lawSt w.params 20, lawSt w.params 21, lawSt w.params 22, lawSt w.params 23, lawSt w.params 24, lawSt w.params 25]
      (("filled", .str (ap6 (pd T (siz W S)))) :: sL (prt b W S) T (runL b W S (prt b W S).length)) (kL W S T) := by
  have a := hw.a
  have bb := hw.b
  have c1 := hw.com1
  have c8 := hw.com8
  have z1 := hw.siz1
  have z8 := hw.siz8
  have l8 := hw.len8
  have la := hw.last
  have pf := pow_facts (n := siz W S) (by omega) z8
  have hm1 := Int.fmod_nonneg_of_pos O (b := ((16 ^ siz W S : Nat) : Int) - 1) (by omega)
  have hm2 := Int.fmod_lt_of_pos O (b := ((16 ^ siz W S : Nat) : Int) - 1) (by omega)
  obtain ⟨b, hb⟩ : ∃ b, b = ((D.fdiv 12).fmod 2 == 1) := ⟨_, rfl⟩
  obtain ⟨T, hTe⟩ : ∃ T, T = 1 + (O.fmod (((16 ^ siz W S : Nat) : Int) - 1)).toNat := ⟨_, rfl⟩
  have hT0 : 0 < T := by omega
  have hT1 : T < 16 ^ siz W S := by omega
  have hT2 : T < 2 ^ 64 := by omega
  have hpl : (prt b W S).length ≤ 1000 := by
    unfold prt
    split
    · simp only [List.length_append, List.length_take, List.length_cons, List.length_nil]; omega
    · omega
  have hN := cases3_get chkN_all hw.a hw.b hw.c hw.d
  have hL := cases3_get chkL_all hw.a hw.b hw.c hw.d
  unfold chkN at hN
  unfold chkL at hL
  have hN1 := List.all_eq_true.mp hN b (by cases b <;> simp)
  have hL1 := List.all_eq_true.mp hL b (by cases b <;> simp)
  simp only [Bool.and_eq_true, decide_eq_true_eq] at hN1 hL1
  obtain ⟨⟨n1, n2⟩, n3⟩ := hN1
  obtain ⟨⟨hk, hl0⟩, hu0⟩ := hL1
  have n4 := List.all_eq_true.mp n3 bF (by cases bF <;> simp)
  have n5 := List.all_eq_true.mp n4 H (List.mem_range.mpr hH)
  simp only [Bool.and_eq_true, decide_eq_true_eq, beq_iff_eq] at n5
  obtain ⟨⟨⟨n6, n7⟩, n8⟩, n9⟩ := n5
  unfold numF at n6
  have hask : ∀ k, k < (prt b W S).length → askL k ((prt b W S).getD k 0) (runL b W S k) (runL b W S (k + 1)) = true := fun k h => List.all_eq_true.mp hk k (List.mem_range.mpr h)
  refine ⟨b, T, hT1, hl0, hu0, ?_⟩
  refine ex_cons (h12 G (by omega) (by omega) (by have := hw.d; omega)) (ex_cons (h13 (by omega) (by omega)) ?_)
  rw [← hb]
  refine ex_cons (h14 (by omega) c8 rfl rfl) (ex_cons (h15 (b := b) (by omega) c8 hpl rfl rfl rfl G) (ex_cons (st_sub h16 (Sub.of (a := sIh O H (plcs bF W H S) (prt b W S) (goa b W S) 0) ⟨rfl, rfl, rfl, rfl, rfl, rfl, trivial⟩) (Sub.of (a := kI W S) ⟨rfl, rfl, rfl, rfl, trivial⟩)) ?_))
  refine ex_cons (h17 G (by omega) n7) (ex_cons (h18 G hw) ?_)
  rw [n6]
  refine ex_cons (h19 hw rfl) ?_
  rw [← hTe]
  refine ex_cons (h20 hw hT2 rfl) (ex_cons h21 (ex_cons h22 (ex_cons (st_sub h23 (Sub.of (a := sL (prt b W S) T (inL b W S)) ⟨rfl, rfl, rfl, rfl, rfl, rfl, rfl, rfl, rfl, trivial⟩) .rfl') (ex_cons (h24 G hT0 hT2 hpl hask) (ex_cons (h25 G hw) ex_nil)))))
end
end

section
open PySem PySem.W PyProof.Rows PySem.Calls PySem.Spec
set_option maxRecDepth 100000
set_option maxHeartbeats 4000000
section
variable {w : World} {h₀ : Heap} {L fa : Addr} {cd : Value} {W S H : Nat} {D O : Int}
theorem own_not {b : Addr} (P : Params) (hb : b < L ∨ L + 7 < b) : ¬ Own (lawEnv P L fa cd) b := by
  rintro (q | ⟨x, q⟩)
  · have q' : b = L := q
    rcases hb with h | h
    · exact Nat.ne_of_lt h q'
    · exact Nat.ne_of_lt (Nat.lt_of_le_of_lt (Nat.le_add_right L 7) h) q'.symm
  · rw [law_cells] at q
    have : ∃ i : Nat, 1 ≤ i ∧ i ≤ 7 ∧ b = L + i := by
      have key : ∀ {l : List (Str × Addr)}, (∀ p ∈ l, ∃ i : Nat, 1 ≤ i ∧ i ≤ 7 ∧ p.2 = L + i) → l.lookup x = some b → ∃ i : Nat, 1 ≤ i ∧ i ≤ 7 ∧ b = L + i := by
        intro l hl e
        induction l with
        | nil => cases e
        | cons a0 l ih =>
          rw [List.lookup_cons] at e
          by_cases hx : x = a0.1
          · rw [show (x == a0.1) = true by simpa using hx] at e
            cases e
            exact hl a0 (.head _)
          · rw [show (x == a0.1) = false by simpa using hx] at e
            exact ih (fun p hp => hl p (.tail _ hp)) e
      refine key ?_ q
      intro p hp
      simp only [celL, List.mem_cons, List.not_mem_nil, or_false] at hp
      rcases hp with rfl | rfl | rfl | rfl | rfl | rfl | rfl
      · exact ⟨7, by decide, by decide, rfl⟩
      · exact ⟨6, by decide, by decide, rfl⟩
      · exact ⟨5, by decide, by decide, rfl⟩
      · exact ⟨4, by decide, by decide, rfl⟩
      · exact ⟨3, by decide, by decide, rfl⟩
      · exact ⟨2, by decide, by decide, rfl⟩
      · exact ⟨1, by decide, by decide, rfl⟩
    obtain ⟨i, h1, h2, rfl⟩ := this
    rcases hb with h | h
    · exact absurd (Nat.le_add_right L i) (Nat.not_le.mpr h)
    · exact absurd (Nat.add_le_add_left h2 L) (Nat.not_le.mpr h)
/-- statements 11 to 26 -/
theorem tail (G : LG w h₀ L fa cd) {fw : Str} (hw : WS W S) (hH : H < W) {s : Shared} {Q : Flow → Shared → Prop} {E : Value → Shared → Prop} {os : OsState} {R : Addr} {l : List (Str × Tok)} {n : Nat} {c1 c2 c3 c4 c5 c6 c7 : Obj} {tp1 tp2 : Array Value} {t1 t2 t3 tw ts : Tok} {v4 v5 v6 v7 : Option Value}
    (hE : PassesOwn (model PP w) (lawA w.params L fa cd) (lawEnv w.params L fa cd) E)
    (hc1 : c1.data = .cell (some (.int (W : Int) tw))) (hc2 : c2.data = .cell (some (.int (S : Int) ts))) (hc3 : c3.data = .cell (some (.ref R))) (hc4 : c4.data = .cell v4) (hc5 : c5.data = .cell v5) (hc6 : c6.data = .cell v6) (hc7 : c7.data = .cell v7)
    (hl : l.map (·.1) = (page (isB fw) W H S).map tx)
    (S₀ : St h₀ L [(Str.ofString "draw", .int D t1), (Str.ofString "lots", .int O t2), (Str.ofString "head", .int (H : Int) t3)] ((R, PySem.W.listOf (strValues l).toArray n) :: [(L + 7, c7), (L + 6, c6), (L + 5, c5), (L + 4, c4), (L + 3, c3), (L + 2, c2), (L + 1, c1), (147, X.tableObj tp1), (154, X.tableObj tp2)]) os s)
    (hQ : ∀ s', (∀ b o, h₀.get? b = some o → s'.heap.get? b = some o) → News h₀ L s'.heap [(147, X.tableObj tp1), (154, X.tableObj tp2)] → AllBare s'.gens → s'.os = os → Q (.ret (.bool true)) s') :
    wpAny (model PP w) (lawA w.params L fa cd) (execs (lawSeg w.params 11 16) (lawEnv w.params L fa cd)) Q E s := by
  obtain ⟨m, F, hm, N, GB, ho⟩ := S₀
  have hN := cases3_get chkN_all hw.a hw.b hw.c hw.d
  unfold chkN at hN
  have hN1 := List.all_eq_true.mp hN true (by simp)
  simp only [Bool.and_eq_true] at hN1
  have n4 := List.all_eq_true.mp hN1.2 (isB fw) (by cases isB fw <;> simp)
  have n5 := List.all_eq_true.mp n4 H (List.mem_range.mpr hH)
  simp only [Bool.and_eq_true, decide_eq_true_eq, beq_iff_eq] at n5
  obtain ⟨⟨⟨_, _⟩, n8⟩, n9⟩ := n5
  have hrow : ∀ i, (pag (isB fw) W H S i).length ≤ 100 := fun i => by
    by_cases hi : i < (page (isB fw) W H S).length
    · exact of_decide_eq_true (List.all_eq_true.mp n9 i (List.mem_range.mpr hi))
    · unfold pag
      rw [List.getD_eq_getElem?_getD, List.getElem?_eq_none (by (first | lia | omega))]
      exact Nat.zero_le _
  have hcells : ∀ {q : List (Addr × Obj)}, (∀ p ∈ [(L + 7, c7), (L + 6, c6), (L + 5, c5), (L + 4, c4), (L + 3, c3), (L + 2, c2), (L + 1, c1)], p ∈ q) → Cells7 L q := fun {q} hs i h1 h2 => by
    have : i = 1 ∨ i = 2 ∨ i = 3 ∨ i = 4 ∨ i = 5 ∨ i = 6 ∨ i = 7 := by (first | lia | omega)
    rcases this with rfl | rfl | rfl | rfl | rfl | rfl | rfl
    · exact ⟨c1, _, hs _ (by repeat (first | exact List.Mem.head _ | refine List.Mem.tail _ ?_)), hc1⟩
    · exact ⟨c2, _, hs _ (by repeat (first | exact List.Mem.head _ | refine List.Mem.tail _ ?_)), hc2⟩
    · exact ⟨c3, _, hs _ (by repeat (first | exact List.Mem.head _ | refine List.Mem.tail _ ?_)), hc3⟩
    · exact ⟨c4, _, hs _ (by repeat (first | exact List.Mem.head _ | refine List.Mem.tail _ ?_)), hc4⟩
    · exact ⟨c5, _, hs _ (by repeat (first | exact List.Mem.head _ | refine List.Mem.tail _ ?_)), hc5⟩
    · exact ⟨c6, _, hs _ (by repeat (first | exact List.Mem.head _ | refine List.Mem.tail _ ?_)), hc6⟩
    · exact ⟨c7, _, hs _ (by repeat (first | exact List.Mem.head _ | refine List.Mem.tail _ ?_)), hc7⟩
  have sub7 : ∀ {q : List (Addr × Obj)}, (∀ p ∈ [(L + 7, c7), (L + 6, c6), (L + 5, c5), (L + 4, c4), (L + 3, c3), (L + 2, c2), (L + 1, c1), (147, X.tableObj tp1), (154, X.tableObj tp2)], p ∈ q) → ∀ p ∈ [(L + 7, c7), (L + 6, c6), (L + 5, c5), (L + 4, c4), (L + 3, c3), (L + 2, c2), (L + 1, c1)], p ∈ q := fun h p hp => h p (List.mem_append_left [(147, X.tableObj tp1), (154, X.tableObj tp2)] hp)
  show wpAny _ _ (execs [lawSt w.params 11, lawSt w.params 12, lawSt w.params 13, lawSt w.params 14, lawSt w.params 15, lawSt w.params 16, lawSt w.params 17, lawSt w.params 18, lawSt w.params 19, lawSt w.params 20, lawSt w.params 21, lawSt w.params 22, lawSt w.params 23, lawSt w.params 24, lawSt w.params 25, lawSt w.params 26] _) _ _ _
  refine wpAny_execs_cons (h11 G F N (hcells (sub7 fun p hp => .tail _ hp)) (by repeat (first | exact List.Mem.head _ | refine List.Mem.tail _ ?_)) hc3 (.head _) hl n8 hrow fun Da ys h' tk F' N' hI => ?_)
  dsimp only
  have hok : ok h' (.ints (plcs (isB fw) W H S)) (.ref Da) := ⟨Da, ys, ys.length, rfl, (N' _ (.head _)).1, hI⟩
  have S1 : Sg h₀ (lawEnv w.params L fa cd) (sA D O H (plcs (isB fw) W H S)) (kA W S) { s with heap := h', toks := tk } := by
    refine cells_sg F' N' (hcells (sub7 fun p hp => .tail _ (.tail _ hp))) (fun x d e => ?_) (fun x c e o v hmem hd d ed => ?_)
    · have hm1 := hm (Str.ofString "draw", .int D t1) (by repeat (first | exact List.Mem.head _ | refine List.Mem.tail _ ?_))
      have hm2 := hm (Str.ofString "lots", .int O t2) (by repeat (first | exact List.Mem.head _ | refine List.Mem.tail _ ?_))
      have hm3 := hm (Str.ofString "head", .int (H : Int) t3) (by repeat (first | exact List.Mem.head _ | refine List.Mem.tail _ ?_))
      have key : Among (sA D O H (plcs (isB fw) W H S)) (sA D O H (plcs (isB fw) W H S)) := ⟨rfl, rfl, rfl, rfl, trivial⟩
      unfold sA at e
      rw [List.lookup_cons] at e
      by_cases e1 : x = Str.ofString "draw"
      · subst e1; cases e; exact ⟨_, hm1, t1, rfl⟩
      rw [show (x == Str.ofString "draw") = false from beq_eq_false_iff_ne.mpr e1, List.lookup_cons] at e
      by_cases e2 : x = Str.ofString "lots"
      · subst e2; cases e; exact ⟨_, hm2, t2, rfl⟩
      rw [show (x == Str.ofString "lots") = false from beq_eq_false_iff_ne.mpr e2, List.lookup_cons] at e
      by_cases e3 : x = Str.ofString "head"
      · subst e3; cases e; exact ⟨_, hm3, t3, rfl⟩
      rw [show (x == Str.ofString "head") = false from beq_eq_false_iff_ne.mpr e3, List.lookup_cons] at e
      by_cases e4 : x = Str.ofString "places"
      · subst e4; cases e; exact ⟨_, if_pos rfl, hok⟩
      rw [show (x == Str.ofString "places") = false from beq_eq_false_iff_ne.mpr e4] at e
      cases e
    · unfold kA at ed
      rw [List.lookup_cons] at ed
      by_cases e1 : x = Str.ofString "wide"
      · subst e1
        cases ed
        cases e
        have q1 := (N' _ hmem).1
        have q2 := (N' (L + 1, c1) (by repeat (first | exact List.Mem.head _ | refine List.Mem.tail _ ?_))).1
        rw [q1] at q2
        cases q2
        rw [hc1] at hd
        cases hd
        exact ⟨_, rfl, tw, rfl⟩
      rw [show (x == Str.ofString "wide") = false from beq_eq_false_iff_ne.mpr e1, List.lookup_cons] at ed
      by_cases e2 : x = Str.ofString "step"
      · subst e2
        cases ed
        cases e
        have q1 := (N' _ hmem).1
        have q2 := (N' (L + 2, c2) (by repeat (first | exact List.Mem.head _ | refine List.Mem.tail _ ?_))).1
        rw [q1] at q2
        cases q2
        rw [hc2] at hd
        cases hd
        exact ⟨_, rfl, ts, rfl⟩
      rw [show (x == Str.ofString "step") = false from beq_eq_false_iff_ne.mpr e2] at ed
      cases ed
  obtain ⟨b, T, hT, hl0, hu0, hex⟩ := mid (D := D) (O := O) (bF := isB fw) G hw hH
  have hex2 : wpAny (model PP w) (lawA w.params L fa cd) (execs ([lawSt w.params 12, lawSt w.params 13, lawSt w.params 14, lawSt w.params 15, lawSt w.params 16, lawSt w.params 17, lawSt w.params 18, lawSt w.params 19, lawSt w.params 20, lawSt w.params 21, lawSt w.params 22, lawSt w.params 23, lawSt w.params 24, lawSt w.params 25] ++ [lawSt w.params 26]) (lawEnv w.params L fa cd)) Q E { s with heap := h', toks := tk } := by
    refine execs_app (hex.out _ _ _ hE S1 fun s₂ m₂ S₂ => wpAny_execs_cons (h26 G hw hT hl0 hu0 S₂ fun s₃ k₃ => ?_))
    have Nt : News h₀ L h' [(147, X.tableObj tp1), (154, X.tableObj tp2)] := fun q hq => N' q (.tail _ (.tail _ (.tail _ (.tail _ (.tail _ (.tail _ (.tail _ (.tail _ (.tail _ hq)))))))))
    have hlt := G.lt
    have N2 := mv_news (s := { s with heap := h', toks := tk }) m₂ Nt fun q hq => by
      simp only [List.mem_cons, List.not_mem_nil, or_false] at hq
      rcases hq with rfl | rfl
      · exact own_not _ (.inl (Nat.lt_trans (by decide : (147 : Nat) < 154) hlt))
      · exact own_not _ (.inl hlt)
    have N3 := kp_news k₃ N2
    have S3 := S₂.keeps k₃
    obtain ⟨m3, F3, _⟩ := S3.fr
    refine hQ s₃ F3.keep N3 ?_ ?_
    · obtain ⟨h2, k2, rfl, _⟩ := m₂
      obtain ⟨h3, k3, rfl, _⟩ := k₃
      exact GB
    · obtain ⟨h2, k2, rfl, _⟩ := m₂
      obtain ⟨h3, k3, rfl, _⟩ := k₃
      exact ho
  exact hex2
end
end

section
open PySem PySem.W PyProof.Rows PySem.Calls PySem.Spec
set_option maxRecDepth 100000
set_option maxHeartbeats 4000000
theorem seg_cat (P : Params) (a b c : Nat) : lawSeg P a b ++ lawSeg P (a + b) c = lawSeg P a (b + c) := by
  unfold lawSeg
  rw [← List.drop_drop, ← List.take_add]
theorem body_cut (P : Params) : lawBody P = lawSeg P 0 2 ++ (lawSeg P 2 1 ++ (lawSeg P 3 2 ++ (lawSeg P 5 1 ++ (lawSeg P 6 2 ++ (lawSeg P 8 1 ++ (lawSeg P 9 2 ++ lawSeg P 11 16)))))) := by
  rw [seg_cat P 9 2 16, seg_cat P 8 1 18, seg_cat P 6 2 19, seg_cat P 5 1 21, seg_cat P 3 2 22, seg_cat P 2 1 24, seg_cat P 0 2 25]
  have hl : (lawBody P).length = 27 := by rfl
  unfold lawSeg
  rw [List.drop_zero, List.take_of_length_le (by omega)]
theorem law_all (w : World) {h₀ : Heap} {L fa : Addr} {cd : Value} {s : Shared} {os : OsState} {Q : Flow → Shared → Prop} {E : Value → Shared → Prop} {mg mb : Str → Option Value} {p : Program} {loose : List Str} {mean : ExcName → Option Value}
    {l : Addr} {vs : List Value} {ns : List Int} {c1 c2 c3 c4 c5 c6 c7 : Obj}
    (hLt : 154 < L) (B : Below callerA h₀ [] h₀) (X₀ : (hd.heap_1 w.params).In h₀) (Tp : Top p loose mean mg mb h₀) (hE : PassesOwn (model PySem.Challenge.rw_xl0020_01.row.prog w) (lawA w.params L fa cd) (lawEnv w.params L fa cd) E)
    (hc1 : c1.data = .cell none) (hc2 : c2.data = .cell none) (hc3 : c3.data = .cell none) (hc4 : c4.data = .cell none) (hc5 : c5.data = .cell none) (hc6 : c6.data = .cell none) (hc7 : c7.data = .cell none)
    (hl : h₀.IsList l vs.toArray) (hI : IntsAre vs ns) (hlen : ns.length ≤ 63)
    (S₀ : St h₀ L [(Str.ofString "script", .ref l)] [(L + 7, c7), (L + 6, c6), (L + 5, c5), (L + 4, c4), (L + 3, c3), (L + 2, c2), (L + 1, c1), (147, X.tableObj #[]), (154, X.tableObj #[])] os s)
    (hQ : ∀ s' tp1 tp2, (∀ b o, h₀.get? b = some o → s'.heap.get? b = some o) → News h₀ L s'.heap [(147, X.tableObj tp1), (154, X.tableObj tp2)] → AllBare s'.gens → s'.os = os → Q (.ret (.bool true)) s') :
    wpAny (model PySem.Challenge.rw_xl0020_01.row.prog w) (lawA w.params L fa cd) (execs (lawBody w.params) (lawEnv w.params L fa cd)) Q E s := by
  rw [body_cut]
  with_reducible refine execs_app (segA w hLt B X₀ Tp hc1 hl hI hlen S₀ fun sA D W t1 t2 c1p hW1 hW2 hc1' SA => ?_)
  with_reducible refine execs_app (segB w hLt B X₀ Tp hc1' hc2 hW1 hW2 hl hI hlen SA fun sB S t c2p hS1 hS2 hc2' SB => ?_)
  with_reducible refine execs_app (segC w hLt B X₀ Tp hc1' hW1 hW2 hl hI hlen SB fun sC O x H t2 t3 hH hx SC => ?_)
  subst hx
  with_reducible refine execs_app (segD1 w hLt B X₀ Tp SC fun sD fw mk t4 t5 hM SD => ?_)
  with_reducible refine execs_app (segD2 w hLt B X₀ Tp hc1' hW2 hH SD fun sD2 z am ad al ac acd nl n t6 o1 o2 o3 o4 o5 SD2 => ?_)
  with_reducible refine execs_app (segE w hLt B X₀ Tp hE hc1' hc2' hW1 hW2 hS1 hS2 hH hM o1 o2 o3 o4 o5 SD2 fun sE z ls nl xs n tp1 tp2 tl t1 t2 t3 t6 hR hT SE => ?_)
  with_reducible refine execs_app (segF w hLt B X₀ Tp hc1' hc2' hc3 hW1 hW2 hS1 hS2 hH hM o1 o2 o3 o4 o5 hR hT SE fun sF R l n c3p tp1 tp2 hc3' hl' SF => ?_)
  with_reducible exact tail ⟨hLt, B, X₀, ⟨_, _, _, _, _, Tp⟩⟩ (ws_of hW1 hW2 hS1 hS2) hH hE hc1' hc2' hc3' hc4 hc5 hc6 hc7 hl' SF fun s' => hQ s' tp1 tp2
end

section
open PySem PySem.W PyProof.Rows PySem.Calls PySem.Spec
set_option maxRecDepth 100000
set_option maxHeartbeats 4000000
theorem my_post {M : Model} {A : Around} {cd : Code} {s s₁ : Shared} {cw : ClaimW} {cl : Str → Option Addr} {mean : ExcName → Option Value} {args : List WData} {tabs : List (Addr × Addr)} (hT : TabsAt tabs s₁.heap) (hr : ∀ a x, cw.raises a x = false)
    (hp : cw.post args (.bool true) args = true)
    (h : codeAny M A cd (fun r s' => r = .ok (.ret (.bool true)) ∧ (∀ b o, (ghostOf s₁.heap tabs).get? b = some o → s'.heap.get? b = some o) ∧ s'.os = s₁.os ∧ AllBare s'.gens ∧ GrownAll tabs s'.heap) s) : codeAny M A cd (GoodWG cw cl mean args s₁) s :=
  codeAny_mono h fun r s' ⟨hc, hk, hos, hg, hgr⟩ => by
    have grown : ∀ b o, b ∈ tabs.map (·.2) → s₁.heap.get? b = some o → isCodeTable s₁.heap b ∧ o = tabObj #[] ∧ ∃ ps, s'.heap.get? b = some (tabObj ps) := fun b o hb e => by
      obtain ⟨q, hq, rfl⟩ := List.mem_map.mp hb
      have e2 := (hT q hq).2
      rw [e] at e2
      exact ⟨((hT q hq).1.tab (hT q hq).2).isCodeTable, Option.some.inj e2, hgr.get q hq⟩
    subst hc
    refine ⟨.inl ⟨_, _, [], rfl, fun x => hr _ x, .bool true, hp, fun _ => ⟨.nil, fun _ ha => nomatch ha⟩⟩, ⟨fun b o e => ?_, fun b o e => ?_⟩, hos, hg⟩
    · by_cases hb : b ∈ tabs.map (·.2)
      · obtain ⟨ht, rfl, ps, hP⟩ := grown b o hb e
        exact .inr (.inl ⟨ht, rfl, #[], ps, rfl, by rw [Array.empty_append]; exact hP⟩)
      · exact .inl (hk b o (ghost_ne e hb))
    · by_cases hb : b ∈ tabs.map (·.2)
      · obtain ⟨_, _, ps, hP⟩ := grown b o hb e
        exact ⟨_, hP⟩
      · exact ⟨o, hk b o (ghost_ne e hb)⟩
theorem law0 : PySem.Challenge.rw_xl0020_01.Holds := hd (by
  k_fill
  intro w s₀ s₁ mg mb G Y fa o pm cd doc dV kV ho hd0 hcd hD hmg hg args vals as hpre hlay hrd hwl hlo
  have KX := km_in_of Y
  have hT8 := km_tabs_of Y
  have X := (Ground.X G).1
  have V := (Ground.X G).2
  refine Ground.open G ?_
  intro T B D TE TW
  try (refine guard_noD D (by decide +kernel) ?_; clear D)
  have hT9 : TabsAt [(151, 147), (158, 154)] s₁.heap := List.forall_mem_cons.mpr ⟨⟨codeHd_of_K (c := 151) (P := 147) KX (by kernel_rfl), hT8 147 (by k_mem)⟩, List.forall_mem_cons.mpr ⟨⟨codeHd_of_K (c := 158) (P := 154) KX (by kernel_rfl), hT8 154 (by k_mem)⟩, fun _ h => nomatch h⟩⟩
  clear hmg
  wrow_args hpre hlay hrd hwl hlo
  all_goals (
    first | refine callC_kw (enter_call ?_) | refine enter_call ?_
    w_top on
    refine my_post hT9 (fun _ _ => rfl) ?hp ?_; (case hp => first | wrow_post | kc_post)
    w_call any ho hd0 hcd hD T F
    clear hd0
    kn_ghosts F T
    k_drop
    skip)
  refine (?_ : wpAny _ (lawA w.params _ _ _) (execs (lawBody w.params) (lawEnv w.params _ _ _)) _ _ _)
  rename Fr _ _ _ _ => F9
  rename News _ _ _ _ => N9
  rename IntsAre _ _ => I9
  rename Below _ _ _ _ => B9
  rename_i _ l9
  refine' law_all w (ns := _) ?hLt ?B ?X₀ ?Tp ?hE ?hc1 ?hc2 ?hc3 ?hc4 ?hc5 ?hc6 ?hc7 ?hl I9 ?hlen ?S₀ ?hQ
  case B => exact B9
  case X₀ => assumption
  case Tp => assumption
  case S₀ => exact ⟨_, F9, has_cons rfl has_nil, N9, AllBare.of_eq hg, rfl⟩
  case hLt => exact l9.2
  case hl => exact lifted
  case hlen => omega
  case hc1 => exact Eq.trans (by assumption) rfl
  case hc2 => exact Eq.trans (by assumption) rfl
  case hc3 => exact Eq.trans (by assumption) rfl
  case hc4 => exact Eq.trans (by assumption) rfl
  case hc5 => exact Eq.trans (by assumption) rfl
  case hc6 => exact Eq.trans (by assumption) rfl
  case hc7 => exact Eq.trans (by assumption) rfl
  case hE =>
    unfold lawA lawEnv
    conv in (occs := *) lawScope _ => all_goals whnf
    passes_own
  case hQ =>
    intro s' tp1 tp2 hk hn hb hos
    exact ⟨rfl, hk, hos, hb, ⟨_, (hn _ (.head _)).1⟩, ⟨_, (hn _ (.tail _ (.head _))).1⟩, trivial⟩)
end
end Mine
theorem PySem.Challenge.cw_xl0020_01_holds : PySem.Challenge.rw_xl0020_01.Holds :=
  Mine.law0
