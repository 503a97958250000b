import PyProof.Rows.All
import Wide.All
import OpenK.AllK
import Wide.FinOn
import Lean
import PySem.Challenge.RW_re0019_01
set_option Elab.async false
/-! ## Fw4 -/
section
open PySem PySem.W PyProof.Rows
set_option Elab.async false
set_option linter.unusedVariables false
set_option maxRecDepth 100000
set_option maxHeartbeats 2000000
namespace Mine

/-! ## The run: trees by their nodes, the heap, the generators and the tokens apart -/
noncomputable abbrev den : Code → Sem Fin := PySem.W.ZFast.zw11892475500146522536 PySem.W.ZFast.tableZ
theorem den_eq : denote table = den := by
  show denote table = PySem.W.ZFast.zw11892475500146522536 PySem.W.ZFast.tableZ
  rw [← PySem.W.ZFast.tableZ_eq, ← PySem.W.ZFast.ze11892475500146522536]

noncomputable abbrev qt : Code → Bool := PySem.W.ZFast.zw17772548960776305114
theorem qt_eq : Code.quiet = qt := PySem.W.ZFast.ze17772548960776305114

/-- what a run does not change -/
noncomputable def flg (P : Params) (b1 b2 : Bool) : Params := { P with followText := fun s => cond (PySem.W.S.eqLit 10139888712337904147300001983332972444938612 s) b1 (cond (PySem.W.S.eqLit 2510650655181157320538776789020469319833841985448949215332 s) b2 (P.followText s)) }
structure Cx where
  prog : Program
  draws : Source → Nat → Nat
  P : Params
  b1 : Bool
  b2 : Bool
  d : Drawn
  os : OsState
noncomputable abbrev Cx.w (C : Cx) : World := ⟨C.draws, flg C.P C.b1 C.b2⟩
noncomputable abbrev Cx.M (C : Cx) : Model := model C.prog C.w
theorem flg_self (P : Params) : flg P (P.followText "special-get-raises") (P.followText "comprehension-iter-twice") = P := by
  have h : (fun s => cond (PySem.W.S.eqLit 10139888712337904147300001983332972444938612 s) (P.followText "special-get-raises") (cond (PySem.W.S.eqLit 2510650655181157320538776789020469319833841985448949215332 s) (P.followText "comprehension-iter-twice") (P.followText s))) = P.followText := by
    funext s
    have e1 := congrFun (PySem.W.S.eqLit_eq "special-get-raises" 10139888712337904147300001983332972444938612 (by decide +kernel)) s
    have e2 := congrFun (PySem.W.S.eqLit_eq "comprehension-iter-twice" 2510650655181157320538776789020469319833841985448949215332 (by decide +kernel)) s
    rw [← e1, ← e2]
    by_cases q1 : s = "special-get-raises"
    · subst q1; rfl
    · by_cases q2 : s = "comprehension-iter-twice"
      · subst q2; rfl
      · rw [beq_eq_false_iff_ne.mpr q1, beq_eq_false_iff_ne.mpr q2]; rfl
  show { P with followText := _ } = P
  rw [h]

noncomputable abbrev Gs := Array GenState
noncomputable abbrev Post (α : Type) := α → Heap → Gs → Nat → Prop
noncomputable def up {α : Type} (C : Cx) (R : Post α) : α → Shared → Prop := fun r s => ∃ h g tk, s = ⟨h, g, C.d, tk, C.os⟩ ∧ R r h g tk

structure CodeP (C : Cx) (A : Around) (c : Code) (R : Post Result) (h : Heap) (g : Gs) (tk : Nat) : Prop where
  out : codeAny C.M A c (up C R) ⟨h, g, C.d, tk, C.os⟩

theorem CodeP.mono {C : Cx} {A : Around} {c : Code} {R R' : Post Result} {h : Heap} {g : Gs} {tk : Nat} (x : CodeP C A c R h g tk) (hR : ∀ r h g tk, R r h g tk → R' r h g tk) : CodeP C A c R' h g tk :=
  ⟨codeAny_mono x.out fun _ _ ⟨h', g', tk', e, y⟩ => ⟨h', g', tk', e, hR _ _ _ _ y⟩⟩

/-! ## The heap: a ledger over what stood at the start -/
structure Ent where
  a : Addr
  w : Bool
  o : Obj
structure St (T : Nat → Option Obj) (h₀ h : Heap) (fp : List Addr) (l : List Ent) : Prop where
  nd : (l.map (·.a)).Nodup
  get : ∀ p ∈ l, h.get? p.a = some p.o
  wr : ∀ p ∈ l, p.w = true → p.a ∈ fp ∨ h₀.objs.size ≤ p.a
  old : ∀ b o, h₀.get? b = some o → b ∉ fp → h.get? b = some o
  top : ∀ a o, T a = some o → h₀.get? a = some o ∧ a ∉ fp
  size : h₀.objs.size ≤ h.objs.size
  lim : h₀.NoLimit
  two : cStatics ∉ fp

noncomputable def nth {α : Type} : List α → Nat → Option α
  | [], _ => none
  | x :: _, 0 => some x
  | _ :: l, n + 1 => nth l n
noncomputable def put (o : Obj) : List Ent → Nat → List Ent
  | [], _ => []
  | x :: l, 0 => ⟨x.a, x.w, o⟩ :: l
  | x :: l, n + 1 => x :: put o l n
theorem nth_mem {α : Type} : ∀ {l : List α} {i : Nat} {x : α}, nth l i = some x → x ∈ l
  | _ :: _, 0, _, h => by cases h; exact .head _
  | _ :: _, _ + 1, _, h => .tail _ (nth_mem (by exact h))
theorem put_addr (o : Obj) : ∀ (l : List Ent) (i : Nat), (put o l i).map (·.a) = l.map (·.a)
  | [], _ => rfl
  | _ :: _, 0 => rfl
  | x :: l, n + 1 => congrArg (x.a :: ·) (put_addr o l n)
theorem put_mem {o : Obj} {p : Ent} {e : Ent} (l : List Ent) : ∀ {i : Nat}, nth l i = some e → p ∈ put o l i → p = ⟨e.a, e.w, o⟩ ∨ (p ∈ l ∧ ((l.map (·.a)).Nodup → p.a ≠ e.a)) := by
  induction l with
  | nil => intro i hi; cases hi
  | cons x l ih =>
    intro i hi hp
    cases i with
    | zero =>
      have hx : x = e := Option.some.inj hi
      subst hx
      cases List.mem_cons.mp hp with
      | inl h => exact .inl h
      | inr h =>
        refine .inr ⟨.tail _ h, fun nd q => ?_⟩
        rw [List.map_cons, List.nodup_cons] at nd
        exact nd.1 (q ▸ List.mem_map_of_mem h)
    | succ i =>
      have hi' : nth l i = some e := hi
      cases List.mem_cons.mp (show p ∈ x :: put o l i from hp) with
      | inl h =>
        subst h
        refine .inr ⟨.head _, fun nd q => ?_⟩
        rw [List.map_cons, List.nodup_cons] at nd
        exact nd.1 (q ▸ List.mem_map_of_mem (nth_mem hi'))
      | inr h =>
        cases ih hi' h with
        | inl h => exact .inl h
        | inr h =>
          refine .inr ⟨.tail _ h.1, fun nd => h.2 ?_⟩
          rw [List.map_cons, List.nodup_cons] at nd
          exact nd.2

section
variable {T : Nat → Option Obj} {h₀ h h' : Heap} {fp : List Addr} {l : List Ent}
theorem St.topGet (S : St T h₀ h fp l) {a : Addr} {o : Obj} (e : T a = some o) : h.get? a = some o := S.old a o (S.top a o e).1 (S.top a o e).2
theorem St.nolim (S : St T h₀ h fp l) : h.NoLimit := S.lim.at fun o e => S.old _ o e S.two
theorem St.at (S : St T h₀ h fp l) {i : Nat} {e : Ent} (hi : nth l i = some e) : h.get? e.a = some e.o := S.get _ (nth_mem hi)
theorem St.alo (S : St T h₀ h fp l) {o : Obj} (hf : o.isFreed = false) : St T h₀ (h.push o) fp (⟨h.objs.size, true, o⟩ :: l) := by
  refine ⟨?_, ?_, ?_, ?_, S.top, ?_, S.lim, S.two⟩
  · rw [List.map_cons, List.nodup_cons]
    refine ⟨fun hm => ?_, S.nd⟩
    obtain ⟨p, hp, e⟩ := List.mem_map.mp hm
    exact absurd (Heap.lt_size (S.get p hp)) (by rw [e]; exact Nat.lt_irrefl _)
  · intro p hp
    rcases List.mem_cons.mp hp with rfl | hp
    · exact Heap.get?_push_size _ hf
    · exact Heap.get?_push_of_some _ (S.get p hp)
  · intro p hp hw
    rcases List.mem_cons.mp hp with rfl | hp
    · exact .inr S.size
    · exact S.wr p hp hw
  · exact fun b o e hb => Heap.get?_push_of_some _ (S.old b o e hb)
  · rw [Heap.size_push]; exact Nat.le_succ_of_le S.size
theorem St.upd (S : St T h₀ h fp l) {f : Obj → Obj} {i : Nat} {e : Ent} (hi : nth l i = some e) (hw : e.w = true) (hf : (f e.o).isFreed = false) : St T h₀ (h.update e.a f) fp (put (f e.o) l i) := by
  have ho : h.get? e.a = some e.o := S.at hi
  have hs : Heap.SameBut e.a h (h.update e.a f) := Heap.SameBut.update ..
  refine ⟨by rw [put_addr]; exact S.nd, ?_, ?_, ?_, S.top, by rw [hs.1]; exact S.size, S.lim, S.two⟩
  · intro p hp
    rcases put_mem _ hi hp with rfl | ⟨hp, hn⟩
    · first | exact Heap.get?_update_self f ho hf | exact Heap.get?_update_self _ ho hf
    · exact (hs.2 p.a (hn S.nd)).trans (S.get p hp)
  · intro p hp hpw
    rcases put_mem _ hi hp with rfl | ⟨hp, _⟩
    · exact S.wr e (nth_mem hi) hw
    · exact S.wr p hp hpw
  · intro b o' e' hb
    have hb' := S.old b o' e' hb
    refine (hs.2 b fun q => ?_).trans hb'
    subst q
    rcases S.wr e (nth_mem hi) hw with hm | hm
    · exact hb hm
    · exact absurd (Heap.lt_size e') (Nat.not_lt.mpr hm)
end

/-! ## The simulator -/
inductive Kont where
  | base
  | ret (c : Code) (hd : Option Value) (k : Result → Sem Fin) (κ : Kont)
noncomputable def aroundK (A₀ : Around) : Kont → Around
  | .base => A₀
  | .ret c hd _ κ => ((aroundK A₀ κ).under c).mark hd
noncomputable def pC (C : Cx) (A : Around) (R : Result → Shared → Prop) : Fin → Shared → Prop := fun fin s => match fin with
  | .done f => R (.ok f) s
  | .again c' => s.heap.NoLimit ∧ c'.quiet = true ∧ codeAny C.M A c' R s
noncomputable def pE (R : Result → Shared → Prop) : Value → Shared → Prop := fun e s => R (.error e) s
noncomputable def endS (C : Cx) (A₀ : Around) (R₀ : Post Result) : Kont → Result → Shared → Prop
  | .base => up C R₀
  | .ret c _ k κ => fun r s => wpOwn C.M (aroundK A₀ κ) c (k r) (pC C (aroundK A₀ κ) (endS C A₀ R₀ κ)) (pE (endS C A₀ R₀ κ)) s
/-- a tree under way, in the code c, with what is to come behind it -/
noncomputable def Means (C : Cx) (A₀ : Around) (R₀ : Post Result) (κ : Kont) (c : Code) (t : Sem Fin) (h : Heap) (g : Gs) (tk : Nat) : Prop :=
  wpOwn C.M (aroundK A₀ κ) c t (pC C (aroundK A₀ κ) (endS C A₀ R₀ κ)) (pE (endS C A₀ R₀ κ)) ⟨h, g, C.d, tk, C.os⟩
/-- what comes behind a result -/
noncomputable def AfterD (C : Cx) (A₀ : Around) (R₀ : Post Result) : Kont → Post Result
  | .base => R₀
  | .ret c _ k κ => fun r h g tk => Means C A₀ R₀ κ c (k r) h g tk
structure After (C : Cx) (A₀ : Around) (R₀ : Post Result) (κ : Kont) (r : Result) (h : Heap) (g : Gs) (tk : Nat) : Prop where
  out : AfterD C A₀ R₀ κ r h g tk
theorem After.endS {C : Cx} {A₀ : Around} {R₀ : Post Result} : ∀ {κ : Kont} {r : Result} {h : Heap} {g : Gs} {tk : Nat}, After C A₀ R₀ κ r h g tk → endS C A₀ R₀ κ r ⟨h, g, C.d, tk, C.os⟩
  | .base, _, _, _, _, x => ⟨_, _, _, rfl, x.out⟩
  | .ret .., _, _, _, _, x => x.out
theorem After.up {C : Cx} {A₀ : Around} {R₀ : Post Result} {κ : Kont} {r : Result} {s : Shared} (x : up C (After C A₀ R₀ κ) r s) : Mine.endS C A₀ R₀ κ r s := by
  obtain ⟨h, g, tk, rfl, y⟩ := x
  exact y.endS

inductive AE where
  | a (x : Addr)
  | t (x : Sem Fin)
noncomputable abbrev Acc := List (AE × AE)
noncomputable def Chk (l : Acc) : Prop := l.map (·.1) = l.map (·.2)
/-- an iterator that is its own iterator -/
noncomputable def isIterO (o : Obj) : Bool := match o.cls with
  | .type s => match PySem.W.S.eqLit 9146042919481958196396663532141 s with
    | true => true
    | false => match PySem.W.S.eqLit 2341386987387381298277481238717043 s with
      | true => true
      | false => PySem.W.S.eqLit 2341386987387381298277481322739317 s
  | _ => false
/-- the start of a comprehension, over such an iterator -/
noncomputable def cstart : Code → List Ent → Nat → Option (Code × Addr × Addr)
  | .compStart e d it acc env, l, H => match it with
    | .ref a => match H % 1024 with
      | 0 => none
      | j + 1 => match nth l j with
        | some en => match isIterO en.o with
          | true => some (.compLoop e d it acc env, a, en.a)
          | false => none
        | none => none
    | _ => none
  | _, _, _ => none
section
variable (C : Cx) (A₀ : Around) (R₀ : Post Result) (T : Nat → Option Obj) (h₀ : Heap) (fp : List Addr) (n : Nat) (tk : Nat) (g : Gs)
/-- where a run stands -/
structure Out where
  κ : Kont
  c : Code
  t : Sem Fin
  l : List Ent
  m : Nat
  i : Nat
  acc : Acc
noncomputable abbrev Sm := Kont → Code → Sem Fin → List Ent → Nat → Nat → Nat → Acc → Out
noncomputable def bad (c : Code) : Out := ⟨.base, c, .unsupported "", [], 0, 0, []⟩
noncomputable def simStep (ih : Sm) (κ : Kont) (c : Code) (t : Sem Fin) (l : List Ent) (m i H : Nat) (acc : Acc) : Out := match t with
    | .pure fin => match fin with
      | .done f => match κ with
        | .base => ⟨κ, c, t, l, m, i, acc⟩
        | .ret c' _ k κ' => ih κ' c' (k (.ok f)) l m i H acc
      | .again c' => match qt c' with
        | true => ih κ c' (den c') l m i H acc
        | false => ⟨κ, c, t, l, m, i, acc⟩
    | .raise e => match κ with
      | .base => ⟨κ, c, t, l, m, i, acc⟩
      | .ret c' _ k κ' => ih κ' c' (k (.error e)) l m i H acc
    | .rule _ k => ih κ c (k ()) l m i H acc
    | .at _ k => ih κ c (k ()) l m i H acc
    | .point _ k => ih κ c (k ()) l m i H acc
    | .ask k => ih κ c (k ⟨C.prog, flg C.P true C.b2⟩) l m i H ((.t (k ⟨C.prog, flg C.P true C.b2⟩), .t (k ⟨C.prog, flg C.P false C.b2⟩)) :: acc)
    | .load a _ k => match H % 1024 with
      | 0 => match T a with
        | some o => ih κ c (k o) l m i (H / 1024) acc
        | none => ⟨κ, c, t, l, m, i, acc⟩
      | j + 1 => match nth l j with
        | some e => ih κ c (k e.o) l m i (H / 1024) ((.a a, .a e.a) :: acc)
        | none => ⟨κ, c, t, l, m, i, acc⟩
    | .loadIfAlive a k => match H % 1024 with
      | 0 => match T a with
        | some o => ih κ c (k (some o)) l m i (H / 1024) acc
        | none => ⟨κ, c, t, l, m, i, acc⟩
      | j + 1 => match nth l j with
        | some e => ih κ c (k (some e.o)) l m i (H / 1024) ((.a a, .a e.a) :: acc)
        | none => ⟨κ, c, t, l, m, i, acc⟩
    | .update a _ f k => match H % 1024 with
      | 0 => ⟨κ, c, t, l, m, i, acc⟩
      | j + 1 => match nth l j with
        | some e => match e.w with
          | true => match (f e.o).isFreed with
            | false => ih κ c (k ()) (put (f e.o) l j) m i (H / 1024) ((.a a, .a e.a) :: acc)
            | true => ⟨κ, c, t, l, m, i, acc⟩
          | false => ⟨κ, c, t, l, m, i, acc⟩
        | none => ⟨κ, c, t, l, m, i, acc⟩
    | .alloc o k => match o.isFreed with
      | false => ih κ c (k (n + m)) (⟨n + m, true, o⟩ :: l) (m + 1) i H acc
      | true => ⟨κ, c, t, l, m, i, acc⟩
    | .fresh k => ih κ c (k (tk + i)) l m (i + 1) H acc
    | .handled own k => match own with
      | false => ih κ c (k ((aroundK A₀ κ).under c).handled) l m i H acc
      | true => ⟨κ, c, t, l, m, i, acc⟩
    | .call c' hd _ _ k => match X.okMark hd with
      | true => match cstart c' l H with
        | some r => ih (.ret c hd k κ) c' (.pure (.again r.1)) l m i (H / 1024) ((.a r.2.1, .a r.2.2) :: acc)
        | none => ih (.ret c hd k κ) c' (den c') l m i H acc
      | false => ⟨κ, c, t, l, m, i, acc⟩
    | _ => ⟨κ, c, t, l, m, i, acc⟩
noncomputable def sim : Nat → Sm
  | 0 => fun κ c t l m i _ acc => ⟨κ, c, t, l, m, i, acc⟩
  | F + 1 => simStep C A₀ T n tk (sim F)
end
theorem Chk.tail {p : AE × AE} {l : Acc} (x : Chk (p :: l)) : p.1 = p.2 ∧ Chk l := by
  unfold Chk at x ⊢
  rw [List.map_cons, List.map_cons] at x
  exact List.cons.inj x

section
variable {C : Cx} {A₀ : Around} {R₀ : Post Result} {T : Nat → Option Obj} {h₀ : Heap} {fp : List Addr} {n tk : Nat} {g : Gs}
theorem Means.again {κ : Kont} {c c' : Code} {h : Heap} {tk : Nat} (hl : h.NoLimit) (q : qt c' = true) (x : CodeP C (aroundK A₀ κ) c' (After C A₀ R₀ κ) h g tk) : Means C A₀ R₀ κ c (.pure (.again c')) h g tk :=
  X.y_pure _ _ _ _ _ _ _ _ _ ⟨hl, (congrFun qt_eq c').trans q, codeAny_mono x.out fun _ _ y => After.up y⟩
theorem means_call {κ : Kont} {c c' : Code} {hd : Option Value} {b : Bool} {lv : List Value} {k : Result → Sem Fin} {h : Heap} {tk : Nat} (q : X.okMark hd = true)
    (x : CodeP C (((aroundK A₀ κ).under c).mark hd) c' (After C A₀ R₀ (.ret c hd k κ)) h g tk) : Means C A₀ R₀ κ c (.call c' hd b lv k) h g tk := by
  have hnb : hd ≠ some byPass := by
    intro e
    subst e
    simp [X.okMark] at q
  exact X.y_call _ _ _ _ _ _ _ _ _ _ _ _ _ hnb (codeAny_mono x.out fun _ _ y => After.up (κ := .ret c hd k κ) y)
theorem code_of_means {A : Around} {R : Result → Shared → Prop} {c : Code} {s : Shared} (x : wpOwn C.M A c (den c) (pC C A R) (pE R) s) : codeAny C.M A c R s :=
  X.y_code _ _ A R s c ((congrFun den_eq c).symm ▸ wpOwn_mono x (fun fin s' h => by
    cases fin with
    | done f => exact h
    | again c' => exact h.2) (fun _ _ h => h))
noncomputable def Ok (C : Cx) (A₀ : Around) (R₀ : Post Result) (T : Nat → Option Obj) (h₀ : Heap) (fp : List Addr) (tk : Nat) (g : Gs) (κ : Kont) (c : Code) (t : Sem Fin) (l : List Ent) (m i : Nat) (acc : Acc) (h : Heap) (n : Nat) (o : Out) : Prop :=
  Chk o.acc → (∀ h', St T h₀ h' fp o.l → Means C A₀ R₀ o.κ o.c o.t h' g (tk + o.i)) → St T h₀ h fp l → h.objs.size = n + m → Chk acc ∧ Means C A₀ R₀ κ c t h g (tk + i)
theorem Ok.here {κ : Kont} {c : Code} {t : Sem Fin} {l : List Ent} {m i : Nat} {acc : Acc} {h : Heap} : Ok C A₀ R₀ T h₀ fp tk g κ c t l m i acc h n ⟨κ, c, t, l, m, i, acc⟩ :=
  fun a x S _ => ⟨a, x h S⟩
theorem pyIter_self {prog : Program} {w : World} {A : Around} {E : Value → Shared → Prop} {s : Shared} {a : Addr} {o : Obj} {Q : Value → Shared → Prop} (ho : s.heap.get? a = some o) (hi : isIterO o = true) (h : Q (.ref a) s) : wpAny (model prog w) A (pyIter (.ref a)) Q E s := by
  unfold isIterO at hi
  split at hi
  · rename_i T hc
    split at hi
    · rename_i q
      have e := congrFun (PySem.W.S.eqLit_eq "list_iterator" 9146042919481958196396663532141 (by decide +kernel)) T
      rw [q] at e
      have e' : T = "list_iterator" := beq_iff_eq.mp e
      subst e'
      have hT : s.TypeIs (.ref a) "list_iterator" := ⟨o, ho, hc⟩
      refine wpAny_pyIter_slot hT slot_listiter_iter (wpAny_call_entry slot_listiter_iter hT entry_listiter_iter ?_ (args_listiter_iter _))
      show wpAny _ _ (ret (.ref a)) _ _ s
      exact wpAny_pure ⟨_, rfl, "list_iterator", _, hT, slot_listiter_next.lookup, h⟩
    · split at hi
      · rename_i q
        have e := congrFun (PySem.W.S.eqLit_eq "range_iterator" 2341386987387381298277481238717043 (by decide +kernel)) T
        rw [q] at e
        have e' : T = "range_iterator" := beq_iff_eq.mp e
        subst e'
        have hT : s.TypeIs (.ref a) "range_iterator" := ⟨o, ho, hc⟩
        refine wpAny_pyIter_slot hT F.slot_range_iterator_iter (wpAny_call_entry F.slot_range_iterator_iter hT F.entry_range_iterator_iter ?_ (F.args_range_iterator_iter_1 _))
        show wpAny _ _ (ret (.ref a)) _ _ s
        exact wpAny_pure ⟨_, rfl, "range_iterator", _, hT, F.slot_range_iterator_next.lookup, h⟩
      · have e := congrFun (PySem.W.S.eqLit_eq "tuple_iterator" 2341386987387381298277481322739317 (by decide +kernel)) T
        rw [hi] at e
        have e' : T = "tuple_iterator" := beq_iff_eq.mp e
        subst e'
        have hT : s.TypeIs (.ref a) "tuple_iterator" := ⟨o, ho, hc⟩
        refine wpAny_pyIter_slot hT F.slot_tuple_iterator_iter (wpAny_call_entry F.slot_tuple_iterator_iter hT F.entry_tuple_iterator_iter ?_ (F.args_tuple_iterator_iter_1 _))
        show wpAny _ _ (ret (.ref a)) _ _ s
        exact wpAny_pure ⟨_, rfl, "tuple_iterator", _, hT, F.slot_tuple_iterator_next.lookup, h⟩
  · cases hi
theorem comp_start {c' : Code} {l : List Ent} {H : Nat} {r : Code × Addr × Addr} {h : Heap} {tk : Nat} {R₁ : Result → Shared → Prop} {A₁ : Around} (S : St T h₀ h fp l) (hr : cstart c' l H = some r) (ha : r.2.1 = r.2.2)
    (x : wpOwn C.M A₁ c' (.pure (.again r.1)) (pC C A₁ R₁) (pE R₁) ⟨h, g, C.d, tk, C.os⟩) : wpOwn C.M A₁ c' (den c') (pC C A₁ R₁) (pE R₁) ⟨h, g, C.d, tk, C.os⟩ := by
  cases c' with
  | compStart e d it acc env =>
    cases it with
    | ref a =>
      have hr' : (match H % 1024 with
        | 0 => none
        | j + 1 => match nth l j with
          | some en => match isIterO en.o with
            | true => some (Code.compLoop e d (.ref a) acc env, a, en.a)
            | false => none
          | none => none) = some r := hr
      split at hr'
      · cases hr'
      · split at hr'
        · rename_i en hen
          split at hr'
          · rename_i hi
            cases hr'
            have ha' : a = en.a := ha
            subst ha'
            intro Γ p hc hΓ
            have hq := x Γ p hc hΓ
            have hq' : pC C A₁ R₁ (.again (.compLoop e d (.ref en.a) acc env)) ⟨h, g, C.d, tk, C.os⟩ := hq
            have z : wpAny C.M (A₁.under (.compStart e d (.ref en.a) acc env)) (den (.compStart e d (.ref en.a) acc env)) (pC C A₁ R₁) (pE R₁) ⟨h, g, C.d, tk, C.os⟩ := by
              rw [← den_eq]
              have key : ∀ E, wpAny C.M (A₁.under (.compStart e d (.ref en.a) acc env)) (compStart e d (.ref en.a) acc env) (pC C A₁ R₁) E ⟨h, g, C.d, tk, C.os⟩ := by
                intro E
                have key2 : wpAny C.M (A₁.under (.compStart e d (.ref en.a) acc env)) (again (.compLoop e d (.ref en.a) acc env)) (pC C A₁ R₁) E ⟨h, g, C.d, tk, C.os⟩ := wpAny_pure hq'
                have key3 : wpAny C.M (A₁.under (.compStart e d (.ref en.a) acc env)) (do let x ← pyIter (.ref en.a); again (.compLoop e d x acc env)) (pC C A₁ R₁) E ⟨h, g, C.d, tk, C.os⟩ :=
                  wpAny_bind (pyIter_self (S.at hen) hi key2)
                unfold compStart
                split
                · exact wpAny_bind (wpAny_mono (Q := fun fin s' => pC C A₁ R₁ fin s') key2 (fun _ _ q => wpAny_pure q) fun _ _ q => q)
                · refine wpAny_bind (wpAny_askSetting ?_)
                  split
                  · exact wpAny_bind (wpAny_mono (Q := fun fin s' => pC C A₁ R₁ fin s') key2 (fun _ _ q => wpAny_pure q) fun _ _ q => q)
                  · refine wpAny_bind (wpAny_rule ?_)
                    split
                    · exact wpAny_bind (wpAny_standAt key3)
                    · exact key3
              show wpAny _ _ (if _ then _ else _) _ _ _
              split
              · exact wpAny_onRaise (key _)
              · exact wpAny_onRaise (key _)
            exact z Γ p (hc ▸ hΓ.in)
          · cases hr'
        · cases hr'
    | _ => cases hr
  | _ => cases hr
theorem sim_sound : ∀ (F : Nat) (κ : Kont) (c : Code) (t : Sem Fin) (l : List Ent) (m i H : Nat) (acc : Acc) (h : Heap), Ok C A₀ R₀ T h₀ fp tk g κ c t l m i acc h n (sim C A₀ T n tk F κ c t l m i H acc)
  | 0, κ, c, t, l, m, i, H, acc, h => Ok.here
  | F + 1, κ, c, t, l, m, i, H, acc, h => by
    have ih := sim_sound F
    show Ok C A₀ R₀ T h₀ fp tk g κ c t l m i acc h n (simStep C A₀ T n tk (sim C A₀ T n tk F) κ c t l m i H acc)
    generalize sim C A₀ T n tk F = sm at ih ⊢
    cases t with
    | pure fin =>
      cases fin with
      | done f =>
        cases κ with
        | base => exact Ok.here
        | ret c' hd k κ' =>
          intro a x S hz
          obtain ⟨a, b⟩ := ih _ _ _ _ _ _ _ _ h a x S hz
          exact ⟨a, X.y_pure _ _ _ _ _ _ _ _ _ b⟩
      | again c' =>
        cases q : qt c' with
        | false => simp only [simStep, q]; exact Ok.here
        | true =>
          simp only [simStep, q]
          intro a x S hz
          obtain ⟨a, b⟩ := ih _ _ _ _ _ _ _ _ h a x S hz
          exact ⟨a, X.y_pure _ _ _ _ _ _ _ _ _ ⟨S.nolim, (congrFun qt_eq c').trans q, code_of_means b⟩⟩
    | raise e =>
      cases κ with
      | base => exact Ok.here
      | ret c' hd k κ' =>
        intro a x S hz
        obtain ⟨a, b⟩ := ih _ _ _ _ _ _ _ _ h a x S hz
        exact ⟨a, X.y_raise _ _ _ _ _ _ _ _ _ b⟩
    | rule tag k => intro a x S hz; obtain ⟨a, b⟩ := ih _ _ _ _ _ _ _ _ h a x S hz; exact ⟨a, X.y_skim _ _ _ _ _ _ _ _ _ 1 b⟩
    | «at» q k => intro a x S hz; obtain ⟨a, b⟩ := ih _ _ _ _ _ _ _ _ h a x S hz; exact ⟨a, X.y_skim _ _ _ _ _ _ _ _ _ 1 b⟩
    | point lv k => intro a x S hz; obtain ⟨a, b⟩ := ih _ _ _ _ _ _ _ _ h a x S hz; exact ⟨a, X.y_skim _ _ _ _ _ _ _ _ _ 1 b⟩
    | ask k =>
      intro a x S hz
      obtain ⟨q, b⟩ := ih _ _ _ _ _ _ _ _ h a x S hz
      obtain ⟨q1, q2⟩ := q.tail
      have q1' : k ⟨C.prog, flg C.P true C.b2⟩ = k ⟨C.prog, flg C.P false C.b2⟩ := AE.t.inj q1
      have q3 : k ⟨C.prog, C.w.params⟩ = k ⟨C.prog, flg C.P true C.b2⟩ := by
        show k ⟨C.prog, flg C.P C.b1 C.b2⟩ = _
        cases C.b1
        · exact q1'.symm
        · rfl
      rw [← q3] at b
      exact ⟨q2, X.y_skim _ _ _ _ _ _ _ _ _ 1 b⟩
    | load a part k =>
      simp only [simStep]
      split
      · split
        · rename_i o e
          intro a x S hz
          obtain ⟨q, b⟩ := ih _ _ _ _ _ _ _ _ h a x S hz
          exact ⟨q, X.y_load _ _ _ _ _ _ _ _ _ _ _ _ _ _ _ _ (S.topGet e) b⟩
        · exact Ok.here
      · split
        · rename_i e he
          intro a x S hz
          obtain ⟨q, b⟩ := ih _ _ _ _ _ _ _ _ h a x S hz
          obtain ⟨q1, q2⟩ := q.tail
          have q1' : _ = e.a := AE.a.inj q1
          subst q1'
          exact ⟨q2, X.y_load _ _ _ _ _ _ _ _ _ _ _ _ _ _ _ _ (S.at he) b⟩
        · exact Ok.here
    | loadIfAlive a k =>
      simp only [simStep]
      split
      · split
        · rename_i o e
          intro a x S hz
          obtain ⟨q, b⟩ := ih _ _ _ _ _ _ _ _ h a x S hz
          exact ⟨q, X.y_alive _ _ _ _ _ _ _ _ _ _ _ _ _ _ _ (S.topGet e) b⟩
        · exact Ok.here
      · split
        · rename_i e he
          intro a x S hz
          obtain ⟨q, b⟩ := ih _ _ _ _ _ _ _ _ h a x S hz
          obtain ⟨q1, q2⟩ := q.tail
          have q1' : _ = e.a := AE.a.inj q1
          subst q1'
          exact ⟨q2, X.y_alive _ _ _ _ _ _ _ _ _ _ _ _ _ _ _ (S.at he) b⟩
        · exact Ok.here
    | update a part f k =>
      simp only [simStep]
      split
      · exact Ok.here
      · split
        · rename_i e he
          split
          · rename_i hw
            split
            · rename_i hf
              intro a x S hz
              have S' := S.upd he hw hf
              obtain ⟨q, b⟩ := ih _ _ _ _ _ _ _ _ (h.update e.a f) a x S' (by rw [(show Heap.SameBut e.a h (h.update e.a f) from Heap.SameBut.update ..).1]; exact hz)
              obtain ⟨q1, q2⟩ := q.tail
              have q1' : _ = e.a := AE.a.inj q1
              subst q1'
              exact ⟨q2, wpOwn_bind (m := updatePart e.a part f) (f := k) (wpOwn_of_wpAny (wpAny_updatePart (S.at he) b))⟩
            · exact Ok.here
          · exact Ok.here
        · exact Ok.here
    | alloc o k =>
      simp only [simStep]
      split
      · rename_i hf
        intro a x S hz
        have S' := S.alo hf
        rw [hz] at S'
        obtain ⟨q, b⟩ := ih _ _ _ _ _ _ _ _ (h.push o) a x S' (by rw [Heap.size_push, hz]; rfl)
        exact ⟨q, wpOwn_bind (m := PySem.alloc o) (f := k) (wpOwn_of_wpAny (wpAny_alloc (by rw [← hz] at b; exact b)))⟩
      · exact Ok.here
    | fresh k =>
      intro a x S hz
      obtain ⟨a, b⟩ := ih _ _ _ _ _ _ _ _ h a x S hz
      exact ⟨a, X.y_fresh _ _ _ _ _ _ _ _ _ _ _ _ _ b⟩
    | handled own k =>
      cases own with
      | true => exact Ok.here
      | false =>
        intro a x S hz
        obtain ⟨a, b⟩ := ih _ _ _ _ _ _ _ _ h a x S hz
        refine ⟨a, ?_⟩
        have z : wpAny C.M ((aroundK A₀ κ).under c) handled (fun a s' => Means C A₀ R₀ κ c (k a) s'.heap s'.gens s'.toks ∧ s' = ⟨h, g, C.d, tk + i, C.os⟩) (fun _ _ => False) ⟨h, g, C.d, tk + i, C.os⟩ := wpAny_handled ⟨b, rfl⟩
        exact wpOwn_bind (m := handled) (f := k) (fun Γ p hc hΓ => Sem.wp_mono _ _ _ (fun a p' s' y => by obtain ⟨y1, rfl⟩ := y; exact y1) (fun _ _ _ y => y.elim) _ _ (z Γ p (hc ▸ hΓ.in)))
    | call c' hd gd lv k =>
      cases q : X.okMark hd with
      | false => simp only [simStep, q]; exact Ok.here
      | true =>
        have hnb : hd ≠ some byPass := by
          intro e
          subst e
          simp [X.okMark] at q
        cases hr : cstart c' l H with
        | none =>
          simp only [simStep, q, hr]
          intro a x S hz
          obtain ⟨a, b⟩ := ih _ _ _ _ _ _ _ _ h a x S hz
          exact ⟨a, X.y_call _ _ _ _ _ _ _ _ _ _ _ _ _ hnb (code_of_means b)⟩
        | some r =>
          simp only [simStep, q, hr]
          intro a x S hz
          obtain ⟨a, b⟩ := ih _ _ _ _ _ _ _ _ h a x S hz
          obtain ⟨q1, q2⟩ := a.tail
          exact ⟨q2, X.y_call _ _ _ _ _ _ _ _ _ _ _ _ _ hnb (code_of_means (comp_start S hr (AE.a.inj q1) b))⟩
    | _ => exact Ok.here
end
/-! ## From stop to stop -/
noncomputable def isRet : Kont → Bool
  | .base => false
  | .ret .. => true
noncomputable def pK : Kont → Kont
  | .base => .base
  | .ret _ _ _ κ => κ
noncomputable def pCo : Kont → Code
  | .base => .builtin "" ⟨[], []⟩
  | .ret c _ _ _ => c
noncomputable def pT : Kont → Result → Sem Fin
  | .base, _ => .unsupported ""
  | .ret _ _ k _, r => k r
noncomputable def simA (C : Cx) (A₀ : Around) (T : Nat → Option Obj) (n tk F : Nat) (κ : Kont) (r : Result) (l : List Ent) (H : Nat) : Out := sim C A₀ T n tk F (pK κ) (pCo κ) (pT κ r) l 0 0 H []
/-- values without their tokens -/
inductive VV where
  | str (s : Str)
  | int (i : Int)
  | ref (a : Addr)
  | bool (b : Bool)
  | none
  | other (v : Value)
noncomputable def vv : Value → VV
  | .str s _ => .str s
  | .int i _ => .int i
  | .ref a => .ref a
  | .bool b => .bool b
  | .none => .none
  | v => .other v
inductive Seen where
  | bi (id : Nat) (args : List VV)
  | fn (a : Addr) (args : List VV)
  | ret (v : VV)
  | next
  | other
noncomputable def seeCode : Code → Seen
  | .builtin id ⟨pos, []⟩ => .bi (PySem.W.S.codeS id) (pos.map vv)
  | .call (.ref a) ⟨pos, []⟩ => .fn a (pos.map vv)
  | _ => .other
noncomputable def codeO (o : Out) : Option Code := match o.t with
  | .call c' hd _ _ _ => match X.okMark hd with
    | true => some c'
    | false => none
  | .pure (.again c') => match qt c' with
    | true => some c'
    | false => none
  | _ => none
noncomputable def see (o : Out) : Seen := match codeO o with
  | some c => seeCode c
  | none => match o.t with
    | .pure (.done f) => match o.κ with
      | .base => match f with
        | .ret v => .ret (vv v)
        | .next => .next
        | _ => .other
      | _ => .other
    | _ => .other
noncomputable def κO (o : Out) : Kont := match o.t with
  | .call _ hd _ _ k => .ret o.c hd k o.κ
  | _ => o.κ
noncomputable def arO (A₀ : Around) (o : Out) : Around := match o.t with
  | .call _ hd _ _ _ => ((aroundK A₀ o.κ).under o.c).mark hd
  | _ => aroundK A₀ o.κ
section
variable {C : Cx} {A₀ : Around} {R₀ : Post Result} {T : Nat → Option Obj} {h₀ : Heap} {fp : List Addr} {n tk : Nat} {g : Gs} {h : Heap} {l : List Ent} {κ : Kont} {r : Result}
theorem after_base {v : Result} (e : isRet κ = false) (x : R₀ v h g tk) : After C A₀ R₀ κ v h g tk := by
  cases κ with
  | base => exact ⟨x⟩
  | ret => cases e
theorem run {F H : Nat} (S : St T h₀ h fp l) (hr : isRet κ = true) (hk : (simA C A₀ T h.objs.size tk F κ r l H).acc.map (·.1) = (simA C A₀ T h.objs.size tk F κ r l H).acc.map (·.2))
    (x : ∀ h' tk', St T h₀ h' fp (simA C A₀ T h.objs.size tk F κ r l H).l → Means C A₀ R₀ (simA C A₀ T h.objs.size tk F κ r l H).κ (simA C A₀ T h.objs.size tk F κ r l H).c (simA C A₀ T h.objs.size tk F κ r l H).t h' g tk') :
    After C A₀ R₀ κ r h g tk := by
  cases κ with
  | base => cases hr
  | ret c hd k κ => exact ⟨(sim_sound (n := h.objs.size) F κ c (k r) l 0 0 H [] h hk (fun h' S' => x h' _ S') S rfl).2⟩
theorem code_stop {o : Out} {c : Code} (hl : h.NoLimit) (e : codeO o = some c) (x : CodeP C (arO A₀ o) c (After C A₀ R₀ (κO o)) h g tk) : Means C A₀ R₀ o.κ o.c o.t h g tk := by
  obtain ⟨κ, c₁, t, l, m, i, acc⟩ := o
  unfold codeO at e
  dsimp only at e ⊢
  split at e
  · split at e
    · rename_i q
      cases e
      exact means_call q x
    · cases e
  · split at e
    · rename_i q
      cases e
      exact Means.again hl q x
    · cases e
  · cases e
/-- a stop at a code -/
theorem go_code {F H : Nat} (c' : Code) (d : Nat) (S : St T h₀ h fp l)
    (hk : ((simA C A₀ T h.objs.size tk F κ r l H).acc.map (·.1), isRet κ, (arO A₀ (simA C A₀ T h.objs.size tk F κ r l H)).depth, (arO A₀ (simA C A₀ T h.objs.size tk F κ r l H)).handled, codeO (simA C A₀ T h.objs.size tk F κ r l H)) = ((simA C A₀ T h.objs.size tk F κ r l H).acc.map (·.2), true, A₀.depth + d, A₀.handled, some c'))
    (x : ∀ h' tk', (arO A₀ (simA C A₀ T h.objs.size tk F κ r l H)).depth = A₀.depth + d → (arO A₀ (simA C A₀ T h.objs.size tk F κ r l H)).handled = A₀.handled → St T h₀ h' fp (simA C A₀ T h.objs.size tk F κ r l H).l → CodeP C (arO A₀ (simA C A₀ T h.objs.size tk F κ r l H)) c' (After C A₀ R₀ (κO (simA C A₀ T h.objs.size tk F κ r l H))) h' g tk') :
    After C A₀ R₀ κ r h g tk := by
  obtain ⟨e1, e2, e7, e8, e3⟩ := Prod.mk.inj hk |>.imp id fun q => Prod.mk.inj q |>.imp id fun q => Prod.mk.inj q |>.imp id Prod.mk.inj
  exact run S e2 e1 fun h' tk' S' => code_stop S'.nolim e3 (x h' tk' e7 e8 S')
theorem see_bi {o : Out} {id : Nat} {args : List VV} (e : see o = .bi id args) : ∃ i vs, codeO o = some (.builtin i ⟨vs, []⟩) ∧ PySem.W.S.codeS i = id ∧ vs.map vv = args := by
  unfold see at e
  split at e
  · rename_i c hc
    unfold seeCode at e
    split at e
    · cases e; exact ⟨_, _, hc, rfl, rfl⟩
    · cases e
    · cases e
  · split at e
    · split at e
      · split at e <;> cases e
      · cases e
    · cases e
theorem see_fn {o : Out} {a : Addr} {args : List VV} (e : see o = .fn a args) : ∃ vs, codeO o = some (.call (.ref a) ⟨vs, []⟩) ∧ vs.map vv = args := by
  unfold see at e
  split at e
  · rename_i c hc
    unfold seeCode at e
    split at e
    · cases e
    · cases e; exact ⟨_, hc, rfl⟩
    · cases e
  · split at e
    · split at e
      · split at e <;> cases e
      · cases e
    · cases e
theorem see_ret {o : Out} {v : VV} (e : see o = .ret v) : ∃ w, o.κ = .base ∧ o.t = .pure (.done (.ret w)) ∧ vv w = v := by
  unfold see at e
  split at e
  · unfold seeCode at e
    split at e <;> cases e
  · split at e
    · rename_i ht
      split at e
      · rename_i hk
        split at e
        · cases e; exact ⟨_, hk, ht, rfl⟩
        · cases e
        · cases e
      · cases e
    · cases e
theorem see_next {o : Out} (e : see o = .next) : o.κ = .base ∧ o.t = .pure (.done .next) := by
  unfold see at e
  split at e
  · unfold seeCode at e
    split at e <;> cases e
  · split at e
    · rename_i ht
      split at e
      · rename_i hk
        split at e
        · cases e
        · exact ⟨hk, ht⟩
        · cases e
      · cases e
    · cases e
/-- a stop at a built-in -/
theorem go_bi {F H : Nat} (idn : Nat) (args : List VV) (S : St T h₀ h fp l)
    (hk : ((simA C A₀ T h.objs.size tk F κ r l H).acc.map (·.1), isRet κ, see (simA C A₀ T h.objs.size tk F κ r l H)) = ((simA C A₀ T h.objs.size tk F κ r l H).acc.map (·.2), true, .bi idn args))
    (x : ∀ h' tk' i vs, PySem.W.S.codeS i = idn → vs.map vv = args → St T h₀ h' fp (simA C A₀ T h.objs.size tk F κ r l H).l → CodeP C (arO A₀ (simA C A₀ T h.objs.size tk F κ r l H)) (.builtin i ⟨vs, []⟩) (After C A₀ R₀ (κO (simA C A₀ T h.objs.size tk F κ r l H))) h' g tk') :
    After C A₀ R₀ κ r h g tk := by
  obtain ⟨e1, e2, e3⟩ := Prod.mk.inj hk |>.imp id Prod.mk.inj
  obtain ⟨i, vs, e4, e5, e6⟩ := see_bi e3
  exact run S e2 e1 fun h' tk' S' => code_stop S'.nolim e4 (x h' tk' i vs e5 e6 S')
theorem go_bid {F H : Nat} (idn : Nat) (args : List VV) (d : Nat) (S : St T h₀ h fp l)
    (hk : ((simA C A₀ T h.objs.size tk F κ r l H).acc.map (·.1), isRet κ, (arO A₀ (simA C A₀ T h.objs.size tk F κ r l H)).depth, (arO A₀ (simA C A₀ T h.objs.size tk F κ r l H)).handled, see (simA C A₀ T h.objs.size tk F κ r l H)) = ((simA C A₀ T h.objs.size tk F κ r l H).acc.map (·.2), true, A₀.depth + d, A₀.handled, .bi idn args))
    (x : ∀ h' tk' i vs, PySem.W.S.codeS i = idn → vs.map vv = args → (arO A₀ (simA C A₀ T h.objs.size tk F κ r l H)).depth = A₀.depth + d → (arO A₀ (simA C A₀ T h.objs.size tk F κ r l H)).handled = A₀.handled → St T h₀ h' fp (simA C A₀ T h.objs.size tk F κ r l H).l → CodeP C (arO A₀ (simA C A₀ T h.objs.size tk F κ r l H)) (.builtin i ⟨vs, []⟩) (After C A₀ R₀ (κO (simA C A₀ T h.objs.size tk F κ r l H))) h' g tk') :
    After C A₀ R₀ κ r h g tk := by
  obtain ⟨e1, e2, e7, e8, e3⟩ := Prod.mk.inj hk |>.imp id fun q => Prod.mk.inj q |>.imp id fun q => Prod.mk.inj q |>.imp id Prod.mk.inj
  obtain ⟨i, vs, e4, e5, e6⟩ := see_bi e3
  exact run S e2 e1 fun h' tk' S' => code_stop S'.nolim e4 (x h' tk' i vs e5 e6 e7 e8 S')
/-- a stop at a call -/
theorem go_fn {F H : Nat} (a : Addr) (args : List VV) (d : Nat) (S : St T h₀ h fp l)
    (hk : ((simA C A₀ T h.objs.size tk F κ r l H).acc.map (·.1), isRet κ, (arO A₀ (simA C A₀ T h.objs.size tk F κ r l H)).depth, (arO A₀ (simA C A₀ T h.objs.size tk F κ r l H)).handled, see (simA C A₀ T h.objs.size tk F κ r l H)) = ((simA C A₀ T h.objs.size tk F κ r l H).acc.map (·.2), true, A₀.depth + d, A₀.handled, .fn a args))
    (x : ∀ h' tk' vs, vs.map vv = args → (arO A₀ (simA C A₀ T h.objs.size tk F κ r l H)).depth = A₀.depth + d → (arO A₀ (simA C A₀ T h.objs.size tk F κ r l H)).handled = A₀.handled → St T h₀ h' fp (simA C A₀ T h.objs.size tk F κ r l H).l → CodeP C (arO A₀ (simA C A₀ T h.objs.size tk F κ r l H)) (.call (.ref a) ⟨vs, []⟩) (After C A₀ R₀ (κO (simA C A₀ T h.objs.size tk F κ r l H))) h' g tk') :
    After C A₀ R₀ κ r h g tk := by
  obtain ⟨e1, e2, e7, e8, e3⟩ := Prod.mk.inj hk |>.imp id fun q => Prod.mk.inj q |>.imp id fun q => Prod.mk.inj q |>.imp id Prod.mk.inj
  obtain ⟨vs, e4, e6⟩ := see_fn e3
  exact run S e2 e1 fun h' tk' S' => code_stop S'.nolim e4 (x h' tk' vs e6 e7 e8 S')
/-- the end: a value -/
theorem go_ret {F H : Nat} (v : VV) (S : St T h₀ h fp l)
    (hk : ((simA C A₀ T h.objs.size tk F κ r l H).acc.map (·.1), isRet κ, see (simA C A₀ T h.objs.size tk F κ r l H)) = ((simA C A₀ T h.objs.size tk F κ r l H).acc.map (·.2), true, .ret v))
    (x : ∀ h' tk' w, vv w = v → St T h₀ h' fp (simA C A₀ T h.objs.size tk F κ r l H).l → R₀ (.ok (.ret w)) h' g tk') :
    After C A₀ R₀ κ r h g tk := by
  obtain ⟨e1, e2, e3⟩ := Prod.mk.inj hk |>.imp id Prod.mk.inj
  obtain ⟨w, e4, e5, e6⟩ := see_ret e3
  refine run S e2 e1 fun h' tk' S' => ?_
  rw [e4, e5]
  exact X.y_pure _ _ _ _ _ _ _ _ _ (After.endS (A₀ := A₀) (κ := .base) ⟨x h' tk' w e6 S'⟩)
theorem go_next {F H : Nat} (S : St T h₀ h fp l)
    (hk : ((simA C A₀ T h.objs.size tk F κ r l H).acc.map (·.1), isRet κ, see (simA C A₀ T h.objs.size tk F κ r l H)) = ((simA C A₀ T h.objs.size tk F κ r l H).acc.map (·.2), true, .next))
    (x : ∀ h' tk', St T h₀ h' fp (simA C A₀ T h.objs.size tk F κ r l H).l → R₀ (.ok .next) h' g tk') :
    After C A₀ R₀ κ r h g tk := by
  obtain ⟨e1, e2, e3⟩ := Prod.mk.inj hk |>.imp id Prod.mk.inj
  obtain ⟨e4, e5⟩ := see_next e3
  refine run S e2 e1 fun h' tk' S' => ?_
  rw [e4, e5]
  exact X.y_pure _ _ _ _ _ _ _ _ _ (After.endS (A₀ := A₀) (κ := .base) ⟨x h' tk' S'⟩)
theorem enter {A : Around} {R : Post Result} {c : Code} {h : Heap} (x : After C A R (.ret c none (fun _ => den c) .base) (.ok .next) h g tk) : CodeP C A c R h g tk := ⟨code_of_means x.out⟩
noncomputable abbrev nfe : Scope → Addr → List (Str × Addr) → List (Str × Value) → Str → Option Addr → Value → Option Env → Addr → Sem Env := @PySem.W.ZFast.zw11113344188204177931
theorem nfe_eq : @newFunctionEnv = @PySem.W.ZFast.zw11113344188204177931 := PySem.W.ZFast.ze11113344188204177931
/-- a call of a def -/
theorem call_fn {A : Around} {R : Post Result} {h : Heap} {l : List Ent} {a : Addr} {args : Args} {o : Obj} {fd : FuncData} {body : List Stmt} {cd : Addr} {oc : Obj} {vs : Array Value} {tq : Tok} {binds : List (Str × Value)}
    (S : St T h₀ h fp l) (hroom : A.depth < recursionLimit) (ho : h.get? a = some o) (hd' : o.data = .func fd) (hco : fd.scope.isCoroutine = false) (hgen : fd.scope.isGenerator = false) (hbody : fd.body = .stmts body)
    (hc : fd.code = .ref cd) (hoc : h.get? cd = some oc) (hdc : oc.data = .fields vs) (hq : vs[1]? = some (.str fd.qualname tq)) (hb : bindArgs fd args = pure binds)
    (x : After C A R (.ret (.call (.ref a) args) none (fun _ => (nfe fd.scope fd.globals fd.closure binds (fd.qualname ++ ".<locals>.") (some a) fd.code none fd.builtins).bind fun env => .pure (.again (.func body env))) .base) (.ok .next) h g tk) :
    CodeP C A (.call (.ref a) args) R h g tk := by
  have en : ∀ a b c d e f g i j, nfe a b c d e f g i j = newFunctionEnv a b c d e f g i j := fun _ _ _ _ _ _ _ _ _ => by rw [nfe_eq]
  rw [en] at x
  refine ⟨codeAny_of_own ?_⟩
  have y : wpOwn C.M A (.call (.ref a) args) (newFunctionEnv fd.scope fd.globals fd.closure binds (fd.qualname ++ ".<locals>.") (some a) fd.code none fd.builtins) (fun env s' => s'.heap.NoLimit ∧ codeAny C.M A (.func body env) (up C R) s') (pE (up C R)) ⟨h, g, C.d, tk, C.os⟩ := by
    intro Γ p hc hΓ
    have z := x.out Γ p hc hΓ
    rw [Sem.wp_bind] at z
    exact Sem.wp_mono _ _ _ (fun env p' s' q => ⟨q.1, q.2.2⟩) (fun _ _ _ q => q) _ _ z
  show wpOwn C.M A (.call (.ref a) args) (callAny (.ref a) args) _ _ _
  simp only [callAny]
  refine wpOwn_bind (wpOwn_of_wpAny (wpAny_load ho ?_))
  simp only [hd', callFunction, hco, hgen, hbody, hc]
  rw [hc] at y
  refine wpOwn_bind (m := field (.ref cd) 1) (wpOwn_of_wpAny (wpAny_field hoc hdc hq ?_))
  refine wpOwn_bind (wpOwn_of_wpAny (wpAny_pure ?_))
  rw [hb]
  refine wpOwn_bind (wpOwn_of_wpAny (wpAny_pure ?_))
  refine wpOwn_bind (wpOwn_mono y (fun env s₂ h₂ => ?_) fun _ _ h' => h')
  refine wpOwn_bind (wpOwn_of_wpAny (wpAny_enterFrame h₂.1 hroom ?_))
  exact wpOwn_of_wpAny (wpAny_pure (And.intro rfl h₂.2))
end

/-! ## Objects without their tokens -/
inductive DV where
  | seq (vs : List VV) (n : Nat)
  | dict (es : List (Int × VV × VV)) (n : Nat)
  | fields (vs : List VV)
  | cell (v : VV)
  | rest (d : Data)
structure OV where
  cls : Value
  dct : Option Addr
  data : DV
  slots : List (Option Value)
structure EV where
  a : Addr
  w : Bool
  o : OV
noncomputable def tokOf : Value → Tok
  | .str _ t => t
  | .int _ t => t
  | _ => 0
noncomputable def mkV : VV → Tok → Value
  | .str s, t => .str s t
  | .int s, t => .int s t
  | .ref a, _ => .ref a
  | .bool b, _ => .bool b
  | .none, _ => .none
  | .other v, _ => v
theorem mkV_vv (v : Value) : mkV (vv v) (tokOf v) = v := by cases v <;> rfl
noncomputable def hdT : List Tok → Tok
  | [] => 0
  | t :: _ => t
noncomputable def tlT : List Tok → List Tok
  | [] => []
  | _ :: l => l
noncomputable def hdL : List (List Tok) → List Tok
  | [] => []
  | t :: _ => t
noncomputable def tlL : List (List Tok) → List (List Tok)
  | [] => []
  | _ :: l => l
noncomputable def mkVs : List VV → List Tok → List Value
  | [], _ => []
  | v :: l, τ => mkV v (hdT τ) :: mkVs l (tlT τ)
theorem mkVs_map : ∀ l : List Value, mkVs (l.map vv) (l.map tokOf) = l
  | [] => rfl
  | v :: l => by
    show mkV (vv v) (tokOf v) :: mkVs (l.map vv) (l.map tokOf) = v :: l
    rw [mkV_vv, mkVs_map l]
noncomputable def ve (e : DictEntry) : Int × VV × VV := (e.hash, vv e.key, vv e.val)
noncomputable def toksE : List DictEntry → List Tok
  | [] => []
  | e :: l => tokOf e.key :: tokOf e.val :: toksE l
noncomputable def mkEs : List (Int × VV × VV) → List Tok → List DictEntry
  | [], _ => []
  | e :: l, τ => ⟨e.1, mkV e.2.1 (hdT τ), mkV e.2.2 (hdT (tlT τ))⟩ :: mkEs l (tlT (tlT τ))
theorem mkEs_map : ∀ l : List DictEntry, mkEs (l.map ve) (toksE l) = l
  | [] => rfl
  | e :: l => by
    show (⟨e.hash, mkV (vv e.key) (tokOf e.key), mkV (vv e.val) (tokOf e.val)⟩ : DictEntry) :: mkEs (l.map ve) (toksE l) = e :: l
    rw [mkV_vv, mkV_vv, mkEs_map l]
noncomputable def dv : Data → DV
  | .seq vs n => .seq (vs.toList.map vv) n
  | .dict es n => .dict (es.toList.map ve) n
  | .fields vs => .fields (vs.toList.map vv)
  | .cell c => match c with
    | some v => .cell (vv v)
    | none => .rest (.cell none)
  | d => .rest d
noncomputable def toksD : Data → List Tok
  | .seq vs _ => vs.toList.map tokOf
  | .dict es _ => toksE es.toList
  | .fields vs => vs.toList.map tokOf
  | .cell (some v) => [tokOf v]
  | _ => []
noncomputable def mkD : DV → List Tok → Data
  | .seq vs n, τ => .seq ⟨mkVs vs τ⟩ n
  | .dict es n, τ => .dict ⟨mkEs es τ⟩ n
  | .fields vs, τ => .fields ⟨mkVs vs τ⟩
  | .cell v, τ => .cell (some (mkV v (hdT τ)))
  | .rest d, _ => d
theorem mkD_dv : ∀ d : Data, mkD (dv d) (toksD d) = d
  | .seq vs n => by show Data.seq ⟨mkVs (vs.toList.map vv) (vs.toList.map tokOf)⟩ n = _; rw [mkVs_map]
  | .dict es n => by show Data.dict ⟨mkEs (es.toList.map ve) (toksE es.toList)⟩ n = _; rw [mkEs_map]
  | .fields vs => by show Data.fields ⟨mkVs (vs.toList.map vv) (vs.toList.map tokOf)⟩ = _; rw [mkVs_map]
  | .cell (some v) => by show Data.cell (some (mkV (vv v) (tokOf v))) = _; rw [mkV_vv]
  | .cell none => rfl
  | .plain => rfl
  | .prim _ => rfl
  | .set .. => rfl
  | .bytearray .. => rfl
  | .func _ => rfl
  | .cls _ => rfl
  | .freed => rfl
noncomputable def ov (o : Obj) : OV := ⟨o.cls, o.dict, dv o.data, o.slots.toList⟩
noncomputable def mkO (v : OV) (τ : List Tok) : Obj := ⟨v.cls, v.dct, mkD v.data τ, ⟨v.slots⟩⟩
theorem mkO_ov (o : Obj) : mkO (ov o) (toksD o.data) = o := by
  obtain ⟨c, d, dt, sl⟩ := o
  show (⟨c, d, mkD (dv dt) (toksD dt), sl⟩ : Obj) = _
  rw [mkD_dv]
noncomputable def ev (e : Ent) : EV := ⟨e.a, e.w, ov e.o⟩
noncomputable def mkL : List EV → List (List Tok) → List Ent
  | [], _ => []
  | v :: l, τ => ⟨v.a, v.w, mkO v.o (hdL τ)⟩ :: mkL l (tlL τ)
theorem mkL_ev : ∀ l : List Ent, mkL (l.map ev) (l.map fun e => toksD e.o.data) = l
  | [] => rfl
  | e :: l => by
    show (⟨e.a, e.w, mkO (ov e.o) (toksD e.o.data)⟩ : Ent) :: mkL (l.map ev) (l.map fun e => toksD e.o.data) = e :: l
    rw [mkO_ov, mkL_ev l]
theorem mkL_addr : ∀ (l : List EV) (τ : List (List Tok)), (mkL l τ).map (·.a) = l.map (·.a)
  | [], _ => rfl
  | v :: l, τ => congrArg (v.a :: ·) (mkL_addr l (tlL τ))
theorem mkL_w : ∀ (l : List EV) (τ : List (List Tok)), (mkL l τ).map (·.w) = l.map (·.w)
  | [], _ => rfl
  | v :: l, τ => congrArg (v.w :: ·) (mkL_w l (tlL τ))

/-! ## Parts of a ledger -/
noncomputable def pick {α : Type} : List Nat → List α → List α
  | [], _ => []
  | i :: r, l => match nth l i with
    | some x => x :: pick r l
    | none => []
noncomputable def freshB (i : Nat) : List Nat → Bool
  | [] => true
  | j :: r => match Nat.beq i j with
    | true => false
    | false => freshB i r
noncomputable def nodupB : List Nat → Bool
  | [] => true
  | i :: r => match freshB i r with
    | true => nodupB r
    | false => false
noncomputable def lowW : List Ent → List Bool → List Ent
  | [], _ => []
  | _ :: _, [] => []
  | e :: l, b :: bs => ⟨e.a, e.w && b, e.o⟩ :: lowW l bs
noncomputable def fpE : List EV → List Addr
  | [] => []
  | e :: l => match e.w with
    | true => e.a :: fpE l
    | false => fpE l
noncomputable def bck : List Nat → List Ent → List Ent → List Ent
  | [], l, ex => ex ++ l
  | i :: r, l, e :: l' => bck r (put e.o l i) l'
  | _ :: _, l, [] => l
theorem pick_mem {α : Type} {l : List α} : ∀ {idx : List Nat} {x : α}, x ∈ pick idx l → ∃ i ∈ idx, nth l i = some x
  | [], _, h => nomatch h
  | i :: r, x, h => by
    unfold pick at h
    split at h
    · rename_i y hy
      cases List.mem_cons.mp h with
      | inl q => subst q; exact ⟨i, .head _, hy⟩
      | inr q => obtain ⟨j, hj, e⟩ := pick_mem q; exact ⟨j, .tail _ hj, e⟩
    · cases h
theorem nth_inj {l : List Ent} (nd : (l.map (·.a)).Nodup) : ∀ {i j : Nat} {p q : Ent}, nth l i = some p → nth l j = some q → p.a = q.a → i = j := by
  induction l with
  | nil => intro i j p q h; cases h
  | cons x l ih =>
    rw [List.map_cons, List.nodup_cons] at nd
    intro i j p q hi hj e
    cases i with
    | zero =>
      cases j with
      | zero => rfl
      | succ j =>
        cases (show some x = some p from hi)
        exact absurd (e ▸ List.mem_map_of_mem (nth_mem (show nth l j = some q from hj))) nd.1
    | succ i =>
      cases j with
      | zero =>
        cases (show some x = some q from hj)
        exact absurd (e ▸ List.mem_map_of_mem (nth_mem (show nth l i = some p from hi))) nd.1
      | succ j => exact congrArg Nat.succ (ih nd.2 (show nth l i = some p from hi) (show nth l j = some q from hj) e)
theorem freshB_not : ∀ {r : List Nat} {i : Nat}, freshB i r = true → i ∉ r
  | [], _, _, h => nomatch h
  | j :: r, i, e, h => by
    unfold freshB at e
    split at e
    · cases e
    · rename_i q
      cases List.mem_cons.mp h with
      | inl z => subst z; rw [Nat.beq_refl] at q; cases q
      | inr z => exact freshB_not e z
theorem pick_nodup {l : List Ent} (nd : (l.map (·.a)).Nodup) : ∀ {idx : List Nat}, nodupB idx = true → ((pick idx l).map (·.a)).Nodup
  | [], _ => List.nodup_nil
  | i :: r, e => by
    unfold nodupB at e
    split at e
    · rename_i f
      unfold pick
      split
      · rename_i x hx
        rw [List.map_cons, List.nodup_cons]
        refine ⟨fun hm => ?_, pick_nodup nd e⟩
        obtain ⟨y, hy, q⟩ := List.mem_map.mp hm
        obtain ⟨j, hj, hj'⟩ := pick_mem hy
        have := nth_inj nd hx hj' q.symm
        subst this
        exact freshB_not f hj
      · exact List.nodup_nil
    · cases e
theorem lowW_mem : ∀ {l : List Ent} {bs : List Bool} {p : Ent}, p ∈ lowW l bs → ∃ e ∈ l, p.a = e.a ∧ p.o = e.o ∧ (p.w = true → e.w = true)
  | [], _, _, h => nomatch h
  | _ :: _, [], _, h => nomatch h
  | e :: l, b :: bs, p, h => by
    cases List.mem_cons.mp h with
    | inl q => subst q; exact ⟨e, .head _, rfl, rfl, fun z => (Bool.and_eq_true_iff.mp z).1⟩
    | inr q => obtain ⟨e', he, r⟩ := lowW_mem q; exact ⟨e', .tail _ he, r⟩
theorem lowW_sub : ∀ (l : List Ent) (bs : List Bool), ((lowW l bs).map (·.a)).Sublist (l.map (·.a))
  | [], _ => List.Sublist.slnil
  | _ :: _, [] => List.nil_sublist _
  | e :: l, b :: bs => List.Sublist.cons_cons _ (lowW_sub l bs)
theorem fpE_mem : ∀ {l : List Ent} {a : Addr}, a ∈ fpE (l.map ev) → ∃ e ∈ l, e.a = a ∧ e.w = true
  | [], _, h => nomatch h
  | e :: l, a, h => by
    have h' : a ∈ (match e.w with | true => e.a :: fpE (l.map ev) | false => fpE (l.map ev)) := h
    split at h'
    · rename_i q
      cases List.mem_cons.mp h' with
      | inl z => exact ⟨e, .head _, z.symm, q⟩
      | inr z => obtain ⟨e', he, r⟩ := fpE_mem z; exact ⟨e', .tail _ he, r⟩
    · obtain ⟨e', he, r⟩ := fpE_mem h'; exact ⟨e', .tail _ he, r⟩
section
variable {T : Nat → Option Obj} {h₀ h h' : Heap} {fp : List Addr} {l : List Ent}
/-- a part, without tokens -/
theorem St.part (S : St T h₀ h fp l) (idx : List Nat) {vl : List EV} (hv : (nodupB idx, (lowW (pick idx l) (vl.map (·.w))).map ev) = (true, vl)) : ∃ τ, St T h₀ h fp (mkL vl τ) := by
  have hn := congrArg Prod.fst hv
  have he : (lowW (pick idx l) (vl.map (·.w))).map ev = vl := congrArg Prod.snd hv
  generalize vl.map (·.w) = bs at he
  refine ⟨(lowW (pick idx l) bs).map fun e => toksD e.o.data, ?_⟩
  rw [← he, mkL_ev]
  refine ⟨(pick_nodup S.nd hn).sublist (lowW_sub _ _), fun p hp => ?_, fun p hp hw => ?_, S.old, S.top, S.size, S.lim, S.two⟩
  · obtain ⟨e', he', q1, q2, _⟩ := lowW_mem hp
    obtain ⟨i, _, qi⟩ := pick_mem he'
    rw [q1, q2]; exact S.at qi
  · obtain ⟨e', he', q1, q2, q3⟩ := lowW_mem hp
    obtain ⟨i, _, qi⟩ := pick_mem he'
    rw [q1]; exact S.wr e' (nth_mem qi) (q3 hw)
theorem St.give {G : Prop} (S : St T h₀ h fp l) (idx : List Nat) {vl : List EV} (k : ∀ τ, St T h₀ h fp (mkL vl τ) → G) (hv : (nodupB idx, (lowW (pick idx l) (vl.map (·.w))).map ev) = (true, vl)) : G := by
  obtain ⟨τ, S'⟩ := S.part idx hv
  exact k τ S'
/-- the callee's start -/
theorem St.enter (S : St T h₀ h fp l) (idx : List Nat) (bs : List Bool) {vl : List EV} (hv : (nodupB idx, (lowW (pick idx l) bs).map ev) = (true, vl)) : (∃ τ, St T h h (fpE vl) (mkL vl τ)) ∧ ∀ a ∈ fpE vl, a ∈ fp ∨ h₀.objs.size ≤ a := by
  have hn := congrArg Prod.fst hv
  have he : (lowW (pick idx l) bs).map ev = vl := congrArg Prod.snd hv
  rw [← he]
  have key : ∀ a ∈ fpE ((lowW (pick idx l) bs).map ev), a ∈ fp ∨ h₀.objs.size ≤ a := by
    intro a ha
    obtain ⟨e, he, q, qw⟩ := fpE_mem ha
    obtain ⟨e', he', q1, q2, q3⟩ := lowW_mem he
    obtain ⟨i, _, qi⟩ := pick_mem he'
    have := S.wr e' (nth_mem qi) (q3 qw)
    rw [← q1, q] at this
    exact this
  refine ⟨⟨(lowW (pick idx l) bs).map fun e => toksD e.o.data, ?_⟩, key⟩
  rw [mkL_ev]
  refine ⟨(pick_nodup S.nd hn).sublist (lowW_sub _ _), fun p hp => ?_, fun p hp hw => .inl ?_, fun b o e _ => e, fun a o e => ⟨S.topGet e, fun ha => ?_⟩, Nat.le_refl _, S.nolim, fun ha => ?_⟩
  · obtain ⟨e', he', q1, q2, _⟩ := lowW_mem hp
    obtain ⟨i, _, qi⟩ := pick_mem he'
    rw [q1, q2]; exact S.at qi
  · clear key hv hn he
    generalize lowW (pick idx l) bs = L at hp
    induction L with
    | nil => cases hp
    | cons e r ih =>
      show p.a ∈ (match e.w with | true => e.a :: fpE (r.map ev) | false => fpE (r.map ev))
      cases List.mem_cons.mp hp with
      | inl q => subst q; rw [hw]; exact .head _
      | inr q =>
        split
        · exact .tail _ (ih q)
        · exact ih q
  · rcases key a ha with q | q
    · exact (S.top a o e).2 q
    · exact absurd (Heap.lt_size (S.top a o e).1) (Nat.not_lt.mpr q)
  · rcases key _ ha with q | q
    · exact S.two q
    · obtain ⟨mc, ⟨o, es, ep, e, _⟩, _⟩ := S.lim
      exact absurd (Heap.lt_size e) (Nat.not_lt.mpr q)
theorem pick_put (o : Obj) (l : List Ent) (i : Nat) : ∀ idx : List Nat, (pick idx (put o l i)).map (·.a) = (pick idx l).map (·.a) := by
  have key : ∀ (l : List Ent) (i j : Nat), (nth (put o l i) j).map (·.a) = (nth l j).map (·.a) := by
    intro l
    induction l with
    | nil => intro i j; rfl
    | cons x l ih =>
      intro i j
      cases i with
      | zero => cases j <;> rfl
      | succ i => cases j with
        | zero => rfl
        | succ j => exact ih i j
  intro idx
  induction idx with
  | nil => rfl
  | cons j r ih =>
    have := key l i j
    simp only [pick]
    cases e1 : nth (put o l i) j with
    | none => cases e2 : nth l j with
      | none => rfl
      | some y => rw [e1, e2] at this; cases this
    | some x => cases e2 : nth l j with
      | none => rw [e1, e2] at this; cases this
      | some y =>
        rw [e1, e2] at this
        have q : x.a = y.a := Option.some.inj this
        simp only [List.map_cons]
        rw [q, ih]
structure Half (h₀ h h' : Heap) (fp : List Addr) (todo : List Addr) (l : List Ent) : Prop where
  nd : (l.map (·.a)).Nodup
  get : ∀ p ∈ l, p.a ∈ todo ∨ h'.get? p.a = some p.o
  wr : ∀ p ∈ l, p.w = true → p.a ∈ fp ∨ h₀.objs.size ≤ p.a
  lt : ∀ p ∈ l, p.a < h.objs.size
theorem half_step {todo : List Addr} {e e' : Ent} {i : Nat} (X : Half h₀ h h' fp (e'.a :: todo) l) (hi : nth l i = some e) (ha : e.a = e'.a) (hg : h'.get? e'.a = some e'.o) : Half h₀ h h' fp todo (put e'.o l i) := by
  refine ⟨by rw [put_addr]; exact X.nd, fun p hp => ?_, fun p hp hw => ?_, fun p hp => ?_⟩
  · rcases put_mem _ hi hp with rfl | ⟨hp, hn⟩
    · exact .inr (ha ▸ hg)
    · rcases X.get p hp with q | q
      · cases List.mem_cons.mp q with
        | inl z => exact absurd (z.trans ha.symm) (hn X.nd)
        | inr z => exact .inl z
      · exact .inr q
  · rcases put_mem _ hi hp with rfl | ⟨hp, _⟩
    · exact X.wr e (nth_mem hi) hw
    · exact X.wr p hp hw
  · rcases put_mem _ hi hp with rfl | ⟨hp, _⟩
    · exact X.lt e (nth_mem hi)
    · exact X.lt p hp
theorem half_back : ∀ (idx : List Nat) {l : List Ent} (l1 ex : List Ent), Half h₀ h h' fp (l1.map (·.a)) l → (pick idx l).map (·.a) = l1.map (·.a) → idx.length = l1.length → (∀ p ∈ l1, h'.get? p.a = some p.o) →
    ∃ L, bck idx l (l1 ++ ex) = ex ++ L ∧ Half h₀ h h' fp [] L
  | [], l, [], ex, X, _, _, _ => ⟨l, rfl, X⟩
  | [], _, _ :: _, _, _, _, hl, _ => by cases hl
  | _ :: _, _, [], _, _, _, hl, _ => by cases hl
  | i :: r, l, e' :: l1, ex, X, hp, hl, hg => by
    have hp' := hp
    simp only [pick] at hp'
    split at hp'
    · rename_i e he
      rw [List.map_cons, List.map_cons] at hp'
      have q1 : e.a = e'.a := (List.cons.inj hp').1
      have q2 := (List.cons.inj hp').2
      exact half_back r l1 ex (half_step X he q1 (hg e' (.head _))) ((pick_put _ _ _ _).trans q2) (Nat.succ.inj hl) fun p hp => hg p (.tail _ hp)
    · cases hp'
/-- behind the callee -/
theorem St.back (S : St T h₀ h fp l) (idx : List Nat) {vl vl' : List EV} {τ' : List (List Tok)} (hw : ∀ a ∈ fpE vl, a ∈ fp ∨ h₀.objs.size ≤ a) (S' : St T h h' (fpE vl) (mkL vl' τ'))
    (hb : ((pick idx l).map (·.a), idx.length, (vl'.drop idx.length).map (·.w), fpE vl) = ((vl'.take idx.length).map (·.a), (vl'.take idx.length).length, (vl'.drop idx.length).map (fun _ => true), (vl'.take idx.length).map (·.a))) :
    St T h₀ h' fp (bck idx l (mkL vl' τ')) := by
  have e1 := congrArg (·.1) hb
  have e2 := congrArg (·.2.1) hb
  have e3 := congrArg (·.2.2.1) hb
  have e4 := congrArg (·.2.2.2) hb
  dsimp only at e1 e2 e3 e4
  have key : ∀ (n : Nat) (v : List EV) (τ : List (List Tok)), ∃ l1 ex, mkL v τ = l1 ++ ex ∧ l1.map (·.a) = (v.take n).map (·.a) ∧ l1.length = (v.take n).length ∧ ex.map (·.w) = (v.drop n).map (·.w) := by
    intro n
    induction n with
    | zero => intro v τ; exact ⟨[], mkL v τ, rfl, by simp, by simp, by rw [mkL_w]; simp⟩
    | succ n ih =>
      intro v τ
      cases v with
      | nil => exact ⟨[], [], rfl, rfl, rfl, rfl⟩
      | cons x v =>
        obtain ⟨l1, ex, q1, q2, q3, q4⟩ := ih v (tlL τ)
        exact ⟨⟨x.a, x.w, mkO x.o (hdL τ)⟩ :: l1, ex, congrArg (_ :: ·) q1, congrArg (x.a :: ·) q2, congrArg Nat.succ q3, q4⟩
  obtain ⟨l1, ex, q1, q2, q3, q4⟩ := key idx.length vl' τ'
  rw [q1] at S' ⊢
  have hfp : ∀ a ∈ fpE vl, a ∈ l1.map (·.a) := by
    intro a ha
    rw [q2, ← e4]
    exact ha
  have X : Half h₀ h h' fp (l1.map (·.a)) l := by
    refine ⟨S.nd, fun p hp => ?_, S.wr, fun p hp => Heap.lt_size (S.get p hp)⟩
    by_cases hm : p.a ∈ l1.map (·.a)
    · exact .inl hm
    · exact .inr (S'.old _ _ (S.get p hp) fun z => hm (hfp _ z))
  obtain ⟨L, hL, Y⟩ := half_back idx l1 ex X (e1.trans q2.symm) (e2.trans q3.symm) (fun p hp => S'.get p (List.mem_append.mpr (.inl hp)))
  have exw : ∀ p ∈ ex, h.objs.size ≤ p.a := by
    intro p hp
    have hw : p.w = true := by
      have : p.w ∈ ex.map (·.w) := List.mem_map_of_mem hp
      rw [q4, e3] at this
      obtain ⟨_, _, z⟩ := List.mem_map.mp this
      exact z.symm
    rcases S'.wr p (List.mem_append.mpr (.inr hp)) hw with z | z
    · have nd := S'.nd
      rw [List.map_append, List.nodup_append] at nd
      exact absurd rfl (nd.2.2 p.a (hfp _ z) p.a (List.mem_map_of_mem hp))
    · exact z
  have ndx : (ex.map (·.a)).Nodup := by
    have nd := S'.nd
    rw [List.map_append, List.nodup_append] at nd
    exact nd.2.1
  rw [hL]
  refine ⟨?_, fun p hp => ?_, fun p hp hw => ?_, fun b o e hb' => ?_, S.top, Nat.le_trans S.size S'.size, S.lim, S.two⟩
  · rw [List.map_append, List.nodup_append]
    refine ⟨ndx, Y.nd, fun a ha b hb' q => ?_⟩
    subst q
    obtain ⟨p, hp, rfl⟩ := List.mem_map.mp ha
    obtain ⟨p', hp', q⟩ := List.mem_map.mp hb'
    have := Y.lt p' hp'
    rw [q] at this
    exact absurd (exw p hp) (Nat.not_le.mpr this)
  · rcases List.mem_append.mp hp with hp | hp
    · exact S'.get p (List.mem_append.mpr (.inr hp))
    · rcases Y.get p hp with z | z
      · cases z
      · exact z
  · rcases List.mem_append.mp hp with hp | hp
    · exact .inr (Nat.le_trans S.size (exw p hp))
    · exact Y.wr p hp hw
  · refine S'.old _ _ (S.old b o e hb') fun z => ?_
    rcases hw b z with q | q
    · exact hb' q
    · exact absurd (Heap.lt_size e) (Nat.not_lt.mpr q)
/-- a part is handed out, and what the callee may write comes back -/
theorem St.lend (S : St T h₀ h fp l) (idx : List Nat) (bs : List Bool) (vl : List EV) (hv : (nodupB idx, (lowW (pick idx l) bs).map ev) = (true, vl)) : ∃ τ, St T h h (fpE vl) (mkL vl τ) ∧ ∀ (idx' : List Nat) {h' : Heap} {vl' : List EV} {τ' : List (List Tok)}, St T h h' (fpE vl) (mkL vl' τ') →
    ((pick idx' l).map (·.a), idx'.length, (vl'.drop idx'.length).map (·.w), fpE vl) = ((vl'.take idx'.length).map (·.a), (vl'.take idx'.length).length, (vl'.drop idx'.length).map (fun _ => true), (vl'.take idx'.length).map (·.a)) → St T h₀ h' fp (bck idx' l (mkL vl' τ')) := by
  obtain ⟨⟨τ, S₁⟩, hw⟩ := S.enter idx bs hv
  exact ⟨τ, S₁, fun idx' _ _ _ S' hb => S.back idx' hw S' hb⟩
theorem St.asV (S : St T h₀ h fp l) : ∃ τ, St T h₀ h fp (mkL (l.map ev) τ) := ⟨l.map fun e => toksD e.o.data, by rw [mkL_ev]; exact S⟩
/-- a part comes back -/
noncomputable def Back (T : Nat → Option Obj) (h₀ h : Heap) (fp fp' : List Addr) (l : List Ent) : Prop := ∀ (idx' : List Nat) {h' : Heap} {vl' : List EV} {τ' : List (List Tok)}, St T h h' fp' (mkL vl' τ') →
    ((pick idx' l).map (·.a), idx'.length, (vl'.drop idx'.length).map (·.w), fp') = ((vl'.take idx'.length).map (·.a), (vl'.take idx'.length).length, (vl'.drop idx'.length).map (fun _ => true), (vl'.take idx'.length).map (·.a)) → St T h₀ h' fp (bck idx' l (mkL vl' τ'))
theorem St.lendG {G : Prop} (S : St T h₀ h fp l) (idx : List Nat) (bs : List Bool) {vl : List EV} {fp' : List Addr}
    (k : ∀ τ, St T h h fp' (mkL vl τ) → Back T h₀ h fp fp' l → G)
    (hv : (nodupB idx, (lowW (pick idx l) bs).map ev, fpE vl) = (true, vl, fp')) : G := by
  have e1 := congrArg (·.1) hv
  have e2 := congrArg (·.2.1) hv
  have e3 : fpE vl = fp' := congrArg (·.2.2) hv
  subst e3
  obtain ⟨τ, S₁, Sb⟩ := S.lend idx bs vl (Prod.ext e1 e2)
  exact k τ S₁ Sb
end
noncomputable def againO (o : Out) : Option Code := match o.κ with
  | .base => match o.t with
    | .pure (.again c') => match qt c' with
      | true => some c'
      | false => none
    | _ => none
  | _ => none
/-- on with a code, nothing behind it but the end -/
theorem go_again {C : Cx} {A₀ : Around} {R₀ : Post Result} {T : Nat → Option Obj} {h₀ : Heap} {fp : List Addr} {tk : Nat} {g : Gs} {h : Heap} {l : List Ent} {κ : Kont} {r : Result} {F H : Nat} {c' : Code} (S : St T h₀ h fp l)
    (x : ∀ h' tk', St T h₀ h' fp (simA C A₀ T h.objs.size tk F κ r l H).l → CodeP C A₀ c' R₀ h' g tk')
    (hk : ((simA C A₀ T h.objs.size tk F κ r l H).acc.map (·.1), isRet κ, againO (simA C A₀ T h.objs.size tk F κ r l H)) = ((simA C A₀ T h.objs.size tk F κ r l H).acc.map (·.2), true, some c')) :
    After C A₀ R₀ κ r h g tk := by
  have e1 := congrArg (·.1) hk
  have e2 := congrArg (·.2.1) hk
  have e3 : againO (simA C A₀ T h.objs.size tk F κ r l H) = some c' := congrArg (·.2.2) hk
  refine run S e2 e1 fun h' tk' S' => ?_
  have y := x h' tk' S'
  generalize simA C A₀ T h.objs.size tk F κ r l H = o at e3 S' y ⊢
  obtain ⟨κ, c₁, t, l, m, i, acc⟩ := o
  unfold againO at e3
  dsimp only at e3 ⊢
  split at e3
  · split at e3
    · split at e3
      · rename_i q
        cases e3
        exact Means.again (κ := .base) S'.nolim q (y.mono fun _ _ _ _ z => ⟨z⟩)
      · cases e3
    · cases e3
  · cases e3
end Mine
end
/-! ## Tp2 -/
section
open PySem PySem.W PyProof.Rows
set_option maxRecDepth 100000
set_option linter.unusedVariables false
set_option maxHeartbeats 2000000
namespace Mine
/-- a name's hash -/
noncomputable abbrev hs (P : Params) (k : Array Nat) : Int := PySem.W.ZFast.zw12210062019545310541 (P.strHash k)
noncomputable def stm (i : Nat) : Stmt := (PySem.Challenge.pw_re0019_01.main.body.drop i).headD (.Pass ⟨0, 0, 0, 0⟩)
noncomputable def bodyOf : Stmt → List Stmt
  | .FunctionDef _ _ b _ _ _ _ _ _ _ => b
  | .ClassDef _ _ _ b _ _ _ _ _ _ _ => b
  | _ => []
noncomputable def paramsOf : Stmt → Arguments
  | .FunctionDef _ a _ _ _ _ _ _ _ _ => a
  | _ => ⟨[], [], none, [], [], none, []⟩
noncomputable def scopeOf : Stmt → Scope
  | .FunctionDef _ _ _ _ _ _ s _ _ _ => s
  | _ => default
noncomputable def meth (i : Nat) : Stmt := ((bodyOf (stm 3)).drop i).headD (.Pass ⟨0, 0, 0, 0⟩)
noncomputable def t0 (P : Params) : Obj := ⟨.type "dict", none, .dict #[⟨hs P #[95, 95, 110, 97, 109, 101, 95, 95], .str ⟨#[95, 95, 110, 97, 109, 101, 95, 95]⟩ 1, .str ⟨#[98, 117, 105, 108, 116, 105, 110, 115]⟩ 160⟩, ⟨hs P #[95, 95, 100, 111, 99, 95, 95], .str ⟨#[95, 95, 100, 111, 99, 95, 95]⟩ 2, .builtin "builtins.__doc__:str#opaque"⟩, ⟨hs P #[95, 95, 112, 97, 99, 107, 97, 103, 101, 95, 95], .str ⟨#[95, 95, 112, 97, 99, 107, 97, 103, 101, 95, 95]⟩ 3, .builtin "builtins.__package__:str#opaque"⟩, ⟨hs P #[95, 95, 108, 111, 97, 100, 101, 114, 95, 95], .str ⟨#[95, 95, 108, 111, 97, 100, 101, 114, 95, 95]⟩ 4, .builtin "builtins.__loader__:shared#opaque"⟩, ⟨hs P #[95, 95, 115, 112, 101, 99, 95, 95], .str ⟨#[95, 95, 115, 112, 101, 99, 95, 95]⟩ 5, .builtin "builtins.__spec__#opaque"⟩, ⟨hs P #[95, 95, 98, 117, 105, 108, 100, 95, 99, 108, 97, 115, 115, 95, 95], .str ⟨#[95, 95, 98, 117, 105, 108, 100, 95, 99, 108, 97, 115, 115, 95, 95]⟩ 6, .builtin "__build_class__"⟩, ⟨hs P #[95, 95, 105, 109, 112, 111, 114, 116, 95, 95], .str ⟨#[95, 95, 105, 109, 112, 111, 114, 116, 95, 95]⟩ 7, .builtin "__import__"⟩, ⟨hs P #[97, 98, 115], .str ⟨#[97, 98, 115]⟩ 8, .builtin "abs"⟩, ⟨hs P #[97, 108, 108], .str ⟨#[97, 108, 108]⟩ 9, .builtin "all"⟩, ⟨hs P #[97, 110, 121], .str ⟨#[97, 110, 121]⟩ 10, .builtin "any"⟩, ⟨hs P #[97, 115, 99, 105, 105], .str ⟨#[97, 115, 99, 105, 105]⟩ 11, .builtin "ascii"⟩, ⟨hs P #[98, 105, 110], .str ⟨#[98, 105, 110]⟩ 12, .builtin "bin"⟩, ⟨hs P #[98, 114, 101, 97, 107, 112, 111, 105, 110, 116], .str ⟨#[98, 114, 101, 97, 107, 112, 111, 105, 110, 116]⟩ 13, .builtin "breakpoint"⟩, ⟨hs P #[99, 97, 108, 108, 97, 98, 108, 101], .str ⟨#[99, 97, 108, 108, 97, 98, 108, 101]⟩ 14, .builtin "callable"⟩, ⟨hs P #[99, 104, 114], .str ⟨#[99, 104, 114]⟩ 15, .builtin "chr"⟩, ⟨hs P #[99, 111, 109, 112, 105, 108, 101], .str ⟨#[99, 111, 109, 112, 105, 108, 101]⟩ 16, .builtin "compile"⟩, ⟨hs P #[100, 101, 108, 97, 116, 116, 114], .str ⟨#[100, 101, 108, 97, 116, 116, 114]⟩ 17, .builtin "delattr"⟩, ⟨hs P #[100, 105, 114], .str ⟨#[100, 105, 114]⟩ 18, .builtin "dir"⟩, ⟨hs P #[100, 105, 118, 109, 111, 100], .str ⟨#[100, 105, 118, 109, 111, 100]⟩ 19, .builtin "divmod"⟩, ⟨hs P #[101, 118, 97, 108], .str ⟨#[101, 118, 97, 108]⟩ 20, .builtin "eval"⟩, ⟨hs P #[101, 120, 101, 99], .str ⟨#[101, 120, 101, 99]⟩ 21, .builtin "exec"⟩, ⟨hs P #[102, 111, 114, 109, 97, 116], .str ⟨#[102, 111, 114, 109, 97, 116]⟩ 22, .builtin "format"⟩, ⟨hs P #[103, 101, 116, 97, 116, 116, 114], .str ⟨#[103, 101, 116, 97, 116, 116, 114]⟩ 23, .builtin "getattr"⟩, ⟨hs P #[103, 108, 111, 98, 97, 108, 115], .str ⟨#[103, 108, 111, 98, 97, 108, 115]⟩ 24, .builtin "globals"⟩, ⟨hs P #[104, 97, 115, 97, 116, 116, 114], .str ⟨#[104, 97, 115, 97, 116, 116, 114]⟩ 25, .builtin "hasattr"⟩, ⟨hs P #[104, 97, 115, 104], .str ⟨#[104, 97, 115, 104]⟩ 26, .builtin "hash"⟩, ⟨hs P #[104, 101, 120], .str ⟨#[104, 101, 120]⟩ 27, .builtin "hex"⟩, ⟨hs P #[105, 100], .str ⟨#[105, 100]⟩ 28, .builtin "id"⟩, ⟨hs P #[105, 110, 112, 117, 116], .str ⟨#[105, 110, 112, 117, 116]⟩ 29, .builtin "input"⟩, ⟨hs P #[105, 115, 105, 110, 115, 116, 97, 110, 99, 101], .str ⟨#[105, 115, 105, 110, 115, 116, 97, 110, 99, 101]⟩ 30, .builtin "isinstance"⟩, ⟨hs P #[105, 115, 115, 117, 98, 99, 108, 97, 115, 115], .str ⟨#[105, 115, 115, 117, 98, 99, 108, 97, 115, 115]⟩ 31, .builtin "issubclass"⟩, ⟨hs P #[105, 116, 101, 114], .str ⟨#[105, 116, 101, 114]⟩ 32, .builtin "iter"⟩, ⟨hs P #[97, 105, 116, 101, 114], .str ⟨#[97, 105, 116, 101, 114]⟩ 33, .builtin "aiter"⟩, ⟨hs P #[108, 101, 110], .str ⟨#[108, 101, 110]⟩ 34, .builtin "len"⟩, ⟨hs P #[108, 111, 99, 97, 108, 115], .str ⟨#[108, 111, 99, 97, 108, 115]⟩ 35, .builtin "locals"⟩, ⟨hs P #[109, 97, 120], .str ⟨#[109, 97, 120]⟩ 36, .builtin "max"⟩, ⟨hs P #[109, 105, 110], .str ⟨#[109, 105, 110]⟩ 37, .builtin "min"⟩, ⟨hs P #[110, 101, 120, 116], .str ⟨#[110, 101, 120, 116]⟩ 38, .builtin "next"⟩, ⟨hs P #[97, 110, 101, 120, 116], .str ⟨#[97, 110, 101, 120, 116]⟩ 39, .builtin "anext"⟩, ⟨hs P #[111, 99, 116], .str ⟨#[111, 99, 116]⟩ 40, .builtin "oct"⟩, ⟨hs P #[111, 114, 100], .str ⟨#[111, 114, 100]⟩ 41, .builtin "ord"⟩, ⟨hs P #[112, 111, 119], .str ⟨#[112, 111, 119]⟩ 42, .builtin "pow"⟩, ⟨hs P #[112, 114, 105, 110, 116], .str ⟨#[112, 114, 105, 110, 116]⟩ 43, .builtin "print"⟩, ⟨hs P #[114, 101, 112, 114], .str ⟨#[114, 101, 112, 114]⟩ 44, .builtin "repr"⟩, ⟨hs P #[114, 111, 117, 110, 100], .str ⟨#[114, 111, 117, 110, 100]⟩ 45, .builtin "round"⟩, ⟨hs P #[115, 101, 116, 97, 116, 116, 114], .str ⟨#[115, 101, 116, 97, 116, 116, 114]⟩ 46, .builtin "setattr"⟩, ⟨hs P #[115, 111, 114, 116, 101, 100], .str ⟨#[115, 111, 114, 116, 101, 100]⟩ 47, .builtin "sorted"⟩, ⟨hs P #[115, 117, 109], .str ⟨#[115, 117, 109]⟩ 48, .builtin "sum"⟩, ⟨hs P #[118, 97, 114, 115], .str ⟨#[118, 97, 114, 115]⟩ 49, .builtin "vars"⟩, ⟨hs P #[78, 111, 110, 101], .str ⟨#[78, 111, 110, 101]⟩ 50, .none⟩, ⟨hs P #[69, 108, 108, 105, 112, 115, 105, 115], .str ⟨#[69, 108, 108, 105, 112, 115, 105, 115]⟩ 51, .ellipsis⟩, ⟨hs P #[78, 111, 116, 73, 109, 112, 108, 101, 109, 101, 110, 116, 101, 100], .str ⟨#[78, 111, 116, 73, 109, 112, 108, 101, 109, 101, 110, 116, 101, 100]⟩ 52, .notImplemented⟩, ⟨hs P #[70, 97, 108, 115, 101], .str ⟨#[70, 97, 108, 115, 101]⟩ 53, .bool false⟩, ⟨hs P #[84, 114, 117, 101], .str ⟨#[84, 114, 117, 101]⟩ 54, .bool true⟩, ⟨hs P #[98, 111, 111, 108], .str ⟨#[98, 111, 111, 108]⟩ 55, .type "bool"⟩, ⟨hs P #[109, 101, 109, 111, 114, 121, 118, 105, 101, 119], .str ⟨#[109, 101, 109, 111, 114, 121, 118, 105, 101, 119]⟩ 56, .type "memoryview"⟩, ⟨hs P #[98, 121, 116, 101, 97, 114, 114, 97, 121], .str ⟨#[98, 121, 116, 101, 97, 114, 114, 97, 121]⟩ 57, .type "bytearray"⟩, ⟨hs P #[98, 121, 116, 101, 115], .str ⟨#[98, 121, 116, 101, 115]⟩ 58, .type "bytes"⟩, ⟨hs P #[99, 108, 97, 115, 115, 109, 101, 116, 104, 111, 100], .str ⟨#[99, 108, 97, 115, 115, 109, 101, 116, 104, 111, 100]⟩ 59, .type "classmethod"⟩, ⟨hs P #[99, 111, 109, 112, 108, 101, 120], .str ⟨#[99, 111, 109, 112, 108, 101, 120]⟩ 60, .type "complex"⟩, ⟨hs P #[100, 105, 99, 116], .str ⟨#[100, 105, 99, 116]⟩ 61, .type "dict"⟩, ⟨hs P #[101, 110, 117, 109, 101, 114, 97, 116, 101], .str ⟨#[101, 110, 117, 109, 101, 114, 97, 116, 101]⟩ 62, .type "enumerate"⟩, ⟨hs P #[102, 105, 108, 116, 101, 114], .str ⟨#[102, 105, 108, 116, 101, 114]⟩ 63, .type "filter"⟩, ⟨hs P #[102, 108, 111, 97, 116], .str ⟨#[102, 108, 111, 97, 116]⟩ 64, .type "float"⟩, ⟨hs P #[102, 114, 111, 122, 101, 110, 115, 101, 116], .str ⟨#[102, 114, 111, 122, 101, 110, 115, 101, 116]⟩ 65, .type "frozenset"⟩, ⟨hs P #[112, 114, 111, 112, 101, 114, 116, 121], .str ⟨#[112, 114, 111, 112, 101, 114, 116, 121]⟩ 66, .type "property"⟩, ⟨hs P #[105, 110, 116], .str ⟨#[105, 110, 116]⟩ 67, .type "int"⟩, ⟨hs P #[108, 105, 115, 116], .str ⟨#[108, 105, 115, 116]⟩ 68, .type "list"⟩, ⟨hs P #[109, 97, 112], .str ⟨#[109, 97, 112]⟩ 69, .type "map"⟩, ⟨hs P #[111, 98, 106, 101, 99, 116], .str ⟨#[111, 98, 106, 101, 99, 116]⟩ 70, .type "object"⟩, ⟨hs P #[114, 97, 110, 103, 101], .str ⟨#[114, 97, 110, 103, 101]⟩ 71, .type "range"⟩, ⟨hs P #[114, 101, 118, 101, 114, 115, 101, 100], .str ⟨#[114, 101, 118, 101, 114, 115, 101, 100]⟩ 72, .type "reversed"⟩, ⟨hs P #[115, 101, 116], .str ⟨#[115, 101, 116]⟩ 73, .type "set"⟩, ⟨hs P #[115, 108, 105, 99, 101], .str ⟨#[115, 108, 105, 99, 101]⟩ 74, .type "slice"⟩, ⟨hs P #[115, 116, 97, 116, 105, 99, 109, 101, 116, 104, 111, 100], .str ⟨#[115, 116, 97, 116, 105, 99, 109, 101, 116, 104, 111, 100]⟩ 75, .type "staticmethod"⟩, ⟨hs P #[115, 116, 114], .str ⟨#[115, 116, 114]⟩ 76, .type "str"⟩, ⟨hs P #[115, 117, 112, 101, 114], .str ⟨#[115, 117, 112, 101, 114]⟩ 77, .type "super"⟩, ⟨hs P #[116, 117, 112, 108, 101], .str ⟨#[116, 117, 112, 108, 101]⟩ 78, .type "tuple"⟩, ⟨hs P #[116, 121, 112, 101], .str ⟨#[116, 121, 112, 101]⟩ 79, .type "type"⟩, ⟨hs P #[122, 105, 112], .str ⟨#[122, 105, 112]⟩ 80, .type "zip"⟩, ⟨hs P #[95, 95, 100, 101, 98, 117, 103, 95, 95], .str ⟨#[95, 95, 100, 101, 98, 117, 103, 95, 95]⟩ 81, .bool true⟩, ⟨hs P #[66, 97, 115, 101, 69, 120, 99, 101, 112, 116, 105, 111, 110], .str ⟨#[66, 97, 115, 101, 69, 120, 99, 101, 112, 116, 105, 111, 110]⟩ 82, .type "BaseException"⟩, ⟨hs P #[66, 97, 115, 101, 69, 120, 99, 101, 112, 116, 105, 111, 110, 71, 114, 111, 117, 112], .str ⟨#[66, 97, 115, 101, 69, 120, 99, 101, 112, 116, 105, 111, 110, 71, 114, 111, 117, 112]⟩ 83, .type "BaseExceptionGroup"⟩, ⟨hs P #[69, 120, 99, 101, 112, 116, 105, 111, 110], .str ⟨#[69, 120, 99, 101, 112, 116, 105, 111, 110]⟩ 84, .type "Exception"⟩, ⟨hs P #[71, 101, 110, 101, 114, 97, 116, 111, 114, 69, 120, 105, 116], .str ⟨#[71, 101, 110, 101, 114, 97, 116, 111, 114, 69, 120, 105, 116]⟩ 85, .type "GeneratorExit"⟩, ⟨hs P #[75, 101, 121, 98, 111, 97, 114, 100, 73, 110, 116, 101, 114, 114, 117, 112, 116], .str ⟨#[75, 101, 121, 98, 111, 97, 114, 100, 73, 110, 116, 101, 114, 114, 117, 112, 116]⟩ 86, .type "KeyboardInterrupt"⟩, ⟨hs P #[83, 121, 115, 116, 101, 109, 69, 120, 105, 116], .str ⟨#[83, 121, 115, 116, 101, 109, 69, 120, 105, 116]⟩ 87, .type "SystemExit"⟩, ⟨hs P #[65, 114, 105, 116, 104, 109, 101, 116, 105, 99, 69, 114, 114, 111, 114], .str ⟨#[65, 114, 105, 116, 104, 109, 101, 116, 105, 99, 69, 114, 114, 111, 114]⟩ 88, .type "ArithmeticError"⟩, ⟨hs P #[65, 115, 115, 101, 114, 116, 105, 111, 110, 69, 114, 114, 111, 114], .str ⟨#[65, 115, 115, 101, 114, 116, 105, 111, 110, 69, 114, 114, 111, 114]⟩ 89, .type "AssertionError"⟩, ⟨hs P #[65, 116, 116, 114, 105, 98, 117, 116, 101, 69, 114, 114, 111, 114], .str ⟨#[65, 116, 116, 114, 105, 98, 117, 116, 101, 69, 114, 114, 111, 114]⟩ 90, .type "AttributeError"⟩, ⟨hs P #[66, 117, 102, 102, 101, 114, 69, 114, 114, 111, 114], .str ⟨#[66, 117, 102, 102, 101, 114, 69, 114, 114, 111, 114]⟩ 91, .type "BufferError"⟩, ⟨hs P #[69, 79, 70, 69, 114, 114, 111, 114], .str ⟨#[69, 79, 70, 69, 114, 114, 111, 114]⟩ 92, .type "EOFError"⟩, ⟨hs P #[73, 109, 112, 111, 114, 116, 69, 114, 114, 111, 114], .str ⟨#[73, 109, 112, 111, 114, 116, 69, 114, 114, 111, 114]⟩ 93, .type "ImportError"⟩, ⟨hs P #[76, 111, 111, 107, 117, 112, 69, 114, 114, 111, 114], .str ⟨#[76, 111, 111, 107, 117, 112, 69, 114, 114, 111, 114]⟩ 94, .type "LookupError"⟩, ⟨hs P #[77, 101, 109, 111, 114, 121, 69, 114, 114, 111, 114], .str ⟨#[77, 101, 109, 111, 114, 121, 69, 114, 114, 111, 114]⟩ 95, .type "MemoryError"⟩, ⟨hs P #[78, 97, 109, 101, 69, 114, 114, 111, 114], .str ⟨#[78, 97, 109, 101, 69, 114, 114, 111, 114]⟩ 96, .type "NameError"⟩, ⟨hs P #[79, 83, 69, 114, 114, 111, 114], .str ⟨#[79, 83, 69, 114, 114, 111, 114]⟩ 97, .type "OSError"⟩, ⟨hs P #[82, 101, 102, 101, 114, 101, 110, 99, 101, 69, 114, 114, 111, 114], .str ⟨#[82, 101, 102, 101, 114, 101, 110, 99, 101, 69, 114, 114, 111, 114]⟩ 98, .type "ReferenceError"⟩, ⟨hs P #[82, 117, 110, 116, 105, 109, 101, 69, 114, 114, 111, 114], .str ⟨#[82, 117, 110, 116, 105, 109, 101, 69, 114, 114, 111, 114]⟩ 99, .type "RuntimeError"⟩, ⟨hs P #[83, 116, 111, 112, 65, 115, 121, 110, 99, 73, 116, 101, 114, 97, 116, 105, 111, 110], .str ⟨#[83, 116, 111, 112, 65, 115, 121, 110, 99, 73, 116, 101, 114, 97, 116, 105, 111, 110]⟩ 100, .type "StopAsyncIteration"⟩, ⟨hs P #[83, 116, 111, 112, 73, 116, 101, 114, 97, 116, 105, 111, 110], .str ⟨#[83, 116, 111, 112, 73, 116, 101, 114, 97, 116, 105, 111, 110]⟩ 101, .type "StopIteration"⟩, ⟨hs P #[83, 121, 110, 116, 97, 120, 69, 114, 114, 111, 114], .str ⟨#[83, 121, 110, 116, 97, 120, 69, 114, 114, 111, 114]⟩ 102, .type "SyntaxError"⟩, ⟨hs P #[83, 121, 115, 116, 101, 109, 69, 114, 114, 111, 114], .str ⟨#[83, 121, 115, 116, 101, 109, 69, 114, 114, 111, 114]⟩ 103, .type "SystemError"⟩, ⟨hs P #[84, 121, 112, 101, 69, 114, 114, 111, 114], .str ⟨#[84, 121, 112, 101, 69, 114, 114, 111, 114]⟩ 104, .type "TypeError"⟩, ⟨hs P #[86, 97, 108, 117, 101, 69, 114, 114, 111, 114], .str ⟨#[86, 97, 108, 117, 101, 69, 114, 114, 111, 114]⟩ 105, .type "ValueError"⟩, ⟨hs P #[87, 97, 114, 110, 105, 110, 103], .str ⟨#[87, 97, 114, 110, 105, 110, 103]⟩ 106, .type "Warning"⟩, ⟨hs P #[70, 108, 111, 97, 116, 105, 110, 103, 80, 111, 105, 110, 116, 69, 114, 114, 111, 114], .str ⟨#[70, 108, 111, 97, 116, 105, 110, 103, 80, 111, 105, 110, 116, 69, 114, 114, 111, 114]⟩ 107, .type "FloatingPointError"⟩, ⟨hs P #[79, 118, 101, 114, 102, 108, 111, 119, 69, 114, 114, 111, 114], .str ⟨#[79, 118, 101, 114, 102, 108, 111, 119, 69, 114, 114, 111, 114]⟩ 108, .type "OverflowError"⟩, ⟨hs P #[90, 101, 114, 111, 68, 105, 118, 105, 115, 105, 111, 110, 69, 114, 114, 111, 114], .str ⟨#[90, 101, 114, 111, 68, 105, 118, 105, 115, 105, 111, 110, 69, 114, 114, 111, 114]⟩ 109, .type "ZeroDivisionError"⟩, ⟨hs P #[66, 121, 116, 101, 115, 87, 97, 114, 110, 105, 110, 103], .str ⟨#[66, 121, 116, 101, 115, 87, 97, 114, 110, 105, 110, 103]⟩ 110, .type "BytesWarning"⟩, ⟨hs P #[68, 101, 112, 114, 101, 99, 97, 116, 105, 111, 110, 87, 97, 114, 110, 105, 110, 103], .str ⟨#[68, 101, 112, 114, 101, 99, 97, 116, 105, 111, 110, 87, 97, 114, 110, 105, 110, 103]⟩ 111, .type "DeprecationWarning"⟩, ⟨hs P #[69, 110, 99, 111, 100, 105, 110, 103, 87, 97, 114, 110, 105, 110, 103], .str ⟨#[69, 110, 99, 111, 100, 105, 110, 103, 87, 97, 114, 110, 105, 110, 103]⟩ 112, .type "EncodingWarning"⟩, ⟨hs P #[70, 117, 116, 117, 114, 101, 87, 97, 114, 110, 105, 110, 103], .str ⟨#[70, 117, 116, 117, 114, 101, 87, 97, 114, 110, 105, 110, 103]⟩ 113, .type "FutureWarning"⟩, ⟨hs P #[73, 109, 112, 111, 114, 116, 87, 97, 114, 110, 105, 110, 103], .str ⟨#[73, 109, 112, 111, 114, 116, 87, 97, 114, 110, 105, 110, 103]⟩ 114, .type "ImportWarning"⟩, ⟨hs P #[80, 101, 110, 100, 105, 110, 103, 68, 101, 112, 114, 101, 99, 97, 116, 105, 111, 110, 87, 97, 114, 110, 105, 110, 103], .str ⟨#[80, 101, 110, 100, 105, 110, 103, 68, 101, 112, 114, 101, 99, 97, 116, 105, 111, 110, 87, 97, 114, 110, 105, 110, 103]⟩ 115, .type "PendingDeprecationWarning"⟩, ⟨hs P #[82, 101, 115, 111, 117, 114, 99, 101, 87, 97, 114, 110, 105, 110, 103], .str ⟨#[82, 101, 115, 111, 117, 114, 99, 101, 87, 97, 114, 110, 105, 110, 103]⟩ 116, .type "ResourceWarning"⟩, ⟨hs P #[82, 117, 110, 116, 105, 109, 101, 87, 97, 114, 110, 105, 110, 103], .str ⟨#[82, 117, 110, 116, 105, 109, 101, 87, 97, 114, 110, 105, 110, 103]⟩ 117, .type "RuntimeWarning"⟩, ⟨hs P #[83, 121, 110, 116, 97, 120, 87, 97, 114, 110, 105, 110, 103], .str ⟨#[83, 121, 110, 116, 97, 120, 87, 97, 114, 110, 105, 110, 103]⟩ 118, .type "SyntaxWarning"⟩, ⟨hs P #[85, 110, 105, 99, 111, 100, 101, 87, 97, 114, 110, 105, 110, 103], .str ⟨#[85, 110, 105, 99, 111, 100, 101, 87, 97, 114, 110, 105, 110, 103]⟩ 119, .type "UnicodeWarning"⟩, ⟨hs P #[85, 115, 101, 114, 87, 97, 114, 110, 105, 110, 103], .str ⟨#[85, 115, 101, 114, 87, 97, 114, 110, 105, 110, 103]⟩ 120, .type "UserWarning"⟩, ⟨hs P #[66, 108, 111, 99, 107, 105, 110, 103, 73, 79, 69, 114, 114, 111, 114], .str ⟨#[66, 108, 111, 99, 107, 105, 110, 103, 73, 79, 69, 114, 114, 111, 114]⟩ 121, .type "BlockingIOError"⟩, ⟨hs P #[67, 104, 105, 108, 100, 80, 114, 111, 99, 101, 115, 115, 69, 114, 114, 111, 114], .str ⟨#[67, 104, 105, 108, 100, 80, 114, 111, 99, 101, 115, 115, 69, 114, 114, 111, 114]⟩ 122, .type "ChildProcessError"⟩, ⟨hs P #[67, 111, 110, 110, 101, 99, 116, 105, 111, 110, 69, 114, 114, 111, 114], .str ⟨#[67, 111, 110, 110, 101, 99, 116, 105, 111, 110, 69, 114, 114, 111, 114]⟩ 123, .type "ConnectionError"⟩, ⟨hs P #[70, 105, 108, 101, 69, 120, 105, 115, 116, 115, 69, 114, 114, 111, 114], .str ⟨#[70, 105, 108, 101, 69, 120, 105, 115, 116, 115, 69, 114, 114, 111, 114]⟩ 124, .type "FileExistsError"⟩, ⟨hs P #[70, 105, 108, 101, 78, 111, 116, 70, 111, 117, 110, 100, 69, 114, 114, 111, 114], .str ⟨#[70, 105, 108, 101, 78, 111, 116, 70, 111, 117, 110, 100, 69, 114, 114, 111, 114]⟩ 125, .type "FileNotFoundError"⟩, ⟨hs P #[73, 110, 116, 101, 114, 114, 117, 112, 116, 101, 100, 69, 114, 114, 111, 114], .str ⟨#[73, 110, 116, 101, 114, 114, 117, 112, 116, 101, 100, 69, 114, 114, 111, 114]⟩ 126, .type "InterruptedError"⟩, ⟨hs P #[73, 115, 65, 68, 105, 114, 101, 99, 116, 111, 114, 121, 69, 114, 114, 111, 114], .str ⟨#[73, 115, 65, 68, 105, 114, 101, 99, 116, 111, 114, 121, 69, 114, 114, 111, 114]⟩ 127, .type "IsADirectoryError"⟩, ⟨hs P #[78, 111, 116, 65, 68, 105, 114, 101, 99, 116, 111, 114, 121, 69, 114, 114, 111, 114], .str ⟨#[78, 111, 116, 65, 68, 105, 114, 101, 99, 116, 111, 114, 121, 69, 114, 114, 111, 114]⟩ 128, .type "NotADirectoryError"⟩, ⟨hs P #[80, 101, 114, 109, 105, 115, 115, 105, 111, 110, 69, 114, 114, 111, 114], .str ⟨#[80, 101, 114, 109, 105, 115, 115, 105, 111, 110, 69, 114, 114, 111, 114]⟩ 129, .type "PermissionError"⟩, ⟨hs P #[80, 114, 111, 99, 101, 115, 115, 76, 111, 111, 107, 117, 112, 69, 114, 114, 111, 114], .str ⟨#[80, 114, 111, 99, 101, 115, 115, 76, 111, 111, 107, 117, 112, 69, 114, 114, 111, 114]⟩ 130, .type "ProcessLookupError"⟩, ⟨hs P #[84, 105, 109, 101, 111, 117, 116, 69, 114, 114, 111, 114], .str ⟨#[84, 105, 109, 101, 111, 117, 116, 69, 114, 114, 111, 114]⟩ 131, .type "TimeoutError"⟩, ⟨hs P #[73, 110, 100, 101, 110, 116, 97, 116, 105, 111, 110, 69, 114, 114, 111, 114], .str ⟨#[73, 110, 100, 101, 110, 116, 97, 116, 105, 111, 110, 69, 114, 114, 111, 114]⟩ 132, .type "IndentationError"⟩, ⟨hs P #[95, 73, 110, 99, 111, 109, 112, 108, 101, 116, 101, 73, 110, 112, 117, 116, 69, 114, 114, 111, 114], .str ⟨#[95, 73, 110, 99, 111, 109, 112, 108, 101, 116, 101, 73, 110, 112, 117, 116, 69, 114, 114, 111, 114]⟩ 133, .type "_IncompleteInputError"⟩, ⟨hs P #[73, 110, 100, 101, 120, 69, 114, 114, 111, 114], .str ⟨#[73, 110, 100, 101, 120, 69, 114, 114, 111, 114]⟩ 134, .type "IndexError"⟩, ⟨hs P #[75, 101, 121, 69, 114, 114, 111, 114], .str ⟨#[75, 101, 121, 69, 114, 114, 111, 114]⟩ 135, .type "KeyError"⟩, ⟨hs P #[77, 111, 100, 117, 108, 101, 78, 111, 116, 70, 111, 117, 110, 100, 69, 114, 114, 111, 114], .str ⟨#[77, 111, 100, 117, 108, 101, 78, 111, 116, 70, 111, 117, 110, 100, 69, 114, 114, 111, 114]⟩ 136, .type "ModuleNotFoundError"⟩, ⟨hs P #[78, 111, 116, 73, 109, 112, 108, 101, 109, 101, 110, 116, 101, 100, 69, 114, 114, 111, 114], .str ⟨#[78, 111, 116, 73, 109, 112, 108, 101, 109, 101, 110, 116, 101, 100, 69, 114, 114, 111, 114]⟩ 137, .type "NotImplementedError"⟩, ⟨hs P #[80, 121, 116, 104, 111, 110, 70, 105, 110, 97, 108, 105, 122, 97, 116, 105, 111, 110, 69, 114, 114, 111, 114], .str ⟨#[80, 121, 116, 104, 111, 110, 70, 105, 110, 97, 108, 105, 122, 97, 116, 105, 111, 110, 69, 114, 114, 111, 114]⟩ 138, .type "PythonFinalizationError"⟩, ⟨hs P #[82, 101, 99, 117, 114, 115, 105, 111, 110, 69, 114, 114, 111, 114], .str ⟨#[82, 101, 99, 117, 114, 115, 105, 111, 110, 69, 114, 114, 111, 114]⟩ 139, .type "RecursionError"⟩, ⟨hs P #[85, 110, 98, 111, 117, 110, 100, 76, 111, 99, 97, 108, 69, 114, 114, 111, 114], .str ⟨#[85, 110, 98, 111, 117, 110, 100, 76, 111, 99, 97, 108, 69, 114, 114, 111, 114]⟩ 140, .type "UnboundLocalError"⟩, ⟨hs P #[85, 110, 105, 99, 111, 100, 101, 69, 114, 114, 111, 114], .str ⟨#[85, 110, 105, 99, 111, 100, 101, 69, 114, 114, 111, 114]⟩ 141, .type "UnicodeError"⟩, ⟨hs P #[66, 114, 111, 107, 101, 110, 80, 105, 112, 101, 69, 114, 114, 111, 114], .str ⟨#[66, 114, 111, 107, 101, 110, 80, 105, 112, 101, 69, 114, 114, 111, 114]⟩ 142, .type "BrokenPipeError"⟩, ⟨hs P #[67, 111, 110, 110, 101, 99, 116, 105, 111, 110, 65, 98, 111, 114, 116, 101, 100, 69, 114, 114, 111, 114], .str ⟨#[67, 111, 110, 110, 101, 99, 116, 105, 111, 110, 65, 98, 111, 114, 116, 101, 100, 69, 114, 114, 111, 114]⟩ 143, .type "ConnectionAbortedError"⟩, ⟨hs P #[67, 111, 110, 110, 101, 99, 116, 105, 111, 110, 82, 101, 102, 117, 115, 101, 100, 69, 114, 114, 111, 114], .str ⟨#[67, 111, 110, 110, 101, 99, 116, 105, 111, 110, 82, 101, 102, 117, 115, 101, 100, 69, 114, 114, 111, 114]⟩ 144, .type "ConnectionRefusedError"⟩, ⟨hs P #[67, 111, 110, 110, 101, 99, 116, 105, 111, 110, 82, 101, 115, 101, 116, 69, 114, 114, 111, 114], .str ⟨#[67, 111, 110, 110, 101, 99, 116, 105, 111, 110, 82, 101, 115, 101, 116, 69, 114, 114, 111, 114]⟩ 145, .type "ConnectionResetError"⟩, ⟨hs P #[84, 97, 98, 69, 114, 114, 111, 114], .str ⟨#[84, 97, 98, 69, 114, 114, 111, 114]⟩ 146, .type "TabError"⟩, ⟨hs P #[85, 110, 105, 99, 111, 100, 101, 68, 101, 99, 111, 100, 101, 69, 114, 114, 111, 114], .str ⟨#[85, 110, 105, 99, 111, 100, 101, 68, 101, 99, 111, 100, 101, 69, 114, 114, 111, 114]⟩ 147, .type "UnicodeDecodeError"⟩, ⟨hs P #[85, 110, 105, 99, 111, 100, 101, 69, 110, 99, 111, 100, 101, 69, 114, 114, 111, 114], .str ⟨#[85, 110, 105, 99, 111, 100, 101, 69, 110, 99, 111, 100, 101, 69, 114, 114, 111, 114]⟩ 148, .type "UnicodeEncodeError"⟩, ⟨hs P #[85, 110, 105, 99, 111, 100, 101, 84, 114, 97, 110, 115, 108, 97, 116, 101, 69, 114, 114, 111, 114], .str ⟨#[85, 110, 105, 99, 111, 100, 101, 84, 114, 97, 110, 115, 108, 97, 116, 101, 69, 114, 114, 111, 114]⟩ 149, .type "UnicodeTranslateError"⟩, ⟨hs P #[69, 120, 99, 101, 112, 116, 105, 111, 110, 71, 114, 111, 117, 112], .str ⟨#[69, 120, 99, 101, 112, 116, 105, 111, 110, 71, 114, 111, 117, 112]⟩ 150, .type "ExceptionGroup"⟩, ⟨hs P #[69, 110, 118, 105, 114, 111, 110, 109, 101, 110, 116, 69, 114, 114, 111, 114], .str ⟨#[69, 110, 118, 105, 114, 111, 110, 109, 101, 110, 116, 69, 114, 114, 111, 114]⟩ 151, .type "OSError"⟩, ⟨hs P #[73, 79, 69, 114, 114, 111, 114], .str ⟨#[73, 79, 69, 114, 114, 111, 114]⟩ 152, .type "OSError"⟩, ⟨hs P #[111, 112, 101, 110], .str ⟨#[111, 112, 101, 110]⟩ 153, .builtin "open"⟩, ⟨hs P #[113, 117, 105, 116], .str ⟨#[113, 117, 105, 116]⟩ 154, .builtin "builtins.quit#opaque"⟩, ⟨hs P #[101, 120, 105, 116], .str ⟨#[101, 120, 105, 116]⟩ 155, .builtin "builtins.exit#opaque"⟩, ⟨hs P #[99, 111, 112, 121, 114, 105, 103, 104, 116], .str ⟨#[99, 111, 112, 121, 114, 105, 103, 104, 116]⟩ 156, .builtin "builtins.copyright#opaque"⟩, ⟨hs P #[99, 114, 101, 100, 105, 116, 115], .str ⟨#[99, 114, 101, 100, 105, 116, 115]⟩ 157, .builtin "builtins.credits#opaque"⟩, ⟨hs P #[108, 105, 99, 101, 110, 115, 101], .str ⟨#[108, 105, 99, 101, 110, 115, 101]⟩ 158, .builtin "builtins.license#opaque"⟩, ⟨hs P #[104, 101, 108, 112], .str ⟨#[104, 101, 108, 112]⟩ 159, .builtin "builtins.help#opaque"⟩] 159, #[]⟩
noncomputable def t3 (P : Params) : Obj := ⟨.type "dict", none, .dict #[⟨hs P #[95, 95, 110, 97, 109, 101, 95, 95], .str ⟨#[95, 95, 110, 97, 109, 101, 95, 95]⟩ 165, .str ⟨#[108, 97, 119, 95, 114, 101, 48, 48, 49, 57, 95, 48, 49]⟩ 449⟩, ⟨hs P #[95, 95, 100, 111, 99, 95, 95], .str ⟨#[95, 95, 100, 111, 99, 95, 95]⟩ 166, .none⟩, ⟨hs P #[95, 95, 112, 97, 99, 107, 97, 103, 101, 95, 95], .str ⟨#[95, 95, 112, 97, 99, 107, 97, 103, 101, 95, 95]⟩ 167, .none⟩, ⟨hs P #[95, 95, 108, 111, 97, 100, 101, 114, 95, 95], .str ⟨#[95, 95, 108, 111, 97, 100, 101, 114, 95, 95]⟩ 168, .builtin "__main__.__loader__#opaque"⟩, ⟨hs P #[95, 95, 115, 112, 101, 99, 95, 95], .str ⟨#[95, 95, 115, 112, 101, 99, 95, 95]⟩ 169, .none⟩, ⟨hs P #[95, 95, 97, 110, 110, 111, 116, 97, 116, 105, 111, 110, 115, 95, 95], .str ⟨#[95, 95, 97, 110, 110, 111, 116, 97, 116, 105, 111, 110, 115, 95, 95]⟩ 170, .ref 6⟩, ⟨hs P #[95, 95, 98, 117, 105, 108, 116, 105, 110, 115, 95, 95], .str ⟨#[95, 95, 98, 117, 105, 108, 116, 105, 110, 115, 95, 95]⟩ 171, .ref 4⟩, ⟨hs P #[95, 95, 102, 105, 108, 101, 95, 95], .str ⟨#[95, 95, 102, 105, 108, 101, 95, 95]⟩ 173, .str ⟨#[47, 99, 108, 97, 105, 109, 47, 99, 117, 116, 46, 112, 121]⟩ 172⟩, ⟨hs P #[95, 95, 99, 97, 99, 104, 101, 100, 95, 95], .str ⟨#[95, 95, 99, 97, 99, 104, 101, 100, 95, 95]⟩ 174, .none⟩, ⟨hs P #[95, 115, 114, 101], .str ⟨#[95, 115, 114, 101]⟩ 275, .ref 12⟩, ⟨hs P #[95, 119, 97, 108, 108], .str ⟨#[95, 119, 97, 108, 108]⟩ 288, .ref 38⟩, ⟨hs P #[95, 110, 101, 116, 114, 99, 108, 101, 120], .str ⟨#[95, 110, 101, 116, 114, 99, 108, 101, 120]⟩ 348, .ref 76⟩, ⟨hs P #[97, 100, 100, 95, 102, 117, 110, 99, 95, 115, 116, 97, 116, 115], .str ⟨#[97, 100, 100, 95, 102, 117, 110, 99, 95, 115, 116, 97, 116, 115]⟩ 368, .ref 87⟩, ⟨hs P #[97, 100, 100, 95, 99, 97, 108, 108, 101, 114, 115], .str ⟨#[97, 100, 100, 95, 99, 97, 108, 108, 101, 114, 115]⟩ 379, .ref 94⟩, ⟨hs P #[95, 116, 119, 105, 110, 95, 114, 101, 95, 49], .str ⟨#[95, 116, 119, 105, 110, 95, 114, 101, 95, 49]⟩ 397, .ref 99⟩, ⟨hs P #[95, 116, 119, 105, 110, 95, 114, 101, 95, 50], .str ⟨#[95, 116, 119, 105, 110, 95, 114, 101, 95, 50]⟩ 439, .ref 104⟩, ⟨hs P #[67, 82, 76, 70], .str ⟨#[67, 82, 76, 70]⟩ 441, .str ⟨#[13, 10]⟩ 440⟩, ⟨hs P #[113, 117, 111, 116, 101, 100, 97, 116, 97], .str ⟨#[113, 117, 111, 116, 101, 100, 97, 116, 97]⟩ 448, .ref 111⟩, ⟨hs P #[95, 108, 97, 119, 95, 115, 116, 114, 101, 97, 109], .str ⟨#[95, 108, 97, 119, 95, 115, 116, 114, 101, 97, 109]⟩ 461, .ref 118⟩, ⟨hs P #[95, 108, 97, 119, 95, 115, 117, 109, 109, 101, 100], .str ⟨#[95, 108, 97, 119, 95, 115, 117, 109, 109, 101, 100]⟩ 467, .ref 123⟩, ⟨hs P #[108, 97, 119], .str ⟨#[108, 97, 119]⟩ 473, .ref 128⟩] 21, #[]⟩
noncomputable def t4 (P : Params) : Obj := ⟨.type "module", (some 0), .plain, #[]⟩
noncomputable def t7 (P : Params) : Obj := ⟨.type "tuple", none, .seq #[] 0, #[]⟩
noncomputable def t52 (P : Params) : Obj := ⟨.type "function", none, .func { name := ⟨#[95, 95, 105, 110, 105, 116, 95, 95]⟩, qualname := ⟨#[95, 110, 101, 116, 114, 99, 108, 101, 120, 46, 95, 95, 105, 110, 105, 116, 95, 95]⟩, params := paramsOf (meth 0), body := .stmts (bodyOf (meth 0)), scope := scopeOf (meth 0), globals := 3, closure := [], defaults := .none, kwdefaults := .none, doc := .none, pyModule := .str ⟨#[99, 112, 121, 51, 49, 51, 46, 110, 101, 116, 114, 99]⟩ 289, annotations := none, code := .ref 51, closureTuple := .none, builtins := 0 }, #[]⟩
noncomputable def t51 (P : Params) : Obj := ⟨.type "code", none, .fields #[.str ⟨#[95, 95, 105, 110, 105, 116, 95, 95]⟩ 303, .str ⟨#[95, 110, 101, 116, 114, 99, 108, 101, 120, 46, 95, 95, 105, 110, 105, 116, 95, 95]⟩ 304, .str ⟨#[47, 99, 108, 97, 105, 109, 47, 99, 117, 116, 46, 112, 121]⟩ 305, .int (8) 0, .int (2) 0, .int (0) 0, .int (0) 0, .int (3) 0, .ref 46, .bool true, .int (276) 0, .ref 47, .none, .ref 48, .ref 49, .ref 50, .int (308) 0, .int (8) 0, .str ⟨#[47, 99, 108, 97, 105, 109, 47, 99, 117, 116, 46, 112, 121]⟩ 309], #[]⟩
noncomputable def t59 (P : Params) : Obj := ⟨.type "function", none, .func { name := ⟨#[95, 114, 101, 97, 100, 95, 99, 104, 97, 114]⟩, qualname := ⟨#[95, 110, 101, 116, 114, 99, 108, 101, 120, 46, 95, 114, 101, 97, 100, 95, 99, 104, 97, 114]⟩, params := paramsOf (meth 1), body := .stmts (bodyOf (meth 1)), scope := scopeOf (meth 1), globals := 3, closure := [], defaults := .none, kwdefaults := .none, doc := .none, pyModule := .str ⟨#[99, 112, 121, 51, 49, 51, 46, 110, 101, 116, 114, 99]⟩ 289, annotations := none, code := .ref 58, closureTuple := .none, builtins := 0 }, #[]⟩
noncomputable def t58 (P : Params) : Obj := ⟨.type "code", none, .fields #[.str ⟨#[95, 114, 101, 97, 100, 95, 99, 104, 97, 114]⟩ 311, .str ⟨#[95, 110, 101, 116, 114, 99, 108, 101, 120, 46, 95, 114, 101, 97, 100, 95, 99, 104, 97, 114]⟩ 312, .str ⟨#[47, 99, 108, 97, 105, 109, 47, 99, 117, 116, 46, 112, 121]⟩ 313, .int (14) 0, .int (1) 0, .int (0) 0, .int (0) 0, .int (3) 0, .ref 53, .bool true, .int (276) 0, .ref 54, .none, .ref 55, .ref 56, .ref 57, .int (316) 0, .int (14) 0, .str ⟨#[47, 99, 108, 97, 105, 109, 47, 99, 117, 116, 46, 112, 121]⟩ 317], #[]⟩
noncomputable def t66 (P : Params) : Obj := ⟨.type "function", none, .func { name := ⟨#[103, 101, 116, 95, 116, 111, 107, 101, 110]⟩, qualname := ⟨#[95, 110, 101, 116, 114, 99, 108, 101, 120, 46, 103, 101, 116, 95, 116, 111, 107, 101, 110]⟩, params := paramsOf (meth 2), body := .stmts (bodyOf (meth 2)), scope := scopeOf (meth 2), globals := 3, closure := [], defaults := .none, kwdefaults := .none, doc := .none, pyModule := .str ⟨#[99, 112, 121, 51, 49, 51, 46, 110, 101, 116, 114, 99]⟩ 289, annotations := none, code := .ref 65, closureTuple := .none, builtins := 0 }, #[]⟩
noncomputable def t65 (P : Params) : Obj := ⟨.type "code", none, .fields #[.str ⟨#[103, 101, 116, 95, 116, 111, 107, 101, 110]⟩ 319, .str ⟨#[95, 110, 101, 116, 114, 99, 108, 101, 120, 46, 103, 101, 116, 95, 116, 111, 107, 101, 110]⟩ 320, .str ⟨#[47, 99, 108, 97, 105, 109, 47, 99, 117, 116, 46, 112, 121]⟩ 321, .int (20) 0, .int (1) 0, .int (0) 0, .int (0) 0, .int (3) 0, .ref 60, .bool true, .int (276) 0, .ref 61, .none, .ref 62, .ref 63, .ref 64, .int (326) 0, .int (20) 0, .str ⟨#[47, 99, 108, 97, 105, 109, 47, 99, 117, 116, 46, 112, 121]⟩ 327], #[]⟩
noncomputable def t74 (P : Params) : Obj := ⟨.type "tuple", none, .seq #[.str ⟨#[105, 110, 115, 116, 114, 101, 97, 109]⟩ 337, .str ⟨#[108, 105, 110, 101, 110, 111]⟩ 338, .str ⟨#[112, 117, 115, 104, 98, 97, 99, 107]⟩ 339, .str ⟨#[119, 104, 105, 116, 101, 115, 112, 97, 99, 101]⟩ 340] 0, #[]⟩
noncomputable def t75 (P : Params) : Obj := ⟨.type "dict", none, .dict #[⟨hs P #[95, 95, 109, 111, 100, 117, 108, 101, 95, 95], .str ⟨#[95, 95, 109, 111, 100, 117, 108, 101, 95, 95]⟩ 298, .str ⟨#[99, 112, 121, 51, 49, 51, 46, 110, 101, 116, 114, 99]⟩ 289⟩, ⟨hs P #[95, 95, 102, 105, 114, 115, 116, 108, 105, 110, 101, 110, 111, 95, 95], .str ⟨#[95, 95, 102, 105, 114, 115, 116, 108, 105, 110, 101, 110, 111, 95, 95]⟩ 302, .int (6) 301⟩, ⟨hs P #[95, 95, 105, 110, 105, 116, 95, 95], .str ⟨#[95, 95, 105, 110, 105, 116, 95, 95]⟩ 310, .ref 52⟩, ⟨hs P #[95, 114, 101, 97, 100, 95, 99, 104, 97, 114], .str ⟨#[95, 114, 101, 97, 100, 95, 99, 104, 97, 114]⟩ 318, .ref 59⟩, ⟨hs P #[103, 101, 116, 95, 116, 111, 107, 101, 110], .str ⟨#[103, 101, 116, 95, 116, 111, 107, 101, 110]⟩ 328, .ref 66⟩, ⟨hs P #[112, 117, 115, 104, 95, 116, 111, 107, 101, 110], .str ⟨#[112, 117, 115, 104, 95, 116, 111, 107, 101, 110]⟩ 336, .ref 73⟩, ⟨hs P #[95, 95, 115, 116, 97, 116, 105, 99, 95, 97, 116, 116, 114, 105, 98, 117, 116, 101, 115, 95, 95], .str ⟨#[95, 95, 115, 116, 97, 116, 105, 99, 95, 97, 116, 116, 114, 105, 98, 117, 116, 101, 115, 95, 95]⟩ 341, .ref 74⟩, ⟨hs P #[95, 95, 100, 105, 99, 116, 95, 95], .str ⟨#[95, 95, 100, 105, 99, 116, 95, 95]⟩ 343, .ref 77⟩, ⟨hs P #[95, 95, 119, 101, 97, 107, 114, 101, 102, 95, 95], .str ⟨#[95, 95, 119, 101, 97, 107, 114, 101, 102, 95, 95]⟩ 345, .ref 78⟩, ⟨hs P #[95, 95, 100, 111, 99, 95, 95], .str ⟨#[95, 95, 100, 111, 99, 95, 95]⟩ 346, .none⟩] 4, #[]⟩
noncomputable def t76 (P : Params) : Obj := ⟨.type "type", none, .cls { name := ⟨#[95, 110, 101, 116, 114, 99, 108, 101, 120]⟩, bases := [.type "object"], mro := [.ref 76, .type "object"], ns := 75, qualname := ⟨#[95, 110, 101, 116, 114, 99, 108, 101, 120]⟩, hasDict := true, slotNames := [], subclasses := [], abstract := false, collection := none, hasDel := false }, #[none, none, (some (.str ⟨#[95, 110, 101, 116, 114, 99, 108, 101, 120]⟩ 291)), (some (.str ⟨#[95, 110, 101, 116, 114, 99, 108, 101, 120]⟩ 299)), (some (.builtin "object.__new__")), (some (.bool true))]⟩
noncomputable def t77 (P : Params) : Obj := ⟨.type "getset_descriptor", none, .fields #[.str ⟨#[95, 95, 100, 105, 99, 116, 95, 95]⟩ 342, .ref 76, .builtin "function.__dict__", .builtin "function.__dict__#set"], #[]⟩
noncomputable def t78 (P : Params) : Obj := ⟨.type "getset_descriptor", none, .fields #[.str ⟨#[95, 95, 119, 101, 97, 107, 114, 101, 102, 95, 95]⟩ 344, .ref 76, .builtin "ExceptionGroup.__weakref__", .none], #[]⟩
noncomputable def t87 (P : Params) : Obj := ⟨.type "function", none, .func { name := ⟨#[97, 100, 100, 95, 102, 117, 110, 99, 95, 115, 116, 97, 116, 115]⟩, qualname := ⟨#[97, 100, 100, 95, 102, 117, 110, 99, 95, 115, 116, 97, 116, 115]⟩, params := paramsOf (stm 5), body := .stmts (bodyOf (stm 5)), scope := scopeOf (stm 5), globals := 3, closure := [], defaults := .none, kwdefaults := .none, doc := .none, pyModule := .str ⟨#[99, 112, 121, 51, 49, 51, 46, 112, 115, 116, 97, 116, 115]⟩ 349, annotations := none, code := .ref 86, closureTuple := .none, builtins := 0 }, #[]⟩
noncomputable def t86 (P : Params) : Obj := ⟨.type "code", none, .fields #[.str ⟨#[97, 100, 100, 95, 102, 117, 110, 99, 95, 115, 116, 97, 116, 115]⟩ 351, .str ⟨#[97, 100, 100, 95, 102, 117, 110, 99, 95, 115, 116, 97, 116, 115]⟩ 352, .str ⟨#[47, 99, 108, 97, 105, 109, 47, 99, 117, 116, 46, 112, 121]⟩ 353, .int (50) 0, .int (2) 0, .int (0) 0, .int (0) 0, .int (3) 0, .ref 81, .bool true, .int (276) 0, .ref 82, .none, .ref 83, .ref 84, .ref 85, .int (366) 0, .int (50) 0, .str ⟨#[47, 99, 108, 97, 105, 109, 47, 99, 117, 116, 46, 112, 121]⟩ 367], #[]⟩
noncomputable def t94 (P : Params) : Obj := ⟨.type "function", none, .func { name := ⟨#[97, 100, 100, 95, 99, 97, 108, 108, 101, 114, 115]⟩, qualname := ⟨#[97, 100, 100, 95, 99, 97, 108, 108, 101, 114, 115]⟩, params := paramsOf (stm 6), body := .stmts (bodyOf (stm 6)), scope := scopeOf (stm 6), globals := 3, closure := [], defaults := .none, kwdefaults := .none, doc := .none, pyModule := .str ⟨#[99, 112, 121, 51, 49, 51, 46, 112, 115, 116, 97, 116, 115]⟩ 349, annotations := none, code := .ref 93, closureTuple := .none, builtins := 0 }, #[]⟩
noncomputable def t93 (P : Params) : Obj := ⟨.type "code", none, .fields #[.str ⟨#[97, 100, 100, 95, 99, 97, 108, 108, 101, 114, 115]⟩ 369, .str ⟨#[97, 100, 100, 95, 99, 97, 108, 108, 101, 114, 115]⟩ 370, .str ⟨#[47, 99, 108, 97, 105, 109, 47, 99, 117, 116, 46, 112, 121]⟩ 371, .int (54) 0, .int (2) 0, .int (0) 0, .int (0) 0, .int (3) 0, .ref 88, .bool true, .int (276) 0, .ref 89, .none, .ref 90, .ref 91, .ref 92, .int (377) 0, .int (54) 0, .str ⟨#[47, 99, 108, 97, 105, 109, 47, 99, 117, 116, 46, 112, 121]⟩ 378], #[]⟩
noncomputable def t98 (P : Params) : Obj := ⟨.type "tuple", none, .seq #[.int (14) 0, .int (4) 0, .int (0) 0, .int (1) 0, .int (1) 0, .int (6) 0, .int (1) 0, .int (16) 0, .int (46) 0, .int (1) 0] 0, #[]⟩
noncomputable def t99 (P : Params) : Obj := ⟨.type "re.Pattern", none, .fields #[.str ⟨#[40, 63, 109, 41, 94, 92, 46]⟩ 383, .int (40) 396, .int (0) 0, .none, .none, .ref 98, .int (0) 0], #[]⟩
noncomputable def t103 (P : Params) : Obj := ⟨.type "tuple", none, .seq #[.int (14) 0, .int (9) 0, .int (4) 0, .int (1) 0, .int (2) 0, .int (16) 0, .int (10) 0, .int (16) 0, .int (13) 0, .int (0) 0, .int (7) 0, .int (7) 0, .int (16) 0, .int (13) 0, .int (16) 0, .int (10) 0, .int (15) 0, .int (18) 0, .int (5) 0, .int (16) 0, .int (10) 0, .int (15) 0, .int (13) 0, .int (11) 0, .int (16) 0, .int (13) 0, .int (5) 0, .int (5) 0, .int (0) 0, .int (16) 0, .int (10) 0, .int (1) 0, .int (15) 0, .int (2) 0, .int (0) 0, .int (1) 0] 0, #[]⟩
noncomputable def t104 (P : Params) : Obj := ⟨.type "re.Pattern", none, .fields #[.str ⟨#[40, 63, 58, 92, 114, 92, 110, 124, 92, 110, 124, 92, 114, 40, 63, 33, 92, 110, 41, 41]⟩ 399, .int (32) 438, .int (0) 0, .none, .none, .ref 103, .int (0) 0], #[]⟩
noncomputable def t111 (P : Params) : Obj := ⟨.type "function", none, .func { name := ⟨#[113, 117, 111, 116, 101, 100, 97, 116, 97]⟩, qualname := ⟨#[113, 117, 111, 116, 101, 100, 97, 116, 97]⟩, params := paramsOf (stm 11), body := .stmts (bodyOf (stm 11)), scope := scopeOf (stm 11), globals := 3, closure := [], defaults := .none, kwdefaults := .none, doc := .none, pyModule := .str ⟨#[99, 112, 121, 51, 49, 51, 46, 115, 109, 116, 112, 108, 105, 98]⟩ 380, annotations := none, code := .ref 110, closureTuple := .none, builtins := 0 }, #[]⟩
noncomputable def t110 (P : Params) : Obj := ⟨.type "code", none, .fields #[.str ⟨#[113, 117, 111, 116, 101, 100, 97, 116, 97]⟩ 442, .str ⟨#[113, 117, 111, 116, 101, 100, 97, 116, 97]⟩ 443, .str ⟨#[47, 99, 108, 97, 105, 109, 47, 99, 117, 116, 46, 112, 121]⟩ 444, .int (71) 0, .int (1) 0, .int (0) 0, .int (0) 0, .int (3) 0, .ref 105, .bool true, .int (276) 0, .ref 106, .none, .ref 107, .ref 108, .ref 109, .int (446) 0, .int (71) 0, .str ⟨#[47, 99, 108, 97, 105, 109, 47, 99, 117, 116, 46, 112, 121]⟩ 447], #[]⟩
noncomputable def t118 (P : Params) : Obj := ⟨.type "function", none, .func { name := ⟨#[95, 108, 97, 119, 95, 115, 116, 114, 101, 97, 109]⟩, qualname := ⟨#[95, 108, 97, 119, 95, 115, 116, 114, 101, 97, 109]⟩, params := paramsOf (stm 13), body := .stmts (bodyOf (stm 13)), scope := scopeOf (stm 13), globals := 3, closure := [], defaults := .none, kwdefaults := .none, doc := .none, pyModule := .str ⟨#[108, 97, 119, 95, 114, 101, 48, 48, 49, 57, 95, 48, 49]⟩ 449, annotations := none, code := .ref 117, closureTuple := .none, builtins := 0 }, #[]⟩
noncomputable def t117 (P : Params) : Obj := ⟨.type "code", none, .fields #[.str ⟨#[95, 108, 97, 119, 95, 115, 116, 114, 101, 97, 109]⟩ 451, .str ⟨#[95, 108, 97, 119, 95, 115, 116, 114, 101, 97, 109]⟩ 452, .str ⟨#[47, 99, 108, 97, 105, 109, 47, 99, 117, 116, 46, 112, 121]⟩ 453, .int (74) 0, .int (1) 0, .int (0) 0, .int (0) 0, .int (3) 0, .ref 112, .bool true, .int (276) 0, .ref 113, .none, .ref 114, .ref 115, .ref 116, .int (459) 0, .int (74) 0, .str ⟨#[47, 99, 108, 97, 105, 109, 47, 99, 117, 116, 46, 112, 121]⟩ 460], #[]⟩
noncomputable def t123 (P : Params) : Obj := ⟨.type "function", none, .func { name := ⟨#[95, 108, 97, 119, 95, 115, 117, 109, 109, 101, 100]⟩, qualname := ⟨#[95, 108, 97, 119, 95, 115, 117, 109, 109, 101, 100]⟩, params := paramsOf (stm 14), body := .stmts (bodyOf (stm 14)), scope := scopeOf (stm 14), globals := 3, closure := [], defaults := .none, kwdefaults := .none, doc := .none, pyModule := .str ⟨#[108, 97, 119, 95, 114, 101, 48, 48, 49, 57, 95, 48, 49]⟩ 449, annotations := none, code := .ref 122, closureTuple := .none, builtins := 0 }, #[]⟩
noncomputable def t122 (P : Params) : Obj := ⟨.type "code", none, .fields #[.str ⟨#[95, 108, 97, 119, 95, 115, 117, 109, 109, 101, 100]⟩ 462, .str ⟨#[95, 108, 97, 119, 95, 115, 117, 109, 109, 101, 100]⟩ 463, .str ⟨#[47, 99, 108, 97, 105, 109, 47, 99, 117, 116, 46, 112, 121]⟩ 464, .int (83) 0, .int (4) 0, .int (0) 0, .int (0) 0, .int (3) 0, .ref 119, .bool true, .int (276) 0, .ref 120, .none, .none, .none, .ref 121, .int (465) 0, .int (83) 0, .str ⟨#[47, 99, 108, 97, 105, 109, 47, 99, 117, 116, 46, 112, 121]⟩ 466], #[]⟩
noncomputable def t128 (P : Params) : Obj := ⟨.type "function", none, .func { name := ⟨#[108, 97, 119]⟩, qualname := ⟨#[108, 97, 119]⟩, params := paramsOf (stm 15), body := .stmts (bodyOf (stm 15)), scope := scopeOf (stm 15), globals := 3, closure := [], defaults := .none, kwdefaults := .none, doc := .none, pyModule := .str ⟨#[108, 97, 119, 95, 114, 101, 48, 48, 49, 57, 95, 48, 49]⟩ 449, annotations := none, code := .ref 127, closureTuple := .none, builtins := 0 }, #[]⟩
noncomputable def t127 (P : Params) : Obj := ⟨.type "code", none, .fields #[.str ⟨#[108, 97, 119]⟩ 468, .str ⟨#[108, 97, 119]⟩ 469, .str ⟨#[47, 99, 108, 97, 105, 109, 47, 99, 117, 116, 46, 112, 121]⟩ 470, .int (98) 0, .int (1) 0, .int (0) 0, .int (0) 0, .int (3) 0, .ref 124, .bool true, .int (276) 0, .ref 125, .none, .none, .none, .ref 126, .int (471) 0, .int (98) 0, .str ⟨#[47, 99, 108, 97, 105, 109, 47, 99, 117, 116, 46, 112, 121]⟩ 472], #[]⟩
noncomputable def t2 (P : Params) : Obj := ⟨.none, none, .dict #[⟨hs P #[105, 109, 112, 111, 114, 116, 46, 108, 111, 97, 100, 101, 100, 46, 95, 115, 114, 101], .str ⟨#[105, 109, 112, 111, 114, 116, 46, 108, 111, 97, 100, 101, 100, 46, 95, 115, 114, 101]⟩ 183, .bool true⟩, ⟨hs P #[99, 108, 97, 115, 115, 46, 95, 102, 114, 111, 122, 101, 110, 95, 105, 109, 112, 111, 114, 116, 108, 105, 98, 46, 66, 117, 105, 108, 116, 105, 110, 73, 109, 112, 111, 114, 116, 101, 114], .str ⟨#[99, 108, 97, 115, 115, 46, 95, 102, 114, 111, 122, 101, 110, 95, 105, 109, 112, 111, 114, 116, 108, 105, 98, 46, 66, 117, 105, 108, 116, 105, 110, 73, 109, 112, 111, 114, 116, 101, 114]⟩ 185, .ref 14⟩, ⟨hs P #[119, 97, 116, 99, 104, 101, 100, 46, 105, 109, 112, 111, 114, 116], .str ⟨#[119, 97, 116, 99, 104, 101, 100, 46, 105, 109, 112, 111, 114, 116]⟩ 206, .ref 18⟩, ⟨hs P #[99, 108, 97, 115, 115, 46, 95, 102, 114, 111, 122, 101, 110, 95, 105, 109, 112, 111, 114, 116, 108, 105, 98, 46, 77, 111, 100, 117, 108, 101, 83, 112, 101, 99], .str ⟨#[99, 108, 97, 115, 115, 46, 95, 102, 114, 111, 122, 101, 110, 95, 105, 109, 112, 111, 114, 116, 108, 105, 98, 46, 77, 111, 100, 117, 108, 101, 83, 112, 101, 99]⟩ 216, .ref 22⟩, ⟨hs P #[115, 121, 115, 46, 109, 111, 100, 117, 108, 101, 115, 46, 98, 111, 111, 107, 101, 100, 45, 101, 112, 111, 99, 104], .str ⟨#[115, 121, 115, 46, 109, 111, 100, 117, 108, 101, 115, 46, 98, 111, 111, 107, 101, 100, 45, 101, 112, 111, 99, 104]⟩ 245, .int (3) 0⟩, ⟨hs P #[105, 109, 112, 111, 114, 116, 46, 108, 97, 116, 101, 114, 45, 108, 97, 105, 100, 46, 95, 115, 114, 101], .str ⟨#[105, 109, 112, 111, 114, 116, 46, 108, 97, 116, 101, 114, 45, 108, 97, 105, 100, 46, 95, 115, 114, 101]⟩ 270, .bool true⟩, ⟨hs P #[119, 97, 116, 99, 104, 101, 100, 46, 108, 105, 98, 114, 97, 114, 121], .str ⟨#[119, 97, 116, 99, 104, 101, 100, 46, 108, 105, 98, 114, 97, 114, 121]⟩ 272, .ref 27⟩, ⟨hs P #[119, 97, 116, 99, 104, 101, 100, 46, 108, 105, 98, 114, 97, 114, 121, 45, 111, 98, 106, 101, 99, 116, 115], .str ⟨#[119, 97, 116, 99, 104, 101, 100, 46, 108, 105, 98, 114, 97, 114, 121, 45, 111, 98, 106, 101, 99, 116, 115]⟩ 0, .str ⟨#[12]⟩ 0⟩, ⟨hs P #[119, 97, 116, 99, 104, 101, 100, 46, 108, 105, 98, 114, 97, 114, 121, 45, 100, 101, 101, 112, 46, 95, 115, 114, 101], .str ⟨#[119, 97, 116, 99, 104, 101, 100, 46, 108, 105, 98, 114, 97, 114, 121, 45, 100, 101, 101, 112, 46, 95, 115, 114, 101]⟩ 273, .str ⟨#[4, 0, 0, 11, 4, 0, 0, 11, 4, 0, 0, 3, 4, 0, 0, 11, 8, 4, 100, 105, 99, 116, 2]⟩ 0⟩] 9, #[]⟩
noncomputable def t112 (P : Params) : Obj := ⟨.type "tuple", none, .seq #[] 0, #[]⟩
noncomputable def t114 (P : Params) : Obj := ⟨.type "tuple", none, .seq #[.str ⟨#[116, 101, 120, 116]⟩ 454, .str ⟨#[114, 101, 97, 100]⟩ 455, .str ⟨#[115, 116, 114, 101, 97, 109]⟩ 456] 0, #[]⟩
noncomputable def t115 (P : Params) : Obj := ⟨.type "tuple", none, .seq #[.str ⟨#[116, 101, 120, 116]⟩ 457, .str ⟨#[112, 108, 97, 99, 101]⟩ 458] 0, #[]⟩
noncomputable def topL (P : Params) : List (Nat × Obj) := [(0, t0 P), (3, t3 P), (4, t4 P), (7, t7 P), (52, t52 P), (51, t51 P), (59, t59 P), (58, t58 P), (66, t66 P), (65, t65 P), (74, t74 P), (75, t75 P), (76, t76 P), (77, t77 P), (78, t78 P), (87, t87 P), (86, t86 P), (94, t94 P), (93, t93 P), (98, t98 P), (99, t99 P), (103, t103 P), (104, t104 P), (111, t111 P), (110, t110 P), (118, t118 P), (117, t117 P), (123, t123 P), (122, t122 P), (128, t128 P), (127, t127 P), (2, t2 P), (112, t112 P), (114, t114 P), (115, t115 P)]
noncomputable def lk : List (Nat × Obj) → Nat → Option Obj
  | [], _ => none
  | p :: l, a => match Nat.beq p.1 a with
    | true => some p.2
    | false => lk l a
noncomputable def topObj (P : Params) (a : Nat) : Option Obj := lk (topL P) a
end Mine
end
/-! ## Sl2 -/
section
open PySem PySem.W PyProof.Rows
set_option Elab.async false
set_option linter.unusedVariables false
set_option maxRecDepth 100000
set_option maxHeartbeats 2000000
namespace Mine
theorem id_of {id b : String} {n : Nat} (e : PySem.W.S.eqLit n id = true) (hb : PySem.code b = n) : id = b := by
  have h2 := congrFun (PySem.W.S.eqLit_eq b n hb) id
  rw [e] at h2
  exact beq_iff_eq.mp h2

/-- a built-in by the library's word for it -/
theorem builtin_meets {C : Cx} {A : Around} {R : Post Result} {h : Heap} {g : Gs} {tk : Nat} {id b : String} {n : Nat} {args : Args} {B : Builtin} {Sp : PySem.Spec} (e : PySem.W.S.eqLit n id = true) (hb : PySem.code b = n) (hE : entryFor table b = some B) (hq : plainId b = true)
    (m : Meets (B args) Sp) (x : Sp A (up C R) ⟨h, g, C.d, tk, C.os⟩) : CodeP C A (.builtin id args) R h g tk := by
  rw [id_of e hb]
  refine ⟨codeAny_builtin hE ?_⟩
  rw [Around.under_plainId hq args]
  exact m _ _ _ _ _ x

open PySem.Builtin PySem.Builtin.Str in
theorem picked_one {x : Str} {p : Nat} {i j : Int} (hi : i = p) (hj : j = p + 1) : ((strSliceIndices (some i) (some j) 1 x.length).filterMap (x.cps[·]?)) = (x.cps.toList.drop p).take 1 := by
  subst hi hj
  by_cases hp : p < x.length
  · have e := PySem.StrLaws.sliced_plain x (a := p) (b := p + 1) (by omega) (by omega)
    have e2 : p + 1 - p = 1 := by omega
    rw [e2] at e
    exact e
  · have h1 : ¬ ((p : Int) < 0) := by omega
    have h2 : ¬ ((p : Int) + 1 < 0) := by omega
    have e1 : max (0 : Int) (min (p : Int) (x.length : Int)) = x.length := by omega
    have e2 : max (0 : Int) (min ((p : Int) + 1) (x.length : Int)) = x.length := by omega
    have e3 : strSliceIndices (some (p : Int)) (some ((p : Int) + 1)) 1 x.length = [] := by
      simp only [strSliceIndices, sliceRange, h1, h2, if_false, e1, e2, show ((1 : Int) > 0) = True from by simp, if_true]
      simp
    rw [e3]
    have : x.cps.toList.length ≤ p := by simp [Str.length] at hp ⊢; omega
    simp [List.drop_eq_nil_of_le this]
/-- the sign at a place, or nothing -/
noncomputable def chr1 (text : Str) (p : Nat) : Str := ⟨((text.cps.toList.drop p).take 1).toArray⟩
open PySem.Builtin PySem.Builtin.Str in
theorem picked_whole {x : Str} {p : Nat} {i j : Int} {t1 t2 : Nat} (hi : i = p) (hj : j = p + 1) (hl : (slicePicked x (some (i, t1)) (some (j, t2)) none).length = x.length) : chr1 x p = x := by
  have hl' : (strSliceIndices (some (p : Int)) (some ((p : Int) + 1)) 1 x.length).length = x.length := by subst hi hj; exact hl
  by_cases hp : p < x.length
  · have e := PySem.StrLaws.strSliceIndices_plain (a := p) (b := p + 1) (len := x.length) (by omega) (by omega)
    have e' : strSliceIndices (some (p : Int)) (some ((p : Int) + 1)) 1 x.length = (List.range (p + 1 - p)).map (fun k => p + k) := e
    rw [e'] at hl'
    simp only [List.length_map, List.length_range] at hl'
    have h1 : x.length = 1 := by omega
    have hp0 : p = 0 := by omega
    subst hp0
    obtain ⟨⟨l⟩⟩ := x
    match l, h1 with
    | [c], _ => rfl
  · have h1 : ¬ ((p : Int) < 0) := by omega
    have h2 : ¬ ((p : Int) + 1 < 0) := by omega
    have e1 : max (0 : Int) (min (p : Int) (x.length : Int)) = x.length := by omega
    have e2 : max (0 : Int) (min ((p : Int) + 1) (x.length : Int)) = x.length := by omega
    have e3 : strSliceIndices (some (p : Int)) (some ((p : Int) + 1)) 1 x.length = [] := by
      simp only [strSliceIndices, sliceRange, h1, h2, if_false, e1, e2, show ((1 : Int) > 0) = True from by simp, if_true]
      simp
    rw [e3] at hl'
    obtain ⟨⟨l⟩⟩ := x
    match l, hl' with
    | [], _ => simp [chr1]
theorem slice_code {C : Cx} {A : Around} {R : Post Result} {h : Heap} {g : Gs} {tk : Nat} {id : String} {text : Str} {tt : Nat} {a : Addr} {p : Nat} {i j : Int} {t1 t2 : Nat}
    (e : PySem.W.S.eqLit 500416356548588640944365259017385332 id = true)
    (ha : h.get? a = some ⟨.type "slice", none, .fields #[.int i t1, .int j t2, .none], #[]⟩) (hi : i = p) (hj : j = p + 1)
    (k : ∀ t' tk', R (.ok (.ret (.str (chr1 text p) t'))) h g tk') : CodeP C A (.builtin id ⟨[.str text tt, .ref a], []⟩) R h g tk := by
  refine builtin_meets e (b := "str.__getitem__") (by decide +kernel) PySem.F.entry_str_getitem (by decide +kernel) (meets_str_getitem_slice text tt a (some (i, t1)) (some (j, t2)) none rfl) ⟨⟨_, ha, rfl, rfl⟩, ?_⟩
  have e1 : (slicePicked text (some (i, t1)) (some (j, t2)) none).filterMap (text.cps[·]?) = (text.cps.toList.drop p).take 1 := picked_one hi hj
  unfold sliceMade
  split
  · rename_i hc
    refine ⟨_, _, _, rfl, ?_⟩
    have hl : (slicePicked text (some (i, t1)) (some (j, t2)) none).length = text.length := by
      simpa using hc
    have ht : chr1 text p = text := picked_whole hi hj hl
    have := k tt tk
    rw [ht] at this
    exact this
  · refine ⟨?_, _, _, _, rfl, ?_⟩
    · rw [e1]
      show _ ≤ sizeLine
      rw [PySem.sizeLine_eq]
      simp [Str.length]
      omega
    · rw [e1]; exact k _ _

theorem builtin_gives {C : Cx} {A : Around} {R : Post Result} {h : Heap} {g : Gs} {tk : Nat} {id b : String} {n : Nat} {args : Args} {B : Builtin} {m : Made} (e : PySem.W.S.eqLit n id = true) (hb : PySem.code b = n) (hE : entryFor table b = some B) (hq : plainId b = true)
    (gv : Gives (B args) m) (x : m.post (fun v s' => up C R (.ok (.ret v)) s') ⟨h, g, C.d, tk, C.os⟩) : CodeP C A (.builtin id args) R h g tk := by
  rw [id_of e hb]
  refine ⟨codeAny_builtin hE ?_⟩
  rw [Around.under_plainId hq args]
  exact gv C.prog C.w A (up C R) _ x
theorem str_eq_iff {x y : Str} : (x.cps.toList == y.cps.toList) = decide (x = y) := by
  obtain ⟨⟨a⟩⟩ := x
  obtain ⟨⟨b⟩⟩ := y
  rw [Bool.eq_iff_iff]
  simp
section
variable {C : Cx} {A : Around} {R : Post Result} {h : Heap} {g : Gs} {tk : Nat} {id : String} {x y : Str} {t u : Nat}
theorem eq_code (e : PySem.W.S.eqLit 455126313168696234964340 id = true) (k1 : x = y → R (.ok (.ret (.bool true))) h g tk) (k2 : x ≠ y → R (.ok (.ret (.bool false))) h g tk) :
    CodeP C A (.builtin id ⟨[.str x t, .str y u], []⟩) R h g tk := by
  refine builtin_gives e (b := "str.__eq__") (by decide +kernel) PySem.F.entry_str_eq (by decide +kernel) (PySem.gives_str_eq x y t u) ⟨_, _, _, rfl, ?_⟩
  rw [str_eq_iff]
  by_cases q : x = y
  · rw [decide_eq_true q]; exact k1 q
  · rw [decide_eq_false q]; exact k2 q
theorem in_code {b : Bool} (e : PySem.W.S.eqLit 128106709680535770272165659069392319860 id = true) (hb : (!(PySem.Builtin.Str.occurrences x y 0 x.length 1).isEmpty) = b) (k : R (.ok (.ret (.bool b))) h g tk) :
    CodeP C A (.builtin id ⟨[.str x t, .str y u], []⟩) R h g tk := by
  refine builtin_gives e (b := "str.__contains__") (by decide +kernel) PySem.F.entry_str_contains (by decide +kernel) (PySem.gives_str_contains x y t u) ⟨_, _, _, rfl, ?_⟩
  rw [hb]; exact k
theorem add_code (e : PySem.W.S.eqLit 116512096292018843154609524 id = true) (hl : (x ++ y).length ≤ sizeLine) (k : ∀ t' tk', R (.ok (.ret (.str (x ++ y) t'))) h g tk') :
    CodeP C A (.builtin id ⟨[.str x t, .str y u], []⟩) R h g tk := by
  refine builtin_gives e (b := "str.__add__") (by decide +kernel) PySem.F.entry_str_add (by decide +kernel) (PySem.gives_str_add x y t u) ?_
  split
  · rename_i q
    have hx : x = ⟨#[]⟩ := by
      obtain ⟨⟨a⟩⟩ := x
      have : a.length = 0 := by simpa [Str.length] using q
      rw [List.length_eq_zero_iff.mp this]
    have : x ++ y = y := by rw [hx]; obtain ⟨⟨b⟩⟩ := y; exact Str.empty_append _
    have k' := k u tk
    rw [this] at k'
    exact ⟨_, _, _, rfl, k'⟩
  · split
    · rename_i _ q
      have hy : y = ⟨#[]⟩ := by
        obtain ⟨⟨a⟩⟩ := y
        have : a.length = 0 := by simpa [Str.length] using q
        rw [List.length_eq_zero_iff.mp this]
      have : x ++ y = x := by
        rw [hy]
        apply Str.ext'
        simp [Str.cps_append]
      have k' := k t tk
      rw [this] at k'
      exact ⟨_, _, _, rfl, k'⟩
    · exact ⟨hl, _, _, _, rfl, k _ _⟩
end

/-! ## Stops at built-ins -/
theorem vv_str {v : Value} {s : Str} (e : vv v = .str s) : ∃ t, v = .str s t := by
  cases v <;> simp only [vv, VV.str.injEq, reduceCtorEq] at e
  subst e; exact ⟨_, rfl⟩
theorem vv_int {v : Value} {s : Int} (e : vv v = .int s) : ∃ t, v = .int s t := by
  cases v <;> simp only [vv, VV.int.injEq, reduceCtorEq] at e
  subst e; exact ⟨_, rfl⟩
theorem vv_ref {v : Value} {s : Addr} (e : vv v = .ref s) : v = .ref s := by
  cases v <;> simp only [vv, VV.ref.injEq, reduceCtorEq] at e
  subst e; rfl
theorem vv_bool {v : Value} {s : Bool} (e : vv v = .bool s) : v = .bool s := by
  cases v <;> simp only [vv, VV.bool.injEq, reduceCtorEq] at e
  subst e; rfl
theorem vv_none {v : Value} (e : vv v = .none) : v = .none := by
  cases v <;> simp only [vv, reduceCtorEq] at e
  rfl
theorem map_nil {vs : List Value} (e : vs.map vv = []) : vs = [] := List.map_eq_nil_iff.mp e
theorem map_one {vs : List Value} {a : VV} (e : vs.map vv = [a]) : ∃ x, vs = [x] ∧ vv x = a := by
  obtain ⟨x, l, rfl, hx, hl⟩ := List.map_eq_cons_iff.mp e
  exact ⟨x, by rw [map_nil hl], hx⟩
theorem map_two {vs : List Value} {a b : VV} (e : vs.map vv = [a, b]) : ∃ x y, vs = [x, y] ∧ vv x = a ∧ vv y = b := by
  obtain ⟨x, l, rfl, hx, hl⟩ := List.map_eq_cons_iff.mp e
  obtain ⟨y, rfl, hy⟩ := map_one hl
  exact ⟨x, y, rfl, hx, hy⟩
theorem map_3 {vs : List Value} {a b c : VV} (e : vs.map vv = [a, b, c]) : ∃ x y z, vs = [x, y, z] ∧ vv x = a ∧ vv y = b ∧ vv z = c := by
  obtain ⟨x, l, rfl, hx, hl⟩ := List.map_eq_cons_iff.mp e
  obtain ⟨y, z, rfl, hy, hz⟩ := map_two hl
  exact ⟨x, y, z, rfl, hx, hy, hz⟩
theorem map_four {vs : List Value} {a b c d : VV} (e : vs.map vv = [a, b, c, d]) : ∃ x y z u, vs = [x, y, z, u] ∧ vv x = a ∧ vv y = b ∧ vv z = c ∧ vv u = d := by
  obtain ⟨x, l, rfl, hx, hl⟩ := List.map_eq_cons_iff.mp e
  obtain ⟨y, z, u, rfl, hy, hz, hu⟩ := map_3 hl
  exact ⟨x, y, z, u, rfl, hx, hy, hz, hu⟩
noncomputable def isSlice : Obj → Option (Int × Int)
  | ⟨.type s, none, .fields ⟨vs⟩, ⟨sl⟩⟩ => match vs, sl with
    | [.int i _, .int j _, .none], [] => match PySem.W.S.eqLit 439771360628 s with
      | true => some (i, j)
      | false => none
    | _, _ => none
  | _ => none
theorem slice_is {o : Obj} {i j : Int} (e : isSlice o = some (i, j)) : ∃ t1 t2, o = ⟨.type "slice", none, .fields #[.int i t1, .int j t2, .none], #[]⟩ := by
  unfold isSlice at e
  split at e
  · split at e
    · split at e
      · rename_i q
        cases e
        rw [id_of q (b := "slice") (by decide +kernel)]
        exact ⟨_, _, rfl⟩
      · cases e
    · cases e
  · cases e
theorem codeS_eq {i : String} {n : Nat} (e : PySem.W.S.codeS i = n) : PySem.W.S.eqLit n i = true := by
  subst e
  exact Nat.beq_refl _
section
variable {C : Cx} {A₀ : Around} {R₀ : Post Result} {T : Nat → Option Obj} {h₀ : Heap} {fp : List Addr} {n tk : Nat} {g : Gs} {h : Heap} {l : List Ent} {κ : Kont} {r : Result}
theorem go_slice {F H : Nat} {text : Str} {a : Addr} {i j : Int} (p q : Nat) (S : St T h₀ h fp l) (hi : i = p) (hj : j = p + 1)
    (hk : ((simA C A₀ T h.objs.size tk F κ r l H).acc.map (·.1), isRet κ, see (simA C A₀ T h.objs.size tk F κ r l H), (nth (simA C A₀ T h.objs.size tk F κ r l H).l q).map fun e => (e.a, isSlice e.o)) =
      ((simA C A₀ T h.objs.size tk F κ r l H).acc.map (·.2), true, .bi 500416356548588640944365259017385332 [.str text, .ref a], some (a, some (i, j))))
    (k : ∀ h' t' tk', St T h₀ h' fp (simA C A₀ T h.objs.size tk F κ r l H).l → After C A₀ R₀ (κO (simA C A₀ T h.objs.size tk F κ r l H)) (.ok (.ret (.str (chr1 text p) t'))) h' g tk') : After C A₀ R₀ κ r h g tk := by
  have e1 := congrArg (·.1) hk
  have e2 := congrArg (·.2.1) hk
  have e3 := congrArg (·.2.2.1) hk
  have e4 := congrArg (·.2.2.2) hk
  refine go_bi _ _ S (Prod.ext e1 (Prod.ext e2 e3)) fun h' tk' id vs hid hvs S' => ?_
  obtain ⟨v, w, rfl, hv, hw⟩ := map_two hvs
  obtain ⟨tt, rfl⟩ := vv_str hv
  obtain rfl := vv_ref hw
  obtain ⟨e, he, e5⟩ := Option.map_eq_some_iff.mp e4
  have e6 : e.a = a := congrArg Prod.fst e5
  obtain ⟨t1, t2, e7⟩ := slice_is (congrArg Prod.snd e5)
  refine slice_code (codeS_eq hid) (by rw [← e7, ← e6]; exact S'.at he) hi hj fun t' tk' => k _ _ _ S'

theorem go_eq {F H : Nat} (x y : Str) (S : St T h₀ h fp l) (hk : ((simA C A₀ T h.objs.size tk F κ r l H).acc.map (·.1), isRet κ, see (simA C A₀ T h.objs.size tk F κ r l H)) = ((simA C A₀ T h.objs.size tk F κ r l H).acc.map (·.2), true, .bi 455126313168696234964340 [.str x, .str y]))
    (k1 : x = y → ∀ h' tk', St T h₀ h' fp (simA C A₀ T h.objs.size tk F κ r l H).l → After C A₀ R₀ (κO (simA C A₀ T h.objs.size tk F κ r l H)) (.ok (.ret (.bool true))) h' g tk') (k2 : x ≠ y → ∀ h' tk', St T h₀ h' fp (simA C A₀ T h.objs.size tk F κ r l H).l → After C A₀ R₀ (κO (simA C A₀ T h.objs.size tk F κ r l H)) (.ok (.ret (.bool false))) h' g tk') : After C A₀ R₀ κ r h g tk := by
  refine go_bi _ _ S hk fun h' tk' id vs hid hvs S' => ?_
  obtain ⟨v, w, rfl, hv, hw⟩ := map_two hvs
  obtain ⟨t1, rfl⟩ := vv_str hv
  obtain ⟨t2, rfl⟩ := vv_str hw
  exact eq_code (codeS_eq hid) (fun e => k1 e _ _ S') fun e => k2 e _ _ S'
theorem go_in {F H : Nat} (x y : Str) (b : Bool) (S : St T h₀ h fp l) (hb : (!(PySem.Builtin.Str.occurrences x y 0 x.length 1).isEmpty) = b) (hk : ((simA C A₀ T h.objs.size tk F κ r l H).acc.map (·.1), isRet κ, see (simA C A₀ T h.objs.size tk F κ r l H)) = ((simA C A₀ T h.objs.size tk F κ r l H).acc.map (·.2), true, .bi 128106709680535770272165659069392319860 [.str x, .str y]))
    (k : ∀ h' tk', St T h₀ h' fp (simA C A₀ T h.objs.size tk F κ r l H).l → After C A₀ R₀ (κO (simA C A₀ T h.objs.size tk F κ r l H)) (.ok (.ret (.bool b))) h' g tk') : After C A₀ R₀ κ r h g tk := by
  refine go_bi _ _ S hk fun h' tk' id vs hid hvs S' => ?_
  obtain ⟨v, w, rfl, hv, hw⟩ := map_two hvs
  obtain ⟨t1, rfl⟩ := vv_str hv
  obtain ⟨t2, rfl⟩ := vv_str hw
  exact in_code (codeS_eq hid) hb (k _ _ S')
theorem go_add {F H : Nat} (x y : Str) (S : St T h₀ h fp l) (hl : (x ++ y).length ≤ sizeLine) (hk : ((simA C A₀ T h.objs.size tk F κ r l H).acc.map (·.1), isRet κ, see (simA C A₀ T h.objs.size tk F κ r l H)) = ((simA C A₀ T h.objs.size tk F κ r l H).acc.map (·.2), true, .bi 116512096292018843154609524 [.str x, .str y]))
    (k : ∀ h' t' tk', St T h₀ h' fp (simA C A₀ T h.objs.size tk F κ r l H).l → After C A₀ R₀ (κO (simA C A₀ T h.objs.size tk F κ r l H)) (.ok (.ret (.str (x ++ y) t'))) h' g tk') : After C A₀ R₀ κ r h g tk := by
  refine go_bi _ _ S hk fun h' tk' id vs hid hvs S' => ?_
  obtain ⟨v, w, rfl, hv, hw⟩ := map_two hvs
  obtain ⟨t1, rfl⟩ := vv_str hv
  obtain ⟨t2, rfl⟩ := vv_str hw
  exact add_code (codeS_eq hid) hl fun t' tk' => k _ _ _ S'
end

/-! ## Stops, with what is behind them out of sight -/
structure Stop (C : Cx) (A₀ : Around) (R₀ R' : Post Result) (T : Nat → Option Obj) (h₀ h' : Heap) (fp : List Addr) (o : Out) : Prop where
  S : St T h₀ h' fp o.l
  rt : ∀ q1 h1 g1 tk1, After C A₀ R₀ (κO o) q1 h1 g1 tk1 → R' q1 h1 g1 tk1
section
variable {C : Cx} {A₀ : Around} {R₀ : Post Result} {T : Nat → Option Obj} {h₀ : Heap} {fp : List Addr} {n tk : Nat} {g : Gs} {h : Heap} {l : List Ent} {κ : Kont} {r : Result}
theorem go_fnR {F H : Nat} (a : Addr) (b : Addr) (d : Nat) (S : St T h₀ h fp l)
    (hk : ((simA C A₀ T h.objs.size tk F κ r l H).acc.map (·.1), isRet κ, (arO A₀ (simA C A₀ T h.objs.size tk F κ r l H)).depth, (arO A₀ (simA C A₀ T h.objs.size tk F κ r l H)).handled, see (simA C A₀ T h.objs.size tk F κ r l H)) = ((simA C A₀ T h.objs.size tk F κ r l H).acc.map (·.2), true, A₀.depth + d, A₀.handled, .fn a [.ref b]))
    (x : ∀ A' R' h' tk', A'.depth = A₀.depth + d → A'.handled = A₀.handled → Stop C A₀ R₀ R' T h₀ h' fp (simA C A₀ T h.objs.size tk F κ r l H) → CodeP C A' (.call (.ref a) ⟨[.ref b], []⟩) R' h' g tk') : After C A₀ R₀ κ r h g tk := by
  refine go_fn a _ d S hk fun h' tk' vs e hd hh S' => ?_
  obtain ⟨v, rfl, hv⟩ := map_one e
  obtain rfl := vv_ref hv
  exact x _ _ h' tk' hd hh ⟨S', fun _ _ _ _ y => y⟩
theorem go_fnS {F H : Nat} (a : Addr) (b : Str) (d : Nat) (S : St T h₀ h fp l)
    (hk : ((simA C A₀ T h.objs.size tk F κ r l H).acc.map (·.1), isRet κ, (arO A₀ (simA C A₀ T h.objs.size tk F κ r l H)).depth, (arO A₀ (simA C A₀ T h.objs.size tk F κ r l H)).handled, see (simA C A₀ T h.objs.size tk F κ r l H)) = ((simA C A₀ T h.objs.size tk F κ r l H).acc.map (·.2), true, A₀.depth + d, A₀.handled, .fn a [.str b]))
    (x : ∀ A' R' h' tk' t, A'.depth = A₀.depth + d → A'.handled = A₀.handled → Stop C A₀ R₀ R' T h₀ h' fp (simA C A₀ T h.objs.size tk F κ r l H) → CodeP C A' (.call (.ref a) ⟨[.str b t], []⟩) R' h' g tk') : After C A₀ R₀ κ r h g tk := by
  refine go_fn a _ d S hk fun h' tk' vs e hd hh S' => ?_
  obtain ⟨v, rfl, hv⟩ := map_one e
  obtain ⟨t, rfl⟩ := vv_str hv
  exact x _ _ h' tk' t hd hh ⟨S', fun _ _ _ _ y => y⟩
theorem go_fnRR {F H : Nat} (a : Addr) (b c : Addr) (d : Nat) (S : St T h₀ h fp l)
    (hk : ((simA C A₀ T h.objs.size tk F κ r l H).acc.map (·.1), isRet κ, (arO A₀ (simA C A₀ T h.objs.size tk F κ r l H)).depth, (arO A₀ (simA C A₀ T h.objs.size tk F κ r l H)).handled, see (simA C A₀ T h.objs.size tk F κ r l H)) = ((simA C A₀ T h.objs.size tk F κ r l H).acc.map (·.2), true, A₀.depth + d, A₀.handled, .fn a [.ref b, .ref c]))
    (x : ∀ A' R' h' tk', A'.depth = A₀.depth + d → A'.handled = A₀.handled → Stop C A₀ R₀ R' T h₀ h' fp (simA C A₀ T h.objs.size tk F κ r l H) → CodeP C A' (.call (.ref a) ⟨[.ref b, .ref c], []⟩) R' h' g tk') : After C A₀ R₀ κ r h g tk := by
  refine go_fn a _ d S hk fun h' tk' vs e hd hh S' => ?_
  obtain ⟨v, w, rfl, hv, hw⟩ := map_two e
  obtain rfl := vv_ref hv
  obtain rfl := vv_ref hw
  exact x _ _ h' tk' hd hh ⟨S', fun _ _ _ _ y => y⟩
theorem go_biRR {F H : Nat} (idn : Nat) (b c : Addr) (S : St T h₀ h fp l)
    (hk : ((simA C A₀ T h.objs.size tk F κ r l H).acc.map (·.1), isRet κ, see (simA C A₀ T h.objs.size tk F κ r l H)) = ((simA C A₀ T h.objs.size tk F κ r l H).acc.map (·.2), true, .bi idn [.ref b, .ref c]))
    (x : ∀ A' R' h' tk' i, PySem.W.S.codeS i = idn → Stop C A₀ R₀ R' T h₀ h' fp (simA C A₀ T h.objs.size tk F κ r l H) → CodeP C A' (.builtin i ⟨[.ref b, .ref c], []⟩) R' h' g tk') : After C A₀ R₀ κ r h g tk := by
  refine go_bi idn _ S hk fun h' tk' i vs hi e S' => ?_
  obtain ⟨v, w, rfl, hv, hw⟩ := map_two e
  obtain rfl := vv_ref hv
  obtain rfl := vv_ref hw
  exact x _ _ h' tk' i hi ⟨S', fun _ _ _ _ y => y⟩
theorem go_codeX {F H : Nat} (c' : Code) (d : Nat) (S : St T h₀ h fp l)
    (hk : ((simA C A₀ T h.objs.size tk F κ r l H).acc.map (·.1), isRet κ, (arO A₀ (simA C A₀ T h.objs.size tk F κ r l H)).depth, (arO A₀ (simA C A₀ T h.objs.size tk F κ r l H)).handled, codeO (simA C A₀ T h.objs.size tk F κ r l H)) = ((simA C A₀ T h.objs.size tk F κ r l H).acc.map (·.2), true, A₀.depth + d, A₀.handled, some c'))
    (x : ∀ A' R' h' tk', A'.depth = A₀.depth + d → A'.handled = A₀.handled → Stop C A₀ R₀ R' T h₀ h' fp (simA C A₀ T h.objs.size tk F κ r l H) → CodeP C A' c' R' h' g tk') : After C A₀ R₀ κ r h g tk :=
  go_code c' d S hk fun h' tk' hd hh S' => x _ _ h' tk' hd hh ⟨S', fun _ _ _ _ y => y⟩
end
theorem St.notin {T : Nat → Option Obj} {h₀ h : Heap} {fp : List Addr} {l : List Ent} (S : St T h₀ h fp l) (i : Nat) (idx : List Nat) {a : Addr} {as : List Addr} (hk : ((nth l i).map (·.a), (pick idx l).map (·.a), idx.all (fun j => !Nat.beq i j)) = (some a, as, true)) : a ∉ as := by
  have e1 : (nth l i).map (·.a) = some a := congrArg (·.1) hk
  have e2 : (pick idx l).map (·.a) = as := congrArg (·.2.1) hk
  have e3 : idx.all (fun j => !Nat.beq i j) = true := congrArg (·.2.2) hk
  intro hm
  rw [← e2] at hm
  obtain ⟨p, hp, ea⟩ := List.mem_map.mp hm
  obtain ⟨j, hj, hn⟩ := pick_mem hp
  obtain ⟨q, hq, eq⟩ := Option.map_eq_some_iff.mp e1
  have e4 := List.all_eq_true.mp e3 j hj
  rw [nth_inj S.nd hn hq (ea.trans eq.symm), Nat.beq_refl] at e4
  cases e4
/-! ## Parts by the world's parameters -/
section
variable {P : Params} {h₀ h h' : Heap} {fp : List Addr} {l : List Ent}
theorem St.giveP {G : Prop} (S : St (topObj P) h₀ h fp l) (idx : List Nat) (vl : Params → List EV) (k : ∀ τ, St (topObj P) h₀ h fp (mkL (vl P) τ) → G) (hv : (nodupB idx, (lowW (pick idx l) ((vl P).map (·.w))).map ev) = (true, vl P)) : G := S.give idx k hv
theorem St.lendP {G : Prop} (S : St (topObj P) h₀ h fp l) (idx : List Nat) (bs : List Bool) (fp' : List Addr) (vl : Params → List EV)
    (k : ∀ τ, St (topObj P) h h fp' (mkL (vl P) τ) → Back (topObj P) h₀ h fp fp' l → G)
    (hv : (nodupB idx, (lowW (pick idx l) bs).map ev, fpE (vl P)) = (true, vl P, fp')) : G := S.lendG idx bs k hv
end
end Mine
end
/-! ## Sr -/
section
open PySem PySem.W PyProof.Rows
set_option Elab.async false
set_option linter.unusedVariables false
set_option maxRecDepth 100000
set_option maxHeartbeats 2000000
namespace Mine
/-! ## The regular expressions, as pure machines -/
noncomputable def code1 : Array Nat := #[14, 4, 0, 1, 1, 6, 1, 16, 46, 1]
noncomputable def code2 : Array Nat := #[14, 9, 4, 1, 2, 16, 10, 16, 13, 0, 7, 7, 16, 13, 16, 10, 15, 18, 5, 16, 10, 15, 13, 11, 16, 13, 5, 5, 0, 16, 10, 1, 15, 2, 0, 1]
structure Pa where
  pc : Nat
  pos : Nat
  handed : Nat
  om : Bool
  frames : List Sre.Frame
  weight : Nat
  answer : Option Bool
  seen : Sre.Seen
  start : Nat
  lastStart : Nat
  must : Bool
noncomputable def stM (code text : Array Nat) (p : Pa) : Sre.M := { code, text, lim := text.size, start := p.start, lastStart := p.lastStart, wholeText := false, mustAdvance := p.must, pc := p.pc, pos := p.pos, handed := p.handed, outermost := p.om, marks := #[], lastmark := -1, lastindex := -1, loops := #[], inner := none, frames := p.frames, weight := p.weight, answer := p.answer, seen := p.seen, outcome := none }
section
variable {code text : Array Nat} {p : Pa}
theorem step_exec (ha : p.answer = none) (hp : Nat.blt p.pc code.size = true) : (stM code text p).step = (stM code text p).exec := by
  unfold Sre.M.step
  rw [if_neg (fun h => nomatch h)]
  show (match p.answer, p.frames with | some yes, [] => _ | some yes, f :: rest => _ | none, _ => _) = _
  rw [ha]
  show (if p.pc < code.size then _ else _) = _
  rw [if_pos (show p.pc < code.size from Nat.le_of_ble_eq_true hp)]
theorem lit_end {w : Nat} (hop : Sre.ops[code.getD p.pc 0]? = some .LITERAL) (hp : Nat.blt p.pc code.size = true) (ha : p.answer = none) (h1 : text.size ≤ p.pos) :
    (stM code text p).step = stM code text { p with answer := some false, seen := p.seen.add (code.getD p.pc 0) } := by
  rw [step_exec ha hp]
  unfold Sre.M.exec
  rw [show Sre.ops[(stM code text p).word 0]? = some .LITERAL from hop]
  show (if p.pos ≥ text.size then _ else _) = _
  rw [if_pos h1]
  rfl
theorem lit_step {w : Nat} (hop : Sre.ops[code.getD p.pc 0]? = some .LITERAL) (hw : code.getD (p.pc + 1) 0 = w) (hp : Nat.blt p.pc code.size = true) (ha : p.answer = none) (h1 : p.pos < text.size) :
    (stM code text p).step = stM code text (if text.getD p.pos 0 = w then { p with pc := p.pc + 2, pos := p.pos + 1, seen := p.seen.add (code.getD p.pc 0) } else { p with answer := some false, seen := p.seen.add (code.getD p.pc 0) }) := by
  rw [step_exec ha hp]
  unfold Sre.M.exec
  rw [show Sre.ops[(stM code text p).word 0]? = some .LITERAL from hop]
  show (if p.pos ≥ text.size then _ else _) = _
  rw [if_neg (Nat.not_le.mpr h1)]
  show (match Sre.accepts code p.pc (text.getD p.pos 0) (p.seen.add (code.getD p.pc 0)) with | .error why => _ | .ok (false, seen) => _ | .ok (true, seen) => _) = _
  have e : Sre.accepts code p.pc (text.getD p.pos 0) (p.seen.add (code.getD p.pc 0)) = .ok (text.getD p.pos 0 == w, p.seen.add (code.getD p.pc 0)) := by
    unfold Sre.accepts
    rw [hop, hw]
  rw [e]
  by_cases q : text.getD p.pos 0 = w
  · rw [if_pos q, beq_iff_eq.mpr q]
    have e2 : Sre.itemWidth code p.pc = 2 := by
      unfold Sre.itemWidth
      rw [hop]
    show ({ (stM code text p) with seen := _, pc := p.pc + Sre.itemWidth code p.pc, pos := p.pos + 1 } : Sre.M) = _
    rw [e2]
    rfl
  · rw [if_neg q, beq_eq_false_iff_ne.mpr q]
    rfl
theorem at_step {yes : Bool} (hop : Sre.ops[code.getD p.pc 0]? = some .AT) (hp : Nat.blt p.pc code.size = true) (ha : p.answer = none) (hi : (stM code text p).isAt (code.getD (p.pc + 1) 0) = .ok yes) :
    (stM code text p).step = stM code text (if yes = true then { p with pc := p.pc + 2, seen := (p.seen.add (code.getD p.pc 0)).add (43 + code.getD (p.pc + 1) 0) } else { p with answer := some false, seen := (p.seen.add (code.getD p.pc 0)).add (43 + code.getD (p.pc + 1) 0) }) := by
  rw [step_exec ha hp]
  unfold Sre.M.exec
  rw [show Sre.ops[(stM code text p).word 0]? = some .AT from hop]
  show (match Sre.M.isAt _ (code.getD (p.pc + 1) 0) with | .error why => _ | .ok yes => _) = _
  rw [show Sre.M.isAt { stM code text p with seen := (stM code text p).seen.add ((stM code text p).word 0) } (code.getD (p.pc + 1) 0) = (stM code text p).isAt (code.getD (p.pc + 1) 0) from rfl, hi]
  cases yes <;> rfl
theorem jump_step {w : Nat} (hop : Sre.ops[code.getD p.pc 0]? = some .JUMP ∨ Sre.ops[code.getD p.pc 0]? = some .INFO) (hw : code.getD (p.pc + 1) 0 = w) (hp : Nat.blt p.pc code.size = true) (ha : p.answer = none) :
    (stM code text p).step = stM code text { p with pc := p.pc + 1 + w, seen := p.seen.add (code.getD p.pc 0) } := by
  rw [step_exec ha hp]
  unfold Sre.M.exec
  rcases hop with hop | hop
  · rw [show Sre.ops[(stM code text p).word 0]? = some .JUMP from hop, ← hw]; rfl
  · rw [show Sre.ops[(stM code text p).word 0]? = some .INFO from hop, ← hw]; rfl
theorem succ_step (hop : Sre.ops[code.getD p.pc 0]? = some .SUCCESS) (hp : Nat.blt p.pc code.size = true) (ha : p.answer = none) (h : p.must = false ∨ p.pos ≠ p.start) :
    (stM code text p).step = stM code text { p with answer := some true, handed := p.pos, seen := p.seen.add (code.getD p.pc 0) } := by
  rw [step_exec ha hp]
  unfold Sre.M.exec
  rw [show Sre.ops[(stM code text p).word 0]? = some .SUCCESS from hop]
  show (if (p.om && ((false && _) || (p.must && p.pos == p.start))) = true then _ else _) = _
  rw [if_neg ?_]
  · rfl
  · rcases h with h | h
    · rw [h]; simp
    · rw [beq_eq_false_iff_ne.mpr h]; simp
theorem branch_step (hop : Sre.ops[code.getD p.pc 0]? = some .BRANCH) (hp : Nat.blt p.pc code.size = true) (ha : p.answer = none) (hz : Nat.beq (code.getD (p.pc + 1) 0) 0 = false) (hwt : Nat.blt p.weight 1000 = true) :
    (stM code text p).step = stM code text { p with pc := p.pc + 2, handed := p.pos, frames := { wait := .nextBranch, pc := p.pc + 1, pos := p.pos, outermost := p.om, kept := {} } :: p.frames, weight := p.weight + 1, seen := p.seen.add (code.getD p.pc 0) } := by
  rw [step_exec ha hp]
  unfold Sre.M.exec
  rw [show Sre.ops[(stM code text p).word 0]? = some .BRANCH from hop]
  show (if (code.getD (p.pc + 1) 0 == 0) = true then _ else _) = _
  rw [if_neg (by rw [beq_iff_eq]; exact Nat.ne_of_beq_eq_false hz)]
  show (if p.weight + 1 + 0 > 16777216 then _ else _) = _
  rw [if_neg (by have := Nat.le_of_ble_eq_true hwt; omega)]
  rfl
theorem assertNot_step (hop : Sre.ops[code.getD p.pc 0]? = some .ASSERT_NOT) (hp : Nat.blt p.pc code.size = true) (ha : p.answer = none) (hz : code.getD (p.pc + 2) 0 = 0) (hwt : Nat.blt p.weight 1000 = true) :
    (stM code text p).step = stM code text { p with pc := p.pc + 3, pos := p.pos - code.getD (p.pc + 2) 0, handed := p.pos - code.getD (p.pc + 2) 0, om := false, frames := { wait := .lookNot, pc := p.pc, pos := p.pos, outermost := p.om, kept := {} } :: p.frames, weight := p.weight + 1, seen := p.seen.add (code.getD p.pc 0) } := by
  rw [step_exec ha hp]
  unfold Sre.M.exec
  rw [show Sre.ops[(stM code text p).word 0]? = some .ASSERT_NOT from hop]
  show (if p.pos < code.getD (p.pc + 2) 0 then _ else _) = _
  rw [if_neg (by rw [hz]; exact Nat.not_lt_zero _)]
  show (if p.weight + 1 + 0 > 16777216 then _ else _) = _
  rw [if_neg (by have := Nat.le_of_ble_eq_true hwt; omega)]
  rfl
/-- an answer, and who waits for it -/
noncomputable def Pa.pop (p : Pa) (f : Sre.Frame) (rest : List Sre.Frame) : Pa := { p with answer := none, frames := rest, weight := p.weight - (1 + f.kept.marks.size), pc := f.pc, pos := f.pos, om := f.outermost }
theorem res_step {yes : Bool} {f : Sre.Frame} {rest : List Sre.Frame} (ha : p.answer = some yes) (hf : p.frames = f :: rest) : (stM code text p).step = (stM code text (p.pop f rest)).resume f yes := by
  unfold Sre.M.step
  rw [if_neg (fun h => nomatch h)]
  show (match p.answer, p.frames with | some yes, [] => _ | some yes, f :: rest => _ | none, _ => _) = _
  rw [ha, hf]
  rfl
theorem end_step {yes : Bool} (ha : p.answer = some yes) (hf : p.frames = []) : (stM code text p).step = { stM code text p with outcome := some (if yes then .matched else .failed) } := by
  unfold Sre.M.step
  rw [if_neg (fun h => nomatch h)]
  show (match p.answer, p.frames with | some yes, [] => _ | some yes, f :: rest => _ | none, _ => _) = _
  rw [ha, hf]
noncomputable def fB (pc pos : Nat) (om : Bool) : Sre.Frame := { wait := .nextBranch, pc, pos, outermost := om, kept := {} }
noncomputable def fN (pc pos : Nat) (om : Bool) : Sre.Frame := { wait := .lookNot, pc, pos, outermost := om, kept := {} }
noncomputable def fS (pc pos : Nat) (om : Bool) : Sre.Frame := { wait := .nextStart, pc, pos, outermost := om }
theorem res_branch_yes {pc pos : Nat} {om : Bool} : (stM code text p).resume (fB pc pos om) true = stM code text { p with answer := some true } := rfl
theorem res_branch_no {pc pos : Nat} {om : Bool} (hz : Nat.beq (code.getD (pc + code.getD pc 0) 0) 0 = false) (hwt : Nat.blt p.weight 1000 = true) : (stM code text p).resume (fB pc pos om) false = stM code text { p with pc := pc + code.getD pc 0 + 1, handed := p.pos, frames := fB (pc + code.getD pc 0) p.pos p.om :: p.frames, weight := p.weight + 1 } := by
  show (if (code.getD (pc + code.getD pc 0) 0 == 0) = true then _ else _) = _
  rw [if_neg (by rw [beq_iff_eq]; exact Nat.ne_of_beq_eq_false hz)]
  show (if p.weight + 1 + 0 > 16777216 then _ else _) = _
  rw [if_neg (by have := Nat.le_of_ble_eq_true hwt; omega)]
  rfl
theorem res_look_no {pc pos : Nat} {om : Bool} : (stM code text p).resume (fN pc pos om) false = stM code text { p with pc := p.pc + 1 + code.getD (p.pc + 1) 0 } := rfl
theorem res_start_yes {pc pos : Nat} {om : Bool} : (stM code text p).resume (fS pc pos om) true = stM code text { p with answer := some true } := rfl
theorem res_start_end {pc pos : Nat} {om : Bool} (h : ¬ pos < p.lastStart) : (stM code text p).resume (fS pc pos om) false = stM code text { p with answer := some false } := by
  show (if pos < p.lastStart then _ else _) = _
  rw [if_neg h]
  rfl
theorem attemptAt_is {s : Nat} {first : Bool} (hwt : Nat.blt p.weight 1000 = true) : (stM code text p).attemptAt s first = stM code text { p with start := s, pos := s, handed := s, om := first, frames := fS p.pc s first :: p.frames, weight := p.weight + 1 } := by
  unfold Sre.M.attemptAt Sre.M.attempt
  show (if p.weight + 1 + 0 > 16777216 then _ else _) = _
  rw [if_neg (by have := Nat.le_of_ble_eq_true hwt; omega)]
  rfl
theorem res_start_plain {pc pos : Nat} {om : Bool} (h : pos < p.lastStart) (hf : ((match Sre.ops[code.getD 0 0]? with | some .INFO => true | _ => false) && code.getD 2 0 == 4) = false) (hwt : Nat.blt p.weight 1000 = true) : (stM code text p).resume (fS pc pos om) false = stM code text { p with must := false, start := pos + 1, pos := pos + 1, handed := pos + 1, om := false, frames := fS p.pc (pos + 1) false :: p.frames, weight := p.weight + 1 } := by
  show (if pos < p.lastStart then _ else _) = _
  rw [if_pos h]
  show (stM code text { p with must := false }).attemptFrom (pos + 1) false = _
  unfold Sre.M.attemptFrom
  rw [show (stM code text { p with must := false }).hasFirstSet = false from hf]
  show (stM code text { p with must := false }).attemptAt (pos + 1) false = _
  exact attemptAt_is (p := { p with must := false }) hwt
end
/-! ## Runs -/
noncomputable def Runs (n : Nat) (m m' : Sre.M) : Prop := m.runFor n = m'
theorem runFor_add (a b : Nat) : ∀ m : Sre.M, m.runFor (a + b) = (m.runFor a).runFor b := by
  induction a with
  | zero => intro m; rw [Nat.zero_add]; rfl
  | succ a ih =>
    intro m
    rw [Nat.succ_add]
    show (if m.outcome.isSome = true then m else Sre.M.runFor (a + b) m.step) = Sre.M.runFor b (if m.outcome.isSome = true then m else Sre.M.runFor a m.step)
    by_cases q : m.outcome.isSome = true
    · rw [if_pos q, if_pos q]
      cases b with
      | zero => rfl
      | succ b => show m = (if m.outcome.isSome = true then m else _); rw [if_pos q]
    · rw [if_neg q, if_neg q]; exact ih _
theorem runs_step {n : Nat} {code text : Array Nat} {p : Pa} {m m' : Sre.M} (e : (stM code text p).step = m) (r : Runs n m m') : Runs (n + 1) (stM code text p) m' := by
  show (if (stM code text p).outcome.isSome = true then _ else _) = m'
  rw [if_neg (fun h => nomatch h), e]
  exact r

theorem runs_end {code text : Array Nat} {p : Pa} {yes : Bool} (ha : p.answer = some yes) (hf : p.frames = []) : Runs 1 (stM code text p) { stM code text p with outcome := some (if yes then .matched else .failed) } :=
  runs_step (n := 0) (end_step ha hf) rfl
theorem runs_yes {code text : Array Nat} {p : Pa} {pc pos : Nat} {om : Bool} (ha : p.answer = some true) (hf : p.frames = [fS pc pos om]) :
    ∃ m', Runs 2 (stM code text p) m' ∧ m'.outcome = some .matched ∧ m'.start = p.start ∧ m'.handed = p.handed := by
  refine ⟨_, runs_step ((res_step ha hf).trans res_start_yes) (runs_end rfl rfl), rfl, rfl, rfl⟩
theorem runs_yes2 {code text : Array Nat} {p : Pa} {pc pos pc' pos' : Nat} {om om' : Bool} (ha : p.answer = some true) (hf : p.frames = [fB pc' pos' om', fS pc pos om]) :
    ∃ m', Runs 3 (stM code text p) m' ∧ m'.outcome = some .matched ∧ m'.start = p.start ∧ m'.handed = p.handed := by
  obtain ⟨m', r, h⟩ := runs_yes (code := code) (text := text) (p := { p.pop (fB pc' pos' om') [fS pc pos om] with answer := some true }) (pc := pc) (pos := pos) (om := om) rfl rfl
  exact ⟨m', runs_step ((res_step ha hf).trans res_branch_yes) r, h⟩
/-- a line's end at a place -/
noncomputable def EolAt (text : Array Nat) (q e : Nat) : Prop := q < text.size ∧ ((text.getD q 0 = 10 ∧ e = q + 1) ∨ (text.getD q 0 = 13 ∧ q + 1 < text.size ∧ text.getD (q + 1) 0 = 10 ∧ e = q + 2) ∨ (text.getD q 0 = 13 ∧ (text.size ≤ q + 1 ∨ text.getD (q + 1) 0 ≠ 10) ∧ e = q + 1))
noncomputable abbrev Q2 (text : Array Nat) (q pc pos handed : Nat) (om : Bool) (fr : List Sre.Frame) (wt : Nat) (an : Option Bool) (seen : Sre.Seen) : Sre.M := stM code2 text { pc, pos, handed, om, frames := fr, weight := wt, answer := an, seen, start := q, lastStart := text.size, must := false }
section
variable {text : Array Nat} {q pos handed : Nat} {om : Bool} {fr : List Sre.Frame} {wt : Nat} {seen : Sre.Seen} {n : Nat} {m' : Sre.M}
theorem q_lit {w : Nat} {pc : Nat} (hop : Sre.ops[code2.getD pc 0]? = some .LITERAL) (hw : code2.getD (pc + 1) 0 = w) (hp : Nat.blt pc code2.size = true) (h1 : pos < text.size) (h2 : text.getD pos 0 = w)
    (r : Runs n (Q2 text q (pc + 2) (pos + 1) handed om fr wt none (seen.add (code2.getD pc 0))) m') : Runs (n + 1) (Q2 text q pc pos handed om fr wt none seen) m' :=
  runs_step ((lit_step hop hw hp rfl h1).trans (by rw [if_pos (by exact h2)])) r
theorem q_nolit {w : Nat} {pc : Nat} (hop : Sre.ops[code2.getD pc 0]? = some .LITERAL) (hw : code2.getD (pc + 1) 0 = w) (hp : Nat.blt pc code2.size = true) (h1 : text.size ≤ pos ∨ text.getD pos 0 ≠ w)
    (r : Runs n (Q2 text q pc pos handed om fr wt (some false) (seen.add (code2.getD pc 0))) m') : Runs (n + 1) (Q2 text q pc pos handed om fr wt none seen) m' := by
  by_cases h : text.size ≤ pos
  · exact runs_step (lit_end (w := w) hop hp rfl h) r
  · refine runs_step ((lit_step hop hw hp rfl (Nat.not_le.mp h)).trans ?_) r
    rw [if_neg (by show ¬ text.getD pos 0 = w; rcases h1 with h1 | h1; exact absurd h1 h; exact h1)]
theorem q_jump {w : Nat} {pc : Nat} (hop : Sre.ops[code2.getD pc 0]? = some .JUMP) (hw : code2.getD (pc + 1) 0 = w) (hp : Nat.blt pc code2.size = true)
    (r : Runs n (Q2 text q (pc + 1 + w) pos handed om fr wt none (seen.add (code2.getD pc 0))) m') : Runs (n + 1) (Q2 text q pc pos handed om fr wt none seen) m' :=
  runs_step (jump_step (.inl hop) hw hp rfl) r
theorem q_succ {pc : Nat} (hop : Sre.ops[code2.getD pc 0]? = some .SUCCESS) (hp : Nat.blt pc code2.size = true)
    (r : Runs n (Q2 text q pc pos pos om fr wt (some true) (seen.add (code2.getD pc 0))) m') : Runs (n + 1) (Q2 text q pc pos handed om fr wt none seen) m' :=
  runs_step (succ_step hop hp rfl (.inl rfl)) r
theorem q_back {pc pos' a : Nat} {om' : Bool} {pc₀ : Nat} (hw : code2.getD pc 0 = a) (hz : Nat.beq (code2.getD (pc + a) 0) 0 = false) (hwt : Nat.blt wt 1000 = true)
    (r : Runs n (Q2 text q (pc + a + 1) pos' pos' om' (fB (pc + a) pos' om' :: fr) (wt - 1 + 1) none seen) m') : Runs (n + 1) (Q2 text q pc₀ pos handed om (fB pc pos' om' :: fr) wt (some false) seen) m' := by
  subst hw
  exact runs_step ((res_step rfl rfl).trans (res_branch_no hz (Nat.ble_eq_true_of_le (by have := Nat.le_of_ble_eq_true hwt; show wt - 1 + 1 ≤ 1000; omega)))) r
theorem q_yes {pc pos' pc' pos'' pc₀ : Nat} {om' om'' : Bool} (hf : fr = [fB pc' pos'' om'', fS pc pos' om']) :
    ∃ m', Runs 3 (Q2 text q pc₀ pos handed om fr wt (some true) seen) m' ∧ m'.outcome = some .matched ∧ m'.start = q ∧ m'.handed = handed := by
  subst hf
  exact runs_yes2 rfl rfl
end
theorem eol_match {text : Array Nat} {q e : Nat} {first : Bool} {seen : Sre.Seen} (h : EolAt text q e) :
    ∃ n m', n ≤ 40 ∧ Runs n (Q2 text q 10 q q first [fS 10 q first] 1 none seen) m' ∧ m'.outcome = some .matched ∧ m'.start = q ∧ m'.handed = e := by
  obtain ⟨hq, h⟩ := h
  rcases h with ⟨h1, rfl⟩ | ⟨h1, h2, h3, rfl⟩ | ⟨h1, h2, rfl⟩
  · -- a feed
    obtain ⟨m', r, a, b, c⟩ := q_yes (text := text) (q := q) (pos := q + 1) (handed := q + 1) (om := first) (wt := 2) (pc₀ := 35) (seen := (((((seen.add 7).add 16).add 16).add 15)).add 1) (fr := [fB 18 q first, fS 10 q first]) rfl
    refine ⟨_, m', ?_, runs_step (branch_step rfl rfl rfl rfl rfl) (q_nolit (w := 13) rfl rfl rfl (.inr (by rw [h1]; decide)) (q_back (a := 7) rfl rfl rfl (q_lit (w := 10) rfl rfl rfl hq h1 (q_jump (w := 13) rfl rfl rfl (q_succ rfl rfl r))))), a, b, c⟩
    decide
  · obtain ⟨m', r, a, b, c⟩ := q_yes (text := text) (q := q) (pos := q + 2) (handed := q + 2) (om := first) (wt := 2) (pc₀ := 35) (seen := (((((seen.add 7).add 16).add 16).add 15)).add 1) (fr := [fB 11 q first, fS 10 q first]) rfl
    refine ⟨_, m', ?_, runs_step (branch_step rfl rfl rfl rfl rfl) (q_lit (w := 13) rfl rfl rfl hq h1 (q_lit (w := 10) rfl rfl rfl h2 h3 (q_jump (w := 18) rfl rfl rfl (q_succ rfl rfl r)))), a, b, c⟩
    decide
  · have h3 : text.size ≤ q ∨ text.getD q 0 ≠ 10 := .inr (by rw [h1]; decide)
    obtain ⟨m', r, a, b, c⟩ := q_yes (text := text) (q := q) (pos := q + 1) (handed := q + 1) (om := first) (wt := 2) (pc₀ := 35) (seen := ((((((((((seen.add 7).add 16).add 16).add 16).add 16).add 5).add 16).add 15)).add 1)) (fr := [fB 23 q first, fS 10 q first]) rfl
    refine ⟨_, m', ?_, runs_step (branch_step rfl rfl rfl rfl rfl) (q_lit (w := 13) rfl rfl rfl hq h1 (q_nolit (w := 10) rfl rfl rfl h2 (q_back (a := 7) rfl rfl rfl (q_nolit (w := 10) rfl rfl rfl h3 (q_back (a := 5) rfl rfl rfl (q_lit (w := 13) rfl rfl rfl hq h1 (runs_step (assertNot_step rfl rfl rfl rfl rfl) (q_nolit (w := 10) rfl rfl rfl h2 (runs_step ((res_step rfl rfl).trans res_look_no) (q_jump (w := 2) rfl rfl rfl (q_succ rfl rfl r))))))))))), a, b, c⟩
    decide

/-! ## Searches -/
theorem inSet_is (c : Nat) (seen : Sre.Seen) : Sre.inSet code2 c code2.size 5 true seen = if (c == 10) = true then .ok (true, seen.add 16) else if (c == 13) = true then .ok (true, (seen.add 16).add 16) else .ok (false, ((seen.add 16).add 16).add 0) := rfl
noncomputable def Eol (c : Nat) : Prop := c = 10 ∨ c = 13
theorem inSet_yes {c : Nat} {seen : Sre.Seen} (h : Eol c) : ∃ seen', Sre.inSet code2 c code2.size 5 true seen = .ok (true, seen') := by
  rw [inSet_is]
  rcases h with rfl | rfl
  · exact ⟨_, rfl⟩
  · exact ⟨_, rfl⟩
theorem inSet_no {c : Nat} {seen : Sre.Seen} (h : ¬ Eol c) : ∃ seen', Sre.inSet code2 c code2.size 5 true seen = .ok (false, seen') := by
  rw [inSet_is, if_neg (by rw [beq_iff_eq]; exact fun e => h (.inl e)), if_neg (by rw [beq_iff_eq]; exact fun e => h (.inr e))]
  exact ⟨_, rfl⟩
theorem adm_some {text : Array Nat} {p : Pa} {q : Nat} (hq : q < text.size) (hy : Eol (text.getD q 0)) : ∀ (k s fuel : Nat) (seen : Sre.Seen), s + k = q → k < fuel → (∀ i, s ≤ i → i < q → ¬ Eol (text.getD i 0)) →
    ∃ seen', (stM code2 text p).admitted fuel s seen = .ok (some q, seen') := by
  intro k
  induction k with
  | zero =>
    intro s fuel seen hs hf _
    cases fuel with
    | zero => exact absurd hf (Nat.lt_irrefl _)
    | succ fuel =>
      have hsq : s = q := hs
      subst hsq
      obtain ⟨seen', e⟩ := inSet_yes (seen := seen) hy
      refine ⟨seen', ?_⟩
      show (if s ≥ text.size then _ else match Sre.inSet code2 (text.getD s 0) code2.size 5 true seen with | .ok (true, seen) => _ | .ok (false, seen) => _ | .error why => _) = _
      rw [if_neg (Nat.not_le.mpr hq), e]
  | succ k ih =>
    intro s fuel seen hs hf hno
    cases fuel with
    | zero => exact absurd hf (Nat.not_lt_zero _)
    | succ fuel =>
      obtain ⟨seen', e⟩ := inSet_no (seen := seen) (hno s (Nat.le_refl _) (by omega))
      obtain ⟨seen'', e'⟩ := ih (s + 1) fuel seen' (by omega) (by omega) fun i h1 h2 => hno i (by omega) h2
      refine ⟨seen'', ?_⟩
      show (if s ≥ text.size then _ else match Sre.inSet code2 (text.getD s 0) code2.size 5 true seen with | .ok (true, seen) => _ | .ok (false, seen) => _ | .error why => _) = _
      rw [if_neg (by omega), e]
      exact e'
theorem adm_none {text : Array Nat} {p : Pa} : ∀ (k s fuel : Nat) (seen : Sre.Seen), s + k = text.size → k < fuel → (∀ i, s ≤ i → i < text.size → ¬ Eol (text.getD i 0)) →
    ∃ seen', (stM code2 text p).admitted fuel s seen = .ok (none, seen') := by
  intro k
  induction k with
  | zero =>
    intro s fuel seen hs hf _
    cases fuel with
    | zero => exact absurd hf (Nat.lt_irrefl _)
    | succ fuel =>
      refine ⟨seen, ?_⟩
      show (if s ≥ text.size then _ else _) = _
      rw [if_pos (by omega)]
  | succ k ih =>
    intro s fuel seen hs hf hno
    cases fuel with
    | zero => exact absurd hf (Nat.not_lt_zero _)
    | succ fuel =>
      obtain ⟨seen', e⟩ := inSet_no (seen := seen) (hno s (Nat.le_refl _) (by omega))
      obtain ⟨seen'', e'⟩ := ih (s + 1) fuel seen' (by omega) (by omega) fun i h1 h2 => hno i (by omega) h2
      refine ⟨seen'', ?_⟩
      show (if s ≥ text.size then _ else match Sre.inSet code2 (text.getD s 0) code2.size 5 true seen with | .ok (true, seen) => _ | .ok (false, seen) => _ | .error why => _) = _
      rw [if_neg (by omega), e]
      exact e'
/-- a machine comes to its end -/
noncomputable def Comes (m m' : Sre.M) (b : Nat) : Prop := ∃ n, n ≤ b ∧ Runs n m m'
theorem search2_hit {text : Array Nat} {s q e : Nat} {must : Bool} (hs : s ≤ q) (hno : ∀ i, s ≤ i → i < q → ¬ Eol (text.getD i 0)) (h : EolAt text q e) :
    ∃ m', Comes (Sre.forSearch code2 text 0 s text.size must) m' 100 ∧ m'.outcome = some .matched ∧ m'.start = q ∧ m'.handed = e := by
  have hq := h.1
  have hy : Eol (text.getD q 0) := by
    rcases h.2 with ⟨a, _⟩ | ⟨a, _⟩ | ⟨a, _⟩
    · exact .inl a
    · exact .inr a
    · exact .inr a
  obtain ⟨seen', e1⟩ := adm_some (p := { pc := 10, pos := s, handed := s, om := true, frames := [], weight := 0, answer := none, seen := ({} : Sre.Seen).add 14, start := s, lastStart := text.size, must }) hq hy (q - s) s (text.size + 1 - s) (({} : Sre.Seen).add 14) (by omega) (by omega) hno
  obtain ⟨n, m', hn, r, a, b, c⟩ := eol_match (first := true) (seen := seen') h
  refine ⟨m', ⟨n, by omega, ?_⟩, a, b, c⟩
  have e2 : Sre.forSearch code2 text 0 s text.size must = Q2 text q 10 q q true [fS 10 q true] 1 none seen' := by
    show (if (decide (s > text.size) || decide (text.size - s < 1)) = true then _ else (stM code2 text { pc := 10, pos := s, handed := s, om := true, frames := [], weight := 0, answer := none, seen := ({} : Sre.Seen).add 14, start := s, lastStart := text.size, must }).attemptFrom s true) = _
    rw [if_neg (by rw [decide_eq_false (by omega), decide_eq_false (by omega)]; exact Bool.false_ne_true)]
    show (match Sre.M.admitted _ (text.size + 1 - s) s (({} : Sre.Seen).add 14) with | .ok (some s, seen) => _ | .ok (none, seen) => _ | .error why => _) = _
    rw [e1]
    exact attemptAt_is (code := code2) (text := text) (p := { pc := 10, pos := s, handed := s, om := true, frames := [], weight := 0, answer := none, seen := seen', start := s, lastStart := text.size, must := false }) rfl
  rw [e2]
  exact r
theorem ends_no {code text : Array Nat} {p : Pa} {m : Sre.M} {b : Nat} (e : m = stM code text p) (ha : p.answer = some false) (hf : p.frames = []) (hb : 1 ≤ b) : ∃ m', Comes m m' b ∧ m'.outcome = some .failed := by
  subst e
  exact ⟨_, ⟨1, hb, runs_end ha hf⟩, rfl⟩
theorem search2_none {text : Array Nat} {s : Nat} {must : Bool} (hs : s ≤ text.size) (hno : ∀ i, s ≤ i → i < text.size → ¬ Eol (text.getD i 0)) :
    ∃ m', Comes (Sre.forSearch code2 text 0 s text.size must) m' 100 ∧ m'.outcome = some .failed := by
  by_cases hz : s = text.size
  · refine ends_no (code := code2) (text := text) (p := { pc := 10, pos := s, handed := s, om := true, frames := [], weight := 0, answer := some false, seen := ({} : Sre.Seen).add 14, start := s, lastStart := 0, must }) ?_ rfl rfl (by omega)
    show (if (decide (s > text.size) || decide (text.size - s < 1)) = true then _ else _) = _
    rw [if_pos (by rw [decide_eq_true (show text.size - s < 1 by omega), Bool.or_true])]
    rfl
  · obtain ⟨seen', e1⟩ := adm_none (p := { pc := 10, pos := s, handed := s, om := true, frames := [], weight := 0, answer := none, seen := ({} : Sre.Seen).add 14, start := s, lastStart := text.size, must }) (text.size - s) s (text.size + 1 - s) (({} : Sre.Seen).add 14) (by omega) (by omega) hno
    refine ends_no (code := code2) (text := text) (p := { pc := 10, pos := s, handed := s, om := true, frames := [], weight := 0, answer := some false, seen := seen', start := s, lastStart := text.size, must }) ?_ rfl rfl (by omega)
    show (if (decide (s > text.size) || decide (text.size - s < 1)) = true then _ else (stM code2 text { pc := 10, pos := s, handed := s, om := true, frames := [], weight := 0, answer := none, seen := ({} : Sre.Seen).add 14, start := s, lastStart := text.size, must }).attemptFrom s true) = _
    rw [if_neg (by rw [decide_eq_false (by omega), decide_eq_false (by omega)]; exact Bool.false_ne_true)]
    show (match Sre.M.admitted _ (text.size + 1 - s) s (({} : Sre.Seen).add 14) with | .ok (some s, seen) => _ | .ok (none, seen) => _ | .error why => _) = _
    rw [e1]
    rfl
/-! ### The dots at a row's start -/
noncomputable def Dot (text : Array Nat) (i : Nat) : Prop := i < text.size ∧ (i = 0 ∨ text.getD (i - 1) 0 = 10) ∧ text.getD i 0 = 46
noncomputable abbrev Q1 (text : Array Nat) (s : Nat) (om must : Bool) (seen : Sre.Seen) : Sre.M := stM code1 text { pc := 5, pos := s, handed := s, om, frames := [fS 5 s om], weight := 1, answer := none, seen, start := s, lastStart := text.size, must }
theorem dot_hit {text : Array Nat} {s : Nat} {om must : Bool} {seen : Sre.Seen} (h : Dot text s) : ∃ m', Comes (Q1 text s om must seen) m' 5 ∧ m'.outcome = some .matched ∧ m'.start = s ∧ m'.handed = s + 1 := by
  obtain ⟨h1, h2, h3⟩ := h
  obtain ⟨m', r, a, b, c⟩ := runs_yes (code := code1) (text := text) (p := { pc := 9, pos := s + 1, handed := s + 1, om, frames := [fS 5 s om], weight := 1, answer := some true, seen := (((seen.add 6).add 44).add 16).add 1, start := s, lastStart := text.size, must }) (pc := 5) (pos := s) (om := om) rfl rfl
  refine ⟨m', ⟨5, Nat.le_refl _, runs_step ((at_step (yes := true) rfl rfl rfl ?_).trans (by rw [if_pos rfl])) (runs_step ((lit_step (w := 46) rfl rfl rfl rfl h1).trans (by rw [if_pos (by exact h3)])) (runs_step (succ_step rfl rfl rfl (.inr (Nat.succ_ne_self _))) r))⟩, a, b, c⟩
  show Except.ok (s == 0 || text.getD (s - 1) 0 == 10) = _
  congr 1
  rw [Bool.or_eq_true, beq_iff_eq, beq_iff_eq]
  exact h2
/-- no dot at a row's start here: the machine says no -/
theorem dot_miss {text : Array Nat} {s : Nat} {om must : Bool} {seen : Sre.Seen} (h : ¬ Dot text s) : ∃ n p, n ≤ 2 ∧ (∀ k m', Runs k (stM code1 text p) m' → Runs (n + k) (Q1 text s om must seen) m') ∧ p.answer = some false ∧ p.frames = [fS 5 s om] ∧ p.weight = 1 ∧ p.lastStart = text.size ∧ p.pc = p.pc := by
  by_cases h2 : s = 0 ∨ text.getD (s - 1) 0 = 10
  · have hi : (stM code1 text { pc := 5, pos := s, handed := s, om, frames := [fS 5 s om], weight := 1, answer := none, seen, start := s, lastStart := text.size, must }).isAt (code1.getD (5 + 1) 0) = .ok true := by
      show Except.ok (s == 0 || text.getD (s - 1) 0 == 10) = _
      congr 1
      rw [Bool.or_eq_true, beq_iff_eq, beq_iff_eq]
      exact h2
    by_cases h1 : text.size ≤ s
    · exact ⟨2, { pc := 7, pos := s, handed := s, om, frames := [fS 5 s om], weight := 1, answer := some false, seen := ((seen.add 6).add 44).add 16, start := s, lastStart := text.size, must }, Nat.le_refl _, fun k m' r => by
        rw [Nat.add_comm]
        exact runs_step ((at_step (yes := true) rfl rfl rfl hi).trans (by rw [if_pos rfl])) (runs_step (lit_end (w := 46) rfl rfl rfl h1) r), rfl, rfl, rfl, rfl, rfl⟩
    · exact ⟨2, { pc := 7, pos := s, handed := s, om, frames := [fS 5 s om], weight := 1, answer := some false, seen := ((seen.add 6).add 44).add 16, start := s, lastStart := text.size, must }, Nat.le_refl _, fun k m' r => by
        rw [Nat.add_comm]
        refine runs_step ((at_step (yes := true) rfl rfl rfl hi).trans (by rw [if_pos rfl])) (runs_step ((lit_step (w := 46) rfl rfl rfl rfl (Nat.not_le.mp h1)).trans (by rw [if_neg (by exact fun e => h ⟨Nat.not_le.mp h1, h2, e⟩)]; rfl)) r), rfl, rfl, rfl, rfl, rfl⟩
  · refine ⟨1, { pc := 5, pos := s, handed := s, om, frames := [fS 5 s om], weight := 1, answer := some false, seen := ((seen.add 6).add 44), start := s, lastStart := text.size, must }, by omega, fun k m' r => ?_, rfl, rfl, rfl, rfl, rfl⟩
    rw [Nat.add_comm]
    refine runs_step ((at_step (yes := false) rfl rfl rfl ?_).trans (by rw [if_neg Bool.false_ne_true]; rfl)) r
    show Except.ok (s == 0 || text.getD (s - 1) 0 == 10) = _
    congr 1
    rw [Bool.eq_false_iff, ne_eq, Bool.or_eq_true, beq_iff_eq, beq_iff_eq]
    exact h2
theorem dot_next {text : Array Nat} {s : Nat} {om must : Bool} {seen : Sre.Seen} (h : ¬ Dot text s) (hs : s < text.size) : ∃ n seen', n ≤ 3 ∧ ∀ k m', Runs k (Q1 text (s + 1) false false seen') m' → Runs (n + k) (Q1 text s om must seen) m' := by
  obtain ⟨n, p, hn, hr, ha, hf, hw, hl, _⟩ := dot_miss (om := om) (must := must) (seen := seen) h
  refine ⟨n + 1, p.seen, by omega, fun k m' r => ?_⟩
  rw [Nat.add_assoc]
  refine hr _ _ ?_
  rw [Nat.add_comm]
  obtain ⟨pc, pos, handed, om', frames, weight, answer, seen', start, lastStart, must'⟩ := p
  dsimp only at ha hf hw hl
  subst ha hf hw hl
  exact runs_step ((res_step rfl rfl).trans (res_start_plain hs rfl rfl)) r
theorem dots_hit {text : Array Nat} {t : Nat} (h : Dot text t) : ∀ (k s : Nat) (om must : Bool) (seen : Sre.Seen), s + k = t → (∀ i, s ≤ i → i < t → ¬ Dot text i) → ∃ m', Comes (Q1 text s om must seen) m' (3 * k + 5) ∧ m'.outcome = some .matched ∧ m'.start = t ∧ m'.handed = t + 1 := by
  intro k
  induction k with
  | zero => intro s om must seen hs _; have : s = t := hs; subst this; exact dot_hit h
  | succ k ih =>
    intro s om must seen hs hno
    obtain ⟨n, seen', hn, hr⟩ := dot_next (om := om) (must := must) (seen := seen) (hno s (Nat.le_refl _) (by omega)) (by have := h.1; omega)
    obtain ⟨m', ⟨n', hn', r⟩, x⟩ := ih (s + 1) false false seen' (by omega) fun i h1 h2 => hno i (by omega) h2
    exact ⟨m', ⟨n + n', by omega, hr _ _ r⟩, x⟩
theorem dots_none {text : Array Nat} : ∀ (k s : Nat) (om must : Bool) (seen : Sre.Seen), s + k = text.size → (∀ i, s ≤ i → ¬ Dot text i) → ∃ m', Comes (Q1 text s om must seen) m' (3 * k + 5) ∧ m'.outcome = some .failed := by
  intro k
  induction k with
  | zero =>
    intro s om must seen hs hno
    obtain ⟨n, p, hn, hr, ha, hf, hw, hl, _⟩ := dot_miss (om := om) (must := must) (seen := seen) (hno s (Nat.le_refl _))
    obtain ⟨pc, pos, handed, om', frames, weight, answer, seen', start, lastStart, must'⟩ := p
    dsimp only at ha hf hw hl
    subst ha hf hw hl
    refine ⟨_, ⟨n + 2, by omega, hr _ _ (runs_step ((res_step rfl rfl).trans (res_start_end (by show ¬ s < text.size; omega))) (runs_end rfl rfl))⟩, rfl⟩
  | succ k ih =>
    intro s om must seen hs hno
    obtain ⟨n, seen', hn, hr⟩ := dot_next (om := om) (must := must) (seen := seen) (hno s (Nat.le_refl _)) (by omega)
    obtain ⟨m', ⟨n', hn', r⟩, x⟩ := ih (s + 1) false false seen' (by omega) fun i h1 => hno i (by omega)
    exact ⟨m', ⟨n + n', by omega, hr _ _ r⟩, x⟩
theorem search1_start {text : Array Nat} {s : Nat} {must : Bool} (hs : s < text.size) : Sre.forSearch code1 text 0 s text.size must = Q1 text s true must (({} : Sre.Seen).add 14) := by
  show (if (decide (s > text.size) || decide (text.size - s < 1)) = true then _ else (stM code1 text { pc := 5, pos := s, handed := s, om := true, frames := [], weight := 0, answer := none, seen := ({} : Sre.Seen).add 14, start := s, lastStart := text.size, must }).attemptAt s true) = _
  rw [if_neg (by rw [decide_eq_false (by omega), decide_eq_false (by omega)]; exact Bool.false_ne_true)]
  exact attemptAt_is rfl
theorem search1_hit {text : Array Nat} {s t : Nat} {must : Bool} (hs : s ≤ t) (hno : ∀ i, s ≤ i → i < t → ¬ Dot text i) (h : Dot text t) :
    ∃ m', Comes (Sre.forSearch code1 text 0 s text.size must) m' (3 * text.size + 5) ∧ m'.outcome = some .matched ∧ m'.start = t ∧ m'.handed = t + 1 := by
  rw [search1_start (by have := h.1; omega)]
  obtain ⟨m', ⟨n, hn, r⟩, x⟩ := dots_hit h (t - s) s true must (({} : Sre.Seen).add 14) (by omega) hno
  exact ⟨m', ⟨n, by have := h.1; omega, r⟩, x⟩
theorem search1_none {text : Array Nat} {s : Nat} {must : Bool} (hs : s ≤ text.size) (hno : ∀ i, s ≤ i → ¬ Dot text i) :
    ∃ m', Comes (Sre.forSearch code1 text 0 s text.size must) m' (3 * text.size + 5) ∧ m'.outcome = some .failed := by
  by_cases hz : s = text.size
  · refine ends_no (code := code1) (text := text) (p := { pc := 5, pos := s, handed := s, om := true, frames := [], weight := 0, answer := some false, seen := ({} : Sre.Seen).add 14, start := s, lastStart := 0, must }) ?_ rfl rfl (by omega)
    show (if (decide (s > text.size) || decide (text.size - s < 1)) = true then _ else _) = _
    rw [if_pos (by rw [decide_eq_true (show text.size - s < 1 by omega), Bool.or_true])]
    rfl
  · rw [search1_start (by omega)]
    obtain ⟨m', ⟨n, hn, r⟩, x⟩ := dots_none (text.size - s) s true must (({} : Sre.Seen).add 14) (by omega) hno
    exact ⟨m', ⟨n, by omega, r⟩, x⟩
end Mine
end
/-! ## Sb -/
section
open PySem PySem.W PyProof.Rows
set_option Elab.async false
set_option linter.unusedVariables false
set_option maxRecDepth 100000
set_option maxHeartbeats 2000000
namespace Mine
open PySem.Builtin.Re in
theorem wp_drive {M : Model} {A : Around} {E : Value → Shared → Prop} {Q : Sre.M → Shared → Prop} {s : Shared} {m' : Sre.M} (he : m'.outcome.isSome = true) (hQ : Q m' s) : ∀ (turns n : Nat) (m : Sre.M), Runs n m m' → n ≤ 4 * turns → 1 ≤ turns →
    wpAny M A (reDrive turns m) Q E s := by
  have idem : ∀ k (m : Sre.M), m.outcome.isSome = true → m.runFor k = m := by
    intro k m h
    cases k with
    | zero => rfl
    | succ k => show (if m.outcome.isSome = true then m else _) = m; rw [if_pos h]
  intro turns
  induction turns with
  | zero => intro n m _ _ h; exact absurd h (by omega)
  | succ turns ih =>
    intro n m r hn _
    show wpAny M A (if (m.runFor 4).outcome.isSome = true then pure (m.runFor 4) else (do rule "sre.turn"; reDrive turns (m.runFor 4))) Q E s
    have r' : m.runFor n = m' := r
    by_cases hd : n ≤ 4
    · have e : m.runFor 4 = m' := by
        have := runFor_add n (4 - n) m
        rw [show n + (4 - n) = 4 by omega, r', idem _ _ he] at this
        exact this
      rw [e, if_pos he]
      exact wpAny_pure hQ
    · have e : (m.runFor 4).runFor (n - 4) = m' := by
        have := runFor_add 4 (n - 4) m
        rw [show 4 + (n - 4) = n by omega, r'] at this
        exact this.symm
      by_cases hs : (m.runFor 4).outcome.isSome = true
      · rw [if_pos hs]
        rw [idem _ _ hs] at e
        rw [e]
        exact wpAny_pure hQ
      · rw [if_neg hs]
        exact wpAny_bind (wpAny_rule (ih (n - 4) _ e (by omega) (by omega)))
open PySem.Builtin.Re in
theorem wp_next {M : Model} {A : Around} {E : Value → Shared → Prop} {Q : Option Sre.M → Shared → Prop} {s : Shared} {t : ReTarget} {start : Nat} {must : Bool} {m' : Sre.M} {b : Nat} {r : Option Sre.M}
    (hc : Comes (Sre.forSearch t.code t.text t.groups start t.lim must) m' b) (hb : b ≤ 2 ^ 60) (ho : (m'.outcome = some .matched ∧ r = some m') ∨ (m'.outcome = some .failed ∧ r = none)) (hQ : Q r s) :
    wpAny M A (reNextFound t start must) Q E s := by
  obtain ⟨n, hn, hr⟩ := hc
  have he : m'.outcome.isSome = true := by rcases ho with ⟨h, _⟩ | ⟨h, _⟩ <;> rw [h] <;> rfl
  unfold reNextFound reRunToEnd
  refine wpAny_bind (wp_drive he ?_ (2 ^ 64) n _ hr (by omega) (by omega))
  refine wpAny_bind (wpAny_forIn_list _ (fun _ _ s' => s' = s) _ (fun x rest b s' h => ?_) (fun b s' h => ?_) _ _ rfl)
  · subst h
    by_cases q : m'.seen.has x = true
    · simp only [q, if_true]
      exact wpAny_bind (wpAny_rule (wpAny_pure rfl))
    · simp only [q]
      exact wpAny_pure rfl
  · subst h
    rcases ho with ⟨h, rfl⟩ | ⟨h, rfl⟩
    · rw [h]; exact wpAny_pure hQ
    · rw [h]; exact wpAny_pure hQ
theorem entry_subloop : entryFor table "re.Pattern.sub.loop" = some Builtin.«re.Pattern.sub.loop» := entryFor_of_fast (by kernel_rfl!)
theorem past_push {c : Value} {d : Option Addr} {vs : Array Value} {n : Nat} {sl : Array (Option Value)} {v : Value} (hs : vs.size + 1 ≤ 100000) : (Obj.mapSeq (fun x => x.push v) ⟨c, d, .seq vs n, sl⟩).data.pastItsLine = none := by
  show (if (vs.push v).size > sizeLine + 1 then some _ else none) = none
  rw [if_neg (by rw [Array.size_push, PySem.sizeLine_eq]; omega)]
noncomputable def oList (vs : Array Value) (cap : Nat) : Obj := ⟨.type "list", none, .seq vs cap, #[]⟩
noncomputable def subArgs (pt : Addr) (x y : Str) (t4 t5 : Tok) (n dn : Int) (must : Bool) (li : Addr) : Args := ⟨[.ref pt, .str x t4, .str y t5, .int 0 0, .int 0 0, .int n 0, .int dn 0, .int dn 0, .bool must, .ref li, .bool false], []⟩
noncomputable def cutS (x : Str) (a b : Nat) : Str := ⟨x.cps.extract a b⟩
open PySem.Builtin.Re in
theorem sub_hit {C : Cx} {A : Around} {R : Post Result} {T : Nat → Option Obj} {h₀ h : Heap} {fp : List Addr} {g : Gs} {tk : Nat} {pt cd li : Addr} {pat x y : Str} {t0 t1 t2 t3 t4 t5 : Tok} {f0 : Int} {items : Array Value} {n dn : Nat} {must : Bool} {m' : Sre.M} {b : Nat} {vs : Array Value} {cap : Nat} {acc : List Str}
    (hp : T pt = some ⟨.type "re.Pattern", none, .fields #[.str pat t0, .int f0 t1, .int 0 t2, .none, .none, .ref cd, .int 0 t3], #[]⟩)
    (hcd : T cd = some ⟨.type "tuple", none, .seq items 0, #[]⟩)
    (hc : Comes (Sre.forSearch (Array.map (fun x => x.toNat) (Array.map PySem.Builtin.Re.reRawOf items)) x.cps 0 dn x.cps.size must) m' b) (hb : b ≤ 2 ^ 60) (ho : m'.outcome = some .matched)
    (S : St T h₀ h fp [⟨li, true, oList vs cap⟩]) (hv : vs.toList.map vv = acc.map VV.str) (hs : acc.length ≤ 1000) (hx : x.cps.size ≤ 100000)
    (k : ∀ h' tk' vs' cap', St T h₀ h' fp [⟨li, true, oList vs' cap'⟩] → vs'.toList.map vv = (acc ++ (if dn < m'.start then [cutS x dn m'.start] else []) ++ [y]).map VV.str →
      CodeP C A (.builtin "re.Pattern.sub.loop" (subArgs pt x y t4 t5 ((n : Int) + 1) m'.handed (m'.handed == m'.start) li)) R h' g tk') :
    CodeP C A (.builtin "re.Pattern.sub.loop" (subArgs pt x y t4 t5 n dn must li)) R h g tk := by
  have hp' := S.topGet hp
  have hcd' := S.topGet hcd
  have hli : h.get? li = some ⟨.type "list", none, .seq vs cap, #[]⟩ := S.at (i := 0) rfl
  have hvs : vs.size ≤ 1000 := by
    have := congrArg List.length hv
    rw [List.length_map, List.length_map, Array.length_toList] at this
    omega
  have hN : ∀ {Q : Option Sre.M → Shared → Prop} {E : Value → Shared → Prop}, Q (some m') ⟨h, g, C.d, tk, C.os⟩ → wpAny C.M A.in1 (reNextFound { pattern := Value.ref pt, string := Value.str x t4, code := Array.map (fun x => x.toNat) (Array.map PySem.Builtin.Re.reRawOf ((some items).getD #[])), text := x.cps, kind := 0, groups := PySem.Builtin.Re.reRawNat (#[Value.str pat t0, Value.int f0 t1, Value.int 0 t2, Value.none, Value.none, Value.ref cd, Value.int 0 t3].getD 2 Value.none), pos := 0, lim := x.cps.size } (dn : Int).toNat must) Q E ⟨h, g, C.d, tk, C.os⟩ := fun {Q E} hq =>
    wp_next (t := { pattern := Value.ref pt, string := Value.str x t4, code := Array.map (fun x => x.toNat) (Array.map PySem.Builtin.Re.reRawOf ((some items).getD #[])), text := x.cps, kind := 0, groups := PySem.Builtin.Re.reRawNat (#[Value.str pat t0, Value.int f0 t1, Value.int 0 t2, Value.none, Value.none, Value.ref cd, Value.int 0 t3].getD 2 Value.none), pos := 0, lim := x.cps.size }) (start := dn) hc hb (.inl ⟨ho, rfl⟩) hq
  refine ⟨codeAny_builtin entry_subloop ?_⟩
  rw [Around.under_plainId (by decide +kernel)]
  unfold subArgs
  wp_walk using hN, wpAny_load' hp', wpAny_load' hcd'
  have hz : ((dn : Int).toNat < m'.start) = (dn < m'.start) := by simp
  by_cases hlt : dn < m'.start
  · rw [if_pos (by rw [hz]; exact hlt)]
    rw [if_pos hlt] at k
    refine wpAny_bind ?_
    refine (wpAny_mkStr' ?_ ?_ : wpAny _ _ (mkStr ⟨x.cps.extract dn m'.start⟩) _ _ _)
    rotate_left
    · show (x.cps.extract dn m'.start).size ≤ _
      rw [PySem.sizeLine_eq, Array.size_extract]; omega
    wp_walk using wpAny_load' hli
    rw [past_push (by omega)]
    obtain ⟨cap2, hc2⟩ : ∃ cap2, Obj.mapSeq (fun z => z.push (.str ⟨x.cps.extract dn m'.start⟩ tk)) (oList vs cap) = oList (vs.push (.str ⟨x.cps.extract dn m'.start⟩ tk)) cap2 := ⟨_, rfl⟩
    have S2 : St T h₀ (h.update li (Obj.mapSeq fun z => z.push (.str ⟨x.cps.extract dn m'.start⟩ tk))) fp [⟨li, true, oList (vs.push (.str ⟨x.cps.extract dn m'.start⟩ tk)) cap2⟩] := by
      rw [← hc2]
      exact S.upd (f := Obj.mapSeq fun z => z.push (.str ⟨x.cps.extract dn m'.start⟩ tk)) (i := 0) rfl rfl rfl
    have hli2 : (h.update li (Obj.mapSeq fun z => z.push (.str ⟨x.cps.extract dn m'.start⟩ tk))).get? li = some ⟨.type "list", none, .seq (vs.push (.str ⟨x.cps.extract dn m'.start⟩ tk)) cap2, #[]⟩ := S2.at (i := 0) rfl
    wp_walk using wpAny_load' hli2
    rw [past_push (by rw [Array.size_push]; omega)]
    have S3 := S2.upd (f := Obj.mapSeq fun z => z.push (.str y t5)) (i := 0) rfl rfl rfl
    wp_walk
    refine ⟨plainId_quiet (by decide +kernel) _, (k _ _ _ _ (show St T h₀ _ fp [⟨li, true, oList ((vs.push (.str ⟨x.cps.extract dn m'.start⟩ tk)).push (.str y t5)) _⟩] from S3) ?_).out⟩
    rw [Array.toList_push, Array.toList_push, List.map_append, List.map_append, hv, List.map_append, List.map_append]
    rfl
  · rw [if_neg (by rw [hz]; exact hlt)]
    rw [if_neg hlt] at k
    have S3 := S.upd (f := Obj.mapSeq fun z => z.push (.str y t5)) (i := 0) rfl rfl rfl
    clear S
    wp_walk using wpAny_load' hli
    rw [past_push (by omega)]
    wp_walk
    refine ⟨plainId_quiet (by decide +kernel) _, (k _ _ _ _ (show St T h₀ _ fp [⟨li, true, oList (vs.push (.str y t5)) _⟩] from S3) ?_).out⟩
    rw [Array.toList_push, List.map_append, hv, List.append_nil, List.map_append]
    rfl
end Mine
end
/-! ## Sb2 -/
section
open PySem PySem.W PyProof.Rows
set_option Elab.async false
set_option linter.unusedVariables false
set_option maxRecDepth 100000
set_option maxHeartbeats 2000000
namespace Mine
theorem strs_of {acc : List Str} : ∀ {vs : List Value}, vs.map vv = acc.map VV.str → ∃ l : List (Str × Tok), vs = strValues l ∧ l.map (·.1) = acc := by
  induction acc with
  | nil => intro vs h; exact ⟨[], by simpa [strValues] using h, rfl⟩
  | cons x acc ih =>
    intro vs h
    cases vs with
    | nil => cases h
    | cons v vs =>
      rw [List.map_cons, List.map_cons] at h
      obtain ⟨t, rfl⟩ := vv_str (List.cons.inj h).1
      obtain ⟨l, rfl, e⟩ := ih (List.cons.inj h).2
      exact ⟨(x, t) :: l, rfl, by rw [List.map_cons, e]⟩
theorem joinOk_of {acc : List Str} (h1 : acc.length ≤ 1001) (h2 : ∀ y ∈ acc, y.length ≤ 1000) : JoinOk ⟨#[]⟩ acc = true := by
  unfold JoinOk
  rw [StrLaws.joinTotal]
  have := StrLaws.sumLen_le acc h2
  show (!decide (_ > sizeLine)) = true
  rw [Bool.not_eq_true', decide_eq_false_iff_not, PySem.sizeLine_eq]
  have e : (⟨#[]⟩ : Str).length = 0 := rfl
  rw [e]
  have : acc.length * 1000 ≤ 1001 * 1000 := Nat.mul_le_mul_right _ h1
  omega
theorem join_call {prog : Program} {w : World} {A : Around} {R : Result → Shared → Prop} {s : Shared} {x : Str} {t : Tok} {D : Addr} {l : List (Str × Tok)} {texts : List Str} (hl : s.heap.IsList D (strValues l).toArray) (ht : l.map (·.1) = texts) (hok : JoinOk x texts = true)
    (hq : ∀ t' k, R (.ok (.ret (.str (Txt.join x texts) t'))) { s with toks := k }) : codeAny (model prog w) A (.call (.builtin "str.join") ⟨[.str x t, .ref D], []⟩) R s := by
  subst ht
  unfold JoinOk at hok
  rw [Bool.not_eq_true'] at hok
  exact codeAny_call_builtin F.slot_str_join.plain F.entry_str_join (F.slot_str_join.check _ _ _ _ _ _ _ _ (typeIs_str _ _ _) (F.args_str_join_2 _ _) (meets_str_join_list x t D l hok prog w A R s ⟨hl, post_join l ⟨joinFit_length hok, hq⟩⟩))
open PySem.Builtin.Re in
theorem sub_end {C : Cx} {A : Around} {R : Post Result} {T : Nat → Option Obj} {h₀ h : Heap} {fp : List Addr} {g : Gs} {tk : Nat} {pt cd li : Addr} {pat x y : Str} {t0 t1 t2 t3 t4 t5 : Tok} {f0 : Int} {items : Array Value} {n dn : Nat} {must : Bool} {m' : Sre.M} {b : Nat} {vs : Array Value} {cap : Nat} {acc : List Str}
    (hp : T pt = some ⟨.type "re.Pattern", none, .fields #[.str pat t0, .int f0 t1, .int 0 t2, .none, .none, .ref cd, .int 0 t3], #[]⟩)
    (hcd : T cd = some ⟨.type "tuple", none, .seq items 0, #[]⟩)
    (hc : Comes (Sre.forSearch (Array.map (fun x => x.toNat) (Array.map PySem.Builtin.Re.reRawOf items)) x.cps 0 dn x.cps.size must) m' b) (hb : b ≤ 2 ^ 60) (ho : m'.outcome = some .failed)
    (S : St T h₀ h fp [⟨li, true, oList vs cap⟩]) (hv : vs.toList.map vv = acc.map VV.str) (hs : acc.length ≤ 1000) (hx : x.cps.size ≤ 1000) (hy : ∀ y ∈ acc, y.length ≤ 1000) (hne : acc ≠ [])
    (k : ∀ h' tk' vs' cap' t', St T h₀ h' fp [⟨li, true, oList vs' cap'⟩] → R (.ok (.ret (.str (Txt.join ⟨#[]⟩ (acc ++ (if dn < x.cps.size then [cutS x dn x.cps.size] else []))) t'))) h' g tk') :
    CodeP C A (.builtin "re.Pattern.sub.loop" (subArgs pt x y t4 t5 n dn must li)) R h g tk := by
  have hp' := S.topGet hp
  have hcd' := S.topGet hcd
  have hli : h.get? li = some ⟨.type "list", none, .seq vs cap, #[]⟩ := S.at (i := 0) rfl
  have hvs : vs.size = acc.length := by
    have := congrArg List.length hv
    rw [List.length_map, List.length_map, Array.length_toList] at this
    omega
  have hN : ∀ {Q : Option Sre.M → Shared → Prop} {E : Value → Shared → Prop}, Q none ⟨h, g, C.d, tk, C.os⟩ → wpAny C.M A.in1 (reNextFound { pattern := Value.ref pt, string := Value.str x t4, code := Array.map (fun x => x.toNat) (Array.map PySem.Builtin.Re.reRawOf ((some items).getD #[])), text := x.cps, kind := 0, groups := PySem.Builtin.Re.reRawNat (#[Value.str pat t0, Value.int f0 t1, Value.int 0 t2, Value.none, Value.none, Value.ref cd, Value.int 0 t3].getD 2 Value.none), pos := 0, lim := x.cps.size } (dn : Int).toNat must) Q E ⟨h, g, C.d, tk, C.os⟩ := fun {Q E} hq =>
    wp_next (t := { pattern := Value.ref pt, string := Value.str x t4, code := Array.map (fun x => x.toNat) (Array.map PySem.Builtin.Re.reRawOf ((some items).getD #[])), text := x.cps, kind := 0, groups := PySem.Builtin.Re.reRawNat (#[Value.str pat t0, Value.int f0 t1, Value.int 0 t2, Value.none, Value.none, Value.ref cd, Value.int 0 t3].getD 2 Value.none), pos := 0, lim := x.cps.size }) (start := dn) hc hb (.inr ⟨ho, rfl⟩) hq
  refine ⟨codeAny_builtin entry_subloop ?_⟩
  rw [Around.under_plainId (by decide +kernel)]
  unfold subArgs
  wp_walk using hN, wpAny_load' hp', wpAny_load' hcd'
  have hz : ((dn : Int).toNat < x.cps.size) = (dn < x.cps.size) := by simp
  by_cases hlt : dn < x.cps.size
  · rw [if_pos (by rw [hz]; exact hlt)]
    rw [if_pos hlt] at k
    refine wpAny_bind ?_
    refine (wpAny_mkStr' ?_ ?_ : wpAny _ _ (mkStr ⟨x.cps.extract dn x.cps.size⟩) _ _ _)
    rotate_left
    · show (x.cps.extract dn x.cps.size).size ≤ _
      rw [PySem.sizeLine_eq, Array.size_extract]; omega
    wp_walk using wpAny_load' hli
    rw [past_push (by omega)]
    obtain ⟨cap2, hc2⟩ : ∃ cap2, Obj.mapSeq (fun z => z.push (.str ⟨x.cps.extract dn x.cps.size⟩ tk)) (oList vs cap) = oList (vs.push (.str ⟨x.cps.extract dn x.cps.size⟩ tk)) cap2 := ⟨_, rfl⟩
    have S2 : St T h₀ (h.update li (Obj.mapSeq fun z => z.push (.str ⟨x.cps.extract dn x.cps.size⟩ tk))) fp [⟨li, true, oList (vs.push (.str ⟨x.cps.extract dn x.cps.size⟩ tk)) cap2⟩] := by
      rw [← hc2]
      exact S.upd (f := Obj.mapSeq fun z => z.push (.str ⟨x.cps.extract dn x.cps.size⟩ tk)) (i := 0) rfl rfl rfl
    have hli2 : (h.update li (Obj.mapSeq fun z => z.push (.str ⟨x.cps.extract dn x.cps.size⟩ tk))).get? li = some ⟨.type "list", none, .seq (vs.push (.str ⟨x.cps.extract dn x.cps.size⟩ tk)) cap2, #[]⟩ := S2.at (i := 0) rfl
    wp_walk using wpAny_load' hli2
    rw [show x.cps.extract 0 0 = #[] by simp]
    refine (wpAny_mkStr' ?_ ?_ : wpAny _ _ (mkStr ⟨#[]⟩) _ _ _)
    rotate_left
    · exact Nat.zero_le _
    wp_walk using wpAny_load' hli2
    have hv2 : (vs.push (.str ⟨x.cps.extract dn x.cps.size⟩ tk)).toList.map vv = (acc ++ [cutS x dn x.cps.size]).map VV.str := by
      rw [Array.toList_push, List.map_append, hv, List.map_append]; rfl
    obtain ⟨l, e1, e2⟩ := strs_of hv2
    refine join_call (D := li) (l := l) ⟨_, hli2, rfl, cap2, congrArg (Data.seq · cap2) (Array.ext' ?_)⟩ e2 (joinOk_of (by rw [List.length_append]; exact Nat.succ_le_succ hs) ?_) fun t' k' => ?_
    · exact e1
    · intro z hz
      rcases List.mem_append.mp hz with hz | hz
      · exact hy z hz
      · rw [List.mem_singleton.mp hz]
        show (x.cps.extract dn x.cps.size).size ≤ _
        rw [Array.size_extract]; omega
    · wp_walk
      exact ⟨_, _, _, rfl, k _ _ _ _ _ S2⟩
  · rw [if_neg (by rw [hz]; exact hlt)]
    rw [if_neg hlt, List.append_nil] at k
    have hemp : vs.isEmpty = false := by
      rw [Array.isEmpty_eq_false_iff]
      intro e
      rw [e] at hvs
      exact hne (List.length_eq_zero_iff.mp hvs.symm)
    wp_walk
    rw [show x.cps.extract 0 0 = #[] by simp]
    refine (wpAny_mkStr' ?_ ?_ : wpAny _ _ (mkStr ⟨#[]⟩) _ _ _)
    rotate_left
    · exact Nat.zero_le _
    wp_walk using wpAny_load' hli
    obtain ⟨l, e1, e2⟩ := strs_of hv
    refine join_call (D := li) (l := l) ⟨_, hli, rfl, cap, congrArg (Data.seq · cap) (Array.ext' ?_)⟩ e2 (joinOk_of (by omega) hy) fun t' k' => ?_
    · exact e1
    · wp_walk
      exact ⟨_, _, _, rfl, k _ _ _ _ _ S⟩
end Mine
end
/-! ## Sq -/
section
open PySem PySem.W PyProof.Rows
set_option Elab.async false
set_option linter.unusedVariables false
set_option maxRecDepth 100000
set_option maxHeartbeats 2000000
namespace Mine
/-! ## The substitution as a chain of matches -/
noncomputable def Chain (words : Array Nat) (x : Str) : Nat → Bool → List (Nat × Nat) → Prop
  | dn, must, [] => ∃ m' b, Comes (Sre.forSearch words x.cps 0 dn x.cps.size must) m' b ∧ b ≤ 2 ^ 60 ∧ m'.outcome = some .failed
  | dn, must, p :: ms => ∃ m' b, Comes (Sre.forSearch words x.cps 0 dn x.cps.size must) m' b ∧ b ≤ 2 ^ 60 ∧ m'.outcome = some .matched ∧ m'.start = p.1 ∧ m'.handed = p.2 ∧ p.1 ≠ p.2 ∧ Chain words x p.2 false ms
noncomputable def pieces (x y : Str) : Nat → List (Nat × Nat) → List Str
  | dn, [] => if dn < x.cps.size then [cutS x dn x.cps.size] else []
  | dn, p :: ms => (if dn < p.1 then [cutS x dn p.1] else []) ++ [y] ++ pieces x y p.2 ms
theorem cutS_len (x : Str) (a b : Nat) (h : x.cps.size ≤ 1000) : (cutS x a b).length ≤ 1000 := by
  show (x.cps.extract a b).size ≤ _
  rw [Array.size_extract]; omega
theorem sub_chain {C : Cx} {A : Around} {R : Post Result} {T : Nat → Option Obj} {h₀ : Heap} {fp : List Addr} {g : Gs} {pt cd li : Addr} {pat x y : Str} {t0 t1 t2 t3 t4 t5 : Tok} {f0 : Int} {items : Array Value}
    (hp : T pt = some ⟨.type "re.Pattern", none, .fields #[.str pat t0, .int f0 t1, .int 0 t2, .none, .none, .ref cd, .int 0 t3], #[]⟩)
    (hcd : T cd = some ⟨.type "tuple", none, .seq items 0, #[]⟩) (hx : x.cps.size ≤ 1000) (hyl : y.length ≤ 1000) {words : Array Nat} (hw : Array.map (fun x => x.toNat) (Array.map PySem.Builtin.Re.reRawOf items) = words) :
    ∀ (ms : List (Nat × Nat)) {h : Heap} {tk n dn : Nat} {must : Bool} {vs : Array Value} {cap : Nat} {acc : List Str},
    Chain words x dn must ms →
    St T h₀ h fp [⟨li, true, oList vs cap⟩] → vs.toList.map vv = acc.map VV.str → acc.length + 2 * ms.length ≤ 1000 → (∀ y ∈ acc, y.length ≤ 1000) → (acc ≠ [] ∨ ms ≠ []) →
    (∀ h' tk' vs' cap' t', St T h₀ h' fp [⟨li, true, oList vs' cap'⟩] → R (.ok (.ret (.str (Txt.join ⟨#[]⟩ (acc ++ pieces x y dn ms)) t'))) h' g tk') →
    CodeP C A (.builtin "re.Pattern.sub.loop" (subArgs pt x y t4 t5 n dn must li)) R h g tk := by
  subst hw
  intro ms
  induction ms with
  | nil =>
    intro h tk n dn must vs cap acc hch S hv hl hy hne k
    obtain ⟨m', b, hc, hb, ho⟩ := hch
    exact sub_end hp hcd hc hb ho S hv (by simp at hl; omega) hx hy (by rcases hne with h | h; exact h; exact absurd rfl h) k
  | cons p ms ih =>
    intro h tk n dn must vs cap acc hch S hv hl hy hne k
    obtain ⟨m', b, hc, hb, ho, hs, he, hpe, hch'⟩ := hch
    refine sub_hit hp hcd hc hb ho S hv (by omega) (by omega) fun h' tk' vs' cap' S' hv' => ?_
    rw [hs] at hv'
    rw [hs, he, beq_eq_false_iff_ne.mpr (fun e => hpe e.symm), show ((n : Int) + 1) = ((n + 1 : Nat) : Int) from by push_cast; rfl]
    refine ih hch' S' hv' ?_ ?_ (.inl (by simp)) ?_
    · have : (if dn < p.1 then [cutS x dn p.1] else ([] : List Str)).length ≤ 1 := by split <;> simp
      simp only [List.length_append, List.length_cons, List.length_nil] at hl this ⊢
      omega
    · intro z hz
      rcases List.mem_append.mp hz with hz | hz
      · rcases List.mem_append.mp hz with hz | hz
        · exact hy z hz
        · split at hz
          · rw [List.mem_singleton.mp hz]; exact cutS_len x _ _ hx
          · cases hz
      · rw [List.mem_singleton.mp hz]; exact hyl
    · intro h2 tk2 vs2 cap2 t2 S2
      have := k h2 tk2 vs2 cap2 t2 S2
      rw [show acc ++ (if dn < p.1 then [cutS x dn p.1] else []) ++ [y] ++ pieces x y p.2 ms = acc ++ pieces x y dn (p :: ms) by simp [pieces, List.append_assoc]]
      exact this
/-! ### What is joined -/
noncomputable def cat : List Str → List Nat
  | [] => []
  | x :: l => x.cps.toList ++ cat l
theorem cat_append (a b : List Str) : cat (a ++ b) = cat a ++ cat b := by
  induction a with
  | nil => rfl
  | cons x a ih => simp [cat, ih, List.append_assoc]
theorem join_cat : ∀ l : List Str, Txt.join ⟨#[]⟩ l = ⟨(cat l).toArray⟩ := by
  have key : ∀ l : List Str, Str.join ⟨#[]⟩ l = ⟨(cat l).toArray⟩ := by
    intro l
    induction l with
    | nil => rfl
    | cons x l ih =>
      cases l with
      | nil =>
        show x = _
        obtain ⟨⟨a⟩⟩ := x
        simp [cat]
      | cons z l =>
        show x ++ ⟨#[]⟩ ++ Str.join ⟨#[]⟩ (z :: l) = _
        rw [ih]
        apply Str.ext'
        simp [Str.cps_append, cat]
  intro l
  show Builtin.Str.glued ⟨#[]⟩ l = _
  rw [StrLaws.glued_eq_join, key]
theorem getD_left {l m : List Nat} {j d : Nat} (h : j < l.length) : (l ++ m).getD j d = l.getD j d := by
  rw [List.getD_eq_getElem?_getD, List.getD_eq_getElem?_getD, List.getElem?_append_left h]
theorem getD_right {l m : List Nat} {j d : Nat} (h : l.length ≤ j) : (l ++ m).getD j d = m.getD (j - l.length) d := by
  rw [List.getD_eq_getElem?_getD, List.getD_eq_getElem?_getD, List.getElem?_append_right h]
theorem getD_in {l : List Nat} {j d : Nat} (h : j < l.length) : l.getD j d ∈ l := by
  rw [List.getD_eq_getElem?_getD, List.getElem?_eq_getElem h]
  exact List.getElem_mem h
theorem getD_drop {x : Str} {s : Nat} {l : List Nat} (h : x.cps.toList.drop s = l) (j : Nat) : x.cps.getD (s + j) 0 = l.getD j 0 := by
  subst h
  simp [Array.getD_eq_getD_getElem?, List.getD_eq_getElem?_getD, List.getElem?_drop]
theorem size_drop {x : Str} {s : Nat} {l : List Nat} (h : x.cps.toList.drop s = l) (hs : s ≤ x.cps.size) : x.cps.size = s + l.length := by
  have := congrArg List.length h
  simp at this
  omega
theorem cut_drop {x : Str} {s : Nat} {a b : List Nat} (h : x.cps.toList.drop s = a ++ b) : (cutS x s (s + a.length)).cps.toList = a := by
  show (x.cps.extract s (s + a.length)).toList = a
  rw [Array.toList_extract, List.extract_eq_drop_take, h]
  simp
theorem cut_if {x : Str} {s : Nat} {a b : List Nat} (h : x.cps.toList.drop s = a ++ b) : cat (if s < s + a.length then [cutS x s (s + a.length)] else []) = a := by
  split
  · simp [cat, cut_drop h]
  · rename_i q
    have : a = [] := by
      apply List.length_eq_zero_iff.mp; omega
    rw [this]; rfl
/-! ### The rows' ends -/
noncomputable def isEnd (e : List Nat) : Prop := e = [10] ∨ e = [13] ∨ e = [13, 10]
noncomputable def flat2 : List (List Nat × List Nat) → List Nat
  | [] => []
  | p :: r => p.1 ++ (p.2 ++ flat2 r)
noncomputable def Rows2 : List (List Nat × List Nat) → Prop
  | [] => True
  | p :: r => (∀ c ∈ p.1, ¬ Eol c) ∧ p.1 ≠ [] ∧ isEnd p.2 ∧ Rows2 r
noncomputable def crlf : Str := ⟨#[13, 10]⟩
noncomputable def out2 : List (List Nat × List Nat) → List Nat
  | [] => []
  | p :: r => p.1 ++ ([13, 10] ++ out2 r)
theorem chain2 {x : Str} : ∀ (rows : List (List Nat × List Nat)) (s : Nat) (must : Bool), x.cps.toList.drop s = flat2 rows → s ≤ x.cps.size → Rows2 rows → ∃ ms, Chain code2 x s must ms ∧ cat (pieces x crlf s ms) = out2 rows ∧ ms.length = rows.length := by
  intro rows
  induction rows with
  | nil =>
    intro s must hd hs _
    have hz := size_drop hd hs
    obtain ⟨m', hc, ho⟩ := search2_none (text := x.cps) (s := s) (must := must) hs fun i h1 h2 => absurd h2 (by simp [flat2] at hz; omega)
    refine ⟨[], ⟨m', 100, hc, by omega, ho⟩, ?_, rfl⟩
    show cat (if s < x.cps.size then _ else _) = _
    rw [if_neg (by simp [flat2] at hz; omega)]
    rfl
  | cons p r ih =>
    intro s must hd hs hr
    obtain ⟨u, e⟩ := p
    obtain ⟨hu, hne, he, hr⟩ := hr
    dsimp only at hu hne he
    have hd' : x.cps.toList.drop s = u ++ (e ++ flat2 r) := hd
    have hz := size_drop hd' hs
    simp only [List.length_append] at hz
    have hd1 : x.cps.toList.drop (s + u.length) = e ++ flat2 r := by rw [← List.drop_drop, hd']; simp
    have hd2 : x.cps.toList.drop (s + u.length + e.length) = flat2 r := by rw [← List.drop_drop, hd1]; simp
    have hel : 1 ≤ e.length := by rcases he with rfl | rfl | rfl <;> simp
    obtain ⟨ms, hch, hcat, hlen⟩ := ih (s + u.length + e.length) false hd2 (by omega) hr
    have hno : ∀ i, s ≤ i → i < s + u.length → ¬ Eol (x.cps.getD i 0) := by
      intro i h1 h2
      obtain ⟨j, rfl⟩ := Nat.exists_eq_add_of_le h1
      rw [getD_drop hd']
      have hj : j < u.length := by omega
      rw [getD_left hj]
      exact hu _ (getD_in hj)
    have hnext : ∀ c, (flat2 r).head? = some c → c ≠ 10 := by
      intro c hc
      cases r with
      | nil => cases hc
      | cons p' r' =>
        obtain ⟨hu', hne', _⟩ := hr
        cases hp' : p'.1 with
        | nil => exact absurd hp' hne'
        | cons a b =>
          have : (flat2 (p' :: r')).head? = some a := by show (p'.1 ++ _).head? = _; rw [hp']; rfl
          rw [this] at hc
          have hca : a = c := Option.some.inj hc
          intro e10
          exact hu' a (by rw [hp']; exact .head _) (.inl (hca.trans e10))
    have heol : EolAt x.cps (s + u.length) (s + u.length + e.length) := by
      refine ⟨by omega, ?_⟩
      have g0 := getD_drop hd1 0
      have g1 := getD_drop hd1 1
      rw [Nat.add_zero] at g0
      rcases he with rfl | rfl | rfl
      · exact .inl ⟨by rw [g0]; rfl, rfl⟩
      · refine .inr (.inr ⟨by rw [g0]; rfl, ?_, rfl⟩)
        cases hf : flat2 r with
        | nil => left; rw [hf] at hz; simp at hz; omega
        | cons a b =>
          right
          rw [g1, hf]
          exact hnext a (by rw [hf]; rfl)
      · exact .inr (.inl ⟨by rw [g0]; rfl, by simp at hz; omega, by rw [g1]; rfl, rfl⟩)
    obtain ⟨m', hc, ho, hst, hha⟩ := search2_hit (must := must) (by omega) hno heol
    refine ⟨(s + u.length, s + u.length + e.length) :: ms, ⟨m', 100, hc, by omega, ho, hst, hha, by show s + u.length ≠ _; omega, hch⟩, ?_, by simp [hlen]⟩
    show cat ((if s < s + u.length then [cutS x s (s + u.length)] else []) ++ [crlf] ++ pieces x crlf (s + u.length + e.length) ms) = u ++ ([13, 10] ++ out2 r)
    rw [cat_append, cat_append, cut_if hd', hcat, List.append_assoc]
    rfl
/-! ### The rows' dots -/
noncomputable def flat1 : List (List Nat) → List Nat
  | [] => []
  | v :: r => 46 :: (v ++ [13, 10]) ++ flat1 r
noncomputable def out1 : List (List Nat) → List Nat
  | [] => []
  | v :: r => 46 :: 46 :: (v ++ [13, 10]) ++ out1 r
noncomputable def dots : Str := ⟨#[46, 46]⟩
theorem chain1 {x : Str} (hx : x.cps.size ≤ 1000) : ∀ (rows : List (List Nat)) (pre : List Nat) (dn : Nat) (must : Bool), x.cps.toList.drop dn = pre ++ flat1 rows → dn ≤ x.cps.size →
    (∀ v ∈ rows, ∀ c ∈ v, ¬ Eol c) → (∀ i, dn ≤ i → i < dn + pre.length → i ≠ 0 ∧ x.cps.getD (i - 1) 0 ≠ 10) → (dn + pre.length = 0 ∨ x.cps.getD (dn + pre.length - 1) 0 = 10) →
    ∃ ms, Chain code1 x dn must ms ∧ cat (pieces x dots dn ms) = pre ++ out1 rows ∧ ms.length = rows.length := by
  intro rows
  induction rows with
  | nil =>
    intro pre dn must hd hs _ hno _
    have hz := size_drop hd hs
    simp only [flat1, List.append_nil] at hz
    obtain ⟨m', hc, ho⟩ := search1_none (text := x.cps) (s := dn) (must := must) hs fun i h1 hD => by
      obtain ⟨a, b, _⟩ := hD
      obtain ⟨c, d⟩ := hno i h1 (by omega)
      rcases b with b | b
      · exact c b
      · exact d b
    refine ⟨[], ⟨m', _, hc, ?_, ho⟩, ?_, rfl⟩
    · omega
    · show cat (if dn < x.cps.size then [cutS x dn x.cps.size] else []) = pre ++ []
      rw [hz, cut_if hd, List.append_nil]
  | cons v r ih =>
    intro pre dn must hd hs hv hno hst0
    have hd' : x.cps.toList.drop dn = pre ++ (46 :: (v ++ [13, 10]) ++ flat1 r) := hd
    have hz := size_drop hd' hs
    simp only [List.length_append, List.length_cons, List.length_nil] at hz
    have hd1 : x.cps.toList.drop (dn + pre.length) = 46 :: (v ++ [13, 10]) ++ flat1 r := by rw [← List.drop_drop, hd']; simp
    have hd2 : x.cps.toList.drop (dn + pre.length + 1) = (v ++ [13, 10]) ++ flat1 r := by rw [← List.drop_drop, hd1]; rfl
    have g0 := getD_drop hd1 0
    rw [Nat.add_zero] at g0
    have hno2 : ∀ i, dn + pre.length + 1 ≤ i → i < dn + pre.length + 1 + (v ++ [13, 10]).length → i ≠ 0 ∧ x.cps.getD (i - 1) 0 ≠ 10 := by
      intro i h1 h2
      refine ⟨by omega, ?_⟩
      obtain ⟨j, hj⟩ : ∃ j, i - 1 = dn + pre.length + j := ⟨i - 1 - (dn + pre.length), by omega⟩
      rw [hj, getD_drop hd1]
      simp only [List.length_append, List.length_cons, List.length_nil] at h2
      have hjl : j < v.length + 2 := by omega
      cases j with
      | zero => show (46 : Nat) ≠ 10; decide
      | succ j =>
        show (v ++ [13, 10] ++ flat1 r).getD j 0 ≠ 10
        rw [List.append_assoc]
        by_cases hjv : j < v.length
        · rw [getD_left hjv]
          exact fun e => hv v (.head _) _ (getD_in hjv) (.inl e)
        · have : j = v.length := by omega
          subst this
          rw [getD_right (Nat.le_refl _), Nat.sub_self]
          show (13 : Nat) ≠ 10
          decide
    have hst2 : dn + pre.length + 1 + (v ++ [13, 10]).length = 0 ∨ x.cps.getD (dn + pre.length + 1 + (v ++ [13, 10]).length - 1) 0 = 10 := by
      right
      have : dn + pre.length + 1 + (v ++ [13, 10]).length - 1 = dn + pre.length + 1 + (v.length + 1) := by simp only [List.length_append, List.length_cons, List.length_nil]; omega
      rw [this, getD_drop hd2, List.append_assoc, getD_right (by omega), show v.length + 1 - v.length = 1 by omega]
      rfl
    obtain ⟨ms, hch, hcat, hlen⟩ := ih (v ++ [13, 10]) (dn + pre.length + 1) false hd2 (by omega) (fun w hw => hv w (.tail _ hw)) hno2 hst2
    obtain ⟨m', hc, ho, hst, hha⟩ := search1_hit (text := x.cps) (s := dn) (t := dn + pre.length) (must := must) (by omega) (fun i h1 h2 hD => by
      obtain ⟨a, b, _⟩ := hD
      obtain ⟨c, d⟩ := hno i h1 h2
      rcases b with b | b
      · exact c b
      · exact d b) ⟨by omega, hst0, by rw [g0]; rfl⟩
    refine ⟨(dn + pre.length, dn + pre.length + 1) :: ms, ⟨m', _, hc, ?_, ho, hst, hha, by show dn + pre.length ≠ _; omega, hch⟩, ?_, by simp [hlen]⟩
    · omega
    · show cat ((if dn < dn + pre.length then [cutS x dn (dn + pre.length)] else []) ++ [dots] ++ pieces x dots (dn + pre.length + 1) ms) = pre ++ out1 (v :: r)
      rw [cat_append, cat_append, cut_if hd', hcat]
      simp [cat, dots, out1]
end Mine
end
/-! ## Sg -/
section
open PySem PySem.W PyProof.Rows
set_option Elab.async false
set_option linter.unusedVariables false
set_option maxRecDepth 100000
set_option maxHeartbeats 400000
namespace Mine
/-! ## More stops at built-ins -/
noncomputable def strs3 (o : Obj) : Option (Str × Str × Str) := match o.cls with
  | .type s => match PySem.W.S.eqLit 1970563693 s with
    | true => match o.data with
      | .seq ⟨vs⟩ _ => match vs with
        | [.str a _, .str b _, .str c _] => some (a, b, c)
        | _ => none
      | _ => none
    | false => none
  | _ => none
theorem strs3_is {o : Obj} {a b c : Str} (e : strs3 o = some (a, b, c)) : ∃ t u v n, o.cls = .type "list" ∧ o.data = .seq #[.str a t, .str b u, .str c v] n := by
  unfold strs3 at e
  split at e
  · rename_i s hs
    split at e
    · rename_i q
      split at e
      · rename_i vs n hd
        split at e
        · cases e
          rw [id_of q (b := "list") (by decide +kernel)] at hs
          exact ⟨_, _, _, n, hs, hd⟩
        · cases e
      · cases e
    · cases e
  · cases e
noncomputable def isCut (o : Obj) : Bool := match o.cls with
  | .type s => match PySem.W.S.eqLit 439771360628 s with
    | true => match o.dict with
      | none => match o.data with
        | .fields ⟨vs⟩ => match vs with
          | [.none, .int i _, .none] => match i with
            | .negSucc 0 => match o.slots with
              | ⟨[]⟩ => true
              | _ => false
            | _ => false
          | _ => false
        | _ => false
      | some _ => false
    | false => false
  | _ => false
theorem cut_is {o : Obj} (e : isCut o = true) : ∃ t, o = ⟨.type "slice", none, .fields #[.none, .int (-1) t, .none], #[]⟩ := by
  obtain ⟨c, d, dt, sl⟩ := o
  unfold isCut at e
  dsimp only at e
  split at e
  · split at e
    · rename_i q
      split at e
      · split at e
        · split at e
          · split at e
            · split at e
              · rw [id_of q (b := "slice") (by decide +kernel)]
                exact ⟨_, rfl⟩
              · cases e
            · cases e
          · cases e
        · cases e
      · cases e
    · cases e
  · cases e
noncomputable def cutL (x : Str) : Str := ⟨x.cps.toList.dropLast.toArray⟩
open PySem.Builtin PySem.Builtin.Str in
theorem cut_idx (n : Nat) : strSliceIndices none (some (-1)) 1 (n + 1) = strSliceIndices (some ((0 : Nat) : Int)) (some (n : Int)) 1 (n + 1) := by
  have h1 : ((-1 : Int) < 0) = True := by simp
  have h2 : ((1 : Int) > 0) = True := by simp
  have h3 : (((0 : Nat) : Int) < 0) = False := by simp
  have h4 : ((n : Int) < 0) = False := by simp
  have e1 : max (0 : Int) (min (-1 + ((n + 1 : Nat) : Int)) ((n + 1 : Nat) : Int)) = n := by omega
  have e2 : max (0 : Int) (min (n : Int) ((n + 1 : Nat) : Int)) = n := by omega
  have e3 : max (0 : Int) (min ((0 : Nat) : Int) ((n + 1 : Nat) : Int)) = 0 := by omega
  simp only [strSliceIndices, h1, h2, h3, h4, if_true, if_false, e1, e2, e3]
section
variable {C : Cx} {A : Around} {R : Post Result} {h : Heap} {g : Gs} {tk : Nat} {id : String} {x y : Str} {t u : Nat}
open PySem.Builtin PySem.Builtin.Str in
theorem cut_code {a : Addr} {t1 : Nat} (hx : x.length ≤ 1000)
    (e : PySem.W.S.eqLit 500416356548588640944365259017385332 id = true)
    (ha : h.get? a = some ⟨.type "slice", none, .fields #[.none, .int (-1) t1, .none], #[]⟩)
    (k : ∀ t' tk', R (.ok (.ret (.str (cutL x) t'))) h g tk') : CodeP C A (.builtin id ⟨[.str x t, .ref a], []⟩) R h g tk := by
  refine builtin_meets e (b := "str.__getitem__") (by decide +kernel) PySem.F.entry_str_getitem (by decide +kernel) (meets_str_getitem_slice x t a none (some (-1, t1)) none rfl) ⟨⟨_, ha, rfl, rfl⟩, ?_⟩
  obtain ⟨⟨l⟩⟩ := x
  cases l with
  | nil =>
    have k' := k t tk
    exact ⟨_, _, _, rfl, k'⟩
  | cons c l =>
    have e1 : strSliceIndices none (some (-1)) 1 (l.length + 1) = strSliceIndices (some ((0 : Nat) : Int)) (some (l.length : Int)) 1 (l.length + 1) := cut_idx _
    have e2 := PySem.StrLaws.sliced_plain (⟨⟨c :: l⟩⟩ : Str) (a := 0) (b := l.length) (by omega) (by show l.length ≤ l.length + 1; omega)
    have e3 : (slicePicked ⟨⟨c :: l⟩⟩ none (some (-1, t1)) none) = strSliceIndices (some ((0 : Nat) : Int)) (some (l.length : Int)) 1 (l.length + 1) := e1
    have e4 := PySem.StrLaws.strSliceIndices_plain (a := 0) (b := l.length) (len := l.length + 1) (by omega) (by omega)
    unfold sliceMade
    rw [e3]
    rw [if_neg (by rw [e4]; simp [Str.length])]
    have e5 : ((strSliceIndices (some ((0 : Nat) : Int)) (some (l.length : Int)) 1 (l.length + 1)).filterMap ((⟨⟨c :: l⟩⟩ : Str).cps[·]?)) = (c :: l).dropLast := by
      refine Eq.trans e2 ?_
      simp [List.dropLast_eq_take]
    rw [e5]
    refine ⟨?_, _, _, _, rfl, k _ _⟩
    show (c :: l).dropLast.toArray.size ≤ _
    have : (c :: l).length ≤ 1000 := hx
    rw [sizeLine_eq]
    simp at this ⊢
    omega
theorem ends_code {b : Bool} (e : PySem.W.S.eqLit 32637873144979849222802339188 id = true) (hb : (0 + y.length ≤ x.length && PySem.Builtin.Str.subAt x y (x.length - y.length)) = b) (k : R (.ok (.ret (.bool b))) h g tk) :
    CodeP C A (.builtin id ⟨[.str x t, .str y u], []⟩) R h g tk := by
  refine builtin_gives e (b := "str.endswith") (by decide +kernel) PySem.F.entry_str_endswith (by decide +kernel) (PySem.gives_str_endswith x y t u) ⟨_, _, _, rfl, ?_⟩
  rw [hb]; exact k
theorem count_code {n : Nat} (e : PySem.W.S.eqLit 2166300787185074533748 id = true) (hb : (PySem.Builtin.Str.occurrences x y 0 x.length (x.length + 1)).length = n) (k : ∀ t' tk', R (.ok (.ret (.int n t'))) h g tk') :
    CodeP C A (.builtin id ⟨[.str x t, .str y u], []⟩) R h g tk := by
  refine builtin_gives e (b := "str.count") (by decide +kernel) PySem.F.entry_str_count (by decide +kernel) (PySem.gives_str_count x y t u) ⟨_, _, _, rfl, ?_⟩
  rw [hb]; exact k _ _
theorem join_code {a : Addr} {p q r : Str} {o : Obj} (e : PySem.W.S.eqLit 8028352891401237876 id = true) (ho : h.get? a = some o) (hs : strs3 o = some (p, q, r)) (hp : p.length + q.length + r.length ≤ 1000) (k : ∀ t' tk', R (.ok (.ret (.str ⟨(p.cps.toList ++ (q.cps.toList ++ r.cps.toList)).toArray⟩ t'))) h g tk') :
    CodeP C A (.builtin id ⟨[.str ⟨#[]⟩ t, .ref a], []⟩) R h g tk := by
  obtain ⟨t1, t2, t3, n, hc, hd⟩ := strs3_is hs
  have hl : PySem.Builtin.Str.tooLong (([(p, t1), (q, t2), (r, t3)].map (·.1)).toArray.foldl (· + ·.length + (⟨#[]⟩ : Str).length) 0) = false := by
    show decide (_ > sizeLine) = false
    rw [decide_eq_false_iff_not, sizeLine_eq]
    have : (⟨#[]⟩ : Str).length = 0 := rfl
    simp [this]
    omega
  refine builtin_meets e (b := "str.join") (by decide +kernel) PySem.F.entry_str_join (by decide +kernel) (meets_str_join_list ⟨#[]⟩ t a [(p, t1), (q, t2), (r, t3)] hl) ⟨⟨o, ho, hc, n, hd⟩, post_join _ ⟨joinFit_length hl, fun t' k' => ?_⟩⟩
  have e1 : Txt.join ⟨#[]⟩ ([(p, t1), (q, t2), (r, t3)].map (·.1)) = ⟨(p.cps.toList ++ (q.cps.toList ++ r.cps.toList)).toArray⟩ := by
    rw [join_cat]; simp [cat]
  rw [e1]
  exact ⟨_, _, _, rfl, k t' k'⟩
end
section
variable {C : Cx} {A₀ : Around} {R₀ : Post Result} {T : Nat → Option Obj} {h₀ : Heap} {fp : List Addr} {n tk : Nat} {g : Gs} {h : Heap} {l : List Ent} {κ : Kont} {r : Result}
theorem go_ends {F H : Nat} (x y : Str) (b : Bool) (S : St T h₀ h fp l) (hb : (0 + y.length ≤ x.length && PySem.Builtin.Str.subAt x y (x.length - y.length)) = b) (hk : ((simA C A₀ T h.objs.size tk F κ r l H).acc.map (·.1), isRet κ, see (simA C A₀ T h.objs.size tk F κ r l H)) = ((simA C A₀ T h.objs.size tk F κ r l H).acc.map (·.2), true, .bi 32637873144979849222802339188 [.str x, .str y]))
    (k : ∀ h' tk', St T h₀ h' fp (simA C A₀ T h.objs.size tk F κ r l H).l → After C A₀ R₀ (κO (simA C A₀ T h.objs.size tk F κ r l H)) (.ok (.ret (.bool b))) h' g tk') : After C A₀ R₀ κ r h g tk := by
  refine go_bi _ _ S hk fun h' tk' id vs hid hvs S' => ?_
  obtain ⟨v, w, rfl, hv, hw⟩ := map_two hvs
  obtain ⟨t1, rfl⟩ := vv_str hv
  obtain ⟨t2, rfl⟩ := vv_str hw
  exact ends_code (codeS_eq hid) hb (k _ _ S')
theorem go_count {F H : Nat} (x y : Str) (m : Nat) (S : St T h₀ h fp l) (hb : (PySem.Builtin.Str.occurrences x y 0 x.length (x.length + 1)).length = m) (hk : ((simA C A₀ T h.objs.size tk F κ r l H).acc.map (·.1), isRet κ, see (simA C A₀ T h.objs.size tk F κ r l H)) = ((simA C A₀ T h.objs.size tk F κ r l H).acc.map (·.2), true, .bi 2166300787185074533748 [.str x, .str y]))
    (k : ∀ h' t' tk', St T h₀ h' fp (simA C A₀ T h.objs.size tk F κ r l H).l → After C A₀ R₀ (κO (simA C A₀ T h.objs.size tk F κ r l H)) (.ok (.ret (.int m t'))) h' g tk') : After C A₀ R₀ κ r h g tk := by
  refine go_bi _ _ S hk fun h' tk' id vs hid hvs S' => ?_
  obtain ⟨v, w, rfl, hv, hw⟩ := map_two hvs
  obtain ⟨t1, rfl⟩ := vv_str hv
  obtain ⟨t2, rfl⟩ := vv_str hw
  exact count_code (codeS_eq hid) hb fun t' tk' => k _ _ _ S'
theorem go_cut {F H : Nat} (x : Str) (a : Addr) (q : Nat) (S : St T h₀ h fp l) (hx : x.length ≤ 1000)
    (hk : ((simA C A₀ T h.objs.size tk F κ r l H).acc.map (·.1), isRet κ, see (simA C A₀ T h.objs.size tk F κ r l H), (nth (simA C A₀ T h.objs.size tk F κ r l H).l q).map fun e => (e.a, isCut e.o)) = ((simA C A₀ T h.objs.size tk F κ r l H).acc.map (·.2), true, .bi 500416356548588640944365259017385332 [.str x, .ref a], some (a, true)))
    (k : ∀ h' t' tk', St T h₀ h' fp (simA C A₀ T h.objs.size tk F κ r l H).l → After C A₀ R₀ (κO (simA C A₀ T h.objs.size tk F κ r l H)) (.ok (.ret (.str (cutL x) t'))) h' g tk') : After C A₀ R₀ κ r h g tk := by
  have e1 := congrArg (·.1) hk
  have e2 := congrArg (·.2.1) hk
  have e3 := congrArg (·.2.2.1) hk
  have e4 := congrArg (·.2.2.2) hk
  refine go_bi _ _ S (Prod.ext e1 (Prod.ext e2 e3)) fun h' tk' id vs hid hvs S' => ?_
  obtain ⟨v, w, rfl, hv, hw⟩ := map_two hvs
  obtain ⟨tt, rfl⟩ := vv_str hv
  obtain rfl := vv_ref hw
  obtain ⟨e, he, e5⟩ := Option.map_eq_some_iff.mp e4
  have e6 : e.a = a := congrArg Prod.fst e5
  obtain ⟨t1, e7⟩ := cut_is (congrArg Prod.snd e5)
  exact cut_code hx (codeS_eq hid) (by rw [← e7, ← e6]; exact S'.at he) fun t' tk' => k _ _ _ S'
theorem go_join {F H : Nat} (x y z : Str) (a : Addr) (q : Nat) (S : St T h₀ h fp l) (hx : x.length + y.length + z.length ≤ 1000)
    (hk : ((simA C A₀ T h.objs.size tk F κ r l H).acc.map (·.1), isRet κ, see (simA C A₀ T h.objs.size tk F κ r l H), (nth (simA C A₀ T h.objs.size tk F κ r l H).l q).map fun e => (e.a, strs3 e.o)) = ((simA C A₀ T h.objs.size tk F κ r l H).acc.map (·.2), true, .bi 8028352891401237876 [.str ⟨#[]⟩, .ref a], some (a, some (x, y, z))))
    (k : ∀ h' t' tk', St T h₀ h' fp (simA C A₀ T h.objs.size tk F κ r l H).l → After C A₀ R₀ (κO (simA C A₀ T h.objs.size tk F κ r l H)) (.ok (.ret (.str ⟨(x.cps.toList ++ (y.cps.toList ++ z.cps.toList)).toArray⟩ t'))) h' g tk') : After C A₀ R₀ κ r h g tk := by
  have e1 := congrArg (·.1) hk
  have e2 := congrArg (·.2.1) hk
  have e3 := congrArg (·.2.2.1) hk
  have e4 := congrArg (·.2.2.2) hk
  refine go_bi _ _ S (Prod.ext e1 (Prod.ext e2 e3)) fun h' tk' id vs hid hvs S' => ?_
  obtain ⟨v, w, rfl, hv, hw⟩ := map_two hvs
  obtain ⟨tt, rfl⟩ := vv_str hv
  obtain rfl := vv_ref hw
  obtain ⟨e, he, e5⟩ := Option.map_eq_some_iff.mp e4
  have e6 : e.a = a := congrArg Prod.fst e5
  exact join_code (codeS_eq hid) (by rw [← e6]; exact S'.at he) (congrArg Prod.snd e5) hx fun t' tk' => k _ _ _ S'
end
end Mine
end
/-! ## Rd3 -/
section
open PySem PySem.W PyProof.Rows
set_option Elab.async false
set_option linter.unusedVariables false
set_option maxRecDepth 100000
set_option maxHeartbeats 2000000
namespace Mine
noncomputable def nst (i : Nat) : Stmt := ((bodyOf (stm 13)).drop i).headD (.Pass ⟨0, 0, 0, 0⟩)
noncomputable def fdRead (ct cp cd ctup : Addr) : FuncData := { name := ⟨#[114, 101, 97, 100]⟩, qualname := ⟨#[95, 108, 97, 119, 95, 115, 116, 114, 101, 97, 109, 46, 60, 108, 111, 99, 97, 108, 115, 62, 46, 114, 101, 97, 100]⟩, params := paramsOf (nst 1), body := .stmts (bodyOf (nst 1)), scope := scopeOf (nst 1), globals := 3, closure := [(⟨#[116, 101, 120, 116]⟩, ct), (⟨#[112, 108, 97, 99, 101]⟩, cp)], defaults := .none, kwdefaults := .none, doc := .none, pyModule := .str ⟨#[108, 97, 119, 95, 114, 101, 48, 48, 49, 57, 95, 48, 49]⟩ 449, annotations := none, code := .ref cd, closureTuple := .ref ctup, builtins := 0 }
noncomputable def vFn (fd : FuncData) (d : Option Addr) : OV := ⟨.type "function", d, .rest (.func fd), []⟩
noncomputable def vList (vs : List VV) (n : Nat) : OV := ⟨.type "list", none, .seq vs n, []⟩
noncomputable def vCell (v : VV) : OV := ⟨.type "cell", none, .cell v, []⟩
noncomputable def vCode (vs : List VV) : OV := ⟨.type "code", none, .fields vs, []⟩
noncomputable def qRead : Str := ⟨#[95, 108, 97, 119, 95, 115, 116, 114, 101, 97, 109, 46, 60, 108, 111, 99, 97, 108, 115, 62, 46, 114, 101, 97, 100]⟩
noncomputable def cvRead (a b c d e : Addr) (z : Int) : List VV := [.str ⟨#[114, 101, 97, 100]⟩, .str qRead, .str ⟨#[47, 99, 108, 97, 105, 109, 47, 99, 117, 116, 46, 112, 121]⟩, .int 77, .int 1, .int 0, .int 0, .int 19, .ref a, .bool true, .int 276, .ref b, .none, .ref c, .ref d, .ref e, .int z, .int 77, .str ⟨#[47, 99, 108, 97, 105, 109, 47, 99, 117, 116, 46, 112, 121]⟩]
theorem read_spec {C : Cx} {A : Around} {R : Post Result} {h : Heap} {g : Gs} {tk : Nat} {rf cd ct cp pl ctup c1 c2 c3 c4 c5 : Addr} {z : Int} {t1 n : Nat} {text : Str} {p : Nat} {τ : List (List Tok)}
    (hroom : A.depth < recursionLimit)
    (S : St (topObj C.w.params) h h [pl] (mkL [⟨rf, false, vFn (fdRead ct cp cd ctup) none⟩, ⟨cd, false, vCode (cvRead c1 c2 c3 c4 c5 z)⟩, ⟨ct, false, vCell (.str text)⟩, ⟨cp, false, vCell (.ref pl)⟩, ⟨pl, true, vList [.int p] n⟩] τ))
    (k : ∀ h' τ' t' tk', St (topObj C.w.params) h h' [pl] (mkL [⟨pl, true, vList [.int (p + 1)] n⟩] τ') → R (.ok (.ret (.str (chr1 text p) t'))) h' g tk') :
    CodeP C A (.call (.ref rf) ⟨[.int 1 t1], []⟩) R h g tk := by
  refine call_fn S hroom (S.at (i := 0) rfl) rfl rfl rfl rfl rfl (S.at (i := 1) rfl) rfl rfl rfl ?_
  refine go_slice (F := 73) (H := 11393952447071723062901686802833932220182375798420228775261390541625340465624646657) (text := text) (a := h.objs.size + 1) (i := (p : Int) + 1 - 1) (j := (p : Int) + 1) p 0 S (by omega) rfl (by kernel_rfl!) fun h1 t1 tk1 S1 => ?_
  refine go_ret (F := 0) (H := 0) (.str (chr1 text p)) S1 (by kernel_rfl!) fun h2 tk2 w hw S2 => ?_
  obtain ⟨t2, rfl⟩ := vv_str hw
  obtain ⟨τ', S3⟩ := S2.part [6] (vl := [⟨pl, true, vList [.int (p + 1)] n⟩]) (by kernel_rfl!)
  exact k _ _ _ _ S3
end Mine
end
/-! ## Rc3 -/
section
open PySem PySem.W PyProof.Rows
set_option Elab.async false
set_option linter.unusedVariables false
set_option maxRecDepth 100000
set_option maxHeartbeats 2000000
namespace Mine
noncomputable abbrev en (P : Params) (k : List Nat) (v : VV) : Int × VV × VV := (hs P k.toArray, .str ⟨k.toArray⟩, v)
noncomputable abbrev k_lineno : List Nat := [108, 105, 110, 101, 110, 111]
noncomputable abbrev k_instream : List Nat := [105, 110, 115, 116, 114, 101, 97, 109]
noncomputable abbrev k_whitespace : List Nat := [119, 104, 105, 116, 101, 115, 112, 97, 99, 101]
noncomputable abbrev k_pushback : List Nat := [112, 117, 115, 104, 98, 97, 99, 107]
noncomputable abbrev k_read : List Nat := [114, 101, 97, 100]
noncomputable abbrev k_self : List Nat := [115, 101, 108, 102]
noncomputable abbrev k_token : List Nat := [116, 111, 107, 101, 110]
noncomputable abbrev k_fiter : List Nat := [102, 105, 116, 101, 114]
noncomputable abbrev k_ch : List Nat := [99, 104]
noncomputable def ws : Str := ⟨#[10, 9, 13, 32]⟩
noncomputable def vInst (c d : Addr) : OV := ⟨.ref c, some d, .rest .plain, []⟩
noncomputable def vDict (es : List (Int × VV × VV)) (n : Nat) : OV := ⟨.type "dict", none, .dict es n, []⟩
noncomputable def vFrame (es : List (Int × VV × VV)) (n : Nat) : OV := ⟨.type "frame", none, .dict es n, []⟩
/-- the addresses of a lexer over a stream -/
structure Lx where
  x : Addr
  d : Addr
  st : Addr
  sd : Addr
  rf : Addr
  cd : Addr
  ct : Addr
  cp : Addr
  pl : Addr
  pb : Addr
  ctup : Addr
  c1 : Addr
  c2 : Addr
  c3 : Addr
  c4 : Addr
  c5 : Addr
  z : Int
  fl : FuncData
  n : Nat
  np : Nat
noncomputable abbrev vLex (X : Lx) (P : Params) (ln : Int) : OV := vDict [en P k_lineno (.int ln), en P k_instream (.ref X.st), en P k_whitespace (.str ws), en P k_pushback (.ref X.pb)] 4
/-- what a lexer is, the writable ones last -/
noncomputable abbrev Lx.objs (X : Lx) (P : Params) (text : Str) (p : Nat) (ln : Int) : List EV :=
  [⟨X.x, false, vInst 76 X.d⟩, ⟨X.st, false, vFn X.fl (some X.sd)⟩, ⟨X.sd, false, vDict [en P k_read (.ref X.rf)] 1⟩, ⟨X.rf, false, vFn (fdRead X.ct X.cp X.cd X.ctup) none⟩, ⟨X.cd, false, vCode (cvRead X.c1 X.c2 X.c3 X.c4 X.c5 X.z)⟩, ⟨X.ct, false, vCell (.str text)⟩, ⟨X.cp, false, vCell (.ref X.pl)⟩, ⟨X.pb, false, vList [] X.np⟩,
   ⟨X.d, true, vLex X P ln⟩, ⟨X.pl, true, vList [.int p] X.n⟩]
noncomputable abbrev Lx.now (X : Lx) (P : Params) (p : Nat) (ln : Int) : List EV := [⟨X.d, true, vLex X P ln⟩, ⟨X.pl, true, vList [.int p] X.n⟩]
theorem read_char_spec {C : Cx} {A : Around} {R : Post Result} {h : Heap} {g : Gs} {tk : Nat} (X : Lx) {text cc : Str} {p : Nat} {ln : Int} {τ : List (List Tok)} (hcc : chr1 text p = cc)
    (hroom : A.depth + 10 < recursionLimit)
    (S : St (topObj C.w.params) h h [X.d, X.pl] (mkL (X.objs C.w.params text p ln) τ))
    (k : ∀ h' τ' t' tk', St (topObj C.w.params) h h' [X.d, X.pl] (mkL (X.now C.w.params (p + 1) (if cc = ⟨#[10]⟩ then ln + 1 else ln)) τ') → R (.ok (.ret (.str cc t'))) h' g tk') :
    CodeP C A (.call (.ref 59) ⟨[.ref X.x], []⟩) R h g tk := by
  subst hcc
  all_goals (
    refine call_fn S (by omega) (S.topGet rfl) rfl rfl rfl rfl rfl (S.topGet rfl) rfl rfl rfl ?_
    refine go_fn (F := 45) (H := 8841142130170051500973561141372444879638295143769380060384875854097810433) X.rf [.int 1] 1 S (by kernel_rfl!) fun h1 tk1 vs hvs hd hh S1 => ?_
    obtain ⟨v, rfl, hv⟩ := map_one hvs
    obtain ⟨t1, rfl⟩ := vv_int hv
    obtain ⟨τ1, Sc, Sb⟩ := S1.lend [4, 5, 6, 7, 10] [false, false, false, false, true] [⟨X.rf, false, vFn (fdRead X.ct X.cp X.cd X.ctup) none⟩, ⟨X.cd, false, vCode (cvRead X.c1 X.c2 X.c3 X.c4 X.c5 X.z)⟩, ⟨X.ct, false, vCell (.str text)⟩, ⟨X.cp, false, vCell (.ref X.pl)⟩, ⟨X.pl, true, vList [.int p] X.n⟩] (by kernel_rfl!)
    refine read_spec (by omega) Sc fun h2 τ2 t2 tk2 S2 => ?_
    have S3 := Sb [10] S2 (by kernel_rfl!)
    refine go_eq (F := 15) (H := 1049601) (chr1 text p) ⟨#[10]⟩ S3 (by kernel_rfl!) (fun hc h4 tk4 S4 => ?_) (fun hc h4 tk4 S4 => ?_)
    · refine go_ret (F := 53) (H := 2056948351451179328390044300574308653457534340946672090771653963516591566728560209312090113) (.str (chr1 text p)) S4 (by kernel_rfl!) fun h5 tk5 w hw S5 => ?_
      obtain ⟨t5, rfl⟩ := vv_str hw
      rw [if_pos hc] at k
      refine S5.give [9, 10] (fun τ S => k _ τ _ _ S) (by kernel_rfl!)
    · refine go_ret (F := 3) (H := 1) (.str (chr1 text p)) S4 (by kernel_rfl!) fun h5 tk5 w hw S5 => ?_
      obtain ⟨t5, rfl⟩ := vv_str hw
      rw [if_neg hc] at k
      refine S5.give [9, 10] (fun τ S => k _ τ _ _ S) (by kernel_rfl!))
end Mine
end
/-! ## Gt3 -/
section
open PySem PySem.W PyProof.Rows
set_option Elab.async false
set_option linter.unusedVariables false
set_option maxRecDepth 100000
set_option maxHeartbeats 2000000
namespace Mine
noncomputable def forTgt : Stmt → Expr
  | .For t _ _ _ _ => t
  | _ => .Constant .none 0 ⟨0, 0, 0, 0⟩
noncomputable def forBdy : Stmt → List Stmt
  | .For _ _ b _ _ => b
  | _ => []
noncomputable def ifElse : Stmt → List Stmt
  | .If _ _ e _ => e
  | _ => []
noncomputable def nthS (l : List Stmt) (i : Nat) : Stmt := (l.drop i).headD (.Pass ⟨0, 0, 0, 0⟩)
noncomputable def gtFor : Stmt := nthS (bodyOf (meth 2)) 3
noncomputable def gtIn : Stmt := nthS (ifElse (nthS (forBdy gtFor) 1)) 2
noncomputable def envG (L : Addr) : Env := { scope := scopeOf (meth 2), locals := L, globals := 3, cells := [], qual := (⟨#[95, 110, 101, 116, 114, 99, 108, 101, 120, 46, 103, 101, 116, 95, 116, 111, 107, 101, 110]⟩ : Str) ++ (".<locals>." : Str), func := some 66, code := .ref 65, frame := some L, builtins := 0 }
noncomputable abbrev vFrG (P : Params) (x it : Addr) (tok ch : Str) : OV := vFrame [en P k_self (.ref x), en P k_token (.str tok), en P k_fiter (.ref it), en P k_ch (.str ch)] 4
noncomputable def vIt (m : Addr) : OV := ⟨.type "callable_iterator", none, .fields [.ref m, .str ⟨#[]⟩, .bool false], []⟩
noncomputable def vMeth (f x : Addr) : OV := ⟨.type "method", none, .fields [.ref f, .ref x], []⟩
/-- what a word is written as -/
inductive Dec : List Nat → List Nat → Prop where
  | nil : Dec [] []
  | plain {c : Nat} {cs ds : List Nat} : c + 1 ≠ 92 → c + 1 ∉ ws.cps.toList → Dec cs ds → Dec ((c + 1) :: cs) ((c + 1) :: ds)
  | esc {c : Nat} {cs ds : List Nat} : c + 1 ≠ 10 → Dec cs ds → Dec (92 :: (c + 1) :: cs) ((c + 1) :: ds)
theorem chr1_of {text : Str} {p c : Nat} {r : List Nat} (h : text.cps.toList.drop p = c :: r) : chr1 text p = ⟨#[c]⟩ := by
  unfold chr1
  rw [h]; rfl
theorem drop_next {text : Str} {p c : Nat} {r : List Nat} (h : text.cps.toList.drop p = c :: r) : text.cps.toList.drop (p + 1) = r := by
  rw [← List.drop_drop, h]; rfl
theorem inner_loop {C : Cx} {A : Around} {R : Post Result} {h₀ : Heap} {fp : List Addr} {g : Gs} (X : Lx) {text : Str} {L it m : Addr} {w : Nat} {rest : List Nat} {ln : Int}
    (hroom : A.depth + 20 < recursionLimit) (hw : w + 1 ∈ ws.cps.toList) (hw' : w + 1 ≠ 10) (hlen : text.length ≤ 100000) {enc dec : List Nat} (D : Dec enc dec) :
    ∀ {h : Heap} {tk p : Nat} {tok ch : Str} {τ : List (List Tok)}, tok.length ≤ p →
    text.cps.toList.drop p = enc ++ (w + 1) :: rest →
    St (topObj C.w.params) h₀ h fp (mkL ([⟨L, true, vFrG C.w.params X.x it tok ch⟩, ⟨it, true, vIt m⟩, ⟨m, false, vMeth 59 X.x⟩] ++ X.objs C.w.params text p ln) τ) →
    (∀ h' tk' ch' t' τ', St (topObj C.w.params) h₀ h' fp (mkL ([⟨L, true, vFrG C.w.params X.x it (tok ++ ⟨dec.toArray⟩) ch'⟩] ++ X.now C.w.params (p + enc.length + 1) ln) τ') → R (.ok (.ret (.str (tok ++ ⟨dec.toArray⟩) t'))) h' g tk') →
    CodeP C A (.forLoop (forTgt gtIn) (.ref it) (forBdy gtIn) [] (envG L)) R h g tk := by
  induction D with
  | nil =>
    intro h tk p tok ch τ hp hd S k
    have e0 : tok ++ (⟨([] : List Nat).toArray⟩ : Str) = tok := by apply Str.ext'; simp [Str.cps_append]
    rw [e0] at k
    have ew : ¬ (⟨#[w + 1]⟩ : Str) = ⟨#[10]⟩ := fun e => hw' (by simpa using e)
    all_goals (
      refine enter ?_
      refine go_fnR (F := 11) (H := 3458767814505007106) 59 (X.x) 0 S (by kernel_rfl!) fun _ _ h1 tk1 hdp hh1 XS1 => ?_
      refine XS1.S.lendG [3, 4, 5, 6, 7, 8, 9, 10, 11, 12] [false, false, false, false, false, false, false, false, true, true] (fun τ1 Sc Sb => read_char_spec X (ln := ln) (chr1_of hd) (by omega) Sc fun h2 τ2 t2 tk2 S2 => ?_) (by kernel_rfl!)
      rw [if_neg ew] at S2
      have S3 := Sb [11, 12] S2 (by kernel_rfl!)
      refine XS1.rt _ _ _ _ ?_
      refine go_eq (F := 4) (H := 2050) ⟨#[]⟩ ⟨#[w + 1]⟩ S3 (by kernel_rfl!) (fun e => ?_) (fun _ h4 tk4 S4 => ?_)
      · exact absurd e (by simp)
      refine go_in (F := 32) (H := 17126977762306301290859346242281351701825848321) ws ⟨#[w + 1]⟩ true S4 ((PySem.StrLaws.found_one ws (w + 1)).trans (decide_eq_true hw)) (by kernel_rfl!) fun h5 tk5 S5 => ?_
      refine go_ret (F := 3) (H := 1) (.str tok) S5 (by kernel_rfl!) fun h6 tk6 v hv S6 => ?_
      obtain ⟨t6, rfl⟩ := vv_str hv
      refine S6.give [0, 11, 12] (fun τ S => k _ _ ⟨#[w + 1]⟩ _ τ S) (by kernel_rfl!))
  | @plain c cs ds n1 n2 D ih =>
    intro h tk p tok ch τ hp hd S k
    have hlt : p < text.length := by
      have := congrArg List.length hd
      simp [Str.length] at this ⊢
      omega
    have e0 : (tok ++ (⟨#[c + 1]⟩ : Str)) ++ (⟨ds.toArray⟩ : Str) = tok ++ (⟨((c + 1) :: ds).toArray⟩ : Str) := by apply Str.ext'; simp [Str.cps_append]
    have ew : ¬ (⟨#[c + 1]⟩ : Str) = ⟨#[10]⟩ := fun e => by
      have e' : c + 1 = 10 := by simpa using e
      exact n2 (by rw [e']; decide)
    have e5 : p + ((c + 1) :: cs).length + 1 = (p + 1) + cs.length + 1 := by simp; omega
    rw [← e0, e5] at k
    have hlen2 : (tok ++ (⟨#[c + 1]⟩ : Str)).length = tok.length + 1 := by rw [Str.length_append]; rfl
    all_goals (
      refine enter ?_
      refine go_fnR (F := 11) (H := 3458767814505007106) 59 (X.x) 0 S (by kernel_rfl!) fun _ _ h1 tk1 hdp hh1 XS1 => ?_
      refine XS1.S.lendG [3, 4, 5, 6, 7, 8, 9, 10, 11, 12] [false, false, false, false, false, false, false, false, true, true] (fun τ1 Sc Sb => read_char_spec X (ln := ln) (chr1_of hd) (by omega) Sc fun h2 τ2 t2 tk2 S2 => ?_) (by kernel_rfl!)
      rw [if_neg ew] at S2
      have S3 := Sb [11, 12] S2 (by kernel_rfl!)
      refine XS1.rt _ _ _ _ ?_
      refine go_eq (F := 4) (H := 2050) ⟨#[]⟩ ⟨#[c + 1]⟩ S3 (by kernel_rfl!) (fun e => ?_) (fun _ h4 tk4 S4 => ?_)
      · exact absurd e (by simp)
      refine go_in (F := 32) (H := 17126977762306301290859346242281351701825848321) ws ⟨#[c + 1]⟩ false S4 ((PySem.StrLaws.found_one ws (c + 1)).trans (decide_eq_false n2)) (by kernel_rfl!) fun h5 tk5 S5 => ?_
      refine go_eq (F := 7) (H := 1) ⟨#[c + 1]⟩ ⟨#[92]⟩ S5 (by kernel_rfl!) (fun e => ?_) (fun _ h6 tk6 S6 => ?_)
      · exact absurd (show c + 1 = 92 by simpa using e) n1
      refine go_add (F := 7) (H := 1025) tok ⟨#[c + 1]⟩ S6 (by rw [hlen2, PySem.sizeLine_eq]; omega) (by kernel_rfl!) (fun h7 t7 tk7 S7 => ?_)
      refine go_again (F := 7) (H := 1025) S7 (fun h8 tk8 S8 => S8.give [0, 1, 2, 3, 4, 5, 6, 7, 8, 9, 10, 11, 12] (fun τ S => ih (p := p + 1) (tok := tok ++ (⟨#[c + 1]⟩ : Str)) (ch := ⟨#[c + 1]⟩) (by rw [hlen2]; omega) (drop_next hd) S k) (by kernel_rfl!)) (by kernel_rfl!))
  | @esc c cs ds n1 D ih =>
    intro h tk p tok ch τ hp hd S k
    have hlt : p + 1 < text.length := by
      have := congrArg List.length hd
      simp [Str.length] at this ⊢
      omega
    have e0 : (tok ++ (⟨#[c + 1]⟩ : Str)) ++ (⟨ds.toArray⟩ : Str) = tok ++ (⟨((c + 1) :: ds).toArray⟩ : Str) := by apply Str.ext'; simp [Str.cps_append]
    have ew : ¬ (⟨#[c + 1]⟩ : Str) = ⟨#[10]⟩ := fun e => n1 (by simpa using e)
    have ew2 : ¬ (⟨#[92]⟩ : Str) = ⟨#[10]⟩ := by decide
    have e5 : p + (92 :: (c + 1) :: cs).length + 1 = (p + 1 + 1) + cs.length + 1 := by simp; omega
    rw [← e0, e5] at k
    have hlen2 : (tok ++ (⟨#[c + 1]⟩ : Str)).length = tok.length + 1 := by rw [Str.length_append]; rfl
    all_goals (
      refine enter ?_
      refine go_fnR (F := 11) (H := 3458767814505007106) 59 (X.x) 0 S (by kernel_rfl!) fun _ _ h1 tk1 hdp hh1 XS1 => ?_
      refine XS1.S.lendG [3, 4, 5, 6, 7, 8, 9, 10, 11, 12] [false, false, false, false, false, false, false, false, true, true] (fun τ1 Sc Sb => read_char_spec X (ln := ln) (chr1_of hd) (by omega) Sc fun h2 τ2 t2 tk2 S2 => ?_) (by kernel_rfl!)
      rw [if_neg ew2] at S2
      have S3 := Sb [11, 12] S2 (by kernel_rfl!)
      refine XS1.rt _ _ _ _ ?_
      refine go_fnR (F := 71) (H := 26885685909032782582157472944639785494858126238474779009404643660020867718362803311483352362743644555266) 59 (X.x) 0 S3 (by kernel_rfl!) fun _ _ h7 tk7 hdp2 hh2 XS7 => ?_
      refine XS7.S.lendG [3, 4, 5, 6, 7, 8, 9, 10, 11, 12] [false, false, false, false, false, false, false, false, true, true] (fun τ1 Sc Sb => read_char_spec X (ln := ln) (chr1_of (drop_next hd)) (by omega) Sc fun h8 τ8 t8 tk8 S8 => ?_) (by kernel_rfl!)
      rw [if_neg ew] at S8
      have S9 := Sb [11, 12] S8 (by kernel_rfl!)
      refine XS7.rt _ _ _ _ ?_
      refine go_add (F := 15) (H := 1074791425) tok ⟨#[c + 1]⟩ S9 (by rw [hlen2, PySem.sizeLine_eq]; omega) (by kernel_rfl!) (fun h10 t10 tk10 S10 => ?_)
      refine go_again (F := 7) (H := 1025) S10 (fun h11 tk11 S11 => S11.give [0, 1, 2, 3, 4, 5, 6, 7, 8, 9, 10, 11, 12] (fun τ S => ih (p := p + 1 + 1) (tok := tok ++ (⟨#[c + 1]⟩ : Str)) (ch := ⟨#[c + 1]⟩) (by rw [hlen2]; omega) (drop_next (drop_next hd)) S k) (by kernel_rfl!)) (by kernel_rfl!))
end Mine
end
/-! ## Nx -/
section
open PySem PySem.W PyProof.Rows
set_option Elab.async false
set_option linter.unusedVariables false
set_option maxRecDepth 100000
set_option maxHeartbeats 2000000
namespace Mine
open PySem.SeqAt PySem.MeetsSeq PySem.MeetsSeq2 PySem.MeetsSeq3
theorem entry_next : entryFor table "callable_iterator.__next__" = some Builtin.«callable_iterator.__next__» := entryFor_of_fast (by kernel_rfl!)
noncomputable def vExc (a : Addr) : OV := ⟨.type "StopIteration", none, .fields [.ref a, .none, .none, .none, .bool false, .none], []⟩
noncomputable def vTup (vs : List VV) : OV := ⟨.type "tuple", none, .seq vs 0, []⟩
noncomputable def vItEnd : OV := ⟨.type "callable_iterator", none, .fields [.none, .none, .bool true], []⟩
/-- the stream is at its end: the sentinel -/
theorem next_end {C : Cx} {A : Around} {R : Post Result} {P : Params} {h₀ h : Heap} {fp : List Addr} {g : Gs} {tk : Nat} {id : String} {it m x f : Addr} {fd : FuncData} {dd : Option Addr} {sl : Array (Option Value)} {τ : List (List Tok)} {vl : List EV} (vl1 : Params → List EV)
    (e : PySem.W.S.eqLit 154871534474935724191431299575622858322749446335671712506274404 id = true) (hA : A.handled = none)
    (S : St (topObj P) h₀ h fp (mkL (⟨it, true, vIt m⟩ :: ⟨m, false, vMeth f x⟩ :: vl) τ)) (hf : topObj P f = some ⟨.type "function", dd, .func fd, sl⟩)
    (hc : CodeP C A.in1 (.call (.ref m) ⟨[], []⟩) (fun r h1 g1 tk1 => ∃ t1 τ1, r = .ok (.ret (.str ⟨#[]⟩ t1)) ∧ St (topObj P) h₀ h1 fp (mkL (⟨it, true, vIt m⟩ :: ⟨m, false, vMeth f x⟩ ::  vl1 P) τ1) ∧ g1 = g) h g tk)
    (k : ∀ h2 tk2 e a τ2, St (topObj P) h₀ h2 fp (mkL (⟨e, true, vExc a⟩ :: ⟨a, true, vTup []⟩ :: ⟨it, true, vItEnd⟩ :: ⟨m, false, vMeth f x⟩ ::  vl1 P) τ2) → R (.error (.ref e)) h2 g tk2) :
    CodeP C A (.builtin id ⟨[.ref it], []⟩) R h g tk := by
  rw [id_of (b := "callable_iterator.__next__") e (by decide +kernel)]
  refine ⟨codeAny_builtin entry_next ?_⟩
  rw [Around.under_plainId (by decide +kernel)]
  have hit := S.at (i := 0) rfl
  have hm := S.at (i := 1) rfl
  have hff := S.topGet hf
  have hit' : h.get? it = some { cls := .type "callable_iterator", dict := none, data := .fields #[.ref m, .str ⟨#[]⟩ (hdT (tlT (hdL τ))), .bool false], slots := #[] } := hit
  have hm' : h.get? m = some { cls := .type "method", dict := none, data := .fields #[.ref f, .ref x], slots := #[] } := hm
  wp_walk using wpAny_loadPart' hit', wpAny_load' hm', wpAny_load' hff
  refine X.x_call (codeAny_mono (show codeAny C.M A.in1 (.call (.ref m) ⟨[], []⟩) _ _ from hc.out) ?_) (fun z => nomatch z)
  rintro r s1 ⟨h1, g1, tk1, rfl, t1, τ1, rfl, S1, rfl⟩
  refine wpAny_pure ?_
  have hit1 := S1.at (i := 0) rfl
  have hm1' := S1.at (i := 1) rfl
  have hit1' : h1.get? it = some { cls := .type "callable_iterator", dict := none, data := .fields #[.ref m, .str ⟨#[]⟩ (hdT (tlT (hdL τ1))), .bool false], slots := #[] } := hit1
  have hm1 : h1.get? m = some { cls := .type "method", dict := none, data := .fields #[.ref f, .ref x], slots := #[] } := hm1'
  have hf1 := S1.topGet hf
  wp_walk using wpAny_loadPart' hit1'
  refine (wpAny_eqBool_str ?_ : wpAny _ _ (eqBool (.str ⟨#[]⟩ (hdT (tlT (hdL τ1)))) (.str ⟨#[]⟩ t1)) _ _ _)
  rw [decide_eq_true rfl]
  wp_walk using wpAny_loadPart' hit1', wpAny_load' hm1, wpAny_load' hf1
  rw [show ownMembersOf (.type "StopIteration") [] = #[] from by kernel_rfl!]
  simp only [List.headD_nil, ite_self]
  refine wpAny_raiseNew_none hA ⟨_, _, _, rfl, ?_⟩
  have S2 := S1.upd (f := Obj.mapFields fun x => x.setIfInBounds 0 Value.none) (i := 0) rfl rfl rfl
  have S3 := S2.upd (f := Obj.mapFields fun x => x.setIfInBounds 1 Value.none) (i := 0) rfl rfl rfl
  have S4 := S3.upd (f := Obj.mapFields fun x => x.setIfInBounds 2 (Value.bool true)) (i := 0) rfl rfl rfl
  have S5 := S4.alo (o := { cls := Value.type "tuple", data := Data.seq #[] }) rfl
  refine k _ _ _ (((h1.update it (Obj.mapFields fun x => x.setIfInBounds 0 Value.none)).update it (Obj.mapFields fun x => x.setIfInBounds 1 Value.none)).update it (Obj.mapFields fun x => x.setIfInBounds 2 (Value.bool true))).objs.size ([] :: [] :: [] :: tlL τ1) ?_
  exact S5.alo rfl
end Mine
end
/-! ## Sl3 -/
section
open PySem PySem.W PyProof.Rows
set_option Elab.async false
set_option linter.unusedVariables false
set_option maxRecDepth 100000
set_option maxHeartbeats 2000000
namespace Mine
/-! ## The runs with their base given (so that an address can be told from 1) -/
section
variable {C : Cx} {A₀ : Around} {R₀ : Post Result} {T : Nat → Option Obj} {h₀ : Heap} {fp : List Addr} {n tk : Nat} {g : Gs} {h : Heap} {l : List Ent} {κ : Kont} {r : Result}
theorem gn_code {F H : Nat} (hn : h.objs.size = n) (c' : Code) (d : Nat) (S : St T h₀ h fp l)
    (hk : ((simA C A₀ T n tk F κ r l H).acc.map (·.1), isRet κ, (arO A₀ (simA C A₀ T n tk F κ r l H)).depth, (arO A₀ (simA C A₀ T n tk F κ r l H)).handled, codeO (simA C A₀ T n tk F κ r l H)) = ((simA C A₀ T n tk F κ r l H).acc.map (·.2), true, A₀.depth + d, A₀.handled, some c'))
    (x : ∀ h' tk', (arO A₀ (simA C A₀ T n tk F κ r l H)).depth = A₀.depth + d → (arO A₀ (simA C A₀ T n tk F κ r l H)).handled = A₀.handled → St T h₀ h' fp (simA C A₀ T n tk F κ r l H).l → CodeP C (arO A₀ (simA C A₀ T n tk F κ r l H)) c' (After C A₀ R₀ (κO (simA C A₀ T n tk F κ r l H))) h' g tk') :
    After C A₀ R₀ κ r h g tk := by
  subst hn
  exact go_code c' d S hk x
end
noncomputable def raiseO (o : Out) : Option VV := match o.κ with
  | .base => match o.t with
    | .raise e => some (vv e)
    | _ => none
  | _ => none
/-- the end: an exception -/
theorem go_raise {C : Cx} {A₀ : Around} {R₀ : Post Result} {T : Nat → Option Obj} {h₀ : Heap} {fp : List Addr} {tk : Nat} {g : Gs} {h : Heap} {l : List Ent} {κ : Kont} {r : Result} {F H : Nat} (v : VV) (S : St T h₀ h fp l)
    (hk : ((simA C A₀ T h.objs.size tk F κ r l H).acc.map (·.1), isRet κ, raiseO (simA C A₀ T h.objs.size tk F κ r l H)) = ((simA C A₀ T h.objs.size tk F κ r l H).acc.map (·.2), true, some v))
    (x : ∀ h' tk' w, vv w = v → St T h₀ h' fp (simA C A₀ T h.objs.size tk F κ r l H).l → R₀ (.error w) h' g tk') :
    After C A₀ R₀ κ r h g tk := by
  have e1 := congrArg (·.1) hk
  have e2 := congrArg (·.2.1) hk
  have e3 : raiseO (simA C A₀ T h.objs.size tk F κ r l H) = some v := congrArg (·.2.2) hk
  refine run S e2 e1 fun h' tk' S' => ?_
  have y := fun w hw => x h' tk' w hw S'
  generalize simA C A₀ T h.objs.size tk F κ r l H = o at e3 S' y ⊢
  obtain ⟨κ, c₁, t, l, m, i, acc⟩ := o
  unfold raiseO at e3
  dsimp only at e3 ⊢
  split at e3
  · split at e3
    · rename_i e
      cases e3
      exact X.y_raise _ _ _ _ _ _ _ _ _ (After.endS (A₀ := A₀) (κ := .base) ⟨y e rfl⟩)
    · cases e3
  · cases e3
end Mine
end
/-! ## Ad2 -/
section
open PySem PySem.W PyProof.Rows
set_option Elab.async false
set_option linter.unusedVariables false
set_option maxRecDepth 100000
set_option maxHeartbeats 2000000
namespace Mine
/-! ## zip of two pairs -/
noncomputable def vZip (f0 : VV) (TI TO : Addr) : OV := ⟨.type "zip", none, .fields [f0, .bool false, .bool false, .ref TI, .ref TO], []⟩
noncomputable def vTI (t : Addr) (i : Int) : OV := ⟨.type "tuple_iterator", none, .fields [.ref t, .int i], []⟩
noncomputable def ZV (z TI TO i1 i2 t1 t2 : Addr) (f0 : VV) (o1 o2 : VV) (i : Int) (a1 b1 a2 b2 : Int) : List EV :=
  [⟨z, true, vZip f0 TI TO⟩, ⟨TO, true, vTup [o1, o2]⟩, ⟨i1, true, vTI t1 i⟩, ⟨i2, true, vTI t2 i⟩, ⟨TI, false, vTup [.ref i1, .ref i2]⟩, ⟨t1, false, vTup [.int a1, .int b1]⟩, ⟨t2, false, vTup [.int a2, .int b2]⟩]
section
variable {C : Cx} {A : Around} {R : Post Result} {h : Heap} {g : Gs} {tk : Nat} {z TI TO i1 i2 t1 t2 : Addr} {a1 b1 a2 b2 : Int} {τ : List (List Tok)}
noncomputable abbrev zipObj (f0 : Value) (TI TO : Addr) : Obj := { cls := .type "zip", dict := none, data := .fields #[f0, .bool false, .bool false, .ref TI, .ref TO], slots := #[] }
theorem zip_item0 (hA : A.handled = none)
    (S : St (fun _ => none) h h [z, TO, i1, i2] (mkL (ZV z TI TO i1 i2 t1 t2 .none .none .none 0 a1 b1 a2 b2) τ))
    (k : ∀ h' tk' T τ', h.objs.size ≤ T → St (fun _ => none) h h' [z, TO, i1, i2] (mkL (⟨T, true, vTup [.int a1, .int a2]⟩ :: ZV z TI TO i1 i2 t1 t2 (.int (T : Int)) (.int a1) (.int a2) 1 a1 b1 a2 b2) τ') → h'.get? z = some (zipObj (rawInt T) TI TO) → R (.ok (.ret (.ref T))) h' g tk') :
    CodeP C A (.call (.builtin "zip.__next__") ⟨[.ref z], []⟩) R h g tk := by
  obtain ⟨hd, dp, fr, gs, un⟩ := A
  cases hA
  refine enter ?_
  refine go_ret (F := 46) (H := 4483868261955174020744517883000514205818311639245123290519974730201483740526068125714342775499728618497) (.ref (h.objs.size + 0)) S (by kernel_rfl!) fun h1 tk1 v hv S1 => ?_
  obtain rfl := vv_ref hv
  have hz := S1.at (i := 1) (e := ⟨z, true, zipObj (rawInt (h.objs.size + 0 : Nat)) TI TO⟩) (by kernel_rfl!)
  exact S1.give [0, 1, 2, 3, 4, 5, 6, 7] (fun τ S => k _ _ (h.objs.size + 0) τ (Nat.le_refl _) S hz) (by kernel_rfl!)
theorem zip_item1 (hA : A.handled = none)
    (S : St (fun _ => none) h h [z, TO, i1, i2] (mkL (ZV z TI TO i1 i2 t1 t2 .none (.int a1) (.int a2) 1 a1 b1 a2 b2) τ))
    (k : ∀ h' tk' T τ', h.objs.size ≤ T → St (fun _ => none) h h' [z, TO, i1, i2] (mkL (⟨T, true, vTup [.int b1, .int b2]⟩ :: ZV z TI TO i1 i2 t1 t2 (.int (T : Int)) (.int b1) (.int b2) 2 a1 b1 a2 b2) τ') → h'.get? z = some (zipObj (rawInt T) TI TO) → R (.ok (.ret (.ref T))) h' g tk') :
    CodeP C A (.call (.builtin "zip.__next__") ⟨[.ref z], []⟩) R h g tk := by
  obtain ⟨hd, dp, fr, gs, un⟩ := A
  cases hA
  refine enter ?_
  refine go_ret (F := 46) (H := 4483868261955174020744517883000514205818311639245123290519974730201483740526068125714342775499728618497) (.ref (h.objs.size + 0)) S (by kernel_rfl!) fun h1 tk1 v hv S1 => ?_
  obtain rfl := vv_ref hv
  have hz := S1.at (i := 1) (e := ⟨z, true, zipObj (rawInt (h.objs.size + 0 : Nat)) TI TO⟩) (by kernel_rfl!)
  exact S1.give [0, 1, 2, 3, 4, 5, 6, 7] (fun τ S => k _ _ (h.objs.size + 0) τ (Nat.le_refl _) S hz) (by kernel_rfl!)
theorem zip_end (hA : A.handled = none)
    (S : St (fun _ => none) h h [z, TO, i1, i2] (mkL (ZV z TI TO i1 i2 t1 t2 .none (.int b1) (.int b2) 2 a1 b1 a2 b2) τ))
    (k : ∀ h' tk' e, (∀ b o, b ∉ [z, TO, i1, i2] → h.get? b = some o → h'.get? b = some o) → (∃ o, h'.get? e = some o ∧ o.cls = .type "StopIteration") → R (.error (.ref e)) h' g tk') :
    CodeP C A (.call (.builtin "zip.__next__") ⟨[.ref z], []⟩) R h g tk := by
  obtain ⟨hd, dp, fr, gs, un⟩ := A
  cases hA
  refine enter ?_
  refine go_raise (F := 26) (H := 4388790840551919027801352600684762053789013246977) (.ref (h.objs.size + 1)) S (by kernel_rfl!) fun h1 tk1 v hv S1 => ?_
  obtain rfl := vv_ref hv
  exact S1.give [0] (vl := [⟨h.objs.size + 1, true, vExc (h.objs.size + 0)⟩]) (fun τ S => k _ _ _ (fun b o hb e => S.old b o e hb) ⟨_, S.at (i := 0) rfl, rfl⟩) (by kernel_rfl!)
end
noncomputable def ZVs (z TI TO i1 i2 t1 : Addr) (f0 : VV) (o1 o2 : VV) (i : Int) (a1 b1 : Int) : List EV :=
  [⟨z, true, vZip f0 TI TO⟩, ⟨TO, true, vTup [o1, o2]⟩, ⟨i1, true, vTI t1 i⟩, ⟨i2, true, vTI t1 i⟩, ⟨TI, false, vTup [.ref i1, .ref i2]⟩, ⟨t1, false, vTup [.int a1, .int b1]⟩]
section
variable {C : Cx} {A : Around} {R : Post Result} {h : Heap} {g : Gs} {tk : Nat} {z TI TO i1 i2 t1 : Addr} {a1 b1 : Int} {τ : List (List Tok)}
theorem zip_item0s (hA : A.handled = none)
    (S : St (fun _ => none) h h [z, TO, i1, i2] (mkL (ZVs z TI TO i1 i2 t1 .none .none .none 0 a1 b1) τ))
    (k : ∀ h' tk' T τ', h.objs.size ≤ T → St (fun _ => none) h h' [z, TO, i1, i2] (mkL (⟨T, true, vTup [.int a1, .int a1]⟩ :: ZVs z TI TO i1 i2 t1 (.int (T : Int)) (.int a1) (.int a1) 1 a1 b1) τ') → h'.get? z = some (zipObj (rawInt T) TI TO) → R (.ok (.ret (.ref T))) h' g tk') :
    CodeP C A (.call (.builtin "zip.__next__") ⟨[.ref z], []⟩) R h g tk := by
  obtain ⟨hd, dp, fr, gs, un⟩ := A
  cases hA
  refine enter ?_
  refine go_ret (F := 46) (H := 4483868261955174020744517883000512480381724941604176431831009160945120627748825083117703984868672668673) (.ref (h.objs.size + 0)) S (by kernel_rfl!) fun h1 tk1 v hv S1 => ?_
  obtain rfl := vv_ref hv
  have hz := S1.at (i := 1) (e := ⟨z, true, zipObj (rawInt (h.objs.size + 0 : Nat)) TI TO⟩) (by kernel_rfl!)
  exact S1.give [0, 1, 2, 3, 4, 5, 6] (fun τ S => k _ _ (h.objs.size + 0) τ (Nat.le_refl _) S hz) (by kernel_rfl!)
theorem zip_item1s (hA : A.handled = none)
    (S : St (fun _ => none) h h [z, TO, i1, i2] (mkL (ZVs z TI TO i1 i2 t1 .none (.int a1) (.int a1) 1 a1 b1) τ))
    (k : ∀ h' tk' T τ', h.objs.size ≤ T → St (fun _ => none) h h' [z, TO, i1, i2] (mkL (⟨T, true, vTup [.int b1, .int b1]⟩ :: ZVs z TI TO i1 i2 t1 (.int (T : Int)) (.int b1) (.int b1) 2 a1 b1) τ') → h'.get? z = some (zipObj (rawInt T) TI TO) → R (.ok (.ret (.ref T))) h' g tk') :
    CodeP C A (.call (.builtin "zip.__next__") ⟨[.ref z], []⟩) R h g tk := by
  obtain ⟨hd, dp, fr, gs, un⟩ := A
  cases hA
  refine enter ?_
  refine go_ret (F := 46) (H := 4483868261955174020744517883000512480381724941604176431831009160945120627748825083117703984868672668673) (.ref (h.objs.size + 0)) S (by kernel_rfl!) fun h1 tk1 v hv S1 => ?_
  obtain rfl := vv_ref hv
  have hz := S1.at (i := 1) (e := ⟨z, true, zipObj (rawInt (h.objs.size + 0 : Nat)) TI TO⟩) (by kernel_rfl!)
  exact S1.give [0, 1, 2, 3, 4, 5, 6] (fun τ S => k _ _ (h.objs.size + 0) τ (Nat.le_refl _) S hz) (by kernel_rfl!)
theorem zip_ends (hA : A.handled = none)
    (S : St (fun _ => none) h h [z, TO, i1, i2] (mkL (ZVs z TI TO i1 i2 t1 .none (.int b1) (.int b1) 2 a1 b1) τ))
    (k : ∀ h' tk' e, (∀ b o, b ∉ [z, TO, i1, i2] → h.get? b = some o → h'.get? b = some o) → (∃ o, h'.get? e = some o ∧ o.cls = .type "StopIteration") → R (.error (.ref e)) h' g tk') :
    CodeP C A (.call (.builtin "zip.__next__") ⟨[.ref z], []⟩) R h g tk := by
  obtain ⟨hd, dp, fr, gs, un⟩ := A
  cases hA
  refine enter ?_
  refine go_raise (F := 26) (H := 4388790840551919027801352600684762053789013246977) (.ref (h.objs.size + 1)) S (by kernel_rfl!) fun h1 tk1 v hv S1 => ?_
  obtain rfl := vv_ref hv
  exact S1.give [0] (vl := [⟨h.objs.size + 1, true, vExc (h.objs.size + 0)⟩]) (fun τ S => k _ _ _ (fun b o hb e => S.old b o e hb) ⟨_, S.at (i := 0) rfl, rfl⟩) (by kernel_rfl!)
end
theorem St.mk0 {h : Heap} {fp : List Addr} {l : List Ent} (nd : (l.map (·.a)).Nodup) (get : ∀ p ∈ l, h.get? p.a = some p.o) (wr : ∀ p ∈ l, p.w = true → p.a ∈ fp) (lim : h.NoLimit) (two : cStatics ∉ fp) : St (fun _ => none) h h fp l :=
  ⟨nd, get, fun p hp hw => .inl (wr p hp hw), fun _ _ e _ => e, fun _ _ e => (nomatch e), Nat.le_refl _, lim, two⟩
end Mine
end
/-! ## Ad3 -/
section
open PySem PySem.W PyProof.Rows
set_option Elab.async false
set_option linter.unusedVariables false
set_option maxRecDepth 100000
set_option maxHeartbeats 400000
namespace Mine
theorem call_of {C : Cx} {A : Around} {f : Value} {pos : List Value} {Q : Value → Shared → Prop} {E : Value → Shared → Prop} {h : Heap} {g : Gs} {tk : Nat}
    (x : CodeP C A (.call f ⟨pos, []⟩) (fun r h g tk => match r with | .ok (.ret v) => Q v ⟨h, g, C.d, tk, C.os⟩ | .ok _ => False | .error e => E e ⟨h, g, C.d, tk, C.os⟩) h g tk) : wpAny C.M A (call f pos) Q E ⟨h, g, C.d, tk, C.os⟩ := by
  refine wpAny_call (codeAny_mono x.out fun r s' y => ?_)
  obtain ⟨h', g', tk', rfl, y⟩ := y
  cases r with
  | ok f => cases f <;> exact y
  | error e => exact y
section
variable (z TI TO i1 i2 t1 t2 : Addr) (a1 b1 a2 b2 : Int)
noncomputable def zo (a b : Int) : Nat → VV
  | 0 => .none
  | 1 => .int a
  | _ => .int b
noncomputable def zp (a b : Int) : Nat → Int
  | 0 => a
  | _ => b
noncomputable def ZSt (i : Nat) (h : Heap) : Prop := h.NoLimit ∧ ∃ τ, ∀ p ∈ mkL (ZV z TI TO i1 i2 t1 t2 .none (zo a1 b1 i) (zo a2 b2 i) i a1 b1 a2 b2) τ, h.get? p.a = some p.o
noncomputable def ZMid (i : Nat) (T : Addr) (h : Heap) : Prop := h.NoLimit ∧ T ∉ [z, TO, i1, i2] ∧ h.get? z = some (zipObj (rawInt T) TI TO) ∧ ∃ τ, ∀ p ∈ mkL (ZV z TI TO i1 i2 t1 t2 (.int T) (zo a1 b1 (i + 1)) (zo a2 b2 (i + 1)) (i + 1 : Nat) a1 b1 a2 b2) τ, h.get? p.a = some p.o
theorem ZV_addr (f0 o1 o2 : VV) (i : Int) (τ : List (List Tok)) : (mkL (ZV z TI TO i1 i2 t1 t2 f0 o1 o2 i a1 b1 a2 b2) τ).map (·.a) = [z, TO, i1, i2, TI, t1, t2] := rfl
theorem ZV_St {f0 o1 o2 : VV} {i : Int} {τ : List (List Tok)} {h : Heap} (nd : [z, TO, i1, i2, TI, t1, t2].Nodup) (hcs : cStatics ∉ [z, TO, i1, i2]) (hl : h.NoLimit)
    (hg : ∀ p ∈ mkL (ZV z TI TO i1 i2 t1 t2 f0 o1 o2 i a1 b1 a2 b2) τ, h.get? p.a = some p.o) : St (fun _ => none) h h [z, TO, i1, i2] (mkL (ZV z TI TO i1 i2 t1 t2 f0 o1 o2 i a1 b1 a2 b2) τ) := by
  refine St.mk0 (by rw [ZV_addr]; exact nd) hg (fun p hp hw => ?_) hl hcs
  simp only [ZV, mkL, List.mem_cons, List.not_mem_nil, or_false] at hp
  rcases hp with rfl | rfl | rfl | rfl | rfl | rfl | rfl
  · exact .head _
  · exact .tail _ (.head _)
  · exact .tail _ (.tail _ (.head _))
  · exact .tail _ (.tail _ (.tail _ (.head _)))
  · cases hw
  · cases hw
  · cases hw
theorem zip_next_of {C : Cx} {A : Around} {Q : Option Value → Shared → Prop} {E : Value → Shared → Prop} {h : Heap} {g : Gs} {tk : Nat} {f0 : Value} (hz : h.get? z = some (zipObj f0 TI TO))
    (x : CodeP C A (.call (.builtin "zip.__next__") ⟨[.ref z], []⟩) (fun r h g tk => match r with | .ok (.ret v) => Q (some v) ⟨h, g, C.d, tk, C.os⟩ | .ok _ => False | .error e => wpAny C.M A (do if ← isInstance e (.type "StopIteration") then pure none else throw e) Q E ⟨h, g, C.d, tk, C.os⟩) h g tk) : wpAny C.M A (pyNext (.ref z)) Q E ⟨h, g, C.d, tk, C.os⟩ := by
  have hT : Shared.TypeIs ⟨h, g, C.d, tk, C.os⟩ (.ref z) "zip" := ⟨_, hz, rfl⟩
  unfold pyNext
  refine wpAny_bind (wpAny_attempt (wpAny_callSpecial?_slot (name := Str.ofString "__next__") hT F.slot_zip_next (call_of ⟨codeAny_mono x.out fun r s' y => ?_⟩)))
  obtain ⟨h', g', tk', rfl, y⟩ := y
  refine ⟨h', g', tk', rfl, ?_⟩
  cases r with
  | ok f => cases f with
    | ret v => exact wpAny_pure y
    | _ => exact y
  | error e => exact y
theorem zip_item {C : Cx} {A : Around} {R : Post Result} {h : Heap} {g : Gs} {tk : Nat} {τ : List (List Tok)} (hA : A.handled = none) (i : Nat) (hi : i < 2)
    (S : St (fun _ => none) h h [z, TO, i1, i2] (mkL (ZV z TI TO i1 i2 t1 t2 .none (zo a1 b1 i) (zo a2 b2 i) i a1 b1 a2 b2) τ))
    (k : ∀ h' tk' T τ', h.objs.size ≤ T → St (fun _ => none) h h' [z, TO, i1, i2] (mkL (⟨T, true, vTup [.int (zp a1 b1 i), .int (zp a2 b2 i)]⟩ :: ZV z TI TO i1 i2 t1 t2 (.int (T : Int)) (zo a1 b1 (i + 1)) (zo a2 b2 (i + 1)) (i + 1 : Nat) a1 b1 a2 b2) τ') → h'.get? z = some (zipObj (rawInt T) TI TO) → R (.ok (.ret (.ref T))) h' g tk') :
    CodeP C A (.call (.builtin "zip.__next__") ⟨[.ref z], []⟩) R h g tk := by
  rcases i with _ | _ | i
  · exact zip_item0 hA S k
  · exact zip_item1 hA S k
  · omega
theorem zip_walks (prog : Program) (w : World) {A : Around} (hA : A.handled = none) (nd : [z, TO, i1, i2, TI, t1, t2].Nodup) (hcs : cStatics ∉ [z, TO, i1, i2]) :
    WalksU prog w A z (cStatics :: [z, TO, i1, i2, TI, t1, t2]) [z, TO, i1, i2] 2 (fun i vals => ∃ ta tb, vals = #[.int (zp a1 b1 i) ta, .int (zp a2 b2 i) tb]) (ZSt z TI TO i1 i2 t1 t2 a1 b1 a2 b2) (ZMid z TI TO i1 i2 t1 t2 a1 b1 a2 b2) where
  sub := fun b hb => by
    rcases List.mem_cons.mp hb with rfl | hb
    · exact .tail _ (.head _)
    rcases List.mem_cons.mp hb with rfl | hb
    · exact .tail _ (.tail _ (.head _))
    rcases List.mem_cons.mp hb with rfl | hb
    · exact .tail _ (.tail _ (.tail _ (.head _)))
    rcases List.mem_cons.mp hb with rfl | hb
    · exact .tail _ (.tail _ (.tail _ (.tail _ (.head _))))
    · cases hb
  frame := fun i h h' st hk => by
    obtain ⟨hl, τ, hg⟩ := st
    refine ⟨hl.at fun o e => hk _ (.head _) _ e, τ, fun p hp => hk _ ?_ _ (hg p hp)⟩
    have : p.a ∈ (mkL (ZV z TI TO i1 i2 t1 t2 .none (zo a1 b1 i) (zo a2 b2 i) i a1 b1 a2 b2) τ).map (·.a) := List.mem_map_of_mem hp
    rw [ZV_addr] at this
    exact .tail _ this
  item := fun i s Q E hi st hQ => by
    obtain ⟨h, g, dn, tk, os⟩ := s
    obtain ⟨draws, P⟩ := w
    have key : ∀ (T : Addr) (h' : Heap) (tk' : Nat) (τ' : List (List Tok)), h.objs.size ≤ T → St (fun _ => none) h h' [z, TO, i1, i2] (mkL (⟨T, true, vTup [.int (zp a1 b1 i), .int (zp a2 b2 i)]⟩ :: ZV z TI TO i1 i2 t1 t2 (.int (T : Int)) (zo a1 b1 (i + 1)) (zo a2 b2 (i + 1)) (i + 1 : Nat) a1 b1 a2 b2) τ') → h'.get? z = some (zipObj (rawInt T) TI TO) → Q (some (.ref T)) ⟨h', g, dn, tk', os⟩ := by
      intro T h' tk' τ' hT S' hz
      have nd' := S'.nd
      have hTn : T ∉ [z, TO, i1, i2] := fun hm => by
        have hlt : T < h.objs.size := by
          obtain ⟨_, τ, hg⟩ := st
          have : ∀ p ∈ mkL (ZV z TI TO i1 i2 t1 t2 .none (zo a1 b1 i) (zo a2 b2 i) i a1 b1 a2 b2) τ, p.a < h.objs.size := fun p hp => Heap.lt_size (hg p hp)
          rcases List.mem_cons.mp hm with rfl | hm
          · exact this _ (.head _)
          rcases List.mem_cons.mp hm with rfl | hm
          · exact this _ (.tail _ (.head _))
          rcases List.mem_cons.mp hm with rfl | hm
          · exact this _ (.tail _ (.tail _ (.head _)))
          rcases List.mem_cons.mp hm with rfl | hm
          · exact this _ (.tail _ (.tail _ (.tail _ (.head _))))
          · cases hm
        exact absurd hlt (Nat.not_lt.mpr hT)
      refine hQ T #[.int (zp a1 b1 i) (hdT (hdL τ')), .int (zp a2 b2 i) (hdT (tlT (hdL τ')))] h' tk' ⟨_, _, rfl⟩ ⟨_, S'.at (i := 0) rfl, rfl, 0, rfl⟩ ⟨S'.nolim, hTn, hz, tlL τ', fun p hp => S'.get p (.tail _ hp)⟩ fun b o hb e => S'.old b o e hb
    obtain ⟨hl, τ, hg⟩ := st
    obtain ⟨b1', b2', ⟨P', rfl⟩⟩ : ∃ b1' b2', ∃ P', P = flg P' b1' b2' := ⟨_, _, P, (flg_self P).symm⟩
    have hz := hg _ (.head _)
    have S := ZV_St z TI TO i1 i2 t1 t2 a1 b1 a2 b2 nd hcs hl hg
    refine zip_next_of (C := ⟨prog, draws, P', b1', b2', dn, os⟩) z TI TO hz (zip_item z TI TO i1 i2 t1 t2 a1 b1 a2 b2 hA i hi S fun h' tk' T τ' hT S' hz' => key T h' tk' τ' hT S' hz')
  go := fun elts k pos i T s Q E hm hQ => by
    obtain ⟨hl, hTn, hz, τ, hg⟩ := hm
    refine wpAny_letOwnedTupleGo_zip (TI := TI) (TO := TO) hz fun h' hz' hs' => hQ h' ⟨hl.at fun o e => (hs'.2 _ (fun q => hcs (q ▸ .head _))).trans e, τ, ?_⟩ fun b o hb e => (hs'.2 b (fun q => hb (q ▸ .head _))).trans e
    intro p hp
    rcases List.mem_cons.mp hp with rfl | hp
    · exact hz'
    · have hpz : p.a ≠ z := fun q => by
        have := (List.nodup_cons.mp nd).1
        refine this ?_
        have hm : p.a ∈ (mkL (ZV z TI TO i1 i2 t1 t2 (.int T) (zo a1 b1 (i + 1)) (zo a2 b2 (i + 1)) (i + 1 : Nat) a1 b1 a2 b2) τ).tail.map (·.a) := List.mem_map_of_mem hp
        rw [q] at hm
        exact hm
      exact (hs'.2 _ hpz).trans (hg p (.tail _ hp))
  apart := fun i T h hm => hm.2.1
  done := fun s Q E st hQ => by
    obtain ⟨h, g, dn, tk, os⟩ := s
    obtain ⟨draws, P⟩ := w
    obtain ⟨hl, τ, hg⟩ := st
    obtain ⟨b1', b2', ⟨P', rfl⟩⟩ : ∃ b1' b2', ∃ P', P = flg P' b1' b2' := ⟨_, _, P, (flg_self P).symm⟩
    have hz := hg _ (.head _)
    have S := ZV_St z TI TO i1 i2 t1 t2 a1 b1 a2 b2 nd hcs hl hg
    refine zip_next_of (C := ⟨prog, draws, P', b1', b2', dn, os⟩) z TI TO hz (zip_end hA S fun h' tk' e hk he => ?_)
    refine wpAny_bind (wpAny_isInstance (T := "StopIteration") (b := true) he isSubtype_stop ?_)
    exact wpAny_pure (hQ _ _ hk)
  self := fun i s Q E st hQ => by
    obtain ⟨hl, τ, hg⟩ := st
    have := hg _ (.head _)
    exact wpAny_pyIter_zip (TI := TI) (TO := TO) (f0 := .none) this hQ
end
section
variable (z TI TO i1 i2 t1 : Addr) (a1 b1 : Int)
noncomputable def ZSts (i : Nat) (h : Heap) : Prop := h.NoLimit ∧ ∃ τ, ∀ p ∈ mkL (ZVs z TI TO i1 i2 t1 .none (zo a1 b1 i) (zo a1 b1 i) i a1 b1) τ, h.get? p.a = some p.o
noncomputable def ZMids (i : Nat) (T : Addr) (h : Heap) : Prop := h.NoLimit ∧ T ∉ [z, TO, i1, i2] ∧ h.get? z = some (zipObj (rawInt T) TI TO) ∧ ∃ τ, ∀ p ∈ mkL (ZVs z TI TO i1 i2 t1 (.int T) (zo a1 b1 (i + 1)) (zo a1 b1 (i + 1)) (i + 1 : Nat) a1 b1) τ, h.get? p.a = some p.o
theorem ZV_addrs (f0 o1 o2 : VV) (i : Int) (τ : List (List Tok)) : (mkL (ZVs z TI TO i1 i2 t1 f0 o1 o2 i a1 b1) τ).map (·.a) = [z, TO, i1, i2, TI, t1] := rfl
theorem ZV_Sts {f0 o1 o2 : VV} {i : Int} {τ : List (List Tok)} {h : Heap} (nd : [z, TO, i1, i2, TI, t1].Nodup) (hcs : cStatics ∉ [z, TO, i1, i2]) (hl : h.NoLimit)
    (hg : ∀ p ∈ mkL (ZVs z TI TO i1 i2 t1 f0 o1 o2 i a1 b1) τ, h.get? p.a = some p.o) : St (fun _ => none) h h [z, TO, i1, i2] (mkL (ZVs z TI TO i1 i2 t1 f0 o1 o2 i a1 b1) τ) := by
  refine St.mk0 (by rw [ZV_addrs]; exact nd) hg (fun p hp hw => ?_) hl hcs
  simp only [ZVs, mkL, List.mem_cons, List.not_mem_nil, or_false] at hp
  rcases hp with rfl | rfl | rfl | rfl | rfl | rfl
  · exact .head _
  · exact .tail _ (.head _)
  · exact .tail _ (.tail _ (.head _))
  · exact .tail _ (.tail _ (.tail _ (.head _)))
  · cases hw
  · cases hw
theorem zip_items {C : Cx} {A : Around} {R : Post Result} {h : Heap} {g : Gs} {tk : Nat} {τ : List (List Tok)} (hA : A.handled = none) (i : Nat) (hi : i < 2)
    (S : St (fun _ => none) h h [z, TO, i1, i2] (mkL (ZVs z TI TO i1 i2 t1 .none (zo a1 b1 i) (zo a1 b1 i) i a1 b1) τ))
    (k : ∀ h' tk' T τ', h.objs.size ≤ T → St (fun _ => none) h h' [z, TO, i1, i2] (mkL (⟨T, true, vTup [.int (zp a1 b1 i), .int (zp a1 b1 i)]⟩ :: ZVs z TI TO i1 i2 t1 (.int (T : Int)) (zo a1 b1 (i + 1)) (zo a1 b1 (i + 1)) (i + 1 : Nat) a1 b1) τ') → h'.get? z = some (zipObj (rawInt T) TI TO) → R (.ok (.ret (.ref T))) h' g tk') :
    CodeP C A (.call (.builtin "zip.__next__") ⟨[.ref z], []⟩) R h g tk := by
  rcases i with _ | _ | i
  · exact zip_item0s hA S k
  · exact zip_item1s hA S k
  · omega
theorem zip_walkss (prog : Program) (w : World) {A : Around} (hA : A.handled = none) (nd : [z, TO, i1, i2, TI, t1].Nodup) (hcs : cStatics ∉ [z, TO, i1, i2]) :
    WalksU prog w A z (cStatics :: [z, TO, i1, i2, TI, t1]) [z, TO, i1, i2] 2 (fun i vals => ∃ ta tb, vals = #[.int (zp a1 b1 i) ta, .int (zp a1 b1 i) tb]) (ZSts z TI TO i1 i2 t1 a1 b1) (ZMids z TI TO i1 i2 t1 a1 b1) where
  sub := fun b hb => by
    rcases List.mem_cons.mp hb with rfl | hb
    · exact .tail _ (.head _)
    rcases List.mem_cons.mp hb with rfl | hb
    · exact .tail _ (.tail _ (.head _))
    rcases List.mem_cons.mp hb with rfl | hb
    · exact .tail _ (.tail _ (.tail _ (.head _)))
    rcases List.mem_cons.mp hb with rfl | hb
    · exact .tail _ (.tail _ (.tail _ (.tail _ (.head _))))
    · cases hb
  frame := fun i h h' st hk => by
    obtain ⟨hl, τ, hg⟩ := st
    refine ⟨hl.at fun o e => hk _ (.head _) _ e, τ, fun p hp => hk _ ?_ _ (hg p hp)⟩
    have : p.a ∈ (mkL (ZVs z TI TO i1 i2 t1 .none (zo a1 b1 i) (zo a1 b1 i) i a1 b1) τ).map (·.a) := List.mem_map_of_mem hp
    rw [ZV_addrs] at this
    exact .tail _ this
  item := fun i s Q E hi st hQ => by
    obtain ⟨h, g, dn, tk, os⟩ := s
    obtain ⟨draws, P⟩ := w
    have key : ∀ (T : Addr) (h' : Heap) (tk' : Nat) (τ' : List (List Tok)), h.objs.size ≤ T → St (fun _ => none) h h' [z, TO, i1, i2] (mkL (⟨T, true, vTup [.int (zp a1 b1 i), .int (zp a1 b1 i)]⟩ :: ZVs z TI TO i1 i2 t1 (.int (T : Int)) (zo a1 b1 (i + 1)) (zo a1 b1 (i + 1)) (i + 1 : Nat) a1 b1) τ') → h'.get? z = some (zipObj (rawInt T) TI TO) → Q (some (.ref T)) ⟨h', g, dn, tk', os⟩ := by
      intro T h' tk' τ' hT S' hz
      have nd' := S'.nd
      have hTn : T ∉ [z, TO, i1, i2] := fun hm => by
        have hlt : T < h.objs.size := by
          obtain ⟨_, τ, hg⟩ := st
          have : ∀ p ∈ mkL (ZVs z TI TO i1 i2 t1 .none (zo a1 b1 i) (zo a1 b1 i) i a1 b1) τ, p.a < h.objs.size := fun p hp => Heap.lt_size (hg p hp)
          rcases List.mem_cons.mp hm with rfl | hm
          · exact this _ (.head _)
          rcases List.mem_cons.mp hm with rfl | hm
          · exact this _ (.tail _ (.head _))
          rcases List.mem_cons.mp hm with rfl | hm
          · exact this _ (.tail _ (.tail _ (.head _)))
          rcases List.mem_cons.mp hm with rfl | hm
          · exact this _ (.tail _ (.tail _ (.tail _ (.head _))))
          · cases hm
        exact absurd hlt (Nat.not_lt.mpr hT)
      refine hQ T #[.int (zp a1 b1 i) (hdT (hdL τ')), .int (zp a1 b1 i) (hdT (tlT (hdL τ')))] h' tk' ⟨_, _, rfl⟩ ⟨_, S'.at (i := 0) rfl, rfl, 0, rfl⟩ ⟨S'.nolim, hTn, hz, tlL τ', fun p hp => S'.get p (.tail _ hp)⟩ fun b o hb e => S'.old b o e hb
    obtain ⟨hl, τ, hg⟩ := st
    obtain ⟨b1', b2', ⟨P', rfl⟩⟩ : ∃ b1' b2', ∃ P', P = flg P' b1' b2' := ⟨_, _, P, (flg_self P).symm⟩
    have hz := hg _ (.head _)
    have S := ZV_Sts z TI TO i1 i2 t1 a1 b1 nd hcs hl hg
    refine zip_next_of (C := ⟨prog, draws, P', b1', b2', dn, os⟩) z TI TO hz (zip_items z TI TO i1 i2 t1 a1 b1 hA i hi S fun h' tk' T τ' hT S' hz' => key T h' tk' τ' hT S' hz')
  go := fun elts k pos i T s Q E hm hQ => by
    obtain ⟨hl, hTn, hz, τ, hg⟩ := hm
    refine wpAny_letOwnedTupleGo_zip (TI := TI) (TO := TO) hz fun h' hz' hs' => hQ h' ⟨hl.at fun o e => (hs'.2 _ (fun q => hcs (q ▸ .head _))).trans e, τ, ?_⟩ fun b o hb e => (hs'.2 b (fun q => hb (q ▸ .head _))).trans e
    intro p hp
    rcases List.mem_cons.mp hp with rfl | hp
    · exact hz'
    · have hpz : p.a ≠ z := fun q => by
        have := (List.nodup_cons.mp nd).1
        refine this ?_
        have hm : p.a ∈ (mkL (ZVs z TI TO i1 i2 t1 (.int T) (zo a1 b1 (i + 1)) (zo a1 b1 (i + 1)) (i + 1 : Nat) a1 b1) τ).tail.map (·.a) := List.mem_map_of_mem hp
        rw [q] at hm
        exact hm
      exact (hs'.2 _ hpz).trans (hg p (.tail _ hp))
  apart := fun i T h hm => hm.2.1
  done := fun s Q E st hQ => by
    obtain ⟨h, g, dn, tk, os⟩ := s
    obtain ⟨draws, P⟩ := w
    obtain ⟨hl, τ, hg⟩ := st
    obtain ⟨b1', b2', ⟨P', rfl⟩⟩ : ∃ b1' b2', ∃ P', P = flg P' b1' b2' := ⟨_, _, P, (flg_self P).symm⟩
    have hz := hg _ (.head _)
    have S := ZV_Sts z TI TO i1 i2 t1 a1 b1 nd hcs hl hg
    refine zip_next_of (C := ⟨prog, draws, P', b1', b2', dn, os⟩) z TI TO hz (zip_ends hA S fun h' tk' e hk he => ?_)
    refine wpAny_bind (wpAny_isInstance (T := "StopIteration") (b := true) he isSubtype_stop ?_)
    exact wpAny_pure (hQ _ _ hk)
  self := fun i s Q E st hQ => by
    obtain ⟨hl, τ, hg⟩ := st
    have := hg _ (.head _)
    exact wpAny_pyIter_zip (TI := TI) (TO := TO) (f0 := .none) this hQ
end
end Mine
end
/-! ## Ad1 -/
section
open PySem PySem.W PyProof.Rows
set_option Elab.async false
set_option linter.unusedVariables false
set_option maxRecDepth 100000
set_option maxHeartbeats 2000000
namespace Mine
/-! ## add_callers, in the library's words -/
noncomputable def envA (L : Addr) : Env := { scope := scopeOf (stm 6), locals := L, globals := 3, cells := [], qual := (Str.ofString "add_callers") ++ ".<locals>.", func := some 94, code := .ref 93, frame := some L, builtins := 0 }
theorem envA_kind (L : Addr) : (envA L).scope.kind = .function := by kernel_rfl!
theorem envA_func (L : Addr) : (envA L).kindOf (Str.ofString "func") = some .local := by kernel_rfl!
theorem envA_caller (L : Addr) : (envA L).kindOf (Str.ofString "caller") = some .local := by kernel_rfl!
theorem envA_new (L : Addr) : (envA L).kindOf (Str.ofString "new_callers") = some .local := by kernel_rfl!
theorem envA_source (L : Addr) : (envA L).kindOf (Str.ofString "source") = some .local := by kernel_rfl!
theorem envA_target (L : Addr) : (envA L).kindOf (Str.ofString "target") = some .local := by kernel_rfl!
theorem envA_tuple (L : Addr) : (envA L).kindOf (Str.ofString "tuple") = some .globalImplicit := by kernel_rfl!
theorem envA_zip (L : Addr) : (envA L).kindOf (Str.ofString "zip") = some .globalImplicit := by kernel_rfl!
theorem envA_isi (L : Addr) : (envA L).kindOf (Str.ofString "isinstance") = some .globalImplicit := by kernel_rfl!
section
variable {prog : Program} {w : World} {A : Around} {E : Value → Shared → Prop} {s : Shared} {L : Addr} {m : Str → Option Value}
theorem nm_local {x : Str} {p : Pos} {v : Value} {Q : Value → Shared → Prop} (hl : (envA L).kindOf x = some .local) (hn : s.heap.Ns L m) (hv : m x = some v) (hd : (x == ("__debug__" : Str)) = false) (h : Q v s) : wpAny (model prog w) A (eval (.Name x p) (envA L)) Q E s :=
  wpAny_Name (wpAny_loadName_local (envA_kind L) hl hn hv h) hd
/-- new_callers[func] = caller -/
theorem set_new {p1 p2 p3 p4 p5 : Pos} {f : Str} {t : Tok} {v : Value} {nc : Addr} {kvs : List (Str × Value)} {Q : Flow → Shared → Prop} (hn : s.heap.Ns L m) (hf : m (Str.ofString "func") = some (.str f t)) (hv : m (Str.ofString "caller") = some v) (hnc : m (Str.ofString "new_callers") = some (.ref nc))
    (hm : s.heap.DictOf (PySem.strKind prog w) nc kvs) (hsz : kvs.length ≤ 100)
    (hQ : ∀ h' tk, h'.DictOf (PySem.strKind prog w) nc (stored kvs f v) → Heap.SameBut nc s.heap h' → Q .next { s with heap := h', toks := tk }) :
    wpAny (model prog w) A (exec (.Assign [.Subscript (.Name (Str.ofString "new_callers") p1) (.Name (Str.ofString "func") p2) p3] (.Name (Str.ofString "caller") p4) p5) (envA L)) Q E s := by
  refine wpAny_Assign_Subscript (nm_local (envA_caller L) hn hv (by decide +kernel) (nm_local (envA_new L) hn hnc (by decide +kernel) (nm_local (envA_func L) hn hf (by decide +kernel) ?_))) ?_
  · refine wpAny_setItem_pairs (k := f) (by show Value.isStrOf f (.str f t) = true; simp [Value.isStrOf]) hm (fun h' hm' hs' => hQ _ _ hm' hs') ?_
    rw [PySem.sizeLine_eq]; omega
  · rfl
/-- new_callers[func] += caller, both ints -/
theorem aug_new {p1 p2 p3 p4 p5 : Pos} {f : Str} {t t1 t2 : Tok} {a b : Int} {nc : Addr} {kvs : List (Str × Value)} {Q : Flow → Shared → Prop} (hn : s.heap.Ns L m) (hf : m (Str.ofString "func") = some (.str f t)) (hv : m (Str.ofString "caller") = some (.int b t1)) (hnc : m (Str.ofString "new_callers") = some (.ref nc))
    (hm : s.heap.DictOf (PySem.strKind prog w) nc kvs) (hsz : kvs.length ≤ 100) (ha : valueAt kvs f = some (.int a t2))
    (hQ : ∀ h' tk t', h'.DictOf (PySem.strKind prog w) nc (stored kvs f (.int (a + b) t')) → Heap.SameBut nc s.heap h' → Q .next { s with heap := h', toks := tk }) :
    wpAny (model prog w) A (exec (.AugAssign (.Subscript (.Name (Str.ofString "new_callers") p1) (.Name (Str.ofString "func") p2) p3) .Add (.Name (Str.ofString "caller") p4) p5) (envA L)) Q E s := by
  have hkey : (PySem.strKind prog w).is f (.str f t) = true := by show Value.isStrOf f (.str f t) = true; simp [Value.isStrOf]
  refine wpAny_AugAssign_Subscript (nm_local (envA_new L) hn hnc (by decide +kernel) (nm_local (envA_func L) hn hf (by decide +kernel) ?_))
  refine wpAny_getItem_of (k := f) hkey hm.mapOf ha ?_
  refine nm_local (envA_caller L) hn hv (by decide +kernel) ?_
  refine PySem.P.iadd_int ?_
  refine wpAny_setItem_pairs (k := f) hkey hm (fun h' hm' hs' => hQ _ _ _ hm' hs') ?_
  rw [PySem.sizeLine_eq]; omega
/-- the names tuple, zip, isinstance -/
noncomputable def Glob (h : Heap) : Prop := ∃ mg mb, h.Ns 3 mg ∧ h.Ns 0 mb ∧ mg (Str.ofString "tuple") = none ∧ mg (Str.ofString "zip") = none ∧ mg (Str.ofString "isinstance") = none ∧
  mb (Str.ofString "tuple") = some (.type "tuple") ∧ mb (Str.ofString "zip") = some (.type "zip") ∧ mb (Str.ofString "isinstance") = some (.builtin "isinstance")
theorem nm_glob {x : Str} {p : Pos} {v : Value} {mg mb : Str → Option Value} {Q : Value → Shared → Prop} (hl : (envA L).kindOf x = some .globalImplicit) (hg : s.heap.Ns 3 mg) (hb : s.heap.Ns 0 mb) (h1 : mg x = none) (h2 : mb x = some v) (hd : (x == ("__debug__" : Str)) = false) (h : Q v s) :
    wpAny (model prog w) A (eval (.Name x p) (envA L)) Q E s :=
  Calls.Name_function_global (envA_kind L) hl (Calls.loadGlobal_builtin hg h1 hb h2 h) hd
/-- isinstance(caller, tuple) -/
theorem isi_test {p1 p2 p3 p4 : Pos} {v : Value} {b : Bool} {Q : Bool → Shared → Prop} (G : Glob s.heap) (hn : s.heap.Ns L m) (hv : m (Str.ofString "caller") = some v)
    (hb : (∃ a o, v = .ref a ∧ s.heap.get? a = some o ∧ o.cls = .type "tuple" ∧ b = true) ∨ (∃ n t, v = .int n t ∧ b = false)) (hQ : ∀ tk, Q b { s with toks := tk }) :
    wpAny (model prog w) A (isTrue (.Call (.Name (Str.ofString "isinstance") p1) [.Name (Str.ofString "caller") p2, .Name (Str.ofString "tuple") p3] [] p4) (envA L) (eval (.Call (.Name (Str.ofString "isinstance") p1) [.Name (Str.ofString "caller") p2, .Name (Str.ofString "tuple") p3] [] p4) (envA L))) Q E s := by
  obtain ⟨mg, mb, hg, hbn, g1, g2, g3, b1, b2, b3⟩ := G
  refine wpAny_isTrue_value ?_
  refine wpAny_Call_NameR (nm_glob (envA_isi L) hg hbn g3 b3 (by decide +kernel) ?_)
  show wpAny _ _ (callWith p4 (.builtin "isinstance") [] [(false, eval (.Name (Str.ofString "caller") p2) (envA L)), (false, eval (.Name (Str.ofString "tuple") p3) (envA L))] []) _ _ _
  refine Calls.callWith_builtin rfl (Calls.evalArgs_plain (Calls.spliced_cons (nm_local (envA_caller L) hn hv (by decide +kernel) ?_)))
  refine Calls.spliced_cons (nm_glob (envA_tuple L) hg hbn g1 b1 (by decide +kernel) ?_)
  refine Calls.spliced_nil ?_
  show wpAny _ _ (call (.builtin "isinstance") [v, .type "tuple"]) _ _ _
  rcases hb with ⟨a, o, rfl, ho, hc, rfl⟩ | ⟨n, t, rfl, rfl⟩
  · exact IsiPair.tuple_tuple ho hc (wpAny_truthy_bool (hQ _))
  · exact IsiPair.int_tuple (wpAny_truthy_bool (hQ _))
end
end Mine
end
/-! ## Ad4 -/
section
open PySem PySem.W PyProof.Rows
set_option Elab.async false
set_option linter.unusedVariables false
set_option maxRecDepth 100000
set_option maxHeartbeats 400000
namespace Mine
/-! ## zip(t1, t2) made -/
noncomputable abbrev itO (t : Addr) : Obj := { cls := .type "tuple_iterator", data := .fields #[.ref t, .int 0 0] }
noncomputable abbrev tuO (a b : Value) : Obj := { cls := .type "tuple", data := .seq #[a, b] }
noncomputable abbrev hz1 (h : Heap) (t1 : Addr) : Heap := h.push (itO t1)
noncomputable abbrev hz2 (h : Heap) (t1 t2 : Addr) : Heap := (hz1 h t1).push (itO t2)
noncomputable abbrev hz3 (h : Heap) (t1 t2 : Addr) : Heap := (hz2 h t1 t2).push (tuO (.ref h.objs.size) (.ref (hz1 h t1).objs.size))
noncomputable abbrev hz4 (h : Heap) (t1 t2 : Addr) : Heap := (hz3 h t1 t2).push (tuO .none .none)
noncomputable abbrev hz5 (h : Heap) (t1 t2 : Addr) : Heap := (hz4 h t1 t2).push (zipObj .none (hz2 h t1 t2).objs.size (hz3 h t1 t2).objs.size)
theorem zip_new (t1 t2 : Addr) (xs ys : Array Value) : Meets (Builtin.«zip.__new__» ⟨[.type "zip", .ref t1, .ref t2], []⟩)
    (fun _ R s => (s.heap.IsTuple t1 xs ∧ s.heap.IsTuple t2 ys) ∧ R (.ok (.ret (.ref (hz4 s.heap t1 t2).objs.size))) { s with heap := hz5 s.heap t1 t2 }) := by
  refine Meets.of_wp fun prog w A R s ⟨⟨x1, x2⟩, hR⟩ => ?_
  have e0 := PySem.sub_zip
  have y2 : Shared.heap { s with heap := hz1 s.heap t1 } |>.IsTuple t2 ys := let ⟨o, e, r⟩ := x2; ⟨o, Heap.get?_push_of_some _ e, r⟩
  obtain ⟨h, g, d, tk, os⟩ := s
  wp_walk using wpAny_pyIter_tuple x1, wpAny_pyIter_tuple y2
  exact ⟨_, rfl, hR⟩
/-- the zip, ready to be walked -/
noncomputable def ZipUp (prog : Program) (w : World) (z t1 t2 : Addr) (a1 b1 a2 b2 : Int) (n : Nat) (h : Heap) : Prop :=
  ∃ fp wr Sx Mx, (∀ A : Around, A.handled = none → WalksU prog w A z fp wr 2 (fun i vals => ∃ ta tb, vals = #[.int (zp a1 b1 i) ta, .int (zp a2 b2 i) tb]) Sx Mx) ∧ Sx 0 h ∧ (∀ b ∈ fp, ∃ o, h.get? b = some o) ∧ (∀ b ∈ fp, b = cStatics ∨ b = t1 ∨ b = t2 ∨ n ≤ b) ∧ (∀ b ∈ wr, n ≤ b)
theorem St.memlt {T : Nat → Option Obj} {h₀ h : Heap} {fp : List Addr} {l : List Ent} (S : St T h₀ h fp l) {a : Addr} (ha : a ∈ l.map (·.a)) : ∃ o, h.get? a = some o := by
  obtain ⟨p, hp, rfl⟩ := List.mem_map.mp ha
  exact ⟨_, S.get p hp⟩
section
variable {prog : Program} {w : World} {A : Around} {Q : Value → Shared → Prop} {E : Value → Shared → Prop} {s : Shared}
theorem zip_call {t1 t2 : Addr} {a1 b1 a2 b2 : Int} {u1 v1 u2 v2 : Tok} (hl : s.heap.NoLimit) (x1 : s.heap.get? t1 = some (tuO (.int a1 u1) (.int b1 v1))) (x2 : s.heap.get? t2 = some (tuO (.int a2 u2) (.int b2 v2)))
    (k : ∀ z h', ZipUp prog w z t1 t2 a1 b1 a2 b2 s.heap.objs.size h' → h'.NoLimit → (∀ b o, s.heap.get? b = some o → h'.get? b = some o) → s.heap.objs.size ≤ z → (∃ TI TO, h'.get? z = some (zipObj .none TI TO)) → Q (.ref z) { s with heap := h' }) :
    wpAny (model prog w) A (call (.type "zip") [.ref t1, .ref t2]) Q E s := by
  refine callType_new F.called_zip (by decide) (F.typeCall_zip_2 _ _) (F.newCall_zip_2 _ _) (fun obj => F.args_object_init_3 obj _ _) F.entry_zip_new (zip_new t1 t2 #[.int a1 u1, .int b1 v1] #[.int a2 u2, .int b2 v2]) ⟨⟨⟨_, x1, rfl, _, rfl⟩, ⟨_, x2, rfl, _, rfl⟩⟩, ?_⟩
  obtain ⟨h, g, d, tk, os⟩ := s
  have hz : (hz5 h t1 t2).get? (hz4 h t1 t2).objs.size = some (zipObj .none (hz2 h t1 t2).objs.size (hz3 h t1 t2).objs.size) := Heap.get?_push_size _ rfl
  have hcs : ∀ b, h.objs.size ≤ b → b ≠ cStatics := by
    obtain ⟨mc, ⟨o, es, ep, e, _⟩, _⟩ := hl
    intro b hb q
    exact absurd (Heap.lt_size e) (Nat.not_lt.mpr (q ▸ hb))
  have up : ∀ b o, h.get? b = some o → (hz5 h t1 t2).get? b = some o := fun b o e => Heap.get?_push_of_some _ (Heap.get?_push_of_some _ (Heap.get?_push_of_some _ (Heap.get?_push_of_some _ (Heap.get?_push_of_some _ e))))
  have s1 : h.objs.size ≤ (hz1 h t1).objs.size := by rw [Heap.size_push]; exact Nat.le_succ _
  have s2 : h.objs.size ≤ (hz2 h t1 t2).objs.size := by rw [Heap.size_push]; exact Nat.le_succ_of_le s1
  have s3 : h.objs.size ≤ (hz3 h t1 t2).objs.size := by rw [Heap.size_push]; exact Nat.le_succ_of_le s2
  have s4 : h.objs.size ≤ (hz4 h t1 t2).objs.size := by rw [Heap.size_push]; exact Nat.le_succ_of_le s3
  have s5 : h.objs.size ≤ (hz5 h t1 t2).objs.size := by rw [Heap.size_push]; exact Nat.le_succ_of_le s4
  have hl' : (hz5 h t1 t2).NoLimit := hl.at fun o e => up _ o e
  refine ⟨⟨_, hz, rfl⟩, k _ _ ?_ hl' up s4 ⟨_, _, hz⟩⟩
  have hwr : ∀ b ∈ [(hz4 h t1 t2).objs.size, (hz3 h t1 t2).objs.size, h.objs.size, (hz1 h t1).objs.size], h.objs.size ≤ b := by
    intro b hb
    rcases List.mem_cons.mp hb with rfl | hb
    · exact s4
    rcases List.mem_cons.mp hb with rfl | hb
    · exact s3
    rcases List.mem_cons.mp hb with rfl | hb
    · exact Nat.le_refl _
    rcases List.mem_cons.mp hb with rfl | hb
    · exact s1
    · cases hb
  have hc4 : cStatics ∉ [(hz4 h t1 t2).objs.size, (hz3 h t1 t2).objs.size, h.objs.size, (hz1 h t1).objs.size] := fun hm => hcs _ (hwr _ hm) rfl
  have hclt : ∃ o, (hz5 h t1 t2).get? cStatics = some o := by
    obtain ⟨mc, ⟨o, es, ep, e, _⟩, _⟩ := hl'
    exact ⟨_, e⟩
  by_cases q : t1 = t2
  · subst q
    have e := Option.some.inj (x1.symm.trans x2)
    simp only [Obj.mk.injEq, Data.seq.injEq, Array.mk.injEq, List.cons.injEq, Value.int.injEq, and_true, true_and] at e
    obtain ⟨⟨rfl, _⟩, ⟨rfl, _⟩⟩ := e
    have S0 : St (fun _ => none) h h [] [⟨t1, false, tuO (.int a1 u1) (.int b1 v1)⟩] := St.mk0 (by simp) (fun p hp => by rw [List.mem_singleton.mp hp]; exact x1) (fun p hp hw => by rw [List.mem_singleton.mp hp] at hw; cases hw) hl (by simp)
    have S5 := ((((S0.alo (o := itO t1) rfl).alo (o := itO t1) rfl).alo (o := tuO (.ref h.objs.size) (.ref (hz1 h t1).objs.size)) rfl).alo (o := tuO .none .none) rfl).alo (o := zipObj .none (hz2 h t1 t1).objs.size (hz3 h t1 t1).objs.size) rfl
    obtain ⟨τ, S⟩ := S5.part [0, 1, 4, 3, 2, 5] (vl := ZVs (hz4 h t1 t1).objs.size (hz2 h t1 t1).objs.size (hz3 h t1 t1).objs.size h.objs.size (hz1 h t1).objs.size t1 .none .none .none 0 a1 b1) (by kernel_rfl!)
    refine ⟨_, _, _, _, fun A hA => zip_walkss _ _ _ _ _ _ a1 b1 prog w hA S.nd hc4, ⟨hl', τ, fun p hp => S.get p hp⟩, fun b hb => ?_, fun b hb => ?_, hwr⟩
    · rcases List.mem_cons.mp hb with rfl | hb
      · exact hclt
      · exact S.memlt hb
    · rcases List.mem_cons.mp hb with rfl | hb
      · exact .inl rfl
      rcases List.mem_cons.mp hb with rfl | hb
      · exact .inr (.inr (.inr s4))
      rcases List.mem_cons.mp hb with rfl | hb
      · exact .inr (.inr (.inr s3))
      rcases List.mem_cons.mp hb with rfl | hb
      · exact .inr (.inr (.inr (Nat.le_refl _)))
      rcases List.mem_cons.mp hb with rfl | hb
      · exact .inr (.inr (.inr s1))
      rcases List.mem_cons.mp hb with rfl | hb
      · exact .inr (.inr (.inr s2))
      rcases List.mem_cons.mp hb with rfl | hb
      · exact .inr (.inl rfl)
      · cases hb
  · have S0 : St (fun _ => none) h h [] [⟨t1, false, tuO (.int a1 u1) (.int b1 v1)⟩, ⟨t2, false, tuO (.int a2 u2) (.int b2 v2)⟩] := by
      refine St.mk0 (by simpa using q) (fun p hp => ?_) (fun p hp hw => ?_) hl (by simp)
      · rcases List.mem_cons.mp hp with rfl | hp
        · exact x1
        · rw [List.mem_singleton.mp hp]; exact x2
      · rcases List.mem_cons.mp hp with rfl | hp
        · cases hw
        · rw [List.mem_singleton.mp hp] at hw; cases hw
    have S5 := ((((S0.alo (o := itO t1) rfl).alo (o := itO t2) rfl).alo (o := tuO (.ref h.objs.size) (.ref (hz1 h t1).objs.size)) rfl).alo (o := tuO .none .none) rfl).alo (o := zipObj .none (hz2 h t1 t2).objs.size (hz3 h t1 t2).objs.size) rfl
    obtain ⟨τ, S⟩ := S5.part [0, 1, 4, 3, 2, 5, 6] (vl := ZV (hz4 h t1 t2).objs.size (hz2 h t1 t2).objs.size (hz3 h t1 t2).objs.size h.objs.size (hz1 h t1).objs.size t1 t2 .none .none .none 0 a1 b1 a2 b2) (by kernel_rfl!)
    refine ⟨_, _, _, _, fun A hA => zip_walks _ _ _ _ _ _ _ a1 b1 a2 b2 prog w hA S.nd hc4, ⟨hl', τ, fun p hp => S.get p hp⟩, fun b hb => ?_, fun b hb => ?_, hwr⟩
    · rcases List.mem_cons.mp hb with rfl | hb
      · exact hclt
      · exact S.memlt hb
    · rcases List.mem_cons.mp hb with rfl | hb
      · exact .inl rfl
      rcases List.mem_cons.mp hb with rfl | hb
      · exact .inr (.inr (.inr s4))
      rcases List.mem_cons.mp hb with rfl | hb
      · exact .inr (.inr (.inr s3))
      rcases List.mem_cons.mp hb with rfl | hb
      · exact .inr (.inr (.inr (Nat.le_refl _)))
      rcases List.mem_cons.mp hb with rfl | hb
      · exact .inr (.inr (.inr s1))
      rcases List.mem_cons.mp hb with rfl | hb
      · exact .inr (.inr (.inr s2))
      rcases List.mem_cons.mp hb with rfl | hb
      · exact .inr (.inl rfl)
      rcases List.mem_cons.mp hb with rfl | hb
      · exact .inr (.inr (.inl rfl))
      · cases hb
end
end Mine
end
/-! ## Ad5 -/
section
open PySem PySem.W PyProof.Rows
set_option Elab.async false
set_option linter.unusedVariables false
set_option maxRecDepth 100000
set_option maxHeartbeats 400000
namespace Mine
/-! ## tuple(i + j for i, j in zip(caller, new_callers[func])) -/
noncomputable def gsc : Scope := { kind := .function, names := [(Str.ofString ".0", .local), (Str.ofString "i", .local), (Str.ofString "j", .local)], isGenerator := true, isCoroutine := false, more := [] }
/-- the builtins of the file's names -/
noncomputable def GlobB (h : Heap) : Prop := ∃ mg o4, h.Ns 3 mg ∧ mg "__builtins__" = some (.ref 4) ∧ h.get? 4 = some o4 ∧ o4.cls = .type "module" ∧ o4.dict = some builtinsNs ∧ o4.data = .plain
noncomputable def CodeOk (h : Heap) : Prop := ∃ ps, h.IsCode 93 89 ps ∧ h.TableAt 93 89 ps
theorem CodeOk.at {h h' : Heap} (x : CodeOk h) (hk : ∀ b o, h.get? b = some o → h'.get? b = some o) : CodeOk h' := let ⟨ps, y, t⟩ := x; ⟨ps, y.keeps hk, t.keeps hk⟩
theorem gcode {prog : Program} {w : World} {A : Around} {E : Value → Shared → Prop} {s : Shared} {env : Env} {c P : Addr} {ps : Array Value} {pos : Pos} {qualname : Str} {scope : Scope} {Q : Value → Shared → Prop} (hc : env.code = .ref c) (hok : s.heap.IsCode c P ps) (ht : s.heap.TableAt c P ps)
    (hQ : ∀ code h' tk ps', Heap.ExtBut P s.heap h' → h'.IsCode c P ps' → h'.TableAt c P ps' → Q code { s with heap := h', toks := tk }) : wpAny (model prog w) A (genexprCode env pos qualname scope) Q E s := by
  cases q : codeAmong pos ps.toList with
  | none => exact wpAny_genexprCodeX hc hok ht q fun c' h' tk hx _ _ i _ t _ => hQ _ _ _ _ hx i t
  | some c' => exact wpAny_genexprCode_hit hc hok q (hQ c' s.heap s.toks ps (Heap.ExtBut.refl _ _) hok ht)
theorem gscC {C : Addr} {code : Value} {bi L : Addr} : (genEnv gsc [] C code bi (envA L)).kindOf (Str.ofString "i") = some .local ∧ (genEnv gsc [] C code bi (envA L)).kindOf (Str.ofString "j") = some .local ∧ (genEnv gsc [] C code bi (envA L)).scope.kind = .function := by
  exact ⟨by kernel_rfl!, by kernel_rfl!, by kernel_rfl!⟩
section
variable {prog : Program} {w : World} {A : Around} {E : Value → Shared → Prop} {s : Shared} {L : Addr} {m : Str → Option Value}
theorem CodeOk.lt89 {h : Heap} (x : CodeOk h) : 89 < h.objs.size := let ⟨_, _, t⟩ := x; Heap.lt_size t.2
theorem CodeOk.lt93 {h : Heap} (x : CodeOk h) : 93 < h.objs.size := let ⟨_, _, ⟨_, _, e, _⟩, _⟩ := x; Heap.lt_size e
theorem CodeOk.ne {h : Heap} {a : Addr} {o : Obj} (x : CodeOk h) (e : h.get? a = some o) (hd : ∀ vs, o.data ≠ .fields vs) : a ≠ 89 := by
  obtain ⟨ps, _, t⟩ := x
  rintro rfl
  rw [t.2] at e
  cases e
  exact hd _ rfl
theorem gen_quiet {a1 b1 a2 b2 : Int} {q1 q2 q3 : Pos} {C : Addr} {code : Value} {bi : Addr} {fp wr : List Addr} {href : Heap} :
    QuietGenT prog w (genEnv gsc [] C code bi (envA L)) (Str.ofString "i") (Str.ofString "j") [] (.BinOp (.Name (Str.ofString "i") q1) .Add (.Name (Str.ofString "j") q2) q3) fp wr
      (fun i vals => ∃ ta tb, vals = #[.int (zp a1 b1 i) ta, .int (zp a2 b2 i) tb]) (fun _ => true) (fun i y => ∃ t, y = .int (zp a1 b1 i + zp a2 b2 i) t) href where
  tests := fun A' E' i va vb s₂ m₂ hA hP hn h1 h2 hk => by
    show wpAny _ _ (pure true) _ _ _
    exact wpAny_pure ⟨rfl, s₂.heap, s₂.toks, rfl, fun _ _ e => e⟩
  elt := fun A' E' i va vb s₂ m₂ hA hP hpz hn h1 h2 hk => by
    obtain ⟨ta, tb, e⟩ := hP
    have e' : va = .int (zp a1 b1 i) ta ∧ vb = .int (zp a2 b2 i) tb := by simpa using e
    obtain ⟨rfl, rfl⟩ := e'
    refine wpAny_BinOp (wpAny_Name (wpAny_loadName_local gscC.2.2 gscC.1 hn h1 ?_) (by decide +kernel))
    refine wpAny_Name (wpAny_loadName_local gscC.2.2 gscC.2.1 hn h2 ?_) (by decide +kernel)
    exact PySem.P.add_int ⟨⟨_, rfl⟩, s₂.heap, s₂.toks + 1, rfl, fun _ _ e => e⟩
theorem pass2 : passing (fun _ => true) 2 0 = [0, 1] := rfl
theorem tup_val {p1 p2 p3 p4 p5 p6 p7 p8 p9 pa pb pc pd pe pf : Pos} {f : Str} {tf : Tok} {nc t1 t2 : Addr} {kvs : List (Str × Value)} {a1 b1 a2 b2 : Int} {u1 v1 u2 v2 : Tok} {Q : Value → Shared → Prop}
    (hA : A.handled = none) (hroom : A.depth + 20 < recursionLimit) (G : Glob s.heap) (GB : GlobB s.heap) (hl : s.heap.NoLimit) (hc : CodeOk s.heap) (hg : AllBare s.gens)
    (hn : s.heap.Ns L m) (hf : m (Str.ofString "func") = some (.str f tf)) (hv : m (Str.ofString "caller") = some (.ref t1)) (hnc : m (Str.ofString "new_callers") = some (.ref nc))
    (hm : s.heap.DictOf (PySem.strKind prog w) nc kvs) (ha : valueAt kvs f = some (.ref t2)) (x1 : s.heap.get? t1 = some (tuO (.int a1 u1) (.int b1 v1))) (x2 : s.heap.get? t2 = some (tuO (.int a2 u2) (.int b2 v2)))
    (hQ : ∀ h' g' tk' T u v, (∀ b o, b ≠ 89 → s.heap.get? b = some o → h'.get? b = some o) → CodeOk h' → AllBare g' → h'.NoLimit → s.heap.objs.size ≤ T → h'.get? T = some (tuO (.int (a1 + a2) u) (.int (b1 + b2) v)) → Q (.ref T) ⟨h', g', s.drawn, tk', s.os⟩) :
    wpAny (model prog w) A (eval (.Call (.Name (Str.ofString "tuple") p1) [.GeneratorExp (.BinOp (.Name (Str.ofString "i") p2) .Add (.Name (Str.ofString "j") p3) p4)
      [⟨.Tuple [.Name (Str.ofString "i") p5, .Name (Str.ofString "j") p6] 0 p7, .Call (.Name (Str.ofString "zip") p8) [.Name (Str.ofString "caller") p9, .Subscript (.Name (Str.ofString "new_callers") pa) (.Name (Str.ofString "func") pb) pc] [] pd, [], 0⟩] gsc pe] [] pf) (envA L)) Q E s := by
  obtain ⟨h, g, dn, tk, os⟩ := s
  have hkey : (PySem.strKind prog w).is f (.str f tf) = true := by show Value.isStrOf f (.str f tf) = true; simp [Value.isStrOf]
  obtain ⟨mg, mb, hgl, hbn, g1, g2, g3, b1', b2', b3'⟩ := G
  refine wpAny_Call_NameR (nm_glob (envA_tuple L) hgl hbn g1 b1' (by decide +kernel) ?_)
  refine PyProof.Rows.callWith_type1 ?_
  refine Calls.spliced_cons ?_
  refine wpAny_GeneratorExp_walksQT (cl := []) hA rfl rfl (by intro y hy; simp [gsc] at hy; rcases hy with rfl | rfl | rfl <;> simp) (by kernel_rfl!) (by kernel_rfl!) (by kernel_rfl!) (by decide +kernel) rfl (by omega) ?_ (fun _ => rfl)
  -- the zip
  refine wpAny_Call_NameR (nm_glob (envA_zip L) hgl hbn g2 b2' (by decide +kernel) ?_)
  refine PyProof.Rows.callWith_type1 ?_
  refine Calls.spliced_cons (nm_local (envA_caller L) hn hv (by decide +kernel) ?_)
  refine Calls.spliced_cons (wpAny_Subscript_Name_late (nm_local (envA_new L) hn hnc (by decide +kernel) (nm_local (envA_func L) hn hf (by decide +kernel) ⟨_, _, slot_dict_getitem.lookup, hm.typeIs, ?_⟩)))
  refine wpAny_getItem_of (k := f) hkey hm.mapOf ha ?_
  refine Calls.spliced_nil ?_
  refine zip_call (s := ⟨h, g, dn, tk + 1, os⟩) hl x1 x2 fun z h1 hz hl1 hk1 hs1 hzo => ?_
  obtain ⟨TI, TO, hzo⟩ := hzo
  refine wpAny_pyIter_zip (TI := TI) (TO := TO) (f0 := .none) hzo ⟨hl1, ?_⟩
  obtain ⟨ps, hc1, ht1c⟩ := hc.at hk1
  refine gcode rfl hc1 ht1c fun code h2 tk2 ps' hx2 hc2 ht2c => ?_
  obtain ⟨mg', o4, k1, k2, k3, k4, k5, k6⟩ := GB
  have n89 : (4 : Addr) ≠ 89 := by decide
  have k3' : h2.get? 4 = some o4 := hx2 _ _ (by decide) (hk1 _ _ k3)
  refine wpAny_builtinsFor ((k1.keeps hk1).extBut hx2 (by decide)) k2 (by decide) k3' k4 k5 k6 ?_
  obtain ⟨fp, wr, Sx, Mx, W, st, hfp, hfp2, hwr⟩ := hz
  have ht1 : t1 ≠ 89 := CodeOk.ne hc x1 (by intro vs q; cases q)
  have ht2 : t2 ≠ 89 := CodeOk.ne hc x2 (by intro vs q; cases q)
  have h89 : 89 < h.objs.size := hc.lt89
  have hf89 : ∀ b ∈ fp, b ≠ 89 := by
    intro b hb
    rcases hfp2 b hb with rfl | rfl | rfl | q
    · decide
    · exact ht1
    · exact ht2
    · exact Nat.ne_of_gt (Nat.lt_of_lt_of_le h89 q)
  refine ⟨z, fp, wr, 2, _, Sx, Mx, fun _ => true, _, rfl, W, fun i vals hp => by obtain ⟨ta, tb, rfl⟩ := hp; exact ⟨_, _, rfl⟩, (W A hA).frame _ _ _ st fun b hb o e => hx2 _ _ (hf89 b hb) e, fun b hb => by obtain ⟨o, e⟩ := hfp b hb; exact Heap.lt_size (hx2 _ _ (hf89 b hb) e), hl1.extBut hx2 (by decide), fun hm => ?_, fun href _ => gen_quiet, fun a h5 tk5 gs hgs ha5 hs5 hk5 W5 st5 => ?_⟩
  · have := hwr _ hm
    obtain ⟨mc, ⟨o, es, ep, e, _⟩, _⟩ := hl
    exact absurd (Heap.lt_size e) (Nat.not_lt.mpr this)
  refine Calls.spliced_nil ?_
  rw [pass2] at W5
  refine call_tuple_gen (WalksS.in4_3 W5) (fun i s' st => st.1.typeIs) st5 (fun b hb => ?_) (.head _) (fun s' acc hmv hacc => ?_) (by show 2 ≤ _; rw [PySem.sizeLine_eq]; omega)
  · show b < h5.objs.size
    rw [hs5]
    have ha5' : h2.objs.size < a := ha5
    rcases List.mem_cons.mp hb with rfl | hb
    · exact Nat.lt_succ_self _
    rcases List.mem_cons.mp hb with rfl | hb
    · exact Nat.lt_succ_of_lt ha5
    · exact Nat.lt_succ_of_lt (Nat.lt_trans (List.mem_range.mp hb) ha5)
  obtain ⟨h', g', dn', tk', os'⟩ := s'
  obtain ⟨q1, q2, q3, q4, _⟩ := hmv
  have q3' : dn' = dn := q3
  have q4' : os' = os := q4
  subst q3' q4'
  obtain ⟨z1, z2⟩ := hacc
  have k5 : ∀ b o, b ≠ 89 → h.get? b = some o → h5.get? b = some o := fun b o hb e => hk5 _ _ (hx2 _ _ hb (hk1 _ _ e))
  have hwr' : ∀ b o, h.get? b = some o → b ∉ h2.objs.size :: wr := by
    intro b o e hm
    have hlt := Heap.lt_size e
    rcases List.mem_cons.mp hm with rfl | hm
    · have : z < h2.objs.size := Heap.lt_size (hx2 _ _ (Nat.ne_of_gt (Nat.lt_of_lt_of_le h89 hs1)) hzo)
      exact absurd (Nat.lt_of_le_of_lt hs1 this) (Nat.lt_asymm hlt)
    · exact absurd hlt (Nat.not_lt.mpr (hwr _ hm))
  have kk : ∀ b o, b ≠ 89 → h.get? b = some o → h'.get? b = some o := fun b o hb e => q1 b o (hwr' b o e) (k5 b o hb e)
  have hwlt : ∀ b ∈ wr, b < h2.objs.size := fun b hb => by
    obtain ⟨o, e⟩ := hfp b ((W A hA).sub b hb)
    exact Heap.lt_size (hx2 _ _ (hf89 b ((W A hA).sub b hb)) e)
  have hz2 : z < h2.objs.size := Heap.lt_size (hx2 _ _ (Nat.ne_of_gt (Nat.lt_of_lt_of_le h89 hs1)) hzo)
  have ha' : a < h'.objs.size := by
    obtain ⟨_, _, _, e, _⟩ := st5.1
    refine Heap.lt_size (q1 a _ (fun hm => ?_) e)
    rcases List.mem_cons.mp hm with q | hm
    · exact absurd ha5 (by rw [q]; exact Nat.lt_irrefl _)
    · exact absurd (hwlt _ hm) (Nat.lt_asymm ha5)
  have hsz : h.objs.size ≤ h'.objs.size := Nat.le_of_lt (Nat.lt_of_le_of_lt hs1 (Nat.lt_trans hz2 (Nat.lt_trans ha5 ha')))
  have up : ∀ (o : Obj) b x, h'.get? b = some x → (h'.push o).get? b = some x := fun o b x e => Heap.get?_push_of_some _ e
  have hcode : CodeOk h' := by
    obtain ⟨_, _, ⟨_, _, e93, _⟩, e89⟩ := hc
    exact ⟨ps', hc2.at2 (fun o e => q1 _ _ (hwr' _ _ e93) (hk5 _ _ e)) (fun o e => q1 _ _ (hwr' _ _ e89) (hk5 _ _ e)), ht2c.at2 (fun o e => q1 _ _ (hwr' _ _ e93) (hk5 _ _ e)) (fun o e => q1 _ _ (hwr' _ _ e89) (hk5 _ _ e))⟩
  have e0 : ∃ u, acc[0]? = some (.int (a1 + a2) u) := by
    have h0 : 0 < acc.size := by rw [z1]; decide
    obtain ⟨i, hi, t, e⟩ := z2 0 _ (Array.getElem?_eq_getElem h0)
    obtain rfl : 0 = i := by simpa using hi
    exact ⟨t, by rw [Array.getElem?_eq_getElem h0, e]; rfl⟩
  have e1 : ∃ v, acc[1]? = some (.int (b1 + b2) v) := by
    have h0 : 1 < acc.size := by rw [z1]; decide
    obtain ⟨i, hi, t, e⟩ := z2 1 _ (Array.getElem?_eq_getElem h0)
    obtain rfl : 1 = i := by simpa using hi
    exact ⟨t, by rw [Array.getElem?_eq_getElem h0, e]; rfl⟩
  obtain ⟨u, e0⟩ := e0
  obtain ⟨v, e1⟩ := e1
  have eacc : acc = #[.int (a1 + a2) u, .int (b1 + b2) v] := by
    apply Array.ext_getElem?
    intro i
    match i with
    | 0 => rw [e0]; rfl
    | 1 => rw [e1]; rfl
    | i + 2 =>
      rw [Array.getElem?_eq_none (by rw [z1]; exact Nat.le_add_left _ _), Array.getElem?_eq_none (by exact Nat.le_add_left _ _)]
  subst eacc
  refine hQ _ g' tk' h'.objs.size u v (fun b o hb e => up _ b o (kk b o hb e)) (hcode.at (up _)) (q2.bare (hg.push hgs)) ?_ hsz (Heap.get?_push_size _ rfl)
  exact hl.at fun o e => up _ _ o (kk _ o (by decide) e)
end
end Mine
end
/-! ## Ad6 -/
section
open PySem PySem.W PyProof.Rows
set_option Elab.async false
set_option linter.unusedVariables false
set_option maxRecDepth 100000
set_option maxHeartbeats 400000
namespace Mine
/-! ## Callers as data -/
inductive CV where
  | num (n : Int)
  | pair (a b : Int)
noncomputable abbrev CM := List (Str × CV)
noncomputable def CVIs (h : Heap) (v : Value) : CV → Prop
  | .num n => ∃ t, v = .int n t
  | .pair a b => ∃ T u w, v = .ref T ∧ h.get? T = some (tuO (.int a u) (.int b w))
noncomputable def CVs (h : Heap) : List (Str × Value) → CM → Prop
  | [], [] => True
  | kv :: l, c :: M => (kv.1 = c.1 ∧ CVIs h kv.2 c.2) ∧ CVs h l M
  | _, _ => False
noncomputable def getM (M : CM) (k : Str) : Option CV := (M.find? fun c => c.1 = k).map (·.2)
noncomputable def putM (M : CM) (k : Str) (v : CV) : CM := if M.any (fun c => c.1 = k) then M.map (fun c => if c.1 = k then (c.1, v) else c) else M ++ [(k, v)]
noncomputable def plusC : CV → CV → CV
  | .num x, .num y => .num (y + x)
  | .pair a b, .pair a' b' => .pair (a + a') (b + b')
  | c, _ => c
noncomputable def stepC (M : CM) (c : Str × CV) : CM := match getM M c.1 with
  | none => putM M c.1 c.2
  | some o => putM M c.1 (plusC c.2 o)
noncomputable def addC (T S : CM) : CM := S.foldl stepC T
noncomputable def numC : CV → Bool
  | .num _ => true
  | .pair .. => false
noncomputable def kAll : Str := ⟨#[97, 108, 108]⟩
noncomputable def KindOk (M : CM) : Prop := ∀ c ∈ M, numC c.2 = decide (c.1 = kAll)
theorem CVIs.move {h h' : Heap} {v : Value} {c : CV} (x : CVIs h v c) (hk : ∀ T a b, h.get? T = some (tuO a b) → h'.get? T = some (tuO a b)) : CVIs h' v c := by
  cases c with
  | num n => exact x
  | pair a b => obtain ⟨T, u, w, e, g⟩ := x; exact ⟨T, u, w, e, hk _ _ _ g⟩
theorem CVs.move {h h' : Heap} (hk : ∀ T a b, h.get? T = some (tuO a b) → h'.get? T = some (tuO a b)) : ∀ {l : List (Str × Value)} {M : CM}, CVs h l M → CVs h' l M
  | [], [], _ => trivial
  | _ :: _, _ :: _, x => ⟨⟨x.1.1, x.1.2.move hk⟩, CVs.move hk x.2⟩
  | [], _ :: _, x => x
  | _ :: _, [], x => x
theorem CVs.len {h : Heap} : ∀ {l : List (Str × Value)} {M : CM}, CVs h l M → l.length = M.length
  | [], [], _ => rfl
  | _ :: _, _ :: _, x => congrArg Nat.succ (CVs.len x.2)
  | [], _ :: _, x => x.elim
  | _ :: _, [], x => x.elim
theorem CVs.any {h : Heap} (k : Str) : ∀ {l : List (Str × Value)} {M : CM}, CVs h l M → l.any (fun kv => kv.1 = k) = M.any (fun c => c.1 = k)
  | [], [], _ => rfl
  | a :: _, b :: _, x => by rw [List.any_cons, List.any_cons, CVs.any k x.2, x.1.1]
  | [], _ :: _, x => x.elim
  | _ :: _, [], x => x.elim
theorem CVs.map {h : Heap} (k : Str) {v : Value} {c : CV} (hv : CVIs h v c) : ∀ {l : List (Str × Value)} {M : CM}, CVs h l M → CVs h (l.map fun kv => if kv.1 = k then (kv.1, v) else kv) (M.map fun e => if e.1 = k then (e.1, c) else e)
  | [], [], _ => trivial
  | a :: _, b :: _, x => by
    refine ⟨?_, CVs.map k hv x.2⟩
    have e := x.1.1
    by_cases q : a.1 = k
    · dsimp only; rw [if_pos q, if_pos (e ▸ q)]; exact ⟨e, hv⟩
    · dsimp only; rw [if_neg q, if_neg (e ▸ q)]; exact x.1
  | [], _ :: _, x => x.elim
  | _ :: _, [], x => x.elim
theorem CVs.append {h : Heap} {k : Str} {v : Value} {c : CV} (hv : CVIs h v c) : ∀ {l : List (Str × Value)} {M : CM}, CVs h l M → CVs h (l ++ [(k, v)]) (M ++ [(k, c)])
  | [], [], _ => ⟨⟨rfl, hv⟩, trivial⟩
  | _ :: _, _ :: _, x => ⟨x.1, CVs.append hv x.2⟩
  | [], _ :: _, x => x.elim
  | _ :: _, [], x => x.elim
theorem CVs.stored {h : Heap} {k : Str} {v : Value} {c : CV} (hv : CVIs h v c) {l : List (Str × Value)} {M : CM} (x : CVs h l M) : CVs h (PySem.stored l k v) (putM M k c) := by
  unfold PySem.stored putM
  rw [x.any k]
  split
  · exact x.map k hv
  · exact x.append hv
theorem CVs.get {h : Heap} (k : Str) : ∀ {l : List (Str × Value)} {M : CM}, CVs h l M → (valueAt l k = none ∧ getM M k = none) ∨ ∃ v c, valueAt l k = some v ∧ getM M k = some c ∧ CVIs h v c
  | [], [], _ => .inl ⟨rfl, rfl⟩
  | a :: l, b :: M, x => by
    have e := x.1.1
    unfold valueAt getM
    rw [List.find?_cons, List.find?_cons]
    by_cases q : a.1 = k
    · rw [decide_eq_true q, decide_eq_true (e ▸ q)]
      exact .inr ⟨_, _, rfl, rfl, x.1.2⟩
    · rw [decide_eq_false q, decide_eq_false (e ▸ q)]
      exact CVs.get k x.2
  | [], _ :: _, x => x.elim
  | _ :: _, [], x => x.elim
theorem CVs.nth {h : Heap} : ∀ {l : List (Str × Value)} {M : CM} {i : Nat} {k : Str} {v : Value}, CVs h l M → l[i]? = some (k, v) → ∃ c, M[i]? = some (k, c) ∧ CVIs h v c
  | [], [], _, _, _, _, e => by simp at e
  | a :: l, b :: M, 0, k, v, x, e => by
    obtain rfl : a = (k, v) := by simpa using e
    exact ⟨b.2, by show some b = _; rw [show b = (b.1, b.2) from rfl, ← x.1.1], x.1.2⟩
  | a :: l, b :: M, i + 1, k, v, x, e => by
    have := CVs.nth (i := i) x.2 (by simpa using e)
    simpa using this
  | [], _ :: _, _, _, _, x, _ => x.elim
  | _ :: _, [], _, _, _, x, _ => x.elim
theorem getM_mem {M : CM} {k : Str} {c : CV} (e : getM M k = some c) : (k, c) ∈ M := by
  unfold getM at e
  obtain ⟨p, hp, rfl⟩ := Option.map_eq_some_iff.mp e
  have h1 := List.find?_some hp
  have h2 := List.mem_of_find?_eq_some hp
  have : p.1 = k := by simpa using h1
  rw [← this]; exact h2
theorem KindOk.put {M : CM} {k : Str} {c : CV} (x : KindOk M) (hc : numC c = decide (k = kAll)) : KindOk (putM M k c) := by
  intro p hp
  unfold putM at hp
  split at hp
  · obtain ⟨q, hq, rfl⟩ := List.mem_map.mp hp
    by_cases e : q.1 = k
    · rw [if_pos e]; show numC c = _; rw [hc, e]
    · rw [if_neg e]; exact x q hq
  · rcases List.mem_append.mp hp with hp | hp
    · exact x p hp
    · rw [List.mem_singleton.mp hp]; exact hc
theorem numC_plus {a b : CV} : numC (plusC a b) = numC a := by cases a <;> cases b <;> rfl
theorem KindOk.step {M : CM} {c : Str × CV} (x : KindOk M) (hc : numC c.2 = decide (c.1 = kAll)) : KindOk (stepC M c) := by
  unfold stepC
  split
  · exact x.put hc
  · exact x.put (by rw [numC_plus]; exact hc)
theorem putM_len {M : CM} {k : Str} {c : CV} : (putM M k c).length ≤ M.length + 1 := by
  unfold putM
  split
  · simp
  · simp
theorem stepC_len {M : CM} {c : Str × CV} : (stepC M c).length ≤ M.length + 1 := by
  unfold stepC
  split <;> exact putM_len
end Mine
end
/-! ## Ad7 -/
section
open PySem PySem.W PyProof.Rows
set_option Elab.async false
set_option linter.unusedVariables false
set_option maxRecDepth 100000
set_option maxHeartbeats 400000
namespace Mine
/-! ## The two loops of add_callers -/
structure AInv (prog : Program) (w : World) (h₀ : Heap) (L nc : Addr) (dn : Drawn) (os : OsState) (m : Str → Option Value) (M : CM) (kvs : List (Str × Value)) (s : Shared) : Prop where
  old : ∀ b o, b ≠ 89 → h₀.get? b = some o → s.heap.get? b = some o
  ns : s.heap.Ns L m
  dic : s.heap.DictOf (PySem.strKind prog w) nc kvs
  vals : CVs s.heap kvs M
  code : CodeOk s.heap
  gens : AllBare s.gens
  dn : s.drawn = dn
  os : s.os = os
noncomputable abbrev kFunc : Str := Str.ofString "func"
noncomputable abbrev kCaller : Str := Str.ofString "caller"
noncomputable abbrev kNew : Str := Str.ofString "new_callers"
noncomputable abbrev kSource : Str := Str.ofString "source"
section
variable {prog : Program} {w : World} {A : Around} {E : Value → Shared → Prop} {h₀ : Heap} {L nc : Addr} {dn : Drawn} {os : OsState} {m : Str → Option Value} {M : CM} {kvs : List (Str × Value)} {s : Shared}
theorem DictOf.at {h h' : Heap} {a : Addr} (x : h.DictOf (PySem.strKind prog w) a kvs) (hk : ∀ o, h.get? a = some o → h'.get? a = some o) : h'.DictOf (PySem.strKind prog w) a kvs := by
  obtain ⟨o, es, ep, e, r⟩ := x
  exact ⟨o, es, ep, hk _ e, r⟩
theorem DictAt.at {h h' : Heap} {a : Addr} {ep : Nat} (x : h.DictAt (PySem.strKind prog w) a kvs ep) (hk : ∀ o, h.get? a = some o → h'.get? a = some o) : h'.DictAt (PySem.strKind prog w) a kvs ep := by
  obtain ⟨o, es, e, r⟩ := x
  exact ⟨o, es, hk _ e, r⟩
theorem CodeOk.at2 {h h' : Heap} (x : CodeOk h) (hk : ∀ b o, (b = 93 ∨ b = 89) → h.get? b = some o → h'.get? b = some o) : CodeOk h' := by
  obtain ⟨ps, y, t⟩ := x
  exact ⟨ps, y.at2 (fun o => hk _ o (.inl rfl)) (fun o => hk _ o (.inr rfl)), t.at2 (fun o => hk _ o (.inl rfl)) (fun o => hk _ o (.inr rfl))⟩
/-- what is written besides may be moved on -/
theorem AInv.move {h' : Heap} {g' : Gs} {tk' : Nat} {m' : Str → Option Value} {wr : List Addr} (x : AInv prog w h₀ L nc dn os m M kvs s) (h89 : 89 < h₀.objs.size) (h93 : 93 < h₀.objs.size) (hwr : ∀ b ∈ wr, h₀.objs.size ≤ b) (hnc : nc ∉ wr) (hT : ∀ b ∈ wr, ∀ u v, s.heap.get? b ≠ some (tuO u v)) (hg : AllBare g')
    (hk : ∀ b o, b ∉ wr → s.heap.get? b = some o → h'.get? b = some o) (hn : h'.Ns L m') : AInv prog w h₀ L nc dn os m' M kvs ⟨h', g', s.drawn, tk', s.os⟩ where
  old := fun b o hb e => hk b o (fun hm => absurd (Heap.lt_size e) (Nat.not_lt.mpr (hwr _ hm))) (x.old b o hb e)
  ns := hn
  dic := DictOf.at x.dic fun o e => hk _ _ hnc e
  vals := x.vals.move fun T a b e => hk _ _ (fun hm => hT _ hm _ _ e) e
  code := x.code.at2 fun b o hb e => hk _ _ (fun hm => by
    have := hwr _ hm
    rcases hb with rfl | rfl
    · exact absurd h93 (Nat.not_lt.mpr this)
    · exact absurd h89 (Nat.not_lt.mpr this)) e
  gens := hg
  dn := x.dn
  os := x.os
theorem loop_it {body : List Stmt} {it d : Addr} {kd : List (Str × Value)} {ep : Nat} {p1 p2 p3 : Pos} {R : Result → Shared → Prop} (J : Nat → CM → List (Str × Value) → Prop) (K : (Str → Option Value) → Prop)
    (hA : A.handled = none) (h89 : 89 < h₀.objs.size) (h93 : 93 < h₀.objs.size) (hL : h₀.objs.size ≤ L) (hnc : h₀.objs.size ≤ nc) (hi0 : h₀.objs.size ≤ it) (hLn : nc ≠ L) (hiL : it ≠ L) (hni : nc ≠ it)
    (hd : h₀.DictAt (PySem.strKind prog w) d kd ep) (hd89 : d ≠ 89)
    (hK : ∀ m a b, K m → K (fun y => if y = kCaller then some b else if y = kFunc then some a else m y))
    (hit : IsItemIter s.heap it d 0 kd.length ep .none .none) (x : AInv prog w h₀ L nc dn os m M kvs s) (hm : K m) (hJ : J 0 M kvs)
    (step : ∀ i k v t m M kvs s, kd[i]? = some (k, v) → J i M kvs → AInv prog w h₀ L nc dn os m M kvs s → K m → m kFunc = some (.str k t) → m kCaller = some v →
      wpAny (model prog w) A (execs body (envA L)) (fun f s₂ => f = .next ∧ ∃ m' M' kvs', AInv prog w h₀ L nc dn os m' M' kvs' s₂ ∧ K m' ∧ J (i + 1) M' kvs' ∧ ∀ b o, b ≠ nc → b ≠ 89 → s.heap.get? b = some o → s₂.heap.get? b = some o) (notedBy (model prog w) A (envA L) fun e s' => R (.error e) s') s)
    (fin : ∀ s m M kvs, AInv prog w h₀ L nc dn os m M kvs s → K m → J kd.length M kvs → R (.ok .next) s) :
    codeAny (model prog w) A (.forLoop (.Tuple [.Name kFunc p1, .Name kCaller p2] 0 p3) (.ref it) body [] (envA L)) R s := by
  refine codeAny_forLoop_any (fun n s' => ∃ i m M kvs ok ov, IsItemIter s'.heap it d i kd.length ep ok ov ∧ AInv prog w h₀ L nc dn os m M kvs s' ∧ K m ∧ J i M kvs ∧ i ≤ kd.length ∧ n = kd.length + 1 - i) ?_ (kd.length + 1) ⟨0, m, M, kvs, _, _, hit, x, hm, hJ, Nat.zero_le _, rfl⟩
  rintro n s' ⟨i, m, M, kvs, ok, ov, hit, x, hm, hJ, hi, rfl⟩
  have hdd : d < h₀.objs.size := by obtain ⟨o, es, e, _⟩ := hd; exact Heap.lt_size e
  have hd' : s'.heap.DictAt (PySem.strKind prog w) d kd ep := DictAt.at hd fun o e => x.old _ _ hd89 e
  have hT : ∀ b ∈ [it, L], ∀ u v, s'.heap.get? b ≠ some (tuO u v) := by
    intro b hb u v e
    rcases List.mem_cons.mp hb with rfl | hb
    · rw [hit] at e; exact nomatch congrArg Obj.data (Option.some.inj e)
    · rw [List.mem_singleton.mp hb] at e
      obtain ⟨o, es, ep, e', hdt, _⟩ := x.ns
      rw [e] at e'; cases e'; cases hdt
  have hwr : ∀ b ∈ [it, L], h₀.objs.size ≤ b := by
    intro b hb
    rcases List.mem_cons.mp hb with rfl | hb
    · exact hi0
    · rw [List.mem_singleton.mp hb]; exact hL
  have hnw : nc ∉ [it, L] := fun hm => by
    rcases List.mem_cons.mp hm with q | hm
    · exact hni q
    · exact hLn (List.mem_singleton.mp hm)
  obtain ⟨H, g, dn', tk, os'⟩ := s'
  cases hv : kd[i]? with
  | none =>
    have hsz : i = kd.length := Nat.le_antisymm hi (by simpa using hv)
    subst hsz
    refine wpAny_pyNext_items_end hA hit hd' hv fun h₁ he₁ => wpAny_execs_nil ?_
    exact fin _ m M kvs (x.move (wr := [it]) h89 h93 (fun b hb => hwr b (by rw [List.mem_singleton.mp hb]; exact .head _)) (fun hm => hni (List.mem_singleton.mp hm)) (fun b hb => hT b (by rw [List.mem_singleton.mp hb]; exact .head _)) x.gens (fun b o hb e => he₁ b o (fun q => hb (List.mem_singleton.mpr q)) e) (x.ns.extBut he₁ (Ne.symm hiL))) hm hJ
  | some kv =>
    obtain ⟨k, v⟩ := kv
    have hlt : i < kd.length := (List.getElem?_eq_some_iff.mp hv).1
    have hiH : it < H.objs.size := Heap.lt_size hit
    have hLH : L < H.objs.size := x.ns.lt
    refine wpAny_pyNext_items_item hit hd' hv fun key h₁ hkey heo ht₁ hz₁ hk₁ => ?_
    obtain ⟨t, rfl⟩ := Value.isStrOf_shape hkey
    refine wpAny_letOwnedTupleGo_items heo fun h₂ he₂ hs₂ => ?_
    replace hs₂ : Heap.SameBut it h₁ h₂ := hs₂
    have ht₂ : h₂.IsTuple H.objs.size #[.str k t, v] := ⟨_, (hs₂.2 _ (Nat.ne_of_gt hiH)).trans ht₁, rfl, _, rfl⟩
    have hz₂ : h₂.objs.size = H.objs.size + 1 := hs₂.1.trans hz₁
    have up2 : ∀ b o, b ≠ it → H.get? b = some o → h₂.get? b = some o := fun b o hb e => hs₂.extBut b o hb (hk₁ b o hb e)
    refine wpAny_assign_Tuple hA ht₂ rfl rfl fun h₃ hx₃ => ?_
    replace hx₃ : Heap.ExtBut h₂.objs.size h₂ h₃ := hx₃
    have up3 : ∀ b o, b ≠ it → H.get? b = some o → h₃.get? b = some o := fun b o hb e => hx₃ b o (Nat.ne_of_lt (Heap.lt_size (up2 b o hb e))) (up2 b o hb e)
    have hn₃ : h₃.Ns L m := x.ns.at fun o e => up3 _ o (Ne.symm hiL) e
    show wpAny _ _ (do holding [v] (assign (.Name kFunc p1) (envA L) (.str k t)); holding [] (assign (.Name kCaller p2) (envA L) v); pure ()) _ _ _
    refine wpAny_bind (wpAny_holding (wpAny_assign_Name (wpAny_storeName_local (envA_func L) hn₃ (fun h₄ hn₄ hs₄ => ?_))))
    replace hs₄ : Heap.SameBut L h₃ h₄ := hs₄
    refine wpAny_bind (wpAny_holding (wpAny_assign_Name (wpAny_storeName_local (envA_caller L) hn₄ (fun h₅ hn₅ hs₅ => wpAny_pure ?_))))
    replace hs₅ : Heap.SameBut L h₄ h₅ := hs₅
    have up5 : ∀ b o, b ∉ [it, L] → H.get? b = some o → h₅.get? b = some o := fun b o hb e => by
      have n1 : b ≠ it := fun q => hb (q ▸ .head _)
      have n2 : b ≠ L := fun q => hb (q ▸ .tail _ (.head _))
      exact hs₅.extBut _ _ n2 (hs₄.extBut _ _ n2 (up3 b o n1 e))
    have x5 : AInv prog w h₀ L nc dn os (fun y => if y = kCaller then some v else if y = kFunc then some (.str k t) else m y) M kvs ⟨h₅, g, dn', tk + 1 + 1, os'⟩ := x.move (wr := [it, L]) h89 h93 hwr hnw hT x.gens up5 hn₅
    have hi5 : IsItemIter h₅ it d (i + 1) kd.length ep (.str k t) v := hs₅.extBut _ _ hiL (hs₄.extBut _ _ hiL (hx₃ _ _ (by rw [hz₂]; exact Nat.ne_of_lt (Nat.lt_succ_of_lt hiH)) he₂))
    refine wpAny_mono (step i k v t _ M kvs _ hv hJ x5 (hK _ _ _ hm) ?_ ?_) (fun f s₂ h => ?_) fun _ _ e => e
    · show (if kFunc = kCaller then _ else if kFunc = kFunc then _ else _) = _
      rw [if_neg (by decide), if_pos rfl]
    · show (if kCaller = kCaller then _ else _) = _
      rw [if_pos rfl]
    · obtain ⟨rfl, m', M', kvs', x', hm', hJ', hk'⟩ := h
      refine ⟨kd.length + 1 - (i + 1), by omega, i + 1, m', M', kvs', _, _, hk' _ _ (Ne.symm hni) ?_ hi5, x', hm', hJ', hlt, rfl⟩
      exact Nat.ne_of_gt (Nat.lt_of_lt_of_le h89 hi0)
end
end Mine
end
/-! ## Ad8 -/
section
open PySem PySem.W PyProof.Rows
set_option Elab.async false
set_option linter.unusedVariables false
set_option maxRecDepth 100000
set_option maxHeartbeats 400000
namespace Mine
/-! ## The turns of add_callers -/
section
variable {prog : Program} {w : World} {A : Around} {E : Value → Shared → Prop} {h₀ : Heap} {L nc : Addr} {dn : Drawn} {os : OsState} {m : Str → Option Value} {M : CM} {kvs : List (Str × Value)} {s : Shared}
theorem AInv.put {h' : Heap} {g' : Gs} {tk' : Nat} {k : Str} {v : Value} {c : CV} (x : AInv prog w h₀ L nc dn os m M kvs s) (h89 : 89 < h₀.objs.size) (h93 : 93 < h₀.objs.size) (hnc : h₀.objs.size ≤ nc) (hLn : nc ≠ L) (hL : h₀.objs.size ≤ L)
    (hv : CVIs s.heap v c ∨ CVIs h' v c) (hd : h'.DictOf (PySem.strKind prog w) nc (stored kvs k v)) (hk : ∀ b o, b ≠ nc → b ≠ 89 → s.heap.get? b = some o → h'.get? b = some o) (hc : CodeOk h') (hg : AllBare g') :
    AInv prog w h₀ L nc dn os m (putM M k c) (stored kvs k v) ⟨h', g', s.drawn, tk', s.os⟩ := by
  have hT : ∀ T a b, s.heap.get? T = some (tuO a b) → h'.get? T = some (tuO a b) := by
    intro T a b e
    refine hk _ _ (fun q => ?_) (x.code.ne e fun vs q => nomatch q) e
    obtain ⟨o, es, ep, e', _, hdt, _⟩ := x.dic
    rw [← q, e] at e'
    cases e'
    cases hdt
  refine ⟨fun b o hb e => hk _ _ (fun q => absurd (Heap.lt_size e) (Nat.not_lt.mpr (q ▸ hnc))) hb (x.old b o hb e), ?_, hd, ?_, hc, hg, x.dn, x.os⟩
  · exact x.ns.at fun o e => hk _ _ (Ne.symm hLn) (Nat.ne_of_gt (Nat.lt_of_lt_of_le h89 hL)) e
  · exact (x.vals.move hT).stored (hv.elim (fun q => q.move hT) id)
/-- a turn of the first loop -/
theorem turn1 {p1 p2 p3 p4 p5 : Pos} {k : Str} {t : Tok} {v : Value} {c : CV} (h89 : 89 < h₀.objs.size) (h93 : 93 < h₀.objs.size) (hnc : h₀.objs.size ≤ nc) (hLn : nc ≠ L) (hL : h₀.objs.size ≤ L)
    (x : AInv prog w h₀ L nc dn os m M kvs s) (hf : m kFunc = some (.str k t)) (hv : m kCaller = some v) (hn : m kNew = some (.ref nc)) (hc : CVIs s.heap v c) (hsz : kvs.length ≤ 100) :
    wpAny (model prog w) A (execs [.Assign [.Subscript (.Name kNew p1) (.Name kFunc p2) p3] (.Name kCaller p4) p5] (envA L)) (fun f s₂ => f = .next ∧ AInv prog w h₀ L nc dn os m (putM M k c) (stored kvs k v) s₂ ∧ ∀ b o, b ≠ nc → b ≠ 89 → s.heap.get? b = some o → s₂.heap.get? b = some o) E s := by
  obtain ⟨h, g, dn', tk, os'⟩ := s
  refine wpAny_execs_cons (set_new x.ns hf hv hn x.dic hsz fun h' tk' hd hs => wpAny_execs_nil ⟨rfl, ?_, ?_⟩)
  · exact x.put h89 h93 hnc hLn hL (.inl hc) hd (fun b o hb _ e => hs.extBut b o hb e) (x.code.at2 fun b o hb e => hs.extBut b o (by
      rintro rfl
      rcases hb with rfl | rfl
      · exact absurd h93 (Nat.not_lt.mpr hnc)
      · exact absurd h89 (Nat.not_lt.mpr hnc)) e) x.gens
  · exact fun b o hb _ e => hs.extBut b o hb e
/-- a turn of the second loop -/
theorem turn2 {p1 p2 p3 p5 q1 q2 q3 q4 q5 r1 r2 r3 r4 r5 r6 r7 r8 r9 ra rb rc rd re rf u1 u2 u3 u4 u5 v1 v2 v3 v4 w1 w2 w3 w4 w5 : Pos} {k : Str} {t : Tok} {v : Value} {c : CV} (hA : A.handled = none) (hroom : A.depth + 20 < recursionLimit) (G : Glob h₀) (GB : GlobB h₀) (hl : h₀.NoLimit)
    (h89 : 89 < h₀.objs.size) (h93 : 93 < h₀.objs.size) (hnc : h₀.objs.size ≤ nc) (hLn : nc ≠ L) (hL : h₀.objs.size ≤ L)
    (x : AInv prog w h₀ L nc dn os m M kvs s) (hf : m kFunc = some (.str k t)) (hv : m kCaller = some v) (hn : m kNew = some (.ref nc)) (hc : CVIs s.heap v c) (hkc : numC c = decide (k = kAll)) (hM : KindOk M) (hsz : kvs.length ≤ 100) :
    wpAny (model prog w) A (execs [.If (.Compare (.Name kFunc w1) [.In] [.Name kNew w2] w3)
      [.If (.Call (.Name (Str.ofString "isinstance") v1) [.Name kCaller v2, .Name (Str.ofString "tuple") v3] [] v4)
        [.Assign [.Subscript (.Name kNew p1) (.Name kFunc p2) p3] (.Call (.Name (Str.ofString "tuple") r1) [.GeneratorExp (.BinOp (.Name (Str.ofString "i") r2) .Add (.Name (Str.ofString "j") r3) r4)
      [⟨.Tuple [.Name (Str.ofString "i") r5, .Name (Str.ofString "j") r6] 0 r7, .Call (.Name (Str.ofString "zip") r8) [.Name (Str.ofString "caller") r9, .Subscript (.Name (Str.ofString "new_callers") ra) (.Name (Str.ofString "func") rb) rc] [] rd, [], 0⟩] gsc re] [] rf) p5]
        [.AugAssign (.Subscript (.Name kNew q1) (.Name kFunc q2) q3) .Add (.Name kCaller q4) q5] w4]
      [.Assign [.Subscript (.Name kNew u1) (.Name kFunc u2) u3] (.Name kCaller u4) u5] w5] (envA L)) (fun f s₂ => f = .next ∧ (∃ kvs', AInv prog w h₀ L nc dn os m (stepC M (k, c)) kvs' s₂) ∧ ∀ b o, b ≠ nc → b ≠ 89 → s.heap.get? b = some o → s₂.heap.get? b = some o) E s := by
  have hkey : (PySem.strKind prog w).is k (.str k t) = true := by show Value.isStrOf k (.str k t) = true; simp [Value.isStrOf]
  have hS : (nc == sysModules) = false := by
    rw [beq_eq_false_iff_ne]
    rintro rfl
    exact absurd (Nat.lt_of_lt_of_le h89 hnc) (by decide)
  have hlh : s.heap.NoLimit := hl.at fun o e => x.old _ o (by decide) e
  obtain ⟨mg, mb, hg, hb, gg⟩ := G
  have G' : Glob s.heap := ⟨mg, mb, hg.at fun o e => x.old _ o (by decide) e, hb.at fun o e => x.old _ o (by decide) e, gg⟩
  obtain ⟨mg', o4, g1, g2, g3, g4⟩ := GB
  have GB' : GlobB s.heap := ⟨mg', o4, g1.at fun o e => x.old _ o (by decide) e, g2, x.old _ o4 (by decide) g3, g4⟩
  obtain ⟨h, g, dn', tk, os'⟩ := s
  refine wpAny_execs_cons (wpAny_If (wpAny_isTrue_Compare1 (nm_local (envA_func L) x.ns hf (by decide +kernel) (nm_local (envA_new L) x.ns hn (by decide +kernel) (wpAny_in_of hkey hS x.dic.mapOf (wpAny_truthy_bool ?_))))))
  have done : ∀ (Q : Flow → Shared → Prop) s₂, Q .next s₂ → wpAny (model prog w) A (execs [] (envA L)) Q E s₂ := fun Q s₂ h => wpAny_execs_nil h
  have h89k : ∀ b, b = 93 ∨ b = 89 → b ≠ nc := by
    rintro b hb rfl
    rcases hb with rfl | rfl
    · exact absurd h93 (Nat.not_lt.mpr hnc)
    · exact absurd h89 (Nat.not_lt.mpr hnc)
  rcases x.vals.get k with ⟨e1, e2⟩ | ⟨v', c', e1, e2, hc'⟩
  · rw [e1]
    show wpAny _ _ (execs [.Assign [.Subscript (.Name kNew u1) (.Name kFunc u2) u3] (.Name kCaller u4) u5] (envA L)) _ _ _
    refine wpAny_execs_cons (set_new x.ns hf hv hn x.dic hsz fun h' tk' hd hs => done _ _ (done _ _ ⟨rfl, ⟨stored kvs k v, ?_⟩, fun b o hb _ e => hs.extBut b o hb e⟩))
    have := x.put (v := v) (tk' := tk') (g' := g) (k := k) (c := c) h89 h93 hnc hLn hL (.inl hc) hd (fun b o hb _ e => hs.extBut b o hb e) (x.code.at2 fun b o hb e => hs.extBut b o (h89k b hb) e) x.gens
    unfold stepC
    rw [e2]
    exact this
  · rw [e1]
    have hk2 := hM _ (getM_mem e2)
    have hst : stepC M (k, c) = putM M k (plusC c c') := by unfold stepC; rw [e2]
    rw [hst]
    show wpAny _ _ (execs [.If _ _ _ _] (envA L)) _ _ _
    refine wpAny_execs_cons (wpAny_If ?_)
    cases c with
    | num n =>
      obtain ⟨tv, rfl⟩ := hc
      refine isi_test (b := false) G' x.ns hv (.inr ⟨_, _, rfl, rfl⟩) fun tk1 => ?_
      cases c' with
      | pair a b => exact absurd (hk2.trans hkc.symm) (by simp [numC])
      | num n' =>
        obtain ⟨tv', rfl⟩ := hc'
        show wpAny _ _ (execs [.AugAssign _ _ _ _] (envA L)) _ _ _
        refine wpAny_execs_cons (aug_new x.ns hf hv hn x.dic hsz e1 fun h' tk' t' hd hs => done _ _ (done _ _ (done _ _ ⟨rfl, ⟨stored kvs k (.int (n' + n) t'), ?_⟩, fun b o hb _ e => hs.extBut b o hb e⟩)))
        exact x.put (tk' := tk') (g' := g) (k := k) (c := plusC (.num n) (.num n')) h89 h93 hnc hLn hL (.inl ⟨t', rfl⟩) hd (fun b o hb _ e => hs.extBut b o hb e) (x.code.at2 fun b o hb e => hs.extBut b o (h89k b hb) e) x.gens
    | pair a b =>
      obtain ⟨t1, a1, b1, rfl, x1⟩ := hc
      refine isi_test (b := true) G' x.ns hv (.inl ⟨_, _, rfl, x1, rfl, rfl⟩) fun tk1 => ?_
      cases c' with
      | num n' => exact absurd (hk2.trans hkc.symm) (by simp [numC])
      | pair a' b' =>
        obtain ⟨t2, a2, b2, rfl, x2⟩ := hc'
        show wpAny _ _ (execs [.Assign _ _ _] (envA L)) _ _ _
        refine wpAny_execs_cons (wpAny_Assign_Subscript (tup_val (s := ⟨h, g, dn', tk1, os'⟩) hA hroom G' GB' hlh x.code x.gens x.ns hf hv hn x.dic e1 x1 x2 fun h' g' tk' T u v hk hcd hgs hl' hT hTo => ?_))
        have ns' : h'.Ns L m := x.ns.at fun o e => hk _ _ (Nat.ne_of_gt (Nat.lt_of_lt_of_le h89 hL)) e
        have dic' : h'.DictOf (PySem.strKind prog w) nc kvs := DictOf.at x.dic fun o e => hk _ _ (Ne.symm (h89k 89 (.inr rfl))) e
        refine nm_local (envA_new L) ns' hn (by decide +kernel) (nm_local (envA_func L) ns' hf (by decide +kernel) ?_)
        refine wpAny_setItem_pairs (k := k) hkey dic' (fun h2 hd hs => done _ _ (done _ _ (done _ _ ⟨rfl, ⟨stored kvs k (.ref T), ?_⟩, fun b o hb h9 e => hs.extBut b o hb (hk _ _ h9 e)⟩))) (by rw [PySem.sizeLine_eq]; omega)
        refine x.put (g' := g') (k := k) (c := plusC (.pair a b) (.pair a' b')) h89 h93 hnc hLn hL (.inr ⟨T, _, _, rfl, hs.extBut _ _ ?_ hTo⟩) hd (fun b o hb h9 e => hs.extBut b o hb (hk _ _ h9 e)) (hcd.at2 fun b o hb e => hs.extBut b o (h89k b hb) e) hgs
        have : nc < h.objs.size := by obtain ⟨o, es, ep, e, _⟩ := x.dic; exact Heap.lt_size e
        exact Nat.ne_of_gt (Nat.lt_of_lt_of_le this hT)
end
end Mine
end
/-! ## Ad9 -/
section
open PySem PySem.W PyProof.Rows
set_option Elab.async false
set_option linter.unusedVariables false
set_option maxRecDepth 100000
set_option maxHeartbeats 2000000
namespace Mine
/-! ## add_callers -/
noncomputable def Callers (prog : Program) (w : World) (h : Heap) (d : Addr) (M : CM) : Prop := d ≠ sysModules ∧ ∃ kvs, h.DictOf (PySem.strKind prog w) d kvs ∧ CVs h kvs M
theorem not_before {α β : Type} [DecidableEq α] : ∀ {l : List (α × β)} {i : Nat} {k : α} {v : β}, (l.map (·.1)).Nodup → l[i]? = some (k, v) → (l.take i).any (fun kv => kv.1 = k) = false
  | [], i, k, v, _, e => by simp at e
  | a :: l, 0, k, v, _, e => rfl
  | a :: l, i + 1, k, v, nd, e => by
    rw [List.map_cons, List.nodup_cons] at nd
    have e' : l[i]? = some (k, v) := by simpa using e
    rw [List.take_succ_cons, List.any_cons, not_before nd.2 e', Bool.or_false, decide_eq_false_iff_not]
    rintro q
    exact nd.1 (List.mem_map.mpr ⟨(k, v), List.mem_of_getElem? e', q.symm⟩)
theorem take_one {α : Type} {l : List α} {i : Nat} {x : α} (e : l[i]? = some x) : l.take (i + 1) = l.take i ++ [x] := by
  rw [List.take_add_one, e]; rfl
theorem CVs.nodup {h : Heap} : ∀ {l : List (Str × Value)} {M : CM}, CVs h l M → l.map (·.1) = M.map (·.1)
  | [], [], _ => rfl
  | a :: _, b :: _, x => by rw [List.map_cons, List.map_cons, CVs.nodup x.2, x.1.1]
  | [], _ :: _, x => x.elim
  | _ :: _, [], x => x.elim
theorem fold_kind : ∀ (l : CM) {M : CM}, KindOk M → KindOk l → KindOk (l.foldl stepC M)
  | [], _, x, _ => x
  | c :: l, M, x, y => fold_kind l (x.step (y c (.head _))) fun c hc => y c (.tail _ hc)
theorem fold_len : ∀ (l : CM) (M : CM), (l.foldl stepC M).length ≤ M.length + l.length
  | [], _ => Nat.le_refl _
  | c :: l, M => by
    have h1 := fold_len l (stepC M c)
    have h2 := stepC_len (M := M) (c := c)
    rw [List.foldl_cons, List.length_cons]
    omega
noncomputable abbrev kTarget : Str := Str.ofString "target"
theorem frame_ns {h : Heap} {L : Addr} {P : Params} {τ : List Tok} {dT dS : Addr} (e : h.get? L = some (mkO (vFrame [en P [116, 97, 114, 103, 101, 116] (.ref dT), en P [115, 111, 117, 114, 99, 101] (.ref dS)] 2) τ)) :
    ∃ m, h.Ns L m ∧ m kTarget = some (.ref dT) ∧ m kSource = some (.ref dS) := by
  refine ⟨fun y => nsFind _ y, ⟨_, _, _, e, rfl, ?_, fun _ => rfl⟩, ?_, ?_⟩
  · intro x hx
    rcases List.mem_cons.mp (Array.mem_toList_iff.mpr hx) with rfl | hx
    · exact ⟨_, _, rfl⟩
    · rcases List.mem_cons.mp hx with rfl | hx
      · exact ⟨_, _, rfl⟩
      · cases hx
  · kernel_rfl!
  · kernel_rfl!
theorem glob_of {P : Params} {h₀ h : Heap} {fp : List Addr} {l : List Ent} (S : St (topObj P) h₀ h fp l) : Glob h ∧ GlobB h := by
  have sk : ∀ {a : Addr} {o : Obj} {es : Array DictEntry} {n : Nat}, h.get? a = some o → o.data = .dict es n → (es.toList.all fun e => match e.key with | .str .. => true | _ => false) = true → h.Ns a (fun y => nsFind es y) := by
    intro a o es n e hd ha
    refine ⟨o, es, n, e, hd, fun x hx => ?_, fun _ => rfl⟩
    have := List.all_eq_true.mp ha x (Array.mem_toList_iff.mpr hx)
    cases hk : x.key with
    | str s t => exact ⟨_, _, rfl⟩
    | _ => rw [hk] at this; cases this
  have e3 := sk (S.topGet (a := 3) (o := t3 P) rfl) rfl (by kernel_rfl!)
  have e0 := sk (S.topGet (a := 0) (o := t0 P) rfl) rfl (by kernel_rfl!)
  exact ⟨⟨_, _, e3, e0, by kernel_rfl!, by kernel_rfl!, by kernel_rfl!, by kernel_rfl!, by kernel_rfl!, by kernel_rfl!⟩, ⟨_, _, e3, by kernel_rfl!, S.topGet (a := 4) (o := t4 P) rfl, rfl, rfl, rfl⟩⟩
/-- the code table of add_callers -/
noncomputable abbrev tab89 (V : OV) : EV := ⟨89, true, V⟩
theorem add_callers_spec {C : Cx} {A : Around} {R : Post Result} {h : Heap} {g : Gs} {tk : Nat} (hroom : A.depth + 40 < recursionLimit) (hA : A.handled = none) {dT dS : Addr} {MT MS : CM} {V : OV} {τ : List (List Tok)}
    (S : St (topObj C.w.params) h h [89] (mkL [tab89 V] τ)) (hcd : CodeOk h) (hg : AllBare g) (xT : Callers C.prog C.w h dT MT) (xS : Callers C.prog C.w h dS MS) (kT : KindOk MT) (kS : KindOk MS) (lT : MT.length ≤ 40) (lS : MS.length ≤ 40)
    (k : ∀ h' g' tk' d V' τ', St (topObj C.w.params) h h' [89] (mkL [tab89 V'] τ') → CodeOk h' → AllBare g' → Callers C.prog C.w h' d (addC MT MS) → R (.ok (.ret (.ref d))) h' g' tk') :
    CodeP C A (.call (.ref 94) ⟨[.ref dT, .ref dS], []⟩) R h g tk := by
  refine call_fn S (by omega) (S.topGet rfl) rfl rfl rfl rfl rfl (S.topGet rfl) rfl rfl rfl ?_
  refine go_again (F := 9) (H := 1074791425) (c' := .func (bodyOf (stm 6)) (envA (h.objs.size + 0))) S (fun h1 tk1 S1 => ?_) (by kernel_rfl!)
  obtain ⟨G, GB⟩ := glob_of S
  obtain ⟨τ2, S1'⟩ := S1.part [0] (vl := [⟨h.objs.size + 0, true, vFrame [en C.w.params [116, 97, 114, 103, 101, 116] (.ref dT), en C.w.params [115, 111, 117, 114, 99, 101] (.ref dS)] 2⟩]) (by kernel_rfl!)
  obtain ⟨m, hn1, hmT, hmS⟩ := frame_ns (S1'.at (i := 0) rfl)
  have old1 : ∀ b o, b ≠ 89 → h.get? b = some o → h1.get? b = some o := fun b o hb e => S1.old b o e (fun hm => hb (List.mem_singleton.mp hm))
  have k89 : ∀ o, h.get? 89 = some o → h1.get? 89 = some o := fun o e => by
    have e1 := S.at (i := 0) rfl
    have e2 := S1.at (i := 1) (e := ⟨89, true, mkO V (hdL τ)⟩) (by kernel_rfl!)
    rw [show h.get? 89 = _ from e1] at e
    cases e
    exact e2
  have hL : h.objs.size ≤ h.objs.size + 0 := Nat.le_refl _
  generalize h.objs.size + 0 = L at hn1 hL
  have h89 : 89 < h.objs.size := hcd.lt89
  have h93 : 93 < h.objs.size := hcd.lt93
  have hcd1 : CodeOk h1 := hcd.at2 fun b o hb e => by
    rcases hb with rfl | rfl
    · exact old1 _ _ (by decide) e
    · exact k89 o e
  obtain ⟨nT, kvT, dictT, cvT⟩ := xT
  obtain ⟨nS, kvS, dictS, cvS⟩ := xS
  have hT89 : dT ≠ 89 := by
    obtain ⟨o, es, ep, e, _, hdt, _⟩ := dictT
    exact hcd.ne e fun vs q => by rw [hdt] at q; cases q
  have hS89 : dS ≠ 89 := by
    obtain ⟨o, es, ep, e, _, hdt, _⟩ := dictS
    exact hcd.ne e fun vs q => by rw [hdt] at q; cases q
  obtain ⟨epT, atT⟩ := dictT.dictAt
  obtain ⟨epS, atS⟩ := dictS.dictAt
  have ndT : (kvT.map (·.1)).Nodup := by obtain ⟨o, es, _, _, _, _, _, nd⟩ := atT; exact nd
  have hA' : (A.deeper (envA L)).handled = none := hA
  have hr' : (A.deeper (envA L)).depth + 20 < recursionLimit := by
    show A.depth + 1 + 20 < _
    omega
  refine ⟨codeAny_func ?_⟩
  generalize A.deeper (envA L) = A' at hA' hr'
  refine wpAny_execs_cons ?_
  refine wpAny_Assign_Name (wpAny_Dict_empty (wpAny_storeName_local (envA_new L) (hn1.push _) fun h2 hn2 hs2 => wpAny_execs_cons ?_))
  replace hs2 : Heap.SameBut L (h1.push { cls := .type "dict", data := .dict #[] }) h2 := hs2
  have hL1 : L < h1.objs.size := hn1.lt
  have hncL : h1.objs.size ≠ L := Nat.ne_of_gt hL1
  have hz1 : h.objs.size ≤ h1.objs.size := Nat.le_of_lt (Nat.lt_of_le_of_lt hL hL1)
  have hLT : ∀ u v, h1.get? L ≠ some (tuO u v) := by
    intro u v e
    obtain ⟨o, es, ep, e', hdt, _⟩ := hn1
    rw [e] at e'; cases e'; cases hdt
  have up2 : ∀ b o, b ≠ L → h1.get? b = some o → h2.get? b = some o := fun b o hb e => hs2.extBut b o hb (Heap.get?_push_of_some _ e)
  have x2 : AInv C.prog C.w h L h1.objs.size C.d C.os (fun y => if y = kNew then some (.ref h1.objs.size) else m y) [] [] ⟨h2, g, C.d, tk1 + 1, C.os⟩ := by
    refine ⟨fun b o hb e => up2 b o (Nat.ne_of_lt (Nat.lt_of_lt_of_le (Heap.lt_size e) hL)) (old1 b o hb e), hn2, DictOf.at (Heap.DictOf.new h1) fun o e => hs2.extBut _ _ hncL e, trivial, hcd1.at2 fun b o hb e => up2 b o (Nat.ne_of_lt ?_) e, hg, rfl, rfl⟩
    rcases hb with rfl | rfl
    · exact Nat.lt_of_lt_of_le h93 hL
    · exact Nat.lt_of_lt_of_le h89 hL
  generalize hnc : h1.objs.size = nc at x2 hncL hz1
  have ns2 := x2.ns
  have e1 : (fun y => if y = kNew then some (Value.ref nc) else m y) kTarget = some (.ref dT) := by
    show (if kTarget = kNew then _ else _) = _
    rw [if_neg (by decide)]; exact hmT
  have e2 : (fun y => if y = kNew then some (Value.ref nc) else m y) kSource = some (.ref dS) := by
    show (if kSource = kNew then _ else _) = _
    rw [if_neg (by decide)]; exact hmS
  have e3 : (fun y => if y = kNew then some (Value.ref nc) else m y) kNew = some (.ref nc) := by
    show (if kNew = kNew then _ else _) = _
    rw [if_pos rfl]
  generalize (fun y => if y = kNew then some (Value.ref nc) else m y) = m2 at x2 ns2 e1 e2 e3
  have lenT : kvT.length = MT.length := cvT.len
  have lenS : kvS.length = MS.length := cvS.len
  have ndM : (MT.map (·.1)).Nodup := by rw [← cvT.nodup]; exact ndT
  have hTt : ∀ T a b, h.get? T = some (tuO a b) → T ≠ 89 := fun T a b e => hcd.ne e fun vs q => nomatch q
  -- the first loop
  have dT2 : h2.DictAt (PySem.strKind C.prog C.w) dT kvT epT := DictAt.at atT fun o e => x2.old _ _ hT89 e
  refine wpAny_For (wpAny_Call_items (knd := PySem.strKind C.prog C.w) (beq_eq_false_iff_ne.mpr nT) dT2.dictOf rfl rfl (fun Q' hQ' => nm_local (envA_target L) x2.ns e1 (by decide +kernel) hQ') ?_)
  refine wpAny_pyIter_items (knd := PySem.strKind C.prog C.w) (d := dT) (kvs := kvT) (ep := epT) ⟨_, Heap.get?_push_size _ rfl, rfl, rfl⟩ (DictAt.at dT2 fun o e => Heap.get?_push_of_some _ e) ?_
  have zpush : ∀ (h : Heap) o, (h.push o).objs.size = h.objs.size + 1 := fun h o => Heap.size_push ..
  have ncl2 : nc < h2.objs.size := by obtain ⟨o, es, ep, e, _⟩ := x2.dic; exact Heap.lt_size e
  have Ll2 : L < h2.objs.size := x2.ns.lt
  have x3 := x2.move (wr := []) (h' := (h2.push { cls := .type "dict_items", data := .fields #[.ref dT] }).push { cls := .type "dict_itemiterator", data := .fields #[.none, .bool false, .ref dT, .int 0 0, .int kvT.length 0, .int epT 0, .none, .none] }) (tk' := tk1 + 1) (m' := m2)
    h89 h93 (fun b hb => nomatch hb) (fun hb => nomatch hb) (fun b hb => nomatch hb) x2.gens (fun b o _ e => Heap.get?_push_of_some _ (Heap.get?_push_of_some _ e)) ((x2.ns.push _).push _)
  refine loop_it (h₀ := h) (L := L) (nc := nc) (dn := C.d) (os := C.os) (M := []) (kvs := []) (m := m2) (kd := kvT) (ep := epT) (d := dT) (fun i M kvs => M = MT.take i ∧ kvs = kvT.take i) (fun m => m kNew = some (.ref nc) ∧ m kSource = some (.ref dS))
    hA' h89 h93 hL hz1 ?_ hncL ?_ ?_ atT hT89 ?_ (Heap.get?_push_size _ rfl) x3 ⟨e3, e2⟩ ⟨rfl, rfl⟩ ?_ ?_
  · show h.objs.size ≤ (h2.push _).objs.size
    rw [zpush]; exact Nat.le_succ_of_le (Nat.le_of_lt (Nat.lt_of_le_of_lt hL Ll2))
  · show (h2.push _).objs.size ≠ L
    rw [zpush]; exact Nat.ne_of_gt (Nat.lt_succ_of_lt Ll2)
  · show nc ≠ (h2.push _).objs.size
    rw [zpush]; exact Nat.ne_of_lt (Nat.lt_succ_of_lt ncl2)
  · rintro m a b ⟨q1, q2⟩
    refine ⟨?_, ?_⟩
    · show (if kNew = kCaller then _ else if kNew = kFunc then _ else _) = _
      rw [if_neg (by decide), if_neg (by decide)]; exact q1
    · show (if kSource = kCaller then _ else if kSource = kFunc then _ else _) = _
      rw [if_neg (by decide), if_neg (by decide)]; exact q2
  · rintro i ky v t m M kvs s hi ⟨rfl, rfl⟩ x hm hf hv
    obtain ⟨c, hc1, hc2⟩ := cvT.nth hi
    refine wpAny_mono (turn1 h89 h93 hz1 hncL hL x hf hv hm.1 (hc2.move fun T a b e => x.old _ _ (hTt _ _ _ e) e) ?_) (fun f s₂ y => ?_) fun _ _ e => e
    · rw [List.length_take]; omega
    · obtain ⟨rfl, y1, y2⟩ := y
      have f1 : putM (MT.take i) ky c = MT.take (i + 1) := by
        unfold putM
        rw [not_before ndM hc1, take_one hc1]; rfl
      have f2 : stored (kvT.take i) ky v = kvT.take (i + 1) := by
        unfold stored
        rw [not_before ndT hi, take_one hi]; rfl
      rw [f1, f2] at y1
      exact ⟨rfl, m, _, _, y1, hm, ⟨rfl, rfl⟩, y2⟩
  rintro s m M kvs x ⟨hm1, hm2⟩ ⟨hM, hkv⟩
  obtain rfl : M = MT := by rw [hM, lenT, List.take_length]
  clear hM hkv x3 x2 e1 e2 e3 ns2 dT2 hn2 hs2
  -- the second loop
  show wpAny _ _ (execs _ (envA L)) _ _ s
  refine wpAny_execs_cons ?_
  obtain ⟨h3, g3, dn3, tk3, os3⟩ := s
  have dS2 : h3.DictAt (PySem.strKind C.prog C.w) dS kvS epS := DictAt.at atS fun o e => x.old _ _ hS89 e
  refine wpAny_For (wpAny_Call_items (knd := PySem.strKind C.prog C.w) (beq_eq_false_iff_ne.mpr nS) dS2.dictOf rfl rfl (fun Q' hQ' => nm_local (envA_source L) x.ns hm2 (by decide +kernel) hQ') ?_)
  refine wpAny_pyIter_items (knd := PySem.strKind C.prog C.w) (d := dS) (kvs := kvS) (ep := epS) ⟨_, Heap.get?_push_size _ rfl, rfl, rfl⟩ (DictAt.at dS2 fun o e => Heap.get?_push_of_some _ e) ?_
  have ncl3 : nc < h3.objs.size := by obtain ⟨o, es, ep, e, _⟩ := x.dic; exact Heap.lt_size e
  have Ll3 : L < h3.objs.size := x.ns.lt
  have x3 := x.move (wr := []) (h' := (h3.push { cls := .type "dict_items", data := .fields #[.ref dS] }).push { cls := .type "dict_itemiterator", data := .fields #[.none, .bool false, .ref dS, .int 0 0, .int kvS.length 0, .int epS 0, .none, .none] }) (tk' := tk3) (m' := m)
    h89 h93 (fun b hb => nomatch hb) (fun hb => nomatch hb) (fun b hb => nomatch hb) x.gens (fun b o _ e => Heap.get?_push_of_some _ (Heap.get?_push_of_some _ e)) ((x.ns.push _).push _)
  refine loop_it (h₀ := h) (L := L) (nc := nc) (dn := C.d) (os := C.os) (M := M) (kvs := kvs) (m := m) (kd := kvS) (ep := epS) (d := dS) (fun i M' kvs => M' = (MS.take i).foldl stepC M) (fun m => m kNew = some (.ref nc))
    hA' h89 h93 hL hz1 ?_ hncL ?_ ?_ atS hS89 ?_ (Heap.get?_push_size _ rfl) x3 hm1 rfl ?_ ?_
  · show h.objs.size ≤ (h3.push _).objs.size
    rw [zpush]; exact Nat.le_succ_of_le (Nat.le_of_lt (Nat.lt_of_le_of_lt hL Ll3))
  · show (h3.push _).objs.size ≠ L
    rw [zpush]; exact Nat.ne_of_gt (Nat.lt_succ_of_lt Ll3)
  · show nc ≠ (h3.push _).objs.size
    rw [zpush]; exact Nat.ne_of_lt (Nat.lt_succ_of_lt ncl3)
  · intro m a b q1
    show (if kNew = kCaller then _ else if kNew = kFunc then _ else _) = _
    rw [if_neg (by decide), if_neg (by decide)]; exact q1
  · rintro i ky v t m' M' kvs' s hi rfl x' hm hf hv
    obtain ⟨c, hc1, hc2⟩ := cvS.nth hi
    have hkc := kS _ (List.mem_of_getElem? hc1)
    have hMk : KindOk ((MS.take i).foldl stepC M) := fold_kind _ kT fun c hc => kS c (List.mem_of_mem_take hc)
    have hl := fold_len (MS.take i) M
    rw [List.length_take] at hl
    have hl2 := x'.vals.len
    refine wpAny_mono (turn2 hA' hr' G GB S.nolim h89 h93 hz1 hncL hL x' hf hv hm (hc2.move fun T a b e => x'.old _ _ (hTt _ _ _ e) e) hkc hMk (by omega)) (fun f s₂ y => ?_) fun _ _ e => e
    obtain ⟨rfl, ⟨kvs2, y1⟩, y2⟩ := y
    have f1 : stepC ((MS.take i).foldl stepC M) (ky, c) = (MS.take (i + 1)).foldl stepC M := by
      rw [take_one hc1, List.foldl_append]; rfl
    rw [f1] at y1
    exact ⟨rfl, _, _, _, y1, hm, rfl, y2⟩
  rintro s m' M' kvs' x' hm' hM
  obtain rfl : M' = addC M MS := by rw [hM, lenS, List.take_length]; rfl
  obtain ⟨h4, g4, dn4, tk4, os4⟩ := s
  show wpAny _ _ (execs _ (envA L)) _ _ _
  refine wpAny_execs_cons (wpAny_Return_some (nm_local (envA_new L) x'.ns hm' (by decide +kernel) ?_))
  obtain rfl : dn4 = C.d := x'.dn
  obtain rfl : os4 = C.os := x'.os
  obtain ⟨op, hop⟩ : ∃ op, h4.get? 89 = some op := let ⟨_, _, t⟩ := x'.code; ⟨_, t.2⟩
  refine ⟨h4, g4, tk4, rfl, k h4 g4 tk4 nc (ov op) [toksD op.data] ?_ x'.code x'.gens ⟨?_, _, x'.dic, x'.vals⟩⟩
  · rw [show mkL [tab89 (ov op)] [toksD op.data] = [⟨89, true, op⟩] from by show [(⟨89, true, mkO (ov op) (toksD op.data)⟩ : Ent)] = _; rw [mkO_ov]]
    exact ⟨by simp, fun p hp => by rw [List.mem_singleton.mp hp]; exact hop, fun p hp _ => by rw [List.mem_singleton.mp hp]; exact .inl (.head _), fun b o e hb => x'.old b o (fun q => hb (q ▸ .head _)) e, S.top, Nat.le_of_lt (Nat.lt_of_le_of_lt hL x'.ns.lt), S.lim, S.two⟩
  · rintro rfl
    exact absurd (Nat.lt_of_lt_of_le h89 hz1) (by decide)
end Mine
end
/-! ## Kp -/
section
open PySem PySem.W PyProof.Rows
set_option Elab.async false
set_option linter.unusedVariables false
set_option maxRecDepth 100000
set_option maxHeartbeats 400000
namespace Mine
/-! ## What no run changes: tuples, and dicts but a lexer's own -/
noncomputable abbrev kLn : Str := ⟨#[108, 105, 110, 101, 110, 111]⟩
noncomputable def fzD : Data → Bool
  | .dict ⟨es⟩ _ => match es with
    | [] => true
    | e :: _ => match e.key with
      | .str s _ => !decide (s = kLn)
      | _ => false
  | _ => false
noncomputable def fzO (o : Obj) : Bool := match o.cls with
  | .type s => match PySem.W.S.eqLit 439922816629 s with
    | true => match o.data with
      | .seq .. => true
      | _ => false
    | false => match PySem.W.S.eqLit 1969515109 s with
      | true => fzD o.data
      | false => false
  | _ => false
noncomputable def okF (f : Obj → Bool) : List Ent → Bool
  | [] => true
  | e :: l => match e.w with
    | false => okF f l
    | true => match f e.o with
      | false => okF f l
      | true => false
noncomputable abbrev okL : List Ent → Bool := okF fzO
/-- but for one place -/
noncomputable def okI (f : Obj → Bool) : Nat → List Ent → Bool
  | _, [] => true
  | 0, _ :: l => okF f l
  | i + 1, e :: l => match e.w with
    | false => okI f i l
    | true => match f e.o with
      | false => okI f i l
      | true => false
noncomputable def wrA : List Ent → List Addr
  | [] => []
  | e :: l => match e.w with
    | true => e.a :: wrA l
    | false => wrA l
noncomputable def Kp (h h' : Heap) : Prop := ∀ b o, fzO o = true → h.get? b = some o → h'.get? b = some o
theorem Kp.trans {h h' h'' : Heap} (x : Kp h h') (y : Kp h' h'') : Kp h h'' := fun b o f e => y b o f (x b o f e)
theorem wrA_mem : ∀ {l : List Ent} {a : Addr}, a ∈ wrA l → ∃ e ∈ l, e.a = a ∧ e.w = true
  | [], _, h => nomatch h
  | e :: l, a, h => by
    unfold wrA at h
    split at h
    · rename_i q
      rcases List.mem_cons.mp h with rfl | h
      · exact ⟨e, .head _, rfl, q⟩
      · obtain ⟨e', h1, h2⟩ := wrA_mem h; exact ⟨e', .tail _ h1, h2⟩
    · obtain ⟨e', h1, h2⟩ := wrA_mem h; exact ⟨e', .tail _ h1, h2⟩
theorem wrA_of : ∀ {l : List Ent} {e : Ent}, e ∈ l → e.w = true → e.a ∈ wrA l
  | [], _, h, _ => nomatch h
  | x :: l, e, h, q => by
    unfold wrA
    rcases List.mem_cons.mp h with rfl | h
    · rw [q]; exact .head _
    · split
      · exact .tail _ (wrA_of h q)
      · exact wrA_of h q
theorem okL_of {f : Obj → Bool} : ∀ {l : List Ent} {e : Ent}, okF f l = true → e ∈ l → e.w = true → f e.o = false
  | [], _, _, h, _ => nomatch h
  | x :: l, e, ok, h, q => by
    unfold okF at ok
    split at ok
    · rename_i w
      rcases List.mem_cons.mp h with rfl | h
      · rw [w] at q; cases q
      · exact okL_of ok h q
    · split at ok
      · rename_i f
        rcases List.mem_cons.mp h with rfl | h
        · exact f
        · exact okL_of ok h q
      · cases ok
theorem okI_of {f : Obj → Bool} : ∀ {i : Nat} {l : List Ent} {e : Ent}, okI f i l = true → e ∈ l → e.w = true → f e.o = false ∨ nth l i = some e
  | _, [], _, _, h, _ => nomatch h
  | 0, x :: l, e, ok, h, q => by
    rcases List.mem_cons.mp h with rfl | h
    · exact .inr rfl
    · exact .inl (okL_of ok h q)
  | i + 1, x :: l, e, ok, h, q => by
    unfold okI at ok
    split at ok
    · rename_i w
      rcases List.mem_cons.mp h with rfl | h
      · rw [w] at q; cases q
      · exact okI_of (i := i) ok h q
    · split at ok
      · rename_i f
        rcases List.mem_cons.mp h with rfl | h
        · exact .inl f
        · exact okI_of (i := i) ok h q
      · cases ok
theorem fz_not_fields {o : Obj} (e : fzO o = true) : ∀ vs, o.data ≠ .fields vs := by
  intro vs q
  unfold fzO at e
  rw [q] at e
  split at e
  · split at e
    · cases e
    · split at e
      · cases e
      · cases e
  · cases e
section
variable {T T' : Nat → Option Obj} {h₀ h h' : Heap} {fp fp' : List Addr} {l l' : List Ent}
theorem St.kp89 (x : CodeOk h) (S : St T h₀ h fp l) (S' : St T' h h' fp' l') (i : Nat) (hk : (fp', okI fzO i l, (nth l i).map (·.a)) = (wrA l, true, some 89)) : Kp h h' := by
  intro b o f e
  have e1 : fp' = wrA l := congrArg (·.1) hk
  have e2 : okI fzO i l = true := congrArg (·.2.1) hk
  have e4 : (nth l i).map (·.a) = some 89 := congrArg (·.2.2) hk
  refine S'.old b o e fun hm => ?_
  rw [e1] at hm
  obtain ⟨x', hx, rfl, q⟩ := wrA_mem hm
  have e3 := S.get x' hx
  rcases okI_of e2 hx q with this | this
  · rw [e3] at e
    cases e
    rw [f] at this
    cases this
  · rw [this] at e4
    have e5 : x'.a = 89 := Option.some.inj e4
    exact x.ne e (fz_not_fields f) e5
theorem St.kp (S : St T h₀ h fp l) (S' : St T' h h' fp' l') (hk : (fp', okL l) = (wrA l, true)) : Kp h h' := by
  intro b o f e
  have e1 : fp' = wrA l := congrArg Prod.fst hk
  have e2 : okL l = true := congrArg Prod.snd hk
  refine S'.old b o e fun hm => ?_
  rw [e1] at hm
  obtain ⟨x, hx, rfl, q⟩ := wrA_mem hm
  have := okL_of e2 hx q
  have e3 := S.get x hx
  rw [e3] at e
  cases e
  rw [f] at this
  cases this
theorem St.rebase (S : St T h₀ h fp l) : St T h h (wrA l) l := by
  have key : ∀ a ∈ wrA l, a ∈ fp ∨ h₀.objs.size ≤ a := by
    intro a ha
    obtain ⟨x, hx, rfl, q⟩ := wrA_mem ha
    exact S.wr x hx q
  refine ⟨S.nd, S.get, fun p hp hw => .inl (wrA_of hp hw), fun b o e _ => e, fun a o e => ⟨S.topGet e, fun ha => ?_⟩, Nat.le_refl _, S.nolim, fun ha => ?_⟩
  · rcases key a ha with q | q
    · exact (S.top a o e).2 q
    · exact absurd (Heap.lt_size (S.top a o e).1) (Nat.not_lt.mpr q)
  · rcases key _ ha with q | q
    · exact S.two q
    · obtain ⟨mc, ⟨o, es, ep, e, _⟩, _⟩ := S.lim
      exact absurd (Heap.lt_size e) (Nat.not_lt.mpr q)
theorem St.unbase (S : St T h₀ h fp l) (S' : St T h h' (wrA l) l') : St T h₀ h' fp l' := by
  have key : ∀ a ∈ wrA l, a ∈ fp ∨ h₀.objs.size ≤ a := by
    intro a ha
    obtain ⟨x, hx, rfl, q⟩ := wrA_mem ha
    exact S.wr x hx q
  refine ⟨S'.nd, S'.get, fun p hp hw => ?_, fun b o e hb => S'.old b o (S.old b o e hb) fun hm => ?_, S.top, Nat.le_trans S.size S'.size, S.lim, S.two⟩
  · rcases S'.wr p hp hw with q | q
    · exact key _ q
    · exact .inr (Nat.le_trans S.size q)
  · rcases key b hm with q | q
    · exact hb q
    · exact absurd (Heap.lt_size e) (Nat.not_lt.mpr q)
/-- a part, as it is -/
theorem St.sel (S : St T h₀ h fp l) (idx : List Nat) (bs : List Bool) (hn : nodupB idx = true) : St T h₀ h fp (lowW (pick idx l) bs) := by
  refine ⟨(pick_nodup S.nd hn).sublist (lowW_sub _ _), fun p hp => ?_, fun p hp hw => ?_, S.old, S.top, S.size, S.lim, S.two⟩
  · obtain ⟨e', he', q1, q2, _⟩ := lowW_mem hp
    obtain ⟨i, _, qi⟩ := pick_mem he'
    rw [q1, q2]; exact S.at qi
  · obtain ⟨e', he', q1, q2, q3⟩ := lowW_mem hp
    obtain ⟨i, _, qi⟩ := pick_mem he'
    rw [q1]; exact S.wr e' (nth_mem qi) (q3 hw)
/-- an object known besides -/
theorem St.addRO (S : St T h₀ h fp l) {a : Addr} {o : Obj} (e : h.get? a = some o) (ha : a ∉ l.map (·.a)) : St T h₀ h fp (⟨a, false, o⟩ :: l) := by
  refine ⟨List.nodup_cons.mpr ⟨ha, S.nd⟩, fun p hp => ?_, fun p hp hw => ?_, S.old, S.top, S.size, S.lim, S.two⟩
  · rcases List.mem_cons.mp hp with rfl | hp
    · exact e
    · exact S.get p hp
  · rcases List.mem_cons.mp hp with rfl | hp
    · cases hw
    · exact S.wr p hp hw
theorem CodeOk.run {h₁ h₂ : Heap} {fp₁ fp₂ : List Addr} (x : CodeOk h) (P : Params) (S : St (topObj P) h₁ h fp₁ l) (S' : St (topObj P) h₂ h' fp₂ l') (i j : Nat) (hk : ((nth l i).map (·.a), nth l' j) = (some 89, nth l i)) : CodeOk h' := by
  have e1 : (nth l i).map (·.a) = some 89 := congrArg Prod.fst hk
  have e2 : nth l' j = nth l i := congrArg Prod.snd hk
  obtain ⟨e, he, ea⟩ := Option.map_eq_some_iff.mp e1
  have g1 := S.at he
  have g2 := S'.at (e2.trans he)
  rw [ea] at g1 g2
  have t1 : h.get? 93 = some (t93 P) := S.topGet rfl
  have t2 : h'.get? 93 = some (t93 P) := S'.topGet rfl
  refine x.at2 fun b o hb q => ?_
  rcases hb with rfl | rfl
  · rw [t1] at q; cases q; exact t2
  · rw [g1] at q; cases q; exact g2
end
theorem fz_tuple (o : Obj) (e : o.cls = .type "tuple") {xs : Array Value} {n : Nat} (hd : o.data = .seq xs n) : fzO o = true := by
  unfold fzO
  rw [e]
  have e1 : PySem.W.S.eqLit 439922816629 "tuple" = true := by kernel_rfl!
  simp only [e1]
  rw [hd]
noncomputable def NoLn (M : CM) : Prop := ∀ c ∈ M, c.1 ≠ kLn
theorem fz_dict {prog : Program} {w : World} {h : Heap} {kvs : List (Str × Value)} {M : CM} {o : Obj} {es : Array DictEntry} {ep : Nat} (hc : o.ExactDict) (hd : o.data = .dict es ep) (hp : Pairs (PySem.strKind prog w) es.toList kvs) (hv : CVs h kvs M) (hn : NoLn M) : fzO o = true := by
  unfold fzO
  rw [hc.1]
  have e1 : PySem.W.S.eqLit 439922816629 "dict" = false := by kernel_rfl!
  have e2 : PySem.W.S.eqLit 1969515109 "dict" = true := by kernel_rfl!
  simp only [e1, e2]
  rw [hd]
  obtain ⟨l⟩ := es
  cases l with
  | nil => rfl
  | cons e l =>
    show (match e.key with | .str s _ => !decide (s = kLn) | _ => false) = true
    cases kvs with
    | nil => cases hp
    | cons kv kvs =>
      cases M with
      | nil => exact hv.elim
      | cons c M =>
        cases hp with
        | cons h1 h2 h3 =>
          obtain ⟨t, ht⟩ := Value.isStrOf_shape h1
          rw [ht]
          have : kv.1 ≠ kLn := by rw [hv.1.1]; exact hn c (.head _)
          simpa using this
theorem Callers.kp {prog : Program} {w : World} {h h' : Heap} {d : Addr} {M : CM} (x : Callers prog w h d M) (hn : NoLn M) (hk : Kp h h') : Callers prog w h' d M := by
  obtain ⟨x1, kvs, ⟨o, es, ep, e, hx, hd, hks, hp, hnd⟩, x3⟩ := x
  exact ⟨x1, kvs, ⟨o, es, ep, hk _ _ (fz_dict hx hd hp x3 hn) e, hx, hd, hks, hp, hnd⟩, x3.move fun T a b e => hk _ _ (fz_tuple _ rfl rfl) e⟩
theorem NoLn.put {M : CM} {k : Str} {c : CV} (x : NoLn M) (hc : k ≠ kLn) : NoLn (putM M k c) := by
  intro p hp
  unfold putM at hp
  split at hp
  · obtain ⟨q, hq, rfl⟩ := List.mem_map.mp hp
    by_cases e : q.1 = k
    · rw [if_pos e]; exact x q hq
    · rw [if_neg e]; exact x q hq
  · rcases List.mem_append.mp hp with hp | hp
    · exact x p hp
    · rw [List.mem_singleton.mp hp]; exact hc
theorem NoLn.fold : ∀ (l : CM) {M : CM}, NoLn M → NoLn l → NoLn (l.foldl stepC M)
  | [], _, x, _ => x
  | c :: l, M, x, y => by
    refine NoLn.fold l ?_ fun c hc => y c (.tail _ hc)
    unfold stepC
    split <;> exact x.put (y c (.head _))
/-! ## An entry of a profile -/
structure Ey where
  a : Int
  b : Int
  c : Int
  d : Int
  M : CM
noncomputable abbrev eyO (E : Ey) (d : Addr) : OV := vTup [.int E.a, .int E.b, .int E.c, .int E.d, .ref d]
noncomputable def EyAt (prog : Program) (w : World) (h : Heap) (e : Addr) (E : Ey) : Prop := ∃ d τ, h.get? e = some (mkO (eyO E d) τ) ∧ Callers prog w h d E.M
structure Ey.Ok (E : Ey) : Prop where
  kind : KindOk E.M
  noln : NoLn E.M
  len : E.M.length ≤ 40
noncomputable def Ey.add (T S : Ey) : Ey := ⟨S.a + T.a, S.b + T.b, S.c + T.c, S.d + T.d, addC T.M S.M⟩
theorem EyAt.kp {prog : Program} {w : World} {h h' : Heap} {e : Addr} {E : Ey} (x : EyAt prog w h e E) (ok : E.Ok) (hk : Kp h h') : EyAt prog w h' e E := by
  obtain ⟨d, τ, e1, e2⟩ := x
  exact ⟨d, τ, hk _ _ (fz_tuple _ rfl rfl) e1, e2.kp ok.noln hk⟩
end Mine
end
/-! ## Fs -/
section
open PySem PySem.W PyProof.Rows
set_option Elab.async false
set_option linter.unusedVariables false
set_option maxRecDepth 100000
set_option maxHeartbeats 2000000
namespace Mine
noncomputable abbrev eyV (e : Addr) (E : Ey) (d : Addr) : EV := ⟨e, false, eyO E d⟩
theorem fs_two {C : Cx} {A : Around} {R : Post Result} {h : Heap} {g : Gs} {tk : Nat} (hroom : A.depth + 60 < recursionLimit) (hA : A.handled = none) {eT eS dT dS : Addr} {ET ES : Ey} {V : OV} {τ : List (List Tok)}
    (S : St (topObj C.w.params) h h [89] (mkL [eyV eT ET dT, eyV eS ES dS, tab89 V] τ)) (hcd : CodeOk h) (hg : AllBare g) (xT : Callers C.prog C.w h dT ET.M) (xS : Callers C.prog C.w h dS ES.M) (oT : ET.Ok) (oS : ES.Ok)
    (k : ∀ h' g' tk' r V' τ', St (topObj C.w.params) h h' [89] (mkL [tab89 V'] τ') → CodeOk h' → AllBare g' → EyAt C.prog C.w h' r (ET.add ES) → R (.ok (.ret (.ref r))) h' g' tk') :
    CodeP C A (.call (.ref 87) ⟨[.ref eT, .ref eS], []⟩) R h g tk := by
  obtain ⟨hd, dp, fr, gs, un⟩ := A
  cases hA
  all_goals (
    refine call_fn S (by omega) (S.topGet rfl) rfl rfl rfl rfl rfl (S.topGet rfl) rfl rfl rfl ?_
    refine go_fn (F := 285) (H := 160367450766664364790075102363782342724935803834850385699806213468050848822808276242413774942375134617873282499579851291005428323834824971745072642503212528351387943760968604245273744118175356059311933663424692379062352632134280907686816369111968299243687162343003690212719898789405427832231787822417951558652669774961764522398103462059274467302540165253549169620670857738174086223729686855178781697) 94 [.ref dT, .ref dS] 1 S (by kernel_rfl!) fun h1 tk1 vs hvs hdp hh1 S1 => ?_
    obtain ⟨v, w, rfl, hv, hw⟩ := map_two hvs
    obtain rfl := vv_ref hv
    obtain rfl := vv_ref hw
    have hcd1 : CodeOk h1 := hcd.run _ S S1 2 9 (by kernel_rfl!)
    have kp1 : Kp h h1 := S.kp89 hcd S1 2 (by kernel_rfl!)
    refine S1.lendG [9] [true] (vl := [tab89 (ov (mkO V (hdL (tlL (tlL τ)))))]) (fp' := [89]) (fun τ1 Sc Sb => add_callers_spec (MT := ET.M) (MS := ES.M) (by rw [hdp]; omega) hh1 Sc hcd1 hg (xT.kp oT.noln kp1) (xS.kp oS.noln kp1) oT.kind oS.kind oT.len oS.len (fun h2 g2 tk2 d V2 τ2 S2 hcd2 hg2 x2 => ?_)) (by kernel_rfl!)
    have S3 := (Sb [9] S2 (by kernel_rfl!)).sel [6, 9] [true, true] (by rfl)
    have S3r := S3.rebase
    refine go_ret (F := 2) (H := 0) (.ref (h2.objs.size + 0)) S3r (by kernel_rfl!) fun h4 tk4 w hw S4 => ?_
    obtain rfl := vv_ref hw
    have kp4 : Kp h2 h4 := S3.kp89 hcd2 S4 1 (by kernel_rfl!)
    have hcd4 : CodeOk h4 := hcd2.run _ S3r S4 1 2 (by kernel_rfl!)
    have S5 := S3.unbase S4
    obtain ⟨τ6, S6⟩ := S5.part [0] (vl := [⟨h2.objs.size + 0, true, eyO (ET.add ES) d⟩]) (by kernel_rfl!)
    exact S5.give [2] (vl := [tab89 (ov (mkO V2 (hdL τ2)))]) (fun τ7 S7 => k _ _ _ _ _ τ7 S7 hcd4 hg2 ⟨d, _, S6.at (i := 0) rfl, x2.kp (NoLn.fold _ oT.noln oS.noln) kp4⟩) (by kernel_rfl!))
theorem fs_one {C : Cx} {A : Around} {R : Post Result} {h : Heap} {g : Gs} {tk : Nat} (hroom : A.depth + 60 < recursionLimit) (hA : A.handled = none) {eT dT : Addr} {ET : Ey} {M2 : CM} {V : OV} {τ : List (List Tok)}
    (S : St (topObj C.w.params) h h [89] (mkL [eyV eT ET dT, tab89 V] τ)) (hcd : CodeOk h) (hg : AllBare g) (xT : Callers C.prog C.w h dT ET.M) (xS : Callers C.prog C.w h dT M2) (oT : ET.Ok) (oS : Ey.Ok ⟨ET.a, ET.b, ET.c, ET.d, M2⟩)
    (k : ∀ h' g' tk' r V' τ', St (topObj C.w.params) h h' [89] (mkL [tab89 V'] τ') → CodeOk h' → AllBare g' → EyAt C.prog C.w h' r (ET.add ⟨ET.a, ET.b, ET.c, ET.d, M2⟩) → R (.ok (.ret (.ref r))) h' g' tk') :
    CodeP C A (.call (.ref 87) ⟨[.ref eT, .ref eT], []⟩) R h g tk := by
  obtain ⟨hd, dp, fr, gs, un⟩ := A
  cases hA
  all_goals (
    refine call_fn S (by omega) (S.topGet rfl) rfl rfl rfl rfl rfl (S.topGet rfl) rfl rfl rfl ?_
    refine go_fn (F := 285) (H := 160367450766664364790075102363782342724935803834850385699806213468050848822808276242413774942375134617873282499579851291005428323834824971745072642503212528351387943760968604245273744118175356059311933663424692379062352632134280907686816369111968299240490491827480114167782435540849060676883913985728702879922244289960397971659803678104540471982656605239983828192241533680948853810635688557985924097) 94 [.ref dT, .ref dT] 1 S (by kernel_rfl!) fun h1 tk1 vs hvs hdp hh1 S1 => ?_
    obtain ⟨v, w, rfl, hv, hw⟩ := map_two hvs
    obtain rfl := vv_ref hv
    obtain rfl := vv_ref hw
    have hcd1 : CodeOk h1 := hcd.run _ S S1 1 8 (by kernel_rfl!)
    have kp1 : Kp h h1 := S.kp89 hcd S1 1 (by kernel_rfl!)
    refine S1.lendG [8] [true] (vl := [tab89 (ov (mkO V (hdL (tlL τ))))]) (fp' := [89]) (fun τ1 Sc Sb => add_callers_spec (MT := ET.M) (MS := M2) (by rw [hdp]; omega) hh1 Sc hcd1 hg (xT.kp oT.noln kp1) (xS.kp oS.noln kp1) oT.kind oS.kind oT.len oS.len (fun h2 g2 tk2 d V2 τ2 S2 hcd2 hg2 x2 => ?_)) (by kernel_rfl!)
    have S3 := (Sb [8] S2 (by kernel_rfl!)).sel [6, 8] [true, true] (by rfl)
    have S3r := S3.rebase
    refine go_ret (F := 2) (H := 0) (.ref (h2.objs.size + 0)) S3r (by kernel_rfl!) fun h4 tk4 w hw S4 => ?_
    obtain rfl := vv_ref hw
    have kp4 : Kp h2 h4 := S3.kp89 hcd2 S4 1 (by kernel_rfl!)
    have hcd4 : CodeOk h4 := hcd2.run _ S3r S4 1 2 (by kernel_rfl!)
    have S5 := S3.unbase S4
    obtain ⟨τ6, S6⟩ := S5.part [0] (vl := [⟨h2.objs.size + 0, true, eyO (ET.add ⟨ET.a, ET.b, ET.c, ET.d, M2⟩) d⟩]) (by kernel_rfl!)
    exact S5.give [2] (vl := [tab89 (ov (mkO V2 (hdL τ2)))]) (fun τ7 S7 => k _ _ _ _ _ τ7 S7 hcd4 hg2 ⟨d, _, S6.at (i := 0) rfl, x2.kp (NoLn.fold _ oT.noln oS.noln) kp4⟩) (by kernel_rfl!))
theorem add_stats_spec {C : Cx} {A : Around} {R : Post Result} {h : Heap} {g : Gs} {tk : Nat} (hroom : A.depth + 60 < recursionLimit) (hA : A.handled = none) {eT eS : Addr} {ET ES : Ey} {V : OV} {τ : List (List Tok)}
    (S : St (topObj C.w.params) h h [89] (mkL [tab89 V] τ)) (hcd : CodeOk h) (hg : AllBare g) (xT : EyAt C.prog C.w h eT ET) (xS : EyAt C.prog C.w h eS ES) (oT : ET.Ok) (oS : ES.Ok)
    (k : ∀ h' g' tk' r V' τ', St (topObj C.w.params) h h' [89] (mkL [tab89 V'] τ') → CodeOk h' → AllBare g' → EyAt C.prog C.w h' r (ET.add ES) → R (.ok (.ret (.ref r))) h' g' tk') :
    CodeP C A (.call (.ref 87) ⟨[.ref eT, .ref eS], []⟩) R h g tk := by
  obtain ⟨dT, τT, gT, cT⟩ := xT
  obtain ⟨dS, τS, gS, cS⟩ := xS
  have nT : eT ≠ 89 := hcd.ne gT fun vs q => nomatch q
  have nS : eS ≠ 89 := hcd.ne gS fun vs q => nomatch q
  by_cases q : eT = eS
  · subst q
    have e := Option.some.inj (gT.symm.trans gS)
    have e1 := congrArg Obj.data e
    obtain ⟨a, b, c, d, M⟩ := ET
    obtain ⟨a', b', c', d', M'⟩ := ES
    have e2 : (#[Value.int a (hdT τT), .int b (hdT (tlT τT)), .int c (hdT (tlT (tlT τT))), .int d (hdT (tlT (tlT (tlT τT)))), .ref dT] : Array Value) = #[Value.int a' (hdT τS), .int b' (hdT (tlT τS)), .int c' (hdT (tlT (tlT τS))), .int d' (hdT (tlT (tlT (tlT τS)))), .ref dS] := by
      injection e1
    simp only [Array.mk.injEq, List.cons.injEq, Value.int.injEq, Value.ref.injEq, and_true] at e2
    obtain ⟨⟨rfl, _⟩, ⟨rfl, _⟩, ⟨rfl, _⟩, ⟨rfl, _⟩, rfl⟩ := e2
    have S1 := S.addRO gT (by rw [mkL_addr]; simpa using nT)
    obtain ⟨τ1, S2⟩ := S1.sel [0, 1] [true, true] (by rfl) |>.part [0, 1] (vl := [eyV eT ⟨a, b, c, d, M⟩ dT, tab89 (ov (mkO V (hdL τ)))]) (by kernel_rfl!)
    exact fs_one (ET := ⟨a, b, c, d, M⟩) (M2 := M') hroom hA S2 hcd hg cT cS oT oS k
  · have S1 := (S.addRO gS (by rw [mkL_addr]; simpa using nS)).addRO gT (by simp only [List.map_cons, mkL_addr, List.map_nil, List.mem_cons, List.not_mem_nil, or_false, not_or]; exact ⟨q, nT⟩)
    obtain ⟨τ1, S2⟩ := S1.part [0, 1, 2] (vl := [eyV eT ET dT, eyV eS ES dS, tab89 (ov (mkO V (hdL τ)))]) (by kernel_rfl!)
    exact fs_two hroom hA S2 hcd hg cT cS oT oS k
end Mine
end
/-! ## Go3 -/
section
open PySem PySem.W PyProof.Rows
set_option Elab.async false
set_option linter.unusedVariables false
set_option maxRecDepth 100000
set_option maxHeartbeats 2000000
namespace Mine
noncomputable abbrev vFrO (P : Params) (x it : Addr) : Option Str → OV
  | none => vFrame [en P k_self (.ref x), en P k_token (.str ⟨#[]⟩), en P k_fiter (.ref it)] 3
  | some ch => vFrame [en P k_self (.ref x), en P k_token (.str ⟨#[]⟩), en P k_fiter (.ref it), en P k_ch (.str ch)] 4
noncomputable def nls : List Nat → Int
  | [] => 0
  | c :: r => (if c = 10 then 1 else 0) + nls r
theorem outer_loop {C : Cx} {A : Around} {R : Post Result} {h₀ : Heap} {fp : List Addr} {g : Gs} (X : Lx) {text : Str} {L it m : Addr} {w : Nat} {rest : List Nat} {enc dec : List Nat} (D : Dec enc dec)
    (hroom : A.depth + 30 < recursionLimit) (hw : w + 1 ∈ ws.cps.toList) (hw' : w + 1 ≠ 10) (hlen : text.length ≤ 100000) :
    ∀ (sk : List Nat) (hsk : ∀ c ∈ sk, c + 1 ∈ ws.cps.toList) {h : Heap} {tk p : Nat} {o : Option Str} {ln : Int} {τ : List (List Tok)},
    text.cps.toList.drop p = sk.map (· + 1) ++ 46 :: (enc ++ (w + 1) :: rest) →
    St (topObj C.w.params) h₀ h fp (mkL ([⟨L, true, vFrO C.w.params X.x it o⟩, ⟨it, true, vIt m⟩, ⟨m, false, vMeth 59 X.x⟩] ++ X.objs C.w.params text p ln) τ) →
    (∀ h' tk' ch' t' τ', St (topObj C.w.params) h₀ h' fp (mkL ([⟨L, true, vFrG C.w.params X.x it ⟨(46 :: dec).toArray⟩ ch'⟩] ++ X.now C.w.params (p + sk.length + 1 + enc.length + 1) (ln + nls (sk.map (· + 1)))) τ') → R (.ok (.ret (.str ⟨(46 :: dec).toArray⟩ t'))) h' g tk') →
    CodeP C A (.forLoop (forTgt gtFor) (.ref it) (forBdy gtFor) [] (envG L)) R h g tk := by
  intro sk
  induction sk with
  | nil =>
    intro _ h tk p o ln τ hd S k
    have hlt : p < text.length := by
      have := congrArg List.length hd
      simp [Str.length] at this ⊢
      omega
    have e0 : ((⟨#[]⟩ : Str) ++ (⟨#[46]⟩ : Str)) ++ (⟨dec.toArray⟩ : Str) = (⟨(46 :: dec).toArray⟩ : Str) := by apply Str.ext'; simp [Str.cps_append]
    have ew2 : ¬ (⟨#[46]⟩ : Str) = ⟨#[10]⟩ := by decide
    have hlen2 : ((⟨#[]⟩ : Str) ++ (⟨#[46]⟩ : Str)).length = 1 := by rw [Str.length_append]; rfl
    have e5 : p + ([] : List Nat).length + 1 + enc.length + 1 = (p + 1) + enc.length + 1 := by simp
    have e6 : ln + nls (([] : List Nat).map (· + 1)) = ln := by simp [nls]
    rw [← e0, e5, e6] at k
    all_goals (
      rcases o with _ | o
      all_goals (
        refine enter ?_
        refine go_fnR (F := 11) (H := 3458767814505007106) 59 (X.x) 0 S (by kernel_rfl!) fun _ _ h1 tk1 hdp hh1 XS1 => ?_
        refine XS1.S.lendG [3, 4, 5, 6, 7, 8, 9, 10, 11, 12] [false, false, false, false, false, false, false, false, true, true] (fun τ1 Sc Sb => read_char_spec X (ln := ln) (chr1_of hd) (by omega) Sc fun h2 τ2 t2 tk2 S2 => ?_) (by kernel_rfl!)
        rw [if_neg ew2] at S2
        have S3 := Sb [11, 12] S2 (by kernel_rfl!)
        refine XS1.rt _ _ _ _ ?_
        refine go_code (F := 87) (H := 3889135768598713475902956910675552554898095663781054346208324360118340854846321592322) (.forLoop (forTgt gtIn) (.ref it) (forBdy gtIn) [] (envG L)) 0 S3 (by kernel_rfl!) fun h4 tk4 hdp4 hh4 S4 => ?_
        refine S4.give [0, 1, 2, 3, 4, 5, 6, 7, 8, 9, 10, 11, 12] (fun τ S => inner_loop X (m := m) (ln := ln) (p := p + 1) (tok := (⟨#[]⟩ : Str) ++ (⟨#[46]⟩ : Str)) (ch := ⟨#[46]⟩) (by omega) hw hw' hlen D (by rw [hlen2]; omega) (drop_next hd) S (fun h5 tk5 ch5 t5 τ5 S5 => ?_)) (by kernel_rfl!)
        refine go_ret (F := 0) (H := 0) (.str (((⟨#[]⟩ : Str) ++ (⟨#[46]⟩ : Str)) ++ (⟨dec.toArray⟩ : Str))) S5 (by kernel_rfl!) fun h6 tk6 v hv S6 => ?_
        obtain ⟨t6, rfl⟩ := vv_str hv
        refine S6.give [0, 1, 2] (fun τ S => k _ _ ch5 _ τ S) (by kernel_rfl!)))
  | cons c sk ih =>
    intro hsk h tk p o ln τ hd S k
    have hc := hsk c (List.mem_cons_self ..)
    have hsk' : ∀ c ∈ sk, c + 1 ∈ ws.cps.toList := fun c hc => hsk c (List.mem_cons_of_mem _ hc)
    have e5 : p + (c :: sk).length + 1 + enc.length + 1 = (p + 1) + sk.length + 1 + enc.length + 1 := by simp; omega
    have e6 : ln + nls ((c :: sk).map (· + 1)) = (if (⟨#[c + 1]⟩ : Str) = ⟨#[10]⟩ then ln + 1 else ln) + nls (sk.map (· + 1)) := by
      have : ((⟨#[c + 1]⟩ : Str) = ⟨#[10]⟩) ↔ c + 1 = 10 := by simp
      simp only [List.map_cons, nls, this]
      split <;> omega
    rw [e5, e6] at k
    all_goals (
      rcases o with _ | o
      all_goals (
        refine enter ?_
        refine go_fnR (F := 11) (H := 3458767814505007106) 59 (X.x) 0 S (by kernel_rfl!) fun _ _ h1 tk1 hdp hh1 XS1 => ?_
        refine XS1.S.lendG [3, 4, 5, 6, 7, 8, 9, 10, 11, 12] [false, false, false, false, false, false, false, false, true, true] (fun τ1 Sc Sb => read_char_spec X (ln := ln) (chr1_of hd) (by omega) Sc fun h2 τ2 t2 tk2 S2 => ?_) (by kernel_rfl!)
        have S3 := Sb [11, 12] S2 (by kernel_rfl!)
        refine XS1.rt _ _ _ _ ?_
        refine go_eq (F := 4) (H := 2050) ⟨#[]⟩ ⟨#[c + 1]⟩ S3 (by kernel_rfl!) (fun e => ?_) (fun _ h4 tk4 S4 => ?_)
        · exact absurd e (by simp)
        refine go_in (F := 32) (H := 17126977762306301290859346242281351701825848321) ws ⟨#[c + 1]⟩ true S4 ((PySem.StrLaws.found_one ws (c + 1)).trans (decide_eq_true hc)) (by kernel_rfl!) fun h5 tk5 S5 => ?_
        refine go_again (F := 1) (H := 0) S5 (fun h8 tk8 S8 => S8.give [0, 1, 2, 3, 4, 5, 6, 7, 8, 9, 10, 11, 12] (fun τ S => ih hsk' (o := some ⟨#[c + 1]⟩) (drop_next hd) S k) (by kernel_rfl!)) (by kernel_rfl!)))
/-- the text is at its end -/
theorem chr1_end {text : Str} {p : Nat} (h : text.cps.toList.drop p = []) : chr1 text p = ⟨#[]⟩ := by
  unfold chr1
  rw [h]; rfl
theorem outer_end {C : Cx} {A : Around} {R : Post Result} {h₀ : Heap} {fp : List Addr} {g : Gs} (X : Lx) {text : Str} {L it m : Addr}
    (hroom : A.depth + 30 < recursionLimit) (hA : A.handled = none) :
    ∀ (sk : List Nat) (hsk : ∀ c ∈ sk, c + 1 ∈ ws.cps.toList) {h : Heap} {tk p : Nat} {o : Option Str} {ln : Int} {τ : List (List Tok)},
    text.cps.toList.drop p = sk.map (· + 1) →
    St (topObj C.w.params) h₀ h fp (mkL ([⟨L, true, vFrO C.w.params X.x it o⟩, ⟨it, true, vIt m⟩, ⟨m, false, vMeth 59 X.x⟩] ++ X.objs C.w.params text p ln) τ) →
    (∀ h' tk' o' τ', St (topObj C.w.params) h₀ h' fp (mkL ([⟨L, true, vFrO C.w.params X.x it o'⟩] ++ X.now C.w.params (p + sk.length + 1) (ln + nls (sk.map (· + 1)))) τ') → R (.ok .next) h' g tk') →
    CodeP C A (.forLoop (forTgt gtFor) (.ref it) (forBdy gtFor) [] (envG L)) R h g tk := by
  intro sk
  induction sk with
  | nil =>
    intro _ h tk p o ln τ hd S k
    have ew2 : ¬ (⟨#[]⟩ : Str) = ⟨#[10]⟩ := by decide
    have e6 : ln + nls (([] : List Nat).map (· + 1)) = ln := by simp [nls]
    rw [e6] at k
    all_goals (
      rcases o with _ | o
      all_goals (
        refine enter ?_
        refine go_bid (F := 4) (H := 2050) 154871534474935724191431299575622858322749446335671712506274404 [.ref it] 0 S (by kernel_rfl!) fun h1 tk1 i vs hid hvs hdp hh1 S1 => ?_
        obtain ⟨v, rfl, hv⟩ := map_one hvs
        obtain rfl := vv_ref hv
        refine S1.lendP [1, 2, 3, 4, 5, 6, 7, 8, 9, 10, 11, 12] [true, false, false, false, false, false, false, false, false, false, true, true] [it, X.d, X.pl] (fun P => [⟨it, true, vIt m⟩, ⟨m, false, vMeth 59 X.x⟩] ++ X.objs P text p ln) (fun τ1 S2 Sb => next_end (fun P => X.now P (p + 1) ln) (codeS_eq hid) (hh1.trans hA) S2 rfl ?_ (fun h3 tk3 e a τ3 S3 => ?_)) (by kernel_rfl!)
        · refine enter ?_
          refine go_fnR (F := 1) (H := 2) 59 (X.x) 0 S2 (by kernel_rfl!) fun _ _ h4 tk4 hdp4 hh4 XS4 => ?_
          refine XS4.S.lendG [2, 3, 4, 5, 6, 7, 8, 9, 10, 11] [false, false, false, false, false, false, false, false, true, true] (fun τ5 Sc Sb5 => read_char_spec X (ln := ln) (chr1_end hd) (by rw [hdp4, Around.in1_depth, hdp]; omega) Sc fun h5 τ5 t5 tk5 S5 => ?_) (by kernel_rfl!)
          rw [if_neg ew2] at S5
          have S6 := Sb5 [10, 11] S5 (by kernel_rfl!)
          refine XS4.rt _ _ _ _ ?_
          exact after_base (by kernel_rfl!) (S6.give [0, 1, 10, 11] (fun τ S => ⟨t5, τ, rfl, S, rfl⟩) (by kernel_rfl!))
        · refine S3.giveP [2, 4, 5, 0, 1] (fun P => [⟨it, true, vItEnd⟩] ++ X.now P (p + 1) ln ++ [⟨e, true, vExc a⟩, ⟨a, true, vTup []⟩]) (fun τ4 S4 => ?_) (by kernel_rfl!)
          have S5 := Sb [1, 11, 12] S4 (by kernel_rfl!)
          refine go_next (F := 2) (H := 1) S5 (by kernel_rfl!) fun h6 tk6 S6 => ?_
          first
            | refine S6.give [2, 13, 14] (fun τ S => k _ _ none τ S) (by kernel_rfl!)
            | refine S6.give [2, 13, 14] (fun τ S => k _ _ (some o) τ S) (by kernel_rfl!)))
  | cons c sk ih =>
    intro hsk h tk p o ln τ hd S k
    have hc := hsk c (List.mem_cons_self ..)
    have hsk' : ∀ c ∈ sk, c + 1 ∈ ws.cps.toList := fun c hc => hsk c (List.mem_cons_of_mem _ hc)
    have e5 : p + (c :: sk).length + 1 = (p + 1) + sk.length + 1 := by simp; omega
    have e6 : ln + nls ((c :: sk).map (· + 1)) = (if (⟨#[c + 1]⟩ : Str) = ⟨#[10]⟩ then ln + 1 else ln) + nls (sk.map (· + 1)) := by
      have : ((⟨#[c + 1]⟩ : Str) = ⟨#[10]⟩) ↔ c + 1 = 10 := by simp
      simp only [List.map_cons, nls, this]
      split <;> omega
    rw [e5, e6] at k
    all_goals (
      rcases o with _ | o
      all_goals (
        refine enter ?_
        refine go_fnR (F := 11) (H := 3458767814505007106) 59 (X.x) 0 S (by kernel_rfl!) fun _ _ h1 tk1 hdp hh1 XS1 => ?_
        refine XS1.S.lendG [3, 4, 5, 6, 7, 8, 9, 10, 11, 12] [false, false, false, false, false, false, false, false, true, true] (fun τ1 Sc Sb => read_char_spec X (ln := ln) (chr1_of hd) (by omega) Sc fun h2 τ2 t2 tk2 S2 => ?_) (by kernel_rfl!)
        have S3 := Sb [11, 12] S2 (by kernel_rfl!)
        refine XS1.rt _ _ _ _ ?_
        refine go_eq (F := 4) (H := 2050) ⟨#[]⟩ ⟨#[c + 1]⟩ S3 (by kernel_rfl!) (fun e => ?_) (fun _ h4 tk4 S4 => ?_)
        · exact absurd e (by simp)
        refine go_in (F := 32) (H := 17126977762306301290859346242281351701825848321) ws ⟨#[c + 1]⟩ true S4 ((PySem.StrLaws.found_one ws (c + 1)).trans (decide_eq_true hc)) (by kernel_rfl!) fun h5 tk5 S5 => ?_
        refine go_again (F := 1) (H := 0) S5 (fun h8 tk8 S8 => S8.give [0, 1, 2, 3, 4, 5, 6, 7, 8, 9, 10, 11, 12] (fun τ S => ih hsk' (o := some ⟨#[c + 1]⟩) (drop_next hd) S k) (by kernel_rfl!)) (by kernel_rfl!)))
end Mine
end
/-! ## Gk -/
section
open PySem PySem.W PyProof.Rows
set_option Elab.async false
set_option linter.unusedVariables false
set_option maxRecDepth 100000
set_option maxHeartbeats 2000000
namespace Mine
theorem get_token_spec {C : Cx} {A : Around} {R : Post Result} {h : Heap} {g : Gs} {tk : Nat} (X : Lx) {text : Str} {w : Nat} {rest enc dec : List Nat} (D : Dec enc dec)
    (hroom : A.depth + 40 < recursionLimit) (hw : w + 1 ∈ ws.cps.toList) (hw' : w + 1 ≠ 10) (hlen : text.length ≤ 100000)
    (sk : List Nat) (hsk : ∀ c ∈ sk, c + 1 ∈ ws.cps.toList) {p : Nat} {ln : Int} {τ : List (List Tok)}
    (hd : text.cps.toList.drop p = sk.map (· + 1) ++ 46 :: (enc ++ (w + 1) :: rest))
    (S : St (topObj C.w.params) h h [X.d, X.pl] (mkL (X.objs C.w.params text p ln) τ))
    (k : ∀ h' tk' t' τ', St (topObj C.w.params) h h' [X.d, X.pl] (mkL (X.now C.w.params (p + sk.length + 1 + enc.length + 1) (ln + nls (sk.map (· + 1)))) τ') → R (.ok (.ret (.str ⟨(46 :: dec).toArray⟩ t'))) h' g tk') :
    CodeP C A (.call (.ref 66) ⟨[.ref X.x], []⟩) R h g tk := by
  all_goals (
    refine call_fn S (by omega) (S.topGet rfl) rfl rfl rfl rfl rfl (S.topGet rfl) rfl rfl rfl ?_
    refine go_code (F := 112) (H := 3355228572894964178480708538607358938468015255203706936654650268711394581511621824888969087136087727444612959223226085087180131857337564786917877673362433) (.forLoop (forTgt gtFor) (.ref (h.objs.size + 2)) (forBdy gtFor) [] (envG (h.objs.size + 0))) 1 S (by kernel_rfl!) fun h4 tk4 hdp4 hh4 S4 => ?_
    refine S4.give [2, 0, 1, 3, 4, 5, 6, 7, 8, 9, 10, 11, 12] (fun τ S => outer_loop X (m := h.objs.size + 1) D (by omega) hw hw' hlen sk hsk (p := p) (ln := ln) (o := none) hd S (fun h5 tk5 ch5 t5 τ5 S5 => ?_)) (by kernel_rfl!)
    refine go_ret (F := 0) (H := 0) (.str ⟨(46 :: dec).toArray⟩) S5 (by kernel_rfl!) fun h6 tk6 v hv S6 => ?_
    obtain ⟨t6, rfl⟩ := vv_str hv
    refine S6.give [1, 2] (fun τ S => k _ _ _ τ S) (by kernel_rfl!))
theorem get_token_end {C : Cx} {A : Around} {R : Post Result} {h : Heap} {g : Gs} {tk : Nat} (X : Lx) {text : Str}
    (hroom : A.depth + 40 < recursionLimit) (hA : A.handled = none)
    (sk : List Nat) (hsk : ∀ c ∈ sk, c + 1 ∈ ws.cps.toList) {p : Nat} {ln : Int} {τ : List (List Tok)}
    (hd : text.cps.toList.drop p = sk.map (· + 1))
    (S : St (topObj C.w.params) h h [X.d, X.pl] (mkL (X.objs C.w.params text p ln) τ))
    (k : ∀ h' tk' t' τ', St (topObj C.w.params) h h' [X.d, X.pl] (mkL (X.now C.w.params (p + sk.length + 1) (ln + nls (sk.map (· + 1)))) τ') → R (.ok (.ret (.str ⟨#[]⟩ t'))) h' g tk') :
    CodeP C A (.call (.ref 66) ⟨[.ref X.x], []⟩) R h g tk := by
  all_goals (
    refine call_fn S (by omega) (S.topGet rfl) rfl rfl rfl rfl rfl (S.topGet rfl) rfl rfl rfl ?_
    refine go_code (F := 112) (H := 3355228572894964178480708538607358938468015255203706936654650268711394581511621824888969087136087727444612959223226085087180131857337564786917877673362433) (.forLoop (forTgt gtFor) (.ref (h.objs.size + 2)) (forBdy gtFor) [] (envG (h.objs.size + 0))) 1 S (by kernel_rfl!) fun h4 tk4 hdp4 hh4 S4 => ?_
    refine S4.give [2, 0, 1, 3, 4, 5, 6, 7, 8, 9, 10, 11, 12] (fun τ S => outer_end X (m := h.objs.size + 1) (by omega) (hh4.trans hA) sk hsk (p := p) (ln := ln) (o := none) hd S (fun h5 tk5 o5 τ5 S5 => ?_)) (by kernel_rfl!)
    rcases o5 with _ | o5
    all_goals (
      refine go_ret (F := 3) (H := 1) (.str ⟨#[]⟩) S5 (by kernel_rfl!) fun h6 tk6 v hv S6 => ?_
      obtain ⟨t6, rfl⟩ := vv_str hv
      refine S6.give [1, 2] (fun τ S => k _ _ _ τ S) (by kernel_rfl!)))
end Mine
end
/-! ## Qd -/
section
open PySem PySem.W PyProof.Rows
set_option Elab.async false
set_option linter.unusedVariables false
set_option maxRecDepth 100000
set_option maxHeartbeats 2000000
namespace Mine
theorem out2_flat1 : ∀ rows : List (List Nat × List Nat), out2 (rows.map fun p => (46 :: p.1, p.2)) = flat1 (rows.map (·.1))
  | [] => rfl
  | p :: r => by
    show (46 :: p.1) ++ ([13, 10] ++ out2 _) = 46 :: (p.1 ++ [13, 10]) ++ flat1 _
    rw [out2_flat1 r]
    simp
theorem rows2_of : ∀ rows : List (List Nat × List Nat), (∀ p ∈ rows, (∀ c ∈ p.1, ¬ Eol c) ∧ isEnd p.2) → Rows2 (rows.map fun p => (46 :: p.1, p.2))
  | [], _ => trivial
  | p :: r, h => ⟨fun c hc => by
      rcases List.mem_cons.mp hc with rfl | hc
      · rintro (e | e) <;> exact absurd e (by decide)
      · exact (h p (.head _)).1 c hc, by simp, (h p (.head _)).2, rows2_of r fun q hq => h q (.tail _ hq)⟩
theorem out2_len : ∀ rows : List (List Nat × List Nat), Rows2 rows → (out2 rows).length ≤ (flat2 rows).length + rows.length
  | [], _ => Nat.zero_le _
  | p :: r, h => by
    have := out2_len r h.2.2.2
    have he : 1 ≤ p.2.length := by rcases h.2.2.1 with e | e | e <;> rw [e] <;> simp
    simp only [out2, flat2, List.length_append, List.length_cons, List.length_nil] at this ⊢
    omega
theorem quotedata_spec {C : Cx} {A : Around} {R : Post Result} {h : Heap} {g : Gs} {tk : Nat} (hroom : A.depth + 20 < recursionLimit) {x : Str} {tt : Tok} {rows : List (List Nat × List Nat)}
    (hd : x.cps.toList = flat2 (rows.map fun p => (46 :: p.1, p.2))) (hr : ∀ p ∈ rows, (∀ c ∈ p.1, ¬ Eol c) ∧ isEnd p.2) (hx : x.cps.size + rows.length ≤ 900) (hrn : rows.length ≤ 100) (hne : rows ≠ [])
    (S : St (topObj C.w.params) h h [] [])
    (k : ∀ h' t' tk', St (topObj C.w.params) h h' [] [] → R (.ok (.ret (.str ⟨(out1 (rows.map (·.1))).toArray⟩ t'))) h' g tk') :
    CodeP C A (.call (.ref 111) ⟨[.str x tt], []⟩) R h g tk := by
  obtain ⟨ms, hch, hcat, hml⟩ := chain2 (x := x) (rows.map fun p => (46 :: p.1, p.2)) 0 false (by rw [List.drop_zero]; exact hd) (Nat.zero_le _) (rows2_of rows hr)
  have hz2 : x.cps.size = (flat2 (rows.map fun p => (46 :: p.1, p.2))).length := by rw [← hd]; simp
  have hl2 := out2_len _ (rows2_of rows hr)
  rw [← hz2, List.length_map, out2_flat1] at hl2
  obtain ⟨ms2, hch2, hcat2, hml2⟩ := chain1 (x := ⟨(flat1 (rows.map (·.1))).toArray⟩) (by simp; omega) (rows.map (·.1)) [] 0 false (by simp) (Nat.zero_le _) (fun v hv => by
    obtain ⟨p, hp, rfl⟩ := List.mem_map.mp hv
    exact (hr p hp).1) (fun i h1 h2 => absurd h2 (by simp)) (.inl rfl)
  have e1 : Txt.join ⟨#[]⟩ ([] ++ pieces x crlf 0 ms) = ⟨(flat1 (rows.map (·.1))).toArray⟩ := by rw [join_cat, List.nil_append, hcat, out2_flat1]
  have e2 : Txt.join ⟨#[]⟩ ([] ++ pieces ⟨(flat1 (rows.map (·.1))).toArray⟩ dots 0 ms2) = ⟨(out1 (rows.map (·.1))).toArray⟩ := by rw [join_cat, List.nil_append, hcat2, List.nil_append]
  rw [List.length_map] at hml hml2
  have hrl : 1 ≤ rows.length := by
    cases rows with
    | nil => exact absurd rfl hne
    | cons => simp
  have hm1 : ms ≠ [] := by rintro rfl; simp at hml; omega
  have hm2 : ms2 ≠ [] := by rintro rfl; simp at hml2; omega
  all_goals (
    refine call_fn S (by omega) (S.topGet rfl) rfl rfl rfl rfl rfl (S.topGet rfl) rfl rfl rfl ?_
    refine go_code (F := 36) (H := 1361129467683753853853498429727072846849) (.builtin "re.Pattern.sub.loop" (subArgs 104 x crlf tt 440 ((0 : Nat) : Int) 0 false (h.objs.size + 1))) 1 S (by kernel_rfl!) fun h1 tk1 hdp1 hh1 S1 => ?_
    refine S1.lendG [0] [true] (vl := [⟨h.objs.size + 1, true, vList [] 0⟩]) (fp' := [h.objs.size + 1]) (fun τ1 Sc Sb => sub_chain (words := code2) (cap := 0) (vs := #[]) (acc := []) (by rfl) (by rfl) (by omega) (by decide) (by kernel_rfl!) ms hch Sc rfl (by simp; omega) (fun _ h => nomatch h) (.inr hm1) (fun h2 tk2 vs2 cap2 t2 S2 => ?_)) (by kernel_rfl!)
    obtain ⟨τ2, S2'⟩ := S2.asV
    have S3 := Sb [0] S2' (by kernel_rfl!)
    rw [e1]
    refine go_code (F := 8) (H := 0) (.builtin "re.Pattern.sub.loop" (subArgs 99 ⟨(flat1 (rows.map (·.1))).toArray⟩ dots t2 (tk + 1) ((0 : Nat) : Int) 0 false (h2.objs.size + 0))) 1 S3 (by kernel_rfl!) fun h4 tk4 hdp4 hh4 S4 => ?_
    refine S4.lendG [0] [true] (vl := [⟨h2.objs.size + 0, true, vList [] 0⟩]) (fp' := [h2.objs.size + 0]) (fun τ5 Sc5 Sb5 => sub_chain (words := code1) (cap := 0) (vs := #[]) (acc := []) (by rfl) (by rfl) (by simp; omega) (by decide) (by kernel_rfl!) ms2 hch2 Sc5 rfl (by simp; omega) (fun _ h => nomatch h) (.inr hm2) (fun h6 tk6 vs6 cap6 t6 S6 => ?_)) (by kernel_rfl!)
    obtain ⟨τ6, S6'⟩ := S6.asV
    have S7 := Sb5 [0] S6' (by kernel_rfl!)
    rw [e2]
    refine go_ret (F := 1) (H := 0) (.str ⟨(out1 (rows.map (·.1))).toArray⟩) S7 (by kernel_rfl!) fun h8 tk8 w hw S8 => ?_
    obtain ⟨t8, rfl⟩ := vv_str hw
    exact S8.give [] (vl := []) (fun τ S => k _ _ _ S) (by kernel_rfl!))
end Mine
end
/-! ## Ls -/
section
open PySem PySem.W PyProof.Rows
set_option Elab.async false
set_option linter.unusedVariables false
set_option maxRecDepth 100000
set_option maxHeartbeats 2000000
namespace Mine
noncomputable def vTab (vs : List VV) : OV := ⟨.none, none, .fields vs, []⟩
noncomputable def tb1 (cr cl : Addr) : List VV := [.int 77, .int 4, .ref cr, .int 80, .int 13, .ref cl]
noncomputable def lamE : Expr := match nst 2 with
  | .Assign _ v _ => v
  | _ => .Constant .none 0 ⟨0, 0, 0, 0⟩
noncomputable def lamA : Arguments := match lamE with
  | .Lambda a _ _ _ => a
  | _ => ⟨[], [], none, [], [], none, []⟩
noncomputable def lamB : Expr := match lamE with
  | .Lambda _ b _ _ => b
  | e => e
noncomputable def lamS : Scope := match lamE with
  | .Lambda _ _ s _ => s
  | _ => default
noncomputable def fdLam (cl : Addr) : FuncData := { name := ⟨#[60, 108, 97, 109, 98, 100, 97, 62]⟩, qualname := ⟨#[95, 108, 97, 119, 95, 115, 116, 114, 101, 97, 109, 46, 60, 108, 111, 99, 97, 108, 115, 62, 46, 60, 108, 97, 109, 98, 100, 97, 62]⟩, params := lamA, body := .expr lamB, scope := lamS, globals := 3, closure := [], defaults := .none, kwdefaults := .none, doc := .none, pyModule := .str ⟨#[108, 97, 119, 95, 114, 101, 48, 48, 49, 57, 95, 48, 49]⟩ 449, annotations := none, code := .ref cl, closureTuple := .none, builtins := 0 }
/-- what _law_stream hands back -/
noncomputable abbrev streamO (P : Params) (x : Str) (st sd rf cd ct cp pl ctup cl : Addr) : List EV :=
  [⟨113, true, vTab (tb1 cd cl)⟩, ⟨st, true, vFn (fdLam cl) (some sd)⟩, ⟨sd, true, vDict [en P k_read (.ref rf)] 1⟩, ⟨rf, true, vFn (fdRead ct cp cd ctup) none⟩, ⟨ct, true, vCell (.str x)⟩, ⟨cp, true, vCell (.ref pl)⟩, ⟨pl, true, vList [.int 0] 0⟩]
theorem stream_a {C : Cx} {A : Around} {R : Post Result} {h : Heap} {g : Gs} {tk : Nat} (hroom : A.depth + 20 < recursionLimit) {x : Str} {tt : Tok} {τ : List (List Tok)}
    (S : St (topObj C.w.params) h h [113] (mkL [⟨113, true, vTab []⟩] τ))
    (k : ∀ h' tk' st sd rf cd ct cp pl ctup cl c1 c2 c3 c4 c5 z τ', St (topObj C.w.params) h h' [113] (mkL (streamO C.w.params x st sd rf cd ct cp pl ctup cl ++ [⟨cd, true, vCode (cvRead c1 c2 c3 c4 c5 z)⟩]) τ') → R (.ok (.ret (.ref st))) h' g tk') :
    CodeP C A (.call (.ref 118) ⟨[.str x tt], []⟩) R h g tk := by
  refine call_fn S (by omega) (S.topGet rfl) rfl rfl rfl rfl rfl (S.topGet rfl) rfl rfl rfl ?_
  refine go_ret (F := 102) (H := 45872214253934493744066556678766365298295812232286331260160808437062259090881430958392517770625478287165442) (.ref (h.objs.size + 18)) S (by kernel_rfl!) fun h1 tk1 v hv S1 => ?_
  obtain rfl := vv_ref hv
  refine S1.give [20, 1, 0, 8, 18, 17, 16, 9] (fun τ S => k _ _ (h.objs.size + 18) (h.objs.size + 19) (h.objs.size + 11) (h.objs.size + 10) (h.objs.size + 1) (h.objs.size + 2) (h.objs.size + 3) (h.objs.size + 4) (h.objs.size + 17) (h.objs.size + 5) (h.objs.size + 6) (h.objs.size + 7) (h.objs.size + 8) (h.objs.size + 9) ((tk + 7 : Nat) : Int) τ S) (by kernel_rfl!)
theorem stream_b {C : Cx} {A : Around} {R : Post Result} {h : Heap} {g : Gs} {tk : Nat} (hroom : A.depth + 20 < recursionLimit) {x : Str} {tt : Tok} {τ : List (List Tok)} {cr cl c1 c2 c3 c4 c5 : Addr} {z : Int}
    (S : St (topObj C.w.params) h h [113] (mkL [⟨113, true, vTab (tb1 cr cl)⟩, ⟨cr, false, vCode (cvRead c1 c2 c3 c4 c5 z)⟩] τ))
    (k : ∀ h' tk' st sd rf ct cp pl ctup τ', St (topObj C.w.params) h h' [113] (mkL (streamO C.w.params x st sd rf cr ct cp pl ctup cl) τ') → R (.ok (.ret (.ref st))) h' g tk') :
    CodeP C A (.call (.ref 118) ⟨[.str x tt], []⟩) R h g tk := by
  refine call_fn S (by omega) (S.topGet rfl) rfl rfl rfl rfl rfl (S.topGet rfl) rfl rfl rfl ?_
  refine go_ret (F := 71) (H := 15916288132999282041391610489147389614484825350952156750982420581951996302829840622422018) (.ref (h.objs.size + 6)) S (by kernel_rfl!) fun h1 tk1 v hv S1 => ?_
  obtain rfl := vv_ref hv
  refine S1.give [8, 1, 0, 2, 6, 5, 4] (fun τ S => k _ _ (h.objs.size + 6) (h.objs.size + 7) (h.objs.size + 5) (h.objs.size + 1) (h.objs.size + 2) (h.objs.size + 3) (h.objs.size + 4) τ S) (by kernel_rfl!)
end Mine
end
/-! ## Lc -/
section
open PySem PySem.W PyProof.Rows
set_option Elab.async false
set_option linter.unusedVariables false
set_option maxRecDepth 100000
set_option maxHeartbeats 2000000
namespace Mine
theorem lex_new {C : Cx} {A : Around} {R : Post Result} {h : Heap} {g : Gs} {tk : Nat} (hroom : A.depth + 20 < recursionLimit) {st : Addr}
    (S : St (topObj C.w.params) h h [] (mkL [] []))
    (k : ∀ h' tk' x d pb np τ', St (topObj C.w.params) h h' [] (mkL [⟨x, true, vInst 76 d⟩, ⟨d, true, vDict [en C.w.params k_lineno (.int 1), en C.w.params k_instream (.ref st), en C.w.params k_whitespace (.str ws), en C.w.params k_pushback (.ref pb)] 4⟩, ⟨pb, true, vList [] np⟩] τ') → R (.ok (.ret (.ref x))) h' g tk') :
    CodeP C A (.call (.ref 76) ⟨[.ref st], []⟩) R h g tk := by
  all_goals (
    refine enter ?_
    refine go_fn (F := 40) (H := 1942670744899156867978588683959279045648932491371894171500837041060248411815282737152) 52 [.ref (h.objs.size + 1), .ref st] 1 S (by kernel_rfl!) fun h1 tk1 vs hvs hdp hh1 S1 => ?_
    obtain ⟨v, w, rfl, hv, hw⟩ := map_two hvs
    obtain rfl := vv_ref hv
    obtain rfl := vv_ref hw
    refine call_fn S1 (by omega) (S1.topGet rfl) rfl rfl rfl rfl rfl (S1.topGet rfl) rfl rfl rfl ?_
    refine go_ret (F := 127) (H := 24281807872623605229170507795632894979996604996958465294880143950712041181216854491409530350100070434506024681601336745987777553635601867202524797195309960460190204504608434475149211544385204737832734064152212623540142141346939905) .none S1 (by kernel_rfl!) fun h2 tk2 w hw S2 => ?_
    obtain rfl := vv_none hw
    refine go_ret (F := 0) (H := 0) (.ref (h.objs.size + 1)) S2 (by kernel_rfl!) fun h3 tk3 w hw S3 => ?_
    obtain rfl := vv_ref hw
    refine S3.give [2, 3, 0] (fun τ S => k _ _ _ (h.objs.size + 0) (h1.objs.size + 1) 0 τ S) (by kernel_rfl!))
end Mine
end
/-! ## Tu1 -/
section
open PySem PySem.W PyProof.Rows
set_option Elab.async false
set_option linter.unusedVariables false
set_option maxRecDepth 100000
set_option maxHeartbeats 2000000
namespace Mine
noncomputable abbrev k_entries : List Nat := [101, 110, 116, 114, 105, 101, 115]
noncomputable abbrev k_rounds : List Nat := [114, 111, 117, 110, 100, 115]
noncomputable abbrev k_found : List Nat := [102, 111, 117, 110, 100]
noncomputable abbrev k_doubles : List Nat := [100, 111, 117, 98, 108, 101, 115]
noncomputable abbrev k_turn : List Nat := [116, 117, 114, 110]
noncomputable abbrev k_sent : List Nat := [115, 101, 110, 116]
noncomputable abbrev k_k : List Nat := [107]
noncomputable def smFor : Stmt := nthS (bodyOf (stm 14)) 2
noncomputable def smIn : Stmt := nthS (forBdy smFor) 4
noncomputable def envS (L cW cE cL : Addr) : Env := { scope := scopeOf (stm 14), locals := L, globals := 3, cells := [(⟨#[108, 101, 120, 101, 114]⟩, cL), (⟨#[101, 110, 100, 115]⟩, cE), (⟨#[119, 111, 114, 100, 115]⟩, cW)], qual := ⟨#[95, 108, 97, 119, 95, 115, 117, 109, 109, 101, 100, 46, 60, 108, 111, 99, 97, 108, 115, 62, 46]⟩, func := some 123, code := .ref 122, frame := some L, builtins := 0 }
noncomputable def vRI (a b : Int) : OV := ⟨.type "range_iterator", none, .fields [.int a, .int b, .int 1], []⟩
noncomputable def vCell0 : OV := ⟨.type "cell", none, .rest (.cell none), []⟩
noncomputable abbrev smCode (L it cW cE cL : Addr) : Code := .forLoop (forTgt smFor) (.ref it) (forBdy smFor) [] (envS L cW cE cL)
noncomputable abbrev smInCode (L it cW cE cL : Addr) : Code := .forLoop (forTgt smIn) (.ref it) (forBdy smIn) [] (envS L cW cE cL)
noncomputable abbrev frS (P : Params) (Es f D : Addr) (r turn : Int) (sent : Str) (k : Int) : OV := vFrame [en P k_entries (.ref Es), en P k_rounds (.int r), en P k_found (.ref f), en P k_doubles (.ref D), en P k_turn (.int turn), en P k_sent (.str sent), en P k_k (.int k)] 7
noncomputable abbrev frT (P : Params) (Es f D : Addr) (r turn : Int) (sent : Str) : OV := vFrame [en P k_entries (.ref Es), en P k_rounds (.int r), en P k_found (.ref f), en P k_doubles (.ref D), en P k_turn (.int turn), en P k_sent (.str sent)] 6
noncomputable def wrd (dec : List Nat) : Str := ⟨(46 :: dec).toArray⟩
/-- ahead of the inner loop -/
noncomputable abbrev bOut (P : Params) (L it cW cL Es f D W' iti x' cd cl : Addr) (r cur left : Int) (text : Str) (dec0 dec1 dec2 : List Nat) (k : Bool) : List EV :=
  [⟨L, true, cond k (frS P Es f D r cur text 2) (frT P Es f D r cur text)⟩, ⟨it, true, vRI (cur + 1) left⟩, ⟨cW, true, vCell (.ref W')⟩, ⟨cL, true, vCell (.ref x')⟩, ⟨113, true, vTab (tb1 cd cl)⟩, ⟨W', true, vList [.str (wrd dec0), .str (wrd dec1), .str (wrd dec2)] 3⟩, ⟨iti, true, vRI 0 3⟩]
theorem sp1 : (⟨#[32]⟩ : Str).length = 1 := rfl
theorem tok_drop {l sk enc rest : List Nat} {v p : Nat} (h : l.drop p = sk.map (· + 1) ++ 46 :: (enc ++ v :: rest)) : l.drop (p + sk.length + 1 + enc.length + 1) = rest := by
  rw [show p + sk.length + 1 + enc.length + 1 = p + (sk.length + 1 + enc.length + 1) by omega, ← List.drop_drop, h]
  have e : sk.map (· + 1) ++ 46 :: (enc ++ v :: rest) = (sk.map (· + 1) ++ 46 :: (enc ++ [v])) ++ rest := by simp
  have e2 : sk.length + 1 + enc.length + 1 = (sk.map (· + 1) ++ 46 :: (enc ++ [v])).length := by simp; omega
  rw [e, e2, List.drop_left]
theorem b_first {C : Cx} {A : Around} {R : Post Result} {h : Heap} {g : Gs} {tk : Nat} (hroom : A.depth + 80 < recursionLimit) (hA : A.handled = none) {L it cW cE cL W En D f Es : Addr} {w0 w1 w2 e0 e1 e2 : Str} {r cur : Int} {n cw ce : Nat} {τ : List (List Tok)} 
    (l0 : w0.length ≤ 60) (l1 : w1.length ≤ 60) (l2 : w2.length ≤ 60) (m0 : e0.length ≤ 2) (m1 : e1.length ≤ 2) (m2 : e2.length ≤ 2)
    (S : St (topObj C.w.params) h h [L, it, cW, cL, 113] (mkL [⟨L, true, vFrame [en C.w.params k_entries (.ref Es), en C.w.params k_rounds (.int r), en C.w.params k_found (.ref f), en C.w.params k_doubles (.ref D)] 4⟩, ⟨it, true, vRI cur (n + 1 : Nat)⟩,
      ⟨cW, true, vCell (.ref W)⟩, ⟨cE, false, vCell (.ref En)⟩, ⟨cL, true, vCell0⟩, ⟨W, false, vList [.str w0, .str w1, .str w2] cw⟩, ⟨En, false, vList [.str e0, .str e1, .str e2] ce⟩, ⟨113, true, vTab []⟩] τ))
    {u0 u1 u2 p0 p1 p2 ε0 ε1 ε2 : List Nat} (hw0 : w0.cps.toList = 46 :: u0) (hw1 : w1.cps.toList = 46 :: u1) (hw2 : w2.cps.toList = 46 :: u2) (he0 : e0.cps.toList = ε0) (he1 : e1.cps.toList = ε1) (he2 : e2.cps.toList = ε2)
    (hp0 : u0 ++ [32] = p0) (hp1 : u1 ++ [32] = p1) (hp2 : u2 ++ [32] = p2) (hr : ∀ p ∈ [(p0, ε0), (p1, ε1), (p2, ε2)], (∀ c ∈ p.1, ¬ Eol c) ∧ isEnd p.2)
    {enc0 enc1 enc2 dec0 dec1 dec2 sk0 sk1 sk2 : List Nat} {v0 v1 v2 : Nat} (ht0 : 46 :: (p0 ++ [13, 10]) = enc0 ++ (v0 + 1) :: sk0.map (· + 1)) (ht1 : 46 :: (p1 ++ [13, 10]) = enc1 ++ (v1 + 1) :: sk1.map (· + 1)) (ht2 : 46 :: (p2 ++ [13, 10]) = enc2 ++ (v2 + 1) :: sk2.map (· + 1))
    (hD0 : Dec enc0 dec0) (hD1 : Dec enc1 dec1) (hD2 : Dec enc2 dec2) (hv0 : v0 + 1 ∈ ws.cps.toList) (hv1 : v1 + 1 ∈ ws.cps.toList) (hv2 : v2 + 1 ∈ ws.cps.toList) (hv0' : v0 + 1 ≠ 10) (hv1' : v1 + 1 ≠ 10) (hv2' : v2 + 1 ≠ 10)
    (hs0 : ∀ c ∈ sk0, c + 1 ∈ ws.cps.toList) (hs1 : ∀ c ∈ sk1, c + 1 ∈ ws.cps.toList) (hs2 : ∀ c ∈ sk2, c + 1 ∈ ws.cps.toList) (hn0' : nls (sk0.map (· + 1)) = 1) (hn1' : nls (sk1.map (· + 1)) = 1) (hn2' : nls (sk2.map (· + 1)) = 1)
    (Q : Heap → Gs → Prop)
    (kin : ∀ A' R' h' tk' iti W' text x' cd cl c1 c2 c3 c4 c5 z τ', A'.depth = A.depth + 0 → A'.handled = none →
      St (topObj C.w.params) h h' [L, it, cW, cL, 113] (mkL (bOut C.w.params L it cW cL Es f D W' iti x' cd cl r cur (((n + 1 : Nat) : Int) - 1) text dec0 dec1 dec2 false ++ [⟨cd, true, vCode (cvRead c1 c2 c3 c4 c5 z)⟩]) τ') →
      (∀ h'' g'' tk'', St (topObj C.w.params) h'' h'' [] (mkL [] []) → Q h'' g'' → R' (.ok .next) h'' g'' tk'') → CodeP C A' (smInCode L iti cW cE cL) R' h' g tk')
    (kout : ∀ h'' g'' h3 tk3, Q h'' g'' → St (topObj C.w.params) h'' h3 [] (mkL [] []) → CodeP C A (smCode L it cW cE cL) R h3 g'' tk3) :
    CodeP C A (smCode L it cW cE cL) R h g tk := by
  obtain ⟨data, hdata⟩ : ∃ data : Str, (⟨((w0 ++ ⟨#[32]⟩ ++ e0).cps.toList ++ ((w1 ++ ⟨#[32]⟩ ++ e1).cps.toList ++ (w2 ++ ⟨#[32]⟩ ++ e2).cps.toList)).toArray⟩ : Str) = data := ⟨_, rfl⟩
  have hq : data.cps.toList = flat2 ([(p0, ε0), (p1, ε1), (p2, ε2)].map fun p => (46 :: p.1, p.2)) := by
    rw [← hdata, ← hp0, ← hp1, ← hp2]
    simp [flat2, Str.cps_append, hw0, hw1, hw2, he0, he1, he2]
  have hsz : data.cps.size ≤ 190 := by
    rw [← hdata]
    show List.length _ ≤ 190
    have : ∀ x : Str, x.cps.toList.length = x.length := fun _ => rfl
    simp only [List.length_append, this, Str.length_append, sp1]
    omega
  obtain ⟨text, htext⟩ : ∃ text : Str, (⟨(out1 ([(p0, ε0), (p1, ε1), (p2, ε2)].map (·.1))).toArray⟩ : Str) = text := ⟨_, rfl⟩
  have htx : text.cps.toList = 46 :: (enc0 ++ (v0 + 1) :: (sk0.map (· + 1) ++ 46 :: (enc1 ++ (v1 + 1) :: (sk1.map (· + 1) ++ 46 :: (enc2 ++ (v2 + 1) :: sk2.map (· + 1)))))) := by
    rw [← htext]
    show 46 :: (46 :: (p0 ++ [13, 10])) ++ (46 :: (46 :: (p1 ++ [13, 10])) ++ (46 :: (46 :: (p2 ++ [13, 10])) ++ [])) = _
    rw [ht0, ht1, ht2]
    simp
  have hlen : text.length ≤ 100000 := by
    rw [← htext]
    show List.length (46 :: (46 :: (p0 ++ [13, 10])) ++ (46 :: (46 :: (p1 ++ [13, 10])) ++ (46 :: (46 :: (p2 ++ [13, 10])) ++ []))) ≤ 100000
    have a0 : w0.length = u0.length + 1 := congrArg List.length hw0
    have a1 : w1.length = u1.length + 1 := congrArg List.length hw1
    have a2 : w2.length = u2.length + 1 := congrArg List.length hw2
    rw [← hp0, ← hp1, ← hp2]
    simp only [List.length_append, List.length_cons, List.length_nil]
    omega
  have hd0 : text.cps.toList.drop 0 = ([] : List Nat).map (· + 1) ++ 46 :: (enc0 ++ (v0 + 1) :: (sk0.map (· + 1) ++ 46 :: (enc1 ++ (v1 + 1) :: (sk1.map (· + 1) ++ 46 :: (enc2 ++ (v2 + 1) :: sk2.map (· + 1)))))) := htx
  have hd1 := tok_drop hd0
  have hd2 := tok_drop hd1
  have hd3 := tok_drop hd2
  obtain ⟨q0, hq0'⟩ : ∃ q : Nat, q = 0 := ⟨_, rfl⟩
  rw [← hq0'] at hd0 hd1 hd2 hd3
  obtain ⟨q1, hq0⟩ : ∃ q, q0 + ([] : List Nat).length + 1 + enc0.length + 1 = q := ⟨_, rfl⟩
  rw [hq0] at hd1 hd2 hd3
  obtain ⟨q2, hq1⟩ : ∃ q, q1 + sk0.length + 1 + enc1.length + 1 = q := ⟨_, rfl⟩
  rw [hq1] at hd2 hd3
  obtain ⟨q3, hq2⟩ : ∃ q, q2 + sk1.length + 1 + enc2.length + 1 = q := ⟨_, rfl⟩
  rw [hq2] at hd3
  have hn0 : (1 : Int) + nls (([] : List Nat).map (· + 1)) = 1 := rfl
  have hn1 : (1 : Int) + nls (sk0.map (· + 1)) = 2 := by rw [hn0']; rfl
  have hn2 : (2 : Int) + nls (sk1.map (· + 1)) = 3 := by rw [hn1']; rfl
  have hn3 : (3 : Int) + nls (sk2.map (· + 1)) = 4 := by rw [hn2']; rfl
  subst hq0'
  obtain ⟨hd, dp, fr, gs, un⟩ := A
  cases hA
  refine enter ?_
  refine go_add (F := 105) (H := 27753800261776267332638040083100210513875511301188302331011879305029281607172204906598539089378163657526600117508014344569316444162) w0 ⟨#[32]⟩ S (by rw [Str.length_append, sizeLine_eq]; simp only [sp1]; omega) (by kernel_rfl!) fun h1 t1 tk1 S1 => ?_
  refine go_add (F := 16) (H := 12694533556101186568) (w0 ++ ⟨#[32]⟩) e0 S1 (by rw [Str.length_append, Str.length_append, sizeLine_eq]; simp only [sp1]; omega) (by kernel_rfl!) fun h2 t2 tk2 S2 => ?_
  refine go_add (F := 46) (H := 16471130661748911447925944406976945934669661719463877475158722562) w1 ⟨#[32]⟩ S2 (by rw [Str.length_append, sizeLine_eq]; simp only [sp1]; omega) (by kernel_rfl!) fun h3 t3 tk3 S3 => ?_
  refine go_add (F := 16) (H := 12694533556101186568) (w1 ++ ⟨#[32]⟩) e1 S3 (by rw [Str.length_append, Str.length_append, sizeLine_eq]; simp only [sp1]; omega) (by kernel_rfl!) fun h4 t4 tk4 S4 => ?_
  refine go_add (F := 46) (H := 16471130661748911447925944406976945934669661719463877475158722562) w2 ⟨#[32]⟩ S4 (by rw [Str.length_append, sizeLine_eq]; simp only [sp1]; omega) (by kernel_rfl!) fun h5 t5 tk5 S5 => ?_
  refine go_add (F := 16) (H := 12694533556101186568) (w2 ++ ⟨#[32]⟩) e2 S5 (by rw [Str.length_append, Str.length_append, sizeLine_eq]; simp only [sp1]; omega) (by kernel_rfl!) fun h6 t6 tk6 S6 => ?_
  refine go_join (F := 30) (H := 3991582014192019786102255372080252930) (w0 ++ ⟨#[32]⟩ ++ e0) (w1 ++ ⟨#[32]⟩ ++ e1) (w2 ++ ⟨#[32]⟩ ++ e2) (h.objs.size + 2) 3 S6 (by simp only [Str.length_append, sp1]; omega) (by kernel_rfl!) fun h7 t7 tk7 S7 => ?_
  rw [hdata]
  refine go_fnS (F := 3) (H := 0) 111 data 0 S7 (by kernel_rfl!) fun _ _ h8 tk8 t8 hdp8 hh8 XS8 => ?_
  refine XS8.S.lendG [] [] (vl := []) (fp' := []) (fun τq Sc Sb => quotedata_spec (rows := [(p0, ε0), (p1, ε1), (p2, ε2)]) (by rw [hdp8]; omega) hq hr (by show data.cps.size + 3 ≤ 900; omega) (by simp) (by simp) Sc (fun h9 t9 tk9 S9 => ?_)) (by kernel_rfl!)
  have S10 := Sb [] (vl' := []) (τ' := []) S9 (by kernel_rfl!)
  rw [htext]
  refine XS8.rt _ _ _ _ ?_
  refine go_fnS (F := 17) (H := 7696581401607) 118 text 0 S10 (by kernel_rfl!) fun _ _ h11 tk11 t11 hdp11 hh11 XS11 => ?_
  refine XS11.S.lendG [13] [true] (vl := [⟨113, true, vTab []⟩]) (fp' := [113]) (fun τs Sc Sb => stream_a (by rw [hdp11]; omega) Sc (fun h12 tk12 st sd rf cd ct cp pl ctup cl c1 c2 c3 c4 c5 z τ12 S12 => ?_)) (by kernel_rfl!)
  have S13 := Sb [13] S12 (by kernel_rfl!)
  refine XS11.rt _ _ _ _ ?_
  refine go_fnR (F := 4) (H := 0) 76 st 0 S13 (by kernel_rfl!) fun _ _ h14 tk14 hdp14 hh14 XS14 => ?_
  refine XS14.S.lendG [] [] (vl := []) (fp' := []) (fun τx Sc Sb => lex_new (by rw [hdp14]; omega) Sc (fun h15 tk15 x d pb np τ15 S15 => ?_)) (by kernel_rfl!)
  have S16 := Sb [] S15 (by kernel_rfl!)
  refine XS14.rt _ _ _ _ ?_
  refine go_fnR (F := 89) (H := 16259332608364954551564021830253882570246458877322876483169464472707023124466539470343423442674516381243109181231775851785245717) 66 x 0 S16 (by kernel_rfl!) fun _ _ h17 tk17 hdp17 hh17 XS17 => ?_
  refine XS17.S.lendP [4, 7, 8, 9, 13, 10, 11, 6, 5, 12] [false, false, false, false, false, false, false, false, true, true] [d, pl] (fun P => Lx.objs (⟨x, d, st, sd, rf, cd, ct, cp, pl, pb, ctup, c1, c2, c3, c4, c5, z, fdLam cl, 0, np⟩ : Lx) P text 0 1) (fun τt Sc Sb => get_token_spec (⟨x, d, st, sd, rf, cd, ct, cp, pl, pb, ctup, c1, c2, c3, c4, c5, z, fdLam cl, 0, np⟩ : Lx) hD0 (by rw [hdp17]; omega) hv0 hv0' hlen [] (fun _ h => nomatch h) (p := 0) (ln := 1) hd0 Sc fun h18 tk18 t18 τ18 S18 => ?_) (by kernel_rfl!)
  rw [hn0, hq0] at S18
  have S19 := Sb [5, 12] S18 (by kernel_rfl!)
  refine XS17.rt _ _ _ _ ?_
  refine go_fnR (F := 51) (H := 12232162322735112259288017099319161721248609283294640981624323182304269312313178736027502594) 66 x 0 S19 (by kernel_rfl!) fun _ _ h20 tk20 hdp20 hh20 XS20 => ?_
  refine XS20.S.lendP [4, 7, 8, 9, 13, 10, 11, 6, 5, 12] [false, false, false, false, false, false, false, false, true, true] [d, pl] (fun P => Lx.objs (⟨x, d, st, sd, rf, cd, ct, cp, pl, pb, ctup, c1, c2, c3, c4, c5, z, fdLam cl, 0, np⟩ : Lx) P text q1 1) (fun τt Sc Sb => get_token_spec (⟨x, d, st, sd, rf, cd, ct, cp, pl, pb, ctup, c1, c2, c3, c4, c5, z, fdLam cl, 0, np⟩ : Lx) hD1 (by rw [hdp20]; omega) hv1 hv1' hlen sk0 hs0 (p := q1) (ln := 1) hd1 Sc fun h21 tk21 t21 τ21 S21 => ?_) (by kernel_rfl!)
  rw [hn1, hq1] at S21
  have S22 := Sb [5, 12] S21 (by kernel_rfl!)
  refine XS20.rt _ _ _ _ ?_
  refine go_fnR (F := 51) (H := 12232162322735112259288017099319161721248609283294640981624323182304269312313178736027502594) 66 x 0 S22 (by kernel_rfl!) fun _ _ h23 tk23 hdp23 hh23 XS23 => ?_
  refine XS23.S.lendP [4, 7, 8, 9, 13, 10, 11, 6, 5, 12] [false, false, false, false, false, false, false, false, true, true] [d, pl] (fun P => Lx.objs (⟨x, d, st, sd, rf, cd, ct, cp, pl, pb, ctup, c1, c2, c3, c4, c5, z, fdLam cl, 0, np⟩ : Lx) P text q2 2) (fun τt Sc Sb => get_token_spec (⟨x, d, st, sd, rf, cd, ct, cp, pl, pb, ctup, c1, c2, c3, c4, c5, z, fdLam cl, 0, np⟩ : Lx) hD2 (by rw [hdp23]; omega) hv2 hv2' hlen sk1 hs1 (p := q2) (ln := 2) hd2 Sc fun h24 tk24 t24 τ24 S24 => ?_) (by kernel_rfl!)
  rw [hn2, hq2] at S24
  have S25 := Sb [5, 12] S24 (by kernel_rfl!)
  refine XS23.rt _ _ _ _ ?_
  refine go_fnR (F := 56) (H := 16310212861295362728495845663683075145327465627761067052598554423599612864312285430494005250) 66 x 0 S25 (by kernel_rfl!) fun _ _ h26 tk26 hdp26 hh26 XS26 => ?_
  refine XS26.S.lendP [6, 9, 10, 11, 15, 12, 13, 8, 7, 14] [false, false, false, false, false, false, false, false, true, true] [d, pl] (fun P => Lx.objs (⟨x, d, st, sd, rf, cd, ct, cp, pl, pb, ctup, c1, c2, c3, c4, c5, z, fdLam cl, 0, np⟩ : Lx) P text q3 3) (fun τt Sc Sb => get_token_end (⟨x, d, st, sd, rf, cd, ct, cp, pl, pb, ctup, c1, c2, c3, c4, c5, z, fdLam cl, 0, np⟩ : Lx) (by rw [hdp26]; omega) hh26 sk2 hs2 (p := q3) (ln := 3) hd3 Sc fun h27 tk27 t27 τ27 S27 => ?_) (by kernel_rfl!)
  rw [hn3] at S27
  have S28 := Sb [7, 14] S27 (by kernel_rfl!)
  refine XS26.rt _ _ _ _ ?_
  refine go_code (F := 69) (H := 1811019968521074415226916676577717593759047370180237101373292342569389267995) (smInCode L (h27.objs.size + 1) cW cE cL) 0 S28 (by kernel_rfl!) fun h30 tk30 hdp30 hh30 S30 => ?_
  refine S30.give [24, 25, 26, 28, 31, 5, 0, 17] (vl := bOut C.w.params L it cW cL Es f D (h15.objs.size + 2) (h27.objs.size + 1) x cd cl r cur (((n + 1 : Nat) : Int) - 1) text dec0 dec1 dec2 false ++ [⟨cd, true, vCode (cvRead c1 c2 c3 c4 c5 z)⟩]) (fun τf Sf => kin _ _ _ _ (h27.objs.size + 1) (h15.objs.size + 2) text x cd cl c1 c2 c3 c4 c5 z τf hdp30 hh30 Sf (fun h31 g31 tk31 S31 hQ => ?_)) (by kernel_rfl!)
  refine go_again (F := 0) (H := 0) (c' := smCode L it cW cE cL) S31 (fun h32 tk32 S32 => kout _ _ _ _ hQ (S32.sel [] [] (by rfl))) (by kernel_rfl!)
end Mine
end
/-! ## Tu2 -/
section
open PySem PySem.W PyProof.Rows
set_option Elab.async false
set_option linter.unusedVariables false
set_option maxRecDepth 100000
set_option maxHeartbeats 2000000
namespace Mine
theorem b_later {C : Cx} {A : Around} {R : Post Result} {h : Heap} {g : Gs} {tk : Nat} (hroom : A.depth + 80 < recursionLimit) (hA : A.handled = none) {L it cW cE cL W En D f Es : Addr} {w0 w1 w2 e0 e1 e2 : Str} {r cur : Int} {n cw ce : Nat} {τ : List (List Tok)} {old : Int} {sent : Str} {x cd cl c1 c2 c3 c4 c5 : Addr} {z : Int}
    (l0 : w0.length ≤ 60) (l1 : w1.length ≤ 60) (l2 : w2.length ≤ 60) (m0 : e0.length ≤ 2) (m1 : e1.length ≤ 2) (m2 : e2.length ≤ 2)
    (S : St (topObj C.w.params) h h [L, it, cW, cL, 113] (mkL [⟨L, true, frS C.w.params Es f D r old sent 2⟩, ⟨it, true, vRI cur (n + 1 : Nat)⟩,
      ⟨cW, true, vCell (.ref W)⟩, ⟨cE, false, vCell (.ref En)⟩, ⟨cL, true, vCell (.ref x)⟩, ⟨W, false, vList [.str w0, .str w1, .str w2] cw⟩, ⟨En, false, vList [.str e0, .str e1, .str e2] ce⟩, ⟨113, true, vTab (tb1 cd cl)⟩, ⟨cd, false, vCode (cvRead c1 c2 c3 c4 c5 z)⟩] τ))
    {u0 u1 u2 p0 p1 p2 ε0 ε1 ε2 : List Nat} (hw0 : w0.cps.toList = 46 :: u0) (hw1 : w1.cps.toList = 46 :: u1) (hw2 : w2.cps.toList = 46 :: u2) (he0 : e0.cps.toList = ε0) (he1 : e1.cps.toList = ε1) (he2 : e2.cps.toList = ε2)
    (hp0 : u0 ++ [32] = p0) (hp1 : u1 ++ [32] = p1) (hp2 : u2 ++ [32] = p2) (hr : ∀ p ∈ [(p0, ε0), (p1, ε1), (p2, ε2)], (∀ c ∈ p.1, ¬ Eol c) ∧ isEnd p.2)
    {enc0 enc1 enc2 dec0 dec1 dec2 sk0 sk1 sk2 : List Nat} {v0 v1 v2 : Nat} (ht0 : 46 :: (p0 ++ [13, 10]) = enc0 ++ (v0 + 1) :: sk0.map (· + 1)) (ht1 : 46 :: (p1 ++ [13, 10]) = enc1 ++ (v1 + 1) :: sk1.map (· + 1)) (ht2 : 46 :: (p2 ++ [13, 10]) = enc2 ++ (v2 + 1) :: sk2.map (· + 1))
    (hD0 : Dec enc0 dec0) (hD1 : Dec enc1 dec1) (hD2 : Dec enc2 dec2) (hv0 : v0 + 1 ∈ ws.cps.toList) (hv1 : v1 + 1 ∈ ws.cps.toList) (hv2 : v2 + 1 ∈ ws.cps.toList) (hv0' : v0 + 1 ≠ 10) (hv1' : v1 + 1 ≠ 10) (hv2' : v2 + 1 ≠ 10)
    (hs0 : ∀ c ∈ sk0, c + 1 ∈ ws.cps.toList) (hs1 : ∀ c ∈ sk1, c + 1 ∈ ws.cps.toList) (hs2 : ∀ c ∈ sk2, c + 1 ∈ ws.cps.toList) (hn0' : nls (sk0.map (· + 1)) = 1) (hn1' : nls (sk1.map (· + 1)) = 1) (hn2' : nls (sk2.map (· + 1)) = 1)
    (Q : Heap → Gs → Prop)
    (kin : ∀ A' R' h' tk' iti W' text x' τ', A'.depth = A.depth + 0 → A'.handled = none →
      St (topObj C.w.params) h h' [L, it, cW, cL, 113] (mkL (bOut C.w.params L it cW cL Es f D W' iti x' cd cl r cur (((n + 1 : Nat) : Int) - 1) text dec0 dec1 dec2 true) τ') →
      (∀ h'' g'' tk'', St (topObj C.w.params) h'' h'' [] (mkL [] []) → Q h'' g'' → R' (.ok .next) h'' g'' tk'') → CodeP C A' (smInCode L iti cW cE cL) R' h' g tk')
    (kout : ∀ h'' g'' h3 tk3, Q h'' g'' → St (topObj C.w.params) h'' h3 [] (mkL [] []) → CodeP C A (smCode L it cW cE cL) R h3 g'' tk3) :
    CodeP C A (smCode L it cW cE cL) R h g tk := by
  obtain ⟨data, hdata⟩ : ∃ data : Str, (⟨((w0 ++ ⟨#[32]⟩ ++ e0).cps.toList ++ ((w1 ++ ⟨#[32]⟩ ++ e1).cps.toList ++ (w2 ++ ⟨#[32]⟩ ++ e2).cps.toList)).toArray⟩ : Str) = data := ⟨_, rfl⟩
  have hq : data.cps.toList = flat2 ([(p0, ε0), (p1, ε1), (p2, ε2)].map fun p => (46 :: p.1, p.2)) := by
    rw [← hdata, ← hp0, ← hp1, ← hp2]
    simp [flat2, Str.cps_append, hw0, hw1, hw2, he0, he1, he2]
  have hsz : data.cps.size ≤ 190 := by
    rw [← hdata]
    show List.length _ ≤ 190
    have : ∀ x : Str, x.cps.toList.length = x.length := fun _ => rfl
    simp only [List.length_append, this, Str.length_append, sp1]
    omega
  obtain ⟨text, htext⟩ : ∃ text : Str, (⟨(out1 ([(p0, ε0), (p1, ε1), (p2, ε2)].map (·.1))).toArray⟩ : Str) = text := ⟨_, rfl⟩
  have htx : text.cps.toList = 46 :: (enc0 ++ (v0 + 1) :: (sk0.map (· + 1) ++ 46 :: (enc1 ++ (v1 + 1) :: (sk1.map (· + 1) ++ 46 :: (enc2 ++ (v2 + 1) :: sk2.map (· + 1)))))) := by
    rw [← htext]
    show 46 :: (46 :: (p0 ++ [13, 10])) ++ (46 :: (46 :: (p1 ++ [13, 10])) ++ (46 :: (46 :: (p2 ++ [13, 10])) ++ [])) = _
    rw [ht0, ht1, ht2]
    simp
  have hlen : text.length ≤ 100000 := by
    rw [← htext]
    show List.length (46 :: (46 :: (p0 ++ [13, 10])) ++ (46 :: (46 :: (p1 ++ [13, 10])) ++ (46 :: (46 :: (p2 ++ [13, 10])) ++ []))) ≤ 100000
    have a0 : w0.length = u0.length + 1 := congrArg List.length hw0
    have a1 : w1.length = u1.length + 1 := congrArg List.length hw1
    have a2 : w2.length = u2.length + 1 := congrArg List.length hw2
    rw [← hp0, ← hp1, ← hp2]
    simp only [List.length_append, List.length_cons, List.length_nil]
    omega
  have hd0 : text.cps.toList.drop 0 = ([] : List Nat).map (· + 1) ++ 46 :: (enc0 ++ (v0 + 1) :: (sk0.map (· + 1) ++ 46 :: (enc1 ++ (v1 + 1) :: (sk1.map (· + 1) ++ 46 :: (enc2 ++ (v2 + 1) :: sk2.map (· + 1)))))) := htx
  have hd1 := tok_drop hd0
  have hd2 := tok_drop hd1
  have hd3 := tok_drop hd2
  obtain ⟨q0, hq0'⟩ : ∃ q : Nat, q = 0 := ⟨_, rfl⟩
  rw [← hq0'] at hd0 hd1 hd2 hd3
  obtain ⟨q1, hq0⟩ : ∃ q, q0 + ([] : List Nat).length + 1 + enc0.length + 1 = q := ⟨_, rfl⟩
  rw [hq0] at hd1 hd2 hd3
  obtain ⟨q2, hq1⟩ : ∃ q, q1 + sk0.length + 1 + enc1.length + 1 = q := ⟨_, rfl⟩
  rw [hq1] at hd2 hd3
  obtain ⟨q3, hq2⟩ : ∃ q, q2 + sk1.length + 1 + enc2.length + 1 = q := ⟨_, rfl⟩
  rw [hq2] at hd3
  have hn0 : (1 : Int) + nls (([] : List Nat).map (· + 1)) = 1 := rfl
  have hn1 : (1 : Int) + nls (sk0.map (· + 1)) = 2 := by rw [hn0']; rfl
  have hn2 : (2 : Int) + nls (sk1.map (· + 1)) = 3 := by rw [hn1']; rfl
  have hn3 : (3 : Int) + nls (sk2.map (· + 1)) = 4 := by rw [hn2']; rfl
  subst hq0'
  obtain ⟨hd, dp, fr, gs, un⟩ := A
  cases hA
  refine enter ?_
  refine go_add (F := 105) (H := 27753800261776267332638040083100210513875511301188302331011879305029281607172204906598539089378163657526600117508014344569316444162) w0 ⟨#[32]⟩ S (by rw [Str.length_append, sizeLine_eq]; simp only [sp1]; omega) (by kernel_rfl!) fun h1 t1 tk1 S1 => ?_
  refine go_add (F := 16) (H := 12694533556101186568) (w0 ++ ⟨#[32]⟩) e0 S1 (by rw [Str.length_append, Str.length_append, sizeLine_eq]; simp only [sp1]; omega) (by kernel_rfl!) fun h2 t2 tk2 S2 => ?_
  refine go_add (F := 46) (H := 16471130661748911447925944406976945934669661719463877475158722562) w1 ⟨#[32]⟩ S2 (by rw [Str.length_append, sizeLine_eq]; simp only [sp1]; omega) (by kernel_rfl!) fun h3 t3 tk3 S3 => ?_
  refine go_add (F := 16) (H := 12694533556101186568) (w1 ++ ⟨#[32]⟩) e1 S3 (by rw [Str.length_append, Str.length_append, sizeLine_eq]; simp only [sp1]; omega) (by kernel_rfl!) fun h4 t4 tk4 S4 => ?_
  refine go_add (F := 46) (H := 16471130661748911447925944406976945934669661719463877475158722562) w2 ⟨#[32]⟩ S4 (by rw [Str.length_append, sizeLine_eq]; simp only [sp1]; omega) (by kernel_rfl!) fun h5 t5 tk5 S5 => ?_
  refine go_add (F := 16) (H := 12694533556101186568) (w2 ++ ⟨#[32]⟩) e2 S5 (by rw [Str.length_append, Str.length_append, sizeLine_eq]; simp only [sp1]; omega) (by kernel_rfl!) fun h6 t6 tk6 S6 => ?_
  refine go_join (F := 30) (H := 3991582014192019786102255372080252930) (w0 ++ ⟨#[32]⟩ ++ e0) (w1 ++ ⟨#[32]⟩ ++ e1) (w2 ++ ⟨#[32]⟩ ++ e2) (h.objs.size + 2) 3 S6 (by simp only [Str.length_append, sp1]; omega) (by kernel_rfl!) fun h7 t7 tk7 S7 => ?_
  rw [hdata]
  refine go_fnS (F := 3) (H := 0) 111 data 0 S7 (by kernel_rfl!) fun _ _ h8 tk8 t8 hdp8 hh8 XS8 => ?_
  refine XS8.S.lendG [] [] (vl := []) (fp' := []) (fun τq Sc Sb => quotedata_spec (rows := [(p0, ε0), (p1, ε1), (p2, ε2)]) (by rw [hdp8]; omega) hq hr (by show data.cps.size + 3 ≤ 900; omega) (by simp) (by simp) Sc (fun h9 t9 tk9 S9 => ?_)) (by kernel_rfl!)
  have S10 := Sb [] (vl' := []) (τ' := []) S9 (by kernel_rfl!)
  rw [htext]
  refine XS8.rt _ _ _ _ ?_
  refine go_fnS (F := 17) (H := 7696581401607) 118 text 0 S10 (by kernel_rfl!) fun _ _ h11 tk11 t11 hdp11 hh11 XS11 => ?_
  refine XS11.S.lendG [13, 14] [true, false] (vl := [⟨113, true, vTab (tb1 cd cl)⟩, ⟨cd, false, vCode (cvRead c1 c2 c3 c4 c5 z)⟩]) (fp' := [113]) (fun τs Sc Sb => stream_b (by rw [hdp11]; omega) Sc (fun h12 tk12 st sd rf ct cp pl ctup τ12 S12 => ?_)) (by kernel_rfl!)
  have S13 := Sb [13] S12 (by kernel_rfl!)
  refine XS11.rt _ _ _ _ ?_
  refine go_fnR (F := 4) (H := 0) 76 st 0 S13 (by kernel_rfl!) fun _ _ h14 tk14 hdp14 hh14 XS14 => ?_
  refine XS14.S.lendG [] [] (vl := []) (fp' := []) (fun τx Sc Sb => lex_new (by rw [hdp14]; omega) Sc (fun h15 tk15 x2 d pb np τ15 S15 => ?_)) (by kernel_rfl!)
  have S16 := Sb [] S15 (by kernel_rfl!)
  refine XS14.rt _ _ _ _ ?_
  refine go_fnR (F := 89) (H := 16259332608364954551564021830253882570246458875425738893105275926887236106084196788075448013912661380020636124846127135764533268) 66 x2 0 S16 (by kernel_rfl!) fun _ _ h17 tk17 hdp17 hh17 XS17 => ?_
  refine XS17.S.lendP [4, 7, 8, 9, 27, 10, 11, 6, 5, 12] [false, false, false, false, false, false, false, false, true, true] [d, pl] (fun P => Lx.objs (⟨x2, d, st, sd, rf, cd, ct, cp, pl, pb, ctup, c1, c2, c3, c4, c5, z, fdLam cl, 0, np⟩ : Lx) P text 0 1) (fun τt Sc Sb => get_token_spec (⟨x2, d, st, sd, rf, cd, ct, cp, pl, pb, ctup, c1, c2, c3, c4, c5, z, fdLam cl, 0, np⟩ : Lx) hD0 (by rw [hdp17]; omega) hv0 hv0' hlen [] (fun _ h => nomatch h) (p := 0) (ln := 1) hd0 Sc fun h18 tk18 t18 τ18 S18 => ?_) (by kernel_rfl!)
  rw [hn0, hq0] at S18
  have S19 := Sb [5, 12] S18 (by kernel_rfl!)
  refine XS17.rt _ _ _ _ ?_
  refine go_fnR (F := 51) (H := 12232162322735112259288017099319161721248609281867393288918363301245983342863683599644755970) 66 x2 0 S19 (by kernel_rfl!) fun _ _ h20 tk20 hdp20 hh20 XS20 => ?_
  refine XS20.S.lendP [4, 7, 8, 9, 27, 10, 11, 6, 5, 12] [false, false, false, false, false, false, false, false, true, true] [d, pl] (fun P => Lx.objs (⟨x2, d, st, sd, rf, cd, ct, cp, pl, pb, ctup, c1, c2, c3, c4, c5, z, fdLam cl, 0, np⟩ : Lx) P text q1 1) (fun τt Sc Sb => get_token_spec (⟨x2, d, st, sd, rf, cd, ct, cp, pl, pb, ctup, c1, c2, c3, c4, c5, z, fdLam cl, 0, np⟩ : Lx) hD1 (by rw [hdp20]; omega) hv1 hv1' hlen sk0 hs0 (p := q1) (ln := 1) hd1 Sc fun h21 tk21 t21 τ21 S21 => ?_) (by kernel_rfl!)
  rw [hn1, hq1] at S21
  have S22 := Sb [5, 12] S21 (by kernel_rfl!)
  refine XS20.rt _ _ _ _ ?_
  refine go_fnR (F := 51) (H := 12232162322735112259288017099319161721248609281867393288918363301245983342863683599644755970) 66 x2 0 S22 (by kernel_rfl!) fun _ _ h23 tk23 hdp23 hh23 XS23 => ?_
  refine XS23.S.lendP [4, 7, 8, 9, 27, 10, 11, 6, 5, 12] [false, false, false, false, false, false, false, false, true, true] [d, pl] (fun P => Lx.objs (⟨x2, d, st, sd, rf, cd, ct, cp, pl, pb, ctup, c1, c2, c3, c4, c5, z, fdLam cl, 0, np⟩ : Lx) P text q2 2) (fun τt Sc Sb => get_token_spec (⟨x2, d, st, sd, rf, cd, ct, cp, pl, pb, ctup, c1, c2, c3, c4, c5, z, fdLam cl, 0, np⟩ : Lx) hD2 (by rw [hdp23]; omega) hv2 hv2' hlen sk1 hs1 (p := q2) (ln := 2) hd2 Sc fun h24 tk24 t24 τ24 S24 => ?_) (by kernel_rfl!)
  rw [hn2, hq2] at S24
  have S25 := Sb [5, 12] S24 (by kernel_rfl!)
  refine XS23.rt _ _ _ _ ?_
  refine go_fnR (F := 56) (H := 16310212861295362728495845663683075145327465626332424202188218694841127058972320044444289026) 66 x2 0 S25 (by kernel_rfl!) fun _ _ h26 tk26 hdp26 hh26 XS26 => ?_
  refine XS26.S.lendP [6, 9, 10, 11, 29, 12, 13, 8, 7, 14] [false, false, false, false, false, false, false, false, true, true] [d, pl] (fun P => Lx.objs (⟨x2, d, st, sd, rf, cd, ct, cp, pl, pb, ctup, c1, c2, c3, c4, c5, z, fdLam cl, 0, np⟩ : Lx) P text q3 3) (fun τt Sc Sb => get_token_end (⟨x2, d, st, sd, rf, cd, ct, cp, pl, pb, ctup, c1, c2, c3, c4, c5, z, fdLam cl, 0, np⟩ : Lx) (by rw [hdp26]; omega) hh26 sk2 hs2 (p := q3) (ln := 3) hd3 Sc fun h27 tk27 t27 τ27 S27 => ?_) (by kernel_rfl!)
  rw [hn3] at S27
  have S28 := Sb [7, 14] S27 (by kernel_rfl!)
  refine XS26.rt _ _ _ _ ?_
  refine go_code (F := 69) (H := 1811019968521074415226916676577717593759047370180237101373292342569389267994) (smInCode L (h27.objs.size + 1) cW cE cL) 0 S28 (by kernel_rfl!) fun h30 tk30 hdp30 hh30 S30 => ?_
  refine S30.give [23, 24, 25, 27, 30, 5, 0] (vl := bOut C.w.params L it cW cL Es f D (h15.objs.size + 2) (h27.objs.size + 1) x2 cd cl r cur (((n + 1 : Nat) : Int) - 1) text dec0 dec1 dec2 true) (fun τf Sf => kin _ _ _ _ (h27.objs.size + 1) (h15.objs.size + 2) text x2 τf hdp30 hh30 Sf (fun h31 g31 tk31 S31 hQ => ?_)) (by kernel_rfl!)
  refine go_again (F := 0) (H := 0) (c' := smCode L it cW cE cL) S31 (fun h32 tk32 S32 => kout _ _ _ _ hQ (S32.sel [] [] (by rfl))) (by kernel_rfl!)
end Mine
end
/-! ## Si -/
section
open PySem PySem.W PyProof.Rows
set_option Elab.async false
set_option linter.unusedVariables false
set_option maxRecDepth 100000
set_option maxHeartbeats 400000
namespace Mine
/-! ## A list whose length is not written -/
noncomputable def LastAt (h : Heap) (D : Addr) (t : Nat) (y : Addr) : Prop := ∃ vs n, h.get? D = some (oList vs n) ∧ vs.size = t + 1 ∧ vs[t]? = some (.ref y)
theorem LastAt.at {h h' : Heap} {D : Addr} {t : Nat} {y : Addr} (x : LastAt h D t y) (hk : ∀ o, h.get? D = some o → h'.get? D = some o) : LastAt h' D t y := by
  obtain ⟨vs, n, e, r⟩ := x
  exact ⟨vs, n, hk _ e, r⟩
theorem St.same {T T' : Nat → Option Obj} {h₁ h h₂ h' : Heap} {fp₁ fp₂ : List Addr} {l l' : List Ent} {a : Addr} (S : St T h₁ h fp₁ l) (S' : St T' h₂ h' fp₂ l') (i j : Nat) (hk : ((nth l i).map (·.a), nth l' j) = (some a, nth l i)) : ∀ o, h.get? a = some o → h'.get? a = some o := by
  have e1 : (nth l i).map (·.a) = some a := congrArg Prod.fst hk
  have e2 : nth l' j = nth l i := congrArg Prod.snd hk
  obtain ⟨e, he, ea⟩ := Option.map_eq_some_iff.mp e1
  have g1 := S.at he
  have g2 := S'.at (e2.trans he)
  rw [ea] at g1 g2
  intro o q
  rw [g1] at q
  cases q
  exact g2
theorem CodeOk.neList {h : Heap} {D y : Addr} {t : Nat} (x : CodeOk h) (hd : LastAt h D t y) : D ≠ 89 := by
  obtain ⟨vs, n, e, _⟩ := hd
  exact x.ne e fun vs q => nomatch q
theorem CodeOk.keepList {h h' : Heap} {D y : Addr} {t : Nat} (x : CodeOk h) (hd : LastAt h D t y) (hk : ∀ b o, h.get? b = some o → b ∉ [D] → h'.get? b = some o) : CodeOk h' := by
  obtain ⟨vs, n, e, _⟩ := hd
  obtain ⟨ps, y, t⟩ := x
  have y2 := y
  obtain ⟨o, ws, file, tf, flags, tg, inF, text, tt, op, a, r1, r2, r3, r4, r5, r6, b, r⟩ := y2
  have n1 : (93 : Addr) ∉ [D] := fun hm => by rw [List.mem_singleton.mp hm, e] at a; cases a; cases r1
  have n2 : (89 : Addr) ∉ [D] := fun hm => by rw [List.mem_singleton.mp hm, e] at b; cases b; exact nomatch r.1
  exact ⟨ps, y.at2 (fun o q => hk _ _ q n1) (fun o q => hk _ _ q n2), t.at2 (fun o q => hk _ _ q n1) (fun o q => hk _ _ q n2)⟩
section
variable {C : Cx} {A : Around} {R : Post Result} {h : Heap} {g : Gs} {tk : Nat} {id : String}
theorem item_code {D y : Addr} {t : Nat} {i : Int} {u : Tok} (e : PySem.W.S.eqLit 128106587276438692081757506308484131437 id = true) (hd : LastAt h D t y) (ht : t ≤ 100) (hi : i = -1 ∨ i = t) (k : R (.ok (.ret (.ref y))) h g tk) :
    CodeP C A (.builtin id ⟨[.ref D, .int i u], []⟩) R h g tk := by
  obtain ⟨vs, n, ho, hz, hx⟩ := hd
  rw [id_of (b := "list.__getitem__") e (by decide +kernel)]
  refine ⟨codeAny_builtin F.entry_list_getitem ?_⟩
  rw [Around.under_plainId (by decide +kernel)]
  show wpAny _ _ (Builtin.List.listSubscript? (.int i u) >>= _) _ _ _
  have hfit : Builtin.List.listFitsIndex i = true := by
    unfold Builtin.List.listFitsIndex
    simp only [Bool.and_eq_true, decide_eq_true_eq]
    omega
  refine wpAny_bind (wpAny_listSubscript_int hfit ?_)
  clear hfit
  have fin : up C R (.ok (.ret (.ref y))) ⟨h, g, C.d, tk, C.os⟩ := ⟨h, g, tk, rfl, k⟩
  rcases hi with rfl | rfl
  · have hidx : seqIndex? (-1) vs.size = some t := by
      rw [PySem.seqIndex_neg (by omega) (by omega), hz]
      congr 1
      omega
    show wpAny _ _ ((Builtin.List.listItems (.ref D) >>= fun xs => pure ((seqIndex? (-1) xs.size).bind fun i => xs[i]?.map (i, ·))) >>= _) _ _ _
    refine wpAny_bind (wpAny_bind ?_)
    show wpAny _ _ (seqItems? (.ref D) >>= _) _ _ _
    refine wpAny_bind (wpAny_seqItems ho rfl (wpAny_pure (wpAny_pure ?_)))
    rw [hidx]
    simp only [Option.bind_some, hx, Option.map_some]
    first
      | exact wpAny_bind (wpAny_pure (wpAny_pure fin))
      | exact wpAny_pure fin
  · show wpAny _ _ ((seqItemAt D t >>= fun r => pure (r.map (t, ·))) >>= _) _ _ _
    refine wpAny_bind (wpAny_bind (wpAny_seqItemAt ho rfl (wpAny_pure ?_)))
    rw [hx]
    first
      | exact wpAny_bind (wpAny_pure (wpAny_pure fin))
      | exact wpAny_pure fin
theorem append_code {T : Nat → Option Obj} {D y y' : Addr} {t : Nat} {zs : List VV} {zn : Nat} {τ : List (List Tok)} (e : PySem.W.S.eqLit 122627580202994350266018413 id = true) (S : St T h h [D] (mkL [⟨D, true, vList zs zn⟩] τ)) (hd : LastAt h D t y) (ht : t ≤ 100)
    (k : ∀ h' tk' zs' zn' τ', St T h h' [D] (mkL [⟨D, true, vList zs' zn'⟩] τ') → LastAt h' D (t + 1) y' → R (.ok (.ret .none)) h' g tk') :
    CodeP C A (.builtin id ⟨[.ref D, .ref y'], []⟩) R h g tk := by
  obtain ⟨vs, n, ho, hz, hx⟩ := hd
  refine builtin_meets e (b := "list.append") (by decide +kernel) F.entry_list_append (by decide +kernel) (PySem.AutoListH.list_append_list_val_0 D vs n (.ref y') (by rw [sizeLine_eq]; omega)) ⟨ho, ?_⟩
  have S1 : St T h h [D] [⟨D, true, oList vs n⟩] := by
    have e1 := S.at (i := 0) rfl
    have e2 : mkO (vList zs zn) (hdL τ) = oList vs n := Option.some.inj (e1.symm.trans ho)
    have : mkL [⟨D, true, vList zs zn⟩] τ = [⟨D, true, oList vs n⟩] := by show [(⟨D, true, mkO (vList zs zn) (hdL τ)⟩ : Ent)] = _; rw [e2]
    rw [this] at S
    exact S
  have e3 : Obj.mapSeq (fun x => x.push (Value.ref y')) (oList vs n) = oList (vs.push (.ref y')) (n + 1) := by
    show (⟨.type "list", none, .seq (vs.push (.ref y')) (if (vs.push (.ref y')).size == vs.size then n else n + 1), #[]⟩ : Obj) = _
    rw [Array.size_push, if_neg (by simp)]
    rfl
  have S2 : St T h (h.update D (Obj.mapSeq fun x => x.push (Value.ref y'))) [D] [⟨D, true, oList (vs.push (.ref y')) (n + 1)⟩] := by
    rw [← e3]
    exact S1.upd (f := Obj.mapSeq fun x => x.push (Value.ref y')) (i := 0) rfl rfl rfl
  obtain ⟨τ', S3⟩ := S2.asV
  refine ⟨_, _, tk, rfl, k _ tk ((vs.push (.ref y')).toList.map vv) (n + 1) τ' S3 ⟨vs.push (.ref y'), n + 1, S2.at (i := 0) rfl, by rw [Array.size_push, hz], ?_⟩⟩
  rw [← hz, Array.getElem?_push_size]
end
section
variable {C : Cx} {A₀ : Around} {R₀ : Post Result} {T : Nat → Option Obj} {h₀ : Heap} {fp : List Addr} {tk : Nat} {g : Gs} {h : Heap} {l : List Ent} {κ : Kont} {r : Result}
theorem go_item {F H : Nat} {D y : Addr} {t : Nat} (i : Int) (a b : Nat) (S : St T h₀ h fp l) (hd : LastAt h D t y) (ht : t ≤ 100) (hi : i = -1 ∨ i = t)
    (hk : ((simA C A₀ T h.objs.size tk F κ r l H).acc.map (·.1), isRet κ, see (simA C A₀ T h.objs.size tk F κ r l H), (nth l a).map (·.a), nth (simA C A₀ T h.objs.size tk F κ r l H).l b) = ((simA C A₀ T h.objs.size tk F κ r l H).acc.map (·.2), true, .bi 128106587276438692081757506308484131437 [.ref D, .int i], some D, nth l a))
    (k : ∀ h' tk', St T h₀ h' fp (simA C A₀ T h.objs.size tk F κ r l H).l → LastAt h' D t y → After C A₀ R₀ (κO (simA C A₀ T h.objs.size tk F κ r l H)) (.ok (.ret (.ref y))) h' g tk') : After C A₀ R₀ κ r h g tk := by
  have e1 := congrArg (·.1) hk
  have e2 := congrArg (·.2.1) hk
  have e3 := congrArg (·.2.2.1) hk
  have e4 := congrArg (·.2.2.2.1) hk
  have e5 := congrArg (·.2.2.2.2) hk
  refine go_bi _ _ S (Prod.ext e1 (Prod.ext e2 e3)) fun h' tk' id vs hid hvs S' => ?_
  obtain ⟨v, w, rfl, hv, hw⟩ := map_two hvs
  obtain rfl := vv_ref hv
  obtain ⟨t2, rfl⟩ := vv_int hw
  have hd' := hd.at (S.same S' a b (Prod.ext e4 e5))
  exact item_code (codeS_eq hid) hd' ht hi (k _ _ S' hd')
end
end Mine
end
/-! ## Tc0 -/
section
open PySem PySem.W PyProof.Rows
set_option Elab.async false
set_option linter.unusedVariables false
set_option maxRecDepth 100000
set_option maxHeartbeats 2000000
namespace Mine
theorem c_0 {C : Cx} {A : Around} {R : Post Result} {h : Heap} {g : Gs} {tk : Nat} (hroom : A.depth + 80 < recursionLimit) (hA : A.handled = none) {L iti cW cE cL W D D0 D1 D2 f y Es : Addr} {x0 x1 x2 text : Str} {r cur kold : Int} {t dn : Nat} {F Y : Ey} {V : OV} {zs : List VV} {zn : Nat} {τ : List (List Tok)}
    (S : St (topObj C.w.params) h h [L, iti, W, D0, 89] (mkL [⟨L, true, frS C.w.params Es f D r cur text kold⟩, ⟨iti, true, vRI 0 3⟩, ⟨cW, false, vCell (.ref W)⟩, ⟨W, true, vList [.str x0, .str x1, .str x2] 3⟩, ⟨D, false, vList [.ref D0, .ref D1, .ref D2] dn⟩, ⟨D0, true, vList zs zn⟩, tab89 V] τ))
    (hcd : CodeOk h) (hg : AllBare g) (hf : EyAt C.prog C.w h f F) (hy : EyAt C.prog C.w h y Y) (oF : F.Ok) (oY : Y.Ok) (oFY : (F.add Y).Ok) (oYY : (Y.add Y).Ok) (hd : LastAt h D0 t y) (ht : t ≤ 90)
    (b : Bool) (hb : (0 + (⟨#[32]⟩ : Str).length ≤ x0.length && PySem.Builtin.Str.subAt x0 ⟨#[32]⟩ (x0.length - (⟨#[32]⟩ : Str).length)) = b) (hcn : (PySem.Builtin.Str.occurrences x0 ⟨#[46]⟩ 0 x0.length (x0.length + 1)).length = t + 2) (hx : x0.length ≤ 100)
    (kk : ∀ h' g' tk' f' y' V' zs' zn' τ', St (topObj C.w.params) h h' [L, iti, W, D0, 89] (mkL [⟨L, true, frS C.w.params Es f' D r cur text 0⟩, ⟨iti, true, vRI 1 2⟩, ⟨W, true, vList [.str (cond b (cutL x0) x0), .str x1, .str x2] 3⟩, ⟨D0, true, vList zs' zn'⟩, tab89 V'] τ') →
      CodeOk h' → AllBare g' → EyAt C.prog C.w h' f' (cond b (F.add Y) F) → EyAt C.prog C.w h' y' (Y.add Y) → LastAt h' D0 (t + 1) y' → CodeP C A (smInCode L iti cW cE cL) R h' g' tk') :
    CodeP C A (smInCode L iti cW cE cL) R h g tk := by
  obtain ⟨hd', dp, fr, gs, un⟩ := A
  cases hA
  refine enter ?_
  refine go_ends (F := 40) (H := 5992162427628104939101510167857458011005275126892546) x0 ⟨#[32]⟩ b S hb (by kernel_rfl!) fun h1 tk1 S1 => ?_
  have hd1 := hd.at (S.same S1 5 5 (by kernel_rfl!))
  cases b
  · skip
    refine go_item (F := 49) (H := 10119862678577005284182098844232054359969359979621517715629077955585) (D := D0) (y := y) (t := t) (-1) 5 5 S1 hd1 (by omega) (.inl rfl) (by kernel_rfl!) fun ha2 tka2 Sa2 hda2 => ?_
    refine go_item (F := 27) (H := 7613338502249326345234630575105) (D := D0) (y := y) (t := t) (-1) 5 5 Sa2 hda2 (by omega) (.inl rfl) (by kernel_rfl!) fun ha3 tka3 Sa3 hda3 => ?_
    refine go_fnRR (F := 4) (H := 0) 87 y y 0 Sa3 (by kernel_rfl!) fun _ _ ha4 tka4 hdpa4 hha4 XSa4 => ?_
    have kpa4 := S.kp89 hcd XSa4.S 6 (by kernel_rfl!)
    have hcda4 : CodeOk ha4 := hcd.run _ S XSa4.S 6 6 (by kernel_rfl!)
    have haa4 := hy.kp oY kpa4
    have hba4 := hy.kp oY kpa4
    have hda4 := hda3.at (Sa3.same XSa4.S 5 5 (by kernel_rfl!))
    refine XSa4.S.lendG [6] [true] (vl := [tab89 (ov (mkO V (hdL (tlL (tlL (tlL (tlL (tlL (tlL τ)))))))))]) (fp' := [89]) (fun τsa Sca Sba => add_stats_spec (by rw [hdpa4]; omega) hha4 Sca hcda4 hg haa4 hba4 oY oY (fun ha5 ga5 tka5 y5 Va5 τa5 Sa5 hcda5 hga5 hra5 => ?_)) (by kernel_rfl!)
    have kpa5 := Sca.kp89 hcda4 Sa5 0 (by kernel_rfl!)
    have hda5 := hda4.at (fun o e => Sa5.old _ _ e (by simpa using hcda4.neList hda4))
    have Sa6 := Sba [6] Sa5 (by kernel_rfl!)
    have Sa6r := Sa6.rebase
    have hfa5 := (hf.kp oF kpa4).kp oF kpa5
    refine XSa4.rt _ _ _ _ ?_
    refine go_biRR (F := 4) (H := 6) 122627580202994350266018413 D0 y5 Sa6r (by kernel_rfl!) fun _ _ ha7 tka7 ida7 hida7 XSa7 => ?_
    have kpa7 := Sa6.kp89 hcda5 XSa7.S 6 (by kernel_rfl!)
    have hcda7 : CodeOk ha7 := hcda5.run _ Sa6r XSa7.S 6 6 (by kernel_rfl!)
    have hda7 := hda5.at (Sa6r.same XSa7.S 5 5 (by kernel_rfl!))
    refine XSa7.S.lendG [5] [true] (vl := [⟨D0, true, vList ((mkVs zs (hdL (tlL (tlL (tlL (tlL (tlL τ))))))).map vv) zn⟩]) (fp' := [D0]) (fun τaa Sca Sba => append_code (codeS_eq hida7) Sca hda7 (by omega) (fun ha8 tka8 zs8 zn8 τa8 Sa8 hda8 => ?_)) (by kernel_rfl!)
    have kpa8 := Sca.kp Sa8 (by kernel_rfl!)
    have hcda8 := hcda7.keepList hda7 (fun b o e hb => Sa8.old b o e hb)
    have Sa9 := Sba [5] Sa8 (by kernel_rfl!)
    have Sa9r := Sa9.rebase
    refine XSa7.rt _ _ _ _ ?_
    refine go_again (F := 1) (H := 0) (c' := smInCode L iti cW cE cL) Sa9r (fun ha10 tka10 Sa10 => ?_) (by kernel_rfl!)
    have kpx := ((kpa7.trans kpa8).trans (Sa9.kp89 hcda8 Sa10 6 (by kernel_rfl!)))
    have hcdx : CodeOk ha10 := hcda8.run _ Sa9r Sa10 6 6 (by kernel_rfl!)
    have hdx := hda8.at (Sa9r.same Sa10 5 5 (by kernel_rfl!))
    have Sx := Sa6.unbase (Sa9.unbase Sa10)
    exact Sx.give [0, 1, 3, 5, 6] (vl := [⟨L, true, frS C.w.params Es f D r cur text 0⟩, ⟨iti, true, vRI 1 2⟩, ⟨W, true, vList [.str x0, .str x1, .str x2] 3⟩, ⟨D0, true, vList ((mkVs zs8 (hdL τa8)).map vv) zn8⟩, tab89 (ov (mkO Va5 (hdL τa5)))]) (fun τf Sf => kk ha10 ga5 tka10 f y5 _ _ _ τf Sf hcdx hga5 (hfa5.kp oF kpx) (hra5.kp oYY kpx) hdx) (by kernel_rfl!)
  · skip
    refine go_count (F := 38) (H := 5714571406963448466402612424515581857181467648) x0 ⟨#[46]⟩ (t + 2) S1 hcn (by kernel_rfl!) fun h2 t2 tk2 S2 => ?_
    have hd2 := hd1.at (S1.same S2 5 5 (by kernel_rfl!))
    refine go_item (F := 13) (H := 6448748550) (D := D0) (y := y) (t := t) (((t + 2 : Nat) : Int) - 2) 5 5 S2 hd2 (by omega) (.inr (by omega)) (by kernel_rfl!) fun hc3 tkc3 Sc3' hdc3 => ?_
    refine go_fnRR (F := 4) (H := 0) 87 f y 0 Sc3' (by kernel_rfl!) fun _ _ hc4 tkc4 hdpc4 hhc4 XSc4 => ?_
    have kpc4 := S.kp89 hcd XSc4.S 6 (by kernel_rfl!)
    have hcdc4 : CodeOk hc4 := hcd.run _ S XSc4.S 6 6 (by kernel_rfl!)
    have hac4 := hf.kp oF kpc4
    have hbc4 := hy.kp oY kpc4
    have hdc4 := hdc3.at (Sc3'.same XSc4.S 5 5 (by kernel_rfl!))
    refine XSc4.S.lendG [6] [true] (vl := [tab89 (ov (mkO V (hdL (tlL (tlL (tlL (tlL (tlL (tlL τ)))))))))]) (fp' := [89]) (fun τsc Scc Sbc => add_stats_spec (by rw [hdpc4]; omega) hhc4 Scc hcdc4 hg hac4 hbc4 oF oY (fun hc5 gc5 tkc5 f5 Vc5 τc5 Sc5 hcdc5 hgc5 hrc5 => ?_)) (by kernel_rfl!)
    have kpc5 := Scc.kp89 hcdc4 Sc5 0 (by kernel_rfl!)
    have hdc5 := hdc4.at (fun o e => Sc5.old _ _ e (by simpa using hcdc4.neList hdc4))
    have Sc6 := Sbc [6] Sc5 (by kernel_rfl!)
    have Sc6r := Sc6.rebase
    have hyc5 := (hy.kp oY kpc4).kp oY kpc5
    refine XSc4.rt _ _ _ _ ?_
    refine go_cut (F := 31) (H := 4840430261135403522196481) x0 (hc5.objs.size + 0) 0 Sc6r (by omega) (by kernel_rfl!) fun h6 t6 tk6 S6 => ?_
    have hd6 := hdc5.at (Sc6r.same S6 5 6 (by kernel_rfl!))
    refine go_item (F := 61) (H := 14273190496934212247098880253404313784672260677803638614342058710555474781701168080079554564) (D := D0) (y := y) (t := t) (-1) 6 6 S6 hd6 (by omega) (.inl rfl) (by kernel_rfl!) fun hb2 tkb2 Sb2 hdb2 => ?_
    refine go_item (F := 27) (H := 8882228252624406410857919023106) (D := D0) (y := y) (t := t) (-1) 6 6 Sb2 hdb2 (by omega) (.inl rfl) (by kernel_rfl!) fun hb3 tkb3 Sb3 hdb3 => ?_
    refine go_fnRR (F := 4) (H := 0) 87 y y 0 Sb3 (by kernel_rfl!) fun _ _ hb4 tkb4 hdpb4 hhb4 XSb4 => ?_
    have kpb4 := Sc6r.kp89 hcdc5 XSb4.S 6 (by kernel_rfl!)
    have hcdb4 : CodeOk hb4 := hcdc5.run _ Sc6r XSb4.S 6 7 (by kernel_rfl!)
    have hab4 := hyc5.kp oY kpb4
    have hbb4 := hyc5.kp oY kpb4
    have hdb4 := hdb3.at (Sb3.same XSb4.S 6 6 (by kernel_rfl!))
    refine XSb4.S.lendG [7] [true] (vl := [tab89 (ov (mkO Vc5 (hdL τc5)))]) (fp' := [89]) (fun τsb Scb Sbb => add_stats_spec (by rw [hdpb4]; omega) hhb4 Scb hcdb4 hgc5 hab4 hbb4 oY oY (fun hb5 gb5 tkb5 y5 Vb5 τb5 Sb5 hcdb5 hgb5 hrb5 => ?_)) (by kernel_rfl!)
    have kpb5 := Scb.kp89 hcdb4 Sb5 0 (by kernel_rfl!)
    have hdb5 := hdb4.at (fun o e => Sb5.old _ _ e (by simpa using hcdb4.neList hdb4))
    have Sb6 := Sbb [7] Sb5 (by kernel_rfl!)
    have Sb6r := Sb6.rebase
    have hfb5 := (hrc5.kp oFY kpb4).kp oFY kpb5
    refine XSb4.rt _ _ _ _ ?_
    refine go_biRR (F := 4) (H := 7) 122627580202994350266018413 D0 y5 Sb6r (by kernel_rfl!) fun _ _ hb7 tkb7 idb7 hidb7 XSb7 => ?_
    have kpb7 := Sb6.kp89 hcdb5 XSb7.S 7 (by kernel_rfl!)
    have hcdb7 : CodeOk hb7 := hcdb5.run _ Sb6r XSb7.S 7 7 (by kernel_rfl!)
    have hdb7 := hdb5.at (Sb6r.same XSb7.S 6 6 (by kernel_rfl!))
    refine XSb7.S.lendG [6] [true] (vl := [⟨D0, true, vList ((mkVs zs (hdL (tlL (tlL (tlL (tlL (tlL τ))))))).map vv) zn⟩]) (fp' := [D0]) (fun τab Scb Sbb => append_code (codeS_eq hidb7) Scb hdb7 (by omega) (fun hb8 tkb8 zs8 zn8 τb8 Sb8 hdb8 => ?_)) (by kernel_rfl!)
    have kpb8 := Scb.kp Sb8 (by kernel_rfl!)
    have hcdb8 := hcdb7.keepList hdb7 (fun b o e hb => Sb8.old b o e hb)
    have Sb9 := Sbb [6] Sb8 (by kernel_rfl!)
    have Sb9r := Sb9.rebase
    refine XSb7.rt _ _ _ _ ?_
    refine go_again (F := 1) (H := 0) (c' := smInCode L iti cW cE cL) Sb9r (fun hb10 tkb10 Sb10 => ?_) (by kernel_rfl!)
    have kpx := ((kpb7.trans kpb8).trans (Sb9.kp89 hcdb8 Sb10 7 (by kernel_rfl!)))
    have hcdx : CodeOk hb10 := hcdb8.run _ Sb9r Sb10 7 7 (by kernel_rfl!)
    have hdx := hdb8.at (Sb9r.same Sb10 6 6 (by kernel_rfl!))
    have Sx := Sc6.unbase (Sb6.unbase (Sb9.unbase Sb10))
    exact Sx.give [1, 2, 4, 6, 7] (vl := [⟨L, true, frS C.w.params Es f5 D r cur text 0⟩, ⟨iti, true, vRI 1 2⟩, ⟨W, true, vList [.str (cutL x0), .str x1, .str x2] 3⟩, ⟨D0, true, vList ((mkVs zs8 (hdL τb8)).map vv) zn8⟩, tab89 (ov (mkO Vb5 (hdL τb5)))]) (fun τf Sf => kk hb10 gb5 tkb10 f5 y5 _ _ _ τf Sf hcdx hgb5 (hfb5.kp oFY kpx) (hrb5.kp oYY kpx) hdx) (by kernel_rfl!)
end Mine
end
/-! ## Tc1 -/
section
open PySem PySem.W PyProof.Rows
set_option Elab.async false
set_option linter.unusedVariables false
set_option maxRecDepth 100000
set_option maxHeartbeats 2000000
namespace Mine
theorem c_1 {C : Cx} {A : Around} {R : Post Result} {h : Heap} {g : Gs} {tk : Nat} (hroom : A.depth + 80 < recursionLimit) (hA : A.handled = none) {L iti cW cE cL W D D0 D1 D2 f y Es : Addr} {x0 x1 x2 text : Str} {r cur kold : Int} {t dn : Nat} {F Y : Ey} {V : OV} {zs : List VV} {zn : Nat} {τ : List (List Tok)}
    (S : St (topObj C.w.params) h h [L, iti, W, D1, 89] (mkL [⟨L, true, frS C.w.params Es f D r cur text kold⟩, ⟨iti, true, vRI 1 2⟩, ⟨cW, false, vCell (.ref W)⟩, ⟨W, true, vList [.str x0, .str x1, .str x2] 3⟩, ⟨D, false, vList [.ref D0, .ref D1, .ref D2] dn⟩, ⟨D1, true, vList zs zn⟩, tab89 V] τ))
    (hcd : CodeOk h) (hg : AllBare g) (hf : EyAt C.prog C.w h f F) (hy : EyAt C.prog C.w h y Y) (oF : F.Ok) (oY : Y.Ok) (oFY : (F.add Y).Ok) (oYY : (Y.add Y).Ok) (hd : LastAt h D1 t y) (ht : t ≤ 90)
    (b : Bool) (hb : (0 + (⟨#[32]⟩ : Str).length ≤ x1.length && PySem.Builtin.Str.subAt x1 ⟨#[32]⟩ (x1.length - (⟨#[32]⟩ : Str).length)) = b) (hcn : (PySem.Builtin.Str.occurrences x1 ⟨#[46]⟩ 0 x1.length (x1.length + 1)).length = t + 2) (hx : x1.length ≤ 100)
    (kk : ∀ h' g' tk' f' y' V' zs' zn' τ', St (topObj C.w.params) h h' [L, iti, W, D1, 89] (mkL [⟨L, true, frS C.w.params Es f' D r cur text 1⟩, ⟨iti, true, vRI 2 1⟩, ⟨W, true, vList [.str x0, .str (cond b (cutL x1) x1), .str x2] 3⟩, ⟨D1, true, vList zs' zn'⟩, tab89 V'] τ') →
      CodeOk h' → AllBare g' → EyAt C.prog C.w h' f' (cond b (F.add Y) F) → EyAt C.prog C.w h' y' (Y.add Y) → LastAt h' D1 (t + 1) y' → CodeP C A (smInCode L iti cW cE cL) R h' g' tk') :
    CodeP C A (smInCode L iti cW cE cL) R h g tk := by
  obtain ⟨hd', dp, fr, gs, un⟩ := A
  cases hA
  refine enter ?_
  refine go_ends (F := 40) (H := 5992162427628104939101510167857458011005275126892546) x1 ⟨#[32]⟩ b S hb (by kernel_rfl!) fun h1 tk1 S1 => ?_
  have hd1 := hd.at (S.same S1 5 5 (by kernel_rfl!))
  cases b
  · skip
    refine go_item (F := 49) (H := 10119862678577005284182098844232054359969359979621517715629077955585) (D := D1) (y := y) (t := t) (-1) 5 5 S1 hd1 (by omega) (.inl rfl) (by kernel_rfl!) fun ha2 tka2 Sa2 hda2 => ?_
    refine go_item (F := 27) (H := 7613338502249326345234630575105) (D := D1) (y := y) (t := t) (-1) 5 5 Sa2 hda2 (by omega) (.inl rfl) (by kernel_rfl!) fun ha3 tka3 Sa3 hda3 => ?_
    refine go_fnRR (F := 4) (H := 0) 87 y y 0 Sa3 (by kernel_rfl!) fun _ _ ha4 tka4 hdpa4 hha4 XSa4 => ?_
    have kpa4 := S.kp89 hcd XSa4.S 6 (by kernel_rfl!)
    have hcda4 : CodeOk ha4 := hcd.run _ S XSa4.S 6 6 (by kernel_rfl!)
    have haa4 := hy.kp oY kpa4
    have hba4 := hy.kp oY kpa4
    have hda4 := hda3.at (Sa3.same XSa4.S 5 5 (by kernel_rfl!))
    refine XSa4.S.lendG [6] [true] (vl := [tab89 (ov (mkO V (hdL (tlL (tlL (tlL (tlL (tlL (tlL τ)))))))))]) (fp' := [89]) (fun τsa Sca Sba => add_stats_spec (by rw [hdpa4]; omega) hha4 Sca hcda4 hg haa4 hba4 oY oY (fun ha5 ga5 tka5 y5 Va5 τa5 Sa5 hcda5 hga5 hra5 => ?_)) (by kernel_rfl!)
    have kpa5 := Sca.kp89 hcda4 Sa5 0 (by kernel_rfl!)
    have hda5 := hda4.at (fun o e => Sa5.old _ _ e (by simpa using hcda4.neList hda4))
    have Sa6 := Sba [6] Sa5 (by kernel_rfl!)
    have Sa6r := Sa6.rebase
    have hfa5 := (hf.kp oF kpa4).kp oF kpa5
    refine XSa4.rt _ _ _ _ ?_
    refine go_biRR (F := 4) (H := 6) 122627580202994350266018413 D1 y5 Sa6r (by kernel_rfl!) fun _ _ ha7 tka7 ida7 hida7 XSa7 => ?_
    have kpa7 := Sa6.kp89 hcda5 XSa7.S 6 (by kernel_rfl!)
    have hcda7 : CodeOk ha7 := hcda5.run _ Sa6r XSa7.S 6 6 (by kernel_rfl!)
    have hda7 := hda5.at (Sa6r.same XSa7.S 5 5 (by kernel_rfl!))
    refine XSa7.S.lendG [5] [true] (vl := [⟨D1, true, vList ((mkVs zs (hdL (tlL (tlL (tlL (tlL (tlL τ))))))).map vv) zn⟩]) (fp' := [D1]) (fun τaa Sca Sba => append_code (codeS_eq hida7) Sca hda7 (by omega) (fun ha8 tka8 zs8 zn8 τa8 Sa8 hda8 => ?_)) (by kernel_rfl!)
    have kpa8 := Sca.kp Sa8 (by kernel_rfl!)
    have hcda8 := hcda7.keepList hda7 (fun b o e hb => Sa8.old b o e hb)
    have Sa9 := Sba [5] Sa8 (by kernel_rfl!)
    have Sa9r := Sa9.rebase
    refine XSa7.rt _ _ _ _ ?_
    refine go_again (F := 1) (H := 0) (c' := smInCode L iti cW cE cL) Sa9r (fun ha10 tka10 Sa10 => ?_) (by kernel_rfl!)
    have kpx := ((kpa7.trans kpa8).trans (Sa9.kp89 hcda8 Sa10 6 (by kernel_rfl!)))
    have hcdx : CodeOk ha10 := hcda8.run _ Sa9r Sa10 6 6 (by kernel_rfl!)
    have hdx := hda8.at (Sa9r.same Sa10 5 5 (by kernel_rfl!))
    have Sx := Sa6.unbase (Sa9.unbase Sa10)
    exact Sx.give [0, 1, 3, 5, 6] (vl := [⟨L, true, frS C.w.params Es f D r cur text 1⟩, ⟨iti, true, vRI 2 1⟩, ⟨W, true, vList [.str x0, .str x1, .str x2] 3⟩, ⟨D1, true, vList ((mkVs zs8 (hdL τa8)).map vv) zn8⟩, tab89 (ov (mkO Va5 (hdL τa5)))]) (fun τf Sf => kk ha10 ga5 tka10 f y5 _ _ _ τf Sf hcdx hga5 (hfa5.kp oF kpx) (hra5.kp oYY kpx) hdx) (by kernel_rfl!)
  · skip
    refine go_count (F := 38) (H := 5714571406963448466402612424515581857181467648) x1 ⟨#[46]⟩ (t + 2) S1 hcn (by kernel_rfl!) fun h2 t2 tk2 S2 => ?_
    have hd2 := hd1.at (S1.same S2 5 5 (by kernel_rfl!))
    refine go_item (F := 13) (H := 6448748550) (D := D1) (y := y) (t := t) (((t + 2 : Nat) : Int) - 2) 5 5 S2 hd2 (by omega) (.inr (by omega)) (by kernel_rfl!) fun hc3 tkc3 Sc3' hdc3 => ?_
    refine go_fnRR (F := 4) (H := 0) 87 f y 0 Sc3' (by kernel_rfl!) fun _ _ hc4 tkc4 hdpc4 hhc4 XSc4 => ?_
    have kpc4 := S.kp89 hcd XSc4.S 6 (by kernel_rfl!)
    have hcdc4 : CodeOk hc4 := hcd.run _ S XSc4.S 6 6 (by kernel_rfl!)
    have hac4 := hf.kp oF kpc4
    have hbc4 := hy.kp oY kpc4
    have hdc4 := hdc3.at (Sc3'.same XSc4.S 5 5 (by kernel_rfl!))
    refine XSc4.S.lendG [6] [true] (vl := [tab89 (ov (mkO V (hdL (tlL (tlL (tlL (tlL (tlL (tlL τ)))))))))]) (fp' := [89]) (fun τsc Scc Sbc => add_stats_spec (by rw [hdpc4]; omega) hhc4 Scc hcdc4 hg hac4 hbc4 oF oY (fun hc5 gc5 tkc5 f5 Vc5 τc5 Sc5 hcdc5 hgc5 hrc5 => ?_)) (by kernel_rfl!)
    have kpc5 := Scc.kp89 hcdc4 Sc5 0 (by kernel_rfl!)
    have hdc5 := hdc4.at (fun o e => Sc5.old _ _ e (by simpa using hcdc4.neList hdc4))
    have Sc6 := Sbc [6] Sc5 (by kernel_rfl!)
    have Sc6r := Sc6.rebase
    have hyc5 := (hy.kp oY kpc4).kp oY kpc5
    refine XSc4.rt _ _ _ _ ?_
    refine go_cut (F := 31) (H := 4840430261135403522196481) x1 (hc5.objs.size + 0) 0 Sc6r (by omega) (by kernel_rfl!) fun h6 t6 tk6 S6 => ?_
    have hd6 := hdc5.at (Sc6r.same S6 5 6 (by kernel_rfl!))
    refine go_item (F := 61) (H := 14273190496934212247098880253404313784672260677803638614342058710555474781701168080079554564) (D := D1) (y := y) (t := t) (-1) 6 6 S6 hd6 (by omega) (.inl rfl) (by kernel_rfl!) fun hb2 tkb2 Sb2 hdb2 => ?_
    refine go_item (F := 27) (H := 8882228252624406410857919023106) (D := D1) (y := y) (t := t) (-1) 6 6 Sb2 hdb2 (by omega) (.inl rfl) (by kernel_rfl!) fun hb3 tkb3 Sb3 hdb3 => ?_
    refine go_fnRR (F := 4) (H := 0) 87 y y 0 Sb3 (by kernel_rfl!) fun _ _ hb4 tkb4 hdpb4 hhb4 XSb4 => ?_
    have kpb4 := Sc6r.kp89 hcdc5 XSb4.S 6 (by kernel_rfl!)
    have hcdb4 : CodeOk hb4 := hcdc5.run _ Sc6r XSb4.S 6 7 (by kernel_rfl!)
    have hab4 := hyc5.kp oY kpb4
    have hbb4 := hyc5.kp oY kpb4
    have hdb4 := hdb3.at (Sb3.same XSb4.S 6 6 (by kernel_rfl!))
    refine XSb4.S.lendG [7] [true] (vl := [tab89 (ov (mkO Vc5 (hdL τc5)))]) (fp' := [89]) (fun τsb Scb Sbb => add_stats_spec (by rw [hdpb4]; omega) hhb4 Scb hcdb4 hgc5 hab4 hbb4 oY oY (fun hb5 gb5 tkb5 y5 Vb5 τb5 Sb5 hcdb5 hgb5 hrb5 => ?_)) (by kernel_rfl!)
    have kpb5 := Scb.kp89 hcdb4 Sb5 0 (by kernel_rfl!)
    have hdb5 := hdb4.at (fun o e => Sb5.old _ _ e (by simpa using hcdb4.neList hdb4))
    have Sb6 := Sbb [7] Sb5 (by kernel_rfl!)
    have Sb6r := Sb6.rebase
    have hfb5 := (hrc5.kp oFY kpb4).kp oFY kpb5
    refine XSb4.rt _ _ _ _ ?_
    refine go_biRR (F := 4) (H := 7) 122627580202994350266018413 D1 y5 Sb6r (by kernel_rfl!) fun _ _ hb7 tkb7 idb7 hidb7 XSb7 => ?_
    have kpb7 := Sb6.kp89 hcdb5 XSb7.S 7 (by kernel_rfl!)
    have hcdb7 : CodeOk hb7 := hcdb5.run _ Sb6r XSb7.S 7 7 (by kernel_rfl!)
    have hdb7 := hdb5.at (Sb6r.same XSb7.S 6 6 (by kernel_rfl!))
    refine XSb7.S.lendG [6] [true] (vl := [⟨D1, true, vList ((mkVs zs (hdL (tlL (tlL (tlL (tlL (tlL τ))))))).map vv) zn⟩]) (fp' := [D1]) (fun τab Scb Sbb => append_code (codeS_eq hidb7) Scb hdb7 (by omega) (fun hb8 tkb8 zs8 zn8 τb8 Sb8 hdb8 => ?_)) (by kernel_rfl!)
    have kpb8 := Scb.kp Sb8 (by kernel_rfl!)
    have hcdb8 := hcdb7.keepList hdb7 (fun b o e hb => Sb8.old b o e hb)
    have Sb9 := Sbb [6] Sb8 (by kernel_rfl!)
    have Sb9r := Sb9.rebase
    refine XSb7.rt _ _ _ _ ?_
    refine go_again (F := 1) (H := 0) (c' := smInCode L iti cW cE cL) Sb9r (fun hb10 tkb10 Sb10 => ?_) (by kernel_rfl!)
    have kpx := ((kpb7.trans kpb8).trans (Sb9.kp89 hcdb8 Sb10 7 (by kernel_rfl!)))
    have hcdx : CodeOk hb10 := hcdb8.run _ Sb9r Sb10 7 7 (by kernel_rfl!)
    have hdx := hdb8.at (Sb9r.same Sb10 6 6 (by kernel_rfl!))
    have Sx := Sc6.unbase (Sb6.unbase (Sb9.unbase Sb10))
    exact Sx.give [1, 2, 4, 6, 7] (vl := [⟨L, true, frS C.w.params Es f5 D r cur text 1⟩, ⟨iti, true, vRI 2 1⟩, ⟨W, true, vList [.str x0, .str (cutL x1), .str x2] 3⟩, ⟨D1, true, vList ((mkVs zs8 (hdL τb8)).map vv) zn8⟩, tab89 (ov (mkO Vb5 (hdL τb5)))]) (fun τf Sf => kk hb10 gb5 tkb10 f5 y5 _ _ _ τf Sf hcdx hgb5 (hfb5.kp oFY kpx) (hrb5.kp oYY kpx) hdx) (by kernel_rfl!)
end Mine
end
/-! ## Tc2 -/
section
open PySem PySem.W PyProof.Rows
set_option Elab.async false
set_option linter.unusedVariables false
set_option maxRecDepth 100000
set_option maxHeartbeats 2000000
namespace Mine
theorem c_2 {C : Cx} {A : Around} {R : Post Result} {h : Heap} {g : Gs} {tk : Nat} (hroom : A.depth + 80 < recursionLimit) (hA : A.handled = none) {L iti cW cE cL W D D0 D1 D2 f y Es : Addr} {x0 x1 x2 text : Str} {r cur kold : Int} {t dn : Nat} {F Y : Ey} {V : OV} {zs : List VV} {zn : Nat} {τ : List (List Tok)}
    (S : St (topObj C.w.params) h h [L, iti, W, D2, 89] (mkL [⟨L, true, frS C.w.params Es f D r cur text kold⟩, ⟨iti, true, vRI 2 1⟩, ⟨cW, false, vCell (.ref W)⟩, ⟨W, true, vList [.str x0, .str x1, .str x2] 3⟩, ⟨D, false, vList [.ref D0, .ref D1, .ref D2] dn⟩, ⟨D2, true, vList zs zn⟩, tab89 V] τ))
    (hcd : CodeOk h) (hg : AllBare g) (hf : EyAt C.prog C.w h f F) (hy : EyAt C.prog C.w h y Y) (oF : F.Ok) (oY : Y.Ok) (oFY : (F.add Y).Ok) (oYY : (Y.add Y).Ok) (hd : LastAt h D2 t y) (ht : t ≤ 90)
    (b : Bool) (hb : (0 + (⟨#[32]⟩ : Str).length ≤ x2.length && PySem.Builtin.Str.subAt x2 ⟨#[32]⟩ (x2.length - (⟨#[32]⟩ : Str).length)) = b) (hcn : (PySem.Builtin.Str.occurrences x2 ⟨#[46]⟩ 0 x2.length (x2.length + 1)).length = t + 2) (hx : x2.length ≤ 100)
    (kk : ∀ h' g' tk' f' y' V' zs' zn' τ', St (topObj C.w.params) h h' [L, iti, W, D2, 89] (mkL [⟨L, true, frS C.w.params Es f' D r cur text 2⟩, ⟨iti, true, vRI 3 0⟩, ⟨W, true, vList [.str x0, .str x1, .str (cond b (cutL x2) x2)] 3⟩, ⟨D2, true, vList zs' zn'⟩, tab89 V'] τ') →
      CodeOk h' → AllBare g' → EyAt C.prog C.w h' f' (cond b (F.add Y) F) → EyAt C.prog C.w h' y' (Y.add Y) → LastAt h' D2 (t + 1) y' → CodeP C A (smInCode L iti cW cE cL) R h' g' tk') :
    CodeP C A (smInCode L iti cW cE cL) R h g tk := by
  obtain ⟨hd', dp, fr, gs, un⟩ := A
  cases hA
  refine enter ?_
  refine go_ends (F := 40) (H := 5992162427628104939101510167857458011005275126892546) x2 ⟨#[32]⟩ b S hb (by kernel_rfl!) fun h1 tk1 S1 => ?_
  have hd1 := hd.at (S.same S1 5 5 (by kernel_rfl!))
  cases b
  · skip
    refine go_item (F := 49) (H := 10119862678577005284182098844232054359969359979621517715629077955585) (D := D2) (y := y) (t := t) (-1) 5 5 S1 hd1 (by omega) (.inl rfl) (by kernel_rfl!) fun ha2 tka2 Sa2 hda2 => ?_
    refine go_item (F := 27) (H := 7613338502249326345234630575105) (D := D2) (y := y) (t := t) (-1) 5 5 Sa2 hda2 (by omega) (.inl rfl) (by kernel_rfl!) fun ha3 tka3 Sa3 hda3 => ?_
    refine go_fnRR (F := 4) (H := 0) 87 y y 0 Sa3 (by kernel_rfl!) fun _ _ ha4 tka4 hdpa4 hha4 XSa4 => ?_
    have kpa4 := S.kp89 hcd XSa4.S 6 (by kernel_rfl!)
    have hcda4 : CodeOk ha4 := hcd.run _ S XSa4.S 6 6 (by kernel_rfl!)
    have haa4 := hy.kp oY kpa4
    have hba4 := hy.kp oY kpa4
    have hda4 := hda3.at (Sa3.same XSa4.S 5 5 (by kernel_rfl!))
    refine XSa4.S.lendG [6] [true] (vl := [tab89 (ov (mkO V (hdL (tlL (tlL (tlL (tlL (tlL (tlL τ)))))))))]) (fp' := [89]) (fun τsa Sca Sba => add_stats_spec (by rw [hdpa4]; omega) hha4 Sca hcda4 hg haa4 hba4 oY oY (fun ha5 ga5 tka5 y5 Va5 τa5 Sa5 hcda5 hga5 hra5 => ?_)) (by kernel_rfl!)
    have kpa5 := Sca.kp89 hcda4 Sa5 0 (by kernel_rfl!)
    have hda5 := hda4.at (fun o e => Sa5.old _ _ e (by simpa using hcda4.neList hda4))
    have Sa6 := Sba [6] Sa5 (by kernel_rfl!)
    have Sa6r := Sa6.rebase
    have hfa5 := (hf.kp oF kpa4).kp oF kpa5
    refine XSa4.rt _ _ _ _ ?_
    refine go_biRR (F := 4) (H := 6) 122627580202994350266018413 D2 y5 Sa6r (by kernel_rfl!) fun _ _ ha7 tka7 ida7 hida7 XSa7 => ?_
    have kpa7 := Sa6.kp89 hcda5 XSa7.S 6 (by kernel_rfl!)
    have hcda7 : CodeOk ha7 := hcda5.run _ Sa6r XSa7.S 6 6 (by kernel_rfl!)
    have hda7 := hda5.at (Sa6r.same XSa7.S 5 5 (by kernel_rfl!))
    refine XSa7.S.lendG [5] [true] (vl := [⟨D2, true, vList ((mkVs zs (hdL (tlL (tlL (tlL (tlL (tlL τ))))))).map vv) zn⟩]) (fp' := [D2]) (fun τaa Sca Sba => append_code (codeS_eq hida7) Sca hda7 (by omega) (fun ha8 tka8 zs8 zn8 τa8 Sa8 hda8 => ?_)) (by kernel_rfl!)
    have kpa8 := Sca.kp Sa8 (by kernel_rfl!)
    have hcda8 := hcda7.keepList hda7 (fun b o e hb => Sa8.old b o e hb)
    have Sa9 := Sba [5] Sa8 (by kernel_rfl!)
    have Sa9r := Sa9.rebase
    refine XSa7.rt _ _ _ _ ?_
    refine go_again (F := 1) (H := 0) (c' := smInCode L iti cW cE cL) Sa9r (fun ha10 tka10 Sa10 => ?_) (by kernel_rfl!)
    have kpx := ((kpa7.trans kpa8).trans (Sa9.kp89 hcda8 Sa10 6 (by kernel_rfl!)))
    have hcdx : CodeOk ha10 := hcda8.run _ Sa9r Sa10 6 6 (by kernel_rfl!)
    have hdx := hda8.at (Sa9r.same Sa10 5 5 (by kernel_rfl!))
    have Sx := Sa6.unbase (Sa9.unbase Sa10)
    exact Sx.give [0, 1, 3, 5, 6] (vl := [⟨L, true, frS C.w.params Es f D r cur text 2⟩, ⟨iti, true, vRI 3 0⟩, ⟨W, true, vList [.str x0, .str x1, .str x2] 3⟩, ⟨D2, true, vList ((mkVs zs8 (hdL τa8)).map vv) zn8⟩, tab89 (ov (mkO Va5 (hdL τa5)))]) (fun τf Sf => kk ha10 ga5 tka10 f y5 _ _ _ τf Sf hcdx hga5 (hfa5.kp oF kpx) (hra5.kp oYY kpx) hdx) (by kernel_rfl!)
  · skip
    refine go_count (F := 38) (H := 5714571406963448466402612424515581857181467648) x2 ⟨#[46]⟩ (t + 2) S1 hcn (by kernel_rfl!) fun h2 t2 tk2 S2 => ?_
    have hd2 := hd1.at (S1.same S2 5 5 (by kernel_rfl!))
    refine go_item (F := 13) (H := 6448748550) (D := D2) (y := y) (t := t) (((t + 2 : Nat) : Int) - 2) 5 5 S2 hd2 (by omega) (.inr (by omega)) (by kernel_rfl!) fun hc3 tkc3 Sc3' hdc3 => ?_
    refine go_fnRR (F := 4) (H := 0) 87 f y 0 Sc3' (by kernel_rfl!) fun _ _ hc4 tkc4 hdpc4 hhc4 XSc4 => ?_
    have kpc4 := S.kp89 hcd XSc4.S 6 (by kernel_rfl!)
    have hcdc4 : CodeOk hc4 := hcd.run _ S XSc4.S 6 6 (by kernel_rfl!)
    have hac4 := hf.kp oF kpc4
    have hbc4 := hy.kp oY kpc4
    have hdc4 := hdc3.at (Sc3'.same XSc4.S 5 5 (by kernel_rfl!))
    refine XSc4.S.lendG [6] [true] (vl := [tab89 (ov (mkO V (hdL (tlL (tlL (tlL (tlL (tlL (tlL τ)))))))))]) (fp' := [89]) (fun τsc Scc Sbc => add_stats_spec (by rw [hdpc4]; omega) hhc4 Scc hcdc4 hg hac4 hbc4 oF oY (fun hc5 gc5 tkc5 f5 Vc5 τc5 Sc5 hcdc5 hgc5 hrc5 => ?_)) (by kernel_rfl!)
    have kpc5 := Scc.kp89 hcdc4 Sc5 0 (by kernel_rfl!)
    have hdc5 := hdc4.at (fun o e => Sc5.old _ _ e (by simpa using hcdc4.neList hdc4))
    have Sc6 := Sbc [6] Sc5 (by kernel_rfl!)
    have Sc6r := Sc6.rebase
    have hyc5 := (hy.kp oY kpc4).kp oY kpc5
    refine XSc4.rt _ _ _ _ ?_
    refine go_cut (F := 31) (H := 4840430261135403522196481) x2 (hc5.objs.size + 0) 0 Sc6r (by omega) (by kernel_rfl!) fun h6 t6 tk6 S6 => ?_
    have hd6 := hdc5.at (Sc6r.same S6 5 6 (by kernel_rfl!))
    refine go_item (F := 61) (H := 14273190496934212247098880253404313784672260677803638614342058710555474781701168080079554564) (D := D2) (y := y) (t := t) (-1) 6 6 S6 hd6 (by omega) (.inl rfl) (by kernel_rfl!) fun hb2 tkb2 Sb2 hdb2 => ?_
    refine go_item (F := 27) (H := 8882228252624406410857919023106) (D := D2) (y := y) (t := t) (-1) 6 6 Sb2 hdb2 (by omega) (.inl rfl) (by kernel_rfl!) fun hb3 tkb3 Sb3 hdb3 => ?_
    refine go_fnRR (F := 4) (H := 0) 87 y y 0 Sb3 (by kernel_rfl!) fun _ _ hb4 tkb4 hdpb4 hhb4 XSb4 => ?_
    have kpb4 := Sc6r.kp89 hcdc5 XSb4.S 6 (by kernel_rfl!)
    have hcdb4 : CodeOk hb4 := hcdc5.run _ Sc6r XSb4.S 6 7 (by kernel_rfl!)
    have hab4 := hyc5.kp oY kpb4
    have hbb4 := hyc5.kp oY kpb4
    have hdb4 := hdb3.at (Sb3.same XSb4.S 6 6 (by kernel_rfl!))
    refine XSb4.S.lendG [7] [true] (vl := [tab89 (ov (mkO Vc5 (hdL τc5)))]) (fp' := [89]) (fun τsb Scb Sbb => add_stats_spec (by rw [hdpb4]; omega) hhb4 Scb hcdb4 hgc5 hab4 hbb4 oY oY (fun hb5 gb5 tkb5 y5 Vb5 τb5 Sb5 hcdb5 hgb5 hrb5 => ?_)) (by kernel_rfl!)
    have kpb5 := Scb.kp89 hcdb4 Sb5 0 (by kernel_rfl!)
    have hdb5 := hdb4.at (fun o e => Sb5.old _ _ e (by simpa using hcdb4.neList hdb4))
    have Sb6 := Sbb [7] Sb5 (by kernel_rfl!)
    have Sb6r := Sb6.rebase
    have hfb5 := (hrc5.kp oFY kpb4).kp oFY kpb5
    refine XSb4.rt _ _ _ _ ?_
    refine go_biRR (F := 4) (H := 7) 122627580202994350266018413 D2 y5 Sb6r (by kernel_rfl!) fun _ _ hb7 tkb7 idb7 hidb7 XSb7 => ?_
    have kpb7 := Sb6.kp89 hcdb5 XSb7.S 7 (by kernel_rfl!)
    have hcdb7 : CodeOk hb7 := hcdb5.run _ Sb6r XSb7.S 7 7 (by kernel_rfl!)
    have hdb7 := hdb5.at (Sb6r.same XSb7.S 6 6 (by kernel_rfl!))
    refine XSb7.S.lendG [6] [true] (vl := [⟨D2, true, vList ((mkVs zs (hdL (tlL (tlL (tlL (tlL (tlL τ))))))).map vv) zn⟩]) (fp' := [D2]) (fun τab Scb Sbb => append_code (codeS_eq hidb7) Scb hdb7 (by omega) (fun hb8 tkb8 zs8 zn8 τb8 Sb8 hdb8 => ?_)) (by kernel_rfl!)
    have kpb8 := Scb.kp Sb8 (by kernel_rfl!)
    have hcdb8 := hcdb7.keepList hdb7 (fun b o e hb => Sb8.old b o e hb)
    have Sb9 := Sbb [6] Sb8 (by kernel_rfl!)
    have Sb9r := Sb9.rebase
    refine XSb7.rt _ _ _ _ ?_
    refine go_again (F := 1) (H := 0) (c' := smInCode L iti cW cE cL) Sb9r (fun hb10 tkb10 Sb10 => ?_) (by kernel_rfl!)
    have kpx := ((kpb7.trans kpb8).trans (Sb9.kp89 hcdb8 Sb10 7 (by kernel_rfl!)))
    have hcdx : CodeOk hb10 := hcdb8.run _ Sb9r Sb10 7 7 (by kernel_rfl!)
    have hdx := hdb8.at (Sb9r.same Sb10 6 6 (by kernel_rfl!))
    have Sx := Sc6.unbase (Sb6.unbase (Sb9.unbase Sb10))
    exact Sx.give [1, 2, 4, 6, 7] (vl := [⟨L, true, frS C.w.params Es f5 D r cur text 2⟩, ⟨iti, true, vRI 3 0⟩, ⟨W, true, vList [.str x0, .str x1, .str (cutL x2)] 3⟩, ⟨D2, true, vList ((mkVs zs8 (hdL τb8)).map vv) zn8⟩, tab89 (ov (mkO Vb5 (hdL τb5)))]) (fun τf Sf => kk hb10 gb5 tkb10 f5 y5 _ _ _ τf Sf hcdx hgb5 (hfb5.kp oFY kpx) (hrb5.kp oYY kpx) hdx) (by kernel_rfl!)
end Mine
end
/-! ## Tc3 -/
section
open PySem PySem.W PyProof.Rows
set_option Elab.async false
set_option linter.unusedVariables false
set_option maxRecDepth 100000
set_option maxHeartbeats 2000000
namespace Mine
theorem c_0f {C : Cx} {A : Around} {R : Post Result} {h : Heap} {g : Gs} {tk : Nat} (hroom : A.depth + 80 < recursionLimit) (hA : A.handled = none) {L iti cW cE cL W D D0 D1 D2 f y Es : Addr} {x0 x1 x2 text : Str} {r cur kold : Int} {t dn : Nat} {F Y : Ey} {V : OV} {zs : List VV} {zn : Nat} {τ : List (List Tok)}
    (S : St (topObj C.w.params) h h [L, iti, W, D0, 89] (mkL [⟨L, true, frT C.w.params Es f D r cur text⟩, ⟨iti, true, vRI 0 3⟩, ⟨cW, false, vCell (.ref W)⟩, ⟨W, true, vList [.str x0, .str x1, .str x2] 3⟩, ⟨D, false, vList [.ref D0, .ref D1, .ref D2] dn⟩, ⟨D0, true, vList zs zn⟩, tab89 V] τ))
    (hcd : CodeOk h) (hg : AllBare g) (hf : EyAt C.prog C.w h f F) (hy : EyAt C.prog C.w h y Y) (oF : F.Ok) (oY : Y.Ok) (oFY : (F.add Y).Ok) (oYY : (Y.add Y).Ok) (hd : LastAt h D0 t y) (ht : t ≤ 90)
    (b : Bool) (hb : (0 + (⟨#[32]⟩ : Str).length ≤ x0.length && PySem.Builtin.Str.subAt x0 ⟨#[32]⟩ (x0.length - (⟨#[32]⟩ : Str).length)) = b) (hcn : (PySem.Builtin.Str.occurrences x0 ⟨#[46]⟩ 0 x0.length (x0.length + 1)).length = t + 2) (hx : x0.length ≤ 100)
    (kk : ∀ h' g' tk' f' y' V' zs' zn' τ', St (topObj C.w.params) h h' [L, iti, W, D0, 89] (mkL [⟨L, true, frS C.w.params Es f' D r cur text 0⟩, ⟨iti, true, vRI 1 2⟩, ⟨W, true, vList [.str (cond b (cutL x0) x0), .str x1, .str x2] 3⟩, ⟨D0, true, vList zs' zn'⟩, tab89 V'] τ') →
      CodeOk h' → AllBare g' → EyAt C.prog C.w h' f' (cond b (F.add Y) F) → EyAt C.prog C.w h' y' (Y.add Y) → LastAt h' D0 (t + 1) y' → CodeP C A (smInCode L iti cW cE cL) R h' g' tk') :
    CodeP C A (smInCode L iti cW cE cL) R h g tk := by
  obtain ⟨hd', dp, fr, gs, un⟩ := A
  cases hA
  refine enter ?_
  refine go_ends (F := 40) (H := 5992162427628104939101510167857458011005275126892546) x0 ⟨#[32]⟩ b S hb (by kernel_rfl!) fun h1 tk1 S1 => ?_
  have hd1 := hd.at (S.same S1 5 5 (by kernel_rfl!))
  cases b
  · skip
    refine go_item (F := 49) (H := 10119862678577005284182098844232054359969359979621517715629077955585) (D := D0) (y := y) (t := t) (-1) 5 5 S1 hd1 (by omega) (.inl rfl) (by kernel_rfl!) fun ha2 tka2 Sa2 hda2 => ?_
    refine go_item (F := 27) (H := 7613338502249326345234630575105) (D := D0) (y := y) (t := t) (-1) 5 5 Sa2 hda2 (by omega) (.inl rfl) (by kernel_rfl!) fun ha3 tka3 Sa3 hda3 => ?_
    refine go_fnRR (F := 4) (H := 0) 87 y y 0 Sa3 (by kernel_rfl!) fun _ _ ha4 tka4 hdpa4 hha4 XSa4 => ?_
    have kpa4 := S.kp89 hcd XSa4.S 6 (by kernel_rfl!)
    have hcda4 : CodeOk ha4 := hcd.run _ S XSa4.S 6 6 (by kernel_rfl!)
    have haa4 := hy.kp oY kpa4
    have hba4 := hy.kp oY kpa4
    have hda4 := hda3.at (Sa3.same XSa4.S 5 5 (by kernel_rfl!))
    refine XSa4.S.lendG [6] [true] (vl := [tab89 (ov (mkO V (hdL (tlL (tlL (tlL (tlL (tlL (tlL τ)))))))))]) (fp' := [89]) (fun τsa Sca Sba => add_stats_spec (by rw [hdpa4]; omega) hha4 Sca hcda4 hg haa4 hba4 oY oY (fun ha5 ga5 tka5 y5 Va5 τa5 Sa5 hcda5 hga5 hra5 => ?_)) (by kernel_rfl!)
    have kpa5 := Sca.kp89 hcda4 Sa5 0 (by kernel_rfl!)
    have hda5 := hda4.at (fun o e => Sa5.old _ _ e (by simpa using hcda4.neList hda4))
    have Sa6 := Sba [6] Sa5 (by kernel_rfl!)
    have Sa6r := Sa6.rebase
    have hfa5 := (hf.kp oF kpa4).kp oF kpa5
    refine XSa4.rt _ _ _ _ ?_
    refine go_biRR (F := 4) (H := 6) 122627580202994350266018413 D0 y5 Sa6r (by kernel_rfl!) fun _ _ ha7 tka7 ida7 hida7 XSa7 => ?_
    have kpa7 := Sa6.kp89 hcda5 XSa7.S 6 (by kernel_rfl!)
    have hcda7 : CodeOk ha7 := hcda5.run _ Sa6r XSa7.S 6 6 (by kernel_rfl!)
    have hda7 := hda5.at (Sa6r.same XSa7.S 5 5 (by kernel_rfl!))
    refine XSa7.S.lendG [5] [true] (vl := [⟨D0, true, vList ((mkVs zs (hdL (tlL (tlL (tlL (tlL (tlL τ))))))).map vv) zn⟩]) (fp' := [D0]) (fun τaa Sca Sba => append_code (codeS_eq hida7) Sca hda7 (by omega) (fun ha8 tka8 zs8 zn8 τa8 Sa8 hda8 => ?_)) (by kernel_rfl!)
    have kpa8 := Sca.kp Sa8 (by kernel_rfl!)
    have hcda8 := hcda7.keepList hda7 (fun b o e hb => Sa8.old b o e hb)
    have Sa9 := Sba [5] Sa8 (by kernel_rfl!)
    have Sa9r := Sa9.rebase
    refine XSa7.rt _ _ _ _ ?_
    refine go_again (F := 1) (H := 0) (c' := smInCode L iti cW cE cL) Sa9r (fun ha10 tka10 Sa10 => ?_) (by kernel_rfl!)
    have kpx := ((kpa7.trans kpa8).trans (Sa9.kp89 hcda8 Sa10 6 (by kernel_rfl!)))
    have hcdx : CodeOk ha10 := hcda8.run _ Sa9r Sa10 6 6 (by kernel_rfl!)
    have hdx := hda8.at (Sa9r.same Sa10 5 5 (by kernel_rfl!))
    have Sx := Sa6.unbase (Sa9.unbase Sa10)
    exact Sx.give [0, 1, 3, 5, 6] (vl := [⟨L, true, frS C.w.params Es f D r cur text 0⟩, ⟨iti, true, vRI 1 2⟩, ⟨W, true, vList [.str x0, .str x1, .str x2] 3⟩, ⟨D0, true, vList ((mkVs zs8 (hdL τa8)).map vv) zn8⟩, tab89 (ov (mkO Va5 (hdL τa5)))]) (fun τf Sf => kk ha10 ga5 tka10 f y5 _ _ _ τf Sf hcdx hga5 (hfa5.kp oF kpx) (hra5.kp oYY kpx) hdx) (by kernel_rfl!)
  · skip
    refine go_count (F := 38) (H := 5714571406963448466402612424515581857181467648) x0 ⟨#[46]⟩ (t + 2) S1 hcn (by kernel_rfl!) fun h2 t2 tk2 S2 => ?_
    have hd2 := hd1.at (S1.same S2 5 5 (by kernel_rfl!))
    refine go_item (F := 13) (H := 6448748550) (D := D0) (y := y) (t := t) (((t + 2 : Nat) : Int) - 2) 5 5 S2 hd2 (by omega) (.inr (by omega)) (by kernel_rfl!) fun hc3 tkc3 Sc3' hdc3 => ?_
    refine go_fnRR (F := 4) (H := 0) 87 f y 0 Sc3' (by kernel_rfl!) fun _ _ hc4 tkc4 hdpc4 hhc4 XSc4 => ?_
    have kpc4 := S.kp89 hcd XSc4.S 6 (by kernel_rfl!)
    have hcdc4 : CodeOk hc4 := hcd.run _ S XSc4.S 6 6 (by kernel_rfl!)
    have hac4 := hf.kp oF kpc4
    have hbc4 := hy.kp oY kpc4
    have hdc4 := hdc3.at (Sc3'.same XSc4.S 5 5 (by kernel_rfl!))
    refine XSc4.S.lendG [6] [true] (vl := [tab89 (ov (mkO V (hdL (tlL (tlL (tlL (tlL (tlL (tlL τ)))))))))]) (fp' := [89]) (fun τsc Scc Sbc => add_stats_spec (by rw [hdpc4]; omega) hhc4 Scc hcdc4 hg hac4 hbc4 oF oY (fun hc5 gc5 tkc5 f5 Vc5 τc5 Sc5 hcdc5 hgc5 hrc5 => ?_)) (by kernel_rfl!)
    have kpc5 := Scc.kp89 hcdc4 Sc5 0 (by kernel_rfl!)
    have hdc5 := hdc4.at (fun o e => Sc5.old _ _ e (by simpa using hcdc4.neList hdc4))
    have Sc6 := Sbc [6] Sc5 (by kernel_rfl!)
    have Sc6r := Sc6.rebase
    have hyc5 := (hy.kp oY kpc4).kp oY kpc5
    refine XSc4.rt _ _ _ _ ?_
    refine go_cut (F := 31) (H := 4840430261135403522196481) x0 (hc5.objs.size + 0) 0 Sc6r (by omega) (by kernel_rfl!) fun h6 t6 tk6 S6 => ?_
    have hd6 := hdc5.at (Sc6r.same S6 5 6 (by kernel_rfl!))
    refine go_item (F := 61) (H := 14273190496934212247098880253404313784672260677803638614342058710555474781701168080079554564) (D := D0) (y := y) (t := t) (-1) 6 6 S6 hd6 (by omega) (.inl rfl) (by kernel_rfl!) fun hb2 tkb2 Sb2 hdb2 => ?_
    refine go_item (F := 27) (H := 8882228252624406410857919023106) (D := D0) (y := y) (t := t) (-1) 6 6 Sb2 hdb2 (by omega) (.inl rfl) (by kernel_rfl!) fun hb3 tkb3 Sb3 hdb3 => ?_
    refine go_fnRR (F := 4) (H := 0) 87 y y 0 Sb3 (by kernel_rfl!) fun _ _ hb4 tkb4 hdpb4 hhb4 XSb4 => ?_
    have kpb4 := Sc6r.kp89 hcdc5 XSb4.S 6 (by kernel_rfl!)
    have hcdb4 : CodeOk hb4 := hcdc5.run _ Sc6r XSb4.S 6 7 (by kernel_rfl!)
    have hab4 := hyc5.kp oY kpb4
    have hbb4 := hyc5.kp oY kpb4
    have hdb4 := hdb3.at (Sb3.same XSb4.S 6 6 (by kernel_rfl!))
    refine XSb4.S.lendG [7] [true] (vl := [tab89 (ov (mkO Vc5 (hdL τc5)))]) (fp' := [89]) (fun τsb Scb Sbb => add_stats_spec (by rw [hdpb4]; omega) hhb4 Scb hcdb4 hgc5 hab4 hbb4 oY oY (fun hb5 gb5 tkb5 y5 Vb5 τb5 Sb5 hcdb5 hgb5 hrb5 => ?_)) (by kernel_rfl!)
    have kpb5 := Scb.kp89 hcdb4 Sb5 0 (by kernel_rfl!)
    have hdb5 := hdb4.at (fun o e => Sb5.old _ _ e (by simpa using hcdb4.neList hdb4))
    have Sb6 := Sbb [7] Sb5 (by kernel_rfl!)
    have Sb6r := Sb6.rebase
    have hfb5 := (hrc5.kp oFY kpb4).kp oFY kpb5
    refine XSb4.rt _ _ _ _ ?_
    refine go_biRR (F := 4) (H := 7) 122627580202994350266018413 D0 y5 Sb6r (by kernel_rfl!) fun _ _ hb7 tkb7 idb7 hidb7 XSb7 => ?_
    have kpb7 := Sb6.kp89 hcdb5 XSb7.S 7 (by kernel_rfl!)
    have hcdb7 : CodeOk hb7 := hcdb5.run _ Sb6r XSb7.S 7 7 (by kernel_rfl!)
    have hdb7 := hdb5.at (Sb6r.same XSb7.S 6 6 (by kernel_rfl!))
    refine XSb7.S.lendG [6] [true] (vl := [⟨D0, true, vList ((mkVs zs (hdL (tlL (tlL (tlL (tlL (tlL τ))))))).map vv) zn⟩]) (fp' := [D0]) (fun τab Scb Sbb => append_code (codeS_eq hidb7) Scb hdb7 (by omega) (fun hb8 tkb8 zs8 zn8 τb8 Sb8 hdb8 => ?_)) (by kernel_rfl!)
    have kpb8 := Scb.kp Sb8 (by kernel_rfl!)
    have hcdb8 := hcdb7.keepList hdb7 (fun b o e hb => Sb8.old b o e hb)
    have Sb9 := Sbb [6] Sb8 (by kernel_rfl!)
    have Sb9r := Sb9.rebase
    refine XSb7.rt _ _ _ _ ?_
    refine go_again (F := 1) (H := 0) (c' := smInCode L iti cW cE cL) Sb9r (fun hb10 tkb10 Sb10 => ?_) (by kernel_rfl!)
    have kpx := ((kpb7.trans kpb8).trans (Sb9.kp89 hcdb8 Sb10 7 (by kernel_rfl!)))
    have hcdx : CodeOk hb10 := hcdb8.run _ Sb9r Sb10 7 7 (by kernel_rfl!)
    have hdx := hdb8.at (Sb9r.same Sb10 6 6 (by kernel_rfl!))
    have Sx := Sc6.unbase (Sb6.unbase (Sb9.unbase Sb10))
    exact Sx.give [1, 2, 4, 6, 7] (vl := [⟨L, true, frS C.w.params Es f5 D r cur text 0⟩, ⟨iti, true, vRI 1 2⟩, ⟨W, true, vList [.str (cutL x0), .str x1, .str x2] 3⟩, ⟨D0, true, vList ((mkVs zs8 (hdL τb8)).map vv) zn8⟩, tab89 (ov (mkO Vb5 (hdL τb5)))]) (fun τf Sf => kk hb10 gb5 tkb10 f5 y5 _ _ _ τf Sf hcdx hgb5 (hfb5.kp oFY kpx) (hrb5.kp oYY kpx) hdx) (by kernel_rfl!)
end Mine
end
/-! ## Te -/
section
open PySem PySem.W PyProof.Rows
set_option Elab.async false
set_option linter.unusedVariables false
set_option maxRecDepth 100000
set_option maxHeartbeats 2000000
namespace Mine
theorem c_end {C : Cx} {A : Around} {R : Post Result} {h : Heap} {g : Gs} {tk : Nat} (hA : A.handled = none) {L iti cW cE cL : Addr} {τ : List (List Tok)}
    (S : St (topObj C.w.params) h h [iti] (mkL [⟨iti, true, vRI 3 0⟩] τ))
    (kk : ∀ h' tk' τ', St (topObj C.w.params) h h' [iti] (mkL [⟨iti, true, vRI 3 0⟩] τ') → R (.ok .next) h' g tk') :
    CodeP C A (smInCode L iti cW cE cL) R h g tk := by
  obtain ⟨hd', dp, fr, gs, un⟩ := A
  cases hA
  refine enter ?_
  refine go_next (F := 15) (H := 1127000493261825) S (by kernel_rfl!) fun h1 tk1 S1 => ?_
  exact S1.give [2] (fun τ' S' => kk _ _ τ' S') (by kernel_rfl!)
theorem s_end {C : Cx} {A : Around} {R : Post Result} {h : Heap} {g : Gs} {tk : Nat} (hA : A.handled = none) {L it cW cE cL : Addr} {r : Int} {τ : List (List Tok)}
    (S : St (topObj C.w.params) h h [it] (mkL [⟨it, true, vRI r 0⟩] τ))
    (kk : ∀ h' tk' τ', St (topObj C.w.params) h h' [it] (mkL [⟨it, true, vRI r 0⟩] τ') → R (.ok .next) h' g tk') :
    CodeP C A (smCode L it cW cE cL) R h g tk := by
  obtain ⟨hd', dp, fr, gs, un⟩ := A
  cases hA
  refine enter ?_
  refine go_next (F := 15) (H := 1127000493261825) S (by kernel_rfl!) fun h1 tk1 S1 => ?_
  exact S1.give [2] (fun τ' S' => kk _ _ τ' S') (by kernel_rfl!)
end Mine
end
/-! ## Ti -/
section
open PySem PySem.W PyProof.Rows
set_option Elab.async false
set_option linter.unusedVariables false
set_option maxRecDepth 100000
set_option maxHeartbeats 2000000
namespace Mine
theorem CodeOk.old {P : Params} {h h' : Heap} {fp : List Addr} {l : List Ent} (x : CodeOk h) (S : St (topObj P) h h' fp l) (h89 : 89 ∉ fp) : CodeOk h' :=
  x.at2 fun b o hb e => by
    rcases hb with rfl | rfl
    · exact S.old _ _ e (S.top 93 (t93 P) rfl).2
    · exact S.old _ _ e h89
theorem inner_f {C : Cx} {A : Around} {R : Post Result} {h : Heap} {g : Gs} {tk : Nat} (hroom : A.depth + 80 < recursionLimit) (hA : A.handled = none) {L iti cW cE cL W D D0 D1 D2 f y0 y1 y2 Es : Addr} {x0 x1 x2 text : Str} {r cur : Int} {t dn : Nat} {F F1 F2 F3 Y0 Y1 Y2 : Ey} {V : OV} {z0 z1 z2 : List VV} {n0 n1 n2 : Nat} {τ : List (List Tok)} {b0 b1 b2 : Bool}
    (S : St (topObj C.w.params) h h [L, iti, W, D0, D1, D2, 89] (mkL [⟨L, true, frT C.w.params Es f D r cur text⟩, ⟨iti, true, vRI 0 3⟩, ⟨cW, false, vCell (.ref W)⟩, ⟨W, true, vList [.str x0, .str x1, .str x2] 3⟩, ⟨D, false, vList [.ref D0, .ref D1, .ref D2] dn⟩, ⟨D0, true, vList z0 n0⟩, ⟨D1, true, vList z1 n1⟩, ⟨D2, true, vList z2 n2⟩, tab89 V] τ))
    (hcd : CodeOk h) (hg : AllBare g) (hf : EyAt C.prog C.w h f F) (oF : F.Ok) (ht : t ≤ 90) (hy0 : EyAt C.prog C.w h y0 Y0) (oY0 : Y0.Ok) (oYY0 : (Y0.add Y0).Ok) (hd0 : LastAt h D0 t y0) (hy1 : EyAt C.prog C.w h y1 Y1) (oY1 : Y1.Ok) (oYY1 : (Y1.add Y1).Ok) (hd1 : LastAt h D1 t y1) (hy2 : EyAt C.prog C.w h y2 Y2) (oY2 : Y2.Ok) (oYY2 : (Y2.add Y2).Ok) (hd2 : LastAt h D2 t y2)
    (e1 : cond b0 (F.add Y0) F = F1) (e2 : cond b1 (F1.add Y1) F1 = F2) (e3 : cond b2 (F2.add Y2) F2 = F3) (o1 : F1.Ok) (o2 : F2.Ok) (o3 : F3.Ok) (o1' : (F.add Y0).Ok) (o2' : (F1.add Y1).Ok) (o3' : (F2.add Y2).Ok) (hb0 : (0 + (⟨#[32]⟩ : Str).length ≤ x0.length && PySem.Builtin.Str.subAt x0 ⟨#[32]⟩ (x0.length - (⟨#[32]⟩ : Str).length)) = b0) (hcn0 : (PySem.Builtin.Str.occurrences x0 ⟨#[46]⟩ 0 x0.length (x0.length + 1)).length = t + 2) (hx0 : x0.length ≤ 100) (hb1 : (0 + (⟨#[32]⟩ : Str).length ≤ x1.length && PySem.Builtin.Str.subAt x1 ⟨#[32]⟩ (x1.length - (⟨#[32]⟩ : Str).length)) = b1) (hcn1 : (PySem.Builtin.Str.occurrences x1 ⟨#[46]⟩ 0 x1.length (x1.length + 1)).length = t + 2) (hx1 : x1.length ≤ 100) (hb2 : (0 + (⟨#[32]⟩ : Str).length ≤ x2.length && PySem.Builtin.Str.subAt x2 ⟨#[32]⟩ (x2.length - (⟨#[32]⟩ : Str).length)) = b2) (hcn2 : (PySem.Builtin.Str.occurrences x2 ⟨#[46]⟩ 0 x2.length (x2.length + 1)).length = t + 2) (hx2 : x2.length ≤ 100)
    (kk : ∀ h' g' tk' f' y0' y1' y2' V' z0' n0' z1' n1' z2' n2' τ', St (topObj C.w.params) h h' [L, iti, W, D0, D1, D2, 89] (mkL [⟨L, true, frS C.w.params Es f' D r cur text 2⟩, ⟨iti, true, vRI 3 0⟩, ⟨W, true, vList [.str (cond b0 (cutL x0) x0), .str (cond b1 (cutL x1) x1), .str (cond b2 (cutL x2) x2)] 3⟩, ⟨D0, true, vList z0' n0'⟩, ⟨D1, true, vList z1' n1'⟩, ⟨D2, true, vList z2' n2'⟩, tab89 V'] τ') →
      CodeOk h' → AllBare g' → EyAt C.prog C.w h' f' F3 → EyAt C.prog C.w h' y0' (Y0.add Y0) → EyAt C.prog C.w h' y1' (Y1.add Y1) → EyAt C.prog C.w h' y2' (Y2.add Y2) → LastAt h' D0 (t + 1) y0' → LastAt h' D1 (t + 1) y1' → LastAt h' D2 (t + 1) y2' → R (.ok .next) h' g' tk') :
    CodeP C A (smInCode L iti cW cE cL) R h g tk := by
  have nd := S.nd
  simp only [mkL_addr, List.map_cons, List.map_nil, List.nodup_cons, List.mem_cons, List.not_mem_nil, or_false, not_or, not_false_eq_true, List.nodup_nil, and_true] at nd
  obtain ⟨⟨L1, L2, L3, L4, L5, L6, L7, L8⟩, ⟨i2, i3, i4, i5, i6, i7, i8⟩, ⟨c3, c4, c5, c6, c7, c8⟩, ⟨w4, w5, w6, w7, w8⟩, ⟨d5, d6, d7, d8⟩, ⟨a6, a7, a8⟩, ⟨b7, b8⟩, c28⟩ := nd
  refine S.lendG [0, 1, 2, 3, 4, 5, 8] [true, true, false, true, false, true, true] (vl := [⟨L, true, frT C.w.params Es f D r cur text⟩, ⟨iti, true, vRI 0 3⟩, ⟨cW, false, vCell (.ref W)⟩, ⟨W, true, vList [.str x0, .str x1, .str x2] 3⟩, ⟨D, false, vList [.ref D0, .ref D1, .ref D2] dn⟩, ⟨D0, true, vList ((mkVs z0 (hdL (tlL (tlL (tlL (tlL (tlL τ))))))).map vv) n0⟩, tab89 (ov (mkO V (hdL (tlL (tlL (tlL (tlL (tlL (tlL (tlL (tlL τ)))))))))))]) (fp' := [L, iti, W, D0, 89]) (fun τa1 Sc1 Sb1 => c_0f (kold := 0) hroom hA Sc1 hcd hg hf hy0 oF oY0 o1' oYY0 hd0 ht b0 hb0 hcn0 hx0 (fun h1 g1 tk1 f1 ya1 V1 za1 na1 τ1 S1 hcd1 hg1 hf1 hyn1 hdn1 => ?_)) (by kernel_rfl!)
  rw [e1] at hf1
  have kp1 := Sc1.kp89 hcd S1 6 (by kernel_rfl!)
  have hy1_1 := hy1.kp oY1 kp1
  have hd1_1 := hd1.at (fun o e => S1.old _ _ e (fun hm => by
    simp only [List.mem_cons, List.not_mem_nil, or_false] at hm
    rcases hm with e | e | e | e | e
    · exact L6 e.symm
    · exact i6 e.symm
    · exact w6 e.symm
    · exact a6 e.symm
    · exact b8 e))
  have hy2_1 := hy2.kp oY2 kp1
  have hd2_1 := hd2.at (fun o e => S1.old _ _ e (fun hm => by
    simp only [List.mem_cons, List.not_mem_nil, or_false] at hm
    rcases hm with e | e | e | e | e
    · exact L7 e.symm
    · exact i7 e.symm
    · exact w7 e.symm
    · exact a7 e.symm
    · exact c28 e))
  have T1 := Sb1 [0, 1, 3, 5, 8] S1 (by kernel_rfl!)
  refine T1.lendG [0, 1, 2, 3, 4, 6, 8] [true, true, false, true, false, true, true] (vl := [⟨L, true, frS C.w.params Es f1 D r cur text 0⟩, ⟨iti, true, vRI 1 2⟩, ⟨cW, false, vCell (.ref W)⟩, ⟨W, true, vList [.str (cond b0 (cutL x0) x0), .str x1, .str x2] 3⟩, ⟨D, false, vList [.ref D0, .ref D1, .ref D2] dn⟩, ⟨D1, true, vList ((mkVs z1 (hdL (tlL (tlL (tlL (tlL (tlL (tlL τ)))))))).map vv) n1⟩, tab89 (ov (mkO V1 (hdL (tlL (tlL (tlL (tlL τ1)))))))]) (fp' := [L, iti, W, D1, 89]) (fun τa2 Sc2 Sb2 => c_1 hroom hA Sc2 hcd1 hg1 hf1 hy1_1 o1 oY1 o2' oYY1 hd1_1 ht b1 hb1 hcn1 hx1 (fun h2 g2 tk2 f2 ya2 V2 za2 na2 τ2 S2 hcd2 hg2 hf2 hyn2 hdn2 => ?_)) (by kernel_rfl!)
  rw [e2] at hf2
  have kp2 := Sc2.kp89 hcd1 S2 6 (by kernel_rfl!)
  have hy0_2 := hyn1.kp oYY0 kp2
  have hd0_2 := hdn1.at (fun o e => S2.old _ _ e (fun hm => by
    simp only [List.mem_cons, List.not_mem_nil, or_false] at hm
    rcases hm with e | e | e | e | e
    · exact L5 e.symm
    · exact i5 e.symm
    · exact w5 e.symm
    · exact a6 e
    · exact a8 e))
  have hy2_2 := hy2_1.kp oY2 kp2
  have hd2_2 := hd2_1.at (fun o e => S2.old _ _ e (fun hm => by
    simp only [List.mem_cons, List.not_mem_nil, or_false] at hm
    rcases hm with e | e | e | e | e
    · exact L7 e.symm
    · exact i7 e.symm
    · exact w7 e.symm
    · exact b7 e.symm
    · exact c28 e))
  have T2 := Sb2 [0, 1, 3, 6, 8] S2 (by kernel_rfl!)
  refine T2.lendG [0, 1, 2, 3, 4, 7, 8] [true, true, false, true, false, true, true] (vl := [⟨L, true, frS C.w.params Es f2 D r cur text 1⟩, ⟨iti, true, vRI 2 1⟩, ⟨cW, false, vCell (.ref W)⟩, ⟨W, true, vList [.str (cond b0 (cutL x0) x0), .str (cond b1 (cutL x1) x1), .str x2] 3⟩, ⟨D, false, vList [.ref D0, .ref D1, .ref D2] dn⟩, ⟨D2, true, vList ((mkVs z2 (hdL (tlL (tlL (tlL (tlL (tlL (tlL (tlL τ))))))))).map vv) n2⟩, tab89 (ov (mkO V2 (hdL (tlL (tlL (tlL (tlL τ2)))))))]) (fp' := [L, iti, W, D2, 89]) (fun τa3 Sc3 Sb3 => c_2 hroom hA Sc3 hcd2 hg2 hf2 hy2_2 o2 oY2 o3' oYY2 hd2_2 ht b2 hb2 hcn2 hx2 (fun h3 g3 tk3 f3 ya3 V3 za3 na3 τ3 S3 hcd3 hg3 hf3 hyn3 hdn3 => ?_)) (by kernel_rfl!)
  rw [e3] at hf3
  have kp3 := Sc3.kp89 hcd2 S3 6 (by kernel_rfl!)
  have hy0_3 := hy0_2.kp oYY0 kp3
  have hd0_3 := hd0_2.at (fun o e => S3.old _ _ e (fun hm => by
    simp only [List.mem_cons, List.not_mem_nil, or_false] at hm
    rcases hm with e | e | e | e | e
    · exact L5 e.symm
    · exact i5 e.symm
    · exact w5 e.symm
    · exact a7 e
    · exact a8 e))
  have hy1_3 := hyn2.kp oYY1 kp3
  have hd1_3 := hdn2.at (fun o e => S3.old _ _ e (fun hm => by
    simp only [List.mem_cons, List.not_mem_nil, or_false] at hm
    rcases hm with e | e | e | e | e
    · exact L6 e.symm
    · exact i6 e.symm
    · exact w6 e.symm
    · exact b7 e
    · exact b8 e))
  have T3 := Sb3 [0, 1, 3, 7, 8] S3 (by kernel_rfl!)
  refine T3.lendG [1] [true] (vl := [⟨iti, true, vRI 3 0⟩]) (fp' := [iti]) (fun τa4 Sc4 Sb4 => c_end hA Sc4 (fun h4 tk4 τ4 S4 => ?_)) (by kernel_rfl!)
  have kp4 := Sc4.kp S4 (by kernel_rfl!)
  have hcd4 := hcd3.old S4 (fun hm => i8 (List.mem_singleton.mp hm).symm)
  have T4 := Sb4 [1] S4 (by kernel_rfl!)
  exact T4.give [0, 1, 3, 5, 6, 7, 8] (vl := [⟨L, true, frS C.w.params Es f3 D r cur text 2⟩, ⟨iti, true, vRI 3 0⟩, ⟨W, true, vList [.str (cond b0 (cutL x0) x0), .str (cond b1 (cutL x1) x1), .str (cond b2 (cutL x2) x2)] 3⟩, ⟨D0, true, vList ((mkVs za1 (hdL (tlL (tlL (tlL τ1))))).map vv) na1⟩, ⟨D1, true, vList ((mkVs za2 (hdL (tlL (tlL (tlL τ2))))).map vv) na2⟩, ⟨D2, true, vList ((mkVs za3 (hdL (tlL (tlL (tlL τ3))))).map vv) na3⟩, tab89 (ov (mkO V3 (hdL (tlL (tlL (tlL (tlL τ3)))))))]) (fun τf Sf => kk _ _ _ f3 ya1 ya2 ya3 _ _ _ _ _ _ _ τf Sf hcd4 hg3 (hf3.kp o3 kp4) (hy0_3.kp oYY0 kp4) (hy1_3.kp oYY1 kp4) (hyn3.kp oYY2 kp4) (hd0_3.at (fun o e => S4.old _ _ e (fun hm => i5 (List.mem_singleton.mp hm).symm))) (hd1_3.at (fun o e => S4.old _ _ e (fun hm => i6 (List.mem_singleton.mp hm).symm))) (hdn3.at (fun o e => S4.old _ _ e (fun hm => i7 (List.mem_singleton.mp hm).symm)))) (by kernel_rfl!)
theorem inner_l {C : Cx} {A : Around} {R : Post Result} {h : Heap} {g : Gs} {tk : Nat} (hroom : A.depth + 80 < recursionLimit) (hA : A.handled = none) {L iti cW cE cL W D D0 D1 D2 f y0 y1 y2 Es : Addr} {x0 x1 x2 text : Str} {r cur kold : Int} {t dn : Nat} {F F1 F2 F3 Y0 Y1 Y2 : Ey} {V : OV} {z0 z1 z2 : List VV} {n0 n1 n2 : Nat} {τ : List (List Tok)} {b0 b1 b2 : Bool}
    (S : St (topObj C.w.params) h h [L, iti, W, D0, D1, D2, 89] (mkL [⟨L, true, frS C.w.params Es f D r cur text kold⟩, ⟨iti, true, vRI 0 3⟩, ⟨cW, false, vCell (.ref W)⟩, ⟨W, true, vList [.str x0, .str x1, .str x2] 3⟩, ⟨D, false, vList [.ref D0, .ref D1, .ref D2] dn⟩, ⟨D0, true, vList z0 n0⟩, ⟨D1, true, vList z1 n1⟩, ⟨D2, true, vList z2 n2⟩, tab89 V] τ))
    (hcd : CodeOk h) (hg : AllBare g) (hf : EyAt C.prog C.w h f F) (oF : F.Ok) (ht : t ≤ 90) (hy0 : EyAt C.prog C.w h y0 Y0) (oY0 : Y0.Ok) (oYY0 : (Y0.add Y0).Ok) (hd0 : LastAt h D0 t y0) (hy1 : EyAt C.prog C.w h y1 Y1) (oY1 : Y1.Ok) (oYY1 : (Y1.add Y1).Ok) (hd1 : LastAt h D1 t y1) (hy2 : EyAt C.prog C.w h y2 Y2) (oY2 : Y2.Ok) (oYY2 : (Y2.add Y2).Ok) (hd2 : LastAt h D2 t y2)
    (e1 : cond b0 (F.add Y0) F = F1) (e2 : cond b1 (F1.add Y1) F1 = F2) (e3 : cond b2 (F2.add Y2) F2 = F3) (o1 : F1.Ok) (o2 : F2.Ok) (o3 : F3.Ok) (o1' : (F.add Y0).Ok) (o2' : (F1.add Y1).Ok) (o3' : (F2.add Y2).Ok) (hb0 : (0 + (⟨#[32]⟩ : Str).length ≤ x0.length && PySem.Builtin.Str.subAt x0 ⟨#[32]⟩ (x0.length - (⟨#[32]⟩ : Str).length)) = b0) (hcn0 : (PySem.Builtin.Str.occurrences x0 ⟨#[46]⟩ 0 x0.length (x0.length + 1)).length = t + 2) (hx0 : x0.length ≤ 100) (hb1 : (0 + (⟨#[32]⟩ : Str).length ≤ x1.length && PySem.Builtin.Str.subAt x1 ⟨#[32]⟩ (x1.length - (⟨#[32]⟩ : Str).length)) = b1) (hcn1 : (PySem.Builtin.Str.occurrences x1 ⟨#[46]⟩ 0 x1.length (x1.length + 1)).length = t + 2) (hx1 : x1.length ≤ 100) (hb2 : (0 + (⟨#[32]⟩ : Str).length ≤ x2.length && PySem.Builtin.Str.subAt x2 ⟨#[32]⟩ (x2.length - (⟨#[32]⟩ : Str).length)) = b2) (hcn2 : (PySem.Builtin.Str.occurrences x2 ⟨#[46]⟩ 0 x2.length (x2.length + 1)).length = t + 2) (hx2 : x2.length ≤ 100)
    (kk : ∀ h' g' tk' f' y0' y1' y2' V' z0' n0' z1' n1' z2' n2' τ', St (topObj C.w.params) h h' [L, iti, W, D0, D1, D2, 89] (mkL [⟨L, true, frS C.w.params Es f' D r cur text 2⟩, ⟨iti, true, vRI 3 0⟩, ⟨W, true, vList [.str (cond b0 (cutL x0) x0), .str (cond b1 (cutL x1) x1), .str (cond b2 (cutL x2) x2)] 3⟩, ⟨D0, true, vList z0' n0'⟩, ⟨D1, true, vList z1' n1'⟩, ⟨D2, true, vList z2' n2'⟩, tab89 V'] τ') →
      CodeOk h' → AllBare g' → EyAt C.prog C.w h' f' F3 → EyAt C.prog C.w h' y0' (Y0.add Y0) → EyAt C.prog C.w h' y1' (Y1.add Y1) → EyAt C.prog C.w h' y2' (Y2.add Y2) → LastAt h' D0 (t + 1) y0' → LastAt h' D1 (t + 1) y1' → LastAt h' D2 (t + 1) y2' → R (.ok .next) h' g' tk') :
    CodeP C A (smInCode L iti cW cE cL) R h g tk := by
  have nd := S.nd
  simp only [mkL_addr, List.map_cons, List.map_nil, List.nodup_cons, List.mem_cons, List.not_mem_nil, or_false, not_or, not_false_eq_true, List.nodup_nil, and_true] at nd
  obtain ⟨⟨L1, L2, L3, L4, L5, L6, L7, L8⟩, ⟨i2, i3, i4, i5, i6, i7, i8⟩, ⟨c3, c4, c5, c6, c7, c8⟩, ⟨w4, w5, w6, w7, w8⟩, ⟨d5, d6, d7, d8⟩, ⟨a6, a7, a8⟩, ⟨b7, b8⟩, c28⟩ := nd
  refine S.lendG [0, 1, 2, 3, 4, 5, 8] [true, true, false, true, false, true, true] (vl := [⟨L, true, frS C.w.params Es f D r cur text kold⟩, ⟨iti, true, vRI 0 3⟩, ⟨cW, false, vCell (.ref W)⟩, ⟨W, true, vList [.str x0, .str x1, .str x2] 3⟩, ⟨D, false, vList [.ref D0, .ref D1, .ref D2] dn⟩, ⟨D0, true, vList ((mkVs z0 (hdL (tlL (tlL (tlL (tlL (tlL τ))))))).map vv) n0⟩, tab89 (ov (mkO V (hdL (tlL (tlL (tlL (tlL (tlL (tlL (tlL (tlL τ)))))))))))]) (fp' := [L, iti, W, D0, 89]) (fun τa1 Sc1 Sb1 => c_0 hroom hA Sc1 hcd hg hf hy0 oF oY0 o1' oYY0 hd0 ht b0 hb0 hcn0 hx0 (fun h1 g1 tk1 f1 ya1 V1 za1 na1 τ1 S1 hcd1 hg1 hf1 hyn1 hdn1 => ?_)) (by kernel_rfl!)
  rw [e1] at hf1
  have kp1 := Sc1.kp89 hcd S1 6 (by kernel_rfl!)
  have hy1_1 := hy1.kp oY1 kp1
  have hd1_1 := hd1.at (fun o e => S1.old _ _ e (fun hm => by
    simp only [List.mem_cons, List.not_mem_nil, or_false] at hm
    rcases hm with e | e | e | e | e
    · exact L6 e.symm
    · exact i6 e.symm
    · exact w6 e.symm
    · exact a6 e.symm
    · exact b8 e))
  have hy2_1 := hy2.kp oY2 kp1
  have hd2_1 := hd2.at (fun o e => S1.old _ _ e (fun hm => by
    simp only [List.mem_cons, List.not_mem_nil, or_false] at hm
    rcases hm with e | e | e | e | e
    · exact L7 e.symm
    · exact i7 e.symm
    · exact w7 e.symm
    · exact a7 e.symm
    · exact c28 e))
  have T1 := Sb1 [0, 1, 3, 5, 8] S1 (by kernel_rfl!)
  refine T1.lendG [0, 1, 2, 3, 4, 6, 8] [true, true, false, true, false, true, true] (vl := [⟨L, true, frS C.w.params Es f1 D r cur text 0⟩, ⟨iti, true, vRI 1 2⟩, ⟨cW, false, vCell (.ref W)⟩, ⟨W, true, vList [.str (cond b0 (cutL x0) x0), .str x1, .str x2] 3⟩, ⟨D, false, vList [.ref D0, .ref D1, .ref D2] dn⟩, ⟨D1, true, vList ((mkVs z1 (hdL (tlL (tlL (tlL (tlL (tlL (tlL τ)))))))).map vv) n1⟩, tab89 (ov (mkO V1 (hdL (tlL (tlL (tlL (tlL τ1)))))))]) (fp' := [L, iti, W, D1, 89]) (fun τa2 Sc2 Sb2 => c_1 hroom hA Sc2 hcd1 hg1 hf1 hy1_1 o1 oY1 o2' oYY1 hd1_1 ht b1 hb1 hcn1 hx1 (fun h2 g2 tk2 f2 ya2 V2 za2 na2 τ2 S2 hcd2 hg2 hf2 hyn2 hdn2 => ?_)) (by kernel_rfl!)
  rw [e2] at hf2
  have kp2 := Sc2.kp89 hcd1 S2 6 (by kernel_rfl!)
  have hy0_2 := hyn1.kp oYY0 kp2
  have hd0_2 := hdn1.at (fun o e => S2.old _ _ e (fun hm => by
    simp only [List.mem_cons, List.not_mem_nil, or_false] at hm
    rcases hm with e | e | e | e | e
    · exact L5 e.symm
    · exact i5 e.symm
    · exact w5 e.symm
    · exact a6 e
    · exact a8 e))
  have hy2_2 := hy2_1.kp oY2 kp2
  have hd2_2 := hd2_1.at (fun o e => S2.old _ _ e (fun hm => by
    simp only [List.mem_cons, List.not_mem_nil, or_false] at hm
    rcases hm with e | e | e | e | e
    · exact L7 e.symm
    · exact i7 e.symm
    · exact w7 e.symm
    · exact b7 e.symm
    · exact c28 e))
  have T2 := Sb2 [0, 1, 3, 6, 8] S2 (by kernel_rfl!)
  refine T2.lendG [0, 1, 2, 3, 4, 7, 8] [true, true, false, true, false, true, true] (vl := [⟨L, true, frS C.w.params Es f2 D r cur text 1⟩, ⟨iti, true, vRI 2 1⟩, ⟨cW, false, vCell (.ref W)⟩, ⟨W, true, vList [.str (cond b0 (cutL x0) x0), .str (cond b1 (cutL x1) x1), .str x2] 3⟩, ⟨D, false, vList [.ref D0, .ref D1, .ref D2] dn⟩, ⟨D2, true, vList ((mkVs z2 (hdL (tlL (tlL (tlL (tlL (tlL (tlL (tlL τ))))))))).map vv) n2⟩, tab89 (ov (mkO V2 (hdL (tlL (tlL (tlL (tlL τ2)))))))]) (fp' := [L, iti, W, D2, 89]) (fun τa3 Sc3 Sb3 => c_2 hroom hA Sc3 hcd2 hg2 hf2 hy2_2 o2 oY2 o3' oYY2 hd2_2 ht b2 hb2 hcn2 hx2 (fun h3 g3 tk3 f3 ya3 V3 za3 na3 τ3 S3 hcd3 hg3 hf3 hyn3 hdn3 => ?_)) (by kernel_rfl!)
  rw [e3] at hf3
  have kp3 := Sc3.kp89 hcd2 S3 6 (by kernel_rfl!)
  have hy0_3 := hy0_2.kp oYY0 kp3
  have hd0_3 := hd0_2.at (fun o e => S3.old _ _ e (fun hm => by
    simp only [List.mem_cons, List.not_mem_nil, or_false] at hm
    rcases hm with e | e | e | e | e
    · exact L5 e.symm
    · exact i5 e.symm
    · exact w5 e.symm
    · exact a7 e
    · exact a8 e))
  have hy1_3 := hyn2.kp oYY1 kp3
  have hd1_3 := hdn2.at (fun o e => S3.old _ _ e (fun hm => by
    simp only [List.mem_cons, List.not_mem_nil, or_false] at hm
    rcases hm with e | e | e | e | e
    · exact L6 e.symm
    · exact i6 e.symm
    · exact w6 e.symm
    · exact b7 e
    · exact b8 e))
  have T3 := Sb3 [0, 1, 3, 7, 8] S3 (by kernel_rfl!)
  refine T3.lendG [1] [true] (vl := [⟨iti, true, vRI 3 0⟩]) (fp' := [iti]) (fun τa4 Sc4 Sb4 => c_end hA Sc4 (fun h4 tk4 τ4 S4 => ?_)) (by kernel_rfl!)
  have kp4 := Sc4.kp S4 (by kernel_rfl!)
  have hcd4 := hcd3.old S4 (fun hm => i8 (List.mem_singleton.mp hm).symm)
  have T4 := Sb4 [1] S4 (by kernel_rfl!)
  exact T4.give [0, 1, 3, 5, 6, 7, 8] (vl := [⟨L, true, frS C.w.params Es f3 D r cur text 2⟩, ⟨iti, true, vRI 3 0⟩, ⟨W, true, vList [.str (cond b0 (cutL x0) x0), .str (cond b1 (cutL x1) x1), .str (cond b2 (cutL x2) x2)] 3⟩, ⟨D0, true, vList ((mkVs za1 (hdL (tlL (tlL (tlL τ1))))).map vv) na1⟩, ⟨D1, true, vList ((mkVs za2 (hdL (tlL (tlL (tlL τ2))))).map vv) na2⟩, ⟨D2, true, vList ((mkVs za3 (hdL (tlL (tlL (tlL τ3))))).map vv) na3⟩, tab89 (ov (mkO V3 (hdL (tlL (tlL (tlL (tlL τ3)))))))]) (fun τf Sf => kk _ _ _ f3 ya1 ya2 ya3 _ _ _ _ _ _ _ τf Sf hcd4 hg3 (hf3.kp o3 kp4) (hy0_3.kp oYY0 kp4) (hy1_3.kp oYY1 kp4) (hyn3.kp oYY2 kp4) (hd0_3.at (fun o e => S4.old _ _ e (fun hm => i5 (List.mem_singleton.mp hm).symm))) (hd1_3.at (fun o e => S4.old _ _ e (fun hm => i6 (List.mem_singleton.mp hm).symm))) (hdn3.at (fun o e => S4.old _ _ e (fun hm => i7 (List.mem_singleton.mp hm).symm)))) (by kernel_rfl!)
end Mine
end
/-! ## Tt -/
section
open PySem PySem.W PyProof.Rows
set_option Elab.async false
set_option linter.unusedVariables false
set_option maxRecDepth 100000
set_option maxHeartbeats 2000000
namespace Mine
/-! ## A turn of _law_summed -/
/-- ahead of a turn -/
noncomputable def SmI (C : Cx) (h₀ : Heap) (fp : List Addr) (L it cW cE cL En D D0 D1 D2 Es : Addr) (e0 e1 e2 : Str) (r : Int) (t left : Nat) (w0 w1 w2 : Str) (F Y0 Y1 Y2 : Ey) (h : Heap) (g : Gs) : Prop :=
  ∀ P : Prop, (∀ (W x cd cl c1 c2 c3 c4 c5 : Addr) (z : Int) (f y0 y1 y2 : Addr) (cw ce dn : Nat) (z0 : List VV) (n0 : Nat) (z1 : List VV) (n1 : Nat) (z2 : List VV) (n2 : Nat) (V : OV) (sent : Str) (old : Int) (τ : List (List Tok)),
    St (topObj C.w.params) h₀ h fp (mkL [⟨L, true, frS C.w.params Es f D r old sent 2⟩, ⟨it, true, vRI t left⟩, ⟨cW, true, vCell (.ref W)⟩, ⟨cE, false, vCell (.ref En)⟩, ⟨cL, true, vCell (.ref x)⟩, ⟨W, true, vList [.str w0, .str w1, .str w2] cw⟩, ⟨En, false, vList [.str e0, .str e1, .str e2] ce⟩, ⟨113, true, vTab (tb1 cd cl)⟩, ⟨cd, false, vCode (cvRead c1 c2 c3 c4 c5 z)⟩, ⟨D, false, vList [.ref D0, .ref D1, .ref D2] dn⟩, ⟨D0, true, vList z0 n0⟩, ⟨D1, true, vList z1 n1⟩, ⟨D2, true, vList z2 n2⟩, tab89 V] τ) → CodeOk h → AllBare g → EyAt C.prog C.w h f F → EyAt C.prog C.w h y0 Y0 → EyAt C.prog C.w h y1 Y1 → EyAt C.prog C.w h y2 Y2 → LastAt h D0 t y0 → LastAt h D1 t y1 → LastAt h D2 t y2 → P) → P
/-- ahead of the first turn -/
noncomputable def SmI0 (C : Cx) (h₀ : Heap) (fp : List Addr) (L it cW cE cL En D D0 D1 D2 Es : Addr) (e0 e1 e2 : Str) (r : Int) (left : Nat) (w0 w1 w2 : Str) (F Y0 Y1 Y2 : Ey) (h : Heap) (g : Gs) : Prop :=
  ∀ P : Prop, (∀ (W f y0 y1 y2 : Addr) (cw ce dn : Nat) (z0 : List VV) (n0 : Nat) (z1 : List VV) (n1 : Nat) (z2 : List VV) (n2 : Nat) (V : OV) (τ : List (List Tok)),
    St (topObj C.w.params) h₀ h fp (mkL [⟨L, true, vFrame [en C.w.params k_entries (.ref Es), en C.w.params k_rounds (.int r), en C.w.params k_found (.ref f), en C.w.params k_doubles (.ref D)] 4⟩, ⟨it, true, vRI 0 left⟩, ⟨cW, true, vCell (.ref W)⟩, ⟨cE, false, vCell (.ref En)⟩, ⟨cL, true, vCell0⟩, ⟨W, false, vList [.str w0, .str w1, .str w2] cw⟩, ⟨En, false, vList [.str e0, .str e1, .str e2] ce⟩, ⟨113, true, vTab []⟩, ⟨D, false, vList [.ref D0, .ref D1, .ref D2] dn⟩, ⟨D0, true, vList z0 n0⟩, ⟨D1, true, vList z1 n1⟩, ⟨D2, true, vList z2 n2⟩, tab89 V] τ) → CodeOk h → AllBare g → EyAt C.prog C.w h f F → EyAt C.prog C.w h y0 Y0 → EyAt C.prog C.w h y1 Y1 → EyAt C.prog C.w h y2 Y2 → LastAt h D0 0 y0 → LastAt h D1 0 y1 → LastAt h D2 0 y2 → P) → P
theorem St.ext {T T' : Nat → Option Obj} {h₀ h h3 : Heap} {fp : List Addr} {l l3 : List Ent} (S : St T h₀ h fp l) (S3 : St T' h h3 [] l3) : St T h₀ h3 fp l :=
  ⟨S.nd, fun p hp => S3.old _ _ (S.get p hp) (fun h => nomatch h), S.wr, fun b o e hb => S3.old _ _ (S.old b o e hb) (fun h => nomatch h), S.top, Nat.le_trans S.size S3.size, S.lim, S.two⟩
theorem St.nil {T : Nat → Option Obj} {h₀ h : Heap} {fp : List Addr} {l : List Ent} (S : St T h₀ h fp l) : St T h h [] [] :=
  ⟨List.nodup_nil, fun p hp => (nomatch hp), fun p hp => (nomatch hp), fun b o e _ => e, fun a o e => ⟨S.topGet e, fun h => (nomatch h)⟩, Nat.le_refl _, S.nolim, fun h => (nomatch h)⟩
theorem SmI.ext {C : Cx} {h₀ : Heap} {fp : List Addr} {L it cW cE cL En D D0 D1 D2 Es : Addr} {e0 e1 e2 : Str} {r : Int} {t left : Nat} {w0 w1 w2 : Str} {F Y0 Y1 Y2 : Ey} {h h3 : Heap} {g : Gs} {T' : Nat → Option Obj} {l3 : List Ent} (oF : F.Ok) (oY0 : Y0.Ok) (oY1 : Y1.Ok) (oY2 : Y2.Ok)
    (x : SmI C h₀ fp L it cW cE cL En D D0 D1 D2 Es e0 e1 e2 r t left w0 w1 w2 F Y0 Y1 Y2 h g) (S3 : St T' h h3 [] l3) : SmI C h₀ fp L it cW cE cL En D D0 D1 D2 Es e0 e1 e2 r t left w0 w1 w2 F Y0 Y1 Y2 h3 g := by
  have kp : Kp h h3 := fun b o _ e => S3.old b o e (fun h => nomatch h)
  have ka : ∀ b o, h.get? b = some o → h3.get? b = some o := fun b o e => S3.old b o e (fun h => nomatch h)
  refine x _ fun W x cd cl c1 c2 c3 c4 c5 z f y0 y1 y2 cw ce dn z0 n0 z1 n1 z2 n2 V sent old τ S hcd hg hf hy0 hy1 hy2 hd0 hd1 hd2 => ?_
  exact fun P q => q W x cd cl c1 c2 c3 c4 c5 z f y0 y1 y2 cw ce dn z0 n0 z1 n1 z2 n2 V sent old τ (S.ext S3) (hcd.at ka) hg (hf.kp oF kp) (hy0.kp oY0 kp) (hy1.kp oY1 kp) (hy2.kp oY2 kp) (hd0.at (ka _)) (hd1.at (ka _)) (hd2.at (ka _))
theorem turn_first {C : Cx} {A : Around} {R : Post Result} {h₀ h : Heap} {fp : List Addr} {g : Gs} {tk : Nat} (hroom : A.depth + 80 < recursionLimit) (hA : A.handled = none) {L it cW cE cL En D D0 D1 D2 Es : Addr} {w0 w1 w2 e0 e1 e2 : Str} {r : Int} {t n : Nat} {F F1 F2 F3 Y0 Y1 Y2 : Ey} {b0 b1 b2 : Bool} (ht : t ≤ 90)
    (l0 : w0.length ≤ 60) (l1 : w1.length ≤ 60) (l2 : w2.length ≤ 60) (m0 : e0.length ≤ 2) (m1 : e1.length ≤ 2) (m2 : e2.length ≤ 2)
    {u0 u1 u2 p0 p1 p2 ε0 ε1 ε2 : List Nat} (hw0 : w0.cps.toList = 46 :: u0) (hw1 : w1.cps.toList = 46 :: u1) (hw2 : w2.cps.toList = 46 :: u2) (he0 : e0.cps.toList = ε0) (he1 : e1.cps.toList = ε1) (he2 : e2.cps.toList = ε2)
    (hp0 : u0 ++ [32] = p0) (hp1 : u1 ++ [32] = p1) (hp2 : u2 ++ [32] = p2) (hr : ∀ p ∈ [(p0, ε0), (p1, ε1), (p2, ε2)], (∀ c ∈ p.1, ¬ Eol c) ∧ isEnd p.2)
    {enc0 enc1 enc2 dec0 dec1 dec2 sk0 sk1 sk2 : List Nat} {v0 v1 v2 : Nat} (ht0 : 46 :: (p0 ++ [13, 10]) = enc0 ++ (v0 + 1) :: sk0.map (· + 1)) (ht1 : 46 :: (p1 ++ [13, 10]) = enc1 ++ (v1 + 1) :: sk1.map (· + 1)) (ht2 : 46 :: (p2 ++ [13, 10]) = enc2 ++ (v2 + 1) :: sk2.map (· + 1))
    (hD0 : Dec enc0 dec0) (hD1 : Dec enc1 dec1) (hD2 : Dec enc2 dec2) (hv0 : v0 + 1 ∈ ws.cps.toList) (hv1 : v1 + 1 ∈ ws.cps.toList) (hv2 : v2 + 1 ∈ ws.cps.toList) (hv0' : v0 + 1 ≠ 10) (hv1' : v1 + 1 ≠ 10) (hv2' : v2 + 1 ≠ 10)
    (hs0 : ∀ c ∈ sk0, c + 1 ∈ ws.cps.toList) (hs1 : ∀ c ∈ sk1, c + 1 ∈ ws.cps.toList) (hs2 : ∀ c ∈ sk2, c + 1 ∈ ws.cps.toList) (hn0' : nls (sk0.map (· + 1)) = 1) (hn1' : nls (sk1.map (· + 1)) = 1) (hn2' : nls (sk2.map (· + 1)) = 1) (hb0 : (0 + (⟨#[32]⟩ : Str).length ≤ (wrd dec0).length && PySem.Builtin.Str.subAt (wrd dec0) ⟨#[32]⟩ ((wrd dec0).length - (⟨#[32]⟩ : Str).length)) = b0) (hcn0 : (PySem.Builtin.Str.occurrences (wrd dec0) ⟨#[46]⟩ 0 (wrd dec0).length ((wrd dec0).length + 1)).length = 0 + 2) (hx0 : (wrd dec0).length ≤ 100) (hb1 : (0 + (⟨#[32]⟩ : Str).length ≤ (wrd dec1).length && PySem.Builtin.Str.subAt (wrd dec1) ⟨#[32]⟩ ((wrd dec1).length - (⟨#[32]⟩ : Str).length)) = b1) (hcn1 : (PySem.Builtin.Str.occurrences (wrd dec1) ⟨#[46]⟩ 0 (wrd dec1).length ((wrd dec1).length + 1)).length = 0 + 2) (hx1 : (wrd dec1).length ≤ 100) (hb2 : (0 + (⟨#[32]⟩ : Str).length ≤ (wrd dec2).length && PySem.Builtin.Str.subAt (wrd dec2) ⟨#[32]⟩ ((wrd dec2).length - (⟨#[32]⟩ : Str).length)) = b2) (hcn2 : (PySem.Builtin.Str.occurrences (wrd dec2) ⟨#[46]⟩ 0 (wrd dec2).length ((wrd dec2).length + 1)).length = 0 + 2) (hx2 : (wrd dec2).length ≤ 100)
    (oF : F.Ok) (oY0 : Y0.Ok) (oYY0 : (Y0.add Y0).Ok) (oY1 : Y1.Ok) (oYY1 : (Y1.add Y1).Ok) (oY2 : Y2.Ok) (oYY2 : (Y2.add Y2).Ok) (e1' : cond b0 (F.add Y0) F = F1) (e2' : cond b1 (F1.add Y1) F1 = F2) (e3' : cond b2 (F2.add Y2) F2 = F3) (o1 : F1.Ok) (o2 : F2.Ok) (o3 : F3.Ok) (o1' : (F.add Y0).Ok) (o2' : (F1.add Y1).Ok) (o3' : (F2.add Y2).Ok)
    (I : SmI0 C h₀ fp L it cW cE cL En D D0 D1 D2 Es e0 e1 e2 r (n + 1) w0 w1 w2 F Y0 Y1 Y2 h g)
    (k : ∀ h' g' tk', SmI C h₀ fp L it cW cE cL En D D0 D1 D2 Es e0 e1 e2 r (0 + 1) n (cond b0 (cutL (wrd dec0)) (wrd dec0)) (cond b1 (cutL (wrd dec1)) (wrd dec1)) (cond b2 (cutL (wrd dec2)) (wrd dec2)) F3 (Y0.add Y0) (Y1.add Y1) (Y2.add Y2) h' g' → CodeP C A (smCode L it cW cE cL) R h' g' tk') :
    CodeP C A (smCode L it cW cE cL) R h g tk := by
  have hn : (((n + 1 : Nat) : Int) - 1) = n := by omega
  refine I _ fun W f y0 y1 y2 cw ce dn z0 n0 z1 n1 z2 n2 V τ S hcd hg hf hy0 hy1 hy2 hd0 hd1 hd2 => ?_
  refine S.lendG [0, 1, 2, 3, 4, 5, 6, 7] [true, true, true, false, true, false, false, true] (vl := [⟨L, true, vFrame [en C.w.params k_entries (.ref Es), en C.w.params k_rounds (.int r), en C.w.params k_found (.ref f), en C.w.params k_doubles (.ref D)] 4⟩, ⟨it, true, vRI 0 (n + 1 : Nat)⟩, ⟨cW, true, vCell (.ref W)⟩, ⟨cE, false, vCell (.ref En)⟩, ⟨cL, true, vCell0⟩, ⟨W, false, vList [.str w0, .str w1, .str w2] cw⟩, ⟨En, false, vList [.str e0, .str e1, .str e2] ce⟩, ⟨113, true, vTab []⟩]) (fp' := [L, it, cW, cL, 113]) (fun τ1 Sc Sb => b_first hroom hA l0 l1 l2 m0 m1 m2 Sc hw0 hw1 hw2 he0 he1 he2 hp0 hp1 hp2 hr ht0 ht1 ht2 hD0 hD1 hD2 hv0 hv1 hv2 hv0' hv1' hv2' hs0 hs1 hs2 hn0' hn1' hn2' (fun hq gq => SmI C h₀ fp L it cW cE cL En D D0 D1 D2 Es e0 e1 e2 r (0 + 1) n (cond b0 (cutL (wrd dec0)) (wrd dec0)) (cond b1 (cutL (wrd dec1)) (wrd dec1)) (cond b2 (cutL (wrd dec2)) (wrd dec2)) F3 (Y0.add Y0) (Y1.add Y1) (Y2.add Y2) hq gq) (fun A' R' h1 tk1 iti W' text x' cd cl c1 c2 c3 c4 c5 z τ2 hdp hh S1 hend => ?_) (fun hq gq h3 tk3 hQ S3 => k _ _ _ (hQ.ext o3 oYY0 oYY1 oYY2 S3))) (by kernel_rfl!)
  rw [hn] at S1
  have kp1 := Sc.kp S1 (by kernel_rfl!)
  have T1 := Sb [0, 1, 2, 4, 7] S1 (by kernel_rfl!)
  have hcd1 := hcd.old S1 (S.notin 12 [0, 1, 2, 4, 7] (by kernel_rfl!))
  have hd01 := hd0.at (fun o e => S1.old _ _ e (S.notin 9 [0, 1, 2, 4, 7] (by kernel_rfl!)))
  have hd11 := hd1.at (fun o e => S1.old _ _ e (S.notin 10 [0, 1, 2, 4, 7] (by kernel_rfl!)))
  have hd21 := hd2.at (fun o e => S1.old _ _ e (S.notin 11 [0, 1, 2, 4, 7] (by kernel_rfl!)))
  refine T1.lendG [3, 1, 5, 0, 11, 12, 13, 14, 15] [true, true, false, true, false, true, true, true, true] (vl := [⟨L, true, frT C.w.params Es f D r 0 text⟩, ⟨iti, true, vRI 0 3⟩, ⟨cW, false, vCell (.ref W')⟩, ⟨W', true, vList [.str (wrd dec0), .str (wrd dec1), .str (wrd dec2)] 3⟩, ⟨D, false, vList [.ref D0, .ref D1, .ref D2] dn⟩, ⟨D0, true, vList ((mkVs z0 (hdL (tlL (tlL (tlL (tlL (tlL (tlL (tlL (tlL (tlL τ))))))))))).map vv) n0⟩, ⟨D1, true, vList ((mkVs z1 (hdL (tlL (tlL (tlL (tlL (tlL (tlL (tlL (tlL (tlL (tlL τ)))))))))))).map vv) n1⟩, ⟨D2, true, vList ((mkVs z2 (hdL (tlL (tlL (tlL (tlL (tlL (tlL (tlL (tlL (tlL (tlL (tlL τ))))))))))))).map vv) n2⟩, tab89 (ov (mkO V (hdL (tlL (tlL (tlL (tlL (tlL (tlL (tlL (tlL (tlL (tlL (tlL (tlL τ)))))))))))))))]) (fp' := [L, iti, W', D0, D1, D2, 89]) (fun τ3 Sc3 Sb3 => inner_f (by rw [hdp]; omega) hh Sc3 hcd1 hg (hf.kp oF kp1) oF (Nat.zero_le _) (hy0.kp oY0 kp1) oY0 oYY0 hd01 (hy1.kp oY1 kp1) oY1 oYY1 hd11 (hy2.kp oY2 kp1) oY2 oYY2 hd21 e1' e2' e3' o1 o2 o3 o1' o2' o3' hb0 hcn0 hx0 hb1 hcn1 hx1 hb2 hcn2 hx2 (fun h2 g2 tk2 f2 ya yb yc V2 za na zb nb zc nc τ4 S4 hcd4 hg4 hf4 hya hyb hyc hda hdb hdc => ?_)) (by kernel_rfl!)
  have T2 := Sb3 [3, 1, 0, 12, 13, 14, 15] S4 (by kernel_rfl!)
  refine hend _ _ _ T2.nil ?_
  obtain ⟨τ5, S5⟩ := T2.part [3, 4, 5, 6, 7, 0, 9, 10, 2, 11, 12, 13, 14, 15] (vl := [⟨L, true, frS C.w.params Es f2 D r 0 text 2⟩, ⟨it, true, vRI ((0 + 1 : Nat) : Int) n⟩, ⟨cW, true, vCell (.ref W')⟩, ⟨cE, false, vCell (.ref En)⟩, ⟨cL, true, vCell (.ref x')⟩, ⟨W', true, vList [.str (cond b0 (cutL (wrd dec0)) (wrd dec0)), .str (cond b1 (cutL (wrd dec1)) (wrd dec1)), .str (cond b2 (cutL (wrd dec2)) (wrd dec2))] 3⟩, ⟨En, false, vList [.str e0, .str e1, .str e2] ce⟩, ⟨113, true, vTab (tb1 cd cl)⟩, ⟨cd, false, vCode (cvRead c1 c2 c3 c4 c5 z)⟩, ⟨D, false, vList [.ref D0, .ref D1, .ref D2] dn⟩, ⟨D0, true, vList ((mkVs za (hdL (tlL (tlL (tlL τ4))))).map vv) na⟩, ⟨D1, true, vList ((mkVs zb (hdL (tlL (tlL (tlL (tlL τ4)))))).map vv) nb⟩, ⟨D2, true, vList ((mkVs zc (hdL (tlL (tlL (tlL (tlL (tlL τ4))))))).map vv) nc⟩, tab89 (ov (mkO V2 (hdL (tlL (tlL (tlL (tlL (tlL (tlL τ4)))))))))]) (by kernel_rfl!)
  exact fun P q => q W' x' cd cl c1 c2 c3 c4 c5 z f2 ya yb yc 3 ce dn _ na _ nb _ nc _ text _ τ5 S5 hcd4 hg4 hf4 hya hyb hyc hda hdb hdc
theorem turn_later {C : Cx} {A : Around} {R : Post Result} {h₀ h : Heap} {fp : List Addr} {g : Gs} {tk : Nat} (hroom : A.depth + 80 < recursionLimit) (hA : A.handled = none) {L it cW cE cL En D D0 D1 D2 Es : Addr} {w0 w1 w2 e0 e1 e2 : Str} {r : Int} {t n : Nat} {F F1 F2 F3 Y0 Y1 Y2 : Ey} {b0 b1 b2 : Bool} (ht : t ≤ 90)
    (l0 : w0.length ≤ 60) (l1 : w1.length ≤ 60) (l2 : w2.length ≤ 60) (m0 : e0.length ≤ 2) (m1 : e1.length ≤ 2) (m2 : e2.length ≤ 2)
    {u0 u1 u2 p0 p1 p2 ε0 ε1 ε2 : List Nat} (hw0 : w0.cps.toList = 46 :: u0) (hw1 : w1.cps.toList = 46 :: u1) (hw2 : w2.cps.toList = 46 :: u2) (he0 : e0.cps.toList = ε0) (he1 : e1.cps.toList = ε1) (he2 : e2.cps.toList = ε2)
    (hp0 : u0 ++ [32] = p0) (hp1 : u1 ++ [32] = p1) (hp2 : u2 ++ [32] = p2) (hr : ∀ p ∈ [(p0, ε0), (p1, ε1), (p2, ε2)], (∀ c ∈ p.1, ¬ Eol c) ∧ isEnd p.2)
    {enc0 enc1 enc2 dec0 dec1 dec2 sk0 sk1 sk2 : List Nat} {v0 v1 v2 : Nat} (ht0 : 46 :: (p0 ++ [13, 10]) = enc0 ++ (v0 + 1) :: sk0.map (· + 1)) (ht1 : 46 :: (p1 ++ [13, 10]) = enc1 ++ (v1 + 1) :: sk1.map (· + 1)) (ht2 : 46 :: (p2 ++ [13, 10]) = enc2 ++ (v2 + 1) :: sk2.map (· + 1))
    (hD0 : Dec enc0 dec0) (hD1 : Dec enc1 dec1) (hD2 : Dec enc2 dec2) (hv0 : v0 + 1 ∈ ws.cps.toList) (hv1 : v1 + 1 ∈ ws.cps.toList) (hv2 : v2 + 1 ∈ ws.cps.toList) (hv0' : v0 + 1 ≠ 10) (hv1' : v1 + 1 ≠ 10) (hv2' : v2 + 1 ≠ 10)
    (hs0 : ∀ c ∈ sk0, c + 1 ∈ ws.cps.toList) (hs1 : ∀ c ∈ sk1, c + 1 ∈ ws.cps.toList) (hs2 : ∀ c ∈ sk2, c + 1 ∈ ws.cps.toList) (hn0' : nls (sk0.map (· + 1)) = 1) (hn1' : nls (sk1.map (· + 1)) = 1) (hn2' : nls (sk2.map (· + 1)) = 1) (hb0 : (0 + (⟨#[32]⟩ : Str).length ≤ (wrd dec0).length && PySem.Builtin.Str.subAt (wrd dec0) ⟨#[32]⟩ ((wrd dec0).length - (⟨#[32]⟩ : Str).length)) = b0) (hcn0 : (PySem.Builtin.Str.occurrences (wrd dec0) ⟨#[46]⟩ 0 (wrd dec0).length ((wrd dec0).length + 1)).length = t + 2) (hx0 : (wrd dec0).length ≤ 100) (hb1 : (0 + (⟨#[32]⟩ : Str).length ≤ (wrd dec1).length && PySem.Builtin.Str.subAt (wrd dec1) ⟨#[32]⟩ ((wrd dec1).length - (⟨#[32]⟩ : Str).length)) = b1) (hcn1 : (PySem.Builtin.Str.occurrences (wrd dec1) ⟨#[46]⟩ 0 (wrd dec1).length ((wrd dec1).length + 1)).length = t + 2) (hx1 : (wrd dec1).length ≤ 100) (hb2 : (0 + (⟨#[32]⟩ : Str).length ≤ (wrd dec2).length && PySem.Builtin.Str.subAt (wrd dec2) ⟨#[32]⟩ ((wrd dec2).length - (⟨#[32]⟩ : Str).length)) = b2) (hcn2 : (PySem.Builtin.Str.occurrences (wrd dec2) ⟨#[46]⟩ 0 (wrd dec2).length ((wrd dec2).length + 1)).length = t + 2) (hx2 : (wrd dec2).length ≤ 100)
    (oF : F.Ok) (oY0 : Y0.Ok) (oYY0 : (Y0.add Y0).Ok) (oY1 : Y1.Ok) (oYY1 : (Y1.add Y1).Ok) (oY2 : Y2.Ok) (oYY2 : (Y2.add Y2).Ok) (e1' : cond b0 (F.add Y0) F = F1) (e2' : cond b1 (F1.add Y1) F1 = F2) (e3' : cond b2 (F2.add Y2) F2 = F3) (o1 : F1.Ok) (o2 : F2.Ok) (o3 : F3.Ok) (o1' : (F.add Y0).Ok) (o2' : (F1.add Y1).Ok) (o3' : (F2.add Y2).Ok)
    (I : SmI C h₀ fp L it cW cE cL En D D0 D1 D2 Es e0 e1 e2 r t (n + 1) w0 w1 w2 F Y0 Y1 Y2 h g)
    (k : ∀ h' g' tk', SmI C h₀ fp L it cW cE cL En D D0 D1 D2 Es e0 e1 e2 r (t + 1) n (cond b0 (cutL (wrd dec0)) (wrd dec0)) (cond b1 (cutL (wrd dec1)) (wrd dec1)) (cond b2 (cutL (wrd dec2)) (wrd dec2)) F3 (Y0.add Y0) (Y1.add Y1) (Y2.add Y2) h' g' → CodeP C A (smCode L it cW cE cL) R h' g' tk') :
    CodeP C A (smCode L it cW cE cL) R h g tk := by
  have hn : (((n + 1 : Nat) : Int) - 1) = n := by omega
  refine I _ fun W x cd cl c1 c2 c3 c4 c5 z f y0 y1 y2 cw ce dn z0 n0 z1 n1 z2 n2 V sent old τ S hcd hg hf hy0 hy1 hy2 hd0 hd1 hd2 => ?_
  refine S.lendG [0, 1, 2, 3, 4, 5, 6, 7, 8] [true, true, true, false, true, false, false, true, false] (vl := [⟨L, true, frS C.w.params Es f D r old sent 2⟩, ⟨it, true, vRI t (n + 1 : Nat)⟩, ⟨cW, true, vCell (.ref W)⟩, ⟨cE, false, vCell (.ref En)⟩, ⟨cL, true, vCell (.ref x)⟩, ⟨W, false, vList [.str w0, .str w1, .str w2] cw⟩, ⟨En, false, vList [.str e0, .str e1, .str e2] ce⟩, ⟨113, true, vTab (tb1 cd cl)⟩, ⟨cd, false, vCode (cvRead c1 c2 c3 c4 c5 z)⟩]) (fp' := [L, it, cW, cL, 113]) (fun τ1 Sc Sb => b_later hroom hA l0 l1 l2 m0 m1 m2 Sc hw0 hw1 hw2 he0 he1 he2 hp0 hp1 hp2 hr ht0 ht1 ht2 hD0 hD1 hD2 hv0 hv1 hv2 hv0' hv1' hv2' hs0 hs1 hs2 hn0' hn1' hn2' (fun hq gq => SmI C h₀ fp L it cW cE cL En D D0 D1 D2 Es e0 e1 e2 r (t + 1) n (cond b0 (cutL (wrd dec0)) (wrd dec0)) (cond b1 (cutL (wrd dec1)) (wrd dec1)) (cond b2 (cutL (wrd dec2)) (wrd dec2)) F3 (Y0.add Y0) (Y1.add Y1) (Y2.add Y2) hq gq) (fun A' R' h1 tk1 iti W' text x' τ2 hdp hh S1 hend => ?_) (fun hq gq h3 tk3 hQ S3 => k _ _ _ (hQ.ext o3 oYY0 oYY1 oYY2 S3))) (by kernel_rfl!)
  rw [hn] at S1
  have kp1 := Sc.kp S1 (by kernel_rfl!)
  have T1 := Sb [0, 1, 2, 4, 7] S1 (by kernel_rfl!)
  have hcd1 := hcd.old S1 (S.notin 13 [0, 1, 2, 4, 7] (by kernel_rfl!))
  have hd01 := hd0.at (fun o e => S1.old _ _ e (S.notin 10 [0, 1, 2, 4, 7] (by kernel_rfl!)))
  have hd11 := hd1.at (fun o e => S1.old _ _ e (S.notin 11 [0, 1, 2, 4, 7] (by kernel_rfl!)))
  have hd21 := hd2.at (fun o e => S1.old _ _ e (S.notin 12 [0, 1, 2, 4, 7] (by kernel_rfl!)))
  refine T1.lendG [2, 1, 4, 0, 11, 12, 13, 14, 15] [true, true, false, true, false, true, true, true, true] (vl := [⟨L, true, frS C.w.params Es f D r (t : Int) text 2⟩, ⟨iti, true, vRI 0 3⟩, ⟨cW, false, vCell (.ref W')⟩, ⟨W', true, vList [.str (wrd dec0), .str (wrd dec1), .str (wrd dec2)] 3⟩, ⟨D, false, vList [.ref D0, .ref D1, .ref D2] dn⟩, ⟨D0, true, vList ((mkVs z0 (hdL (tlL (tlL (tlL (tlL (tlL (tlL (tlL (tlL (tlL (tlL τ)))))))))))).map vv) n0⟩, ⟨D1, true, vList ((mkVs z1 (hdL (tlL (tlL (tlL (tlL (tlL (tlL (tlL (tlL (tlL (tlL (tlL τ))))))))))))).map vv) n1⟩, ⟨D2, true, vList ((mkVs z2 (hdL (tlL (tlL (tlL (tlL (tlL (tlL (tlL (tlL (tlL (tlL (tlL (tlL τ)))))))))))))).map vv) n2⟩, tab89 (ov (mkO V (hdL (tlL (tlL (tlL (tlL (tlL (tlL (tlL (tlL (tlL (tlL (tlL (tlL (tlL τ))))))))))))))))]) (fp' := [L, iti, W', D0, D1, D2, 89]) (fun τ3 Sc3 Sb3 => inner_l (by rw [hdp]; omega) hh Sc3 hcd1 hg (hf.kp oF kp1) oF ht (hy0.kp oY0 kp1) oY0 oYY0 hd01 (hy1.kp oY1 kp1) oY1 oYY1 hd11 (hy2.kp oY2 kp1) oY2 oYY2 hd21 e1' e2' e3' o1 o2 o3 o1' o2' o3' hb0 hcn0 hx0 hb1 hcn1 hx1 hb2 hcn2 hx2 (fun h2 g2 tk2 f2 ya yb yc V2 za na zb nb zc nc τ4 S4 hcd4 hg4 hf4 hya hyb hyc hda hdb hdc => ?_)) (by kernel_rfl!)
  have T2 := Sb3 [2, 1, 0, 12, 13, 14, 15] S4 (by kernel_rfl!)
  refine hend _ _ _ T2.nil ?_
  obtain ⟨τ5, S5⟩ := T2.part [2, 3, 4, 5, 6, 0, 8, 9, 10, 11, 12, 13, 14, 15] (vl := [⟨L, true, frS C.w.params Es f2 D r (t : Int) text 2⟩, ⟨it, true, vRI ((t + 1 : Nat) : Int) n⟩, ⟨cW, true, vCell (.ref W')⟩, ⟨cE, false, vCell (.ref En)⟩, ⟨cL, true, vCell (.ref x')⟩, ⟨W', true, vList [.str (cond b0 (cutL (wrd dec0)) (wrd dec0)), .str (cond b1 (cutL (wrd dec1)) (wrd dec1)), .str (cond b2 (cutL (wrd dec2)) (wrd dec2))] 3⟩, ⟨En, false, vList [.str e0, .str e1, .str e2] ce⟩, ⟨113, true, vTab (tb1 cd cl)⟩, ⟨cd, false, vCode (cvRead c1 c2 c3 c4 c5 z)⟩, ⟨D, false, vList [.ref D0, .ref D1, .ref D2] dn⟩, ⟨D0, true, vList ((mkVs za (hdL (tlL (tlL (tlL τ4))))).map vv) na⟩, ⟨D1, true, vList ((mkVs zb (hdL (tlL (tlL (tlL (tlL τ4)))))).map vv) nb⟩, ⟨D2, true, vList ((mkVs zc (hdL (tlL (tlL (tlL (tlL (tlL τ4))))))).map vv) nc⟩, tab89 (ov (mkO V2 (hdL (tlL (tlL (tlL (tlL (tlL (tlL τ4)))))))))]) (by kernel_rfl!)
  exact fun P q => q W' x' cd cl c1 c2 c3 c4 c5 z f2 ya yb yc 3 ce dn _ na _ nb _ nc _ text _ τ5 S5 hcd4 hg4 hf4 hya hyb hyc hda hdb hdc
end Mine
end
/-! ## Ss -/
section
open PySem PySem.W PyProof.Rows
set_option Elab.async false
set_option linter.unusedVariables false
set_option maxRecDepth 100000
set_option maxHeartbeats 2000000
namespace Mine
theorem sm_1 {C : Cx} {A : Around} {R : Post Result} {h : Heap} {g : Gs} {tk : Nat} (hroom : A.depth + 90 < recursionLimit) (hA : A.handled = none) {W En Es q0 q1 q2 : Addr} {w0 w1 w2 e0 e1 e2 x0 x1 x2 : Str} {V : OV} {tr : Nat} {cw ce cs : Nat} {τ : List (List Tok)} {F' Y0 Y1 Y2 Z0 Z1 Z2 : Ey} (oY0 : Y0.Ok) (oY1 : Y1.Ok) (oY2 : Y2.Ok) (oF' : F'.Ok) (oZ0 : Z0.Ok) (oZ1 : Z1.Ok) (oZ2 : Z2.Ok)
    (S : St (topObj C.w.params) h h [113, 89] (mkL [⟨W, false, vList [.str w0, .str w1, .str w2] cw⟩, ⟨En, false, vList [.str e0, .str e1, .str e2] ce⟩, ⟨Es, false, vList [.ref q0, .ref q1, .ref q2] cs⟩, ⟨113, true, vTab []⟩, tab89 V] τ))
    (hcd : CodeOk h) (hg : AllBare g) (hy0 : EyAt C.prog C.w h q0 Y0) (hy1 : EyAt C.prog C.w h q1 Y1) (hy2 : EyAt C.prog C.w h q2 Y2)
    (kl : ∀ A' R' h' g' tk' L it cW cE cL D D0 D1 D2, A'.depth = A.depth + 1 → A'.handled = none → SmI0 C h [113, 89] L it cW cE cL En D D0 D1 D2 Es e0 e1 e2 1 1 w0 w1 w2 ⟨0, 0, 0, 0, []⟩ Y0 Y1 Y2 h' g' →
      (∀ h'' g'' tk'', SmI C h [113, 89] L it cW cE cL En D D0 D1 D2 Es e0 e1 e2 1 1 0 x0 x1 x2 F' Z0 Z1 Z2 h'' g'' → R' (.ok .next) h'' g'' tk'') → CodeP C A' (smCode L it cW cE cL) R' h' g' tk')
    (k : ∀ h' g' tk' res W' f' Rl y0 y1 y2 V' tb c n τ', St (topObj C.w.params) h h' [113, 89] (mkL [⟨113, true, vTab tb⟩, tab89 V', ⟨res, true, vTup [.ref W', .ref f', .ref Rl]⟩, ⟨W', true, vList [.str x0, .str x1, .str x2] c⟩, ⟨Rl, true, vList [.ref y0, .ref y1, .ref y2] n⟩] τ') → CodeOk h' → AllBare g' → EyAt C.prog C.w h' f' F' → EyAt C.prog C.w h' y0 Z0 → EyAt C.prog C.w h' y1 Z1 → EyAt C.prog C.w h' y2 Z2 → R (.ok (.ret (.ref res))) h' g' tk') :
    CodeP C A (.call (.ref 123) ⟨[.ref W, .ref En, .ref Es, .int 1 tr], []⟩) R h g tk := by
  obtain ⟨hd, dp, fr, gs, un⟩ := A
  cases hA
  refine call_fn S (by omega) (S.topGet rfl) rfl rfl rfl rfl rfl (S.topGet rfl) rfl rfl rfl ?_
  refine go_codeX (F := 210) (H := 7338726127863832091858414169608340145441874599782083714539009348819708940870695355204420543030693663492436711712700777909289665329926110299525008238231903276915322182974437709353542783538201856265048791431296719164925829665846255595546194556678790188035) (smCode (h.objs.size + 0) (h.objs.size + 15) (h.objs.size + 1) (h.objs.size + 2) (h.objs.size + 3)) 1 S (by kernel_rfl!) fun _ _ h1 tk1 hdp1 hh1 XS1 => ?_
  have h89 : 89 < h.objs.size := hcd.lt89
  have kp1 := S.kp89 hcd XS1.S 4 (by kernel_rfl!)
  have hcd1 : CodeOk h1 := hcd.run _ S XS1.S 4 20 (by kernel_rfl!)
  obtain ⟨τe, Se⟩ := XS1.S.part [10, 11] (vl := [⟨h.objs.size + 5, true, eyO ⟨0, 0, 0, 0, []⟩ (h.objs.size + 4)⟩, ⟨h.objs.size + 4, true, vDict [] 0⟩]) (by kernel_rfl!)
  have hf1 : EyAt C.prog C.w h1 (h.objs.size + 5) ⟨0, 0, 0, 0, []⟩ := by
    refine ⟨h.objs.size + 4, _, Se.at (i := 0) rfl, fun e => ?_, [], ⟨_, #[], 0, Se.at (i := 1) rfl, ⟨rfl, rfl, rfl⟩, rfl, (fun _ h => by simp at h), .nil, List.nodup_nil⟩, trivial⟩
    have e' : h.objs.size + 4 = 1 := e
    exact absurd h89 (by omega)
  have hd0 : LastAt h1 (h.objs.size + 9) 0 q0 := ⟨#[.ref q0], 0, XS1.S.at (i := 6) (e := ⟨h.objs.size + 9, true, oList #[.ref q0] 0⟩) (by kernel_rfl!), rfl, rfl⟩
  have hd1 : LastAt h1 (h.objs.size + 10) 0 q1 := ⟨#[.ref q1], 0, XS1.S.at (i := 5) (e := ⟨h.objs.size + 10, true, oList #[.ref q1] 0⟩) (by kernel_rfl!), rfl, rfl⟩
  have hd2 : LastAt h1 (h.objs.size + 11) 0 q2 := ⟨#[.ref q2], 0, XS1.S.at (i := 4) (e := ⟨h.objs.size + 11, true, oList #[.ref q2] 0⟩) (by kernel_rfl!), rfl, rfl⟩
  obtain ⟨τm, Sm⟩ := XS1.S.part [15, 0, 14, 13, 12, 16, 17, 19, 8, 6, 5, 4, 20] (vl := [⟨h.objs.size + 0, true, vFrame [en C.w.params k_entries (.ref Es), en C.w.params k_rounds (.int 1), en C.w.params k_found (.ref (h.objs.size + 5)), en C.w.params k_doubles (.ref (h.objs.size + 7))] 4⟩, ⟨h.objs.size + 15, true, vRI 0 (1 : Nat)⟩, ⟨h.objs.size + 1, true, vCell (.ref W)⟩, ⟨h.objs.size + 2, false, vCell (.ref En)⟩, ⟨h.objs.size + 3, true, vCell0⟩, ⟨W, false, vList [.str w0, .str w1, .str w2] cw⟩, ⟨En, false, vList [.str e0, .str e1, .str e2] ce⟩, ⟨113, true, vTab []⟩, ⟨h.objs.size + 7, false, vList [.ref (h.objs.size + 9), .ref (h.objs.size + 10), .ref (h.objs.size + 11)] 3⟩, ⟨h.objs.size + 9, true, vList [.ref q0] 0⟩, ⟨h.objs.size + 10, true, vList [.ref q1] 0⟩, ⟨h.objs.size + 11, true, vList [.ref q2] 0⟩, tab89 (ov (mkO V (hdL (tlL (tlL (tlL (tlL τ)))))))]) (by kernel_rfl!)
  refine kl _ _ _ _ _ _ _ _ _ _ _ _ _ _ hdp1 hh1 (fun P q => q W (h.objs.size + 5) q0 q1 q2 cw ce 3 [.ref q0] 0 [.ref q1] 0 [.ref q2] 0 _ τm Sm hcd1 hg hf1 (hy0.kp oY0 kp1) (hy1.kp oY1 kp1) (hy2.kp oY2 kp1) hd0 hd1 hd2) (fun h2 g2 tk2 I2 => ?_)
  refine I2 _ fun W2 x cd cl c1 c2 c3 c4 c5 z f y0 y1 y2 cw2 ce2 dn z0 n0 z1 n1 z2 n2 V2 sent old τ2 S2 hcd2 hg2 hf2 hya hyb hyc hda hdb hdc => ?_
  have S2r := S2.rebase
  refine XS1.rt _ _ _ _ ?_
  refine go_item (F := 54) (H := 23059582926429019920141970825969631128759876148318666257492608003) (D := (h.objs.size + 9)) (y := y0) (t := 1) (-1) 10 13 S2r hda (by omega) (.inl rfl) (by kernel_rfl!) fun h3 tk3 S3 _ => ?_
  have hd01 := hdb.at (S2r.same S3 11 14 (by kernel_rfl!))
  have hd02 := hdc.at (S2r.same S3 12 15 (by kernel_rfl!))
  refine go_item (F := 40) (H := 22470609103586334040399889807235945795957419474421762) (D := (h.objs.size + 10)) (y := y1) (t := 1) (-1) 14 14 S3 hd01 (by omega) (.inl rfl) (by kernel_rfl!) fun h4 tk4 S4 _ => ?_
  have hd12 := hd02.at (S3.same S4 15 15 (by kernel_rfl!))
  refine go_item (F := 40) (H := 23968649710491998812426711765402087732640409307842562) (D := (h.objs.size + 11)) (y := y2) (t := 1) (-1) 15 15 S4 hd12 (by omega) (.inl rfl) (by kernel_rfl!) fun h5 tk5 S5 _ => ?_
  refine go_ret (F := 31) (H := 4185477102113411351321216726307714461861890) (.ref (h5.objs.size + 2)) S5 (by kernel_rfl!) fun h6 tk6 w hw S6 => ?_
  obtain rfl := vv_ref hw
  have kp6 := S2.kp89 hcd2 S6 13 (by kernel_rfl!)
  have hcd6 : CodeOk h6 := hcd2.run _ S2r S6 13 19 (by kernel_rfl!)
  have S7 := S2.unbase S6
  exact S7.give [13, 19, 0, 11, 4] (vl := [⟨113, true, vTab (tb1 cd cl)⟩, tab89 (ov (mkO V2 (hdL (tlL (tlL (tlL (tlL (tlL (tlL (tlL (tlL (tlL (tlL (tlL (tlL (tlL τ2)))))))))))))))), ⟨h5.objs.size + 2, true, vTup [.ref W2, .ref f, .ref (h2.objs.size + 1)]⟩, ⟨W2, true, vList [.str x0, .str x1, .str x2] cw2⟩, ⟨(h2.objs.size + 1), true, vList [.ref y0, .ref y1, .ref y2] 3⟩]) (fun τf Sf => k _ _ _ _ W2 f (h2.objs.size + 1) y0 y1 y2 _ _ _ _ τf Sf hcd6 hg2 (hf2.kp oF' kp6) (hya.kp oZ0 kp6) (hyb.kp oZ1 kp6) (hyc.kp oZ2 kp6)) (by kernel_rfl!)
theorem sm_2 {C : Cx} {A : Around} {R : Post Result} {h : Heap} {g : Gs} {tk : Nat} (hroom : A.depth + 90 < recursionLimit) (hA : A.handled = none) {W En Es q0 q1 q2 : Addr} {w0 w1 w2 e0 e1 e2 x0 x1 x2 : Str} {V : OV} {tr : Nat} {cw ce cs : Nat} {τ : List (List Tok)} {F' Y0 Y1 Y2 Z0 Z1 Z2 : Ey} (oY0 : Y0.Ok) (oY1 : Y1.Ok) (oY2 : Y2.Ok) (oF' : F'.Ok) (oZ0 : Z0.Ok) (oZ1 : Z1.Ok) (oZ2 : Z2.Ok)
    (S : St (topObj C.w.params) h h [113, 89] (mkL [⟨W, false, vList [.str w0, .str w1, .str w2] cw⟩, ⟨En, false, vList [.str e0, .str e1, .str e2] ce⟩, ⟨Es, false, vList [.ref q0, .ref q1, .ref q2] cs⟩, ⟨113, true, vTab []⟩, tab89 V] τ))
    (hcd : CodeOk h) (hg : AllBare g) (hy0 : EyAt C.prog C.w h q0 Y0) (hy1 : EyAt C.prog C.w h q1 Y1) (hy2 : EyAt C.prog C.w h q2 Y2)
    (kl : ∀ A' R' h' g' tk' L it cW cE cL D D0 D1 D2, A'.depth = A.depth + 1 → A'.handled = none → SmI0 C h [113, 89] L it cW cE cL En D D0 D1 D2 Es e0 e1 e2 2 2 w0 w1 w2 ⟨0, 0, 0, 0, []⟩ Y0 Y1 Y2 h' g' →
      (∀ h'' g'' tk'', SmI C h [113, 89] L it cW cE cL En D D0 D1 D2 Es e0 e1 e2 2 2 0 x0 x1 x2 F' Z0 Z1 Z2 h'' g'' → R' (.ok .next) h'' g'' tk'') → CodeP C A' (smCode L it cW cE cL) R' h' g' tk')
    (k : ∀ h' g' tk' res W' f' Rl y0 y1 y2 V' tb c n τ', St (topObj C.w.params) h h' [113, 89] (mkL [⟨113, true, vTab tb⟩, tab89 V', ⟨res, true, vTup [.ref W', .ref f', .ref Rl]⟩, ⟨W', true, vList [.str x0, .str x1, .str x2] c⟩, ⟨Rl, true, vList [.ref y0, .ref y1, .ref y2] n⟩] τ') → CodeOk h' → AllBare g' → EyAt C.prog C.w h' f' F' → EyAt C.prog C.w h' y0 Z0 → EyAt C.prog C.w h' y1 Z1 → EyAt C.prog C.w h' y2 Z2 → R (.ok (.ret (.ref res))) h' g' tk') :
    CodeP C A (.call (.ref 123) ⟨[.ref W, .ref En, .ref Es, .int 2 tr], []⟩) R h g tk := by
  obtain ⟨hd, dp, fr, gs, un⟩ := A
  cases hA
  refine call_fn S (by omega) (S.topGet rfl) rfl rfl rfl rfl rfl (S.topGet rfl) rfl rfl rfl ?_
  refine go_codeX (F := 210) (H := 7338726127863832091858414169608340145441874599782083714539009348819708940870695355204420543030693663492436711712700777909289665329926110299525008238231903276915322182974437709353542783538201856265048791431296719164925829665846255595546194556678790188035) (smCode (h.objs.size + 0) (h.objs.size + 15) (h.objs.size + 1) (h.objs.size + 2) (h.objs.size + 3)) 1 S (by kernel_rfl!) fun _ _ h1 tk1 hdp1 hh1 XS1 => ?_
  have h89 : 89 < h.objs.size := hcd.lt89
  have kp1 := S.kp89 hcd XS1.S 4 (by kernel_rfl!)
  have hcd1 : CodeOk h1 := hcd.run _ S XS1.S 4 20 (by kernel_rfl!)
  obtain ⟨τe, Se⟩ := XS1.S.part [10, 11] (vl := [⟨h.objs.size + 5, true, eyO ⟨0, 0, 0, 0, []⟩ (h.objs.size + 4)⟩, ⟨h.objs.size + 4, true, vDict [] 0⟩]) (by kernel_rfl!)
  have hf1 : EyAt C.prog C.w h1 (h.objs.size + 5) ⟨0, 0, 0, 0, []⟩ := by
    refine ⟨h.objs.size + 4, _, Se.at (i := 0) rfl, fun e => ?_, [], ⟨_, #[], 0, Se.at (i := 1) rfl, ⟨rfl, rfl, rfl⟩, rfl, (fun _ h => by simp at h), .nil, List.nodup_nil⟩, trivial⟩
    have e' : h.objs.size + 4 = 1 := e
    exact absurd h89 (by omega)
  have hd0 : LastAt h1 (h.objs.size + 9) 0 q0 := ⟨#[.ref q0], 0, XS1.S.at (i := 6) (e := ⟨h.objs.size + 9, true, oList #[.ref q0] 0⟩) (by kernel_rfl!), rfl, rfl⟩
  have hd1 : LastAt h1 (h.objs.size + 10) 0 q1 := ⟨#[.ref q1], 0, XS1.S.at (i := 5) (e := ⟨h.objs.size + 10, true, oList #[.ref q1] 0⟩) (by kernel_rfl!), rfl, rfl⟩
  have hd2 : LastAt h1 (h.objs.size + 11) 0 q2 := ⟨#[.ref q2], 0, XS1.S.at (i := 4) (e := ⟨h.objs.size + 11, true, oList #[.ref q2] 0⟩) (by kernel_rfl!), rfl, rfl⟩
  obtain ⟨τm, Sm⟩ := XS1.S.part [15, 0, 14, 13, 12, 16, 17, 19, 8, 6, 5, 4, 20] (vl := [⟨h.objs.size + 0, true, vFrame [en C.w.params k_entries (.ref Es), en C.w.params k_rounds (.int 2), en C.w.params k_found (.ref (h.objs.size + 5)), en C.w.params k_doubles (.ref (h.objs.size + 7))] 4⟩, ⟨h.objs.size + 15, true, vRI 0 (2 : Nat)⟩, ⟨h.objs.size + 1, true, vCell (.ref W)⟩, ⟨h.objs.size + 2, false, vCell (.ref En)⟩, ⟨h.objs.size + 3, true, vCell0⟩, ⟨W, false, vList [.str w0, .str w1, .str w2] cw⟩, ⟨En, false, vList [.str e0, .str e1, .str e2] ce⟩, ⟨113, true, vTab []⟩, ⟨h.objs.size + 7, false, vList [.ref (h.objs.size + 9), .ref (h.objs.size + 10), .ref (h.objs.size + 11)] 3⟩, ⟨h.objs.size + 9, true, vList [.ref q0] 0⟩, ⟨h.objs.size + 10, true, vList [.ref q1] 0⟩, ⟨h.objs.size + 11, true, vList [.ref q2] 0⟩, tab89 (ov (mkO V (hdL (tlL (tlL (tlL (tlL τ)))))))]) (by kernel_rfl!)
  refine kl _ _ _ _ _ _ _ _ _ _ _ _ _ _ hdp1 hh1 (fun P q => q W (h.objs.size + 5) q0 q1 q2 cw ce 3 [.ref q0] 0 [.ref q1] 0 [.ref q2] 0 _ τm Sm hcd1 hg hf1 (hy0.kp oY0 kp1) (hy1.kp oY1 kp1) (hy2.kp oY2 kp1) hd0 hd1 hd2) (fun h2 g2 tk2 I2 => ?_)
  refine I2 _ fun W2 x cd cl c1 c2 c3 c4 c5 z f y0 y1 y2 cw2 ce2 dn z0 n0 z1 n1 z2 n2 V2 sent old τ2 S2 hcd2 hg2 hf2 hya hyb hyc hda hdb hdc => ?_
  have S2r := S2.rebase
  refine XS1.rt _ _ _ _ ?_
  refine go_item (F := 54) (H := 23059582926429019920141970825969631128759876148318666257492608003) (D := (h.objs.size + 9)) (y := y0) (t := 2) (-1) 10 13 S2r hda (by omega) (.inl rfl) (by kernel_rfl!) fun h3 tk3 S3 _ => ?_
  have hd01 := hdb.at (S2r.same S3 11 14 (by kernel_rfl!))
  have hd02 := hdc.at (S2r.same S3 12 15 (by kernel_rfl!))
  refine go_item (F := 40) (H := 22470609103586334040399889807235945795957419474421762) (D := (h.objs.size + 10)) (y := y1) (t := 2) (-1) 14 14 S3 hd01 (by omega) (.inl rfl) (by kernel_rfl!) fun h4 tk4 S4 _ => ?_
  have hd12 := hd02.at (S3.same S4 15 15 (by kernel_rfl!))
  refine go_item (F := 40) (H := 23968649710491998812426711765402087732640409307842562) (D := (h.objs.size + 11)) (y := y2) (t := 2) (-1) 15 15 S4 hd12 (by omega) (.inl rfl) (by kernel_rfl!) fun h5 tk5 S5 _ => ?_
  refine go_ret (F := 31) (H := 4185477102113411351321216726307714461861890) (.ref (h5.objs.size + 2)) S5 (by kernel_rfl!) fun h6 tk6 w hw S6 => ?_
  obtain rfl := vv_ref hw
  have kp6 := S2.kp89 hcd2 S6 13 (by kernel_rfl!)
  have hcd6 : CodeOk h6 := hcd2.run _ S2r S6 13 19 (by kernel_rfl!)
  have S7 := S2.unbase S6
  exact S7.give [13, 19, 0, 11, 4] (vl := [⟨113, true, vTab (tb1 cd cl)⟩, tab89 (ov (mkO V2 (hdL (tlL (tlL (tlL (tlL (tlL (tlL (tlL (tlL (tlL (tlL (tlL (tlL (tlL τ2)))))))))))))))), ⟨h5.objs.size + 2, true, vTup [.ref W2, .ref f, .ref (h2.objs.size + 1)]⟩, ⟨W2, true, vList [.str x0, .str x1, .str x2] cw2⟩, ⟨(h2.objs.size + 1), true, vList [.ref y0, .ref y1, .ref y2] 3⟩]) (fun τf Sf => k _ _ _ _ W2 f (h2.objs.size + 1) y0 y1 y2 _ _ _ _ τf Sf hcd6 hg2 (hf2.kp oF' kp6) (hya.kp oZ0 kp6) (hyb.kp oZ1 kp6) (hyc.kp oZ2 kp6)) (by kernel_rfl!)
theorem sm_3 {C : Cx} {A : Around} {R : Post Result} {h : Heap} {g : Gs} {tk : Nat} (hroom : A.depth + 90 < recursionLimit) (hA : A.handled = none) {W En Es q0 q1 q2 : Addr} {w0 w1 w2 e0 e1 e2 x0 x1 x2 : Str} {V : OV} {tr : Nat} {cw ce cs : Nat} {τ : List (List Tok)} {F' Y0 Y1 Y2 Z0 Z1 Z2 : Ey} (oY0 : Y0.Ok) (oY1 : Y1.Ok) (oY2 : Y2.Ok) (oF' : F'.Ok) (oZ0 : Z0.Ok) (oZ1 : Z1.Ok) (oZ2 : Z2.Ok)
    (S : St (topObj C.w.params) h h [113, 89] (mkL [⟨W, false, vList [.str w0, .str w1, .str w2] cw⟩, ⟨En, false, vList [.str e0, .str e1, .str e2] ce⟩, ⟨Es, false, vList [.ref q0, .ref q1, .ref q2] cs⟩, ⟨113, true, vTab []⟩, tab89 V] τ))
    (hcd : CodeOk h) (hg : AllBare g) (hy0 : EyAt C.prog C.w h q0 Y0) (hy1 : EyAt C.prog C.w h q1 Y1) (hy2 : EyAt C.prog C.w h q2 Y2)
    (kl : ∀ A' R' h' g' tk' L it cW cE cL D D0 D1 D2, A'.depth = A.depth + 1 → A'.handled = none → SmI0 C h [113, 89] L it cW cE cL En D D0 D1 D2 Es e0 e1 e2 3 3 w0 w1 w2 ⟨0, 0, 0, 0, []⟩ Y0 Y1 Y2 h' g' →
      (∀ h'' g'' tk'', SmI C h [113, 89] L it cW cE cL En D D0 D1 D2 Es e0 e1 e2 3 3 0 x0 x1 x2 F' Z0 Z1 Z2 h'' g'' → R' (.ok .next) h'' g'' tk'') → CodeP C A' (smCode L it cW cE cL) R' h' g' tk')
    (k : ∀ h' g' tk' res W' f' Rl y0 y1 y2 V' tb c n τ', St (topObj C.w.params) h h' [113, 89] (mkL [⟨113, true, vTab tb⟩, tab89 V', ⟨res, true, vTup [.ref W', .ref f', .ref Rl]⟩, ⟨W', true, vList [.str x0, .str x1, .str x2] c⟩, ⟨Rl, true, vList [.ref y0, .ref y1, .ref y2] n⟩] τ') → CodeOk h' → AllBare g' → EyAt C.prog C.w h' f' F' → EyAt C.prog C.w h' y0 Z0 → EyAt C.prog C.w h' y1 Z1 → EyAt C.prog C.w h' y2 Z2 → R (.ok (.ret (.ref res))) h' g' tk') :
    CodeP C A (.call (.ref 123) ⟨[.ref W, .ref En, .ref Es, .int 3 tr], []⟩) R h g tk := by
  obtain ⟨hd, dp, fr, gs, un⟩ := A
  cases hA
  refine call_fn S (by omega) (S.topGet rfl) rfl rfl rfl rfl rfl (S.topGet rfl) rfl rfl rfl ?_
  refine go_codeX (F := 210) (H := 7338726127863832091858414169608340145441874599782083714539009348819708940870695355204420543030693663492436711712700777909289665329926110299525008238231903276915322182974437709353542783538201856265048791431296719164925829665846255595546194556678790188035) (smCode (h.objs.size + 0) (h.objs.size + 15) (h.objs.size + 1) (h.objs.size + 2) (h.objs.size + 3)) 1 S (by kernel_rfl!) fun _ _ h1 tk1 hdp1 hh1 XS1 => ?_
  have h89 : 89 < h.objs.size := hcd.lt89
  have kp1 := S.kp89 hcd XS1.S 4 (by kernel_rfl!)
  have hcd1 : CodeOk h1 := hcd.run _ S XS1.S 4 20 (by kernel_rfl!)
  obtain ⟨τe, Se⟩ := XS1.S.part [10, 11] (vl := [⟨h.objs.size + 5, true, eyO ⟨0, 0, 0, 0, []⟩ (h.objs.size + 4)⟩, ⟨h.objs.size + 4, true, vDict [] 0⟩]) (by kernel_rfl!)
  have hf1 : EyAt C.prog C.w h1 (h.objs.size + 5) ⟨0, 0, 0, 0, []⟩ := by
    refine ⟨h.objs.size + 4, _, Se.at (i := 0) rfl, fun e => ?_, [], ⟨_, #[], 0, Se.at (i := 1) rfl, ⟨rfl, rfl, rfl⟩, rfl, (fun _ h => by simp at h), .nil, List.nodup_nil⟩, trivial⟩
    have e' : h.objs.size + 4 = 1 := e
    exact absurd h89 (by omega)
  have hd0 : LastAt h1 (h.objs.size + 9) 0 q0 := ⟨#[.ref q0], 0, XS1.S.at (i := 6) (e := ⟨h.objs.size + 9, true, oList #[.ref q0] 0⟩) (by kernel_rfl!), rfl, rfl⟩
  have hd1 : LastAt h1 (h.objs.size + 10) 0 q1 := ⟨#[.ref q1], 0, XS1.S.at (i := 5) (e := ⟨h.objs.size + 10, true, oList #[.ref q1] 0⟩) (by kernel_rfl!), rfl, rfl⟩
  have hd2 : LastAt h1 (h.objs.size + 11) 0 q2 := ⟨#[.ref q2], 0, XS1.S.at (i := 4) (e := ⟨h.objs.size + 11, true, oList #[.ref q2] 0⟩) (by kernel_rfl!), rfl, rfl⟩
  obtain ⟨τm, Sm⟩ := XS1.S.part [15, 0, 14, 13, 12, 16, 17, 19, 8, 6, 5, 4, 20] (vl := [⟨h.objs.size + 0, true, vFrame [en C.w.params k_entries (.ref Es), en C.w.params k_rounds (.int 3), en C.w.params k_found (.ref (h.objs.size + 5)), en C.w.params k_doubles (.ref (h.objs.size + 7))] 4⟩, ⟨h.objs.size + 15, true, vRI 0 (3 : Nat)⟩, ⟨h.objs.size + 1, true, vCell (.ref W)⟩, ⟨h.objs.size + 2, false, vCell (.ref En)⟩, ⟨h.objs.size + 3, true, vCell0⟩, ⟨W, false, vList [.str w0, .str w1, .str w2] cw⟩, ⟨En, false, vList [.str e0, .str e1, .str e2] ce⟩, ⟨113, true, vTab []⟩, ⟨h.objs.size + 7, false, vList [.ref (h.objs.size + 9), .ref (h.objs.size + 10), .ref (h.objs.size + 11)] 3⟩, ⟨h.objs.size + 9, true, vList [.ref q0] 0⟩, ⟨h.objs.size + 10, true, vList [.ref q1] 0⟩, ⟨h.objs.size + 11, true, vList [.ref q2] 0⟩, tab89 (ov (mkO V (hdL (tlL (tlL (tlL (tlL τ)))))))]) (by kernel_rfl!)
  refine kl _ _ _ _ _ _ _ _ _ _ _ _ _ _ hdp1 hh1 (fun P q => q W (h.objs.size + 5) q0 q1 q2 cw ce 3 [.ref q0] 0 [.ref q1] 0 [.ref q2] 0 _ τm Sm hcd1 hg hf1 (hy0.kp oY0 kp1) (hy1.kp oY1 kp1) (hy2.kp oY2 kp1) hd0 hd1 hd2) (fun h2 g2 tk2 I2 => ?_)
  refine I2 _ fun W2 x cd cl c1 c2 c3 c4 c5 z f y0 y1 y2 cw2 ce2 dn z0 n0 z1 n1 z2 n2 V2 sent old τ2 S2 hcd2 hg2 hf2 hya hyb hyc hda hdb hdc => ?_
  have S2r := S2.rebase
  refine XS1.rt _ _ _ _ ?_
  refine go_item (F := 54) (H := 23059582926429019920141970825969631128759876148318666257492608003) (D := (h.objs.size + 9)) (y := y0) (t := 3) (-1) 10 13 S2r hda (by omega) (.inl rfl) (by kernel_rfl!) fun h3 tk3 S3 _ => ?_
  have hd01 := hdb.at (S2r.same S3 11 14 (by kernel_rfl!))
  have hd02 := hdc.at (S2r.same S3 12 15 (by kernel_rfl!))
  refine go_item (F := 40) (H := 22470609103586334040399889807235945795957419474421762) (D := (h.objs.size + 10)) (y := y1) (t := 3) (-1) 14 14 S3 hd01 (by omega) (.inl rfl) (by kernel_rfl!) fun h4 tk4 S4 _ => ?_
  have hd12 := hd02.at (S3.same S4 15 15 (by kernel_rfl!))
  refine go_item (F := 40) (H := 23968649710491998812426711765402087732640409307842562) (D := (h.objs.size + 11)) (y := y2) (t := 3) (-1) 15 15 S4 hd12 (by omega) (.inl rfl) (by kernel_rfl!) fun h5 tk5 S5 _ => ?_
  refine go_ret (F := 31) (H := 4185477102113411351321216726307714461861890) (.ref (h5.objs.size + 2)) S5 (by kernel_rfl!) fun h6 tk6 w hw S6 => ?_
  obtain rfl := vv_ref hw
  have kp6 := S2.kp89 hcd2 S6 13 (by kernel_rfl!)
  have hcd6 : CodeOk h6 := hcd2.run _ S2r S6 13 19 (by kernel_rfl!)
  have S7 := S2.unbase S6
  exact S7.give [13, 19, 0, 11, 4] (vl := [⟨113, true, vTab (tb1 cd cl)⟩, tab89 (ov (mkO V2 (hdL (tlL (tlL (tlL (tlL (tlL (tlL (tlL (tlL (tlL (tlL (tlL (tlL (tlL τ2)))))))))))))))), ⟨h5.objs.size + 2, true, vTup [.ref W2, .ref f, .ref (h2.objs.size + 1)]⟩, ⟨W2, true, vList [.str x0, .str x1, .str x2] cw2⟩, ⟨(h2.objs.size + 1), true, vList [.ref y0, .ref y1, .ref y2] 3⟩]) (fun τf Sf => k _ _ _ _ W2 f (h2.objs.size + 1) y0 y1 y2 _ _ _ _ τf Sf hcd6 hg2 (hf2.kp oF' kp6) (hya.kp oZ0 kp6) (hyb.kp oZ1 kp6) (hyc.kp oZ2 kp6)) (by kernel_rfl!)
theorem sm_4 {C : Cx} {A : Around} {R : Post Result} {h : Heap} {g : Gs} {tk : Nat} (hroom : A.depth + 90 < recursionLimit) (hA : A.handled = none) {W En Es q0 q1 q2 : Addr} {w0 w1 w2 e0 e1 e2 x0 x1 x2 : Str} {V : OV} {tr : Nat} {cw ce cs : Nat} {τ : List (List Tok)} {F' Y0 Y1 Y2 Z0 Z1 Z2 : Ey} (oY0 : Y0.Ok) (oY1 : Y1.Ok) (oY2 : Y2.Ok) (oF' : F'.Ok) (oZ0 : Z0.Ok) (oZ1 : Z1.Ok) (oZ2 : Z2.Ok)
    (S : St (topObj C.w.params) h h [113, 89] (mkL [⟨W, false, vList [.str w0, .str w1, .str w2] cw⟩, ⟨En, false, vList [.str e0, .str e1, .str e2] ce⟩, ⟨Es, false, vList [.ref q0, .ref q1, .ref q2] cs⟩, ⟨113, true, vTab []⟩, tab89 V] τ))
    (hcd : CodeOk h) (hg : AllBare g) (hy0 : EyAt C.prog C.w h q0 Y0) (hy1 : EyAt C.prog C.w h q1 Y1) (hy2 : EyAt C.prog C.w h q2 Y2)
    (kl : ∀ A' R' h' g' tk' L it cW cE cL D D0 D1 D2, A'.depth = A.depth + 1 → A'.handled = none → SmI0 C h [113, 89] L it cW cE cL En D D0 D1 D2 Es e0 e1 e2 4 4 w0 w1 w2 ⟨0, 0, 0, 0, []⟩ Y0 Y1 Y2 h' g' →
      (∀ h'' g'' tk'', SmI C h [113, 89] L it cW cE cL En D D0 D1 D2 Es e0 e1 e2 4 4 0 x0 x1 x2 F' Z0 Z1 Z2 h'' g'' → R' (.ok .next) h'' g'' tk'') → CodeP C A' (smCode L it cW cE cL) R' h' g' tk')
    (k : ∀ h' g' tk' res W' f' Rl y0 y1 y2 V' tb c n τ', St (topObj C.w.params) h h' [113, 89] (mkL [⟨113, true, vTab tb⟩, tab89 V', ⟨res, true, vTup [.ref W', .ref f', .ref Rl]⟩, ⟨W', true, vList [.str x0, .str x1, .str x2] c⟩, ⟨Rl, true, vList [.ref y0, .ref y1, .ref y2] n⟩] τ') → CodeOk h' → AllBare g' → EyAt C.prog C.w h' f' F' → EyAt C.prog C.w h' y0 Z0 → EyAt C.prog C.w h' y1 Z1 → EyAt C.prog C.w h' y2 Z2 → R (.ok (.ret (.ref res))) h' g' tk') :
    CodeP C A (.call (.ref 123) ⟨[.ref W, .ref En, .ref Es, .int 4 tr], []⟩) R h g tk := by
  obtain ⟨hd, dp, fr, gs, un⟩ := A
  cases hA
  refine call_fn S (by omega) (S.topGet rfl) rfl rfl rfl rfl rfl (S.topGet rfl) rfl rfl rfl ?_
  refine go_codeX (F := 210) (H := 7338726127863832091858414169608340145441874599782083714539009348819708940870695355204420543030693663492436711712700777909289665329926110299525008238231903276915322182974437709353542783538201856265048791431296719164925829665846255595546194556678790188035) (smCode (h.objs.size + 0) (h.objs.size + 15) (h.objs.size + 1) (h.objs.size + 2) (h.objs.size + 3)) 1 S (by kernel_rfl!) fun _ _ h1 tk1 hdp1 hh1 XS1 => ?_
  have h89 : 89 < h.objs.size := hcd.lt89
  have kp1 := S.kp89 hcd XS1.S 4 (by kernel_rfl!)
  have hcd1 : CodeOk h1 := hcd.run _ S XS1.S 4 20 (by kernel_rfl!)
  obtain ⟨τe, Se⟩ := XS1.S.part [10, 11] (vl := [⟨h.objs.size + 5, true, eyO ⟨0, 0, 0, 0, []⟩ (h.objs.size + 4)⟩, ⟨h.objs.size + 4, true, vDict [] 0⟩]) (by kernel_rfl!)
  have hf1 : EyAt C.prog C.w h1 (h.objs.size + 5) ⟨0, 0, 0, 0, []⟩ := by
    refine ⟨h.objs.size + 4, _, Se.at (i := 0) rfl, fun e => ?_, [], ⟨_, #[], 0, Se.at (i := 1) rfl, ⟨rfl, rfl, rfl⟩, rfl, (fun _ h => by simp at h), .nil, List.nodup_nil⟩, trivial⟩
    have e' : h.objs.size + 4 = 1 := e
    exact absurd h89 (by omega)
  have hd0 : LastAt h1 (h.objs.size + 9) 0 q0 := ⟨#[.ref q0], 0, XS1.S.at (i := 6) (e := ⟨h.objs.size + 9, true, oList #[.ref q0] 0⟩) (by kernel_rfl!), rfl, rfl⟩
  have hd1 : LastAt h1 (h.objs.size + 10) 0 q1 := ⟨#[.ref q1], 0, XS1.S.at (i := 5) (e := ⟨h.objs.size + 10, true, oList #[.ref q1] 0⟩) (by kernel_rfl!), rfl, rfl⟩
  have hd2 : LastAt h1 (h.objs.size + 11) 0 q2 := ⟨#[.ref q2], 0, XS1.S.at (i := 4) (e := ⟨h.objs.size + 11, true, oList #[.ref q2] 0⟩) (by kernel_rfl!), rfl, rfl⟩
  obtain ⟨τm, Sm⟩ := XS1.S.part [15, 0, 14, 13, 12, 16, 17, 19, 8, 6, 5, 4, 20] (vl := [⟨h.objs.size + 0, true, vFrame [en C.w.params k_entries (.ref Es), en C.w.params k_rounds (.int 4), en C.w.params k_found (.ref (h.objs.size + 5)), en C.w.params k_doubles (.ref (h.objs.size + 7))] 4⟩, ⟨h.objs.size + 15, true, vRI 0 (4 : Nat)⟩, ⟨h.objs.size + 1, true, vCell (.ref W)⟩, ⟨h.objs.size + 2, false, vCell (.ref En)⟩, ⟨h.objs.size + 3, true, vCell0⟩, ⟨W, false, vList [.str w0, .str w1, .str w2] cw⟩, ⟨En, false, vList [.str e0, .str e1, .str e2] ce⟩, ⟨113, true, vTab []⟩, ⟨h.objs.size + 7, false, vList [.ref (h.objs.size + 9), .ref (h.objs.size + 10), .ref (h.objs.size + 11)] 3⟩, ⟨h.objs.size + 9, true, vList [.ref q0] 0⟩, ⟨h.objs.size + 10, true, vList [.ref q1] 0⟩, ⟨h.objs.size + 11, true, vList [.ref q2] 0⟩, tab89 (ov (mkO V (hdL (tlL (tlL (tlL (tlL τ)))))))]) (by kernel_rfl!)
  refine kl _ _ _ _ _ _ _ _ _ _ _ _ _ _ hdp1 hh1 (fun P q => q W (h.objs.size + 5) q0 q1 q2 cw ce 3 [.ref q0] 0 [.ref q1] 0 [.ref q2] 0 _ τm Sm hcd1 hg hf1 (hy0.kp oY0 kp1) (hy1.kp oY1 kp1) (hy2.kp oY2 kp1) hd0 hd1 hd2) (fun h2 g2 tk2 I2 => ?_)
  refine I2 _ fun W2 x cd cl c1 c2 c3 c4 c5 z f y0 y1 y2 cw2 ce2 dn z0 n0 z1 n1 z2 n2 V2 sent old τ2 S2 hcd2 hg2 hf2 hya hyb hyc hda hdb hdc => ?_
  have S2r := S2.rebase
  refine XS1.rt _ _ _ _ ?_
  refine go_item (F := 54) (H := 23059582926429019920141970825969631128759876148318666257492608003) (D := (h.objs.size + 9)) (y := y0) (t := 4) (-1) 10 13 S2r hda (by omega) (.inl rfl) (by kernel_rfl!) fun h3 tk3 S3 _ => ?_
  have hd01 := hdb.at (S2r.same S3 11 14 (by kernel_rfl!))
  have hd02 := hdc.at (S2r.same S3 12 15 (by kernel_rfl!))
  refine go_item (F := 40) (H := 22470609103586334040399889807235945795957419474421762) (D := (h.objs.size + 10)) (y := y1) (t := 4) (-1) 14 14 S3 hd01 (by omega) (.inl rfl) (by kernel_rfl!) fun h4 tk4 S4 _ => ?_
  have hd12 := hd02.at (S3.same S4 15 15 (by kernel_rfl!))
  refine go_item (F := 40) (H := 23968649710491998812426711765402087732640409307842562) (D := (h.objs.size + 11)) (y := y2) (t := 4) (-1) 15 15 S4 hd12 (by omega) (.inl rfl) (by kernel_rfl!) fun h5 tk5 S5 _ => ?_
  refine go_ret (F := 31) (H := 4185477102113411351321216726307714461861890) (.ref (h5.objs.size + 2)) S5 (by kernel_rfl!) fun h6 tk6 w hw S6 => ?_
  obtain rfl := vv_ref hw
  have kp6 := S2.kp89 hcd2 S6 13 (by kernel_rfl!)
  have hcd6 : CodeOk h6 := hcd2.run _ S2r S6 13 19 (by kernel_rfl!)
  have S7 := S2.unbase S6
  exact S7.give [13, 19, 0, 11, 4] (vl := [⟨113, true, vTab (tb1 cd cl)⟩, tab89 (ov (mkO V2 (hdL (tlL (tlL (tlL (tlL (tlL (tlL (tlL (tlL (tlL (tlL (tlL (tlL (tlL τ2)))))))))))))))), ⟨h5.objs.size + 2, true, vTup [.ref W2, .ref f, .ref (h2.objs.size + 1)]⟩, ⟨W2, true, vList [.str x0, .str x1, .str x2] cw2⟩, ⟨(h2.objs.size + 1), true, vList [.ref y0, .ref y1, .ref y2] 3⟩]) (fun τf Sf => k _ _ _ _ W2 f (h2.objs.size + 1) y0 y1 y2 _ _ _ _ τf Sf hcd6 hg2 (hf2.kp oF' kp6) (hya.kp oZ0 kp6) (hyb.kp oZ1 kp6) (hyc.kp oZ2 kp6)) (by kernel_rfl!)
end Mine
end
/-! ## Pu -/
section
open PySem PySem.W PyProof.Rows
set_option Elab.async false
set_option linter.unusedVariables false
set_option maxRecDepth 100000
set_option maxHeartbeats 400000
namespace Mine
/-! ## The plain law: words -/
noncomputable def wl (t l m : Nat) : List Nat := List.replicate t 46 ++ l :: List.replicate m 92
/-- a word at the start of turn t -/
noncomputable def wstr (t l m : Nat) : Str := ⟨(46 :: wl t l m).toArray⟩
noncomputable def encOf (t l m : Nat) : List Nat := 46 :: wl t l m ++ (if m % 2 = 1 then [32] else [])
noncomputable def decOf (t l m : Nat) : List Nat := 46 :: wl t l (m / 2) ++ (if m % 2 = 1 then [32] else [])
noncomputable def vOf (m : Nat) : Nat := if m % 2 = 1 then 12 else 31
noncomputable def skOf (m : Nat) : List Nat := if m % 2 = 1 then [9] else [12, 9]
noncomputable def Letter (l : Nat) : Prop := l = 35 ∨ l = 34 ∨ l = 97
theorem dec_back (e d : List Nat) : ∀ j, Dec e d → Dec (List.replicate (2 * j) 92 ++ e) (List.replicate j 92 ++ d)
  | 0, h => h
  | j + 1, h => by
    have := dec_back e d j h
    rw [show 2 * (j + 1) = 2 * j + 1 + 1 by omega, List.replicate_succ, List.replicate_succ, List.replicate_succ]
    exact Dec.esc (c := 91) (by decide) this
theorem dec_dots (e d : List Nat) : ∀ j, Dec e d → Dec (List.replicate j 46 ++ e) (List.replicate j 46 ++ d)
  | 0, h => h
  | j + 1, h => by
    rw [List.replicate_succ]
    exact Dec.plain (c := 45) (by decide) (by decide) (dec_dots e d j h)
theorem dec_of {t l m : Nat} (hl : Letter l) : Dec (encOf t l m) (decOf t l m) := by
  have tail : Dec (List.replicate m 92 ++ (if m % 2 = 1 then [32] else [])) (List.replicate (m / 2) 92 ++ (if m % 2 = 1 then [32] else [])) := by
    by_cases h : m % 2 = 1
    · rw [if_pos h]
      have e : m = 2 * (m / 2) + 1 := by omega
      have : List.replicate m 92 ++ [32] = List.replicate (2 * (m / 2)) 92 ++ [92, 32] := by
        conv => lhs; rw [e]
        rw [← List.replicate_append_replicate]
        simp
      rw [this]
      exact dec_back _ _ _ (Dec.esc (c := 31) (by decide) Dec.nil)
    · rw [if_neg h]
      have e : m = 2 * (m / 2) := by omega
      conv => arg 1; rw [e]
      exact dec_back _ _ _ Dec.nil
  have h2 : Dec (l :: (List.replicate m 92 ++ (if m % 2 = 1 then [32] else []))) (l :: (List.replicate (m / 2) 92 ++ (if m % 2 = 1 then [32] else []))) := by
    rcases hl with rfl | rfl | rfl
    · exact Dec.plain (c := 34) (by decide) (by decide) tail
    · exact Dec.plain (c := 33) (by decide) (by decide) tail
    · exact Dec.plain (c := 96) (by decide) (by decide) tail
  have h3 := dec_dots _ _ (t + 1) h2
  have e1 : encOf t l m = List.replicate (t + 1) 46 ++ (l :: (List.replicate m 92 ++ (if m % 2 = 1 then [32] else []))) := by
    simp [encOf, wl, List.replicate_succ]
  have e2 : decOf t l m = List.replicate (t + 1) 46 ++ (l :: (List.replicate (m / 2) 92 ++ (if m % 2 = 1 then [32] else []))) := by
    simp [decOf, wl, List.replicate_succ]
  rw [e1, e2]
  exact h3
theorem row_of (t l m : Nat) : 46 :: ((wl t l m ++ [32]) ++ [13, 10]) = encOf t l m ++ (vOf m + 1) :: (skOf m).map (· + 1) := by
  unfold encOf vOf skOf
  by_cases h : m % 2 = 1
  · simp [h]
  · simp [h]
theorem v_ws (m : Nat) : vOf m + 1 ∈ ws.cps.toList := by
  unfold vOf; split <;> decide
theorem v_ne (m : Nat) : vOf m + 1 ≠ 10 := by
  unfold vOf; split <;> decide
theorem sk_ws (m : Nat) : ∀ c ∈ skOf m, c + 1 ∈ ws.cps.toList := by
  unfold skOf; split <;> decide
theorem sk_nl (m : Nat) : nls ((skOf m).map (· + 1)) = 1 := by
  unfold skOf; split <;> rfl
noncomputable def oddB (m : Nat) : Bool := decide (m % 2 = 1)
/-- what a word is read as, the blank dropped -/
theorem cut_of (t l m : Nat) : (cond (oddB m) (cutL (wrd (decOf t l m))) (wrd (decOf t l m))) = wstr (t + 1) l (m / 2) := by
  unfold oddB decOf wrd wstr cutL
  by_cases h : m % 2 = 1
  · simp only [h, decide_true, cond_true, if_true]
    congr 1
    have : ∀ a : List Nat, (46 :: 46 :: (a ++ [32])).dropLast = 46 :: 46 :: a := fun a => by
      have e : 46 :: 46 :: (a ++ [32]) = (46 :: 46 :: a) ++ [32] := rfl
      rw [e, List.dropLast_concat]
    show (46 :: 46 :: (wl t l (m / 2) ++ [32])).dropLast.toArray = (46 :: wl (t + 1) l (m / 2)).toArray
    congr 1
    rw [this]
    simp [wl, List.replicate_succ]
  · simp only [h, decide_false, cond_false, if_false]
    congr 1
    simp [wl, List.replicate_succ]
noncomputable def okWord (t l m : Nat) : Bool :=
  (decide (0 + (⟨#[32]⟩ : Str).length ≤ (wrd (decOf t l m)).length) && PySem.Builtin.Str.subAt (wrd (decOf t l m)) ⟨#[32]⟩ ((wrd (decOf t l m)).length - (⟨#[32]⟩ : Str).length)) == oddB m &&
  decide ((PySem.Builtin.Str.occurrences (wrd (decOf t l m)) ⟨#[46]⟩ 0 (wrd (decOf t l m)).length ((wrd (decOf t l m)).length + 1)).length = t + 2) && decide ((wrd (decOf t l m)).length ≤ 100) && decide ((wstr t l m).length ≤ 60)
theorem okWords : (List.range 4).all (fun t => [35, 34, 97].all fun l => (List.range 16).all fun m => okWord t l m) = true := by decide +kernel
theorem ok_word {t l m : Nat} (ht : t < 4) (hl : Letter l) (hm : m < 16) : okWord t l m = true := by
  have h := okWords
  simp only [List.all_eq_true] at h
  exact h t (List.mem_range.mpr ht) l (by rcases hl with rfl | rfl | rfl <;> simp) m (List.mem_range.mpr hm)
end Mine
end
/-! ## Lo -/
section
open PySem PySem.W PyProof.Rows
set_option Elab.async false
set_option linter.unusedVariables false
set_option maxRecDepth 100000
set_option maxHeartbeats 400000
namespace Mine
/-! ## Callers of four keys -/
noncomputable def keys4 : List Str := [kAll, ⟨#[35]⟩, ⟨#[34]⟩, ⟨#[97]⟩]
structure Good (M : CM) : Prop where
  sub : ∀ c ∈ M, c.1 ∈ keys4
  kind : KindOk M
  nd : (M.map (·.1)).Nodup
theorem nd_len {α : Type} [DecidableEq α] : ∀ {l s : List α}, l.Nodup → (∀ x ∈ l, x ∈ s) → l.length ≤ s.length
  | [], _, _, _ => Nat.zero_le _
  | a :: l, s, nd, h => by
    rw [List.nodup_cons] at nd
    have ha := h a (.head _)
    have := nd_len (s := s.erase a) nd.2 (fun x hx => (List.mem_erase_of_ne (fun e => nd.1 (by rw [← e]; exact hx))).mpr (h x (.tail _ hx)))
    rw [List.length_erase_of_mem ha] at this
    have hp : 0 < s.length := List.length_pos_of_mem ha
    rw [List.length_cons]
    omega
theorem Good.ok {E : Ey} (x : Good E.M) : E.Ok := by
  refine ⟨x.kind, fun c hc e => ?_, ?_⟩
  · have := x.sub c hc
    rw [e] at this
    exact absurd this (by decide)
  · have := nd_len (s := keys4) x.nd (fun k hk => by
      obtain ⟨c, hc, rfl⟩ := List.mem_map.mp hk
      exact x.sub c hc)
    rw [List.length_map] at this
    exact Nat.le_trans this (by decide)
theorem Good.put {M : CM} {k : Str} {c : CV} (x : Good M) (hk : k ∈ keys4) (hc : numC c = decide (k = kAll)) : Good (putM M k c) := by
  refine ⟨fun p hp => ?_, x.kind.put hc, ?_⟩
  · unfold putM at hp
    split at hp
    · obtain ⟨q, hq, rfl⟩ := List.mem_map.mp hp
      by_cases e : q.1 = k
      · rw [if_pos e]; exact x.sub q hq
      · rw [if_neg e]; exact x.sub q hq
    · rcases List.mem_append.mp hp with hp | hp
      · exact x.sub p hp
      · rw [List.mem_singleton.mp hp]; exact hk
  · unfold putM
    split
    · have : (M.map fun c' => if c'.1 = k then (c'.1, c) else c').map (·.1) = M.map (·.1) := by
        rw [List.map_map]
        refine List.map_congr_left fun q _ => ?_
        show (if q.1 = k then (q.1, c) else q).1 = q.1
        split <;> rfl
      rw [this]; exact x.nd
    · rename_i h
      rw [List.map_append, List.nodup_append]
      refine ⟨x.nd, by simp, fun a ha b hb e => h ?_⟩
      obtain rfl : b = k := by simpa using hb
      obtain ⟨q, hq, e'⟩ := List.mem_map.mp ha
      exact List.any_eq_true.mpr ⟨q, hq, by simpa using e'.trans e⟩
theorem Good.fold : ∀ (l : CM) {M : CM}, Good M → (∀ c ∈ l, c.1 ∈ keys4 ∧ numC c.2 = decide (c.1 = kAll)) → Good (l.foldl stepC M)
  | [], _, x, _ => x
  | c :: l, M, x, y => by
    refine Good.fold l ?_ fun c hc => y c (.tail _ hc)
    obtain ⟨y1, y2⟩ := y c (.head _)
    unfold stepC
    split
    · exact x.put y1 y2
    · exact x.put y1 (by rw [numC_plus]; exact y2)
theorem Good.add {T S : Ey} (x : Good T.M) (y : Good S.M) : Good (T.add S).M :=
  Good.fold _ x fun c hc => ⟨y.sub c hc, y.kind c hc⟩
/-! ## The rounds -/
noncomputable def dblN : Nat → Ey → Ey
  | 0, E => E
  | n + 1, E => dblN n (E.add E)
noncomputable def halfN : Nat → Nat → Nat
  | 0, m => m
  | n + 1, m => halfN n (m / 2)
noncomputable def st1 (m : Nat) (F Y : Ey) : Ey := cond (oddB m) (F.add Y) F
noncomputable def stF (m0 m1 m2 : Nat) (F Y0 Y1 Y2 : Ey) : Ey := st1 m2 (st1 m1 (st1 m0 F Y0) Y1) Y2
noncomputable def runF : Nat → Nat → Nat → Nat → Ey → Ey → Ey → Ey → Ey
  | 0, _, _, _, F, _, _, _ => F
  | n + 1, m0, m1, m2, F, Y0, Y1, Y2 => runF n (m0 / 2) (m1 / 2) (m2 / 2) (stF m0 m1 m2 F Y0 Y1 Y2) (Y0.add Y0) (Y1.add Y1) (Y2.add Y2)
theorem Good.st1 {m : Nat} {F Y : Ey} (x : Good F.M) (y : Good Y.M) : Good (Mine.st1 m F Y).M := by
  unfold Mine.st1
  cases oddB m
  · exact x
  · exact x.add y
theorem eol_of {t l m : Nat} (hl : Letter l) : ∀ c ∈ wl t l m ++ [32], ¬ Eol c := by
  intro c hc e
  simp only [wl, List.mem_append, List.mem_replicate, List.mem_cons, List.not_mem_nil, or_false] at hc
  rcases e with e | e <;> rcases hl with q | q | q <;> omega
section
variable {C : Cx} {A : Around} {R : Post Result} {h₀ : Heap} {fp : List Addr} {L it cW cE cL En D D0 D1 D2 Es : Addr} {e0 e1 e2 : Str} {r : Int} {ε0 ε1 ε2 : List Nat} {a0 a1 a2 : Nat}
structure Ends (e0 e1 e2 : Str) (ε0 ε1 ε2 : List Nat) : Prop where
  m0 : e0.length ≤ 2
  m1 : e1.length ≤ 2
  m2 : e2.length ≤ 2
  h0 : e0.cps.toList = ε0
  h1 : e1.cps.toList = ε1
  h2 : e2.cps.toList = ε2
  i0 : isEnd ε0
  i1 : isEnd ε1
  i2 : isEnd ε2
theorem ok_parts {t l m : Nat} (ht : t < 4) (hl : Letter l) (hm : m < 16) :
    (0 + (⟨#[32]⟩ : Str).length ≤ (wrd (decOf t l m)).length && PySem.Builtin.Str.subAt (wrd (decOf t l m)) ⟨#[32]⟩ ((wrd (decOf t l m)).length - (⟨#[32]⟩ : Str).length)) = oddB m ∧
    (PySem.Builtin.Str.occurrences (wrd (decOf t l m)) ⟨#[46]⟩ 0 (wrd (decOf t l m)).length ((wrd (decOf t l m)).length + 1)).length = t + 2 ∧ (wrd (decOf t l m)).length ≤ 100 ∧ (wstr t l m).length ≤ 60 := by
  have h := ok_word ht hl hm
  unfold okWord at h
  simp only [Bool.and_eq_true, decide_eq_true_eq, beq_iff_eq] at h
  exact ⟨by rw [← h.1.1.1], h.1.1.2, h.1.2, h.2⟩
theorem loop_later (hroom : A.depth + 80 < recursionLimit) (hA : A.handled = none) (E : Ends e0 e1 e2 ε0 ε1 ε2) (l0 : Letter a0) (l1 : Letter a1) (l2 : Letter a2) :
    ∀ (n : Nat) {t m0 m1 m2 : Nat} {F Y0 Y1 Y2 : Ey} {h : Heap} {g : Gs} {tk : Nat}, t + n ≤ 4 → m0 < 16 → m1 < 16 → m2 < 16 → Good F.M → Good Y0.M → Good Y1.M → Good Y2.M →
    SmI C h₀ fp L it cW cE cL En D D0 D1 D2 Es e0 e1 e2 r t n (wstr t a0 m0) (wstr t a1 m1) (wstr t a2 m2) F Y0 Y1 Y2 h g →
    (∀ h' g' tk', SmI C h₀ fp L it cW cE cL En D D0 D1 D2 Es e0 e1 e2 r (t + n) 0 (wstr (t + n) a0 (halfN n m0)) (wstr (t + n) a1 (halfN n m1)) (wstr (t + n) a2 (halfN n m2)) (runF n m0 m1 m2 F Y0 Y1 Y2) (dblN n Y0) (dblN n Y1) (dblN n Y2) h' g' → R (.ok .next) h' g' tk') →
    CodeP C A (smCode L it cW cE cL) R h g tk := by
  intro n
  induction n with
  | zero =>
    intro t m0 m1 m2 F Y0 Y1 Y2 h g tk ht b0 b1 b2 gF g0 g1 g2 I k
    refine I _ fun W x cd cl c1 c2 c3 c4 c5 z f y0 y1 y2 cw ce dn z0 n0 z1 n1 z2 n2 V sent old τ S hcd hg hf hy0 hy1 hy2 hd0 hd1 hd2 => ?_
    refine S.lendG [1] [true] (vl := [⟨it, true, vRI t 0⟩]) (fp' := [it]) (fun τ1 Sc Sb => s_end hA Sc (fun h4 tk4 τ4 S4 => ?_)) (by kernel_rfl!)
    have kp := Sc.kp S4 (by kernel_rfl!)
    have T := Sb [1] S4 (by kernel_rfl!)
    have hcd4 := hcd.old S4 (S.notin 13 [1] (by kernel_rfl!))
    obtain ⟨τ5, S5⟩ := T.part [0, 1, 2, 3, 4, 5, 6, 7, 8, 9, 10, 11, 12, 13] (vl := [⟨L, true, frS C.w.params Es f D r old sent 2⟩, ⟨it, true, vRI t (0 : Nat)⟩, ⟨cW, true, vCell (.ref W)⟩, ⟨cE, false, vCell (.ref En)⟩, ⟨cL, true, vCell (.ref x)⟩, ⟨W, true, vList [.str (wstr t a0 m0), .str (wstr t a1 m1), .str (wstr t a2 m2)] cw⟩, ⟨En, false, vList [.str e0, .str e1, .str e2] ce⟩, ⟨113, true, vTab (tb1 cd cl)⟩, ⟨cd, false, vCode (cvRead c1 c2 c3 c4 c5 z)⟩, ⟨D, false, vList [.ref D0, .ref D1, .ref D2] dn⟩, ⟨D0, true, vList ((mkVs z0 (hdL (tlL (tlL (tlL (tlL (tlL (tlL (tlL (tlL (tlL (tlL τ)))))))))))).map vv) n0⟩, ⟨D1, true, vList ((mkVs z1 (hdL (tlL (tlL (tlL (tlL (tlL (tlL (tlL (tlL (tlL (tlL (tlL τ))))))))))))).map vv) n1⟩, ⟨D2, true, vList ((mkVs z2 (hdL (tlL (tlL (tlL (tlL (tlL (tlL (tlL (tlL (tlL (tlL (tlL (tlL τ)))))))))))))).map vv) n2⟩, tab89 (ov (mkO V (hdL (tlL (tlL (tlL (tlL (tlL (tlL (tlL (tlL (tlL (tlL (tlL (tlL (tlL τ))))))))))))))))]) (by kernel_rfl!)
    exact k h4 g tk4 (fun P q => q W x cd cl c1 c2 c3 c4 c5 z f y0 y1 y2 cw ce dn _ n0 _ n1 _ n2 _ sent old τ5 S5 hcd4 hg (hf.kp gF.ok kp) (hy0.kp g0.ok kp) (hy1.kp g1.ok kp) (hy2.kp g2.ok kp) (hd0.at (fun o e => S4.old _ _ e (S.notin 10 [1] (by kernel_rfl!)))) (hd1.at (fun o e => S4.old _ _ e (S.notin 11 [1] (by kernel_rfl!)))) (hd2.at (fun o e => S4.old _ _ e (S.notin 12 [1] (by kernel_rfl!)))))
  | succ n ih =>
    intro t m0 m1 m2 F Y0 Y1 Y2 h g tk ht b0 b1 b2 gF g0 g1 g2 I k
    obtain ⟨p0, q0, r0, s0⟩ := ok_parts (t := t) (by omega) l0 b0
    obtain ⟨p1, q1, r1, s1⟩ := ok_parts (t := t) (by omega) l1 b1
    obtain ⟨p2, q2, r2, s2⟩ := ok_parts (t := t) (by omega) l2 b2
    have hr : ∀ p ∈ [(wl t a0 m0 ++ [32], ε0), (wl t a1 m1 ++ [32], ε1), (wl t a2 m2 ++ [32], ε2)], (∀ c ∈ p.1, ¬ Eol c) ∧ isEnd p.2 := by
      intro p hp
      rcases List.mem_cons.mp hp with rfl | hp
      · exact ⟨eol_of l0, E.i0⟩
      rcases List.mem_cons.mp hp with rfl | hp
      · exact ⟨eol_of l1, E.i1⟩
      rcases List.mem_cons.mp hp with rfl | hp
      · exact ⟨eol_of l2, E.i2⟩
      · cases hp
    have f1 := gF.st1 (m := m0) g0
    have f2 := f1.st1 (m := m1) g1
    have f3 := f2.st1 (m := m2) g2
    refine turn_later hroom hA (n := n) (t := t) (by omega) s0 s1 s2 E.m0 E.m1 E.m2 (u0 := wl t a0 m0) (u1 := wl t a1 m1) (u2 := wl t a2 m2) rfl rfl rfl E.h0 E.h1 E.h2 rfl rfl rfl hr (row_of t a0 m0) (row_of t a1 m1) (row_of t a2 m2) (dec_of l0) (dec_of l1) (dec_of l2) (v_ws _) (v_ws _) (v_ws _) (v_ne _) (v_ne _) (v_ne _) (sk_ws _) (sk_ws _) (sk_ws _) (sk_nl _) (sk_nl _) (sk_nl _)
      p0 q0 r0 p1 q1 r1 p2 q2 r2 gF.ok g0.ok (g0.add g0).ok g1.ok (g1.add g1).ok g2.ok (g2.add g2).ok (F1 := st1 m0 F Y0) (F2 := st1 m1 (st1 m0 F Y0) Y1) (F3 := stF m0 m1 m2 F Y0 Y1 Y2) rfl rfl rfl f1.ok f2.ok f3.ok (gF.add g0).ok (f1.add g1).ok (f2.add g2).ok I (fun h' g' tk' I' => ?_)
    rw [cut_of, cut_of, cut_of] at I'
    refine ih (t := t + 1) (by omega) (by omega) (by omega) (by omega) f3 (g0.add g0) (g1.add g1) (g2.add g2) I' (fun h2 g2 tk2 I2 => k h2 g2 tk2 ?_)
    have e : t + 1 + n = t + (n + 1) := by omega
    rw [e] at I2
    exact I2
theorem loop_all (hroom : A.depth + 80 < recursionLimit) (hA : A.handled = none) (E : Ends e0 e1 e2 ε0 ε1 ε2) (l0 : Letter a0) (l1 : Letter a1) (l2 : Letter a2)
    {n m0 m1 m2 : Nat} {F Y0 Y1 Y2 : Ey} {h : Heap} {g : Gs} {tk : Nat} (ht : n + 1 ≤ 4) (b0 : m0 < 16) (b1 : m1 < 16) (b2 : m2 < 16) (gF : Good F.M) (g0 : Good Y0.M) (g1 : Good Y1.M) (g2 : Good Y2.M)
    (I : SmI0 C h₀ fp L it cW cE cL En D D0 D1 D2 Es e0 e1 e2 r (n + 1) (wstr 0 a0 m0) (wstr 0 a1 m1) (wstr 0 a2 m2) F Y0 Y1 Y2 h g)
    (k : ∀ h' g' tk', SmI C h₀ fp L it cW cE cL En D D0 D1 D2 Es e0 e1 e2 r (n + 1) 0 (wstr (n + 1) a0 (halfN (n + 1) m0)) (wstr (n + 1) a1 (halfN (n + 1) m1)) (wstr (n + 1) a2 (halfN (n + 1) m2)) (runF (n + 1) m0 m1 m2 F Y0 Y1 Y2) (dblN (n + 1) Y0) (dblN (n + 1) Y1) (dblN (n + 1) Y2) h' g' → R (.ok .next) h' g' tk') :
    CodeP C A (smCode L it cW cE cL) R h g tk := by
  obtain ⟨p0, q0, r0, s0⟩ := ok_parts (t := 0) (by omega) l0 b0
  obtain ⟨p1, q1, r1, s1⟩ := ok_parts (t := 0) (by omega) l1 b1
  obtain ⟨p2, q2, r2, s2⟩ := ok_parts (t := 0) (by omega) l2 b2
  have hr : ∀ p ∈ [(wl 0 a0 m0 ++ [32], ε0), (wl 0 a1 m1 ++ [32], ε1), (wl 0 a2 m2 ++ [32], ε2)], (∀ c ∈ p.1, ¬ Eol c) ∧ isEnd p.2 := by
    intro p hp
    rcases List.mem_cons.mp hp with rfl | hp
    · exact ⟨eol_of l0, E.i0⟩
    rcases List.mem_cons.mp hp with rfl | hp
    · exact ⟨eol_of l1, E.i1⟩
    rcases List.mem_cons.mp hp with rfl | hp
    · exact ⟨eol_of l2, E.i2⟩
    · cases hp
  have f1 := gF.st1 (m := m0) g0
  have f2 := f1.st1 (m := m1) g1
  have f3 := f2.st1 (m := m2) g2
  refine turn_first hroom hA (n := n) (t := 0) (by omega) s0 s1 s2 E.m0 E.m1 E.m2 (u0 := wl 0 a0 m0) (u1 := wl 0 a1 m1) (u2 := wl 0 a2 m2) rfl rfl rfl E.h0 E.h1 E.h2 rfl rfl rfl hr (row_of 0 a0 m0) (row_of 0 a1 m1) (row_of 0 a2 m2) (dec_of l0) (dec_of l1) (dec_of l2) (v_ws _) (v_ws _) (v_ws _) (v_ne _) (v_ne _) (v_ne _) (sk_ws _) (sk_ws _) (sk_ws _) (sk_nl _) (sk_nl _) (sk_nl _)
    p0 q0 r0 p1 q1 r1 p2 q2 r2 gF.ok g0.ok (g0.add g0).ok g1.ok (g1.add g1).ok g2.ok (g2.add g2).ok (F1 := st1 m0 F Y0) (F2 := st1 m1 (st1 m0 F Y0) Y1) (F3 := stF m0 m1 m2 F Y0 Y1 Y2) rfl rfl rfl f1.ok f2.ok f3.ok (gF.add g0).ok (f1.add g1).ok (f2.add g2).ok I (fun h' g' tk' I' => ?_)
  rw [cut_of, cut_of, cut_of] at I'
  refine loop_later hroom hA E l0 l1 l2 n (t := 1) (by omega) (by omega) (by omega) (by omega) f3 (g0.add g0) (g1.add g1) (g2.add g2) I' (fun h2 g2 tk2 I2 => k h2 g2 tk2 ?_)
  have e : 1 + n = n + 1 := by omega
  rw [e] at I2
  exact I2
end
end Mine
end
/-! ## Sm -/
section
open PySem PySem.W PyProof.Rows
set_option Elab.async false
set_option linter.unusedVariables false
set_option maxRecDepth 100000
set_option maxHeartbeats 400000
namespace Mine
/-! ## Lists of ints: a slice, a sum -/
noncomputable def LInts (h : Heap) (D : Addr) (ns : List Int) : Prop := ∃ vs n, h.get? D = some (oList vs n) ∧ vs.size = ns.length ∧ ∀ (i : Nat) v, vs[i]? = some v → ∃ t, v = .int (ns.getD i 0) t
theorem preSum_getD (ns : List Int) : ∀ n, n ≤ ns.length → preSum (fun i => ns.getD i 0) n = (ns.take n).sum := by
  intro n
  induction n with
  | zero => intro _; rfl
  | succ n ih =>
    intro hn
    show preSum _ n + ns.getD n 0 = _
    rw [ih (by omega)]
    have hlt : n < ns.length := by omega
    rw [List.take_add_one, List.getElem?_eq_getElem hlt, List.getD_eq_getElem?_getD, List.getElem?_eq_getElem hlt, List.sum_append]
    simp
/-- two entries are lost -/
theorem St.lose {T : Nat → Option Obj} {h₀ h h' : Heap} {fp : List Addr} {l : List Ent} (S : St T h₀ h fp l) (x y : Addr) (N : Addr) (oN : Obj) (hN : h'.get? N = some oN) (hsz : h₀.objs.size ≤ N)
    (hk : ∀ b o, b ≠ x → b ≠ y → h.get? b = some o → h'.get? b = some o) (hx : x ∈ fp ∨ h₀.objs.size ≤ x) (hy : y ∈ fp ∨ h₀.objs.size ≤ y) (idx : List Nat) (i j : Nat)
    (hi : ((nth l i).map (·.a), (nth l j).map (·.a), nodupB idx, idx.all fun k => !(k == i) && !(k == j)) = (some x, some y, true, true)) : St T h₀ h' fp (pick idx l) := by
  have e1 : (nth l i).map (·.a) = some x := congrArg (·.1) hi
  have e2 : (nth l j).map (·.a) = some y := congrArg (·.2.1) hi
  have e3 : nodupB idx = true := congrArg (·.2.2.1) hi
  have e4 : (idx.all fun k => !(k == i) && !(k == j)) = true := congrArg (·.2.2.2) hi
  obtain ⟨ex, hex, rfl⟩ := Option.map_eq_some_iff.mp e1
  obtain ⟨ey, hey, rfl⟩ := Option.map_eq_some_iff.mp e2
  have key : ∀ p ∈ pick idx l, ∃ k ∈ idx, nth l k = some p := fun p hp => pick_mem hp
  refine ⟨pick_nodup S.nd e3, fun p hp => ?_, fun p hp hw => ?_, fun b o e hb => ?_, S.top, Nat.le_trans hsz (Nat.le_of_lt (Heap.lt_size hN)), S.lim, S.two⟩
  · obtain ⟨k, hk', hkn⟩ := key p hp
    have := List.all_eq_true.mp e4 k hk'
    simp only [Bool.and_eq_true, Bool.not_eq_true', beq_eq_false_iff_ne] at this
    exact hk _ _ (fun q => this.1 (nth_inj S.nd hkn hex q)) (fun q => this.2 (nth_inj S.nd hkn hey q)) (S.at hkn)
  · obtain ⟨k, hk', hkn⟩ := key p hp
    exact S.wr p (nth_mem hkn) hw
  · refine hk _ _ (fun q => ?_) (fun q => ?_) (S.old b o e hb)
    · rcases hx with hx | hx
      · exact hb (q ▸ hx)
      · exact absurd (Heap.lt_size e) (Nat.not_lt.mpr (q ▸ hx))
    · rcases hy with hy | hy
      · exact hb (q ▸ hy)
      · exact absurd (Heap.lt_size e) (Nat.not_lt.mpr (q ▸ hy))
noncomputable abbrev oLI (N : Addr) : Obj := ⟨.type "list_iterator", none, .fields #[.ref N, .int 0 0], #[]⟩
theorem sum_at {C : Cx} {A : Around} {R : Post Result} {h₀ h : Heap} {fp : List Addr} {g : Gs} {tk : Nat} {T : Nat → Option Obj} {l : List Ent} {I N Sx : Addr} {ns : List Int} {t0 : Tok} {c : Nat} (hA : A.handled = none)
    (S : St T h₀ h fp l) (hN : LInts h N ns) (hNs : h₀.objs.size ≤ N) (idx : List Nat) (i j q : Nat)
    (hi : ((nth l i).map (·.a), (nth l j).map (·.a), nodupB idx, idx.all fun k => !(k == i) && !(k == j)) = (some I, some Sx, true, true)) (hq : ((nth l q).map (·.a), q == j) = (some N, false))
    (hI : nth l i = some ⟨I, true, oLI N⟩) (hS : nth l j = some ⟨Sx, true, oList #[.int 0 t0] c⟩)
    (k : ∀ h' tk' t', St T h₀ h' fp (pick idx l) → (∀ b o, b ≠ I → b ≠ Sx → h.get? b = some o → h'.get? b = some o) → R (.ok (.ret (.int ns.sum t'))) h' g tk') :
    CodeP C A (.builtin "sum.loop" ⟨[.ref I, .ref Sx, rawInt 0, rawInt 0], []⟩) R h g tk := by
  obtain ⟨vs, n, hv, hsz, hint⟩ := hN
  have gI : h.get? I = some (oLI N) := S.at hI
  have gS : h.get? Sx = some (oList #[.int 0 t0] c) := S.at hS
  have hNI : N ≠ I := fun e => by rw [e, gI] at hv; exact nomatch congrArg Obj.data (Option.some.inj hv)
  have hSI : Sx ≠ I := fun e => by rw [e, gI] at gS; exact nomatch congrArg Obj.data (Option.some.inj gS)
  have hSN : Sx ≠ N := fun e => by
    have q1 : (nth l q).map (·.a) = some N := congrArg Prod.fst hq
    have q2 : (q == j) = false := congrArg Prod.snd hq
    obtain ⟨eq, hq', ea⟩ := Option.map_eq_some_iff.mp q1
    have := nth_inj S.nd hq' hS (by rw [ea]; exact e.symm)
    simp [this] at q2
  have hSf : Sx ∉ [I, N] := fun hm => by
    rcases List.mem_cons.mp hm with e | hm
    · exact hSI e
    · exact hSN (List.mem_singleton.mp hm)
  have W := (Walks.list (prog := C.prog) (w := C.w) (A := A.in1) hA I N hNI vs).toS
  refine ⟨codeAny_sum_loopAnyS W (fun i => ns.getD i 0) (fun i v hP => hint i v hP) Sx hSf vs.size 0 ⟨h, g, C.d, tk, C.os⟩ t0 c 0 (.inl rfl) rfl (Nat.zero_le _) ⟨⟨_, gI, rfl, rfl⟩, ⟨_, hv, rfl, n, rfl⟩⟩ gS (fun s' t' hm => ?_)⟩
  obtain ⟨h', g', dn', tk', os'⟩ := s'
  obtain ⟨m1, m2, m3, m4, _⟩ := hm
  obtain rfl : g' = g := m2
  obtain rfl : dn' = C.d := m3
  obtain rfl : os' = C.os := m4
  have hk : ∀ b o, b ≠ I → b ≠ Sx → h.get? b = some o → h'.get? b = some o := fun b o h1 h2 e => m1 b o (fun hm => by
    rcases List.mem_cons.mp hm with e | hm
    · exact h2 e
    · exact h1 (List.mem_singleton.mp hm)) e
  have hs : preSum (fun i => ns.getD i 0) vs.size = ns.sum := by rw [hsz, preSum_getD _ _ (Nat.le_refl _), List.take_length]
  rw [hs]
  exact ⟨h', g', tk', rfl, k h' tk' t' (S.lose I Sx N _ (hk _ _ hNI (Ne.symm hSN) hv) hNs hk (S.wr _ (nth_mem hI) rfl) (S.wr _ (nth_mem hS) rfl) idx i j hi) hk⟩
theorem LInts.at {h h' : Heap} {D : Addr} {ns : List Int} (x : LInts h D ns) (hk : ∀ o, h.get? D = some o → h'.get? D = some o) : LInts h' D ns := by
  obtain ⟨vs, n, e, r⟩ := x
  exact ⟨vs, n, hk _ e, r⟩
theorem ints_of (vs : Array Value) (h : ∀ v ∈ vs.toList, ∃ i t, v = .int i t) : ∃ ns : List Int, vs.size = ns.length ∧ ∀ (i : Nat) v, vs[i]? = some v → ∃ t, v = .int (ns.getD i 0) t := by
  refine ⟨vs.toList.map fun v => match v with | .int i _ => i | _ => 0, by simp, fun i v e => ?_⟩
  have hv : v ∈ vs.toList := Array.mem_toList_iff.mpr (Array.mem_of_getElem? e)
  obtain ⟨j, t, rfl⟩ := h v hv
  refine ⟨t, ?_⟩
  have : vs.toList[i]? = some (.int j t) := by rw [Array.getElem?_toList]; exact e
  rw [List.getD_eq_getElem?_getD, List.getElem?_map, this]
  rfl
noncomputable def isSl3 (o : Obj) : Option Int := match o.cls with
  | .type s => match PySem.W.S.eqLit 439771360628 s with
    | true => match o.dict with
      | none => match o.data with
        | .fields ⟨vs⟩ => match vs with
          | [.int i _, .none, .int j _] => match j with
            | .ofNat 3 => match o.slots with
              | ⟨[]⟩ => some i
              | _ => none
            | _ => none
          | _ => none
        | _ => none
      | some _ => none
    | false => none
  | _ => none
theorem sl3_is {o : Obj} {i : Int} (e : isSl3 o = some i) : ∃ t u, o = ⟨.type "slice", none, .fields #[.int i t, .none, .int 3 u], #[]⟩ := by
  obtain ⟨c, d, dt, sl⟩ := o
  unfold isSl3 at e
  dsimp only at e
  split at e
  · split at e
    · rename_i q
      split at e
      · split at e
        · split at e
          · split at e
            · split at e
              · cases e
                rw [id_of q (b := "slice") (by decide +kernel)]
                exact ⟨_, _, rfl⟩
              · cases e
            · cases e
          · cases e
        · cases e
      · cases e
    · cases e
  · cases e
theorem slice3_code {C : Cx} {A : Around} {R : Post Result} {h : Heap} {g : Gs} {tk : Nat} {id : String} {l sl : Addr} {ns : List Int} {i : Int} {t u : Tok} (e : PySem.W.S.eqLit 128106587276438692081757506308484131437 id = true) (hl : LInts h l ns) (hlen : ns.length ≤ 1000)
    (hs : h.get? sl = some ⟨.type "slice", none, .fields #[.int i t, .none, .int 3 u], #[]⟩)
    (k : ∀ vs' ns', LInts (h.push (oList vs' 0)) h.objs.size ns' → R (.ok (.ret (.ref h.objs.size))) (h.push (oList vs' 0)) g tk) :
    CodeP C A (.builtin id ⟨[.ref l, .ref sl], []⟩) R h g tk := by
  obtain ⟨vs, n, ho, hz, hint⟩ := hl
  rw [id_of (b := "list.__getitem__") e (by decide +kernel)]
  refine ⟨codeAny_builtin F.entry_list_getitem ?_⟩
  rw [Around.under_plainId (by decide +kernel)]
  have hTs : Shared.TypeIs ⟨h, g, C.d, tk, C.os⟩ (.ref sl) "slice" := ⟨_, hs, rfl⟩
  show wpAny _ _ (Builtin.List.listSubscript? (.ref sl) >>= _) _ _ _
  refine wpAny_bind ?_
  unfold Builtin.List.listSubscript?
  refine wpAny_bind (wpAny_specialOf hTs slice_no_index ?_)
  simp only [Option.isNone_none, if_true]
  refine wpAny_pure ?_
  show wpAny _ _ (typeOf (.ref sl) >>= _) _ _ _
  refine wpAny_bind (wpAny_typeOf hTs ?_)
  rw [if_neg (by decide)]
  rw [listSliceParts_eq]
  refine wpAny_bind (wpAny_bind (wpAny_field hs rfl (x := .int 3 u) rfl (wpAny_bind (wpAny_listPart (.int 3 u) ?_))))
  rw [if_neg (show ¬ ((rawPart (some 3) == rawInt 0) = true) from by simp [rawPart, rawInt])]
  refine wpAny_bind (wpAny_field hs rfl (x := .int i t) rfl (wpAny_bind (wpAny_listPart (.int i t) ?_)))
  refine wpAny_bind (wpAny_field hs rfl (x := .none) rfl (wpAny_bind (wpAny_listPart .none (wpAny_pure ?_))))
  refine wpAny_bind (m := Builtin.List.listItems (.ref l)) ?_
  unfold Builtin.List.listItems
  refine wpAny_bind (wpAny_seqItems ho rfl (wpAny_pure ?_))
  refine wpAny_bind (wpAny_of_eq (sliceIndices_raw (some i) none (some 3) vs.size (by simp)) ?_)
  have hall : ∀ v ∈ (slicePick vs (some i) none (some 3)).toList, ∃ i t, v = .int i t := by
    intro v hv
    simp only [slicePick, List.mem_filterMap] at hv
    obtain ⟨j, _, hj⟩ := hv
    obtain ⟨t', e'⟩ := hint j v hj
    exact ⟨_, t', e'⟩
  obtain ⟨ns', hz', hint'⟩ := ints_of _ hall
  have hfin : up C R (.ok (.ret (.ref h.objs.size))) ⟨h.push (oList (slicePick vs (some i) none (some 3)) 0), g, C.d, tk, C.os⟩ := ⟨_, g, tk, rfl, k _ ns' ⟨_, 0, Heap.get?_push_size _ rfl, hz', hint'⟩⟩
  exact wpAny_bind (wpAny_newObj_type (wpAny_pure hfin) (Nat.le_trans (slicePick_size_le vs (some i) none (some 3)) (by rw [hz, sizeLine_eq]; omega)))
section
variable {C : Cx} {A₀ : Around} {R₀ : Post Result} {T : Nat → Option Obj} {h₀ : Heap} {fp : List Addr} {tk : Nat} {g : Gs} {h : Heap} {l : List Ent} {κ : Kont} {r : Result}
theorem go_slice3 {F H : Nat} {D sl : Addr} {ns : List Int} (i : Int) (a b q : Nat) (S : St T h₀ h fp l) (hd : LInts h D ns) (hlen : ns.length ≤ 1000)
    (hk : ((simA C A₀ T h.objs.size tk F κ r l H).acc.map (·.1), isRet κ, see (simA C A₀ T h.objs.size tk F κ r l H), (nth l a).map (·.a), nth (simA C A₀ T h.objs.size tk F κ r l H).l b, (nth (simA C A₀ T h.objs.size tk F κ r l H).l q).map fun e => (e.a, isSl3 e.o)) = ((simA C A₀ T h.objs.size tk F κ r l H).acc.map (·.2), true, .bi 128106587276438692081757506308484131437 [.ref D, .ref sl], some D, nth l a, some (sl, some i)))
    (k : ∀ h2 tk2 N vs' ns', LInts h2 D ns → h₀.objs.size ≤ N → St T h₀ h2 fp (⟨N, true, oList vs' 0⟩ :: (simA C A₀ T h.objs.size tk F κ r l H).l) → LInts h2 N ns' → After C A₀ R₀ (κO (simA C A₀ T h.objs.size tk F κ r l H)) (.ok (.ret (.ref N))) h2 g tk2) : After C A₀ R₀ κ r h g tk := by
  have e1 := congrArg (·.1) hk
  have e2 := congrArg (·.2.1) hk
  have e3 := congrArg (·.2.2.1) hk
  have e4 := congrArg (·.2.2.2.1) hk
  have e5 := congrArg (·.2.2.2.2.1) hk
  have e6 := congrArg (·.2.2.2.2.2) hk
  refine go_bi _ _ S (Prod.ext e1 (Prod.ext e2 e3)) fun h' tk' id vs hid hvs S' => ?_
  obtain ⟨v, w, rfl, hv, hw⟩ := map_two hvs
  obtain rfl := vv_ref hv
  obtain rfl := vv_ref hw
  have hd' := hd.at (S.same S' a b (Prod.ext e4 e5))
  obtain ⟨e, he, e7⟩ := Option.map_eq_some_iff.mp e6
  have e8 : e.a = sl := congrArg Prod.fst e7
  obtain ⟨t1, u1, e9⟩ := sl3_is (congrArg Prod.snd e7)
  exact slice3_code (codeS_eq hid) hd' hlen (by rw [← e9, ← e8]; exact S'.at he) fun vs' ns' hn => k _ _ h'.objs.size vs' ns' (hd'.at fun o e => Heap.get?_push_of_some _ e) S'.size (S'.alo rfl) hn
end
end Mine
end
/-! ## Sp -/
section
open PySem PySem.W PyProof.Rows
set_option Elab.async false
set_option linter.unusedVariables false
set_option maxRecDepth 100000
set_option maxHeartbeats 400000
namespace Mine
/-! ## A sign many times; one of three texts -/
noncomputable def repS (c n : Nat) : Str := ⟨(List.replicate n c).toArray⟩
theorem rep_fold (c : Nat) : ∀ (m : Nat) (a : Array Nat), (List.replicate m #[c]).foldl (· ++ ·) a = a ++ (List.replicate m c).toArray
  | 0, a => by simp
  | m + 1, a => by
    rw [List.replicate_succ, List.foldl_cons, rep_fold c m]
    apply Array.ext'
    simp [List.replicate_succ]
theorem mul_code {C : Cx} {A : Around} {R : Post Result} {h : Heap} {g : Gs} {tk : Nat} {id : String} {c m : Nat} {n : Int} {t u : Tok} (e : PySem.W.S.eqLit 116512245094328231196325236 id = true) (hn : n = m) (hm : m ≤ 100)
    (k : ∀ t' tk', R (.ok (.ret (.str (repS c m) t'))) h g tk') : CodeP C A (.builtin id ⟨[.str ⟨#[c]⟩ t, .int n u], []⟩) R h g tk := by
  subst hn
  have hl1 : (⟨#[c]⟩ : Str).length = 1 := rfl
  refine builtin_gives e (b := "str.__mul__") (by decide +kernel) PySem.F.entry_str_mul (by decide +kernel) (PySem.gives_str_mul ⟨#[c]⟩ (m : Int) t u ?_ ?_ ?_) ?_
  · simp only [Bool.or_eq_false_iff, decide_eq_false_iff_not]; omega
  · intro h1 _
    rw [hl1]
    have : (1 : Int) ≤ (2 ^ 63 - 1) / (m : Int) := by
      rw [Int.le_ediv_iff_mul_le (by omega)]
      omega
    omega
  · intro h1 _
    rw [hl1]
    simp only [Int.toNat_natCast]
    first
      | (rw [sizeLine_eq]; omega)
      | (show decide (_ > sizeLine) = false; rw [decide_eq_false_iff_not, sizeLine_eq]; omega)
  · by_cases h0 : m = 0
    · subst h0
      rw [if_pos (by omega)]
      exact ⟨by show 0 ≤ sizeLine; omega, _, _, _, rfl, k _ _⟩
    · rw [if_neg (by omega)]
      by_cases h1 : m = 1
      · subst h1
        rw [if_pos (by simp)]
        have k' := k t tk
        exact ⟨_, _, _, rfl, k'⟩
      · rw [if_neg (by rw [hl1]; simp; omega)]
        rw [rep_fold, Int.toNat_natCast]
        have e1 : (#[] : Array Nat) ++ (List.replicate m c).toArray = (List.replicate m c).toArray := by simp
        rw [e1]
        refine ⟨?_, _, _, _, rfl, k _ _⟩
        show (List.replicate m c).toArray.size ≤ _
        rw [sizeLine_eq]
        simp
        omega
noncomputable def pick3 (i : Int) (x y z : Str) : Str := if i = 0 then x else if i = 1 then y else z
theorem pick3_code {C : Cx} {A : Around} {R : Post Result} {h : Heap} {g : Gs} {tk : Nat} {id : String} {D : Addr} {o : Obj} {x y z : Str} {i : Int} {u : Tok} (e : PySem.W.S.eqLit 128106587276438692081757506308484131437 id = true) (ho : h.get? D = some o) (hs : strs3 o = some (x, y, z)) (hi : 0 ≤ i ∧ i < 3)
    (k : ∀ t', R (.ok (.ret (.str (pick3 i x y z) t'))) h g tk) : CodeP C A (.builtin id ⟨[.ref D, .int i u], []⟩) R h g tk := by
  obtain ⟨ta, tb, tc, n, hc, hd⟩ := strs3_is hs
  rw [id_of (b := "list.__getitem__") e (by decide +kernel)]
  refine ⟨codeAny_builtin F.entry_list_getitem ?_⟩
  rw [Around.under_plainId (by decide +kernel)]
  show wpAny _ _ (Builtin.List.listSubscript? (.int i u) >>= _) _ _ _
  have hfit : Builtin.List.listFitsIndex i = true := by
    unfold Builtin.List.listFitsIndex
    simp only [Bool.and_eq_true, decide_eq_true_eq]
    omega
  refine wpAny_bind (wpAny_listSubscript_int hfit ?_)
  clear hfit
  obtain ⟨j, rfl⟩ := Int.eq_ofNat_of_zero_le hi.1
  show wpAny _ _ ((seqItemAt D j >>= fun r => pure (r.map (j, ·))) >>= _) _ _ _
  refine wpAny_bind (wpAny_bind (wpAny_seqItemAt ho hd (wpAny_pure ?_)))
  have fin : ∃ t', (#[.str x ta, .str y tb, .str z tc] : Array Value)[j]? = some (.str (pick3 j x y z) t') := by
    rcases j with _ | _ | _ | j
    · exact ⟨ta, rfl⟩
    · exact ⟨tb, rfl⟩
    · exact ⟨tc, rfl⟩
    · omega
  obtain ⟨t', e'⟩ := fin
  rw [e']
  have hfin : up C R (.ok (.ret (.str (pick3 j x y z) t'))) ⟨h, g, C.d, tk, C.os⟩ := ⟨h, g, tk, rfl, k t'⟩
  first
    | exact wpAny_bind (wpAny_pure (wpAny_pure hfin))
    | exact wpAny_pure hfin
section
variable {C : Cx} {A₀ : Around} {R₀ : Post Result} {T : Nat → Option Obj} {h₀ : Heap} {fp : List Addr} {tk : Nat} {g : Gs} {h : Heap} {l : List Ent} {κ : Kont} {r : Result}
theorem go_mul {F H : Nat} (c m : Nat) (n : Int) (S : St T h₀ h fp l) (hn : n = m) (hm : m ≤ 100)
    (hk : ((simA C A₀ T h.objs.size tk F κ r l H).acc.map (·.1), isRet κ, see (simA C A₀ T h.objs.size tk F κ r l H)) = ((simA C A₀ T h.objs.size tk F κ r l H).acc.map (·.2), true, .bi 116512245094328231196325236 [.str ⟨#[c]⟩, .int n]))
    (k : ∀ h' t' tk', St T h₀ h' fp (simA C A₀ T h.objs.size tk F κ r l H).l → After C A₀ R₀ (κO (simA C A₀ T h.objs.size tk F κ r l H)) (.ok (.ret (.str (repS c m) t'))) h' g tk') : After C A₀ R₀ κ r h g tk := by
  refine go_bi _ _ S hk fun h' tk' id vs hid hvs S' => ?_
  obtain ⟨v, w, rfl, hv, hw⟩ := map_two hvs
  obtain ⟨t1, rfl⟩ := vv_str hv
  obtain ⟨t2, rfl⟩ := vv_int hw
  exact mul_code (codeS_eq hid) hn hm fun t' tk' => k _ _ _ S'
theorem go_pick3 {F H : Nat} {D : Addr} {x y z : Str} (i : Int) (q : Nat) (S : St T h₀ h fp l) (hi : 0 ≤ i ∧ i < 3)
    (hk : ((simA C A₀ T h.objs.size tk F κ r l H).acc.map (·.1), isRet κ, see (simA C A₀ T h.objs.size tk F κ r l H), (nth (simA C A₀ T h.objs.size tk F κ r l H).l q).map fun e => (e.a, strs3 e.o)) = ((simA C A₀ T h.objs.size tk F κ r l H).acc.map (·.2), true, .bi 128106587276438692081757506308484131437 [.ref D, .int i], some (D, some (x, y, z))))
    (k : ∀ h' t' tk', St T h₀ h' fp (simA C A₀ T h.objs.size tk F κ r l H).l → After C A₀ R₀ (κO (simA C A₀ T h.objs.size tk F κ r l H)) (.ok (.ret (.str (pick3 i x y z) t'))) h' g tk') : After C A₀ R₀ κ r h g tk := by
  have e1 := congrArg (·.1) hk
  have e2 := congrArg (·.2.1) hk
  have e3 := congrArg (·.2.2.1) hk
  have e4 := congrArg (·.2.2.2) hk
  refine go_bi _ _ S (Prod.ext e1 (Prod.ext e2 e3)) fun h' tk' id vs hid hvs S' => ?_
  obtain ⟨v, w, rfl, hv, hw⟩ := map_two hvs
  obtain rfl := vv_ref hv
  obtain ⟨t2, rfl⟩ := vv_int hw
  obtain ⟨e, he, e5⟩ := Option.map_eq_some_iff.mp e4
  have e6 : e.a = D := congrArg Prod.fst e5
  exact pick3_code (codeS_eq hid) (by rw [← e6]; exact S'.at he) (congrArg Prod.snd e5) hi fun t' => k _ _ _ S'
end
end Mine
end
/-! ## Sx -/
section
open PySem PySem.W PyProof.Rows
set_option Elab.async false
set_option linter.unusedVariables false
set_option maxRecDepth 100000
set_option maxHeartbeats 400000
namespace Mine
/-! ## a word of the law -/
theorem wcat (l m : Nat) : (⟨#[46, l]⟩ : Str) ++ repS 92 m = wstr 0 l m := by
  apply Str.ext'
  apply Array.ext'
  simp [Str.cps_append, repS, wstr, wl]
theorem dcat (l m : Nat) : repS 46 (m + 1) ++ (⟨#[l]⟩ : Str) = wstr m l 0 := by
  apply Str.ext'
  apply Array.ext'
  simp [Str.cps_append, repS, wstr, wl, List.replicate_succ]
theorem go_addE {C : Cx} {A₀ : Around} {R₀ : Post Result} {T : Nat → Option Obj} {h₀ : Heap} {fp : List Addr} {tk : Nat} {g : Gs} {h : Heap} {l : List Ent} {κ : Kont} {r : Result} {F H : Nat} (x y z : Str) (hz : x ++ y = z) (S : St T h₀ h fp l) (hl : (x ++ y).length ≤ sizeLine) (hk : ((simA C A₀ T h.objs.size tk F κ r l H).acc.map (·.1), isRet κ, see (simA C A₀ T h.objs.size tk F κ r l H)) = ((simA C A₀ T h.objs.size tk F κ r l H).acc.map (·.2), true, .bi 116512096292018843154609524 [.str x, .str y]))
    (k : ∀ h' t' tk', St T h₀ h' fp (simA C A₀ T h.objs.size tk F κ r l H).l → After C A₀ R₀ (κO (simA C A₀ T h.objs.size tk F κ r l H)) (.ok (.ret (.str z t'))) h' g tk') : After C A₀ R₀ κ r h g tk := by
  subst hz
  exact go_add x y S hl hk k
/-! ## _law_summed for any number of rounds -/
theorem good0 : Good (⟨0, 0, 0, 0, []⟩ : Ey).M := ⟨(fun c h => nomatch h), (fun c h => nomatch h), List.nodup_nil⟩
theorem Good.dbl : ∀ (n : Nat) {Y : Ey}, Good Y.M → Good (dblN n Y).M
  | 0, _, x => x
  | n + 1, _, x => Good.dbl n (x.add x)
theorem Good.run : ∀ (n : Nat) {m0 m1 m2 : Nat} {F Y0 Y1 Y2 : Ey}, Good F.M → Good Y0.M → Good Y1.M → Good Y2.M → Good (runF n m0 m1 m2 F Y0 Y1 Y2).M
  | 0, _, _, _, _, _, _, _, x, _, _, _ => x
  | n + 1, _, _, _, _, _, _, _, x, y0, y1, y2 => Good.run n (((x.st1 y0).st1 y1).st1 y2) (y0.add y0) (y1.add y1) (y2.add y2)
theorem sm_all {C : Cx} {A : Around} {R : Post Result} {h : Heap} {g : Gs} {tk : Nat} (hroom : A.depth + 90 < recursionLimit) (hA : A.handled = none) {W En Es q0 q1 q2 : Addr} {e0 e1 e2 : Str} {ε0 ε1 ε2 : List Nat} {V : OV} {tr : Tok} {cw ce cs : Nat} {τ : List (List Tok)} {Y0 Y1 Y2 : Ey} {a0 a1 a2 m0 m1 m2 : Nat}
    (E : Ends e0 e1 e2 ε0 ε1 ε2) (l0 : Letter a0) (l1 : Letter a1) (l2 : Letter a2) (b0 : m0 < 16) (b1 : m1 < 16) (b2 : m2 < 16) (g0 : Good Y0.M) (g1 : Good Y1.M) (g2 : Good Y2.M)
    (q : Nat) (hq : q ≤ 3) {ri : Int} (hri : ri = (q + 1 : Nat))
    (S : St (topObj C.w.params) h h [113, 89] (mkL [⟨W, false, vList [.str (wstr 0 a0 m0), .str (wstr 0 a1 m1), .str (wstr 0 a2 m2)] cw⟩, ⟨En, false, vList [.str e0, .str e1, .str e2] ce⟩, ⟨Es, false, vList [.ref q0, .ref q1, .ref q2] cs⟩, ⟨113, true, vTab []⟩, tab89 V] τ))
    (hcd : CodeOk h) (hg : AllBare g) (hy0 : EyAt C.prog C.w h q0 Y0) (hy1 : EyAt C.prog C.w h q1 Y1) (hy2 : EyAt C.prog C.w h q2 Y2)
    (k : ∀ h' g' tk' res W' f' Rl y0 y1 y2 V' tb c n τ', St (topObj C.w.params) h h' [113, 89] (mkL [⟨113, true, vTab tb⟩, tab89 V', ⟨res, true, vTup [.ref W', .ref f', .ref Rl]⟩, ⟨W', true, vList [.str (wstr (q + 1) a0 (halfN (q + 1) m0)), .str (wstr (q + 1) a1 (halfN (q + 1) m1)), .str (wstr (q + 1) a2 (halfN (q + 1) m2))] c⟩, ⟨Rl, true, vList [.ref y0, .ref y1, .ref y2] n⟩] τ') → CodeOk h' → AllBare g' →
      EyAt C.prog C.w h' f' (runF (q + 1) m0 m1 m2 ⟨0, 0, 0, 0, []⟩ Y0 Y1 Y2) → EyAt C.prog C.w h' y0 (dblN (q + 1) Y0) → EyAt C.prog C.w h' y1 (dblN (q + 1) Y1) → EyAt C.prog C.w h' y2 (dblN (q + 1) Y2) → R (.ok (.ret (.ref res))) h' g' tk') :
    CodeP C A (.call (.ref 123) ⟨[.ref W, .ref En, .ref Es, .int ri tr], []⟩) R h g tk := by
  subst hri
  have oF : (runF (q + 1) m0 m1 m2 ⟨0, 0, 0, 0, []⟩ Y0 Y1 Y2).Ok := (Good.run _ good0 g0 g1 g2).ok
  have o0 := (g0.dbl (q + 1)).ok
  have o1 := (g1.dbl (q + 1)).ok
  have o2 := (g2.dbl (q + 1)).ok
  match q, hq with
  | 0, _ => exact sm_1 hroom hA g0.ok g1.ok g2.ok oF o0 o1 o2 S hcd hg hy0 hy1 hy2 (fun A' R' h' g' tk' L it cW cE cL D D0 D1 D2 hd' hA' I kn => loop_all (by omega) hA' E l0 l1 l2 (n := 0) (by omega) b0 b1 b2 good0 g0 g1 g2 I kn) k
  | 1, _ => exact sm_2 hroom hA g0.ok g1.ok g2.ok oF o0 o1 o2 S hcd hg hy0 hy1 hy2 (fun A' R' h' g' tk' L it cW cE cL D D0 D1 D2 hd' hA' I kn => loop_all (by omega) hA' E l0 l1 l2 (n := 1) (by omega) b0 b1 b2 good0 g0 g1 g2 I kn) k
  | 2, _ => exact sm_3 hroom hA g0.ok g1.ok g2.ok oF o0 o1 o2 S hcd hg hy0 hy1 hy2 (fun A' R' h' g' tk' L it cW cE cL D D0 D1 D2 hd' hA' I kn => loop_all (by omega) hA' E l0 l1 l2 (n := 2) (by omega) b0 b1 b2 good0 g0 g1 g2 I kn) k
  | 3, _ => exact sm_4 hroom hA g0.ok g1.ok g2.ok oF o0 o1 o2 S hcd hg hy0 hy1 hy2 (fun A' R' h' g' tk' L it cW cE cL D D0 D1 D2 hd' hA' I kn => loop_all (by omega) hA' E l0 l1 l2 (n := 3) (by omega) b0 b1 b2 good0 g0 g1 g2 I kn) k
end Mine
end
/-! ## Mx -/
section
open PySem PySem.W PyProof.Rows
set_option Elab.async false
set_option linter.unusedVariables false
set_option maxRecDepth 100000
set_option maxHeartbeats 2000000
namespace Mine
/-! ## max of three ints -/
section
variable {C : Cx} {A₀ : Around} {R₀ : Post Result} {T : Nat → Option Obj} {h₀ : Heap} {fp : List Addr} {tk : Nat} {g : Gs} {h : Heap} {l : List Ent} {κ : Kont} {r : Result}
theorem go_gt {F H : Nat} (a b : Int) (q : Bool) (S : St T h₀ h fp l) (hq : decide (a > b) = q)
    (hk : ((simA C A₀ T h.objs.size tk F κ r l H).acc.map (·.1), isRet κ, see (simA C A₀ T h.objs.size tk F κ r l H)) = ((simA C A₀ T h.objs.size tk F κ r l H).acc.map (·.2), true, .bi 455126529904428302298986 [.int a, .int b]))
    (k : ∀ h' tk', St T h₀ h' fp (simA C A₀ T h.objs.size tk F κ r l H).l → After C A₀ R₀ (κO (simA C A₀ T h.objs.size tk F κ r l H)) (.ok (.ret (.bool q))) h' g tk') : After C A₀ R₀ κ r h g tk := by
  refine go_bi _ _ S hk fun h' tk' id vs hid hvs S' => ?_
  obtain ⟨v, w, rfl, hv, hw⟩ := map_two hvs
  obtain ⟨t1, rfl⟩ := vv_int hv
  obtain ⟨t2, rfl⟩ := vv_int hw
  refine builtin_gives (codeS_eq hid) (b := "int.__gt__") (by decide +kernel) PySem.F.entry_int_gt (by decide +kernel) (PySem.gives_int_gt a b t1 t2) ⟨_, _, _, rfl, ?_⟩
  rw [hq]; exact k _ _ S'
theorem go_ge {F H : Nat} (a b : Int) (q : Bool) (S : St T h₀ h fp l) (hq : decide (a ≥ b) = q)
    (hk : ((simA C A₀ T h.objs.size tk F κ r l H).acc.map (·.1), isRet κ, see (simA C A₀ T h.objs.size tk F κ r l H)) = ((simA C A₀ T h.objs.size tk F κ r l H).acc.map (·.2), true, .bi 455125449040517733379946 [.int a, .int b]))
    (k : ∀ h' tk', St T h₀ h' fp (simA C A₀ T h.objs.size tk F κ r l H).l → After C A₀ R₀ (κO (simA C A₀ T h.objs.size tk F κ r l H)) (.ok (.ret (.bool q))) h' g tk') : After C A₀ R₀ κ r h g tk := by
  refine go_bi _ _ S hk fun h' tk' id vs hid hvs S' => ?_
  obtain ⟨v, w, rfl, hv, hw⟩ := map_two hvs
  obtain ⟨t1, rfl⟩ := vv_int hv
  obtain ⟨t2, rfl⟩ := vv_int hw
  refine builtin_gives (codeS_eq hid) (b := "int.__ge__") (by decide +kernel) PySem.F.entry_int_ge (by decide +kernel) (PySem.gives_int_ge a b t1 t2) ⟨_, _, _, rfl, ?_⟩
  rw [hq]; exact k _ _ S'
end
theorem max_t {C : Cx} {A : Around} {R : Post Result} {h : Heap} {g : Gs} {tk : Nat} (hA : A.handled = none) (hroom : A.depth + 20 < recursionLimit) {D : Addr} {dn : Nat} {a b c : Int} {τ : List (List Tok)}
    (S : St (topObj C.w.params) h h [] (mkL [⟨D, false, vList [.int a, .int b, .int c] dn⟩] τ))
    (kk : ∀ h' tk' t' τ', St (topObj C.w.params) h h' [] (mkL [] τ') → R (.ok (.ret (.int (max (max a b) c) t'))) h' g tk') :
    CodeP C A (.builtin "max" ⟨[.ref D], []⟩) R h g tk := by
  obtain ⟨hd', dp, fr, gs, un⟩ := A
  cases hA
  refine enter ?_
  rcases hq : decide (b > a) with _ | _
  · have e1 : max a b = a := Int.max_eq_left (Int.not_lt.mp (of_decide_eq_false hq))
    rw [e1] at kk
    refine go_gt (F := 39) (H := 3373289166464224018243370780966181444326447095837929111496636236801) b a false S hq (by kernel_rfl!) fun h1 tk1 S1 => ?_
    rcases hq2 : decide (c > a) with _ | _
    · have e2 : max a c = a := Int.max_eq_left (Int.not_lt.mp (of_decide_eq_false hq2))
      rw [e2] at kk
      refine go_gt (F := 17) (H := 2363492464344929667073) c a false S1 hq2 (by kernel_rfl!) fun h2 tk2 S2 => ?_
      refine go_ret (F := 24) (H := 3898029310733212577822161158277121) (.int a) S2 (by kernel_rfl!) fun h3 tk3 w hw S3 => ?_
      obtain ⟨t', rfl⟩ := vv_int hw
      exact S3.give [] (fun τ S => kk _ _ _ τ S) (by kernel_rfl!)
    · have e2 : max a c = c := Int.max_eq_right (Int.le_of_lt (of_decide_eq_true hq2))
      rw [e2] at kk
      refine go_gt (F := 17) (H := 2363492464344929667073) c a true S1 hq2 (by kernel_rfl!) fun h2 tk2 S2 => ?_
      refine go_ret (F := 27) (H := 4185477102112142450690509269710428601058305) (.int c) S2 (by kernel_rfl!) fun h3 tk3 w hw S3 => ?_
      obtain ⟨t', rfl⟩ := vv_int hw
      exact S3.give [] (fun τ S => kk _ _ _ τ S) (by kernel_rfl!)
  · have e1 : max a b = b := Int.max_eq_right (Int.le_of_lt (of_decide_eq_true hq))
    rw [e1] at kk
    refine go_gt (F := 39) (H := 3373289166464224018243370780966181444326447095837929111496636236801) b a true S hq (by kernel_rfl!) fun h1 tk1 S1 => ?_
    rcases hq2 : decide (c > b) with _ | _
    · have e2 : max b c = b := Int.max_eq_left (Int.not_lt.mp (of_decide_eq_false hq2))
      rw [e2] at kk
      refine go_gt (F := 20) (H := 2537780709675979745874676810753) c b false S1 hq2 (by kernel_rfl!) fun h2 tk2 S2 => ?_
      refine go_ret (F := 24) (H := 3898029310733212577822161158277121) (.int b) S2 (by kernel_rfl!) fun h3 tk3 w hw S3 => ?_
      obtain ⟨t', rfl⟩ := vv_int hw
      exact S3.give [] (fun τ S => kk _ _ _ τ S) (by kernel_rfl!)
    · have e2 : max b c = c := Int.max_eq_right (Int.le_of_lt (of_decide_eq_true hq2))
      rw [e2] at kk
      refine go_gt (F := 20) (H := 2537780709675979745874676810753) c b true S1 hq2 (by kernel_rfl!) fun h2 tk2 S2 => ?_
      refine go_ret (F := 27) (H := 4185477102112142450690509269710428601058305) (.int c) S2 (by kernel_rfl!) fun h3 tk3 w hw S3 => ?_
      obtain ⟨t', rfl⟩ := vv_int hw
      exact S3.give [] (fun τ S => kk _ _ _ τ S) (by kernel_rfl!)
end Mine
end
/-! ## Pl -/
section
open PySem PySem.W PyProof.Rows
set_option Elab.async false
set_option linter.unusedVariables false
set_option maxRecDepth 100000
set_option maxHeartbeats 400000
namespace Mine
/-! ## The plain law: sums and doubles -/
theorem getM_cons (c : Str × CV) (M : CM) (k : Str) : getM (c :: M) k = if c.1 = k then some c.2 else getM M k := by
  unfold getM
  by_cases h : c.1 = k
  · rw [List.find?_cons_of_pos (by simpa using h), if_pos h]; rfl
  · rw [List.find?_cons_of_neg (by simpa using h), if_neg h]
theorem getM_map (k k' : Str) (v : CV) : ∀ M : CM, getM (M.map fun c => if c.1 = k then (c.1, v) else c) k' = if k' = k then (if M.any (fun c => c.1 = k) then some v else none) else getM M k'
  | [] => by by_cases h : k' = k <;> simp [getM, h]
  | c :: M => by
    rw [List.map_cons, getM_cons, getM_map k k' v M, getM_cons, List.any_cons]
    by_cases h1 : c.1 = k
    · by_cases h2 : k' = k
      · subst h2; simp [h1]
      · have : ¬ k = k' := fun e => h2 e.symm
        simp [h1, h2, this]
    · have h1' : decide (c.1 = k) = false := by simpa using h1
      rw [h1', Bool.false_or, if_neg h1]
      by_cases h2 : k' = k
      · subst h2; rw [if_pos rfl, if_pos rfl, if_neg h1]
      · rw [if_neg h2, if_neg h2]
theorem getM_app (k k' : Str) (v : CV) : ∀ M : CM, M.any (fun c => c.1 = k) = false → getM (M ++ [(k, v)]) k' = if k' = k then some v else getM M k'
  | [], _ => by
    show getM [(k, v)] k' = _
    rw [getM_cons]
    by_cases h : k' = k
    · subst h; simp
    · have : ¬ k = k' := fun e => h e.symm
      simp [h, this]
  | c :: M, hm => by
    rw [List.any_cons, Bool.or_eq_false_iff] at hm
    have h1 : ¬ c.1 = k := by simpa using hm.1
    rw [List.cons_append, getM_cons, getM_app k k' v M hm.2, getM_cons]
    by_cases h2 : k' = k
    · subst h2; simp [h1]
    · simp [h2]
theorem getM_put (M : CM) (k k' : Str) (v : CV) : getM (putM M k v) k' = if k' = k then some v else getM M k' := by
  unfold putM
  split
  · rename_i h; rw [getM_map, h]; simp
  · rename_i h; exact getM_app k k' v M (Bool.eq_false_iff.mpr h)
noncomputable def addO : Option CV → Option CV → Option CV
  | o, none => o
  | none, some c => some c
  | some o, some c => some (plusC c o)
theorem getM_step (M : CM) (c : Str × CV) (k : Str) : getM (stepC M c) k = if k = c.1 then addO (getM M k) (some c.2) else getM M k := by
  unfold stepC
  by_cases h : k = c.1
  · subst h
    split <;> (rename_i q; rw [getM_put, q]; simp [addO])
  · split <;> (rw [getM_put]; simp [h])
theorem getM_none {M : CM} {k : Str} (h : k ∉ M.map (·.1)) : getM M k = none := by
  induction M with
  | nil => rfl
  | cons c M ih =>
    rw [List.map_cons, List.mem_cons, not_or] at h
    rw [getM_cons, if_neg (fun e => h.1 e.symm), ih h.2]
theorem getM_add : ∀ (S : CM) (T : CM) (k : Str), (S.map (·.1)).Nodup → getM (addC T S) k = addO (getM T k) (getM S k)
  | [], T, k, _ => by
    show getM T k = addO (getM T k) none
    cases getM T k <;> rfl
  | c :: S, T, k, nd => by
    rw [List.map_cons, List.nodup_cons] at nd
    show getM (addC (stepC T c) S) k = _
    rw [getM_add S _ k nd.2, getM_step, getM_cons]
    by_cases h : c.1 = k
    · subst h
      rw [if_pos rfl, if_pos rfl, getM_none nd.1]
      cases getM T c.1 <;> rfl
    · rw [if_neg (fun e => h e.symm), if_neg h]
structure Dbl (E : Ey) (p : Nat) (c b d : Int) (a : Nat) : Prop where
  fa : E.a = p
  fb : E.b = p * c
  fc : E.c = p * b
  fd : E.d = p * d
  all : getM E.M kAll = some (.num (p * c))
  own : getM E.M ⟨#[a]⟩ = some (.pair p (p * c))
  oth : ∀ k, k ≠ kAll → k ≠ ⟨#[a]⟩ → getM E.M k = none
  gd : Good E.M
theorem Dbl.dbl {E : Ey} {p : Nat} {c b d : Int} {a : Nat} (x : Dbl E p c b d a) : Dbl (E.add E) (2 * p) c b d a := by
  have e : ((2 * p : Nat) : Int) = p + p := by omega
  refine ⟨?_, ?_, ?_, ?_, ?_, ?_, fun k h1 h2 => ?_, x.gd.add x.gd⟩
  · show E.a + E.a = _; rw [x.fa, e]
  · show E.b + E.b = _; rw [x.fb, e, Int.add_mul]
  · show E.c + E.c = _; rw [x.fc, e, Int.add_mul]
  · show E.d + E.d = _; rw [x.fd, e, Int.add_mul]
  · show getM (addC E.M E.M) _ = _
    rw [getM_add _ _ _ x.gd.nd, x.all, e, Int.add_mul]; rfl
  · show getM (addC E.M E.M) _ = _
    rw [getM_add _ _ _ x.gd.nd, x.own, e, Int.add_mul]; rfl
  · show getM (addC E.M E.M) _ = _
    rw [getM_add _ _ _ x.gd.nd, x.oth k h1 h2]; rfl
theorem Dbl.many {c b d : Int} {a : Nat} : ∀ (n : Nat) {E : Ey} {p : Nat}, Dbl E p c b d a → Dbl (dblN n E) (2 ^ n * p) c b d a
  | 0, E, p, x => by rw [show 2 ^ 0 * p = p by omega]; exact x
  | n + 1, E, p, x => by
    have := Dbl.many n x.dbl
    rw [show 2 ^ (n + 1) * p = 2 ^ n * (2 * p) by rw [Nat.pow_succ, Nat.mul_assoc]]
    exact this
structure Sum3 (c0 c1 c2 b0 b1 b2 d0 d1 d2 : Int) (F : Ey) (s0 s1 s2 : Nat) : Prop where
  fa : F.a = s0 + s1 + s2
  fb : F.b = s0 * c0 + s1 * c1 + s2 * c2
  fc : F.c = s0 * b0 + s1 * b1 + s2 * b2
  fd : F.d = s0 * d0 + s1 * d1 + s2 * d2
  all : getM F.M kAll = if s0 = 0 ∧ s1 = 0 ∧ s2 = 0 then none else some (.num (s0 * c0 + s1 * c1 + s2 * c2))
  o0 : getM F.M ⟨#[35]⟩ = if s0 = 0 then none else some (.pair s0 (s0 * c0))
  o1 : getM F.M ⟨#[34]⟩ = if s1 = 0 then none else some (.pair s1 (s1 * c1))
  o2 : getM F.M ⟨#[97]⟩ = if s2 = 0 then none else some (.pair s2 (s2 * c2))
  gd : Good F.M
section
variable {c0 c1 c2 b0 b1 b2 d0 d1 d2 : Int} {F Y : Ey} {s0 s1 s2 p : Nat}
theorem ne1 : (⟨#[35]⟩ : Str) ≠ kAll := by decide
theorem ne2 : (⟨#[34]⟩ : Str) ≠ kAll := by decide
theorem ne3 : (⟨#[97]⟩ : Str) ≠ kAll := by decide
theorem ne4 : (⟨#[35]⟩ : Str) ≠ ⟨#[34]⟩ := by decide
theorem ne5 : (⟨#[35]⟩ : Str) ≠ ⟨#[97]⟩ := by decide
theorem ne6 : (⟨#[34]⟩ : Str) ≠ ⟨#[97]⟩ := by decide
theorem add_all {S z : Int} {q : Prop} [Decidable q] (h : q → S = 0) : addO (if q then none else some (.num S)) (some (.num z)) = some (.num (S + z)) := by
  by_cases hq : q
  · rw [if_pos hq, h hq, Int.zero_add]; rfl
  · rw [if_neg hq]; rfl
theorem add_own {s p : Nat} {c : Int} (hp : 0 < p) : addO (if s = 0 then none else some (.pair s (s * c))) (some (.pair p (p * c))) = if s + p = 0 then none else some (.pair (s + p : Nat) ((s + p : Nat) * c)) := by
  rw [if_neg (by omega : ¬ s + p = 0)]
  by_cases hq : s = 0
  · subst hq; rw [if_pos rfl, Nat.zero_add]; rfl
  · rw [if_neg hq, Int.natCast_add, Int.add_mul]
    show some (CV.pair (p + s) (p * c + s * c)) = _
    rw [Int.add_comm (p : Int), Int.add_comm (p * c)]
theorem Sum3.add0 (x : Sum3 c0 c1 c2 b0 b1 b2 d0 d1 d2 F s0 s1 s2) (y : Dbl Y p c0 b0 d0 35) (hp : 0 < p) : Sum3 c0 c1 c2 b0 b1 b2 d0 d1 d2 (F.add Y) (s0 + p) s1 s2 := by
  refine ⟨?_, ?_, ?_, ?_, ?_, ?_, ?_, ?_, x.gd.add y.gd⟩
  · show Y.a + F.a = _; rw [x.fa, y.fa]; omega
  · show Y.b + F.b = _; rw [x.fb, y.fb, Int.natCast_add, Int.add_mul]; omega
  · show Y.c + F.c = _; rw [x.fc, y.fc, Int.natCast_add, Int.add_mul]; omega
  · show Y.d + F.d = _; rw [x.fd, y.fd, Int.natCast_add, Int.add_mul]; omega
  · show getM (addC F.M Y.M) _ = _
    rw [getM_add _ _ _ y.gd.nd, x.all, y.all, add_all (fun ⟨h1, h2, h3⟩ => by subst h1 h2 h3; simp), if_neg (by omega), Int.natCast_add, Int.add_mul]
    congr 2; omega
  · show getM (addC F.M Y.M) _ = _
    rw [getM_add _ _ _ y.gd.nd, x.o0, y.own, add_own hp]
  · show getM (addC F.M Y.M) _ = _
    rw [getM_add _ _ _ y.gd.nd, x.o1, y.oth _ ne2 ne4.symm]; cases (if s1 = 0 then none else some (CV.pair s1 (s1 * c1))) <;> rfl
  · show getM (addC F.M Y.M) _ = _
    rw [getM_add _ _ _ y.gd.nd, x.o2, y.oth _ ne3 ne5.symm]; cases (if s2 = 0 then none else some (CV.pair s2 (s2 * c2))) <;> rfl
theorem Sum3.add1 (x : Sum3 c0 c1 c2 b0 b1 b2 d0 d1 d2 F s0 s1 s2) (y : Dbl Y p c1 b1 d1 34) (hp : 0 < p) : Sum3 c0 c1 c2 b0 b1 b2 d0 d1 d2 (F.add Y) s0 (s1 + p) s2 := by
  refine ⟨?_, ?_, ?_, ?_, ?_, ?_, ?_, ?_, x.gd.add y.gd⟩
  · show Y.a + F.a = _; rw [x.fa, y.fa]; omega
  · show Y.b + F.b = _; rw [x.fb, y.fb, Int.natCast_add, Int.add_mul]; omega
  · show Y.c + F.c = _; rw [x.fc, y.fc, Int.natCast_add, Int.add_mul]; omega
  · show Y.d + F.d = _; rw [x.fd, y.fd, Int.natCast_add, Int.add_mul]; omega
  · show getM (addC F.M Y.M) _ = _
    rw [getM_add _ _ _ y.gd.nd, x.all, y.all, add_all (fun ⟨h1, h2, h3⟩ => by subst h1 h2 h3; simp), if_neg (by omega), Int.natCast_add, Int.add_mul]
    congr 2; omega
  · show getM (addC F.M Y.M) _ = _
    rw [getM_add _ _ _ y.gd.nd, x.o0, y.oth _ ne1 ne4]; cases (if s0 = 0 then none else some (CV.pair s0 (s0 * c0))) <;> rfl
  · show getM (addC F.M Y.M) _ = _
    rw [getM_add _ _ _ y.gd.nd, x.o1, y.own, add_own hp]
  · show getM (addC F.M Y.M) _ = _
    rw [getM_add _ _ _ y.gd.nd, x.o2, y.oth _ ne3 ne6.symm]; cases (if s2 = 0 then none else some (CV.pair s2 (s2 * c2))) <;> rfl
theorem Sum3.add2 (x : Sum3 c0 c1 c2 b0 b1 b2 d0 d1 d2 F s0 s1 s2) (y : Dbl Y p c2 b2 d2 97) (hp : 0 < p) : Sum3 c0 c1 c2 b0 b1 b2 d0 d1 d2 (F.add Y) s0 s1 (s2 + p) := by
  refine ⟨?_, ?_, ?_, ?_, ?_, ?_, ?_, ?_, x.gd.add y.gd⟩
  · show Y.a + F.a = _; rw [x.fa, y.fa]; omega
  · show Y.b + F.b = _; rw [x.fb, y.fb, Int.natCast_add, Int.add_mul]; omega
  · show Y.c + F.c = _; rw [x.fc, y.fc, Int.natCast_add, Int.add_mul]; omega
  · show Y.d + F.d = _; rw [x.fd, y.fd, Int.natCast_add, Int.add_mul]; omega
  · show getM (addC F.M Y.M) _ = _
    rw [getM_add _ _ _ y.gd.nd, x.all, y.all, add_all (fun ⟨h1, h2, h3⟩ => by subst h1 h2 h3; simp), if_neg (by omega), Int.natCast_add, Int.add_mul]
    congr 2; omega
  · show getM (addC F.M Y.M) _ = _
    rw [getM_add _ _ _ y.gd.nd, x.o0, y.oth _ ne1 ne5]; cases (if s0 = 0 then none else some (CV.pair s0 (s0 * c0))) <;> rfl
  · show getM (addC F.M Y.M) _ = _
    rw [getM_add _ _ _ y.gd.nd, x.o1, y.oth _ ne2 ne6]; cases (if s1 = 0 then none else some (CV.pair s1 (s1 * c1))) <;> rfl
  · show getM (addC F.M Y.M) _ = _
    rw [getM_add _ _ _ y.gd.nd, x.o2, y.own, add_own hp]
theorem odd1 {n : Nat} (h : oddB n = true) : n % 2 = 1 := by simpa [oddB] using h
theorem odd0 {n : Nat} (h : oddB n = false) : n % 2 = 0 := by have : ¬ n % 2 = 1 := by simpa [oddB] using h
                                                              omega
theorem half_eq (s p n : Nat) : s + p * (n % 2) + 2 * p * (n / 2) = s + p * n := by
  conv => rhs; rw [← Nat.mod_add_div n 2, Nat.mul_add, ← Nat.mul_assoc, Nat.mul_comm p 2]
  omega
theorem run_sum : ∀ (n : Nat) {n0 n1 n2 p s0 s1 s2 : Nat} {F Y0 Y1 Y2 : Ey}, n0 < 2 ^ n → n1 < 2 ^ n → n2 < 2 ^ n → 0 < p → Sum3 c0 c1 c2 b0 b1 b2 d0 d1 d2 F s0 s1 s2 → Dbl Y0 p c0 b0 d0 35 → Dbl Y1 p c1 b1 d1 34 → Dbl Y2 p c2 b2 d2 97 →
    Sum3 c0 c1 c2 b0 b1 b2 d0 d1 d2 (runF n n0 n1 n2 F Y0 Y1 Y2) (s0 + p * n0) (s1 + p * n1) (s2 + p * n2)
  | 0, n0, n1, n2, p, s0, s1, s2, F, Y0, Y1, Y2, h0, h1, h2, hp, x, y0, y1, y2 => by
    obtain rfl : n0 = 0 := by omega
    obtain rfl : n1 = 0 := by omega
    obtain rfl : n2 = 0 := by omega
    exact x
  | n + 1, n0, n1, n2, p, s0, s1, s2, F, Y0, Y1, Y2, h0, h1, h2, hp, x, y0, y1, y2 => by
    rw [Nat.pow_succ] at h0 h1 h2
    have x0 : Sum3 c0 c1 c2 b0 b1 b2 d0 d1 d2 (st1 n0 F Y0) (s0 + p * (n0 % 2)) s1 s2 := by
      unfold st1
      cases q : oddB n0
      · rw [odd0 q]; exact x
      · rw [odd1 q, Nat.mul_one]; exact x.add0 y0 hp
    have x1 : Sum3 c0 c1 c2 b0 b1 b2 d0 d1 d2 (st1 n1 (st1 n0 F Y0) Y1) (s0 + p * (n0 % 2)) (s1 + p * (n1 % 2)) s2 := by
      conv => arg 10; unfold st1
      cases q : oddB n1
      · rw [odd0 q]; exact x0
      · rw [odd1 q, Nat.mul_one]; exact x0.add1 y1 hp
    have x2 : Sum3 c0 c1 c2 b0 b1 b2 d0 d1 d2 (stF n0 n1 n2 F Y0 Y1 Y2) (s0 + p * (n0 % 2)) (s1 + p * (n1 % 2)) (s2 + p * (n2 % 2)) := by
      unfold stF
      conv => arg 10; unfold st1
      cases q : oddB n2
      · rw [odd0 q]; exact x1
      · rw [odd1 q, Nat.mul_one]; exact x1.add2 y2 hp
    have := run_sum n (by omega) (by omega) (by omega) (by omega : 0 < 2 * p) x2 y0.dbl y1.dbl y2.dbl (n0 := n0 / 2) (n1 := n1 / 2) (n2 := n2 / 2)
    rw [half_eq, half_eq, half_eq] at this
    exact this
end
theorem half_zero : ∀ (n : Nat) {m : Nat}, m < 2 ^ n → halfN n m = 0
  | 0, m, h => by show m = 0; omega
  | n + 1, m, h => by
    rw [Nat.pow_succ] at h
    exact half_zero n (by omega)
/-- what the law's entries hold at first -/
noncomputable def eyL (c b d : Int) (a : Nat) : Ey := ⟨1, c, b, d, [(kAll, .num c), (⟨#[a]⟩, .pair 1 c)]⟩
theorem eyL_dbl {c b d : Int} {a : Nat} (ha : Letter a) : Dbl (eyL c b d a) 1 c b d a := by
  have hne : kAll ≠ (⟨#[a]⟩ : Str) := by rcases ha with rfl | rfl | rfl <;> decide
  refine ⟨rfl, by simp [eyL], by simp [eyL], by simp [eyL], ?_, ?_, fun k h1 h2 => ?_, ⟨fun c' hc => ?_, fun c' hc => ?_, ?_⟩⟩
  · show getM (_ :: _) _ = _; rw [getM_cons, if_pos rfl]; simp
  · show getM (_ :: _) _ = _; rw [getM_cons, if_neg hne, getM_cons, if_pos rfl]; simp
  · show getM (_ :: _) _ = _; rw [getM_cons, if_neg (fun e => h1 e.symm), getM_cons, if_neg (fun e => h2 e.symm)]; rfl
  · rcases List.mem_cons.mp hc with rfl | hc
    · exact (by decide : kAll ∈ keys4)
    · rw [List.mem_singleton.mp hc]; show (⟨#[a]⟩ : Str) ∈ keys4; rcases ha with rfl | rfl | rfl <;> decide
  · rcases List.mem_cons.mp hc with rfl | hc
    · rfl
    · rw [List.mem_singleton.mp hc]; show false = decide ((⟨#[a]⟩ : Str) = kAll); exact (decide_eq_false (fun e => hne e.symm)).symm
  · show [kAll, ⟨#[a]⟩].Nodup
    simp [hne]
theorem sum0 {c0 c1 c2 b0 b1 b2 d0 d1 d2 : Int} : Sum3 c0 c1 c2 b0 b1 b2 d0 d1 d2 ⟨0, 0, 0, 0, []⟩ 0 0 0 := by
  refine ⟨rfl, by simp, by simp, by simp, rfl, rfl, rfl, rfl, ⟨(fun c h => nomatch h), (fun c h => nomatch h), List.nodup_nil⟩⟩
end Mine
end
/-! ## Rl -/
section
open PySem PySem.W PyProof.Rows
set_option Elab.async false
set_option linter.unusedVariables false
set_option maxRecDepth 100000
set_option maxHeartbeats 2000000
namespace Mine
/-! ## powers of two -/
section
variable {C : Cx} {A₀ : Around} {R₀ : Post Result} {T : Nat → Option Obj} {h₀ : Heap} {fp : List Addr} {tk : Nat} {g : Gs} {h : Heap} {l : List Ent} {κ : Kont} {r : Result}
theorem bits2 : Builtin.Int.intBits 2 = 2 := by decide +kernel
theorem go_pow {F H : Nat} (n : Nat) (b p : Int) (S : St T h₀ h fp l) (hn : 1 ≤ n ∧ n ≤ 100) (hb : b = n) (hp : (2 : Int) ^ n = p)
    (hk : ((simA C A₀ T h.objs.size tk F κ r l H).acc.map (·.1), isRet κ, see (simA C A₀ T h.objs.size tk F κ r l H)) = ((simA C A₀ T h.objs.size tk F κ r l H).acc.map (·.2), true, .bi 116512447577011902704086890 [.int 2, .int b]))
    (k : ∀ h' t' tk', St T h₀ h' fp (simA C A₀ T h.objs.size tk F κ r l H).l → After C A₀ R₀ (κO (simA C A₀ T h.objs.size tk F κ r l H)) (.ok (.ret (.int p t'))) h' g tk') : After C A₀ R₀ κ r h g tk := by
  subst hp hb
  refine go_bi _ _ S hk fun h' tk' id vs hid hvs S' => ?_
  obtain ⟨v, w, rfl, hv, hw⟩ := map_two hvs
  obtain ⟨t1, rfl⟩ := vv_int hv
  obtain ⟨t2, rfl⟩ := vv_int hw
  refine builtin_gives (codeS_eq hid) (b := "int.__pow__") (by decide +kernel) PySem.F.entry_int_pow (by decide +kernel) (AutoIntG2.int___pow___int_int_4 2 t1 (n : Int) t2 (by omega) (by simp; omega) (by decide) (by decide) ?_) ?_
  · rw [bits2]
    unfold Builtin.Int.intTooBig
    simp only [decide_eq_true_eq]
    have : bitsLine = 134217728 := rfl
    omega
  · exact ⟨_, _, _, rfl, k _ _ _ S'⟩
end

/-! ## The rounds' comprehension -/
noncomputable def asgVal : Stmt → Expr
  | .Assign _ v _ => v
  | _ => .Constant .none 0 ⟨0, 0, 0, 0⟩
noncomputable def binR : Expr → Expr
  | .BinOp _ _ r _ => r
  | e => e
noncomputable def arg0 : Expr → Expr
  | .Call _ (x :: _) _ _ => x
  | e => e
noncomputable def compSc : Expr → Scope
  | .ListComp _ _ s _ => s
  | _ => default
noncomputable def rlE : Expr := arg0 (binR (asgVal (nthS (bodyOf (stm 15)) 7)))
noncomputable def rlScope : Scope := { compSc rlE with names := (compSc rlE).names.map fun p => (p.1, if p.2 == .free then .cell else p.2) }
noncomputable def envR (L fr cC : Addr) : Env := { scope := rlScope, locals := L, globals := 3, cells := [(⟨#[99, 111, 117, 110, 116, 115]⟩, cC)], qual := ⟨#[108, 97, 119, 46, 60, 108, 111, 99, 97, 108, 115, 62, 46]⟩, func := none, code := .ref 127, frame := some fr, builtins := 0 }
noncomputable abbrev rlCode (it acc L fr cC : Addr) : Code := .compLoop rlE 0 (.ref it) (.ref acc) (envR L fr cC)
noncomputable def vTJ (t : VV) (i : Int) : OV := ⟨.type "tuple_iterator", none, .fields [t, .int i], []⟩
noncomputable abbrev vDk (P : Params) (i : Int) : OV := vDict [en P k_k (.int i)] 1
section
variable {C : Cx} {A : Around} {R : Post Result} {h₀ h : Heap} {g : Gs} {fp : List Addr} {tk : Nat} {it acc L fr cC D tp : Addr} {a b c : Int} {dn : Nat} {τ : List (List Tok)}
theorem rt_000 (hA : A.handled = none) (hroom : A.depth + 40 < recursionLimit) (hq : decide (max (max a b) c ≥ 2) = false)
    (S : St (topObj C.w.params) h₀ h fp (mkL [⟨it, true, vTJ (.ref tp) 0⟩, ⟨acc, true, vList [] 0⟩, ⟨L, true, vDict [] 0⟩, ⟨cC, false, vCell (.ref D)⟩, ⟨D, false, vList [.int a, .int b, .int c] dn⟩, ⟨tp, false, vTup [.int 1, .int 2, .int 3]⟩] τ))
    (kk : ∀ h' tk' τ', St (topObj C.w.params) h₀ h' fp (mkL [⟨it, true, vTJ (.ref tp) 1⟩, ⟨acc, true, vList [] 0⟩, ⟨L, true, vDk C.w.params 1⟩, ⟨cC, false, vCell (.ref D)⟩, ⟨D, false, vList [.int a, .int b, .int c] dn⟩, ⟨tp, false, vTup [.int 1, .int 2, .int 3]⟩] τ') → CodeP C A (rlCode it acc L fr cC) R h' g tk') :
    CodeP C A (rlCode it acc L fr cC) R h g tk := by
  obtain ⟨hd', dp, fr', gs, un⟩ := A
  cases hA
  have hroom' : dp + 40 < recursionLimit := hroom
  refine enter ?_
  refine go_bid (F := 25) (H := 5192296862165148016290538745496577) 7955054 [.ref D] 0 S (by kernel_rfl!) fun h1 tk1 id vs hid hvs hdp hh1 S1 => ?_
  obtain ⟨v, rfl, hv⟩ := map_one hvs
  obtain rfl := vv_ref hv
  rw [id_of (b := "max") (codeS_eq hid) (by decide +kernel)]
  refine S1.lendG [4] [false] (fun τ1 Sc Sb => max_t (a := a) (b := b) (c := c) (dn := dn) hh1 (by rw [hdp]; show dp + 0 + 20 < _; omega) Sc fun h2 tk2 t2 τ2 S2 => ?_) (by kernel_rfl!)
  have S3 := Sb [] S2 (by kernel_rfl!)
  refine go_pow (F := 6) (H := 3) 1 1 2 S3 (by decide) rfl (by decide) (by kernel_rfl!) fun h3 t3 tk3 S3p => ?_
  refine go_ge (F := 3) (H := 0) (max (max a b) c) 2 false S3p hq (by kernel_rfl!) fun h4 tk4 S4 => ?_
  refine go_again (F := 0) (H := 0) (c' := rlCode it acc L fr cC) S4 (fun h5 tk5 S5 => S5.give [0, 1, 2, 3, 4, 5] (fun τ S => kk _ _ τ S) (by kernel_rfl!)) (by kernel_rfl!)
theorem rt_001 (hA : A.handled = none) (hroom : A.depth + 40 < recursionLimit) (hq : decide (max (max a b) c ≥ 2) = true)
    (S : St (topObj C.w.params) h₀ h fp (mkL [⟨it, true, vTJ (.ref tp) 0⟩, ⟨acc, true, vList [] 0⟩, ⟨L, true, vDict [] 0⟩, ⟨cC, false, vCell (.ref D)⟩, ⟨D, false, vList [.int a, .int b, .int c] dn⟩, ⟨tp, false, vTup [.int 1, .int 2, .int 3]⟩] τ))
    (kk : ∀ h' tk' τ', St (topObj C.w.params) h₀ h' fp (mkL [⟨it, true, vTJ (.ref tp) 1⟩, ⟨acc, true, vList [.int 1] 1⟩, ⟨L, true, vDk C.w.params 1⟩, ⟨cC, false, vCell (.ref D)⟩, ⟨D, false, vList [.int a, .int b, .int c] dn⟩, ⟨tp, false, vTup [.int 1, .int 2, .int 3]⟩] τ') → CodeP C A (rlCode it acc L fr cC) R h' g tk') :
    CodeP C A (rlCode it acc L fr cC) R h g tk := by
  obtain ⟨hd', dp, fr', gs, un⟩ := A
  cases hA
  have hroom' : dp + 40 < recursionLimit := hroom
  refine enter ?_
  refine go_bid (F := 25) (H := 5192296862165148016290538745496577) 7955054 [.ref D] 0 S (by kernel_rfl!) fun h1 tk1 id vs hid hvs hdp hh1 S1 => ?_
  obtain ⟨v, rfl, hv⟩ := map_one hvs
  obtain rfl := vv_ref hv
  rw [id_of (b := "max") (codeS_eq hid) (by decide +kernel)]
  refine S1.lendG [4] [false] (fun τ1 Sc Sb => max_t (a := a) (b := b) (c := c) (dn := dn) hh1 (by rw [hdp]; show dp + 0 + 20 < _; omega) Sc fun h2 tk2 t2 τ2 S2 => ?_) (by kernel_rfl!)
  have S3 := Sb [] S2 (by kernel_rfl!)
  refine go_pow (F := 6) (H := 3) 1 1 2 S3 (by decide) rfl (by decide) (by kernel_rfl!) fun h3 t3 tk3 S3p => ?_
  refine go_ge (F := 3) (H := 0) (max (max a b) c) 2 true S3p hq (by kernel_rfl!) fun h4 tk4 S4 => ?_
  refine go_again (F := 9) (H := 2201172838403) (c' := rlCode it acc L fr cC) S4 (fun h5 tk5 S5 => S5.give [0, 1, 2, 3, 4, 5] (fun τ S => kk _ _ τ S) (by kernel_rfl!)) (by kernel_rfl!)
theorem rt_100 (hA : A.handled = none) (hroom : A.depth + 40 < recursionLimit) (hq : decide (max (max a b) c ≥ 4) = false)
    (S : St (topObj C.w.params) h₀ h fp (mkL [⟨it, true, vTJ (.ref tp) 1⟩, ⟨acc, true, vList [] 0⟩, ⟨L, true, vDk C.w.params 1⟩, ⟨cC, false, vCell (.ref D)⟩, ⟨D, false, vList [.int a, .int b, .int c] dn⟩, ⟨tp, false, vTup [.int 1, .int 2, .int 3]⟩] τ))
    (kk : ∀ h' tk' τ', St (topObj C.w.params) h₀ h' fp (mkL [⟨it, true, vTJ (.ref tp) 2⟩, ⟨acc, true, vList [] 0⟩, ⟨L, true, vDk C.w.params 2⟩, ⟨cC, false, vCell (.ref D)⟩, ⟨D, false, vList [.int a, .int b, .int c] dn⟩, ⟨tp, false, vTup [.int 1, .int 2, .int 3]⟩] τ') → CodeP C A (rlCode it acc L fr cC) R h' g tk') :
    CodeP C A (rlCode it acc L fr cC) R h g tk := by
  obtain ⟨hd', dp, fr', gs, un⟩ := A
  cases hA
  have hroom' : dp + 40 < recursionLimit := hroom
  refine enter ?_
  refine go_bid (F := 25) (H := 5192296862165148016290538745496577) 7955054 [.ref D] 0 S (by kernel_rfl!) fun h1 tk1 id vs hid hvs hdp hh1 S1 => ?_
  obtain ⟨v, rfl, hv⟩ := map_one hvs
  obtain rfl := vv_ref hv
  rw [id_of (b := "max") (codeS_eq hid) (by decide +kernel)]
  refine S1.lendG [4] [false] (fun τ1 Sc Sb => max_t (a := a) (b := b) (c := c) (dn := dn) hh1 (by rw [hdp]; show dp + 0 + 20 < _; omega) Sc fun h2 tk2 t2 τ2 S2 => ?_) (by kernel_rfl!)
  have S3 := Sb [] S2 (by kernel_rfl!)
  refine go_pow (F := 6) (H := 3) 2 2 4 S3 (by decide) rfl (by decide) (by kernel_rfl!) fun h3 t3 tk3 S3p => ?_
  refine go_ge (F := 3) (H := 0) (max (max a b) c) 4 false S3p hq (by kernel_rfl!) fun h4 tk4 S4 => ?_
  refine go_again (F := 0) (H := 0) (c' := rlCode it acc L fr cC) S4 (fun h5 tk5 S5 => S5.give [0, 1, 2, 3, 4, 5] (fun τ S => kk _ _ τ S) (by kernel_rfl!)) (by kernel_rfl!)
theorem rt_110 (hA : A.handled = none) (hroom : A.depth + 40 < recursionLimit) (hq : decide (max (max a b) c ≥ 4) = false)
    (S : St (topObj C.w.params) h₀ h fp (mkL [⟨it, true, vTJ (.ref tp) 1⟩, ⟨acc, true, vList [.int 1] 1⟩, ⟨L, true, vDk C.w.params 1⟩, ⟨cC, false, vCell (.ref D)⟩, ⟨D, false, vList [.int a, .int b, .int c] dn⟩, ⟨tp, false, vTup [.int 1, .int 2, .int 3]⟩] τ))
    (kk : ∀ h' tk' τ', St (topObj C.w.params) h₀ h' fp (mkL [⟨it, true, vTJ (.ref tp) 2⟩, ⟨acc, true, vList [.int 1] 1⟩, ⟨L, true, vDk C.w.params 2⟩, ⟨cC, false, vCell (.ref D)⟩, ⟨D, false, vList [.int a, .int b, .int c] dn⟩, ⟨tp, false, vTup [.int 1, .int 2, .int 3]⟩] τ') → CodeP C A (rlCode it acc L fr cC) R h' g tk') :
    CodeP C A (rlCode it acc L fr cC) R h g tk := by
  obtain ⟨hd', dp, fr', gs, un⟩ := A
  cases hA
  have hroom' : dp + 40 < recursionLimit := hroom
  refine enter ?_
  refine go_bid (F := 25) (H := 5192296862165148016290538745496577) 7955054 [.ref D] 0 S (by kernel_rfl!) fun h1 tk1 id vs hid hvs hdp hh1 S1 => ?_
  obtain ⟨v, rfl, hv⟩ := map_one hvs
  obtain rfl := vv_ref hv
  rw [id_of (b := "max") (codeS_eq hid) (by decide +kernel)]
  refine S1.lendG [4] [false] (fun τ1 Sc Sb => max_t (a := a) (b := b) (c := c) (dn := dn) hh1 (by rw [hdp]; show dp + 0 + 20 < _; omega) Sc fun h2 tk2 t2 τ2 S2 => ?_) (by kernel_rfl!)
  have S3 := Sb [] S2 (by kernel_rfl!)
  refine go_pow (F := 6) (H := 3) 2 2 4 S3 (by decide) rfl (by decide) (by kernel_rfl!) fun h3 t3 tk3 S3p => ?_
  refine go_ge (F := 3) (H := 0) (max (max a b) c) 4 false S3p hq (by kernel_rfl!) fun h4 tk4 S4 => ?_
  refine go_again (F := 0) (H := 0) (c' := rlCode it acc L fr cC) S4 (fun h5 tk5 S5 => S5.give [0, 1, 2, 3, 4, 5] (fun τ S => kk _ _ τ S) (by kernel_rfl!)) (by kernel_rfl!)
theorem rt_111 (hA : A.handled = none) (hroom : A.depth + 40 < recursionLimit) (hq : decide (max (max a b) c ≥ 4) = true)
    (S : St (topObj C.w.params) h₀ h fp (mkL [⟨it, true, vTJ (.ref tp) 1⟩, ⟨acc, true, vList [.int 1] 1⟩, ⟨L, true, vDk C.w.params 1⟩, ⟨cC, false, vCell (.ref D)⟩, ⟨D, false, vList [.int a, .int b, .int c] dn⟩, ⟨tp, false, vTup [.int 1, .int 2, .int 3]⟩] τ))
    (kk : ∀ h' tk' τ', St (topObj C.w.params) h₀ h' fp (mkL [⟨it, true, vTJ (.ref tp) 2⟩, ⟨acc, true, vList [.int 1, .int 2] 2⟩, ⟨L, true, vDk C.w.params 2⟩, ⟨cC, false, vCell (.ref D)⟩, ⟨D, false, vList [.int a, .int b, .int c] dn⟩, ⟨tp, false, vTup [.int 1, .int 2, .int 3]⟩] τ') → CodeP C A (rlCode it acc L fr cC) R h' g tk') :
    CodeP C A (rlCode it acc L fr cC) R h g tk := by
  obtain ⟨hd', dp, fr', gs, un⟩ := A
  cases hA
  have hroom' : dp + 40 < recursionLimit := hroom
  refine enter ?_
  refine go_bid (F := 25) (H := 5192296862165148016290538745496577) 7955054 [.ref D] 0 S (by kernel_rfl!) fun h1 tk1 id vs hid hvs hdp hh1 S1 => ?_
  obtain ⟨v, rfl, hv⟩ := map_one hvs
  obtain rfl := vv_ref hv
  rw [id_of (b := "max") (codeS_eq hid) (by decide +kernel)]
  refine S1.lendG [4] [false] (fun τ1 Sc Sb => max_t (a := a) (b := b) (c := c) (dn := dn) hh1 (by rw [hdp]; show dp + 0 + 20 < _; omega) Sc fun h2 tk2 t2 τ2 S2 => ?_) (by kernel_rfl!)
  have S3 := Sb [] S2 (by kernel_rfl!)
  refine go_pow (F := 6) (H := 3) 2 2 4 S3 (by decide) rfl (by decide) (by kernel_rfl!) fun h3 t3 tk3 S3p => ?_
  refine go_ge (F := 3) (H := 0) (max (max a b) c) 4 true S3p hq (by kernel_rfl!) fun h4 tk4 S4 => ?_
  refine go_again (F := 9) (H := 2201172838403) (c' := rlCode it acc L fr cC) S4 (fun h5 tk5 S5 => S5.give [0, 1, 2, 3, 4, 5] (fun τ S => kk _ _ τ S) (by kernel_rfl!)) (by kernel_rfl!)
theorem rt_200 (hA : A.handled = none) (hroom : A.depth + 40 < recursionLimit) (hq : decide (max (max a b) c ≥ 8) = false)
    (S : St (topObj C.w.params) h₀ h fp (mkL [⟨it, true, vTJ (.ref tp) 2⟩, ⟨acc, true, vList [] 0⟩, ⟨L, true, vDk C.w.params 2⟩, ⟨cC, false, vCell (.ref D)⟩, ⟨D, false, vList [.int a, .int b, .int c] dn⟩, ⟨tp, false, vTup [.int 1, .int 2, .int 3]⟩] τ))
    (kk : ∀ h' tk' τ', St (topObj C.w.params) h₀ h' fp (mkL [⟨it, true, vTJ (.ref tp) 3⟩, ⟨acc, true, vList [] 0⟩, ⟨L, true, vDk C.w.params 3⟩, ⟨cC, false, vCell (.ref D)⟩, ⟨D, false, vList [.int a, .int b, .int c] dn⟩, ⟨tp, false, vTup [.int 1, .int 2, .int 3]⟩] τ') → CodeP C A (rlCode it acc L fr cC) R h' g tk') :
    CodeP C A (rlCode it acc L fr cC) R h g tk := by
  obtain ⟨hd', dp, fr', gs, un⟩ := A
  cases hA
  have hroom' : dp + 40 < recursionLimit := hroom
  refine enter ?_
  refine go_bid (F := 25) (H := 5192296862165148016290538745496577) 7955054 [.ref D] 0 S (by kernel_rfl!) fun h1 tk1 id vs hid hvs hdp hh1 S1 => ?_
  obtain ⟨v, rfl, hv⟩ := map_one hvs
  obtain rfl := vv_ref hv
  rw [id_of (b := "max") (codeS_eq hid) (by decide +kernel)]
  refine S1.lendG [4] [false] (fun τ1 Sc Sb => max_t (a := a) (b := b) (c := c) (dn := dn) hh1 (by rw [hdp]; show dp + 0 + 20 < _; omega) Sc fun h2 tk2 t2 τ2 S2 => ?_) (by kernel_rfl!)
  have S3 := Sb [] S2 (by kernel_rfl!)
  refine go_pow (F := 6) (H := 3) 3 3 8 S3 (by decide) rfl (by decide) (by kernel_rfl!) fun h3 t3 tk3 S3p => ?_
  refine go_ge (F := 3) (H := 0) (max (max a b) c) 8 false S3p hq (by kernel_rfl!) fun h4 tk4 S4 => ?_
  refine go_again (F := 0) (H := 0) (c' := rlCode it acc L fr cC) S4 (fun h5 tk5 S5 => S5.give [0, 1, 2, 3, 4, 5] (fun τ S => kk _ _ τ S) (by kernel_rfl!)) (by kernel_rfl!)
theorem rt_210 (hA : A.handled = none) (hroom : A.depth + 40 < recursionLimit) (hq : decide (max (max a b) c ≥ 8) = false)
    (S : St (topObj C.w.params) h₀ h fp (mkL [⟨it, true, vTJ (.ref tp) 2⟩, ⟨acc, true, vList [.int 1] 1⟩, ⟨L, true, vDk C.w.params 2⟩, ⟨cC, false, vCell (.ref D)⟩, ⟨D, false, vList [.int a, .int b, .int c] dn⟩, ⟨tp, false, vTup [.int 1, .int 2, .int 3]⟩] τ))
    (kk : ∀ h' tk' τ', St (topObj C.w.params) h₀ h' fp (mkL [⟨it, true, vTJ (.ref tp) 3⟩, ⟨acc, true, vList [.int 1] 1⟩, ⟨L, true, vDk C.w.params 3⟩, ⟨cC, false, vCell (.ref D)⟩, ⟨D, false, vList [.int a, .int b, .int c] dn⟩, ⟨tp, false, vTup [.int 1, .int 2, .int 3]⟩] τ') → CodeP C A (rlCode it acc L fr cC) R h' g tk') :
    CodeP C A (rlCode it acc L fr cC) R h g tk := by
  obtain ⟨hd', dp, fr', gs, un⟩ := A
  cases hA
  have hroom' : dp + 40 < recursionLimit := hroom
  refine enter ?_
  refine go_bid (F := 25) (H := 5192296862165148016290538745496577) 7955054 [.ref D] 0 S (by kernel_rfl!) fun h1 tk1 id vs hid hvs hdp hh1 S1 => ?_
  obtain ⟨v, rfl, hv⟩ := map_one hvs
  obtain rfl := vv_ref hv
  rw [id_of (b := "max") (codeS_eq hid) (by decide +kernel)]
  refine S1.lendG [4] [false] (fun τ1 Sc Sb => max_t (a := a) (b := b) (c := c) (dn := dn) hh1 (by rw [hdp]; show dp + 0 + 20 < _; omega) Sc fun h2 tk2 t2 τ2 S2 => ?_) (by kernel_rfl!)
  have S3 := Sb [] S2 (by kernel_rfl!)
  refine go_pow (F := 6) (H := 3) 3 3 8 S3 (by decide) rfl (by decide) (by kernel_rfl!) fun h3 t3 tk3 S3p => ?_
  refine go_ge (F := 3) (H := 0) (max (max a b) c) 8 false S3p hq (by kernel_rfl!) fun h4 tk4 S4 => ?_
  refine go_again (F := 0) (H := 0) (c' := rlCode it acc L fr cC) S4 (fun h5 tk5 S5 => S5.give [0, 1, 2, 3, 4, 5] (fun τ S => kk _ _ τ S) (by kernel_rfl!)) (by kernel_rfl!)
theorem rt_220 (hA : A.handled = none) (hroom : A.depth + 40 < recursionLimit) (hq : decide (max (max a b) c ≥ 8) = false)
    (S : St (topObj C.w.params) h₀ h fp (mkL [⟨it, true, vTJ (.ref tp) 2⟩, ⟨acc, true, vList [.int 1, .int 2] 2⟩, ⟨L, true, vDk C.w.params 2⟩, ⟨cC, false, vCell (.ref D)⟩, ⟨D, false, vList [.int a, .int b, .int c] dn⟩, ⟨tp, false, vTup [.int 1, .int 2, .int 3]⟩] τ))
    (kk : ∀ h' tk' τ', St (topObj C.w.params) h₀ h' fp (mkL [⟨it, true, vTJ (.ref tp) 3⟩, ⟨acc, true, vList [.int 1, .int 2] 2⟩, ⟨L, true, vDk C.w.params 3⟩, ⟨cC, false, vCell (.ref D)⟩, ⟨D, false, vList [.int a, .int b, .int c] dn⟩, ⟨tp, false, vTup [.int 1, .int 2, .int 3]⟩] τ') → CodeP C A (rlCode it acc L fr cC) R h' g tk') :
    CodeP C A (rlCode it acc L fr cC) R h g tk := by
  obtain ⟨hd', dp, fr', gs, un⟩ := A
  cases hA
  have hroom' : dp + 40 < recursionLimit := hroom
  refine enter ?_
  refine go_bid (F := 25) (H := 5192296862165148016290538745496577) 7955054 [.ref D] 0 S (by kernel_rfl!) fun h1 tk1 id vs hid hvs hdp hh1 S1 => ?_
  obtain ⟨v, rfl, hv⟩ := map_one hvs
  obtain rfl := vv_ref hv
  rw [id_of (b := "max") (codeS_eq hid) (by decide +kernel)]
  refine S1.lendG [4] [false] (fun τ1 Sc Sb => max_t (a := a) (b := b) (c := c) (dn := dn) hh1 (by rw [hdp]; show dp + 0 + 20 < _; omega) Sc fun h2 tk2 t2 τ2 S2 => ?_) (by kernel_rfl!)
  have S3 := Sb [] S2 (by kernel_rfl!)
  refine go_pow (F := 6) (H := 3) 3 3 8 S3 (by decide) rfl (by decide) (by kernel_rfl!) fun h3 t3 tk3 S3p => ?_
  refine go_ge (F := 3) (H := 0) (max (max a b) c) 8 false S3p hq (by kernel_rfl!) fun h4 tk4 S4 => ?_
  refine go_again (F := 0) (H := 0) (c' := rlCode it acc L fr cC) S4 (fun h5 tk5 S5 => S5.give [0, 1, 2, 3, 4, 5] (fun τ S => kk _ _ τ S) (by kernel_rfl!)) (by kernel_rfl!)
theorem rt_221 (hA : A.handled = none) (hroom : A.depth + 40 < recursionLimit) (hq : decide (max (max a b) c ≥ 8) = true)
    (S : St (topObj C.w.params) h₀ h fp (mkL [⟨it, true, vTJ (.ref tp) 2⟩, ⟨acc, true, vList [.int 1, .int 2] 2⟩, ⟨L, true, vDk C.w.params 2⟩, ⟨cC, false, vCell (.ref D)⟩, ⟨D, false, vList [.int a, .int b, .int c] dn⟩, ⟨tp, false, vTup [.int 1, .int 2, .int 3]⟩] τ))
    (kk : ∀ h' tk' τ', St (topObj C.w.params) h₀ h' fp (mkL [⟨it, true, vTJ (.ref tp) 3⟩, ⟨acc, true, vList [.int 1, .int 2, .int 3] 3⟩, ⟨L, true, vDk C.w.params 3⟩, ⟨cC, false, vCell (.ref D)⟩, ⟨D, false, vList [.int a, .int b, .int c] dn⟩, ⟨tp, false, vTup [.int 1, .int 2, .int 3]⟩] τ') → CodeP C A (rlCode it acc L fr cC) R h' g tk') :
    CodeP C A (rlCode it acc L fr cC) R h g tk := by
  obtain ⟨hd', dp, fr', gs, un⟩ := A
  cases hA
  have hroom' : dp + 40 < recursionLimit := hroom
  refine enter ?_
  refine go_bid (F := 25) (H := 5192296862165148016290538745496577) 7955054 [.ref D] 0 S (by kernel_rfl!) fun h1 tk1 id vs hid hvs hdp hh1 S1 => ?_
  obtain ⟨v, rfl, hv⟩ := map_one hvs
  obtain rfl := vv_ref hv
  rw [id_of (b := "max") (codeS_eq hid) (by decide +kernel)]
  refine S1.lendG [4] [false] (fun τ1 Sc Sb => max_t (a := a) (b := b) (c := c) (dn := dn) hh1 (by rw [hdp]; show dp + 0 + 20 < _; omega) Sc fun h2 tk2 t2 τ2 S2 => ?_) (by kernel_rfl!)
  have S3 := Sb [] S2 (by kernel_rfl!)
  refine go_pow (F := 6) (H := 3) 3 3 8 S3 (by decide) rfl (by decide) (by kernel_rfl!) fun h3 t3 tk3 S3p => ?_
  refine go_ge (F := 3) (H := 0) (max (max a b) c) 8 true S3p hq (by kernel_rfl!) fun h4 tk4 S4 => ?_
  refine go_again (F := 9) (H := 2201172838403) (c' := rlCode it acc L fr cC) S4 (fun h5 tk5 S5 => S5.give [0, 1, 2, 3, 4, 5] (fun τ S => kk _ _ τ S) (by kernel_rfl!)) (by kernel_rfl!)
theorem rt_e0 (hA : A.handled = none)
    (S : St (topObj C.w.params) h₀ h fp (mkL [⟨it, true, vTJ (.ref tp) 3⟩, ⟨acc, true, vList [] 0⟩, ⟨L, true, vDk C.w.params 3⟩, ⟨cC, false, vCell (.ref D)⟩, ⟨D, false, vList [.int a, .int b, .int c] dn⟩, ⟨tp, false, vTup [.int 1, .int 2, .int 3]⟩] τ))
    (kk : ∀ h' tk' τ', St (topObj C.w.params) h₀ h' fp (mkL [⟨it, true, vTJ .none 3⟩, ⟨acc, true, vList [] 0⟩, ⟨L, true, vDk C.w.params 3⟩, ⟨cC, false, vCell (.ref D)⟩, ⟨D, false, vList [.int a, .int b, .int c] dn⟩, ⟨tp, false, vTup [.int 1, .int 2, .int 3]⟩] τ') → R (.ok .next) h' g tk') :
    CodeP C A (rlCode it acc L fr cC) R h g tk := by
  obtain ⟨hd', dp, fr', gs, un⟩ := A
  cases hA
  refine enter ?_
  refine go_next (F := 16) (H := 1181745674720069551105) S (by kernel_rfl!) fun h1 tk1 S1 => ?_
  exact S1.give [2, 3, 4, 5, 6, 7] (fun τ' S' => kk _ _ τ' S') (by kernel_rfl!)
theorem rt_e1 (hA : A.handled = none)
    (S : St (topObj C.w.params) h₀ h fp (mkL [⟨it, true, vTJ (.ref tp) 3⟩, ⟨acc, true, vList [.int 1] 1⟩, ⟨L, true, vDk C.w.params 3⟩, ⟨cC, false, vCell (.ref D)⟩, ⟨D, false, vList [.int a, .int b, .int c] dn⟩, ⟨tp, false, vTup [.int 1, .int 2, .int 3]⟩] τ))
    (kk : ∀ h' tk' τ', St (topObj C.w.params) h₀ h' fp (mkL [⟨it, true, vTJ .none 3⟩, ⟨acc, true, vList [.int 1] 1⟩, ⟨L, true, vDk C.w.params 3⟩, ⟨cC, false, vCell (.ref D)⟩, ⟨D, false, vList [.int a, .int b, .int c] dn⟩, ⟨tp, false, vTup [.int 1, .int 2, .int 3]⟩] τ') → R (.ok .next) h' g tk') :
    CodeP C A (rlCode it acc L fr cC) R h g tk := by
  obtain ⟨hd', dp, fr', gs, un⟩ := A
  cases hA
  refine enter ?_
  refine go_next (F := 16) (H := 1181745674720069551105) S (by kernel_rfl!) fun h1 tk1 S1 => ?_
  exact S1.give [2, 3, 4, 5, 6, 7] (fun τ' S' => kk _ _ τ' S') (by kernel_rfl!)
theorem rt_e2 (hA : A.handled = none)
    (S : St (topObj C.w.params) h₀ h fp (mkL [⟨it, true, vTJ (.ref tp) 3⟩, ⟨acc, true, vList [.int 1, .int 2] 2⟩, ⟨L, true, vDk C.w.params 3⟩, ⟨cC, false, vCell (.ref D)⟩, ⟨D, false, vList [.int a, .int b, .int c] dn⟩, ⟨tp, false, vTup [.int 1, .int 2, .int 3]⟩] τ))
    (kk : ∀ h' tk' τ', St (topObj C.w.params) h₀ h' fp (mkL [⟨it, true, vTJ .none 3⟩, ⟨acc, true, vList [.int 1, .int 2] 2⟩, ⟨L, true, vDk C.w.params 3⟩, ⟨cC, false, vCell (.ref D)⟩, ⟨D, false, vList [.int a, .int b, .int c] dn⟩, ⟨tp, false, vTup [.int 1, .int 2, .int 3]⟩] τ') → R (.ok .next) h' g tk') :
    CodeP C A (rlCode it acc L fr cC) R h g tk := by
  obtain ⟨hd', dp, fr', gs, un⟩ := A
  cases hA
  refine enter ?_
  refine go_next (F := 16) (H := 1181745674720069551105) S (by kernel_rfl!) fun h1 tk1 S1 => ?_
  exact S1.give [2, 3, 4, 5, 6, 7] (fun τ' S' => kk _ _ τ' S') (by kernel_rfl!)
theorem rt_e3 (hA : A.handled = none)
    (S : St (topObj C.w.params) h₀ h fp (mkL [⟨it, true, vTJ (.ref tp) 3⟩, ⟨acc, true, vList [.int 1, .int 2, .int 3] 3⟩, ⟨L, true, vDk C.w.params 3⟩, ⟨cC, false, vCell (.ref D)⟩, ⟨D, false, vList [.int a, .int b, .int c] dn⟩, ⟨tp, false, vTup [.int 1, .int 2, .int 3]⟩] τ))
    (kk : ∀ h' tk' τ', St (topObj C.w.params) h₀ h' fp (mkL [⟨it, true, vTJ .none 3⟩, ⟨acc, true, vList [.int 1, .int 2, .int 3] 3⟩, ⟨L, true, vDk C.w.params 3⟩, ⟨cC, false, vCell (.ref D)⟩, ⟨D, false, vList [.int a, .int b, .int c] dn⟩, ⟨tp, false, vTup [.int 1, .int 2, .int 3]⟩] τ') → R (.ok .next) h' g tk') :
    CodeP C A (rlCode it acc L fr cC) R h g tk := by
  obtain ⟨hd', dp, fr', gs, un⟩ := A
  cases hA
  refine enter ?_
  refine go_next (F := 16) (H := 1181745674720069551105) S (by kernel_rfl!) fun h1 tk1 S1 => ?_
  exact S1.give [2, 3, 4, 5, 6, 7] (fun τ' S' => kk _ _ τ' S') (by kernel_rfl!)
theorem rl_all (hA : A.handled = none) (hroom : A.depth + 40 < recursionLimit)
    (S : St (topObj C.w.params) h₀ h fp (mkL [⟨it, true, vTJ (.ref tp) 0⟩, ⟨acc, true, vList [] 0⟩, ⟨L, true, vDict [] 0⟩, ⟨cC, false, vCell (.ref D)⟩, ⟨D, false, vList [.int a, .int b, .int c] dn⟩, ⟨tp, false, vTup [.int 1, .int 2, .int 3]⟩] τ))
    (kk : ∀ h' tk' τ' q V vs, q ≤ 3 → max (max a b) c < 2 ^ (q + 1) ∨ q = 3 → St (topObj C.w.params) h₀ h' fp (mkL [⟨it, true, vTJ .none 3⟩, ⟨acc, true, V⟩, ⟨L, true, vDk C.w.params 3⟩, ⟨cC, false, vCell (.ref D)⟩, ⟨D, false, vList [.int a, .int b, .int c] dn⟩, ⟨tp, false, vTup [.int 1, .int 2, .int 3]⟩] τ') → h'.get? acc = some (oList vs q) → vs.size = q → R (.ok .next) h' g tk') :
    CodeP C A (rlCode it acc L fr cC) R h g tk := by
  by_cases h1 : max (max a b) c ≥ 2
  · refine rt_001 hA hroom (decide_eq_true h1) S fun h1 tk1 τ1 S1 => ?_
    by_cases h2 : max (max a b) c ≥ 4
    · refine rt_111 hA hroom (decide_eq_true h2) S1 fun h2 tk2 τ2 S2 => ?_
      by_cases h3 : max (max a b) c ≥ 8
      · refine rt_221 hA hroom (decide_eq_true h3) S2 fun h3 tk3 τ3 S3 => ?_
        exact rt_e3 hA S3 fun h4 tk4 τ4 S4 => kk _ _ _ 3 _ _ (by omega) (.inr rfl) S4 (S4.at (i := 1) rfl) rfl
      · refine rt_220 hA hroom (decide_eq_false h3) S2 fun h3 tk3 τ3 S3 => ?_
        exact rt_e2 hA S3 fun h4 tk4 τ4 S4 => kk _ _ _ 2 _ _ (by omega) (.inl (by show _ < (8 : Int); omega)) S4 (S4.at (i := 1) rfl) rfl
    · refine rt_110 hA hroom (decide_eq_false h2) S1 fun h2 tk2 τ2 S2 => ?_
      refine rt_210 hA hroom (decide_eq_false (by omega)) S2 fun h3 tk3 τ3 S3 => ?_
      exact rt_e1 hA S3 fun h4 tk4 τ4 S4 => kk _ _ _ 1 _ _ (by omega) (.inl (by show _ < (4 : Int); omega)) S4 (S4.at (i := 1) rfl) rfl
  · refine rt_000 hA hroom (decide_eq_false h1) S fun h1 tk1 τ1 S1 => ?_
    refine rt_100 hA hroom (decide_eq_false (by omega)) S1 fun h2 tk2 τ2 S2 => ?_
    refine rt_200 hA hroom (decide_eq_false (by omega)) S2 fun h3 tk3 τ3 S3 => ?_
    exact rt_e0 hA S3 fun h4 tk4 τ4 S4 => kk _ _ _ 0 _ _ (by omega) (.inl (by show _ < (2 : Int); omega)) S4 (S4.at (i := 1) rfl) rfl
end
end Mine
end
/-! ## Ln -/
section
open PySem PySem.W PyProof.Rows
set_option Elab.async false
set_option linter.unusedVariables false
set_option maxRecDepth 100000
set_option maxHeartbeats 2000000
namespace Mine
open PySem
/-! ## len of a list known by its size -/

section
variable {C : Cx} {A₀ : Around} {R₀ : Post Result} {T : Nat → Option Obj} {h₀ : Heap} {fp : List Addr} {tk : Nat} {g : Gs} {h : Heap} {l : List Ent} {κ : Kont} {r : Result}
theorem go_len {F H : Nat} {D : Addr} {vs : Array Value} {n : Nat} (a b : Nat) (S : St T h₀ h fp l) (ho : h.get? D = some (oList vs n)) (hs : vs.size ≤ 100)
    (hk : ((simA C A₀ T h.objs.size tk F κ r l H).acc.map (·.1), isRet κ, see (simA C A₀ T h.objs.size tk F κ r l H), (nth l a).map (·.a), nth (simA C A₀ T h.objs.size tk F κ r l H).l b) = ((simA C A₀ T h.objs.size tk F κ r l H).acc.map (·.2), true, .bi 7300717 [.ref D], some D, nth l a))
    (k : ∀ h' t' tk', St T h₀ h' fp (simA C A₀ T h.objs.size tk F κ r l H).l → After C A₀ R₀ (κO (simA C A₀ T h.objs.size tk F κ r l H)) (.ok (.ret (.int vs.size t'))) h' g tk') : After C A₀ R₀ κ r h g tk := by
  have e1 := congrArg (·.1) hk
  have e2 := congrArg (·.2.1) hk
  have e3 := congrArg (·.2.2.1) hk
  have e4 := congrArg (·.2.2.2.1) hk
  have e5 := congrArg (·.2.2.2.2) hk
  refine go_bi _ _ S (Prod.ext e1 (Prod.ext e2 e3)) fun h' tk' id vs' hid hvs S' => ?_
  obtain ⟨v, rfl, hv⟩ := map_one hvs
  obtain rfl := vv_ref hv
  obtain ⟨e, he, e6⟩ := Option.map_eq_some_iff.mp e4
  have hb : nth (simA C A₀ T h.objs.size tk F κ r l H).l b = some e := e5.trans he
  have a1 := S.at he
  have a2 := S'.at hb
  have e6' : e.a = D := e6
  rw [e6'] at a1 a2
  rw [ho] at a1
  have ho' : h'.get? D = some (oList vs n) := by rw [a2, ← Option.some.inj a1]
  rw [id_of (b := "len") (codeS_eq hid) (by decide +kernel)]
  refine ⟨codeAny_builtin entry_len ?_⟩
  rw [Around.under_plainId plain_len _]
  have key : wpAny C.M (arO A₀ (simA C A₀ T h.objs.size tk F κ r l H)).in1 (Builtin.«len» ⟨[.ref D], []⟩) (fun fin s' => ∃ rv, fin = .done (.ret rv) ∧ up C (After C A₀ R₀ (κO (simA C A₀ T h.objs.size tk F κ r l H))) (.ok (.ret rv)) s') (fun e s' => up C (After C A₀ R₀ (κO (simA C A₀ T h.objs.size tk F κ r l H))) (.error e) s') ⟨h', g, C.d, tk', C.os⟩ :=
    wpAny_len_body_list ⟨_, ho', rfl, n, rfl⟩ (by omega) ⟨_, _, _, rfl, k _ _ _ S'⟩
  exact wpAny_mono key (fun fin s' h' => by obtain ⟨r, rfl, hq⟩ := h'; exact hq) fun _ _ e => e
end
end Mine
end
/-! ## Ee -/
section
open PySem PySem.W PyProof.Rows
set_option Elab.async false
set_option linter.unusedVariables false
set_option maxRecDepth 100000
set_option maxHeartbeats 400000
namespace Mine
/-! ## Entries as the law writes them -/
theorem hash_en (w : World) (c : Nat) (k : List Nat) : hashStr w ⟨(c :: k).toArray⟩ = hs w.params (c :: k).toArray := by
  unfold hashStr
  rw [if_neg (by simp)]
  show reduceHash _ = PySem.W.ZFast.zw12210062019545310541 _
  rw [← PySem.W.ZFast.ze12210062019545310541]
theorem isk (k : Str) (t : Tok) : Value.isStrOf k (.str k t) = true := by simp [Value.isStrOf]
theorem callers2 {prog : Program} {w : World} {h : Heap} {d T : Addr} {c c' p : Int} {a n : Nat} {τd τt : List Tok} (ha : Letter a) (hd : d ≠ 1)
    (hD : h.get? d = some (mkO (vDict [en w.params [97, 108, 108] (.int c), en w.params [a] (.ref T)] n) τd)) (hT : h.get? T = some (mkO (vTup [.int p, .int c']) τt)) :
    Callers prog w h d [(kAll, .num c), (⟨#[a]⟩, .pair p c')] := by
  have hne : kAll ≠ (⟨#[a]⟩ : Str) := by rcases ha with rfl | rfl | rfl <;> decide
  refine ⟨hd, _, ⟨_, _, n, hD, ⟨rfl, rfl, rfl⟩, rfl, ?_, .cons (kv := (kAll, _)) ?_ rfl (.cons (kv := (⟨#[a]⟩, _)) ?_ rfl .nil), ?_⟩, ⟨⟨rfl, _, rfl⟩, ⟨rfl, T, _, _, rfl, hT⟩, trivial⟩⟩
  · intro e he
    rcases List.mem_cons.mp (Array.mem_toList_iff.mpr he) with rfl | he
    · exact ⟨kAll, isk kAll (hdT τd), (hash_en w 97 [108, 108]).symm⟩
    · rw [List.mem_singleton.mp he]
      exact ⟨⟨#[a]⟩, isk ⟨#[a]⟩ (hdT (tlT (tlT τd))), (hash_en w a []).symm⟩
  · exact isk kAll (hdT τd)
  · exact isk ⟨#[a]⟩ (hdT (tlT (tlT τd)))
  · show [kAll, ⟨#[a]⟩].Nodup
    simp [hne]
theorem ey_at {prog : Program} {w : World} {h : Heap} {e d T : Addr} {c b dd : Int} {a n : Nat} {τe τd τt : List Tok} (ha : Letter a) (hd : d ≠ 1)
    (hE : h.get? e = some (mkO (vTup [.int 1, .int c, .int b, .int dd, .ref d]) τe))
    (hD : h.get? d = some (mkO (vDict [en w.params [97, 108, 108] (.int c), en w.params [a] (.ref T)] n) τd)) (hT : h.get? T = some (mkO (vTup [.int 1, .int c]) τt)) :
    EyAt prog w h e (eyL c b dd a) := ⟨d, τe, hE, callers2 ha hd hD hT⟩
theorem ends3 {i j k : Int} : Ends (pick3 i ⟨#[10]⟩ ⟨#[13]⟩ ⟨#[13, 10]⟩) (pick3 j ⟨#[10]⟩ ⟨#[13]⟩ ⟨#[13, 10]⟩) (pick3 k ⟨#[10]⟩ ⟨#[13]⟩ ⟨#[13, 10]⟩) (pick3 i ⟨#[10]⟩ ⟨#[13]⟩ ⟨#[13, 10]⟩).cps.toList (pick3 j ⟨#[10]⟩ ⟨#[13]⟩ ⟨#[13, 10]⟩).cps.toList (pick3 k ⟨#[10]⟩ ⟨#[13]⟩ ⟨#[13, 10]⟩).cps.toList := by
  have h1 : ∀ i : Int, (pick3 i ⟨#[10]⟩ ⟨#[13]⟩ ⟨#[13, 10]⟩).length ≤ 2 := fun i => by
    unfold pick3
    split
    · decide
    · split <;> decide
  have h2 : ∀ i : Int, isEnd (pick3 i ⟨#[10]⟩ ⟨#[13]⟩ ⟨#[13, 10]⟩).cps.toList := fun i => by
    unfold pick3
    split
    · simp [isEnd]
    · split <;> simp [isEnd]
  exact ⟨h1 i, h1 j, h1 k, rfl, rfl, rfl, h2 i, h2 j, h2 k⟩
theorem ad_ne (x k : Nat) (hk : 2 ≤ k) : x + k ≠ 1 := by omega
theorem room_of {d dp m : Nat} (k : Nat) (e : d = dp + k) (hr : dp + 100 < recursionLimit) (hk : k + m ≤ 100) : d + m < recursionLimit := by omega
theorem sz_le {vs : Array Value} {q : Nat} (e : vs.size = q) (hq : q ≤ 3) : vs.size ≤ 100 := by omega
theorem sz_one {vs : Array Value} {q : Nat} (e : vs.size = q) : 1 + (vs.size : Int) = (q + 1 : Nat) := by omega
theorem lt_pow {a b c : Int} {m q : Nat} (h : max (max a b) c < 2 ^ (q + 1) ∨ q = 3) (hm : a = m ∨ b = m ∨ c = m) (h16 : m < 16) : m < 2 ^ (q + 1) := by
  rcases h with h | rfl
  · have h2 : (m : Int) < 2 ^ (q + 1) := by
      generalize (2 : Int) ^ (q + 1) = p at h ⊢
      omega
    have h3 : ((2 ^ (q + 1) : Nat) : Int) = 2 ^ (q + 1) := by simp
    rw [← h3] at h2
    exact Int.ofNat_lt.mp h2
  · exact h16
theorem go_fn4 {C : Cx} {A₀ : Around} {R₀ : Post Result} {T : Nat → Option Obj} {h₀ : Heap} {fp : List Addr} {tk : Nat} {g : Gs} {h : Heap} {l : List Ent} {κ : Kont} {r : Result} {F H : Nat} (a W En Es : Addr) (ri : Int) (d : Nat) (S : St T h₀ h fp l)
    (hk : ((simA C A₀ T h.objs.size tk F κ r l H).acc.map (·.1), isRet κ, (arO A₀ (simA C A₀ T h.objs.size tk F κ r l H)).depth, (arO A₀ (simA C A₀ T h.objs.size tk F κ r l H)).handled, see (simA C A₀ T h.objs.size tk F κ r l H)) = ((simA C A₀ T h.objs.size tk F κ r l H).acc.map (·.2), true, A₀.depth + d, A₀.handled, .fn a [.ref W, .ref En, .ref Es, .int ri]))
    (k : ∀ A' R' h' tk' t, A'.depth = A₀.depth + d → A'.handled = A₀.handled → Stop C A₀ R₀ R' T h₀ h' fp (simA C A₀ T h.objs.size tk F κ r l H) → CodeP C A' (.call (.ref a) ⟨[.ref W, .ref En, .ref Es, .int ri t], []⟩) R' h' g tk') :
    After C A₀ R₀ κ r h g tk := by
  refine go_fn a _ d S hk fun h' tk' vz hvz hdp hh S' => ?_
  obtain ⟨v0, v1, v2, v3, rfl, hv0, hv1, hv2, hv3⟩ := map_four hvz
  obtain rfl := vv_ref hv0
  obtain rfl := vv_ref hv1
  obtain rfl := vv_ref hv2
  obtain ⟨t, rfl⟩ := vv_int hv3
  exact k _ _ _ _ _ hdp hh ⟨S', fun _ _ _ _ y => y⟩
theorem ey_part {prog : Program} {w : World} {T : Nat → Option Obj} {h₀ h : Heap} {fp : List Addr} {l : List Ent} {e d T' : Addr} {c b dd : Int} {a n : Nat} (S : St T h₀ h fp l) (idx : List Nat) (ha : Letter a) (hd : d ≠ 1)
    (hv : (nodupB idx, (lowW (pick idx l) [false, false, false]).map ev) = (true, [⟨e, false, vTup [.int 1, .int c, .int b, .int dd, .ref d]⟩, ⟨d, false, vDict [en w.params [97, 108, 108] (.int c), en w.params [a] (.ref T')] n⟩, ⟨T', false, vTup [.int 1, .int c]⟩])) : EyAt prog w h e (eyL c b dd a) := by
  obtain ⟨τ, S'⟩ := S.part idx (vl := [⟨e, false, vTup [.int 1, .int c, .int b, .int dd, .ref d]⟩, ⟨d, false, vDict [en w.params [97, 108, 108] (.int c), en w.params [a] (.ref T')] n⟩, ⟨T', false, vTup [.int 1, .int c]⟩]) hv
  exact ey_at ha hd (S'.at (i := 0) rfl) (S'.at (i := 1) rfl) (S'.at (i := 2) rfl)
/-- with no backslash left -/
theorem sm_zero {C : Cx} {A : Around} {R : Post Result} {h : Heap} {g : Gs} {tk : Nat} (hroom : A.depth + 90 < recursionLimit) (hA : A.handled = none) {W En Es q0 q1 q2 : Addr} {e0 e1 e2 : Str} {ε0 ε1 ε2 : List Nat} {V : OV} {tr : Tok} {cw ce cs : Nat} {τ : List (List Tok)} {Y0 Y1 Y2 : Ey} {a0 a1 a2 m0 m1 m2 : Nat}
    (E : Ends e0 e1 e2 ε0 ε1 ε2) (l0 : Letter a0) (l1 : Letter a1) (l2 : Letter a2) (b0 : m0 < 16) (b1 : m1 < 16) (b2 : m2 < 16) (g0 : Good Y0.M) (g1 : Good Y1.M) (g2 : Good Y2.M)
    (q : Nat) (hq : q ≤ 3) {ri : Int} (hri : ri = (q + 1 : Nat)) {x y z : Int} (hmax : max (max x y) z < 2 ^ (q + 1) ∨ q = 3) (hx : x = m0) (hy : y = m1) (hz : z = m2)
    (S : St (topObj C.w.params) h h [113, 89] (mkL [⟨W, false, vList [.str (wstr 0 a0 m0), .str (wstr 0 a1 m1), .str (wstr 0 a2 m2)] cw⟩, ⟨En, false, vList [.str e0, .str e1, .str e2] ce⟩, ⟨Es, false, vList [.ref q0, .ref q1, .ref q2] cs⟩, ⟨113, true, vTab []⟩, tab89 V] τ))
    (hcd : CodeOk h) (hg : AllBare g) (hy0 : EyAt C.prog C.w h q0 Y0) (hy1 : EyAt C.prog C.w h q1 Y1) (hy2 : EyAt C.prog C.w h q2 Y2)
    (k : ∀ h' g' tk' res W' f' Rl y0 y1 y2 V' tb c n τ', St (topObj C.w.params) h h' [113, 89] (mkL [⟨113, true, vTab tb⟩, tab89 V', ⟨res, true, vTup [.ref W', .ref f', .ref Rl]⟩, ⟨W', true, vList [.str (wstr (q + 1) a0 0), .str (wstr (q + 1) a1 0), .str (wstr (q + 1) a2 0)] c⟩, ⟨Rl, true, vList [.ref y0, .ref y1, .ref y2] n⟩] τ') → CodeOk h' → AllBare g' →
      EyAt C.prog C.w h' f' (runF (q + 1) m0 m1 m2 ⟨0, 0, 0, 0, []⟩ Y0 Y1 Y2) → EyAt C.prog C.w h' y0 (dblN (q + 1) Y0) → EyAt C.prog C.w h' y1 (dblN (q + 1) Y1) → EyAt C.prog C.w h' y2 (dblN (q + 1) Y2) → R (.ok (.ret (.ref res))) h' g' tk') :
    CodeP C A (.call (.ref 123) ⟨[.ref W, .ref En, .ref Es, .int ri tr], []⟩) R h g tk := by
  refine sm_all hroom hA E l0 l1 l2 b0 b1 b2 g0 g1 g2 q hq hri S hcd hg hy0 hy1 hy2 fun h' g' tk' res W' f' Rl y0 y1 y2 V' tb c n τ' S' => ?_
  rw [half_zero (q + 1) (lt_pow hmax (.inl hx) b0), half_zero (q + 1) (lt_pow hmax (.inr (.inl hy)) b1), half_zero (q + 1) (lt_pow hmax (.inr (.inr hz)) b2)] at S'
  exact k _ _ _ _ _ _ _ _ _ _ _ _ _ _ _ S'
/-! ## != of two lists of the same three texts -/
end Mine
end
/-! ## Ef -/
section
open PySem PySem.W PyProof.Rows
set_option Elab.async false
set_option linter.unusedVariables false
set_option maxRecDepth 100000
set_option maxHeartbeats 400000
namespace Mine
theorem le_q {q : Nat} (hq : q ≤ 3) : q + 2 ≤ 100 := by omega
theorem dlen {q l : Nat} (hq : q ≤ 3) : (repS 46 (q + 2) ++ (⟨#[l]⟩ : Str)).length ≤ sizeLine := by
  rw [Str.length_append, sizeLine_eq]
  show (List.replicate (q + 2) 46).toArray.size + 1 ≤ _
  simp
  omega
end Mine
end
/-! ## Bd -/
section
open PySem PySem.W PyProof.Rows
set_option Elab.async false
set_option linter.unusedVariables false
set_option maxRecDepth 100000
set_option maxHeartbeats 400000
namespace Mine
/-! ## A body cut at its statements -/
noncomputable def runT (b : List Stmt) (env : Env) : Sem Fin := R.bindR (ZFast.zw12563942051412417395 b env) fun f => .pure (.done f)
noncomputable def evalT (e : Expr) (env : Env) : Sem Fin := R.bindR (ZFast.zw14044960220447912780 e env) fun v => .pure (.done (.ret v))
theorem runT_eq (b : List Stmt) (env : Env) : runT b env = (execs b env).bind fun f => .pure (.done f) := by
  unfold runT
  rw [← ZFast.ze12563942051412417395, ← R.bindR_eq]
theorem evalT_eq (e : Expr) (env : Env) : evalT e env = (eval e env).bind fun v => .pure (.done (.ret v)) := by
  unfold evalT
  rw [← ZFast.ze14044960220447912780, ← R.bindR_eq]
structure BodyP (C : Cx) (A : Around) (c : Code) (env : Env) (b : List Stmt) (R : Post Result) (h : Heap) (g : Gs) (tk : Nat) : Prop where
  out : wpOwn C.M A c (execs b env) (fun f s => up C R (.ok (.ret (match f with | .ret v => v | _ => .none))) s) (fun _ _ => False) ⟨h, g, C.d, tk, C.os⟩
section
variable {C : Cx} {A : Around} {c : Code} {env : Env} {R : Post Result} {h : Heap} {g : Gs} {tk : Nat}
theorem body_enter {b : List Stmt} (x : BodyP C A (.func b env) env b R h g tk) : CodeP C A (.func b env) R h g tk := by
  refine ⟨code_of_means ?_⟩
  rw [← den_eq]
  show wpOwn _ _ _ (do point; match ← (execs b env).onRaise (leaving env) with | .ret v => ret v | _ => ret .none) _ _ _
  refine wpOwn_bind (wpOwn_of_wpAny (wpAny_point ?_))
  refine wpOwn_bind fun Γ p hc hΓ => ?_
  rw [Sem.wp_onRaise]
  refine Sem.wp_mono C.M Γ _ (fun f p' s' h' => ?_) (fun e p' s' h' => h'.elim) _ _ (x.out Γ p hc hΓ)
  intro Γ' p'' hc' hΓ'
  cases f <;> exact h'
theorem execs_app : ∀ (b1 b2 : List Stmt) (env : Env), execs (b1 ++ b2) env = (execs b1 env).bind fun f => match f with | .next => execs b2 env | f => .pure f
  | [], b2, env => rfl
  | s :: b1, b2, env => by
    show execs (s :: (b1 ++ b2)) env = _
    rw [execs_cons, execs_cons]
    show (exec s env).bind _ = ((exec s env).bind _).bind _
    rw [Sem.bind_assoc]
    congr 1
    funext f
    cases f <;> first | exact execs_app b1 b2 env | rfl
noncomputable def cutR (C : Cx) (A : Around) (c : Code) (env : Env) (b2 : List Stmt) (R : Post Result) : Post Result := fun r h g tk => match r with
  | .ok .next => BodyP C A c env b2 R h g tk
  | .ok (.ret v) => R (.ok (.ret v)) h g tk
  | _ => False
theorem own_fin {α : Type} {m : Sem α} {f : α → Fin} {Q : α → Shared → Prop} {Q' : Fin → Shared → Prop} {E E' : Value → Shared → Prop} {s : Shared} (x : wpOwn C.M A c (m.bind fun a => .pure (f a)) Q' E' s) (hQ : ∀ a s, Q' (f a) s → Q a s) (hE : ∀ e s, E' e s → E e s) : wpOwn C.M A c m Q E s := fun Γ p hc hΓ => by
  have y := x Γ p hc hΓ
  rw [show (m.bind fun a => Sem.pure (f a)) = (m >>= fun a => pure (f a)) from rfl, Sem.wp_bind'] at y
  exact Sem.wp_mono C.M Γ m (fun a p' s' h' => hQ _ _ h') (fun _ _ _ h' => hE _ _ h') _ _ y
theorem body_cut {b1 b2 : List Stmt} (x : After C A (cutR C A c env b2 R) (.ret c none (fun _ => runT b1 env) .base) (.ok .next) h g tk) : BodyP C A c env (b1 ++ b2) R h g tk := by
  have y : wpOwn C.M A c (runT b1 env) (pC C A (up C (cutR C A c env b2 R))) (pE (up C (cutR C A c env b2 R))) ⟨h, g, C.d, tk, C.os⟩ := x.out
  rw [runT_eq] at y
  refine ⟨?_⟩
  rw [execs_app]
  refine wpOwn_bind (own_fin y (fun f s z => ?_) fun e s z => ?_)
  · obtain ⟨h', g', tk', rfl, w⟩ := z
    cases f with
    | next => exact BodyP.out w
    | ret v => exact fun Γ p _ _ => ⟨h', g', tk', rfl, w⟩
    | _ => exact w.elim
  · obtain ⟨h', g', tk', rfl, w⟩ := z
    exact w.elim
noncomputable def valR (K : Value → Heap → Gs → Nat → Prop) : Post Result := fun q h g tk => ∃ v, q = .ok (.ret v) ∧ K v h g tk
/-- an expression's value, then more -/
theorem eval_cut {e : Expr} {K : Value → Heap → Gs → Nat → Prop} (x : After C A (valR K) (.ret c none (fun _ => evalT e env) .base) (.ok .next) h g tk) : wpOwn C.M A c (eval e env) (fun v s => ∃ h g tk, s = ⟨h, g, C.d, tk, C.os⟩ ∧ K v h g tk) (fun _ _ => False) ⟨h, g, C.d, tk, C.os⟩ := by
  have y : wpOwn C.M A c (evalT e env) (pC C A (up C (valR K))) (pE (up C (valR K))) ⟨h, g, C.d, tk, C.os⟩ := x.out
  rw [evalT_eq] at y
  refine own_fin y (fun v s z => ?_) fun e s z => ?_
  · obtain ⟨h', g', tk', rfl, v', e, w⟩ := z
    cases e
    exact ⟨_, _, _, rfl, w⟩
  · obtain ⟨h', g', tk', rfl, v', e, w⟩ := z
    cases e
/-- two values that do not differ -/
noncomputable def Same (C : Cx) (A : Around) (a b : Value) (h : Heap) (g : Gs) (tk : Nat) : Prop := ∀ (E : Value → Shared → Prop) (Q : Value → Shared → Prop), Q (.bool false) ⟨h, g, C.d, tk, C.os⟩ → wpAny C.M A (compareOp .NotEq a b) Q E ⟨h, g, C.d, tk, C.os⟩
theorem body_ne {l r : Expr} {p1 p2 : Pos} {bd rest : List Stmt} (hm : behindInMarks .NotEq r = false)
    (x : After C A (valR fun lv h1 g1 tk1 => After C A (valR fun rv h2 g2 tk2 => Same C (A.under c) lv rv h2 g2 tk2 ∧ BodyP C A c env rest R h2 g2 tk2) (.ret c none (fun _ => evalT r env) .base) (.ok .next) h1 g1 tk1) (.ret c none (fun _ => evalT l env) .base) (.ok .next) h g tk) : BodyP C A c env (.If (.Compare l [.NotEq] [r] p1) bd [] p2 :: rest) R h g tk := by
  refine ⟨fun Γ p hc hΓ => ?_⟩
  rw [execs_cons, Sem.wp_bind']
  simp only [exec_If, Sem.wp_bind', Sem.wp_cmd_standAt, isTrue_Compare1, markedBehindIn_of_false hm, Sem.wp_holding, Sem.wp_operate]
  refine Sem.wp_mono C.M Γ _ (fun lv p1 s1 h1 => ?_) (fun _ _ _ h' => h') _ _ (eval_cut (c := c) x Γ _ hc hΓ)
  obtain ⟨h1', g1, tk1, rfl, y⟩ := h1
  refine Sem.wp_mono C.M Γ _ (fun rv p2 s2 h2 => ?_) (fun _ _ _ h' => h') _ _ (eval_cut (c := c) y Γ _ hc hΓ)
  obtain ⟨h2', g2, tk2, rfl, sm, bp⟩ := h2
  refine Sem.wp_mono C.M Γ _ (fun v p3 s3 h3 => ?_) (fun _ _ _ h' => h') _ _ (sm (fun _ _ => False) (fun v s3 => v = .bool false ∧ s3 = ⟨h2', g2, C.d, tk2, C.os⟩) ⟨rfl, rfl⟩ Γ _ (hc ▸ hΓ.in))
  obtain ⟨rfl, rfl⟩ := h3
  have t := wpAny_truthy_bool (M := C.M) (A := A.under c) (E := fun _ _ => False) (Q := fun b s' => b = false ∧ s' = ⟨h2', g2, C.d, tk2, C.os⟩) (s := ⟨h2', g2, C.d, tk2, C.os⟩) (b := false) ⟨rfl, rfl⟩ Γ p3 (hc ▸ hΓ.in)
  refine Sem.wp_mono C.M Γ _ (fun b p4 s4 h4 => ?_) (fun _ _ _ h' => h') _ _ t
  obtain ⟨rfl, rfl⟩ := h4
  exact bp.out Γ _ hc hΓ
end
end Mine
end
/-! ## Nq -/
section
open PySem PySem.W PyProof.Rows
set_option Elab.async false
set_option linter.unusedVariables false
set_option maxRecDepth 100000
set_option maxHeartbeats 400000
namespace Mine
/-! ## Values that do not differ -/
noncomputable def cmpL : Stmt → Expr
  | .If (.Compare l _ _ _) _ _ _ => l
  | _ => .Constant .none 0 ⟨0, 0, 0, 0⟩
noncomputable def cmpR : Stmt → Expr
  | .If (.Compare _ _ (r :: _) _) _ _ _ => r
  | _ => .Constant .none 0 ⟨0, 0, 0, 0⟩
noncomputable def cmpP : Stmt → Pos
  | .If (.Compare _ _ _ p) _ _ _ => p
  | _ => ⟨0, 0, 0, 0⟩
noncomputable def ifBdy : Stmt → List Stmt
  | .If _ b _ _ => b
  | _ => []
noncomputable def ifPos : Stmt → Pos
  | .If _ _ _ p => p
  | _ => ⟨0, 0, 0, 0⟩
noncomputable def isNe (b : List Stmt) : Prop := b = .If (.Compare (cmpL (nthS b 0)) [.NotEq] [cmpR (nthS b 0)] (cmpP (nthS b 0))) (ifBdy (nthS b 0)) [] (ifPos (nthS b 0)) :: b.drop 1
theorem ne_cut {C : Cx} {A : Around} {c : Code} {env : Env} {R : Post Result} {h : Heap} {g : Gs} {tk : Nat} {b : List Stmt} (hb : isNe b) (hm : behindInMarks .NotEq (cmpR (nthS b 0)) = false)
    (x : After C A (valR fun lv h1 g1 tk1 => After C A (valR fun rv h2 g2 tk2 => Same C (A.under c) lv rv h2 g2 tk2 ∧ BodyP C A c env (b.drop 1) R h2 g2 tk2) (.ret c none (fun _ => evalT (cmpR (nthS b 0)) env) .base) (.ok .next) h1 g1 tk1) (.ret c none (fun _ => evalT (cmpL (nthS b 0)) env) .base) (.ok .next) h g tk) : BodyP C A c env b R h g tk := by
  rw [show b = _ from hb]
  exact body_ne hm x
open PySem.SeqAt in
theorem same_strs {C : Cx} {A : Around} {h : Heap} {g : Gs} {tk : Nat} {D D' : Addr} {x y z : Str} {n n' : Nat} {τ τ' : List Tok} (hu : A.units < cLine) (ho : h.get? D = some (mkO (vList [.str x, .str y, .str z] n) τ)) (ho' : h.get? D' = some (mkO (vList [.str x, .str y, .str z] n') τ')) : Same C A (.ref D) (.ref D') h g tk := by
  intro E Q hQ
  refine RcNeAt.lists (s := ⟨h, g, C.d, tk, C.os⟩) (items := #[.str x (hdT τ), .str y (hdT (tlT τ)), .str z (hdT (tlT (tlT τ)))]) (items2 := #[.str x (hdT τ'), .str y (hdT (tlT τ')), .str z (hdT (tlT (tlT τ')))]) (e := fun _ => true) ⟨_, ho, rfl, n, rfl⟩ ⟨_, ho', rfl, n', rfl⟩ rfl hu (fun j h1 h2 => ?_) C.prog C.w E Q hQ
  have st : ∀ (x : Str) (t u : Tok) (A : Around) (s : Shared), EqAt A s (.str x t) (.str x u) true := fun x t u A s => by
    have := EqAt.str_str (A := A) (s := s) x t x u
    rwa [show (x == x) = true from by simp] at this
  match j, h1 with
  | 0, _ => exact st _ _ _ _ _
  | 1, _ => exact st _ _ _ _ _
  | 2, _ => exact st _ _ _ _ _
end Mine
end
/-! ## La -/
section
open PySem PySem.W PyProof.Rows
set_option Elab.async false
set_option linter.unusedVariables false
set_option maxRecDepth 100000
set_option maxHeartbeats 2000000
namespace Mine
/-! ## The law's function is entered -/
noncomputable def lawB : List Stmt := bodyOf (stm 15)
noncomputable def envW (L c1 c2 c3 c4 c5 c6 c7 : Addr) : Env := { scope := scopeOf (stm 15), locals := L, globals := 3, cells := [(⟨#[112, 111, 119, 101, 114]⟩, c7), (⟨#[114, 111, 117, 110, 100, 115]⟩, c6), (⟨#[112, 108, 97, 105, 110]⟩, c5), (⟨#[99, 111, 117, 110, 116, 115]⟩, c4), (⟨#[108, 101, 116, 116, 101, 114, 115]⟩, c3), (⟨#[99, 101, 108, 108, 115]⟩, c2), (⟨#[115, 99, 114, 105, 112, 116]⟩, c1)], qual := ⟨#[108, 97, 119, 46, 60, 108, 111, 99, 97, 108, 115, 62, 46]⟩, func := some 128, code := .ref 127, frame := some L, builtins := 0 }
noncomputable abbrev lawC (L c1 c2 c3 c4 c5 c6 c7 : Addr) : Code := .func lawB (envW L c1 c2 c3 c4 c5 c6 c7)
/-- on with a body of the law -/
noncomputable abbrev LawP (C : Cx) (A : Around) (L c1 c2 c3 c4 c5 c6 c7 : Addr) (n : Nat) (R : Post Result) (h : Heap) (g : Gs) (tk : Nat) : Prop := BodyP C A (lawC L c1 c2 c3 c4 c5 c6 c7) (envW L c1 c2 c3 c4 c5 c6 c7) (lawB.drop n) R h g tk
theorem law_cut {C : Cx} {A : Around} {R : Post Result} {h : Heap} {g : Gs} {tk : Nat} {L c1 c2 c3 c4 c5 c6 c7 : Addr} (n m : Nat)
    (x : After C A (cutR C A (lawC L c1 c2 c3 c4 c5 c6 c7) (envW L c1 c2 c3 c4 c5 c6 c7) (lawB.drop (n + m)) R) (.ret (lawC L c1 c2 c3 c4 c5 c6 c7) none (fun _ => runT ((lawB.drop n).take m) (envW L c1 c2 c3 c4 c5 c6 c7)) .base) (.ok .next) h g tk) : LawP C A L c1 c2 c3 c4 c5 c6 c7 n R h g tk := by
  have e : lawB.drop n = (lawB.drop n).take m ++ lawB.drop (n + m) := by rw [← List.drop_drop, List.take_append_drop]
  unfold LawP
  rw [e]
  exact body_cut x
/-! ## Parts of the ledger by name -/
noncomputable def frL (P : Params) (aE aW aQ W f Rl : Addr) (l : List (Int × VV × VV)) : List (Int × VV × VV) :=
  en P [101, 110, 100, 115] (.ref aE) :: en P [119, 111, 114, 100, 115] (.ref aW) :: en P [101, 110, 116, 114, 105, 101, 115] (.ref aQ) :: en P [108, 101, 102, 116] (.ref W) :: en P k_found (.ref f) :: en P k_doubles (.ref Rl) :: l
noncomputable def midL (c5 c4 c3 c2 aC aL aN aP : Addr) (k0 k1 k2 n0 n1 n2 : Int) (p0 p1 p2 : Addr) (l : List EV) : List EV :=
  ⟨c5, true, vCell (.ref aP)⟩ :: ⟨c4, true, vCell (.ref aN)⟩ :: ⟨c3, true, vCell (.ref aL)⟩ :: ⟨c2, true, vCell (.ref aC)⟩ :: ⟨aC, true, vList [.int k0, .int k1, .int k2] 3⟩ :: ⟨aL, true, vList [.str ⟨#[35]⟩, .str ⟨#[34]⟩, .str ⟨#[97]⟩] 0⟩ :: ⟨aN, true, vList [.int n0, .int n1, .int n2] 3⟩ :: ⟨aP, true, vList [.ref p0, .ref p1, .ref p2] 3⟩ :: ⟨p0, false, vTup [.int 1, .int k0, .int k2, .int (0 - k0)]⟩ :: ⟨p1, false, vTup [.int 1, .int k1, .int k0, .int (1 - k1)]⟩ :: ⟨p2, false, vTup [.int 1, .int k2, .int k1, .int (2 - k2)]⟩ :: l
noncomputable def tlG (c4 c3 c2 aN aL aC : Addr) (n0 n1 n2 k0 k1 k2 : Int) (l : List EV) : List EV :=
  ⟨c4, false, vCell (.ref aN)⟩ :: ⟨c3, false, vCell (.ref aL)⟩ :: ⟨c2, false, vCell (.ref aC)⟩ :: ⟨aN, false, vList [.int n0, .int n1, .int n2] 3⟩ :: ⟨aL, false, vList [.str ⟨#[35]⟩, .str ⟨#[34]⟩, .str ⟨#[97]⟩] 0⟩ :: ⟨aC, false, vList [.int k0, .int k1, .int k2] 3⟩ :: l
noncomputable def tlD (pw : Int) (c7 c5 c3 c2 aC aL aP : Addr) (k0 k1 k2 : Int) (p0 p1 p2 Rl y0 y1 y2 : Addr) (dn : Nat) (l : List EV) : List EV :=
  ⟨c7, false, vCell (.int pw)⟩ :: ⟨c5, false, vCell (.ref aP)⟩ :: ⟨c3, false, vCell (.ref aL)⟩ :: ⟨c2, false, vCell (.ref aC)⟩ :: ⟨aC, false, vList [.int k0, .int k1, .int k2] 3⟩ :: ⟨aL, false, vList [.str ⟨#[35]⟩, .str ⟨#[34]⟩, .str ⟨#[97]⟩] 0⟩ :: ⟨aP, false, vList [.ref p0, .ref p1, .ref p2] 3⟩ :: ⟨p0, false, vTup [.int 1, .int k0, .int k2, .int (0 - k0)]⟩ :: ⟨p1, false, vTup [.int 1, .int k1, .int k0, .int (1 - k1)]⟩ :: ⟨p2, false, vTup [.int 1, .int k2, .int k1, .int (2 - k2)]⟩ :: ⟨Rl, false, vList [.ref y0, .ref y1, .ref y2] dn⟩ :: l
theorem law_in {C : Cx} {A : Around} {R : Post Result} {h : Heap} {g : Gs} {tk : Nat} (hroom : A.depth + 110 < recursionLimit) (hA : A.handled = none) {zs : List VV} {zn : Nat} {V : OV} {τ : List (List Tok)}
    (S : St (topObj C.w.params) h h [113, 89] (mkL [⟨129, false, vList zs zn⟩, ⟨113, true, vTab []⟩, tab89 V] τ)) (hcd : CodeOk h)
    (k : ∀ h' tk' L c1 c2 c3 c4 c5 c6 c7 zs' V' τ', St (topObj C.w.params) h h' [113, 89] (mkL [⟨c7, true, vCell0⟩, ⟨c6, true, vCell0⟩, ⟨c5, true, vCell0⟩, ⟨c4, true, vCell0⟩, ⟨c3, true, vCell0⟩, ⟨c2, true, vCell0⟩, ⟨c1, true, vCell (.ref 129)⟩, ⟨L, true, vFrame [] 0⟩, ⟨129, false, vList zs' zn⟩, ⟨113, true, vTab []⟩, tab89 V'] τ') → CodeOk h' → (∀ o, h.get? 129 = some o → h'.get? 129 = some o) →
      LawP C A L c1 c2 c3 c4 c5 c6 c7 0 R h' g tk') :
    CodeP C A (.call (.ref 128) ⟨[.ref 129], []⟩) R h g tk := by
  obtain ⟨hd, dp, fr, gs, un⟩ := A
  cases hA
  refine call_fn S (by have : dp + 110 < recursionLimit := hroom; show dp < _; omega) (S.topGet rfl) rfl rfl rfl rfl rfl (S.topGet rfl) rfl rfl rfl ?_
  refine go_again (F := 10) (H := 7175) (c' := lawC (h.objs.size + 0) (h.objs.size + 1) (h.objs.size + 2) (h.objs.size + 3) (h.objs.size + 4) (h.objs.size + 5) (h.objs.size + 6) (h.objs.size + 7)) S (fun h1 tk1 S1 => ?_) (by kernel_rfl!)
  refine body_enter ?_
  exact S1.give [0, 1, 2, 3, 4, 5, 6, 7, 8, 9, 10] (vl := [⟨h.objs.size + 7, true, vCell0⟩, ⟨h.objs.size + 6, true, vCell0⟩, ⟨h.objs.size + 5, true, vCell0⟩, ⟨h.objs.size + 4, true, vCell0⟩, ⟨h.objs.size + 3, true, vCell0⟩, ⟨h.objs.size + 2, true, vCell0⟩, ⟨h.objs.size + 1, true, vCell (.ref 129)⟩, ⟨h.objs.size + 0, true, vFrame [] 0⟩, ⟨129, false, vList ((mkVs zs (hdL τ)).map vv) zn⟩, ⟨113, true, vTab []⟩, tab89 (ov (mkO V (hdL (tlL (tlL τ)))))]) (fun τ2 S2 => k _ _ _ _ _ _ _ _ _ _ _ _ τ2 S2 (hcd.run _ S S1 2 10 (by kernel_rfl!)) (S.same S1 0 8 (by kernel_rfl!))) (by kernel_rfl!)
end Mine
end
/-! ## Ga -/
section
open PySem PySem.W PyProof.Rows
set_option Elab.async false
set_option linter.unusedVariables false
set_option maxRecDepth 100000
set_option maxHeartbeats 2000000
namespace Mine
theorem mod16 (c : Int) : ∃ m : Nat, Z.modQ c 16 = m ∧ m < 16 := by
  rw [← Z.modQ_eq]
  have h1 := Int.fmod_nonneg_of_pos c (b := 16) (by omega)
  have h2 := Int.fmod_lt_of_pos c (b := 16) (by omega)
  exact ⟨(Int.fmod c 16).toNat, by omega, by omega⟩
theorem mod3 (c : Int) : 0 ≤ Z.modQ (Z.divQ c 16) 3 ∧ Z.modQ (Z.divQ c 16) 3 < 3 := by
  rw [← Z.modQ_eq]
  exact ⟨Int.fmod_nonneg_of_pos _ (by omega), Int.fmod_lt_of_pos _ (by omega)⟩
set_option maxHeartbeats 0 in
theorem ga {C : Cx} {A : Around} {R : Post Result} {h₀ h : Heap} {fp : List Addr} {g : Gs} {tk : Nat} (hA : A.handled = none) {L c1 c2 c3 c4 c5 c6 c7 : Addr} {zs : List VV} {zn : Nat} {V : OV} {τ : List (List Tok)} {ns : List Int} (hns : ns.length ≤ 1000)
    (S : St (topObj C.w.params) h₀ h fp (mkL [⟨c7, true, vCell0⟩, ⟨c6, true, vCell0⟩, ⟨c5, true, vCell0⟩, ⟨c4, true, vCell0⟩, ⟨c3, true, vCell0⟩, ⟨c2, true, vCell0⟩, ⟨c1, true, vCell (.ref 129)⟩, ⟨L, true, vFrame [] 0⟩, ⟨129, false, vList zs zn⟩, ⟨113, true, vTab []⟩, tab89 V] τ)) (hl : LInts h 129 ns) (hcd : CodeOk h)
    (k : ∀ h' tk' (k0 k1 k2 n0 n1 n2 : Int) (m0 m1 m2 : Nat) (e0 e1 e2 : Str) (aC aL aN aE aW aP p0 p1 p2 aQ q0 q1 q2 d0 d1 d2 t0 t1 t2 : Addr) (V' : OV) (τ' : List (List Tok)), n0 = m0 → n1 = m1 → n2 = m2 → m0 < 16 → m1 < 16 → m2 < 16 → Ends e0 e1 e2 e0.cps.toList e1.cps.toList e2.cps.toList → d0 ≠ 1 → d1 ≠ 1 → d2 ≠ 1 →
      St (topObj C.w.params) h₀ h' fp (mkL [⟨L, true, vFrame [en C.w.params [101, 110, 100, 115] (.ref aE), en C.w.params [119, 111, 114, 100, 115] (.ref aW), en C.w.params [101, 110, 116, 114, 105, 101, 115] (.ref aQ)] 3⟩, ⟨c7, true, vCell0⟩, ⟨c6, true, vCell0⟩, ⟨c5, true, vCell (.ref aP)⟩, ⟨c4, true, vCell (.ref aN)⟩, ⟨c3, true, vCell (.ref aL)⟩, ⟨c2, true, vCell (.ref aC)⟩, ⟨aC, true, vList [.int k0, .int k1, .int k2] 3⟩, ⟨aL, true, vList [.str ⟨#[35]⟩, .str ⟨#[34]⟩, .str ⟨#[97]⟩] 0⟩, ⟨aN, true, vList [.int n0, .int n1, .int n2] 3⟩, ⟨aE, true, vList [.str e0, .str e1, .str e2] 3⟩, ⟨aW, true, vList [.str (wstr 0 35 m0), .str (wstr 0 34 m1), .str (wstr 0 97 m2)] 3⟩, ⟨aP, true, vList [.ref p0, .ref p1, .ref p2] 3⟩, ⟨p0, false, vTup [.int 1, .int k0, .int k2, .int (0 - k0)]⟩, ⟨p1, false, vTup [.int 1, .int k1, .int k0, .int (1 - k1)]⟩, ⟨p2, false, vTup [.int 1, .int k2, .int k1, .int (2 - k2)]⟩, ⟨aQ, true, vList [.ref q0, .ref q1, .ref q2] 3⟩, ⟨q0, false, vTup [.int 1, .int k0, .int k2, .int (0 - k0), .ref d0]⟩, ⟨d0, false, vDict [en C.w.params [97, 108, 108] (.int k0), en C.w.params [35] (.ref t0)] 2⟩, ⟨t0, false, vTup [.int 1, .int k0]⟩, ⟨q1, false, vTup [.int 1, .int k1, .int k0, .int (1 - k1), .ref d1]⟩, ⟨d1, false, vDict [en C.w.params [97, 108, 108] (.int k1), en C.w.params [34] (.ref t1)] 2⟩, ⟨t1, false, vTup [.int 1, .int k1]⟩, ⟨q2, false, vTup [.int 1, .int k2, .int k1, .int (2 - k2), .ref d2]⟩, ⟨d2, false, vDict [en C.w.params [97, 108, 108] (.int k2), en C.w.params [97] (.ref t2)] 2⟩, ⟨t2, false, vTup [.int 1, .int k2]⟩, ⟨113, true, vTab []⟩, tab89 V'] τ') → CodeOk h' → LawP C A L c1 c2 c3 c4 c5 c6 c7 7 R h' g tk') :
    LawP C A L c1 c2 c3 c4 c5 c6 c7 0 R h g tk := by
  obtain ⟨hd, dp, fr, gs, un⟩ := A
  cases hA
  refine law_cut 0 7 ?_
  refine go_slice3 (F := 95) (H := 36975489685736956923734528575814008631188665426701893273730175005185684013816229819016687475715736219778681578455040) (D := 129) (sl := h.objs.size + 5) 0 8 14 0 S hl hns (by kernel_rfl!) fun h1 tk1 N0 vs0 ns0 hl1 hN0 S1 hn0 => ?_
  refine go_codeX (F := 15) (H := 1074791425) (.builtin "sum.loop" ⟨[.ref (h1.objs.size + 0), .ref (h1.objs.size + 1), rawInt 0, rawInt 0], []⟩) 1 S1 (by kernel_rfl!) fun _ _ h2 tk2 hdp2 hh2 XS2 => ?_
  refine sum_at (ns := ns0) (N := N0) (t0 := tk1 + 0) (c := 0) hh2 XS2.S (hn0.at (S1.same XS2.S 0 2 (by kernel_rfl!))) hN0 [5, 6, 7, 9, 10, 11, 12, 13, 14, 15, 16, 17, 18, 19] 1 0 2 (by kernel_rfl!) (by kernel_rfl!) (by kernel_rfl!) (by kernel_rfl!) (fun h3 tk3 t3 S3 hk3 => ?_)
  have hl3 := (hl1.at (S1.same XS2.S 15 17 (by kernel_rfl!))).at (XS2.S.same S3 17 11 (by kernel_rfl!))
  refine XS2.rt _ _ _ _ ?_
  refine go_slice3 (F := 68) (H := 27223950380182166985936648393811848134287239253465639805376238928985252265319641122818) (D := 129) (sl := h3.objs.size + 1) 1 11 13 0 S3 hl3 hns (by kernel_rfl!) fun h4 tk4 N1 vs1 ns1 hl4 hN1 S4 hn1 => ?_
  refine go_codeX (F := 15) (H := 1074791425) (.builtin "sum.loop" ⟨[.ref (h4.objs.size + 0), .ref (h4.objs.size + 1), rawInt 0, rawInt 0], []⟩) 1 S4 (by kernel_rfl!) fun _ _ h5 tk5 hdp5 hh5 XS5 => ?_
  refine sum_at (ns := ns1) (N := N1) (t0 := tk4 + 0) (c := 0) hh5 XS5.S (hn1.at (S4.same XS5.S 0 2 (by kernel_rfl!))) hN1 [5, 6, 7, 8, 9, 10, 11, 12, 13, 14, 15, 16, 17, 18] 1 0 2 (by kernel_rfl!) (by kernel_rfl!) (by kernel_rfl!) (by kernel_rfl!) (fun h6 tk6 t6 S6 hk6 => ?_)
  have hl6 := (hl4.at (S4.same XS5.S 14 16 (by kernel_rfl!))).at (XS5.S.same S6 16 11 (by kernel_rfl!))
  refine XS5.rt _ _ _ _ ?_
  refine go_slice3 (F := 68) (H := 27223950380182166985936648393811848134287239253465639805376238928985252265319641122818) (D := 129) (sl := h6.objs.size + 1) 2 11 13 0 S6 hl6 hns (by kernel_rfl!) fun h7 tk7 N2 vs2 ns2 hl7 hN2 S7 hn2 => ?_
  refine go_codeX (F := 15) (H := 1074791425) (.builtin "sum.loop" ⟨[.ref (h7.objs.size + 0), .ref (h7.objs.size + 1), rawInt 0, rawInt 0], []⟩) 1 S7 (by kernel_rfl!) fun _ _ h8 tk8 hdp8 hh8 XS8 => ?_
  refine sum_at (ns := ns2) (N := N2) (t0 := tk7 + 0) (c := 0) hh8 XS8.S (hn2.at (S7.same XS8.S 0 2 (by kernel_rfl!))) hN2 [5, 6, 7, 8, 9, 10, 11, 12, 13, 14, 15, 16, 17, 18] 1 0 2 (by kernel_rfl!) (by kernel_rfl!) (by kernel_rfl!) (by kernel_rfl!) (fun h9 tk9 t9 S9 hk9 => ?_)
  have hl9 := (hl7.at (S7.same XS8.S 14 16 (by kernel_rfl!))).at (XS8.S.same S9 16 11 (by kernel_rfl!))
  obtain ⟨m0, hm0, bm0⟩ := mod16 (13 + ns0.sum)
  have hi0 := mod3 (13 + ns0.sum)
  obtain ⟨m1, hm1, bm1⟩ := mod16 (6 + ns1.sum)
  have hi1 := mod3 (6 + ns1.sum)
  obtain ⟨m2, hm2, bm2⟩ := mod16 (43 + ns2.sum)
  have hi2 := mod3 (43 + ns2.sum)
  refine XS8.rt _ _ _ _ ?_
  refine go_pick3 (F := 257) (H := 9988956387905229927023450771465175778253728054936841307267844446725445847110382499436897371700304452063199569853499866529039600646829975574294820858424244346957502283804287674115430027508303186901069227958451826101553422560431270976568551357705774125300038768511494083333901476810678348023810) (D := h9.objs.size + 11) (x := ⟨#[10]⟩) (y := ⟨#[13]⟩) (z := ⟨#[13, 10]⟩) (Z.modQ (Z.divQ (13 + ns0.sum) 16) 3) 0 S9 hi0 (by kernel_rfl!) fun h10 t10 tk10 S10 => ?_
  refine go_pick3 (F := 53) (H := 1498040606909750821487088789917620570260323603319811) (D := h10.objs.size + 0) (x := ⟨#[10]⟩) (y := ⟨#[13]⟩) (z := ⟨#[13, 10]⟩) (Z.modQ (Z.divQ (6 + ns1.sum) 16) 3) 0 S10 hi1 (by kernel_rfl!) fun h11 t11 tk11 S11 => ?_
  refine go_pick3 (F := 53) (H := 1498040606911113281482111433071428959695358327263236) (D := h11.objs.size + 0) (x := ⟨#[10]⟩) (y := ⟨#[13]⟩) (z := ⟨#[13, 10]⟩) (Z.modQ (Z.divQ (43 + ns2.sum) 16) 3) 0 S11 hi2 (by kernel_rfl!) fun h12 t12 tk12 S12 => ?_
  refine go_mul (F := 144) (H := 59025805275801184204950656678136026627393617312978938335881807714039425528894113095172459991597976473349808500422667830248699017214860320225477312593023923304082183173) 92 m0 (Z.modQ (13 + ns0.sum) 16) S12 hm0 (by omega) (by kernel_rfl!) fun h13 t13 tk13 S13 => ?_
  refine go_addE (F := 3) (H := 0) ⟨#[46, 35]⟩ (repS 92 m0) (wstr 0 35 m0) (wcat 35 m0) S13 (by rw [Str.length_append, sizeLine_eq]; show 2 + (List.replicate m0 92).toArray.size ≤ _; simp; omega) (by kernel_rfl!) fun h14 t14 tk14 S14 => ?_
  refine go_mul (F := 70) (H := 31113086148803830537717183274457460777131668545389373391329288043785421522086815336450) 92 m1 (Z.modQ (6 + ns1.sum) 16) S14 hm1 (by omega) (by kernel_rfl!) fun h15 t15 tk15 S15 => ?_
  refine go_addE (F := 3) (H := 0) ⟨#[46, 34]⟩ (repS 92 m1) (wstr 0 34 m1) (wcat 34 m1) S15 (by rw [Str.length_append, sizeLine_eq]; show 2 + (List.replicate m1 92).toArray.size ≤ _; simp; omega) (by kernel_rfl!) fun h16 t16 tk16 S16 => ?_
  refine go_mul (F := 70) (H := 31113086148803830537717183274457460777131668545389373391329288043785421522086815336450) 92 m2 (Z.modQ (43 + ns2.sum) 16) S16 hm2 (by omega) (by kernel_rfl!) fun h17 t17 tk17 S17 => ?_
  refine go_addE (F := 3) (H := 0) ⟨#[46, 97]⟩ (repS 92 m2) (wstr 0 97 m2) (wcat 97 m2) S17 (by rw [Str.length_append, sizeLine_eq]; show 2 + (List.replicate m2 92).toArray.size ≤ _; simp; omega) (by kernel_rfl!) fun h18 t18 tk18 S18 => ?_
  refine go_next (F := 811) (H := 59047355290140691461175409751271992864989593647782105757484941743717766401486071899465181798665100857399328358858237600355133380988486812501284713321281417380079737936477376310693936005872811555941449577858831826087599713161736866163476583259349719062217667138488973407548429842881921073715731070050127020629550244006622542720312686978269482586937682712934027651684222423773010604624392427276834750222330338621353379180615343856783190181895888415093955292860695493983772478906281090893551741425456945093200885704487419185003272479322354021557741200529139088487598087360197252161271444429160736746248009125231404905920854607325462528653889092505636361529454815704286105407799852406782053162139614276860276790300808402552200932963789779177460160894002837437828176897887457883773084499547994736423483783754333855856310755063475810750543813667761501026550421454063615466572350672482930529829324942623484771952552971871930517815320876538337947247986117110638697147422215642197894862575866237467929595968473374609771732307552620366127365138425553882162661378) S18 (by kernel_rfl!) fun h19 tk19 S19 => ?_
  exact S19.give [59, 52, 53, 54, 55, 56, 57, 50, 46, 44, 39, 30, 24, 22, 21, 20, 15, 10, 13, 12, 6, 9, 8, 2, 5, 4, 61, 62] (vl := [⟨L, true, vFrame [en C.w.params [101, 110, 100, 115] (.ref (h9.objs.size + 9)), en C.w.params [119, 111, 114, 100, 115] (.ref (h12.objs.size + 4)), en C.w.params [101, 110, 116, 114, 105, 101, 115] (.ref (h18.objs.size + 13))] 3⟩, ⟨c7, true, vCell0⟩, ⟨c6, true, vCell0⟩, ⟨c5, true, vCell (.ref (h18.objs.size + 4))⟩, ⟨c4, true, vCell (.ref (h9.objs.size + 4))⟩, ⟨c3, true, vCell (.ref (h9.objs.size + 2))⟩, ⟨c2, true, vCell (.ref (h.objs.size + 2))⟩, ⟨(h.objs.size + 2), true, vList [.int (13 + ns0.sum), .int (6 + ns1.sum), .int (43 + ns2.sum)] 3⟩, ⟨(h9.objs.size + 2), true, vList [.str ⟨#[35]⟩, .str ⟨#[34]⟩, .str ⟨#[97]⟩] 0⟩, ⟨(h9.objs.size + 4), true, vList [.int (Z.modQ (13 + ns0.sum) 16), .int (Z.modQ (6 + ns1.sum) 16), .int (Z.modQ (43 + ns2.sum) 16)] 3⟩, ⟨(h9.objs.size + 9), true, vList [.str (pick3 (Z.modQ (Z.divQ (13 + ns0.sum) 16) 3) ⟨#[10]⟩ ⟨#[13]⟩ ⟨#[13, 10]⟩), .str (pick3 (Z.modQ (Z.divQ (6 + ns1.sum) 16) 3) ⟨#[10]⟩ ⟨#[13]⟩ ⟨#[13, 10]⟩), .str (pick3 (Z.modQ (Z.divQ (43 + ns2.sum) 16) 3) ⟨#[10]⟩ ⟨#[13]⟩ ⟨#[13, 10]⟩)] 3⟩, ⟨(h12.objs.size + 4), true, vList [.str (wstr 0 35 m0), .str (wstr 0 34 m1), .str (wstr 0 97 m2)] 3⟩, ⟨(h18.objs.size + 4), true, vList [.ref (h18.objs.size + 6), .ref (h18.objs.size + 7), .ref (h18.objs.size + 8)] 3⟩, ⟨(h18.objs.size + 6), false, vTup [.int 1, .int (13 + ns0.sum), .int (43 + ns2.sum), .int (0 - (13 + ns0.sum))]⟩, ⟨(h18.objs.size + 7), false, vTup [.int 1, .int (6 + ns1.sum), .int (13 + ns0.sum), .int (1 - (6 + ns1.sum))]⟩, ⟨(h18.objs.size + 8), false, vTup [.int 1, .int (43 + ns2.sum), .int (6 + ns1.sum), .int (2 - (43 + ns2.sum))]⟩, ⟨(h18.objs.size + 13), true, vList [.ref (h18.objs.size + 18), .ref (h18.objs.size + 22), .ref (h18.objs.size + 26)] 3⟩, ⟨(h18.objs.size + 18), false, vTup [.int 1, .int (13 + ns0.sum), .int (43 + ns2.sum), .int (0 - (13 + ns0.sum)), .ref (h18.objs.size + 15)]⟩, ⟨(h18.objs.size + 15), false, vDict [en C.w.params [97, 108, 108] (.int (13 + ns0.sum)), en C.w.params [35] (.ref (h18.objs.size + 16))] 2⟩, ⟨(h18.objs.size + 16), false, vTup [.int 1, .int (13 + ns0.sum)]⟩, ⟨(h18.objs.size + 22), false, vTup [.int 1, .int (6 + ns1.sum), .int (13 + ns0.sum), .int (1 - (6 + ns1.sum)), .ref (h18.objs.size + 19)]⟩, ⟨(h18.objs.size + 19), false, vDict [en C.w.params [97, 108, 108] (.int (6 + ns1.sum)), en C.w.params [34] (.ref (h18.objs.size + 20))] 2⟩, ⟨(h18.objs.size + 20), false, vTup [.int 1, .int (6 + ns1.sum)]⟩, ⟨(h18.objs.size + 26), false, vTup [.int 1, .int (43 + ns2.sum), .int (6 + ns1.sum), .int (2 - (43 + ns2.sum)), .ref (h18.objs.size + 23)]⟩, ⟨(h18.objs.size + 23), false, vDict [en C.w.params [97, 108, 108] (.int (43 + ns2.sum)), en C.w.params [97] (.ref (h18.objs.size + 24))] 2⟩, ⟨(h18.objs.size + 24), false, vTup [.int 1, .int (43 + ns2.sum)]⟩, ⟨113, true, vTab []⟩, tab89 (ov (mkO V (hdL (tlL (tlL (tlL (tlL (tlL (tlL (tlL (tlL (tlL (tlL τ)))))))))))))]) (fun τ19 S20 => k _ _ _ _ _ _ _ _ _ _ _ _ _ _ _ _ _ _ _ _ _ _ _ _ _ _ _ _ _ _ _ _ _ _ τ19 hm0 hm1 hm2 bm0 bm1 bm2 (ends3 (i := Z.modQ (Z.divQ (13 + ns0.sum) 16) 3) (j := Z.modQ (Z.divQ (6 + ns1.sum) 16) 3) (k := Z.modQ (Z.divQ (43 + ns2.sum) 16) 3)) (ad_ne _ 15 (by decide)) (ad_ne _ 19 (by decide)) (ad_ne _ 23 (by decide)) S20 (hcd.run _ S S19 10 62 (by kernel_rfl!))) (by kernel_rfl!)
end Mine
end
/-! ## Gb -/
section
open PySem PySem.W PyProof.Rows
set_option Elab.async false
set_option linter.unusedVariables false
set_option maxRecDepth 100000
set_option maxHeartbeats 2000000
namespace Mine
set_option maxHeartbeats 4000000 in
theorem gb {C : Cx} {A : Around} {R : Post Result} {h₀ h : Heap} {fp : List Addr} {g : Gs} {tk : Nat} (hroom : A.depth + 110 < recursionLimit) (hA : A.handled = none) {L c1 c2 c3 c4 c5 c6 c7 : Addr} {V : OV} {τ : List (List Tok)} {k0 k1 k2 n0 n1 n2 : Int} {m0 m1 m2 : Nat} {e0 e1 e2 : Str} {aC aL aN aE aW aP p0 p1 p2 aQ q0 q1 q2 d0 d1 d2 t0 t1 t2 : Addr} (hn0 : n0 = m0) (hn1 : n1 = m1) (hn2 : n2 = m2) (b0 : m0 < 16) (b1 : m1 < 16) (b2 : m2 < 16) (hE : Ends e0 e1 e2 e0.cps.toList e1.cps.toList e2.cps.toList) (hd0 : d0 ≠ 1) (hd1 : d1 ≠ 1) (hd2 : d2 ≠ 1)
    (S : St (topObj C.w.params) h₀ h fp (mkL [⟨L, true, vFrame [en C.w.params [101, 110, 100, 115] (.ref aE), en C.w.params [119, 111, 114, 100, 115] (.ref aW), en C.w.params [101, 110, 116, 114, 105, 101, 115] (.ref aQ)] 3⟩, ⟨c7, true, vCell0⟩, ⟨c6, true, vCell0⟩, ⟨c5, true, vCell (.ref aP)⟩, ⟨c4, true, vCell (.ref aN)⟩, ⟨c3, true, vCell (.ref aL)⟩, ⟨c2, true, vCell (.ref aC)⟩, ⟨aC, true, vList [.int k0, .int k1, .int k2] 3⟩, ⟨aL, true, vList [.str ⟨#[35]⟩, .str ⟨#[34]⟩, .str ⟨#[97]⟩] 0⟩, ⟨aN, true, vList [.int n0, .int n1, .int n2] 3⟩, ⟨aE, true, vList [.str e0, .str e1, .str e2] 3⟩, ⟨aW, true, vList [.str (wstr 0 35 m0), .str (wstr 0 34 m1), .str (wstr 0 97 m2)] 3⟩, ⟨aP, true, vList [.ref p0, .ref p1, .ref p2] 3⟩, ⟨p0, false, vTup [.int 1, .int k0, .int k2, .int (0 - k0)]⟩, ⟨p1, false, vTup [.int 1, .int k1, .int k0, .int (1 - k1)]⟩, ⟨p2, false, vTup [.int 1, .int k2, .int k1, .int (2 - k2)]⟩, ⟨aQ, true, vList [.ref q0, .ref q1, .ref q2] 3⟩, ⟨q0, false, vTup [.int 1, .int k0, .int k2, .int (0 - k0), .ref d0]⟩, ⟨d0, false, vDict [en C.w.params [97, 108, 108] (.int k0), en C.w.params [35] (.ref t0)] 2⟩, ⟨t0, false, vTup [.int 1, .int k0]⟩, ⟨q1, false, vTup [.int 1, .int k1, .int k0, .int (1 - k1), .ref d1]⟩, ⟨d1, false, vDict [en C.w.params [97, 108, 108] (.int k1), en C.w.params [34] (.ref t1)] 2⟩, ⟨t1, false, vTup [.int 1, .int k1]⟩, ⟨q2, false, vTup [.int 1, .int k2, .int k1, .int (2 - k2), .ref d2]⟩, ⟨d2, false, vDict [en C.w.params [97, 108, 108] (.int k2), en C.w.params [97] (.ref t2)] 2⟩, ⟨t2, false, vTup [.int 1, .int k2]⟩, ⟨113, true, vTab []⟩, tab89 V] τ)) (hcd : CodeOk h) (hg : AllBare g)
    (k : ∀ h' g' tk' (q : Nat) (ri : Int) (W f Rl y0 y1 y2 : Addr) (wc dn : Nat) (V' : OV) (tb : List VV) (τ' : List (List Tok)), q ≤ 3 → ri = (q + 1 : Nat) → m0 < 2 ^ (q + 1) → m1 < 2 ^ (q + 1) → m2 < 2 ^ (q + 1) →
      St (topObj C.w.params) h₀ h' fp (mkL (⟨L, true, vFrame (frL C.w.params aE aW aQ W f Rl []) 6⟩ :: ⟨c7, true, vCell0⟩ :: ⟨c6, true, vCell (.int ri)⟩ :: midL c5 c4 c3 c2 aC aL aN aP k0 k1 k2 n0 n1 n2 p0 p1 p2 [⟨W, true, vList [.str (wstr (q + 1) 35 0), .str (wstr (q + 1) 34 0), .str (wstr (q + 1) 97 0)] wc⟩, ⟨Rl, true, vList [.ref y0, .ref y1, .ref y2] dn⟩, tab89 V', ⟨113, true, vTab tb⟩]) τ') → CodeOk h' → AllBare g' →
      EyAt C.prog C.w h' f (runF (q + 1) m0 m1 m2 ⟨0, 0, 0, 0, []⟩ (eyL k0 k2 (0 - k0) 35) (eyL k1 k0 (1 - k1) 34) (eyL k2 k1 (2 - k2) 97)) → EyAt C.prog C.w h' y0 (dblN (q + 1) (eyL k0 k2 (0 - k0) 35)) → EyAt C.prog C.w h' y1 (dblN (q + 1) (eyL k1 k0 (1 - k1) 34)) → EyAt C.prog C.w h' y2 (dblN (q + 1) (eyL k2 k1 (2 - k2) 97)) →
      LawP C A L c1 c2 c3 c4 c5 c6 c7 9 R h' g' tk') :
    LawP C A L c1 c2 c3 c4 c5 c6 c7 7 R h g tk := by
  obtain ⟨hd, dp, fr, gs, un⟩ := A
  cases hA
  have hroom' : dp + 100 < recursionLimit := by have : dp + 110 < recursionLimit := hroom; omega
  refine law_cut 7 2 ?_
  refine go_codeX (F := 23) (H := 3459891514313801728) (rlCode (h.objs.size + 1) (h.objs.size + 2) (h.objs.size + 3) L c4) 1 S (by kernel_rfl!) fun _ _ h19 tk19 hdp19 hh19 XS19 => ?_
  refine XS19.S.lendG [2, 1, 0, 8, 13, 3] [true, true, true, false, false, false] (fp' := [h.objs.size + 1, h.objs.size + 2, h.objs.size + 3]) (vl := [⟨h.objs.size + 1, true, vTJ (.ref (h.objs.size + 0)) 0⟩, ⟨h.objs.size + 2, true, vList [] 0⟩, ⟨h.objs.size + 3, true, vDict [] 0⟩, ⟨c4, false, vCell (.ref aN)⟩, ⟨aN, false, vList [.int n0, .int n1, .int n2] 3⟩, ⟨h.objs.size + 0, false, vTup [.int 1, .int 2, .int 3]⟩]) (fun τ1 Sc Sb => rl_all hh19 (room_of 1 hdp19 hroom' (by decide)) Sc fun h20 tk20 τ2 q V2 vs hq hmax S20 hV hvs => ?_) (by kernel_rfl!)
  refine S20.give [0, 1, 2] (vl := [⟨h.objs.size + 1, true, vTJ .none 3⟩, ⟨h.objs.size + 2, true, ov (mkO V2 (hdL (tlL τ2)))⟩, ⟨h.objs.size + 3, true, vDk C.w.params 3⟩]) (fun τ3 S21 => ?_) (by kernel_rfl!)
  have S22 := Sb [2, 1, 0] S21 (by kernel_rfl!)
  refine XS19.rt _ _ _ _ ?_
  refine go_len (F := 7) (H := 1049601) (D := h.objs.size + 2) (vs := vs) (n := q) 1 1 S22 hV (sz_le hvs hq) (by kernel_rfl!) fun h23 t23 tk23 S23 => ?_
  refine go_fn4 (F := 24) (H := 8076085534708997127) 123 aW aE aQ (1 + (vs.size : Int)) 1 S23 (by kernel_rfl!) fun _ _ h24 tk24 t24 hdp24 hh24 XS24 => ?_
  refine XS24.S.lendG [15, 14, 20, 30, 31] [false, false, false, true, true] (fp' := [113, 89]) (vl := [⟨aW, false, vList [.str (wstr 0 35 m0), .str (wstr 0 34 m1), .str (wstr 0 97 m2)] 3⟩, ⟨aE, false, vList [.str e0, .str e1, .str e2] 3⟩, ⟨aQ, false, vList [.ref q0, .ref q1, .ref q2] 3⟩, ⟨113, true, vTab []⟩, tab89 (ov (mkO V (hdL (tlL (tlL (tlL (tlL (tlL (tlL (tlL (tlL (tlL (tlL (tlL (tlL (tlL (tlL (tlL (tlL (tlL (tlL (tlL (tlL (tlL (tlL (tlL (tlL (tlL (tlL (tlL τ))))))))))))))))))))))))))))))]) (fun τ4 Sc Sb => sm_zero (room_of 1 hdp24 hroom' (by decide)) hh24 hE (.inl rfl) (.inr (.inl rfl)) (.inr (.inr rfl)) b0 b1 b2 (eyL_dbl (c := k0) (b := k2) (d := 0 - k0) (a := 35) (.inl rfl)).gd (eyL_dbl (c := k1) (b := k0) (d := 1 - k1) (a := 34) (.inr (.inl rfl))).gd (eyL_dbl (c := k2) (b := k1) (d := 2 - k2) (a := 97) (.inr (.inr rfl))).gd q hq (sz_one hvs) hmax hn0 hn1 hn2 Sc (hcd.run _ S XS24.S 27 31 (by kernel_rfl!)) hg (ey_part XS24.S [21, 22, 23] (d := d0) (T' := t0) (n := 2) (.inl rfl) hd0 (by kernel_rfl!)) (ey_part XS24.S [24, 25, 26] (d := d1) (T' := t1) (n := 2) (.inr (.inl rfl)) hd1 (by kernel_rfl!)) (ey_part XS24.S [27, 28, 29] (d := d2) (T' := t2) (n := 2) (.inr (.inr rfl)) hd2 (by kernel_rfl!)) (fun h25 g25 tk25 res W f Rl y0 y1 y2 V5 tb wc dn τ5 S25 hcd25 hg25 hf25 hya hyb hyc => ?_)) (by kernel_rfl!)
  have S26q := Sb [30, 31] S25 (by kernel_rfl!)
  refine S26q.give [0, 1, 2, 7, 8, 9, 10, 11, 12, 13, 14, 15, 16, 19, 20, 21, 22, 34, 33] (vl := (⟨res, false, vTup [.ref W, .ref f, .ref Rl]⟩ :: ⟨W, true, vList [.str (wstr (q + 1) 35 0), .str (wstr (q + 1) 34 0), .str (wstr (q + 1) 97 0)] wc⟩ :: ⟨Rl, true, vList [.ref y0, .ref y1, .ref y2] dn⟩ :: ⟨L, true, vFrame [en C.w.params [101, 110, 100, 115] (.ref aE), en C.w.params [119, 111, 114, 100, 115] (.ref aW), en C.w.params [101, 110, 116, 114, 105, 101, 115] (.ref aQ)] 3⟩ :: ⟨c7, true, vCell0⟩ :: ⟨c6, true, vCell (.int (1 + (vs.size : Int)))⟩ :: midL c5 c4 c3 c2 aC aL aN aP k0 k1 k2 n0 n1 n2 p0 p1 p2 [tab89 (ov (mkO V5 (hdL (tlL τ5)))), ⟨113, true, vTab ((mkVs tb (hdL τ5)).map vv)⟩])) (fun τ26 S26 => ?_) (by kernel_rfl!)
  have S26r := S26.rebase
  refine XS24.rt _ _ _ _ ?_
  refine go_next (F := 78) (H := 17669354004504750844724306698962019218722840794377599200347730261799536896741113274485520645479140100422196128461620225) S26r (by kernel_rfl!) fun h27 tk27 S27 => ?_
  have kp := S26.kp89 hcd25 S27 17 (by kernel_rfl!)
  have S28 := S26.unbase S27
  exact S28.give [6, 7, 8, 9, 10, 11, 12, 13, 14, 15, 16, 17, 18, 19, 4, 5, 20, 21] (vl := (⟨L, true, vFrame (frL C.w.params aE aW aQ W f Rl []) 6⟩ :: ⟨c7, true, vCell0⟩ :: ⟨c6, true, vCell (.int (1 + (vs.size : Int)))⟩ :: midL c5 c4 c3 c2 aC aL aN aP k0 k1 k2 n0 n1 n2 p0 p1 p2 [⟨W, true, vList [.str (wstr (q + 1) 35 0), .str (wstr (q + 1) 34 0), .str (wstr (q + 1) 97 0)] wc⟩, ⟨Rl, true, vList [.ref y0, .ref y1, .ref y2] dn⟩, tab89 (ov (mkO (ov (mkO V5 (hdL (tlL τ5)))) (hdL (tlL (tlL (tlL (tlL (tlL (tlL (tlL (tlL (tlL (tlL (tlL (tlL (tlL (tlL (tlL (tlL (tlL τ26)))))))))))))))))))), ⟨113, true, vTab ((mkVs ((mkVs tb (hdL τ5)).map vv) (hdL (tlL (tlL (tlL (tlL (tlL (tlL (tlL (tlL (tlL (tlL (tlL (tlL (tlL (tlL (tlL (tlL (tlL (tlL τ26)))))))))))))))))))).map vv)⟩])) (fun τ27 S29 => k _ _ _ q _ W f Rl y0 y1 y2 wc dn _ _ τ27 hq (sz_one hvs) (lt_pow hmax (.inl hn0) b0) (lt_pow hmax (.inr (.inl hn1)) b1) (lt_pow hmax (.inr (.inr hn2)) b2) S29 (hcd25.run _ S26 S27 17 20 (by kernel_rfl!)) hg25 (hf25.kp (Good.run (q + 1) good0 (eyL_dbl (c := k0) (b := k2) (d := 0 - k0) (a := 35) (.inl rfl)).gd (eyL_dbl (c := k1) (b := k0) (d := 1 - k1) (a := 34) (.inr (.inl rfl))).gd (eyL_dbl (c := k2) (b := k1) (d := 2 - k2) (a := 97) (.inr (.inr rfl))).gd).ok kp) (hya.kp ((eyL_dbl (c := k0) (b := k2) (d := 0 - k0) (a := 35) (.inl rfl)).gd.dbl (q + 1)).ok kp) (hyb.kp ((eyL_dbl (c := k1) (b := k0) (d := 1 - k1) (a := 34) (.inr (.inl rfl))).gd.dbl (q + 1)).ok kp) (hyc.kp ((eyL_dbl (c := k2) (b := k1) (d := 2 - k2) (a := 97) (.inr (.inr rfl))).gd.dbl (q + 1)).ok kp)) (by kernel_rfl!)
end Mine
end
/-! ## Im -/
section
open PySem PySem.W PyProof.Rows
set_option Elab.async false
set_option linter.unusedVariables false
set_option maxRecDepth 100000
set_option maxHeartbeats 400000
namespace Mine
/-! ## A small number times another -/
theorem go_imul {C : Cx} {A₀ : Around} {R₀ : Post Result} {T : Nat → Option Obj} {h₀ : Heap} {fp : List Addr} {tk : Nat} {g : Gs} {h : Heap} {l : List Ent} {κ : Kont} {r : Result} {F H : Nat} (a b : Int) (S : St T h₀ h fp l) (ha : 0 ≤ a ∧ a < 100)
    (hk : ((simA C A₀ T h.objs.size tk F κ r l H).acc.map (·.1), isRet κ, see (simA C A₀ T h.objs.size tk F κ r l H)) = ((simA C A₀ T h.objs.size tk F κ r l H).acc.map (·.2), true, .bi 116512245094328231196454762 [.int a, .int b]))
    (k : ∀ h' t' tk', St T h₀ h' fp (simA C A₀ T h.objs.size tk F κ r l H).l → After C A₀ R₀ (κO (simA C A₀ T h.objs.size tk F κ r l H)) (.ok (.ret (.int (a * b) t'))) h' g tk') : After C A₀ R₀ κ r h g tk := by
  refine go_bi _ _ S hk fun h' tk' id vs hid hvs S' => ?_
  obtain ⟨v, w, rfl, hv, hw⟩ := map_two hvs
  obtain ⟨t1, rfl⟩ := vv_int hv
  obtain ⟨t2, rfl⟩ := vv_int hw
  have hb : Builtin.Int.intBits a ≤ 64 := intBits_le_64 (by omega) (by omega)
  have hm : IntMulOk a b := by
    unfold IntMulOk
    have : decide (Builtin.Int.intBits a > shortFactorBits) = false := decide_eq_false (by show ¬ _ > 64; omega)
    simp [this]
  exact builtin_gives (codeS_eq hid) (b := "int.__mul__") (by decide +kernel) PySem.F.entry_int_mul (by decide +kernel) (PySem.gives_int_mul a b t1 t2 hm) ⟨_, _, _, rfl, k _ _ _ S'⟩
end Mine
end
/-! ## Cq -/
section
open PySem PySem.W PyProof.Rows
set_option Elab.async false
set_option linter.unusedVariables false
set_option maxRecDepth 100000
set_option maxHeartbeats 400000
namespace Mine
/-! ## A dict of callers, as written -/
theorem callers0 {prog : Program} {w : World} {h : Heap} {d : Addr} {n : Nat} {τd : List Tok} (hd : d ≠ 1) (hD : h.get? d = some (mkO (vDict [] n) τd)) : Callers prog w h d [] :=
  ⟨hd, [], ⟨_, #[], n, hD, ⟨rfl, rfl, rfl⟩, rfl, (fun e he => by simp at he), .nil, List.nodup_nil⟩, trivial⟩
/-! ## Two dicts of callers with the same values -/
theorem CVs.at {h : Heap} (k : Str) : ∀ {l : List (Str × Value)} {M : CM}, CVs h l M → (valueAt l k = none ∧ getM M k = none) ∨ ∃ v c, valueAt l k = some v ∧ getM M k = some c ∧ CVIs h v c
  | [], [], _ => .inl ⟨rfl, rfl⟩
  | a :: l, b :: M, x => by
    have e := x.1.1
    have ih := CVs.at k x.2
    rw [getM_cons]
    have hv : valueAt (a :: l) k = if a.1 = k then some a.2 else valueAt l k := by
      unfold valueAt
      by_cases q : a.1 = k
      · rw [List.find?_cons_of_pos (by simpa using q), if_pos q]; rfl
      · rw [List.find?_cons_of_neg (by simpa using q), if_neg q]
    rw [hv, ← e]
    by_cases q : a.1 = k
    · rw [if_pos q, if_pos q]; exact .inr ⟨_, _, rfl, rfl, x.1.2⟩
    · rw [if_neg q, if_neg q]; exact ih
  | [], _ :: _, x => x.elim
  | _ :: _, [], x => x.elim
open PySem.SeqAt in
theorem eq_cv {A : Around} {s : Shared} {v y : Value} {c : CV} (hu : A.units + 2 < cLine) (hv : CVIs s.heap v c) (hy : CVIs s.heap y c) : EqAt A s v y true := by
  cases c with
  | num n =>
    obtain ⟨t, rfl⟩ := hv
    obtain ⟨u, rfl⟩ := hy
    have := EqAt.int_int (A := A) (s := s) n t n u
    rwa [show (n == n) = true from by simp] at this
  | pair a b =>
    obtain ⟨T, u, w, rfl, e⟩ := hv
    obtain ⟨T', u', w', rfl, e'⟩ := hy
    by_cases q : T = T'
    · subst q; exact EqAt.same _
    · refine EqAt.of_refs q ?_
      have := RcAt.tuples (A := A) (s := s) (l := T) (b := T') (items := #[.int a u, .int b w]) (items2 := #[.int a u', .int b w']) (e := fun _ => true) ⟨_, e, rfl, 0, rfl⟩ ⟨_, e', rfl, 0, rfl⟩ (by omega) (fun j h1 h2 => ?_)
      · exact this
      · have st : ∀ (x : Int) (t u : Tok) (A : Around) (s : Shared), EqAt A s (.int x t) (.int x u) true := fun x t u A s => by
          have := EqAt.int_int (A := A) (s := s) x t x u
          rwa [show (x == x) = true from by simp] at this
        match j, h1 with
        | 0, _ => exact st _ _ _ _ _
        | 1, _ => exact st _ _ _ _ _
theorem hits_of {A : Around} {s : Shared} (hu : A.units + 2 < cLine) {lb : List (Str × Value)} {Mb : CM} (hb : CVs s.heap lb Mb) : ∀ {la : List (Str × Value)} {Ma : CM}, CVs s.heap la Ma → (∀ c ∈ Ma, getM Mb c.1 = some c.2) → KeqHits A s lb la true
  | [], [], _, _ => .nil
  | a :: la, c :: Ma, x, hM => by
    obtain ⟨k, v⟩ := a
    have e : k = c.1 := x.1.1
    have hc := hM c (.head _)
    rcases hb.at k with ⟨_, h2⟩ | ⟨y, c', h1, h2, h3⟩
    · rw [e, hc] at h2; cases h2
    · rw [e, hc] at h2
      cases h2
      exact .hit (b := true) (e := true) h1 (eq_cv hu x.1.2 h3) (hits_of hu hb x.2 fun c hc => hM c (.tail _ hc))
  | [], _ :: _, x, _ => x.elim
  | _ :: _, [], x, _ => x.elim
theorem getM_of : ∀ {M : CM}, (M.map (·.1)).Nodup → ∀ c ∈ M, getM M c.1 = some c.2
  | [], _, c, hc => nomatch hc
  | b :: M, nd, c, hc => by
    rw [List.map_cons, List.nodup_cons] at nd
    rw [getM_cons]
    rcases List.mem_cons.mp hc with rfl | hc
    · rw [if_pos rfl]
    · rw [if_neg (fun e => nd.1 (by rw [e]; exact List.mem_map_of_mem hc)), getM_of nd.2 c hc]
theorem mem_getM {M : CM} {k : Str} {c : CV} (h : getM M k = some c) : (k, c) ∈ M := by
  unfold getM at h
  obtain ⟨p, hp, rfl⟩ := Option.map_eq_some_iff.mp h
  have h1 := List.mem_of_find?_eq_some hp
  have h2 := List.find?_some hp
  have : p.1 = k := by simpa using h2
  rw [← this]; exact h1
theorem same_len {Ma Mb : CM} (na : (Ma.map (·.1)).Nodup) (nb : (Mb.map (·.1)).Nodup) (e : ∀ k, getM Ma k = getM Mb k) : Ma.length = Mb.length := by
  have key : ∀ {Ma Mb : CM}, (Ma.map (·.1)).Nodup → (∀ k, getM Ma k = getM Mb k) → Ma.length ≤ Mb.length := fun {Ma Mb} na e => by
    have := nd_len (s := Mb.map (·.1)) na (fun k hk => by
      obtain ⟨c, hc, rfl⟩ := List.mem_map.mp hk
      have h1 := getM_of na c hc
      rw [e] at h1
      exact List.mem_map.mpr ⟨_, mem_getM h1, rfl⟩)
    rwa [List.length_map, List.length_map] at this
  exact Nat.le_antisymm (key na e) (key nb fun k => (e k).symm)
/-- eqBool of two dicts of callers -/
theorem eq_callers {C : Cx} {A : Around} {E : Value → Shared → Prop} {s : Shared} {d d' : Addr} {Ma Mb : CM} {Q : Bool → Shared → Prop} (hu : A.units + 4 < cLine) (xa : Callers C.prog C.w s.heap d Ma) (xb : Callers C.prog C.w s.heap d' Mb) (ga : Good Ma) (gb : Good Mb) (e : ∀ k, getM Ma k = getM Mb k) (h : Q true s) :
    wpAny C.M A (eqBool (.ref d) (.ref d')) Q E s := by
  unfold eqBool
  refine wpAny_holding ?_
  by_cases q : d = d'
  · subst q
    refine wpAny_ite_split (fun _ => ?_) (fun hab => absurd (beq_self_eq_true _) hab)
    exact wpAny_bind (wpAny_rule (wpAny_pure h))
  · refine wpAny_ite_split (fun hab => absurd (by have := eq_of_beq hab; injection this) q) (fun _ => ?_)
    obtain ⟨na, la, da, ca⟩ := xa
    obtain ⟨nb, lb, db, cb⟩ := xb
    have hlen : la.length = lb.length := by rw [ca.len, cb.len]; exact same_len ga.nd gb.nd e
    refine wpAny_bind (keq_eq (A := A) (beq_eq_false_iff_ne.mpr na) (beq_eq_false_iff_ne.mpr nb) da db (by omega) (fun _ => hits_of (A := A.in1) (by show A.units + 1 + 2 < cLine; omega) cb ca fun c hc => by rw [← e]; exact getM_of ga.nd c hc) ?_)
    rw [hlen]
    simp only [beq_self_eq_true, Bool.true_and]
    exact wpAny_truthy_bool h
end Mine
end
/-! ## Tq -/
section
open PySem PySem.W PyProof.Rows
set_option Elab.async false
set_option linter.unusedVariables false
set_option maxRecDepth 100000
set_option maxHeartbeats 400000
namespace Mine
/-! ## Two entries with the same values do not differ -/
open PySem.SeqAt AutoSeq1 in
theorem tuple_ne_same {prog : Program} {w : World} {A : Around} {E : Value → Shared → Prop} {Q : Fin → Shared → Prop} {s : Shared} {l b : Addr} {items items2 : Array Value} {n n2 : Nat} {dd dd2 : Option Addr} {sl sl2 : Array (Option Value)} (hl : s.heap.get? l = some { cls := .type "tuple", dict := dd, data := .seq items n, slots := sl }) (hb : s.heap.get? b = some { cls := .type "tuple", dict := dd2, data := .seq items2 n2, slots := sl2 })
    (hsz : items.size = items2.size) (hall : ∀ p ∈ items.toList.zip items2.toList, ∀ (E : Value → Shared → Prop) (Q : Bool → Shared → Prop), Q true s → wpAny (model prog w) A (eqBool p.1 p.2) Q E s) (h : Q (.done (.ret (.bool false))) s) :
    wpAny (model prog w) A (Builtin.«tuple.__ne__» ⟨[.ref l, .ref b], []⟩) Q E s := by
  obtain ⟨hp, g, d, tk, os⟩ := s
  have f2 := AutoSeq1.sub_tuple_tuple
  wp_walk using wpAny_loadPart' hl, wpAny_loadPart' hb, wpAny_forIn_list _ (fun rest q s' => q.1 = none ∧ s' = ⟨hp, g, d, tk, os⟩ ∧ ∀ p ∈ rest, p ∈ items.toList.zip items2.toList) _
  case turn =>
    rintro ⟨y, x⟩ rest q s' ⟨hq, rfl, hz⟩
    refine wpAny_bind (hall _ (hz _ (.head _)) _ _ ?_)
    wp_walk
    exact ⟨rfl, rfl, fun p hp => hz p (.tail _ hp)⟩
  case fin =>
    rintro ⟨q1, q2⟩ s' ⟨hq, rfl, hz⟩
    simp only at hq
    subst hq
    wp_walk
    simpa [Builtin.Tuple.tupleCompareSizes, hsz] using h
  case h =>
    exact ⟨rfl, rfl, fun p hp => hp⟩
theorem same_tup {C : Cx} {A : Around} {h : Heap} {g : Gs} {tk : Nat} {D D' d1 d2 : Addr} {a b c d : Int} {Ma Mb : CM} {τ τ' : List Tok} (hu : A.units + 10 < cLine) (ho : h.get? D = some (mkO (vTup [.int a, .int b, .int c, .int d, .ref d1]) τ)) (ho' : h.get? D' = some (mkO (vTup [.int a, .int b, .int c, .int d, .ref d2]) τ'))
    (xa : Callers C.prog C.w h d1 Ma) (xb : Callers C.prog C.w h d2 Mb) (ga : Good Ma) (gb : Good Mb) (e : ∀ k, getM Ma k = getM Mb k) : Same C A (.ref D) (.ref D') h g tk := by
  intro E Q hQ
  have iT : ∀ (x : Int) (t u : Tok) (E : Value → Shared → Prop) (Q : Bool → Shared → Prop), Q true ⟨h, g, C.d, tk, C.os⟩ → wpAny C.M A.in1 (eqBool (.int x t) (.int x u)) Q E ⟨h, g, C.d, tk, C.os⟩ := fun x t u E Q hq => by
    have := PySem.SeqAt.EqAt.int_int (A := A.in1) (s := ⟨h, g, C.d, tk, C.os⟩) x t x u
    rw [show (x == x) = true from by simp] at this
    exact this C.prog C.w E Q hq
  refine wpAny_richCompare_same_room (op := .NotEq) ⟨_, ho, rfl⟩ ⟨_, ho', rfl⟩ PySem.F.slot_tuple_ne (wpAny_call_entry PySem.F.slot_tuple_ne ⟨_, ho, rfl⟩ PySem.F.entry_tuple_ne ?_ (PySem.F.args_tuple_ne_2 _ _)) (by omega)
  refine tuple_ne_same (items := #[.int a (hdT τ), .int b (hdT (tlT τ)), .int c (hdT (tlT (tlT τ))), .int d (hdT (tlT (tlT (tlT τ)))), .ref d1]) (items2 := #[.int a (hdT τ'), .int b (hdT (tlT τ')), .int c (hdT (tlT (tlT τ'))), .int d (hdT (tlT (tlT (tlT τ')))), .ref d2]) ho ho' rfl (fun p hp E Q hq => ?_) ⟨_, rfl, (fun x => nomatch x), hQ⟩
  simp only [List.zip_cons_cons, List.zip_nil_right, List.mem_cons, List.not_mem_nil, or_false] at hp
  rcases hp with rfl | rfl | rfl | rfl | rfl
  · exact iT _ _ _ _ _ hq
  · exact iT _ _ _ _ _ hq
  · exact iT _ _ _ _ _ hq
  · exact iT _ _ _ _ _ hq
  · exact eq_callers (A := A.in1) (by show A.units + 1 + 4 < cLine; omega) xa xb ga gb e hq
end Mine
end
/-! ## Dq -/
section
open PySem PySem.W PyProof.Rows
set_option Elab.async false
set_option linter.unusedVariables false
set_option maxRecDepth 100000
set_option maxHeartbeats 400000
namespace Mine
/-! ## dict.get, dict.__setitem__ at a dict of callers -/
noncomputable def numO : Option CV → Int → Int
  | some (.num n), _ => n
  | _, z => z
theorem dget_code {C : Cx} {A : Around} {R : Post Result} {h : Heap} {g : Gs} {tk : Nat} {id : String} {d : Addr} {M : CM} {t u : Tok} {z : Int} (e : PySem.W.S.eqLit 8459563503104322149 id = true) (x : Callers C.prog C.w h d M) (gM : Good M)
    (k : ∀ t' tk', R (.ok (.ret (.int (numO (getM M kAll) z) t'))) h g tk') : CodeP C A (.builtin id ⟨[.ref d, .str kAll t, .int z u], []⟩) R h g tk := by
  obtain ⟨nd, kvs, dic, cv⟩ := x
  rw [id_of (b := "dict.get") e (by decide +kernel)]
  refine ⟨codeAny_builtin PySem.F.entry_dict_get ?_⟩
  rw [Around.under_plainId (by decide +kernel)]
  refine (meets_dict_get_default (PySem.strKind C.prog C.w) d (k := kAll) (key := .str kAll t) (isk kAll t) (beq_eq_false_iff_ne.mpr nd) (.int z u)) _ _ _ ⟨_, dic.mapOf, h, g, _, rfl, ?_⟩
  rcases cv.at kAll with ⟨h1, h2⟩ | ⟨v, c, h1, h2, h3⟩
  · rw [h1]
    have := k u (tk + 1)
    rw [h2] at this
    exact this
  · rw [h1]
    have hk := gM.kind _ (mem_getM h2)
    cases c with
    | num n =>
      obtain ⟨t', rfl⟩ := h3
      have := k t' (tk + 1)
      rw [h2] at this
      exact this
    | pair a b => exact absurd (show false = decide (kAll = kAll) from hk) (by simp)
theorem dset_code {C : Cx} {A : Around} {R : Post Result} {h : Heap} {g : Gs} {tk : Nat} {id : String} {d : Addr} {M : CM} {t : Tok} {key : Str} {v : Value} {c : CV} (e : PySem.W.S.eqLit 128106587276438692082622197436938218085 id = true) (x : Callers C.prog C.w h d M) (gM : Good M) (hv : CVIs h v c)
    (k : ∀ h' tk' es ep, Heap.SameBut d h h' → h'.get? d = some ⟨.type "dict", none, .dict es ep, #[]⟩ → Callers C.prog C.w h' d (putM M key c) → R (.ok (.ret .none)) h' g tk') : CodeP C A (.builtin id ⟨[.ref d, .str key t, v], []⟩) R h g tk := by
  obtain ⟨nd, kvs, dic, cv⟩ := x
  rw [id_of (b := "dict.__setitem__") e (by decide +kernel)]
  refine ⟨codeAny_builtin PySem.F.entry_dict_setitem ?_⟩
  rw [Around.under_plainId (by decide +kernel)]
  show wpAny _ _ (Builtin.Dict.notOrdered "__setitem__" ⟨[.ref d, .str key t, v], []⟩ >>= _) _ _ _
  refine wpAny_bind (wpAny_notOrdered_dict dic.typeIs ?_)
  show wpAny _ _ (dictSet d (.str key t) v >>= _) _ _ _
  have hl : kvs.length ≤ sizeLine := by
    have := gM.ok (E := ⟨0, 0, 0, 0, M⟩)
    rw [cv.len, PySem.sizeLine_eq]
    exact Nat.le_trans this.len (by decide)
  refine wpAny_bind (wpAny_dictSet_pairs (hsz := hl) (k := key) (isk key t) dic fun h' hm' hs' => ?_)
  refine wpAny_pure ?_
  have hm2 := hm'
  obtain ⟨o', es, ep, ho, ⟨hx1, hx2, hx3⟩, hd, r⟩ := hm2
  have ho2 : o' = ⟨.type "dict", none, .dict es ep, #[]⟩ := by
    obtain ⟨a1, a2, a3, a4⟩ := o'
    simp only at hx1 hx2 hx3 hd
    subst hx1 hx2 hx3 hd
    rfl
  subst ho2
  have dic2 := dic
  obtain ⟨o₀, _, _, ho₀, hex₀, hd₀, _⟩ := dic2
  have cv' : CVs h' kvs M := cv.move fun T a b e => by
    rw [hs'.2 T (fun q => ?_)]
    · exact e
    · rw [q, ho₀] at e
      cases e
      exact nomatch hd₀
  have hv' : CVIs h' v c := hv.move fun T a b e => by
    rw [hs'.2 T (fun q => ?_)]
    · exact e
    · rw [q, ho₀] at e
      cases e
      exact nomatch hd₀
  exact ⟨h', g, _, rfl, k h' _ es ep hs' ho ⟨nd, _, hm', CVs.stored hv' cv'⟩⟩
section
variable {C : Cx} {A₀ : Around} {R₀ : Post Result} {T : Nat → Option Obj} {h₀ : Heap} {fp : List Addr} {tk : Nat} {g : Gs} {h h' : Heap} {l l' : List Ent} {κ : Kont} {r : Result}
theorem St.poke (S : St T h₀ h fp l) {i : Nat} {e : Ent} {o' : Obj} (hi : nth l i = some e) (hw : e.w = true) (hs : Heap.SameBut e.a h h') (ho : h'.get? e.a = some o') : St T h₀ h' fp (put o' l i) := by
  refine ⟨by rw [put_addr]; exact S.nd, ?_, ?_, ?_, S.top, by rw [hs.1]; exact S.size, S.lim, S.two⟩
  · intro p hp
    rcases put_mem _ hi hp with rfl | ⟨hp, hn⟩
    · exact ho
    · exact (hs.2 p.a (hn S.nd)).trans (S.get p hp)
  · intro p hp hpw
    rcases put_mem _ hi hp with rfl | ⟨hp, _⟩
    · exact S.wr e (nth_mem hi) hw
    · exact S.wr p hp hpw
  · intro b o₁ e' hb
    refine (hs.2 b fun q => ?_).trans (S.old b o₁ e' hb)
    subst q
    rcases S.wr e (nth_mem hi) hw with hm | hm
    · exact hb hm
    · exact absurd (Heap.lt_size e') (Nat.not_lt.mpr hm)
noncomputable def isTupO (o : Obj) : Bool := match o.cls with
  | .type s => PySem.W.S.eqLit 439922816629 s
  | _ => false
theorem Callers.run {prog : Program} {w : World} {T' : Nat → Option Obj} {fp' : List Addr} {d : Addr} {M : CM} (x : Callers prog w h d M) (S : St T h₀ h fp l) (S' : St T' h h' fp' l') (i j : Nat)
    (hk : (fp', okF isTupO l, (nth l i).map (·.a), nth l' j) = (wrA l, true, some d, nth l i)) : Callers prog w h' d M := by
  have e1 : fp' = wrA l := congrArg (·.1) hk
  have e2 : okF isTupO l = true := congrArg (·.2.1) hk
  have e3 : (nth l i).map (·.a) = some d := congrArg (·.2.2.1) hk
  have e4 : nth l' j = nth l i := congrArg (·.2.2.2) hk
  obtain ⟨nd, kvs, ⟨o, es, ep, ho, r⟩, cv⟩ := x
  obtain ⟨p, hp, hpa⟩ := Option.map_eq_some_iff.mp e3
  have a1 := S.at hp
  have a2 := S'.at (e4.trans hp)
  rw [hpa] at a1 a2
  rw [ho] at a1
  cases a1
  refine ⟨nd, kvs, ⟨_, es, ep, a2, r⟩, cv.move fun b u w e => S'.old b _ e fun hm => ?_⟩
  rw [e1] at hm
  obtain ⟨q, hq, qa, qw⟩ := wrA_mem hm
  have := okL_of e2 hq qw
  have g1 := S.get q hq
  rw [qa, e] at g1
  rw [← Option.some.inj g1] at this
  have t1 : isTupO (tuO u w) = true := by kernel_rfl!
  rw [t1] at this
  cases this
theorem go_dget {F H : Nat} {d : Addr} {M : CM} (z : Int) (S : St T h₀ h fp l) (gM : Good M)
    (hk : ((simA C A₀ T h.objs.size tk F κ r l H).acc.map (·.1), isRet κ, see (simA C A₀ T h.objs.size tk F κ r l H)) = ((simA C A₀ T h.objs.size tk F κ r l H).acc.map (·.2), true, .bi 8459563503104322149 [.ref d, .str kAll, .int z]))
    (hx : ∀ h', St T h₀ h' fp (simA C A₀ T h.objs.size tk F κ r l H).l → Callers C.prog C.w h' d M)
    (k : ∀ h' t' tk', St T h₀ h' fp (simA C A₀ T h.objs.size tk F κ r l H).l → Callers C.prog C.w h' d M → After C A₀ R₀ (κO (simA C A₀ T h.objs.size tk F κ r l H)) (.ok (.ret (.int (numO (getM M kAll) z) t'))) h' g tk') : After C A₀ R₀ κ r h g tk := by
  refine go_bi _ _ S hk fun h' tk' id vs hid hvs S' => ?_
  obtain ⟨u, v, w, rfl, hu, hv, hw⟩ := map_3 hvs
  obtain rfl := vv_ref hu
  obtain ⟨t1, rfl⟩ := vv_str hv
  obtain ⟨t2, rfl⟩ := vv_int hw
  exact dget_code (codeS_eq hid) (hx _ S') gM fun t' tk' => k _ _ _ S' (hx _ S')
theorem go_dset {F H : Nat} {d : Addr} {M : CM} (key : Str) (y : VV) (c : CV) (i : Nat) (S : St T h₀ h fp l) (gM : Good M)
    (hk : ((simA C A₀ T h.objs.size tk F κ r l H).acc.map (·.1), isRet κ, see (simA C A₀ T h.objs.size tk F κ r l H), (nth (simA C A₀ T h.objs.size tk F κ r l H).l i).map fun e => (e.a, e.w)) = ((simA C A₀ T h.objs.size tk F κ r l H).acc.map (·.2), true, .bi 128106587276438692082622197436938218085 [.ref d, .str key, y], some (d, true)))
    (hx : ∀ h', St T h₀ h' fp (simA C A₀ T h.objs.size tk F κ r l H).l → Callers C.prog C.w h' d M)
    (hv : ∀ h' v, St T h₀ h' fp (simA C A₀ T h.objs.size tk F κ r l H).l → vv v = y → CVIs h' v c)
    (k : ∀ h' tk' es ep, St T h₀ h' fp (put ⟨.type "dict", none, .dict es ep, #[]⟩ (simA C A₀ T h.objs.size tk F κ r l H).l i) → Callers C.prog C.w h' d (putM M key c) → After C A₀ R₀ (κO (simA C A₀ T h.objs.size tk F κ r l H)) (.ok (.ret .none)) h' g tk') : After C A₀ R₀ κ r h g tk := by
  have e1 := congrArg (·.1) hk
  have e2 := congrArg (·.2.1) hk
  have e3 := congrArg (·.2.2.1) hk
  have e4 := congrArg (·.2.2.2) hk
  refine go_bi _ _ S (Prod.ext e1 (Prod.ext e2 e3)) fun h' tk' id vs hid hvs S' => ?_
  obtain ⟨u, v, w, rfl, hu, hv', hw⟩ := map_3 hvs
  obtain rfl := vv_ref hu
  obtain ⟨t1, rfl⟩ := vv_str hv'
  obtain ⟨e, he, e5⟩ := Option.map_eq_some_iff.mp e4
  have a1 : e.a = d := congrArg Prod.fst e5
  have a2 : e.w = true := congrArg Prod.snd e5
  refine dset_code (codeS_eq hid) (hx _ S') gM (hv _ _ S' hw) fun h2 tk2 es ep hs ho hc => k _ _ es ep (S'.poke he a2 (by rw [a1]; exact hs) (by rw [a1]; exact ho)) hc
theorem cv_num {y : Int} : ∀ h' v, St T h₀ h' fp l → vv v = .int y → CVIs h' v (.num y) := fun h' v _ hv => by
  obtain ⟨t, rfl⟩ := vv_int hv
  exact ⟨t, rfl⟩
noncomputable def isPair : Obj → Option (Int × Int)
  | ⟨.type s, none, .seq ⟨vs⟩ 0, ⟨[]⟩⟩ => match vs with
    | [.int a _, .int b _] => match PySem.W.S.eqLit 439922816629 s with
      | true => some (a, b)
      | false => none
    | _ => none
  | _ => none
theorem pair_is {o : Obj} {a b : Int} (e : isPair o = some (a, b)) : ∃ t u, o = tuO (.int a t) (.int b u) := by
  unfold isPair at e
  split at e
  · split at e
    · split at e
      · rename_i q
        cases e
        rw [id_of q (b := "tuple") (by decide +kernel)]
        exact ⟨_, _, rfl⟩
      · cases e
    · cases e
  · cases e
theorem cv_pair {y : Addr} {a b : Int} (j : Nat) (hj : (nth l j).map (fun e => (e.a, isPair e.o)) = some (y, some (a, b))) : ∀ h' v, St T h₀ h' fp l → vv v = .ref y → CVIs h' v (.pair a b) := fun h' v S' hv => by
  obtain rfl := vv_ref hv
  obtain ⟨e, he, e1⟩ := Option.map_eq_some_iff.mp hj
  obtain ⟨t, u, e2⟩ := pair_is (congrArg Prod.snd e1)
  have a1 : e.a = y := congrArg Prod.fst e1
  exact ⟨y, t, u, rfl, by rw [← e2, ← a1]; exact S'.at he⟩
end
end Mine
end
/-! ## Gd -/
section
open PySem PySem.W PyProof.Rows
set_option Elab.async false
set_option linter.unusedVariables false
set_option maxRecDepth 100000
set_option maxHeartbeats 2000000
namespace Mine
theorem law_units {A : Around} {L c1 c2 c3 c4 c5 c6 c7 : Addr} : (A.under (lawC L c1 c2 c3 c4 c5 c6 c7)).units = A.units + 3 := rfl
set_option maxHeartbeats 4000000 in
theorem gd {C : Cx} {A : Around} {R : Post Result} {h₀ h : Heap} {fp : List Addr} {g : Gs} {tk : Nat} (hroom : A.depth + 110 < recursionLimit) (hA : A.handled = none) {L c1 c2 c3 c4 c5 c6 c7 : Addr} {V : OV} {τ : List (List Tok)} (hun : A.units + 100 < cLine) {k0 k1 k2 n0 n1 n2 : Int} {aC aL aN aE aW aP p0 p1 p2 aQ : Addr} {q : Nat} {ri : Int} {W f Rl y0 y1 y2 : Addr} {wc dn : Nat} {F Y0 Y1 Y2 : Ey} (hq : q ≤ 3) (hri : ri = (q + 1 : Nat))
    (S : St (topObj C.w.params) h₀ h fp (mkL (⟨L, true, vFrame (frL C.w.params aE aW aQ W f Rl []) 6⟩ :: ⟨c7, true, vCell0⟩ :: ⟨c6, true, vCell (.int ri)⟩ :: midL c5 c4 c3 c2 aC aL aN aP k0 k1 k2 n0 n1 n2 p0 p1 p2 [⟨W, true, vList [.str (wstr (q + 1) 35 0), .str (wstr (q + 1) 34 0), .str (wstr (q + 1) 97 0)] wc⟩, ⟨Rl, true, vList [.ref y0, .ref y1, .ref y2] dn⟩, tab89 V]) τ)) (hcd : CodeOk h) (oF : F.Ok) (o0 : Y0.Ok) (o1 : Y1.Ok) (o2 : Y2.Ok) (hf : EyAt C.prog C.w h f F) (hy0 : EyAt C.prog C.w h y0 Y0) (hy1 : EyAt C.prog C.w h y1 Y1) (hy2 : EyAt C.prog C.w h y2 Y2)
    (k : ∀ h' tk' V' τ', St (topObj C.w.params) h₀ h' fp (mkL (⟨L, true, vFrame (frL C.w.params aE aW aQ W f Rl []) 6⟩ :: ⟨c7, true, vCell0⟩ :: ⟨c6, true, vCell (.int ri)⟩ :: midL c5 c4 c3 c2 aC aL aN aP k0 k1 k2 n0 n1 n2 p0 p1 p2 [⟨Rl, true, vList [.ref y0, .ref y1, .ref y2] dn⟩, tab89 V']) τ') → CodeOk h' → EyAt C.prog C.w h' f F → EyAt C.prog C.w h' y0 Y0 → EyAt C.prog C.w h' y1 Y1 → EyAt C.prog C.w h' y2 Y2 → LawP C A L c1 c2 c3 c4 c5 c6 c7 10 R h' g tk') :
    LawP C A L c1 c2 c3 c4 c5 c6 c7 9 R h g tk := by
  have hu : (A.under (lawC L c1 c2 c3 c4 c5 c6 c7)).units < cLine := by rw [law_units]; omega
  have hri2 : ri + 1 = (q + 2 : Nat) := by omega
  refine ne_cut (b := lawB.drop 9) (by unfold isNe; kernel_rfl!) (by kernel_rfl!) ?_
  rw [List.drop_drop]
  obtain ⟨hd, dp, fr, gs, un⟩ := A
  cases hA
  have Sr := S.rebase
  refine go_ret (F := 2) (H := 1) (.ref W) Sr (by kernel_rfl!) fun h1 tk1 v1 hv1 S1 => ?_
  refine ⟨_, rfl, ?_⟩
  obtain rfl := vv_ref hv1
  refine go_mul (F := 50) (H := 8564881317931728559573217571325068268671083526) 46 (q + 2) (ri + 1) S1 hri2 (le_q hq) (by kernel_rfl!) fun h2 t2 tk2 S2 => ?_
  refine go_addE (F := 5) (H := 1) (repS 46 (q + 2)) ⟨#[35]⟩ (wstr (q + 1) 35 0) (dcat 35 (q + 1)) S2 (dlen hq) (by kernel_rfl!) fun h3 t3 tk3 S3 => ?_
  refine go_mul (F := 42) (H := 8168107335979202804158418246578162632706) 46 (q + 2) (ri + 1) S3 hri2 (le_q hq) (by kernel_rfl!) fun h4 t4 tk4 S4 => ?_
  refine go_addE (F := 5) (H := 1) (repS 46 (q + 2)) ⟨#[34]⟩ (wstr (q + 1) 34 0) (dcat 34 (q + 1)) S4 (dlen hq) (by kernel_rfl!) fun h5 t5 tk5 S5 => ?_
  refine go_mul (F := 42) (H := 8168107335979202804158418246578162632706) 46 (q + 2) (ri + 1) S5 hri2 (le_q hq) (by kernel_rfl!) fun h6 t6 tk6 S6 => ?_
  refine go_addE (F := 5) (H := 1) (repS 46 (q + 2)) ⟨#[97]⟩ (wstr (q + 1) 97 0) (dcat 97 (q + 1)) S6 (dlen hq) (by kernel_rfl!) fun h7 t7 tk7 S7 => ?_
  refine go_ret (F := 30) (H := 4185477102113411350112290906693085287155714) (.ref (h1.objs.size + 1)) S7 (by kernel_rfl!) fun h8 tk8 v8 hv8 S8 => ?_
  refine ⟨_, rfl, ?_⟩
  obtain rfl := vv_ref hv8
  have kp := S.kp89 hcd S8 16 (by kernel_rfl!)
  have S9 := S.unbase S8
  obtain ⟨τw, Sw⟩ := S9.part [3, 19] (vl := [⟨h1.objs.size + 1, true, vList [.str (wstr (q + 1) 35 0), .str (wstr (q + 1) 34 0), .str (wstr (q + 1) 97 0)] 3⟩, ⟨W, true, vList [.str (wstr (q + 1) 35 0), .str (wstr (q + 1) 34 0), .str (wstr (q + 1) 97 0)] wc⟩]) (by kernel_rfl!)
  refine ⟨same_strs hu (Sw.at (i := 1) rfl) (Sw.at (i := 0) rfl), ?_⟩
  exact S9.give [5, 6, 7, 8, 9, 10, 11, 12, 13, 14, 15, 16, 17, 18, 20, 21] (vl := (⟨L, true, vFrame (frL C.w.params aE aW aQ W f Rl []) 6⟩ :: ⟨c7, true, vCell0⟩ :: ⟨c6, true, vCell (.int ri)⟩ :: midL c5 c4 c3 c2 aC aL aN aP k0 k1 k2 n0 n1 n2 p0 p1 p2 [⟨Rl, true, vList [.ref y0, .ref y1, .ref y2] dn⟩, tab89 (ov (mkO V (hdL (tlL (tlL (tlL (tlL (tlL (tlL (tlL (tlL (tlL (tlL (tlL (tlL (tlL (tlL (tlL (tlL τ)))))))))))))))))))])) (fun τ9 S10 => k _ _ _ τ9 S10 (hcd.run _ S S9 16 21 (by kernel_rfl!)) (hf.kp oF kp) (hy0.kp o0 kp) (hy1.kp o1 kp) (hy2.kp o2 kp)) (by kernel_rfl!)
end Mine
end
/-! ## Ge -/
section
open PySem PySem.W PyProof.Rows
set_option Elab.async false
set_option linter.unusedVariables false
set_option maxRecDepth 100000
set_option maxHeartbeats 2000000
namespace Mine
noncomputable def stepM3 (M : CM) (n k : Int) (a : Nat) : CM := putM (putM M kAll (.num (numO (getM M kAll) 0 + n * k))) ⟨#[a]⟩ (.pair n (n * k))
theorem Good.putAll {M : CM} {z : Int} (x : Good M) : Good (putM M kAll (.num z)) := x.put (by decide) (by simp [numC])
theorem Good.putL {M : CM} {a : Nat} {p z : Int} (ha : Letter a) (x : Good M) : Good (putM M ⟨#[a]⟩ (.pair p z)) := x.put (by rcases ha with rfl | rfl | rfl <;> decide) (by rcases ha with rfl | rfl | rfl <;> simp [numC, kAll])
noncomputable def stK (M : CM) (n k : Int) (a : Nat) : CM := if n > 0 then stepM3 M n k a else M
theorem Good.stK {M : CM} {n k : Int} {a : Nat} (ha : Letter a) (x : Good M) : Good (Mine.stK M n k a) := by
  unfold Mine.stK
  split
  · exact x.putAll.putL ha
  · exact x
noncomputable def clFor : Stmt := nthS lawB 11
noncomputable abbrev clCode (L it c1 c2 c3 c4 c5 c6 c7 : Addr) : Code := .forLoop (forTgt clFor) (.ref it) (forBdy clFor) [] (envW L c1 c2 c3 c4 c5 c6 c7)
section
variable {C : Cx} {A : Around} {R : Post Result} {h₀ h : Heap} {fp : List Addr} {g : Gs} {tk : Nat} {L c1 c2 c3 c4 c5 c6 c7 it cd aC aL aN aE aW aQ W f Rl T0 T1 T2 : Addr} {k0 k1 k2 n0 n1 n2 : Int} {τ : List (List Tok)} {es : List (Int × VV × VV)} {ep : Nat} {M : CM}
theorem ct_00 (hA : A.handled = none) (hq : decide (n0 > 0) = false) (gM : Good M)
    (S : St (topObj C.w.params) h₀ h fp (mkL (⟨it, true, vRI 0 3⟩ :: ⟨L, true, vFrame (frL C.w.params aE aW aQ W f Rl [en C.w.params [99, 97, 108, 108, 101, 114, 115] (.ref (cd + 2))]) 7⟩ :: ⟨cd + 2, true, vDict es ep⟩ :: tlG c4 c3 c2 aN aL aC n0 n1 n2 k0 k1 k2 []) τ)) (x : Callers C.prog C.w h (cd + 2) M)
    (kk : ∀ h' tk' es' en' τ', St (topObj C.w.params) h₀ h' fp (mkL (⟨it, true, vRI 1 2⟩ :: ⟨L, true, vFrame (frL C.w.params aE aW aQ W f Rl [en C.w.params [99, 97, 108, 108, 101, 114, 115] (.ref (cd + 2)), en C.w.params [107] (.int 0)]) 8⟩ :: ⟨cd + 2, true, vDict es' en'⟩ :: tlG c4 c3 c2 aN aL aC n0 n1 n2 k0 k1 k2 []) τ') → Callers C.prog C.w h' (cd + 2) M → CodeP C A (clCode L it c1 c2 c3 c4 c5 c6 c7) R h' g tk') :
    CodeP C A (clCode L it c1 c2 c3 c4 c5 c6 c7) R h g tk := by
  obtain ⟨hd', dp, fr', gs, un⟩ := A
  cases hA
  have Sr := S.rebase
  refine enter ?_
  refine go_gt (F := 39) (H := 10486284248349183974112366190797184076781030124553217) n0 0 false Sr hq (by kernel_rfl!) fun h1 tk1 S1 => ?_
  refine go_again (F := 0) (H := 0) (c' := (clCode L it c1 c2 c3 c4 c5 c6 c7)) S1 (fun h2 tk2 S2 => (S.unbase S2).give [0, 1, 2, 3, 4, 5, 6, 7, 8] (vl := (⟨it, true, vRI 1 2⟩ :: ⟨L, true, vFrame (frL C.w.params aE aW aQ W f Rl [en C.w.params [99, 97, 108, 108, 101, 114, 115] (.ref (cd + 2)), en C.w.params [107] (.int 0)]) 8⟩ :: ⟨cd + 2, true, vDict ((mkEs es (hdL (tlL (tlL τ)))).map ve) ep⟩ :: tlG c4 c3 c2 aN aL aC n0 n1 n2 k0 k1 k2 [])) (fun τ S' => kk _ _ _ _ τ S' (x.run S S2 2 2 (by kernel_rfl!))) (by kernel_rfl!)) (by kernel_rfl!)
theorem ct_01 (hA : A.handled = none) (hb : 0 ≤ n0 ∧ n0 < 100) (hq : decide (n0 > 0) = true) (gM : Good M)
    (S : St (topObj C.w.params) h₀ h fp (mkL (⟨it, true, vRI 0 3⟩ :: ⟨L, true, vFrame (frL C.w.params aE aW aQ W f Rl [en C.w.params [99, 97, 108, 108, 101, 114, 115] (.ref (cd + 2))]) 7⟩ :: ⟨cd + 2, true, vDict es ep⟩ :: tlG c4 c3 c2 aN aL aC n0 n1 n2 k0 k1 k2 []) τ)) (x : Callers C.prog C.w h (cd + 2) M)
    (kk : ∀ h' tk' es' en' τ', St (topObj C.w.params) h₀ h' fp (mkL (⟨it, true, vRI 1 2⟩ :: ⟨L, true, vFrame (frL C.w.params aE aW aQ W f Rl [en C.w.params [99, 97, 108, 108, 101, 114, 115] (.ref (cd + 2)), en C.w.params [107] (.int 0)]) 8⟩ :: ⟨cd + 2, true, vDict es' en'⟩ :: tlG c4 c3 c2 aN aL aC n0 n1 n2 k0 k1 k2 []) τ') → Callers C.prog C.w h' (cd + 2) (stepM3 M n0 k0 35) → CodeP C A (clCode L it c1 c2 c3 c4 c5 c6 c7) R h' g tk') :
    CodeP C A (clCode L it c1 c2 c3 c4 c5 c6 c7) R h g tk := by
  obtain ⟨hd', dp, fr', gs, un⟩ := A
  cases hA
  have Sr := S.rebase
  refine enter ?_
  refine go_gt (F := 39) (H := 10486284248349183974112366190797184076781030124553217) n0 0 true Sr hq (by kernel_rfl!) fun h1 tk1 S1 => ?_
  refine go_dget (F := 14) (H := 3381001479785474) (d := cd + 2) 0 S1 gM (by kernel_rfl!) (fun h' S' => x.run S S' 2 2 (by kernel_rfl!)) fun h2 t2 tk2 S2 x2 => ?_
  refine go_imul (F := 29) (H := 12262139955203779918250684653745858414596) n0 k0 S2 hb (by kernel_rfl!) fun h3 t3 tk3 S3 => ?_
  refine go_dset (F := 13) (H := 3224374274) (d := cd + 2) kAll (.int (numO (getM M kAll) 0 + n0 * k0)) (.num (numO (getM M kAll) 0 + n0 * k0)) 2 S3 gM (by kernel_rfl!) (fun h' S' => x.run S S' 2 2 (by kernel_rfl!)) cv_num fun h4 tk4 es4 ep4 S4 x4 => ?_
  have S5 := S4.rebase
  refine go_imul (F := 43) (H := 14476579683177755771841296084158821897402741773116610247133188) n0 k0 S5 hb (by kernel_rfl!) fun h6 t6 tk6 S6 => ?_
  refine go_dset (F := 21) (H := 5075559007409048608605704558595) (d := cd + 2) ⟨#[35]⟩ (.ref (h6.objs.size + 0)) (.pair n0 (n0 * k0)) 3 S6 gM.putAll (by kernel_rfl!) (fun h' S' => x4.run S4 S' 2 3 (by kernel_rfl!)) (cv_pair 0 (by kernel_rfl!)) fun h7 tk7 es7 ep7 S7 x7 => ?_
  have S7s := S7.sel [1, 2, 3, 4, 5, 6, 7, 8, 9] [true, true, true, false, false, false, false, false, false] (by rfl)
  have S8 := S7s.rebase
  refine go_again (F := 1) (H := 0) (c' := (clCode L it c1 c2 c3 c4 c5 c6 c7)) S8 (fun h9 tk9 S9 => (S.unbase (S4.unbase (S7s.unbase S9))).give [0, 1, 2, 3, 4, 5, 6, 7, 8] (vl := (⟨it, true, vRI 1 2⟩ :: ⟨L, true, vFrame (frL C.w.params aE aW aQ W f Rl [en C.w.params [99, 97, 108, 108, 101, 114, 115] (.ref (cd + 2)), en C.w.params [107] (.int 0)]) 8⟩ :: ⟨cd + 2, true, vDict (es7.toList.map ve) ep7⟩ :: tlG c4 c3 c2 aN aL aC n0 n1 n2 k0 k1 k2 [])) (fun τ S' => kk _ _ _ _ τ S' (x7.run S7s S9 2 2 (by kernel_rfl!))) (by kernel_rfl!)) (by kernel_rfl!)
theorem ct_10 (hA : A.handled = none) (hq : decide (n1 > 0) = false) (gM : Good M)
    (S : St (topObj C.w.params) h₀ h fp (mkL (⟨it, true, vRI 1 2⟩ :: ⟨L, true, vFrame (frL C.w.params aE aW aQ W f Rl [en C.w.params [99, 97, 108, 108, 101, 114, 115] (.ref (cd + 2)), en C.w.params [107] (.int 0)]) 8⟩ :: ⟨cd + 2, true, vDict es ep⟩ :: tlG c4 c3 c2 aN aL aC n0 n1 n2 k0 k1 k2 []) τ)) (x : Callers C.prog C.w h (cd + 2) M)
    (kk : ∀ h' tk' es' en' τ', St (topObj C.w.params) h₀ h' fp (mkL (⟨it, true, vRI 2 1⟩ :: ⟨L, true, vFrame (frL C.w.params aE aW aQ W f Rl [en C.w.params [99, 97, 108, 108, 101, 114, 115] (.ref (cd + 2)), en C.w.params [107] (.int 1)]) 8⟩ :: ⟨cd + 2, true, vDict es' en'⟩ :: tlG c4 c3 c2 aN aL aC n0 n1 n2 k0 k1 k2 []) τ') → Callers C.prog C.w h' (cd + 2) M → CodeP C A (clCode L it c1 c2 c3 c4 c5 c6 c7) R h' g tk') :
    CodeP C A (clCode L it c1 c2 c3 c4 c5 c6 c7) R h g tk := by
  obtain ⟨hd', dp, fr', gs, un⟩ := A
  cases hA
  have Sr := S.rebase
  refine enter ?_
  refine go_gt (F := 39) (H := 10486284248349183974112366190797184076781030124553217) n1 0 false Sr hq (by kernel_rfl!) fun h1 tk1 S1 => ?_
  refine go_again (F := 0) (H := 0) (c' := (clCode L it c1 c2 c3 c4 c5 c6 c7)) S1 (fun h2 tk2 S2 => (S.unbase S2).give [0, 1, 2, 3, 4, 5, 6, 7, 8] (vl := (⟨it, true, vRI 2 1⟩ :: ⟨L, true, vFrame (frL C.w.params aE aW aQ W f Rl [en C.w.params [99, 97, 108, 108, 101, 114, 115] (.ref (cd + 2)), en C.w.params [107] (.int 1)]) 8⟩ :: ⟨cd + 2, true, vDict ((mkEs es (hdL (tlL (tlL τ)))).map ve) ep⟩ :: tlG c4 c3 c2 aN aL aC n0 n1 n2 k0 k1 k2 [])) (fun τ S' => kk _ _ _ _ τ S' (x.run S S2 2 2 (by kernel_rfl!))) (by kernel_rfl!)) (by kernel_rfl!)
theorem ct_11 (hA : A.handled = none) (hb : 0 ≤ n1 ∧ n1 < 100) (hq : decide (n1 > 0) = true) (gM : Good M)
    (S : St (topObj C.w.params) h₀ h fp (mkL (⟨it, true, vRI 1 2⟩ :: ⟨L, true, vFrame (frL C.w.params aE aW aQ W f Rl [en C.w.params [99, 97, 108, 108, 101, 114, 115] (.ref (cd + 2)), en C.w.params [107] (.int 0)]) 8⟩ :: ⟨cd + 2, true, vDict es ep⟩ :: tlG c4 c3 c2 aN aL aC n0 n1 n2 k0 k1 k2 []) τ)) (x : Callers C.prog C.w h (cd + 2) M)
    (kk : ∀ h' tk' es' en' τ', St (topObj C.w.params) h₀ h' fp (mkL (⟨it, true, vRI 2 1⟩ :: ⟨L, true, vFrame (frL C.w.params aE aW aQ W f Rl [en C.w.params [99, 97, 108, 108, 101, 114, 115] (.ref (cd + 2)), en C.w.params [107] (.int 1)]) 8⟩ :: ⟨cd + 2, true, vDict es' en'⟩ :: tlG c4 c3 c2 aN aL aC n0 n1 n2 k0 k1 k2 []) τ') → Callers C.prog C.w h' (cd + 2) (stepM3 M n1 k1 34) → CodeP C A (clCode L it c1 c2 c3 c4 c5 c6 c7) R h' g tk') :
    CodeP C A (clCode L it c1 c2 c3 c4 c5 c6 c7) R h g tk := by
  obtain ⟨hd', dp, fr', gs, un⟩ := A
  cases hA
  have Sr := S.rebase
  refine enter ?_
  refine go_gt (F := 39) (H := 10486284248349183974112366190797184076781030124553217) n1 0 true Sr hq (by kernel_rfl!) fun h1 tk1 S1 => ?_
  refine go_dget (F := 14) (H := 3381001479785474) (d := cd + 2) 0 S1 gM (by kernel_rfl!) (fun h' S' => x.run S S' 2 2 (by kernel_rfl!)) fun h2 t2 tk2 S2 x2 => ?_
  refine go_imul (F := 29) (H := 12262139955203779918250684653745858414596) n1 k1 S2 hb (by kernel_rfl!) fun h3 t3 tk3 S3 => ?_
  refine go_dset (F := 13) (H := 3224374274) (d := cd + 2) kAll (.int (numO (getM M kAll) 0 + n1 * k1)) (.num (numO (getM M kAll) 0 + n1 * k1)) 2 S3 gM (by kernel_rfl!) (fun h' S' => x.run S S' 2 2 (by kernel_rfl!)) cv_num fun h4 tk4 es4 ep4 S4 x4 => ?_
  have S5 := S4.rebase
  refine go_imul (F := 43) (H := 14476579683177755771841296084158821897402741773116610247133188) n1 k1 S5 hb (by kernel_rfl!) fun h6 t6 tk6 S6 => ?_
  refine go_dset (F := 21) (H := 5075559007409048608605704558595) (d := cd + 2) ⟨#[34]⟩ (.ref (h6.objs.size + 0)) (.pair n1 (n1 * k1)) 3 S6 gM.putAll (by kernel_rfl!) (fun h' S' => x4.run S4 S' 2 3 (by kernel_rfl!)) (cv_pair 0 (by kernel_rfl!)) fun h7 tk7 es7 ep7 S7 x7 => ?_
  have S7s := S7.sel [1, 2, 3, 4, 5, 6, 7, 8, 9] [true, true, true, false, false, false, false, false, false] (by rfl)
  have S8 := S7s.rebase
  refine go_again (F := 1) (H := 0) (c' := (clCode L it c1 c2 c3 c4 c5 c6 c7)) S8 (fun h9 tk9 S9 => (S.unbase (S4.unbase (S7s.unbase S9))).give [0, 1, 2, 3, 4, 5, 6, 7, 8] (vl := (⟨it, true, vRI 2 1⟩ :: ⟨L, true, vFrame (frL C.w.params aE aW aQ W f Rl [en C.w.params [99, 97, 108, 108, 101, 114, 115] (.ref (cd + 2)), en C.w.params [107] (.int 1)]) 8⟩ :: ⟨cd + 2, true, vDict (es7.toList.map ve) ep7⟩ :: tlG c4 c3 c2 aN aL aC n0 n1 n2 k0 k1 k2 [])) (fun τ S' => kk _ _ _ _ τ S' (x7.run S7s S9 2 2 (by kernel_rfl!))) (by kernel_rfl!)) (by kernel_rfl!)
theorem ct_20 (hA : A.handled = none) (hq : decide (n2 > 0) = false) (gM : Good M)
    (S : St (topObj C.w.params) h₀ h fp (mkL (⟨it, true, vRI 2 1⟩ :: ⟨L, true, vFrame (frL C.w.params aE aW aQ W f Rl [en C.w.params [99, 97, 108, 108, 101, 114, 115] (.ref (cd + 2)), en C.w.params [107] (.int 1)]) 8⟩ :: ⟨cd + 2, true, vDict es ep⟩ :: tlG c4 c3 c2 aN aL aC n0 n1 n2 k0 k1 k2 []) τ)) (x : Callers C.prog C.w h (cd + 2) M)
    (kk : ∀ h' tk' es' en' τ', St (topObj C.w.params) h₀ h' fp (mkL (⟨it, true, vRI 3 0⟩ :: ⟨L, true, vFrame (frL C.w.params aE aW aQ W f Rl [en C.w.params [99, 97, 108, 108, 101, 114, 115] (.ref (cd + 2)), en C.w.params [107] (.int 2)]) 8⟩ :: ⟨cd + 2, true, vDict es' en'⟩ :: tlG c4 c3 c2 aN aL aC n0 n1 n2 k0 k1 k2 []) τ') → Callers C.prog C.w h' (cd + 2) M → CodeP C A (clCode L it c1 c2 c3 c4 c5 c6 c7) R h' g tk') :
    CodeP C A (clCode L it c1 c2 c3 c4 c5 c6 c7) R h g tk := by
  obtain ⟨hd', dp, fr', gs, un⟩ := A
  cases hA
  have Sr := S.rebase
  refine enter ?_
  refine go_gt (F := 39) (H := 10486284248349183974112366190797184076781030124553217) n2 0 false Sr hq (by kernel_rfl!) fun h1 tk1 S1 => ?_
  refine go_again (F := 0) (H := 0) (c' := (clCode L it c1 c2 c3 c4 c5 c6 c7)) S1 (fun h2 tk2 S2 => (S.unbase S2).give [0, 1, 2, 3, 4, 5, 6, 7, 8] (vl := (⟨it, true, vRI 3 0⟩ :: ⟨L, true, vFrame (frL C.w.params aE aW aQ W f Rl [en C.w.params [99, 97, 108, 108, 101, 114, 115] (.ref (cd + 2)), en C.w.params [107] (.int 2)]) 8⟩ :: ⟨cd + 2, true, vDict ((mkEs es (hdL (tlL (tlL τ)))).map ve) ep⟩ :: tlG c4 c3 c2 aN aL aC n0 n1 n2 k0 k1 k2 [])) (fun τ S' => kk _ _ _ _ τ S' (x.run S S2 2 2 (by kernel_rfl!))) (by kernel_rfl!)) (by kernel_rfl!)
theorem ct_21 (hA : A.handled = none) (hb : 0 ≤ n2 ∧ n2 < 100) (hq : decide (n2 > 0) = true) (gM : Good M)
    (S : St (topObj C.w.params) h₀ h fp (mkL (⟨it, true, vRI 2 1⟩ :: ⟨L, true, vFrame (frL C.w.params aE aW aQ W f Rl [en C.w.params [99, 97, 108, 108, 101, 114, 115] (.ref (cd + 2)), en C.w.params [107] (.int 1)]) 8⟩ :: ⟨cd + 2, true, vDict es ep⟩ :: tlG c4 c3 c2 aN aL aC n0 n1 n2 k0 k1 k2 []) τ)) (x : Callers C.prog C.w h (cd + 2) M)
    (kk : ∀ h' tk' es' en' τ', St (topObj C.w.params) h₀ h' fp (mkL (⟨it, true, vRI 3 0⟩ :: ⟨L, true, vFrame (frL C.w.params aE aW aQ W f Rl [en C.w.params [99, 97, 108, 108, 101, 114, 115] (.ref (cd + 2)), en C.w.params [107] (.int 2)]) 8⟩ :: ⟨cd + 2, true, vDict es' en'⟩ :: tlG c4 c3 c2 aN aL aC n0 n1 n2 k0 k1 k2 []) τ') → Callers C.prog C.w h' (cd + 2) (stepM3 M n2 k2 97) → CodeP C A (clCode L it c1 c2 c3 c4 c5 c6 c7) R h' g tk') :
    CodeP C A (clCode L it c1 c2 c3 c4 c5 c6 c7) R h g tk := by
  obtain ⟨hd', dp, fr', gs, un⟩ := A
  cases hA
  have Sr := S.rebase
  refine enter ?_
  refine go_gt (F := 39) (H := 10486284248349183974112366190797184076781030124553217) n2 0 true Sr hq (by kernel_rfl!) fun h1 tk1 S1 => ?_
  refine go_dget (F := 14) (H := 3381001479785474) (d := cd + 2) 0 S1 gM (by kernel_rfl!) (fun h' S' => x.run S S' 2 2 (by kernel_rfl!)) fun h2 t2 tk2 S2 x2 => ?_
  refine go_imul (F := 29) (H := 12262139955203779918250684653745858414596) n2 k2 S2 hb (by kernel_rfl!) fun h3 t3 tk3 S3 => ?_
  refine go_dset (F := 13) (H := 3224374274) (d := cd + 2) kAll (.int (numO (getM M kAll) 0 + n2 * k2)) (.num (numO (getM M kAll) 0 + n2 * k2)) 2 S3 gM (by kernel_rfl!) (fun h' S' => x.run S S' 2 2 (by kernel_rfl!)) cv_num fun h4 tk4 es4 ep4 S4 x4 => ?_
  have S5 := S4.rebase
  refine go_imul (F := 43) (H := 14476579683177755771841296084158821897402741773116610247133188) n2 k2 S5 hb (by kernel_rfl!) fun h6 t6 tk6 S6 => ?_
  refine go_dset (F := 21) (H := 5075559007409048608605704558595) (d := cd + 2) ⟨#[97]⟩ (.ref (h6.objs.size + 0)) (.pair n2 (n2 * k2)) 3 S6 gM.putAll (by kernel_rfl!) (fun h' S' => x4.run S4 S' 2 3 (by kernel_rfl!)) (cv_pair 0 (by kernel_rfl!)) fun h7 tk7 es7 ep7 S7 x7 => ?_
  have S7s := S7.sel [1, 2, 3, 4, 5, 6, 7, 8, 9] [true, true, true, false, false, false, false, false, false] (by rfl)
  have S8 := S7s.rebase
  refine go_again (F := 1) (H := 0) (c' := (clCode L it c1 c2 c3 c4 c5 c6 c7)) S8 (fun h9 tk9 S9 => (S.unbase (S4.unbase (S7s.unbase S9))).give [0, 1, 2, 3, 4, 5, 6, 7, 8] (vl := (⟨it, true, vRI 3 0⟩ :: ⟨L, true, vFrame (frL C.w.params aE aW aQ W f Rl [en C.w.params [99, 97, 108, 108, 101, 114, 115] (.ref (cd + 2)), en C.w.params [107] (.int 2)]) 8⟩ :: ⟨cd + 2, true, vDict (es7.toList.map ve) ep7⟩ :: tlG c4 c3 c2 aN aL aC n0 n1 n2 k0 k1 k2 [])) (fun τ S' => kk _ _ _ _ τ S' (x7.run S7s S9 2 2 (by kernel_rfl!))) (by kernel_rfl!)) (by kernel_rfl!)
theorem ct_end (hA : A.handled = none) (S : St (topObj C.w.params) h₀ h fp (mkL (⟨it, true, vRI 3 0⟩ :: ⟨L, true, vFrame (frL C.w.params aE aW aQ W f Rl [en C.w.params [99, 97, 108, 108, 101, 114, 115] (.ref (cd + 2)), en C.w.params [107] (.int 2)]) 8⟩ :: ⟨cd + 2, true, vDict es ep⟩ :: tlG c4 c3 c2 aN aL aC n0 n1 n2 k0 k1 k2 []) τ)) (x : Callers C.prog C.w h (cd + 2) M)
    (kk : ∀ h' tk' es' en' τ', St (topObj C.w.params) h₀ h' fp (mkL (⟨it, true, vRI 3 0⟩ :: ⟨L, true, vFrame (frL C.w.params aE aW aQ W f Rl [en C.w.params [99, 97, 108, 108, 101, 114, 115] (.ref (cd + 2)), en C.w.params [107] (.int 2)]) 8⟩ :: ⟨cd + 2, true, vDict es' en'⟩ :: tlG c4 c3 c2 aN aL aC n0 n1 n2 k0 k1 k2 []) τ') → Callers C.prog C.w h' (cd + 2) M → R (.ok .next) h' g tk') :
    CodeP C A (clCode L it c1 c2 c3 c4 c5 c6 c7) R h g tk := by
  obtain ⟨hd', dp, fr', gs, un⟩ := A
  cases hA
  have Sr := S.rebase
  refine enter ?_
  refine go_next (F := 15) (H := 1127000493261825) Sr (by kernel_rfl!) fun h1 tk1 S1 => ?_
  exact (S.unbase S1).give [2, 3, 4, 5, 6, 7, 8, 9, 10] (vl := (⟨it, true, vRI 3 0⟩ :: ⟨L, true, vFrame (frL C.w.params aE aW aQ W f Rl [en C.w.params [99, 97, 108, 108, 101, 114, 115] (.ref (cd + 2)), en C.w.params [107] (.int 2)]) 8⟩ :: ⟨cd + 2, true, vDict ((mkEs es (hdL (tlL (tlL τ)))).map ve) ep⟩ :: tlG c4 c3 c2 aN aL aC n0 n1 n2 k0 k1 k2 [])) (fun τ' S' => kk _ _ _ _ τ' S' (x.run S S1 2 4 (by kernel_rfl!))) (by kernel_rfl!)
theorem ct_0 (hA : A.handled = none) (hb : 0 ≤ n0 ∧ n0 < 100) (gM : Good M)
    (S : St (topObj C.w.params) h₀ h fp (mkL (⟨it, true, vRI 0 3⟩ :: ⟨L, true, vFrame (frL C.w.params aE aW aQ W f Rl [en C.w.params [99, 97, 108, 108, 101, 114, 115] (.ref (cd + 2))]) 7⟩ :: ⟨cd + 2, true, vDict es ep⟩ :: tlG c4 c3 c2 aN aL aC n0 n1 n2 k0 k1 k2 []) τ)) (x : Callers C.prog C.w h (cd + 2) M)
    (kk : ∀ h' tk' es' en' τ', St (topObj C.w.params) h₀ h' fp (mkL (⟨it, true, vRI 1 2⟩ :: ⟨L, true, vFrame (frL C.w.params aE aW aQ W f Rl [en C.w.params [99, 97, 108, 108, 101, 114, 115] (.ref (cd + 2)), en C.w.params [107] (.int 0)]) 8⟩ :: ⟨cd + 2, true, vDict es' en'⟩ :: tlG c4 c3 c2 aN aL aC n0 n1 n2 k0 k1 k2 []) τ') → Callers C.prog C.w h' (cd + 2) (stK M n0 k0 35) → CodeP C A (clCode L it c1 c2 c3 c4 c5 c6 c7) R h' g tk') :
    CodeP C A (clCode L it c1 c2 c3 c4 c5 c6 c7) R h g tk := by
  by_cases hq : n0 > 0
  · unfold stK at kk
    rw [if_pos hq] at kk
    exact ct_01 hA hb (decide_eq_true hq) gM S x kk
  · unfold stK at kk
    rw [if_neg hq] at kk
    exact ct_00 hA (decide_eq_false hq) gM S x kk
theorem ct_1 (hA : A.handled = none) (hb : 0 ≤ n1 ∧ n1 < 100) (gM : Good M)
    (S : St (topObj C.w.params) h₀ h fp (mkL (⟨it, true, vRI 1 2⟩ :: ⟨L, true, vFrame (frL C.w.params aE aW aQ W f Rl [en C.w.params [99, 97, 108, 108, 101, 114, 115] (.ref (cd + 2)), en C.w.params [107] (.int 0)]) 8⟩ :: ⟨cd + 2, true, vDict es ep⟩ :: tlG c4 c3 c2 aN aL aC n0 n1 n2 k0 k1 k2 []) τ)) (x : Callers C.prog C.w h (cd + 2) M)
    (kk : ∀ h' tk' es' en' τ', St (topObj C.w.params) h₀ h' fp (mkL (⟨it, true, vRI 2 1⟩ :: ⟨L, true, vFrame (frL C.w.params aE aW aQ W f Rl [en C.w.params [99, 97, 108, 108, 101, 114, 115] (.ref (cd + 2)), en C.w.params [107] (.int 1)]) 8⟩ :: ⟨cd + 2, true, vDict es' en'⟩ :: tlG c4 c3 c2 aN aL aC n0 n1 n2 k0 k1 k2 []) τ') → Callers C.prog C.w h' (cd + 2) (stK M n1 k1 34) → CodeP C A (clCode L it c1 c2 c3 c4 c5 c6 c7) R h' g tk') :
    CodeP C A (clCode L it c1 c2 c3 c4 c5 c6 c7) R h g tk := by
  by_cases hq : n1 > 0
  · unfold stK at kk
    rw [if_pos hq] at kk
    exact ct_11 hA hb (decide_eq_true hq) gM S x kk
  · unfold stK at kk
    rw [if_neg hq] at kk
    exact ct_10 hA (decide_eq_false hq) gM S x kk
theorem ct_2 (hA : A.handled = none) (hb : 0 ≤ n2 ∧ n2 < 100) (gM : Good M)
    (S : St (topObj C.w.params) h₀ h fp (mkL (⟨it, true, vRI 2 1⟩ :: ⟨L, true, vFrame (frL C.w.params aE aW aQ W f Rl [en C.w.params [99, 97, 108, 108, 101, 114, 115] (.ref (cd + 2)), en C.w.params [107] (.int 1)]) 8⟩ :: ⟨cd + 2, true, vDict es ep⟩ :: tlG c4 c3 c2 aN aL aC n0 n1 n2 k0 k1 k2 []) τ)) (x : Callers C.prog C.w h (cd + 2) M)
    (kk : ∀ h' tk' es' en' τ', St (topObj C.w.params) h₀ h' fp (mkL (⟨it, true, vRI 3 0⟩ :: ⟨L, true, vFrame (frL C.w.params aE aW aQ W f Rl [en C.w.params [99, 97, 108, 108, 101, 114, 115] (.ref (cd + 2)), en C.w.params [107] (.int 2)]) 8⟩ :: ⟨cd + 2, true, vDict es' en'⟩ :: tlG c4 c3 c2 aN aL aC n0 n1 n2 k0 k1 k2 []) τ') → Callers C.prog C.w h' (cd + 2) (stK M n2 k2 97) → CodeP C A (clCode L it c1 c2 c3 c4 c5 c6 c7) R h' g tk') :
    CodeP C A (clCode L it c1 c2 c3 c4 c5 c6 c7) R h g tk := by
  by_cases hq : n2 > 0
  · unfold stK at kk
    rw [if_pos hq] at kk
    exact ct_21 hA hb (decide_eq_true hq) gM S x kk
  · unfold stK at kk
    rw [if_neg hq] at kk
    exact ct_20 hA (decide_eq_false hq) gM S x kk
theorem cl_all (hA : A.handled = none) (hb0 : 0 ≤ n0 ∧ n0 < 100) (hb1 : 0 ≤ n1 ∧ n1 < 100) (hb2 : 0 ≤ n2 ∧ n2 < 100)
    (S : St (topObj C.w.params) h₀ h fp (mkL (⟨it, true, vRI 0 3⟩ :: ⟨L, true, vFrame (frL C.w.params aE aW aQ W f Rl [en C.w.params [99, 97, 108, 108, 101, 114, 115] (.ref (cd + 2))]) 7⟩ :: ⟨cd + 2, true, vDict [] 0⟩ :: tlG c4 c3 c2 aN aL aC n0 n1 n2 k0 k1 k2 []) τ)) (x : Callers C.prog C.w h (cd + 2) [])
    (kk : ∀ h' tk' es' en' τ', St (topObj C.w.params) h₀ h' fp (mkL (⟨it, true, vRI 3 0⟩ :: ⟨L, true, vFrame (frL C.w.params aE aW aQ W f Rl [en C.w.params [99, 97, 108, 108, 101, 114, 115] (.ref (cd + 2)), en C.w.params [107] (.int 2)]) 8⟩ :: ⟨cd + 2, true, vDict es' en'⟩ :: tlG c4 c3 c2 aN aL aC n0 n1 n2 k0 k1 k2 []) τ') → Callers C.prog C.w h' (cd + 2) (stK (stK (stK [] n0 k0 35) n1 k1 34) n2 k2 97) → R (.ok .next) h' g tk') :
    CodeP C A (clCode L it c1 c2 c3 c4 c5 c6 c7) R h g tk := by
  have g0 : Good [] := good0
  have g1 := g0.stK (n := n0) (k := k0) (a := 35) (.inl rfl)
  have g2 := g1.stK (n := n1) (k := k1) (a := 34) (.inr (.inl rfl))
  refine ct_0 hA hb0 g0 S x fun h1 tk1 es1 en1 τ1 S1 x1 => ?_
  refine ct_1 hA hb1 g1 S1 x1 fun h2 tk2 es2 en2 τ2 S2 x2 => ?_
  refine ct_2 hA hb2 g2 S2 x2 fun h3 tk3 es3 en3 τ3 S3 x3 => ?_
  exact ct_end hA S3 x3 kk
end
end Mine
end
/-! ## Sa -/
section
open PySem PySem.W PyProof.Rows
set_option Elab.async false
set_option linter.unusedVariables false
set_option maxRecDepth 100000
set_option maxHeartbeats 400000
namespace Mine
/-! ## What is due is what is found -/
theorem getM_stK {M : CM} {n k : Int} {a : Nat} {key : Str} (ha : Letter a) : getM (stK M n k a) key = if n > 0 then (if key = ⟨#[a]⟩ then some (.pair n (n * k)) else if key = kAll then some (.num (numO (getM M kAll) 0 + n * k)) else getM M key) else getM M key := by
  unfold stK
  split
  · unfold stepM3
    rw [getM_put, getM_put]
  · rfl
theorem sum_same {c0 c1 c2 b0 b1 b2 d0 d1 d2 : Int} {F : Ey} {m0 m1 m2 : Nat} (x : Sum3 c0 c1 c2 b0 b1 b2 d0 d1 d2 F m0 m1 m2) (key : Str) :
    getM F.M key = getM (stK (stK (stK [] m0 c0 35) m1 c1 34) m2 c2 97) key := by
  have hnil : ∀ k, getM [] k = none := fun k => rfl
  rw [getM_stK (.inr (.inr rfl)), getM_stK (.inr (.inl rfl)), getM_stK (.inl rfl), getM_stK (.inr (.inl rfl)), getM_stK (.inl rfl), getM_stK (.inl rfl), hnil, hnil]
  have e1 := ne1; have e2 := ne2; have e3 := ne3; have e4 := ne4; have e5 := ne5; have e6 := ne6
  by_cases q : key = kAll
  · subst q
    rw [x.all]
    rcases Nat.eq_zero_or_pos m0 with rfl | p0 <;> rcases Nat.eq_zero_or_pos m1 with rfl | p1 <;> rcases Nat.eq_zero_or_pos m2 with rfl | p2 <;>
      simp_all [numO, Ne.symm e1, Ne.symm e2, Ne.symm e3, Nat.pos_iff_ne_zero]
  by_cases q0 : key = ⟨#[35]⟩
  · subst q0
    rw [x.o0]
    rcases Nat.eq_zero_or_pos m0 with rfl | p0 <;> simp_all [Nat.pos_iff_ne_zero]
  by_cases q1 : key = ⟨#[34]⟩
  · subst q1
    rw [x.o1]
    rcases Nat.eq_zero_or_pos m1 with rfl | p0 <;> simp_all [Nat.pos_iff_ne_zero]
  by_cases q2 : key = ⟨#[97]⟩
  · subst q2
    rw [x.o2]
    rcases Nat.eq_zero_or_pos m2 with rfl | p0 <;> simp_all [Nat.pos_iff_ne_zero]
  · have : getM F.M key = none := getM_none fun h => by
      obtain ⟨c, hc, rfl⟩ := List.mem_map.mp h
      have := x.gd.sub c hc
      simp [keys4, q, q0, q1, q2] at this
    rw [this]
    simp [q, q0, q1, q2]
end Mine
end
/-! ## Gh -/
section
open PySem PySem.W PyProof.Rows
set_option Elab.async false
set_option linter.unusedVariables false
set_option maxRecDepth 100000
set_option maxHeartbeats 2000000
namespace Mine
set_option maxHeartbeats 4000000 in
theorem gh {C : Cx} {A : Around} {R : Post Result} {h₀ h : Heap} {fp : List Addr} {g : Gs} {tk : Nat} (hroom : A.depth + 110 < recursionLimit) (hA : A.handled = none) {L c1 c2 c3 c4 c5 c6 c7 : Addr} {V : OV} {τ : List (List Tok)} {k0 k1 k2 n0 n1 n2 : Int} {aC aL aN aE aW aP p0 p1 p2 aQ : Addr} {q : Nat} {ri : Int} {W f Rl y0 y1 y2 : Addr} {wc dn : Nat} {F Y0 Y1 Y2 : Ey} (hb0 : 0 ≤ n0 ∧ n0 < 100) (hb1 : 0 ≤ n1 ∧ n1 < 100) (hb2 : 0 ≤ n2 ∧ n2 < 100)
    (S : St (topObj C.w.params) h₀ h fp (mkL (⟨L, true, vFrame (frL C.w.params aE aW aQ W f Rl []) 6⟩ :: ⟨c7, true, vCell0⟩ :: ⟨c6, true, vCell (.int ri)⟩ :: midL c5 c4 c3 c2 aC aL aN aP k0 k1 k2 n0 n1 n2 p0 p1 p2 [⟨Rl, true, vList [.ref y0, .ref y1, .ref y2] dn⟩, tab89 V]) τ)) (hcd : CodeOk h) (oF : F.Ok) (o0 : Y0.Ok) (o1 : Y1.Ok) (o2 : Y2.Ok) (hf : EyAt C.prog C.w h f F) (hy0 : EyAt C.prog C.w h y0 Y0) (hy1 : EyAt C.prog C.w h y1 Y1) (hy2 : EyAt C.prog C.w h y2 Y2)
    (k : ∀ h' tk' cd es ep V' τ', St (topObj C.w.params) h₀ h' fp (mkL (⟨L, true, vFrame (frL C.w.params aE aW aQ W f Rl [en C.w.params [99, 97, 108, 108, 101, 114, 115] (.ref (cd + 2)), en C.w.params [107] (.int 2)]) 8⟩ :: ⟨c7, true, vCell0⟩ :: ⟨c6, true, vCell (.int ri)⟩ :: midL c5 c4 c3 c2 aC aL aN aP k0 k1 k2 n0 n1 n2 p0 p1 p2 [⟨Rl, true, vList [.ref y0, .ref y1, .ref y2] dn⟩, ⟨cd + 2, true, vDict es ep⟩, ⟨89, false, V'⟩]) τ') → Callers C.prog C.w h' (cd + 2) (stK (stK (stK [] n0 k0 35) n1 k1 34) n2 k2 97) → CodeOk h' → EyAt C.prog C.w h' f F → EyAt C.prog C.w h' y0 Y0 → EyAt C.prog C.w h' y1 Y1 → EyAt C.prog C.w h' y2 Y2 → LawP C A L c1 c2 c3 c4 c5 c6 c7 12 R h' g tk') :
    LawP C A L c1 c2 c3 c4 c5 c6 c7 10 R h g tk := by
  have h89 : 89 < h.objs.size := hcd.lt89
  obtain ⟨s, hs⟩ : ∃ s, h.objs.size = s + 2 := ⟨h.objs.size - 2, by omega⟩
  refine law_cut 10 2 ?_
  obtain ⟨hd, dp, fr, gs, un⟩ := A
  cases hA
  have Sr := S.rebase
  refine gn_code (F := 47) (H := 1395159034903186589499790781475556243277826) hs (clCode L (s + 2 + 2) c1 c2 c3 c4 c5 c6 c7) 1 Sr (by kernel_rfl!) fun h1 tk1 hdp1 hh1 S1 => ?_
  have x1 : Callers C.prog C.w h1 (s + 2) [] := by
    obtain ⟨τq, Sq⟩ := S1.part [2] (vl := [⟨s + 2, true, vDict [] 0⟩]) (by kernel_rfl!)
    exact callers0 (ad_ne s 2 (by decide)) (Sq.at (i := 0) rfl)
  refine S1.lendG [0, 3, 2, 7, 8, 9, 12, 11, 10] [true, true, true, false, false, false, false, false, false] (fp' := [s + 2 + 2, L, s + 2]) (vl := (⟨s + 2 + 2, true, vRI 0 3⟩ :: ⟨L, true, vFrame (frL C.w.params aE aW aQ W f Rl [en C.w.params [99, 97, 108, 108, 101, 114, 115] (.ref (s + 2))]) 7⟩ :: ⟨s + 2, true, vDict [] 0⟩ :: tlG c4 c3 c2 aN aL aC n0 n1 n2 k0 k1 k2 [])) (fun τ2 Sc Sb => cl_all (cd := s) hh1 hb0 hb1 hb2 Sc x1 (fun h2 tk2 es2 en2 τ3 S2 x2 => ?_)) (by kernel_rfl!)
  refine S2.give [0, 1, 2] (vl := [⟨s + 2 + 2, true, vRI 3 0⟩, ⟨L, true, vFrame (frL C.w.params aE aW aQ W f Rl [en C.w.params [99, 97, 108, 108, 101, 114, 115] (.ref (s + 2)), en C.w.params [107] (.int 2)]) 8⟩, ⟨s + 2, true, vDict ((mkEs es2 (hdL (tlL (tlL τ3)))).map ve) en2⟩]) (fun τ4 S3 => ?_) (by kernel_rfl!)
  have S4 := Sb [0, 3, 2] S3 (by kernel_rfl!)
  have S4s := S4.sel [0, 1, 2, 3, 4, 5, 6, 7, 8, 9, 10, 11, 12, 13, 14, 15, 16, 17, 18] [true, true, true, true, true, true, true, true, true, true, true, true, true, true, true, true, true, true, false] (by rfl)
  have S4r := S4s.rebase
  refine go_next (F := 0) (H := 0) S4r (by kernel_rfl!) fun h6 tk6 S6q => ?_
  have S6 := S4s.unbase S6q
  have kp := S.kp89 hcd S6 15 (by kernel_rfl!)
  have S7 := S.unbase S6
  exact S7.give [3, 4, 5, 6, 7, 8, 9, 10, 11, 12, 13, 14, 15, 16, 17, 2, 18] (vl := (⟨L, true, vFrame (frL C.w.params aE aW aQ W f Rl [en C.w.params [99, 97, 108, 108, 101, 114, 115] (.ref (s + 2)), en C.w.params [107] (.int 2)]) 8⟩ :: ⟨c7, true, vCell0⟩ :: ⟨c6, true, vCell (.int ri)⟩ :: midL c5 c4 c3 c2 aC aL aN aP k0 k1 k2 n0 n1 n2 p0 p1 p2 [⟨Rl, true, vList [.ref y0, .ref y1, .ref y2] dn⟩, ⟨s + 2, true, vDict ((mkEs ((mkEs es2 (hdL (tlL (tlL τ3)))).map ve) (hdL (tlL (tlL τ4)))).map ve) en2⟩, ⟨89, false, (ov (mkO V (hdL (tlL (tlL (tlL (tlL (tlL (tlL (tlL (tlL (tlL (tlL (tlL (tlL (tlL (tlL (tlL τ))))))))))))))))))⟩])) (fun τ5 S8 => k _ _ s _ _ _ τ5 S8 (x2.run S4s S6q 2 2 (by kernel_rfl!)) ((hcd.run _ S S4 15 18 (by kernel_rfl!)).run _ S4s S6q 18 18 (by kernel_rfl!)) (hf.kp oF kp) (hy0.kp o0 kp) (hy1.kp o1 kp) (hy2.kp o2 kp)) (by kernel_rfl!)
end Mine
end
/-! ## Tn -/
section
open PySem PySem.W PyProof.Rows
set_option Elab.async false
set_option linter.unusedVariables false
set_option maxRecDepth 100000
set_option maxHeartbeats 400000
namespace Mine
/-! ## != of two entries, as a built-in -/
end Mine
end
/-! ## Gi -/
section
open PySem PySem.W PyProof.Rows
set_option Elab.async false
set_option linter.unusedVariables false
set_option maxRecDepth 100000
set_option maxHeartbeats 2000000
namespace Mine
theorem lints3 {T : Nat → Option Obj} {h₀ h : Heap} {fp : List Addr} {l : List Ent} {N : Addr} {a b c : Int} {t1 t2 t3 : Tok} {n : Nat} (S : St T h₀ h fp l) (i : Nat) (hi : nth l i = some ⟨N, true, oList #[.int a t1, .int b t2, .int c t3] n⟩) : LInts h N [a, b, c] :=
  ⟨_, n, S.at hi, rfl, fun i v e => match i, e with
    | 0, e => by cases e; exact ⟨_, rfl⟩
    | 1, e => by cases e; exact ⟨_, rfl⟩
    | 2, e => by cases e; exact ⟨_, rfl⟩
    | _ + 3, e => by cases e⟩
set_option maxHeartbeats 4000000 in
theorem gi {C : Cx} {A : Around} {R : Post Result} {h₀ h : Heap} {fp : List Addr} {g : Gs} {tk : Nat} (hroom : A.depth + 110 < recursionLimit) (hA : A.handled = none) {L c1 c2 c3 c4 c5 c6 c7 : Addr} {V : OV} {τ : List (List Tok)} {k0 k1 k2 n0 n1 n2 : Int} {aC aL aN aE aW aP p0 p1 p2 aQ : Addr} {q : Nat} {ri : Int} {W f Rl y0 y1 y2 : Addr} {wc dn : Nat} {F Y0 Y1 Y2 : Ey} {cd : Addr} {es : List (Int × VV × VV)} {ep : Nat} {M : CM} (hb0 : 0 ≤ n0 ∧ n0 < 100) (hb1 : 0 ≤ n1 ∧ n1 < 100) (hb2 : 0 ≤ n2 ∧ n2 < 100)
    (S0 : St (topObj C.w.params) h₀ h fp (mkL (⟨L, true, vFrame (frL C.w.params aE aW aQ W f Rl [en C.w.params [99, 97, 108, 108, 101, 114, 115] (.ref (cd + 2)), en C.w.params [107] (.int 2)]) 8⟩ :: ⟨c7, true, vCell0⟩ :: ⟨c6, true, vCell (.int ri)⟩ :: midL c5 c4 c3 c2 aC aL aN aP k0 k1 k2 n0 n1 n2 p0 p1 p2 [⟨Rl, true, vList [.ref y0, .ref y1, .ref y2] dn⟩, ⟨cd + 2, true, vDict es ep⟩, ⟨89, false, V⟩]) τ)) (x : Callers C.prog C.w h (cd + 2) M) (hcd : CodeOk h) (oF : F.Ok) (o0 : Y0.Ok) (o1 : Y1.Ok) (o2 : Y2.Ok) (hf : EyAt C.prog C.w h f F) (hy0 : EyAt C.prog C.w h y0 Y0) (hy1 : EyAt C.prog C.w h y1 Y1) (hy2 : EyAt C.prog C.w h y2 Y2)
    (k : ∀ h' tk' D V' es' τ', St (topObj C.w.params) h₀ h' fp (mkL (⟨L, true, vFrame (frL C.w.params aE aW aQ W f Rl [en C.w.params [99, 97, 108, 108, 101, 114, 115] (.ref (cd + 2)), en C.w.params [107] (.int 2), en C.w.params [100, 117, 101] (.ref (D))]) 9⟩ :: ⟨c7, true, vCell0⟩ :: ⟨c6, true, vCell (.int ri)⟩ :: midL c5 c4 c3 c2 aC aL aN aP k0 k1 k2 n0 n1 n2 p0 p1 p2 [⟨Rl, true, vList [.ref y0, .ref y1, .ref y2] dn⟩, ⟨cd + 2, false, vDict es' ep⟩, ⟨89, false, V'⟩, ⟨D, true, vList [.int ([n0 * 1, n1 * 1, n2 * 1].sum), .int ([n0 * k0, n1 * k1, n2 * k2].sum), .int ([n0 * k2, n1 * k0, n2 * k1].sum), .int ([n0 * (0 - k0), n1 * (1 - k1), n2 * (2 - k2)].sum)] 4⟩]) τ') → Callers C.prog C.w h' (cd + 2) M → CodeOk h' → EyAt C.prog C.w h' f F → EyAt C.prog C.w h' y0 Y0 → EyAt C.prog C.w h' y1 Y1 → EyAt C.prog C.w h' y2 Y2 → LawP C A L c1 c2 c3 c4 c5 c6 c7 13 R h' g tk') :
    LawP C A L c1 c2 c3 c4 c5 c6 c7 12 R h g tk := by
  have S := S0.sel [0, 1, 2, 3, 4, 5, 6, 7, 8, 9, 10, 11, 12, 13, 14, 15, 16] [true, true, true, true, true, true, true, true, true, true, true, true, true, true, true, false, false] (by rfl)
  refine law_cut 12 1 ?_
  obtain ⟨hd, dp, fr, gs, un⟩ := A
  cases hA
  have Sr := S.rebase
  refine go_imul (F := 167) (H := 113224533260158020491623956827494899768070207697551167045573642090370712646308227486736652679373587675768498399057897429316680413026593390815428781681477836953691761459100998624204431007464081965398084421875567427584) n0 1 Sr hb0 (by kernel_rfl!) fun h1 t1 tk1 S1 => ?_
  refine go_imul (F := 70) (H := 49322550881506880406320485039070978605954819083237837728198404284710292994830897743642402049344950765570) n1 1 S1 hb1 (by kernel_rfl!) fun h2 t2 tk2 S2 => ?_
  refine go_imul (F := 70) (H := 51564485012484465425455230455313403505613544967685657935695173760224146601818224677844473202593650182146) n2 1 S2 hb2 (by kernel_rfl!) fun h3 t3 tk3 S3 => ?_
  refine go_codeX (F := 42) (H := 1467216208736535843132910795723745136572211660802) (.builtin "sum.loop" ⟨[.ref (h3.objs.size + 2), .ref (h3.objs.size + 3), rawInt 0, rawInt 0], []⟩) 1 S3 (by kernel_rfl!) fun _ _ h4 tk4 hdp4 hh4 XS4 => ?_
  refine sum_at (ns := [n0 * 1, n1 * 1, n2 * 1]) (N := h.objs.size + 7) (t0 := tk3 + 0) (c := 0) hh4 XS4.S (lints3 (t1 := t1) (t2 := t2) (t3 := t3) (n := 3) XS4.S 5 (by kernel_rfl!)) (Nat.le_add_right _ _) [8, 9, 10, 11, 13, 14, 15, 16, 17, 18, 19, 20, 21, 22, 23, 24, 25, 26, 27, 28, 29] 1 0 5 (by kernel_rfl!) (by kernel_rfl!) (by kernel_rfl!) (by kernel_rfl!) (fun h5 tk5 t5 S5 hk5 => ?_)
  refine XS4.rt _ _ _ _ ?_
  refine go_imul (F := 133) (H := 85065150286509348518157146090110271851099441378969955211136547285524597108104088068438946352747861146101077635118129048814365262532624312519450659497442156324132677410764513323896540163) n0 k0 S5 hb0 (by kernel_rfl!) fun h6 t6 tk6 S6 => ?_
  refine go_imul (F := 70) (H := 47080616750529295385241171738528314406687197010226386315943183955234635854990701178119168113465354094594) n1 k1 S6 hb1 (by kernel_rfl!) fun h7 t7 tk7 S7 => ?_
  refine go_imul (F := 70) (H := 49322550881506880404375917154770739306345922894674206523439953430748489461978028112321239266714053511170) n2 k2 S7 hb2 (by kernel_rfl!) fun h8 t8 tk8 S8 => ?_
  refine go_codeX (F := 42) (H := 1467216208736535843132910795723745136572211660802) (.builtin "sum.loop" ⟨[.ref (h8.objs.size + 2), .ref (h8.objs.size + 3), rawInt 0, rawInt 0], []⟩) 1 S8 (by kernel_rfl!) fun _ _ h9 tk9 hdp9 hh9 XS9 => ?_
  refine sum_at (ns := [n0 * k0, n1 * k1, n2 * k2]) (N := h5.objs.size + 2) (t0 := tk8 + 0) (c := 0) hh9 XS9.S (lints3 (t1 := t6) (t2 := t7) (t3 := t8) (n := 3) XS9.S 5 (by kernel_rfl!)) (Nat.le_trans S5.size (Nat.le_add_right _ _)) [8, 9, 10, 11, 12, 13, 14, 15, 16, 17, 18, 19, 20, 21, 22, 23, 24, 25, 26, 27, 28] 1 0 5 (by kernel_rfl!) (by kernel_rfl!) (by kernel_rfl!) (by kernel_rfl!) (fun h10 tk10 t10 S10 hk10 => ?_)
  refine XS9.rt _ _ _ _ ?_
  refine go_imul (F := 133) (H := 85065150286509348518157146090110271851099441378969955211136547285524597108104088068438946352747861146101077635118129048814365262532624312519450659497442156324132677410764513323896540163) n0 k2 S10 hb0 (by kernel_rfl!) fun h11 t11 tk11 S11 => ?_
  refine go_imul (F := 70) (H := 47080616750529295385241171738528314406687197010226386315943183955234635854990701178119168113465354094594) n1 k0 S11 hb1 (by kernel_rfl!) fun h12 t12 tk12 S12 => ?_
  refine go_imul (F := 70) (H := 49322550881506880404375917154770739306345922894674206523439953430748489461978028112321239266714053511170) n2 k1 S12 hb2 (by kernel_rfl!) fun h13 t13 tk13 S13 => ?_
  refine go_codeX (F := 42) (H := 1467216208736535843132910795723745136572211660802) (.builtin "sum.loop" ⟨[.ref (h13.objs.size + 2), .ref (h13.objs.size + 3), rawInt 0, rawInt 0], []⟩) 1 S13 (by kernel_rfl!) fun _ _ h14 tk14 hdp14 hh14 XS14 => ?_
  refine sum_at (ns := [n0 * k2, n1 * k0, n2 * k1]) (N := h10.objs.size + 2) (t0 := tk13 + 0) (c := 0) hh14 XS14.S (lints3 (t1 := t11) (t2 := t12) (t3 := t13) (n := 3) XS14.S 5 (by kernel_rfl!)) (Nat.le_trans S10.size (Nat.le_add_right _ _)) [8, 9, 10, 11, 12, 13, 14, 15, 16, 17, 18, 19, 20, 21, 22, 23, 24, 25, 26, 27, 28] 1 0 5 (by kernel_rfl!) (by kernel_rfl!) (by kernel_rfl!) (by kernel_rfl!) (fun h15 tk15 t15 S15 hk15 => ?_)
  refine XS14.rt _ _ _ _ ?_
  refine go_imul (F := 133) (H := 85065150286509348518157146090110271851099441378969955211136547285524597108104088068438946352747861146101077635118129048814365262532624312519450659497442156324132677410764513323896540163) n0 (0 - k0) S15 hb0 (by kernel_rfl!) fun h16 t16 tk16 S16 => ?_
  refine go_imul (F := 70) (H := 47080616750529295385241171738528314406687197010226386315943183955234635854990701178119168113465354094594) n1 (1 - k1) S16 hb1 (by kernel_rfl!) fun h17 t17 tk17 S17 => ?_
  refine go_imul (F := 70) (H := 49322550881506880404375917154770739306345922894674206523439953430748489461978028112321239266714053511170) n2 (2 - k2) S17 hb2 (by kernel_rfl!) fun h18 t18 tk18 S18 => ?_
  refine go_codeX (F := 42) (H := 1467216208736535843132910795723745136572211660802) (.builtin "sum.loop" ⟨[.ref (h18.objs.size + 2), .ref (h18.objs.size + 3), rawInt 0, rawInt 0], []⟩) 1 S18 (by kernel_rfl!) fun _ _ h19 tk19 hdp19 hh19 XS19 => ?_
  refine sum_at (ns := [n0 * (0 - k0), n1 * (1 - k1), n2 * (2 - k2)]) (N := h15.objs.size + 2) (t0 := tk18 + 0) (c := 0) hh19 XS19.S (lints3 (t1 := t16) (t2 := t17) (t3 := t18) (n := 3) XS19.S 5 (by kernel_rfl!)) (Nat.le_trans S15.size (Nat.le_add_right _ _)) [8, 9, 10, 11, 12, 13, 14, 15, 16, 17, 18, 19, 20, 21, 22, 23, 24, 25, 26, 27, 28] 1 0 5 (by kernel_rfl!) (by kernel_rfl!) (by kernel_rfl!) (by kernel_rfl!) (fun h20 tk20 t20 S20 hk20 => ?_)
  refine XS19.rt _ _ _ _ ?_
  refine go_next (F := 33) (H := 9095394299418015502254526067379203) S20 (by kernel_rfl!) fun h21 tk21 S21 => ?_
  have kp := S.kp S21 (by kernel_rfl!)
  have Sz := S.unbase S21
  exact Sz.give [6, 7, 8, 9, 10, 11, 12, 13, 14, 15, 16, 17, 18, 19, 20, 21, 22, 4] (vl := (⟨L, true, vFrame (frL C.w.params aE aW aQ W f Rl [en C.w.params [99, 97, 108, 108, 101, 114, 115] (.ref (cd + 2)), en C.w.params [107] (.int 2), en C.w.params [100, 117, 101] (.ref (h.objs.size + 2))]) 9⟩ :: ⟨c7, true, vCell0⟩ :: ⟨c6, true, vCell (.int ri)⟩ :: midL c5 c4 c3 c2 aC aL aN aP k0 k1 k2 n0 n1 n2 p0 p1 p2 [⟨Rl, true, vList [.ref y0, .ref y1, .ref y2] dn⟩, ⟨cd + 2, false, vDict ((mkEs es (hdL (tlL (tlL (tlL (tlL (tlL (tlL (tlL (tlL (tlL (tlL (tlL (tlL (tlL (tlL (tlL τ))))))))))))))))).map ve) ep⟩, ⟨89, false, (ov (mkO V (hdL (tlL (tlL (tlL (tlL (tlL (tlL (tlL (tlL (tlL (tlL (tlL (tlL (tlL (tlL (tlL (tlL τ)))))))))))))))))))⟩, ⟨h.objs.size + 2, true, vList [.int ([n0 * 1, n1 * 1, n2 * 1].sum), .int ([n0 * k0, n1 * k1, n2 * k2].sum), .int ([n0 * k2, n1 * k0, n2 * k1].sum), .int ([n0 * (0 - k0), n1 * (1 - k1), n2 * (2 - k2)].sum)] 4⟩])) (fun τz Sf => k _ _ _ _ _ τz Sf (x.run S S21 15 21 (by kernel_rfl!)) (hcd.run _ S S21 16 22 (by kernel_rfl!)) (hf.kp oF kp) (hy0.kp o0 kp) (hy1.kp o1 kp) (hy2.kp o2 kp)) (by kernel_rfl!)
end Mine
end
/-! ## Gj -/
section
open PySem PySem.W PyProof.Rows
set_option Elab.async false
set_option linter.unusedVariables false
set_option maxRecDepth 100000
set_option maxHeartbeats 2000000
namespace Mine
set_option maxHeartbeats 4000000 in
theorem gj {C : Cx} {A : Around} {R : Post Result} {h₀ h : Heap} {fp : List Addr} {g : Gs} {tk : Nat} (hroom : A.depth + 110 < recursionLimit) (hA : A.handled = none) {L c1 c2 c3 c4 c5 c6 c7 : Addr} {V : OV} {τ : List (List Tok)} (hun : A.units + 100 < cLine) {k0 k1 k2 n0 n1 n2 : Int} {aC aL aN aE aW aP p0 p1 p2 aQ : Addr} {q : Nat} {ri : Int} {W f Rl y0 y1 y2 : Addr} {wc dn : Nat} {F Y0 Y1 Y2 : Ey} {cd D : Addr} {es : List (Int × VV × VV)} {ep : Nat} {M : CM} {s0 s1 s2 s3 : Int} (e0 : F.a = s0) (e1 : F.b = s1) (e2 : F.c = s2) (e3 : F.d = s3) (gF : Good F.M) (gM : Good M) (eM : ∀ key, getM F.M key = getM M key)
    (S : St (topObj C.w.params) h₀ h fp (mkL (⟨L, true, vFrame (frL C.w.params aE aW aQ W f Rl [en C.w.params [99, 97, 108, 108, 101, 114, 115] (.ref (cd + 2)), en C.w.params [107] (.int 2), en C.w.params [100, 117, 101] (.ref (D))]) 9⟩ :: ⟨c7, true, vCell0⟩ :: ⟨c6, true, vCell (.int ri)⟩ :: midL c5 c4 c3 c2 aC aL aN aP k0 k1 k2 n0 n1 n2 p0 p1 p2 [⟨Rl, true, vList [.ref y0, .ref y1, .ref y2] dn⟩, ⟨cd + 2, false, vDict es ep⟩, ⟨89, false, V⟩, ⟨D, true, vList [.int s0, .int s1, .int s2, .int s3] 4⟩]) τ)) (x : Callers C.prog C.w h (cd + 2) M) (hcd : CodeOk h) (oF : F.Ok) (o0 : Y0.Ok) (o1 : Y1.Ok) (o2 : Y2.Ok) (hf : EyAt C.prog C.w h f F) (hy0 : EyAt C.prog C.w h y0 Y0) (hy1 : EyAt C.prog C.w h y1 Y1) (hy2 : EyAt C.prog C.w h y2 Y2)
    (k : ∀ h' tk' V' es' τ', St (topObj C.w.params) h₀ h' fp (mkL (⟨L, true, vFrame (frL C.w.params aE aW aQ W f Rl [en C.w.params [99, 97, 108, 108, 101, 114, 115] (.ref (cd + 2)), en C.w.params [107] (.int 2), en C.w.params [100, 117, 101] (.ref (D))]) 9⟩ :: ⟨c7, true, vCell0⟩ :: ⟨c6, true, vCell (.int ri)⟩ :: midL c5 c4 c3 c2 aC aL aN aP k0 k1 k2 n0 n1 n2 p0 p1 p2 [⟨Rl, true, vList [.ref y0, .ref y1, .ref y2] dn⟩, ⟨cd + 2, false, vDict es' ep⟩, ⟨89, false, V'⟩]) τ') → CodeOk h' → EyAt C.prog C.w h' y0 Y0 → EyAt C.prog C.w h' y1 Y1 → EyAt C.prog C.w h' y2 Y2 → LawP C A L c1 c2 c3 c4 c5 c6 c7 14 R h' g tk') :
    LawP C A L c1 c2 c3 c4 c5 c6 c7 13 R h g tk := by
  subst e0 e1 e2 e3
  have hu : (A.under (lawC L c1 c2 c3 c4 c5 c6 c7)).units + 10 < cLine := by rw [law_units]; omega
  refine ne_cut (b := lawB.drop 13) (by unfold isNe; kernel_rfl!) (by kernel_rfl!) ?_
  rw [List.drop_drop]
  obtain ⟨hd, dp, fr, gs, un⟩ := A
  cases hA
  have Sr := S.rebase
  refine go_ret (F := 2) (H := 1) (.ref f) Sr (by kernel_rfl!) fun h1 tk1 v1 hv1 S1 => ?_
  refine ⟨_, rfl, ?_⟩
  obtain rfl := vv_ref hv1
  refine go_ret (F := 52) (H := 1797935282926977576192162998117991218132740481701877182180384662460844033) (.ref (h1.objs.size + 0)) S1 (by kernel_rfl!) fun h8 tk8 v8 hv8 S8 => ?_
  refine ⟨_, rfl, ?_⟩
  obtain rfl := vv_ref hv8
  have kp := S.kp S8 (by kernel_rfl!)
  have S9 := S.unbase S8
  obtain ⟨τw, Sw⟩ := S9.part [0] (vl := [⟨h1.objs.size + 0, true, vTup [.int F.a, .int F.b, .int F.c, .int F.d, .ref (cd + 2)]⟩]) (by kernel_rfl!)
  have hf8 := hf.kp oF kp
  obtain ⟨d1, τ1, g1, g2⟩ := hf8
  refine ⟨same_tup hu g1 (Sw.at (i := 0) rfl) g2 (x.run S S8 15 16 (by kernel_rfl!)) gF gM eM, ?_⟩
  exact S9.give [1, 2, 3, 4, 5, 6, 7, 8, 9, 10, 11, 12, 13, 14, 15, 16, 17] (vl := (⟨L, true, vFrame (frL C.w.params aE aW aQ W f Rl [en C.w.params [99, 97, 108, 108, 101, 114, 115] (.ref (cd + 2)), en C.w.params [107] (.int 2), en C.w.params [100, 117, 101] (.ref (D))]) 9⟩ :: ⟨c7, true, vCell0⟩ :: ⟨c6, true, vCell (.int ri)⟩ :: midL c5 c4 c3 c2 aC aL aN aP k0 k1 k2 n0 n1 n2 p0 p1 p2 [⟨Rl, true, vList [.ref y0, .ref y1, .ref y2] dn⟩, ⟨cd + 2, false, vDict ((mkEs es (hdL (tlL (tlL (tlL (tlL (tlL (tlL (tlL (tlL (tlL (tlL (tlL (tlL (tlL (tlL (tlL τ))))))))))))))))).map ve) ep⟩, ⟨89, false, (ov (mkO V (hdL (tlL (tlL (tlL (tlL (tlL (tlL (tlL (tlL (tlL (tlL (tlL (tlL (tlL (tlL (tlL (tlL τ)))))))))))))))))))⟩])) (fun τ9 S10 => k _ _ _ _ τ9 S10 (hcd.run _ S S8 16 17 (by kernel_rfl!)) (hy0.kp o0 kp) (hy1.kp o1 kp) (hy2.kp o2 kp)) (by kernel_rfl!)
set_option maxHeartbeats 4000000 in
theorem gk {C : Cx} {A : Around} {R : Post Result} {h₀ h : Heap} {fp : List Addr} {g : Gs} {tk : Nat} (hroom : A.depth + 110 < recursionLimit) (hA : A.handled = none) {L c1 c2 c3 c4 c5 c6 c7 : Addr} {V : OV} {τ : List (List Tok)} {k0 k1 k2 n0 n1 n2 : Int} {aC aL aN aE aW aP p0 p1 p2 aQ : Addr} {q : Nat} {ri : Int} {W f Rl y0 y1 y2 : Addr} {wc dn : Nat} {F Y0 Y1 Y2 : Ey} {cd D : Addr} {es : List (Int × VV × VV)} {ep : Nat} (hq : q ≤ 3) (hri : ri = (q + 1 : Nat))
    (S : St (topObj C.w.params) h₀ h fp (mkL (⟨L, true, vFrame (frL C.w.params aE aW aQ W f Rl [en C.w.params [99, 97, 108, 108, 101, 114, 115] (.ref (cd + 2)), en C.w.params [107] (.int 2), en C.w.params [100, 117, 101] (.ref (D))]) 9⟩ :: ⟨c7, true, vCell0⟩ :: ⟨c6, true, vCell (.int ri)⟩ :: midL c5 c4 c3 c2 aC aL aN aP k0 k1 k2 n0 n1 n2 p0 p1 p2 [⟨Rl, true, vList [.ref y0, .ref y1, .ref y2] dn⟩, ⟨cd + 2, false, vDict es ep⟩, ⟨89, false, V⟩]) τ)) (hcd : CodeOk h) (o0 : Y0.Ok) (o1 : Y1.Ok) (o2 : Y2.Ok) (hy0 : EyAt C.prog C.w h y0 Y0) (hy1 : EyAt C.prog C.w h y1 Y1) (hy2 : EyAt C.prog C.w h y2 Y2)
    (k : ∀ h' tk' V' es' τ', St (topObj C.w.params) h₀ h' fp (mkL (⟨L, true, vFrame (frL C.w.params aE aW aQ W f Rl [en C.w.params [99, 97, 108, 108, 101, 114, 115] (.ref (cd + 2)), en C.w.params [107] (.int 2), en C.w.params [100, 117, 101] (.ref (D))]) 9⟩ :: ⟨c7, true, vCell (.int (2 ^ (q + 1)))⟩ :: ⟨c6, true, vCell (.int ri)⟩ :: midL c5 c4 c3 c2 aC aL aN aP k0 k1 k2 n0 n1 n2 p0 p1 p2 [⟨Rl, true, vList [.ref y0, .ref y1, .ref y2] dn⟩, ⟨cd + 2, false, vDict es' ep⟩, ⟨89, false, V'⟩]) τ') → CodeOk h' → EyAt C.prog C.w h' y0 Y0 → EyAt C.prog C.w h' y1 Y1 → EyAt C.prog C.w h' y2 Y2 → LawP C A L c1 c2 c3 c4 c5 c6 c7 15 R h' g tk') :
    LawP C A L c1 c2 c3 c4 c5 c6 c7 14 R h g tk := by
  refine law_cut 14 1 ?_
  obtain ⟨hd, dp, fr, gs, un⟩ := A
  cases hA
  have Sr := S.rebase
  refine go_pow (F := 6) (H := 3) (q + 1) ri (2 ^ (q + 1)) Sr (by omega) hri rfl (by kernel_rfl!) fun h1 t1 tk1 S1 => ?_
  refine go_next (F := 5) (H := 2050) S1 (by kernel_rfl!) fun h2 tk2 S2 => ?_
  have kp := S.kp S2 (by kernel_rfl!)
  have S9 := S.unbase S2
  exact S9.give [0, 1, 2, 3, 4, 5, 6, 7, 8, 9, 10, 11, 12, 13, 14, 15, 16] (vl := (⟨L, true, vFrame (frL C.w.params aE aW aQ W f Rl [en C.w.params [99, 97, 108, 108, 101, 114, 115] (.ref (cd + 2)), en C.w.params [107] (.int 2), en C.w.params [100, 117, 101] (.ref (D))]) 9⟩ :: ⟨c7, true, vCell (.int (2 ^ (q + 1)))⟩ :: ⟨c6, true, vCell (.int ri)⟩ :: midL c5 c4 c3 c2 aC aL aN aP k0 k1 k2 n0 n1 n2 p0 p1 p2 [⟨Rl, true, vList [.ref y0, .ref y1, .ref y2] dn⟩, ⟨cd + 2, false, vDict ((mkEs es (hdL (tlL (tlL (tlL (tlL (tlL (tlL (tlL (tlL (tlL (tlL (tlL (tlL (tlL (tlL (tlL τ))))))))))))))))).map ve) ep⟩, ⟨89, false, (ov (mkO V (hdL (tlL (tlL (tlL (tlL (tlL (tlL (tlL (tlL (tlL (tlL (tlL (tlL (tlL (tlL (tlL (tlL τ)))))))))))))))))))⟩])) (fun τ9 S10 => k _ _ _ _ τ9 S10 (hcd.run _ S S2 16 16 (by kernel_rfl!)) (hy0.kp o0 kp) (hy1.kp o1 kp) (hy2.kp o2 kp)) (by kernel_rfl!)
end Mine
end
/-! ## Tm -/
section
open PySem PySem.W PyProof.Rows
set_option Elab.async false
set_option linter.unusedVariables false
set_option maxRecDepth 100000
set_option maxHeartbeats 400000
namespace Mine
/-! ## != of two entries, as a stop; a power of two times another -/
section
variable {C : Cx} {A₀ : Around} {R₀ : Post Result} {T : Nat → Option Obj} {h₀ : Heap} {fp : List Addr} {tk : Nat} {g : Gs} {h : Heap} {l : List Ent} {κ : Kont} {r : Result}
end
/-- an entry times a power -/
theorem dbl_M {E : Ey} {p : Nat} {c b d : Int} {a : Nat} (ha : Letter a) (x : Dbl E p c b d a) (pw : Int) (hp : pw = p) (key : Str) : getM E.M key = getM [(kAll, .num (pw * c)), (⟨#[a]⟩, .pair pw (pw * c))] key := by
  subst hp
  have hne : kAll ≠ (⟨#[a]⟩ : Str) := by rcases ha with rfl | rfl | rfl <;> decide
  rw [getM_cons, getM_cons]
  by_cases h1 : kAll = key
  · rw [if_pos h1, ← h1, x.all]
  · rw [if_neg h1]
    by_cases h2 : (⟨#[a]⟩ : Str) = key
    · rw [if_pos h2, ← h2, x.own]
    · rw [if_neg h2, x.oth key (fun e => h1 e.symm) (fun e => h2 e.symm)]; rfl
theorem good2 {a : Nat} (ha : Letter a) (z p c : Int) : Good [(kAll, .num z), (⟨#[a]⟩, .pair p c)] := by
  have hne : kAll ≠ (⟨#[a]⟩ : Str) := by rcases ha with rfl | rfl | rfl <;> decide
  refine ⟨fun c' hc => ?_, fun c' hc => ?_, ?_⟩
  · rcases List.mem_cons.mp hc with rfl | hc
    · exact (by decide : kAll ∈ keys4)
    · rw [List.mem_singleton.mp hc]; show (⟨#[a]⟩ : Str) ∈ keys4; rcases ha with rfl | rfl | rfl <;> decide
  · rcases List.mem_cons.mp hc with rfl | hc
    · rfl
    · rw [List.mem_singleton.mp hc]; show false = decide ((⟨#[a]⟩ : Str) = kAll); exact (decide_eq_false (fun e => hne e.symm)).symm
  · show [kAll, ⟨#[a]⟩].Nodup
    simp [hne]
end Mine
end
/-! ## Fc -/
section
open PySem PySem.W PyProof.Rows
set_option Elab.async false
set_option linter.unusedVariables false
set_option maxRecDepth 100000
set_option maxHeartbeats 400000
namespace Mine
/-! ## A turn of a for loop, cut at a comparison -/
noncomputable def turnT (tgt : Expr) (it : Value) (b : List Stmt) (env : Env) : Sem Fin :=
  R.bindR (ZFast.zw9404975358583537561 it) fun r => match r with
    | none => .pure (.done .brk)
    | some v => R.bindR (ZFast.zw1578499551869305889 tgt it v) fun _ => R.bindR (ZFast.zw17772580674575903948 tgt env v) fun _ => R.bindR (ZFast.zw12563942051412417395 b env) fun f => .pure (.done f)
theorem turnT_eq (tgt : Expr) (it : Value) (b : List Stmt) (env : Env) : turnT tgt it b env = (pyNext it).bind fun r => match r with
    | none => .pure (.done .brk)
    | some v => (letOwnedTupleGo tgt it v).bind fun _ => (assign tgt env v).bind fun _ => (execs b env).bind fun f => .pure (.done f) := by
  unfold turnT
  rw [← ZFast.ze9404975358583537561, ← ZFast.ze1578499551869305889, ← ZFast.ze17772580674575903948, ← ZFast.ze12563942051412417395, R.bindR_eq]
noncomputable def ifNe (l r : Expr) (p1 p2 : Pos) (bd : List Stmt) : Stmt := .If (.Compare l [.NotEq] [r] p1) bd [] p2
noncomputable def turnR (C : Cx) (A : Around) (c : Code) (env : Env) (l r : Expr) (R : Post Result) : Post Result := fun q h g tk => q = .ok .next ∧
  After C A (valR fun lv h1 g1 tk1 => After C A (valR fun rv h2 g2 tk2 => Same C (A.under c) lv rv h2 g2 tk2 ∧ h2.NoLimit ∧ CodeP C A c R h2 g2 tk2) (.ret c none (fun _ => evalT r env) .base) (.ok .next) h1 g1 tk1) (.ret c none (fun _ => evalT l env) .base) (.ok .next) h g tk
section
variable {C : Cx} {A : Around} {c : Code} {env : Env} {R : Post Result} {h : Heap} {g : Gs} {tk : Nat}
theorem for_ne {tgt : Expr} {it : Value} {b1 : List Stmt} {l r : Expr} {p1 p2 : Pos} {bd : List Stmt} (hm : behindInMarks .NotEq r = false) (hq : qt (.forLoop tgt it (b1 ++ [ifNe l r p1 p2 bd]) [] env) = true)
    (x : After C A (turnR C A (.forLoop tgt it (b1 ++ [ifNe l r p1 p2 bd]) [] env) env l r R) (.ret (.forLoop tgt it (b1 ++ [ifNe l r p1 p2 bd]) [] env) none (fun _ => turnT tgt it b1 env) .base) (.ok .next) h g tk) :
    CodeP C A (.forLoop tgt it (b1 ++ [ifNe l r p1 p2 bd]) [] env) R h g tk := by
  generalize hcc : Code.forLoop tgt it (b1 ++ [ifNe l r p1 p2 bd]) [] env = c at x hq ⊢
  have y : wpOwn C.M A c (turnT tgt it b1 env) (pC C A (up C (turnR C A c env l r R))) (pE (up C (turnR C A c env l r R))) ⟨h, g, C.d, tk, C.os⟩ := x.out
  rw [turnT_eq] at y
  have nE : ∀ e s, ¬ pE (up C (turnR C A c env l r R)) e s := fun e s ⟨_, _, _, _, z, _⟩ => by cases z
  refine ⟨code_of_means ?_⟩
  rw [← den_eq]
  subst hcc
  show wpOwn _ _ _ ((forTurn tgt it (b1 ++ [ifNe l r p1 p2 bd]) [] env).onRaise _) _ _ _
  refine fun Γ p hc hΓ => ?_
  rw [Sem.wp_onRaise]
  simp only [forTurn, Sem.wp_bind', Sem.wp_cmd_standAt, Sem.wp_onRaise]
  have hin : Γ.In (A.under (.forLoop tgt it (b1 ++ [ifNe l r p1 p2 bd]) [] env)) := by rw [← hc]; exact hΓ.in
  have z := y Γ tgt.pos hc hΓ
  have sb : ∀ {α β : Type} (m : Sem α) (f : α → Sem β) (Q : β → Pos → Shared → Prop) (E : Value → Pos → Shared → Prop) (p : Pos) (s : Shared), Sem.wp C.M Γ (m.bind f) Q E p s = Sem.wp C.M Γ m (fun a p s => Sem.wp C.M Γ (f a) Q E p s) E p s := fun m f Q E p s => Sem.wp_bind' ..
  rw [sb] at z
  refine Sem.wp_mono C.M Γ _ (fun v p1 s1 h1 => ?_) (fun e _ s h' => (nE e s h').elim) _ _ z
  cases v with
  | none =>
    obtain ⟨_, _, _, _, w, _⟩ := (show pC C A (up C (turnR C A _ env l r R)) (.done .brk) s1 from h1)
    cases w
  | some v =>
    simp only [sb, Sem.wp_bind'] at h1 ⊢
    refine Sem.wp_mono C.M Γ _ (fun _ p2 s2 h2 => ?_) (fun e _ s h' => (nE e s h').elim) _ _ h1
    refine Sem.wp_mono C.M Γ _ (fun _ p3 s3 h3 => ?_) (fun e _ s h' => (nE e s h').elim) _ _ h2
    rw [execs_app]
    simp only [sb, Sem.wp_bind']
    refine Sem.wp_mono C.M Γ _ (fun f p4 s4 h4 => ?_) (fun e _ s h' => (nE e s h').elim) _ _ h3
    obtain ⟨h', g', tk', rfl, w, aft⟩ := (show pC C A (up C (turnR C A _ env l r R)) (.done f) s4 from h4)
    cases w
    dsimp only
    unfold ifNe
    rw [execs_cons, Sem.wp_bind']
    simp only [exec_If, Sem.wp_bind', Sem.wp_cmd_standAt, isTrue_Compare1, markedBehindIn_of_false hm, Sem.wp_holding, Sem.wp_operate]
    refine Sem.wp_mono C.M Γ _ (fun lv p5 s5 h5 => ?_) (fun _ _ _ h' => h'.elim) _ _ (eval_cut aft Γ _ hc hΓ)
    obtain ⟨h1', g1, tk1, rfl, y⟩ := h5
    refine Sem.wp_mono C.M Γ _ (fun rv p6 s6 h6 => ?_) (fun _ _ _ h' => h'.elim) _ _ (eval_cut y Γ _ hc hΓ)
    obtain ⟨h2', g2, tk2, rfl, sm, nl, cp⟩ := h6
    refine Sem.wp_mono C.M Γ _ (fun v p7 s7 h7 => ?_) (fun _ _ _ h' => h'.elim) _ _ (sm (fun _ _ => False) (fun v s3 => v = .bool false ∧ s3 = ⟨h2', g2, C.d, tk2, C.os⟩) ⟨rfl, rfl⟩ Γ _ hin)
    obtain ⟨rfl, rfl⟩ := h7
    have t := wpAny_truthy_bool (M := C.M) (A := A.under (.forLoop tgt it (b1 ++ [ifNe l r p1 p2 bd]) [] env)) (E := fun _ _ => False) (Q := fun b s' => b = false ∧ s' = ⟨h2', g2, C.d, tk2, C.os⟩) (s := ⟨h2', g2, C.d, tk2, C.os⟩) (b := false) ⟨rfl, rfl⟩ Γ p7 hin
    refine Sem.wp_mono C.M Γ _ (fun b p8 s8 h8 => ?_) (fun _ _ _ h' => h'.elim) _ _ t
    obtain ⟨rfl, rfl⟩ := h8
    show pC C A (up C R) (.again _) _
    exact ⟨nl, (congrFun qt_eq _).trans hq, cp.out⟩
end
end Mine
end
/-! ## Gl -/
section
open PySem PySem.W PyProof.Rows
set_option Elab.async false
set_option linter.unusedVariables false
set_option maxRecDepth 100000
set_option maxHeartbeats 2000000
namespace Mine
noncomputable def dlFor : Stmt := nthS lawB 15
noncomputable def dlS : Stmt := nthS (forBdy dlFor) 2
noncomputable abbrev dlCode (L it c1 c2 c3 c4 c5 c6 c7 : Addr) : Code := .forLoop (forTgt dlFor) (.ref it) (forBdy dlFor) [] (envW L c1 c2 c3 c4 c5 c6 c7)
theorem for_units {A : Around} {t : Expr} {i : Value} {b : List Stmt} {e : Env} : (A.under (.forLoop t i b [] e)).units = A.units + 0 := rfl
theorem dl_ne {C : Cx} {A : Around} {R : Post Result} {h : Heap} {g : Gs} {tk : Nat} {L it c1 c2 c3 c4 c5 c6 c7 : Addr}
    (x : After C A (turnR C A (dlCode L it c1 c2 c3 c4 c5 c6 c7) (envW L c1 c2 c3 c4 c5 c6 c7) (cmpL dlS) (cmpR dlS) R) (.ret (dlCode L it c1 c2 c3 c4 c5 c6 c7) none (fun _ => turnT (forTgt dlFor) (.ref it) ((forBdy dlFor).take 2) (envW L c1 c2 c3 c4 c5 c6 c7)) .base) (.ok .next) h g tk) : CodeP C A (dlCode L it c1 c2 c3 c4 c5 c6 c7) R h g tk := by
  have e : (forBdy dlFor).take 2 ++ [ifNe (cmpL dlS) (cmpR dlS) (cmpP dlS) (ifPos dlS) (ifBdy dlS)] = forBdy dlFor := by kernel_rfl!
  have k := @for_ne C A (envW L c1 c2 c3 c4 c5 c6 c7) R h g tk (forTgt dlFor) (.ref it) ((forBdy dlFor).take 2) (cmpL dlS) (cmpR dlS) (cmpP dlS) (ifPos dlS) (ifBdy dlS) (by kernel_rfl!)
  rw [e] at k
  exact k (by kernel_rfl!) x
section
variable {C : Cx} {A : Around} {R : Post Result} {h₀ h : Heap} {fp : List Addr} {g : Gs} {tk : Nat} {L c1 c2 c3 c4 c5 c6 c7 it cd D xd xr aC aL aE aP aW aQ W f Rl p0 p1 p2 y0 y1 y2 : Addr} {dn p : Nat} {pw k0 k1 k2 : Int} {τ : List (List Tok)} {Y : Ey}
theorem dt_0 (hA : A.handled = none) (hb : 0 ≤ pw ∧ pw < 100) (hun : A.units + 60 < cLine) (hp : pw = p) (hy : EyAt C.prog C.w h y0 Y) (oY : Y.Ok) (db : Dbl Y p k0 k2 (0 - k0) 35)
    (S : St (topObj C.w.params) h₀ h fp (mkL (⟨it, true, vRI 0 3⟩ :: ⟨L, true, vFrame (frL C.w.params aE aW aQ W f Rl [en C.w.params [99, 97, 108, 108, 101, 114, 115] (.ref (cd + 2)), en C.w.params [107] (.int 2), en C.w.params [100, 117, 101] (.ref D)]) 9⟩ :: tlD pw c7 c5 c3 c2 aC aL aP k0 k1 k2 p0 p1 p2 Rl y0 y1 y2 dn []) τ))
    (kk : ∀ h' tk' xd xr τ', St (topObj C.w.params) h₀ h' fp (mkL (⟨it, true, vRI 1 2⟩ :: ⟨L, true, vFrame (frL C.w.params aE aW aQ W f Rl [en C.w.params [99, 97, 108, 108, 101, 114, 115] (.ref (cd + 2)), en C.w.params [107] (.int 0), en C.w.params [100, 117, 101] (.ref D), en C.w.params [100, 111, 117, 98, 108, 101] (.ref xd), en C.w.params [114, 111, 119] (.ref xr)]) 11⟩ :: tlD pw c7 c5 c3 c2 aC aL aP k0 k1 k2 p0 p1 p2 Rl y0 y1 y2 dn []) τ') → Kp h h' → CodeP C A (dlCode L it c1 c2 c3 c4 c5 c6 c7) R h' g tk') :
    CodeP C A (dlCode L it c1 c2 c3 c4 c5 c6 c7) R h g tk := by
  obtain ⟨hd', dp, fr', gs, un⟩ := A
  cases hA
  obtain ⟨d1, τy, g1, g2⟩ := hy
  unfold eyO at g1
  rw [show Y.a = pw * 1 by rw [db.fa, hp, Int.mul_one], show Y.b = pw * k0 by rw [db.fb, hp], show Y.c = pw * k2 by rw [db.fc, hp], show Y.d = pw * (0 - k0) by rw [db.fd, hp]] at g1
  have Sr := S.rebase
  refine dl_ne ?_
  refine go_imul (F := 41) (H := 12271948651782360277741184649260600745488693390537131009) pw k0 Sr hb (by kernel_rfl!) fun h1 t1 tk1 S1 => ?_
  refine go_imul (F := 34) (H := 11429142813926898201686504476924484909947423750) pw k0 S1 hb (by kernel_rfl!) fun h2 t2 tk2 S2 => ?_
  refine go_imul (F := 86) (H := 2152676473670145198423947506956065109247986615497997260550349747455285582882442642416848896788482) pw 1 S2 hb (by kernel_rfl!) fun h3 t3 tk3 S3 => ?_
  refine go_imul (F := 32) (H := 1404686941179510660484625265990442426566658) pw k0 S3 hb (by kernel_rfl!) fun h4 t4 tk4 S4 => ?_
  refine go_imul (F := 32) (H := 1404686941179510660484625265990442426566658) pw k2 S4 hb (by kernel_rfl!) fun h5 t5 tk5 S5 => ?_
  refine go_imul (F := 32) (H := 1404686941179510660484625265990442426566658) pw (0 - k0) S5 hb (by kernel_rfl!) fun h6 t6 tk6 S6 => ?_
  refine go_next (F := 38) (H := 4388790848722680921742815713483976502073876285442) S6 (by kernel_rfl!) fun h7 tk7 S7 => ?_
  refine ⟨rfl, ?_⟩
  refine go_ret (F := 13) (H := 23080970102002164745) (.ref y0) S7 (by kernel_rfl!) fun h8 tk8 v8 hv8 S8 => ?_
  refine ⟨_, rfl, ?_⟩
  obtain rfl := vv_ref hv8
  refine go_ret (F := 52) (H := 15908532075927368590059108475925751677995015069828936845814400722847928329) (.ref (h8.objs.size + 0)) S8 (by kernel_rfl!) fun h9 tk9 v9 hv9 S9 => ?_
  refine ⟨_, rfl, ?_⟩
  obtain rfl := vv_ref hv9
  have kp := S.kp S9 (by kernel_rfl!)
  have Sz := S.unbase S9
  obtain ⟨τw, Sw⟩ := Sz.part [0, 7, 6] (vl := [⟨h8.objs.size + 0, true, vTup [.int (pw * 1), .int (pw * k0), .int (pw * k2), .int (pw * (0 - k0)), .ref (h.objs.size + 0)]⟩, ⟨h.objs.size + 0, true, vDict [en C.w.params [97, 108, 108] (.int (pw * k0)), en C.w.params [35] (.ref (h2.objs.size + 0))] 2⟩, ⟨h2.objs.size + 0, true, vTup [.int pw, .int (pw * k0)]⟩]) (by kernel_rfl!)
  have h128 : 128 < h.objs.size := Heap.lt_size (S.topGet (a := 128) rfl)
  have hd1 : h.objs.size + 0 ≠ (1 : Nat) := by omega
  refine ⟨same_tup (by rw [for_units]; show un + 0 + 10 < cLine; have : un + 60 < cLine := hun; omega) (kp _ _ (fz_tuple _ rfl rfl) g1) (Sw.at (i := 0) rfl) (g2.kp oY.noln kp) (callers2 (.inl rfl) hd1 (Sw.at (i := 1) rfl) (Sw.at (i := 2) rfl)) db.gd (good2 (.inl rfl) _ _ _) (dbl_M (.inl rfl) db pw hp), Sz.nolim, ?_⟩
  exact Sz.give [8, 9, 10, 11, 12, 13, 14, 15, 16, 17, 18, 19, 20] (vl := (⟨it, true, vRI 1 2⟩ :: ⟨L, true, vFrame (frL C.w.params aE aW aQ W f Rl [en C.w.params [99, 97, 108, 108, 101, 114, 115] (.ref (cd + 2)), en C.w.params [107] (.int 0), en C.w.params [100, 117, 101] (.ref D), en C.w.params [100, 111, 117, 98, 108, 101] (.ref (h.objs.size + 0)), en C.w.params [114, 111, 119] (.ref (h2.objs.size + 2))]) 11⟩ :: tlD pw c7 c5 c3 c2 aC aL aP k0 k1 k2 p0 p1 p2 Rl y0 y1 y2 dn [])) (fun τ9 S10 => kk _ _ _ _ τ9 S10 kp) (by kernel_rfl!)
theorem dt_1 (hA : A.handled = none) (hb : 0 ≤ pw ∧ pw < 100) (hun : A.units + 60 < cLine) (hp : pw = p) (hy : EyAt C.prog C.w h y1 Y) (oY : Y.Ok) (db : Dbl Y p k1 k0 (1 - k1) 34)
    (S : St (topObj C.w.params) h₀ h fp (mkL (⟨it, true, vRI 1 2⟩ :: ⟨L, true, vFrame (frL C.w.params aE aW aQ W f Rl [en C.w.params [99, 97, 108, 108, 101, 114, 115] (.ref (cd + 2)), en C.w.params [107] (.int 0), en C.w.params [100, 117, 101] (.ref D), en C.w.params [100, 111, 117, 98, 108, 101] (.ref xd), en C.w.params [114, 111, 119] (.ref xr)]) 11⟩ :: tlD pw c7 c5 c3 c2 aC aL aP k0 k1 k2 p0 p1 p2 Rl y0 y1 y2 dn []) τ))
    (kk : ∀ h' tk' xd xr τ', St (topObj C.w.params) h₀ h' fp (mkL (⟨it, true, vRI 2 1⟩ :: ⟨L, true, vFrame (frL C.w.params aE aW aQ W f Rl [en C.w.params [99, 97, 108, 108, 101, 114, 115] (.ref (cd + 2)), en C.w.params [107] (.int 1), en C.w.params [100, 117, 101] (.ref D), en C.w.params [100, 111, 117, 98, 108, 101] (.ref xd), en C.w.params [114, 111, 119] (.ref xr)]) 11⟩ :: tlD pw c7 c5 c3 c2 aC aL aP k0 k1 k2 p0 p1 p2 Rl y0 y1 y2 dn []) τ') → Kp h h' → CodeP C A (dlCode L it c1 c2 c3 c4 c5 c6 c7) R h' g tk') :
    CodeP C A (dlCode L it c1 c2 c3 c4 c5 c6 c7) R h g tk := by
  obtain ⟨hd', dp, fr', gs, un⟩ := A
  cases hA
  obtain ⟨d1, τy, g1, g2⟩ := hy
  unfold eyO at g1
  rw [show Y.a = pw * 1 by rw [db.fa, hp, Int.mul_one], show Y.b = pw * k1 by rw [db.fb, hp], show Y.c = pw * k0 by rw [db.fc, hp], show Y.d = pw * (1 - k1) by rw [db.fd, hp]] at g1
  have Sr := S.rebase
  refine dl_ne ?_
  refine go_imul (F := 41) (H := 12271948651782360277741184649260600745488693390537131009) pw k1 Sr hb (by kernel_rfl!) fun h1 t1 tk1 S1 => ?_
  refine go_imul (F := 34) (H := 11429142813926898201686504476924484909947423750) pw k1 S1 hb (by kernel_rfl!) fun h2 t2 tk2 S2 => ?_
  refine go_imul (F := 86) (H := 2152676473670145200276620934753124236026693185062968998909331396048936943128447006271372087265282) pw 1 S2 hb (by kernel_rfl!) fun h3 t3 tk3 S3 => ?_
  refine go_imul (F := 32) (H := 1404686941179510661693551085605071601272834) pw k1 S3 hb (by kernel_rfl!) fun h4 t4 tk4 S4 => ?_
  refine go_imul (F := 32) (H := 1404686941179510661693551085605071601272834) pw k0 S4 hb (by kernel_rfl!) fun h5 t5 tk5 S5 => ?_
  refine go_imul (F := 32) (H := 1404686941179510661693551085605071601272834) pw (1 - k1) S5 hb (by kernel_rfl!) fun h6 t6 tk6 S6 => ?_
  refine go_next (F := 38) (H := 4388790848722680921742816922409796116703050991618) S6 (by kernel_rfl!) fun h7 tk7 S7 => ?_
  refine ⟨rfl, ?_⟩
  refine go_ret (F := 13) (H := 23080970102002164745) (.ref y1) S7 (by kernel_rfl!) fun h8 tk8 v8 hv8 S8 => ?_
  refine ⟨_, rfl, ?_⟩
  obtain rfl := vv_ref hv8
  refine go_ret (F := 52) (H := 15908532075927368590059108475925751677995015069828936845814400722847928329) (.ref (h8.objs.size + 0)) S8 (by kernel_rfl!) fun h9 tk9 v9 hv9 S9 => ?_
  refine ⟨_, rfl, ?_⟩
  obtain rfl := vv_ref hv9
  have kp := S.kp S9 (by kernel_rfl!)
  have Sz := S.unbase S9
  obtain ⟨τw, Sw⟩ := Sz.part [0, 7, 6] (vl := [⟨h8.objs.size + 0, true, vTup [.int (pw * 1), .int (pw * k1), .int (pw * k0), .int (pw * (1 - k1)), .ref (h.objs.size + 0)]⟩, ⟨h.objs.size + 0, true, vDict [en C.w.params [97, 108, 108] (.int (pw * k1)), en C.w.params [34] (.ref (h2.objs.size + 0))] 2⟩, ⟨h2.objs.size + 0, true, vTup [.int pw, .int (pw * k1)]⟩]) (by kernel_rfl!)
  have h128 : 128 < h.objs.size := Heap.lt_size (S.topGet (a := 128) rfl)
  have hd1 : h.objs.size + 0 ≠ (1 : Nat) := by omega
  refine ⟨same_tup (by rw [for_units]; show un + 0 + 10 < cLine; have : un + 60 < cLine := hun; omega) (kp _ _ (fz_tuple _ rfl rfl) g1) (Sw.at (i := 0) rfl) (g2.kp oY.noln kp) (callers2 (.inr (.inl rfl)) hd1 (Sw.at (i := 1) rfl) (Sw.at (i := 2) rfl)) db.gd (good2 (.inr (.inl rfl)) _ _ _) (dbl_M (.inr (.inl rfl)) db pw hp), Sz.nolim, ?_⟩
  exact Sz.give [8, 9, 10, 11, 12, 13, 14, 15, 16, 17, 18, 19, 20] (vl := (⟨it, true, vRI 2 1⟩ :: ⟨L, true, vFrame (frL C.w.params aE aW aQ W f Rl [en C.w.params [99, 97, 108, 108, 101, 114, 115] (.ref (cd + 2)), en C.w.params [107] (.int 1), en C.w.params [100, 117, 101] (.ref D), en C.w.params [100, 111, 117, 98, 108, 101] (.ref (h.objs.size + 0)), en C.w.params [114, 111, 119] (.ref (h2.objs.size + 2))]) 11⟩ :: tlD pw c7 c5 c3 c2 aC aL aP k0 k1 k2 p0 p1 p2 Rl y0 y1 y2 dn [])) (fun τ9 S10 => kk _ _ _ _ τ9 S10 kp) (by kernel_rfl!)
theorem dt_2 (hA : A.handled = none) (hb : 0 ≤ pw ∧ pw < 100) (hun : A.units + 60 < cLine) (hp : pw = p) (hy : EyAt C.prog C.w h y2 Y) (oY : Y.Ok) (db : Dbl Y p k2 k1 (2 - k2) 97)
    (S : St (topObj C.w.params) h₀ h fp (mkL (⟨it, true, vRI 2 1⟩ :: ⟨L, true, vFrame (frL C.w.params aE aW aQ W f Rl [en C.w.params [99, 97, 108, 108, 101, 114, 115] (.ref (cd + 2)), en C.w.params [107] (.int 1), en C.w.params [100, 117, 101] (.ref D), en C.w.params [100, 111, 117, 98, 108, 101] (.ref xd), en C.w.params [114, 111, 119] (.ref xr)]) 11⟩ :: tlD pw c7 c5 c3 c2 aC aL aP k0 k1 k2 p0 p1 p2 Rl y0 y1 y2 dn []) τ))
    (kk : ∀ h' tk' xd xr τ', St (topObj C.w.params) h₀ h' fp (mkL (⟨it, true, vRI 3 0⟩ :: ⟨L, true, vFrame (frL C.w.params aE aW aQ W f Rl [en C.w.params [99, 97, 108, 108, 101, 114, 115] (.ref (cd + 2)), en C.w.params [107] (.int 2), en C.w.params [100, 117, 101] (.ref D), en C.w.params [100, 111, 117, 98, 108, 101] (.ref xd), en C.w.params [114, 111, 119] (.ref xr)]) 11⟩ :: tlD pw c7 c5 c3 c2 aC aL aP k0 k1 k2 p0 p1 p2 Rl y0 y1 y2 dn []) τ') → Kp h h' → CodeP C A (dlCode L it c1 c2 c3 c4 c5 c6 c7) R h' g tk') :
    CodeP C A (dlCode L it c1 c2 c3 c4 c5 c6 c7) R h g tk := by
  obtain ⟨hd', dp, fr', gs, un⟩ := A
  cases hA
  obtain ⟨d1, τy, g1, g2⟩ := hy
  unfold eyO at g1
  rw [show Y.a = pw * 1 by rw [db.fa, hp, Int.mul_one], show Y.b = pw * k2 by rw [db.fb, hp], show Y.c = pw * k1 by rw [db.fc, hp], show Y.d = pw * (2 - k2) by rw [db.fd, hp]] at g1
  have Sr := S.rebase
  refine dl_ne ?_
  refine go_imul (F := 41) (H := 12271948651782360277741184649260600745488693390537131009) pw k2 Sr hb (by kernel_rfl!) fun h1 t1 tk1 S1 => ?_
  refine go_imul (F := 34) (H := 11429142813926898201686504476924484909947423750) pw k2 S1 hb (by kernel_rfl!) fun h2 t2 tk2 S2 => ?_
  refine go_imul (F := 86) (H := 2152676473670145202129294362550183362805399754627940737268313044642588303374451370125895277742082) pw 1 S2 hb (by kernel_rfl!) fun h3 t3 tk3 S3 => ?_
  refine go_imul (F := 32) (H := 1404686941179510662902476905219700775979010) pw k2 S3 hb (by kernel_rfl!) fun h4 t4 tk4 S4 => ?_
  refine go_imul (F := 32) (H := 1404686941179510662902476905219700775979010) pw k1 S4 hb (by kernel_rfl!) fun h5 t5 tk5 S5 => ?_
  refine go_imul (F := 32) (H := 1404686941179510662902476905219700775979010) pw (2 - k2) S5 hb (by kernel_rfl!) fun h6 t6 tk6 S6 => ?_
  refine go_next (F := 38) (H := 4388790848722680921742818131335615731332225697794) S6 (by kernel_rfl!) fun h7 tk7 S7 => ?_
  refine ⟨rfl, ?_⟩
  refine go_ret (F := 13) (H := 23080970102002164745) (.ref y2) S7 (by kernel_rfl!) fun h8 tk8 v8 hv8 S8 => ?_
  refine ⟨_, rfl, ?_⟩
  obtain rfl := vv_ref hv8
  refine go_ret (F := 52) (H := 15908532075927368590059108475925751677995015069828936845814400722847928329) (.ref (h8.objs.size + 0)) S8 (by kernel_rfl!) fun h9 tk9 v9 hv9 S9 => ?_
  refine ⟨_, rfl, ?_⟩
  obtain rfl := vv_ref hv9
  have kp := S.kp S9 (by kernel_rfl!)
  have Sz := S.unbase S9
  obtain ⟨τw, Sw⟩ := Sz.part [0, 7, 6] (vl := [⟨h8.objs.size + 0, true, vTup [.int (pw * 1), .int (pw * k2), .int (pw * k1), .int (pw * (2 - k2)), .ref (h.objs.size + 0)]⟩, ⟨h.objs.size + 0, true, vDict [en C.w.params [97, 108, 108] (.int (pw * k2)), en C.w.params [97] (.ref (h2.objs.size + 0))] 2⟩, ⟨h2.objs.size + 0, true, vTup [.int pw, .int (pw * k2)]⟩]) (by kernel_rfl!)
  have h128 : 128 < h.objs.size := Heap.lt_size (S.topGet (a := 128) rfl)
  have hd1 : h.objs.size + 0 ≠ (1 : Nat) := by omega
  refine ⟨same_tup (by rw [for_units]; show un + 0 + 10 < cLine; have : un + 60 < cLine := hun; omega) (kp _ _ (fz_tuple _ rfl rfl) g1) (Sw.at (i := 0) rfl) (g2.kp oY.noln kp) (callers2 (.inr (.inr rfl)) hd1 (Sw.at (i := 1) rfl) (Sw.at (i := 2) rfl)) db.gd (good2 (.inr (.inr rfl)) _ _ _) (dbl_M (.inr (.inr rfl)) db pw hp), Sz.nolim, ?_⟩
  exact Sz.give [8, 9, 10, 11, 12, 13, 14, 15, 16, 17, 18, 19, 20] (vl := (⟨it, true, vRI 3 0⟩ :: ⟨L, true, vFrame (frL C.w.params aE aW aQ W f Rl [en C.w.params [99, 97, 108, 108, 101, 114, 115] (.ref (cd + 2)), en C.w.params [107] (.int 2), en C.w.params [100, 117, 101] (.ref D), en C.w.params [100, 111, 117, 98, 108, 101] (.ref (h.objs.size + 0)), en C.w.params [114, 111, 119] (.ref (h2.objs.size + 2))]) 11⟩ :: tlD pw c7 c5 c3 c2 aC aL aP k0 k1 k2 p0 p1 p2 Rl y0 y1 y2 dn [])) (fun τ9 S10 => kk _ _ _ _ τ9 S10 kp) (by kernel_rfl!)
theorem dt_end (hA : A.handled = none) (S : St (topObj C.w.params) h₀ h fp (mkL (⟨it, true, vRI 3 0⟩ :: ⟨L, true, vFrame (frL C.w.params aE aW aQ W f Rl [en C.w.params [99, 97, 108, 108, 101, 114, 115] (.ref (cd + 2)), en C.w.params [107] (.int 2), en C.w.params [100, 117, 101] (.ref D), en C.w.params [100, 111, 117, 98, 108, 101] (.ref xd), en C.w.params [114, 111, 119] (.ref xr)]) 11⟩ :: tlD pw c7 c5 c3 c2 aC aL aP k0 k1 k2 p0 p1 p2 Rl y0 y1 y2 dn []) τ))
    (kk : ∀ h' tk' xd xr τ', St (topObj C.w.params) h₀ h' fp (mkL (⟨it, true, vRI 3 0⟩ :: ⟨L, true, vFrame (frL C.w.params aE aW aQ W f Rl [en C.w.params [99, 97, 108, 108, 101, 114, 115] (.ref (cd + 2)), en C.w.params [107] (.int 2), en C.w.params [100, 117, 101] (.ref D), en C.w.params [100, 111, 117, 98, 108, 101] (.ref xd), en C.w.params [114, 111, 119] (.ref xr)]) 11⟩ :: tlD pw c7 c5 c3 c2 aC aL aP k0 k1 k2 p0 p1 p2 Rl y0 y1 y2 dn []) τ') → R (.ok .next) h' g tk') :
    CodeP C A (dlCode L it c1 c2 c3 c4 c5 c6 c7) R h g tk := by
  obtain ⟨hd', dp, fr', gs, un⟩ := A
  cases hA
  have Sr := S.rebase
  refine enter ?_
  refine go_next (F := 15) (H := 1127000493261825) Sr (by kernel_rfl!) fun h1 tk1 S1 => ?_
  exact (S.unbase S1).give [2, 3, 4, 5, 6, 7, 8, 9, 10, 11, 12, 13, 14] (vl := (⟨it, true, vRI 3 0⟩ :: ⟨L, true, vFrame (frL C.w.params aE aW aQ W f Rl [en C.w.params [99, 97, 108, 108, 101, 114, 115] (.ref (cd + 2)), en C.w.params [107] (.int 2), en C.w.params [100, 117, 101] (.ref D), en C.w.params [100, 111, 117, 98, 108, 101] (.ref xd), en C.w.params [114, 111, 119] (.ref xr)]) 11⟩ :: tlD pw c7 c5 c3 c2 aC aL aP k0 k1 k2 p0 p1 p2 Rl y0 y1 y2 dn [])) (fun τ' S' => kk _ _ _ _ τ' S') (by kernel_rfl!)
theorem dl_all {Y0 Y1 Y2 : Ey} (hA : A.handled = none) (hb : 0 ≤ pw ∧ pw < 100) (hun : A.units + 60 < cLine) (hp : pw = p) (hy0 : EyAt C.prog C.w h y0 Y0) (o0 : Y0.Ok) (db0 : Dbl Y0 p k0 k2 (0 - k0) 35) (hy1 : EyAt C.prog C.w h y1 Y1) (o1 : Y1.Ok) (db1 : Dbl Y1 p k1 k0 (1 - k1) 34) (hy2 : EyAt C.prog C.w h y2 Y2) (o2 : Y2.Ok) (db2 : Dbl Y2 p k2 k1 (2 - k2) 97)
    (S : St (topObj C.w.params) h₀ h fp (mkL (⟨it, true, vRI 0 3⟩ :: ⟨L, true, vFrame (frL C.w.params aE aW aQ W f Rl [en C.w.params [99, 97, 108, 108, 101, 114, 115] (.ref (cd + 2)), en C.w.params [107] (.int 2), en C.w.params [100, 117, 101] (.ref D)]) 9⟩ :: tlD pw c7 c5 c3 c2 aC aL aP k0 k1 k2 p0 p1 p2 Rl y0 y1 y2 dn []) τ))
    (kk : ∀ h' tk' xd xr τ', St (topObj C.w.params) h₀ h' fp (mkL (⟨it, true, vRI 3 0⟩ :: ⟨L, true, vFrame (frL C.w.params aE aW aQ W f Rl [en C.w.params [99, 97, 108, 108, 101, 114, 115] (.ref (cd + 2)), en C.w.params [107] (.int 2), en C.w.params [100, 117, 101] (.ref D), en C.w.params [100, 111, 117, 98, 108, 101] (.ref xd), en C.w.params [114, 111, 119] (.ref xr)]) 11⟩ :: tlD pw c7 c5 c3 c2 aC aL aP k0 k1 k2 p0 p1 p2 Rl y0 y1 y2 dn []) τ') → R (.ok .next) h' g tk') :
    CodeP C A (dlCode L it c1 c2 c3 c4 c5 c6 c7) R h g tk := by
  refine dt_0 hA hb hun hp hy0 o0 db0 S fun h1 tk1 xd1 xr1 τ1 S1 kp1 => ?_
  refine dt_1 hA hb hun hp (hy1.kp o1 kp1) o1 db1 S1 fun h2 tk2 xd2 xr2 τ2 S2 kp2 => ?_
  refine dt_2 hA hb hun hp ((hy2.kp o2 kp1).kp o2 kp2) o2 db2 S2 fun h3 tk3 xd3 xr3 τ3 S3 kp3 => ?_
  exact dt_end hA S3 kk
end
end Mine
end
/-! ## Gm -/
section
open PySem PySem.W PyProof.Rows
set_option Elab.async false
set_option linter.unusedVariables false
set_option maxRecDepth 100000
set_option maxHeartbeats 2000000
namespace Mine
theorem go_codeU {C : Cx} {A₀ : Around} {R₀ : Post Result} {T : Nat → Option Obj} {h₀ : Heap} {fp : List Addr} {tk : Nat} {g : Gs} {h : Heap} {l : List Ent} {κ : Kont} {r : Result} {F H : Nat} (c' : Code) (u : Nat) (S : St T h₀ h fp l)
    (hk : ((simA C A₀ T h.objs.size tk F κ r l H).acc.map (·.1), isRet κ, (arO A₀ (simA C A₀ T h.objs.size tk F κ r l H)).units, (arO A₀ (simA C A₀ T h.objs.size tk F κ r l H)).handled, codeO (simA C A₀ T h.objs.size tk F κ r l H)) = ((simA C A₀ T h.objs.size tk F κ r l H).acc.map (·.2), true, A₀.units + u, A₀.handled, some c'))
    (x : ∀ h' tk', (arO A₀ (simA C A₀ T h.objs.size tk F κ r l H)).units = A₀.units + u → (arO A₀ (simA C A₀ T h.objs.size tk F κ r l H)).handled = A₀.handled → St T h₀ h' fp (simA C A₀ T h.objs.size tk F κ r l H).l → CodeP C (arO A₀ (simA C A₀ T h.objs.size tk F κ r l H)) c' (After C A₀ R₀ (κO (simA C A₀ T h.objs.size tk F κ r l H))) h' g tk') :
    After C A₀ R₀ κ r h g tk := by
  obtain ⟨e1, e2, e7, e8, e3⟩ := Prod.mk.inj hk |>.imp id fun q => Prod.mk.inj q |>.imp id fun q => Prod.mk.inj q |>.imp id Prod.mk.inj
  exact run S e2 e1 fun h' tk' S' => code_stop S'.nolim e3 (x h' tk' e7 e8 S')
theorem units_of {d u m : Nat} (k : Nat) (e : d = u + k) (hr : u + m < cLine) (n : Nat) (hk : k + n ≤ m) : d + n < cLine := by omega
set_option maxHeartbeats 4000000 in
theorem gm {C : Cx} {A : Around} {R : Post Result} {h₀ h : Heap} {fp : List Addr} {g : Gs} {tk : Nat} (hroom : A.depth + 110 < recursionLimit) (hA : A.handled = none) {L c1 c2 c3 c4 c5 c6 c7 : Addr} {V : OV} {τ : List (List Tok)} (hun : A.units + 100 < cLine) {k0 k1 k2 n0 n1 n2 ri pw : Int} {aC aL aN aE aW aP p0 p1 p2 aQ W f Rl y0 y1 y2 cd D : Addr} {dn p : Nat} {Y0 Y1 Y2 : Ey} {es : List (Int × VV × VV)} {ep : Nat} (hb : 0 ≤ pw ∧ pw < 100) (hp : pw = p)
    (S : St (topObj C.w.params) h₀ h fp (mkL (⟨L, true, vFrame (frL C.w.params aE aW aQ W f Rl [en C.w.params [99, 97, 108, 108, 101, 114, 115] (.ref (cd + 2)), en C.w.params [107] (.int 2), en C.w.params [100, 117, 101] (.ref (D))]) 9⟩ :: ⟨c7, true, vCell (.int pw)⟩ :: ⟨c6, true, vCell (.int ri)⟩ :: midL c5 c4 c3 c2 aC aL aN aP k0 k1 k2 n0 n1 n2 p0 p1 p2 [⟨Rl, true, vList [.ref y0, .ref y1, .ref y2] dn⟩, ⟨cd + 2, false, vDict es ep⟩, ⟨89, false, V⟩]) τ)) (hcd : CodeOk h) (hy0 : EyAt C.prog C.w h y0 Y0) (o0 : Y0.Ok) (db0 : Dbl Y0 p k0 k2 (0 - k0) 35) (hy1 : EyAt C.prog C.w h y1 Y1) (o1 : Y1.Ok) (db1 : Dbl Y1 p k1 k0 (1 - k1) 34) (hy2 : EyAt C.prog C.w h y2 Y2) (o2 : Y2.Ok) (db2 : Dbl Y2 p k2 k1 (2 - k2) 97)
    (k : ∀ h' tk' V' τ', St (topObj C.w.params) h₀ h' fp (mkL [⟨89, false, V'⟩] τ') → CodeOk h' → R (.ok (.ret (.bool true))) h' g tk') :
    LawP C A L c1 c2 c3 c4 c5 c6 c7 15 R h g tk := by
  refine law_cut 15 1 ?_
  obtain ⟨hd, dp, fr, gs, un⟩ := A
  cases hA
  have Sr := S.rebase
  refine go_codeU (F := 37) (H := 1330527338889299954891005307651096576) (dlCode L (h.objs.size + 1) c1 c2 c3 c4 c5 c6 c7) 3 Sr (by kernel_rfl!) fun h1 tk1 hun1 hh1 S1 => ?_
  have kp1 := S.kp S1 (by kernel_rfl!)
  refine S1.lendG [0, 2, 3, 5, 7, 8, 9, 10, 12, 13, 14, 15, 16] [true, true, false, false, false, false, false, false, false, false, false, false, false] (fp' := [h.objs.size + 1, L]) (vl := (⟨h.objs.size + 1, true, vRI 0 3⟩ :: ⟨L, true, vFrame (frL C.w.params aE aW aQ W f Rl [en C.w.params [99, 97, 108, 108, 101, 114, 115] (.ref (cd + 2)), en C.w.params [107] (.int 2), en C.w.params [100, 117, 101] (.ref D)]) 9⟩ :: tlD pw c7 c5 c3 c2 aC aL aP k0 k1 k2 p0 p1 p2 Rl y0 y1 y2 dn [])) (fun τ2 Sc Sb => dl_all (cd := cd) (D := D) hh1 hb (units_of 3 hun1 hun 60 (by decide)) hp (hy0.kp o0 kp1) o0 db0 (hy1.kp o1 kp1) o1 db1 (hy2.kp o2 kp1) o2 db2 Sc (fun h2 tk2 xd xr τ3 S2 => ?_)) (by kernel_rfl!)
  refine S2.give [0, 1] (vl := [⟨h.objs.size + 1, true, vRI 3 0⟩, ⟨L, true, vFrame (frL C.w.params aE aW aQ W f Rl [en C.w.params [99, 97, 108, 108, 101, 114, 115] (.ref (cd + 2)), en C.w.params [107] (.int 2), en C.w.params [100, 117, 101] (.ref D), en C.w.params [100, 111, 117, 98, 108, 101] (.ref xd), en C.w.params [114, 111, 119] (.ref xr)]) 11⟩]) (fun τ4 S3 => ?_) (by kernel_rfl!)
  have S4 := Sb [0, 2] S3 (by kernel_rfl!)
  have S4r := S4.rebase
  refine go_next (F := 0) (H := 0) S4r (by kernel_rfl!) fun h6 tk6 S6q => ?_
  have S7 := (S.unbase S4).unbase S6q
  refine law_cut 16 1 ?_
  refine go_ret (F := 1) (H := 0) (.bool true) S7 (by kernel_rfl!) fun h8 tk8 v8 hv8 S8 => ?_
  obtain rfl := vv_bool hv8
  exact S8.give [18] (vl := [⟨89, false, (ov (mkO V (hdL (tlL (tlL (tlL (tlL (tlL (tlL (tlL (tlL (tlL (tlL (tlL (tlL (tlL (tlL (tlL (tlL τ)))))))))))))))))))⟩]) (fun τ5 S9 => k _ _ _ τ5 S9 (hcd.run _ S S8 16 18 (by kernel_rfl!))) (by kernel_rfl!)
end Mine
end
/-! ## Gz -/
section
open PySem PySem.W PyProof.Rows
set_option Elab.async false
set_option linter.unusedVariables false
set_option maxRecDepth 100000
set_option maxHeartbeats 2000000
namespace Mine
set_option maxHeartbeats 4000000 in
theorem law_all {C : Cx} {A : Around} {R : Post Result} {h : Heap} {g : Gs} {tk : Nat} (hroom : A.depth + 110 < recursionLimit) (hA : A.handled = none) (hun : A.units + 100 < cLine) {ns : List Int} (hns : ns.length ≤ 1000) {zs : List VV} {zn : Nat} {V : OV} {τ : List (List Tok)}
    (S : St (topObj C.w.params) h h [113, 89] (mkL [⟨129, false, vList zs zn⟩, ⟨113, true, vTab []⟩, tab89 V] τ)) (hl : LInts h 129 ns) (hcd : CodeOk h) (hg : AllBare g)
    (k : ∀ h' g' tk' V' τ' tb τt, St (topObj C.w.params) h h' [113, 89] (mkL [⟨89, false, V'⟩] τ') → CodeOk h' → h'.get? 113 = some (mkO (vTab tb) τt) → AllBare g' → R (.ok (.ret (.bool true))) h' g' tk') :
    CodeP C A (.call (.ref 128) ⟨[.ref 129], []⟩) R h g tk := by
  refine law_in hroom hA S hcd fun h1 tk1 L c1 c2 c3 c4 c5 c6 c7 zs' V1 τ1 S1 hcd1 hk129 => ?_
  refine ga hA hns S1 (hl.at hk129) hcd1 fun h2 tk2 k0 k1 k2 n0 n1 n2 m0 m1 m2 e0 e1 e2 aC aL aN aE aW aP p0 p1 p2 aQ q0 q1 q2 d0 d1 d2 t0 t1 t2 V2 τ2 hn0 hn1 hn2 b0 b1 b2 hE hd0 hd1 hd2 S2 hcd2 => ?_
  refine gb hroom hA hn0 hn1 hn2 b0 b1 b2 hE hd0 hd1 hd2 S2 hcd2 hg fun h3 g3 tk3 q ri W f Rl y0 y1 y2 wc dn V3 tb τ3 hq hri x0 x1 x2 S3 hcd3 hg3 hf3 hya3 hyb3 hyc3 => ?_
  obtain ⟨τp, Sp⟩ := S3.part [0, 1, 2, 3, 4, 5, 6, 7, 8, 9, 10, 11, 12, 13, 14, 15, 16] (vl := (⟨L, true, vFrame (frL C.w.params aE aW aQ W f Rl []) 6⟩ :: ⟨c7, true, vCell0⟩ :: ⟨c6, true, vCell (.int ri)⟩ :: midL c5 c4 c3 c2 aC aL aN aP k0 k1 k2 n0 n1 n2 p0 p1 p2 [⟨W, true, vList [.str (wstr (q + 1) 35 0), .str (wstr (q + 1) 34 0), .str (wstr (q + 1) 97 0)] wc⟩, ⟨Rl, true, vList [.ref y0, .ref y1, .ref y2] dn⟩, tab89 (ov (mkO V3 (hdL (tlL (tlL (tlL (tlL (tlL (tlL (tlL (tlL (tlL (tlL (tlL (tlL (tlL (tlL (tlL (tlL τ3)))))))))))))))))))])) (by kernel_rfl!)
  have D0 := (eyL_dbl (c := k0) (b := k2) (d := 0 - k0) (a := 35) (.inl rfl))
  have D1 := (eyL_dbl (c := k1) (b := k0) (d := 1 - k1) (a := 34) (.inr (.inl rfl)))
  have D2 := (eyL_dbl (c := k2) (b := k1) (d := 2 - k2) (a := 97) (.inr (.inr rfl)))
  have sm := run_sum (q + 1) x0 x1 x2 (by omega : 0 < 1) (sum0 (c0 := k0) (c1 := k1) (c2 := k2) (b0 := k2) (b1 := k0) (b2 := k1) (d0 := 0 - k0) (d1 := 1 - k1) (d2 := 2 - k2)) D0 D1 D2
  simp only [Nat.zero_add, Nat.one_mul] at sm
  have E0 := D0.many (q + 1)
  have E1 := D1.many (q + 1)
  have E2 := D2.many (q + 1)
  rw [Nat.mul_one] at E0 E1 E2
  have oF := sm.gd.ok
  have o0 := E0.gd.ok
  have o1 := E1.gd.ok
  have o2 := E2.gd.ok
  subst hn0 hn1 hn2
  have hb0 : 0 ≤ (m0 : Int) ∧ (m0 : Int) < 100 := by omega
  have hb1 : 0 ≤ (m1 : Int) ∧ (m1 : Int) < 100 := by omega
  have hb2 : 0 ≤ (m2 : Int) ∧ (m2 : Int) < 100 := by omega
  have hpw : 0 ≤ (2 : Int) ^ (q + 1) ∧ (2 : Int) ^ (q + 1) < 100 := by
    have : q = 0 ∨ q = 1 ∨ q = 2 ∨ q = 3 := by omega
    rcases this with rfl | rfl | rfl | rfl <;> decide
  have hpp : (2 : Int) ^ (q + 1) = ((2 ^ (q + 1) : Nat) : Int) := by simp
  have gM : Good (stK (stK (stK [] m0 k0 35) m1 k1 34) m2 k2 97) := ((good0.stK (n := m0) (k := k0) (a := 35) (.inl rfl)).stK (n := m1) (k := k1) (a := 34) (.inr (.inl rfl))).stK (n := m2) (k := k2) (a := 97) (.inr (.inr rfl))
  refine gd hroom hA hun hq hri Sp.rebase hcd3 oF o0 o1 o2 hf3 hya3 hyb3 hyc3 fun h4 tk4 V4 τ4 S4 hcd4 hf4 hya4 hyb4 hyc4 => ?_
  refine gh (q := q) (wc := wc) hroom hA hb0 hb1 hb2 S4 hcd4 oF o0 o1 o2 hf4 hya4 hyb4 hyc4 fun h5 tk5 cd es5 ep5 V5 τ5 S5 x5 hcd5 hf5 hya5 hyb5 hyc5 => ?_
  refine gi (q := q) (wc := wc) hroom hA hb0 hb1 hb2 S5 x5 hcd5 oF o0 o1 o2 hf5 hya5 hyb5 hyc5 fun h6 tk6 D V6 es6 τ6 S6 x6 hcd6 hf6 hya6 hyb6 hyc6 => ?_
  refine gj (q := q) (wc := wc) hroom hA hun ?_ ?_ ?_ ?_ sm.gd gM (sum_same sm) S6 x6 hcd6 oF o0 o1 o2 hf6 hya6 hyb6 hyc6 fun h7 tk7 V7 es7 τ7 S7 hcd7 hya7 hyb7 hyc7 => ?_
  · rw [sm.fa]; simp only [List.sum_cons, List.sum_nil]; omega
  · rw [sm.fb]; simp only [List.sum_cons, List.sum_nil]; omega
  · rw [sm.fc]; simp only [List.sum_cons, List.sum_nil]; omega
  · rw [sm.fd]; simp only [List.sum_cons, List.sum_nil]; omega
  refine gk (wc := wc) (F := ⟨0, 0, 0, 0, []⟩) hroom hA hq hri S7 hcd7 o0 o1 o2 hya7 hyb7 hyc7 fun h8 tk8 V8 es8 τ8 S8 hcd8 hya8 hyb8 hyc8 => ?_
  refine gm hroom hA hun hpw hpp S8 hcd8 hya8 o0 E0 hyb8 o1 E1 hyc8 o2 E2 fun h9 tk9 V9 τ9 S9 hcd9 => ?_
  have g113 := S3.at (i := 17) rfl
  refine k _ _ _ _ τ9 tb _ (Sp.unbase S9) hcd9 (S9.old _ _ g113 fun hm => ?_) hg3
  obtain ⟨e, he, ea, _⟩ := wrA_mem hm
  have hm2 := List.mem_map.mpr ⟨e, he, ea⟩
  rw [mkL_addr] at hm2
  have nd := S3.nd
  rw [mkL_addr] at nd
  have nd' : ([L, c7, c6, c5, c4, c3, c2, aC, aL, aN, aP, p0, p1, p2, W, Rl, 89] ++ [(113 : Addr)]).Nodup := nd
  exact (List.nodup_append.mp nd').2.2 113 hm2 113 (.head _) rfl
end Mine
end
/-! ## Gy -/
section
open PySem PySem.W PyProof.Rows
set_option Elab.async false
set_option linter.unusedVariables false
set_option maxRecDepth 100000
set_option maxHeartbeats 400000
namespace Mine
/-! ## From the head to the law's call, and back -/
theorem lk_mem : ∀ {l : List (Nat × Obj)} {a : Nat} {o : Obj}, lk l a = some o → ∃ p ∈ l, p.1 = a ∧ p.2 = o
  | [], _, _, e => by cases e
  | p :: l, a, o, e => by
    unfold lk at e
    split at e
    · rename_i q
      exact ⟨p, .head _, Nat.eq_of_beq_eq_true q, Option.some.inj e⟩
    · obtain ⟨q, h1, h2⟩ := lk_mem e
      exact ⟨q, .tail _ h1, h2⟩
theorem top_at {P : Params} {h : Heap} {t : X.KT} (ZH : X.KT.Holds h 1 0 t) (hk : (topL P).map (fun p => t.get p.1) = (topL P).map (fun p => some p.2)) {a : Nat} {o : Obj} (e : topObj P a = some o) : h.get? a = some o := by
  obtain ⟨p, hp, rfl, rfl⟩ := lk_mem e
  have := List.map_inj_left.mp hk p hp
  have z := X.KT.Holds.get ZH this
  rwa [Nat.one_mul, Nat.add_zero] at z
theorem top_not {P : Params} (hn : (topL P).all (fun p => !(Nat.beq p.1 113) && !(Nat.beq p.1 89)) = true) {a : Nat} {o : Obj} (e : topObj P a = some o) : a ∉ [113, 89] := by
  obtain ⟨p, hp, rfl, rfl⟩ := lk_mem e
  have := List.all_eq_true.mp hn p hp
  simp only [Bool.and_eq_true, Bool.not_eq_true'] at this
  intro hm
  rcases List.mem_cons.mp hm with q | hm
  · rw [q] at this; exact absurd this.1 (by decide)
  · rw [List.mem_singleton.mp hm] at this; exact absurd this.2 (by decide)
theorem well_ints {P : Params} {h : Heap} : ∀ {vs : List Value} {ns : List Int}, WellAll P h vs (ofPys (ns.map PyData.int)) → vs.length = ns.length ∧ ∀ (i : Nat) v, vs[i]? = some v → ∃ t, v = .int (ns.getD i 0) t
  | [], [], _ => ⟨rfl, fun i v e => by simp at e⟩
  | v :: vs, n :: ns, x => by
    cases x with
    | cons a b =>
      obtain ⟨h1, h2⟩ := well_ints (ns := ns) b
      cases a
      refine ⟨by simp [h1], fun i v e => ?_⟩
      cases i with
      | zero => cases e; exact ⟨_, rfl⟩
      | succ i => exact h2 i v e
  | [], n :: ns, x => by cases x
  | v :: vs, [], x => by cases x
theorem lints_of {P : Params} {h : Heap} {ns : List Int} (x : Well P h (.ref 129) (ofPy (PyData.list (ns.map PyData.int)))) : ∃ vs : List Value, h.get? 129 = some (oList vs.toArray 0) ∧ LInts h 129 ns := by
  rcases x with _ | _ | _ | _ | _ | _ | _ | ⟨e, a⟩
  obtain ⟨h1, h2⟩ := well_ints a
  exact ⟨_, e, _, 0, e, by simpa using h1, fun i v q => h2 i v (by simpa using q)⟩
theorem top_n (P : Params) : (topL P).all (fun p => !(Nat.beq p.1 113) && !(Nat.beq p.1 89)) = true := by kernel_rfl!
theorem tab_of {h : Heap} {P : Params} (e93 : h.get? 93 = some (t93 P)) (e89 : h.get? 89 = some (mkO (vTab []) [])) : CodeOk h := by
  refine ⟨#[], ⟨t93 P, _, _, _, _, _, _, _, _, _, e93, rfl, rfl, rfl, rfl, rfl, rfl, e89, rfl, ?_, by decide⟩, ⟨_, _, e93, rfl, rfl, rfl⟩, e89⟩
  exact trivial
theorem fin_law {prog : Program} {w : World} {s₁ : Shared} {t : X.KT} {ns : List Int} {Q E : Value → Shared → Prop} (ZH : X.KT.Holds s₁.heap 1 0 t) (hn : s₁.heap.NoLimit) (hsz : s₁.heap.objs.size = 129 + 1)
    (W : Well w.params s₁.heap (.ref 129) (ofPy (PyData.list (ns.map PyData.int)))) (hlen : ns.length ≤ 1000) (hg : s₁.gens = #[])
    (hk : (topL w.params).map (fun p => t.get p.1) = (topL w.params).map (fun p => some p.2)) (h113 : t.get 113 = some (mkO (vTab []) [])) (h89 : t.get 89 = some (mkO (vTab []) []))
    (k : ∀ s', OldK s₁.heap s'.heap → s'.os = s₁.os → AllBare s'.gens → Q (.bool true) s') :
    wpAny (model prog w) callerA (call (.ref 128) [.ref 129]) Q E s₁ := by
  obtain ⟨h, g, dn, tk, os⟩ := s₁
  obtain ⟨dr, P⟩ := w
  obtain rfl : g = #[] := hg
  let C : Cx := ⟨prog, dr, P, P.followText "special-get-raises", P.followText "comprehension-iter-twice", dn, os⟩
  have ew : C.w = ⟨dr, P⟩ := by show World.mk dr (flg P _ _) = _; rw [flg_self]
  have eP : C.w.params = P := congrArg World.params ew
  have eM : C.M = model prog ⟨dr, P⟩ := by show model prog C.w = _; rw [ew]
  refine wpAny_call ?_
  rw [← eM]
  have at0 : ∀ {a : Nat} {o : Obj}, t.get a = some o → h.get? a = some o := fun {a o} e => by
    have z := X.KT.Holds.get ZH e
    rwa [Nat.one_mul, Nat.add_zero] at z
  obtain ⟨vs, e129, hl⟩ := lints_of W
  have T0 : ∀ a o, topObj C.w.params a = some o → h.get? a = some o ∧ a ∉ [113, 89] := fun a o e => by
    rw [eP] at e
    exact ⟨top_at ZH hk e, top_not (top_n P) e⟩
  have g113 := at0 h113
  have g89 := at0 h89
  have S : St (topObj C.w.params) h h [113, 89] (mkL [⟨129, false, vList (vs.map vv) 0⟩, ⟨113, true, vTab []⟩, tab89 (vTab [])] [vs.map tokOf, [], []]) := by
    refine ⟨show ([129, 113, 89] : List Addr).Nodup by decide, fun p hp => ?_, fun p hp hw => ?_, fun b o e _ => e, T0, Nat.le_refl _, hn, by decide⟩
    · rcases List.mem_cons.mp hp with rfl | hp
      · show h.get? 129 = some ⟨.type "list", none, .seq ⟨mkVs (vs.map vv) (vs.map tokOf)⟩ 0, ⟨[]⟩⟩
        rw [mkVs_map]; exact e129
      rcases List.mem_cons.mp hp with rfl | hp
      · exact g113
      rw [List.mem_singleton.mp hp]; exact g89
    · rcases List.mem_cons.mp hp with rfl | hp
      · cases hw
      rcases List.mem_cons.mp hp with rfl | hp
      · exact .inl (.head _)
      rw [List.mem_singleton.mp hp]; exact .inl (.tail _ (.head _))
  have hcd : CodeOk h := tab_of (P := P) (top_at ZH hk rfl) g89
  have e117 : h.get? 117 = some (t117 P) := top_at ZH hk rfl
  have i113 : isCodeTable h 113 := ⟨117, _, _, e117, rfl, rfl, rfl⟩
  have i89 : isCodeTable h 89 := let ⟨_, _, t⟩ := hcd; t.isCodeTable
  have x := law_all (C := C) (A := callerA) (R := fun r h' g' tk' => match r with | .ok (.ret v) => Q v ⟨h', g', dn, tk', os⟩ | .ok _ => False | .error e => E e ⟨h', g', dn, tk', os⟩) (g := #[]) (tk := tk) (by decide) rfl (by decide) hlen S hl hcd AllBare.empty
    (fun h' g' tk' V' τ' tb τt S' hcd' e113 hg' => k ⟨h', g', dn, tk', os⟩ ⟨fun b o e => ?_, fun b o e => ?_⟩ rfl hg')
  · refine codeAny_mono x.out fun r s' y => ?_
    obtain ⟨h', g', tk', rfl, y⟩ := y
    exact y
  · by_cases q1 : b = 113
    · subst q1
      rw [show h.get? 113 = _ from g113] at e
      cases e
      exact .inr (.inl ⟨i113, rfl, #[], ⟨mkVs tb τt⟩, rfl, by rw [Array.empty_append]; exact e113⟩)
    by_cases q2 : b = 89
    · subst q2
      rw [show h.get? 89 = _ from g89] at e
      cases e
      obtain ⟨ps, _, t⟩ := hcd'
      exact .inr (.inl ⟨i89, rfl, #[], ps, rfl, by rw [Array.empty_append]; exact t.2⟩)
    exact .inl (S'.old b o e (by simp [q1, q2]))
  · by_cases q1 : b = 113
    · exact ⟨_, q1 ▸ e113⟩
    by_cases q2 : b = 89
    · obtain ⟨ps, _, t⟩ := hcd'
      exact ⟨_, q2 ▸ t.2⟩
    exact ⟨o, S'.old b o e (by simp [q1, q2])⟩
end Mine
end
/-! ## Hf -/
section
open PySem PySem.W PySem.W.X PySem.W.ZRun PyProof.Rows
set_option Elab.async false
set_option maxRecDepth 100000 in
set_option maxHeartbeats 8000000 in
theorem PySem.Challenge.cw_re0019_01_holds : PySem.Challenge.rw_re0019_01.Holds := by
  w_on; o_law; z_head; (case hw => w_witness2)
  k_fill
  intro w s₀ s₁ mg mb G y fa o pm cd doc dV kV ho hd hcd hD hmg hg args vals as L hpre hlay hrd hwl hlo
  z_open y L KX ZH ZN ZT
  refine Ground.open G ?_
  intro T B D TE TW
  wrow_args hpre hlay hrd hwl hlo
  obtain ⟨hat, hsz⟩ := script_at L
  have htk := script_toks L ZT
  rw [ZN] at hat hsz
  subst hat
  x_fa T KX hmg
  all_lens
  refine Mine.fin_law ZH T.nolimit hsz (by assumption) (by omega) (by assumption) (by unfold Mine.topL Mine.t0 Mine.t2 Mine.t3 Mine.t75 Mine.hs; rw [← ZFast.ze12210062019545310541]; kernel_rfl!) (by kernel_rfl!) (by kernel_rfl!) fun s' hO hos hb => ?_
  exact ⟨.inl ⟨_, _, _, rfl, fun _ => rfl, .bool _, (by kernel_rfl!), fun _ => ⟨List.nodup_nil, fun a ha => nomatch ha⟩⟩, hO, hos, hb⟩
end
