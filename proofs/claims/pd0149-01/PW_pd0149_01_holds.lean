import PyProof.Rows.All
import Wide.All
import OpenK.AllK
import Wide.FinOn
import Open.Line
import Lean
import PySem.Challenge.RW_pd0149_01
open PySem PySem.Calls PyProof.Rows
set_option Elab.async false
set_option autoImplicit false
set_option linter.all false
set_option maxRecDepth 100000
section
namespace Mine

theorem noK {α : Type} {r : α} {C : Prop} (h : (none : Option α) = some r) : C := nomatch h
theorem soK {α : Type} {a b : α} (h : some a = some b) : a = b := Option.some.inj h
theorem so3 {α β γ : Type} {a x : α} {b y : β} {c z : γ} (h : some (a, b, c) = some (x, y, z)) : a = x ∧ b = y ∧ c = z := by
  have e := Prod.mk.inj (soK h)
  exact ⟨e.1, Prod.mk.inj e.2⟩
theorem nos {α : Type} {x : Option α} {o : α} {G : Prop} (e : x = none) (q : x = some o) : G := noK (e.symm.trans q)
/- pure data -/
inductive P where
  | none
  | bool (b : Bool)
  | int (i : Int)
  | str (s : Str)
  | ty (n : String)
  | tup (l : List P)
  | lst (l : List P)
  deriving Inhabited

theorem bindK {α β : Type} {o : Option α} {f : α → Option β} {r : β} {C : Prop} (h : o.bind f = some r) (k : ∀ a, o = some a → f a = some r → C) : C := by
  cases o with
  | none => exact noK h
  | some a => exact k a rfl h
theorem mapK {α β : Type} {o : Option α} {f : α → β} {r : β} {C : Prop} (h : o.map f = some r) (k : ∀ a, o = some a → f a = r → C) : C := by
  cases o with
  | none => exact noK h
  | some a => obtain rfl := soK h; exact k a rfl rfl
theorem iteK {α : Type} {c : Prop} [Decidable c] {x r : α} {C : Prop} (h : (if c then some x else none) = some r) (k : c → x = r → C) : C := by
  by_cases hc : c
  · obtain rfl := soK ((if_pos hc).symm.trans h); exact k hc rfl
  · exact nos (if_neg hc) h
noncomputable def intD : P → Option Int
  | .int a => some a
  | _ => none
noncomputable def strD : P → Option Str
  | .str a => some a
  | _ => none
noncomputable def lstD : P → Option (List P)
  | .lst a => some a
  | _ => none
noncomputable def boolD : P → Option Bool
  | .bool a => some a
  | _ => none
theorem intD_at {d : P} {a : Int} (h : intD d = some a) : d = .int a := by cases d <;> cases h; rfl
theorem strD_at {d : P} {a : Str} (h : strD d = some a) : d = .str a := by cases d <;> cases h; rfl
theorem lstD_at {d : P} {a : List P} (h : lstD d = some a) : d = .lst a := by cases d <;> cases h; rfl
theorem boolD_at {d : P} {a : Bool} (h : boolD d = some a) : d = .bool a := by cases d <;> cases h; rfl
noncomputable def tupD : P → Option (List P)
  | .tup a => some a
  | _ => none
theorem tupD_at {d : P} {a : List P} (h : tupD d = some a) : d = .tup a := by cases d <;> cases h; rfl
/- all objects kept, up to slots (an exception's notes touch the frames' slots) -/
noncomputable def Kp (h h' : Heap) : Prop := ∀ b o, h.get? b = some o → ∃ sl, h'.get? b = some { o with slots := sl } ∧ (o.cls ≠ .type "frame" → sl = o.slots)
theorem Kp.refl (h : Heap) : Kp h h := fun _ o e => ⟨o.slots, e, fun _ => rfl⟩
theorem Kp.trans {h₁ h₂ h₃ : Heap} (x : Kp h₁ h₂) (y : Kp h₂ h₃) : Kp h₁ h₃ := fun b o e => by
  obtain ⟨sl, e₁, q₁⟩ := x b o e
  obtain ⟨sl', e₂, q₂⟩ := y b _ e₁
  exact ⟨sl', e₂, fun hc => (q₂ hc).trans (q₁ hc)⟩
theorem Kp.of {h h' : Heap} (k : ∀ b o, h.get? b = some o → h'.get? b = some o) : Kp h h' := fun b o e => ⟨o.slots, k b o e, fun _ => rfl⟩
theorem Kp.exact {h h' : Heap} (x : Kp h h') {b : Addr} {o : Obj} (e : h.get? b = some o) (hc : o.cls ≠ .type "frame") : h'.get? b = some o := by
  obtain ⟨sl, e₁, q⟩ := x b o e
  rw [q hc] at e₁
  exact e₁
theorem Kp.push {h h' : Heap} (x : Kp h h') (o : Obj) : Kp h (h'.push o) := fun b o' e => by
  obtain ⟨sl, e₁, q⟩ := x b o' e
  exact ⟨sl, Heap.get?_push_of_some _ e₁, q⟩
theorem Kp.size {h h' : Heap} (x : Kp h h') {b : Addr} {o : Obj} (e : h.get? b = some o) : b < h'.objs.size := by
  obtain ⟨_, e', _⟩ := x b o e
  exact Heap.lt_size e'
theorem Kp.sameBut {h h₁ h₂ : Heap} {a : Addr} (x : Kp h h₁) (hs : Heap.SameBut a h₁ h₂) (ha : h.get? a = Option.none) : Kp h h₂ := fun b o e => by
  obtain ⟨sl, e₁, q⟩ := x b o e
  exact ⟨sl, (hs.2 b (fun q => by rw [q, ha] at e; exact noK e)).trans e₁, q⟩

theorem Kp.ns {h h' : Heap} (x : Kp h h') {a : Addr} {m : Str → Option Value} (n : h.Ns a m) : h'.Ns a m := by
  obtain ⟨o, es, ep, ho, hd, hk, hf⟩ := n
  obtain ⟨sl, e, _⟩ := x a o ho
  exact ⟨_, es, ep, e, hd, hk, hf⟩
theorem Kp.isCell {h h' : Heap} (x : Kp h h') {c : Addr} {v : Option Value} (n : h.IsCell c v) : h'.IsCell c v := by
  obtain ⟨o, ho, hd⟩ := n
  obtain ⟨sl, e, _⟩ := x c o ho
  exact ⟨_, e, hd⟩

noncomputable def LstAt (h : Heap) (a : Addr) (vs : List Value) : Prop := ∃ n, h.get? a = some { cls := .type "list", data := .seq vs.toArray n }
noncomputable def TupAt (h : Heap) (a : Addr) (vs : List Value) : Prop := ∃ n, h.get? a = some { cls := .type "tuple", data := .seq vs.toArray n }
theorem ty_ne {a b : String} (h : a ≠ b) : Value.type a ≠ Value.type b := fun e => h (by injection e)
theorem Kp.lst {h h' : Heap} (x : Kp h h') {a : Addr} {vs : List Value} (n : LstAt h a vs) : LstAt h' a vs := by
  obtain ⟨k, e⟩ := n
  exact ⟨k, x.exact e (ty_ne (by decide))⟩
theorem Kp.tup {h h' : Heap} (x : Kp h h') {a : Addr} {vs : List Value} (n : TupAt h a vs) : TupAt h' a vs := by
  obtain ⟨k, e⟩ := n
  exact ⟨k, x.exact e (ty_ne (by decide))⟩
theorem LstAt.isList {h : Heap} {a : Addr} {vs : List Value} (x : LstAt h a vs) : h.IsList a vs.toArray := by
  obtain ⟨n, e⟩ := x
  exact ⟨_, e, rfl, n, rfl⟩
theorem LstAt.typeIs {s : Shared} {a : Addr} {vs : List Value} (x : LstAt s.heap a vs) : s.TypeIs (.ref a) "list" := x.isList.typeIs
theorem TupAt.typeIs {s : Shared} {a : Addr} {vs : List Value} (x : TupAt s.heap a vs) : s.TypeIs (.ref a) "tuple" := by
  obtain ⟨n, e⟩ := x
  exact ⟨_, e, rfl⟩
theorem TupAt.isTup {h : Heap} {a : Addr} {vs : List Value} (x : TupAt h a vs) : IsTup h a vs.toArray := by
  obtain ⟨n, e⟩ := x
  exact ⟨_, e, rfl, n, rfl⟩
theorem LstAt.lt {h : Heap} {a : Addr} {vs : List Value} (x : LstAt h a vs) : a < h.objs.size := by
  obtain ⟨n, e⟩ := x
  exact Heap.lt_size e
theorem LstAt.inj {h : Heap} {a : Addr} {vs ws : List Value} (x : LstAt h a vs) (y : LstAt h a ws) : vs = ws := by
  obtain ⟨n, e⟩ := x
  obtain ⟨n', e'⟩ := y
  rw [e] at e'
  simp only [Option.some.injEq, Obj.mk.injEq, Data.seq.injEq, true_and] at e'
  simpa using e'.1.1
theorem TupAt.inj {h : Heap} {a : Addr} {vs ws : List Value} (x : TupAt h a vs) (y : TupAt h a ws) : vs = ws := by
  obtain ⟨n, e⟩ := x
  obtain ⟨n', e'⟩ := y
  rw [e] at e'
  simp only [Option.some.injEq, Obj.mk.injEq, Data.seq.injEq, true_and] at e'
  simpa using e'.1.1

mutual
/- v bears the datum in the heap; no list of it lies in Z -/
noncomputable def RP (h : Heap) (Z : List Addr) : P → Value → Prop
  | .none, v => v = .none
  | .bool b, v => v = .bool b
  | .int i, v => ∃ t, v = .int i t
  | .str s, v => ∃ t, v = .str s t
  | .ty n, v => v = .type n
  | .tup l, v => ∃ a vs, v = .ref a ∧ TupAt h a vs ∧ RPs h Z l vs
  | .lst l, v => ∃ a vs, v = .ref a ∧ LstAt h a vs ∧ a ∉ Z ∧ RPs h Z l vs
noncomputable def RPs (h : Heap) (Z : List Addr) : List P → List Value → Prop
  | [], [] => True
  | d :: l, v :: vs => RP h Z d v ∧ RPs h Z l vs
  | _, _ => False
end

mutual
theorem RP.kp {h h' : Heap} (k : Kp h h') {Z : List Addr} : ∀ (d : P) (v : Value), RP h Z d v → RP h' Z d v
  | .none, v, x => by simpa [RP] using x
  | .bool b, v, x => by simpa [RP] using x
  | .int i, v, x => by simpa [RP] using x
  | .str s, v, x => by simpa [RP] using x
  | .ty n, v, x => by simpa [RP] using x
  | .tup l, v, x => by
    obtain ⟨a, vs, e, t, r⟩ := x
    exact ⟨a, vs, e, k.tup t, RPs.kp k l vs r⟩
  | .lst l, v, x => by
    obtain ⟨a, vs, e, t, z, r⟩ := x
    exact ⟨a, vs, e, k.lst t, z, RPs.kp k l vs r⟩
theorem RPs.kp {h h' : Heap} (k : Kp h h') {Z : List Addr} : ∀ (l : List P) (vs : List Value), RPs h Z l vs → RPs h' Z l vs
  | [], [], _ => trivial
  | d :: l, v :: vs, x => ⟨RP.kp k d v x.1, RPs.kp k l vs x.2⟩
  | [], _ :: _, x => x.elim
  | _ :: _, [], x => x.elim
end
end Mine
end
section
open PySem.SeqAt PySem.AutoSeq1 PySem.MeetsSeq PySem.MeetsSeq2 PySem.MeetsSeq3 PySem.SeqRoads2
namespace Mine

/- the comparison op gives the bool b and leaves the state -/
noncomputable def CmpAt (op : CmpOp) (A : Around) (s : Shared) (x y : Value) (b : Bool) : Prop :=
  ∀ (prog : Program) (w : World) (E : Value → Shared → Prop) (Q : Value → Shared → Prop), Q (.bool b) s → wpAny (model prog w) A (richCompare op x y) Q E s

noncomputable def opCode : Bool → Int
  | false => 0
  | true => 4
noncomputable def opOf : Bool → CmpOp
  | false => .Lt
  | true => .Gt
noncomputable def sizeCmp (gt : Bool) (m n : Nat) : Bool := match gt with
  | false => decide (m < n)
  | true => decide (m > n)

/- how the loop ends from place i on -/
noncomputable def CmpEnd (gt : Bool) (A : Around) (s : Shared) (items items2 : Array Value) (e : Nat → Bool) (r : Bool) (i : Nat) : Prop :=
  (∃ j, ∃ (h1 : j < items.size) (h2 : j < items2.size), i ≤ j ∧ e j = false ∧ (∀ m, i ≤ m → m < j → e m = true) ∧ CmpAt (opOf gt) A s items[j] items2[j] r) ∨
  ((∀ m, i ≤ m → m < items.size → m < items2.size → e m = true) ∧ r = sizeCmp gt items.size items2.size)

set_option maxHeartbeats 2000000 in
theorem cmp_loopAt (gt : Bool) (l b : Addr) (items items2 : Array Value) (n n2 : Nat) (dd dd2 : Option Addr) (sl sl2 : Array (Option Value)) (e : Nat → Bool) (r : Bool) (k : Nat) :
    ∀ i : Nat, items.size - i = k → Meets (Builtin.«list.__eq__.loop» ⟨[.ref l, .ref b, rawInt i, rawInt (opCode gt)], []⟩)
      (fun A R s => s.heap.get? l = some { cls := .type "list", dict := dd, data := .seq items n, slots := sl } ∧ s.heap.get? b = some { cls := .type "list", dict := dd2, data := .seq items2 n2, slots := sl2 } ∧
        (∀ j (h1 : j < items.size) (h2 : j < items2.size), EqAt A.in1 s items[j] items2[j] (e j)) ∧ CmpEnd gt A.in1 s items items2 e r i ∧
        R (.ok (.ret (.bool r))) s) := by
  induction k with
  | zero =>
    intro i hk prog w A R s h
    obtain ⟨hp, g, d, tk, os⟩ := s; obtain ⟨hl, hb, he, hend, h⟩ := h
    have hr : r = sizeCmp gt items.size items2.size := by
      rcases hend with ⟨j, h1, h2, hij, _⟩ | ⟨_, hr⟩
      · omega
      · exact hr
    subst hr
    have hi1 : items[((i : Nat) : Int).toNat]? = none := by simp; omega
    cases gt <;>
    · simp only [opCode]
      wp_walk using wpAny_loadPart' hl, wpAny_loadPart' hb
      rw [hi1]
      wp_walk using wpAny_loadPart' hl, wpAny_loadPart' hb
      exact h
  | succ k ih =>
    intro i hk prog w A R s h
    obtain ⟨hp, g, d, tk, os⟩ := s; obtain ⟨hl, hb, he, hend, h⟩ := h
    have hlt : i < items.size := by omega
    have hi1 : items[((i : Nat) : Int).toNat]? = some items[i] := by simp [hlt]
    by_cases hlt2 : i < items2.size
    · have hi2 : items2[((i : Nat) : Int).toNat]? = some items2[i] := by simp [hlt2]
      have hc : ((i : Int) + 1) = ((i + 1 : Nat) : Int) := by push_cast; rfl
      cases hb' : e i with
      | true =>
        have hend' : CmpEnd gt A.in1 ⟨hp, g, d, tk, os⟩ items items2 e r (i + 1) := by
          rcases hend with ⟨j, h1, h2, hij, hj, hm, hc⟩ | ⟨hm, hr⟩
          · refine .inl ⟨j, h1, h2, ?_, hj, fun m hm1 hm2 => hm m (by omega) hm2, hc⟩
            rcases Nat.lt_or_ge i j with q | q
            · exact q
            · have : i = j := by omega
              subst this; rw [hj] at hb'; cases hb'
          · exact .inr ⟨fun m hm1 => hm m (by omega), hr⟩
        cases gt <;>
        · simp only [opCode] at ih ⊢
          wp_walk using wpAny_loadPart' hl, wpAny_loadPart' hb
          rw [hi1, hi2]
          refine wpAny_bind (he i hlt hlt2 prog w _ _ ?_)
          rw [hb']
          wp_walk
          rw [hc]
          exact ⟨plainId_quiet plain_eq_loop _, codeAny_builtin entry_eq_loop (by
            rw [Around.under_plainId plain_eq_loop _]
            exact ih (i + 1) (by omega) prog w A R _ ⟨hl, hb, he, hend', h⟩)⟩
      | false =>
        have hcmp : CmpAt (opOf gt) A.in1 ⟨hp, g, d, tk, os⟩ items[i] items2[i] r := by
          rcases hend with ⟨j, h1, h2, hij, hj, hm, hc⟩ | ⟨hm, hr⟩
          · rcases Nat.lt_or_ge i j with q | q
            · rw [hm i (Nat.le_refl _) q] at hb'; cases hb'
            · have : i = j := by omega
              subst this; exact hc
          · rw [hm i (Nat.le_refl _) hlt hlt2] at hb'; cases hb'
        cases gt <;>
        · simp only [opCode]
          wp_walk using wpAny_loadPart' hl, wpAny_loadPart' hb
          rw [hi1, hi2]
          refine wpAny_bind (he i hlt hlt2 prog w _ _ ?_)
          rw [hb']
          rw [if_neg (by simp)]
          refine wpAny_bind (listItems_at hl rfl (wpAny_bind (listItems_at hb rfl ?_)))
          rw [hi1, hi2]
          refine wpAny_bind (hcmp prog w _ _ ?_)
          exact wpAny_pure h
    · have hi2 : items2[((i : Nat) : Int).toNat]? = none := by simp; omega
      have hr : r = sizeCmp gt items.size items2.size := by
        rcases hend with ⟨j, h1, h2, hij, _⟩ | ⟨_, hr⟩
        · omega
        · exact hr
      subst hr
      cases gt <;>
      · simp only [opCode]
        wp_walk using wpAny_loadPart' hl, wpAny_loadPart' hb
        rw [hi1, hi2]
        wp_walk using wpAny_loadPart' hl, wpAny_loadPart' hb
        exact h
end Mine
end
section
open PySem.SeqAt PySem.AutoSeq1 PySem.MeetsSeq PySem.MeetsSeq2 PySem.MeetsSeq3 PySem.SeqRoads2
namespace Mine

theorem list_ltAt (l b : Addr) (items items2 : Array Value) (n n2 : Nat) (dd dd2 : Option Addr) (sl sl2 : Array (Option Value)) (e : Nat → Bool) (r : Bool) :
    Meets (Builtin.«list.__lt__» ⟨[.ref l, .ref b], []⟩)
      (fun A R s => s.heap.get? l = some { cls := .type "list", dict := dd, data := .seq items n, slots := sl } ∧ s.heap.get? b = some { cls := .type "list", dict := dd2, data := .seq items2 n2, slots := sl2 } ∧
        (∀ j (h1 : j < items.size) (h2 : j < items2.size), EqAt A.in1 s items[j] items2[j] (e j)) ∧ CmpEnd false A.in1 s items items2 e r 0 ∧
        R (.ok (.ret (.bool r))) s) := by
  intro prog w A R s h
  obtain ⟨hp, g, d, tk, os⟩ := s; obtain ⟨hl, hb, he, hend, h⟩ := h
  have f3 := AutoSeq1.sub_list_list
  wp_walk using wpAny_loadPart' hl, wpAny_loadPart' hb
  exact ⟨plainId_quiet plain_eq_loop _, codeAny_builtin entry_eq_loop (by
    rw [Around.under_plainId plain_eq_loop _]
    exact cmp_loopAt false l b items items2 n n2 dd dd2 sl sl2 e r _ 0 rfl prog w A R _ ⟨hl, hb, he, hend, h⟩)⟩
theorem list_gtAt (l b : Addr) (items items2 : Array Value) (n n2 : Nat) (dd dd2 : Option Addr) (sl sl2 : Array (Option Value)) (e : Nat → Bool) (r : Bool) :
    Meets (Builtin.«list.__gt__» ⟨[.ref l, .ref b], []⟩)
      (fun A R s => s.heap.get? l = some { cls := .type "list", dict := dd, data := .seq items n, slots := sl } ∧ s.heap.get? b = some { cls := .type "list", dict := dd2, data := .seq items2 n2, slots := sl2 } ∧
        (∀ j (h1 : j < items.size) (h2 : j < items2.size), EqAt A.in1 s items[j] items2[j] (e j)) ∧ CmpEnd true A.in1 s items items2 e r 0 ∧
        R (.ok (.ret (.bool r))) s) := by
  intro prog w A R s h
  obtain ⟨hp, g, d, tk, os⟩ := s; obtain ⟨hl, hb, he, hend, h⟩ := h
  have f3 := AutoSeq1.sub_list_list
  wp_walk using wpAny_loadPart' hl, wpAny_loadPart' hb
  exact ⟨plainId_quiet plain_eq_loop _, codeAny_builtin entry_eq_loop (by
    rw [Around.under_plainId plain_eq_loop _]
    exact cmp_loopAt true l b items items2 n n2 dd dd2 sl sl2 e r _ 0 rfl prog w A R _ ⟨hl, hb, he, hend, h⟩)⟩

section
variable {A : Around} {s : Shared}
theorem CmpAt.lists (gt : Bool) {l b : Addr} {items items2 : Array Value} {e : Nat → Bool} {r : Bool} (hl : s.heap.IsList l items) (hb : s.heap.IsList b items2) (hu : A.units < cLine)
    (he : ∀ j (h1 : j < items.size) (h2 : j < items2.size), EqAt A.in1 s items[j] items2[j] (e j)) (hend : CmpEnd gt A.in1 s items items2 e r 0) : CmpAt (opOf gt) A s (.ref l) (.ref b) r := fun prog w E Q h => by
  obtain ⟨⟨cls, dd, data, sl⟩, ho, hc, n, hd⟩ := id hl
  obtain ⟨⟨cls2, dd2, data2, sl2⟩, ho2, hc2, n2, hd2⟩ := id hb
  simp only at hc hd hc2 hd2
  subst hc hd hc2 hd2
  cases gt with
  | false =>
    exact richCompare_meets_room (op := .Lt) ⟨_, ho, rfl⟩ ⟨_, ho2, rfl⟩ F.slot_list_lt F.entry_list_lt (F.args_list_lt_2 _ _) (list_ltAt l b items items2 n n2 dd dd2 sl sl2 e r)
      ⟨ho, ho2, he, hend, show Value.bool r ≠ Value.notImplemented ∧ Q (.bool r) s from ⟨(fun x => nomatch x), h⟩⟩ hu
  | true =>
    exact richCompare_meets_room (op := .Gt) ⟨_, ho, rfl⟩ ⟨_, ho2, rfl⟩ F.slot_list_gt F.entry_list_gt (F.args_list_gt_2 _ _) (list_gtAt l b items items2 n n2 dd dd2 sl sl2 e r)
      ⟨ho, ho2, he, hend, show Value.bool r ≠ Value.notImplemented ∧ Q (.bool r) s from ⟨(fun x => nomatch x), h⟩⟩ hu
theorem gt_str_ {prog : Program} {w : World} {E : Value → Shared → Prop} {x y : Str} {t u : Tok} {Q : Value → Shared → Prop} (h : Q (.bool (decide (y.cps.toList < x.cps.toList))) s) : wpAny (model prog w) A (compareOp .Gt (.str x t) (.str y u)) Q E s :=
  _root_.PySem.P.gt_str h
theorem CmpAt.ints (gt : Bool) (a b : Int) (t u : Tok) : CmpAt (opOf gt) A s (.int a t) (.int b u) (match gt with | false => decide (a < b) | true => decide (b < a)) := fun prog w E Q h => by
  cases gt with
  | false => exact (show wpAny (model prog w) A (richCompare .Lt (.int a t) (.int b u)) Q E s from wpAny_lt_int h)
  | true => exact (show wpAny (model prog w) A (compareOp .Gt (.int a t) (.int b u)) Q E s from PyProof.Rows.gt_int h)
theorem CmpAt.strs (gt : Bool) (a b : Str) (t u : Tok) : CmpAt (opOf gt) A s (.str a t) (.str b u) (match gt with | false => decide (a.cps.toList < b.cps.toList) | true => decide (b.cps.toList < a.cps.toList)) := fun prog w E Q h => by
  cases gt with
  | false => exact (show wpAny (model prog w) A (compareOp .Lt (.str a t) (.str b u)) Q E s from PyProof.Rows.lt_str h)
  | true => exact (show wpAny (model prog w) A (compareOp .Gt (.str a t) (.str b u)) Q E s from gt_str_ h)
end
end Mine
end
section
open PySem.SeqAt PySem.AutoSeq1 PySem.MeetsSeq PySem.MeetsSeq2 PySem.MeetsSeq3 PySem.SeqRoads2
namespace Mine

noncomputable def noneD : P → Option Unit
  | .none => some ()
  | _ => none
theorem noneD_at {d : P} {a : Unit} (h : noneD d = some a) : d = .none := by cases d <;> cases h; rfl
/- == of data of like kinds -/
noncomputable def eqP : Nat → P → P → Option Bool
  | 0, _, _ => none
  | n + 1, a, b => match a with
    | .none => (noneD b).map fun _ => true
    | .bool a => (boolD b).map fun b => a == b
    | .int a => (intD b).map fun b => a == b
    | .str a => (strD b).map fun b => a == b
    | .tup xs => (tupD b).bind fun ys => ((xs.zip ys).mapM fun p => eqP n p.1 p.2).map fun bs => bs.all id && xs.length == ys.length
    | .lst xs => (lstD b).bind fun ys => if xs.length = ys.length then ((xs.zip ys).mapM fun p => eqP n p.1 p.2).map fun bs => bs.all id else some false
    | .ty _ => none

noncomputable def ltI (gt : Bool) (a b : Int) : Bool := match gt with | false => decide (a < b) | true => decide (b < a)
noncomputable def ltS0 (gt : Bool) (a b : Str) : Bool := match gt with | false => decide (a.cps.toList < b.cps.toList) | true => decide (b.cps.toList < a.cps.toList)
/- < (gt: >) of data of like kinds -/
noncomputable def cmpP (gt : Bool) : Nat → P → P → Option Bool
  | 0, _, _ => none
  | n + 1, a, b => match a with
    | .int a => (intD b).map fun b => ltI gt a b
    | .str a => (strD b).map fun b => ltS0 gt a b
    | .lst xs => (lstD b).bind fun ys => ((xs.zip ys).mapM fun p => eqP n p.1 p.2).bind fun bs => match bs.findIdx? (fun b => b == false) with
      | none => some (sizeCmp gt xs.length ys.length)
      | some j => (xs[j]?).bind fun x => (ys[j]?).bind fun y => cmpP gt n x y
    | _ => none

theorem RPs.length {h : Heap} {Z : List Addr} : ∀ {l : List P} {vs : List Value}, RPs h Z l vs → l.length = vs.length
  | [], [], _ => rfl
  | _ :: _, _ :: _, x => by simp [RPs.length x.2]
  | [], _ :: _, x => x.elim
  | _ :: _, [], x => x.elim
theorem RPs.get {h : Heap} {Z : List Addr} : ∀ {l : List P} {vs : List Value}, RPs h Z l vs → ∀ {j : Nat} {d : P}, l[j]? = some d → ∃ v, vs[j]? = some v ∧ RP h Z d v
  | [], [], _, j, d, e => by simp at e
  | d :: l, v :: vs, x, 0, d', e => by simp at e; subst e; exact ⟨v, rfl, x.1⟩
  | d :: l, v :: vs, x, j + 1, d', e => by simp at e; simpa using RPs.get x.2 e
  | [], _ :: _, x, _, _, _ => x.elim
  | _ :: _, [], x, _, _, _ => x.elim
theorem RPs.get' {h : Heap} {Z : List Addr} {l : List P} {vs : List Value} (x : RPs h Z l vs) {j : Nat} {v : Value} (e : vs[j]? = some v) : ∃ d, l[j]? = some d ∧ RP h Z d v := by
  have hl := x.length
  have hj : j < l.length := by
    have := (List.getElem?_eq_some_iff.mp e).1
    omega
  have e' : l[j]? = some l[j] := List.getElem?_eq_getElem hj
  obtain ⟨v', h1, h2⟩ := x.get e'
  rw [e] at h1
  obtain rfl := soK h1
  exact ⟨_, e', h2⟩
theorem RPs.append {h : Heap} {Z : List Addr} : ∀ {l l' : List P} {vs vs' : List Value}, RPs h Z l vs → RPs h Z l' vs' → RPs h Z (l ++ l') (vs ++ vs')
  | [], _, [], _, _, y => y
  | _ :: _, _, _ :: _, _, x, y => ⟨x.1, RPs.append x.2 y⟩
  | [], _, _ :: _, _, x, _ => x.elim
  | _ :: _, _, [], _, x, _ => x.elim

mutual
theorem RP.z {h : Heap} {Z Z' : List Addr} (k : ∀ a, a < h.objs.size → a ∈ Z' → a ∈ Z) : ∀ (d : P) (v : Value), RP h Z d v → RP h Z' d v
  | .none, v, x => by simpa [RP] using x
  | .bool b, v, x => by simpa [RP] using x
  | .int i, v, x => by simpa [RP] using x
  | .str s, v, x => by simpa [RP] using x
  | .ty n, v, x => by simpa [RP] using x
  | .tup l, v, x => by
    obtain ⟨a, vs, e, t, r⟩ := x
    exact ⟨a, vs, e, t, RPs.z k l vs r⟩
  | .lst l, v, x => by
    obtain ⟨a, vs, e, t, z, r⟩ := x
    exact ⟨a, vs, e, t, fun q => z (k a t.lt q), RPs.z k l vs r⟩
theorem RPs.z {h : Heap} {Z Z' : List Addr} (k : ∀ a, a < h.objs.size → a ∈ Z' → a ∈ Z) : ∀ (l : List P) (vs : List Value), RPs h Z l vs → RPs h Z' l vs
  | [], [], _ => trivial
  | d :: l, v :: vs, x => ⟨RP.z k d v x.1, RPs.z k l vs x.2⟩
  | [], _ :: _, x => x.elim
  | _ :: _, [], x => x.elim
end
theorem RP.free {h : Heap} {Z : List Addr} {d : P} {v : Value} (x : RP h Z d v) : RP h [] d v := RP.z (fun _ _ q => by simp at q) d v x
theorem RPs.free {h : Heap} {Z : List Addr} {l : List P} {vs : List Value} (x : RPs h Z l vs) : RPs h [] l vs := RPs.z (fun _ _ q => by simp at q) l vs x

theorem seq_kind {h : Heap} {a : Addr} {vs ws : List Value} (x : LstAt h a vs) (y : TupAt h a ws) : False := by
  obtain ⟨n, e⟩ := x
  obtain ⟨n', e'⟩ := y
  rw [e] at e'
  simp at e'

noncomputable def un : Value → Option P
  | .none => some .none
  | .bool b => some (.bool b)
  | .int i _ => some (.int i)
  | .str s _ => some (.str s)
  | .type n => some (.ty n)
  | _ => none
noncomputable def atm : P → Option P
  | .tup _ => none
  | .lst _ => none
  | d => some d
theorem RP.un {h : Heap} {Z : List Addr} {d : P} {v : Value} (x : RP h Z d v) : un v = atm d := by
  cases d with
  | none => rw [show v = .none from x]; rfl
  | bool b => rw [show v = .bool b from x]; rfl
  | int i => obtain ⟨t, rfl⟩ := x; rfl
  | str i => obtain ⟨t, rfl⟩ := x; rfl
  | ty b => rw [show v = .type b from x]; rfl
  | tup l => obtain ⟨a, vs, rfl, _⟩ := x; rfl
  | lst l => obtain ⟨a, vs, rfl, _⟩ := x; rfl
theorem atm_some {d e : P} (h : atm d = some e) : e = d := by cases d <;> first | exact (soK h).symm | exact noK h
theorem atm_none {d : P} {G : P → Prop} (h : atm d = none) (k1 : ∀ l, G (.tup l)) (k2 : ∀ l, G (.lst l)) : G d := by
  cases d <;> first | exact k1 _ | exact k2 _ | exact noK h.symm
mutual
theorem RP.inj {h : Heap} {Z Z' : List Addr} : ∀ (d d' : P) (v : Value), RP h Z d v → RP h Z' d' v → d = d'
  | .none, d', v, x, y => atm_some (y.un.symm.trans x.un)
  | .bool _, d', v, x, y => atm_some (y.un.symm.trans x.un)
  | .int _, d', v, x, y => atm_some (y.un.symm.trans x.un)
  | .str _, d', v, x, y => atm_some (y.un.symm.trans x.un)
  | .ty _, d', v, x, y => atm_some (y.un.symm.trans x.un)
  | .tup l, d', v, x, y => atm_none (G := fun d' => RP h Z' d' v → .tup l = d') (y.un.symm.trans x.un) (fun l' y => by
      obtain ⟨a, vs, rfl, t, r⟩ := x
      obtain ⟨a', vs', e', t', r'⟩ := y
      cases e'
      rw [RPs.inj l l' vs r (t.inj t' ▸ r')]) (fun l' y => by
      obtain ⟨a, vs, rfl, t, r⟩ := x
      obtain ⟨a', vs', e', t', _⟩ := y
      cases e'
      exact (seq_kind t' t).elim) y
  | .lst l, d', v, x, y => atm_none (G := fun d' => RP h Z' d' v → .lst l = d') (y.un.symm.trans x.un) (fun l' y => by
      obtain ⟨a, vs, rfl, t, _⟩ := x
      obtain ⟨a', vs', e', t', _⟩ := y
      cases e'
      exact (seq_kind t t').elim) (fun l' y => by
      obtain ⟨a, vs, rfl, t, _, r⟩ := x
      obtain ⟨a', vs', e', t', _, r'⟩ := y
      cases e'
      rw [RPs.inj l l' vs r (t.inj t' ▸ r')]) y
theorem RPs.inj {h : Heap} {Z Z' : List Addr} : ∀ (l l' : List P) (vs : List Value), RPs h Z l vs → RPs h Z' l' vs → l = l'
  | [], [], _, _, _ => rfl
  | d :: l, d' :: l', v :: vs, x, y => by rw [RP.inj d d' v x.1 y.1, RPs.inj l l' vs x.2 y.2]
  | [], _ :: _, [], _, y => y.elim
  | [], _ :: _, _ :: _, x, _ => x.elim
  | _ :: _, [], [], x, _ => x.elim
  | _ :: _, [], _ :: _, _, y => y.elim
  | _ :: _, _ :: _, [], x, _ => x.elim
end

/- mapM over pairs: what it gives place by place -/
theorem mapM_consK {α β : Type} {f : α → Option β} {x : α} {l : List α} {r : List β} {G : Prop} (h : (x :: l).mapM f = some r) (k : ∀ b bs, f x = some b → l.mapM f = some bs → b :: bs = r → G) : G := by
  rw [List.mapM_cons] at h
  exact bindK h fun b h1 h => bindK h fun bs h2 h => k b bs h1 h2 (soK h)
theorem mapM_map {α β : Type} {f : α → Option β} {g : β → α} (hf : ∀ {x y}, f x = some y → x = g y) : ∀ {l : List α} {r : List β}, l.mapM f = some r → l = r.map g
  | [], r, h => by cases h; rfl
  | x :: l, r, h => mapM_consK h fun b bs h1 h2 e => by subst e; rw [hf h1, mapM_map hf h2]; rfl
theorem zip_mapM {f : P × P → Option Bool} : ∀ {xs ys : List P} {bs : List Bool}, (xs.zip ys).mapM f = some bs →
    bs.length = min xs.length ys.length ∧ ∀ (j : Nat) x y, xs[j]? = some x → ys[j]? = some y → ∃ b, bs[j]? = some b ∧ f (x, y) = some b
  | [], ys, bs, h => by cases h; exact ⟨(Nat.zero_min _).symm, fun j x y e => noK e⟩
  | x :: xs, [], bs, h => by cases h; exact ⟨rfl, fun j x y _ e => noK e⟩
  | x :: xs, y :: ys, bs, h => mapM_consK (l := xs.zip ys) h fun b bs' hf hr e => by
    subst e
    obtain ⟨e1, e2⟩ := zip_mapM hr
    refine ⟨by rw [List.length_cons, e1, List.length_cons, List.length_cons, Nat.succ_min_succ], fun j x' y' hx hy => ?_⟩
    cases j with
    | zero => cases hx; cases hy; exact ⟨b, rfl, hf⟩
    | succ j => exact e2 j x' y' hx hy

theorem range_all_of {bs : List Bool} {n : Nat} (hn : bs.length = n) : ((List.range n).all fun j => bs.getD j true) = bs.all id := by
  subst hn
  rw [Bool.eq_iff_iff, List.all_eq_true, List.all_eq_true]
  constructor
  · intro h b hb
    obtain ⟨j, hj, rfl⟩ := List.mem_iff_getElem.mp hb
    have := h j (List.mem_range.mpr hj)
    simpa [hj] using this
  · intro h j hj
    have hj' := List.mem_range.mp hj
    have := h bs[j] (List.getElem_mem hj')
    simpa [hj'] using this

theorem eqP_refl : ∀ (n : Nat) (a : P) (r : Bool), eqP n a a = some r → r = true
  | 0, _, _, h => noK h
  | n + 1, a, r, h => by
    have step : ∀ (xs : List P) (bs : List Bool), ((xs.zip xs).mapM fun p => eqP n p.1 p.2) = some bs → bs.all id = true := fun xs bs hb => by
      obtain ⟨e1, e2⟩ := zip_mapM hb
      rw [List.all_eq_true]
      intro b hbm
      obtain ⟨j, hj, rfl⟩ := List.mem_iff_getElem.mp hbm
      have hjx : j < xs.length := by rw [e1, Nat.min_self] at hj; exact hj
      obtain ⟨b, hb1, hb2⟩ := e2 j xs[j] xs[j] (List.getElem?_eq_getElem hjx) (List.getElem?_eq_getElem hjx)
      rw [List.getElem?_eq_getElem hj] at hb1
      exact (soK hb1).trans (eqP_refl n _ _ hb2)
    cases a with
    | none => exact (soK h).symm
    | bool b => exact (soK h).symm.trans (beq_self_eq_true b)
    | int b => exact (soK h).symm.trans (beq_self_eq_true b)
    | str b => exact (soK h).symm.trans (beq_self_eq_true b)
    | ty b => exact noK h
    | tup xs =>
      replace h : ((xs.zip xs).mapM fun p => eqP n p.1 p.2).map (fun bs => bs.all id && xs.length == xs.length) = some r := h
      exact mapK h fun bs hb e => e.symm.trans (by rw [step xs bs hb]; exact beq_self_eq_true xs.length)
    | lst xs =>
      replace h : (if xs.length = xs.length then ((xs.zip xs).mapM fun p => eqP n p.1 p.2).map fun bs => bs.all id else some false) = some r := h
      rw [if_pos rfl] at h
      exact mapK h fun bs hb e => e.symm.trans (step xs bs hb)

theorem eqAt_P : ∀ (n : Nat) (a b : P) (r : Bool) (A : Around) (s : Shared) (x y : Value), eqP n a b = some r → RP s.heap [] a x → RP s.heap [] b y → A.units + n < cLine → EqAt A s x y r ∧ RcAt A s x y r ∧ RcNeAt A s x y (!r)
  | 0, _, _, _, _, _, _, _, h, _, _, _ => noK h
  | n + 1, a, b, r, A, s, x, y, h, hx, hy, hu => by
    have hu1 : A.units < cLine := Nat.lt_of_le_of_lt (Nat.le_add_right _ _) hu
    have same : ∀ {x}, RP s.heap [] a x → RP s.heap [] b x → EqAt A s x x r := fun hx hy => by
      have e := RP.inj _ _ _ hx hy
      subst e
      rw [eqP_refl _ _ _ h]
      exact .same _
    have kids : ∀ {xs ys : List P} {bs : List Bool} {vs ws : List Value}, (xs.zip ys).mapM (fun p => eqP n p.1 p.2) = some bs → RPs s.heap [] xs vs → RPs s.heap [] ys ws →
        ∀ j (h1 : j < vs.toArray.size) (h2 : j < ws.toArray.size), EqAt A.in1 s vs.toArray[j] ws.toArray[j] (bs.getD j true) := fun {xs ys bs vs ws} hb rl rm j h1 h2 => by
      obtain ⟨d1, f1, g1⟩ := rl.get' (List.getElem?_eq_getElem h1)
      obtain ⟨d2, f2, g2⟩ := rm.get' (List.getElem?_eq_getElem h2)
      obtain ⟨b, hb1, hb2⟩ := (zip_mapM hb).2 j d1 d2 f1 f2
      have := (eqAt_P n d1 d2 b A.in1 s _ _ hb2 g1 g2 (by rw [Around.in1_units]; omega)).1
      rw [List.getD_eq_getElem?_getD, hb1]
      exact this
    cases a with
    | none =>
      refine mapK h fun _ h1 h2 => ?_
      obtain rfl := noneD_at h1
      obtain rfl := hx
      obtain rfl := hy
      subst h2
      exact ⟨.same _, RcAt.none_none, RcNeAt.none_none⟩
    | bool a =>
      refine mapK h fun _ h1 h2 => ?_
      obtain rfl := boolD_at h1
      obtain rfl := hx
      obtain rfl := hy
      subst h2
      exact ⟨EqAt.bool_bool _ _, RcAt.bool_bool _ _, RcNeAt.bool_bool _ _⟩
    | int a =>
      refine mapK h fun _ h1 h2 => ?_
      obtain rfl := intD_at h1
      obtain ⟨t, rfl⟩ := hx
      obtain ⟨u, rfl⟩ := hy
      subst h2
      exact ⟨EqAt.int_int _ _ _ _, RcAt.int_int _ _ _ _, RcNeAt.int_int _ _ _ _⟩
    | str a =>
      refine mapK h fun _ h1 h2 => ?_
      obtain rfl := strD_at h1
      obtain ⟨t, rfl⟩ := hx
      obtain ⟨u, rfl⟩ := hy
      subst h2
      exact ⟨EqAt.str_str _ _ _ _, RcAt.str_str _ _ _ _, RcNeAt.str_str _ _ _ _⟩
    | ty a => exact noK h
    | tup xs =>
      refine bindK h fun ys h1 h2 => mapK h2 fun bs hb h3 => ?_
      obtain rfl := tupD_at h1
      have hx' := hx
      have hy' := hy
      obtain ⟨l, vs, rfl, tl, rl⟩ := hx
      obtain ⟨m, ws, rfl, tm, rm⟩ := hy
      have he := kids hb rl rm
      have rc := RcAt.tuples (A := A) (s := s) tl.isTup tm.isTup hu1 he
      have rn := RcNeAt.tuples (A := A) (s := s) tl.isTup tm.isTup hu1 he
      have hall : ((List.range (min vs.toArray.size ws.toArray.size)).all (fun j => bs.getD j true) && vs.toArray.size == ws.toArray.size) = r := by
        rw [List.size_toArray, List.size_toArray, ← rl.length, ← rm.length, range_all_of (zip_mapM hb).1]
        exact h3
      rw [hall] at rc rn
      by_cases hlm : l = m
      · subst hlm; exact ⟨same hx' hy', rc, rn⟩
      · exact ⟨.of_refs hlm rc, rc, rn⟩
    | lst xs =>
      refine bindK h fun ys h1 h2 => ?_
      obtain rfl := lstD_at h1
      have hx' := hx
      have hy' := hy
      obtain ⟨l, vs, rfl, tl, _, rl⟩ := hx
      obtain ⟨m, ws, rfl, tm, _, rm⟩ := hy
      have lx := rl.length
      have ly := rm.length
      have fin : RcAt A s (.ref l) (.ref m) r ∧ RcNeAt A s (.ref l) (.ref m) (!r) := by
        by_cases hlen : xs.length = ys.length
        · rw [if_pos hlen] at h2
          refine mapK h2 fun bs hb h3 => ?_
          have he := kids hb rl rm
          have hsz : vs.toArray.size = ws.toArray.size := by rw [List.size_toArray, List.size_toArray, ← lx, ← ly, hlen]
          have rc := RcAt.lists (A := A) (s := s) tl.isList tm.isList hsz hu1 he
          have rn := RcNeAt.lists (A := A) (s := s) tl.isList tm.isList hsz hu1 he
          have hall : ((List.range vs.toArray.size).all (fun j => bs.getD j true)) = r := by
            rw [List.size_toArray, range_all_of (by rw [(zip_mapM hb).1, ← hlen, Nat.min_self, lx])]
            exact h3
          rw [hall] at rc rn
          exact ⟨rc, rn⟩
        · rw [if_neg hlen] at h2
          obtain rfl := soK h2
          have hsz : (vs.toArray.size != ws.toArray.size) = true := by rw [List.size_toArray, List.size_toArray, ← lx, ← ly]; exact bne_iff_ne.mpr hlen
          exact ⟨RcAt.lists_lengths (A := A) (s := s) tl.isList tm.isList hsz hu1, RcNeAt.lists_lengths (A := A) (s := s) tl.isList tm.isList hsz hu1⟩
      by_cases hlm : l = m
      · subst hlm; exact ⟨same hx' hy', fin⟩
      · exact ⟨.of_refs hlm fin.1, fin⟩
end Mine
end
section
open PySem.SeqAt PySem.AutoSeq1 PySem.MeetsSeq PySem.MeetsSeq2 PySem.MeetsSeq3 PySem.SeqRoads2
namespace Mine

/- two lists, item by item -/
theorem cmpEnd (gt : Bool) {n : Nat} {xs ys : List P} {r : Bool} {A : Around} {s : Shared} {vs ws : List Value} (ih : ∀ d1 d2 x y, cmpP gt n d1 d2 = some r → RP s.heap [] d1 x → RP s.heap [] d2 y → CmpAt (opOf gt) A.in1 s x y r)
    (h : cmpP gt (n + 1) (.lst xs) (.lst ys) = some r) (rl : RPs s.heap [] xs vs) (rm : RPs s.heap [] ys ws) (hu2 : A.in1.units + n < cLine) :
    ∃ e : Nat → Bool, (∀ j (h1 : j < vs.toArray.size) (h2 : j < ws.toArray.size), EqAt A.in1 s vs.toArray[j] ws.toArray[j] (e j)) ∧ CmpEnd gt A.in1 s vs.toArray ws.toArray e r 0 := by
  have lx := rl.length
  have ly := rm.length
  replace h : ((xs.zip ys).mapM fun p => eqP n p.1 p.2).bind _ = some r := h
  refine bindK h fun bs hb h => ?_
  obtain ⟨e1, e2⟩ := zip_mapM hb
  refine ⟨fun j => bs.getD j true, fun j h1 h2 => ?_, ?_⟩
  · obtain ⟨d1, f1, g1⟩ := rl.get' (List.getElem?_eq_getElem h1)
    obtain ⟨d2, f2, g2⟩ := rm.get' (List.getElem?_eq_getElem h2)
    obtain ⟨b, hb1, hb2⟩ := e2 j d1 d2 f1 f2
    have := (eqAt_P n d1 d2 b A.in1 s _ _ hb2 g1 g2 hu2).1
    show EqAt _ _ _ _ (bs.getD j true)
    rw [List.getD_eq_getElem?_getD, hb1]
    exact this
  · cases hf : bs.findIdx? (fun b => b == false) with
    | none =>
      rw [hf] at h
      refine .inr ⟨fun k _ h1 h2 => ?_, ?_⟩
      · have hk : k < bs.length := by rw [e1, lx, ly]; exact Nat.lt_min.mpr ⟨h1, h2⟩
        have := List.findIdx?_eq_none_iff.mp hf bs[k] (List.getElem_mem hk)
        simpa [hk] using this
      · rw [List.size_toArray, List.size_toArray, ← lx, ← ly]; exact (soK h).symm
    | some j =>
      rw [hf] at h
      obtain ⟨hj, hj1, hj2⟩ := List.findIdx?_eq_some_iff_getElem.mp hf
      rw [e1, lx, ly] at hj
      have h1 := (Nat.lt_min.mp hj).1
      have h2 := (Nat.lt_min.mp hj).2
      obtain ⟨d1, f1, g1⟩ := rl.get' (List.getElem?_eq_getElem h1)
      obtain ⟨d2, f2, g2⟩ := rm.get' (List.getElem?_eq_getElem h2)
      dsimp only at h
      rw [f1, f2] at h
      refine .inl ⟨j, h1, h2, Nat.zero_le _, ?_, fun k _ hk => ?_, ih d1 d2 _ _ h g1 g2⟩
      · have hjb : j < bs.length := by rw [e1, lx, ly]; exact hj
        simpa [hjb] using hj1
      · have hk' : k < bs.length := by rw [e1, lx, ly]; exact Nat.lt_trans hk hj
        have := hj2 k hk
        simpa [hk'] using this
theorem cmpAt_P (gt : Bool) : ∀ (n : Nat) (a b : P) (r : Bool) (A : Around) (s : Shared) (x y : Value), cmpP gt n a b = some r → RP s.heap [] a x → RP s.heap [] b y → A.units + n < cLine → CmpAt (opOf gt) A s x y r
  | 0, _, _, _, _, _, _, _, h, _, _, _ => noK h
  | n + 1, a, b, r, A, s, x, y, h, hx, hy, hu => by
    cases a with
    | int a =>
      refine mapK h fun _ h1 h2 => ?_
      obtain rfl := intD_at h1
      obtain ⟨t, rfl⟩ := hx
      obtain ⟨u, rfl⟩ := hy
      subst h2
      exact CmpAt.ints gt _ _ _ _
    | str a =>
      refine mapK h fun _ h1 h2 => ?_
      obtain rfl := strD_at h1
      obtain ⟨t, rfl⟩ := hx
      obtain ⟨u, rfl⟩ := hy
      subst h2
      exact CmpAt.strs gt _ _ _ _
    | lst xs =>
      have h' := h
      refine bindK h fun ys h1 _ => ?_
      obtain rfl := lstD_at h1
      obtain ⟨l, vs, rfl, tl, _, rl⟩ := hx
      obtain ⟨m, ws, rfl, tm, _, rm⟩ := hy
      have hu2 : A.in1.units + n < cLine := by rw [Around.in1_units]; omega
      obtain ⟨e, he, hend⟩ := cmpEnd gt (A := A) (fun d1 d2 x y h g1 g2 => cmpAt_P gt n d1 d2 r A.in1 s x y h g1 g2 hu2) h' rl rm hu2
      exact CmpAt.lists gt tl.isList tm.isList (Nat.lt_of_le_of_lt (Nat.le_add_right _ _) hu) he hend
    | _ => exact noK h
end Mine
end
section
namespace Mine

theorem putName_cls (name : Str) (h : Int) (key v : Value) (o : Obj) {es : Array DictEntry} {ep : Nat} (hd : o.data = .dict es ep) : (Obj.putName name h key v o).cls = o.cls ∧ (Obj.putName name h key v o).isFreed = false := by
  obtain ⟨c, d, dt, sl⟩ := o
  subst hd
  rw [Obj.putName_eq]
  unfold Obj.putNameByArray
  dsimp only
  split <;> exact ⟨rfl, rfl⟩
theorem nsSetC {M : Model} {A : Around} {E : Value → Shared → Prop} {s : Shared} {a : Addr} {m : Str → Option Value} {name : Str} {v : Value} {Q : Unit → Shared → Prop} (hn : s.heap.Ns a m)
    (h : ∀ h', h'.Ns a (fun x => if x = name then some v else m x) → Heap.SameBut a s.heap h' → (∀ o, s.heap.get? a = some o → ∃ o', h'.get? a = some o' ∧ o'.cls = o.cls) → Q () { s with heap := h', toks := s.toks + 1 }) :
    wpAny M A (nsSet a name v) Q E s := fun Γ p _ => by
  have k := Sem.wp_nsSet M Γ (fun e _ s' => E e s') p s hn name v (fun _ _ s' => s'.heap.Ns a (fun x => if x = name then some v else m x) ∧ Heap.SameBut a s.heap s'.heap) (fun h' h1 h2 => ⟨h1, h2⟩)
  obtain ⟨o, es, ep, ho, hd, hk, hm⟩ := hn
  simp only [nsSet, strHash, Sem.wp_bind', Sem.wp_cmd_ask, Sem.wp_pure', Sem.wp_cmd_mkText] at k ⊢
  rw [Sem.wp_loadPart_of M Γ _ p { s with toks := s.toks + 1 } (o := o) _ ho] at k ⊢
  have hany : es.any (·.refKey) = false := by
    rw [Array.any_eq_false']; intro e he; obtain ⟨n, t, h⟩ := hk e he; simp [DictEntry.refKey, h]
  simp only [hd, aRefKeyMayBeTheName_eq, aRefKeyMayBeTheNameByArray, hany, Bool.and_false, Bool.false_eq_true, if_false, Sem.wp_cmd_updatePart] at k ⊢
  refine ⟨k.1, h _ k.2.1 k.2.2 fun o' e => ?_⟩
  obtain rfl := soK (ho.symm.trans e)
  obtain ⟨h1, h2⟩ := putName_cls name (hashStr _ name) _ v o hd
  exact ⟨_, Heap.get?_update_self _ ho h2, h1⟩

/- values of the frame: data, a mutable cell, a tuple that may hold cells -/
inductive V where
  | p (d : P)
  | c (k : Nat)
  | t (l : List (P ⊕ Nat))
  deriving Inhabited
/- what a cell holds -/
inductive MO where
  | ml (l : List P)
  | md (l : List (Str × P))
  deriving Inhabited
noncomputable abbrev Mem := List MO
noncomputable abbrev Slots := List (Option V)
noncomputable abbrev XF := Mem → Slots → Option V

noncomputable def RX (h : Heap) (Z α : List Addr) : P ⊕ Nat → Value → Prop
  | .inl d, y => RP h Z d y
  | .inr k, y => ∃ a, α[k]? = some a ∧ y = .ref a
noncomputable def RXs (h : Heap) (Z α : List Addr) : List (P ⊕ Nat) → List Value → Prop
  | [], [] => True
  | d :: l, v :: vs => RX h Z α d v ∧ RXs h Z α l vs
  | _, _ => False
noncomputable def RV (h : Heap) (Z α : List Addr) : V → Value → Prop
  | .p d, y => RP h Z d y
  | .c k, y => ∃ a, α[k]? = some a ∧ y = .ref a
  | .t l, y => ∃ a vs, y = .ref a ∧ TupAt h a vs ∧ RXs h Z α l vs
theorem RX.kp {h h' : Heap} (k : Kp h h') {Z α : List Addr} : ∀ {d : P ⊕ Nat} {v : Value}, RX h Z α d v → RX h' Z α d v
  | .inl d, v, x => RP.kp k d v x
  | .inr _, _, x => x
theorem RXs.kp {h h' : Heap} (k : Kp h h') {Z α : List Addr} : ∀ {l : List (P ⊕ Nat)} {vs : List Value}, RXs h Z α l vs → RXs h' Z α l vs
  | [], [], _ => trivial
  | _ :: _, _ :: _, x => ⟨x.1.kp k, RXs.kp k x.2⟩
  | [], _ :: _, x => x.elim
  | _ :: _, [], x => x.elim
theorem RV.kp {h h' : Heap} (k : Kp h h') {Z α : List Addr} : ∀ {d : V} {v : Value}, RV h Z α d v → RV h' Z α d v
  | .p d, v, x => RP.kp k d v x
  | .c _, _, x => x
  | .t l, v, ⟨a, vs, e, t, r⟩ => ⟨a, vs, e, k.tup t, r.kp k⟩

/- a variable of the frame bears y -/
noncomputable def VarAt (h : Heap) (env : Env) (m : Str → Option Value) (x : Str) (y : Value) : Prop :=
  (env.kindOf x = some .local ∧ m x = some y) ∨
  (∃ c, (env.kindOf x = some .cell ∨ (env.kindOf x = some .free ∧ (x == ("__classdict__" : Str)) = false)) ∧ env.cells.lookup x = some c ∧ h.IsCell c (some y))
theorem VarAt.kp {h h' : Heap} (k : Kp h h') {env : Env} {m : Str → Option Value} {x : Str} {y : Value} : VarAt h env m x y → VarAt h' env m x y
  | .inl e => .inl e
  | .inr ⟨c, a, b, e⟩ => .inr ⟨c, a, b, k.isCell e⟩

structure Fm (h : Heap) (Z α : List Addr) (env : Env) (nm : List Str) (sl : Slots) : Prop where
  kind : env.scope.kind = .function
  glob : env.globals = mainGlobals
  blt : env.builtins = builtinsNs
  vars : ∃ m, h.Ns env.locals m ∧ ∀ (i : Nat) (x : Str) (v : V), nm[i]? = some x → sl[i]? = some (some v) → ∃ y, VarAt h env m x y ∧ RV h Z α v y
theorem Fm.kp {h h' : Heap} (k : Kp h h') {Z α : List Addr} {env : Env} {nm : List Str} {sl : Slots} (F : Fm h Z α env nm sl) : Fm h' Z α env nm sl := by
  obtain ⟨m, hn, hv⟩ := F.vars
  exact ⟨F.kind, F.glob, F.blt, m, k.ns hn, fun i x v h1 h2 => let ⟨y, a, b⟩ := hv i x v h1 h2; ⟨y, a.kp k, b.kp k⟩⟩

noncomputable def RKs (h : Heap) (Z : List Addr) : List (Str × P) → List (Str × Value) → Prop
  | [], [] => True
  | d :: l, v :: vs => d.1 = v.1 ∧ RP h Z d.2 v.2 ∧ RKs h Z l vs
  | _, _ => False
theorem RKs.kp {h h' : Heap} (k : Kp h h') {Z : List Addr} : ∀ {l : List (Str × P)} {vs : List (Str × Value)}, RKs h Z l vs → RKs h' Z l vs
  | [], [], _ => trivial
  | _ :: _, _ :: _, x => ⟨x.1, RP.kp k _ _ x.2.1, RKs.kp k x.2.2⟩
  | [], _ :: _, x => x.elim
  | _ :: _, [], x => x.elim
theorem RKs.length {h : Heap} {Z : List Addr} : ∀ {l : List (Str × P)} {vs : List (Str × Value)}, RKs h Z l vs → l.length = vs.length
  | [], [], _ => rfl
  | _ :: _, _ :: _, x => by simp [RKs.length x.2.2]
  | [], _ :: _, x => x.elim
  | _ :: _, [], x => x.elim
theorem RKs.append1 {h : Heap} {Z : List Addr} {k : Str} {d : P} {v : Value} (r : RP h Z d v) : ∀ {l : List (Str × P)} {vs : List (Str × Value)}, RKs h Z l vs → RKs h Z (l ++ [(k, d)]) (vs ++ [(k, v)])
  | [], [], _ => ⟨rfl, r, trivial⟩
  | _ :: _, _ :: _, x => ⟨x.1, x.2.1, RKs.append1 r x.2.2⟩
  | [], _ :: _, x => x.elim
  | _ :: _, [], x => x.elim
noncomputable def getK : List (Str × P) → Str → Option P
  | [], _ => none
  | (q, d) :: l, k => if q = k then some d else getK l k
theorem RKs.get {h : Heap} {Z : List Addr} {k : Str} {d : P} : ∀ {l : List (Str × P)} {vs : List (Str × Value)}, RKs h Z l vs → getK l k = some d → ∃ v, valueAt vs k = some v ∧ RP h Z d v
  | [], [], _, e => by exact noK e
  | (q, d') :: l, (q', v) :: vs, x, e => by
    obtain ⟨e1, r, x⟩ := x
    simp only at e1
    subst e1
    simp only [getK] at e
    by_cases hq : q = k
    · simp only [hq, if_true, Option.some.injEq] at e
      subst e
      exact ⟨v, by simp [valueAt, hq], r⟩
    · simp only [hq, if_false] at e
      obtain ⟨v', h1, h2⟩ := RKs.get x e
      exact ⟨v', by simpa [valueAt, List.find?_cons, hq] using h1, h2⟩
  | [], _ :: _, x, _ => x.elim
  | _ :: _, [], x, _ => x.elim
theorem RKs.no {h : Heap} {Z : List Addr} {k : Str} : ∀ {l : List (Str × P)} {vs : List (Str × Value)}, RKs h Z l vs → getK l k = none → vs.any (fun kv => kv.1 = k) = false
  | [], [], _, e => rfl
  | (q, d') :: l, (q', v) :: vs, x, e => by
    obtain ⟨e1, r, x⟩ := x
    simp only at e1
    subst e1
    simp only [getK] at e
    by_cases hq : q = k
    · simp [hq] at e
    · simp only [hq, if_false] at e
      simpa [hq] using RKs.no x e
  | [], _ :: _, x, _ => x.elim
  | _ :: _, [], x, _ => x.elim

noncomputable def MA (prog : Program) (w : World) (h : Heap) (Z : List Addr) (a : Addr) : MO → Prop
  | .ml l => ∃ vs, LstAt h a vs ∧ RPs h Z l vs
  | .md l => ∃ kvs : List (Str × Value), h.DictOf (PySem.strKind prog w) a kvs ∧ RKs h Z l kvs

structure Me (prog : Program) (w : World) (hb h : Heap) (Z α : List Addr) (mem : Mem) : Prop where
  len : α.length = mem.length
  nd : α.Nodup
  sub : ∀ a ∈ α, a ∈ Z
  new : ∀ a ∈ α, hb.get? a = none
  zin : ∀ a ∈ Z, ∃ o, h.get? a = some o
  here : ∀ (k : Nat) (a : Addr) (o : MO), α[k]? = some a → mem[k]? = some o → MA prog w h Z a o

/- the frames' own objects -/
noncomputable def FrC (h : Heap) (fs : List Env) : Prop := ∀ env ∈ fs, ∀ L, env.frame = some L → ∃ o es ep, h.get? L = some o ∧ o.cls = .type "frame" ∧ o.data = .dict es ep
structure Rm (hb : Heap) (n : Nat) (A : Around) (h : Heap) : Prop where
  hd : A.handled = none
  dep : A.depth + n ≤ 900
  uni : A.units + 20 * n + 200 ≤ cLine
  frs : ∃ fs, A.frames = some fs ∧ h.FunFrames hb fs ∧ FrC h fs

structure St (prog : Program) (w : World) (hb : Heap) (env : Env) (nm : List Str) (Z α : List Addr) (mem : Mem) (sl : Slots) (h : Heap) : Prop where
  fm : Fm h Z α env nm sl
  me : Me prog w hb h Z α mem
  stays : hb.StaysIn h
end Mine
end
section
namespace Mine

theorem MA.kp {prog : Program} {w : World} {h h' : Heap} (k : Kp h h') {Z : List Addr} {a : Addr} : ∀ {o : MO}, MA prog w h Z a o → MA prog w h' Z a o
  | .ml l, ⟨vs, x, y⟩ => ⟨vs, k.lst x, RPs.kp k l vs y⟩
  | .md l, ⟨m, x, y⟩ => by
    obtain ⟨o, es, ep, ho, hx, r⟩ := x
    exact ⟨m, ⟨o, es, ep, k.exact ho (by rw [hx.1]; exact ty_ne (by decide)), hx, r⟩, y.kp k⟩
theorem Me.kp {prog : Program} {w : World} {hb h h' : Heap} (k : Kp h h') {Z α : List Addr} {mem : Mem} (x : Me prog w hb h Z α mem) : Me prog w hb h' Z α mem :=
  ⟨x.len, x.nd, x.sub, x.new, fun a ha => let ⟨_, e⟩ := x.zin a ha; let ⟨_, e', _⟩ := k a _ e; ⟨_, e'⟩, fun i a o e1 e2 => (x.here i a o e1 e2).kp k⟩
theorem Rm.kp {hb h h' : Heap} (k : Kp h h') {n : Nat} {A : Around} (x : Rm hb n A h) : Rm hb n A h' := by
  obtain ⟨fs, e, ff, fc⟩ := x.frs
  refine ⟨x.hd, x.dep, x.uni, fs, e, ff.of_keeps fun b o eb _ => ?_, fun env he L hL => ?_⟩
  · obtain ⟨sl, e', _⟩ := k b o eb
    exact ⟨_, e', rfl⟩
  · obtain ⟨o, es, ep, eo, hc, hd⟩ := fc env he L hL
    obtain ⟨sl, e', _⟩ := k L o eo
    exact ⟨_, es, ep, e', hc, hd⟩
theorem St.kp {prog : Program} {w : World} {hb h h' : Heap} (k : Kp h h') (hs : hb.StaysIn h') {env : Env} {nm : List Str} {Z α : List Addr} {mem : Mem} {sl : Slots} (x : St prog w hb env nm Z α mem sl h) : St prog w hb env nm Z α mem sl h' :=
  ⟨x.fm.kp k, x.me.kp k, hs⟩
/- the expression gives what f says -/
noncomputable def SimE (prog : Program) (w : World) (hb : Heap) (n : Nat) (sc : Scope) (nm : List Str) (e : Expr) (f : XF) : Prop :=
  ∀ (env : Env) (Z α : List Addr) (A : Around) (s : Shared) (mem : Mem) (sl : Slots) (v : V) (Q E : Value → Shared → Prop),
    env.scope = sc → Rm hb n A s.heap → St prog w hb env nm Z α mem sl s.heap → f mem sl = some v →
    (∀ y h' tk, RV h' Z α v y → Kp s.heap h' → hb.StaysIn h' → Q y { s with heap := h', toks := tk }) →
    wpAny (model prog w) A (eval e env) Q E s

section
variable {prog : Program} {w : World} {hb : Heap} {n : Nat} {sc : Scope} {nm : List Str}

noncomputable def xK (d : P) : XF := fun _ _ => some (.p d)
theorem sim_int {i : Int} {k : Nat} {pos : Pos} : SimE prog w hb n sc nm (.Constant (.int i) k pos) (xK (.int i)) := by
  intro env Z α A s mem sl v Q E hsc rm st hf hQ
  obtain rfl := soK hf
  refine wpAny_Constant_int ?_
  exact hQ (.int i s.toks) s.heap (s.toks + 1) ⟨_, rfl⟩ (.refl _) st.stays
theorem sim_str {x : Str} {k : Nat} {pos : Pos} : SimE prog w hb n sc nm (.Constant (.str x) k pos) (xK (.str x)) := by
  intro env Z α A s mem sl v Q E hsc rm st hf hQ
  obtain rfl := soK hf
  show wpAny _ _ (mkText x) _ _ s
  exact fun _ _ _ => hQ (.str x s.toks) s.heap (s.toks + 1) ⟨_, rfl⟩ (.refl _) st.stays
theorem sim_bool {b : Bool} {k : Nat} {pos : Pos} : SimE prog w hb n sc nm (.Constant (.bool b) k pos) (xK (.bool b)) := by
  intro env Z α A s mem sl v Q E hsc rm st hf hQ
  obtain rfl := soK hf
  show wpAny _ _ (pure (Value.bool b)) _ _ s
  exact wpAny_pure (hQ (.bool b) s.heap s.toks rfl (.refl _) st.stays)

noncomputable def xV (i : Nat) : XF := fun _ sl => (sl[i]?).join
theorem sim_var {x : Str} {pos : Pos} (i : Nat) (hx : nm[i]? = some x := by rfl) (hd : (x == ("__debug__" : Str)) = false := by decide +kernel) : SimE prog w hb n sc nm (.Name x pos) (xV i) := by
  intro env Z α A s mem sl v Q E hsc rm st hf hQ
  have hsl : sl[i]? = some (some v) := by
    unfold xV at hf
    cases h : sl[i]? with
    | none => simp [h] at hf
    | some o => simp [h] at hf; rw [hf]
  obtain ⟨m, hn, hv⟩ := st.fm.vars
  obtain ⟨y, hy, hr⟩ := hv i x v hx hsl
  have q : Q y s := hQ y s.heap s.toks hr (.refl _) st.stays
  refine wpAny_Name ?_ hd
  rcases hy with ⟨hk, hm⟩ | ⟨c, hk | hk, hc, hcell⟩
  · exact wpAny_loadName_local st.fm.kind hk hn hm q
  · exact wpAny_loadName_cell st.fm.kind hk hc hcell q
  · exact wpAny_loadName_free st.fm.kind hk.1 hc hcell q hk.2

/- what a value of the frame holds now -/
noncomputable def derM (mem : Mem) (k : Nat) : Option P := match mem[k]? with
  | some (.ml l) => some (.lst l)
  | _ => none
noncomputable def derP (mem : Mem) : V → Option P
  | .p d => some d
  | .c k => derM mem k
  | .t _ => none
noncomputable def derX (mem : Mem) : P ⊕ Nat → Option P
  | .inl d => some d
  | .inr k => derM mem k
noncomputable def der (mem : Mem) : V → Option P
  | .p d => some d
  | .c k => derM mem k
  | .t l => (l.mapM (derX mem)).map .tup

theorem derM_at {hb h : Heap} {Z α : List Addr} {mem : Mem} (me : Me prog w hb h Z α mem) {k : Nat} {d : P} (e : derM mem k = some d) {y : Value} (hy : ∃ a, α[k]? = some a ∧ y = .ref a) :
    ∃ a l vs, d = .lst l ∧ y = .ref a ∧ LstAt h a vs ∧ RPs h Z l vs := by
  obtain ⟨a, ha, rfl⟩ := hy
  unfold derM at e
  split at e
  · rename_i l hl
    obtain rfl := soK e
    obtain ⟨vs, x, y⟩ := me.here k a _ ha hl
    exact ⟨a, l, vs, rfl, rfl, x, y⟩
  · exact noK e
theorem derM_rp {hb h : Heap} {Z α : List Addr} {mem : Mem} (me : Me prog w hb h Z α mem) {k : Nat} {d : P} (e : derM mem k = some d) {y : Value} (hy : ∃ a, α[k]? = some a ∧ y = .ref a) : RP h [] d y := by
  obtain ⟨a, l, vs, rfl, rfl, x, z⟩ := derM_at me e hy
  exact ⟨a, vs, rfl, x, by simp, z.free⟩
theorem derP_lst {hb h : Heap} {Z α : List Addr} {mem : Mem} (me : Me prog w hb h Z α mem) {v : V} {l : List P} (e : derP mem v = some (.lst l)) {y : Value} (hy : RV h Z α v y) :
    ∃ a vs, y = .ref a ∧ LstAt h a vs ∧ RPs h Z l vs := by
  cases v with
  | p d =>
    obtain rfl := soK e
    simp only [RV, RP] at hy
    obtain ⟨a, vs, e, x, _, z⟩ := hy
    exact ⟨a, vs, e, x, z⟩
  | c k =>
    obtain ⟨a, l', vs, e1, e2, x, z⟩ := derM_at me e hy
    cases e1
    exact ⟨a, vs, e2, x, z⟩
  | t l => exact noK e
theorem derP_tup {hb h : Heap} {Z α : List Addr} {mem : Mem} (me : Me prog w hb h Z α mem) {v : V} {l : List P} (e : derP mem v = some (.tup l)) {y : Value} (hy : RV h Z α v y) :
    ∃ a vs, y = .ref a ∧ TupAt h a vs ∧ RPs h Z l vs := by
  cases v with
  | p d =>
    obtain rfl := soK e
    exact hy
  | c k =>
    obtain ⟨a, l', vs, e1, e2, x, z⟩ := derM_at me e hy
    cases e1
  | t l => exact noK e
theorem derP_rp {hb h : Heap} {Z α : List Addr} {mem : Mem} (me : Me prog w hb h Z α mem) {v : V} {d : P} (e : derP mem v = some d) {y : Value} (hy : RV h Z α v y) : RP h [] d y := by
  cases v with
  | p d' => obtain rfl := soK e; exact RP.free hy
  | c k => exact derM_rp me e hy
  | t l => exact noK e
theorem derTs {hb h : Heap} {Z α : List Addr} {mem : Mem} (me : Me prog w hb h Z α mem) : ∀ {l : List (P ⊕ Nat)} {ds : List P} {vs : List Value},
    (l.mapM (derX mem)) = some ds → RXs h Z α l vs → RPs h [] ds vs
  | [], ds, [], e, _ => by cases e; trivial
  | x :: l, ds, v :: vs, e, r => by
    refine mapM_consK e fun d ds' hx hl e => ?_
    subst e
    refine ⟨?_, derTs me hl r.2⟩
    cases x with
    | inl d' => obtain rfl := soK hx; exact RP.free r.1
    | inr k => exact derM_rp me hx r.1
  | [], _, _ :: _, _, r => r.elim
  | _ :: _, _, [], _, r => r.elim
theorem der_rp {hb h : Heap} {Z α : List Addr} {mem : Mem} (me : Me prog w hb h Z α mem) {v : V} {d : P} (e : der mem v = some d) {y : Value} (hy : RV h Z α v y) : RP h [] d y := by
  cases v with
  | p d' => obtain rfl := soK e; exact RP.free hy
  | c k => exact derM_rp me e hy
  | t l =>
    simp only [der] at e
    cases hl : (l.mapM (derX mem)) with
    | none => simp [hl] at e
    | some ds =>
      simp [hl] at e
      subst e
      obtain ⟨a, vs, rfl, t, r⟩ := hy
      exact ⟨a, vs, rfl, t, derTs me hl r⟩
end
end Mine
end
section
namespace Mine
section
variable {prog : Program} {w : World} {hb : Heap} {n : Nat} {sc : Scope} {nm : List Str}

noncomputable def b2i (b : Bool) : Int := if b then 1 else 0
noncomputable def smallI (a : Int) : Bool := decide (-(2 ^ 60) < a) && decide (a < 2 ^ 60)
noncomputable def int2 (f : Int → Int → Option P) (d e : P) : Option P := (intD d).bind fun a => (intD e).bind fun b => f a b
theorem int2K {h : Heap} {Z : List Addr} {d e r : P} {x y : Value} {f : Int → Int → Option P} {G : Value → Value → Prop} (hr : int2 f d e = some r) (rd : RP h Z d x) (re : RP h Z e y) (k : ∀ a b t u, f a b = some r → G (.int a t) (.int b u)) : G x y :=
  bindK hr fun a h1 hr => bindK hr fun b h2 hr => by
    obtain rfl := intD_at h1
    obtain rfl := intD_at h2
    obtain ⟨t, rfl⟩ := rd
    obtain ⟨u, rfl⟩ := re
    exact k a b t u hr
noncomputable def addP (d e : P) : Option P := match d with
  | .str a => (strD e).bind fun b => if a.length + b.length ≤ 2 ^ 20 then some (.str (a ++ b)) else none
  | .lst a => (lstD e).bind fun b => if a.length + b.length ≤ 2 ^ 20 then some (.lst (a ++ b)) else none
  | d => int2 (fun a b => some (.int (a + b))) d e
noncomputable def subP (d e : P) : Option P := match d with
  | .bool a => (boolD e).bind fun b => some (.int (b2i a - b2i b))
  | d => int2 (fun a b => some (.int (a - b))) d e
noncomputable def binP (op : Operator) (d e : P) : Option P := match op with
  | .Add => addP d e
  | .Sub => subP d e
  | .Mult => int2 (fun a b => if smallI a = true then some (.int (a * b)) else none) d e
  | .FloorDiv => int2 (fun a b => if (decide (0 < b) && decide (b < 2 ^ 20)) = true then some (.int (a.fdiv b)) else none) d e
  | .Mod => int2 (fun a b => if b ≠ 0 then some (.int (a.fmod b)) else none) d e
  | .BitAnd => int2 (fun a b => some (.int (Builtin.bitAnd a b))) d e
  | _ => none
noncomputable def xBin (op : Operator) (a b : XF) : XF := fun mem sl =>
  (a mem sl).bind fun x => (b mem sl).bind fun y => (derP mem x).bind fun d => (derP mem y).bind fun e => (binP op d e).map .p

theorem Me.fresh {h : Heap} {Z α : List Addr} {mem : Mem} (me : Me prog w hb h Z α mem) : h.objs.size ∉ Z := fun q => by
  obtain ⟨o, e⟩ := me.zin _ q
  exact absurd (Heap.lt_size e) (Nat.lt_irrefl _)
/- a new list of old items -/
theorem RP.newList {h : Heap} {Z α : List Addr} {mem : Mem} (me : Me prog w hb h Z α mem) {l : List P} {vs : List Value} (r : RPs h Z l vs) :
    RP (h.push { cls := .type "list", data := .seq vs.toArray }) Z (.lst l) (.ref h.objs.size) := by
  exact ⟨_, vs, rfl, ⟨_, Heap.get?_push_size _ rfl⟩, me.fresh, RPs.kp ((Kp.refl h).push _) l vs r⟩
theorem RP.newTup {h : Heap} {Z : List Addr} {l : List P} {vs : List Value} (r : RPs h Z l vs) :
    RP (h.push { cls := .type "tuple", data := .seq vs.toArray }) Z (.tup l) (.ref h.objs.size) := by
  exact ⟨_, vs, rfl, ⟨_, Heap.get?_push_size _ rfl⟩, RPs.kp ((Kp.refl h).push _) l vs r⟩
theorem stays_push {h : Heap} (x : hb.StaysIn h) (o : Obj) : hb.StaysIn (h.push o) := fun b q e => Heap.get?_push_of_some _ (x b q e)

theorem bin_sim {op : Operator} {h : Heap} {Z α : List Addr} {mem : Mem} {A : Around} {E : Value → Shared → Prop} {s : Shared} (me : Me prog w hb s.heap Z α mem) (hst : hb.StaysIn s.heap)
    {x y : V} {d e r : P} {a b : Value} (hx : RV s.heap Z α x a) (hy : RV s.heap Z α y b) (hd : derP mem x = some d) (he : derP mem y = some e) (hr : binP op d e = some r) {Q : Value → Shared → Prop}
    (hQ : ∀ y h' tk, RP h' Z r y → Kp s.heap h' → hb.StaysIn h' → Q y { s with heap := h', toks := tk }) : wpAny (model prog w) A (binaryOp op a b) Q E s := by
  have rd := derP_rp me hd hx
  have re := derP_rp me he hy
  have add0 : ∀ {d : P}, RP s.heap [] d a → int2 (fun a b => some (.int (a + b))) d e = some r → wpAny (model prog w) A (binaryOp .Add a b) Q E s := fun rd hr => int2K (G := fun a b => wpAny (model prog w) A (binaryOp .Add a b) Q E s) hr rd re fun a b t u hr => by
    obtain rfl := soK hr; exact add_int (hQ _ s.heap _ ⟨_, rfl⟩ (.refl _) hst)
  have sub0 : ∀ {d : P}, RP s.heap [] d a → int2 (fun a b => some (.int (a - b))) d e = some r → wpAny (model prog w) A (binaryOp .Sub a b) Q E s := fun rd hr => int2K (G := fun a b => wpAny (model prog w) A (binaryOp .Sub a b) Q E s) hr rd re fun a b t u hr => by
    obtain rfl := soK hr; exact sub_int (hQ _ s.heap _ ⟨_, rfl⟩ (.refl _) hst)
  cases op <;> first | (exact noK hr; done) | skip
  case Add =>
    cases d <;> first | exact add0 rd hr | skip
    · refine bindK hr fun y h2 hr => iteK hr fun hs e => ?_
      obtain rfl := strD_at h2
      subst e
      obtain ⟨t, rfl⟩ := rd
      obtain ⟨u, rfl⟩ := re
      exact PyProof.Rows.add_str (fun t' tk => hQ _ s.heap _ ⟨_, rfl⟩ (.refl _) hst) (by rw [sizeLine_eq]; exact Nat.le_trans hs (by decide))
    · refine bindK hr fun y h2 hr => iteK hr fun hs e => ?_
      obtain rfl := lstD_at h2
      subst e
      obtain ⟨a1, vs, rfl, ⟨n1, g1⟩, r1⟩ := derP_lst me hd hx
      obtain ⟨a2, ws, rfl, ⟨n2, g2⟩, r2⟩ := derP_lst me he hy
      refine _root_.PySem.P.add_list g1 g2 ?_ (by rw [List.size_toArray, List.size_toArray, ← r1.length, ← r2.length, sizeLine_eq]; exact Nat.le_trans hs (by decide))
      refine hQ _ _ s.toks ?_ ((Kp.refl _).push _) (stays_push hst _)
      rw [List.append_toArray]
      exact RP.newList me (r1.append r2)
  case Sub =>
    cases d <;> first | exact sub0 rd hr | skip
    refine bindK hr fun y h2 hr => ?_
    obtain rfl := boolD_at h2
    obtain rfl := soK hr
    obtain rfl := rd
    obtain rfl := re
    exact sub_bool (hQ _ s.heap _ ⟨_, rfl⟩ (.refl _) hst)
  case Mult =>
    refine int2K (G := fun a b => wpAny (model prog w) A (binaryOp .Mult a b) Q E s) hr rd re fun a b t u hr => iteK hr fun hs e => ?_
    subst e
    have h1 := Bool.and_eq_true_iff.mp hs
    have h2 := of_decide_eq_true h1.1
    have h3 := of_decide_eq_true h1.2
    exact PyProof.Rows.mul_int (hQ _ s.heap _ ⟨_, rfl⟩ (.refl _) hst) (IntMulOk.of_left (intBits_le_64 (Int.le_trans (by decide) (Int.le_of_lt h2)) (Int.lt_trans h3 (by decide))))
  case FloorDiv =>
    refine int2K (G := fun a b => wpAny (model prog w) A (binaryOp .FloorDiv a b) Q E s) hr rd re fun a b t u hr => iteK hr fun hs e => ?_
    subst e
    simp only [Bool.and_eq_true, decide_eq_true_eq] at hs
    exact floordiv_int (by omega) (hQ _ s.heap _ ⟨_, rfl⟩ (.refl _) hst) (.inl (PyProof.noPylong_small (by omega)))
  case Mod =>
    refine int2K (G := fun a b => wpAny (model prog w) A (binaryOp .Mod a b) Q E s) hr rd re fun a b t u hr => iteK hr fun hs e => ?_
    subst e
    exact mod_int' hs (hQ _ s.heap _ ⟨_, rfl⟩ (.refl _) hst)
  case BitAnd =>
    refine int2K (G := fun a b => wpAny (model prog w) A (binaryOp .BitAnd a b) Q E s) hr rd re fun a b t u hr => ?_
    obtain rfl := soK hr; exact and_int (hQ _ s.heap _ ⟨_, rfl⟩ (.refl _) hst)

theorem sim_bin {a b : Expr} {f g : XF} {pos : Pos} (op : Operator) (ha : SimE prog w hb n sc nm a f) (hb' : SimE prog w hb n sc nm b g) : SimE prog w hb n sc nm (.BinOp a op b pos) (xBin op f g) := by
  intro env Z α A s mem sl v Q E hsc rm st hf hQ
  refine bindK hf fun x hx hf => bindK hf fun y hy hf => bindK hf fun d hd hf => bindK hf fun e he hf => mapK hf fun r hr hf => ?_
  subst hf
  refine wpAny_BinOp (ha env Z α A s mem sl x _ _ hsc rm st hx fun a1 h1 t1 r1 k1 s1 => ?_)
  refine hb' env Z α A _ mem sl y _ _ hsc (rm.kp k1) (st.kp k1 s1) hy fun a2 h2 t2 r2 k2 s2 => ?_
  refine bin_sim (h := h2) (st.me.kp (k1.trans k2)) s2 (r1.kp k2) r2 hd he hr fun y3 h3 t3 r3 k3 s3 => ?_
  exact hQ y3 h3 t3 r3 ((k1.trans k2).trans k3) s3

noncomputable def intV : V → Option Int
  | .p d => intD d
  | _ => none
theorem intV_at {v : V} {a : Int} (h : intV v = some a) : v = .p (.int a) := by
  cases v with
  | p d => rw [intD_at h]
  | c _ => exact noK h
  | t _ => exact noK h
noncomputable def xNeg (a : XF) : XF := fun mem sl => (a mem sl).bind fun x => (intV x).map fun i => .p (.int (-i))
theorem sim_neg {a : Expr} {f : XF} {pos : Pos} (ha : SimE prog w hb n sc nm a f) : SimE prog w hb n sc nm (.UnaryOp .USub a pos) (xNeg f) := by
  intro env Z α A s mem sl v Q E hsc rm st hf hQ
  refine bindK hf fun x hx hf => mapK hf fun i hi hf => ?_
  subst hf
  show wpAny _ _ (do let v ← eval a env; standAt pos; holding [v] (unaryOp .USub v)) _ _ s
  refine wpAny_bind (ha env Z α A s mem sl _ _ _ hsc rm st hx fun a1 h1 t1 r1 k1 s1 => ?_)
  obtain rfl := intV_at hi
  obtain ⟨t, rfl⟩ := r1
  exact wpAny_bind (wpAny_standAt (wpAny_holding (PyProof.Rows.neg_int (hQ _ h1 _ ⟨_, rfl⟩ k1 s1))))
end
end Mine
end
section
open PySem.SeqAt
namespace Mine

theorem list_mapM {f : P → Option Bool} : ∀ {xs : List P} {bs : List Bool}, xs.mapM f = some bs → bs.length = xs.length ∧ ∀ (j : Nat) x, xs[j]? = some x → ∃ b, bs[j]? = some b ∧ f x = some b
  | [], bs, h => by cases h; exact ⟨rfl, fun j x e => noK e⟩
  | x :: xs, bs, h => mapM_consK h fun b bs' hf hr e => by
    subst e
    obtain ⟨e1, e2⟩ := list_mapM hr
    refine ⟨congrArg (· + 1) e1, fun j x' hx => ?_⟩
    cases j with
    | zero => cases hx; exact ⟨b, rfl, hf⟩
    | succ j => exact e2 j x' hx

open Classical in
/- the items of a list against one value: a test of values that tells what eqP tells -/
theorem eqs_of {n : Nat} {A : Around} {s : Shared} {l : List P} {dx : P} {bs : List Bool} (hm : l.mapM (fun d => eqP n d dx) = some bs) {vs : List Value} (r : RPs s.heap [] l vs) {x : Value} (rx : RP s.heap [] dx x)
    (hu : A.units + n + 1 < cLine) : ∃ e : Value → Bool, (∀ y, y ∈ vs → EqAt A.in1 s y x (e y)) ∧ vs.map e = bs := by
  obtain ⟨e1, e2⟩ := list_mapM hm
  have key : ∀ (j : Nat) v, vs[j]? = some v → ∃ b d, bs[j]? = some b ∧ RP s.heap [] d v ∧ eqP n d dx = some b := fun j v hv => by
    obtain ⟨d, h1, h2⟩ := r.get' hv
    obtain ⟨b, h3, h4⟩ := e2 j d h1
    exact ⟨b, d, h3, h2, h4⟩
  let e : Value → Bool := fun v => decide (∃ d, RP s.heap [] d v ∧ eqP n d dx = some true)
  have he : ∀ (j : Nat) v b, vs[j]? = some v → bs[j]? = some b → e v = b := fun j v b hv hb => by
    obtain ⟨b', d, h1, h2, h3⟩ := key j v hv
    rw [hb] at h1
    obtain rfl := soK h1
    cases b with
    | true => exact decide_eq_true ⟨d, h2, h3⟩
    | false =>
      refine decide_eq_false ?_
      rintro ⟨d', h2', h3'⟩
      rw [RP.inj d' d v h2' h2, h3] at h3'
      cases h3'
  refine ⟨e, fun y hy => ?_, ?_⟩
  · obtain ⟨j, hj, rfl⟩ := List.mem_iff_getElem.mp hy
    obtain ⟨b, d, h1, h2, h3⟩ := key j vs[j] (List.getElem?_eq_getElem hj)
    rw [he j vs[j] b (List.getElem?_eq_getElem hj) h1]
    exact (eqAt_P n d dx b A.in1 s _ _ h3 h2 rx (by simp only; omega)).1
  · have hl := r.length
    refine List.ext_getElem? fun j => ?_
    rw [List.getElem?_map]
    cases hv : vs[j]? with
    | none =>
      have : vs.length ≤ j := List.getElem?_eq_none_iff.mp hv
      have : bs[j]? = none := List.getElem?_eq_none_iff.mpr (by omega)
      rw [this]; rfl
    | some v =>
      obtain ⟨b, d, h1, h2, h3⟩ := key j v hv
      rw [h1]
      show some (e v) = some b
      rw [he j v b hv h1]

section
variable {prog : Program} {w : World} {hb : Heap} {n : Nat} {sc : Scope} {nm : List Str}

noncomputable def deep : Nat := 40
noncomputable def cellV : V → Option Nat
  | .c k => some k
  | _ => none
theorem cellV_at {x : V} {k : Nat} (h : cellV x = some k) : x = .c k := by
  cases x with
  | c k => rw [soK h]
  | p _ => exact noK h
  | t _ => exact noK h
noncomputable def cmpV (op : CmpOp) (mem : Mem) (x y : V) : Option Bool := match op with
  | .Eq => (der mem x).bind fun d => (der mem y).bind fun e => eqP deep d e
  | .NotEq => (der mem x).bind fun d => (der mem y).bind fun e => (eqP deep d e).map (!·)
  | .Lt => (derP mem x).bind fun d => (derP mem y).bind fun e => cmpP false deep d e
  | .Gt => (derP mem x).bind fun d => (derP mem y).bind fun e => cmpP true deep d e
  | .IsNot => (cellV x).bind fun k => (cellV y).bind fun j => if k = j then some false else none
  | .In => (derP mem x).bind fun d => (derP mem y).bind fun e => (lstD e).bind fun l => (l.mapM fun q => eqP deep q d).map fun bs => bs.any id
  | .NotIn => (derP mem x).bind fun d => (derP mem y).bind fun e => (lstD e).bind fun l => (l.mapM fun q => eqP deep q d).map fun bs => !bs.any id
  | _ => none
noncomputable def xCmp (op : CmpOp) (a b : XF) : XF := fun mem sl => (a mem sl).bind fun x => (b mem sl).bind fun y => (cmpV op mem x y).map fun r => .p (.bool r)

theorem any_of_map {e : Value → Bool} {vs : List Value} {bs : List Bool} (h : vs.map e = bs) : vs.toArray.any e = bs.any id := by
  subst h
  simp [List.any_map]

theorem cmp_sim {op : CmpOp} {Z α : List Addr} {mem : Mem} {A : Around} {E : Value → Shared → Prop} {s : Shared} (me : Me prog w hb s.heap Z α mem) (hu : A.units + 100 ≤ cLine)
    {x y : V} {r : Bool} {a b : Value} (hx : RV s.heap Z α x a) (hy : RV s.heap Z α y b) (hr : cmpV op mem x y = some r) {Q : Value → Shared → Prop}
    (hQ : Q (.bool r) s) : wpAny (model prog w) A (compareOp op a b) Q E s := by
  cases op with
  | Eq => exact bindK hr fun d hd hr => bindK hr fun e he hr => (eqAt_P deep d e r A s _ _ hr (der_rp me hd hx) (der_rp me he hy) (Nat.lt_of_lt_of_le (Nat.add_lt_add_left (by decide) _) hu)).2.1 prog w E Q hQ
  | NotEq => exact bindK hr fun d hd hr => bindK hr fun e he hr => mapK hr fun r' hr e9 => (eqAt_P deep d e r' A s _ _ hr (der_rp me hd hx) (der_rp me he hy) (Nat.lt_of_lt_of_le (Nat.add_lt_add_left (by decide) _) hu)).2.2 prog w E Q (e9.symm ▸ hQ)
  | Lt => exact bindK hr fun d hd hr => bindK hr fun e he hr => cmpAt_P false deep d e r A s _ _ hr (derP_rp me hd hx) (derP_rp me he hy) (Nat.lt_of_lt_of_le (Nat.add_lt_add_left (by decide) _) hu) prog w E Q hQ
  | Gt => exact bindK hr fun d hd hr => bindK hr fun e he hr => cmpAt_P true deep d e r A s _ _ hr (derP_rp me hd hx) (derP_rp me he hy) (Nat.lt_of_lt_of_le (Nat.add_lt_add_left (by decide) _) hu) prog w E Q hQ
  | IsNot =>
    refine bindK hr fun k h1 hr => bindK hr fun j h2 hr => iteK hr fun h3 hr => ?_
    subst hr h3
    obtain rfl := cellV_at h1
    obtain rfl := cellV_at h2
    obtain ⟨a1, e1, rfl⟩ := hx
    obtain ⟨a2, e2, rfl⟩ := hy
    obtain rfl := soK (e1.symm.trans e2)
    unfold compareOp
    refine wpAny_bind (m := isSame _ _) ?_
    show wpAny _ _ (if (a1 == a1) = true then pure true else _) _ _ s
    rw [if_pos (beq_self_eq_true a1)]
    exact wpAny_pure (wpAny_pure hQ)
  | In =>
    refine bindK hr fun d hd hr => bindK hr fun e he hr => bindK hr fun l hl hr => mapK hr fun bs hm e9 => ?_
    subst e9
    obtain rfl := lstD_at hl
    obtain ⟨a1, vs, rfl, l1, r1⟩ := derP_lst me he hy
    obtain ⟨e, he1, he2⟩ := eqs_of (n := deep) (A := A) hm r1.free (derP_rp me hd hx) (by simp only [deep]; omega)
    exact in_listAt e l1.isList (fun y hy => he1 y (Array.mem_toList_iff.mpr hy)) (by rw [any_of_map he2]; exact hQ)
  | NotIn =>
    refine bindK hr fun d hd hr => bindK hr fun e he hr => bindK hr fun l hl hr => mapK hr fun bs hm e9 => ?_
    subst e9
    obtain rfl := lstD_at hl
    obtain ⟨a1, vs, rfl, l1, r1⟩ := derP_lst me he hy
    obtain ⟨e, he1, he2⟩ := eqs_of (n := deep) (A := A) hm r1.free (derP_rp me hd hx) (by simp only [deep]; omega)
    exact notIn_listAt e l1.isList (fun y hy => he1 y (Array.mem_toList_iff.mpr hy)) (by rw [any_of_map he2]; exact hQ)
  | _ => exact noK hr

theorem sim_cmp {a b : Expr} {f g : XF} {pos : Pos} (op : CmpOp) (ha : SimE prog w hb n sc nm a f) (hb' : SimE prog w hb n sc nm b g) (hm : behindInMarks op b = false := by rfl) : SimE prog w hb n sc nm (.Compare a [op] [b] pos) (xCmp op f g) := by
  intro env Z α A s mem sl v Q E hsc rm st hf hQ
  refine bindK hf fun x hx hf => bindK hf fun y hy hf => mapK hf fun r hr hf => ?_
  subst hf
  refine wpAny_Compare1 (ha env Z α A s mem sl x _ _ hsc rm st hx fun a1 h1 t1 r1 k1 s1 => ?_) hm
  refine hb' env Z α A _ mem sl y _ _ hsc (rm.kp k1) (st.kp k1 s1) hy fun a2 h2 t2 r2 k2 s2 => ?_
  refine cmp_sim (st.me.kp (k1.trans k2)) (by have := rm.uni; omega) (r1.kp k2) r2 hr ?_
  exact hQ _ h2 t2 rfl (k1.trans k2) s2

/- a test -/
noncomputable abbrev TF := Mem → Slots → Option Bool
noncomputable def SimT (prog : Program) (w : World) (hb : Heap) (n : Nat) (sc : Scope) (nm : List Str) (e : Expr) (f : TF) : Prop :=
  ∀ (env : Env) (Z α : List Addr) (A : Around) (s : Shared) (mem : Mem) (sl : Slots) (v : Bool) (Q : Bool → Shared → Prop) (E : Value → Shared → Prop),
    env.scope = sc → Rm hb n A s.heap → St prog w hb env nm Z α mem sl s.heap → f mem sl = some v →
    (∀ h' tk, Kp s.heap h' → hb.StaysIn h' → Q v { s with heap := h', toks := tk }) →
    wpAny (model prog w) A (isTrue e env (eval e env)) Q E s

noncomputable def tCmp (op : CmpOp) (a b : XF) : TF := fun mem sl => (a mem sl).bind fun x => (b mem sl).bind fun y => cmpV op mem x y
theorem simT_cmp {a b : Expr} {f g : XF} {pos : Pos} (op : CmpOp) (ha : SimE prog w hb n sc nm a f) (hb' : SimE prog w hb n sc nm b g) (hm : behindInMarks op b = false := by rfl) : SimT prog w hb n sc nm (.Compare a [op] [b] pos) (tCmp op f g) := by
  intro env Z α A s mem sl r Q E hsc rm st hf hQ
  refine bindK hf fun x hx hf => bindK hf fun y hy hr => wpAny_isTrue_Compare1 (ha env Z α A s mem sl x _ _ hsc rm st hx fun a1 h1 t1 r1 k1 s1 => ?_) hm
  refine hb' env Z α A _ mem sl y _ _ hsc (rm.kp k1) (st.kp k1 s1) hy fun a2 h2 t2 r2 k2 s2 => ?_
  refine cmp_sim (st.me.kp (k1.trans k2)) (by have := rm.uni; omega) (r1.kp k2) r2 hr ?_
  exact wpAny_truthy_bool (hQ h2 t2 (k1.trans k2) s2)

noncomputable def tNot (a : TF) : TF := fun mem sl => (a mem sl).map (!·)
theorem simT_not {a : Expr} {f : TF} {pos : Pos} (ha : SimT prog w hb n sc nm a f) : SimT prog w hb n sc nm (.UnaryOp .Not a pos) (tNot f) := by
  intro env Z α A s mem sl r Q E hsc rm st hf hQ
  refine mapK hf fun b hb1 hf => ?_
  subst hf
  show wpAny _ _ (do return !(← isTrue a env (eval a env))) _ _ s
  exact wpAny_bind (ha env Z α A s mem sl b _ _ hsc rm st hb1 fun h1 t1 k1 s1 => wpAny_pure (hQ h1 t1 k1 s1))

noncomputable def tAnd (a b : TF) : TF := fun mem sl => (a mem sl).bind fun x => if x = true then b mem sl else some false
noncomputable def tOr (a b : TF) : TF := fun mem sl => (a mem sl).bind fun x => if x = true then some true else b mem sl
/- and | or over a list of tests -/
noncomputable def SimTs (prog : Program) (w : World) (hb : Heap) (n : Nat) (sc : Scope) (nm : List Str) (op : BoolOp) (es : List Expr) (f : TF) : Prop :=
  ∀ (env : Env) (Z α : List Addr) (A : Around) (s : Shared) (mem : Mem) (sl : Slots) (v : Bool) (Q : Bool → Shared → Prop) (E : Value → Shared → Prop),
    env.scope = sc → Rm hb n A s.heap → St prog w hb env nm Z α mem sl s.heap → f mem sl = some v →
    (∀ h' tk, Kp s.heap h' → hb.StaysIn h' → Q v { s with heap := h', toks := tk }) →
    wpAny (model prog w) A (allTrue op es env) Q E s
theorem simTs_one {op : BoolOp} {a : Expr} {f : TF} (ha : SimT prog w hb n sc nm a f) : SimTs prog w hb n sc nm op [a] f := by
  intro env Z α A s mem sl r Q E hsc rm st hf hQ
  show wpAny _ _ (do match op, ← isTrue a env (eval a env) with | .And, false => pure false | .Or, true => pure true | _, _ => allTrue op [] env) _ _ s
  refine wpAny_bind (ha env Z α A s mem sl r _ _ hsc rm st hf fun h1 t1 k1 s1 => ?_)
  cases op <;> cases r <;> exact wpAny_pure (hQ h1 t1 k1 s1)
theorem simTs_and {a : Expr} {rest : List Expr} {f g : TF} (ha : SimT prog w hb n sc nm a f) (hr : SimTs prog w hb n sc nm .And rest g) : SimTs prog w hb n sc nm .And (a :: rest) (tAnd f g) := by
  intro env Z α A s mem sl r Q E hsc rm st hf hQ
  refine bindK hf fun b hb1 hr1 => ?_
  show wpAny _ _ (do match BoolOp.And, ← isTrue a env (eval a env) with | .And, false => pure false | .Or, true => pure true | _, _ => allTrue .And rest env) _ _ s
  refine wpAny_bind (ha env Z α A s mem sl b _ _ hsc rm st hb1 fun h1 t1 k1 s1 => ?_)
  cases b with
  | false => obtain rfl := soK hr1; exact wpAny_pure (hQ h1 t1 k1 s1)
  | true =>
    exact hr env Z α A _ mem sl r _ _ hsc (rm.kp k1) (st.kp k1 s1) hr1 fun h2 t2 k2 s2 => hQ h2 t2 (k1.trans k2) s2
theorem simTs_or {a : Expr} {rest : List Expr} {f g : TF} (ha : SimT prog w hb n sc nm a f) (hr : SimTs prog w hb n sc nm .Or rest g) : SimTs prog w hb n sc nm .Or (a :: rest) (tOr f g) := by
  intro env Z α A s mem sl r Q E hsc rm st hf hQ
  refine bindK hf fun b hb1 hr1 => ?_
  show wpAny _ _ (do match BoolOp.Or, ← isTrue a env (eval a env) with | .And, false => pure false | .Or, true => pure true | _, _ => allTrue .Or rest env) _ _ s
  refine wpAny_bind (ha env Z α A s mem sl b _ _ hsc rm st hb1 fun h1 t1 k1 s1 => ?_)
  cases b with
  | true => obtain rfl := soK hr1; exact wpAny_pure (hQ h1 t1 k1 s1)
  | false =>
    exact hr env Z α A _ mem sl r _ _ hsc (rm.kp k1) (st.kp k1 s1) hr1 fun h2 t2 k2 s2 => hQ h2 t2 (k1.trans k2) s2
theorem simT_bool {op : BoolOp} {es : List Expr} {f : TF} {pos : Pos} (h : SimTs prog w hb n sc nm op es f) : SimT prog w hb n sc nm (.BoolOp op es pos) f := h

end
end Mine
end
section
namespace Mine
section
variable {prog : Program} {w : World} {hb : Heap} {n : Nat} {sc : Scope} {nm : List Str}

noncomputable def lenOk (k : Nat) : Bool := decide (k ≤ 2 ^ 20)
noncomputable def truV (mem : Mem) (v : V) : Option Bool := (derP mem v).bind fun d => match d with
  | .bool b => some b
  | .int i => some (i != 0)
  | .str x => if lenOk x.length then some ((x.length : Int) != 0) else none
  | .lst l => if lenOk l.length then some (!l.isEmpty) else none
  | .tup l => if lenOk l.length then some (!l.isEmpty) else none
  | _ => none
theorem tru_sim {Z α : List Addr} {mem : Mem} {A : Around} {E : Value → Shared → Prop} {s : Shared} (me : Me prog w hb s.heap Z α mem)
    {x : V} {r : Bool} {a : Value} (hx : RV s.heap Z α x a) (hr : truV mem x = some r) {Q : Bool → Shared → Prop}
    (hQ : ∀ tk, Q r { s with toks := tk }) : wpAny (model prog w) A (truthy a) Q E s := by
  simp only [truV, Option.bind_eq_some_iff] at hr
  obtain ⟨d, hd, hr⟩ := hr
  have rd := derP_rp me hd hx
  cases d <;> simp only [reduceCtorEq] at hr
  · obtain rfl := soK hr
    simp only [RP] at rd
    subst rd
    exact wpAny_truthy_bool (hQ s.toks)
  · obtain rfl := soK hr
    simp only [RP] at rd
    obtain ⟨t, rfl⟩ := rd
    exact PyProof.Rows.truthy_int (hQ s.toks)
  · split at hr
    · rename_i hs
      obtain rfl := soK hr
      simp only [RP] at rd
      obtain ⟨t, rfl⟩ := rd
      simp only [lenOk, decide_eq_true_eq] at hs
      exact _root_.PySem.P.truthy_str (by omega) (hQ _)
    · exact noK hr
  · split at hr
    · rename_i hs
      cases hr
      obtain ⟨a1, vs, rfl, l1, r1⟩ := derP_tup me hd hx
      have e := r1.length
      simp only [lenOk, decide_eq_true_eq] at hs
      refine truthy_tuple l1.isTup (by simp only [List.size_toArray]; omega) ?_
      rename_i l
      have e2 : vs.isEmpty = l.isEmpty := by
        cases vs <;> cases l <;> simp_all
      simp only [List.isEmpty_toArray, e2]
      exact hQ _
    · exact noK hr
  · split at hr
    · rename_i hs
      cases hr
      obtain ⟨a1, vs, rfl, l1, r1⟩ := derP_lst me hd hx
      have e := r1.length
      simp only [lenOk, decide_eq_true_eq] at hs
      refine wpAny_truthy_list l1.isList (by simp only [List.size_toArray]; omega) ?_
      rename_i l
      have e2 : vs.isEmpty = l.isEmpty := by
        cases vs <;> cases l <;> simp_all
      simp only [List.isEmpty_toArray, e2]
      exact hQ _
    · exact noK hr

noncomputable def plainTest : Expr → Bool
  | .UnaryOp .Not _ _ => false
  | .BoolOp _ _ _ => false
  | .IfExp _ _ _ _ => false
  | .Compare _ _ _ _ => false
  | _ => true
theorem isTrue_of_plain {e : Expr} {env : Env} {whole : Sem Value} (h : plainTest e = true) : isTrue e env whole = (do let v ← whole; standAt e.pos; holding [v] (truthy v)) := by
  cases e <;> first | rfl | skip
  all_goals first | (cases h; done) | skip
  rename_i op x p
  cases op <;> first | rfl | cases h

noncomputable def tX (f : XF) : TF := fun mem sl => (f mem sl).bind (truV mem)
theorem simT_x {a : Expr} {f : XF} (ha : SimE prog w hb n sc nm a f) (hp : plainTest a = true := by rfl) : SimT prog w hb n sc nm a (tX f) := by
  intro env Z α A s mem sl r Q E hsc rm st hf hQ
  simp only [tX, Option.bind_eq_some_iff] at hf
  obtain ⟨x, hx, hr⟩ := hf
  rw [isTrue_of_plain hp]
  refine wpAny_bind (ha env Z α A s mem sl x _ _ hsc rm st hx fun a1 h1 t1 r1 k1 s1 => ?_)
  refine wpAny_bind (wpAny_standAt (wpAny_holding (tru_sim (st.me.kp k1) r1 hr fun tk => ?_)))
  exact hQ h1 tk k1 s1

noncomputable def xIf (t : TF) (a b : XF) : XF := fun mem sl => (t mem sl).bind fun c => if c = true then a mem sl else b mem sl
theorem sim_if {t a b : Expr} {f : TF} {g h : XF} {pos : Pos} (ht : SimT prog w hb n sc nm t f) (ha : SimE prog w hb n sc nm a g) (hb' : SimE prog w hb n sc nm b h) : SimE prog w hb n sc nm (.IfExp t a b pos) (xIf f g h) := by
  intro env Z α A s mem sl v Q E hsc rm st hf hQ
  simp only [xIf, Option.bind_eq_some_iff] at hf
  obtain ⟨c, hc, hr⟩ := hf
  show wpAny _ _ (do if ← isTrue t env (eval t env) then eval a env else eval b env) _ _ s
  refine wpAny_bind (ht env Z α A s mem sl c _ _ hsc rm st hc fun h1 t1 k1 s1 => ?_)
  cases c with
  | true =>
    simp only [if_true] at hr ⊢
    exact ha env Z α A _ mem sl v _ _ hsc (rm.kp k1) (st.kp k1 s1) hr fun a2 h2 t2 r2 k2 s2 => hQ a2 h2 t2 r2 (k1.trans k2) s2
  | false =>
    simp only [Bool.false_eq_true, if_false] at hr ⊢
    exact hb' env Z α A _ mem sl v _ _ hsc (rm.kp k1) (st.kp k1 s1) hr fun a2 h2 t2 r2 k2 s2 => hQ a2 h2 t2 r2 (k1.trans k2) s2

/- several expressions, none starred -/
noncomputable abbrev XFs := Mem → Slots → Option (List V)
noncomputable def RVs (h : Heap) (Z α : List Addr) : List V → List Value → Prop
  | [], [] => True
  | d :: l, v :: vs => RV h Z α d v ∧ RVs h Z α l vs
  | _, _ => False
theorem RVs.kp {h h' : Heap} (k : Kp h h') {Z α : List Addr} : ∀ {l : List V} {vs : List Value}, RVs h Z α l vs → RVs h' Z α l vs
  | [], [], _ => trivial
  | _ :: _, _ :: _, x => ⟨x.1.kp k, RVs.kp k x.2⟩
  | [], _ :: _, x => x.elim
  | _ :: _, [], x => x.elim
theorem RVs.nilK {h : Heap} {Z α : List Addr} {ys : List Value} {G : List Value → Prop} (r : RVs h Z α [] ys) (k : G []) : G ys := by
  cases ys with
  | nil => exact k
  | cons y ys => exact r.elim
theorem RVs.consK {h : Heap} {Z α : List Addr} {d : V} {l : List V} {ys : List Value} {G : List Value → Prop} (r : RVs h Z α (d :: l) ys) (k : ∀ y ys, RV h Z α d y → RVs h Z α l ys → G (y :: ys)) : G ys := by
  cases ys with
  | nil => exact r.elim
  | cons y ys => exact k y ys r.1 r.2
theorem RVs.length {h : Heap} {Z α : List Addr} : ∀ {l : List V} {vs : List Value}, RVs h Z α l vs → l.length = vs.length
  | [], [], _ => rfl
  | _ :: _, _ :: _, x => by simp [RVs.length x.2]
  | [], _ :: _, x => x.elim
  | _ :: _, [], x => x.elim
noncomputable def SimEs (prog : Program) (w : World) (hb : Heap) (n : Nat) (sc : Scope) (nm : List Str) (es : List Expr) (f : XFs) : Prop :=
  ∀ (env : Env) (Z α : List Addr) (A : Around) (s : Shared) (mem : Mem) (sl : Slots) (v : List V) (Q : List Value → Shared → Prop) (E : Value → Shared → Prop) (pos : Pos),
    env.scope = sc → Rm hb n A s.heap → St prog w hb env nm Z α mem sl s.heap → f mem sl = some v →
    (∀ ys h' tk, RVs h' Z α v ys → Kp s.heap h' → hb.StaysIn h' → Q ys { s with heap := h', toks := tk }) →
    wpAny (model prog w) A (spliced (backTo pos (starEach es env))) Q E s
noncomputable def noStar : Expr → Bool
  | .Starred _ _ => false
  | _ => true
theorem starEach_cons {e : Expr} {rest : List Expr} {env : Env} (h : noStar e = true) : starEach (e :: rest) env = (false, eval e env) :: starEach rest env := by
  cases e <;> first | rfl | cases h
noncomputable def xNil : XFs := fun _ _ => some []
noncomputable def xCons (f : XF) (g : XFs) : XFs := fun mem sl => (f mem sl).bind fun x => (g mem sl).map fun xs => x :: xs
theorem sims_nil : SimEs prog w hb n sc nm [] xNil := by
  intro env Z α A s mem sl v Q E pos hsc rm st hf hQ
  obtain rfl := soK hf
  exact wpAny_pure (hQ [] s.heap s.toks trivial (.refl _) st.stays)
theorem sims_cons {e : Expr} {rest : List Expr} {f : XF} {g : XFs} (he : SimE prog w hb n sc nm e f) (hr : SimEs prog w hb n sc nm rest g) (hn : noStar e = true := by rfl) : SimEs prog w hb n sc nm (e :: rest) (xCons f g) := by
  intro env Z α A s mem sl v Q E pos hsc rm st hf hQ
  simp only [xCons, Option.bind_eq_some_iff, Option.map_eq_some_iff] at hf
  obtain ⟨x, hx, xs, hxs, rfl⟩ := hf
  rw [starEach_cons hn]
  show wpAny _ _ (spliced ((false, eval e env) :: backTo pos (starEach rest env))) _ _ s
  unfold spliced
  refine wpAny_bind (he env Z α A s mem sl x _ _ hsc rm st hx fun a1 h1 t1 r1 k1 s1 => ?_)
  simp only [Bool.false_eq_true, if_false]
  refine wpAny_bind (wpAny_pure (wpAny_bind (wpAny_holding ?_)))
  refine hr env Z α A _ mem sl xs _ _ pos hsc (rm.kp k1) (st.kp k1 s1) hxs fun ys h2 t2 r2 k2 s2 => ?_
  exact wpAny_pure (hQ (a1 :: ys) h2 t2 ⟨r1.kp k2, r2⟩ (k1.trans k2) s2)

noncomputable def datV : V → Option P
  | .p d => some d
  | _ => none
theorem datV_at {x : V} {d : P} (h : datV x = some d) : x = .p d := by
  cases x with
  | p k => rw [soK h]
  | c _ => exact noK h
  | t _ => exact noK h
noncomputable def allP (l : List V) : Option (List P) := l.mapM datV
theorem allP_get {l : List V} {ds : List P} (h : allP l = some ds) : l = ds.map .p := mapM_map datV_at h
theorem RVs.ps {h : Heap} {Z α : List Addr} : ∀ {ds : List P} {vs : List Value}, RVs h Z α (ds.map .p) vs → RPs h Z ds vs
  | [], [], _ => trivial
  | _ :: _, _ :: _, r => ⟨r.1, RVs.ps r.2⟩
  | [], _ :: _, r => r.elim
  | _ :: _, [], r => r.elim
theorem allP_rp {h : Heap} {Z α : List Addr} {l : List V} {ds : List P} {vs : List Value} (e : allP l = some ds) (r : RVs h Z α l vs) : RPs h Z ds vs := (allP_get e ▸ r).ps
noncomputable def xList (f : XFs) : XF := fun mem sl => (f mem sl).bind fun l => (allP l).bind fun ds => if lenOk ds.length then some (.p (.lst ds)) else none
theorem sim_list {es : List Expr} {f : XFs} {pos : Pos} (h : SimEs prog w hb n sc nm es f) : SimE prog w hb n sc nm (.List es pos) (xList f) := by
  intro env Z α A s mem sl v Q E hsc rm st hf hQ
  simp only [xList, Option.bind_eq_some_iff] at hf
  obtain ⟨l, hl, ds, hd, hr⟩ := hf
  split at hr
  · rename_i hs
    obtain rfl := soK hr
    simp only [lenOk, decide_eq_true_eq] at hs
    refine List_ (h env Z α A s mem sl l _ _ pos hsc rm st hl fun ys h1 t1 r1 k1 s1 => ?_)
    have rp := allP_rp hd r1
    have e := rp.length
    refine wpAny_newList ?_ (by rw [sizeLine_eq]; omega)
    exact hQ _ _ t1 (RP.newList (st.me.kp k1) rp) (k1.push _) (stays_push s1 _)
  · exact noK hr

noncomputable def toX : V → Option (P ⊕ Nat)
  | .p d => some (.inl d)
  | .c k => some (.inr k)
  | .t _ => none
theorem toX_rx {h : Heap} {Z α : List Addr} : ∀ {l : List V} {ds : List (P ⊕ Nat)} {vs : List Value}, l.mapM toX = some ds → RVs h Z α l vs → RXs h Z α ds vs
  | [], ds, [], e, _ => by cases e; trivial
  | x :: l, ds, v :: vs, e, r => mapM_consK e fun d ds' hx hl e => by
    subst e
    refine ⟨?_, toX_rx hl r.2⟩
    cases x with
    | p d => obtain rfl := soK hx; exact r.1
    | c k => obtain rfl := soK hx; exact r.1
    | t k => exact noK hx
  | [], _, _ :: _, _, r => r.elim
  | _ :: _, _, [], _, r => r.elim
noncomputable def tupV (l : List V) : Option V := match allP l with
  | some ds => if lenOk ds.length then some (.p (.tup ds)) else none
  | none => (l.mapM toX).bind fun ds => if lenOk ds.length then some (.t ds) else none
noncomputable def xTup (f : XFs) : XF := fun mem sl => (f mem sl).bind tupV
theorem RXs.length {h : Heap} {Z α : List Addr} : ∀ {l : List (P ⊕ Nat)} {vs : List Value}, RXs h Z α l vs → l.length = vs.length
  | [], [], _ => rfl
  | _ :: _, _ :: _, x => by simp [RXs.length x.2]
  | [], _ :: _, x => x.elim
  | _ :: _, [], x => x.elim
theorem sim_tup {es : List Expr} {f : XFs} {k : Nat} {pos : Pos} (h : SimEs prog w hb n sc nm es f) : SimE prog w hb n sc nm (.Tuple es k pos) (xTup f) := by
  intro env Z α A s mem sl v Q E hsc rm st hf hQ
  simp only [xTup, Option.bind_eq_some_iff] at hf
  obtain ⟨l, hl, hr⟩ := hf
  refine Tuple_ (h env Z α A s mem sl l _ _ pos hsc rm st hl fun ys h1 t1 r1 k1 s1 => ?_)
  unfold tupV at hr
  split at hr
  · rename_i ds hd
    split at hr
    · rename_i hs
      obtain rfl := soK hr
      simp only [lenOk, decide_eq_true_eq] at hs
      have rp := allP_rp hd r1
      have e := rp.length
      refine wpAny_newTuple ?_ (by rw [sizeLine_eq]; omega)
      exact hQ _ _ t1 (RP.newTup rp) (k1.push _) (stays_push s1 _)
    · exact noK hr
  · simp only [Option.bind_eq_some_iff] at hr
    obtain ⟨ds, hd, hr⟩ := hr
    split at hr
    · rename_i hs
      obtain rfl := soK hr
      simp only [lenOk, decide_eq_true_eq] at hs
      have rp := toX_rx hd r1
      have e := rp.length
      refine wpAny_newTuple ?_ (by rw [sizeLine_eq]; omega)
      refine hQ _ _ t1 ?_ (k1.push _) (stays_push s1 _)
      exact ⟨_, ys, rfl, ⟨_, Heap.get?_push_size _ rfl⟩, rp.kp ((Kp.refl h1).push _)⟩
    · exact noK hr
end
end Mine
end
section
open PySem.W
namespace Mine
section
variable {prog : Program} {w : World} {hb : Heap} {n : Nat} {sc : Scope} {nm : List Str}

/- a global name: what it gives, whatever frame asks -/
structure GN (hb : Heap) (x : Str) (fv : Value) : Prop where
  load : ∀ (M : Model) (A : Around) (E : Value → Shared → Prop) (s : Shared) (env : Env) (Q : Value → Shared → Prop), env.globals = mainGlobals → env.builtins = builtinsNs → hb.StaysIn s.heap → Q fv s → wpAny M A (loadGlobal env x) Q E s
  dbg : (x == ("__debug__" : Str)) = false
/- what is called is kept by a frame or by the machine -/
noncomputable def Keeps1 (hb : Heap) (fv : Value) : Prop := ∀ (M : Model) (h : Heap), hb.StaysIn h → ∃ k, (k = Keeper.frame ∨ k = Keeper.machine ∨ k = Keeper.boundFrame) ∧ Looks M h (keeperOf fv) k
theorem keeps1_builtin (id : String) : Keeps1 hb (.builtin id) := fun _ _ _ => ⟨.machine, .inr (.inl rfl), Looks.of_pure rfl⟩
theorem keeps1_type (T : String) : Keeps1 hb (.type T) := fun _ _ _ => ⟨.machine, .inr (.inl rfl), Looks.of_pure rfl⟩
theorem keeps1_fn {f : Addr} {o : Obj} {fd : FuncData} (ho : hb.get? f = some o) (hd : o.data = .func fd) : Keeps1 hb (.ref f) := fun M h hs => by
  refine ⟨.frame, .inl rfl, (Looks.ld (part := none) (hs _ _ ho)).andThen ?_⟩
  rw [hd]
  exact .now

theorem name_global {x : Str} {fv : Value} (G : GN hb x fv) {p : Pos} {env : Env} {A : Around} {E : Value → Shared → Prop} {s : Shared} {M : Model} {Q : Value → Shared → Prop} (hk : env.scope.kind = .function) (hg : env.globals = mainGlobals) (hbl : env.builtins = builtinsNs)
    (hx : env.scope.names.lookup x = some .globalImplicit) (hs : hb.StaysIn s.heap) (h : Q fv s) : wpAny M A (eval (.Name x p) env) Q E s :=
  Name_function_global hk hx (G.load M A E s env Q hg hbl hs h) G.dbg

theorem sim_glob {x : Str} {fv : Value} {p : Pos} (d : P) (G : GN hb x fv) (hd : ∀ Z, RP hb Z d fv) (hx : sc.names.lookup x = some .globalImplicit := by decide +kernel) : SimE prog w hb n sc nm (.Name x p) (xK d) := by
  intro env Z α A s mem sl v Q E hsc rm st hf hQ
  obtain rfl := soK hf
  subst hsc
  exact name_global G st.fm.kind st.fm.glob st.fm.blt hx st.stays (hQ fv s.heap s.toks (RP.kp (Kp.of st.stays) d fv (hd Z)) (.refl _) st.stays)

theorem plain_backTo {es : List Expr} (h : es.all noStar = true) (pos : Pos) (env : Env) : (backTo pos (starEach es env)).any (·.1) = false := by
  induction es with
  | nil => rfl
  | cons e r ih =>
    simp only [List.all_cons, Bool.and_eq_true] at h
    rw [starEach_cons h.1]
    show (false || (backTo pos (starEach r env)).any (·.1)) = false
    rw [ih h.2]; rfl

/- the call of a global by its name, its arguments told -/
theorem call_global {x : Str} {fv : Value} {p pos : Pos} {e : Expr} {r : List Expr} {f : XFs} (G : GN hb x fv) (K : Keeps1 hb fv) (ha : SimEs prog w hb n sc nm (e :: r) f) (hp : (e :: r).all noStar = true) (hx : sc.names.lookup x = some .globalImplicit)
    {env : Env} {Z α : List Addr} {A : Around} {s : Shared} {mem : Mem} {sl : Slots} {vs : List V} {Q E : Value → Shared → Prop} (hsc : env.scope = sc) (rm : Rm hb n A s.heap) (st : St prog w hb env nm Z α mem sl s.heap) (hf : f mem sl = some vs)
    (hQ : ∀ ys h' tk, RVs h' Z α vs ys → Kp s.heap h' → hb.StaysIn h' → wpAny (model prog w) A (call fv ys) Q E { s with heap := h', toks := tk }) :
    wpAny (model prog w) A (eval (.Call (.Name x p) (e :: r) [] pos) env) Q E s := by
  subst hsc
  refine Call_Name rfl (name_global G st.fm.kind st.fm.glob st.fm.blt hx st.stays ?_)
  refine callWith_of (P := fun h => hb.StaysIn h) (by rw [plain_backTo hp]; rfl) (K (model prog w)) ?_
  have hp' := hp
  simp only [List.all_cons, Bool.and_eq_true] at hp'
  have hs := ha env Z α A s mem sl vs (fun ys s₁ => hb.StaysIn s₁.heap ∧ wpAny (model prog w) A (call fv ([] ++ ys)) Q E s₁) E pos rfl rm st hf fun ys h1 t1 r1 k1 s1 => ⟨s1, hQ ys h1 t1 r1 k1 s1⟩
  rw [starEach_cons hp'.1] at hs ⊢
  exact evalArgs_plain hs

/- what a built-in gives -/
noncomputable def BiSem (prog : Program) (w : World) (hb : Heap) (n : Nat) (fv : Value) (sem : Mem → List V → Option V) : Prop :=
  ∀ (Z α : List Addr) (A : Around) (s : Shared) (mem : Mem) (vs : List V) (v : V) (ys : List Value) (Q E : Value → Shared → Prop),
    Rm hb n A s.heap → Me prog w hb s.heap Z α mem → hb.StaysIn s.heap → RVs s.heap Z α vs ys → sem mem vs = some v →
    (∀ y h' tk, RV h' Z α v y → Kp s.heap h' → hb.StaysIn h' → Q y { s with heap := h', toks := tk }) → wpAny (model prog w) A (call fv ys) Q E s
noncomputable def xCall (sem : Mem → List V → Option V) (f : XFs) : XF := fun mem sl => (f mem sl).bind (sem mem)
theorem sim_bi {x : Str} {fv : Value} {p pos : Pos} {e : Expr} {r : List Expr} {f : XFs} {sem : Mem → List V → Option V} (G : GN hb x fv) (K : Keeps1 hb fv) (B : BiSem prog w hb n fv sem) (ha : SimEs prog w hb n sc nm (e :: r) f)
    (hp : (e :: r).all noStar = true := by rfl) (hx : sc.names.lookup x = some .globalImplicit := by decide +kernel) : SimE prog w hb n sc nm (.Call (.Name x p) (e :: r) [] pos) (xCall sem f) := by
  intro env Z α A s mem sl v Q E hsc rm st hf hQ
  simp only [xCall, Option.bind_eq_some_iff] at hf
  obtain ⟨vs, hvs, hr⟩ := hf
  refine call_global G K ha hp hx hsc rm st hvs fun ys h1 t1 r1 k1 s1 => ?_
  refine B Z α A _ mem vs v ys Q E (rm.kp k1) (st.me.kp k1) s1 r1 hr fun y h2 t2 r2 k2 s2 => ?_
  exact hQ y h2 t2 r2 (k1.trans k2) s2

end
end Mine
end
section
open PySem.W
namespace Mine
section
variable {prog : Program} {w : World} {hb : Heap} {n : Nat} {sc : Scope} {nm : List Str}

/- the receiver's kind -/
noncomputable def isT (T : String) (mem : Mem) (v : V) : Bool := match derP mem v with
  | some (.str _) => T == "str"
  | some (.lst _) => T == "list"
  | _ => false
theorem isT_at {T : String} {Z α : List Addr} {mem : Mem} {s : Shared} (me : Me prog w hb s.heap Z α mem) {v : V} {y : Value} (h : isT T mem v = true) (hy : RV s.heap Z α v y) :
    s.TypeIs y T ∧ PlainAttrs T ∧ ∀ a, y = .ref a → ∃ o, s.heap.get? a = some o ∧ o.dict = none := by
  unfold isT at h
  split at h
  · rename_i x hd
    obtain rfl := beq_iff_eq.mp h
    have := derP_rp me hd hy
    simp only [RP] at this
    obtain ⟨t, rfl⟩ := this
    exact ⟨typeIs_str s x t, F.plainAttrs_str, fun a e => by cases e⟩
  · rename_i l hd
    obtain rfl := beq_iff_eq.mp h
    obtain ⟨a, vs, rfl, la, _⟩ := derP_lst me hd hy
    refine ⟨la.typeIs, F.plainAttrs_list, fun a e => ?_⟩
    cases e
    obtain ⟨k, g⟩ := la
    exact ⟨_, g, rfl⟩
  · cases h

noncomputable def xMeth (T : String) (sem : Mem → List V → Option V) (f : XF) (g : XFs) : XF := fun mem sl => (f mem sl).bind fun self => if isT T mem self = true then (g mem sl).bind fun vs => sem mem (self :: vs) else none
theorem sim_meth {T id : String} {o e : Expr} {r : List Expr} {name : Str} {apos pos : Pos} {f : XF} {g : XFs} {sem : Mem → List V → Option V} {pl : Env → Sem Bool} (slot : Slot T name id) (hty : typeOf (.builtin id) = pure (.type "method_descriptor"))
    (B : BiSem prog w hb n (.builtin id) sem) (ho : SimE prog w hb n sc nm o f) (ha : SimEs prog w hb n sc nm (e :: r) g) (hp : (e :: r).all noStar = true := by rfl)
    (he : ∀ env : Env, eval (.Call (.Attribute o name apos) (e :: r) [] pos) env = (do
      let ov ← eval o env
      standAt apos.atName
      let (f, first) ← holding [ov] (getMethod ov name (pl env))
      callWith pos f first (backTo pos (starEach (e :: r) env)) []) := by intro _; rfl) :
    SimE prog w hb n sc nm (.Call (.Attribute o name apos) (e :: r) [] pos) (xMeth T sem f g) := by
  intro env Z α A s mem sl v Q E hsc rm st hf hQ
  simp only [xMeth, Option.bind_eq_some_iff] at hf
  obtain ⟨self, hself, hf⟩ := hf
  split at hf
  · rename_i hT
    simp only [Option.bind_eq_some_iff] at hf
    obtain ⟨vs, hvs, hr⟩ := hf
    refine MethodCall_ (pl := pl env) (ho env Z α A s mem sl self _ _ hsc rm st hself fun a1 h1 t1 r1 k1 s1 => ?_) (he env)
    obtain ⟨hty1, pa, hnd⟩ := isT_at (s := { s with heap := h1, toks := t1 }) (st.me.kp k1) hT r1
    refine getMethod_builtin hty1 pa slot hty hnd ?_
    refine callWith_builtin (plain_backTo hp _ _) ?_
    have hp' := hp
    simp only [List.all_cons, Bool.and_eq_true] at hp'
    have hs := ha env Z α A { s with heap := h1, toks := t1 } mem sl vs (fun ys s₂ => wpAny (model prog w) A (call (.builtin id) ([a1] ++ ys)) Q E s₂) E pos hsc (rm.kp k1) (st.kp k1 s1) hvs fun ys h2 t2 r2 k2 s2 => by
      refine B Z α A _ mem (self :: vs) v (a1 :: ys) Q E (rm.kp (k1.trans k2)) (st.me.kp (k1.trans k2)) s2 ⟨r1.kp k2, r2⟩ hr fun y h3 t3 r3 k3 s3 => ?_
      exact hQ y h3 t3 r3 ((k1.trans k2).trans k3) s3
    rw [starEach_cons hp'.1] at hs ⊢
    exact evalArgs_plain hs
  · exact noK hf

/- one argument, two -/
noncomputable def one (f : V → Option V) (l : List V) : Option V := match l with
  | [] => none
  | a :: r => match r with
    | [] => f a
    | _ :: _ => none
noncomputable def two (f : V → V → Option V) (l : List V) : Option V := match l with
  | [] => none
  | a :: r => one (f a) r
theorem oneK {h : Heap} {Z α : List Addr} {f : V → Option V} {vs : List V} {v : V} {ys : List Value} {G : List Value → Prop} (hs : one f vs = some v) (hr : RVs h Z α vs ys) (k : ∀ x y, f x = some v → RV h Z α x y → G [y]) : G ys := by
  cases vs with
  | nil => exact noK hs
  | cons a r => cases r with
    | nil => exact hr.consK fun y ys ry r => r.nilK (G := fun ys => G (y :: ys)) (k a y hs ry)
    | cons _ _ => exact noK hs
theorem twoK {h : Heap} {Z α : List Addr} {f : V → V → Option V} {vs : List V} {v : V} {ys : List Value} {G : List Value → Prop} (hs : two f vs = some v) (hr : RVs h Z α vs ys) (k : ∀ x x2 y y2, f x x2 = some v → RV h Z α x y → RV h Z α x2 y2 → G [y, y2]) : G ys := by
  cases vs with
  | nil => exact noK hs
  | cons a r => exact hr.consK fun y ys ry r => oneK (G := fun ys => G (y :: ys)) hs r fun x2 y2 e r2 => k a x2 y y2 e ry r2
noncomputable def strV : V → Option Str
  | .p d => strD d
  | _ => none
theorem strV_at {v : V} {a : Str} (h : strV v = some a) : v = .p (.str a) := by
  cases v with
  | p d => rw [strD_at h]
  | c _ => exact noK h
  | t _ => exact noK h
noncomputable def lstM (mem : Mem) (v : V) : Option (List P) := (derP mem v).bind lstD
theorem lstM_at {mem : Mem} {v : V} {l : List P} (h : lstM mem v = some l) : derP mem v = some (.lst l) := bindK h fun _ h1 h2 => lstD_at h2 ▸ h1
theorem ifK {α : Type} {c : Prop} [Decidable c] {x : Option α} {r : α} {C : Prop} (h : (if c then x else none) = some r) (k : c → x = some r → C) : C := by
  by_cases hc : c
  · rw [if_pos hc] at h; exact k hc h
  · rw [if_neg hc] at h; exact noK h
/- methods of strs -/
noncomputable def str2 (f : Str → Str → Option P) (l : List V) : Option V := two (fun a b => (strV a).bind fun x => (strV b).bind fun y => (f x y).map .p) l
theorem str2K {h : Heap} {Z α : List Addr} {f : Str → Str → Option P} {vs : List V} {v : V} {ys : List Value} {G : List Value → Prop} (hs : str2 f vs = some v) (hr : RVs h Z α vs ys) (k : ∀ x y t u d, f x y = some d → .p d = v → G [.str x t, .str y u]) : G ys :=
  twoK hs hr fun a b _ _ e ra rb => bindK e fun x h1 e => bindK e fun y h2 e => mapK e fun d e3 e4 => by
    obtain rfl := strV_at h1
    obtain rfl := strV_at h2
    obtain ⟨t, rfl⟩ := ra
    obtain ⟨u, rfl⟩ := rb
    exact k x y t u d e3 e4
noncomputable def semStarts : Mem → List V → Option V := fun _ => str2 fun x y => some (.bool (Txt.startswith x y))
theorem bi_startswith : BiSem prog w hb n (.builtin "str.startswith") semStarts := fun Z α A s mem vs v ys Q E rm me hst hr hs hQ =>
  str2K (G := fun ys => wpAny (model prog w) A (call (.builtin "str.startswith") ys) Q E s) hs hr fun x y t u d e e2 => SC.startswith (hQ _ s.heap s.toks (e2 ▸ soK e ▸ rfl) (.refl _) hst)
noncomputable def semEnds : Mem → List V → Option V := fun _ => str2 fun x y => some (.bool (Txt.endswith x y))
theorem bi_endswith : BiSem prog w hb n (.builtin "str.endswith") semEnds := fun Z α A s mem vs v ys Q E rm me hst hr hs hQ =>
  str2K (G := fun ys => wpAny (model prog w) A (call (.builtin "str.endswith") ys) Q E s) hs hr fun x y t u d e e2 => SC.endswith (hQ _ s.heap s.toks (e2 ▸ soK e ▸ rfl) (.refl _) hst)
noncomputable def semRfind : Mem → List V → Option V := fun _ => str2 fun x y => some (.int (Txt.rfind x y))
theorem bi_rfind : BiSem prog w hb n (.builtin "str.rfind") semRfind := fun Z α A s mem vs v ys Q E rm me hst hr hs hQ =>
  str2K (G := fun ys => wpAny (model prog w) A (call (.builtin "str.rfind") ys) Q E s) hs hr fun x y t u d e e2 => SC.rfind (hQ _ s.heap _ (e2 ▸ soK e ▸ ⟨_, rfl⟩) (.refl _) hst)
noncomputable def semRstrip : Mem → List V → Option V := fun _ => str2 fun x y => if lenOk x.length = true then some (.str (Txt.rstripChars x y)) else none
theorem bi_rstrip : BiSem prog w hb n (.builtin "str.rstrip") semRstrip := fun Z α A s mem vs v ys Q E rm me hst hr hs hQ =>
  str2K (G := fun ys => wpAny (model prog w) A (call (.builtin "str.rstrip") ys) Q E s) hs hr fun x y t u d e e2 => iteK e fun hl e =>
    SC.rstripChars (fun t' k => hQ _ s.heap _ (e2 ▸ e ▸ ⟨_, rfl⟩) (.refl _) hst) (by rw [sizeLine_eq]; exact Nat.le_trans (of_decide_eq_true hl) (by decide))

theorem rps_strs {h : Heap} {Z : List Addr} : ∀ (l : List (Str × Tok)), RPs h Z ((l.map (·.1)).map .str) (strValues l)
  | [] => trivial
  | p :: l => ⟨by simp only [RP]; exact ⟨_, rfl⟩, rps_strs l⟩
noncomputable def semSplit : Mem → List V → Option V := fun _ => str2 fun x y => if (lenOk (x.length + 1) && decide (0 < y.length) && lenOk (Txt.split x y).length) = true then some (.lst ((Txt.split x y).map .str)) else none
theorem bi_split : BiSem prog w hb n (.builtin "str.split") semSplit := by
  intro Z α A s mem vs v ys Q E rm me hst hr hs hQ
  refine str2K (G := fun ys => wpAny (model prog w) A (call (.builtin "str.split") ys) Q E s) hs hr fun x y t u d e e2 => iteK e fun hl e => ?_
  subst e e2
  · · simp only [lenOk, Bool.and_eq_true, decide_eq_true_eq] at hl
      have hy : (y.length == 0) = false := by simp; omega
      have fin : ∀ (l : List (Str × Tok)) (tk : Nat), l.map (·.1) = Txt.split x y → Q (.ref s.heap.objs.size) { s with heap := s.heap.push { cls := .type "list", data := .seq (strValues l).toArray }, toks := tk } := fun l tk e => by
        refine hQ _ _ tk ?_ ((Kp.refl _).push _) (stays_push hst _)
        have := RP.newList me (rps_strs (h := s.heap) (Z := Z) l)
        rw [e] at this
        exact this
      cases h1 : (decide (x.length < y.length) || decide (Builtin.Str.strKind x < Builtin.Str.strKind y))
      · cases hf : (Builtin.Str.occurrences x y 0 x.length (x.length + 1)).isEmpty
        · have hsp : Txt.split x y = Builtin.Str.partsBetween x (Builtin.Str.occurrences x y 0 x.length (x.length + 1)) y.length :=
            ((if_neg (ne_true_of_eq_false h1)).trans (if_neg (ne_true_of_eq_false hf)))
          refine call_meets F.slot_str_split (typeIs_str _ _ _) F.entry_str_split (F.args_str_split_2 _ _) (meets_str_split_sep x y t u h1 hy hf (by rw [sizeLine_eq]; omega) (by rw [← hsp, sizeLine_eq]; omega)) ?_
          show wants Q E _ { s with toks := _, heap := s.heap.push { cls := .type "list", data := .seq (strsFrom s.toks (Builtin.Str.partsBetween x (Builtin.Str.occurrences x y 0 x.length (x.length + 1)) y.length)).toArray } }
          rw [strsFrom_eq]
          exact fin (numbered s.toks _) _ ((numbered_texts _ _).trans hsp.symm)
        · exact call_meets F.slot_str_split (typeIs_str _ _ _) F.entry_str_split (F.args_str_split_2 _ _) (meets_str_split_not_found x y t u h1 hy hf)
            (fin [(x, t)] s.toks ((if_neg (ne_true_of_eq_false h1)).trans (if_pos hf)).symm)
      · exact call_meets F.slot_str_split (typeIs_str _ _ _) F.entry_str_split (F.args_str_split_2 _ _) (meets_str_split_cannot_occur x y t u h1)
          (fin [(x, t)] s.toks (if_pos h1).symm)

noncomputable def strsP (l : List P) : Option (List Str) := l.mapM strD
theorem strsP_get {l : List P} {xs : List Str} (h : strsP l = some xs) : l = xs.map .str := mapM_map strD_at h
theorem strsP_are {h : Heap} {Z : List Addr} {l : List P} {xs : List Str} {vs : List Value} (e : strsP l = some xs) (r : RPs h Z l vs) : StrsAre vs xs := by
  obtain rfl := strsP_get e
  clear e
  induction xs generalizing vs with
  | nil => cases vs with
    | nil => exact .nil
    | cons _ _ => exact r.elim
  | cons x xs ih => cases vs with
    | nil => exact r.elim
    | cons v vs =>
      obtain ⟨t, rfl⟩ := r.1
      exact .cons x t (ih r.2)
noncomputable def joinFit (x : Str) (ys : List Str) : Bool := decide ((ys.map (·.length)).sum + ys.length * x.length ≤ 16777216)
noncomputable def semJoin : Mem → List V → Option V := fun mem => two fun a b => (strV a).bind fun x => (lstM mem b).bind fun l => (strsP l).bind fun ys => if joinFit x ys = true then some (.p (.str (Txt.join x ys))) else none
theorem bi_join : BiSem prog w hb n (.builtin "str.join") semJoin := fun Z α A s mem vs v ys Q E rm me hst hr hs hQ =>
  twoK (G := fun ys => wpAny (model prog w) A (call (.builtin "str.join") ys) Q E s) hs hr fun a b y y2 e ra rb => bindK e fun x h1 e => bindK e fun l h2 e => bindK e fun xs h3 e => iteK e fun hj e9 => by
    obtain rfl := strV_at h1
    obtain ⟨t, rfl⟩ := ra
    obtain ⟨a1, ws, rfl, l1, r1⟩ := derP_lst me (lstM_at h2) rb
    exact PyProof.Rows.join_list l1.isList (by simpa using strsP_are h3 r1) (of_decide_eq_true hj) fun t' k => hQ _ s.heap _ (e9 ▸ ⟨_, rfl⟩) (.refl _) hst
end
end Mine
end
section
open PySem.W
open PySem.SeqAt
namespace Mine
section
variable {prog : Program} {w : World} {hb : Heap} {n : Nat} {sc : Scope} {nm : List Str}

theorem one_of {h : Heap} {Z α : List Addr} {x : V} {ys : List Value} (r : RVs h Z α [x] ys) : ∃ a, ys = [a] ∧ RV h Z α x a :=
  r.consK (G := fun ys => ∃ a, ys = [a] ∧ RV h Z α x a) fun a ys ra r => r.nilK (G := fun ys => ∃ b, a :: ys = [b] ∧ RV h Z α x b) ⟨a, rfl, ra⟩
theorem two_of {h : Heap} {Z α : List Addr} {x y : V} {ys : List Value} (r : RVs h Z α [x, y] ys) : ∃ a b, ys = [a, b] ∧ RV h Z α x a ∧ RV h Z α y b :=
  r.consK (G := fun ys => ∃ a b, ys = [a, b] ∧ RV h Z α x a ∧ RV h Z α y b) fun a ys ra r => let ⟨b, e, rb⟩ := one_of r; ⟨a, b, congrArg (a :: ·) e, ra, rb⟩

noncomputable def lenD : P → Option Nat
  | .str x => some x.length
  | .lst l => some l.length
  | _ => none
noncomputable def semLen : Mem → List V → Option V := fun mem => one fun v => (derP mem v).bind fun d => (lenD d).bind fun n => if lenOk n = true then some (.p (.int n)) else none
theorem bi_len : BiSem prog w hb n (.builtin "len") semLen := fun Z α A s mem vs v ys Q E rm me hst hr hs hQ =>
  oneK (G := fun ys => wpAny (model prog w) A (call (.builtin "len") ys) Q E s) hs hr fun a y e ra => bindK e fun d hd e => bindK e fun m h2 e => iteK e fun hl e9 => by
    have hQ' : ∀ t k, Q (.int (m : Nat) t) { s with toks := k } := fun t k => hQ _ s.heap _ (e9 ▸ ⟨_, rfl⟩) (.refl _) hst
    have hl := of_decide_eq_true hl
    cases d with
    | str x =>
      obtain rfl := soK h2
      obtain ⟨t, rfl⟩ := derP_rp me hd ra
      exact _root_.PySem.P.len_str (by omega) (hQ' _ _)
    | lst l =>
      obtain rfl := soK h2
      obtain ⟨a1, ws, rfl, l1, r1⟩ := derP_lst me hd ra
      rw [r1.length] at hl hQ'
      exact call_len_list l1.isList (by rw [List.size_toArray]; omega) (hQ' _ _)
    | _ => exact noK h2

noncomputable def semAbs : Mem → List V → Option V := fun _ => one fun a => (intV a).map fun a => .p (.int (if a < 0 then -a else a))
theorem bi_abs : BiSem prog w hb n (.builtin "abs") semAbs := fun Z α A s mem vs v ys Q E rm me hst hr hs hQ =>
  oneK (G := fun ys => wpAny (model prog w) A (call (.builtin "abs") ys) Q E s) hs hr fun a y e ra => mapK e fun i h1 e9 => by
    obtain rfl := intV_at h1
    obtain ⟨t, rfl⟩ := ra
    exact call_abs_int fun u tk => hQ _ s.heap _ (e9 ▸ ⟨_, rfl⟩) (.refl _) hst
noncomputable def semStrI : Mem → List V → Option V := fun _ => one fun a => (intV a).bind fun a => if smallI a = true then some (.p (.str (Str.ofString (toString a)))) else none
theorem bi_str : BiSem prog w hb n (.type "str") semStrI := fun Z α A s mem vs v ys Q E rm me hst hr hs hQ =>
  oneK (G := fun ys => wpAny (model prog w) A (call (.type "str") ys) Q E s) hs hr fun a y e ra => bindK e fun k h1 e => iteK e fun hl e9 => by
    obtain rfl := intV_at h1
    obtain ⟨t, rfl⟩ := ra
    simp only [smallI, Bool.and_eq_true, decide_eq_true_eq] at hl
    refine _root_.PySem.P.str_of_int ?_ (hQ _ s.heap _ (e9 ▸ ⟨_, rfl⟩) (.refl _) hst)
    by_cases h0 : k.natAbs = 0
    · rw [h0]; decide
    · refine Nat.lt_trans ((Nat.log2_lt h0).mpr (show k.natAbs < 2 ^ 60 by omega)) (by decide)

noncomputable def intsP (l : List P) : Option (List Int) := l.mapM intD
theorem intsP_get {l : List P} {xs : List Int} (h : intsP l = some xs) : l = xs.map .int := mapM_map intD_at h
theorem intsP_at {h : Heap} {Z : List Addr} {xs : List Int} {vs : List Value} (r : RPs h Z (xs.map .int) vs) {i : Nat} {v : Value} (e : vs[i]? = some v) : ∃ t, v = .int (xs.getD i 0) t := by
  obtain ⟨d, hd, rd⟩ := r.get' e
  rw [List.getElem?_map] at hd
  cases hx : xs[i]? with
  | none => simp [hx] at hd
  | some x =>
    simp [hx] at hd
    subst hd
    simp only [RP] at rd
    obtain ⟨t, rfl⟩ := rd
    exact ⟨t, by simp [List.getD, hx]⟩
theorem preSum_getD (xs : List Int) : ∀ k, k ≤ xs.length → preSum (fun i => xs.getD i 0) k = (xs.take k).sum
  | 0, _ => by simp [preSum]
  | k + 1, hk => by
    have hk' : k < xs.length := by omega
    rw [preSum, preSum_getD xs k (by omega), List.take_add_one, List.sum_append, List.getElem?_eq_getElem hk']
    have : xs.getD k 0 = xs[k] := by simp [List.getD, List.getElem?_eq_getElem hk']
    rw [this]; simp
/- an iterator over a list of the call's -/
theorem iter_lst {A : Around} {E : Value → Shared → Prop} {s : Shared} {l : Addr} {vs : List Value} {Q : Value → Shared → Prop} (hl : LstAt s.heap l vs)
    (h : ∀ s₂ : Shared, s₂ = { s with heap := s.heap.push { cls := .type "list_iterator", data := .fields #[.ref l, .int 0 0] } } →
      (s₂.heap.IsListIter s.heap.objs.size l 0 ∧ s₂.heap.IsList l vs.toArray) → (∀ b ∈ [s.heap.objs.size, l], b < s₂.heap.objs.size) → l ≠ s.heap.objs.size → Q (.ref s.heap.objs.size) s₂) :
    wpAny (model prog w) A (pyIter (.ref l)) Q E s := by
  have hlt : l < s.heap.objs.size := hl.lt
  refine wpAny_pyIter_list hl.isList (h _ rfl ⟨⟨_, Heap.get?_push_size _ rfl, rfl, rfl⟩, hl.isList.push _⟩ (fun b hb => ?_) (Nat.ne_of_lt hlt))
  show b < (s.heap.push _).objs.size
  rw [Heap.size_push]
  rcases List.mem_cons.mp hb with rfl | hb
  · exact Nat.lt_succ_self _
  · rcases List.mem_cons.mp hb with rfl | hb
    · exact Nat.lt_succ_of_lt hlt
    · cases hb
theorem kept_old {h h' : Heap} {o : Obj} (hk : ∀ b q, b ∉ [h.objs.size] → (h.push o).get? b = some q → h'.get? b = some q) : ∀ b q, h.get? b = some q → h'.get? b = some q := fun b q e => by
  refine hk b q (fun hm => ?_) (Heap.get?_push_of_some _ e)
  rcases List.mem_cons.mp hm with e1 | hm
  · exact absurd (e1 ▸ Heap.lt_size e) (Nat.lt_irrefl _)
  · cases hm
theorem stays_of {h h' : Heap} (hs : hb.StaysIn h) (k : ∀ b q, h.get? b = some q → h'.get? b = some q) : hb.StaysIn h' := fun b q e => k b q (hs b q e)

noncomputable def semSum : Mem → List V → Option V := fun mem => one fun v => (lstM mem v).bind fun l => (intsP l).map fun xs => .p (.int xs.sum)
theorem bi_sum : BiSem prog w hb n (.builtin "sum") semSum := by
  intro Z α A s mem vs v ys Q E rm me hst hr hs hQ
  · · refine oneK (G := fun ys => wpAny (model prog w) A (call (.builtin "sum") ys) Q E s) hs hr fun a y e ra => bindK e fun l hl e => mapK e fun xs hx e9 => ?_
      have hd := lstM_at hl
      subst e9
      obtain ⟨a1, ws, rfl, l1, r1⟩ := derP_lst me hd ra
      have e := intsP_get hx
      subst e
      refine call_sum_walkG (iter_lst l1 fun s₂ e st hfp hlI => ?_)
      subst e
      refine ⟨_, _, _, _, _, _, fun i => xs.getD i 0, rfl, Walks.list (A := A.in1) rm.hd _ a1 hlI ws.toArray, st, hfp, fun i v hv => intsP_at r1 (by simpa using hv), fun h' tk t' hk => ?_⟩
      have hk' := kept_old hk
      have el : ws.toArray.size = xs.length := by have := r1.length; simp at this; simp [this]
      rw [el, preSum_getD xs _ (Nat.le_refl _), List.take_length]
      exact hQ _ h' tk ⟨_, rfl⟩ (.of hk') (stays_of hst hk')


noncomputable def boolsP (l : List P) : Option (List Bool) := l.mapM boolD
theorem boolsP_get {l : List P} {xs : List Bool} (h : boolsP l = some xs) : l = xs.map .bool := mapM_map boolD_at h
noncomputable def semAll : Mem → List V → Option V := fun mem => one fun v => (lstM mem v).bind fun l => (boolsP l).map fun xs => .p (.bool (xs.all id))
theorem bi_all : BiSem prog w hb n (.builtin "all") semAll := by
  intro Z α A s mem vs v ys Q E rm me hst hr hs hQ
  · · refine oneK (G := fun ys => wpAny (model prog w) A (call (.builtin "all") ys) Q E s) hs hr fun a y e ra => bindK e fun l hl e => mapK e fun xs hx e9 => ?_
      have hd := lstM_at hl
      subst e9
      obtain ⟨a1, ws, rfl, l1, r1⟩ := derP_lst me hd ra
      have e := boolsP_get hx
      subst e
      have el : ws.toArray.size = xs.length := by have := r1.length; simp at this; simp [this]
      refine call_all_walk (iter_lst l1 fun s₂ e st hfp hlI => ?_)
      subst e
      refine ⟨_, _, _, _, _, _, fun i => xs.getD i true, rfl, Walks.list (A := A.in1) rm.hd _ a1 hlI ws.toArray, st, fun i v s' Q' E' hv hq => ?_, fun h' tk hk => ?_⟩
      · obtain ⟨d, hd, rd⟩ := r1.get' (show ws[i]? = some v by simpa using hv)
        rw [List.getElem?_map] at hd
        cases hx : xs[i]? with
        | none => simp [hx] at hd
        | some x =>
          simp [hx] at hd
          subst hd
          simp only [RP] at rd
          subst rd
          refine wpAny_truthy_bool ?_
          simpa [List.getD, hx] using hq
      · have hk' := kept_old hk
        rw [el, range_all_of rfl]
        exact hQ _ h' tk rfl (.of hk') (stays_of hst hk')


noncomputable def semIndex : Mem → List V → Option V := fun mem => two fun v x => (lstM mem v).bind fun l => (derP mem x).bind fun d => if lenOk l.length = true then (l.mapM (fun q => eqP deep q d)).bind fun bs => (bs.findIdx? id).map fun j => .p (.int (j : Nat)) else none
theorem bi_index : BiSem prog w hb n (.builtin "list.index") semIndex := by
  intro Z α A s mem vs v ys Q E rm me hst hr hs hQ
  · · · · refine twoK (G := fun ys => wpAny (model prog w) A (call (.builtin "list.index") ys) Q E s) hs hr fun _ _ a b e ra rb => bindK e fun l hl0 e => bindK e fun d hx e => ifK e fun hl e => bindK e fun bs hm e => mapK e fun j hj e9 => ?_
          have hd := lstM_at hl0
          subst e9
          obtain ⟨a1, ws, rfl, l1, r1⟩ := derP_lst me hd ra
          obtain ⟨e, he1, he2⟩ := eqs_of (A := A) hm r1.free (derP_rp me hx rb) (by have := rm.uni; simp only [deep]; omega)
          obtain ⟨hj1, hj2, hj3⟩ := List.findIdx?_eq_some_iff_getElem.mp hj
          have hlen : bs.length = ws.length := by rw [← he2]; simp
          have hjw : j < ws.length := by omega
          simp only [lenOk, decide_eq_true_eq] at hl
          have e0 := r1.length
          have hat : ∀ (k : Nat) (hk : k < ws.length), e ws[k] = bs[k]'(by omega) := fun k hk => by
            have : (ws.map e)[k]'(by simpa using hk) = bs[k]'(by omega) := by simp only [he2]
            simpa using this
          obtain ⟨nn, g1⟩ := id l1
          refine call_meets F.slot_list_index l1.typeIs F.entry_list_index (F.args_list_index_2 _ _) (list_indexAt a1 ws.toArray nn none #[] b e j (by simpa using hjw) (by omega) (by simpa [hat j hjw] using hj2) fun m hm hmj => ?_) ⟨g1, fun y hy => he1 y (by simpa using hy), ?_⟩
          · have hmw : m < ws.length := by simpa using hm
            have := hj3 m hmj
            have h2 := hat m hmw
            simp only [id_eq, Bool.not_eq_true] at this
            simp only [List.getElem_toArray]
            rw [h2]; exact this
          · exact hQ _ s.heap _ ⟨_, rfl⟩ (.refl _) hst


noncomputable def semCount : Mem → List V → Option V := fun mem => two fun v x => (lstM mem v).bind fun l => (derP mem x).bind fun d => (l.mapM (fun q => eqP deep q d)).map fun bs => .p (.int (bs.countP id : Nat))
theorem bi_count : BiSem prog w hb n (.builtin "list.count") semCount := by
  intro Z α A s mem vs v ys Q E rm me hst hr hs hQ
  · · refine twoK (G := fun ys => wpAny (model prog w) A (call (.builtin "list.count") ys) Q E s) hs hr fun _ _ a b e ra rb => bindK e fun l hl0 e => bindK e fun d hx e => mapK e fun bs hm e9 => ?_
      have hd := lstM_at hl0
      subst e9
      obtain ⟨a1, ws, rfl, l1, r1⟩ := derP_lst me hd ra
      obtain ⟨e, he1, he2⟩ := eqs_of (A := A) hm r1.free (derP_rp me hx rb) (by have := rm.uni; simp only [deep]; omega)
      obtain ⟨nn, g1⟩ := id l1
      refine call_meets F.slot_list_count l1.typeIs F.entry_list_count (F.args_list_count_2 _ _) (list_countAt a1 ws.toArray nn none #[] b e) ⟨g1, fun y hy => he1 y (by simpa using hy), ?_⟩
      have : ws.toArray.toList.countP e = bs.countP id := by
        subst he2
        rw [List.countP_map]; rfl
      rw [this]
      exact hQ _ s.heap _ ⟨_, rfl⟩ (.refl _) hst
end
end Mine
end
section
open PySem.W
open PySem.SeqAt
namespace Mine
section
variable {prog : Program} {w : World} {hb : Heap} {n : Nat} {sc : Scope} {nm : List Str}

theorem LstAt.isTupLike {h : Heap} {a : Addr} {vs : List Value} (x : TupAt h a vs) : IsTup h a vs.toArray := by
  obtain ⟨n, g⟩ := x
  exact ⟨_, g, rfl, n, rfl⟩

noncomputable def subT (l : List (P ⊕ Nat)) (k : Int) : Option V := if smallI k then ((seqIndex? k l.length).bind (l[·]?)).map fun q => match q with | .inl d => .p d | .inr j => .c j else none
noncomputable def subD (o : MO) (q : Str) : Option V := match o with
  | .ml _ => none
  | .md l => (getK l q).map .p
/- what has numbered items -/
noncomputable def subQ (d : P) (k : Int) : Option V := match d with
  | .lst l => ((seqIndex? k l.length).bind (l[·]?)).map .p
  | .tup l => ((seqIndex? k l.length).bind (l[·]?)).map .p
  | .str z => ((seqIndex? k z.length).bind (z.cps[·]?)).map fun c => .p (.str ⟨#[c]⟩)
  | _ => none
noncomputable def subI (mem : Mem) (x : V) (k : Int) : Option V := if smallI k then (derP mem x).bind fun d => subQ d k else none
noncomputable def subV (mem : Mem) (x i : V) : Option V := match i with
  | .p (.int k) => match x with
    | .t l => subT l k
    | .c c => subI mem (.c c) k
    | .p d => subI mem (.p d) k
  | .p (.str q) => match x with
    | .c c => (mem[c]?).bind fun o => subD o q
    | .t _ => none
    | .p _ => none
  | _ => none
noncomputable def xSub (a b : XF) : XF := fun mem sl => (a mem sl).bind fun x => (b mem sl).bind fun y => subV mem x y

theorem RXs.get {h : Heap} {Z α : List Addr} : ∀ {l : List (P ⊕ Nat)} {vs : List Value} {j : Nat} {q : P ⊕ Nat}, RXs h Z α l vs → l[j]? = some q → ∃ y, vs[j]? = some y ∧ RX h Z α q y
  | [], [], j, q, _, e => by simp at e
  | x :: l, v :: vs, 0, q, r, e => by simp at e; subst e; exact ⟨v, rfl, r.1⟩
  | x :: l, v :: vs, j + 1, q, r, e => by
    simp at e
    obtain ⟨y, h1, h2⟩ := RXs.get r.2 e
    exact ⟨y, by simpa using h1, h2⟩
  | [], _ :: _, _, _, r, _ => r.elim
  | _ :: _, [], _, _, r, _ => r.elim

theorem getItem_lst {A : Around} {E : Value → Shared → Prop} {s : Shared} {l : Addr} {vs : List Value} {k : Int} {t : Tok} {j : Nat} {x : Value} {Q : Value → Shared → Prop} (hl : LstAt s.heap l vs) (hk : smallI k = true)
    (hj : seqIndex? k vs.length = some j) (hx : vs[j]? = some x) (h : Q x s) : wpAny (model prog w) A (getItem (.ref l) (.int k t)) Q E s := by
  simp only [smallI, Bool.and_eq_true, decide_eq_true_eq] at hk
  by_cases h0 : k < 0
  · have hj' := hj
    unfold seqIndex? at hj
    simp only [h0, if_true] at hj
    split at hj
    · rename_i hc
      simp only [Bool.and_eq_true, decide_eq_true_eq] at hc
      obtain rfl := soK hj
      exact wpAny_getItem_list_neg hl.isList h0 (by simp only [List.size_toArray]; omega) (by omega) (by simpa using hx) h
    · exact noK hj
  · unfold seqIndex? at hj
    simp only [h0, if_false] at hj
    split at hj
    · obtain rfl := soK hj
      exact wpAny_getItem_list hl.isList (by omega) (by omega) (by simpa using hx) h
    · exact noK hj

theorem sub_sim {value slice : Expr} {Z α : List Addr} {mem : Mem} {A : Around} {E : Value → Shared → Prop} {s : Shared} (me : Me prog w hb s.heap Z α mem)
    {x i v : V} {a b : Value} (hx : RV s.heap Z α x a) (hi : RV s.heap Z α i b) (hr : subV mem x i = some v) {Q : Value → Shared → Prop}
    (hQ : ∀ y tk, RV s.heap Z α v y → Q y { s with toks := tk }) (hs : ∀ o i, ∃ ops, subscripted slice false o i = operate ops (getItem o i)) :
    wpAny (model prog w) A (subscriptTail value slice a b) Q E s := by
  obtain ⟨ops, hops⟩ := hs a b
  have hI : ∀ k t, b = .int k t → subI mem x k = some v → wpAny (model prog w) A (subscriptTail value slice a b) Q E s := fun k t eb hr => by
    subst eb
    refine ifK hr fun hk hr => bindK hr fun d hd hr => ?_
    have hk' := hk
    simp only [smallI, Bool.and_eq_true, decide_eq_true_eq] at hk'
    cases d with
    | str z => refine mapK hr fun c hc hr => ?_
               subst hr
               obtain ⟨u, rfl⟩ := derP_rp me hd hx
               exact tail_any (typeIs_str _ _ _) F.slot_str_getitem.lookup (_root_.PySem.P.getItem_str (by simp only [Bool.or_eq_false_iff, decide_eq_false_iff_not]; omega) (by simpa [Option.bind_eq_some_iff] using hc) (hQ _ _ ⟨_, rfl⟩)) hops
    | tup l => refine mapK hr fun q hq hr => bindK hq fun j hj hq => ?_
               subst hr
               obtain ⟨a1, vs, rfl, t1, r1⟩ := derP_tup me hd hx
               obtain ⟨y, hy, ry⟩ := r1.get hq
               have it := LstAt.isTupLike t1
               exact tail_any it.typeIs slot_tuple_getitem.lookup (getItem_tuple it (by omega) (by omega) (j := j) (by rw [List.size_toArray, ← r1.length]; exact hj) (x := y) (by rw [List.getElem?_toArray]; exact hy) (hQ y s.toks ry)) hops
    | lst l => refine mapK hr fun q hq hr => bindK hq fun j hj hq => ?_
               subst hr
               obtain ⟨a1, vs, rfl, t1, r1⟩ := derP_lst me hd hx
               obtain ⟨y, hy, ry⟩ := r1.get hq
               exact tail_any t1.typeIs slot_list_getitem.lookup (getItem_lst t1 hk (by rw [← r1.length]; exact hj) hy (hQ y s.toks ry)) hops
    | _ => exact noK hr
  cases i with
  | c _ => exact noK hr
  | t _ => exact noK hr
  | p i => cases i with
    | int k =>
      obtain ⟨t, rfl⟩ := hi
      cases x with
      | t l =>
        refine ifK hr fun hk hr => mapK hr fun q hq hr => bindK hq fun j hj hq => ?_
        subst hr
        obtain ⟨a1, vs, rfl, t1, r1⟩ := hx
        obtain ⟨y, hy, ry⟩ := r1.get hq
        simp only [smallI, Bool.and_eq_true, decide_eq_true_eq] at hk
        have it := LstAt.isTupLike t1
        refine tail_any it.typeIs slot_tuple_getitem.lookup (getItem_tuple it (by omega) (by omega) (j := j) (by rw [List.size_toArray, ← RXs.length r1]; exact hj) (x := y) (by rw [List.getElem?_toArray]; exact hy) (hQ y s.toks ?_)) hops
        cases q with
        | inl d => exact ry
        | inr j => exact ry
      | c c => exact hI k t rfl hr
      | p d => exact hI k t rfl hr
    | str q =>
      obtain ⟨t, rfl⟩ := hi
      cases x with
      | c c =>
        refine bindK hr fun o ho hr => ?_
        cases o with
        | ml _ => exact noK hr
        | md l =>
          refine mapK hr fun d hd hr => ?_
          subst hr
          obtain ⟨a1, ha, rfl⟩ := hx
          obtain ⟨kvs, hm, rk⟩ := me.here _ _ _ ha ho
          obtain ⟨y, hy, ry⟩ := rk.get hd
          exact tail_any hm.typeIs slot_dict_getitem.lookup (wpAny_getItem_of (strKind_is prog w q t) hm.mapOf hy (hQ y _ ry)) hops
      | t _ => exact noK hr
      | p _ => exact noK hr
    | _ => exact noK hr
theorem sim_sub {a b : Expr} {f g : XF} {pos : Pos} (ha : SimE prog w hb n sc nm a f) (hb' : SimE prog w hb n sc nm b g)
    (hs : ∀ o i, ∃ ops, subscripted b false o i = operate ops (getItem o i) := by intro _ _; exact ⟨_, rfl⟩) : SimE prog w hb n sc nm (.Subscript a b pos) (xSub f g) := by
  intro env Z α A s mem sl v Q E hsc rm st hf hQ
  refine bindK hf fun x hx hf => bindK hf fun y hy hr => Subscript_ (ha env Z α A s mem sl x _ _ hsc rm st hx fun a1 h1 t1 r1 k1 s1 => ?_)
  refine hb' env Z α A _ mem sl y _ _ hsc (rm.kp k1) (st.kp k1 s1) hy fun a2 h2 t2 r2 k2 s2 => ?_
  refine sub_sim (st.me.kp (k1.trans k2)) (r1.kp k2) r2 hr (fun y tk ry => ?_) hs
  exact hQ y h2 tk ry (k1.trans k2) s2

/- a part of a slice -/
noncomputable abbrev XO := Mem → Slots → Option (Option Int)
noncomputable def SimO (prog : Program) (w : World) (hb : Heap) (n : Nat) (sc : Scope) (nm : List Str) (e : Option Expr) (f : XO) : Prop :=
  ∀ (env : Env) (Z α : List Addr) (A : Around) (s : Shared) (mem : Mem) (sl : Slots) (v : Option Int) (Q : Value → Shared → Prop) (E : Value → Shared → Prop),
    env.scope = sc → Rm hb n A s.heap → St prog w hb env nm Z α mem sl s.heap → f mem sl = some v →
    (∀ (p : Option (Int × Tok)) h' tk, p.map (·.1) = v → Kp s.heap h' → hb.StaysIn h' → Q (partValue p) { s with heap := h', toks := tk }) →
    wpAny (model prog w) A (evalPart e env) Q E s
noncomputable def oNone : XO := fun _ _ => some none
noncomputable def oSome (f : XF) : XO := fun mem sl => (f mem sl).bind fun x => (intV x).map some
theorem simO_none : SimO prog w hb n sc nm none oNone := by
  intro env Z α A s mem sl v Q E hsc rm st hf hQ
  obtain rfl := soK hf
  exact wpAny_pure (hQ none s.heap s.toks rfl (.refl _) st.stays)
theorem simO_some {a : Expr} {f : XF} (ha : SimE prog w hb n sc nm a f) : SimO prog w hb n sc nm (some a) (oSome f) := by
  intro env Z α A s mem sl v Q E hsc rm st hf hQ
  refine bindK hf fun x hx hf => mapK hf fun i hi hf => ?_
  subst hf
  obtain rfl := intV_at hi
  refine ha env Z α A s mem sl _ _ _ hsc rm st hx fun a1 h1 t1 r1 k1 s1 => ?_
  obtain ⟨t, rfl⟩ := r1
  exact hQ (some (_, t)) h1 t1 rfl k1 s1

noncomputable def sliceL {β : Type} (l : List β) (lo hi st : Option Int) : List β :=
  (sliceRange (sliceBounds lo hi st l.length).1 (sliceBounds lo hi st l.length).2.1 (sliceBounds lo hi st l.length).2.2).filterMap (l[·]?)
noncomputable def sliceS (x : Str) (lo hi st : Option Int) : Str :=
  if (st.getD 1 == 1 && (Builtin.Str.strSliceIndices lo hi (st.getD 1) x.length).length == x.length) = true then x else ⟨((Builtin.Str.strSliceIndices lo hi (st.getD 1) x.length).filterMap (x.cps[·]?)).toArray⟩
noncomputable def sliceV (mem : Mem) (x : V) (lo hi st : Option Int) : Option V := if st = some 0 then none else (derP mem x).bind fun d => match d with
  | .lst l => if lenOk l.length then some (.p (.lst (sliceL l lo hi st))) else none
  | .str x => if lenOk (sliceS x lo hi st).length then some (.p (.str (sliceS x lo hi st))) else none
  | _ => none
noncomputable def xSlice (a : XF) (lo hi st : XO) : XF := fun mem sl => (a mem sl).bind fun x => (lo mem sl).bind fun l => (hi mem sl).bind fun h => (st mem sl).bind fun t => sliceV mem x l h t

theorem RPs.filterMap {h : Heap} {Z : List Addr} {l : List P} {vs : List Value} (r : RPs h Z l vs) : ∀ is : List Nat, RPs h Z (is.filterMap (l[·]?)) (is.filterMap (vs[·]?))
  | [] => trivial
  | i :: is => by
    have ih := RPs.filterMap r is
    have e := r.length
    simp only [List.filterMap_cons]
    cases hl : l[i]? with
    | none =>
      have : vs[i]? = none := by rw [List.getElem?_eq_none_iff] at hl ⊢; omega
      rw [this]; exact ih
    | some d =>
      obtain ⟨y, hy, ry⟩ := r.get hl
      rw [hy]
      exact ⟨ry, ih⟩

theorem part_is (p : Option (Int × Tok)) : IsPart (partValue p) (p.map (·.1)) := by
  cases p with
  | none => exact .none
  | some q => exact .int _ _
theorem slice_sim {value slice : Expr} {Z α : List Addr} {mem : Mem} {A : Around} {E : Value → Shared → Prop} {s : Shared} (me : Me prog w hb s.heap Z α mem) (hst : hb.StaysIn s.heap)
    {x v : V} {a : Value} {l h t : Option (Int × Tok)} {sa : Addr} (hx : RV s.heap Z α x a) (hsl : ∃ o, s.heap.get? sa = some o ∧ o.cls = .type "slice" ∧ o.data = .fields #[partValue l, partValue h, partValue t])
    (hr : sliceV mem x (l.map (·.1)) (h.map (·.1)) (t.map (·.1)) = some v) {Q : Value → Shared → Prop}
    (hQ : ∀ y h' tk, RV h' Z α v y → Kp s.heap h' → hb.StaysIn h' → Q y { s with heap := h', toks := tk }) (hs : ∀ o i, ∃ ops, subscripted slice false o i = operate ops (getItem o i)) :
    wpAny (model prog w) A (subscriptTail value slice a (.ref sa)) Q E s := by
  obtain ⟨ops, hops⟩ := hs a (.ref sa)
  unfold sliceV at hr
  split at hr
  · exact noK hr
  · rename_i h0
    simp only [Option.bind_eq_some_iff] at hr
    obtain ⟨d, hd, hr⟩ := hr
    cases d <;> simp only [reduceCtorEq] at hr
    · split at hr
      · rename_i hlen
        obtain rfl := soK hr
        simp only [lenOk, decide_eq_true_eq] at hlen
        have := derP_rp me hd hx
        simp only [RP] at this
        obtain ⟨u, rfl⟩ := this
        refine tail_any (typeIs_str _ _ _) F.slot_str_getitem.lookup (wpAny_getItem_str_slice (l := l) (u := h) (st := t) hsl ?_ ?_) hops
        · cases t with
          | none => rfl
          | some q => simpa using h0
        · unfold sliceMade slicePicked
          split
          · rename_i hc
            have : sliceS _ (l.map (·.1)) (h.map (·.1)) (t.map (·.1)) = _ := if_pos hc
            exact hQ _ s.heap s.toks (by rw [this]; simp [RV, RP]) (.refl _) hst
          · rename_i hc
            have : sliceS _ (l.map (·.1)) (h.map (·.1)) (t.map (·.1)) = _ := if_neg hc
            rw [this] at hlen
            refine ⟨by rw [sizeLine_eq]; omega, hQ (.str _ _) s.heap _ ?_ (.refl _) hst⟩
            rw [this]; simp [RV, RP]
      · exact noK hr
    · split at hr
      · rename_i l' hl
        obtain rfl := soK hr
        obtain ⟨a1, vs, rfl, t1, r1⟩ := derP_lst me hd hx
        have e := r1.length
        simp only [lenOk, decide_eq_true_eq] at hl
        refine tail_any t1.typeIs slot_list_getitem.lookup (wpAny_getItem_list_slice t1.isList hsl (part_is l) (part_is h) (part_is t) h0 ?_ (by simp only [List.size_toArray]; rw [sizeLine_eq]; omega)) hops
        have rp := r1.filterMap (sliceRange (sliceBounds (l.map (·.1)) (h.map (·.1)) (t.map (·.1)) vs.length).1 (sliceBounds (l.map (·.1)) (h.map (·.1)) (t.map (·.1)) vs.length).2.1 (sliceBounds (l.map (·.1)) (h.map (·.1)) (t.map (·.1)) vs.length).2.2)
        have := RP.newList me rp
        refine hQ _ _ s.toks ?_ ((Kp.refl _).push _) (stays_push hst _)
        simp only [RV, sliceL, e]
        simpa [slicePick] using this
      · exact noK hr
theorem sim_slice {a : Expr} {lo hi stp : Option Expr} {f : XF} {g1 g2 g3 : XO} {pos p : Pos} (ha : SimE prog w hb n sc nm a f) (h1 : SimO prog w hb n sc nm lo g1) (h2 : SimO prog w hb n sc nm hi g2) (h3 : SimO prog w hb n sc nm stp g3)
    (hs : ∀ o i, ∃ ops, subscripted (.Slice lo hi stp p) false o i = operate ops (getItem o i) := by intro _ _; exact ⟨_, rfl⟩) : SimE prog w hb n sc nm (.Subscript a (.Slice lo hi stp p) pos) (xSlice f g1 g2 g3) := by
  intro env Z α A s mem sl v Q E hsc rm st hf hQ
  refine bindK hf fun x hx hf => bindK hf fun l hl hf => bindK hf fun h hh hf => bindK hf fun t ht hr => Subscript_ (ha env Z α A s mem sl x _ _ hsc rm st hx fun a1 h1' t1 r1 k1 s1 => ?_)
  refine wpAny_Slice (h1 env Z α A _ mem sl l _ _ hsc (rm.kp k1) (st.kp k1 s1) hl fun p2 h2' t2 e2 k2 s2 => ?_)
  have k12 := k1.trans k2
  refine h2 env Z α A _ mem sl h _ _ hsc (rm.kp k12) (st.kp k12 s2) hh fun p3 h3' t3 e3 k3 s3 => ?_
  have k13 := k12.trans k3
  refine h3 env Z α A _ mem sl t _ _ hsc (rm.kp k13) (st.kp k13 s3) ht fun p4 h4' t4 e4 k4 s4 => ?_
  have k14 := k13.trans k4
  subst e2 e3 e4
  have k15 := k14.push { cls := .type "slice", data := .fields #[partValue p2, partValue p3, partValue p4] }
  refine slice_sim (l := p2) (h := p3) (t := p4) (st.me.kp k15) (stays_push s4 _) (r1.kp (((k2.trans k3).trans k4).push _)) ⟨_, Heap.get?_push_size _ rfl, rfl, rfl⟩ hr (fun y h' tk ry kk ss => ?_) hs
  exact hQ y h' tk ry (k15.trans kk) ss
end
end Mine
end
section
open PySem.W
namespace Mine

/- data of the heap h, out of Z, are data of h', out of Z' -/
structure Mv (h : Heap) (Z : List Addr) (h' : Heap) (Z' : List Addr) : Prop where
  lst : ∀ a vs, a ∉ Z → LstAt h a vs → LstAt h' a vs
  tup : ∀ a vs, TupAt h a vs → TupAt h' a vs
  new : ∀ a ∈ Z', a ∈ Z ∨ h.get? a = none
theorem LstAt.some {h : Heap} {a : Addr} {vs : List Value} (x : LstAt h a vs) : h.get? a ≠ none := by
  obtain ⟨n, e⟩ := x; rw [e]; exact fun q => by cases q
mutual
theorem RP.mv {h h' : Heap} {Z Z' : List Addr} (k : Mv h Z h' Z') : ∀ (d : P) (v : Value), RP h Z d v → RP h' Z' d v
  | .none, v, x => by simpa [RP] using x
  | .bool b, v, x => by simpa [RP] using x
  | .int i, v, x => by simpa [RP] using x
  | .str s, v, x => by simpa [RP] using x
  | .ty n, v, x => by simpa [RP] using x
  | .tup l, v, x => by
    obtain ⟨a, vs, e, t, r⟩ := x
    exact ⟨a, vs, e, k.tup _ _ t, RPs.mv k l vs r⟩
  | .lst l, v, x => by
    obtain ⟨a, vs, e, t, z, r⟩ := x
    exact ⟨a, vs, e, k.lst _ _ z t, fun hz => (k.new a hz).elim z t.some, RPs.mv k l vs r⟩
theorem RPs.mv {h h' : Heap} {Z Z' : List Addr} (k : Mv h Z h' Z') : ∀ (l : List P) (vs : List Value), RPs h Z l vs → RPs h' Z' l vs
  | [], [], _ => trivial
  | d :: l, v :: vs, x => ⟨RP.mv k d v x.1, RPs.mv k l vs x.2⟩
  | [], _ :: _, x => x.elim
  | _ :: _, [], x => x.elim
end
theorem Mv.of_kp {h h' : Heap} {Z : List Addr} (k : Kp h h') : Mv h Z h' Z := ⟨fun _ _ _ x => k.lst x, fun _ _ x => k.tup x, fun _ x => .inl x⟩
theorem Mv.trans {h₁ h₂ h₃ : Heap} {Z₁ Z₂ Z₃ : List Addr} (x : Mv h₁ Z₁ h₂ Z₂) (y : Mv h₂ Z₂ h₃ Z₃) (g : ∀ b o, h₁.get? b = some o → ∃ o', h₂.get? b = some o') : Mv h₁ Z₁ h₃ Z₃ where
  lst := fun a vs hz hl => y.lst a vs (fun q => (x.new a q).elim hz hl.some) (x.lst a vs hz hl)
  tup := fun a vs ht => y.tup a vs (x.tup a vs ht)
  new := fun a ha => by
    rcases y.new a ha with h | h
    · exact x.new a h
    · refine .inr ?_
      cases e : h₁.get? a with
      | none => rfl
      | some o => obtain ⟨o', e'⟩ := g a o e; exact nos h e'
theorem RX.mv {h h' : Heap} {Z Z' α α' : List Addr} (k : Mv h Z h' Z') (p : α <+: α') : ∀ {d : P ⊕ Nat} {v : Value}, RX h Z α d v → RX h' Z' α' d v
  | .inl d, v, x => RP.mv k d v x
  | .inr _, _, ⟨a, e, r⟩ => ⟨a, by
      obtain ⟨t, rfl⟩ := p
      rw [List.getElem?_append_left]
      · exact e
      · exact (List.getElem?_eq_some_iff.mp e).1, r⟩
theorem RXs.mv {h h' : Heap} {Z Z' α α' : List Addr} (k : Mv h Z h' Z') (p : α <+: α') : ∀ {l : List (P ⊕ Nat)} {vs : List Value}, RXs h Z α l vs → RXs h' Z' α' l vs
  | [], [], _ => trivial
  | _ :: _, _ :: _, x => ⟨x.1.mv k p, RXs.mv k p x.2⟩
  | [], _ :: _, x => x.elim
  | _ :: _, [], x => x.elim
theorem RV.mv {h h' : Heap} {Z Z' α α' : List Addr} (k : Mv h Z h' Z') (p : α <+: α') : ∀ {d : V} {v : Value}, RV h Z α d v → RV h' Z' α' d v
  | .p d, v, x => RP.mv k d v x
  | .c j, v, x => RX.mv (d := .inr j) k p x
  | .t l, v, ⟨a, vs, e, t, r⟩ => ⟨a, vs, e, k.tup _ _ t, r.mv k p⟩
theorem RKs.mv {h h' : Heap} {Z Z' : List Addr} (k : Mv h Z h' Z') : ∀ {l : List (Str × P)} {vs : List (Str × Value)}, RKs h Z l vs → RKs h' Z' l vs
  | [], [], _ => trivial
  | _ :: _, _ :: _, x => ⟨x.1, RP.mv k _ _ x.2.1, RKs.mv k x.2.2⟩
  | [], _ :: _, x => x.elim
  | _ :: _, [], x => x.elim

/- the frame's own objects -/
noncomputable def Own (env : Env) (α : List Addr) (a : Addr) : Prop := a = env.locals ∨ (∃ x, env.kindOf x = some .cell ∧ env.cells.lookup x = some a) ∨ a ∈ α
noncomputable def KB (B : Addr → Prop) (h h' : Heap) : Prop := ∀ a o, h.get? a = some o → ¬ B a → ∃ sl, h'.get? a = some { o with slots := sl } ∧ (o.cls ≠ .type "frame" → sl = o.slots)

/- what becomes of an object: a frame's stays one -/
noncomputable def FrK (o : Obj) (h' : Heap) (b : Addr) : Prop := ∃ o', h'.get? b = some o' ∧ ((∀ vs, o.data ≠ .fields vs) → ∀ vs, o'.data ≠ .fields vs) ∧ (∀ es ep, o.data = .dict es ep → o'.cls = o.cls ∧ ∃ es' ep', o'.data = .dict es' ep')
theorem FrK.same {o : Obj} {h' : Heap} {b : Addr} (e : h'.get? b = some o) : FrK o h' b := ⟨o, e, fun x => x, fun es ep d => ⟨rfl, es, ep, d⟩⟩
theorem FrK.slots {o : Obj} {h' : Heap} {b : Addr} {sl : Array (Option Value)} (e : h'.get? b = some { o with slots := sl }) : FrK o h' b := ⟨_, e, fun x => x, fun es ep d => ⟨rfl, es, ep, d⟩⟩
theorem FrK.trans {o : Obj} {h₁ h₂ : Heap} {b : Addr} (x : FrK o h₁ b) (y : ∀ o', h₁.get? b = some o' → FrK o' h₂ b) : FrK o h₂ b := by
  obtain ⟨o1, e1, q1, r1⟩ := x
  obtain ⟨o2, e2, q2, r2⟩ := y o1 e1
  refine ⟨o2, e2, fun h => q2 (q1 h), fun es ep d => ?_⟩
  obtain ⟨c1, es1, ep1, d1⟩ := r1 es ep d
  obtain ⟨c2, r⟩ := r2 es1 ep1 d1
  exact ⟨c2.trans c1, r⟩
structure Nx (h : Heap) (env : Env) (Z α : List Addr) (h' : Heap) (Z' α' : List Addr) : Prop where
  kb : KB (Own env α) h h'
  mv : Mv h Z h' Z'
  pre : α <+: α'
  new : ∀ a ∈ α', a ∈ α ∨ h.get? a = none
  zsub : ∀ a ∈ Z, a ∈ Z'
  fr : ∀ b o, h.get? b = some o → FrK o h' b
theorem Nx.of_kp {h h' : Heap} {env : Env} {Z α : List Addr} (k : Kp h h') : Nx h env Z α h' Z α where
  kb := fun a o e _ => k a o e
  mv := .of_kp k
  pre := List.prefix_refl _
  new := fun _ x => .inl x
  zsub := fun _ x => x
  fr := fun b o e => let ⟨_, e', _⟩ := k b o e; .slots e'
theorem none_of {h h' : Heap} (g : ∀ b o, h.get? b = some o → ∃ o', h'.get? b = some o') {a : Addr} (e : h'.get? a = none) : h.get? a = none := by
  cases q : h.get? a with
  | none => rfl
  | some o => obtain ⟨o', e'⟩ := g a o q; exact nos e e'
theorem Nx.some {h h' : Heap} {env : Env} {Z α Z' α' : List Addr} (x : Nx h env Z α h' Z' α') : ∀ b o, h.get? b = some o → ∃ o', h'.get? b = some o' :=
  fun b o e => let ⟨o', e', _⟩ := x.fr b o e; ⟨o', e'⟩
theorem Nx.trans {h₁ h₂ h₃ : Heap} {env : Env} {Z₁ α₁ Z₂ α₂ Z₃ α₃ : List Addr} (x : Nx h₁ env Z₁ α₁ h₂ Z₂ α₂) (y : Nx h₂ env Z₂ α₂ h₃ Z₃ α₃) : Nx h₁ env Z₁ α₁ h₃ Z₃ α₃ where
  kb := fun a o e hn => by
    obtain ⟨sl, e1, q1⟩ := x.kb a o e hn
    obtain ⟨sl', e2, q2⟩ := y.kb a _ e1 (fun ho => hn (by
      rcases ho with h | h | h
      · exact .inl h
      · exact .inr (.inl h)
      · rcases x.new a h with h | h
        · exact .inr (.inr h)
        · exact nos h e))
    exact ⟨sl', e2, fun hc => (q2 hc).trans (q1 hc)⟩
  mv := x.mv.trans y.mv x.some
  pre := x.pre.trans y.pre
  new := fun a ha => by
    rcases y.new a ha with h | h
    · exact x.new a h
    · exact .inr (none_of x.some h)
  zsub := fun a ha => y.zsub a (x.zsub a ha)
  fr := fun b o e => (x.fr b o e).trans (y.fr b)
theorem funFrames_fr {h h' base : Heap} (k : ∀ b o, h.get? b = some o → FrK o h' b) : ∀ {l : List Env}, h.FunFrames base l → h'.FunFrames base l
  | [], _ => trivial
  | env :: rest, ⟨h1, ⟨L, o, h2, h3, h4, h5⟩, h6⟩ => by
    obtain ⟨o', e', q, _⟩ := k L o h4
    exact ⟨h1, ⟨L, o', h2, h3, e', q h5⟩, funFrames_fr k h6⟩
theorem FrC.fr {h h' : Heap} {fs : List Env} (x : FrC h fs) (k : ∀ b o, h.get? b = some o → FrK o h' b) : FrC h' fs := fun env he L hL => by
  obtain ⟨o, es, ep, eo, hc, hd⟩ := x env he L hL
  obtain ⟨o', e', _, r⟩ := k L o eo
  obtain ⟨c, es', ep', d⟩ := r es ep hd
  exact ⟨o', es', ep', e', c.trans hc, d⟩
theorem Rm.nx {hb h h' : Heap} {env : Env} {Z α Z' α' : List Addr} (k : Nx h env Z α h' Z' α') {n : Nat} {A : Around} (x : Rm hb n A h) : Rm hb n A h' := by
  obtain ⟨fs, e, ff, fc⟩ := x.frs
  exact ⟨x.hd, x.dep, x.uni, fs, e, funFrames_fr k.fr ff, fc.fr k.fr⟩

/- the body of a function -/
structure Bd (hb : Heap) (A : Around) (h : Heap) (Z : List Addr) (env : Env) : Prop where
  loc : hb.get? env.locals = none
  locZ : env.locals ∉ Z
  fr : env.frame = some env.locals
  top : ∃ outer, A.frames = some (env :: outer)
  cel : ∀ x c, env.kindOf x = some .cell → env.cells.lookup x = some c → (∃ v, h.IsCell c v) ∧ hb.get? c = none ∧ c ∉ Z ∧ c ≠ env.locals
  has : ∀ x, env.kindOf x = some .cell → ∃ c, env.cells.lookup x = some c
  apart : ∀ x y c, env.cells.lookup x = some c → env.cells.lookup y = some c → x = y
  nofree : ∀ x, env.kindOf x ≠ some .free
theorem Bd.kp {hb h h' : Heap} {A : Around} {Z : List Addr} {env : Env} (k : Kp h h') (b : Bd hb A h Z env) : Bd hb A h' Z env where
  loc := b.loc
  locZ := b.locZ
  fr := b.fr
  top := b.top
  cel := fun x c h1 h2 => let ⟨⟨v, i⟩, r⟩ := b.cel x c h1 h2; ⟨⟨v, k.isCell i⟩, r⟩
  has := b.has
  apart := b.apart
  nofree := b.nofree

inductive Out where
  | next
  | brk
  | cont
  | ret (v : V)
noncomputable abbrev SF := Mem → Slots → Option (Out × Mem × Slots)
noncomputable def RF (h : Heap) (Z α : List Addr) : Out → Flow → Prop
  | .next, f => f = .next
  | .brk, f => f = .brk
  | .cont, f => f = .cont
  | .ret v, f => ∃ y, f = .ret y ∧ RV h Z α v y

section
variable (prog : Program) (w : World) (hb : Heap) (n : Nat) (sc : Scope) (nm : List Str)
noncomputable def SimS (c : Stmt) (F : SF) : Prop :=
  ∀ (env : Env) (Z α : List Addr) (A : Around) (s : Shared) (mem : Mem) (sl : Slots) (o : Out) (mem' : Mem) (sl' : Slots) (Q : Flow → Shared → Prop) (E : Value → Shared → Prop),
    env.scope = sc → Rm hb n A s.heap → Bd hb A s.heap Z env → St prog w hb env nm Z α mem sl s.heap → F mem sl = some (o, mem', sl') →
    (∀ fl h' tk Z' α', Nx s.heap env Z α h' Z' α' → Bd hb A h' Z' env → St prog w hb env nm Z' α' mem' sl' h' → RF h' Z' α' o fl → Q fl { s with heap := h', toks := tk }) →
    wpAny (model prog w) A (exec c env) Q E s
noncomputable def SimB (cs : List Stmt) (F : SF) : Prop :=
  ∀ (env : Env) (Z α : List Addr) (A : Around) (s : Shared) (mem : Mem) (sl : Slots) (o : Out) (mem' : Mem) (sl' : Slots) (Q : Flow → Shared → Prop) (E : Value → Shared → Prop),
    env.scope = sc → Rm hb n A s.heap → Bd hb A s.heap Z env → St prog w hb env nm Z α mem sl s.heap → F mem sl = some (o, mem', sl') →
    (∀ fl h' tk Z' α', Nx s.heap env Z α h' Z' α' → Bd hb A h' Z' env → St prog w hb env nm Z' α' mem' sl' h' → RF h' Z' α' o fl → Q fl { s with heap := h', toks := tk }) →
    wpAny (model prog w) A (execs cs env) Q E s
end
section
variable {prog : Program} {w : World} {hb : Heap} {n : Nat} {sc : Scope} {nm : List Str}

noncomputable def bNil : SF := fun mem sl => some (.next, mem, sl)
noncomputable def bCons (f g : SF) : SF := fun mem sl => (f mem sl).bind fun r => match r with
  | (.next, mem', sl') => g mem' sl'
  | r => some r
theorem simB_nil : SimB prog w hb n sc nm [] bNil := by
  intro env Z α A s mem sl o mem' sl' Q E hsc rm bd st hf hQ
  obtain ⟨rfl, rfl, rfl⟩ := so3 hf
  exact wpAny_execs_nil (hQ .next s.heap s.toks Z α (.of_kp (.refl _)) bd st rfl)
theorem simB_cons {c : Stmt} {cs : List Stmt} {f g : SF} (hc : SimS prog w hb n sc nm c f) (hr : SimB prog w hb n sc nm cs g) : SimB prog w hb n sc nm (c :: cs) (bCons f g) := by
  intro env Z α A s mem sl o mem' sl' Q E hsc rm bd st hf hQ
  simp only [bCons, Option.bind_eq_some_iff] at hf
  obtain ⟨⟨o1, mem1, sl1⟩, h1, h2⟩ := hf
  refine wpAny_execs_cons (hc env Z α A s mem sl o1 mem1 sl1 _ _ hsc rm bd st h1 fun fl h' tk Z' α' nx bd' st' rf => ?_)
  cases o1 with
  | next =>
    obtain rfl : fl = .next := rf
    exact hr env Z' α' A { s with heap := h', toks := tk } mem1 sl1 o mem' sl' Q E hsc (rm.nx nx) bd' st' h2 fun fl2 h2' tk2 Z2 α2 nx2 bd2 st2 rf2 => hQ fl2 h2' tk2 Z2 α2 (nx.trans nx2) bd2 st2 rf2
  | brk =>
    obtain rfl : fl = .brk := rf
    cases h2
    exact hQ _ h' tk Z' α' nx bd' st' rfl
  | cont =>
    obtain rfl : fl = .cont := rf
    cases h2
    exact hQ _ h' tk Z' α' nx bd' st' rfl
  | ret v =>
    obtain ⟨y, rfl, ry⟩ := rf
    obtain ⟨rfl, rfl, rfl⟩ := so3 h2
    exact hQ _ h' tk Z' α' nx bd' st' ⟨y, rfl, ry⟩

noncomputable def sRet (f : XF) : SF := fun mem sl => (f mem sl).map fun v => (.ret v, mem, sl)
theorem sim_ret {e : Expr} {f : XF} {pos : Pos} (he : SimE prog w hb n sc nm e f) : SimS prog w hb n sc nm (.Return (some e) pos) (sRet f) := by
  intro env Z α A s mem sl o mem' sl' Q E hsc rm bd st hf hQ
  simp only [sRet, Option.map_eq_some_iff] at hf
  obtain ⟨v, hv, e⟩ := hf
  cases e
  refine wpAny_Return_some (he env Z α A s mem sl v _ _ hsc rm st hv fun y h' tk ry k hs => ?_)
  exact hQ (.ret y) h' tk Z α (.of_kp k) (bd.kp k) (st.kp k hs) ⟨y, rfl, ry⟩

noncomputable def sIf (t : TF) (f g : SF) : SF := fun mem sl => (t mem sl).bind fun c => if c = true then f mem sl else g mem sl
theorem sim_sif {t : Expr} {b r : List Stmt} {ft : TF} {f g : SF} {pos : Pos} (ht : SimT prog w hb n sc nm t ft) (hb1 : SimB prog w hb n sc nm b f) (hr : SimB prog w hb n sc nm r g) : SimS prog w hb n sc nm (.If t b r pos) (sIf ft f g) := by
  intro env Z α A s mem sl o mem' sl' Q E hsc rm bd st hf hQ
  simp only [sIf, Option.bind_eq_some_iff] at hf
  obtain ⟨c, hc, hr1⟩ := hf
  refine wpAny_If (ht env Z α A s mem sl c _ _ hsc rm st hc fun h1 t1 k1 s1 => ?_)
  cases c with
  | true =>
    simp only [if_true] at hr1 ⊢
    exact hb1 env Z α A _ mem sl o mem' sl' Q E hsc (rm.kp k1) (bd.kp k1) (st.kp k1 s1) hr1 fun fl h' tk Z' α' nx bd' st' rf => hQ fl h' tk Z' α' ((Nx.of_kp k1).trans nx) bd' st' rf
  | false =>
    simp only [Bool.false_eq_true, if_false] at hr1 ⊢
    exact hr env Z α A _ mem sl o mem' sl' Q E hsc (rm.kp k1) (bd.kp k1) (st.kp k1 s1) hr1 fun fl h' tk Z' α' nx bd' st' rf => hQ fl h' tk Z' α' ((Nx.of_kp k1).trans nx) bd' st' rf
noncomputable def sBrk : SF := fun mem sl => some (.brk, mem, sl)
theorem sim_brk {pos : Pos} : SimS prog w hb n sc nm (.Break pos) sBrk := by
  intro env Z α A s mem sl o mem' sl' Q E hsc rm bd st hf hQ
  obtain ⟨rfl, rfl, rfl⟩ := so3 hf
  show wpAny _ _ (do standAt pos; pure Flow.brk : Sem Flow) _ _ s
  exact wpAny_bind (wpAny_standAt (wpAny_pure (hQ .brk s.heap s.toks Z α (.of_kp (.refl _)) bd st rfl)))

/- storing a name -/
theorem Mv.sameBut_ns {h h' : Heap} {L : Addr} {m : Str → Option Value} {Z : List Addr} (hn : h.Ns L m) (hs : Heap.SameBut L h h') : Mv h Z h' Z where
  lst := fun a vs _ ⟨k, e⟩ => ⟨k, (hs.2 a (fun q => by subst q; obtain ⟨o, es, ep, e', d, _⟩ := hn; obtain rfl := soK (e.symm.trans e'); cases d)).trans e⟩
  tup := fun a vs ⟨k, e⟩ => ⟨k, (hs.2 a (fun q => by subst q; obtain ⟨o, es, ep, e', d, _⟩ := hn; obtain rfl := soK (e.symm.trans e'); cases d)).trans e⟩
  new := fun a ha => .inl ha
theorem Mv.sameBut_cell {h h' : Heap} {L : Addr} {v : Option Value} {Z : List Addr} (hn : h.IsCell L v) (hs : Heap.SameBut L h h') : Mv h Z h' Z where
  lst := fun a vs _ ⟨k, e⟩ => ⟨k, (hs.2 a (fun q => by subst q; obtain ⟨o, e', d⟩ := hn; obtain rfl := soK (e.symm.trans e'); cases d)).trans e⟩
  tup := fun a vs ⟨k, e⟩ => ⟨k, (hs.2 a (fun q => by subst q; obtain ⟨o, e', d⟩ := hn; obtain rfl := soK (e.symm.trans e'); cases d)).trans e⟩
  new := fun a ha => .inl ha
theorem Me.mv {h h' : Heap} {Z α : List Addr} {mem : Mem} (k : Mv h Z h' Z) (hk : ∀ a ∈ Z, ∀ o, h.get? a = some o → h'.get? a = some o) (x : Me prog w hb h Z α mem) : Me prog w hb h' Z α mem where
  len := x.len
  nd := x.nd
  sub := x.sub
  new := x.new
  zin := fun a ha => let ⟨o, e⟩ := x.zin a ha; ⟨o, hk a ha o e⟩
  here := fun i a o h1 h2 => by
    have ha := x.sub a (List.mem_of_getElem? h1)
    have := x.here i a o h1 h2
    cases o with
    | ml l =>
      obtain ⟨vs, ⟨k', e⟩, r⟩ := this
      exact ⟨vs, ⟨k', hk a ha _ e⟩, RPs.mv k l vs r⟩
    | md l =>
      obtain ⟨kvs, ⟨o, es, ep, ho, q⟩, r⟩ := this
      exact ⟨kvs, ⟨o, es, ep, hk a ha _ ho, q⟩, r.mv k⟩
noncomputable def kindL (sc : Scope) (x : Str) : Bool := match sc.names.lookup x with
  | some .local => true
  | some .cell => true
  | _ => false
theorem nodup_at {nm : List Str} (hnd : nm.Nodup) {i j : Nat} {x : Str} (hi : nm[i]? = some x) (hj : nm[j]? = some x) : i = j := by
  obtain ⟨h1, e1⟩ := List.getElem?_eq_some_iff.mp hi
  obtain ⟨h2, e2⟩ := List.getElem?_eq_some_iff.mp hj
  rcases Nat.lt_trichotomy i j with h | h | h
  · exact absurd (e1.trans e2.symm) (List.pairwise_iff_getElem.mp hnd i j h1 h2 h)
  · exact h
  · exact absurd (e2.trans e1.symm) (List.pairwise_iff_getElem.mp hnd j i h2 h1 h)
theorem store_sim {i : Nat} {x : Str} (hx : nm[i]? = some x) (hnd : nm.Nodup) (hk : kindL sc x = true) {env : Env} {Z α : List Addr} {A : Around} {s : Shared} {mem : Mem} {sl : Slots} {v : V} {y : Value} {Q : Unit → Shared → Prop} {E : Value → Shared → Prop}
    (hsc : env.scope = sc) (bd : Bd hb A s.heap Z env) (st : St prog w hb env nm Z α mem sl s.heap) (ry : RV s.heap Z α v y)
    (hQ : ∀ h' tk, Nx s.heap env Z α h' Z α → Bd hb A h' Z env → St prog w hb env nm Z α mem (sl.set i (some v)) h' → Q () { s with heap := h', toks := tk }) :
    wpAny (model prog w) A (storeName env x y) Q E s := by
  subst hsc
  obtain ⟨m, hn, hv⟩ := st.fm.vars
  have hset : ∀ (j : Nat) (v' : V), (sl.set i (some v))[j]? = some (some v') → (j = i ∧ v' = v) ∨ (j ≠ i ∧ sl[j]? = some (some v')) := fun j v' e => by
    by_cases hj : j = i
    · subst hj
      rw [List.getElem?_set] at e
      simp at e
      exact .inl ⟨rfl, e.2.symm⟩
    · rw [List.getElem?_set_ne (fun q => hj q.symm)] at e
      exact .inr ⟨hj, e⟩
  have hkk : env.kindOf x = some .local ∨ env.kindOf x = some .cell := by
    unfold kindL at hk
    unfold Env.kindOf
    split at hk
    · exact .inl (by assumption)
    · exact .inr (by assumption)
    · cases hk
  rcases hkk with hl | hl
  · rw [storeName_local hl (by rw [st.fm.kind]; rfl)]
    refine nsSetC hn fun h' hn' hs hcl => ?_
    have mv : Mv s.heap Z h' Z := .sameBut_ns hn hs
    have keepZ : ∀ a ∈ Z, ∀ o, s.heap.get? a = some o → h'.get? a = some o := fun a ha o e => (hs.2 a (fun q => bd.locZ (q ▸ ha))).trans e
    refine hQ h' _ ⟨fun a o e hnb => ⟨o.slots, (hs.2 a (fun q => hnb (.inl q))).trans e, fun _ => rfl⟩, mv, List.prefix_refl _, fun a ha => .inl ha, fun a ha => ha, fun b o e => ?_⟩
      ⟨bd.loc, bd.locZ, bd.fr, bd.top, fun x' c h1 h2 => ?_, bd.has, bd.apart, bd.nofree⟩ ⟨⟨st.fm.kind, st.fm.glob, st.fm.blt, _, hn', fun j x' v' h1 h2 => ?_⟩, st.me.mv mv keepZ, fun b o e => ?_⟩
    · by_cases hbL : b = env.locals
      · subst hbL
        obtain ⟨o', es, ep, e', d', _⟩ := hn'
        obtain ⟨o2, e2, c2⟩ := hcl o e
        obtain rfl := soK (e'.symm.trans e2)
        exact ⟨o', e', (fun _ vs q => by rw [d'] at q; cases q), fun _ _ _ => ⟨c2, es, ep, d'⟩⟩
      · exact .same ((hs.2 b hbL).trans e)
    · obtain ⟨⟨v0, ic⟩, r1, r2, r3⟩ := bd.cel x' c h1 h2
      exact ⟨⟨v0, ic.sameBut hs r3⟩, r1, r2, r3⟩
    · rcases hset j v' h2 with ⟨rfl, rfl⟩ | ⟨hj, h2⟩
      · obtain rfl := soK (hx.symm.trans h1)
        exact ⟨y, .inl ⟨hl, by simp⟩, ry.mv mv (List.prefix_refl _)⟩
      · obtain ⟨y', hva, hr⟩ := hv j x' v' h1 h2
        refine ⟨y', ?_, hr.mv mv (List.prefix_refl _)⟩
        have hne : x' ≠ x := fun q => hj (nodup_at hnd (q ▸ h1) hx)
        rcases hva with ⟨hk1, hm1⟩ | ⟨c, hk1, hc1, ic⟩
        · exact .inl ⟨hk1, by simp [hne, hm1]⟩
        · have hkc : env.kindOf x' = some .cell := hk1.elim id (fun q => absurd q.1 (bd.nofree x'))
          exact .inr ⟨c, hk1, hc1, ic.sameBut hs (bd.cel x' c hkc hc1).2.2.2⟩
    · exact (hs.2 b (fun q => by rw [q, bd.loc] at e; exact noK e)).trans (st.stays b o e)
  · obtain ⟨c, hc⟩ := bd.has x hl
    obtain ⟨⟨v0, ic⟩, hcb, hcZ, hcL⟩ := bd.cel x c hl hc
    refine wpAny_storeName_cell st.fm.kind hl hc ic fun h' ic' hs => ?_
    have mv : Mv s.heap Z h' Z := .sameBut_cell ic hs
    have keepZ : ∀ a ∈ Z, ∀ o, s.heap.get? a = some o → h'.get? a = some o := fun a ha o e => (hs.2 a (fun q => hcZ (q ▸ ha))).trans e
    refine hQ h' s.toks ⟨fun a o e hnb => ⟨o.slots, (hs.2 a (fun q => hnb (.inr (.inl ⟨x, hl, q ▸ hc⟩)))).trans e, fun _ => rfl⟩, mv, List.prefix_refl _, fun a ha => .inl ha, fun a ha => ha, fun b o e => ?_⟩
      ⟨bd.loc, bd.locZ, bd.fr, bd.top, fun x' c' h1 h2 => ?_, bd.has, bd.apart, bd.nofree⟩ ⟨⟨st.fm.kind, st.fm.glob, st.fm.blt, m, hn.sameBut hs (Ne.symm hcL), fun j x' v' h1 h2 => ?_⟩, st.me.mv mv keepZ, fun b o e => ?_⟩
    · by_cases hbL : b = c
      · subst hbL
        obtain ⟨o', e', d'⟩ := ic'
        obtain ⟨o0, e0, d0⟩ := ic
        obtain rfl := soK (e.symm.trans e0)
        exact ⟨o', e', (fun _ vs q => by rw [d'] at q; cases q), fun es ep q => by rw [d0] at q; cases q⟩
      · exact .same ((hs.2 b hbL).trans e)
    · obtain ⟨⟨v1, ic1⟩, r1, r2, r3⟩ := bd.cel x' c' h1 h2
      by_cases hcc : c' = c
      · subst hcc; exact ⟨⟨_, ic'⟩, r1, r2, r3⟩
      · exact ⟨⟨v1, ic1.sameBut hs hcc⟩, r1, r2, r3⟩
    · rcases hset j v' h2 with ⟨rfl, rfl⟩ | ⟨hj, h2⟩
      · obtain rfl := soK (hx.symm.trans h1)
        exact ⟨y, .inr ⟨c, .inl hl, hc, ic'⟩, ry.mv mv (List.prefix_refl _)⟩
      · obtain ⟨y', hva, hr⟩ := hv j x' v' h1 h2
        refine ⟨y', ?_, hr.mv mv (List.prefix_refl _)⟩
        have hne : x' ≠ x := fun q => hj (nodup_at hnd (q ▸ h1) hx)
        rcases hva with ⟨hk1, hm1⟩ | ⟨c1, hk1, hc1, ic1⟩
        · exact .inl ⟨hk1, hm1⟩
        · have : c1 ≠ c := fun q => hne (bd.apart x' x c1 hc1 (q ▸ hc))
          exact .inr ⟨c1, hk1, hc1, ic1.sameBut hs this⟩
    · exact (hs.2 b (fun q => by rw [q, hcb] at e; exact noK e)).trans (st.stays b o e)

noncomputable def sSet (i : Nat) (f : XF) : SF := fun mem sl => (f mem sl).map fun v => (.next, mem, sl.set i (some v))
end
end Mine
end
section
open PySem.W
namespace Mine
section
variable {prog : Program} {w : World} {hb : Heap} {n : Nat} {sc : Scope} {nm : List Str}

/- an expression that makes a new object -/
noncomputable abbrev XN := Mem → Slots → Option MO
noncomputable def SimN (prog : Program) (w : World) (hb : Heap) (n : Nat) (sc : Scope) (nm : List Str) (e : Expr) (f : XN) : Prop :=
  ∀ (env : Env) (Z α : List Addr) (A : Around) (s : Shared) (mem : Mem) (sl : Slots) (o : MO) (Q E : Value → Shared → Prop),
    env.scope = sc → Rm hb n A s.heap → St prog w hb env nm Z α mem sl s.heap → f mem sl = some o →
    (∀ a h' tk, s.heap.get? a = none → MA prog w h' (a :: Z) a o → Kp s.heap h' → hb.StaysIn h' → (∃ q, h'.get? a = some q) → Q (.ref a) { s with heap := h', toks := tk }) →
    wpAny (model prog w) A (eval e env) Q E s

theorem Mv.fresh {h : Heap} {Z : List Addr} {o : Obj} : Mv h Z (h.push o) (h.objs.size :: Z) where
  lst := fun a vs _ x => ((Kp.refl h).push o).lst x
  tup := fun a vs x => ((Kp.refl h).push o).tup x
  new := fun a ha => by
    rcases List.mem_cons.mp ha with rfl | ha
    · exact .inr (Heap.get?_none_of_le (Nat.le_refl _))
    · exact .inl ha
theorem Kp.none_of {h h' : Heap} (k : Kp h h') {a : Addr} (e : h'.get? a = none) : h.get? a = none := by
  cases q : h.get? a with
  | none => rfl
  | some o => obtain ⟨_, e', _⟩ := k a o q; exact nos e e'
theorem Kp.fresh {h h' : Heap} (k : Kp h h') : h.get? h'.objs.size = none := k.none_of (Heap.get?_none_of_le (Nat.le_refl _))

noncomputable def nList (f : XFs) : XN := fun mem sl => (f mem sl).bind fun l => (allP l).bind fun ds => if lenOk ds.length then some (.ml ds) else none
theorem simN_list {es : List Expr} {f : XFs} {pos : Pos} (h : SimEs prog w hb n sc nm es f) : SimN prog w hb n sc nm (.List es pos) (nList f) := by
  intro env Z α A s mem sl o Q E hsc rm st hf hQ
  simp only [nList, Option.bind_eq_some_iff] at hf
  obtain ⟨l, hl, ds, hd, hr⟩ := hf
  split at hr
  · rename_i hs
    obtain rfl := soK hr
    simp only [lenOk, decide_eq_true_eq] at hs
    refine List_ (h env Z α A s mem sl l _ _ pos hsc rm st hl fun ys h1 t1 r1 k1 s1 => ?_)
    have rp := allP_rp hd r1
    have e := rp.length
    refine wpAny_newList ?_ (by rw [sizeLine_eq]; omega)
    refine hQ _ _ t1 k1.fresh ⟨ys, ⟨_, Heap.get?_push_size _ rfl⟩, RPs.mv Mv.fresh _ _ rp⟩ (k1.push _) (stays_push s1 _) ⟨_, Heap.get?_push_size _ rfl⟩
  · exact noK hr
noncomputable def nDict : XN := fun _ _ => some (.md [])
theorem simN_dict {pos : Pos} : SimN prog w hb n sc nm (.Dict [] [] pos) nDict := by
  intro env Z α A s mem sl o Q E hsc rm st hf hQ
  obtain rfl := soK hf
  refine wpAny_Dict_empty (hQ _ _ s.toks (Kp.refl _).fresh ⟨[], Heap.DictOf.new _, trivial⟩ ((Kp.refl _).push _) (stays_push st.stays _) ⟨_, Heap.get?_push_size _ rfl⟩)

theorem Me.add {h h' : Heap} {Z α : List Addr} {mem : Mem} {a : Addr} {o : MO} (x : Me prog w hb h Z α mem) (k : Kp h h') (ha : h.get? a = none) (hbs : hb.StaysIn h) (m : MA prog w h' (a :: Z) a o) (hq : ∃ q, h'.get? a = some q) :
    Me prog w hb h' (a :: Z) (α ++ [a]) (mem ++ [o]) := by
  have mv : Mv h Z h' (a :: Z) := ⟨fun _ _ _ x => k.lst x, fun _ _ x => k.tup x, fun b hb' => by
    rcases List.mem_cons.mp hb' with rfl | hb'
    · exact .inr ha
    · exact .inl hb'⟩
  have hne : ∀ b ∈ Z, b ≠ a := fun b hb' q => by obtain ⟨o', e⟩ := x.zin b hb'; rw [q, ha] at e; exact noK e
  refine ⟨by simp [x.len], ?_, ?_, ?_, ?_, ?_⟩
  · rw [List.nodup_append]
    refine ⟨x.nd, by simp, fun b hb' c hc => ?_⟩
    simp at hc; subst hc
    exact hne b (x.sub b hb')
  · intro b hb'
    rcases List.mem_append.mp hb' with h1 | h1
    · exact List.mem_cons_of_mem _ (x.sub b h1)
    · simp at h1; subst h1; exact List.mem_cons_self
  · intro b hb'
    rcases List.mem_append.mp hb' with h1 | h1
    · exact x.new b h1
    · simp at h1; subst h1
      cases q : hb.get? b with
      | none => rfl
      | some o' => have := hbs b o' q; exact nos ha this
  · intro b hb'
    rcases List.mem_cons.mp hb' with rfl | hb'
    · exact hq
    · obtain ⟨o', e⟩ := x.zin b hb'; obtain ⟨_, e', _⟩ := k b o' e; exact ⟨_, e'⟩
  · intro i b o' h1 h2
    by_cases hi : i < α.length
    · rw [List.getElem?_append_left hi] at h1
      rw [List.getElem?_append_left (by rw [← x.len]; exact hi)] at h2
      have := x.here i b o' h1 h2
      cases o' with
      | ml l =>
        obtain ⟨vs, e, r⟩ := this
        exact ⟨vs, k.lst e, RPs.mv mv l vs r⟩
      | md l =>
        obtain ⟨kvs, ⟨ob, es, ep, ho, q⟩, r⟩ := this
        exact ⟨kvs, ⟨ob, es, ep, k.exact ho (by rw [q.1.1]; exact ty_ne (by decide)), q⟩, r.mv mv⟩
    · have hl := x.len
      rw [List.getElem?_append_right (by omega)] at h1
      rw [List.getElem?_append_right (by omega)] at h2
      have : i - α.length = 0 := by
        rcases Nat.eq_zero_or_pos (i - α.length) with h | h
        · exact h
        · exact nos (List.getElem?_eq_none (by simp; omega)) h1
      rw [this] at h1
      rw [← hl, this] at h2
      simp at h1 h2
      subst h1 h2
      exact m

theorem Nx.add {h h' : Heap} {env : Env} {Z α : List Addr} {a : Addr} (k : Kp h h') (ha : h.get? a = none) : Nx h env Z α h' (a :: Z) (α ++ [a]) where
  kb := fun b o e _ => k b o e
  mv := ⟨fun _ _ _ x => k.lst x, fun _ _ x => k.tup x, fun b hb' => by
    rcases List.mem_cons.mp hb' with rfl | hb'
    · exact .inr ha
    · exact .inl hb'⟩
  pre := List.prefix_append _ _
  new := fun b hb' => by
    rcases List.mem_append.mp hb' with h1 | h1
    · exact .inl h1
    · simp at h1; subst h1; exact .inr ha
  zsub := fun b hb' => List.mem_cons_of_mem _ hb'
  fr := fun b o e => let ⟨_, e', _⟩ := k b o e; .slots e'
theorem Fm.mv {h h' : Heap} {Z Z' α α' : List Addr} {env : Env} {nm : List Str} {sl : Slots} (F : Fm h Z α env nm sl) (k : Mv h Z h' Z') (p : α <+: α') (hns : ∀ m, h.Ns env.locals m → h'.Ns env.locals m)
    (hc : ∀ c v, h.IsCell c v → h'.IsCell c v) : Fm h' Z' α' env nm sl := by
  obtain ⟨m, hn, hv⟩ := F.vars
  refine ⟨F.kind, F.glob, F.blt, m, hns m hn, fun i x v h1 h2 => ?_⟩
  obtain ⟨y, hy, r⟩ := hv i x v h1 h2
  refine ⟨y, ?_, r.mv k p⟩
  rcases hy with e | ⟨c, h1, h2, h3⟩
  · exact .inl e
  · exact .inr ⟨c, h1, h2, hc _ _ h3⟩
theorem Bd.add {h h' : Heap} {A : Around} {Z : List Addr} {env : Env} {a : Addr} (b : Bd hb A h Z env) (k : Kp h h') (ha : h.get? a = none) {m : Str → Option Value} (hn : h.Ns env.locals m) : Bd hb A h' (a :: Z) env where
  loc := b.loc
  locZ := fun q => by
    rcases List.mem_cons.mp q with q | q
    · obtain ⟨o, _, _, e, _⟩ := hn; rw [q, ha] at e; exact noK e
    · exact b.locZ q
  fr := b.fr
  top := b.top
  cel := fun x c h1 h2 => by
    obtain ⟨⟨v, i⟩, r1, r2, r3⟩ := b.cel x c h1 h2
    refine ⟨⟨v, k.isCell i⟩, r1, fun q => ?_, r3⟩
    rcases List.mem_cons.mp q with q | q
    · obtain ⟨o, e, _⟩ := i; rw [q, ha] at e; exact noK e
    · exact r2 q
  has := b.has
  apart := b.apart
  nofree := b.nofree
noncomputable def sNew (i : Nat) (f : XN) : SF := fun mem sl => (f mem sl).map fun o => (.next, mem ++ [o], sl.set i (some (.c mem.length)))
theorem sim_new {x : Str} {e : Expr} {f : XN} {pos pos' : Pos} (i : Nat) (he : SimN prog w hb n sc nm e f) (hx : nm[i]? = some x := by rfl) (hnd : nm.Nodup := by decide +kernel) (hk : kindL sc x = true := by decide +kernel)
    (hs : ∀ env, swapsWith e (some (.Name x pos')) pos.line env = pure false := by intro _; rfl) : SimS prog w hb n sc nm (.Assign [.Name x pos'] e pos) (sNew i f) := by
  intro env Z α A s mem sl o mem' sl' Q E hsc rm bd st hf hQ
  simp only [sNew, Option.map_eq_some_iff] at hf
  obtain ⟨ob, hv, e⟩ := hf
  cases e
  refine wpAny_Assign_Name (he env Z α A s mem sl ob _ _ hsc rm st hv fun a h1 t1 ha ma k1 s1 hq => ?_) (hs env)
  obtain ⟨m, hn, _⟩ := id st.fm.vars
  have nx : Nx s.heap env Z α h1 (a :: Z) (α ++ [a]) := Nx.add k1 ha
  have st1 : St prog w hb env nm (a :: Z) (α ++ [a]) (mem ++ [ob]) sl h1 := ⟨st.fm.mv nx.mv nx.pre (fun _ q => k1.ns q) (fun _ _ q => k1.isCell q), st.me.add k1 ha st.stays ma hq, s1⟩
  refine store_sim (v := .c mem.length) hx hnd hk hsc (bd.add k1 ha hn) st1 ⟨a, by rw [← st.me.len]; simp, rfl⟩ fun h' tk nx' bd' st' => ?_
  exact hQ .next h' tk _ _ (nx.trans nx') bd' st' rfl

/- changing a cell -/
theorem LstAt.ne_tup {h : Heap} {a b : Addr} {vs ws : List Value} (x : LstAt h a vs) (y : TupAt h b ws) : b ≠ a := by
  rintro rfl
  obtain ⟨_, e⟩ := x
  obtain ⟨_, e'⟩ := y
  rw [e] at e'; simp at e'
/- one cell's object is changed -/
structure Ch (prog : Program) (w : World) (hb h : Heap) (Z α : List Addr) (mem : Mem) (h' : Heap) (k : Nat) (o : MO) : Prop where
  nx : ∀ env, Nx h env Z α h' Z α
  me : Me prog w hb h' Z α (mem.set k o)
  same : ∃ a, α[k]? = some a ∧ Heap.SameBut a h h'
theorem Ch.mk' {h h' : Heap} {Z α : List Addr} {mem : Mem} {k : Nat} {a : Addr} {o : MO} (me : Me prog w hb h Z α mem) (ha : α[k]? = some a) (hs : Heap.SameBut a h h') (hnt : ∀ vs, ¬ TupAt h a vs) (ma : Mv h Z h' Z → MA prog w h' Z a o)
    (hnf : ∃ q, h'.get? a = some q ∧ (∀ vs, q.data ≠ .fields vs) ∧ ∀ o0, h.get? a = some o0 → ∀ es ep, o0.data = .dict es ep → q.cls = o0.cls ∧ ∃ es' ep', q.data = .dict es' ep') : Ch prog w hb h Z α mem h' k o := by
  have haZ : a ∈ Z := me.sub a (List.mem_of_getElem? ha)
  have mv : Mv h Z h' Z := ⟨fun b vs hz ⟨q, e⟩ => ⟨q, (hs.2 b (fun q => hz (q ▸ haZ))).trans e⟩, fun b vs x => by
    have : b ≠ a := fun q => hnt vs (q ▸ x)
    obtain ⟨q, e⟩ := x
    exact ⟨q, (hs.2 b this).trans e⟩, fun _ q => .inl q⟩
  refine ⟨fun env => ⟨fun b ob e hn => ⟨ob.slots, (hs.2 b (fun q => hn (.inr (.inr (q ▸ List.mem_of_getElem? ha))))).trans e, fun _ => rfl⟩, mv, List.prefix_refl _, fun _ q => .inl q, fun _ q => q, fun b ob e => ?_⟩, ?_, a, ha, hs⟩
  · by_cases hba : b = a
    · subst hba
      obtain ⟨q, e', hq, hq2⟩ := hnf
      exact ⟨q, e', fun _ => hq, hq2 ob e⟩
    · exact .same ((hs.2 b hba).trans e)
  · refine ⟨by simp [me.len], me.nd, me.sub, me.new, fun b hb' => ?_, fun i b ob h1 h2 => ?_⟩
    · by_cases hba : b = a
      · subst hba
        obtain ⟨q, e', _⟩ := hnf
        exact ⟨q, e'⟩
      · obtain ⟨ob, e⟩ := me.zin b hb'
        exact ⟨ob, (hs.2 b hba).trans e⟩
    · by_cases hik : i = k
      · subst hik
        obtain rfl := soK (ha.symm.trans h1)
        have hlt : i < mem.length := by rw [← me.len]; exact (List.getElem?_eq_some_iff.mp ha).1
        rw [List.getElem?_set_self hlt] at h2
        obtain rfl := soK h2
        exact ma mv
      · rw [List.getElem?_set_ne (fun q => hik q.symm)] at h2
        have hba : b ≠ a := fun q => hik (by
          subst q
          obtain ⟨l1, e1⟩ := List.getElem?_eq_some_iff.mp h1
          obtain ⟨l2, e2⟩ := List.getElem?_eq_some_iff.mp ha
          rcases Nat.lt_trichotomy i k with h | h | h
          · exact absurd (e1.trans e2.symm) (List.pairwise_iff_getElem.mp me.nd i k l1 l2 h)
          · exact h
          · exact absurd (e2.trans e1.symm) (List.pairwise_iff_getElem.mp me.nd k i l2 l1 h))
        have := me.here i b ob h1 h2
        cases ob with
        | ml l =>
          obtain ⟨vs, ⟨q, e⟩, r⟩ := this
          exact ⟨vs, ⟨q, (hs.2 b hba).trans e⟩, RPs.mv mv l vs r⟩
        | md l =>
          obtain ⟨kvs, ⟨q, es, ep, ho, x⟩, r⟩ := this
          exact ⟨kvs, ⟨q, es, ep, (hs.2 b hba).trans ho, x⟩, r.mv mv⟩
theorem Ch.st {h h' : Heap} {env : Env} {A : Around} {Z α : List Addr} {mem : Mem} {sl : Slots} {k : Nat} {o : MO} (c : Ch prog w hb h Z α mem h' k o) (bd : Bd hb A h Z env) (st : St prog w hb env nm Z α mem sl h) :
    Bd hb A h' Z env ∧ St prog w hb env nm Z α (mem.set k o) sl h' := by
  obtain ⟨a, ha, hs⟩ := c.same
  have haα := List.mem_of_getElem? ha
  have haZ := st.me.sub a haα
  have hcell : ∀ x c, env.kindOf x = some .cell → env.cells.lookup x = some c → c ≠ a := fun x c h1 h2 q => (bd.cel x c h1 h2).2.2.1 (q ▸ haZ)
  refine ⟨⟨bd.loc, bd.locZ, bd.fr, bd.top, fun x c h1 h2 => ?_, bd.has, bd.apart, bd.nofree⟩, ⟨⟨st.fm.kind, st.fm.glob, st.fm.blt, ?_⟩, c.me, fun b ob e => ?_⟩⟩
  · obtain ⟨⟨v, i⟩, r⟩ := bd.cel x c h1 h2
    exact ⟨⟨v, i.sameBut hs (hcell x c h1 h2)⟩, r⟩
  · obtain ⟨m, hn, hv⟩ := st.fm.vars
    refine ⟨m, hn.sameBut hs (fun q => bd.locZ (q ▸ haZ)), fun i x v h1 h2 => ?_⟩
    obtain ⟨y, hy, r⟩ := hv i x v h1 h2
    refine ⟨y, ?_, r.mv (c.nx env).mv (List.prefix_refl _)⟩
    rcases hy with e | ⟨c', h3, h4, h5⟩
    · exact .inl e
    · have hkc : env.kindOf x = some .cell := h3.elim id (fun q => absurd q.1 (bd.nofree x))
      exact .inr ⟨c', h3, h4, h5.sameBut hs (hcell x c' hkc h4)⟩
  · exact (hs.2 b (fun q => by rw [q, st.me.new a haα] at e; exact noK e)).trans (st.stays b ob e)
end
end Mine
end
section
open PySem.W
namespace Mine
section
variable {prog : Program} {w : World} {hb : Heap} {n : Nat} {sc : Scope} {nm : List Str}

theorem LstAt.up {h : Heap} {a : Addr} {vs ws : List Value} {f : Array Value → Array Value} (x : LstAt h a vs) (e : f vs.toArray = ws.toArray) : LstAt (h.update a (Obj.mapSeq f)) a ws := by
  obtain ⟨k, g⟩ := x
  obtain ⟨n', hd'⟩ := Obj.data_mapSeq (o := { cls := .type "list", data := .seq vs.toArray k }) rfl f
  have := Heap.get?_update_self (Obj.mapSeq f) g (Obj.isFreed_of_seq hd')
  have h2 : Obj.mapSeq f { cls := .type "list", data := .seq vs.toArray k } = { cls := .type "list", data := .seq (f vs.toArray) _ } := rfl
  rw [h2, e] at this
  exact ⟨_, this⟩
theorem Ch.list {h : Heap} {Z α : List Addr} {mem : Mem} {k : Nat} {a : Addr} {vs ws : List Value} {l : List P} {f : Array Value → Array Value} (me : Me prog w hb h Z α mem) (ha : α[k]? = some a) (hl : LstAt h a vs)
    (e : f vs.toArray = ws.toArray) (r : RPs h Z l ws) : Ch prog w hb h Z α mem (h.update a (Obj.mapSeq f)) k (.ml l) := by
  refine Ch.mk' me ha (Heap.SameBut.update ..) (fun ts x => hl.ne_tup x rfl) (fun mv => ⟨ws, hl.up e, RPs.mv mv _ _ r⟩) ?_
  obtain ⟨q, g⟩ := hl.up e
  refine ⟨_, g, (fun vs q => by cases q), fun o0 e0 es ep d0 => ?_⟩
  obtain ⟨q1, g1⟩ := hl
  obtain rfl := soK (g1.symm.trans e0); cases d0

theorem interactive_fn {env : Env} (h : env.scope.kind = .function) : interactive env = false := by
  unfold interactive; rw [h]; rfl

/- a method's call on a cell: what is evaluated before -/
theorem meth_eval {T id : String} {o e : Expr} {r : List Expr} {name : Str} {apos pos : Pos} {f : XF} {g : XFs} {pl : Env → Sem Bool} (slot : Slot T name id) (hty : typeOf (.builtin id) = pure (.type "method_descriptor"))
    (ho : SimE prog w hb n sc nm o f) (ha : SimEs prog w hb n sc nm (e :: r) g) (hp : (e :: r).all noStar = true)
    (he : ∀ env : Env, eval (.Call (.Attribute o name apos) (e :: r) [] pos) env = (do
      let ov ← eval o env
      standAt apos.atName
      let (f, first) ← holding [ov] (getMethod ov name (pl env))
      callWith pos f first (backTo pos (starEach (e :: r) env)) []))
    {env : Env} {Z α : List Addr} {A : Around} {s : Shared} {mem : Mem} {sl : Slots} {self : V} {vs : List V} {Q E : Value → Shared → Prop} (hsc : env.scope = sc) (rm : Rm hb n A s.heap) (st : St prog w hb env nm Z α mem sl s.heap)
    (hself : f mem sl = some self) (hT : isT T mem self = true) (hvs : g mem sl = some vs)
    (hQ : ∀ y₀ ys h' tk, RV h' Z α self y₀ → RVs h' Z α vs ys → Kp s.heap h' → hb.StaysIn h' → wpAny (model prog w) A (call (.builtin id) (y₀ :: ys)) Q E { s with heap := h', toks := tk }) :
    wpAny (model prog w) A (eval (.Call (.Attribute o name apos) (e :: r) [] pos) env) Q E s := by
  refine MethodCall_ (pl := pl env) (ho env Z α A s mem sl self _ _ hsc rm st hself fun a1 h1 t1 r1 k1 s1 => ?_) (he env)
  obtain ⟨hty1, pa, hnd⟩ := isT_at (s := { s with heap := h1, toks := t1 }) (st.me.kp k1) hT r1
  refine getMethod_builtin hty1 pa slot hty hnd ?_
  refine callWith_builtin (plain_backTo hp _ _) ?_
  have hp' := hp
  simp only [List.all_cons, Bool.and_eq_true] at hp'
  have hs := ha env Z α A { s with heap := h1, toks := t1 } mem sl vs (fun ys s₂ => wpAny (model prog w) A (call (.builtin id) ([a1] ++ ys)) Q E s₂) E pos hsc (rm.kp k1) (st.kp k1 s1) hvs fun ys h2 t2 r2 k2 s2 =>
    hQ a1 ys h2 t2 (r1.kp k2) r2 (k1.trans k2) s2
  rw [starEach_cons hp'.1] at hs ⊢
  exact evalArgs_plain hs

noncomputable def mlO : MO → Option (List P)
  | .ml l => some l
  | .md _ => none
/- a cell and its list -/
noncomputable def cl (mem : Mem) (x : V) : Option (Nat × List P) := (cellV x).bind fun k => ((mem[k]?).bind mlO).map fun l => (k, l)
theorem clK {mem : Mem} {x : V} {q : Nat × List P} {G : V → Prop} (h : cl mem x = some q) (k : mem[q.1]? = some (.ml q.2) → G (.c q.1)) : G x :=
  bindK h fun c h1 h => mapK h fun l h2 e => bindK h2 fun o h3 h4 => by
    subst e
    rw [cellV_at h1]
    refine k (h3.trans ?_)
    cases o with
    | ml l => rw [soK h4]
    | md _ => exact noK h4
theorem isT_cell {mem : Mem} {k : Nat} {l : List P} (hl : mem[k]? = some (.ml l)) : isT "list" mem (.c k) = true := by
  have e : derP mem (.c k) = some (.lst l) := by show derM mem k = _; unfold derM; rw [hl]
  unfold isT; rw [e]; rfl
noncomputable def sApp (f : XF) (g : XF) : SF := fun mem sl => (f mem sl).bind fun x => (g mem sl).bind fun v => (cl mem x).bind fun q => (datV v).bind fun d => if lenOk q.2.length = true then some (.next, mem.set q.1 (.ml (q.2 ++ [d])), sl) else none
theorem push_cell {h1 : Heap} {Z α : List Addr} {mem : Mem} {k : Nat} {l : List P} {d : P} {A A' : Around} {env : Env} {sl : Slots} {s : Shared} {t : Nat} {y₀ b : Value} {Q : Value → Shared → Prop} {E : Value → Shared → Prop} (bd : Bd hb A h1 Z env) (st : St prog w hb env nm Z α mem sl h1)
    (r0 : RV h1 Z α (.c k) y₀) (rb : RP h1 Z d b) (hl : mem[k]? = some (.ml l)) (hlen : lenOk l.length = true)
    (hQ : ∀ h2, Nx h1 env Z α h2 Z α → Bd hb A h2 Z env → St prog w hb env nm Z α (mem.set k (.ml (l ++ [d]))) sl h2 → Q .none { s with heap := h2, toks := t }) :
    wpAny (model prog w) A' (call (.builtin "list.append") [y₀, b]) Q E { s with heap := h1, toks := t } := by
  obtain ⟨a, ha, rfl⟩ := r0
  obtain ⟨vs, la, rv⟩ := st.me.here k a _ ha hl
  obtain ⟨nn, g1⟩ := id la
  refine call_meets F.slot_list_append la.typeIs F.entry_list_append (F.args_list_append_2 _ _) (_root_.PySem.list_append a vs.toArray nn b (by rw [List.size_toArray, ← rv.length, sizeLine_eq]; have := of_decide_eq_true hlen; omega)) ⟨g1, ?_⟩
  have ch : Ch prog w hb h1 Z α mem _ k (.ml (l ++ [d])) := Ch.list (f := fun x => x.push b) (ws := vs ++ [b]) st.me ha la (by simp) (rv.append ⟨rb, trivial⟩)
  obtain ⟨bd', st'⟩ := ch.st bd st
  exact hQ _ (ch.nx env) bd' st'
theorem sim_app {o e : Expr} {f g : XF} {apos pos spos : Pos} {pl : Env → Sem Bool} (ho : SimE prog w hb n sc nm o f) (hg : SimE prog w hb n sc nm e g) (hp : noStar e = true := by rfl)
    (he : ∀ env : Env, eval (.Call (.Attribute o "append" apos) [e] [] pos) env = (do
      let ov ← eval o env
      standAt apos.atName
      let (f, first) ← holding [ov] (getMethod ov "append" (pl env))
      callWith pos f first (backTo pos (starEach [e] env)) []) := by intro _; rfl) :
    SimS prog w hb n sc nm (.Expr (.Call (.Attribute o "append" apos) [e] [] pos) spos) (sApp f g) := by
  intro env Z α A s mem sl oo mem' sl' Q E hsc rm bd st hf hQ
  refine bindK hf fun x hx hf => bindK hf fun v hv hf => bindK hf fun q hq hf => bindK hf fun d hd hf => iteK hf fun hlen hf => ?_
  obtain ⟨rfl, rfl, rfl⟩ := so3 (congrArg some hf)
  obtain rfl := datV_at hd
  refine clK (G := fun x => f mem sl = some x → _) hq (fun hl hx => ?_) hx
  refine wpAny_Expr_any ?_ (interactive_fn st.fm.kind) rfl
  refine meth_eval (T := "list") (id := "list.append") F.slot_list_append F.type_list_append ho (sims_cons hg sims_nil hp) ((Bool.and_true _).trans hp) he hsc rm st hx (isT_cell hl) (by unfold xCons; rw [hv]; rfl) fun y₀ ys h1 t1 r0 rs k1 s1 => ?_
  obtain ⟨b, rfl, rb⟩ := one_of rs
  exact push_cell (bd.kp k1) (st.kp k1 s1) r0 rb hl hlen fun h2 nx bd' st' => hQ .next h2 t1 Z α ((Nx.of_kp k1).trans nx) bd' st' rfl

/- x = l.pop() -/
noncomputable def sPop (i : Nat) (f : XF) : SF := fun mem sl => (f mem sl).bind fun x => (cl mem x).bind fun q => (q.2.getLast?).bind fun d => if lenOk q.2.length = true then some (.next, mem.set q.1 (.ml q.2.dropLast), sl.set i (some (.p d))) else none
theorem RPs.dropLast {h : Heap} {Z : List Addr} : ∀ {l : List P} {vs : List Value}, RPs h Z l vs → RPs h Z l.dropLast vs.dropLast
  | [], [], _ => trivial
  | [d], [v], _ => trivial
  | d :: d' :: l, v :: v' :: vs, x => ⟨x.1, RPs.dropLast x.2⟩
  | [], _ :: _, x => x.elim
  | _ :: _, [], x => x.elim
  | [_], _ :: _ :: _, x => x.2.elim
  | _ :: _ :: _, [_], x => x.2.elim
theorem sim_pop {x : Str} {o : Expr} {f : XF} {apos pos spos xpos : Pos} {pl : Env → Sem Bool} (i : Nat) (ho : SimE prog w hb n sc nm o f) (hx : nm[i]? = some x := by rfl) (hnd : nm.Nodup := by decide +kernel) (hk : kindL sc x = true := by decide +kernel)
    (he : ∀ env : Env, eval (.Call (.Attribute o "pop" apos) [] [] pos) env = (do
      let ov ← eval o env
      standAt apos.atName
      let (f, first) ← holding [ov] (getMethod ov "pop" (pl env))
      callWith pos f first (backTo pos (starEach [] env)) []) := by intro _; rfl) :
    SimS prog w hb n sc nm (.Assign [.Name x xpos] (.Call (.Attribute o "pop" apos) [] [] pos) spos) (sPop i f) := by
  intro env Z α A s mem sl oo mem' sl' Q E hsc rm bd st hf hQ
  refine bindK hf fun xv hxv hf => bindK hf fun q hq hf => bindK hf fun d hd hf => iteK hf fun hlen hf => ?_
  obtain ⟨rfl, rfl, rfl⟩ := so3 (congrArg some hf)
  obtain ⟨k, l⟩ := q
  refine clK (G := fun x => f mem sl = some x → _) hq (fun hl hxv => ?_) hxv
  dsimp only at hl hd hlen ⊢
  refine wpAny_Assign_Name ?_ rfl
  refine MethodCall_ (pl := pl env) (ho env Z α A s mem sl (.c k) _ _ hsc rm st hxv fun a1 h1 t1 r1 k1 s1 => ?_) (he env)
  obtain ⟨hty1, pa, hnd1⟩ := isT_at (T := "list") (s := { s with heap := h1, toks := t1 }) (st.me.kp k1) (isT_cell hl) r1
  refine getMethod_builtin hty1 pa F.slot_list_pop F.type_list_pop hnd1 ?_
  obtain ⟨a, ha, rfl⟩ := r1
  obtain ⟨vs, la, rv⟩ := (st.me.kp k1).here k a _ ha hl
  obtain ⟨nn, g1⟩ := id la
  have hl' : l[vs.length - 1]? = some d := by rw [← rv.length, ← List.getLast?_eq_getElem?]; exact hd
  obtain ⟨y, hy, ry⟩ := rv.get hl'
  have hpos : vs.length - 1 < vs.length := (List.getElem?_eq_some_iff.mp hy).1
  refine _root_.PySem.P.pop_list (y := y) g1 (by simpa using hy) ?_ (by rw [List.size_toArray, ← rv.length, sizeLine_eq]; have := of_decide_eq_true hlen; omega)
  have ch : Ch prog w hb h1 Z α mem _ k (.ml l.dropLast) := Ch.list (f := fun xs => xs.eraseIdxIfInBounds (vs.toArray.size - 1)) (ws := vs.dropLast) (st.me.kp k1) ha la (by simp [Array.eraseIdxIfInBounds, hpos]) rv.dropLast
  obtain ⟨bd', st'⟩ := ch.st (bd.kp k1) (st.kp k1 s1)
  refine store_sim (v := .p d) hx hnd hk hsc bd' st' (RP.mv (ch.nx env).mv _ _ ry) fun h' tk nx bd2 st2 => ?_
  exact hQ .next _ tk Z α (((Nx.of_kp k1).trans (ch.nx env)).trans nx) bd2 st2 rfl

theorem setItem_lst {A : Around} {E : Value → Shared → Prop} {s : Shared} {l : Addr} {vs : List Value} {k : Int} {t : Tok} {v : Value} {Q : Unit → Shared → Prop} (hl : LstAt s.heap l vs)
    (h0 : 0 ≤ k) (hfit : k < 2 ^ 63) (hn : k < vs.length)
    (hQ : Q () { s with heap := s.heap.update l (Obj.mapSeq (·.setIfInBounds k.toNat v)) }) :
    wpAny (model prog w) A (setItem (.ref l) (.int k t) v) Q E s := by
  obtain ⟨o, ho, hc, ne, hd⟩ := hl.isList
  have hli := hl.isList
  unfold setItem
  try with_reducible refine wpAny_holding ?_
  first | refine wpAny_bind (wpAny_pure ?_) | skip
  refine wpAny_bind (wpAny_sequenceKey hli.typeIs (by decide) ?_)
  refine wpAny_bind (wpAny_callSpecial?_slot (name := Str.ofString "__setitem__") hli.typeIs slot_list_setitem
    (wpAny_call_entry slot_list_setitem hli.typeIs entry_list_setitem ?_ (args_list_setitem _ _ _)))
  show wpAny _ _ (Builtin.List.listSubscript? (.int k t) >>= _) _ _ s
  refine wpAny_bind (wpAny_listSubscript_int (fitsIndex_of h0 hfit) ?_)
  clear hfit
  obtain ⟨j, rfl⟩ := Int.eq_ofNat_of_zero_le h0
  have hj : j < vs.length := by omega
  have hx' : vs.toArray[j]? = some vs[j] := by simp [hj]
  show wpAny _ _ ((seqItemAt l j >>= fun r => pure (r.map (j, ·))) >>= _) _ _ s
  refine wpAny_bind (wpAny_bind (wpAny_seqItemAt ho hd (wpAny_pure ?_)))
  rw [hx']
  show wpAny _ _ (setSeqItemAt l j v >>= _) _ _ s
  refine wpAny_bind (wpAny_setSeqItemAt ho hd ?_)
  first
    | exact wpAny_bind (wpAny_pure (wpAny_pure ⟨.none, rfl, wpAny_pure hQ⟩))
    | exact wpAny_pure ⟨.none, rfl, wpAny_pure hQ⟩

theorem RPs.setAt {h : Heap} {Z : List Addr} {d : P} {v : Value} (r : RP h Z d v) : ∀ {l : List P} {vs : List Value} (j : Nat), RPs h Z l vs → RPs h Z (l.set j d) (vs.set j v)
  | [], [], _, _ => trivial
  | _ :: _, _ :: _, 0, x => ⟨r, x.2⟩
  | _ :: _, _ :: _, j + 1, x => ⟨x.1, RPs.setAt r j x.2⟩
  | [], _ :: _, _, x => x.elim
  | _ :: _, [], _, x => x.elim

/- o[i] = e, o a cell -/
noncomputable def storeV (mem : Mem) (d : P) (k : Nat) (o : MO) (q : P) : Option Mem := match o with
  | .ml l => (intD q).bind fun j => if (decide (0 ≤ j) && decide (j < l.length) && lenOk l.length) = true then some (mem.set k (.ml (l.set j.toNat d))) else none
  | .md l => (strD q).bind fun j => if ((getK l j).isNone && lenOk l.length) = true then some (mem.set k (.md (l ++ [(j, d)]))) else none
noncomputable def sStore (e o i : XF) : SF := fun mem sl => (e mem sl).bind fun v => (o mem sl).bind fun x => (i mem sl).bind fun q => (datV v).bind fun d => (cellV x).bind fun k => (datV q).bind fun q => (mem[k]?).bind fun o => (storeV mem d k o q).map fun m => (.next, m, sl)
/- what a store makes -/
theorem store_ch {h3 : Heap} {Z α : List Addr} {mem m : Mem} {k : Nat} {o : MO} {d q : P} {A : Around} {env : Env} {sl : Slots} {s : Shared} {t : Nat} {y₀ a1 i1 : Value} {Q : Unit → Shared → Prop} {E : Value → Shared → Prop} (bd : Bd hb A h3 Z env) (st : St prog w hb env nm Z α mem sl h3)
    (r2 : RV h3 Z α (.c k) y₀) (r1 : RP h3 Z d a1) (r3 : RP h3 Z q i1) (ho : mem[k]? = some o) (hs : storeV mem d k o q = some m)
    (hQ : ∀ h4 tk, Nx h3 env Z α h4 Z α → Bd hb A h4 Z env → St prog w hb env nm Z α m sl h4 → Q () { s with heap := h4, toks := tk }) : wpAny (model prog w) A (setItem y₀ i1 a1) Q E { s with heap := h3, toks := t } := by
  obtain ⟨a, ha, rfl⟩ := r2
  cases o with
  | ml l =>
    refine bindK hs fun j h1 hs => iteK hs fun hlen hs => ?_
    subst hs
    obtain rfl := intD_at h1
    simp only [lenOk, Bool.and_eq_true, decide_eq_true_eq] at hlen
    obtain ⟨t, rfl⟩ := r3
    obtain ⟨vs, la, rv⟩ := st.me.here k a _ ha ho
    have e := rv.length
    refine setItem_lst la (by omega) (by omega) (by omega) ?_
    have ch : Ch prog w hb h3 Z α mem _ k (.ml (l.set j.toNat d)) := Ch.list (f := (·.setIfInBounds j.toNat a1)) (ws := vs.set j.toNat a1) st.me ha la (by simp) (RPs.setAt r1 _ rv)
    obtain ⟨bd', st'⟩ := ch.st bd st
    exact hQ _ _ (ch.nx env) bd' st'
  | md l =>
    refine bindK hs fun j h1 hs => iteK hs fun hlen hs => ?_
    subst hs
    obtain rfl := strD_at h1
    simp only [lenOk, Bool.and_eq_true, decide_eq_true_eq, Option.isNone_iff_eq_none] at hlen
    obtain ⟨t, rfl⟩ := r3
    obtain ⟨kvs, la, rv⟩ := st.me.here k a _ ha ho
    have e := rv.length
    have hno := rv.no hlen.1
    refine wpAny_setItem_pairs (strKind_is prog w j t) la (fun h' hd hs' => ?_) (by rw [sizeLine_eq]; omega)
    have hst : stored kvs j a1 = kvs ++ [(j, a1)] := by unfold stored; rw [hno]; rfl
    rw [hst] at hd
    have ch : Ch prog w hb h3 Z α mem h' k (.md (l ++ [(j, d)])) := by
      refine Ch.mk' st.me ha hs' (fun ts x => ?_) (fun mv => ⟨_, hd, (RKs.append1 r1 rv).mv mv⟩) ?_
      · obtain ⟨q, es, ep, ho', hx', _⟩ := la
        obtain ⟨_, e'⟩ := x
        rw [e'] at ho'
        obtain rfl := soK ho'
        exact absurd hx'.1 (ty_ne (by decide))
      · obtain ⟨q, es, ep, ho', hx', hd', _⟩ := hd
        refine ⟨q, ho', (fun vs e' => by rw [hd'] at e'; cases e'), fun o0 e0 es0 ep0 d0 => ⟨?_, es, ep, hd'⟩⟩
        obtain ⟨q1, es1, ep1, ho1, hx1, _⟩ := la
        obtain rfl := soK (ho1.symm.trans e0)
        exact hx'.1.trans hx1.1.symm
    obtain ⟨bd', st'⟩ := ch.st bd st
    exact hQ h' _ (ch.nx env) bd' st'
theorem sim_store {e o i : Expr} {f g h : XF} {pos pos' : Pos} (he : SimE prog w hb n sc nm e f) (ho : SimE prog w hb n sc nm o g) (hi : SimE prog w hb n sc nm i h)
    (hs : ∀ env, swapsWith e (some (.Subscript o i pos')) pos.line env = pure false := by intro _; rfl) : SimS prog w hb n sc nm (.Assign [.Subscript o i pos'] e pos) (sStore f g h) := by
  intro env Z α A s mem sl oo mem' sl' Q E hsc rm bd st hf hQ
  refine bindK hf fun v hv hf => bindK hf fun x hx hf => bindK hf fun q hq hf => bindK hf fun d hd hf => bindK hf fun k hk hf => bindK hf fun q' hq' hf => bindK hf fun ob hob hf => mapK hf fun m hm hf => ?_
  obtain ⟨rfl, rfl, rfl⟩ := so3 (congrArg some hf)
  obtain rfl := datV_at hd
  obtain rfl := cellV_at hk
  obtain rfl := datV_at hq'
  refine wpAny_Assign_Subscript (he env Z α A s mem sl _ _ _ hsc rm st hv fun a1 h1 t1 r1 k1 s1 => ?_) (hs env)
  refine ho env Z α A _ mem sl _ _ _ hsc (rm.kp k1) (st.kp k1 s1) hx fun a2 h2 t2 r2 k2 s2 => ?_
  have k12 := k1.trans k2
  refine hi env Z α A _ mem sl _ _ _ hsc (rm.kp k12) (st.kp k12 s2) hq fun a3 h3 t3 r3 k3 s3 => ?_
  have k13 := k12.trans k3
  exact store_ch (bd.kp k13) (st.kp k13 s3) (r2.kp k3) (RP.kp (k2.trans k3) _ _ r1) r3 hob hm fun h4 tk nx bd' st' => hQ .next h4 tk Z α ((Nx.of_kp k13).trans nx) bd' st' rfl
end
end Mine
end
section
open PySem.W
namespace Mine
section
variable (prog : Program) (w : World) (hb : Heap) (sc : Scope) (nm : List Str)
/- a target: what it does to the slots -/
noncomputable def SimA (t : Expr) (set : V → Slots → Option Slots) : Prop :=
  ∀ (env : Env) (Z α : List Addr) (A : Around) (s : Shared) (mem : Mem) (sl sl' : Slots) (v : V) (y : Value) (Q : Unit → Shared → Prop) (E : Value → Shared → Prop),
    env.scope = sc → A.handled = none → Bd hb A s.heap Z env → St prog w hb env nm Z α mem sl s.heap → RV s.heap Z α v y → set v sl = some sl' →
    (∀ h' tk, Nx s.heap env Z α h' Z α → Bd hb A h' Z env → St prog w hb env nm Z α mem sl' h' → Q () { s with heap := h', toks := tk }) →
    wpAny (model prog w) A (assign t env y) Q E s
noncomputable def SimAL (ts : List Expr) (set : List V → Slots → Option Slots) : Prop :=
  (∀ vs sl sl', set vs sl = some sl' → vs.length = ts.length) ∧ ts.all noStar = true ∧
  ∀ (env : Env) (Z α : List Addr) (A : Around) (s : Shared) (mem : Mem) (sl sl' : Slots) (vs : List V) (ys : List Value) (Q : Unit → Shared → Prop) (E : Value → Shared → Prop),
    env.scope = sc → A.handled = none → Bd hb A s.heap Z env → St prog w hb env nm Z α mem sl s.heap → RVs s.heap Z α vs ys → set vs sl = some sl' →
    (∀ h' tk, Nx s.heap env Z α h' Z α → Bd hb A h' Z env → St prog w hb env nm Z α mem sl' h' → Q () { s with heap := h', toks := tk }) →
    wpAny (model prog w) A (assignInOrder ((assignEach ts env).map (·.2)) ys) Q E s
end
section
variable {prog : Program} {w : World} {hb : Heap} {n : Nat} {sc : Scope} {nm : List Str}

noncomputable def aN (i : Nat) : V → Slots → Option Slots := fun v sl => some (sl.set i (some v))
theorem simA_name {x : Str} {pos : Pos} (i : Nat) (hx : nm[i]? = some x := by rfl) (hnd : nm.Nodup := by decide +kernel) (hk : kindL sc x = true := by decide +kernel) : SimA prog w hb sc nm (.Name x pos) (aN i) := by
  intro env Z α A s mem sl sl' v y Q E hsc hh bd st rv hs hQ
  obtain rfl := soK hs
  exact wpAny_assign_Name (store_sim hx hnd hk hsc bd st rv hQ)
noncomputable def aNil : List V → Slots → Option Slots := fun vs sl => match vs with | [] => some sl | _ => none
noncomputable def aCons (f : V → Slots → Option Slots) (g : List V → Slots → Option Slots) : List V → Slots → Option Slots := fun vs sl => match vs with | v :: vs => (f v sl).bind fun sl1 => g vs sl1 | [] => none
theorem RVs.mv {h h' : Heap} {Z Z' α α' : List Addr} (k : Mv h Z h' Z') (p : α <+: α') : ∀ {l : List V} {vs : List Value}, RVs h Z α l vs → RVs h' Z' α' l vs
  | [], [], _ => trivial
  | _ :: _, _ :: _, x => ⟨x.1.mv k p, RVs.mv k p x.2⟩
  | [], _ :: _, x => x.elim
  | _ :: _, [], x => x.elim
theorem simAL_nil : SimAL prog w hb sc nm [] aNil := by
  refine ⟨fun vs sl sl' h => ?_, rfl, ?_⟩
  · cases vs with
    | nil => rfl
    | cons => exact noK h
  intro env Z α A s mem sl sl' vs ys Q E hsc hh bd st rv hs hQ
  cases vs with
  | cons => exact noK hs
  | nil =>
    obtain rfl := soK hs
    match ys, rv with
    | [], _ => exact wpAny_pure (hQ s.heap s.toks (.of_kp (.refl _)) bd st)
theorem assignEach_cons {e : Expr} {rest : List Expr} {env : Env} (h : noStar e = true) : assignEach (e :: rest) env = (false, assign e env) :: assignEach rest env := by
  cases e <;> first | rfl | cases h
theorem assignEach_len {ts : List Expr} {env : Env} (h : ts.all noStar = true) : (assignEach ts env).length = ts.length ∧ (assignEach ts env).findIdx? (·.1) = none := by
  induction ts with
  | nil => exact ⟨rfl, rfl⟩
  | cons e r ih =>
    simp only [List.all_cons, Bool.and_eq_true] at h
    rw [assignEach_cons h.1]
    refine ⟨by simp [(ih h.2).1], ?_⟩
    have := (ih h.2).2
    simp only [List.findIdx?_cons, Bool.false_eq_true, if_false]
    rw [this]; rfl
theorem simAL_cons {t : Expr} {ts : List Expr} {f : V → Slots → Option Slots} {g : List V → Slots → Option Slots} (ht : SimA prog w hb sc nm t f) (hts : SimAL prog w hb sc nm ts g) (hn : noStar t = true := by rfl) : SimAL prog w hb sc nm (t :: ts) (aCons f g) := by
  obtain ⟨hl, hst, hts⟩ := hts
  refine ⟨fun vs sl sl' h => ?_, by simp [hn, hst], ?_⟩
  · cases vs with
    | nil => exact noK h
    | cons v vs =>
      simp only [aCons, Option.bind_eq_some_iff] at h
      obtain ⟨sl1, _, h2⟩ := h
      simp [hl _ _ _ h2]
  intro env Z α A s mem sl sl' vs ys Q E hsc hh bd st rv hs hQ
  cases vs with
  | nil => exact noK hs
  | cons v vs =>
    simp only [aCons, Option.bind_eq_some_iff] at hs
    obtain ⟨sl1, h1, h2⟩ := hs
    match ys, rv with
    | y :: ys, rv =>
      rw [assignEach_cons hn]
      show wpAny _ _ (do holding ys (assign t env y); assignInOrder ((assignEach ts env).map (·.2)) ys) _ _ s
      refine wpAny_bind (wpAny_holding (ht env Z α A s mem sl sl1 v y _ _ hsc hh bd st rv.1 h1 fun h' tk nx bd' st' => ?_))
      refine hts env Z α A { s with heap := h', toks := tk } mem sl1 sl' vs ys Q E hsc hh bd' st' (rv.2.mv nx.mv nx.pre) h2 fun h2' tk2 nx2 bd2 st2 => ?_
      exact hQ h2' tk2 (nx.trans nx2) bd2 st2
noncomputable def unT : V → Option (List V)
  | .p (.tup l) => some (l.map .p)
  | .t l => some (l.map fun q => match q with | .inl d => .p d | .inr j => .c j)
  | _ => none
theorem RPs.rvs {h : Heap} {Z α : List Addr} : ∀ {l : List P} {vs : List Value}, RPs h Z l vs → RVs h Z α (l.map .p) vs
  | [], [], _ => trivial
  | _ :: _, _ :: _, x => ⟨x.1, RPs.rvs x.2⟩
  | [], _ :: _, x => x.elim
  | _ :: _, [], x => x.elim
theorem RXs.rvs {h : Heap} {Z α : List Addr} : ∀ {l : List (P ⊕ Nat)} {vs : List Value}, RXs h Z α l vs → RVs h Z α (l.map fun q => match q with | .inl d => .p d | .inr j => .c j) vs
  | [], [], _ => trivial
  | .inl d :: _, _ :: _, x => ⟨x.1, RXs.rvs x.2⟩
  | .inr j :: _, _ :: _, x => ⟨x.1, RXs.rvs x.2⟩
  | [], _ :: _, x => x.elim
  | _ :: _, [], x => x.elim
theorem unT_at {h : Heap} {Z α : List Addr} {v : V} {l : List V} {y : Value} (e : unT v = some l) (r : RV h Z α v y) : ∃ a vs, y = .ref a ∧ TupAt h a vs ∧ RVs h Z α l vs := by
  unfold unT at e
  split at e
  · obtain rfl := soK e
    obtain ⟨a, vs, rfl, t, r⟩ := r
    exact ⟨a, vs, rfl, t, r.rvs⟩
  · obtain rfl := soK e
    obtain ⟨a, vs, rfl, t, r⟩ := r
    exact ⟨a, vs, rfl, t, r.rvs⟩
  · exact noK e
noncomputable def aTup (g : List V → Slots → Option Slots) : V → Slots → Option Slots := fun v sl => (unT v).bind fun l => g l sl
theorem TupAt.isTuple {h : Heap} {a : Addr} {vs : List Value} (x : TupAt h a vs) : h.IsTuple a vs.toArray := by
  obtain ⟨n, e⟩ := x
  exact ⟨_, e, rfl, n, rfl⟩
theorem tup_go {ts : List Expr} {g : List V → Slots → Option Slots} {x1 : Nat} {pos : Pos} (hts : SimAL prog w hb sc nm ts g) {env : Env} {Z α : List Addr} {A : Around} {s : Shared} {mem : Mem} {sl sl' : Slots} {l : List V} {a : Addr} {vs : List Value} {Q : Unit → Shared → Prop} {E : Value → Shared → Prop}
    (hsc : env.scope = sc) (hh : A.handled = none) (bd : Bd hb A s.heap Z env) (st : St prog w hb env nm Z α mem sl s.heap) (ht : s.heap.IsTuple a vs.toArray) (rv : RVs s.heap Z α l vs) (hs : g l sl = some sl')
    (hQ : ∀ h' tk, Nx s.heap env Z α h' Z α → Bd hb A h' Z env → St prog w hb env nm Z α mem sl' h' → Q () { s with heap := h', toks := tk }) : wpAny (model prog w) A (assign (.Tuple ts x1 pos) env (.ref a)) Q E s := by
  obtain ⟨hl, hst, hts⟩ := hts
  obtain ⟨e1, e2⟩ := assignEach_len (env := env) hst
  refine wpAny_assign_Tuple hh ht ?_ e2 fun h' he => ?_
  · rw [e1, ← hl _ _ _ hs, rv.length]; simp
  · have k : Kp s.heap h' := .of fun b o e => he b o (Nat.ne_of_lt (Heap.lt_size e)) e
    have ss : hb.StaysIn h' := fun b o e => he b o (Nat.ne_of_lt (Heap.lt_size (st.stays b o e))) (st.stays b o e)
    have : vs.toArray.toList = vs := by simp
    rw [this]
    refine hts env Z α A { s with heap := h' } mem sl sl' l vs Q E hsc hh (bd.kp k) (st.kp k ss) (rv.kp k) hs fun h2 tk2 nx bd2 st2 => ?_
    exact hQ h2 tk2 ((Nx.of_kp k).trans nx) bd2 st2
theorem simA_tup {ts : List Expr} {g : List V → Slots → Option Slots} {x1 : Nat} {pos : Pos} (hts : SimAL prog w hb sc nm ts g) : SimA prog w hb sc nm (.Tuple ts x1 pos) (aTup g) := by
  intro env Z α A s mem sl sl' v y Q E hsc hh bd st rv hs hQ
  simp only [aTup, Option.bind_eq_some_iff] at hs
  obtain ⟨l, hl, hs⟩ := hs
  obtain ⟨a, vs, rfl, t, r⟩ := unT_at hl rv
  exact tup_go hts hsc hh bd st t.isTuple r hs hQ

/- (a, b, ..) = e -/
noncomputable def sUnp (set : V → Slots → Option Slots) (f : XF) : SF := fun mem sl => (f mem sl).bind fun v => (set v sl).map fun sl' => (.next, mem, sl')
theorem sim_unp {ts : List Expr} {g : V → Slots → Option Slots} {x1 : Nat} {pos tpos : Pos} {e : Expr} {f : XF} (hts : SimA prog w hb sc nm (.Tuple ts x1 tpos) g) (he : SimE prog w hb n sc nm e f)
    (hs : ∀ env, swapsWithSole [.Tuple ts x1 tpos] e pos.line env = pure false := by intro _; rfl)
    (hw : ∀ env, swappedStores [.Tuple ts x1 tpos] e env = pure none := by intro _; rfl) : SimS prog w hb n sc nm (.Assign [.Tuple ts x1 tpos] e pos) (sUnp g f) := by
  intro env Z α A s mem sl o mem' sl' Q E hsc rm bd st hf hQ
  simp only [sUnp, Option.bind_eq_some_iff, Option.map_eq_some_iff] at hf
  obtain ⟨v, hv, sl1, h1, e⟩ := hf
  cases e
  refine Assign_Tuple (he env Z α A s mem sl v _ _ hsc rm st hv fun y h1' t1 r1 k1 s1 => ?_) (hs env) (hw env)
  refine hts env Z α A { s with heap := h1', toks := t1 } mem sl sl' v y _ E hsc rm.hd (bd.kp k1) (st.kp k1 s1) r1 h1 fun h' tk nx bd' st' => ?_
  exact hQ .next h' tk Z α ((Nx.of_kp k1).trans nx) bd' st' rfl

/- iterators -/
/- kept but for the iterator's own -/
structure Bt (wr : List Addr) (h h' : Heap) : Prop where
  kept : ∀ b o, b ∉ wr → h.get? b = some o → h'.get? b = some o
  flds : ∀ b ∈ wr, ∃ o vs, h.get? b = some o ∧ o.data = .fields vs
theorem Bt.at {wr : List Addr} {h h' : Heap} (x : Bt wr h h') {b : Addr} {o : Obj} (e : h.get? b = some o) (hd : ∀ vs, o.data ≠ .fields vs) : h'.get? b = some o := by
  refine x.kept b o (fun hm => ?_) e
  obtain ⟨o', vs, e', d⟩ := x.flds b hm
  obtain rfl := soK (e.symm.trans e')
  exact hd vs d
theorem Bt.mv {wr : List Addr} {h h' : Heap} {Z : List Addr} (x : Bt wr h h') : Mv h Z h' Z :=
  ⟨fun a vs _ ⟨k, e⟩ => ⟨k, x.at e fun _ q => by cases q⟩, fun a vs ⟨k, e⟩ => ⟨k, x.at e fun _ q => by cases q⟩, fun _ q => .inl q⟩
theorem Bt.ns {wr : List Addr} {h h' : Heap} (x : Bt wr h h') {a : Addr} {m : Str → Option Value} (hn : h.Ns a m) : h'.Ns a m := by
  obtain ⟨o, es, ep, e, d, r⟩ := hn
  exact ⟨o, es, ep, x.at e (fun vs q => by rw [d] at q; cases q), d, r⟩
theorem Bt.cell {wr : List Addr} {h h' : Heap} (x : Bt wr h h') {a : Addr} {v : Option Value} (hn : h.IsCell a v) : h'.IsCell a v := by
  obtain ⟨o, e, d⟩ := hn
  exact ⟨o, x.at e (fun vs q => by rw [d] at q; cases q), d⟩
theorem St.bt {wr : List Addr} {h h' : Heap} {env : Env} {Z α : List Addr} {mem : Mem} {sl : Slots} (x : Bt wr h h') (hz : ∀ b ∈ Z, b ∉ wr) (hw : ∀ b ∈ wr, hb.get? b = none) (st : St prog w hb env nm Z α mem sl h) : St prog w hb env nm Z α mem sl h' where
  fm := st.fm.mv x.mv (List.prefix_refl _) (fun _ q => x.ns q) (fun _ _ q => x.cell q)
  me := st.me.mv x.mv fun a ha o e => x.kept a o (hz a ha) e
  stays := fun b o e => x.kept b o (fun hm => by exact nos (hw b hm) e) (st.stays b o e)
theorem Bd.bt {wr : List Addr} {h h' : Heap} {A : Around} {env : Env} {Z : List Addr} (x : Bt wr h h') (bd : Bd hb A h Z env) : Bd hb A h' Z env where
  loc := bd.loc
  locZ := bd.locZ
  fr := bd.fr
  top := bd.top
  cel := fun y c h1 h2 => let ⟨⟨v, i⟩, r⟩ := bd.cel y c h1 h2; ⟨⟨v, x.cell i⟩, r⟩
  has := bd.has
  apart := bd.apart
  nofree := bd.nofree
/- the iterator's objects are new to h -/
theorem Nx.bt {wr : List Addr} {h h₁ h₂ : Heap} {env : Env} {Z α Z' α' : List Addr} (nx : Nx h env Z α h₁ Z' α') (x : Bt wr h₁ h₂) (hw : ∀ b ∈ wr, h.get? b = none) : Nx h env Z α h₂ Z' α' where
  kb := fun a o e hn => by
    obtain ⟨sl, e1, q⟩ := nx.kb a o e hn
    exact ⟨sl, x.kept a _ (fun hm => by exact nos (hw a hm) e) e1, q⟩
  mv := nx.mv.trans x.mv nx.some
  pre := nx.pre
  new := nx.new
  zsub := nx.zsub
  fr := fun b o e => (nx.fr b o e).trans fun o' e1 => .same (x.kept b _ (fun hm => by exact nos (hw b hm) e) e1)
end
end Mine
end
section
open PySem.W
namespace Mine
/- what an iterator made now is -/
structure ItAt (prog : Program) (w : World) (hb : Heap) (A : Around) (target : Expr) (h₀ : Heap) (Z : List Addr) (I : Addr) (fp wr : List Addr) (n : Nat) (P Md : Nat → Value → Heap → Prop) (S : Nat → Heap → Prop) (h₁ : Heap) : Prop where
  turns : KTurns prog w A target I fp wr n P Md S
  start : S 0 h₁
  kp : Kp h₀ h₁
  stays : hb.StaysIn h₁
  fps : ∀ b ∈ fp, (∃ o, h₁.get? b = some o) ∧ (h₀.get? b = none ∨ (∃ ws, LstAt h₁ b ws ∧ b ∉ Z) ∨ ∃ ws, TupAt h₁ b ws)
  wrs : ∀ b ∈ wr, h₀.get? b = none
  at' : ∀ i h, S i h → (∀ b ∈ fp, ∃ o, h.get? b = some o ∧ o.cls ≠ .type "frame") ∧ ∀ b ∈ wr, ∃ o vs, h.get? b = some o ∧ o.data = .fields vs
  self : ∀ (s : Shared) (Q E : Value → Shared → Prop), S 0 s.heap → Q (.ref I) s → wpAny (model prog w) A (pyIter (.ref I)) Q E s
  atM : ∀ i v h, Md i v h → ∀ b ∈ wr, ∃ o vs, h.get? b = some o ∧ o.data = .fields vs

section
variable (prog : Program) (w : World) (hb : Heap) (n : Nat) (sc : Scope) (nm : List Str)
/- the items of an iterable -/
noncomputable def SimV (e : Expr) (f : XFs) : Prop :=
  ∀ (target : Expr) (env : Env) (Z α : List Addr) (A : Around) (s : Shared) (mem : Mem) (sl : Slots) (vs : List V) (Q E : Value → Shared → Prop),
    env.scope = sc → Rm hb n A s.heap → St prog w hb env nm Z α mem sl s.heap → f mem sl = some vs →
    (∀ I h₁ tk fp wr P Md S, ItAt prog w hb A target s.heap Z I fp wr vs.length P Md S h₁ →
      (∀ i v h₂ Z₂ α₂, P i v h₂ → Mv h₁ Z h₂ Z₂ → α <+: α₂ → i < vs.length → ∃ x, vs[i]? = some x ∧ RV h₂ Z₂ α₂ x v) → Q (.ref I) { s with heap := h₁, toks := tk }) →
    wpAny (model prog w) A (eval e env) (fun x s₁ => wpAny (model prog w) A (pyIter x) Q E s₁) E s
/- a loop's head: what each turn does to the slots -/
noncomputable abbrev XG := Mem → Slots → Option (List (Slots → Option Slots))
noncomputable def SimI (target e : Expr) (f : XG) : Prop :=
  ∀ (env : Env) (Z α : List Addr) (A : Around) (s : Shared) (mem : Mem) (sl : Slots) (gs : List (Slots → Option Slots)) (Q E : Value → Shared → Prop),
    env.scope = sc → Rm hb n A s.heap → St prog w hb env nm Z α mem sl s.heap → f mem sl = some gs →
    (∀ I h₁ tk fp wr P Md S, ItAt prog w hb A target s.heap Z I fp wr gs.length P Md S h₁ →
      (∀ i v (g : Slots → Option Slots) (Z₂ α₂ : List Addr) (s₂ : Shared) (mem₂ : Mem) (sl₂ sl₃ : Slots) (Q : Unit → Shared → Prop) (E : Value → Shared → Prop), P i v s₂.heap → Mv h₁ Z s₂.heap Z₂ → α <+: α₂ → gs[i]? = some g → g sl₂ = some sl₃ →
        Bd hb A s₂.heap Z₂ env → St prog w hb env nm Z₂ α₂ mem₂ sl₂ s₂.heap →
        (∀ h' tk, Nx s₂.heap env Z₂ α₂ h' Z₂ α₂ → Bd hb A h' Z₂ env → St prog w hb env nm Z₂ α₂ mem₂ sl₃ h' → Q () { s₂ with heap := h', toks := tk }) →
        wpAny (model prog w) A (assign target env v) Q E s₂) →
      Q (.ref I) { s with heap := h₁, toks := tk }) →
    wpAny (model prog w) A (eval e env) (fun x s₁ => wpAny (model prog w) A (pyIter x) Q E s₁) E s
end
section
variable {prog : Program} {w : World} {hb : Heap} {n : Nat} {sc : Scope} {nm : List Str}
noncomputable def gV (set : V → Slots → Option Slots) (f : XFs) : XG := fun mem sl => (f mem sl).map fun vs => vs.map set
theorem simI_v {target e : Expr} {f : XFs} {set : V → Slots → Option Slots} (ht : SimA prog w hb sc nm target set) (he : SimV prog w hb n sc nm e f) : SimI prog w hb n sc nm target e (gV set f) := by
  intro env Z α A s mem sl gs Q E hsc rm st hf hQ
  simp only [gV, Option.map_eq_some_iff] at hf
  obtain ⟨vs, hvs, rfl⟩ := hf
  refine he target env Z α A s mem sl vs Q E hsc rm st hvs fun I h₁ tk fp wr P Md S it hval => ?_
  refine hQ I h₁ tk fp wr P Md S (by rw [List.length_map]; exact it) fun i v g Z₂ α₂ s₂ mem₂ sl₂ sl₃ Q E hP mv pre hg hgs bd st2 hQ => ?_
  rw [List.getElem?_map] at hg
  cases hx : vs[i]? with
  | none => simp [hx] at hg
  | some x =>
    simp [hx] at hg
    subst hg
    obtain ⟨x', hx', rv⟩ := hval i v s₂.heap Z₂ α₂ hP mv pre (List.getElem?_eq_some_iff.mp hx).1
    obtain rfl := soK (hx.symm.trans hx')
    exact ht env Z₂ α₂ A s₂ mem₂ sl₂ sl₃ x v Q E hsc rm.hd bd st2 rv hgs hQ

theorem go_iter {A : Around} {target : Expr} {I : Addr} {v : Value} {s : Shared} {o : Obj} {T : String} {fs : Array Value} {Q : Unit → Shared → Prop} {E : Value → Shared → Prop} (ho : s.heap.get? I = some o) (hc : o.cls = .type T) (hd : o.data = .fields fs)
    (hT : ["enumerate", "zip", "dict_itemiterator", "dict_reverseitemiterator", "odict_iterator", "itertools.zip_longest", "itertools.pairwise"].contains T = false) (h : Q () s) : wpAny (model prog w) A (letOwnedTupleGo target (.ref I) v) Q E s := by
  have hb : wpAny (model prog w) A (letOwnedTupleGo (.Tuple [] default default) (.ref I) v) Q E s := by
    cases v with
    | ref a =>
      refine wpAny_bind (wpAny_load ho ?_)
      rw [hc, hd]
      show wpAny _ A (if (["enumerate", "zip", "dict_itemiterator", "dict_reverseitemiterator", "odict_iterator", "itertools.zip_longest", "itertools.pairwise"].contains T && _) = true then _ else _) Q E s
      rw [hT]
      exact wpAny_pure h
    | _ => exact wpAny_pure h
  cases target <;> first | exact wpAny_pure h | exact hb

/- the items of a list or a tuple -/
noncomputable def vSeq (f : XF) : XFs := fun mem sl => (f mem sl).bind fun v => match v with
  | .p (.lst l) => some (l.map .p)
  | .p (.tup l) => some (l.map .p)
  | _ => none
theorem simV_seq {e : Expr} {f : XF} (he : SimE prog w hb n sc nm e f) : SimV prog w hb n sc nm e (vSeq f) := by
  intro target env Z α A s mem sl vs Q E hsc rm st hf hQ
  simp only [vSeq, Option.bind_eq_some_iff] at hf
  obtain ⟨v, hv, hf⟩ := hf
  refine he env Z α A s mem sl v _ _ hsc rm st hv fun y h1 t1 r1 k1 s1 => ?_
  split at hf
  · rename_i l
    cases hf
    simp only [RV, RP] at r1
    obtain ⟨a, ws, rfl, la, hz, rp⟩ := r1
    have e := rp.length
    refine iter_lst la fun s₂ e2 st2 hfp hne => ?_
    subst e2
    have k2 : Kp s.heap (h1.push { cls := .type "list_iterator", data := .fields #[.ref a, .int 0 0] }) := k1.push _
    have W := Walks.list (prog := prog) (w := w) (A := A) rm.hd h1.objs.size a hne ws.toArray
    have hn : ws.toArray.size = (l.map V.p).length := by simp [e]
    rw [hn] at W
    refine hQ h1.objs.size _ t1 _ _ _ _ _ ⟨KTurns.ofWalks W fun i v s' Q' E' hs' hq => ?_, st2, k2, stays_push s1 _, ?_, ?_, ?_, fun s Q E st hQ => W.self 0 s Q E st hQ, ?_⟩ fun i v h₂ Z₂ α₂ hP mv pre hi => ?_
    · obtain ⟨o, ho, hc, hd⟩ := hs'.1
      exact go_iter ho hc hd (by decide) hq
    · intro b hb'
      rcases List.mem_cons.mp hb' with rfl | hb'
      · exact ⟨⟨_, Heap.get?_push_size _ rfl⟩, .inl k1.fresh⟩
      · rcases List.mem_cons.mp hb' with rfl | hb'
        · obtain ⟨q, g⟩ := id la
          exact ⟨⟨_, Heap.get?_push_of_some _ g⟩, .inr (.inl ⟨ws, ⟨q, Heap.get?_push_of_some _ g⟩, hz⟩)⟩
        · cases hb'
    · intro b hb'
      obtain rfl := List.mem_singleton.mp hb'; exact k1.fresh
    · intro i h hs'
      refine ⟨fun b hb' => ?_, fun b hb' => ?_⟩
      · rcases List.mem_cons.mp hb' with rfl | hb'
        · obtain ⟨o, ho, hc, _⟩ := hs'.1
          exact ⟨o, ho, by rw [hc]; exact ty_ne (by decide)⟩
        · rcases List.mem_cons.mp hb' with rfl | hb'
          · obtain ⟨o, ho, hc, _⟩ := hs'.2
            exact ⟨o, ho, by rw [hc]; exact ty_ne (by decide)⟩
          · cases hb'
      · obtain rfl := List.mem_singleton.mp hb'
        obtain ⟨o, ho, _, hd⟩ := hs'.1
        exact ⟨o, _, ho, hd⟩
    · intro i v h hs' b hb'
      obtain rfl := List.mem_singleton.mp hb'
      obtain ⟨o, ho, _, hd⟩ := hs'.2.1
      exact ⟨o, _, ho, hd⟩
    · have hP' : ws[i]? = some v := by simpa using hP
      obtain ⟨d, hd, rd⟩ := rp.get' hP'
      refine ⟨.p d, by simp [hd], ?_⟩
      have r2 : RP (h1.push { cls := .type "list_iterator", data := .fields #[.ref a, .int 0 0] }) Z d v := RP.kp ((Kp.refl h1).push _) _ _ rd
      exact RP.mv mv _ _ r2
  · rename_i l
    cases hf
    simp only [RV, RP] at r1
    obtain ⟨a, ws, rfl, la, rp⟩ := r1
    have e := rp.length
    obtain ⟨qn, ga⟩ := id la
    have hne : a ≠ h1.objs.size := Nat.ne_of_lt (Heap.lt_size ga)
    refine wpAny_pyIter_tuple la.isTuple ?_
    have k2 : Kp s.heap (h1.push { cls := .type "tuple_iterator", data := .fields #[.ref a, .int 0 0] }) := k1.push _
    have W := Walks.tuple (prog := prog) (w := w) (A := A) rm.hd h1.objs.size a hne ws.toArray
    have hn : ws.toArray.size = (l.map V.p).length := by simp [e]
    rw [hn] at W
    refine hQ h1.objs.size _ t1 _ _ _ _ _ ⟨KTurns.ofWalks W fun i v s' Q' E' hs' hq => ?_, ⟨⟨_, Heap.get?_push_size _ rfl, rfl, rfl⟩, la.isTuple.push _⟩, k2, stays_push s1 _, ?_, ?_, ?_, fun s Q E st hQ => W.self 0 s Q E st hQ, ?_⟩ fun i v h₂ Z₂ α₂ hP mv pre hi => ?_
    · obtain ⟨o, ho, hc, hd⟩ := hs'.1
      exact go_iter ho hc hd (by decide) hq
    · intro b hb'
      rcases List.mem_cons.mp hb' with rfl | hb'
      · exact ⟨⟨_, Heap.get?_push_size _ rfl⟩, .inl k1.fresh⟩
      · rcases List.mem_cons.mp hb' with rfl | hb'
        · exact ⟨⟨_, Heap.get?_push_of_some _ ga⟩, .inr (.inr ⟨ws, ⟨_, Heap.get?_push_of_some _ ga⟩⟩)⟩
        · cases hb'
    · intro b hb'
      obtain rfl := List.mem_singleton.mp hb'; exact k1.fresh
    · intro i h hs'
      refine ⟨fun b hb' => ?_, fun b hb' => ?_⟩
      · rcases List.mem_cons.mp hb' with rfl | hb'
        · obtain ⟨o, ho, hc, _⟩ := hs'.1
          exact ⟨o, ho, by rw [hc]; exact ty_ne (by decide)⟩
        · rcases List.mem_cons.mp hb' with rfl | hb'
          · obtain ⟨o, ho, hc, _⟩ := hs'.2
            exact ⟨o, ho, by rw [hc]; exact ty_ne (by decide)⟩
          · cases hb'
      · obtain rfl := List.mem_singleton.mp hb'
        obtain ⟨o, ho, _, hd⟩ := hs'.1
        exact ⟨o, _, ho, hd⟩
    · intro i v h hs' b hb'
      obtain rfl := List.mem_singleton.mp hb'
      obtain ⟨o, ho, _, hd⟩ := hs'.2.1
      exact ⟨o, _, ho, hd⟩
    · have hP' : ws[i]? = some v := by simpa using hP
      obtain ⟨d, hd, rd⟩ := rp.get' hP'
      refine ⟨.p d, by simp [hd], ?_⟩
      have r2 : RP (h1.push { cls := .type "tuple_iterator", data := .fields #[.ref a, .int 0 0] }) Z d v := RP.kp ((Kp.refl h1).push _) _ _ rd
      exact RP.mv mv _ _ r2
  · exact noK hf

/- the numbers of a range -/
noncomputable def rangeL (a : Int) (c : Int) (k : Nat) : List V := (List.range k).map fun (i : Nat) => V.p (P.int (a + (i : Int) * c))
noncomputable def vR1 (b : Int) : Option (List V) := if smallI b then some (rangeL 0 1 (Builtin.Range.rangeSize 0 b 1).toNat) else none
noncomputable def vR2 (a b : Int) : Option (List V) := if smallI a && smallI b then some (rangeL a 1 (Builtin.Range.rangeSize a b 1).toNat) else none
noncomputable def vR3 (a b c : Int) : Option (List V) := if c ≠ 0 ∧ Builtin.Range.small a b c = true ∧ Builtin.divisionGoesByPylong (b - a) c = false ∧ 0 ≤ Builtin.Range.rangeSize a b c then some (rangeL a c (Builtin.Range.rangeSize a b c).toNat) else none
noncomputable def vRg : List Int → Option (List V)
  | [] => none
  | a :: r => match r with
    | [] => vR1 a
    | b :: r => match r with
      | [] => vR2 a b
      | c :: r => match r with
        | [] => vR3 a b c
        | _ :: _ => none
noncomputable def vRange (f : XFs) : XFs := fun mem sl => (f mem sl).bind fun vs => (vs.mapM intV).bind vRg
theorem ints_of {h : Heap} {Z α : List Addr} {vs : List V} {is : List Int} {ys : List Value} (e : vs.mapM intV = some is) (r : RVs h Z α vs ys) : ∃ ts : List Tok, ys = List.zipWith Value.int is ts ∧ ts.length = is.length := by
  induction vs generalizing is ys with
  | nil =>
    obtain rfl := soK e
    cases ys with
    | nil => exact ⟨[], rfl, rfl⟩
    | cons _ _ => exact r.elim
  | cons v vs ih =>
    cases ys with
    | nil => exact r.elim
    | cons y ys =>
      rw [List.mapM_cons] at e
      refine bindK e fun a h1 e => bindK e fun bs h2 e => ?_
      obtain rfl := soK e
      obtain rfl := intV_at h1
      obtain ⟨t, rfl⟩ := r.1
      obtain ⟨ts, rfl, h3⟩ := ih h2 r.2
      exact ⟨t :: ts, rfl, congrArg (· + 1) h3⟩
theorem range_it {target : Expr} {Z α : List Addr} {A : Around} {s : Shared} {Q E : Value → Shared → Prop} {r : Addr} {a b c : Int} {t u v : Tok} {h₀ : Heap} (rm : Rm hb n A s.heap) (hr : IsRange s.heap r a b c t u v) (hs : Builtin.Range.small a b c = true) (h0 : 0 ≤ Builtin.Range.rangeSize a b c)
    (k1 : Kp h₀ s.heap) (s1 : hb.StaysIn s.heap)
    (hQ : ∀ I h₁ tk fp wr P Md S, ItAt prog w hb A target h₀ Z I fp wr (rangeL a c (Builtin.Range.rangeSize a b c).toNat).length P Md S h₁ →
      (∀ i v h₂ Z₂ α₂, P i v h₂ → Mv h₁ Z h₂ Z₂ → α <+: α₂ → i < (rangeL a c (Builtin.Range.rangeSize a b c).toNat).length → ∃ x, (rangeL a c (Builtin.Range.rangeSize a b c).toNat)[i]? = some x ∧ RV h₂ Z₂ α₂ x v) → Q (.ref I) { s with heap := h₁, toks := tk }) :
    wpAny (model prog w) A (pyIter (.ref r)) Q E s := by
  refine wpAny_pyIter_range hr hs ?_
  have hn : (rangeL a c (Builtin.Range.rangeSize a b c).toNat).length = (Builtin.Range.rangeSize a b c).toNat := by simp [rangeL]
  have W := Walks.range (prog := prog) (w := w) (A := A) rm.hd s.heap.objs.size a c (Builtin.Range.rangeSize a b c).toNat
  rw [← hn] at W
  refine hQ s.heap.objs.size _ s.toks _ _ _ _ _ ⟨KTurns.ofWalks W fun i v s' Q' E' hs' hq => go_iter hs' rfl rfl (by decide) hq, ?_, k1.push _, stays_push s1 _, ?_, ?_, ?_, fun s Q E st hQ => W.self 0 s Q E st hQ, ?_⟩ fun i v h₂ Z₂ α₂ hP mv pre hi => ?_
  · have e : ((rangeL a c (Builtin.Range.rangeSize a b c).toNat).length : Int) = Builtin.Range.rangeSize a b c := by rw [hn]; omega
    show IsRangeIter _ _ _ _ _
    rw [e]
    simpa using Heap.get?_push_size s.heap (o := { cls := .type "range_iterator", data := .fields #[rawInt a, rawInt (Builtin.Range.rangeSize a b c), rawInt c] }) rfl
  · intro b' hb'
    obtain rfl := List.mem_singleton.mp hb'
    exact ⟨⟨_, Heap.get?_push_size _ rfl⟩, .inl k1.fresh⟩
  · intro b' hb'
    obtain rfl := List.mem_singleton.mp hb'; exact k1.fresh
  · intro i h hs'
    refine ⟨fun b' hb' => ?_, fun b' hb' => ?_⟩
    · obtain rfl := List.mem_singleton.mp hb'
      exact ⟨_, hs', ty_ne (by decide)⟩
    · obtain rfl := List.mem_singleton.mp hb'
      exact ⟨_, _, hs', rfl⟩
  · intro i v h hs' b' hb'
    obtain rfl := List.mem_singleton.mp hb'
    exact ⟨_, _, hs'.2, rfl⟩
  · rw [hn] at hi
    obtain ⟨t', rfl⟩ := hP
    exact ⟨.p (.int (a + (i : Int) * c)), by simp [rangeL, hi], by simp [RV, RP]⟩
theorem simV_range {p pos : Pos} {e : Expr} {r : List Expr} {f : XFs} (G : GN hb "range" (.type "range")) (ha : SimEs prog w hb n sc nm (e :: r) f)
    (hp : (e :: r).all noStar = true := by rfl) (hx : sc.names.lookup ("range" : Str) = some .globalImplicit := by decide +kernel) : SimV prog w hb n sc nm (.Call (.Name "range" p) (e :: r) [] pos) (vRange f) := by
  intro target env Z α A s mem sl vs Q E hsc rm st hf hQ
  refine bindK hf fun as has hf => bindK hf fun is his hf => call_global G (keeps1_type _) ha hp hx hsc rm st has fun ys h1 t1 r1 k1 s1 => ?_
  obtain ⟨ts, rfl, hl⟩ := ints_of his r1
  have rm1 : ∀ o, Rm hb n A (h1.push o) := fun o => rm.kp (k1.push _)
  cases is with
  | nil => exact noK hf
  | cons a is => cases ts with
    | nil => exact Nat.noConfusion hl
    | cons t ts => cases is with
      | nil =>
        refine iteK hf fun hs hf => ?_
        subst hf
        simp only [smallI, Bool.and_eq_true, decide_eq_true_eq] at hs
        refine call_range_1 ?_
        exact range_it (target := target) (h₀ := s.heap) (α := α) (Z := Z) (rm1 _) (Heap.get?_push_size _ rfl) (small_one (by omega) (by omega) (by omega) (by omega)) (by rw [rangeSize_one]; split <;> omega) (k1.push _) (stays_push s1 _) hQ
      | cons b is => cases ts with
        | nil => exact Nat.noConfusion (Nat.succ.inj hl)
        | cons u ts => cases is with
          | nil =>
            refine iteK hf fun hs hf => ?_
            subst hf
            simp only [smallI, Bool.and_eq_true, decide_eq_true_eq] at hs
            refine call_range_2 ?_
            exact range_it (target := target) (h₀ := s.heap) (α := α) (Z := Z) (rm1 _) (Heap.get?_push_size _ rfl) (small_one (by omega) (by omega) (by omega) (by omega)) (by rw [rangeSize_one]; split <;> omega) (k1.push _) (stays_push s1 _) hQ
          | cons c is => cases ts with
            | nil => exact Nat.noConfusion (Nat.succ.inj (Nat.succ.inj hl))
            | cons v ts => cases is with
              | nil =>
                refine iteK hf fun hs hf => ?_
                subst hf
                refine call_range_3 hs.1 ?_ (.inl hs.2.2.1)
                exact range_it (target := target) (h₀ := s.heap) (α := α) (Z := Z) (rm1 _) (Heap.get?_push_size _ rfl) hs.2.1 hs.2.2.2 (k1.push _) (stays_push s1 _) hQ
              | cons _ _ => exact noK hf
end
end Mine
end
section
open PySem.W
namespace Mine
section
variable {prog : Program} {w : World} {hb : Heap} {n : Nat} {sc : Scope} {nm : List Str}

noncomputable def forGo (body els : SF) : List (Slots → Option Slots) → SF
  | [] => els
  | g :: gs => fun mem sl => (g sl).bind fun sl1 => (body mem sl1).bind fun r => match r with
    | (.next, mem', sl') => forGo body els gs mem' sl'
    | (.cont, mem', sl') => forGo body els gs mem' sl'
    | (.brk, mem', sl') => some (.next, mem', sl')
    | (.ret v, mem', sl') => some (.ret v, mem', sl')
noncomputable def sFor (it : XG) (body els : SF) : SF := fun mem sl => (it mem sl).bind fun gs => forGo body els gs mem sl

theorem not_own {h₀ h₁ h : Heap} {A : Around} {env : Env} {Z α Z' α' : List Addr} {mem mem' : Mem} {sl sl' : Slots} {b : Addr} (st0 : St prog w hb env nm Z α mem sl h₀) (bd0 : Bd hb A h₀ Z env) (k : Kp h₀ h₁)
    (nx : Nx h₀ env Z α h Z' α') (he : ∃ o, h₁.get? b = some o) (hz : ∀ a ∈ α', a ∈ α ∨ h₁.get? a = none)
    (hq : h₀.get? b = none ∨ (∃ ws, LstAt h₁ b ws ∧ b ∉ Z) ∨ ∃ ws, TupAt h₁ b ws) : ¬ Own env α' b := by
  obtain ⟨m, hn, _⟩ := st0.fm.vars
  have hL : ∃ o, h₀.get? env.locals = some o ∧ (∀ q k, o.data ≠ .seq q k) := by
    obtain ⟨o, es, ep, e, d, _⟩ := hn
    exact ⟨o, e, fun q k x => by rw [d] at x; cases x⟩
  rintro (rfl | ⟨x, h1, h2⟩ | h3)
  · obtain ⟨o, e, hd⟩ := hL
    obtain ⟨sl1, e1, _⟩ := k _ _ e
    rcases hq with q | ⟨ws, ⟨c, q⟩, _⟩ | ⟨ws, c, q⟩
    · exact nos q e
    · rw [q] at e1; exact hd _ _ (congrArg Obj.data (Option.some.inj e1)).symm
    · rw [q] at e1; exact hd _ _ (congrArg Obj.data (Option.some.inj e1)).symm
  · obtain ⟨⟨v, o, e, d⟩, _⟩ := bd0.cel x b h1 h2
    obtain ⟨sl1, e1, _⟩ := k _ _ e
    rcases hq with q | ⟨ws, ⟨c, q⟩, _⟩ | ⟨ws, c, q⟩
    · exact nos q e
    · rw [q] at e1; have := congrArg Obj.data (Option.some.inj e1); simp only [d] at this; cases this
    · rw [q] at e1; have := congrArg Obj.data (Option.some.inj e1); simp only [d] at this; cases this
  · rcases hz b h3 with h3 | h3
    · have hbZ := st0.me.sub b h3
      rcases hq with q | ⟨ws, _, q⟩ | ⟨ws, c, q⟩
      · obtain ⟨o, e⟩ := st0.me.zin b hbZ
        exact nos q e
      · exact q hbZ
      · obtain ⟨j, hj, e⟩ := List.mem_iff_getElem.mp h3
        have hj' : j < mem.length := by rw [← st0.me.len]; exact hj
        have := st0.me.here j b mem[j] (by rw [← e]; exact List.getElem?_eq_getElem hj) (List.getElem?_eq_getElem hj')
        have := this.kp k
        cases hm : mem[j] with
        | ml l =>
          rw [hm] at this
          obtain ⟨vs, la, _⟩ := this
          exact la.ne_tup ⟨c, q⟩ rfl
        | md l =>
          rw [hm] at this
          obtain ⟨kvs, ⟨o, es, ep, ho, hx, _⟩, _⟩ := this
          rw [q] at ho
          obtain rfl := soK ho
          exact absurd hx.1 (ty_ne (by decide))
    · obtain ⟨o, e⟩ := he
      exact nos h3 e

/- between the turns of a for -/
inductive ForI (prog : Program) (w : World) (hb : Heap) (nm : List Str) (env : Env) (Z α : List Addr) (A : Around) (s : Shared) (h₁ : Heap) (wr : List Addr) (S : Nat → Heap → Prop) (N : Nat) (G : Nat → SF) (r : Option (Out × Mem × Slots)) (k : Nat) (s' : Shared) : Prop
  | mk (i : Nat) (h : Heap) (t : Nat) (Z' α' : List Addr) (mem₂ : Mem) (sl₂ : Slots) (e : s' = { s with heap := h, toks := t }) (hi : i ≤ N) (hk : k = N - i) (hS : S i h) (nx : Nx s.heap env Z α h Z' α') (mv : Mv h₁ Z h Z')
      (sm : ∀ b o', h₁.get? b = some o' → ∃ o'', h.get? b = some o'') (hα : ∀ a ∈ α', a ∈ α ∨ h₁.get? a = none) (hZ : ∀ b ∈ Z', b ∉ wr) (bd : Bd hb A h Z' env) (st : St prog w hb env nm Z' α' mem₂ sl₂ h) (go : G i mem₂ sl₂ = r)
theorem sim_for {target iter : Expr} {body orelse : List Stmt} {pos : Pos} {f : XG} {fb fe : SF} (hi : SimI prog w hb n sc nm target iter f) (hbody : SimB prog w hb n sc nm body fb) (hels : SimB prog w hb n sc nm orelse fe)
    (hs : ∀ env x, foldedSetIterable iter env x = pure x := by intro _ _; rfl) : SimS prog w hb n sc nm (.For target iter body orelse pos) (sFor f fb fe) := by
  intro env Z α A s mem sl o mem' sl' Q E hsc rm bd st hf hQ
  simp only [sFor, Option.bind_eq_some_iff] at hf
  obtain ⟨gs, hgs, hf⟩ := hf
  refine wpAny_For (hi env Z α A s mem sl gs _ _ hsc rm st hgs fun I h₁ tk fp wr P Md S it hasg => ?_) (hs env)
  have nx0 : Nx s.heap env Z α h₁ Z α := .of_kp it.kp
  refine codeAny_forLoop_any (ForI prog w hb nm env Z α A s h₁ wr S gs.length (fun i => forGo fb fe (gs.drop i)) (some (o, mem', sl'))) ?_ gs.length
    ⟨0, h₁, tk, Z, α, mem, sl, rfl, Nat.zero_le _, rfl, it.start, nx0, .of_kp (.refl _), fun b o' e => ⟨o', e⟩, fun a ha => .inl ha, fun b hb' hw => ?_, bd.kp it.kp, st.kp it.kp it.stays, by simpa using hf⟩
  · rintro k s' ⟨i, h, t, Z', α', mem₂, sl₂, rfl, hi', rfl, hS, nx, mv, hsome, hα, hZw, bd', st', hgo⟩
    have rm' : Rm hb n A h := rm.nx nx
    have hwhb : ∀ b ∈ wr, hb.get? b = none := fun b hb' => by
      cases q : hb.get? b with
      | none => rfl
      | some o' => have := st.stays b o' q; exact nos (it.wrs b hb') this
    by_cases hlt : i < gs.length
    · refine it.turns.item i { s with heap := h, toks := t } _ _ hlt hS fun v h2 t2 hMd hk2 => ?_
      dsimp only
      refine it.turns.go i v { s with heap := h2, toks := t2 } _ _ hMd fun h3 hP3 hS3 hk3 => ?_
      have bt : Bt wr h h3 := ⟨fun b o' hb' e => hk3 b o' hb' (hk2 b o' hb' e), (it.at' i h hS).2⟩
      have nx3 := nx.bt bt it.wrs
      have mv3 : Mv h₁ Z h3 Z' := mv.trans bt.mv hsome
      have hdrop : gs.drop i = gs[i] :: gs.drop (i + 1) := by rw [List.drop_eq_getElem_cons hlt]
      rw [hdrop] at hgo
      simp only [forGo, Option.bind_eq_some_iff] at hgo
      obtain ⟨sl3, hg, r, hr, hgo⟩ := hgo
      have hsome3 : ∀ b o', h.get? b = some o' → ∃ o'', h3.get? b = some o'' := fun b o' e => by
        by_cases hbw : b ∈ wr
        · obtain ⟨o'', _, e', _⟩ := (it.at' _ _ hS3).2 b hbw
          exact ⟨o'', e'⟩
        · exact ⟨o', bt.kept b o' hbw e⟩
      refine hasg i v gs[i] Z' α' { s with heap := h3, toks := t2 } mem₂ sl₂ sl3 _ _ hP3 mv3 nx3.pre (List.getElem?_eq_getElem hlt) hg (bd'.bt bt) (st'.bt bt hZw hwhb) fun h4 t4 nx4 bd4 st4 => ?_
      have nx14 := nx3.trans nx4
      obtain ⟨o1, mem3, sl4⟩ := r
      refine hbody env Z' α' A { s with heap := h4, toks := t4 } mem₂ sl3 o1 mem3 sl4 _ _ hsc (rm.nx nx14) bd4 st4 hr fun fl h5 t5 Z5 α5 nx5 bd5 st5 rf => ?_
      have nx15 := nx14.trans nx5
      have nx35 := nx4.trans nx5
      have loop : forGo fb fe (gs.drop (i + 1)) mem3 sl4 = some (o, mem', sl') →
          ∃ m, m < gs.length - i ∧ ForI prog w hb nm env Z α A s h₁ wr S gs.length (fun i => forGo fb fe (gs.drop i)) (some (o, mem', sl')) m { s with heap := h5, toks := t5 } := fun hgo => by
        have hs13 : ∀ b o', h₁.get? b = some o' → ∃ o'', h3.get? b = some o'' := fun b o' e => by
          obtain ⟨o1', e1⟩ := hsome b o' e
          exact hsome3 b o1' e1
        refine ⟨gs.length - (i + 1), Nat.sub_lt_sub_left hlt (Nat.lt_succ_self i), .mk (i + 1) h5 t5 Z5 α5 mem3 sl4 rfl hlt rfl ?_ nx15 (mv3.trans nx35.mv hs13) (fun b o' e => ?_) (fun a ha => ?_) (fun b hb' hw => ?_) bd5 st5 hgo⟩
        · refine it.turns.frame (i + 1) h3 h5 hS3 fun b hb' o' e => ?_
          have hno : ¬ Own env α' b := not_own (mem' := mem) (sl' := sl) st bd it.kp nx (it.fps b hb').1 hα (it.fps b hb').2
          obtain ⟨sl', e', q⟩ := nx35.kb b o' e hno
          obtain ⟨o'', e'', hc⟩ := (it.at' _ _ hS3).1 b hb'
          obtain rfl := soK (e.symm.trans e'')
          rw [q hc] at e'
          exact e'
        · obtain ⟨o1', e1⟩ := hs13 b o' e
          exact nx35.some b o1' e1
        · rcases nx35.new a ha with h' | h'
          · exact hα a h'
          · exact .inr (none_of hs13 h')
        · rcases nx35.mv.new b hb' with h' | h'
          · exact hZw b h' hw
          · obtain ⟨o'', _, e', _⟩ := (it.at' _ _ hS3).2 b hw
            exact nos h' e'
      cases o1 with
      | next =>
        obtain rfl : fl = .next := rf
        exact loop hgo
      | cont =>
        obtain rfl : fl = .cont := rf
        exact loop hgo
      | brk =>
        obtain rfl : fl = .brk := rf
        obtain ⟨rfl, rfl, rfl⟩ := so3 hgo
        exact hQ .next h5 t5 Z5 α5 nx15 bd5 st5 rfl
      | ret v =>
        obtain ⟨y, rfl, ry⟩ := rf
        obtain ⟨rfl, rfl, rfl⟩ := so3 hgo
        exact hQ (.ret y) h5 t5 Z5 α5 nx15 bd5 st5 ⟨y, rfl, ry⟩
    · have hie : i = gs.length := by omega
      subst hie
      refine it.turns.done { s with heap := h, toks := t } _ _ hS fun h2 t2 hk2 => ?_
      have bt : Bt wr h h2 := ⟨hk2, (it.at' _ _ hS).2⟩
      have nx2 := nx.bt bt it.wrs
      rw [List.drop_length] at hgo
      simp only [forGo] at hgo
      refine hels env Z' α' A { s with heap := h2, toks := t2 } mem₂ sl₂ o mem' sl' _ _ hsc (rm.nx nx2) (bd'.bt bt) (st'.bt bt hZw hwhb) hgo fun fl h5 t5 Z5 α5 nx5 bd5 st5 rf => ?_
      exact hQ fl h5 t5 Z5 α5 (nx2.trans nx5) bd5 st5 rf
  · obtain ⟨o', e⟩ := st.me.zin b hb'
    exact nos (it.wrs b hw) e

noncomputable def whGo (t : TF) (body : SF) : Nat → SF
  | 0 => fun _ _ => none
  | k + 1 => fun mem sl => (t mem sl).bind fun c => if c = true then (body mem sl).bind fun r => match r with
    | (.next, mem', sl') => whGo t body k mem' sl'
    | (.cont, mem', sl') => whGo t body k mem' sl'
    | (.brk, mem', sl') => some (.next, mem', sl')
    | (.ret v, mem', sl') => some (.ret v, mem', sl')
    else some (.next, mem, sl)
inductive WhI (prog : Program) (w : World) (hb : Heap) (nm : List Str) (env : Env) (Z α : List Addr) (A : Around) (s : Shared) (G : Nat → SF) (r : Option (Out × Mem × Slots)) (k : Nat) (s' : Shared) : Prop
  | mk (h : Heap) (t : Nat) (Z' α' : List Addr) (mem₂ : Mem) (sl₂ : Slots) (e : s' = { s with heap := h, toks := t }) (nx : Nx s.heap env Z α h Z' α') (bd : Bd hb A h Z' env) (st : St prog w hb env nm Z' α' mem₂ sl₂ h) (go : G k mem₂ sl₂ = r)
theorem sim_while {test : Expr} {body : List Stmt} {pos : Pos} {ft : TF} {fb : SF} (fuel : Nat) (ht : SimT prog w hb n sc nm test ft) (hbody : SimB prog w hb n sc nm body fb) : SimS prog w hb n sc nm (.While test body [] pos) (whGo ft fb fuel) := by
  intro env Z α A s mem sl o mem' sl' Q E hsc rm bd st hf hQ
  refine wpAny_While ?_
  refine codeAny_whileLoop (WhI prog w hb nm env Z α A s (whGo ft fb) (some (o, mem', sl'))) ?_ fuel ⟨s.heap, s.toks, Z, α, mem, sl, rfl, .of_kp (.refl _), bd, st, hf⟩
  rintro k s' ⟨h, t, Z', α', mem₂, sl₂, rfl, nx, bd', st', hgo⟩
  cases k with
  | zero => exact noK hgo
  | succ k =>
    simp only [whGo, Option.bind_eq_some_iff] at hgo
    obtain ⟨c, hc, hgo⟩ := hgo
    refine ht env Z' α' A { s with heap := h, toks := t } mem₂ sl₂ c _ _ hsc (rm.nx nx) st' hc fun h1 t1 k1 s1 => ?_
    have nx1 := nx.trans (Nx.of_kp (env := env) (Z := Z') (α := α') k1)
    cases c with
    | false =>
      simp only [Bool.false_eq_true, if_false] at hgo ⊢
      obtain ⟨rfl, rfl, rfl⟩ := so3 hgo
      exact wpAny_execs_nil (hQ .next h1 t1 Z' α' nx1 (bd'.kp k1) (st'.kp k1 s1) rfl)
    | true =>
      simp only [if_true, Option.bind_eq_some_iff] at hgo ⊢
      obtain ⟨⟨o1, mem3, sl4⟩, hr, hgo⟩ := hgo
      refine hbody env Z' α' A { s with heap := h1, toks := t1 } mem₂ sl₂ o1 mem3 sl4 _ _ hsc (rm.nx nx1) (bd'.kp k1) (st'.kp k1 s1) hr fun fl h5 t5 Z5 α5 nx5 bd5 st5 rf => ?_
      have nx15 := nx1.trans nx5
      cases o1 with
      | next =>
        obtain rfl : fl = .next := rf
        exact ⟨k, Nat.lt_succ_self _, .mk h5 t5 Z5 α5 mem3 sl4 rfl nx15 bd5 st5 hgo⟩
      | cont =>
        obtain rfl : fl = .cont := rf
        exact ⟨k, Nat.lt_succ_self _, .mk h5 t5 Z5 α5 mem3 sl4 rfl nx15 bd5 st5 hgo⟩
      | brk =>
        obtain rfl : fl = .brk := rf
        obtain ⟨rfl, rfl, rfl⟩ := so3 hgo
        exact hQ .next h5 t5 Z5 α5 nx15 bd5 st5 rfl
      | ret v =>
        obtain ⟨y, rfl, ry⟩ := rf
        obtain ⟨rfl, rfl, rfl⟩ := so3 hgo
        exact hQ (.ret y) h5 t5 Z5 α5 nx15 bd5 st5 ⟨y, rfl, ry⟩
end
end Mine
end
section
open PySem.W
namespace Mine

theorem bindL_at {kindOf : Str → Option NameKind} : ∀ (binds : List (Str × Value)) (m : Str → Option Value) (x : Str) (y : Value), (binds.map (·.1)).Nodup → (x, y) ∈ binds → kindOf x = some .local → bindL kindOf binds m x = some y
  | [], _, _, _, _, h, _ => by cases h
  | (n, v) :: r, m, x, y, hn, h, hk => by
    simp only [List.map_cons, List.nodup_cons] at hn
    unfold bindL
    rcases List.mem_cons.mp h with e | h
    · cases e
      have keep : ∀ (r : List (Str × Value)) (m : Str → Option Value), n ∉ r.map (·.1) → bindL kindOf r m n = m n := by
        intro r
        induction r with
        | nil => intro m _; rfl
        | cons p r ih =>
          intro m hm
          simp only [List.map_cons, List.mem_cons, not_or] at hm
          obtain ⟨pn, pv⟩ := p
          unfold bindL
          rw [ih _ hm.2]
          split
          · simp [hm.1]
          · rfl
      rw [keep r _ hn.1]
      simp [hk]
    · exact bindL_at r _ x y hn.2 h hk
theorem bindC_at {kindOf : Str → Option NameKind} : ∀ (binds : List (Str × Value)) (m : Str → Option Value) (x : Str) (y : Value), (binds.map (·.1)).Nodup → (x, y) ∈ binds → kindOf x ≠ some .local → bindC kindOf binds m x = some y
  | [], _, _, _, _, h, _ => by cases h
  | (n, v) :: r, m, x, y, hn, h, hk => by
    simp only [List.map_cons, List.nodup_cons] at hn
    unfold bindC
    rcases List.mem_cons.mp h with e | h
    · cases e
      have keep : ∀ (r : List (Str × Value)) (m : Str → Option Value), n ∉ r.map (·.1) → bindC kindOf r m n = m n := by
        intro r
        induction r with
        | nil => intro m _; rfl
        | cons p r ih =>
          intro m hm
          simp only [List.map_cons, List.mem_cons, not_or] at hm
          obtain ⟨pn, pv⟩ := p
          unfold bindC
          rw [ih _ hm.2]
          split
          · rfl
          · simp [hm.1]
      rw [keep r _ hn.1]
      simp [hk]
    · exact bindC_at r _ x y hn.2 h hk
theorem cells_has {x : Str} : ∀ (names : List (Str × NameKind)) (k : Nat) (acc : List (Str × Addr)), (names.lookup x = some .cell ∨ ∃ c, acc.lookup x = some c) → ∃ c, (cellsFrom k names acc).lookup x = some c
  | [], _, acc, h => by
    rcases h with h | h
    · simp at h
    · exact h
  | (name, kind) :: r, k, acc, h => by
    unfold cellsFrom
    by_cases hx : x = name
    · subst hx
      split
      · exact cells_has r _ _ (.inr ⟨k, by simp [List.lookup]⟩)
      · rename_i hk
        rcases h with h | h
        · simp [List.lookup] at h; rw [h] at hk; exact absurd rfl hk
        · exact cells_has r _ _ (.inr h)
    · have hbx : (x == name) = false := by simpa using hx
      split
      · refine cells_has r _ _ ?_
        rcases h with h | h
        · left; simpa [List.lookup, hbx] using h
        · right; simpa [List.lookup, hbx] using h
      · refine cells_has r _ _ ?_
        rcases h with h | h
        · left; simpa [List.lookup, hbx] using h
        · right; exact h

/- a function of the program -/
structure FnIs (hb : Heap) (f : Addr) (name : Str) (params : Arguments) (body : List Stmt) (scope : Scope) : Prop where
  obj : ∃ o pm cd doc, hb.get? f = some o ∧ o.data = .func (docDef name params body scope pm cd doc) ∧ hb.CodeRec cd name
  lim : hb.NoLimit

noncomputable def frzX (m : Nat) (mem : Mem) : P ⊕ Nat → Option (P ⊕ Nat)
  | .inl d => some (.inl d)
  | .inr k => if k < m then some (.inr k) else (derM mem k).map .inl
noncomputable def onlyL : P ⊕ Nat → Option P
  | .inl d => some d
  | .inr _ => none
noncomputable def frzV (m : Nat) (mem : Mem) : V → Option V
  | .p d => some (.p d)
  | .c k => if k < m then some (.c k) else (derM mem k).map .p
  | .t l => (l.mapM (frzX m mem)).map fun qs => match qs.mapM onlyL with
    | some ds => .p (.tup ds)
    | none => .t qs
noncomputable def efSem (k : Nat) (tot : Nat) (F : SF) : List V → Mem → Option (V × Mem) := fun vs mem => if vs.length = k then (F mem (vs.map some ++ List.replicate (tot - k) none)).bind fun r => match r with
  | (.ret v, mem', _) => (frzV mem.length mem' v).map fun v' => (v', mem'.take mem.length)
  | _ => none
  else none

section
variable (prog : Program) (w : World) (hb : Heap) (n : Nat)
noncomputable def EfSem (fv : Value) (sem : List V → Mem → Option (V × Mem)) : Prop :=
  ∀ (Z α : List Addr) (A : Around) (s : Shared) (mem mem' : Mem) (vs : List V) (v : V) (ys : List Value) (Q E : Value → Shared → Prop),
    Rm hb n A s.heap → Me prog w hb s.heap Z α mem → hb.StaysIn s.heap → RVs s.heap Z α vs ys → sem vs mem = some (v, mem') →
    (∀ y h' tk, RV h' Z α v y → Me prog w hb h' Z α mem' → KB (· ∈ α) s.heap h' → Mv s.heap Z h' Z → (∀ b o, s.heap.get? b = some o → FrK o h' b) → hb.StaysIn h' →
      Q y { s with heap := h', toks := tk }) → wpAny (model prog w) A (call fv ys) Q E s
end

section
variable {prog : Program} {w : World} {hb : Heap} {n : Nat} {sc : Scope} {nm : List Str}

theorem Mv.weak {h : Heap} {Z Z' : List Addr} (hz : ∀ a ∈ Z, a ∈ Z') : Mv h Z' h Z := ⟨fun _ _ _ x => x, fun _ _ x => x, fun a ha => .inl (hz a ha)⟩
theorem frzX_at {h h₁ : Heap} {Z Z' α α' : List Addr} {mem : Mem} (me : Me prog w hb h Z' α' mem) (hz : ∀ a ∈ Z, a ∈ Z') (hpre : α <+: α') (hnew : ∀ a ∈ α', a ∈ α ∨ a ∉ Z) {d q : P ⊕ Nat} {y : Value}
    (e : frzX α.length mem d = some q) (r : RX h Z' α' d y) : RX h Z α q y := by
  cases d with
  | inl d => obtain rfl := soK e; exact RP.mv (Mv.weak hz) _ _ r
  | inr k =>
    simp only [frzX] at e
    obtain ⟨a, ha, rfl⟩ := r
    obtain ⟨tl, rfl⟩ := hpre
    split at e
    · rename_i hk
      obtain rfl := soK e
      rw [List.getElem?_append_left hk] at ha
      exact ⟨a, ha, rfl⟩
    · rename_i hk
      simp only [Option.map_eq_some_iff] at e
      obtain ⟨d, hd, rfl⟩ := e
      obtain ⟨a', l, vs, rfl, e2, la, rl⟩ := derM_at me hd ⟨a, ha, rfl⟩
      cases e2
      have haZ : a ∉ Z := by
        rcases hnew a (List.mem_of_getElem? ha) with h' | h'
        · exfalso
          have nd := me.nd
          rw [List.nodup_append] at nd
          rw [List.getElem?_append_right (by omega)] at ha
          exact nd.2.2 a h' a (List.mem_of_getElem? ha) rfl
        · exact h'
      show RP h Z (.lst l) (.ref a)
      exact ⟨a, vs, rfl, la, haZ, RPs.mv (Mv.weak hz) _ _ rl⟩
theorem frzXs_at {h h₁ : Heap} {Z Z' α α' : List Addr} {mem : Mem} (me : Me prog w hb h Z' α' mem) (hz : ∀ a ∈ Z, a ∈ Z') (hpre : α <+: α') (hnew : ∀ a ∈ α', a ∈ α ∨ a ∉ Z) : ∀ {l q : List (P ⊕ Nat)} {ys : List Value},
    l.mapM (frzX α.length mem) = some q → RXs h Z' α' l ys → RXs h Z α q ys
  | [], q, [], e, _ => by cases e; trivial
  | x :: l, q, y :: ys, e, r => mapM_consK e fun x' l' hx hl e => by
    subst e
    exact ⟨frzX_at (h₁ := h) me hz hpre hnew hx r.1, frzXs_at (h₁ := h₁) me hz hpre hnew hl r.2⟩
  | [], _, _ :: _, _, r => r.elim
  | _ :: _, _, [], _, r => r.elim
theorem RXs.data {h : Heap} {Z α : List Addr} : ∀ {l : List (P ⊕ Nat)} {ds : List P} {vs : List Value}, l.mapM onlyL = some ds → RXs h Z α l vs → RPs h Z ds vs
  | [], ds, [], e, _ => by cases e; trivial
  | x :: l, ds, v :: vs, e, r => mapM_consK e fun d ds' hx hl e => by
    subst e
    refine ⟨?_, RXs.data hl r.2⟩
    cases x with
    | inl d => obtain rfl := soK hx; exact r.1
    | inr _ => exact noK hx
  | [], _, _ :: _, _, r => r.elim
  | _ :: _, _, [], _, r => r.elim
theorem frzV_at {h : Heap} {Z Z' α α' : List Addr} {mem : Mem} (me : Me prog w hb h Z' α' mem) (hz : ∀ a ∈ Z, a ∈ Z') (hpre : α <+: α') (hnew : ∀ a ∈ α', a ∈ α ∨ a ∉ Z) {v v' : V} {y : Value}
    (e : frzV α.length mem v = some v') (r : RV h Z' α' v y) : RV h Z α v' y := by
  cases v with
  | p d => obtain rfl := soK e; exact RP.mv (Mv.weak hz) _ _ r
  | c k =>
    have := frzX_at (h₁ := h) (d := .inr k) (q := match v' with | .p d => .inl d | .c j => .inr j | .t _ => .inr k) me hz hpre hnew (y := y) (by
      simp only [frzV, frzX] at e ⊢
      split at e
      · rename_i hk; obtain rfl := soK e; simp [hk]
      · rename_i hk
        simp only [Option.map_eq_some_iff] at e
        obtain ⟨d, hd, rfl⟩ := e
        simp [hk, hd]) r
    simp only [frzV] at e
    split at e
    · obtain rfl := soK e; exact this
    · simp only [Option.map_eq_some_iff] at e
      obtain ⟨d, hd, rfl⟩ := e
      exact this
  | t l =>
    simp only [frzV, Option.map_eq_some_iff] at e
    obtain ⟨qs, hq, rfl⟩ := e
    obtain ⟨a, vs, rfl, t, rx⟩ := r
    have rx' := frzXs_at (h₁ := h) me hz hpre hnew hq rx
    split
    · rename_i ds hds
      exact ⟨a, vs, rfl, t, rx'.data hds⟩
    · exact ⟨a, vs, rfl, t, rx'⟩

theorem RVs.get {h : Heap} {Z α : List Addr} : ∀ {l : List V} {vs : List Value} {i : Nat} {v : V}, RVs h Z α l vs → l[i]? = some v → ∃ y, vs[i]? = some y ∧ RV h Z α v y
  | [], [], i, v, _, e => by simp at e
  | x :: l, y :: vs, 0, v, r, e => by simp at e; subst e; exact ⟨y, rfl, r.1⟩
  | x :: l, y :: vs, i + 1, v, r, e => by
    simp at e
    obtain ⟨y', h1, h2⟩ := RVs.get r.2 e
    exact ⟨y', by simpa using h1, h2⟩
  | [], _ :: _, _, _, r, _ => r.elim
  | _ :: _, [], _, _, r, _ => r.elim
/- the frame's object -/
noncomputable def FC (h : Heap) (L : Addr) : Prop := ∃ o es ep, h.get? L = some o ∧ o.cls = .type "frame" ∧ o.data = .dict es ep
theorem bindParamsC {M : Model} {A : Around} {E : Value → Shared → Prop} {s₀ : Shared} {env : Env} (f : Str × Value → PUnit → Sem (ForInStep PUnit)) (hf : ∀ n v u, f (n, v) u = (do storeName env n v; pure (.yield ⟨⟩))) (hk : env.scope.kind = .function) :
    ∀ (binds : List (Str × Value)) (m cm : Str → Option Value) (s : Shared) (Q : PUnit → Shared → Prop), InCallC s₀ env.locals m env.cells cm s → FC s.heap env.locals →
      (∀ x ∈ binds, env.kindOf x.1 = some .local ∨ (env.kindOf x.1 = some .cell ∧ (env.cells.lookup x.1).isSome = true)) →
      (∀ s', InCallC s₀ env.locals (bindL env.kindOf binds m) env.cells (bindC env.kindOf binds cm) s' → FC s'.heap env.locals → Q ⟨⟩ s') → wpAny M A (forIn binds ⟨⟩ f) Q E s
  | [], m, cm, s, Q, x, fc, _, h => by rw [List.forIn_nil]; exact wpAny_pure (h s x fc)
  | (n, v) :: r, m, cm, s, Q, x, fc, hkind, h => by
    rw [List.forIn_cons, hf]
    have hr : ∀ y ∈ r, env.kindOf y.1 = some .local ∨ (env.kindOf y.1 = some .cell ∧ (env.cells.lookup y.1).isSome = true) := fun y hy => hkind y (List.mem_cons_of_mem _ hy)
    rcases hkind (n, v) List.mem_cons_self with hl | ⟨hl, hc⟩
    · refine wpAny_bind (wpAny_bind ?_)
      rw [storeName_local hl (by rw [hk]; rfl)]
      refine nsSetC x.toInCall.ns fun h' hn' hs' hcl => wpAny_pure (bindParamsC f hf hk r (fun y => if y = n then some v else m y) cm _ Q ⟨⟨?_, hn', fun b o e => ?_, x.toInCall.fresh⟩, fun k c hc => ?_, x.apart, x.above⟩ ?_ hr fun s'' x'' fc'' => h s'' ?_ fc'')
      · obtain ⟨h₁, tk, rfl⟩ := x.toInCall.same
        exact ⟨h', _, rfl⟩
      · exact hs'.extBut b o (Nat.ne_of_lt (Nat.lt_of_lt_of_le (Heap.lt_size e) x.toInCall.fresh)) (x.toInCall.keep b o e)
      · exact (x.cell k c hc).sameBut hs' (Nat.ne_of_gt (x.above k c (mem_of_lookup hc)))
      · obtain ⟨o, es, ep, eo, hcc, hd⟩ := fc
        obtain ⟨o', e', c'⟩ := hcl o eo
        obtain ⟨o2, es2, ep2, e2, d2, _⟩ := hn'
        obtain rfl := soK (e'.symm.trans e2)
        exact ⟨o', es2, ep2, e', c'.trans hcc, d2⟩
      · unfold bindL bindC; rw [if_pos hl, if_pos hl]; exact x''
    · obtain ⟨c, hc⟩ := Option.isSome_iff_exists.mp hc
      have hnl : ¬ env.kindOf n = some .local := by rw [hl]; decide
      have hLc := x.above n c (mem_of_lookup hc)
      refine wpAny_bind (wpAny_bind (wpAny_storeName_cell hk hl hc (x.cell n c hc) fun h' hc' hs' => wpAny_pure (bindParamsC f hf hk r m (fun y => if y = n then some v else cm y) _ Q ⟨⟨?_, x.toInCall.ns.sameBut hs' (Nat.ne_of_lt hLc), fun b o e => ?_, x.toInCall.fresh⟩, fun k c' hk' => ?_, x.apart, x.above⟩ ?_ hr fun s'' x'' fc'' => h s'' ?_ fc'')))
      · obtain ⟨h₁, tk, rfl⟩ := x.toInCall.same
        exact ⟨h', _, rfl⟩
      · exact hs'.extBut b o (Nat.ne_of_lt (Nat.lt_trans (Nat.lt_of_lt_of_le (Heap.lt_size e) x.toInCall.fresh) hLc)) (x.toInCall.keep b o e)
      · by_cases hkn : k = n
        · subst hkn
          obtain rfl := soK (hc.symm.trans hk')
          simpa using hc'
        · rw [if_neg hkn]
          exact (x.cell k c' hk').sameBut hs' fun e => hkn (name_of_addr x.apart (mem_of_lookup hk') (e ▸ mem_of_lookup hc))
      · obtain ⟨o, es, ep, eo, hcc, hd⟩ := fc
        exact ⟨o, es, ep, (hs'.2 _ (Nat.ne_of_lt hLc)).trans eo, hcc, hd⟩
      · unfold bindL bindC; rw [if_neg hnl, if_neg hnl]; exact x''
theorem newEnvC {M : Model} {A : Around} {E : Value → Shared → Prop} {s : Shared} {scope : Scope} {globals : Addr} {binds : List (Str × Value)} {qual : Str} {func : Option Addr} {code : Value} {builtins : Addr} {Q : Env → Shared → Prop}
    (hk : scope.kind = .function)
    (hkind : ∀ x ∈ binds, scope.names.lookup x.1 = some .local ∨ (scope.names.lookup x.1 = some .cell ∧ ((cellsFrom (s.heap.objs.size + 1) scope.names []).lookup x.1).isSome = true))
    (hQ : ∀ env, env = newEnv scope s.heap.objs.size globals (cellsFrom (s.heap.objs.size + 1) scope.names []) qual func code none builtins →
      ∀ s', InCallC s env.locals (bindL env.kindOf binds fun _ => none) env.cells (bindC env.kindOf binds fun _ => none) s' → FC s'.heap env.locals → Q env s') :
    wpAny M A (newFunctionEnv scope globals [] binds qual func code none builtins) Q E s := by
  simp only [newFunctionEnv, Option.isSome_none, Bool.false_eq_true, if_false]
  refine wpAny_bind (wpAny_alloc ?_)
  refine wpAny_bind (wpAny_layCells _ (fun name kind cells => by cases hkc : kind == NameKind.cell <;> simp [hkc]) _ _ _ _ ?_)
  have ok := cellsFrom_ok scope.names (s.heap.push { cls := .type "frame", data := .dict #[] }) (s.heap.objs.size + 1) [] ⟨fun _ _ hm => (nomatch hm), List.Pairwise.nil⟩ (by rw [Heap.size_push]; exact Nat.le_refl _)
  rw [Heap.size_push] at ok
  rw [show ({ s with heap := s.heap.push { cls := .type "frame", data := .dict #[] } } : Shared).heap.objs.size = s.heap.objs.size + 1 from Heap.size_push ..]
  refine wpAny_bind (bindParamsC (s₀ := s) (env := newEnv scope s.heap.objs.size globals (cellsFrom (s.heap.objs.size + 1) scope.names []) qual func code none builtins)
    _ (fun _ _ _ => rfl) hk binds (fun _ => none) (fun _ => none) _ _
    ⟨⟨⟨_, _, rfl⟩, (Heap.Ns.new s.heap (.type "frame")).keeps (pushCells_keeps _ _), fun b o e => pushCells_keeps _ _ b o (Heap.get?_push_of_some _ e), Nat.le_refl _⟩,
      fun n c hc => (ok.empty n c (mem_of_lookup hc)).1, ok.apart, fun n c hm => (ok.empty n c hm).2⟩
    ⟨_, #[], 0, pushCells_keeps _ _ _ _ (Heap.get?_push_size _ rfl), rfl, rfl⟩ hkind fun s' x fc => wpAny_pure (hQ _ rfl s' x fc))
theorem fn_kind {scope : Scope} {ps : List Str} (hk : ps.all (kindL scope) = true) : ∀ x ∈ ps, scope.names.lookup x = some .local ∨ scope.names.lookup x = some .cell := fun x hx => by
  have := List.all_eq_true.mp hk x hx
  unfold kindL at this
  split at this
  · exact .inl (by assumption)
  · exact .inr (by assumption)
  · cases this
theorem fn_body {f : Addr} {name : Str} {body : List Stmt} {scope : Scope} {F : SF} {ps : List Str} {cd : Value} (hb1 : SimB prog w hb n scope nm body F)
    (hps : ps <+: nm) (hnd : nm.Nodup) (hk : ps.all (kindL scope) = true) (hnf : scope.names.all (fun x => x.2 != .free) = true) (hkd : scope.kind = .function)
    {Z α : List Addr} {A : Around} {s : Shared} {mem mem' : Mem} {vs : List V} {v : V} {ys : List Value} {Q : Value → Shared → Prop} (rm : Rm hb (n + 1) A s.heap) (me : Me prog w hb s.heap Z α mem) (hst : hb.StaysIn s.heap) (hr : RVs s.heap Z α vs ys) (hs : efSem ps.length nm.length F vs mem = some (v, mem'))
    (hQ : ∀ y h' tk, RV h' Z α v y → Me prog w hb h' Z α mem' → KB (· ∈ α) s.heap h' → Mv s.heap Z h' Z → (∀ b o, s.heap.get? b = some o → FrK o h' b) → hb.StaysIn h' →
      Q y { s with heap := h', toks := tk }) {h₁ : Heap} {tk : Nat} (Fr1 : Fr s.heap s.heap.objs.size h₁ (bindL (envOfC name scope s.heap.objs.size f cd).kindOf (ps.zip ys) fun _ => none))
    (Cl1 : Cl s.heap.objs.size (cellsFrom (s.heap.objs.size + 1) scope.names []) h₁ (bindC (envOfC name scope s.heap.objs.size f cd).kindOf (ps.zip ys) fun _ => none)) (hfc : FC h₁ s.heap.objs.size) :
    wpAny (model prog w) (A.deeper (envOfC name scope s.heap.objs.size f cd)) (execs body (envOfC name scope s.heap.objs.size f cd)) (fun fl s' => Q (match fl with | .ret v => v | _ => .none) s') (fun _ _ => False) { s with heap := h₁, toks := tk } := by
  unfold efSem at hs
  split at hs
  · rename_i hlen
    simp only [Option.bind_eq_some_iff] at hs
    obtain ⟨⟨o, memF, slF⟩, hF, hs⟩ := hs
    have hlen' : ys.length = ps.length := by rw [← hr.length]; exact hlen
    obtain ⟨fs, hfs, hff, hfcs⟩ := rm.frs
    have hnd' : ps.Nodup := hps.sublist.nodup hnd
    have hkeys : (ps.zip ys).map (·.1) = ps := by rw [List.map_fst_zip]; omega
    have hkind := fn_kind hk
    generalize henv : envOfC name scope s.heap.objs.size f cd = env at *
    have hloc : env.locals = s.heap.objs.size := by rw [← henv]; rfl
    have hscope : env.scope = scope := by rw [← henv]; rfl
    have hcells : env.cells = cellsFrom (s.heap.objs.size + 1) scope.names [] := by rw [← henv]; rfl
    rw [← hcells] at Cl1
    have hkeep := Fr1.keep
    have hfresh : ∀ c, s.heap.objs.size ≤ c → s.heap.get? c = none := fun c hc => Heap.get?_none_of_le hc
    have hbn : ∀ c, s.heap.get? c = none → hb.get? c = none := fun c hc => by
      cases q : hb.get? c with
      | none => rfl
      | some o' => have := hst c o' q; exact nos hc this
    have hZn : ∀ c, s.heap.get? c = none → c ∉ Z := fun c hc q => by obtain ⟨o', e⟩ := me.zin c q; exact nos hc e
    have hcel : ∀ x c, env.cells.lookup x = some c → s.heap.get? c = none := fun x c h => hfresh c (Nat.le_of_lt (Cl1.above x c (mem_of_lookup h)))
    have bd : Bd hb (A.deeper env) h₁ Z env := by
      refine ⟨?_, ?_, ?_, ⟨fs, Around.frames_deeper hfs⟩, fun x c h1 h2 => ?_, fun x h1 => ?_, fun x y c h1 h2 => ?_, fun x h1 => ?_⟩
      · rw [hloc]; exact hbn _ (hfresh _ (Nat.le_refl _))
      · rw [hloc]; exact hZn _ (hfresh _ (Nat.le_refl _))
      · rw [← henv]; rfl
      · refine ⟨⟨_, Cl1.cell x c h2⟩, hbn c (hcel x c h2), hZn c (hcel x c h2), ?_⟩
        rw [hloc]
        exact Nat.ne_of_gt (Cl1.above x c (mem_of_lookup h2))
      · rw [hcells]
        refine cells_has _ _ _ (.inl ?_)
        rw [← hscope]; exact h1
      · exact name_of_addr Cl1.apart (mem_of_lookup h1) (mem_of_lookup h2)
      · have hm := mem_of_lookup h1
        rw [hscope] at hm
        have := List.all_eq_true.mp hnf _ hm
        simp at this
    have mv1 : Mv s.heap Z h₁ Z := .of_kp (.of hkeep)
    have st : St prog w hb env nm Z α mem (vs.map some ++ List.replicate (nm.length - ps.length) none) h₁ := by
      refine ⟨⟨by rw [hscope]; exact hkd, by rw [← henv]; rfl, by rw [← henv]; rfl, _, by rw [hloc]; exact Fr1.ns, fun i x v' h1 h2 => ?_⟩, me.kp (.of hkeep), fun b o' e => hkeep b o' (hst b o' e)⟩
      have hi : i < vs.length := by
        refine Decidable.byContradiction fun hge => ?_
        rw [List.getElem?_append_right (by simpa using hge)] at h2
        rw [List.getElem?_replicate] at h2
        split at h2 <;> simp at h2
      rw [List.getElem?_append_left (by simpa using hi)] at h2
      rw [List.getElem?_map] at h2
      have hv' : vs[i]? = some v' := by
        cases hq : vs[i]? with
        | none => simp [hq] at h2
        | some q => simp [hq] at h2; rw [h2]
      obtain ⟨y, hy, ry⟩ := hr.get hv'
      have hip : i < ps.length := by omega
      have hx : ps[i]? = some x := by
        obtain ⟨tl, rfl⟩ := hps
        rw [List.getElem?_append_left hip] at h1
        exact h1
      have hmem : (x, y) ∈ ps.zip ys := by
        refine List.mem_of_getElem? (i := i) ?_
        rw [List.getElem?_zip_eq_some]
        exact ⟨hx, hy⟩
      refine ⟨y, ?_, ry.mv mv1 (List.prefix_refl _)⟩
      rcases hkind x (List.mem_of_getElem? hx) with h | h
      · have hko : env.kindOf x = some .local := by unfold Env.kindOf; rw [hscope]; exact h
        exact .inl ⟨hko, bindL_at _ _ _ _ (by rw [hkeys]; exact hnd') hmem hko⟩
      · have hko : env.kindOf x = some .cell := by unfold Env.kindOf; rw [hscope]; exact h
        obtain ⟨c, hc⟩ := bd.has x hko
        refine .inr ⟨c, .inl hko, hc, ?_⟩
        have := Cl1.cell x c hc
        rw [bindC_at _ _ _ _ (by rw [hkeys]; exact hnd') hmem (by rw [hko]; simp)] at this
        exact this
    have rm1 : Rm hb n (A.deeper env) h₁ := by
      refine ⟨rm.hd, ?_, ?_, _, Around.frames_deeper hfs, ?_, ?_⟩
      · have := rm.dep; show A.depth + 1 + n ≤ 900; omega
      · have := rm.uni; show A.units + 3 + 20 * n + 200 ≤ cLine; omega
      · refine Heap.FunFrames.cons (L := env.locals) (by rw [hscope, hkd]; simp) bd.fr (by rw [hloc]; exact Fr1.ns) bd.loc (hff.of_keeps fun b o' e _ => ⟨o', hkeep b o' e, rfl⟩)
      · intro env' he' L' hL'
        rcases List.mem_cons.mp he' with rfl | he'
        · obtain rfl := soK (bd.fr.symm.trans hL'); rw [hloc]; exact hfc
        · obtain ⟨o', es', ep', e', r⟩ := hfcs env' he' L' hL'
          exact ⟨o', es', ep', hkeep _ _ e', r⟩
    refine hb1 env Z α (A.deeper env) { s with heap := h₁, toks := tk } mem _ o memF slF _ _ hscope rm1 bd st hF fun fl h' t' Z' α' nx bd' st' rf => ?_
    cases o with
    | ret v0 =>
      obtain ⟨y, rfl, ry⟩ := rf
      simp only [Option.map_eq_some_iff] at hs
      obtain ⟨v1, hv1, e⟩ := hs
      cases e
      have hnew : ∀ a ∈ α', a ∈ α ∨ a ∉ Z := fun a ha => by
        rcases nx.new a ha with h | h
        · exact .inl h
        · refine .inr (hZn a ?_)
          cases q : s.heap.get? a with
          | none => rfl
          | some o' => exact nos h (hkeep a o' q)
      rw [← me.len] at hv1
      have rv := frzV_at st'.me nx.zsub nx.pre hnew hv1 ry
      have hsome : ∀ b o', s.heap.get? b = some o' → ∃ o'', h'.get? b = some o'' := fun b o' e => nx.some b o' (hkeep b o' e)
      refine hQ y h' t' rv ?_ ?_ ?_ ?_ st'.stays
      · refine ⟨?_, me.nd, me.sub, me.new, fun a ha => ?_, fun k a ob' h1 h2 => ?_⟩
        · have h3 := st'.me.len
          have h4 := nx.pre.length_le
          have h5 := me.len
          rw [List.length_take]
          omega
        · obtain ⟨o', e⟩ := me.zin a ha
          exact hsome a o' e
        · have hk : k < mem.length := by rw [← me.len]; exact (List.getElem?_eq_some_iff.mp h1).1
          rw [List.getElem?_take_of_lt hk] at h2
          have h1' : α'[k]? = some a := by
            obtain ⟨tl, e⟩ := nx.pre
            rw [← e, List.getElem?_append_left (List.getElem?_eq_some_iff.mp h1).1]
            exact h1
          have := st'.me.here k a ob' h1' h2
          cases ob' with
          | ml l =>
            obtain ⟨us, la, rl⟩ := this
            exact ⟨us, la, RPs.mv (Mv.weak nx.zsub) _ _ rl⟩
          | md l =>
            obtain ⟨kvs, la, rl⟩ := this
            exact ⟨kvs, la, rl.mv (Mv.weak nx.zsub)⟩
      · intro a ob' e hna
        refine nx.kb a ob' (hkeep a ob' e) ?_
        rintro (h | ⟨x, h1, h2⟩ | h)
        · rw [h, hloc, hfresh _ (Nat.le_refl _)] at e; exact noK e
        · exact nos (hcel x a h2) e
        · exact hna h
      · exact ⟨fun a us hz la => nx.mv.lst a us hz (mv1.lst a us hz la), fun a us la => nx.mv.tup a us (mv1.tup a us la), fun a ha => .inl ha⟩
      · intro b ob' e
        exact nx.fr b ob' (hkeep b ob' e)
    | next => exact noK hs
    | brk => exact noK hs
    | cont => exact noK hs
  · exact noK hs
theorem fn_ef {f : Addr} {name : Str} {params : Arguments} {body : List Stmt} {scope : Scope} {F : SF} {ps : List Str} (fn : FnIs hb f name params body scope) (hb1 : SimB prog w hb n scope nm body F)
    (hbind : ∀ pm cd doc (ys : List Value), ys.length = ps.length → bindArgs (docDef name params body scope pm cd doc) ⟨ys, []⟩ = pure (ps.zip ys))
    (hps : ps <+: nm) (hnd : nm.Nodup) (hk : ps.all (kindL scope) = true) (hnf : scope.names.all (fun x => x.2 != .free) = true)
    (hco : scope.isCoroutine = false := by rfl) (hgen : scope.isGenerator = false := by rfl) (hkd : scope.kind = .function := by rfl) :
    EfSem prog w hb (n + 1) (.ref f) (efSem ps.length nm.length F) := by
  intro Z α A s mem mem' vs v ys Q E rm me hst hr hs hQ
  have hlen' : ys.length = ps.length := by
    rw [← hr.length]
    unfold efSem at hs
    split at hs
    · assumption
    · exact noK hs
  obtain ⟨ob, pm, cd, doc, hob, hdata, hcd⟩ := fn.obj
  have hkeys : (ps.zip ys).map (·.1) = ps := by rw [List.map_fst_zip]; omega
  refine wpAny_call (codeAny_call_function (by have := rm.dep; unfold recursionLimit; omega) (hst f ob hob) hdata hco hgen rfl (hcd.keeps hst) ?_)
  rw [hbind pm cd doc ys hlen']
  refine wpAny_pure (newEnvC hkd ?_ fun env he s₁ X fc => ?_)
  · intro x hx
    have hx1 : x.1 ∈ ps := by rw [← hkeys]; exact List.mem_map_of_mem hx
    rcases fn_kind hk x.1 hx1 with h | h
    · exact .inl h
    · obtain ⟨c, hc⟩ := cells_has scope.names (s.heap.objs.size + 1) [] (.inl h)
      exact .inr ⟨h, Option.isSome_iff_exists.mpr ⟨c, hc⟩⟩
  · subst he
    refine ⟨(fn.lim.keeps hst).keeps X.toInCall.keep, codeAny_func ?_⟩
    obtain ⟨h₁, tk, rfl, _⟩ := X.done
    exact wpAny_mono (fn_body (f := f) (name := name) (cd := cd) hb1 hps hnd hk hnf hkd rm me hst hr hs hQ (h₁ := h₁) (tk := tk) ⟨X.toInCall.ns, X.toInCall.keep, X.toInCall.fresh⟩ ⟨X.cell, X.apart, X.above⟩ fc) (fun _ _ x => x) (fun _ _ x => x.elim)
end
end Mine
end
section
open PySem.W
namespace Mine
section
variable {prog : Program} {w : World} {hb : Heap} {n : Nat} {sc : Scope} {nm : List Str}

/- a function of data -/
noncomputable def fnSem (k tot : Nat) (F : SF) : Mem → List V → Option V := fun _ vs => (allP vs).bind fun _ => (efSem k tot F vs []).map (·.1)
theorem allP_α {h : Heap} {Z α α' : List Addr} : ∀ {l : List V} {ds : List P} {vs : List Value}, allP l = some ds → RVs h Z α l vs → RVs h Z α' l vs
  | [], ds, [], e, _ => trivial
  | x :: l, ds, v :: vs, e, r => mapM_consK e fun d ds' hx hl e => by
    obtain rfl := datV_at hx
    exact ⟨r.1, allP_α hl r.2⟩
  | [], _, _ :: _, _, r => r.elim
  | _ :: _, _, [], _, r => r.elim
theorem frzX0 {mem : Mem} {d q : P ⊕ Nat} (e : frzX 0 mem d = some q) : ∃ p, q = .inl p := by
  cases d with
  | inl d => obtain rfl := soK e; exact ⟨d, rfl⟩
  | inr k => simp only [frzX, Nat.not_lt_zero, if_false, Option.map_eq_some_iff] at e; obtain ⟨p, _, rfl⟩ := e; exact ⟨p, rfl⟩
theorem frzXs0 {mem : Mem} : ∀ {l q : List (P ⊕ Nat)}, l.mapM (frzX 0 mem) = some q → ∃ ds, q.mapM onlyL = some ds
  | [], q, e => by cases e; exact ⟨[], rfl⟩
  | x :: l, q, e => mapM_consK e fun x' l' hx hl e => by
    subst e
    obtain ⟨p, rfl⟩ := frzX0 hx
    obtain ⟨ds, hds⟩ := frzXs0 hl
    exact ⟨p :: ds, by rw [List.mapM_cons, hds]; rfl⟩
theorem frzV0 {mem : Mem} {v v' : V} (e : frzV 0 mem v = some v') : ∃ d, v' = .p d := by
  cases v with
  | p d => obtain rfl := soK e; exact ⟨d, rfl⟩
  | c k => simp only [frzV, Nat.not_lt_zero, if_false, Option.map_eq_some_iff] at e; obtain ⟨d, _, rfl⟩ := e; exact ⟨d, rfl⟩
  | t l =>
    simp only [frzV, Option.map_eq_some_iff] at e
    obtain ⟨q, hq, rfl⟩ := e
    obtain ⟨ds, hds⟩ := frzXs0 hq
    rw [hds]
    exact ⟨.tup ds, rfl⟩
theorem fn_pure {fv : Value} {k tot : Nat} {F : SF} (h : EfSem prog w hb n fv (efSem k tot F)) : BiSem prog w hb n fv (fnSem k tot F) := by
  intro Z α A s mem vs v ys Q E rm me hst hr hs hQ
  simp only [fnSem, Option.bind_eq_some_iff, Option.map_eq_some_iff] at hs
  obtain ⟨ds, hds, ⟨v', mem'⟩, hs, rfl⟩ := hs
  have hv' : ∃ d, v' = .p d := by
    unfold efSem at hs
    split at hs
    · simp only [Option.bind_eq_some_iff] at hs
      obtain ⟨⟨o, mF, sF⟩, _, hs⟩ := hs
      cases o with
      | ret v0 =>
        simp only [Option.map_eq_some_iff] at hs
        obtain ⟨v1, hv1, e⟩ := hs
        cases e
        exact frzV0 hv1
      | next => exact noK hs
      | brk => exact noK hs
      | cont => exact noK hs
    · exact noK hs
  obtain ⟨d, rfl⟩ := hv'
  refine h Z [] A s [] mem' vs (.p d) ys Q E rm ⟨rfl, List.nodup_nil, fun a ha => (by cases ha), fun a ha => (by cases ha), me.zin, fun k a o h1 _ => by simp at h1⟩ hst (allP_α hds hr) hs fun y h' tk rv me' kb mv fr hs' => ?_
  exact hQ y h' tk rv (fun b o e => kb b o e (fun q => by cases q)) hs'
theorem BiSem.mono {fv : Value} {sem : Mem → List V → Option V} {m : Nat} (h : BiSem prog w hb m fv sem) (hm : m ≤ n) : BiSem prog w hb n fv sem := by
  intro Z α A s mem vs v ys Q E rm
  exact h Z α A s mem vs v ys Q E ⟨rm.hd, by have := rm.dep; omega, by have := rm.uni; omega, rm.frs⟩
theorem EfSem.mono {fv : Value} {sem : List V → Mem → Option (V × Mem)} {m : Nat} (h : EfSem prog w hb m fv sem) (hm : m ≤ n) : EfSem prog w hb n fv sem := by
  intro Z α A s mem mem' vs v ys Q E rm
  exact h Z α A s mem mem' vs v ys Q E ⟨rm.hd, by have := rm.dep; omega, by have := rm.uni; omega, rm.frs⟩

/- x = f(..), f changes cells -/
noncomputable def sEf (i : Nat) (sem : List V → Mem → Option (V × Mem)) (f : XFs) : SF := fun mem sl => (f mem sl).bind fun vs => (sem vs mem).map fun r => (.next, r.2, sl.set i (some r.1))
theorem sim_ef {x g : Str} {fv : Value} {p pos xpos spos : Pos} {e : Expr} {r : List Expr} {f : XFs} {sem : List V → Mem → Option (V × Mem)} (i : Nat) (G : GN hb g fv) (K : Keeps1 hb fv) (B : EfSem prog w hb n fv sem) (ha : SimEs prog w hb n sc nm (e :: r) f)
    (hx : nm[i]? = some x := by rfl) (hnd : nm.Nodup := by decide +kernel) (hk : kindL sc x = true := by decide +kernel)
    (hp : (e :: r).all noStar = true := by rfl) (hg : sc.names.lookup g = some .globalImplicit := by decide +kernel) : SimS prog w hb n sc nm (.Assign [.Name x xpos] (.Call (.Name g p) (e :: r) [] pos) spos) (sEf i sem f) := by
  intro env Z α A s mem sl o mem' sl' Q E hsc rm bd st hf hQ
  simp only [sEf, Option.bind_eq_some_iff, Option.map_eq_some_iff] at hf
  obtain ⟨vs, hvs, ⟨v, mem1⟩, hs, e⟩ := hf
  cases e
  refine wpAny_Assign_Name ?_ rfl
  refine call_global G K ha hp hg hsc rm st hvs fun ys h1 t1 r1 k1 s1 => ?_
  have bd1 := bd.kp k1
  have st1 := st.kp k1 s1
  refine B Z α A { s with heap := h1, toks := t1 } mem mem1 vs v ys _ E (rm.kp k1) st1.me s1 r1 hs fun y h2 t2 rv me2 kb2 mv2 fr2 s2 => ?_
  have nx2 : Nx h1 env Z α h2 Z α := ⟨fun a ob e hn => kb2 a ob e (fun q => hn (.inr (.inr q))), mv2, List.prefix_refl _, fun a ha => .inl ha, fun a ha => ha, fr2⟩
  have keepC : ∀ x c v, env.kindOf x = some .cell → env.cells.lookup x = some c → h1.IsCell c v → h2.IsCell c v := fun x c v h3 h4 ⟨ob, eo, ed⟩ => by
    obtain ⟨sl2, e2, _⟩ := kb2 c ob eo (fun q => (bd1.cel x c h3 h4).2.2.1 (st1.me.sub c q))
    exact ⟨_, e2, ed⟩
  have bd2 : Bd hb A h2 Z env := ⟨bd1.loc, bd1.locZ, bd1.fr, bd1.top, fun x c h3 h4 => (let ⟨⟨v, ic⟩, r⟩ := bd1.cel x c h3 h4; ⟨⟨v, keepC x c v h3 h4 ic⟩, r⟩), bd1.has, bd1.apart, bd1.nofree⟩
  have st2 : St prog w hb env nm Z α mem1 sl h2 := by
    refine ⟨⟨st1.fm.kind, st1.fm.glob, st1.fm.blt, ?_⟩, me2, s2⟩
    obtain ⟨m, hn, hv⟩ := st1.fm.vars
    refine ⟨m, ?_, fun j x' v' h3 h4 => ?_⟩
    · obtain ⟨ob, es, ep, eo, r⟩ := hn
      obtain ⟨sl2, e2, _⟩ := kb2 env.locals ob eo (fun q => bd1.locZ (st1.me.sub _ q))
      exact ⟨_, es, ep, e2, r⟩
    · obtain ⟨y', hy', ry'⟩ := hv j x' v' h3 h4
      refine ⟨y', ?_, ry'.mv mv2 (List.prefix_refl _)⟩
      rcases hy' with e | ⟨c, h5, h6, h7⟩
      · exact .inl e
      · have hkc : env.kindOf x' = some .cell := h5.elim id (fun q => absurd q.1 (bd.nofree x'))
        exact .inr ⟨c, h5, h6, keepC x' c _ hkc h6 h7⟩
  refine store_sim (v := v) hx hnd hk hsc bd2 st2 rv fun h' tk nx bd' st' => ?_
  exact hQ .next h' tk Z α (((Nx.of_kp k1).trans nx2).trans nx) bd' st' rfl

/- a try whose body does not raise -/
theorem sim_try {body : List Stmt} {h₀ : ExceptHandler} {hs : List ExceptHandler} {pos : Pos} {F : SF} (hbody : SimB prog w hb n sc nm body F) : SimS prog w hb n sc nm (.Try body (h₀ :: hs) [] [] pos) F := by
  intro env Z α A s mem sl o mem' sl' Q E hsc rm bd st hf hQ
  refine wpAny_Try_except (hbody env Z α A s mem sl o mem' sl' _ _ hsc rm bd st hf fun fl h' tk Z' α' nx bd' st' rf => ?_)
  have := hQ fl h' tk Z' α' nx bd' st' rf
  cases fl with
  | next => exact wpAny_execs_nil this
  | _ => exact this

noncomputable def sAug (i : Nat) (op : Operator) (f : XF) : SF := fun mem sl => ((sl[i]?).join).bind fun x => (f mem sl).bind fun y => (derP mem x).bind fun d => (derP mem y).bind fun e => match d, e with
  | .str a, .str b => if op = .Add ∧ a.length + b.length ≤ 2 ^ 20 then some (.next, mem, sl.set i (some (.p (.str (a ++ b))))) else none
  | _, _ => none
theorem load_sim {x : Str} {i : Nat} {env : Env} {Z α : List Addr} {A : Around} {s : Shared} {mem : Mem} {sl : Slots} {v : V} {Q E : Value → Shared → Prop} (hx : nm[i]? = some x) (st : St prog w hb env nm Z α mem sl s.heap) (hf : (sl[i]?).join = some v) (hQ : ∀ y, RV s.heap Z α v y → Q y s) :
    wpAny (model prog w) A (loadName env x) Q E s := by
  have hsl : sl[i]? = some (some v) := by
    cases h : sl[i]? with
    | none => simp [h] at hf
    | some o => simp [h] at hf; rw [hf]
  obtain ⟨m, hn, hv⟩ := st.fm.vars
  obtain ⟨y, hy, hr⟩ := hv i x v hx hsl
  rcases hy with ⟨hk, hm⟩ | ⟨c, hk | hk, hc, hcell⟩
  · exact wpAny_loadName_local st.fm.kind hk hn hm (hQ y hr)
  · exact wpAny_loadName_cell st.fm.kind hk hc hcell (hQ y hr)
  · exact wpAny_loadName_free st.fm.kind hk.1 hc hcell (hQ y hr) hk.2
theorem sim_aug {x : Str} {e : Expr} {f : XF} {pos pos' : Pos} (i : Nat) (op : Operator) (he : SimE prog w hb n sc nm e f) (hx : nm[i]? = some x := by rfl) (hnd : nm.Nodup := by decide +kernel) (hk : kindL sc x = true := by decide +kernel) :
    SimS prog w hb n sc nm (.AugAssign (.Name x pos') op e pos) (sAug i op f) := by
  intro env Z α A s mem sl o mem' sl' Q E hsc rm bd st hf hQ
  simp only [sAug, Option.bind_eq_some_iff] at hf
  obtain ⟨v1, h1, v2, h2, d, hd, e', he', hf⟩ := hf
  refine wpAny_AugAssign_Name (load_sim hx st h1 fun y1 r1 => he env Z α A s mem sl v2 _ _ hsc rm st h2 fun y2 h2' t2 r2 k2 s2 => ?_)
  have q1 := derP_rp (st.me.kp k2) hd (r1.kp k2)
  have q2 := derP_rp (st.me.kp k2) he' r2
  cases d with
  | str a =>
    cases e' with
    | str b =>
      simp only at hf
      split at hf
      · rename_i hc
        obtain ⟨rfl, rfl, rfl⟩ := so3 hf
        obtain ⟨rfl, hlen⟩ := hc
        simp only [RP] at q1 q2
        obtain ⟨t, rfl⟩ := q1
        obtain ⟨u, rfl⟩ := q2
        refine PyProof.Rows.iadd_str (fun t' tk => ?_) (by rw [sizeLine_eq]; omega)
        refine store_sim (s := { s with heap := h2', toks := tk }) (v := .p (.str (a ++ b))) hx hnd hk hsc (bd.kp k2) (st.kp k2 s2) ⟨_, rfl⟩ fun h' tk nx bd' st' => ?_
        exact hQ .next h' tk Z α ((Nx.of_kp k2).trans nx) bd' st' rfl
      · exact noK hf
    | _ => exact noK hf
  | _ => exact noK hf
end
end Mine
end
section
open PySem.W
namespace Mine

/- the scope of a comprehension in the scope sc -/
noncomputable def relS (scope sc : Scope) : Scope :=
  { scope with names := scope.names.map fun (n, k) => if (k == .free && sc.kind == .function && sc.names.lookup n == some .cell) then (n, .cell) else (n, k) }
theorem relS_eq {scope : Scope} {env : Env} : relabel scope env = relS scope env.scope := rfl
theorem relS_lookup {sc : Scope} : ∀ (names : List (Str × NameKind)) (x : Str) (k : NameKind), names.lookup x = some k →
    (names.map fun (n, k) => if (k == .free && sc.kind == .function && sc.names.lookup n == some .cell) then (n, NameKind.cell) else (n, k)).lookup x = some (if (k == .free && sc.kind == .function && sc.names.lookup x == some .cell) then .cell else k)
  | [], _, _, h => by simp at h
  | (n, q) :: r, x, k, h => by
    cases hx : x == n with
    | true =>
      obtain rfl := beq_iff_eq.mp hx
      simp [List.lookup_cons] at h
      subst h
      simp only [List.map_cons]
      split <;> simp [List.lookup_cons]
    | false =>
      simp only [List.lookup_cons, hx] at h
      simp only [List.map_cons]
      have ih := relS_lookup (sc := sc) r x k h
      split
      · simp only [List.lookup_cons, hx]; exact ih
      · simp only [List.lookup_cons, hx]; exact ih

/- what the closure of a comprehension holds -/
noncomputable def clAcc (env : Env) : List (Str × NameKind) → List (Str × Addr) → List (Str × Addr)
  | [], acc => acc
  | (n, k) :: r, acc => if k == .free then clAcc env r ((n, (env.cells.lookup n).getD 0) :: acc) else clAcc env r acc
theorem closure_eq {env : Env} : ∀ (names : List (Str × NameKind)) (acc : List (Str × Addr)), (∀ x ∈ names, x.2 = .free → ∃ c, env.cells.lookup x.1 = some c) →
    (forIn names acc fun x cs => (if (x.2 == .free) = true then do let c ← cellOf env x.1; pure (ForInStep.yield ((x.1, c) :: cs)) else pure (ForInStep.yield cs) : Sem (ForInStep (List (Str × Addr))))) = pure (clAcc env names acc)
  | [], acc, _ => rfl
  | (n, k) :: r, acc, h => by
    rw [List.forIn_cons]
    unfold clAcc
    cases hk : k == NameKind.free with
    | true =>
      obtain ⟨c, hc⟩ := h (n, k) List.mem_cons_self (by simpa using hk)
      have hcell : cellOf env n = pure c := by unfold cellOf; rw [hc]
      simp only [if_true, hcell, hc, Option.getD_some]
      exact closure_eq r _ fun x hx => h x (List.mem_cons_of_mem _ hx)
    | false =>
      simp only [Bool.false_eq_true, if_false]
      exact closure_eq r _ fun x hx => h x (List.mem_cons_of_mem _ hx)
theorem closureFor_eq {scope : Scope} {env : Env} (h : ∀ x ∈ scope.names, x.2 = .free → ∃ c, env.cells.lookup x.1 = some c) : closureFor scope env = pure (clAcc env scope.names []) := by
  have e := closure_eq scope.names [] h
  show ((forIn scope.names [] fun x cs => (if (x.2 == .free) = true then do let c ← cellOf env x.1; pure (ForInStep.yield ((x.1, c) :: cs)) else pure (ForInStep.yield cs) : Sem (ForInStep (List (Str × Addr))))) >>= fun r => pure r) = _
  rw [e]
  rfl
theorem clAcc_at {env : Env} {x : Str} {c : Addr} (hc : env.cells.lookup x = some c) : ∀ (names : List (Str × NameKind)) (acc : List (Str × Addr)), (acc.lookup x = some c ∨ (acc.lookup x = none ∧ (x, NameKind.free) ∈ names)) → (clAcc env names acc).lookup x = some c
  | [], acc, h => by
    rcases h with h | h
    · exact h
    · cases h.2
  | (n, k) :: r, acc, h => by
    unfold clAcc
    split
    · rename_i hk
      refine clAcc_at hc r _ ?_
      by_cases hx : x = n
      · subst hx
        left
        simp [List.lookup, hc]
      · have hbx : (x == n) = false := by simpa using hx
        simp only [List.lookup_cons, hbx]
        rcases h with h | ⟨h1, h2⟩
        · exact .inl h
        · refine .inr ⟨h1, ?_⟩
          rcases List.mem_cons.mp h2 with e | h2
          · cases e; exact absurd rfl hx
          · exact h2
    · rename_i hk
      refine clAcc_at hc r _ ?_
      rcases h with h | ⟨h1, h2⟩
      · exact .inl h
      · refine .inr ⟨h1, ?_⟩
        rcases List.mem_cons.mp h2 with e | h2
        · cases e; exact absurd rfl hk
        · exact h2
end Mine
end
section
open PySem.W
namespace Mine
section
variable (prog : Program) (w : World) (hb : Heap) (n : Nat) (sc : Scope) (nm : List Str)
/- the tests behind for -/
noncomputable def SimIfs (ifs : List Expr) (t : TF) : Prop :=
  ∀ (env : Env) (Z α : List Addr) (A : Around) (s : Shared) (mem : Mem) (sl : Slots) (v : Bool) (Q : Bool → Shared → Prop) (E : Value → Shared → Prop),
    env.scope = sc → Rm hb n A s.heap → St prog w hb env nm Z α mem sl s.heap → t mem sl = some v →
    (∀ h' tk, Kp s.heap h' → hb.StaysIn h' → Q v { s with heap := h', toks := tk }) →
    wpAny (model prog w) A (forIn ifs true fun c r => if r = true then do let ok ← isTrue c env (eval c env); pure (ForInStep.yield ok) else pure (ForInStep.yield r)) Q E s
end
structure CompOk (sc : Scope) (nm nmc : List Str) (cap : List Nat) (scope : Scope) (xs : List Str) : Prop where
  caps : ∀ (j : Nat) y, nmc[j]? = some y → j < cap.length → (∃ i, cap[j]? = some i ∧ nm[i]? = some y) ∧ scope.names.lookup y = some .free ∧ (y == ("__classdict__" : Str)) = false ∧ sc.names.lookup y ≠ some .local
  len : nmc.length = cap.length + xs.length
  tgt : nmc.drop cap.length = xs
  loc : ∀ x ∈ xs, scope.names.lookup x = some .local
  cell : ∀ y ∈ scope.names, y.2 ≠ .cell
  free : ∀ y ∈ scope.names, y.2 = .free → y.1 ∈ nmc.take cap.length
  nam : ∀ y ∈ scope.names, y.2 = .local → scope.names.lookup y.1 = some .local
  nd : nmc.Nodup
  kind : scope.kind = .function
noncomputable def compB (sc : Scope) (nm nmc : List Str) (cap : List Nat) (scope : Scope) (xs : List Str) : Bool :=
  (List.range cap.length).all (fun j => match nmc[j]?, cap[j]? with
    | some y, some i => (nm[i]? == some y) && (scope.names.lookup y == some .free) && !(y == ("__classdict__" : Str)) && !(sc.names.lookup y == some .local)
    | _, _ => false) && decide (nmc.length = cap.length + xs.length) && (nmc.drop cap.length == xs) && xs.all (fun x => scope.names.lookup x == some .local) && scope.names.all (fun y => !(y.2 == .cell)) &&
    scope.names.all (fun y => !(y.2 == .free) || (nmc.take cap.length).contains y.1) && scope.names.all (fun y => !(y.2 == .local) || (scope.names.lookup y.1 == some .local)) && decide nmc.Nodup && (scope.kind == .function)
theorem CompOk.of {sc : Scope} {nm nmc : List Str} {cap : List Nat} {scope : Scope} {xs : List Str} (h : compB sc nm nmc cap scope xs = true) : CompOk sc nm nmc cap scope xs := by
  unfold compB at h
  simp only [Bool.and_eq_true] at h
  obtain ⟨⟨⟨⟨⟨⟨⟨⟨h1, h2⟩, h3⟩, h4⟩, h5⟩, h6⟩, h7⟩, h8⟩, h9⟩ := h
  refine ⟨fun j y hy hj => ?_, of_decide_eq_true h2, by simpa using h3, fun x hx => by simpa using List.all_eq_true.mp h4 x hx, fun y hy => by simpa using List.all_eq_true.mp h5 y hy, fun y hy hf => ?_, fun y hy hl => ?_, of_decide_eq_true h8, by simpa using h9⟩
  · have := List.all_eq_true.mp h1 j (List.mem_range.mpr hj)
    rw [hy] at this
    cases hc : cap[j]? with
    | none => simp [hc] at this
    | some i =>
      simp only [hc, Bool.and_eq_true, Bool.not_eq_true', beq_iff_eq, beq_eq_false_iff_ne] at this
      exact ⟨⟨i, rfl, this.1.1.1⟩, this.1.1.2, by simpa using this.1.2, this.2⟩
  · have := List.all_eq_true.mp h6 y hy
    simpa [hf] using this
  · have := List.all_eq_true.mp h7 y hy
    simpa [hl] using this

section
variable {prog : Program} {w : World} {hb : Heap} {n : Nat} {sc : Scope} {nm : List Str}
noncomputable def tTrue : TF := fun _ _ => some true
theorem simIfs_nil : SimIfs prog w hb n sc nm [] tTrue := by
  intro env Z α A s mem sl v Q E hsc rm st hf hQ
  obtain rfl := soK hf
  exact wpAny_tests_nil (hQ s.heap s.toks (.refl _) st.stays)
theorem simIfs_one {c : Expr} {t : TF} (h : SimT prog w hb n sc nm c t) : SimIfs prog w hb n sc nm [c] t := by
  intro env Z α A s mem sl v Q E hsc rm st hf hQ
  exact wpAny_tests_one (h env Z α A s mem sl v Q E hsc rm st hf hQ)

noncomputable def compGo (mem : Mem) (base : Slots) (t : TF) (f : XF) : List V → Option (List P)
  | [] => some []
  | v :: vs => (t mem (base ++ [some v])).bind fun b => if b = true then (f mem (base ++ [some v])).bind fun r => match r with
      | .p d => (compGo mem base t f vs).map (d :: ·)
      | _ => none
    else compGo mem base t f vs
noncomputable def capV (cap : List Nat) (sl : Slots) : Option (List V) := cap.mapM fun i => (sl[i]?).join
noncomputable def compV (cap : List Nat) (it : XFs) (t : TF) (f : XF) (mem : Mem) (sl : Slots) : Option (List P) := (capV cap sl).bind fun cv => (it mem sl).bind fun vs => if lenOk vs.length then compGo mem (cv.map some) t f vs else none
noncomputable def xComp (cap : List Nat) (it : XFs) (t : TF) (f : XF) : XF := fun mem sl => (compV cap it t f mem sl).map fun ds => .p (.lst ds)

theorem mapM_get {α β : Type} {f : α → Option β} : ∀ {l : List α} {r : List β}, l.mapM f = some r → r.length = l.length ∧ ∀ (j : Nat) y, r[j]? = some y → ∃ x, l[j]? = some x ∧ f x = some y
  | [], r, h => by cases h; exact ⟨rfl, fun j y e => noK e⟩
  | x :: l, r, h => mapM_consK h fun b bs hf hr e => by
    subst e
    obtain ⟨e1, e2⟩ := mapM_get hr
    refine ⟨congrArg (· + 1) e1, fun j y hy => ?_⟩
    cases j with
    | zero => cases hy; exact ⟨x, rfl, hf⟩
    | succ j => exact e2 j y hy
theorem capV_at {cap : List Nat} {sl : Slots} {cv : List V} (h : capV cap sl = some cv) : cv.length = cap.length ∧ ∀ (j : Nat) v, cv[j]? = some v → ∃ i, cap[j]? = some i ∧ sl[i]? = some (some v) := by
  obtain ⟨e1, e2⟩ := mapM_get h
  refine ⟨e1, fun j v hv => ?_⟩
  obtain ⟨i, h1, h2⟩ := e2 j v hv
  refine ⟨i, h1, ?_⟩
  cases hs : sl[i]? with
  | none => simp [hs] at h2
  | some o => simp [hs] at h2; rw [h2]

theorem KB.kp {B : Addr → Prop} {h h₁ h₂ : Heap} (x : KB B h h₁) (k : Kp h₁ h₂) : KB B h h₂ := fun a o e hn => by
  obtain ⟨sl, e1, q1⟩ := x a o e hn
  obtain ⟨sl', e2, q2⟩ := k a _ e1
  exact ⟨sl', e2, fun hc => (q2 hc).trans (q1 hc)⟩
theorem KB.keep {B : Addr → Prop} {h h₁ h₂ : Heap} (x : KB B h h₁) (k : ∀ a o, h.get? a = some o → ¬ B a → ∀ q, h₁.get? a = some q → h₂.get? a = some q) : KB B h h₂ := fun a o e hn => by
  obtain ⟨sl, e1, q1⟩ := x a o e hn
  exact ⟨sl, k a o e hn _ e1, q1⟩

/- the frame of a comprehension -/
theorem comp_st {scope : Scope} {nmc : List Str} {cap : List Nat} {xs : List Str} (ok : CompOk sc nm nmc cap scope xs) {env : Env} {Z Z' α : List Addr} {s0 h : Heap} {mem : Mem} {sl : Slots} {cv its : List V} {C : Addr} {m : Str → Option Value}
    (hsc : env.scope = sc) (st : St prog w hb env nm Z α mem sl s0) (hcv : capV cap sl = some cv) (k : Kp s0 h) (mv : Mv s0 Z h Z') (hz : ∀ a ∈ Z', a ∈ Z ∨ ∃ o, h.get? a = some o) (hzs : ∀ a ∈ Z, a ∈ Z') (hs : hb.StaysIn h) (hn : h.Ns C m)
    (hit : ∀ (j : Nat) x v, xs[j]? = some x → its[j]? = some v → ∃ y, m x = some y ∧ RV h Z' α v y) :
    St prog w hb (compEnvC scope (clAcc env scope.names []) C env) nmc Z' α mem (cv.map some ++ its.map some) h := by
  obtain ⟨e1, e2⟩ := capV_at hcv
  obtain ⟨m0, hn0, hv0⟩ := st.fm.vars
  refine ⟨⟨ok.kind, st.fm.glob, st.fm.blt, m, hn, fun i y v h1 h2 => ?_⟩, ?_, hs⟩
  · by_cases hi : i < cap.length
    · rw [List.getElem?_append_left (by simp [e1, hi])] at h2
      rw [List.getElem?_map] at h2
      have hcvi : cv[i]? = some v := by
        cases hq : cv[i]? with
        | none => simp [hq] at h2
        | some q => simp [hq] at h2; rw [h2]
      obtain ⟨⟨j, hj, hnj⟩, hfr, hcd, hnl⟩ := ok.caps i y h1 hi
      obtain ⟨j', hj', hsl⟩ := e2 i v hcvi
      obtain rfl := soK (hj.symm.trans hj')
      obtain ⟨y0, hva, hr⟩ := hv0 j y v hnj hsl
      refine ⟨y0, ?_, hr.mv mv (List.prefix_refl _)⟩
      rcases hva with ⟨hk, _⟩ | ⟨c, hk, hc, ic⟩
      · exact absurd (by unfold Env.kindOf at hk; rw [hsc] at hk; exact hk) hnl
      · refine .inr ⟨c, ?_, ?_, k.isCell ic⟩
        · have hrel : (compEnvC scope (clAcc env scope.names []) C env).kindOf y = some (if (NameKind.free == .free && env.scope.kind == .function && env.scope.names.lookup y == some .cell) then .cell else .free) := relS_lookup (sc := env.scope) scope.names y .free hfr
          rw [hrel]
          split
          · exact .inl rfl
          · exact .inr ⟨rfl, hcd⟩
        · exact clAcc_at hc _ _ (.inr ⟨rfl, mem_of_lookup hfr⟩)
    · rw [List.getElem?_append_right (by simp [e1]; omega)] at h2
      simp only [List.length_map, e1] at h2
      rw [List.getElem?_map] at h2
      have hiv : its[i - cap.length]? = some v := by
        cases hq : its[i - cap.length]? with
        | none => simp [hq] at h2
        | some q => simp [hq] at h2; rw [h2]
      have hix : xs[i - cap.length]? = some y := by
        rw [← ok.tgt, List.getElem?_drop]
        have : cap.length + (i - cap.length) = i := by omega
        rw [this]; exact h1
      obtain ⟨y0, hm, hr⟩ := hit _ y v hix hiv
      refine ⟨y0, .inl ⟨?_, hm⟩, hr⟩
      exact lookup_relabel_local (ok.loc y (List.mem_of_getElem? hix))
  · have me := st.me
    refine ⟨me.len, me.nd, fun a ha => hzs a (me.sub a ha), me.new, fun a ha => ?_, fun i a o h1 h2 => ?_⟩
    · rcases hz a ha with h' | h'
      · obtain ⟨o, e⟩ := me.zin a h'
        obtain ⟨_, e', _⟩ := k a o e
        exact ⟨_, e'⟩
      · exact h'
    · have := me.here i a o h1 h2
      cases o with
      | ml l =>
        obtain ⟨vs, la, r⟩ := this
        exact ⟨vs, k.lst la, RPs.mv mv _ _ r⟩
      | md l =>
        obtain ⟨kvs, ⟨ob, es, ep, ho, q⟩, r⟩ := this
        exact ⟨kvs, ⟨ob, es, ep, k.exact ho (by rw [q.1.1]; exact ty_ne (by decide)), q⟩, r.mv mv⟩
end
end Mine
end
section
open PySem.W
namespace Mine
section
variable {prog : Program} {w : World} {hb : Heap} {n : Nat} {sc : Scope} {nm : List Str}

theorem compLoop_last {A : Around} {R : Result → Shared → Prop} {s : Shared} {elt target iter : Expr} {gens : List Comprehension} {scope : Scope} {pos : Pos} {dep : Nat} {ifs : List Expr} {it acc : Value} {env : Env}
    (heq : compTurn (.ListComp elt gens scope pos) dep it acc env = (do
      standAt iter.pos
      match ← pyNext it with
      | none => pure (.done .next)
      | some v =>
        letOwnedTupleGo target it v
        assign target env v
        let mut ok := true
        for c in ifs do
          if ok then ok ← isTrue c env (eval c env)
        if ok then
          (do let _ ← call (.builtin "list.append") [acc, ← eval elt env])
        again (.compLoop (.ListComp elt gens scope pos) dep it acc env))) (I : Nat → Shared → Prop)
    (turn : ∀ n s, I n s → wpAny (model prog w) A (pyNext it) (fun r s₁ => match r with
      | none => R (.ok .next) s₁
      | some v => wpAny (model prog w) A (assign target env v) (fun _ s₂ =>
          wpAny (model prog w) A (forIn ifs true fun c r => if r = true then do let ok ← isTrue c env (eval c env); pure (ForInStep.yield ok) else pure (ForInStep.yield r)) (fun ok s₃ =>
            if ok = true then wpAny (model prog w) A (eval elt env) (fun x s₄ =>
              wpAny (model prog w) A (call (.builtin "list.append") [acc, x]) (fun _ s₅ => ∃ m, m < n ∧ I m s₅) (notedBy (model prog w) A env fun e s' => R (.error e) s') s₄) (notedBy (model prog w) A env fun e s' => R (.error e) s') s₃
            else ∃ m, m < n ∧ I m s₃) (notedBy (model prog w) A env fun e s' => R (.error e) s') s₂) (notedBy (model prog w) A env fun e s' => R (.error e) s') s₁) (notedBy (model prog w) A env fun e s' => R (.error e) s') s)
    (n : Nat) (h : I n s) (ht : ∀ v, letOwnedTupleGo target it v = pure () := by intro _; rfl) :
    codeAny (model prog w) A (.compLoop (.ListComp elt gens scope pos) dep it acc env) R s := by
  refine codeAny_loop rfl I (fun n s hI => ?_) n h
  show wpAny _ A ((compTurn (.ListComp elt gens scope pos) dep it acc env).onRaise (fun x => do noteFrame x env; theTreesLotGoes x)) _ _ s
  refine wpAny_noted ?_
  rw [heq]
  refine wpAny_bind (wpAny_standAt (wpAny_bind (wpAny_mono (turn n s hI) (fun r s₁ h₁ => ?_) fun _ _ h' => h')))
  cases r with
  | none => exact wpAny_pure h₁
  | some v =>
    refine wpAny_bind (wpAny_of_eq (ht v) ?_)
    refine wpAny_bind (wpAny_mono h₁ (fun _ s₂ h₂ => wpAny_bind (wpAny_mono h₂ (fun ok s₃ h₃ => ?_) fun _ _ h' => h')) fun _ _ h' => h')
    cases ok with
    | false => exact wpAny_pure ⟨rfl, h₃⟩
    | true =>
      exact wpAny_bind (wpAny_bind (wpAny_mono h₃ (fun x s₄ h₄ => wpAny_bind (wpAny_mono h₄ (fun _ s₅ h₅ => wpAny_pure (wpAny_pure ⟨rfl, h₅⟩)) fun _ _ h' => h')) fun _ _ h' => h'))


/- what a loop of a comprehension may change: its iterator's, its frame C, its list D -/
noncomputable def BW (wr : List Addr) (C D a : Addr) : Prop := a ∈ wr ∨ a = C ∨ a = D
/- hp: where the whole began; h₁: where the loop did -/
structure LC (hb : Heap) (Z Zi : List Addr) (C D : Addr) (wr fp : List Addr) (hp h₁ : Heap) : Prop where
  dc : D ≠ C
  cw : C ∉ wr
  dw : D ∉ wr
  cf : C ∉ fp
  df : D ∉ fp
  cs : hp.get? C = none
  ds : hp.get? D = none
  dz : D ∉ Z
  bc : hb.get? C = none
  bd : hb.get? D = none
  bw : ∀ b ∈ wr, hb.get? b = none
  kp : ∀ h, KB (BW wr C D) h₁ h → Kp hp h
  mv : ∀ h, KB (BW wr C D) h₁ h → Mv h₁ Zi h (D :: Z)
/- between the turns -/
inductive LI (hb : Heap) (s : Shared) (C D : Addr) (wr : List Addr) (h₁ : Heap) (N : Nat) (S : Nat → Heap → Prop) (K : (Str → Option Value) → Prop) (Ac : Nat → Heap → Prop) (k : Nat) (s' : Shared) : Prop
  | mk (i : Nat) (h : Heap) (t : Nat) (m : Str → Option Value) (e : s' = { s with heap := h, toks := t }) (hi : i ≤ N) (hk : k = N - i) (hS : S i h) (hn : h.Ns C m) (hK : K m) (ac : Ac i h) (kb : KB (BW wr C D) h₁ h) (hst : hb.StaysIn h)
/- what is told of a loop -/
structure LT (prog : Program) (w : World) (hb : Heap) (sc : Scope) (nm nmc : List Str) (cap : List Nat) (scope : Scope) (env : Env) (Z Zi α : List Addr) (A : Around) (s : Shared) (mem : Mem) (sl : Slots) (cv : List V) (C D : Addr) (wr fp : List Addr) (h₁ : Heap)
    (x : Str) (px : Pos) (I : Addr) (vs : List V) (Pr Md : Nat → Value → Heap → Prop) (S : Nat → Heap → Prop) (K : (Str → Option Value) → Prop) (xs0 xs1 : List Str) (vs0 : List V) : Prop where
  ok : CompOk sc nm nmc cap scope (xs0 ++ x :: xs1)
  hsc : env.scope = sc
  st : St prog w hb env nm Z α mem sl s.heap
  hcv : capV cap sl = some cv
  L : LC hb Z Zi C D wr fp s.heap h₁
  T : KTurns prog w A (.Name x px) I fp wr vs.length Pr Md S
  hat : ∀ i h, S i h → (∀ b ∈ fp, ∃ o, h.get? b = some o ∧ o.cls ≠ .type "frame") ∧ ∀ b ∈ wr, ∃ o vs, h.get? b = some o ∧ o.data = .fields vs
  hval : ∀ i v h₂ Z₂ α₂, Pr i v h₂ → Mv h₁ Zi h₂ Z₂ → α <+: α₂ → i < vs.length → ∃ x, vs[i]? = some x ∧ RV h₂ Z₂ α₂ x v
  hK : ∀ m y, K m → K (fun z => if z = x then some y else m z)
  hpre : ∀ m h, K m → KB (BW wr C D) h₁ h → ∀ (j : Nat) x' v', xs0[j]? = some x' → vs0[j]? = some v' → ∃ y, m x' = some y ∧ RV h (D :: Z) α v' y
  hl : xs0.length = vs0.length

section
variable {nmc : List Str} {cap : List Nat} {scope : Scope} {env : Env} {Z Zi α : List Addr} {A : Around} {s : Shared} {mem : Mem} {sl : Slots} {cv : List V} {C D : Addr} {wr fp : List Addr} {h₁ : Heap}
  {x : Str} {px : Pos} {I : Addr} {vs : List V} {Pr Md : Nat → Value → Heap → Prop} {S : Nat → Heap → Prop} {K : (Str → Option Value) → Prop} {xs0 xs1 : List Str} {vs0 : List V}
theorem LT.mvS (X : LT prog w hb sc nm nmc cap scope env Z Zi α A s mem sl cv C D wr fp h₁ x px I vs Pr Md S K xs0 xs1 vs0) {h : Heap} (kb : KB (BW wr C D) h₁ h) : Mv s.heap Z h (D :: Z) :=
  ⟨fun _ _ _ y => (X.L.kp h kb).lst y, fun _ _ y => (X.L.kp h kb).tup y, fun b hb' => by
    rcases List.mem_cons.mp hb' with rfl | hb'
    · exact .inr X.L.ds
    · exact .inl hb'⟩
/- the iterator's state stands where all but what is not its own is kept -/
theorem LT.frame (X : LT prog w hb sc nm nmc cap scope env Z Zi α A s mem sl cv C D wr fp h₁ x px I vs Pr Md S K xs0 xs1 vs0) {i : Nat} {h h' : Heap} (hS : S i h) (k : Kp h h') : S i h' :=
  X.T.frame i h h' hS fun b hb' o e => by
    obtain ⟨o', e', hc⟩ := (X.hat _ _ hS).1 b hb'
    obtain rfl := soK (e.symm.trans e')
    exact k.exact e hc
theorem LT.st5 (X : LT prog w hb sc nm nmc cap scope env Z Zi α A s mem sl cv C D wr fp h₁ x px I vs Pr Md S K xs0 xs1 vs0) {i : Nat} (hlt : i < vs.length) {h5 : Heap} {m : Str → Option Value} {v : Value} (kb5 : KB (BW wr C D) h₁ h5) (hd : ∃ o, h5.get? D = some o)
    (hst5 : hb.StaysIn h5) (hn5 : h5.Ns C (fun z => if z = x then some v else m z)) (hKm : K m) (rv : RV h5 (D :: Z) α vs[i] v) : St prog w hb (compEnvC scope (clAcc env scope.names []) C env) nmc (D :: Z) α mem (cv.map some ++ vs0.map some ++ [some vs[i]]) h5 := by
  have := comp_st (its := vs0 ++ [vs[i]]) X.ok X.hsc X.st X.hcv (X.L.kp h5 kb5) (X.mvS kb5) (fun a ha => by
    rcases List.mem_cons.mp ha with rfl | ha
    · exact .inr hd
    · exact .inl ha) (fun a ha => List.mem_cons_of_mem _ ha) hst5 hn5 fun j x' v' h1 h2 => by
      by_cases hj : j < xs0.length
      · rw [List.getElem?_append_left hj] at h1
        rw [List.getElem?_append_left (X.hl ▸ hj)] at h2
        exact X.hpre _ h5 (X.hK m v hKm) kb5 j x' v' h1 h2
      · rw [List.getElem?_append_right (Nat.le_of_not_lt hj)] at h1
        rw [List.getElem?_append_right (X.hl ▸ Nat.le_of_not_lt hj), ← X.hl] at h2
        cases q : j - xs0.length with
        | zero =>
          rw [q] at h1 h2
          obtain rfl := soK h1; obtain rfl := soK h2
          exact ⟨v, if_pos rfl, rv⟩
        | succ q' => rw [q] at h2; cases h2
  rw [List.map_append, ← List.append_assoc] at this
  exact this
theorem loop_turn (X : LT prog w hb sc nm nmc cap scope env Z Zi α A s mem sl cv C D wr fp h₁ x px I vs Pr Md S K xs0 xs1 vs0) {Ac : Nat → Heap → Prop} {Q : Option Value → Shared → Prop} {E : Value → Shared → Prop} {BODY : Shared → Prop} {k : Nat} {s' : Shared}
    (hAc : ∀ i h h', Ac i h → (∀ o, h.get? D = some o → o.cls ≠ .type "frame" → h'.get? D = some o) → Mv h (D :: Z) h' (D :: Z) → Ac i h') (hAt : ∀ i h, Ac i h → ∃ o, h.get? D = some o)
    (hdone : ∀ h t m, h.Ns C m → Ac vs.length h → KB (BW wr C D) h₁ h → hb.StaysIn h → Q none { s with heap := h, toks := t })
    (hQ : ∀ v s₁, wpAny (model prog w) A (assign (.Name x px) (compEnvC scope (clAcc env scope.names []) C env) v) (fun _ s₂ => BODY s₂) E s₁ → Q (some v) s₁)
    (hbody : ∀ i (hlt : i < vs.length) h t m, k = vs.length - i → S (i + 1) h → h.Ns C m → K m → Ac i h → KB (BW wr C D) h₁ h → hb.StaysIn h → (∃ v, m x = some v ∧ RV h (D :: Z) α vs[i] v) →
      St prog w hb (compEnvC scope (clAcc env scope.names []) C env) nmc (D :: Z) α mem (cv.map some ++ vs0.map some ++ [some vs[i]]) h → BODY { s with heap := h, toks := t })
    (li : LI hb s C D wr h₁ vs.length S K Ac k s') : wpAny (model prog w) A (pyNext (.ref I)) Q E s' := by
  obtain ⟨i, h, tt, m, rfl, hi, hk, hS, hn, hKm, ac, kb, hst⟩ := li
  by_cases hlt : i < vs.length
  · refine X.T.item i { s with heap := h, toks := tt } _ _ hlt hS fun v h2 t2 hMd hk2 => hQ v _ ?_
    show wpAny _ _ (letOwnedTupleGo (.Name x px) (.ref I) v >>= fun _ => assign (.Name x px) (compEnvC scope (clAcc env scope.names []) C env) v) _ _ _
    refine wpAny_bind (X.T.go i v { s with heap := h2, toks := t2 } _ _ hMd fun h4 hP4 hS4 hk4 => ?_)
    have bt : Bt wr h h4 := ⟨fun b o' hb' e => hk4 b o' hb' (hk2 b o' hb' e), (X.hat i h hS).2⟩
    have kb4 : KB (BW wr C D) h₁ h4 := kb.keep fun a o e hna q hq => bt.kept a q (fun q => hna (.inl q)) hq
    have hn4 := bt.ns hn
    refine wpAny_assign_Name (wpAny_storeName_local (lookup_relabel_local (X.ok.loc x (List.mem_append_right _ List.mem_cons_self))) hn4 (fun h5 hn5 hs5 => ?_) (by show (scope.kind == .class || (scope.kind == .module && _)) = false; rw [X.ok.kind]; rfl))
    replace hs5 : Heap.SameBut C h4 h5 := hs5
    have mv5 : ∀ Z', Mv h4 Z' h5 Z' := fun Z' => Mv.sameBut_ns hn4 hs5
    have kb5 : KB (BW wr C D) h₁ h5 := kb4.keep fun a o e hna q hq => (hs5.2 a (fun q' => hna (.inr (.inl q')))).trans hq
    have hst5 : hb.StaysIn h5 := fun b o e => (hs5.2 b (fun q => nos X.L.bc (q ▸ e))).trans (bt.kept b o (fun q => nos (X.L.bw b q) e) (hst b o e))
    have ac5 : Ac i h5 := hAc i h4 h5 (hAc i h h4 ac (fun o e _ => bt.kept D o X.L.dw e) bt.mv) (fun o e _ => (hs5.2 D X.L.dc).trans e) (mv5 _)
    obtain ⟨it1, hit1, rv1⟩ := X.hval i v h4 (D :: Z) α hP4 (X.L.mv h4 kb4) (List.prefix_refl _) hlt
    obtain rfl := soK ((List.getElem?_eq_getElem hlt).symm.trans hit1)
    have rv5 := rv1.mv (mv5 (D :: Z)) (List.prefix_refl α)
    exact hbody i hlt h5 _ _ hk (X.T.frame (i + 1) h4 h5 hS4 fun b hb' o e => (hs5.2 b (fun q => X.L.cf (q ▸ hb'))).trans e) hn5 (X.hK m v hKm) ac5 kb5 hst5 ⟨v, if_pos rfl, rv5⟩ (X.st5 hlt kb5 (hAt i h5 ac5) hst5 hn5 hKm rv5)
  · obtain rfl : i = vs.length := Nat.le_antisymm hi (Nat.le_of_not_lt hlt)
    refine X.T.done { s with heap := h, toks := tt } _ _ hS fun h2 t2 hk2 => ?_
    have bt : Bt wr h h2 := ⟨hk2, (X.hat _ _ hS).2⟩
    exact hdone h2 t2 m (bt.ns hn) (hAc _ h h2 ac (fun o e _ => bt.kept D o X.L.dw e) bt.mv) (kb.keep fun a o e hna q hq => bt.kept a q (fun q => hna (.inl q)) hq) fun b o e => bt.kept b o (fun q => nos (X.L.bw b q) e) (hst b o e)

/- the list so far, and what is still to come -/
inductive AcL (D : Addr) (Z : List Addr) (G : Nat → Option (List P)) (ds : List P) (i : Nat) (h : Heap) : Prop
  | mk (d r : List P) (ys : List Value) (la : LstAt h D ys) (rp : RPs h (D :: Z) d ys) (go : G i = some r) (e : ds = d ++ r)
theorem AcL.keep {G : Nat → Option (List P)} {ds : List P} (i : Nat) (h h' : Heap) : AcL D Z G ds i h → (∀ o, h.get? D = some o → o.cls ≠ .type "frame" → h'.get? D = some o) → Mv h (D :: Z) h' (D :: Z) → AcL D Z G ds i h'
  | ⟨d, r, ys, ⟨q, la⟩, rp, go, e⟩, k, mv => ⟨d, r, ys, ⟨q, k _ la (ty_ne (by decide))⟩, RPs.mv mv _ _ rp, go, e⟩
theorem AcL.at {G : Nat → Option (List P)} {ds : List P} (i : Nat) (h : Heap) : AcL D Z G ds i h → ∃ o, h.get? D = some o
  | ⟨_, _, _, ⟨_, la⟩, _, _, _⟩ => ⟨_, la⟩
/- one more item -/
theorem lst_push {h : Heap} {d : List P} {x : P} {ys : List Value} {y : Value} (la : LstAt h D ys) (rp : RPs h (D :: Z) d ys) (ry : RP h (D :: Z) x y) (hl : d.length < 2 ^ 20) {Q : Value → Shared → Prop} {E : Value → Shared → Prop} {s : Shared} {t : Nat}
    (hQ : ∀ h8, Heap.SameBut D h h8 → LstAt h8 D (ys ++ [y]) → RPs h8 (D :: Z) (d ++ [x]) (ys ++ [y]) → Q .none { s with heap := h8, toks := t }) : wpAny (model prog w) A (call (.builtin "list.append") [.ref D, y]) Q E { s with heap := h, toks := t } := by
  obtain ⟨nn, g7⟩ := id la
  have el := rp.length
  refine call_meets F.slot_list_append la.typeIs F.entry_list_append (F.args_list_append_2 _ _) (_root_.PySem.list_append D ys.toArray nn y (by simp only [List.size_toArray]; rw [sizeLine_eq]; omega)) ⟨g7, ?_⟩
  have hs8 : Heap.SameBut D h (h.update D (Obj.mapSeq fun x_1 => x_1.push y)) := Heap.SameBut.update ..
  refine hQ _ hs8 (la.up (f := fun x_1 => x_1.push y) (by simp)) (RPs.mv ⟨fun a us hz ⟨q, e⟩ => ⟨q, (hs8.2 a (fun q' => hz (q' ▸ List.mem_cons_self))).trans e⟩, fun a us lt => ?_, fun a ha => .inl ha⟩ _ _ (rp.append ⟨ry, trivial⟩))
  have := la.ne_tup lt
  obtain ⟨q, e⟩ := lt
  exact ⟨q, (hs8.2 a this).trans e⟩
theorem compGo_cons {base : Slots} {t : TF} {f : XF} {v : V} {vs : List V} {r : List P} {G : Prop} (h : compGo mem base t f (v :: vs) = some r) (k0 : t mem (base ++ [some v]) = some false → compGo mem base t f vs = some r → G)
    (k1 : ∀ d r', t mem (base ++ [some v]) = some true → f mem (base ++ [some v]) = some (.p d) → compGo mem base t f vs = some r' → r = d :: r' → G) : G := by
  unfold compGo at h
  cases h1 : t mem (base ++ [some v]) with
  | none => rw [h1] at h; cases h
  | some b =>
    rw [h1] at h
    cases b with
    | false => exact k0 h1 h
    | true =>
      replace h : (f mem (base ++ [some v])).bind _ = some r := h
      cases h2 : f mem (base ++ [some v]) with
      | none => rw [h2] at h; cases h
      | some y =>
        rw [h2] at h
        cases y with
        | p d =>
          replace h : (compGo mem base t f vs).map _ = some r := h
          cases h3 : compGo mem base t f vs with
          | none => rw [h3] at h; cases h
          | some r' => rw [h3] at h; cases h; exact k1 d r' h1 h2 h3 rfl
        | c _ => exact noK h
        | t _ => exact noK h
theorem compGo_len {base : Slots} {t : TF} {f : XF} : ∀ {vs : List V} {r : List P}, compGo mem base t f vs = some r → r.length ≤ vs.length
  | [], r, h => by obtain rfl := soK h; exact Nat.le_refl _
  | v :: vs, r, h => compGo_cons h (fun _ h => Nat.le_succ_of_le (compGo_len h)) fun d r' _ _ h e => by rw [e]; exact Nat.succ_le_succ (compGo_len h)
/- the last loop of a comprehension of a list -/
theorem loop_last {elt iter : Expr} {ifs : List Expr} {gens : List Comprehension} {pos : Pos} {dep : Nat} {t : TF} {f : XF} {ds : List P} {R : Result → Shared → Prop} {k0 : Nat} {s0 : Shared}
    (heq : ∀ it acc env, compTurn (.ListComp elt gens scope pos) dep it acc env = (do
      standAt iter.pos
      match ← pyNext it with
      | none => pure (.done .next)
      | some v =>
        letOwnedTupleGo (.Name x px) it v
        assign (.Name x px) env v
        let mut ok := true
        for c in ifs do
          if ok then ok ← isTrue c env (eval c env)
        if ok then
          (do let _ ← call (.builtin "list.append") [acc, ← eval elt env])
        again (.compLoop (.ListComp elt gens scope pos) dep it acc env)))
    (X : LT prog w hb sc nm nmc cap scope env Z Zi α A s mem sl cv C D wr fp h₁ x px I vs Pr Md S K xs0 xs1 vs0) (ht : SimIfs prog w hb n (relS scope sc) nmc ifs t) (hf : SimE prog w hb n (relS scope sc) nmc elt f) (rm : Rm hb n A s.heap) (hds : ds.length ≤ 2 ^ 20)
    (hend : ∀ h t' m ys, h.Ns C m → LstAt h D ys → RPs h (D :: Z) ds ys → KB (BW wr C D) h₁ h → hb.StaysIn h → R (.ok .next) { s with heap := h, toks := t' })
    (li : LI hb s C D wr h₁ vs.length S K (AcL D Z (fun i => compGo mem (cv.map some ++ vs0.map some) t f (vs.drop i)) ds) k0 s0) :
    codeAny (model prog w) A (.compLoop (.ListComp elt gens scope pos) dep (.ref I) (.ref D) (compEnvC scope (clAcc env scope.names []) C env)) R s0 := by
  refine compLoop_last (heq _ _ _) _ (fun k s' li => ?_) k0 li
  refine loop_turn X AcL.keep AcL.at ?_ (fun _ _ h => h) ?_ li
  · rintro h t' m hn ⟨d, r, ys, la, rp, go, rfl⟩ kb hst
    rw [List.drop_length] at go
    obtain rfl := soK go
    rw [List.append_nil] at hend
    exact hend h t' m ys hn la rp kb hst
  · rintro i hlt h5 t5 m hk hS5 hn5 hK5 ⟨d, r, ys, la5, rp5, go, rfl⟩ kb5 hst5 _ st5
    have hcsc : (compEnvC scope (clAcc env scope.names []) C env).scope = relS scope sc := by show relabel scope env = _; rw [relS_eq, X.hsc]
    have hmk : ∀ h t' m d r ys, S (i + 1) h → h.Ns C m → K m → LstAt h D ys → RPs h (D :: Z) d ys → compGo mem (cv.map some ++ vs0.map some) t f (vs.drop (i + 1)) = some r → KB (BW wr C D) h₁ h → hb.StaysIn h →
        ∃ m', m' < k ∧ LI hb s C D wr h₁ vs.length S K (AcL D Z (fun i => compGo mem (cv.map some ++ vs0.map some) t f (vs.drop i)) (d ++ r)) m' { s with heap := h, toks := t' } := fun h t' m d r ys hS hn hK la rp go kb hst =>
      ⟨vs.length - (i + 1), by rw [hk]; exact Nat.sub_lt_sub_left hlt (Nat.lt_succ_self i), .mk (i + 1) h t' m rfl hlt rfl hS hn hK ⟨d, r, ys, la, rp, go, rfl⟩ kb hst⟩
    rw [List.drop_eq_getElem_cons hlt] at go
    refine compGo_cons go (fun hb1 go => ?_) fun d1 r' hb1 hr go2 e => ?_
    · refine ht (compEnvC scope (clAcc env scope.names []) C env) (D :: Z) α A { s with heap := h5, toks := t5 } mem _ false _ _ hcsc (rm.kp (X.L.kp h5 kb5)) st5 hb1 fun h6 t6 k6 s6 => ?_
      rw [if_neg Bool.false_ne_true]
      exact hmk h6 t6 m d r ys (X.frame hS5 k6) (k6.ns hn5) hK5 (k6.lst la5) (RPs.kp k6 _ _ rp5) go (kb5.kp k6) s6
    · subst e
      refine ht (compEnvC scope (clAcc env scope.names []) C env) (D :: Z) α A { s with heap := h5, toks := t5 } mem _ true _ _ hcsc (rm.kp (X.L.kp h5 kb5)) st5 hb1 fun h6 t6 k6 s6 => ?_
      rw [if_pos rfl]
      refine hf (compEnvC scope (clAcc env scope.names []) C env) (D :: Z) α A { s with heap := h6, toks := t6 } mem _ _ _ _ hcsc (rm.kp (X.L.kp h6 (kb5.kp k6))) (st5.kp k6 s6) hr fun y h7 t7 ry k7 s7 => ?_
      have k57 := k6.trans k7
      have kb7 := kb5.kp k57
      refine lst_push (k57.lst la5) (RPs.kp k57 _ _ rp5) ry (Nat.lt_of_lt_of_le (by simp) hds) fun h8 hs8 la8 rp8 => ?_
      rw [List.append_cons]
      exact hmk h8 t7 m _ r' _ (X.T.frame (i + 1) h7 _ (X.frame hS5 k57) fun b' hb' o e => (hs8.2 b' (fun q => X.L.df (q ▸ hb'))).trans e) ((k57.ns hn5).sameBut hs8 (Ne.symm X.L.dc)) hK5 la8 rp8 go2
        (kb7.keep fun a o e hna q hq => (hs8.2 a (fun q' => hna (.inr (.inr q')))).trans hq) fun b' o e => (hs8.2 b' (fun q => nos X.L.bd (q ▸ e))).trans (s7 b' o e)
end

theorem clos_ok {nmc : List Str} {cap : List Nat} {scope : Scope} {xs : List Str} (ok : CompOk sc nm nmc cap scope xs) {env : Env} {Z α : List Addr} {h : Heap} {mem : Mem} {sl : Slots} {cv : List V} (hsc : env.scope = sc) (st : St prog w hb env nm Z α mem sl h) (hcv : capV cap sl = some cv) :
    closureFor scope env = pure (clAcc env scope.names []) := by
  obtain ⟨e1, e2⟩ := capV_at hcv
  refine closureFor_eq fun y hy hfr => ?_
  obtain ⟨j, hj, hje⟩ := List.mem_iff_getElem.mp (ok.free y hy hfr)
  have hj' : j < cap.length := by rw [List.length_take] at hj; omega
  have hnj : nmc[j]? = some y.1 := by
    rw [List.getElem_take] at hje
    rw [← hje]
    exact List.getElem?_eq_getElem _
  obtain ⟨⟨i, hi, hni⟩, _, _, hnl⟩ := ok.caps j y.1 hnj hj'
  obtain ⟨i', hi', hsl⟩ := e2 j _ (List.getElem?_eq_getElem (e1 ▸ hj'))
  obtain rfl := soK (hi.symm.trans hi')
  obtain ⟨m0, _, hv0⟩ := st.fm.vars
  obtain ⟨y0, hva, _⟩ := hv0 i y.1 _ hni hsl
  rcases hva with ⟨hk, _⟩ | ⟨c, hk, hc, ic⟩
  · exact absurd (by unfold Env.kindOf at hk; rw [hsc] at hk; exact hk) hnl
  · exact ⟨c, hc⟩
/- the iterator's own objects bear no data -/
theorem mv_of {h₁ h : Heap} {Z Zi : List Addr} {C D : Addr} {wr : List Addr} (hw : ∀ b ∈ wr, ∃ o vs, h₁.get? b = some o ∧ o.data = .fields vs) (hC : ∀ o, h₁.get? C = some o → ∀ vs n, o.data ≠ .seq vs n) (hD : ∀ o, h₁.get? D = some o → D ∈ Zi ∧ o.cls ≠ .type "tuple")
    (hz : ∀ a ∈ D :: Z, a ∈ Zi ∨ h₁.get? a = none) (kb : KB (BW wr C D) h₁ h) : Mv h₁ Zi h (D :: Z) := by
  have key : ∀ a c vs k, h₁.get? a = some { cls := .type c, data := .seq vs k } → c ≠ "frame" → a ≠ D → h.get? a = some { cls := .type c, data := .seq vs k } := fun a c vs k e hc hd => by
    obtain ⟨sl1, e1, q1⟩ := kb a _ e (by
      rintro (q | q | q)
      · obtain ⟨o, fs, e', d⟩ := hw a q
        obtain rfl := soK (e.symm.trans e'); cases d
      · exact hC _ (q ▸ e) _ _ rfl
      · exact hd q)
    rw [q1 (ty_ne hc)] at e1
    exact e1
  refine ⟨fun a vs h1 ⟨k, e⟩ => ⟨k, key a _ _ k e (by decide) fun q => h1 (q ▸ (hD _ (q ▸ e)).1)⟩, fun a vs ⟨k, e⟩ => ⟨k, key a _ _ k e (by decide) fun q => (hD _ (q ▸ e)).2 rfl⟩, hz⟩
/- a comprehension up to its first turn -/
theorem comp_setup {e iter : Expr} {x : Str} {px : Pos} {ifs : List Expr} {gs : List Comprehension} {scope : Scope} {pos' : Pos} {cap : List Nat} {nmc xs : List Str} {itf : XFs} {use : Option (Value → Sem Unit)} {newAcc : Sem Value} {ob : Obj}
    (hcl : clausesOf e = ⟨.Name x px, iter, ifs, 0⟩ :: gs) (ok : CompOk sc nm nmc cap scope xs) (hit : SimV prog w hb n sc nm iter itf) (hfs : ∀ env x, foldedSetIterable iter env x = pure x)
    {env : Env} {Z α : List Addr} {A : Around} {s : Shared} {mem : Mem} {sl : Slots} {cv vs : List V} {Q E : Value → Shared → Prop} (hsc : env.scope = sc) (rm : Rm hb n A s.heap) (st : St prog w hb env nm Z α mem sl s.heap) (hcv : capV cap sl = some cv) (hvs : itf mem sl = some vs)
    (hnew : ∀ (s : Shared) (Q E : Value → Shared → Prop), Q (.ref s.heap.objs.size) { s with heap := s.heap.push ob } → wpAny (model prog w) A newAcc Q E s) (hfr : ob.isFreed = false)
    (h : ∀ I h₁ tk fp wr Pr Md S C D h3, ItAt prog w hb A (.Name x px) s.heap Z I fp wr vs.length Pr Md S h₁ → (∀ i v h₂ Z₂ α₂, Pr i v h₂ → Mv h₁ Z h₂ Z₂ → α <+: α₂ → i < vs.length → ∃ x, vs[i]? = some x ∧ RV h₂ Z₂ α₂ x v) →
      LC hb Z Z C D wr fp s.heap h₁ → h3.Ns C (fun x => ([] : List (Str × Value)).reverse.lookup x) → h3.get? D = some ob → S 0 h3 → KB (BW wr C D) h₁ h3 → hb.StaysIn h3 →
      codeAny (model prog w) A (.compStart e 0 (.ref I) (.ref D) (compEnvC scope (clAcc env scope.names []) C env)) (compPost (model prog w) A E use Q (.ref D) C) { s with heap := h3, toks := tk }) :
    wpAny (model prog w) A (comprehension e scope env pos' newAcc false (eval iter env) use) Q E s := by
  refine wpAny_comprehension_free (use := use) hcl (hfs env) (clos_ok ok hsc st hcv) ok.kind ok.nam (hit (.Name x px) env Z α A s mem sl vs _ _ hsc rm st hvs fun I h₁ tk fp wr Pr Md S it hval => ?_)
  refine hnew _ _ _ (wpAny_newFunctionEnv ok.cell (fun y hy => nomatch hy) (fun h3 hns3 hsb3 => ?_) ok.kind)
  dsimp only at hns3 hsb3 ⊢
  generalize hH2 : h₁.push ob = H2 at hns3 hsb3 ⊢
  have hCs : H2.objs.size = h₁.objs.size + 1 := by rw [← hH2, Heap.size_push]
  obtain ⟨D, hDd⟩ : ∃ D, D = h₁.objs.size := ⟨_, rfl⟩
  obtain ⟨C, hCd⟩ : ∃ C, C = H2.objs.size := ⟨_, rfl⟩
  rw [← hDd] at hCs ⊢
  rw [← hCd] at hCs hns3 hsb3 ⊢
  have hDC : D ≠ C := by rw [hCs]; exact Nat.ne_of_lt (Nat.lt_succ_self _)
  have hDn : h₁.get? D = none := Heap.get?_none_of_le (by omega)
  have hCn : h₁.get? C = none := Heap.get?_none_of_le (by omega)
  have old : ∀ b o, h₁.get? b = some o → h3.get? b = some o := fun b o e => by
    have hle : h₁.objs.size ≤ H2.objs.size := by rw [← hDd, ← hCd, hCs]; exact Nat.le_succ _
    refine hsb3.extBut b o (Nat.ne_of_lt (Nat.lt_of_lt_of_le (Heap.lt_size e) (by rw [hCd]; exact hle))) (Heap.get?_push_of_some _ (hH2 ▸ Heap.get?_push_of_some _ e))
  have hwd := fun h hS => (it.at' 0 h hS).2
  have hwr1 : ∀ b ∈ wr, ∀ {G : Prop}, h₁.get? b = none → G := fun b hb' _ q => by obtain ⟨o, _, e, _⟩ := hwd h₁ it.start b hb'; exact nos q e
  have hfp1 : ∀ b ∈ fp, ∀ {G : Prop}, h₁.get? b = none → G := fun b hb' _ q => by obtain ⟨o, e⟩ := (it.fps b hb').1; exact nos q e
  have hDs : s.heap.get? D = none := it.kp.none_of hDn
  have hCS : s.heap.get? C = none := it.kp.none_of hCn
  have hbn : ∀ a, s.heap.get? a = none → hb.get? a = none := fun a e => by
    cases q : hb.get? a with
    | none => rfl
    | some o => exact nos e (st.stays a o q)
  refine h I h₁ tk fp wr Pr Md S C D h3 it hval
    ⟨hDC, fun q => hwr1 C q hCn, fun q => hwr1 D q hDn, fun q => hfp1 C q hCn, fun q => hfp1 D q hDn, hCS, hDs, fun q => by obtain ⟨o, e⟩ := st.me.zin D q; exact nos hDs e, hbn C hCS, hbn D hDs, fun b q => hbn b (it.wrs b q), fun h kb b o e => ?_,
      fun h kb => mv_of (hwd h₁ it.start) (fun o e => nos hCn e) (fun o e => nos hDn e) (fun a ha => ?_) kb⟩
    hns3 (hsb3.extBut _ _ hDC (Heap.get?_push_of_some _ (by rw [← hH2, hDd]; exact Heap.get?_push_size _ hfr))) (it.turns.frame 0 h₁ h3 it.start fun b _ o e => old b o e) (fun a o e _ => ⟨o.slots, old a o e, fun _ => rfl⟩) fun b o e => old b o (it.stays b o e)
  · obtain ⟨sl1, e1, q1⟩ := it.kp b o e
    obtain ⟨sl2, e2, q2⟩ := kb b _ e1 (by
      rintro (q | q | q)
      · exact nos (it.wrs b q) e
      · exact nos hCn (q ▸ e1)
      · exact nos hDn (q ▸ e1))
    exact ⟨sl2, e2, fun hc => (q2 hc).trans (q1 hc)⟩
  · rcases List.mem_cons.mp ha with rfl | ha
    · exact .inr hDn
    · exact .inl ha
/- the loop's facts, of a first clause -/
theorem LC.lt {x : Str} {px : Pos} {scope : Scope} {cap : List Nat} {nmc : List Str} {xs1 : List Str} (ok : CompOk sc nm nmc cap scope (x :: xs1)) {env : Env} {Z α : List Addr} {A : Around} {s : Shared} {mem : Mem} {sl : Slots} {cv vs : List V} (hsc : env.scope = sc) (st : St prog w hb env nm Z α mem sl s.heap) (hcv : capV cap sl = some cv)
    {I : Addr} {h₁ : Heap} {fp wr : List Addr} {Pr Md : Nat → Value → Heap → Prop} {S : Nat → Heap → Prop} {C D : Addr} (it : ItAt prog w hb A (.Name x px) s.heap Z I fp wr vs.length Pr Md S h₁)
    (hval : ∀ i v h₂ Z₂ α₂, Pr i v h₂ → Mv h₁ Z h₂ Z₂ → α <+: α₂ → i < vs.length → ∃ x, vs[i]? = some x ∧ RV h₂ Z₂ α₂ x v) (L : LC hb Z Z C D wr fp s.heap h₁) :
    LT prog w hb sc nm nmc cap scope env Z Z α A s mem sl cv C D wr fp h₁ x px I vs Pr Md S (fun _ => True) [] xs1 [] :=
  ⟨ok, hsc, st, hcv, L, it.turns, it.at', hval, fun _ _ _ => trivial, fun _ _ _ _ _ _ _ h => (nomatch h), rfl⟩

theorem comp_core {elt iter : Expr} {x : Str} {px : Pos} {ifs : List Expr} {scope : Scope} {pos pos' : Pos} {cap : List Nat} {nmc : List Str} {itf : XFs} {t : TF} {f : XF} {use : Option (Value → Sem Unit)}
    (ok : CompOk sc nm nmc cap scope [x]) (hit : SimV prog w hb n sc nm iter itf) (ht : SimIfs prog w hb n (relS scope sc) nmc ifs t) (hf : SimE prog w hb n (relS scope sc) nmc elt f)
    (hfs : ∀ env x, foldedSetIterable iter env x = pure x)
    {env : Env} {Z α : List Addr} {A : Around} {s : Shared} {mem : Mem} {sl : Slots} {ds : List P} {Q E : Value → Shared → Prop} (hsc : env.scope = sc) (rm : Rm hb n A s.heap) (st : St prog w hb env nm Z α mem sl s.heap)
    (hds : compV cap itf t f mem sl = some ds)
    (hfin : ∀ D C h tk m, s.heap.get? C = none → D ≠ C → h.Ns C m → Kp s.heap h → hb.StaysIn h → RP h Z (.lst ds) (.ref D) → compPost (model prog w) A E use Q (.ref D) C (.ok .next) { s with heap := h, toks := tk }) :
    wpAny (model prog w) A (comprehension (.ListComp elt [⟨.Name x px, iter, ifs, 0⟩] scope pos) scope env pos' (newList []) false (eval iter env) use) Q E s := by
  refine bindK hds fun cv hcv hds => bindK hds fun vs hvs hds => ?_
  split at hds
  · rename_i hlen
    simp only [lenOk, decide_eq_true_eq] at hlen
    refine comp_setup (ob := { cls := .type "list", data := .seq ([] : List Value).toArray }) rfl ok hit hfs hsc rm st hcv hvs (fun s Q E h => wpAny_newObj_type h) rfl fun I h₁ tk fp wr Pr Md S C D h3 it hval L hn3 hD3 hS3 kb3 hst3 => ?_
    have loop : codeAny (model prog w) A (.compLoop (.ListComp elt [⟨.Name x px, iter, ifs, 0⟩] scope pos) 0 (.ref I) (.ref D) (compEnvC scope (clAcc env scope.names []) C env)) (compPost (model prog w) A E use Q (.ref D) C) { s with heap := h3, toks := tk } :=
      loop_last (iter := iter) (fun _ _ _ => rfl) (L.lt ok hsc st hcv it hval) ht hf rm (Nat.le_trans (compGo_len hds) hlen) (fun h t' m ys hn la rp kb hst => hfin D C h t' m L.cs L.dc hn (L.kp h kb) hst ⟨D, ys, rfl, la, L.dz, RPs.mv (Mv.weak fun a ha => List.mem_cons_of_mem _ ha) _ _ rp⟩)
        (k0 := vs.length) (.mk 0 h3 tk _ rfl (Nat.zero_le _) rfl hS3 hn3 trivial ⟨[], ds, [], ⟨_, hD3⟩, trivial, by rw [List.map_nil, List.append_nil]; exact hds, rfl⟩ kb3 hst3)
    exact codeAny_compStart_list loop (it.self _ _ _ hS3 loop)
  · exact noK hds
end
end Mine
end
section
open PySem.W
namespace Mine
section
variable {prog : Program} {w : World} {hb : Heap} {n : Nat} {sc : Scope} {nm : List Str}

theorem Kp.sameButNew {h h₁ h₂ : Heap} {a : Addr} (x : Kp h h₁) (hs : Heap.SameBut a h₁ h₂) (ha : h.get? a = none) : Kp h h₂ := x.sameBut hs ha

theorem sim_comp {elt iter : Expr} {x : Str} {px : Pos} {ifs : List Expr} {scope : Scope} {pos : Pos} {itf : XFs} {t : TF} {f : XF} (cap : List Nat) (nmc : List Str)
    (hit : SimV prog w hb n sc nm iter itf) (ht : SimIfs prog w hb n (relS scope sc) nmc ifs t) (hf : SimE prog w hb n (relS scope sc) nmc elt f)
    (ok : compB sc nm nmc cap scope [x] = true := by decide +kernel)
    (hfs : ∀ env x, foldedSetIterable iter env x = pure x := by intro _ _; rfl) :
    SimE prog w hb n sc nm (.ListComp elt [⟨.Name x px, iter, ifs, 0⟩] scope pos) (xComp cap itf t f) := by
  intro env Z α A s mem sl v Q E hsc rm st hv hQ
  simp only [xComp, Option.map_eq_some_iff] at hv
  obtain ⟨ds, hds, rfl⟩ := hv
  rw [eval_ListComp]
  refine comp_core (use := none) (CompOk.of ok) hit ht hf hfs hsc rm st hds fun D C h tk m hC hDC hn k hs rp => ?_
  refine ⟨m, hn, fun h' hsb => ?_⟩
  replace hsb : Heap.SameBut C h h' := hsb
  have hbC : hb.get? C = none := by cases q : hb.get? C with | none => rfl | some o => have := st.stays C o q; exact nos hC this
  exact hQ _ h' tk (RP.mv (Mv.sameBut_ns hn hsb) _ _ rp) (k.sameBut hsb hC) (fun b o e => (hsb.2 b (fun q => by rw [q, hbC] at e; exact noK e)).trans (hs b o e))

/- the comprehension's own variables are let go: nothing of the frame's is touched -/
theorem st_new {h h' : Heap} {env : Env} {A : Around} {Z α : List Addr} {mem : Mem} {sl : Slots} {C : Addr} {m : Str → Option Value} (st : St prog w hb env nm Z α mem sl h) (bd : Bd hb A h Z env) (hn : h.Ns C m) (hs : Heap.SameBut C h h')
    (hCZ : C ∉ Z) (hCL : C ≠ env.locals) (hbC : hb.get? C = none) : St prog w hb env nm Z α mem sl h' ∧ Bd hb A h' Z env := by
  have mv : Mv h Z h' Z := .sameBut_ns hn hs
  have hc : ∀ c v, h.IsCell c v → h'.IsCell c v := fun c v x => x.sameBut hs (fun q => by
    subst q
    obtain ⟨o, e, d⟩ := x
    obtain ⟨o', es, ep, e', d', _⟩ := hn
    obtain rfl := soK (e.symm.trans e'); rw [d] at d'; cases d')
  refine ⟨⟨st.fm.mv mv (List.prefix_refl _) (fun m' q => q.sameBut hs (Ne.symm hCL)) hc, st.me.mv mv fun a ha o e => (hs.2 a (fun q => hCZ (q ▸ ha))).trans e, fun b o e => (hs.2 b (fun q => by rw [q, hbC] at e; exact noK e)).trans (st.stays b o e)⟩,
    ⟨bd.loc, bd.locZ, bd.fr, bd.top, fun x c h1 h2 => (let ⟨⟨v, i⟩, r⟩ := bd.cel x c h1 h2; ⟨⟨v, hc c v i⟩, r⟩), bd.has, bd.apart, bd.nofree⟩⟩

/- y = [..] where y is a local of the frame -/
theorem sim_setc {elt iter : Expr} {x y : Str} {px py : Pos} {ifs : List Expr} {scope : Scope} {pos spos : Pos} {itf : XFs} {t : TF} {f : XF} (i : Nat) (cap : List Nat) (nmc : List Str)
    (hit : SimV prog w hb n sc nm iter itf) (ht : SimIfs prog w hb n (relS scope sc) nmc ifs t) (hf : SimE prog w hb n (relS scope sc) nmc elt f)
    (hy : nm[i]? = some y := by rfl) (hnd : nm.Nodup := by decide +kernel) (hl : sc.names.lookup y = some .local := by decide +kernel) (hkd : sc.kind = .function := by rfl)
    (ok : compB sc nm nmc cap scope [x] = true := by decide +kernel)
    (hline : (py.line == pos.line) = true := by rfl) (hno : (scope.names.any fun (n, k) => n == y && (k == .local || k == .cell)) = false := by decide +kernel)
    (hfs : ∀ env x, foldedSetIterable iter env x = pure x := by intro _ _; rfl) :
    SimS prog w hb n sc nm (.Assign [.Name y py] (.ListComp elt [⟨.Name x px, iter, ifs, 0⟩] scope pos) spos) (sSet i (xComp cap itf t f)) := by
  intro env Z α A s mem sl o mem' sl' Q E hsc rm bd st hv hQ
  simp only [sSet, xComp, Option.map_eq_some_iff] at hv
  obtain ⟨_, ⟨ds, hds, rfl⟩, e⟩ := hv
  cases e
  have hsw : swapsWith (.ListComp elt [⟨.Name x px, iter, ifs, 0⟩] scope pos) (some (.Name y py)) spos.line env = pure true := by
    show (pure (env.blockKind == .function && env.kindOf y == some .local && py.line == pos.line && !(scope.names.any fun (n, k) => n == y && (k == .local || k == .cell))) : Sem Bool) = _
    rw [hno, hline]
    have h1 : env.kindOf y = some .local := by unfold Env.kindOf; rw [hsc]; exact hl
    have h2 : env.blockKind = .function := by unfold Env.blockKind; rw [hsc, hkd]; rfl
    rw [h1, h2]; rfl
  rw [exec_Assign_Name_used _ _ _ _ hsw]
  refine wpAny_bind (wpAny_standAt (wpAny_bind ?_))
  show wpAny _ A (do let _ ← comprehension (.ListComp elt [⟨.Name x px, iter, ifs, 0⟩] scope pos) scope env _ (newList []) false (eval iter env) (some (assign (.Name y py) env))) _ _ s
  refine wpAny_bind (wpAny_mono (comp_core (use := some (assign (.Name y py) env)) (Q := fun _ s' => Q .next s') (CompOk.of ok) hit ht hf hfs hsc rm st hds fun D C h tk m hC hDC hn k hs rp => ?_) (fun _ s' hq => wpAny_pure (wpAny_pure hq)) fun _ _ e => e)
  have hbC : hb.get? C = none := by cases q : hb.get? C with | none => rfl | some o => have := st.stays C o q; exact nos hC this
  have hCZ : C ∉ Z := fun q => by obtain ⟨o, e⟩ := st.me.zin C q; exact nos hC e
  obtain ⟨m0, hn0, _⟩ := id st.fm.vars
  have hCL : C ≠ env.locals := fun q => by obtain ⟨o, _, _, e, _⟩ := hn0; rw [← q, hC] at e; exact noK e
  show wpAny _ A (assign (.Name y py) env (.ref D)) _ _ _
  refine wpAny_assign_Name (store_sim (v := .p (.lst ds)) hy hnd (by unfold kindL; rw [hl]) hsc (bd.kp k) (st.kp k hs) rp fun h2 t2 nx2 bd2 st2 => ?_)
  have hno : ¬ Own env α C := by
    rintro (h | ⟨z, h1, h3⟩ | h)
    · exact hCL h
    · obtain ⟨⟨v, o, e, _⟩, _⟩ := bd.cel z C h1 h3; exact nos hC e
    · exact hCZ (st.me.sub C h)
  have hn2 : h2.Ns C m := by
    obtain ⟨o, es, ep, e, r⟩ := hn
    obtain ⟨sl1, e1, _⟩ := nx2.kb C o e hno
    exact ⟨_, es, ep, e1, r⟩
  refine ⟨m, hn2, fun h3 hsb => ?_⟩
  replace hsb : Heap.SameBut C h2 h3 := hsb
  obtain ⟨st3, bd3⟩ := st_new st2 bd2 hn2 hsb hCZ hCL hbC
  have nx1 := (Nx.of_kp (env := env) (Z := Z) (α := α) k).trans nx2
  refine hQ .next h3 t2 Z α ⟨fun a o e hna => ?_, nx1.mv.trans (Mv.sameBut_ns hn2 hsb) nx1.some, nx1.pre, nx1.new, nx1.zsub, fun b o e => ?_⟩ bd3 st3 rfl
  · obtain ⟨sl1, e1, q⟩ := nx1.kb a o e hna
    exact ⟨sl1, (hsb.2 a (fun q => by rw [q, hC] at e; exact noK e)).trans e1, q⟩
  · exact (nx1.fr b o e).trans fun o' e1 => .same ((hsb.2 b (fun q => by rw [q, hC] at e; exact noK e)).trans e1)
end
end Mine
end
section
open PySem.W
namespace Mine
section
variable {prog : Program} {w : World} {hb : Heap} {n : Nat} {sc : Scope} {nm : List Str}

/- def f(a, *p): the rest of the arguments is a tuple -/
noncomputable def varSem (k tot : Nat) (F : SF) : Mem → List V → Option V := fun _ vs => match vs with
  | v :: rest => (allP (v :: rest)).bind fun ds => if lenOk ds.length then (efSem k tot F [v, .p (.tup ds.tail)] []).map (·.1) else none
  | [] => none
theorem fn_var {f : Addr} {name : Str} {params : Arguments} {body : List Stmt} {scope : Scope} {F : SF} {p1 p2 : Str} (fn : FnIs hb f name params body scope) (hb1 : SimB prog w hb n scope nm body F)
    (hbind : ∀ pm cd doc (y : Value) (ys : List Value), bindArgs (docDef name params body scope pm cd doc) ⟨y :: ys, []⟩ = (do let t ← newTuple ys; pure [(p1, y), (p2, t)]))
    (hps : [p1, p2] <+: nm) (hnd : nm.Nodup) (hk : [p1, p2].all (kindL scope) = true) (hnf : scope.names.all (fun x => x.2 != .free) = true)
    (hco : scope.isCoroutine = false := by rfl) (hgen : scope.isGenerator = false := by rfl) (hkd : scope.kind = .function := by rfl) :
    BiSem prog w hb (n + 1) (.ref f) (varSem 2 nm.length F) := by
  intro Z α A s mem vs v ys Q E rm me hst hr hs hQ
  unfold varSem at hs
  split at hs
  · rename_i v1 rest
    simp only [Option.bind_eq_some_iff] at hs
    obtain ⟨ds, hds, hs⟩ := hs
    split at hs
    · rename_i hlen
      simp only [lenOk, decide_eq_true_eq] at hlen
      simp only [Option.map_eq_some_iff] at hs
      obtain ⟨⟨v', mem'⟩, hs, rfl⟩ := hs
      match ys, hr with
      | y :: ys, hr =>
        have rp := allP_rp hds hr
        match ds, rp, hds, hlen, hs with
        | d :: ds, rp, hds, hlen, hs =>
          obtain ⟨ob, pm, cd, doc, hob, hdata, hcd⟩ := fn.obj
          have e := rp.2.length
          have hs2 : hb.StaysIn (s.heap.push { cls := .type "tuple", data := .seq ys.toArray }) := stays_push hst _
          have k2 : Kp s.heap (s.heap.push { cls := .type "tuple", data := .seq ys.toArray }) := (Kp.refl _).push _
          have hv1 : v1 = .p d := by
            exact mapM_consK hds fun a r h1 _ e => by cases e; exact datV_at h1
          subst hv1
          have hv' : ∃ d', v' = .p d' := by
            unfold efSem at hs
            split at hs
            · simp only [Option.bind_eq_some_iff] at hs
              obtain ⟨⟨o, mF, sF⟩, _, hs⟩ := hs
              cases o with
              | ret v0 =>
                simp only [Option.map_eq_some_iff] at hs
                obtain ⟨v1, hv1, e⟩ := hs
                cases e
                exact frzV0 hv1
              | next => exact noK hs
              | brk => exact noK hs
              | cont => exact noK hs
            · exact noK hs
          obtain ⟨d', rfl⟩ := hv'
          refine wpAny_call ?_
          refine codeAny_call_function (by have := rm.dep; unfold recursionLimit; omega) (hst f ob hob) hdata hco hgen rfl (hcd.keeps hst) ?_
          rw [hbind pm cd doc y ys]
          refine wpAny_bind (wpAny_newTuple (wpAny_pure ?_) (by rw [sizeLine_eq]; simp at hlen; omega))
          refine newEnvC hkd ?_ fun env he s₁ X fc => ?_
          · intro x hx
            have hx1 : x.1 ∈ [p1, p2] := by
              rcases List.mem_cons.mp hx with rfl | hx
              · simp
              · rcases List.mem_cons.mp hx with rfl | hx
                · simp
                · cases hx
            rcases fn_kind hk x.1 hx1 with h | h
            · exact .inl h
            · obtain ⟨c, hc⟩ := cells_has scope.names (({ s with heap := s.heap.push { cls := .type "tuple", data := .seq ys.toArray } } : Shared).heap.objs.size + 1) [] (.inl h)
              exact .inr ⟨h, Option.isSome_iff_exists.mpr ⟨c, hc⟩⟩
          · subst he
            refine ⟨(fn.lim.keeps hs2).keeps X.toInCall.keep, codeAny_func ?_⟩
            obtain ⟨h₁, tk, rfl, _⟩ := X.done
            refine wpAny_mono (fn_body (f := f) (name := name) (cd := cd) (ps := [p1, p2]) (ys := [y, .ref s.heap.objs.size]) (Z := Z) (α := []) (A := A) (s := { s with heap := s.heap.push { cls := .type "tuple", data := .seq ys.toArray } }) (mem := []) (mem' := mem') (v := .p d') (Q := Q) hb1 hps hnd hk hnf hkd (rm.kp k2) ?_ hs2 ?_ hs ?_ (h₁ := h₁) (tk := tk) ⟨X.toInCall.ns, X.toInCall.keep, X.toInCall.fresh⟩ ⟨X.cell, X.apart, X.above⟩ fc) (fun _ _ x => x) (fun _ _ x => x.elim)
            · have me2 := me.kp k2
              exact ⟨rfl, List.nodup_nil, fun a ha => (by cases ha), fun a ha => (by cases ha), me2.zin, fun k a o h1 _ => by simp at h1⟩
            · refine ⟨RP.kp k2 _ _ rp.1, ?_, trivial⟩
              exact RP.newTup rp.2
            · intro y' h' tk' rv me' kb mv fr hs'
              exact hQ y' h' tk' rv (fun b o e => by
                obtain ⟨sl1, e1, q1⟩ := k2 b o e
                obtain ⟨sl2, e2, q2⟩ := kb b _ e1 (fun q => by cases q)
                exact ⟨sl2, e2, fun hc => (q2 hc).trans (q1 hc)⟩) hs'
    · exact noK hs
  · exact noK hs
end
end Mine
end
section
open PySem.W
namespace Mine
section
variable {prog : Program} {w : World} {hb : Heap} {n : Nat} {sc : Scope} {nm : List Str}

/- what is never reached -/
noncomputable def xNever : XF := fun _ _ => none
noncomputable def sNever : SF := fun _ _ => none
theorem sim_never {e : Expr} : SimE prog w hb n sc nm e xNever := by
  intro env Z α A s mem sl v Q E hsc rm st hf
  exact noK hf
theorem simS_never {c : Stmt} : SimS prog w hb n sc nm c sNever := by
  intro env Z α A s mem sl o mem' sl' Q E hsc rm bd st hf
  cases hf
noncomputable def semType : Mem → List V → Option V := fun _ vs => match vs with
  | [.p (.str _)] => some (.p (.ty "str"))
  | _ => none
theorem bi_type : BiSem prog w hb n (.type "type") semType := by
  intro Z α A s mem vs v ys Q E rm me hst hr hs hQ
  unfold semType at hs
  split at hs
  · obtain rfl := soK hs
    obtain ⟨a, rfl, ra⟩ := one_of hr
    simp only [RV, RP] at ra
    obtain ⟨t, rfl⟩ := ra
    exact call_type_of (typeIs_str _ _ _) (by decide) (hQ _ s.heap s.toks rfl (.refl _) hst)
  · exact noK hs
noncomputable def semIsB : Mem → List V → Option V := fun _ vs => match vs with
  | [.p (.str _), .p (.ty "bytes")] => some (.p (.bool false))
  | _ => none
theorem bi_isinstance : BiSem prog w hb n (.builtin "isinstance") semIsB := by
  intro Z α A s mem vs v ys Q E rm me hst hr hs hQ
  unfold semIsB at hs
  split at hs
  · obtain rfl := soK hs
    obtain ⟨a, b, rfl, ra, rb⟩ := two_of hr
    simp only [RV, RP] at ra rb
    obtain ⟨t, rfl⟩ := ra
    subst rb
    exact IsiPair.str_bytes (hQ _ s.heap _ rfl (.refl _) hst)
  · exact noK hs

/- a or b, as a value -/
noncomputable def xOr (a b : XF) : XF := fun mem sl => (a mem sl).bind fun x => (truV mem x).bind fun c => if c = true then some x else b mem sl
theorem sim_or {a b : Expr} {f g : XF} {pos : Pos} (ha : SimE prog w hb n sc nm a f) (hb' : SimE prog w hb n sc nm b g) : SimE prog w hb n sc nm (.BoolOp .Or [a, b] pos) (xOr f g) := by
  intro env Z α A s mem sl v Q E hsc rm st hf hQ
  simp only [xOr, Option.bind_eq_some_iff] at hf
  obtain ⟨x, hx, c, hc, hr⟩ := hf
  refine BoolOp_or (ha env Z α A s mem sl x _ _ hsc rm st hx fun y h1 t1 r1 k1 s1 => ?_)
  refine tru_sim (st.me.kp k1) r1 hc fun tk => ?_
  cases c with
  | true =>
    simp only [if_true] at hr ⊢
    obtain rfl := soK hr
    exact hQ y h1 tk r1 k1 s1
  | false =>
    simp only [Bool.false_eq_true, if_false] at hr ⊢
    refine BoolOp_one (hb' env Z α A { s with heap := h1, toks := tk } mem sl v _ _ hsc (rm.kp k1) (st.kp k1 s1) hr fun y2 h2 t2 r2 k2 s2 => ?_)
    exact hQ y2 h2 t2 r2 (k1.trans k2) s2

/- text * number -/
noncomputable def repS (x : Str) (k : Int) : Str := if k < 1 then Str.empty else if (k == 1 || x.length == 0) = true then x else ⟨(List.replicate k.toNat x.cps).foldl (· ++ ·) #[]⟩
noncomputable def xRep (a b : XF) : XF := fun mem sl => (a mem sl).bind fun x => (b mem sl).bind fun y => match x, y with
  | .p (.str s), .p (.int k) => if smallI k && decide (s.length * k.toNat ≤ 2 ^ 20) && decide ((repS s k).length ≤ 2 ^ 20) then some (.p (.str (repS s k))) else none
  | _, _ => none
theorem sim_rep {a b : Expr} {f g : XF} {pos : Pos} (ha : SimE prog w hb n sc nm a f) (hb' : SimE prog w hb n sc nm b g) : SimE prog w hb n sc nm (.BinOp a .Mult b pos) (xRep f g) := by
  intro env Z α A s mem sl v Q E hsc rm st hf hQ
  simp only [xRep, Option.bind_eq_some_iff] at hf
  obtain ⟨x, hx, y, hy, hr⟩ := hf
  refine wpAny_BinOp (ha env Z α A s mem sl x _ _ hsc rm st hx fun a1 h1 t1 r1 k1 s1 => ?_)
  refine hb' env Z α A _ mem sl y _ _ hsc (rm.kp k1) (st.kp k1 s1) hy fun a2 h2 t2 r2 k2 s2 => ?_
  split at hr
  · rename_i q k
    split at hr
    · rename_i hc
      obtain rfl := soK hr
      simp only [smallI, Bool.and_eq_true, decide_eq_true_eq] at hc
      simp only [RV, RP] at r1 r2
      obtain ⟨t, rfl⟩ := r1
      obtain ⟨u, rfl⟩ := r2
      refine _root_.PySem.P.mul_str (by simp only [Bool.or_eq_false_iff, decide_eq_false_iff_not]; omega) (fun h1 h2 => ?_) (fun h1 h2 => ?_) ?_
      · have hk : 1 ≤ k := by omega
        have hk2 : k ≤ 2 ^ 60 := by omega
        have : (q.length : Int) ≤ 2 ^ 20 := by
          have : q.length * 1 ≤ q.length * k.toNat := Nat.mul_le_mul_left _ (by omega)
          omega
        have h4 : (2 : Int) ^ 20 * k ≤ 2 ^ 63 - 1 ∨ (2 : Int) ^ 43 ≤ k := by omega
        intro hgt
        have hlk : (q.length : Int) * k ≤ 2 ^ 20 := by
          have := hc.1.2
          have e : ((q.length * k.toNat : Nat) : Int) = (q.length : Int) * k := by push_cast; rw [Int.toNat_of_nonneg (by omega)]
          omega
        have h5 : (2 ^ 63 - 1 : Int) / k < q.length := hgt
        have h6 := (Int.ediv_lt_iff_lt_mul (show 0 < k by omega)).mp h5
        omega
      · simp only [Builtin.Str.tooLong, decide_eq_false_iff_not]
        rw [sizeLine_eq]
        have := hc.1.2
        omega
      · have hrl := hc.2
        unfold repS at hrl
        split
        · rename_i hk
          refine ⟨by decide, hQ (.str _ _) h2 _ ?_ (k1.trans k2) s2⟩
          simp [RV, RP, repS, hk]
        · rename_i hk
          split
          · rename_i hk2
            refine hQ (.str _ _) h2 t2 ?_ (k1.trans k2) s2
            simp only [RV, RP, repS, if_neg hk, if_pos hk2]
            exact ⟨t, rfl⟩
          · rename_i hk2
            rw [if_neg hk, if_neg hk2] at hrl
            refine ⟨by rw [sizeLine_eq]; omega, hQ (.str _ _) h2 _ ?_ (k1.trans k2) s2⟩
            simp only [RV, RP, repS, if_neg hk, if_neg hk2]
            exact ⟨_, rfl⟩
    · exact noK hr
  · exact noK hr

/- list(x), new -/
noncomputable def nListOf (f : XFs) : XN := fun mem sl => (f mem sl).bind fun vs => match vs with
  | [v] => (derP mem v).bind fun d => match d with
    | .lst l => if lenOk l.length then some (.ml l) else none
    | _ => none
  | _ => none
theorem simN_listof {p pos : Pos} {e : Expr} {f : XFs} (G : GN hb "list" (.type "list")) (ha : SimEs prog w hb n sc nm [e] f)
    (hp : [e].all noStar = true := by rfl) (hx : sc.names.lookup ("list" : Str) = some .globalImplicit := by decide +kernel) : SimN prog w hb n sc nm (.Call (.Name "list" p) [e] [] pos) (nListOf f) := by
  intro env Z α A s mem sl o Q E hsc rm st hf hQ
  simp only [nListOf, Option.bind_eq_some_iff] at hf
  obtain ⟨vs, hvs, hf⟩ := hf
  split at hf
  · rename_i v
    simp only [Option.bind_eq_some_iff] at hf
    obtain ⟨d, hd, hf⟩ := hf
    split at hf
    · rename_i l
      split at hf
      · rename_i hlen
        obtain rfl := soK hf
        simp only [lenOk, decide_eq_true_eq] at hlen
        refine call_global G (keeps1_type _) ha hp hx hsc rm st hvs fun ys h1 t1 r1 k1 s1 => ?_
        obtain ⟨y, rfl, ry⟩ := one_of r1
        obtain ⟨a, ws, rfl, la, rl⟩ := derP_lst (st.me.kp k1) hd ry
        have e := rl.length
        obtain ⟨nn, g⟩ := id la
        refine call_list_seq a (.inl rfl) g rfl rfl (fun h' c' hk hnew => ?_) (by simp only [List.size_toArray]; rw [sizeLine_eq]; omega)
        replace hnew : h'.get? h1.objs.size = _ := hnew
        have k2 : Kp h1 h' := .of hk
        have mv : Mv h1 Z h' (h1.objs.size :: Z) := ⟨fun _ _ _ x => k2.lst x, fun _ _ x => k2.tup x, fun b hb' => by
          rcases List.mem_cons.mp hb' with rfl | hb'
          · exact .inr (Heap.get?_none_of_le (Nat.le_refl _))
          · exact .inl hb'⟩
        exact hQ h1.objs.size h' t1 k1.fresh ⟨ws, ⟨c', hnew⟩, RPs.mv mv _ _ rl⟩ (k1.trans k2) (fun b o e => hk b o (s1 b o e)) ⟨_, hnew⟩
      · exact noK hf
    · exact noK hf
  · exact noK hf
end
end Mine
end
section
open PySem.W
namespace Mine
section
variable {prog : Program} {w : World} {hb : Heap} {n : Nat} {sc : Scope} {nm : List Str}
theorem kind_issub_nested : builtinKind "issubclass.nested" = none := by decide +kernel
theorem plain_issub_nested : plainId "issubclass.nested" = true := by decide +kernel
theorem args_issub_nested (a b c : Value) : argsOk "issubclass.nested" ⟨[a, b, c], []⟩ := by unfold argsOk; with_unfolding_all rfl
theorem issub_str_self {dep : Int} {tk : Tok} : Meets (Builtin.«issubclass.nested» ⟨[.type "str", .type "str", .int dep tk], []⟩) (fun _ R s => R (.ok (.ret (.bool true))) s) := fun prog w A R s h => by
  have hm := F.isi_meta_str
  have hself := PySem.F.sub_str_str
  repeat (any_goals (first | assumption | (rw [if_pos hm]) | (rw [hself]) | wp_step))
theorem issub_str_tuple {A : Around} {E : Value → Shared → Prop} {s : Shared} {tp : Addr} {cs vs : List Value} {k : Nat} {tk : Tok} {Q : Fin → Shared → Prop} (htp : s.heap.get? tp = some { cls := .type "tuple", data := .seq vs.toArray k }) (hvs : vs = Value.type "str" :: cs)
    (hq : ∀ tk', Q (.done (.ret (.bool true))) { s with toks := tk' }) : wpAny (model prog w) A (Builtin.«issubclass.nested» ⟨[.type "str", .ref tp, .int 0 tk], []⟩) Q E s := by
  obtain ⟨h, g, d, t, os⟩ := s
  have hT2 : (⟨h, g, d, t, os⟩ : Shared).TypeIs (.ref tp) "tuple" := ⟨_, htp, rfl⟩
  have f1 := F.isi_sub_tuple
  repeat (any_goals (first | assumption | wp_step))
  refine wpAny_arrayLoop ?_
  simp only [Option.getD_some, List.toList_toArray]
  rw [hvs, List.forIn_cons]
  refine wpAny_bind (wpAny_bind (call_function_meets kind_issub_nested plain_issub_nested F.entry_issubclass_nested (args_issub_nested _ _ _) issub_str_self ?_))
  refine wpAny_bind (m := truthy (.bool true)) (wpAny_pure ?_)
  refine wpAny_bind (wpAny_pure (wpAny_pure (wpAny_pure ?_)))
  repeat (any_goals (first | assumption | wp_step))
  exact hq t
noncomputable def tyD : P → Option String
  | .ty x => some x
  | _ => none
theorem tyD_at {x : P} {t : String} (h : tyD x = some t) : x = .ty t := by
  unfold tyD at h
  split at h
  · rw [soK h]
  · exact noK h
noncomputable def hdTy (t : String) : List P → Option V
  | [] => none
  | x :: _ => (tyD x).bind fun u => if t = "str" ∧ u = "str" then some (.p (.bool true)) else none
noncomputable def semSub : Mem → List V → Option V := fun _ => two fun a b => (datV a).bind fun x => (tyD x).bind fun t => (datV b).bind fun y => (tupD y).bind fun l => hdTy t l
theorem bi_issub : BiSem prog w hb n (.builtin "issubclass") semSub := by
  intro Z α A s mem vs v ys Q E rm me hst hr hs hQ
  refine twoK (G := fun ys => wpAny (model prog w) A (call (.builtin "issubclass") ys) Q E s) hs hr fun a b _ _ e0 ra rb => bindK e0 fun x h1 e1 => bindK e1 fun t h2 e2 => bindK e2 fun y h3 e3 => bindK e3 fun l h4 e => ?_
  clear e3 e2 e1 e0
  obtain rfl := datV_at h1
  obtain rfl := datV_at h3
  obtain rfl := tyD_at h2
  obtain rfl := tupD_at h4
  cases l with
  | nil => exact noK e
  | cons x l =>
    refine bindK e fun u h5 e => iteK e fun hc e => ?_
    subst e
    obtain rfl := tyD_at h5
    obtain ⟨rfl, rfl⟩ := hc
    obtain rfl : _ = Value.type "str" := ra
    obtain ⟨tp, us, rfl, ⟨k, ht⟩, ru⟩ := rb
    cases us with
    | nil => exact ru.elim
    | cons u us =>
      obtain rfl : u = Value.type "str" := ru.1
      refine call_function_meets F.kind_issubclass F.plain_issubclass F.entry_issubclass (F.args_issubclass_2 _ _) (S := fun _ R s' => s' = s ∧ ∀ tk, R (.ok (.ret (.bool true))) { s with toks := tk }) (fun _ _ _ _ _ hs' => ?_) ⟨rfl, fun tk => hQ _ s.heap tk rfl (.refl _) hst⟩
      obtain ⟨rfl, hs'⟩ := hs'
      exact issubclass_outer (issub_str_tuple ht rfl fun tk => hs' tk)
end
end Mine
end
section
open PySem.W
namespace Mine
section
variable {prog : Program} {w : World} {hb : Heap} {n : Nat} {sc : Scope} {nm : List Str}

/- list * number, new -/
noncomputable def nMul (f g : XF) : XN := fun mem sl => (f mem sl).bind fun x => (g mem sl).bind fun y => match x, y with
  | .p (.lst l), .p (.int k) => if decide (0 ≤ k) && decide (k < 2 ^ 10) && decide (l.length < 2 ^ 10) && !l.isEmpty then some (.ml (List.replicate k.toNat l).flatten) else none
  | _, _ => none
theorem RPs.rep {h : Heap} {Z : List Addr} {l : List P} {vs : List Value} (r : RPs h Z l vs) : ∀ k : Nat, RPs h Z (List.replicate k l).flatten (List.replicate k vs).flatten
  | 0 => trivial
  | k + 1 => by simpa [List.replicate_succ] using r.append (RPs.rep r k)
theorem simN_mul {a b : Expr} {f g : XF} {pos : Pos} (ha : SimE prog w hb n sc nm a f) (hb' : SimE prog w hb n sc nm b g) : SimN prog w hb n sc nm (.BinOp a .Mult b pos) (nMul f g) := by
  intro env Z α A s mem sl o Q E hsc rm st hf hQ
  simp only [nMul, Option.bind_eq_some_iff] at hf
  obtain ⟨x, hx, y, hy, hf⟩ := hf
  split at hf
  · rename_i l k
    split at hf
    · rename_i hc
      obtain rfl := soK hf
      simp only [Bool.and_eq_true, decide_eq_true_eq, Bool.not_eq_true'] at hc
      refine wpAny_BinOp (ha env Z α A s mem sl _ _ _ hsc rm st hx fun a1 h1 t1 r1 k1 s1 => ?_)
      refine hb' env Z α A _ mem sl _ _ _ hsc (rm.kp k1) (st.kp k1 s1) hy fun a2 h2 t2 r2 k2 s2 => ?_
      have r1' := r1.kp k2
      simp only [RV, RP] at r1' r2
      obtain ⟨ad, vs, rfl, la, hz, rp⟩ := r1'
      obtain ⟨u, rfl⟩ := r2
      obtain ⟨q, hl⟩ := id la
      have e := rp.length
      have hne : vs.toArray.isEmpty = false := by
        have : vs ≠ [] := by rintro rfl; simp at e; subst e; simp at hc
        simpa using this
      have hsz : vs.toArray.size * k.toNat ≤ 2 ^ 24 := by
        have h1 : vs.length ≤ 2 ^ 10 := by omega
        have h2 : k.toNat ≤ 2 ^ 10 := by omega
        calc vs.toArray.size * k.toNat = vs.length * k.toNat := by simp
          _ ≤ 2 ^ 10 * 2 ^ 10 := Nat.mul_le_mul h1 h2
          _ ≤ 2 ^ 24 := by decide
      refine wpAny_binaryOp_repeat_ref (T := "list") (U := "int") (by decide) ⟨_, hl, rfl⟩ (fun s' => typeIs_int s' k u) noFill_list_mul F.fills_int_mul F.slot_int_rmul repeat_list F.slot_int_index.lookup
        (call_meets F.slot_int_rmul (typeIs_int _ k u) F.entry_int_rmul (F.args_int_rmul_2 _ _) (int___rmul___int_list k u ad vs.toArray q)
          ⟨hl, rfl, ⟨_, hl, rfl⟩, call_meets F.slot_list_mul ⟨_, hl, rfl⟩ F.entry_list_mul (F.args_list_mul_2 _ _)
            (AutoListH.list___mul___list_int_3 ad vs.toArray q k u (by simp [Builtin.List.listFitsIndex]; omega) (by omega) (by simp [Builtin.List.listTooLong, sizeLine]; simp at hsz; omega))
            ⟨hl, ?_⟩⟩)
      have k12 := k1.trans k2
      rw [hne]
      simp only [Bool.false_eq_true, if_false, listMul_foldl]
      refine hQ h2.objs.size _ t2 k12.fresh ⟨(List.replicate k.toNat vs).flatten, ⟨0, ?_⟩, RPs.mv Mv.fresh _ _ (rp.rep k.toNat)⟩ (k12.push _) (stays_push s2 _) ⟨_, Heap.get?_push_size _ rfl⟩
      simpa using Heap.get?_push_size h2 (o := { cls := .type "list", data := .seq (List.replicate k.toNat vs).flatten.toArray }) rfl
    · exact noK hf
  · exact noK hf
end
end Mine
end
section
open PySem.W
open AutoSeq1 (wpAny_loadPart')
namespace Mine
section
variable {prog : Program} {w : World} {hb : Heap} {n : Nat} {sc : Scope} {nm : List Str}

theorem nextOf_tuple_item {A : Around} {E : Value → Shared → Prop} {s : Shared} {it t : Addr} {i : Nat} {items : Array Value} {x : Value} {Q : Value → Shared → Prop} (hit : s.heap.IsTupleIter it t i)
    (ht : s.heap.IsTuple t items) (hx : items[i]? = some x)
    (hQ : ∀ h', h'.IsTupleIter it t (i + 1) → Heap.SameBut it s.heap h' → Q x { s with heap := h' }) :
    wpAny (model prog w) A (Builtin.SmallTypes.nextOf (.ref it)) Q E s := by
  obtain ⟨o, ho, hc, hd⟩ := id hit
  obtain ⟨ol, hol, _, nl, hdl⟩ := ht
  unfold Builtin.SmallTypes.nextOf
  refine wpAny_bind (wpAny_callSpecial?_slot (name := Str.ofString "__next__") hit.typeIs F.slot_tuple_iterator_next
    (wpAny_call_entry F.slot_tuple_iterator_next hit.typeIs F.entry_tuple_iterator_next ?_ (F.args_tuple_iterator_next_1 _)))
  show wpAny _ _ (field (.ref it) 0 >>= _) _ _ s
  refine wpAny_bind (wpAny_field ho hd (x := .ref t) rfl ?_)
  show wpAny _ _ (if (Value.ref t == Value.none) = true then _ else _) _ _ s
  rw [if_neg (show ¬ ((Value.ref t == Value.none) = true) from Bool.false_ne_true)]
  show wpAny _ _ (field (.ref it) 1 >>= _) _ _ s
  refine wpAny_bind (wpAny_field ho hd (x := .int i 0) rfl ?_)
  show wpAny _ _ (seqItems? (.ref t) >>= _) _ _ s
  refine wpAny_bind (wpAny_seqItems hol hdl ?_)
  simp only [Int.toNat_natCast, hx]
  refine wpAny_bind (wpAny_setField ho hd (by simp) (wpAny_pure ⟨x, rfl, wpAny_pure (hQ _ ?_ (Heap.SameBut.update ..))⟩))
  exact ⟨_, Heap.get?_update_self _ ho (Obj.isFreed_of_fields (Obj.data_mapFields hd _)), (Obj.cls_mapFields ..).trans hc, by
    rw [Obj.data_mapFields hd]; simp [rawInt]⟩
theorem nextOf_tuple_end {A : Around} {E : Value → Shared → Prop} {s : Shared} {it t : Addr} {i : Nat} {items : Array Value} {Q : Value → Shared → Prop} (hh : A.handled = none) (hit : s.heap.IsTupleIter it t i)
    (ht : s.heap.IsTuple t items) (hx : items[i]? = none)
    (hE : ∀ h' e, Heap.ExtBut it s.heap h' → (∃ o, h'.get? e = some o ∧ o.cls = .type "StopIteration") → E (.ref e) { s with heap := h' }) :
    wpAny (model prog w) A (Builtin.SmallTypes.nextOf (.ref it)) Q E s := by
  obtain ⟨o, ho, hc, hd⟩ := id hit
  obtain ⟨ol, hol, _, nl, hdl⟩ := ht
  unfold Builtin.SmallTypes.nextOf
  refine wpAny_bind (wpAny_callSpecial?_slot (name := Str.ofString "__next__") hit.typeIs F.slot_tuple_iterator_next
    (wpAny_call_entry F.slot_tuple_iterator_next hit.typeIs F.entry_tuple_iterator_next ?_ (F.args_tuple_iterator_next_1 _)))
  show wpAny _ _ (field (.ref it) 0 >>= _) _ _ s
  refine wpAny_bind (wpAny_field ho hd (x := .ref t) rfl ?_)
  show wpAny _ _ (if (Value.ref t == Value.none) = true then _ else _) _ _ s
  rw [if_neg (show ¬ ((Value.ref t == Value.none) = true) from Bool.false_ne_true)]
  show wpAny _ _ (field (.ref it) 1 >>= _) _ _ s
  refine wpAny_bind (wpAny_field ho hd (x := .int i 0) rfl ?_)
  show wpAny _ _ (seqItems? (.ref t) >>= _) _ _ s
  refine wpAny_bind (wpAny_seqItems hol hdl ?_)
  simp only [Int.toNat_natCast, hx]
  refine wpAny_bind (wpAny_rule (wpAny_bind (wpAny_setField ho hd (by simp) ?_)))
  show wpAny _ _ (newExc (.type "StopIteration") [] >>= _) _ _ _
  refine wpAny_bind ?_
  simp only [newExc, newTuple]
  refine wpAny_bind (wpAny_newObj_type ?_ (by size_fits))
  refine wpAny_bind (m := firstArgMember _ _) (wpAny_of_eq (a := Value.none) (by first | rfl | (simp only [firstArgMember]; rfl)) ?_)
  refine wpAny_newObj_type ?_ (by size_fits)
  simp only [raiseNew]
  refine wpAny_bind (wpAny_handled ?_)
  first | rw [show A.in1.handled = none from hh] | rw [hh]
  refine wpAny_bind (wpAny_pure (wpAny_throw ?_))
  exact hE _ _ (((Heap.SameBut.update ..).extBut.push _).push _) ⟨_, Heap.get?_push_size _ rfl, rfl⟩
theorem drawsT {A : Around} (hh : A.handled = none) (it l : Addr) (hne : l ≠ it) (items : Array Value) :
    Draws prog w A it [it, l] items.size (fun i v => items[i]? = some v) (fun i h => h.IsTupleIter it l i ∧ h.IsTuple l items) where
  live := fun _ _ st => let ⟨o, ho, _⟩ := st.1; ⟨o, ho⟩
  frame := fun _ _ _ st hk => ⟨st.1.at fun o e => hk it (by simp) o e, st.2.at fun o e => hk l (by simp) o e⟩
  item := fun i s Q E hi st hQ => by
    refine nextOf_tuple_item st.1 st.2 (x := items[i]) (by simp [hi]) fun h' hit' hs' => ?_
    exact hQ _ h' s.toks (by simp [hi]) ⟨hit', st.2.extBut hs'.extBut hne⟩ hs'
  done := fun s Q E st hE => nextOf_tuple_end hh st.1 st.2 (by simp) hE

theorem pure_any {α : Type} {M : Model} {A : Around} {s : Shared} {Q : α → Shared → Prop} {E : Value → Shared → Prop} {x : α} (h : ∀ b, Q b s) : wpAny M A (pure x) Q E s := wpAny_pure (h x)
theorem meets_enum_newT (l : Addr) (items : Array Value) (n : Nat) :
    Meets (Builtin.«enumerate.__new__» ⟨[.type "enumerate", .ref l], []⟩) (fun _ R s => s.heap.get? l = some { cls := .type "tuple", data := .seq items n } ∧
      R (.ok (.ret (.ref (s.heap.push { cls := .type "tuple_iterator", data := .fields #[.ref l, .int 0 0] }).objs.size)))
        { s with heap := (s.heap.push { cls := .type "tuple_iterator", data := .fields #[.ref l, .int 0 0] }).push { cls := .type "enumerate", data := .fields #[.none, .bool false, .ref s.heap.objs.size, rawInt 0, .none, .none] } }) :=
  .of_wp fun prog w A R s h => by
    obtain ⟨hp, g, d, tk, os⟩ := s; obtain ⟨hl, h⟩ := h
    have hsub := sub_enumerate
    have hL : Heap.IsTuple (Shared.heap ⟨hp, g, d, tk, os⟩) l items := ⟨_, hl, rfl, n, rfl⟩
    wp_walk using wpAny_loadPart' hl
    refine wpAny_stack_any fun st => pure_any fun b => ?_
    cases b
    · wp_walk using wpAny_loadPart' hl, wpAny_pyIter_tuple hL
      exact ⟨_, rfl, h⟩
    · wp_walk using wpAny_loadPart' hl, wpAny_pyIter_tuple hL
      exact ⟨_, rfl, h⟩
theorem call_enum_tuple {A : Around} {E : Value → Shared → Prop} {s : Shared} {l : Addr} {items : Array Value} {n : Nat} {Q : Value → Shared → Prop} (hl : s.heap.get? l = some { cls := .type "tuple", data := .seq items n })
    (h : ∀ h', IsEnum h' (s.heap.objs.size + 1) s.heap.objs.size 0 .none → h'.IsTupleIter s.heap.objs.size l 0 → h'.objs.size = s.heap.objs.size + 2 →
      (∀ b o, s.heap.get? b = some o → h'.get? b = some o) → Q (.ref (s.heap.objs.size + 1)) { s with heap := h' }) :
    wpAny (model prog w) A (call (.type "enumerate") [.ref l]) Q E s := by
  refine callType_new F.called_enumerate (by decide) (F.typeCall_enumerate_1 _) (F.newCall_enumerate_1 _) (fun obj => F.args_object_init_2 obj _) F.entry_enumerate_new
    (meets_enum_newT l items n) ⟨hl, ?_⟩
  have hz : (s.heap.push { cls := .type "tuple_iterator", data := .fields #[.ref l, .int 0 0] }).objs.size = s.heap.objs.size + 1 := Heap.size_push ..
  show _ ∧ _
  rw [hz]
  have he : IsEnum ((s.heap.push { cls := .type "tuple_iterator", data := .fields #[.ref l, .int 0 0] }).push
      { cls := .type "enumerate", data := .fields #[.none, .bool false, .ref s.heap.objs.size, rawInt 0, .none, .none] }) (s.heap.objs.size + 1) s.heap.objs.size 0 .none := by
    have := Heap.get?_push_size (s.heap.push { cls := .type "tuple_iterator", data := .fields #[.ref l, .int 0 0] })
      (o := { cls := .type "enumerate", data := .fields #[.none, .bool false, .ref s.heap.objs.size, rawInt 0, .none, .none] }) rfl
    rw [hz] at this; exact this
  refine ⟨⟨_, he, rfl⟩, h _ he ⟨_, Heap.get?_push_of_some _ (Heap.get?_push_size _ rfl), rfl, rfl⟩ (by rw [Heap.size_push, hz]) fun b o x => Heap.get?_push_of_some _ (Heap.get?_push_of_some _ x)⟩

/- for i, x in enumerate(e) -/
noncomputable def seqD : P → Option (List P)
  | .lst l => some l
  | .tup l => some l
  | _ => none
noncomputable def oneO : List V → Option V
  | [] => none
  | v :: r => match r with
    | [] => some v
    | _ :: _ => none
theorem oneO_at {h : Heap} {Z α : List Addr} {vs : List V} {v : V} {ys : List Value} (e : oneO vs = some v) (r : RVs h Z α vs ys) : ∃ y, ys = [y] ∧ RV h Z α v y := by
  cases vs with
  | nil => exact noK e
  | cons x vs => cases vs with
    | nil => obtain rfl := soK e; exact one_of r
    | cons _ _ => exact noK e
noncomputable def gEnum (set : List V → Slots → Option Slots) (f : XFs) : XG := fun mem sl => (f mem sl).bind fun vs => (oneO vs).bind fun v => (datV v).bind fun d => (seqD d).map fun l => l.mapIdx fun i d sl => set [.p (.int (i : Nat)), .p d] sl
/- both kinds of source -/
theorem enum_it {ts : List Expr} {x1 : Nat} {tpos : Pos} {set : List V → Slots → Option Slots} (hts : SimAL prog w hb sc nm ts set) {env : Env} {Z α : List Addr} {A : Around} {s : Shared} {Q E : Value → Shared → Prop} {h2 : Heap} {a : Addr} {ws : List Value} {l : List P} {t2 : Nat} {e it : Addr}
    {S0 : Nat → Heap → Prop} (hsc : env.scope = sc) (rm : Rm hb n A s.heap) (k2 : Kp s.heap h2) (s2 : hb.StaysIn h2) (he : IsEnum h2 e it 0 .none) (hS : S0 0 h2) (D : Draws prog w A.in1 it [it, a] ws.length (fun i v => ws[i]? = some v) S0) (hei : e ≠ it) (hea : e ≠ a)
    (hen : s.heap.get? e = none) (hin : s.heap.get? it = none) (hSf : ∀ i h, S0 i h → (∃ o, h.get? it = some o ∧ o.cls ≠ .type "frame" ∧ ∃ vs, o.data = .fields vs) ∧ ∃ o, h.get? a = some o ∧ o.cls ≠ .type "frame")
    (ha : (∃ us, LstAt h2 a us ∧ a ∉ Z) ∨ ∃ us, TupAt h2 a us) (rp : RPs h2 Z l ws)
    (hQ : ∀ I h₁ tk fp wr P Md S, ItAt prog w hb A (.Tuple ts x1 tpos) s.heap Z I fp wr (l.mapIdx fun i d sl => set [.p (.int (i : Nat)), .p d] sl).length P Md S h₁ →
      (∀ i v (g : Slots → Option Slots) (Z₂ α₂ : List Addr) (s₂ : Shared) (mem₂ : Mem) (sl₂ sl₃ : Slots) (Q : Unit → Shared → Prop) (E : Value → Shared → Prop), P i v s₂.heap → Mv h₁ Z s₂.heap Z₂ → α <+: α₂ → (l.mapIdx fun i d sl => set [.p (.int (i : Nat)), .p d] sl)[i]? = some g → g sl₂ = some sl₃ →
        Bd hb A s₂.heap Z₂ env → St prog w hb env nm Z₂ α₂ mem₂ sl₂ s₂.heap →
        (∀ h' tk, Nx s₂.heap env Z₂ α₂ h' Z₂ α₂ → Bd hb A h' Z₂ env → St prog w hb env nm Z₂ α₂ mem₂ sl₃ h' → Q () { s₂ with heap := h', toks := tk }) →
        wpAny (model prog w) A (assign (.Tuple ts x1 tpos) env v) Q E s₂) →
      Q (.ref I) { s with heap := h₁, toks := tk }) : wpAny (model prog w) A (pyIter (.ref e)) Q E { s with heap := h2, toks := t2 } := by
  refine wpAny_pyIter_enum he ?_
  have W := (WalksT.enumerateD D e hei (by simp [hei, hea]) (by simp)).toU
  have el := rp.length
  have hn : ws.length = (l.mapIdx fun i d sl => set [.p (.int (i : Nat)), .p d] sl).length := by simp [el]
  rw [hn] at W
  refine hQ e h2 t2 _ _ _ _ _ ⟨KTurns.ofWalksU W, ⟨⟨_, he⟩, hS⟩, k2, s2, ?_, ?_, ?_, fun s' Q' E' hs' hq => W.self 0 s' Q' E' hs' hq, ?_⟩ ?_
  · intro b hb'
    rcases List.mem_cons.mp hb' with rfl | hb'
    · exact ⟨⟨_, he⟩, .inl hen⟩
    · rcases List.mem_cons.mp hb' with rfl | hb'
      · obtain ⟨⟨o, ho, _⟩, _⟩ := hSf 0 h2 hS
        exact ⟨⟨o, ho⟩, .inl hin⟩
      · obtain rfl := List.mem_singleton.mp hb'
        obtain ⟨_, o, ho, _⟩ := hSf 0 h2 hS
        exact ⟨⟨o, ho⟩, .inr ha⟩
  · intro b hb'
    rcases List.mem_cons.mp hb' with rfl | hb'
    · exact hen
    · obtain rfl := List.mem_singleton.mp hb'; exact hin
  · rintro i h ⟨⟨old, he'⟩, hs'⟩
    obtain ⟨⟨o, ho, hc, vs, hd⟩, o2, ho2, hc2⟩ := hSf i h hs'
    refine ⟨fun b hb' => ?_, fun b hb' => ?_⟩
    · rcases List.mem_cons.mp hb' with rfl | hb'
      · exact ⟨_, he', ty_ne (by decide)⟩
      · rcases List.mem_cons.mp hb' with rfl | hb'
        · exact ⟨o, ho, hc⟩
        · obtain rfl := List.mem_singleton.mp hb'; exact ⟨o2, ho2, hc2⟩
    · rcases List.mem_cons.mp hb' with rfl | hb'
      · exact ⟨_, _, he', rfl⟩
      · obtain rfl := List.mem_singleton.mp hb'; exact ⟨o, vs, ho, hd⟩
  · rintro i v h ⟨T, vals, rfl, hP, hT, ⟨x, ho'⟩, hs', hTe, hTi⟩
    obtain ⟨⟨o, ho, hc, vs, hd⟩, _⟩ := hSf _ h hs'
    intro b hb'
    rcases List.mem_cons.mp hb' with rfl | hb'
    · exact ⟨_, _, ho', rfl⟩
    · obtain rfl := List.mem_singleton.mp hb'; exact ⟨o, vs, ho, hd⟩
  · rintro i v g Z₂ α₂ s₂ mem₂ sl₂ sl₃ Q' E' ⟨T, vals, rfl, ⟨t, x, hx, rfl⟩, hT⟩ mv pre hg hgs bd st hQ'
    obtain ⟨d, hd, rd⟩ := rp.get' hx
    rw [List.getElem?_mapIdx, hd] at hg
    simp at hg
    subst hg
    refine tup_go (l := [.p (.int (i : Nat)), .p d]) hts hsc rm.hd bd st (vs := [.int i t, x]) hT ⟨?_, RP.mv mv _ _ rd, trivial⟩ hgs hQ'
    simp [RV, RP]
theorem simI_enum {ts : List Expr} {x1 : Nat} {tpos p pos : Pos} {e : Expr} {f : XFs} {set : List V → Slots → Option Slots} (G : GN hb "enumerate" (.type "enumerate")) (hts : SimAL prog w hb sc nm ts set) (ha : SimEs prog w hb n sc nm [e] f)
    (hp : [e].all noStar = true := by rfl) (hx : sc.names.lookup ("enumerate" : Str) = some .globalImplicit := by decide +kernel) :
    SimI prog w hb n sc nm (.Tuple ts x1 tpos) (.Call (.Name "enumerate" p) [e] [] pos) (gEnum set f) := by
  intro env Z α A s mem sl gs Q E hsc rm st hf hQ
  refine bindK hf fun vs hvs hf => bindK hf fun v hv hf => bindK hf fun d hd hf => mapK hf fun l hl hf => call_global G (keeps1_type _) ha hp hx hsc rm st hvs fun ys h1 t1 r1 k1 s1 => ?_
  subst hf
  obtain ⟨y, rfl, ry⟩ := oneO_at hv r1
  obtain rfl := datV_at hd
  cases d with
  | lst l1 =>
    obtain rfl := soK hl
    obtain ⟨a, ws, rfl, la, hz, rp⟩ := ry
    have hlt : a < h1.objs.size := la.lt
    refine call_enumerate_list la.isList fun h2 he hit hsz hk => ?_
    replace he : IsEnum h2 (h1.objs.size + 1) h1.objs.size 0 .none := he
    replace hit : h2.IsListIter h1.objs.size a 0 := hit
    replace hk : ∀ b o, h1.get? b = some o → h2.get? b = some o := hk
    have k12 : Kp h1 h2 := .of hk
    have hsz2 : ws.toArray.size = ws.length := by simp
    have D := Draws.list (prog := prog) (w := w) (A := A.in1) rm.hd h1.objs.size a (Nat.ne_of_lt hlt) ws.toArray
    rw [hsz2] at D
    have D' : Draws prog w A.in1 h1.objs.size [h1.objs.size, a] ws.length (fun i v => ws[i]? = some v) (fun i h => h.IsListIter h1.objs.size a i ∧ h.IsList a ws.toArray) := by simpa using D
    exact enum_it (s := s) (t2 := t1) hts hsc rm (k1.trans k12) (fun b o e => hk b o (s1 b o e)) he ⟨hit, (k12.lst la).isList⟩ D' (Nat.succ_ne_self _) (Nat.ne_of_gt (Nat.lt_succ_of_lt hlt)) (k1.none_of (Heap.get?_none_of_le (Nat.le_succ _))) k1.fresh
      (fun i h hs' => ⟨(let ⟨o, ho, hc, hd⟩ := hs'.1; ⟨o, ho, by rw [hc]; exact ty_ne (by decide), _, hd⟩), (let ⟨o, ho, hc, _⟩ := hs'.2; ⟨o, ho, by rw [hc]; exact ty_ne (by decide)⟩)⟩) (.inl ⟨ws, k12.lst la, hz⟩) (RPs.kp k12 _ _ rp) hQ
  | tup l1 =>
    obtain rfl := soK hl
    obtain ⟨a, ws, rfl, la, rp⟩ := ry
    obtain ⟨q, ga⟩ := id la
    have hlt : a < h1.objs.size := Heap.lt_size ga
    refine call_enum_tuple ga fun h2 he hit hsz hk => ?_
    replace he : IsEnum h2 (h1.objs.size + 1) h1.objs.size 0 .none := he
    replace hit : h2.IsTupleIter h1.objs.size a 0 := hit
    replace hk : ∀ b o, h1.get? b = some o → h2.get? b = some o := hk
    have k12 : Kp h1 h2 := .of hk
    have hsz2 : ws.toArray.size = ws.length := by simp
    have D := drawsT (prog := prog) (w := w) (A := A.in1) rm.hd h1.objs.size a (Nat.ne_of_lt hlt) ws.toArray
    rw [hsz2] at D
    have D' : Draws prog w A.in1 h1.objs.size [h1.objs.size, a] ws.length (fun i v => ws[i]? = some v) (fun i h => h.IsTupleIter h1.objs.size a i ∧ h.IsTuple a ws.toArray) := by simpa using D
    exact enum_it (s := s) (t2 := t1) hts hsc rm (k1.trans k12) (fun b o e => hk b o (s1 b o e)) he ⟨hit, (k12.tup la).isTuple⟩ D' (Nat.succ_ne_self _) (Nat.ne_of_gt (Nat.lt_succ_of_lt hlt)) (k1.none_of (Heap.get?_none_of_le (Nat.le_succ _))) k1.fresh
      (fun i h hs' => ⟨(let ⟨o, ho, hc, hd⟩ := hs'.1; ⟨o, ho, by rw [hc]; exact ty_ne (by decide), _, hd⟩), (let ⟨o, ho, hc, _⟩ := hs'.2; ⟨o, ho, by rw [hc]; exact ty_ne (by decide)⟩)⟩) (.inr ⟨ws, k12.tup la⟩) (RPs.kp k12 _ _ rp) hQ
  | _ => exact noK hl
end
end Mine
end
section
open PySem.W
namespace Mine
section
variable {prog : Program} {w : World} {hb : Heap} {n : Nat} {sc : Scope} {nm : List Str}

theorem turn_in (elt t0 i0 t1 i1 : Expr) (ifs : List Expr) (scope : Scope) (pos : Pos) (it acc : Value) (env : Env) :
    compTurn (.ListComp elt [⟨t0, i0, [], 0⟩, ⟨t1, i1, ifs, 0⟩] scope pos) 1 it acc env = (do
      standAt i1.pos
      match ← pyNext it with
      | none => pure (.done .next)
      | some v =>
        letOwnedTupleGo t1 it v
        assign t1 env v
        let mut ok := true
        for c in ifs do
          if ok then ok ← isTrue c env (eval c env)
        if ok then
          (do let _ ← call (.builtin "list.append") [acc, ← eval elt env])
        again (.compLoop (.ListComp elt [⟨t0, i0, [], 0⟩, ⟨t1, i1, ifs, 0⟩] scope pos) 1 it acc env)) := rfl
theorem turn_out (elt t0 i0 t1 i1 : Expr) (ifs : List Expr) (scope : Scope) (pos : Pos) (it acc : Value) (env : Env) :
    compTurn (.ListComp elt [⟨t0, i0, [], 0⟩, ⟨t1, i1, ifs, 0⟩] scope pos) 0 it acc env = (do
      standAt i0.pos
      match ← pyNext it with
      | none => pure (.done .next)
      | some v =>
        letOwnedTupleGo t0 it v
        assign t0 env v
        let x ← eval i1 env
        standAt i1.pos
        let x ← foldedSetIterable i1 env x
        let _ ← runOwn (.compStart (.ListComp elt [⟨t0, i0, [], 0⟩, ⟨t1, i1, ifs, 0⟩] scope pos) 1 (← holding [x] (pyIter x)) acc env) env
        again (.compLoop (.ListComp elt [⟨t0, i0, [], 0⟩, ⟨t1, i1, ifs, 0⟩] scope pos) 0 it acc env)) := rfl
theorem compLoop_outer {A : Around} {R : Result → Shared → Prop} {s : Shared} {elt t0 i0 t1 i1 : Expr} {ifs : List Expr} {scope : Scope} {pos : Pos} {it acc : Value} {env : Env} (I : Nat → Shared → Prop)
    (turn : ∀ n s, I n s → wpAny (model prog w) A (pyNext it) (fun r s₁ => match r with
      | none => R (.ok .next) s₁
      | some v => wpAny (model prog w) A (assign t0 env v) (fun _ s₂ => wpAny (model prog w) A (eval i1 env) (fun x s₃ => wpAny (model prog w) A (pyIter x) (fun it1 s₄ =>
          codeAny (model prog w) A (.compStart (.ListComp elt [⟨t0, i0, [], 0⟩, ⟨t1, i1, ifs, 0⟩] scope pos) 1 it1 acc env) (fun r s' => match r with | .ok f => ∃ m, m < n ∧ I m s' | .error e => cameBackBy (model prog w) A env (notedBy (model prog w) A env fun e s' => R (.error e) s') e s') s₄)
            (notedBy (model prog w) A env fun e s' => R (.error e) s') s₃) (notedBy (model prog w) A env fun e s' => R (.error e) s') s₂) (notedBy (model prog w) A env fun e s' => R (.error e) s') s₁) (notedBy (model prog w) A env fun e s' => R (.error e) s') s)
    (n : Nat) (h : I n s) (hs : ∀ x, foldedSetIterable i1 env x = pure x) (ht : ∀ v, letOwnedTupleGo t0 it v = pure () := by intro _; rfl) :
    codeAny (model prog w) A (.compLoop (.ListComp elt [⟨t0, i0, [], 0⟩, ⟨t1, i1, ifs, 0⟩] scope pos) 0 it acc env) R s := by
  refine codeAny_loop rfl I (fun n s hI => ?_) n h
  show wpAny _ A ((compTurn (.ListComp elt [⟨t0, i0, [], 0⟩, ⟨t1, i1, ifs, 0⟩] scope pos) 0 it acc env).onRaise (fun x => do noteFrame x env; theTreesLotGoes x)) _ _ s
  refine wpAny_noted ?_
  rw [turn_out]
  refine wpAny_bind (wpAny_standAt (wpAny_bind (wpAny_mono (turn n s hI) (fun r s₁ h₁ => ?_) fun _ _ h' => h')))
  cases r with
  | none => exact wpAny_pure h₁
  | some v =>
    refine wpAny_bind (wpAny_of_eq (ht v) ?_)
    refine wpAny_bind (wpAny_mono h₁ (fun _ s₂ h₂ => ?_) fun _ _ h' => h')
    refine wpAny_bind (wpAny_mono h₂ (fun x s₃ h₃ => ?_) fun _ _ h' => h')
    refine wpAny_bind (wpAny_standAt (wpAny_bind (wpAny_of_eq (hs x) ?_)))
    refine wpAny_bind (wpAny_holding (wpAny_mono h₃ (fun it1 s₄ h₄ => ?_) fun _ _ h' => h'))
    refine wpAny_bind (wpAny_runOwn (codeAny_mono h₄ fun r s' hr => ?_))
    cases r with
    | ok f => exact wpAny_pure ⟨rfl, hr⟩
    | error e => exact hr
theorem compStart_in {A : Around} {R : Result → Shared → Prop} {s : Shared} {elt t0 i0 t1 i1 : Expr} {ifs : List Expr} {scope : Scope} {pos : Pos} {it acc : Value} {env : Env}
    (h0 : codeAny (model prog w) A (.compLoop (.ListComp elt [⟨t0, i0, [], 0⟩, ⟨t1, i1, ifs, 0⟩] scope pos) 1 it acc env) R s)
    (h : wpAny (model prog w) A (pyIter it) (fun it' s' => codeAny (model prog w) A (.compLoop (.ListComp elt [⟨t0, i0, [], 0⟩, ⟨t1, i1, ifs, 0⟩] scope pos) 1 it' acc env) R s') (notedBy (model prog w) A env fun x s' => R (.error x) s') s) :
    codeAny (model prog w) A (.compStart (.ListComp elt [⟨t0, i0, [], 0⟩, ⟨t1, i1, ifs, 0⟩] scope pos) 1 it acc env) R s := by
  refine codeAny_of_tree ?_
  show wpAny _ _ ((compStart (.ListComp elt [⟨t0, i0, [], 0⟩, ⟨t1, i1, ifs, 0⟩] scope pos) 1 it acc env).onRaise (fun x => do noteFrame x env; standAt theWindowsPlace)) _ _ s
  refine wpAny_notedAt ?_
  unfold compStart
  show wpAny _ _ (ask >>= _) _ _ s
  refine wpAny_bind (wpAny_askSetting (wpAny_ite ?_))
  split
  · first
      | exact wpAny_bind (wpAny_pure (wpAny_pure (And.intro rfl h0)))
      | exact wpAny_pure (And.intro rfl h0)
  · first
      | exact wpAny_bind (wpAny_rule (wpAny_bind (wpAny_standAt (wpAny_bind (wpAny_mono h (fun it' s' h' => wpAny_pure (And.intro rfl h')) fun _ _ x => x)))))
      | (refine wpAny_bind (wpAny_rule ?_); show wpAny _ _ (standAt i1.pos >>= _) _ _ s; exact wpAny_bind (wpAny_standAt (wpAny_bind (wpAny_mono h (fun it' s' h' => wpAny_pure (And.intro rfl h')) fun _ _ x => x))))
end
end Mine
end
section
open PySem.W
namespace Mine
section
variable {prog : Program} {w : World} {hb : Heap} {n : Nat} {sc : Scope} {nm : List Str}

noncomputable def comp2Go (mem : Mem) (base : Slots) (it1 : XFs) (t : TF) (f : XF) : List V → Option (List P)
  | [] => some []
  | v :: vs => (it1 mem (base ++ [some v])).bind fun js => (compGo mem (base ++ [some v]) t f js).bind fun ds => (comp2Go mem base it1 t f vs).map (ds ++ ·)
noncomputable def comp2V (cap : List Nat) (it : XFs) (it1 : XFs) (t : TF) (f : XF) (mem : Mem) (sl : Slots) : Option (List P) := (capV cap sl).bind fun cv => (it mem sl).bind fun vs => (comp2Go mem (cv.map some) it1 t f vs).bind fun ds => if lenOk ds.length then some ds else none
noncomputable def xComp2 (cap : List Nat) (it it1 : XFs) (t : TF) (f : XF) : XF := fun mem sl => (comp2V cap it it1 t f mem sl).map fun ds => .p (.lst ds)

theorem comp2_core {elt iter i1 : Expr} {x0 x : Str} {p0 px : Pos} {ifs : List Expr} {scope : Scope} {pos pos' : Pos} {cap : List Nat} {nmc : List Str} {itf it1 : XFs} {t : TF} {f : XF} {use : Option (Value → Sem Unit)}
    (ok : CompOk sc nm nmc cap scope [x0, x]) (hit : SimV prog w hb n sc nm iter itf) (hit1 : SimV prog w hb n (relS scope sc) nmc i1 it1) (ht : SimIfs prog w hb n (relS scope sc) nmc ifs t) (hf : SimE prog w hb n (relS scope sc) nmc elt f)
    (hfs : ∀ env x, foldedSetIterable iter env x = pure x) (hfs1 : ∀ env x, foldedSetIterable i1 env x = pure x)
    {env : Env} {Z α : List Addr} {A : Around} {s : Shared} {mem : Mem} {sl : Slots} {ds : List P} {Q E : Value → Shared → Prop} (hsc : env.scope = sc) (rm : Rm hb n A s.heap) (st : St prog w hb env nm Z α mem sl s.heap)
    (hds : comp2V cap itf it1 t f mem sl = some ds)
    (hfin : ∀ D C h tk m, s.heap.get? C = none → D ≠ C → h.Ns C m → Kp s.heap h → hb.StaysIn h → RP h Z (.lst ds) (.ref D) → compPost (model prog w) A E use Q (.ref D) C (.ok .next) { s with heap := h, toks := tk }) :
    wpAny (model prog w) A (comprehension (.ListComp elt [⟨.Name x0 p0, iter, [], 0⟩, ⟨.Name x px, i1, ifs, 0⟩] scope pos) scope env pos' (newList []) false (eval iter env) use) Q E s := by
  refine bindK hds fun cv hcv hds => bindK hds fun vs hvs hds => bindK hds fun dsq hds hlq => ?_
  split at hlq
  · rename_i hlen
    cases hlq
    simp only [lenOk, decide_eq_true_eq] at hlen
    refine comp_setup (ob := { cls := .type "list", data := .seq ([] : List Value).toArray }) rfl ok hit hfs hsc rm st hcv hvs (fun s Q E h => wpAny_newObj_type h) rfl fun I h₁ tk fp wr Pr Md S C D h3 it hval L hn3 hD3 hS3 kb3 hst3 => ?_
    have X := L.lt ok hsc st hcv it hval
    have hxx : x0 ≠ x := fun q => by
      have : (nmc.drop cap.length).Nodup := (List.drop_sublist _ _).nodup ok.nd
      rw [ok.tgt, q] at this
      exact (List.nodup_cons.mp this).1 List.mem_cons_self
    suffices loop : codeAny (model prog w) A (.compLoop (.ListComp elt [⟨.Name x0 p0, iter, [], 0⟩, ⟨.Name x px, i1, ifs, 0⟩] scope pos) 0 (.ref I) (.ref D) (compEnvC scope (clAcc env scope.names []) C env)) (compPost (model prog w) A E use Q (.ref D) C) { s with heap := h3, toks := tk } from
      codeAny_compStart_list loop (it.self _ _ _ hS3 loop)
    refine compLoop_outer (LI hb s C D wr h₁ vs.length S (fun _ => True) (AcL D Z (fun i => comp2Go mem (cv.map some) it1 t f (vs.drop i)) ds)) (fun k s' li => ?_) vs.length
      (.mk 0 h3 tk _ rfl (Nat.zero_le _) rfl hS3 hn3 trivial ⟨[], ds, [], ⟨_, hD3⟩, trivial, hds, rfl⟩ kb3 hst3) (hfs1 _)
    refine loop_turn X AcL.keep AcL.at (fun h t' m hn ac kb hst => ?_) (fun _ _ h => h) (fun i hlt h5 t5 m hk hS5 hn5 _ ac kb5 hst5 hv st5 => ?_) li
    · obtain ⟨d, r, ys, la, rp, go, e⟩ := ac
      rw [List.drop_length] at go
      obtain rfl := soK go
      rw [List.append_nil] at e
      exact hfin D C h t' m L.cs L.dc hn (L.kp h kb) hst ⟨D, ys, rfl, la, L.dz, RPs.mv (Mv.weak fun a ha => List.mem_cons_of_mem _ ha) _ _ (e ▸ rp)⟩
    · obtain ⟨d, r, ys, la5, rp5, go, rfl⟩ := ac
      obtain ⟨y0, hmx, rv5⟩ := hv
      have k5 := L.kp h5 kb5
      rw [List.drop_eq_getElem_cons hlt] at go
      rw [← List.append_nil (cv.map some)] at go
      refine bindK go fun js hjs go => bindK go fun ds1 hds1 go => mapK go fun rest go2 e => ?_
      subst e
      have hcsc : (compEnvC scope (clAcc env scope.names []) C env).scope = relS scope sc := by show relabel scope env = _; rw [relS_eq, hsc]
      refine hit1 (.Name x px) (compEnvC scope (clAcc env scope.names []) C env) (D :: Z) α A { s with heap := h5, toks := t5 } mem _ js _ _ hcsc (rm.kp k5) st5 hjs fun I1 h6 t6 fp1 wr1 Pr1 Md1 S1 it6 hval6 => ?_
      refine (fun key => compStart_in key (it6.self _ _ _ it6.start key)) ?_
      have hC5 : ∀ {G : Prop}, h5.get? C = none → G := fun q => by obtain ⟨o, _, _, e, _⟩ := hn5; exact nos q e
      have hD5 : ∀ {G : Prop}, h5.get? D = none → G := fun q => by obtain ⟨_, e⟩ := la5; exact nos q e
      have hn6 := it6.kp.ns hn5
      have la6 := it6.kp.lst la5
      have hCs : ∀ o, h6.get? C = some o → ∀ vs n, o.data ≠ .seq vs n := fun o e us k d => by obtain ⟨o', es, ep, e', d', _⟩ := hn6; obtain rfl := soK (e.symm.trans e'); rw [d] at d'; cases d'
      have hkb : ∀ h, KB (BW wr1 C D) h6 h → ∀ b o, h5.get? b = some o → b ≠ C → b ≠ D → ∃ sl, h.get? b = some { o with slots := sl } ∧ (o.cls ≠ .type "frame" → sl = o.slots) := fun h kb b o e h1 h2 => by
        obtain ⟨sl1, e1, q1⟩ := it6.kp b o e
        obtain ⟨sl2, e2, q2⟩ := kb b _ e1 (by
          rintro (q | q | q)
          · exact nos (it6.wrs b q) e
          · exact h1 q
          · exact h2 q)
        exact ⟨sl2, e2, fun hc => (q2 hc).trans (q1 hc)⟩
      have L1 : LC hb Z (D :: Z) C D wr1 fp1 s.heap h6 := ⟨L.dc, fun q => hC5 (it6.wrs C q), fun q => hD5 (it6.wrs D q), fun q => by
          rcases (it6.fps C q).2 with h | ⟨us, ⟨k, e⟩, _⟩ | ⟨us, k, e⟩
          · exact hC5 h
          · exact hCs _ e _ _ rfl
          · exact hCs _ e _ _ rfl, fun q => by
          rcases (it6.fps D q).2 with h | ⟨us, _, hz⟩ | ⟨us, lt⟩
          · exact hD5 h
          · exact hz List.mem_cons_self
          · exact la6.ne_tup lt rfl, L.cs, L.ds, L.dz, L.bc, L.bd, fun b q => by
          cases e : hb.get? b with
          | none => rfl
          | some o => exact nos (it6.wrs b q) (hst5 b o e), fun h kb b o e => by
          obtain ⟨sl1, e1, q1⟩ := k5 b o e
          obtain ⟨sl2, e2, q2⟩ := hkb h kb b _ e1 (fun q => nos L.cs (q ▸ e)) fun q => nos L.ds (q ▸ e)
          exact ⟨sl2, e2, fun hc => (q2 hc).trans (q1 hc)⟩,
        fun h kb => mv_of (it6.at' 0 h6 it6.start).2 hCs (fun o e => ⟨List.mem_cons_self, fun q => by obtain ⟨k, e'⟩ := la6; obtain rfl := soK (e.symm.trans e'); exact absurd q (ty_ne (by decide))⟩) (fun a ha => .inl ha) kb⟩
      refine loop_last (cv := cv) (vs0 := [vs[i]]) (xs0 := [x0]) (xs1 := []) (K := fun m => m x0 = some y0) (iter := i1) (ds := d ++ ds1) (turn_in elt _ _ _ _ _ _ _)
        ⟨ok, hsc, st, hcv, L1, it6.turns, it6.at', hval6, fun m y h => (if_neg hxx).trans h, fun m h hm kb j x' v' h1 h2 => ?_, rfl⟩ ht hf rm (Nat.le_trans (by simp only [List.length_append]; omega) hlen) (fun h t' m' ys' hn' la' rp' kb' hst' => ?_)
        (k0 := js.length) (.mk 0 h6 t6 m rfl (Nat.zero_le _) rfl it6.start hn6 hmx ⟨d, ds1, ys, la6, RPs.kp it6.kp _ _ rp5, List.append_nil (cv.map some) ▸ hds1, rfl⟩ (fun a o e _ => ⟨o.slots, e, fun _ => rfl⟩) it6.stays)
      · match j, h1, h2 with
        | 0, h1, h2 => obtain rfl := soK h1; obtain rfl := soK h2; exact ⟨y0, hm, (rv5.kp it6.kp).mv (L1.mv h kb) (List.prefix_refl _)⟩
      · refine ⟨vs.length - (i + 1), by rw [hk]; exact Nat.sub_lt_sub_left hlt (Nat.lt_succ_self i), .mk (i + 1) h t' m' rfl hlt rfl (X.T.frame (i + 1) h5 h hS5 fun b hb' o e => ?_) hn' trivial ⟨d ++ ds1, rest, ys', la', rp', List.append_nil (cv.map some) ▸ go2, (List.append_assoc _ _ _).symm⟩ (fun a o e hna => ?_) hst'⟩
        · obtain ⟨o', e', hc⟩ := (X.hat _ _ hS5).1 b hb'
          obtain rfl := soK (e.symm.trans e')
          obtain ⟨sl1, e1, q1⟩ := hkb h kb' b o e (fun q => L.cf (q ▸ hb')) fun q => L.df (q ▸ hb')
          rw [q1 hc] at e1
          exact e1
        · obtain ⟨sl1, e1, q1⟩ := kb5 a o e hna
          obtain ⟨sl2, e2, q2⟩ := hkb h kb' a _ e1 (fun q => hna (.inr (.inl q))) fun q => hna (.inr (.inr q))
          exact ⟨sl2, e2, fun hc => (q2 hc).trans (q1 hc)⟩
  · exact noK hlq
/- y = [..] where y is a local of the frame -/
theorem sim_setc2 {elt iter i1 : Expr} {x0 x y : Str} {p0 px py : Pos} {ifs : List Expr} {scope : Scope} {pos spos : Pos} {itf it1 : XFs} {t : TF} {f : XF} (i : Nat) (cap : List Nat) (nmc : List Str)
    (hit : SimV prog w hb n sc nm iter itf) (hit1 : SimV prog w hb n (relS scope sc) nmc i1 it1) (ht : SimIfs prog w hb n (relS scope sc) nmc ifs t) (hf : SimE prog w hb n (relS scope sc) nmc elt f)
    (hy : nm[i]? = some y := by rfl) (hnd : nm.Nodup := by decide +kernel) (hl : sc.names.lookup y = some .local := by decide +kernel) (hkd : sc.kind = .function := by rfl)
    (ok : compB sc nm nmc cap scope [x0, x] = true := by decide +kernel)
    (hline : (py.line == pos.line) = true := by rfl) (hno : (scope.names.any fun (n, k) => n == y && (k == .local || k == .cell)) = false := by decide +kernel)
    (hfs : ∀ env x, foldedSetIterable iter env x = pure x := by intro _ _; rfl) (hfs1 : ∀ env x, foldedSetIterable i1 env x = pure x := by intro _ _; rfl) :
    SimS prog w hb n sc nm (.Assign [.Name y py] (.ListComp elt [⟨.Name x0 p0, iter, [], 0⟩, ⟨.Name x px, i1, ifs, 0⟩] scope pos) spos) (sSet i (xComp2 cap itf it1 t f)) := by
  intro env Z α A s mem sl o mem' sl' Q E hsc rm bd st hv hQ
  simp only [sSet, xComp2, Option.map_eq_some_iff] at hv
  obtain ⟨_, ⟨ds, hds, rfl⟩, e⟩ := hv
  cases e
  have hsw : swapsWith (.ListComp elt [⟨.Name x0 p0, iter, [], 0⟩, ⟨.Name x px, i1, ifs, 0⟩] scope pos) (some (.Name y py)) spos.line env = pure true := by
    show (pure (env.blockKind == .function && env.kindOf y == some .local && py.line == pos.line && !(scope.names.any fun (n, k) => n == y && (k == .local || k == .cell))) : Sem Bool) = _
    rw [hno, hline]
    have h1 : env.kindOf y = some .local := by unfold Env.kindOf; rw [hsc]; exact hl
    have h2 : env.blockKind = .function := by unfold Env.blockKind; rw [hsc, hkd]; rfl
    rw [h1, h2]; rfl
  rw [exec_Assign_Name_used _ _ _ _ hsw]
  refine wpAny_bind (wpAny_standAt (wpAny_bind ?_))
  show wpAny _ A (do let _ ← comprehension (.ListComp elt [⟨.Name x0 p0, iter, [], 0⟩, ⟨.Name x px, i1, ifs, 0⟩] scope pos) scope env _ (newList []) false (eval iter env) (some (assign (.Name y py) env))) _ _ s
  refine wpAny_bind (wpAny_mono (comp2_core (use := some (assign (.Name y py) env)) (Q := fun _ s' => Q .next s') (CompOk.of ok) hit hit1 ht hf hfs hfs1 hsc rm st hds fun D C h tk m hC hDC hn k hs rp => ?_) (fun _ s' hq => wpAny_pure (wpAny_pure hq)) fun _ _ e => e)
  have hbC : hb.get? C = none := by cases q : hb.get? C with | none => rfl | some o => have := st.stays C o q; exact nos hC this
  have hCZ : C ∉ Z := fun q => by obtain ⟨o, e⟩ := st.me.zin C q; exact nos hC e
  obtain ⟨m0, hn0, _⟩ := id st.fm.vars
  have hCL : C ≠ env.locals := fun q => by obtain ⟨o, _, _, e, _⟩ := hn0; rw [← q, hC] at e; exact noK e
  show wpAny _ A (assign (.Name y py) env (.ref D)) _ _ _
  refine wpAny_assign_Name (store_sim (v := .p (.lst ds)) hy hnd (by unfold kindL; rw [hl]) hsc (bd.kp k) (st.kp k hs) rp fun h2 t2 nx2 bd2 st2 => ?_)
  have hno : ¬ Own env α C := by
    rintro (h | ⟨z, h1, h3⟩ | h)
    · exact hCL h
    · obtain ⟨⟨v, o, e, _⟩, _⟩ := bd.cel z C h1 h3; exact nos hC e
    · exact hCZ (st.me.sub C h)
  have hn2 : h2.Ns C m := by
    obtain ⟨o, es, ep, e, r⟩ := hn
    obtain ⟨sl1, e1, _⟩ := nx2.kb C o e hno
    exact ⟨_, es, ep, e1, r⟩
  refine ⟨m, hn2, fun h3 hsb => ?_⟩
  replace hsb : Heap.SameBut C h2 h3 := hsb
  obtain ⟨st3, bd3⟩ := st_new st2 bd2 hn2 hsb hCZ hCL hbC
  have nx1 := (Nx.of_kp (env := env) (Z := Z) (α := α) k).trans nx2
  refine hQ .next h3 t2 Z α ⟨fun a o e hna => ?_, nx1.mv.trans (Mv.sameBut_ns hn2 hsb) nx1.some, nx1.pre, nx1.new, nx1.zsub, fun b o e => ?_⟩ bd3 st3 rfl
  · obtain ⟨sl1, e1, q⟩ := nx1.kb a o e hna
    exact ⟨sl1, (hsb.2 a (fun q => by rw [q, hC] at e; exact noK e)).trans e1, q⟩
  · exact (nx1.fr b o e).trans fun o' e1 => .same ((hsb.2 b (fun q => by rw [q, hC] at e; exact noK e)).trans e1)
end
end Mine
end
section
open PySem.W
open PySem.SeqAt PySem.MeetsSeq
open AutoSeq1 (wpAny_loadPart')
namespace Mine

theorem remove_loopAt (l : Addr) (items : Array Value) (n : Nat) (x : Value) (e : Value → Bool) (j : Nat) (hj : j < items.size) (hit : e items[j] = true) (k : Nat) (hs1 : items.size ≤ sizeLine) :
    ∀ i : Nat, j - i = k → i ≤ j → (∀ m (hm : m < items.size), i ≤ m → m < j → e items[m] = false) → Meets (Builtin.«list.remove.loop» ⟨[.ref l, x, rawInt i], []⟩)
      (fun A R s => s.heap.get? l = some { cls := .type "list", dict := none, data := .seq items n, slots := #[] } ∧ (∀ y, y ∈ items → EqAt A.in1 s y x (e y)) ∧ R (.ok (.ret .none)) { s with heap := s.heap.update l (Obj.mapSeq fun xs => xs.eraseIdxIfInBounds j) }) := by
  induction k with
  | zero =>
    intro i hk hij hno prog w A R s h
    obtain ⟨hp, g, d, tk, os⟩ := s; obtain ⟨hl, he, h⟩ := h
    have hij' : i = j := by omega
    subst hij'
    wp_walk using wpAny_loadPart' hl
    have hi : items[((i : Nat) : Int).toNat]? = some items[i] := by simp [hj]
    rw [hi]
    refine wpAny_bind (he _ (Array.getElem_mem hj) prog w _ _ ?_)
    rw [hit]
    have hz' : (items.eraseIdxIfInBounds i).size ≤ sizeLine + 1 := Nat.le_trans (size_erased items _) (Nat.le_succ_of_le hs1)
    wp_walk using (wpAny_updateSeq hl rfl (hz := hs1) (_hz' := hz')), wpAny_loadPart' hl
    simpa using h
  | succ k ih =>
    intro i hk hij hno prog w A R s h
    obtain ⟨hp, g, d, tk, os⟩ := s; obtain ⟨hl, he, h⟩ := h
    have hlt : i < items.size := by omega
    wp_walk using wpAny_loadPart' hl
    have hi : items[((i : Nat) : Int).toNat]? = some items[i] := by simp [hlt]
    have hc : ((i : Int) + 1) = ((i + 1 : Nat) : Int) := by push_cast; rfl
    rw [hi]
    refine wpAny_bind (he _ (Array.getElem_mem hlt) prog w _ _ ?_)
    rw [hno i hlt (Nat.le_refl _) (by omega)]
    wp_walk
    rw [hc]
    exact ⟨plainId_quiet plain_remove_loop _, codeAny_builtin entry_remove_loop (by
      rw [Around.under_plainId plain_remove_loop _]
      exact ih (i + 1) (by omega) (by omega) (fun m hm h1 h2 => hno m hm (by omega) h2) prog w A R _ ⟨hl, he, h⟩)⟩
theorem list_removeAt (l : Addr) (items : Array Value) (n : Nat) (x : Value) (e : Value → Bool) (j : Nat) (hj : j < items.size)
    (hit : e items[j] = true) (hno : ∀ m (hm : m < items.size), m < j → e items[m] = false) (hs1 : items.size ≤ sizeLine) :
    Meets (Builtin.«list.remove» ⟨[.ref l, x], []⟩)
      (fun A R s => s.heap.get? l = some { cls := .type "list", dict := none, data := .seq items n, slots := #[] } ∧ (∀ y, y ∈ items → EqAt A.in1 s y x (e y)) ∧ R (.ok (.ret .none)) { s with heap := s.heap.update l (Obj.mapSeq fun xs => xs.eraseIdxIfInBounds j) }) := by
  intro prog w A R s h
  obtain ⟨hp, g, d, tk, os⟩ := s; obtain ⟨hl, he, h⟩ := h
  wp_walk using wpAny_loadPart' hl
  exact ⟨plainId_quiet plain_remove_loop _, codeAny_builtin entry_remove_loop (by
    rw [Around.under_plainId plain_remove_loop _]
    exact remove_loopAt l items n x e j hj hit _ hs1 0 rfl (Nat.zero_le _) (fun m hm _ h2 => hno m hm h2) prog w A R _ ⟨hl, he, h⟩)⟩
theorem remove_loop_noneAt (l : Addr) (items : Array Value) (n : Nat) (x : Value) (e : Value → Bool) (hno : ∀ m (hm : m < items.size), e items[m] = false) (k : Nat) :
    ∀ i : Nat, items.size - i = k → Meets (Builtin.«list.remove.loop» ⟨[.ref l, x, rawInt i], []⟩)
      (fun A R s => s.heap.get? l = some { cls := .type "list", dict := none, data := .seq items n, slots := #[] } ∧ (∀ y, y ∈ items → EqAt A.in1 s y x (e y)) ∧ raisesNew "ValueError" A R s) := by
  induction k with
  | zero =>
    intro i hk prog w A R s h
    obtain ⟨hp, g, d, tk, os⟩ := s; obtain ⟨hl, he, h⟩ := h
    wp_walk using wpAny_loadPart' hl
    have hi : items[((i : Nat) : Int).toNat]? = none := by simp; omega
    rw [hi]
    wp_walk
    exact_raiseError plainExc_ValueError h.1 h.2
  | succ k ih =>
    intro i hk prog w A R s h
    obtain ⟨hp, g, d, tk, os⟩ := s; obtain ⟨hl, he, h⟩ := h
    have hlt : i < items.size := by omega
    wp_walk using wpAny_loadPart' hl
    have hi : items[((i : Nat) : Int).toNat]? = some items[i] := by simp [hlt]
    have hc : ((i : Int) + 1) = ((i + 1 : Nat) : Int) := by push_cast; rfl
    rw [hi]
    refine wpAny_bind (he _ (Array.getElem_mem hlt) prog w _ _ ?_)
    rw [hno i hlt]
    wp_walk
    rw [hc]
    exact ⟨plainId_quiet plain_remove_loop _, codeAny_builtin entry_remove_loop (by
      rw [Around.under_plainId plain_remove_loop _]
      exact ih (i + 1) (by omega) prog w A R _ ⟨hl, he, h⟩)⟩
theorem list_remove_noneAt (l : Addr) (items : Array Value) (n : Nat) (x : Value) (e : Value → Bool) (hno : ∀ m (hm : m < items.size), e items[m] = false) :
    Meets (Builtin.«list.remove» ⟨[.ref l, x], []⟩)
      (fun A R s => s.heap.get? l = some { cls := .type "list", dict := none, data := .seq items n, slots := #[] } ∧ (∀ y, y ∈ items → EqAt A.in1 s y x (e y)) ∧ raisesNew "ValueError" A R s) := by
  intro prog w A R s h
  obtain ⟨hp, g, d, tk, os⟩ := s; obtain ⟨hl, he, h⟩ := h
  wp_walk using wpAny_loadPart' hl
  exact ⟨plainId_quiet plain_remove_loop _, codeAny_builtin entry_remove_loop (by
    rw [Around.under_plainId plain_remove_loop _]
    exact remove_loop_noneAt l items n x e hno _ 0 rfl prog w A R _ ⟨hl, he, h⟩)⟩
end Mine
end
section
open PySem.W
open PySem.SeqAt PySem.MeetsSeq
namespace Mine
section
variable {prog : Program} {w : World} {hb : Heap} {n : Nat} {sc : Scope} {nm : List Str}

theorem slots_kp {h h' : Heap} {fs : List Env} (fc : FrC h fs) (x : Heap.SlotsOnly (fs.filterMap (·.frame)) h h') : Kp h h' := fun b o e => by
  by_cases hb' : b ∈ fs.filterMap (·.frame)
  · obtain ⟨sl, e'⟩ := x.2.2 b o e
    refine ⟨sl, e', fun hc => ?_⟩
    obtain ⟨env, he, hL⟩ := List.mem_filterMap.mp hb'
    obtain ⟨o', es, ep, eo, hcc, _⟩ := fc env he b hL
    obtain rfl := soK (e.symm.trans eo)
    exact absurd hcc hc
  · exact ⟨o.slots, (x.2.1 b hb').trans e, fun _ => rfl⟩
/- an exception in flight: noted, the older objects kept -/
structure ExAt (hb h0 h : Heap) (e : Addr) (X : String) : Prop where
  kp : Kp h0 h
  stays : hb.StaysIn h
  obj : ∃ oe vs T oT ts, h.get? e = some oe ∧ oe.cls = .type X ∧ oe.data = .fields vs ∧ vs[1]? = some (.ref T) ∧ h.get? T = some oT ∧ oT.data = .fields ts ∧ 3 < ts.size ∧ h0.get? T = none
theorem note_sim {A : Around} {E : Value → Shared → Prop} {s : Shared} {env : Env} {outer : List Env} {L e : Addr} {oe : Obj} {vs : Array Value} {h0 : Heap} {X : String} {Q : Unit → Shared → Prop}
    (hfr : A.frames = some (env :: outer)) (hl : s.heap.FunFrames hb (env :: outer)) (fc : FrC s.heap (env :: outer)) (hf : env.frame = some L)
    (he : s.heap.get? e = some oe) (hX : oe.cls = .type X) (hd : oe.data = .fields vs) (h1 : vs[1]? = some .none) (k : Kp h0 s.heap) (hst : hb.StaysIn s.heap) (hen : h0.get? e = none) (hsb : hb.StaysIn h0)
    (hQ : ∀ h2, ExAt hb h0 h2 e X → Q () { s with heap := h2 }) : wpAny (model prog w) A (noteFrame (.ref e) env) Q E s := by
  have hsz : 1 < vs.size := (Array.getElem?_eq_some_iff.mp h1).1
  have hene : e ∉ (env :: outer).filterMap (·.frame) := fun hm => by
    obtain ⟨_, o, ho, hnf⟩ := hl.mem hm
    rw [he] at ho; injection ho with ho; subst ho; exact hnf vs hd
  have hbe : hb.get? e = none := by cases q : hb.get? e with | none => rfl | some o => have := hsb e o q; exact nos hen this
  unfold noteFrame
  simp only [hf]
  refine wpAny_bind (wpAny_field he hd h1 ?_)
  rw [if_neg (by decide)]
  refine wpAny_bind (wpAny_frameOf_fun hfr hl hf fun h₁ hs₁ => ?_)
  refine wpAny_bind (wpAny_entryPlaceOf fun pl hpl => ?_)
  unfold EntryCells.newEntry newFields
  refine wpAny_bind (wpAny_newObj_type ?_ (hpl.sizeOk5 _ _ _ _ _))
  have k1 : Kp s.heap h₁ := slots_kp fc hs₁
  have he₁ : h₁.get? e = some oe := (hs₁.2.1 e hene).trans he
  have he₂ := Heap.get?_push_of_some (h := h₁) { cls := .type "traceback", dict := none, data := .fields ([Value.none, .ref L, .none, rawInt L, .none] ++ (if pl.isEmpty then List.replicate 6 Value.none else pl)).toArray } he₁
  refine wpAny_setField he₂ hd hsz ?_
  have hTe : h₁.objs.size ≠ e := Nat.ne_of_gt (Heap.lt_size he₁)
  have hd₃ := Obj.data_mapFields hd (·.setIfInBounds 1 (Value.ref h₁.objs.size))
  have he₃ := Heap.get?_update_self (Obj.mapFields (·.setIfInBounds 1 (Value.ref h₁.objs.size))) he₂ (Obj.isFreed_of_fields hd₃)
  have hT₃ := (Heap.get?_update_other (h₁.push { cls := .type "traceback", dict := none, data := .fields ([Value.none, .ref L, .none, rawInt L, .none] ++ (if pl.isEmpty then List.replicate 6 Value.none else pl)).toArray })
    (Obj.mapFields (·.setIfInBounds 1 (Value.ref h₁.objs.size))) (Ne.symm hTe)).trans (Heap.get?_push_size h₁ rfl)
  have keep : ∀ b o, b ≠ e → h₁.get? b = some o → ((h₁.push { cls := .type "traceback", dict := none, data := .fields ([Value.none, .ref L, .none, rawInt L, .none] ++ (if pl.isEmpty then List.replicate 6 Value.none else pl)).toArray }).update e (Obj.mapFields (·.setIfInBounds 1 (Value.ref h₁.objs.size)))).get? b = some o := fun b o hbe' hb' => by
    rw [Heap.get?_update_other _ _ (Ne.symm hbe')]
    exact Heap.get?_push_of_some _ hb'
  refine hQ _ ⟨fun b o eb => ?_, fun b o eb => ?_, _, _, h₁.objs.size, _, _, he₃, (Obj.cls_mapFields _ _).trans hX, hd₃, by simp [hsz], hT₃, rfl, by simp only [List.size_toArray, List.length_append, List.length_cons, List.length_nil] <;> omega, ?_⟩
  · obtain ⟨sl1, e1, q1⟩ := (k.trans k1) b o eb
    exact ⟨sl1, keep b _ (fun q => by rw [q, hen] at eb; exact noK eb) e1, q1⟩
  · have h2 := hs₁.2.1 b (fun hm => by exact nos ((hl.mem hm).1) eb)
    exact keep b o (fun q => by rw [q, hbe] at eb; exact noK eb) (h2.trans (hst b o eb))
  · exact (k.trans k1).fresh
theorem flight_sim {A : Around} {E : Value → Shared → Prop} {s : Shared} {e : Addr} {h0 : Heap} {X : String} {Q : Unit → Shared → Prop} (x : ExAt hb h0 s.heap e X) (hen : h0.get? e = none) (hsb : hb.StaysIn h0) (hQ : ∀ h2, ExAt hb h0 h2 e X → Q () { s with heap := h2 }) :
    wpAny (model prog w) A (setFlight (.ref e) none) Q E s := by
  obtain ⟨oe, vs, T, oT, ts, he, hX, hd, h1, hT, hdT, h3, hTn⟩ := x.obj
  refine wpAny_setFlight_none he hd h1 hT hdT h3 (hQ _ ⟨fun b o eb => ?_, fun b o eb => ?_, ?_⟩)
  · obtain ⟨sl1, e1, q1⟩ := x.kp b o eb
    exact ⟨sl1, (Heap.get?_update_other _ _ (fun q => by rw [← q, hTn] at eb; exact noK eb)).trans e1, q1⟩
  · have : b ≠ T := fun q => by have := hsb b o eb; rw [q, hTn] at this; exact noK this
    exact (Heap.get?_update_other _ _ (Ne.symm this)).trans (x.stays b o eb)
  · have hd' := Obj.data_mapFields hdT (·.setIfInBounds 3 Value.none)
    have hT' := Heap.get?_update_self (Obj.mapFields (·.setIfInBounds 3 Value.none)) hT (Obj.isFreed_of_fields hd')
    by_cases hTe : T = e
    · subst hTe
      obtain rfl := soK (he.symm.trans hT)
      rw [hd] at hdT; cases hdT
      refine ⟨_, _, T, _, _, hT', (Obj.cls_mapFields _ _).trans hX, hd', ?_, hT', hd', by simpa using h3, hTn⟩
      rw [Array.getElem?_setIfInBounds_ne (by decide)]
      exact h1
    · exact ⟨oe, vs, T, _, _, (Heap.get?_update_other _ _ hTe).trans he, hX, hd, h1, hT', hd', by simpa using h3, hTn⟩
end
end Mine
end
section
open PySem.W
open PySem.SeqAt PySem.MeetsSeq
namespace Mine
section
variable {prog : Program} {w : World} {hb : Heap} {n : Nat} {sc : Scope} {nm : List Str}

theorem ve_exc : isSubtype (.type "ValueError") (.type "BaseException") = pure true := by rw [isSubtype_type]; with_unfolding_all rfl
theorem ve_self : isSubtype (.type "ValueError") (.type "ValueError") = pure true := by rw [isSubtype_type]; with_unfolding_all rfl
theorem ve_nt : isSubtype (.type ((Manifest.find? "ValueError").elim "type" fun x => x.metatype)) (.type "tuple") = pure false := by rw [isSubtype_type]; with_unfolding_all rfl

/- x.append(y), both names, wherever it stands -/
theorem app_raw {xm xi : Str} {p1 p2 apos pos spos : Pos} {pl : Env → Sem Bool} {im ii : Nat} (hxm : nm[im]? = some xm) (hxi : nm[ii]? = some xi) (hdm : (xm == ("__debug__" : Str)) = false) (hdi : (xi == ("__debug__" : Str)) = false)
    (he : ∀ env : Env, eval (.Call (.Attribute (.Name xm p1) "append" apos) [.Name xi p2] [] pos) env = (do
      let ov ← eval (.Name xm p1) env
      standAt apos.atName
      let (f, first) ← holding [ov] (getMethod ov "append" (pl env))
      callWith pos f first (backTo pos (starEach [.Name xi p2] env)) []))
    {env : Env} {Z α : List Addr} {A A' : Around} {s : Shared} {mem : Mem} {sl : Slots} {k : Nat} {l : List P} {d : P} {Q : Flow → Shared → Prop} {E : Value → Shared → Prop} (bd : Bd hb A s.heap Z env) (st : St prog w hb env nm Z α mem sl s.heap)
    (h1 : (sl[im]?).join = some (.c k)) (h2 : (sl[ii]?).join = some (.p d)) (hl : mem[k]? = some (.ml l)) (hlen : lenOk l.length = true)
    (hQ : ∀ h' tk, Nx s.heap env Z α h' Z α → Bd hb A h' Z env → St prog w hb env nm Z α (mem.set k (.ml (l ++ [d]))) sl h' → Q .next { s with heap := h', toks := tk }) :
    wpAny (model prog w) A' (exec (.Expr (.Call (.Attribute (.Name xm p1) "append" apos) [.Name xi p2] [] pos) spos) env) Q E s := by
  refine wpAny_Expr_any ?_ (interactive_fn st.fm.kind) rfl
  refine MethodCall_ (pl := pl env) (wpAny_Name (load_sim hxm st h1 fun y r1 => ?_) hdm) (he env)
  obtain ⟨hty1, pa, hnd1⟩ := isT_at (T := "list") st.me (isT_cell hl) r1
  refine getMethod_builtin hty1 pa F.slot_list_append F.type_list_append hnd1 ?_
  refine callWith_builtin (plain_backTo rfl _ _) ?_
  have hs : wpAny (model prog w) A' (spliced (backTo pos (starEach [.Name xi p2] env))) (fun ys s₂ => wpAny (model prog w) A' (call (.builtin "list.append") ([y] ++ ys)) (fun _ => Q .next) E s₂) E s := by
    show wpAny _ _ (spliced ((false, eval (.Name xi p2) env) :: backTo pos (starEach [] env))) _ _ s
    unfold spliced
    refine wpAny_bind (wpAny_Name (load_sim hxi st h2 fun b rb => ?_) hdi)
    refine wpAny_bind (wpAny_pure (wpAny_bind (wpAny_holding ?_)))
    refine wpAny_pure (wpAny_pure ?_)
    exact push_cell (t := s.toks) bd st r1 rb hl hlen fun h2 nx bd' st' => hQ h2 s.toks nx bd' st'
  exact evalArgs_plain hs

/- try: a.remove(i) / except ValueError: m.append(i) -/
noncomputable def sTryRem (ia ii im : Nat) : SF := fun mem sl => ((sl[ia]?).join).bind fun x => ((sl[ii]?).join).bind fun v => ((sl[im]?).join).bind fun y => (cl mem x).bind fun q => (datV v).bind fun d => (cl mem y).bind fun r =>
  if lenOk q.2.length = true then if lenOk r.2.length = true then (q.2.mapM fun z => eqP deep z d).map fun bs => (.next, (bs.findIdx? id).elim (mem.set r.1 (.ml (r.2 ++ [d]))) fun j => mem.set q.1 (.ml (q.2.eraseIdx j)), sl) else none else none
theorem tryrem_at {ia ii im : Nat} {mem : Mem} {sl : Slots} {r : Out × Mem × Slots} {C : Prop} (hf : sTryRem ia ii im mem sl = some r)
    (K : ∀ k l d km lm bs, (sl[ia]?).join = some (.c k) → (sl[ii]?).join = some (.p d) → (sl[im]?).join = some (.c km) → mem[k]? = some (.ml l) → mem[km]? = some (.ml lm) → lenOk l.length = true → lenOk lm.length = true →
      l.mapM (fun z => eqP deep z d) = some bs → (Out.next, (bs.findIdx? id).elim (mem.set km (.ml (lm ++ [d]))) fun j => mem.set k (.ml (l.eraseIdx j)), sl) = r → C) : C :=
  bindK hf fun x hsa hf => bindK hf fun v hsi hf => bindK hf fun y hsm hf => bindK hf fun q hq hf => bindK hf fun d hd hf => bindK hf fun r hr hf => ifK hf fun hl1 hf => ifK hf fun hl2 hf => mapK hf fun bs hm hf =>
    clK (G := fun x => (sl[ia]?).join = some x → C) hq (fun hl hsa => clK (G := fun x => (sl[im]?).join = some x → C) hr (fun hlm hsm => K _ _ d _ _ bs hsa (hsi.trans (congrArg some (datV_at hd))) hsm hl hlm hl1 hl2 hm hf) hsm) hsa
theorem rem_some {vs : List Value} {e : Value → Bool} {bs : List Bool} {j : Nat} (h : vs.map e = bs) (hj : bs.findIdx? id = some j) : ∃ hw : j < vs.toArray.size, e vs.toArray[j] = true ∧ ∀ (m : Nat) (hm : m < vs.toArray.size), m < j → e vs.toArray[m] = false := by
  subst h
  rw [List.findIdx?_map] at hj
  obtain ⟨h1, h2, h3⟩ := List.findIdx?_eq_some_iff_getElem.mp hj
  exact ⟨h1, h2, fun m hm hmj => Bool.eq_false_iff.mpr (h3 m hmj)⟩
theorem rem_none {vs : List Value} {e : Value → Bool} {bs : List Bool} (h : vs.map e = bs) (hj : bs.findIdx? id = none) (m : Nat) (hm : m < vs.toArray.size) : e vs.toArray[m] = false := by
  subst h
  exact List.findIdx?_eq_none_iff.mp hj _ (List.mem_map_of_mem (List.getElem_mem hm))
theorem RPs.erase {h : Heap} {Z : List Addr} : ∀ {l : List P} {vs : List Value} (j : Nat), RPs h Z l vs → RPs h Z (l.eraseIdx j) (vs.eraseIdx j)
  | [], [], _, _ => trivial
  | _ :: _, _ :: _, 0, x => x.2
  | _ :: _, _ :: _, j + 1, x => ⟨x.1, RPs.erase j x.2⟩
  | [], _ :: _, _, x => x.elim
  | _ :: _, [], _, x => x.elim
theorem sim_tryrem {xa xi xm : Str} {p1 p2 p3 p4 apos cpos spos vp hpos apos2 cpos2 spos2 pos : Pos} {pl pl2 : Env → Sem Bool} (ia ii im : Nat) (G : GN hb "ValueError" (.type "ValueError"))
    (hxa : nm[ia]? = some xa := by rfl) (hxi : nm[ii]? = some xi := by rfl) (hxm : nm[im]? = some xm := by rfl)
    (hda : (xa == ("__debug__" : Str)) = false := by decide +kernel) (hdi : (xi == ("__debug__" : Str)) = false := by decide +kernel) (hdm : (xm == ("__debug__" : Str)) = false := by decide +kernel)
    (hve : sc.names.lookup ("ValueError" : Str) = some .globalImplicit := by decide +kernel)
    (he : ∀ env : Env, eval (.Call (.Attribute (.Name xa p1) "remove" apos) [.Name xi p2] [] cpos) env = (do
      let ov ← eval (.Name xa p1) env
      standAt apos.atName
      let (f, first) ← holding [ov] (getMethod ov "remove" (pl env))
      callWith cpos f first (backTo cpos (starEach [.Name xi p2] env)) []) := by intro _; rfl)
    (he2 : ∀ env : Env, eval (.Call (.Attribute (.Name xm p3) "append" apos2) [.Name xi p4] [] cpos2) env = (do
      let ov ← eval (.Name xm p3) env
      standAt apos2.atName
      let (f, first) ← holding [ov] (getMethod ov "append" (pl2 env))
      callWith cpos2 f first (backTo cpos2 (starEach [.Name xi p4] env)) []) := by intro _; rfl) :
    SimS prog w hb n sc nm (.Try [.Expr (.Call (.Attribute (.Name xa p1) "remove" apos) [.Name xi p2] [] cpos) spos] [.ExceptHandler (some (.Name "ValueError" vp)) none [.Expr (.Call (.Attribute (.Name xm p3) "append" apos2) [.Name xi p4] [] cpos2) spos2] hpos] [] [] pos) (sTryRem ia ii im) := by
  intro env Z α A s mem sl o mem' sl' Q E hsc rm bd st hf hQ
  refine tryrem_at hf fun k l d km lm bs hsa hsi hsm hl hlm hl1 hl2 hm hf => ?_
  obtain ⟨rfl, rfl, rfl⟩ := so3 (congrArg some hf)
  refine wpAny_Try_except (wpAny_execs_cons (wpAny_Expr_any ?_ (interactive_fn st.fm.kind) rfl))
  refine meth_eval (T := "list") (id := "list.remove") (f := xV ia) (g := xCons (xV ii) xNil) (self := .c k) F.slot_list_remove F.type_list_remove (sim_var ia hxa hda) (sims_cons (sim_var ii hxi hdi) sims_nil rfl) rfl he hsc rm st hsa (isT_cell hl) (by unfold xCons xV; rw [hsi]; rfl) fun y₀ ys h1 t1 r0 rs k1 s1 => ?_
  obtain ⟨a, ha, rfl⟩ := r0
  obtain ⟨b, rfl, rb⟩ := one_of rs
  obtain ⟨vs, la, rv⟩ := (st.me.kp k1).here k a _ ha hl
  obtain ⟨nn, g1⟩ := id la
  obtain ⟨e, he1, he2'⟩ := eqs_of (A := A) (s := { s with heap := h1, toks := t1 }) hm rv.free (RP.free (show RP h1 Z d b from rb)) (by have := rm.uni; simp only [deep]; omega)
  have hszl : vs.toArray.size ≤ sizeLine := by rw [List.size_toArray, ← rv.length, sizeLine_eq]; have := of_decide_eq_true hl1; omega
  have he3 : ∀ y ∈ vs.toArray, _ := fun y hy => he1 y (Array.mem_toList_iff.mpr hy)
  clear he1
  cases hj : bs.findIdx? id with
  | some j =>
    rw [hj] at hQ
    obtain ⟨hw, hj2, hj3⟩ := rem_some he2' hj
    have ch : Ch prog w hb h1 Z α mem _ k (.ml (l.eraseIdx j)) := Ch.list (f := fun xs => xs.eraseIdxIfInBounds j) (ws := vs.eraseIdx j) (st.me.kp k1) ha la (by rw [Array.eraseIdxIfInBounds, dif_pos hw]; simp) (rv.erase j)
    obtain ⟨bd', st'⟩ := ch.st (bd.kp k1) (st.kp k1 s1)
    exact call_meets F.slot_list_remove la.typeIs F.entry_list_remove (F.args_list_remove_2 _ _) (list_removeAt a vs.toArray nn b e j hw hj2 hj3 hszl) ⟨g1, he3, wpAny_execs_nil (wpAny_execs_nil (hQ .next _ t1 Z α ((Nx.of_kp k1).trans (ch.nx env)) bd' st' rfl))⟩
  | none =>
    rw [hj] at hQ
    refine call_meets F.slot_list_remove la.typeIs F.entry_list_remove (F.args_list_remove_2 _ _) (list_remove_noneAt a vs.toArray nn b e (rem_none he2' hj)) ⟨g1, he3, rm.hd, fun h2 t2 ex nex => ?_⟩
    have k2 : Kp s.heap h2 := k1.trans (.of nex.keeps)
    have s2 : hb.StaysIn h2 := fun b' o' e' => nex.keeps b' o' (s1 b' o' e')
    have hen : s.heap.get? ex = none := k1.none_of nex.new
    obtain ⟨ob, tt, hob, hobc, hobd⟩ := nex.there
    obtain ⟨outer, htop⟩ := bd.top
    obtain ⟨fs, hfs, hff, hfc⟩ := (rm.kp k2).frs
    obtain rfl := soK (htop.symm.trans hfs)
    show wpAny _ A (noteFrame (.ref ex) env) _ _ _
    refine note_sim (h0 := s.heap) (X := "ValueError") htop hff hfc bd.fr hob hobc hobd rfl k2 s2 hen st.stays fun h3 x3 => ?_
    refine flight_sim x3 hen st.stays fun h4 x4 => ?_
    refine wpAny_handleBy_builtin (X := "ValueError") (T := "ValueError") (b := true) ve_exc ve_nt ve_self ?_
    refine name_global G st.fm.kind st.fm.glob st.fm.blt (by rw [hsc]; exact hve) x4.stays ⟨rfl, ?_, ?_⟩
    · obtain ⟨oe, vs', T, oT, ts, h5, h6, _⟩ := x4.obj
      exact ⟨oe, h5, h6⟩
    · refine flight_sim x4 hen st.stays fun h5 x5 => ?_
      refine wpAny_execs_cons (app_raw (A := A) hxm hxi hdm hdi he2 (bd.kp x5.kp) (st.kp x5.kp x5.stays) hsm hsi hlm hl2 fun h6 t6 nx6 bd6 st6 => ?_)
      exact wpAny_execs_nil (hQ .next h6 t6 Z α ((Nx.of_kp x5.kp).trans nx6) bd6 st6 rfl)
end
end Mine
end
section
open PySem.W
open PySem.SeqAt PySem.AutoSeq1 PySem.MeetsSeq PySem.MeetsSeq2 PySem.MeetsSeq3 PySem.SeqRoads2
namespace Mine

/- one comparison of list.sort -/
theorem keyLt_P {prog : Program} {w : World} {n : Nat} {a b : P} {r : Bool} {A : Around} {E : Value → Shared → Prop} {s : Shared} {x y : Value} (h : cmpP false n a b = some r) (hx : RP s.heap [] a x) (hy : RP s.heap [] b y) (hu : A.units + n + 1 < cLine) {Q : Bool → Shared → Prop} (hQ : Q r s) :
    wpAny (model prog w) A (keyLt' oneType' x y) Q E s := by
  rw [keyLt'_oneType]
  cases n with
  | zero => exact noK h
  | succ n =>
    cases a with
    | int a =>
      refine mapK h fun _ h1 h2 => ?_
      obtain rfl := intD_at h1
      obtain ⟨t, rfl⟩ := hx
      obtain ⟨u, rfl⟩ := hy
      subst h2
      exact oneLt_int hQ
    | str a =>
      refine mapK h fun _ h1 h2 => ?_
      obtain rfl := strD_at h1
      obtain ⟨t, rfl⟩ := hx
      obtain ⟨u, rfl⟩ := hy
      subst h2
      exact oneLt_str hQ
    | lst xs =>
      have h' := h
      refine bindK h fun ys h1 _ => ?_
      obtain rfl := lstD_at h1
      have hu2 : A.in1.units + n < cLine := by rw [Around.in1_units]; omega
      obtain ⟨l, vs, rfl, ⟨k1, tl⟩, _, rl⟩ := hx
      obtain ⟨m, ws, rfl, ⟨k2, tm⟩, _, rm⟩ := hy
      obtain ⟨e, he, hend⟩ := cmpEnd (A := A) false (fun d1 d2 x y h g1 g2 => cmpAt_P false n d1 d2 r A.in1 s x y h g1 g2 hu2) h' rl rm hu2
      rw [oneLt'_eq]
      simp only [if_true]
      refine wpAny_bind (wpAny_cRoomFor (by omega) ?_)
      refine wpAny_bind (wpAny_callSpecialIfBound?_slot (T := "list") ⟨_, tl, rfl⟩ F.slot_list_lt (call_meets F.slot_list_lt ⟨_, tl, rfl⟩ F.entry_list_lt (F.args_list_lt_2 _ _) (list_ltAt l m vs.toArray ws.toArray k1 k2 none none #[] #[] e r) ⟨tl, tm, he, hend, ?_⟩))
      exact wpAny_truthy_bool hQ
    | _ => exact noK h
end Mine
end
section
open PySem.W
open PySem.SeqAt PySem.AutoSeq1 PySem.MeetsSeq PySem.MeetsSeq2 PySem.MeetsSeq3 PySem.SeqRoads2
namespace Mine
section
variable {prog : Program} {w : World} {hb : Heap} {n : Nat} {sc : Scope} {nm : List Str}

noncomputable def kasRun {α : Type} (cmp : Nat → Nat → Option Bool) : KasT α → Option α
  | .ret a => some a
  | .ask i j k => match cmp i j with
    | some true => kasRun cmp (k true)
    | some false => kasRun cmp (k false)
    | none => none
theorem kasRun_wp {α : Type} {cmp : Nat → Nat → Option Bool} {ask : Nat → Nat → (Bool → Shared → Prop) → Shared → Prop} {s : Shared} {G : α → Shared → Prop} (hc : ∀ i j r, cmp i j = some r → ∀ C : Bool → Shared → Prop, C r s → ask i j C s) :
    ∀ (t : KasT α) (a : α), kasRun cmp t = some a → G a s → t.kasWp ask G s
  | .ret b, a, h, g => by obtain rfl := soK h; exact g
  | .ask i j k, a, h, g => by
    unfold kasRun at h
    split at h
    · rename_i hr
      exact hc i j true hr _ (kasRun_wp hc (k true) a h g)
    · rename_i hr
      exact hc i j false hr _ (kasRun_wp hc (k false) a h g)
    · exact noK h
noncomputable def tyOf : P → Option String
  | .int _ => some "int"
  | .str _ => some "str"
  | .lst _ => some "list"
  | _ => none
noncomputable def sortP (l : List P) : Option (List P) := if l.length < 2 then some l else
  if l.length < 64 then match (l.head?).bind tyOf with
    | some T => if l.all (fun d => tyOf d == some T) then (kasRun (fun i j => cmpP false deep (l.getD i .none) (l.getD j .none)) (kas_sort l.length)).map fun p => p.toList.map fun i => l.getD i .none else none
    | none => none
  else none
theorem tyOf_at {h : Heap} {Z : List Addr} {d : P} {v : Value} {T : String} {s : Shared} (ht : tyOf d = some T) (r : RP s.heap Z d v) : s.TypeIs v T ∧ (T = "int" ∨ T = "str" ∨ T = "list") := by
  cases d <;> simp only [tyOf, reduceCtorEq, Option.some.injEq] at ht
  · subst ht; simp only [RP] at r; obtain ⟨t, rfl⟩ := r; exact ⟨typeIs_int _ _ _, .inl rfl⟩
  · subst ht; simp only [RP] at r; obtain ⟨t, rfl⟩ := r; exact ⟨typeIs_str _ _ _, .inr (.inl rfl)⟩
  · subst ht; simp only [RP] at r; obtain ⟨a, vs, rfl, la, _⟩ := r; exact ⟨la.typeIs, .inr (.inr rfl)⟩
theorem RPs.getD {h : Heap} {Z : List Addr} {l : List P} {vs : List Value} (r : RPs h Z l vs) (i : Nat) : RP h Z (l.getD i .none) (vs.getD i .none) := by
  have e := r.length
  by_cases hi : i < l.length
  · obtain ⟨v, hv, rv⟩ := r.get (List.getElem?_eq_getElem hi)
    simp only [List.getD, hv, List.getElem?_eq_getElem hi, Option.getD_some]
    exact rv
  · have h1 : l[i]? = none := List.getElem?_eq_none_iff.mpr (by omega)
    have h2 : vs[i]? = none := List.getElem?_eq_none_iff.mpr (by omega)
    simp [List.getD, h1, h2, RP]
theorem RPs.pick {h : Heap} {Z : List Addr} {l : List P} {vs : List Value} (r : RPs h Z l vs) : ∀ is : List Nat, RPs h Z (is.map fun i => l.getD i .none) (is.map fun i => vs.getD i .none)
  | [] => trivial
  | i :: is => ⟨r.getD i, RPs.pick r is⟩
theorem looks_typeIs {M : Model} {s : Shared} {v : Value} {T : String} (h : s.TypeIs v T) : Looks M s.heap (typeOf v) (.type T) := by
  cases v with
  | ref a =>
    obtain ⟨o, ho, hc⟩ := h
    rw [← hc]
    exact (Looks.ld (part := some headPart) ho).andThen .now
  | _ => exact Looks.of_pure h
/- list.sort of data -/
theorem sort_P {Z : List Addr} {A : Around} {E : Value → Shared → Prop} {s : Shared} {a : Addr} {vs : List Value} {k : Nat} {l r : List P} {P' : PySem.Fin → Shared → Prop} (ho : s.heap.get? a = some (seqObj "list" vs.toArray k)) (haZ : a ∈ Z) (rl : RPs s.heap Z l vs) (hr : sortP l = some r) (hu : A.units + deep + 1 < cLine)
    (hQ : ∀ h' c us, (∀ b o, b ≠ a → s.heap.get? b = some o → h'.get? b = some o) → h'.get? a = some (seqObj "list" us c) → RPs s.heap Z r us.toList → P' (.done (.ret .none)) { s with heap := h' }) :
    wpAny (model prog w) A (Builtin.«list.sort» ⟨[.ref a], []⟩) P' E s := by
  have el := rl.length
  have s1 := Heap.SameBut.update s.heap a (Obj.mapSeq fun _ => (#[] : Array Value))
  have hlen : vs.length < 64 := by
    unfold sortP at hr
    split at hr
    · omega
    · split at hr
      · omega
      · exact noK hr
  obtain ⟨e1, ho1⟩ : ∃ e1, (s.heap.update a (Obj.mapSeq fun _ => (#[] : Array Value))).get? a = some (seqObj "list" #[] e1) := ⟨_, get?_update_seq ho fun _ => #[]⟩
  have hk3 : ∀ b o, b ≠ a → s.heap.get? b = some o → (((s.heap.update a (Obj.mapSeq fun _ => (#[] : Array Value))).push (seqObj "tuple" vs.toArray 0)).push (seqObj "list" #[] 0)).get? b = some o := fun b o hb' e =>
    Heap.get?_push_of_some _ (Heap.get?_push_of_some _ ((s1.2 b hb').trans e))
  have ho3 : (((s.heap.update a (Obj.mapSeq fun _ => (#[] : Array Value))).push (seqObj "tuple" vs.toArray 0)).push (seqObj "list" #[] 0)).get? a = some (seqObj "list" #[] e1) := Heap.get?_push_of_some _ (Heap.get?_push_of_some _ ho1)
  rw [list_sort_plain]
  refine wpAny_bind (listItems_at ho rfl ?_)
  refine wpAny_bind (listUpdate_at ho rfl ?_ (by rw [List.size_toArray, sizeLine_eq]; omega) (Nat.zero_le _))
  refine wpAny_bind (seqEpoch_at ho1 rfl ?_)
  refine wpAny_bind (wpAny_newTuple ?_ (by show vs.length ≤ _; rw [sizeLine_eq]; omega))
  refine wpAny_bind (wpAny_newList ?_ (Nat.zero_le _))
  refine wpAny_holding ?_
  show wpAny (model prog w) A _ P' E { s with heap := ((s.heap.update a (Obj.mapSeq fun _ => (#[] : Array Value))).push (seqObj "tuple" vs.toArray 0)).push (seqObj "list" #[] 0) }
  generalize ((s.heap.update a (Obj.mapSeq fun _ => (#[] : Array Value))).push (seqObj "tuple" vs.toArray 0)).push (seqObj "list" #[] 0) = H3 at hk3 ho3 ⊢
  unfold sortP at hr
  split at hr
  · rename_i hlt
    obtain rfl := soK hr
    have hlt2 : vs.toArray.size < 2 := by simp; omega
    rw [if_pos hlt2, if_pos hlt2]
    refine wpAny_bind (wpAny_pure ?_)
    refine wpAny_bind (wpAny_pure ?_)
    dsimp only
    have hz : (vs.toArray.zip vs.toArray).map (·.2) = vs.toArray := Array.ext (by simp) fun i h1 h2 => by simp
    have hz' : Array.map (fun x => x.snd) (arrOf (SortSt.mk' general' (vs.toArray.zip vs.toArray) #[] 7 none)) = vs.toArray := hz
    rw [hz']
    refine wpAny_bind (seqEpoch_at ho3 rfl ?_)
    refine wpAny_bind (listUpdate_at ho3 rfl ?_ (Nat.zero_le _) (by rw [List.size_toArray, sizeLine_eq]; omega))
    simp only [bne_self_eq_false, Bool.false_eq_true, if_false]
    have s2 := Heap.SameBut.update H3 a (Obj.mapSeq fun _ => vs.toArray)
    exact wpAny_pure (hQ _ _ vs.toArray (fun b o hb' e => (s2.2 b hb').trans (hk3 b o hb' e)) (get?_update_seq ho3 fun _ => vs.toArray) (by simpa using rl))
  · rename_i hge
    split at hr
    · split at hr
      · rename_i T hT
        split at hr
        · rename_i hall
          simp only [Option.map_eq_some_iff] at hr
          obtain ⟨p, hp, rfl⟩ := hr
          have hlt2 : ¬ vs.toArray.size < 2 := by simp; omega
          rw [if_neg hlt2, if_neg hlt2]
          have h2 : 2 ≤ vs.length := by simp at hlt2; omega
          have rl3 : RPs H3 Z l vs := RPs.mv ⟨fun b us hz ⟨q, e⟩ => ⟨q, hk3 b _ (fun q => hz (q ▸ haZ)) e⟩, fun b us ⟨q, e⟩ => ⟨q, hk3 b _ (fun q' => by subst q'; rw [ho] at e; simp [seqObj] at e) e⟩, fun b hb' => .inl hb'⟩ _ _ rl
          have hTy : ∀ v ∈ vs, Looks (model prog w) H3 (typeOf v) (.type T) := fun v hv => by
            obtain ⟨j, hj, rfl⟩ := List.mem_iff_getElem.mp hv
            obtain ⟨d, hd, rd⟩ := rl3.get' (List.getElem?_eq_getElem hj)
            have ht : tyOf d = some T := by simpa using List.all_eq_true.mp hall d (List.mem_of_getElem? hd)
            exact looks_typeIs (s := { s with heap := H3 }) (tyOf_at (h := s.heap) ht rd).1
          refine wpAny_bind (kas_kind h2 hTy ?_ (by simp) ?_)
          · have : T = "int" ∨ T = "str" ∨ T = "list" := by
              simp only [Option.bind_eq_some_iff] at hT
              obtain ⟨d, _, hd⟩ := hT
              cases d <;> simp [tyOf] at hd <;> simp [← hd]
            rcases this with rfl | rfl | rfl <;> decide
          · have est : SortSt.mk' oneType' (vs.toArray.zip vs.toArray) #[] 7 none = kas_st oneType' (pairsOf vs) (List.toArray (List.range vs.length)) := by
              have e := kas_range (pairsOf vs)
              rw [pairsOf_size] at e
              show SortSt.mk' oneType' (pairsOf vs) #[] 7 none = SortSt.mk' oneType' ((List.toArray (List.range vs.length)).map (kas_item (pairsOf vs))) #[] 7 none
              rw [e]
            rw [el] at hp
            have run := kas_runs (prog := prog) (w := w) (A := A) (E := E) (κ := oneType') (it := pairsOf vs) (s := { s with heap := H3 })
              (G := fun p' s' => p' = p ∧ s' = { s with heap := H3 })
              (Q := fun _ st' s' => ∃ p' : Array Nat, p'.size = vs.length ∧ arrOf st' = p'.map (kas_item (pairsOf vs)) ∧ failedOf st' = none ∧ p' = p ∧ s' = { s with heap := H3 })
              h2 hlen (fun p' st' s' a1 a2 a3 a4 => ⟨p', a1, a2, a3, a4.1, a4.2⟩) (by
                rw [← kas_ask_eq]
                refine kasRun_wp (fun i j r hr C hC => ?_) _ p hp ⟨rfl, rfl⟩
                exact keyLt_P hr (rl3.getD i).free (rl3.getD j).free hu hC)
            rw [← est] at run
            refine wpAny_bind (wpAny_mono run ?_ fun _ _ e => e)
            rintro ⟨⟨⟩, st'⟩ s' ⟨p', hps, har, hf, rfl, rfl⟩
            dsimp only
            have hout : (arrOf st').map (·.2) = List.toArray (p'.toList.map fun i => vs.getD i Value.none) := by
              apply Array.toList_inj.mp
              rw [har, Array.map_map, Array.toList_map]
              exact List.map_congr_left fun i _ => by show (kas_item (pairsOf vs) i).2 = _; rw [kas_item_eq]
            rw [hout]
            refine wpAny_bind (seqEpoch_at ho3 rfl ?_)
            refine wpAny_bind (listUpdate_at ho3 rfl ?_ (Nat.zero_le _) (by rw [List.size_toArray, List.length_map, Array.length_toList, hps, sizeLine_eq]; omega))
            rw [hf]
            simp only [bne_self_eq_false, Bool.false_eq_true, if_false]
            have s2 := Heap.SameBut.update H3 a (Obj.mapSeq fun _ => List.toArray (p'.toList.map fun i => vs.getD i Value.none))
            exact wpAny_pure (hQ _ _ (List.toArray (p'.toList.map fun i => vs.getD i Value.none)) (fun b o hb' e => (s2.2 b hb').trans (hk3 b o hb' e)) (get?_update_seq ho3 fun _ => _) (by simpa using rl.pick p'.toList))
        · exact noK hr
      · exact noK hr
    · exact noK hr
noncomputable def semSorted : Mem → List V → Option V := fun mem vs => match vs with
  | [v] => match derP mem v with
    | some (.lst l) => (sortP l).map fun r => .p (.lst r)
    | _ => none
  | _ => none
theorem bi_sorted : BiSem prog w hb n (.builtin "sorted") semSorted := by
  intro Z α A s mem vs v ys Q E rm me hst hr hs hQ
  unfold semSorted at hs
  split at hs
  · split at hs
    · rename_i l hd
      simp only [Option.map_eq_some_iff] at hs
      obtain ⟨r, hr', rfl⟩ := hs
      obtain ⟨a0, rfl, ra⟩ := one_of hr
      obtain ⟨a, us, rfl, la, rl⟩ := derP_lst me hd ra
      have el := rl.length
      have hlen : us.length < 64 := by
        unfold sortP at hr'
        split at hr'
        · omega
        · split at hr'
          · omega
          · exact noK hr'
      refine Calls.call_function_entry kind_sorted plain_sorted entry_sorted (args_sorted1 _) ?_
      unfold Builtin.«sorted»
      refine wpAny_bind (m := checkCount "sorted" 1 1 _) (wpAny_pure ?_)
      refine wpAny_bind (collect_list la.isList ?_ (by rw [sizeLine_eq]; omega))
      refine wpAny_bind (wpAny_newList ?_ (by rw [sizeLine_eq]; omega))
      have hsz : ((s.heap.push (seqObj "list" #[] 0)).update s.heap.objs.size (Obj.mapSeq (· ++ us.toArray))).objs.size = s.heap.objs.size + 1 := by
        rw [Heap.size_update, size_push']
      have hoL : (((s.heap.push (seqObj "list" #[] 0)).update s.heap.objs.size (Obj.mapSeq (· ++ us.toArray))).push (seqObj "list" us.toArray 0)).get? (s.heap.objs.size + 1) = some (seqObj "list" us.toArray 0) := by
        rw [← hsz]; exact Heap.get?_push_size _ rfl
      have keep : ∀ b o, s.heap.get? b = some o → (((s.heap.push (seqObj "list" #[] 0)).update s.heap.objs.size (Obj.mapSeq (· ++ us.toArray))).push (seqObj "list" us.toArray 0)).get? b = some o := fun b o q => by
        have hlt : b < s.heap.objs.size := Heap.lt_size q
        rw [Heap.get?_push_ne _ _ _ (by rw [hsz]; exact Nat.ne_of_lt (Nat.lt_succ_of_lt hlt)), Heap.get?_update_ne _ _ _ _ (Nat.ne_of_lt hlt), Heap.get?_push_ne _ _ _ (Nat.ne_of_lt hlt)]
        exact q
      have k2 : Kp s.heap _ := .of keep
      have hDn : s.heap.get? (s.heap.objs.size + 1) = none := Heap.get?_none_of_le (Nat.le_succ _)
      have hDZ : s.heap.objs.size + 1 ∉ Z := fun q => by obtain ⟨o, e⟩ := me.zin _ q; exact nos hDn e
      have rl2 : RPs (((s.heap.push (seqObj "list" #[] 0)).update s.heap.objs.size (Obj.mapSeq (· ++ us.toArray))).push (seqObj "list" us.toArray 0)) ((s.heap.objs.size + 1) :: Z) l us := RPs.mv ⟨fun _ _ _ x => k2.lst x, fun _ _ x => k2.tup x, fun b hb' => by
        rcases List.mem_cons.mp hb' with rfl | hb'
        · exact .inr hDn
        · exact .inl hb'⟩ _ _ rl
      show wpAny _ _ _ _ _ { s with heap := ((s.heap.push (seqObj "list" #[] 0)).update s.heap.objs.size (Obj.mapSeq (· ++ us.toArray))).push (seqObj "list" us.toArray 0) }
      rw [hsz]
      refine wpAny_bind (wpAny_holding (wpAny_call_entry slot_list_sort ⟨_, hoL, rfl⟩ entry_list_sort ?body (args_list_sort _)))
      case body =>
        refine sort_P (s := { s with heap := ((s.heap.push (seqObj "list" #[] 0)).update s.heap.objs.size (Obj.mapSeq (· ++ us.toArray))).push (seqObj "list" us.toArray 0) }) hoL List.mem_cons_self rl2 hr' (by have := rm.uni; simp only [deep, Around.in1_units]; omega) fun h' c ws hk' hD' rr => ?_
        refine ⟨_, rfl, wpAny_pure ⟨_, rfl, ?_⟩⟩
        have hkk : ∀ b o, s.heap.get? b = some o → h'.get? b = some o := fun b o e => hk' b o (fun q => by rw [q, hDn] at e; exact noK e) (keep b o e)
        refine hQ (.ref (s.heap.objs.size + 1)) h' _ ?_ (.of hkk) (stays_of hst hkk)
        refine ⟨_, ws.toList, rfl, ⟨c, by simpa [seqObj] using hD'⟩, hDZ, ?_⟩
        refine RPs.mv (Z := (s.heap.objs.size + 1) :: Z) ⟨fun b us' hz ⟨q, e⟩ => ⟨q, hk' b _ (fun q' => hz (q' ▸ List.mem_cons_self)) e⟩, fun b us' ⟨q, e⟩ => ⟨q, hk' b _ (fun q' => by subst q'; rw [hoL] at e; simp [seqObj] at e) e⟩, fun b hb' => .inl (List.mem_cons_of_mem _ hb')⟩ _ _ rr
    · exact noK hs
  · exact noK hs
end
end Mine
end
section
open PySem.W
open PySem.SeqAt
namespace Mine
section
variable {prog : Program} {w : World} {hb : Heap} {n : Nat} {sc : Scope} {nm : List Str}
theorem max_loopH {A : Around} {R : Result → Shared → Prop} {I : Addr} {fp wr : List Addr} {n : Nat} {P : Nat → Value → Prop} {St : Nat → Heap → Prop} {base : Heap} (W : Walks prog w A.in1 I fp wr n P St) (bt : Nat → Nat → Bool) (S : Addr) (hSf : S ∉ fp)
    (hcmp : ∀ i j vi vj (s : Shared) (Q : Value → Shared → Prop) (E : Value → Shared → Prop), P i vi → P j vj → (∀ b o, b ∉ wr → b ≠ S → base.get? b = some o → s.heap.get? b = some o) → Q (.bool (bt i j)) s → wpAny (model prog w) A.in1 (richCompare .Gt vi vj) Q E s) :
    ∀ (k j : Nat) (s : Shared) (vb : Value) (c : Nat), n - (j + 1) = k → j + 1 ≤ n → St (j + 1) s.heap → P (argBest bt j) vb → (∀ b o, b ∉ wr → b ≠ S → base.get? b = some o → s.heap.get? b = some o) →
    s.heap.get? S = some { cls := .type "list", dict := none, data := .seq #[vb, vb] c, slots := #[] } →
    (∀ v h' tk, P (argBest bt (n - 1)) v → (∀ b o, b ∉ wr → b ≠ S → s.heap.get? b = some o → h'.get? b = some o) → R (.ok (.ret v)) { s with heap := h', toks := tk }) →
    codeAny (model prog w) A (.builtin "max.loop" ⟨[.ref I, .none, .ref S], []⟩) R s := by
  have hSw : S ∉ wr := fun h => hSf (W.sub _ h)
  have hname : (toString "max" ++ toString ".loop" : String) = "max.loop" := by decide
  intro k
  induction k with
  | zero =>
    intro j s vb c hk hj hst hPb hkb hS hR
    have hin : j + 1 = n := by omega
    refine codeAny_builtin F.entry_max_loop ?_
    rw [Around.under_plainId F.plain_max_loop _]
    show wpAny _ A.in1 (seqItems? (.ref S) >>= _) _ _ s
    refine wpAny_bind (wpAny_seqItems hS rfl ?_)
    show wpAny _ A.in1 (tryCatch (pyNext (.ref I)) _ >>= _) _ _ s
    refine wpAny_bind (wpAny_tryCatch (W.done s _ _ (hin ▸ hst) fun h' tk hk' => ?_))
    have hS' := hk' S _ hSw hS
    show wpAny _ A.in1 (updateSeq S (fun _ => #[]) >>= _) _ _ _
    refine wpAny_bind ?_
    refine wpAny_updateSeq hS' rfl (wpAny_bind (wpAny_letGo (wpAny_pure ?_)))
    refine hR vb _ tk (by rw [← hin]; exact hPb) fun b o hbw hbS e => (Heap.get?_update_other _ _ (Ne.symm hbS)).trans (hk' b o hbw e)
  | succ k ih =>
    intro j s vb c hk hj hst hPb hkb hS hR
    have hlt : j + 1 < n := by omega
    refine codeAny_builtin F.entry_max_loop ?_
    rw [Around.under_plainId F.plain_max_loop _]
    show wpAny _ A.in1 (seqItems? (.ref S) >>= _) _ _ s
    refine wpAny_bind (wpAny_seqItems hS rfl ?_)
    show wpAny _ A.in1 (tryCatch (pyNext (.ref I)) _ >>= _) _ _ s
    refine wpAny_bind (wpAny_tryCatch (W.item (j + 1) s _ _ hlt hst fun v h' tk hP hst' hk' => ?_))
    have hS' := hk' S _ hSw hS
    have hkb' : ∀ b o, b ∉ wr → b ≠ S → base.get? b = some o → h'.get? b = some o := fun b o h1 h2 e => hk' b o h1 (hkb b o h1 h2 e)
    show wpAny _ A.in1 (tryCatch (holding [v, v] (richCompare .Gt v vb >>= _)) _ >>= _) _ _ _
    refine wpAny_bind (wpAny_tryCatch (wpAny_holding (wpAny_bind (hcmp (j + 1) (argBest bt j) v vb _ _ _ hP hPb hkb' ?_))))
    refine wpAny_bind (wpAny_holding (wpAny_truthy_bool ?_))
    refine wpAny_bind (wpAny_letGo (wpAny_pure ?_))
    cases hb : bt (j + 1) (argBest bt j) with
    | true =>
      simp only [if_true]
      refine wpAny_bind ?_
      refine wpAny_updateSeq hS' rfl (wpAny_bind (wpAny_letGo ?_))
      rw [hname]
      refine wpAny_pure ⟨plainId_quiet F.plain_max_loop _, ih (j + 1) _ v _ (by omega) hlt (W.frame _ _ _ hst' fun b hbf o e => ?_) (by simp only [argBest, hb, if_true]; exact hP) (fun b o h1 h2 e => (Heap.get?_update_other _ _ (Ne.symm h2)).trans (hkb' b o h1 h2 e)) (Heap.get?_update_self _ hS' rfl)
        fun v' h'' tk'' hP' hk'' => ?_⟩
      · exact (Heap.get?_update_other _ _ (fun h : S = b => hSf (by rw [h]; exact hbf))).trans e
      · exact hR v' h'' tk'' hP' fun b o hbw hbS e => hk'' b o hbw hbS ((Heap.get?_update_other _ _ (Ne.symm hbS)).trans (hk' b o hbw e))
    | false =>
      simp only [Bool.false_eq_true, if_false]
      refine wpAny_bind (wpAny_letGo ?_)
      rw [hname]
      refine wpAny_pure ⟨plainId_quiet F.plain_max_loop _, ih (j + 1) _ vb c (by omega) hlt hst' (by simp only [argBest, hb, Bool.false_eq_true, if_false]; exact hPb) hkb' hS' fun v' h'' tk'' hP' hk'' => ?_⟩
      exact hR v' h'' tk'' hP' fun b o hbw hbS e => hk'' b o hbw hbS (hk' b o hbw e)
theorem min_loopH {A : Around} {R : Result → Shared → Prop} {I : Addr} {fp wr : List Addr} {n : Nat} {P : Nat → Value → Prop} {St : Nat → Heap → Prop} {base : Heap} (W : Walks prog w A.in1 I fp wr n P St) (bt : Nat → Nat → Bool) (S : Addr) (hSf : S ∉ fp)
    (hcmp : ∀ i j vi vj (s : Shared) (Q : Value → Shared → Prop) (E : Value → Shared → Prop), P i vi → P j vj → (∀ b o, b ∉ wr → b ≠ S → base.get? b = some o → s.heap.get? b = some o) → Q (.bool (bt i j)) s → wpAny (model prog w) A.in1 (richCompare .Lt vi vj) Q E s) :
    ∀ (k j : Nat) (s : Shared) (vb : Value) (c : Nat), n - (j + 1) = k → j + 1 ≤ n → St (j + 1) s.heap → P (argBest bt j) vb → (∀ b o, b ∉ wr → b ≠ S → base.get? b = some o → s.heap.get? b = some o) →
    s.heap.get? S = some { cls := .type "list", dict := none, data := .seq #[vb, vb] c, slots := #[] } →
    (∀ v h' tk, P (argBest bt (n - 1)) v → (∀ b o, b ∉ wr → b ≠ S → s.heap.get? b = some o → h'.get? b = some o) → R (.ok (.ret v)) { s with heap := h', toks := tk }) →
    codeAny (model prog w) A (.builtin "min.loop" ⟨[.ref I, .none, .ref S], []⟩) R s := by
  have hSw : S ∉ wr := fun h => hSf (W.sub _ h)
  have hname : (toString "min" ++ toString ".loop" : String) = "min.loop" := by decide
  intro k
  induction k with
  | zero =>
    intro j s vb c hk hj hst hPb hkb hS hR
    have hin : j + 1 = n := by omega
    refine codeAny_builtin F.entry_min_loop ?_
    rw [Around.under_plainId F.plain_min_loop _]
    show wpAny _ A.in1 (seqItems? (.ref S) >>= _) _ _ s
    refine wpAny_bind (wpAny_seqItems hS rfl ?_)
    show wpAny _ A.in1 (tryCatch (pyNext (.ref I)) _ >>= _) _ _ s
    refine wpAny_bind (wpAny_tryCatch (W.done s _ _ (hin ▸ hst) fun h' tk hk' => ?_))
    have hS' := hk' S _ hSw hS
    show wpAny _ A.in1 (updateSeq S (fun _ => #[]) >>= _) _ _ _
    refine wpAny_bind ?_
    refine wpAny_updateSeq hS' rfl (wpAny_bind (wpAny_letGo (wpAny_pure ?_)))
    refine hR vb _ tk (by rw [← hin]; exact hPb) fun b o hbw hbS e => (Heap.get?_update_other _ _ (Ne.symm hbS)).trans (hk' b o hbw e)
  | succ k ih =>
    intro j s vb c hk hj hst hPb hkb hS hR
    have hlt : j + 1 < n := by omega
    refine codeAny_builtin F.entry_min_loop ?_
    rw [Around.under_plainId F.plain_min_loop _]
    show wpAny _ A.in1 (seqItems? (.ref S) >>= _) _ _ s
    refine wpAny_bind (wpAny_seqItems hS rfl ?_)
    show wpAny _ A.in1 (tryCatch (pyNext (.ref I)) _ >>= _) _ _ s
    refine wpAny_bind (wpAny_tryCatch (W.item (j + 1) s _ _ hlt hst fun v h' tk hP hst' hk' => ?_))
    have hS' := hk' S _ hSw hS
    have hkb' : ∀ b o, b ∉ wr → b ≠ S → base.get? b = some o → h'.get? b = some o := fun b o h1 h2 e => hk' b o h1 (hkb b o h1 h2 e)
    show wpAny _ A.in1 (tryCatch (holding [v, v] (richCompare .Lt v vb >>= _)) _ >>= _) _ _ _
    refine wpAny_bind (wpAny_tryCatch (wpAny_holding (wpAny_bind (hcmp (j + 1) (argBest bt j) v vb _ _ _ hP hPb hkb' ?_))))
    refine wpAny_bind (wpAny_holding (wpAny_truthy_bool ?_))
    refine wpAny_bind (wpAny_letGo (wpAny_pure ?_))
    cases hb : bt (j + 1) (argBest bt j) with
    | true =>
      simp only [if_true]
      refine wpAny_bind ?_
      refine wpAny_updateSeq hS' rfl (wpAny_bind (wpAny_letGo ?_))
      rw [hname]
      refine wpAny_pure ⟨plainId_quiet F.plain_min_loop _, ih (j + 1) _ v _ (by omega) hlt (W.frame _ _ _ hst' fun b hbf o e => ?_) (by simp only [argBest, hb, if_true]; exact hP) (fun b o h1 h2 e => (Heap.get?_update_other _ _ (Ne.symm h2)).trans (hkb' b o h1 h2 e)) (Heap.get?_update_self _ hS' rfl)
        fun v' h'' tk'' hP' hk'' => ?_⟩
      · exact (Heap.get?_update_other _ _ (fun h : S = b => hSf (by rw [h]; exact hbf))).trans e
      · exact hR v' h'' tk'' hP' fun b o hbw hbS e => hk'' b o hbw hbS ((Heap.get?_update_other _ _ (Ne.symm hbS)).trans (hk' b o hbw e))
    | false =>
      simp only [Bool.false_eq_true, if_false]
      refine wpAny_bind (wpAny_letGo ?_)
      rw [hname]
      refine wpAny_pure ⟨plainId_quiet F.plain_min_loop _, ih (j + 1) _ vb c (by omega) hlt hst' (by simp only [argBest, hb, Bool.false_eq_true, if_false]; exact hPb) hkb' hS' fun v' h'' tk'' hP' hk'' => ?_⟩
      exact hR v' h'' tk'' hP' fun b o hbw hbS e => hk'' b o hbw hbS (hk' b o hbw e)
end
end Mine
end
section
open PySem.W
open PySem.SeqAt
namespace Mine
section
variable {prog : Program} {w : World} {hb : Heap} {n : Nat} {sc : Scope} {nm : List Str}
noncomputable def bestOk (gt : Bool) (l : List P) : Bool := (List.range l.length).all fun i => (List.range l.length).all fun j => (cmpP gt deep (l.getD i .none) (l.getD j .none)).isSome
noncomputable def semBest (gt : Bool) : Mem → List V → Option V := fun mem vs => match vs with
  | [v] => match derP mem v with
    | some (.lst l) => if bestOk gt l = true then (l[argBest (fun i j => (cmpP gt deep (l.getD i .none) (l.getD j .none)).getD false) (l.length - 1)]?).map .p else none
    | _ => none
  | _ => none
/- max of data -/
theorem bi_max : BiSem prog w hb n (.builtin "max") (semBest true) := by
  intro Z α A s mem vs v ys Q E rm me hst hr hs hQ
  unfold semBest at hs
  split at hs
  · split at hs
    · rename_i l hd
      split at hs
      · rename_i hok
        simp only [Option.map_eq_some_iff] at hs
        obtain ⟨d, hdd, rfl⟩ := hs
        obtain ⟨a0, rfl, ra⟩ := one_of hr
        obtain ⟨a, us, rfl, la, rl⟩ := derP_lst me hd ra
        have el := rl.length
        have hpos : 0 < l.length := by
          cases l with
          | nil => simp at hdd
          | cons => simp
        have hname : (toString "max" ++ toString ".loop" : String) = "max.loop" := by decide
        refine call_function_tree F.kind_max F.plain_max F.entry_max (F.args_max1 _) ?_
        show wpAny _ A.in1 (Builtin.Builtins.bindParams "max" ["key", "default"] 0 ⟨[], []⟩ >>= _) _ _ s
        refine wpAny_bind (wpAny_of_eq (show Builtin.Builtins.bindParams "max" ["key", "default"] 0 ⟨[], []⟩ = pure [none, none] from rfl) ?_)
        refine wpAny_bind (wpAny_pure ?_)
        refine wpAny_bind (iter_lst la fun s₂ e2 st2 hfp hne => ?_)
        subst e2
        have W := Walks.list (prog := prog) (w := w) (A := A.in1) rm.hd s.heap.objs.size a hne us.toArray
        obtain ⟨I, hI⟩ : ∃ I, I = s.heap.objs.size := ⟨_, rfl⟩
        obtain ⟨H2, hH2⟩ : ∃ H2, H2 = s.heap.push { cls := .type "list_iterator", data := .fields #[.ref a, .int 0 0] } := ⟨_, rfl⟩
        have st2' : H2.IsListIter I a 0 ∧ H2.IsList a us.toArray := by rw [hH2, hI]; exact st2
        have hfp' : ∀ b ∈ [I, a], b < H2.objs.size := by rw [hH2, hI]; exact hfp
        have W' : Walks prog w A.in1 I [I, a] [I] us.toArray.size (fun i v => us.toArray[i]? = some v) (fun i h => h.IsListIter I a i ∧ h.IsList a us.toArray) := by rw [hI]; exact W
        rw [← hI, ← hH2]
        have k2 : ∀ b o, s.heap.get? b = some o → H2.get? b = some o := fun b o e => by rw [hH2]; exact Heap.get?_push_of_some _ e
        have hIf : ∃ o fs, H2.get? I = some o ∧ o.data = .fields fs := by obtain ⟨o, ho, _, hd⟩ := st2'.1; exact ⟨o, _, ho, hd⟩
        have rl2 : RPs H2 Z l us := RPs.kp (.of k2) _ _ rl
        refine wpAny_bind (wpAny_newObj_type ?_)
        obtain ⟨S, hS0⟩ : ∃ S, S = H2.objs.size := ⟨_, rfl⟩
        show wpAny _ A.in1 _ _ _ { s with heap := H2.push { cls := .type "list", data := .seq ([] : List Value).toArray } }
        rw [← hS0]
        have hSn : H2.get? S = none := Heap.get?_none_of_le (by rw [hS0]; exact Nat.le_refl _)
        have hSf : S ∉ [I, a] := fun hm => by have := hfp' S hm; rw [hS0] at this; exact Nat.lt_irrefl _ this
        have hSw : S ∉ [I] := fun hm => hSf (by simp at hm; simp [hm])
        have hS : (H2.push { cls := .type "list", data := .seq ([] : List Value).toArray }).get? S = some { cls := .type "list", data := .seq ([] : List Value).toArray } := by rw [hS0]; exact Heap.get?_push_size _ rfl
        rw [hname]
        refine wpAny_pure ⟨plainId_quiet F.plain_max_loop _, codeAny_builtin F.entry_max_loop ?_⟩
        rw [Around.under_plainId F.plain_max_loop _]
        show wpAny _ A.in1 (seqItems? (.ref S) >>= _) _ _ _
        refine wpAny_bind (wpAny_seqItems hS rfl ?_)
        show wpAny _ A.in1 (tryCatch (pyNext (.ref I)) _ >>= _) _ _ _
        have hn0 : 0 < us.toArray.size := by simp; omega
        have hst0 := W'.frame 0 H2 (H2.push { cls := .type "list", data := .seq ([] : List Value).toArray }) st2' fun b _ o e => Heap.get?_push_of_some _ e
        refine wpAny_bind (wpAny_tryCatch (W'.item 0 { s with heap := H2.push { cls := .type "list", data := .seq ([] : List Value).toArray } } _ _ hn0 hst0 fun v h' tk hP hst' hk' => ?_))
        have hS' := hk' S _ hSw hS
        show wpAny _ A.in1 (updateSeq S (fun _ => #[v, v]) >>= _) _ _ _
        refine wpAny_bind ?_
        refine wpAny_updateSeq hS' rfl ?_
        rw [hname]
        have keepB : ∀ b o, b ∉ [I] → b ≠ S → H2.get? b = some o → (h'.update S (Obj.mapSeq fun _ => #[v, v])).get? b = some o := fun b o h1 h2 e => (Heap.get?_update_other _ _ (Ne.symm h2)).trans (hk' b o h1 (Heap.get?_push_of_some _ e))
        refine wpAny_pure ⟨plainId_quiet F.plain_max_loop _, max_loopH (base := H2) W' (fun i j => (cmpP true deep (l.getD i .none) (l.getD j .none)).getD false) S hSf (fun i j vi vj s' Q' E' hPi hPj hkb hq => ?_) _ 0 _ v _ rfl hn0 (W'.frame _ _ _ hst' fun b hbf o e => ?_) hP keepB (Heap.get?_update_self _ hS' rfl) fun v' h'' tk'' hP' hk'' => ?_⟩
        · have hPi' : us[i]? = some vi := by simpa using hPi
          have hPj' : us[j]? = some vj := by simpa using hPj
          have mv : Mv H2 Z s'.heap Z := by
            refine ⟨fun b ws _ ⟨q, e⟩ => ⟨q, hkb b _ (fun hm => ?_) (fun q' => by rw [q', hSn] at e; exact noK e) e⟩, fun b ws ⟨q, e⟩ => ⟨q, hkb b _ (fun hm => ?_) (fun q' => by rw [q', hSn] at e; exact noK e) e⟩, fun b hb' => .inl hb'⟩
            · simp at hm; obtain ⟨o, fs, e', d⟩ := hIf; rw [hm, e'] at e; cases e; cases d
            · simp at hm; obtain ⟨o, fs, e', d⟩ := hIf; rw [hm, e'] at e; cases e; cases d
          have hi : i < l.length := by have := (List.getElem?_eq_some_iff.mp hPi').1; omega
          have hj : j < l.length := by have := (List.getElem?_eq_some_iff.mp hPj').1; omega
          have ri := (RPs.mv mv _ _ rl2).getD i
          have rj := (RPs.mv mv _ _ rl2).getD j
          have gi : us.getD i Value.none = vi := by rw [List.getD_eq_getElem?_getD, hPi']; rfl
          have gj : us.getD j Value.none = vj := by rw [List.getD_eq_getElem?_getD, hPj']; rfl
          rw [gi] at ri
          rw [gj] at rj
          have hsome := List.all_eq_true.mp (List.all_eq_true.mp hok i (List.mem_range.mpr hi)) j (List.mem_range.mpr hj)
          obtain ⟨r, hr1⟩ := Option.isSome_iff_exists.mp hsome
          rw [hr1] at hq
          exact cmpAt_P true deep _ _ r A.in1 s' vi vj hr1 ri.free rj.free (by have := rm.uni; simp only [deep, Around.in1_units]; omega) prog w E' Q' hq
        · exact (Heap.get?_update_other _ _ (fun h : S = b => hSf (by rw [h]; exact hbf))).trans e
        · have hP'' : us[argBest (fun i j => (cmpP true deep (l.getD i .none) (l.getD j .none)).getD false) (l.length - 1)]? = some v' := by
            have : us.toArray.size - 1 = l.length - 1 := by simp [el]
            rw [this] at hP'
            simpa using hP'
          obtain ⟨y, hy, ry⟩ := rl.get hdd
          rw [hy] at hP''; cases hP''
          have hkk : ∀ b o, s.heap.get? b = some o → h''.get? b = some o := fun b o e => by
            have e2 := k2 b o e
            have hbI : b ∉ [I] := fun hm => by simp at hm; rw [hm, hI] at e; exact absurd (Heap.lt_size e) (Nat.lt_irrefl _)
            have hbS : b ≠ S := fun q => by rw [q, hSn] at e2; exact noK e2
            exact hk'' b o hbI hbS (keepB b o hbI hbS e2)
          exact hQ _ h'' tk'' (RP.kp (.of hkk) _ _ ry) (.of hkk) (stays_of hst hkk)
      · exact noK hs
    · exact noK hs
  · exact noK hs
/- min of data -/
theorem bi_min : BiSem prog w hb n (.builtin "min") (semBest false) := by
  intro Z α A s mem vs v ys Q E rm me hst hr hs hQ
  unfold semBest at hs
  split at hs
  · split at hs
    · rename_i l hd
      split at hs
      · rename_i hok
        simp only [Option.map_eq_some_iff] at hs
        obtain ⟨d, hdd, rfl⟩ := hs
        obtain ⟨a0, rfl, ra⟩ := one_of hr
        obtain ⟨a, us, rfl, la, rl⟩ := derP_lst me hd ra
        have el := rl.length
        have hpos : 0 < l.length := by
          cases l with
          | nil => simp at hdd
          | cons => simp
        have hname : (toString "min" ++ toString ".loop" : String) = "min.loop" := by decide
        refine call_function_tree F.kind_min F.plain_min F.entry_min (F.args_min1 _) ?_
        show wpAny _ A.in1 (Builtin.Builtins.bindParams "min" ["key", "default"] 0 ⟨[], []⟩ >>= _) _ _ s
        refine wpAny_bind (wpAny_of_eq (show Builtin.Builtins.bindParams "min" ["key", "default"] 0 ⟨[], []⟩ = pure [none, none] from rfl) ?_)
        refine wpAny_bind (wpAny_pure ?_)
        refine wpAny_bind (iter_lst la fun s₂ e2 st2 hfp hne => ?_)
        subst e2
        have W := Walks.list (prog := prog) (w := w) (A := A.in1) rm.hd s.heap.objs.size a hne us.toArray
        obtain ⟨I, hI⟩ : ∃ I, I = s.heap.objs.size := ⟨_, rfl⟩
        obtain ⟨H2, hH2⟩ : ∃ H2, H2 = s.heap.push { cls := .type "list_iterator", data := .fields #[.ref a, .int 0 0] } := ⟨_, rfl⟩
        have st2' : H2.IsListIter I a 0 ∧ H2.IsList a us.toArray := by rw [hH2, hI]; exact st2
        have hfp' : ∀ b ∈ [I, a], b < H2.objs.size := by rw [hH2, hI]; exact hfp
        have W' : Walks prog w A.in1 I [I, a] [I] us.toArray.size (fun i v => us.toArray[i]? = some v) (fun i h => h.IsListIter I a i ∧ h.IsList a us.toArray) := by rw [hI]; exact W
        rw [← hI, ← hH2]
        have k2 : ∀ b o, s.heap.get? b = some o → H2.get? b = some o := fun b o e => by rw [hH2]; exact Heap.get?_push_of_some _ e
        have hIf : ∃ o fs, H2.get? I = some o ∧ o.data = .fields fs := by obtain ⟨o, ho, _, hd⟩ := st2'.1; exact ⟨o, _, ho, hd⟩
        have rl2 : RPs H2 Z l us := RPs.kp (.of k2) _ _ rl
        refine wpAny_bind (wpAny_newObj_type ?_)
        obtain ⟨S, hS0⟩ : ∃ S, S = H2.objs.size := ⟨_, rfl⟩
        show wpAny _ A.in1 _ _ _ { s with heap := H2.push { cls := .type "list", data := .seq ([] : List Value).toArray } }
        rw [← hS0]
        have hSn : H2.get? S = none := Heap.get?_none_of_le (by rw [hS0]; exact Nat.le_refl _)
        have hSf : S ∉ [I, a] := fun hm => by have := hfp' S hm; rw [hS0] at this; exact Nat.lt_irrefl _ this
        have hSw : S ∉ [I] := fun hm => hSf (by simp at hm; simp [hm])
        have hS : (H2.push { cls := .type "list", data := .seq ([] : List Value).toArray }).get? S = some { cls := .type "list", data := .seq ([] : List Value).toArray } := by rw [hS0]; exact Heap.get?_push_size _ rfl
        rw [hname]
        refine wpAny_pure ⟨plainId_quiet F.plain_min_loop _, codeAny_builtin F.entry_min_loop ?_⟩
        rw [Around.under_plainId F.plain_min_loop _]
        show wpAny _ A.in1 (seqItems? (.ref S) >>= _) _ _ _
        refine wpAny_bind (wpAny_seqItems hS rfl ?_)
        show wpAny _ A.in1 (tryCatch (pyNext (.ref I)) _ >>= _) _ _ _
        have hn0 : 0 < us.toArray.size := by simp; omega
        have hst0 := W'.frame 0 H2 (H2.push { cls := .type "list", data := .seq ([] : List Value).toArray }) st2' fun b _ o e => Heap.get?_push_of_some _ e
        refine wpAny_bind (wpAny_tryCatch (W'.item 0 { s with heap := H2.push { cls := .type "list", data := .seq ([] : List Value).toArray } } _ _ hn0 hst0 fun v h' tk hP hst' hk' => ?_))
        have hS' := hk' S _ hSw hS
        show wpAny _ A.in1 (updateSeq S (fun _ => #[v, v]) >>= _) _ _ _
        refine wpAny_bind ?_
        refine wpAny_updateSeq hS' rfl ?_
        rw [hname]
        have keepB : ∀ b o, b ∉ [I] → b ≠ S → H2.get? b = some o → (h'.update S (Obj.mapSeq fun _ => #[v, v])).get? b = some o := fun b o h1 h2 e => (Heap.get?_update_other _ _ (Ne.symm h2)).trans (hk' b o h1 (Heap.get?_push_of_some _ e))
        refine wpAny_pure ⟨plainId_quiet F.plain_min_loop _, min_loopH (base := H2) W' (fun i j => (cmpP false deep (l.getD i .none) (l.getD j .none)).getD false) S hSf (fun i j vi vj s' Q' E' hPi hPj hkb hq => ?_) _ 0 _ v _ rfl hn0 (W'.frame _ _ _ hst' fun b hbf o e => ?_) hP keepB (Heap.get?_update_self _ hS' rfl) fun v' h'' tk'' hP' hk'' => ?_⟩
        · have hPi' : us[i]? = some vi := by simpa using hPi
          have hPj' : us[j]? = some vj := by simpa using hPj
          have mv : Mv H2 Z s'.heap Z := by
            refine ⟨fun b ws _ ⟨q, e⟩ => ⟨q, hkb b _ (fun hm => ?_) (fun q' => by rw [q', hSn] at e; exact noK e) e⟩, fun b ws ⟨q, e⟩ => ⟨q, hkb b _ (fun hm => ?_) (fun q' => by rw [q', hSn] at e; exact noK e) e⟩, fun b hb' => .inl hb'⟩
            · simp at hm; obtain ⟨o, fs, e', d⟩ := hIf; rw [hm, e'] at e; cases e; cases d
            · simp at hm; obtain ⟨o, fs, e', d⟩ := hIf; rw [hm, e'] at e; cases e; cases d
          have hi : i < l.length := by have := (List.getElem?_eq_some_iff.mp hPi').1; omega
          have hj : j < l.length := by have := (List.getElem?_eq_some_iff.mp hPj').1; omega
          have ri := (RPs.mv mv _ _ rl2).getD i
          have rj := (RPs.mv mv _ _ rl2).getD j
          have gi : us.getD i Value.none = vi := by rw [List.getD_eq_getElem?_getD, hPi']; rfl
          have gj : us.getD j Value.none = vj := by rw [List.getD_eq_getElem?_getD, hPj']; rfl
          rw [gi] at ri
          rw [gj] at rj
          have hsome := List.all_eq_true.mp (List.all_eq_true.mp hok i (List.mem_range.mpr hi)) j (List.mem_range.mpr hj)
          obtain ⟨r, hr1⟩ := Option.isSome_iff_exists.mp hsome
          rw [hr1] at hq
          exact cmpAt_P false deep _ _ r A.in1 s' vi vj hr1 ri.free rj.free (by have := rm.uni; simp only [deep, Around.in1_units]; omega) prog w E' Q' hq
        · exact (Heap.get?_update_other _ _ (fun h : S = b => hSf (by rw [h]; exact hbf))).trans e
        · have hP'' : us[argBest (fun i j => (cmpP false deep (l.getD i .none) (l.getD j .none)).getD false) (l.length - 1)]? = some v' := by
            have : us.toArray.size - 1 = l.length - 1 := by simp [el]
            rw [this] at hP'
            simpa using hP'
          obtain ⟨y, hy, ry⟩ := rl.get hdd
          rw [hy] at hP''; cases hP''
          have hkk : ∀ b o, s.heap.get? b = some o → h''.get? b = some o := fun b o e => by
            have e2 := k2 b o e
            have hbI : b ∉ [I] := fun hm => by simp at hm; rw [hm, hI] at e; exact absurd (Heap.lt_size e) (Nat.lt_irrefl _)
            have hbS : b ≠ S := fun q => by rw [q, hSn] at e2; exact noK e2
            exact hk'' b o hbI hbS (keepB b o hbI hbS e2)
          exact hQ _ h'' tk'' (RP.kp (.of hkk) _ _ ry) (.of hkk) (stays_of hst hkk)
      · exact noK hs
    · exact noK hs
  · exact noK hs
end
end Mine
end
section
open PySem.W
namespace Mine

namespace FM
theorem owner_map : Manifest.owners.lookup (String.ofList ['p', 'a', 'm'].reverse) = some Manifest.sig_map := by kernel_rfl
theorem slot_map_init : Slot "map" "__init__" "object.__init__" :=
  .of (owner := "object") (n := "__init__") (by rw [typeLookup_type, builtinLookup_eq_fast]; kernel_rfl) (by decide +kernel) (by decide +kernel) (by decide +kernel)
    (by first | exact .inl (by decide +kernel) | exact .inr (by decide +kernel)) (by rw [isSubtype_type]; kernel_rfl)
theorem slot_map_iter : Slot "map" "__iter__" "map.__iter__" :=
  .of (owner := "map") (n := "__iter__") (by rw [typeLookup_type, builtinLookup_eq_fast]; kernel_rfl) (by decide +kernel) (by decide +kernel) (by decide +kernel)
    (by first | exact .inl (by decide +kernel) | exact .inr (by decide +kernel)) (by rw [isSubtype_type]; kernel_rfl)
theorem args_map_iter_1 (a : Value) : argsOk "map.__iter__" ⟨[a], []⟩ := by
  unfold argsOk; rw [signature?_of (id := "map.__iter__") (n := ['_', '_', 'r', 'e', 't', 'i', '_', '_']) (o := ['p', 'a', 'm']) (by kernel_rfl) owner_map]; kernel_rfl
theorem slot_map_next : Slot "map" "__next__" "map.__next__" :=
  .of (owner := "map") (n := "__next__") (by rw [typeLookup_type, builtinLookup_eq_fast]; kernel_rfl) (by decide +kernel) (by decide +kernel) (by decide +kernel)
    (by first | exact .inl (by decide +kernel) | exact .inr (by decide +kernel)) (by rw [isSubtype_type]; kernel_rfl)
theorem entry_map_next : entryFor table "map.__next__" = some Builtin.«map.__next__» := entryFor_of_tree (by kernel_rfl)
theorem args_map_next_1 (a : Value) : argsOk "map.__next__" ⟨[a], []⟩ := by
  unfold argsOk; rw [signature?_of (id := "map.__next__") (n := ['_', '_', 't', 'x', 'e', 'n', '_', '_']) (o := ['p', 'a', 'm']) (by kernel_rfl) owner_map]; kernel_rfl
theorem entry_map_iter : entryFor table "map.__iter__" = some Builtin.«dict_keyiterator.__iter__» :=
  entryFor_alias (id' := "dict_keyiterator.__iter__") (by kernel_rfl) (by first | rfl | decide +kernel | (unfold String.splitOn; simp +decide [String.splitOnAux])) (by decide +kernel) (by kernel_rfl)
theorem mro_map : mroOf (.type "map") = pure [.type "map", .type "object"] := by rw [mroOf_type]; kernel_rfl
theorem lookup_map_new : typeLookup (.type "map") "__new__" = pure (some (.builtin "map.__new__")) := by rw [typeLookup_type, builtinLookup_eq_fast]; kernel_rfl
theorem called_map : TypeCalled "map" "map.__new__" "object.__init__" :=
  ⟨by decide +kernel, by decide +kernel, ⟨_, _, mro_map⟩, madeBy_type mro_map lookup_map_new (by decide +kernel), by decide +kernel, by rw [isSubtype_type]; kernel_rfl, slot_map_init⟩
theorem typeCall_map_2 (a b : Value) : checkTypeCall "map" ⟨[a, b], []⟩ = pure () := by kernel_rfl
theorem newCall_map_2 (a b : Value) : checkBuiltinCall "map.__new__" ⟨[.type "map", a, b], []⟩ = pure () := by kernel_rfl
theorem entry_map_new : entryFor table "map.__new__" = some Builtin.«map.__new__» := entryFor_of_tree (by kernel_rfl)
theorem sub_map : isSubtype (.type "map") (.type "map") = pure true := by rw [isSubtype_type]; kernel_rfl
theorem map_no_len : typeLookup (.type "map") "__len__" = pure none := by rw [typeLookup_type, builtinLookup_eq_fast]; kernel_rfl
theorem map_no_hint : typeLookup (.type "map") "__length_hint__" = pure none := by rw [typeLookup_type, builtinLookup_eq_fast]; kernel_rfl
end FM

section
variable {prog : Program} {w : World} {A : Around} {E : Value → Shared → Prop} {s : Shared}

noncomputable abbrev IsMap (h : Heap) (m TI : Addr) (f : Value) : Prop := h.get? m = some { cls := .type "map", dict := none, data := .fields #[.ref TI, f], slots := #[] }

theorem pyIter_map {m TI : Addr} {f : Value} {Q : Value → Shared → Prop} (hm : IsMap s.heap m TI f) (h : Q (.ref m) s) : wpAny (model prog w) A (pyIter (.ref m)) Q E s := by
  have hT : s.TypeIs (.ref m) "map" := ⟨_, hm, rfl⟩
  refine wpAny_pyIter_slot hT FM.slot_map_iter (wpAny_call_entry FM.slot_map_iter hT FM.entry_map_iter ?_ (FM.args_map_iter_1 _))
  show wpAny _ _ (ret (.ref m)) _ _ s
  exact wpAny_pure ⟨_, rfl, "map", _, hT, FM.slot_map_next.lookup, h⟩

noncomputable abbrev mapH1 (h : Heap) (l : Addr) : Heap := h.push { cls := .type "list_iterator", data := .fields #[.ref l, .int 0 0] }
noncomputable abbrev mapH2 (h : Heap) (l : Addr) : Heap := (mapH1 h l).push { cls := .type "tuple", data := .seq #[.ref h.objs.size] }
noncomputable abbrev mapH3 (h : Heap) (l : Addr) (f : Value) : Heap := (mapH2 h l).push { cls := .type "map", data := .fields #[.ref (mapH1 h l).objs.size, f] }

theorem meets_map_new (l : Addr) (xs : Array Value) (f : Value) :
    Meets (Builtin.«map.__new__» ⟨[.type "map", f, .ref l], []⟩) (fun _ R s => s.heap.IsList l xs ∧
      R (.ok (.ret (.ref (mapH2 s.heap l).objs.size))) { s with heap := mapH3 s.heap l f }) :=
  .of_wp fun prog w A R s h => by
    obtain ⟨hp, g, d, tk, os⟩ := s; obtain ⟨hl1, h⟩ := h
    have hsub := FM.sub_map
    have hL1 : Heap.IsList (Shared.heap ⟨hp, g, d, tk, os⟩) l xs := hl1
    wp_walk using wpAny_pyIter_list hL1
    exact ⟨_, rfl, h⟩

theorem call_map_2 {l : Addr} {xs : Array Value} {f : Value} {Q : Value → Shared → Prop} (hl : s.heap.IsList l xs)
    (h : ∀ h', IsMap h' (s.heap.objs.size + 2) (s.heap.objs.size + 1) f → TupAt h' (s.heap.objs.size + 1) [.ref s.heap.objs.size] →
      h'.IsListIter s.heap.objs.size l 0 → h'.objs.size = s.heap.objs.size + 3 →
      (∀ c o, s.heap.get? c = some o → h'.get? c = some o) → Q (.ref (s.heap.objs.size + 2)) { s with heap := h' }) :
    wpAny (model prog w) A (call (.type "map") [f, .ref l]) Q E s := by
  refine callType_new FM.called_map (by decide) (FM.typeCall_map_2 _ _) (FM.newCall_map_2 _ _) (fun obj => F.args_object_init_3 obj _ _) FM.entry_map_new
    (meets_map_new l xs f) ⟨hl, ?_⟩
  have z1 : (mapH1 s.heap l).objs.size = s.heap.objs.size + 1 := Heap.size_push ..
  have z2 : (mapH2 s.heap l).objs.size = s.heap.objs.size + 2 := by rw [Heap.size_push, z1]
  have z3 : (mapH3 s.heap l f).objs.size = s.heap.objs.size + 3 := by rw [Heap.size_push, z2]
  have g3 : (mapH3 s.heap l f).get? (mapH2 s.heap l).objs.size = some _ := Heap.get?_push_size _ rfl
  have g2 : (mapH3 s.heap l f).get? (mapH1 s.heap l).objs.size = some _ := Heap.get?_push_of_some _ (Heap.get?_push_size _ rfl)
  have g1 : (mapH3 s.heap l f).get? s.heap.objs.size = some _ := Heap.get?_push_of_some _ (Heap.get?_push_of_some _ (Heap.get?_push_size _ rfl))
  show _ ∧ _
  rw [z1, z2] at g3
  rw [z1] at g2
  rw [z2]
  exact ⟨⟨_, g3, rfl⟩, h _ g3 ⟨_, g2⟩ ⟨_, g1, rfl, rfl⟩ z3 fun c o x =>
    Heap.get?_push_of_some _ (Heap.get?_push_of_some _ (Heap.get?_push_of_some _ x))⟩

end
end Mine
end
section
open PySem.W
namespace Mine
section
variable {prog : Program} {w : World} {A : Around} {E : Value → Shared → Prop} {s : Shared}

/- one turn of a map over one list -/
theorem next_map_item {m TI it l : Addr} {f x : Value} {i : Nat} {xs : List Value} {Q : Option Value → Shared → Prop} (hm : IsMap s.heap m TI f) (ht : TupAt s.heap TI [.ref it]) (hit : s.heap.IsListIter it l i) (hl : LstAt s.heap l xs)
    (hx : xs[i]? = some x)
    (hQ : ∀ h', h'.IsListIter it l (i + 1) → Heap.SameBut it s.heap h' → ∀ E', wpAny (model prog w) A.in1 (call f [x]) (fun y s' => Q (some y) s') E' { s with heap := h' }) :
    wpAny (model prog w) A (pyNext (.ref m)) Q E s := by
  have hT : s.TypeIs (.ref m) "map" := ⟨_, hm, rfl⟩
  unfold pyNext
  refine wpAny_bind (wpAny_attempt (wpAny_callSpecial?_slot (name := Str.ofString "__next__") hT FM.slot_map_next
    (wpAny_call_entry FM.slot_map_next hT FM.entry_map_next ?_ (FM.args_map_next_1 _))))
  obtain ⟨q, ht⟩ := ht
  show wpAny _ _ (field (.ref m) 0 >>= _) _ _ _
  refine wpAny_bind (wpAny_field hm rfl (x := .ref TI) rfl ?_)
  refine wpAny_bind (wpAny_seqItems ht rfl ?_)
  dsimp only
  rw [← Array.forIn_toList]
  simp only [List.forIn_cons, List.forIn_nil]
  refine wpAny_bind (wpAny_bind ?_)
  refine wpAny_bind (wpAny_holding (wpAny_nextOf_list_item hit hl.isList (by simpa using hx) fun h2 hit2 hs2 => wpAny_pure ?_))
  have hm2 : IsMap h2 m TI f := hs2.extBut _ _ (fun e => by
    subst e
    obtain ⟨o, e1, e2, _⟩ := hit
    obtain rfl := soK (hm.symm.trans e1); exact absurd e2 (ty_ne (by decide))) hm
  refine wpAny_pure ?_
  show wpAny _ _ (field (.ref m) 1 >>= _) _ _ _
  refine wpAny_bind (wpAny_field hm2 rfl (x := f) rfl ?_)
  refine wpAny_bind (wpAny_holding ?_)
  refine wpAny_mono (hQ h2 hit2 hs2 _) (fun y s' hq => ?_) (fun _ _ e => e)
  refine wpAny_bind (wpAny_letGo (wpAny_pure ⟨_, rfl, wpAny_pure hq⟩))

theorem next_map_end {m TI it l : Addr} {f : Value} {i : Nat} {xs : List Value} {Q : Option Value → Shared → Prop} (hh : A.handled = none) (hm : IsMap s.heap m TI f) (ht : TupAt s.heap TI [.ref it]) (hit : s.heap.IsListIter it l i) (hl : LstAt s.heap l xs)
    (hx : xs[i]? = none)
    (hQ : ∀ h', Heap.ExtBut it s.heap h' → Q none { s with heap := h' }) :
    wpAny (model prog w) A (pyNext (.ref m)) Q E s := by
  have hT : s.TypeIs (.ref m) "map" := ⟨_, hm, rfl⟩
  unfold pyNext
  refine wpAny_bind (wpAny_attempt (wpAny_callSpecial?_slot (name := Str.ofString "__next__") hT FM.slot_map_next
    (wpAny_call_entry FM.slot_map_next hT FM.entry_map_next ?_ (FM.args_map_next_1 _))))
  obtain ⟨q, ht⟩ := ht
  show wpAny _ _ (field (.ref m) 0 >>= _) _ _ _
  refine wpAny_bind (wpAny_field hm rfl (x := .ref TI) rfl ?_)
  refine wpAny_bind (wpAny_seqItems ht rfl ?_)
  dsimp only
  rw [← Array.forIn_toList]
  simp only [List.forIn_cons, List.forIn_nil]
  refine wpAny_bind (wpAny_bind ?_)
  refine wpAny_bind (wpAny_holding (wpAny_nextOf_list_end hh hit hl.isList (by simpa using hx) fun h2 e hs2 he => ?_))
  obtain ⟨o, ho, hc⟩ := he
  refine wpAny_bind (wpAny_isInstance (T := "StopIteration") (b := true) ⟨o, ho, hc⟩ isSubtype_stop ?_)
  exact wpAny_pure (hQ _ hs2)

/- what a list takes out of an iterator, turn by turn -/
theorem extend_inv {R : Result → Shared → Prop} {I S : Addr} {n : Nat} (Inv : Nat → Array Value → Shared → Prop) (hn : n ≤ sizeLine) (res : Value)
    (hS : ∀ i acc s, Inv i acc s → acc.size = i)
    (item : ∀ i acc s (Q : Option Value → Shared → Prop) E, i < n → Inv i acc s → (∀ v s' c, s'.heap.get? S = some { cls := .type "list", dict := none, data := .seq acc c, slots := #[] } → Inv (i + 1) (acc.push v) { s' with heap := s'.heap.update S (Obj.mapSeq (·.push v)) } → Q (some v) s') → wpAny (model prog w) A.in1 (pyNext (.ref I)) Q E s)
    (done : ∀ acc s E, Inv n acc s → wpAny (model prog w) A.in1 (pyNext (.ref I)) (fun r s' => r = none ∧ R (.ok (.ret res)) s') E s) :
    ∀ (k i : Nat) (s : Shared) (acc : Array Value), n - i = k → i ≤ n → Inv i acc s →
    codeAny (model prog w) A (.builtin "list.extend.loop" ⟨[.ref S, .ref I, res], []⟩) R s := by
  intro k
  induction k with
  | zero =>
    intro i s acc hk hi hst
    have hin : i = n := by omega
    subst hin
    refine codeAny_builtin F.entry_extend_loop ?_
    rw [Around.under_plainId F.plain_extend_loop _]
    show wpAny _ A.in1 (pyNext (.ref I) >>= _) _ _ s
    refine wpAny_bind (wpAny_mono (done acc s _ hst) (fun r s' h => ?_) fun _ _ e => e)
    obtain ⟨rfl, h⟩ := h
    exact wpAny_pure h
  | succ k ih =>
    intro i s acc hk hi hst
    have hlt : i < n := by omega
    refine codeAny_builtin F.entry_extend_loop ?_
    rw [Around.under_plainId F.plain_extend_loop _]
    show wpAny _ A.in1 (pyNext (.ref I) >>= _) _ _ s
    have hsz := hS i acc s hst
    refine wpAny_bind (item i acc s _ _ hlt hst fun v s' c hS' hst' => ?_)
    show wpAny _ A.in1 (updateSeq S (·.push v) >>= _) _ _ _
    refine wpAny_bind ?_
    exact wpAny_updateSeq hS' rfl (wpAny_pure ⟨plainId_quiet F.plain_extend_loop _, ih (i + 1) _ (acc.push v) (by omega) hlt hst'⟩)
      (by rw [hsz]; omega) (by show (acc.push v).size ≤ sizeLine + 1; rw [Array.size_push, hsz]; omega)
end
end Mine
end
section
open PySem.W
namespace Mine
section
variable {prog : Program} {w : World} {hb : Heap} {n : Nat} {sc : Scope} {nm : List Str}

/- a global called upon arguments that are told by hand -/
theorem call_raw {x : Str} {fv : Value} {p pos : Pos} {e : Expr} {r : List Expr} (G : GN hb x fv) (K : Keeps1 hb fv) (hp : (e :: r).all noStar = true) {env : Env} {A : Around} {s : Shared} {Q E : Value → Shared → Prop}
    (hk : env.scope.kind = .function) (hg : env.globals = mainGlobals) (hbl : env.builtins = builtinsNs) (hx : env.scope.names.lookup x = some .globalImplicit) (hst : hb.StaysIn s.heap)
    (h : wpAny (model prog w) A (spliced (backTo pos (starEach (e :: r) env))) (fun ys s₁ => hb.StaysIn s₁.heap ∧ wpAny (model prog w) A (call fv ys) Q E s₁) E s) :
    wpAny (model prog w) A (eval (.Call (.Name x p) (e :: r) [] pos) env) Q E s := by
  refine Call_Name rfl (name_global G hk hg hbl hx hst ?_)
  refine callWith_of (P := fun h => hb.StaysIn h) (by rw [plain_backTo hp]; rfl) (K (model prog w)) ?_
  have hp' := hp
  simp only [List.all_cons, Bool.and_eq_true] at hp'
  rw [starEach_cons hp'.1] at h ⊢
  exact evalArgs_plain h
theorem spl_nil {M : Model} {A : Around} {s : Shared} {Q : List Value → Shared → Prop} {E : Value → Shared → Prop} {pos : Pos} {env : Env} (h : Q [] s) : wpAny M A (spliced (backTo pos (starEach [] env))) Q E s := wpAny_pure h
theorem spl_cons {M : Model} {A : Around} {s : Shared} {Q : List Value → Shared → Prop} {E : Value → Shared → Prop} {pos : Pos} {env : Env} {e : Expr} {rest : List Expr} (hn : noStar e = true)
    (h : wpAny M A (eval e env) (fun y s₁ => wpAny M A (spliced (backTo pos (starEach rest env))) (fun ys s₂ => Q (y :: ys) s₂) E s₁) E s) : wpAny M A (spliced (backTo pos (starEach (e :: rest) env))) Q E s := by
  rw [starEach_cons hn]
  show wpAny _ _ (spliced ((false, eval e env) :: backTo pos (starEach rest env))) _ _ s
  unfold spliced
  refine wpAny_bind (wpAny_mono h (fun y s₁ h₁ => ?_) fun _ _ e => e)
  simp only [Bool.false_eq_true, if_false]
  refine wpAny_bind (wpAny_pure (wpAny_bind (wpAny_holding ?_)))
  exact wpAny_mono h₁ (fun ys s₂ h₂ => wpAny_pure h₂) fun _ _ e => e

theorem rps_str_any {h h' : Heap} {Z Z' : List Addr} : ∀ {l : List Str} {vs : List Value}, RPs h Z (l.map .str) vs → RPs h' Z' (l.map .str) vs
  | [], [], _ => trivial
  | _ :: _, _ :: _, x => ⟨by have := x.1; simpa [RP] using this, rps_str_any x.2⟩
  | [], _ :: _, x => x.elim
  | _ :: _, [], x => x.elim
noncomputable def strOf (v : Option V) : Option Str := v.bind strV

/- what stands between the turns -/
inductive MapI (hb : Heap) (s : Shared) (h0 : Heap) (Z : List Addr) (it S l : Addr) (N : Nat) (es : List Str) (i : Nat) (acc : Array Value) (s' : Shared) : Prop
  | mk (h : Heap) (tk c : Nat) (e : s' = { s with heap := h, toks := tk }) (sz : acc.size = i) (hi : i ≤ N) (hit : h.IsListIter it l i) (kb : KB (fun a => a = it ∨ a = S) s.heap h) (kp : Kp h0 h) (st : hb.StaysIn h)
      (hS : h.get? S = some { cls := .type "list", dict := none, data := .seq acc c, slots := #[] }) (ra : RPs h Z ((es.take i).map .str) acc.toList)
theorem strOf_at {v : Option V} {x : Str} (h : strOf v = some x) : v = some (.p (.str x)) := bindK h fun a h1 h2 => by rw [h1, strV_at h2]
theorem collect_map {m TI it l : Addr} {fv : Value} {sem : Mem → List V → Option V} (B : BiSem prog w hb n fv sem) {A : Around} {s : Shared} {h0 : Heap} {Z α : List Addr} {mem : Mem} {Q : List Value → Shared → Prop} {E : Value → Shared → Prop}
    (hA : ∀ h, Kp h0 h → Rm hb n A.in1.in1 h) (hh : A.handled = none) (me : Me prog w hb h0 Z α mem) (k0 : Kp h0 s.heap) (hst : hb.StaysIn s.heap) (hst0 : hb.StaysIn h0)
    (hm : IsMap s.heap m TI fv) (hTI : TupAt s.heap TI [.ref it]) (hit : s.heap.IsListIter it l 0) (hin : h0.get? it = none)
    {xs : List Value} {ds es : List Str} (hl : LstAt s.heap l xs) (rp : RPs s.heap Z (ds.map .str) xs) (hlen : ds.length ≤ sizeLine)
    (hsem : ds.mapM (fun d => strOf (sem mem [.p (.str d)])) = some es)
    (hQ : ∀ h tk acc, Kp h0 h → hb.StaysIn h → RPs h Z (es.map .str) acc → Q acc { s with heap := h, toks := tk }) : wpAny (model prog w) A (collect (.ref m)) Q E s := by
  obtain ⟨hel, heg⟩ := mapM_get hsem
  have exl := rp.length
  rw [List.length_map] at exl
  have hmI : m ≠ it := fun e => by
    subst e
    obtain ⟨o, e1, e2, _⟩ := hit
    obtain rfl := soK (hm.symm.trans e1); exact absurd e2 (ty_ne (by decide))
  have hTIit : TI ≠ it := fun e => by
    subst e
    obtain ⟨o, e1, e2, _⟩ := hit
    obtain ⟨q, e3⟩ := hTI
    obtain rfl := soK (e3.symm.trans e1); exact absurd e2 (ty_ne (by decide))
  have hlit : l ≠ it := fun e => by
    subst e
    obtain ⟨o, e1, e2, _⟩ := hit
    obtain ⟨q, e3⟩ := hl
    obtain rfl := soK (e3.symm.trans e1); exact absurd e2 (ty_ne (by decide))
  obtain ⟨S, hSd⟩ : ∃ S, S = s.heap.objs.size := ⟨_, rfl⟩
  have hSn : s.heap.get? S = none := Heap.get?_none_of_le (by omega)
  have hS0 : h0.get? S = none := k0.none_of hSn
  have neS : ∀ {a o}, s.heap.get? a = some o → a ≠ S := fun {a o} e q => by rw [q, hSn] at e; exact noK e
  have hmS : m ≠ S := neS hm
  have hitS : it ≠ S := by obtain ⟨o, e1, _⟩ := hit; exact neS e1
  have hbS : hb.get? S = none := by cases q : hb.get? S with | none => rfl | some o => have := hst S o q; exact nos hSn this
  have hbit : hb.get? it = none := by
    cases q : hb.get? it with
    | none => rfl
    | some o =>
      have := hst0 it o q
      exact nos hin this
  have hSZ : S ∉ Z := fun q => by obtain ⟨o, e⟩ := me.zin S q; exact nos hS0 e
  have hitZ : it ∉ Z := fun q => by obtain ⟨o, e⟩ := me.zin it q; exact nos hin e
  unfold collect
  refine wpAny_bind (wpAny_runValue (codeAny_builtin F.entry_proto_collect ?_))
  rw [Around.under_plainId F.plain_proto_collect _]
  show wpAny _ A.in1 (newList [] >>= fun l => again (.builtin "list.__iadd__" ⟨[l, .ref m], []⟩)) _ _ s
  refine wpAny_bind (wpAny_newObj_type ?_)
  refine wpAny_pure ⟨plainId_quiet F.plain_list_iadd _, codeAny_builtin F.entry_list_iadd ?_⟩
  rw [Around.under_plainId F.plain_list_iadd _]
  rw [← hSd]
  show wpAny _ A.in1 (Builtin.List.listExtendWith (.ref S) (.ref m) (.ref S)) _ _ _
  unfold Builtin.List.listExtendWith
  have hm1 : IsMap (s.heap.push { cls := .type "list", data := .seq ([] : List Value).toArray }) m TI fv := Heap.get?_push_of_some _ hm
  have hT1 : Shared.TypeIs { s with heap := s.heap.push { cls := .type "list", data := .seq ([] : List Value).toArray } } (.ref m) "map" := ⟨_, hm1, rfl⟩
  refine wpAny_bind (wpAny_typeOf hT1 ?_)
  have h1 : Builtin.List.listSameRef (.ref S) (.ref m) = false := by simp [Builtin.List.listSameRef, Ne.symm hmS]
  have h2 : (Value.type "map" == Value.type "list") = false := by decide
  have h3 : (Value.type "map" == Value.type "tuple") = false := by decide
  simp only [h1, h2, h3, Bool.or_false, Bool.false_eq_true, if_false]
  refine wpAny_bind (pyIter_map hm1 ?_)
  refine wpAny_bind (wpAny_holding ?_)
  unfold Builtin.List.listLengthHint
  refine wpAny_bind (wpAny_specialOf hT1 FM.map_no_len ?_)
  show wpAny _ A.in1 (specialOf (Value.ref m) (Str.ofString "__length_hint__") >>= _) _ _ _
  refine wpAny_bind (wpAny_specialOf hT1 FM.map_no_hint ?_)
  refine wpAny_pure ?_
  show wpAny _ A.in1 (rule "list.extend.makes-room" >>= fun _ => Builtin.List.listTouch (.ref S) >>= fun _ =>
    again (.builtin "list.extend.loop" ⟨[.ref S, .ref m, .ref S], []⟩)) _ _ _
  refine wpAny_bind (wpAny_rule ?_)
  have hS₁ : (s.heap.push { cls := .type "list", data := .seq ([] : List Value).toArray }).get? S = some { cls := .type "list", data := .seq ([] : List Value).toArray } := by rw [hSd]; exact Heap.get?_push_size _ rfl
  refine wpAny_bind ?_
  show wpAny _ A.in1 (updateSeq S (·.push .none) >>= fun _ => updateSeq S (·.pop)) _ _ _
  refine wpAny_bind (wpAny_updateSeq hS₁ rfl ?_)
  have hS₂ := Heap.get?_update_self (Obj.mapSeq (·.push Value.none)) hS₁ rfl
  refine wpAny_updateSeq hS₂ rfl ?_
  have hS₃ := Heap.get?_update_self (Obj.mapSeq (·.pop)) hS₂ rfl
  have oth : ∀ b o, s.heap.get? b = some o →
      (((s.heap.push { cls := .type "list", data := .seq ([] : List Value).toArray }).update S (Obj.mapSeq (·.push Value.none))).update S (Obj.mapSeq (·.pop))).get? b = some o :=
    fun b o e => (Heap.get?_update_other _ _ (Ne.symm (neS e))).trans ((Heap.get?_update_other _ _ (Ne.symm (neS e))).trans (Heap.get?_push_of_some _ e))
  generalize ((s.heap.push { cls := .type "list", data := .seq ([] : List Value).toArray }).update S (Obj.mapSeq (·.push Value.none))).update S (Obj.mapSeq (·.pop)) = H3 at hS₃ oth ⊢
  refine wpAny_pure ⟨plainId_quiet F.plain_extend_loop _, extend_inv (A := A) (n := ds.length) (MapI hb s h0 Z it S l ds.length es) hlen (.ref S) (fun i acc s' ⟨_, _, _, _, e, _, _, _, _, _, _, _⟩ => e) ?_ ?_ ds.length 0 _ #[] rfl (Nat.zero_le _) ?_⟩
  · rintro i acc s' Q' E' hi ⟨h, tk, c, rfl, hsz, hile, hit', kb, kp, stays, hSx, ra⟩ hnext
    have hix : i < xs.length := by omega
    have hxi : xs[i]? = some xs[i] := List.getElem?_eq_getElem hix
    have keepH : ∀ {a o}, s.heap.get? a = some o → a ≠ it → o.cls ≠ .type "frame" → h.get? a = some o := fun {a o} e h1 h2 => by
      obtain ⟨sl, e1, q⟩ := kb a o e (by rintro (r | r); exact h1 r; exact neS e r)
      rw [q h2] at e1; exact e1
    have hm' : IsMap h m TI fv := keepH hm hmI (ty_ne (by decide))
    have hTI' : TupAt h TI [.ref it] := by obtain ⟨q, e⟩ := hTI; exact ⟨q, keepH e hTIit (ty_ne (by decide))⟩
    have hl' : LstAt h l xs := by obtain ⟨q, e⟩ := hl; exact ⟨q, keepH e hlit (ty_ne (by decide))⟩
    refine next_map_item (s := { s with heap := h, toks := tk }) hm' hTI' hit' hl' hxi fun h2 hit2 hs2 E2 => ?_
    replace hs2 : Heap.SameBut it h h2 := hs2
    have kp2 : Kp h0 h2 := kp.sameBut hs2 hin
    have stays2 : hb.StaysIn h2 := fun b o e => (hs2.2 b (fun q => by rw [q, hbit] at e; exact noK e)).trans (stays b o e)
    obtain ⟨d, hd1, hd2⟩ := rp.get' hxi
    rw [List.getElem?_map, Option.map_eq_some_iff] at hd1
    obtain ⟨x, hx1, rfl⟩ := hd1
    obtain ⟨e, he2⟩ : ∃ e, es[i]? = some e := ⟨es[i]'(by omega), List.getElem?_eq_getElem _⟩
    obtain ⟨x', hx', hxe⟩ := heg i e he2
    obtain rfl := soK (hx1.symm.trans hx')
    have hse : sem mem [.p (.str x)] = some (.p (.str e)) := strOf_at hxe
    refine B Z α A.in1.in1 { s with heap := h2, toks := tk } mem [.p (.str x)] _ [xs[i]] _ _ (hA h2 kp2) (me.kp kp2) stays2 ⟨?_, trivial⟩ hse fun y h3 t3 ry k3 s3 => ?_
    · simp only [RV, RP] at hd2 ⊢; exact hd2
    have hS3 : h3.get? S = some { cls := .type "list", dict := none, data := .seq acc c, slots := #[] } := k3.exact ((hs2.2 S (Ne.symm hitS)).trans hSx) (ty_ne (by decide))
    have hs4 : Heap.SameBut S h3 (h3.update S (Obj.mapSeq (·.push y))) := Heap.SameBut.update ..
    refine hnext y _ c hS3 ⟨_, t3, _, rfl, by simp [hsz], hi, ?_, ?_, (kp2.trans k3).sameBut hs4 hS0, fun b o e => (hs4.2 b (fun q => by rw [q, hbS] at e; exact noK e)).trans (s3 b o e), Heap.get?_update_self _ hS3 rfl, ?_⟩
    · obtain ⟨o, e1, e2, e3⟩ := hit2
      exact ⟨o, (hs4.2 it hitS).trans (k3.exact e1 (by rw [e2]; exact ty_ne (by decide))), e2, e3⟩
    · intro a o ea hna
      obtain ⟨sl, e1, q1⟩ := kb a o ea hna
      have e2 := (hs2.2 a (fun q => hna (.inl q))).trans e1
      obtain ⟨sl3, e3, q3⟩ := k3 a _ e2
      refine ⟨sl3, (hs4.2 a (fun q => hna (.inr q))).trans e3, fun hc => ?_⟩
      rw [q3 hc, q1 hc]
    · have : es.take (i + 1) = es.take i ++ [e] := by rw [List.take_succ, he2]; rfl
      rw [this, List.map_append]
      simp only [Array.toList_push]
      exact (rps_str_any ra).append ⟨by simp only [RV, RP] at ry; simpa [RP] using ry, trivial⟩
  · rintro acc s' E' ⟨h, tk, c, rfl, hsz, hile, hit', kb, kp, stays, hSx, ra⟩
    have keepH : ∀ {a o}, s.heap.get? a = some o → a ≠ it → o.cls ≠ .type "frame" → h.get? a = some o := fun {a o} e h1 h2 => by
      obtain ⟨sl, e1, q⟩ := kb a o e (by rintro (r | r); exact h1 r; exact neS e r)
      rw [q h2] at e1; exact e1
    have hm' : IsMap h m TI fv := keepH hm hmI (ty_ne (by decide))
    have hTI' : TupAt h TI [.ref it] := by obtain ⟨q, e⟩ := hTI; exact ⟨q, keepH e hTIit (ty_ne (by decide))⟩
    have hl' : LstAt h l xs := by obtain ⟨q, e⟩ := hl; exact ⟨q, keepH e hlit (ty_ne (by decide))⟩
    refine next_map_end (s := { s with heap := h, toks := tk }) (A := A.in1) hh hm' hTI' hit' hl' (List.getElem?_eq_none_iff.mpr (by omega)) fun h2 hk2 => ⟨rfl, ?_⟩
    replace hk2 : Heap.ExtBut it h h2 := hk2
    have hSx2 := hk2 S _ (Ne.symm hitS) hSx
    show wpAny _ A (load S >>= _) _ _ _
    refine wpAny_bind (wpAny_load hSx2 (wpAny_pure ?_))
    refine hQ h2 tk acc.toList ?_ ?_ ?_
    · intro b o e
      obtain ⟨sl, e1, q⟩ := kp b o e
      exact ⟨sl, hk2 b _ (fun r => by rw [r, hin] at e; exact noK e) e1, q⟩
    · exact fun b o e => hk2 b o (fun q => by rw [q, hbit] at e; exact noK e) (stays b o e)
    · have : es.take ds.length = es := List.take_of_length_le (by omega)
      rw [this] at ra
      exact rps_str_any ra
  · refine ⟨H3, s.toks, _, rfl, rfl, Nat.zero_le _, ?_, ?_, ?_, fun b o e => oth b o (hst b o e), hS₃, trivial⟩
    · obtain ⟨o, e1, e2⟩ := hit
      exact ⟨o, oth _ _ e1, e2⟩
    · exact fun a o e _ => ⟨o.slots, oth a o e, fun _ => rfl⟩
    · exact k0.trans (.of oth)
end
end Mine
end
section
open PySem.W
open AutoSeq1 (wpAny_loadPart')
namespace Mine
section
variable {prog : Program} {w : World} {hb : Heap} {n : Nat} {sc : Scope} {nm : List Str}

theorem code_tuple_map {A : Around} {E : Value → Shared → Prop} {s : Shared} {m TI : Addr} {fv : Value} {Q₁ : Value → Shared → Prop} (hm : IsMap s.heap m TI fv)
    (hc : ∀ {Q : List Value → Shared → Prop} {E}, (∀ h tk acc, acc.length ≤ sizeLine → Q₁ (.ref h.objs.size) { s with heap := h.push { cls := .type "tuple", data := .seq acc.toArray }, toks := tk } → Q acc { s with heap := h, toks := tk }) → wpAny (model prog w) A.in1 (collect (.ref m)) Q E s) :
    codeAny (model prog w) A (.call (.builtin "tuple.__new__") ⟨[.type "tuple", .ref m], []⟩) (wants Q₁ E) s := by
  refine codeAny_of_tree ?_
  show wpAny _ A.in1 (do checkBuiltinCall "tuple.__new__" ⟨[.type "tuple", .ref m], []⟩; again (.builtin "tuple.__new__" ⟨[.type "tuple", .ref m], []⟩)) _ _ s
  refine wpAny_bind (wpAny_of_eq (F.newCall_tuple_1 _) (wpAny_pure ⟨plainId_quiet F.plain_tuple_new _, codeAny_builtin F.entry_tuple_new ?_⟩))
  rw [Around.under_plainId F.plain_tuple_new _]
  have hsub := sub_tuple_self
  have hinit := init_tuple_lookup
  have hmh := madeHere_tuple
  have hTI : s.TypeIs (.ref m) "map" := ⟨_, hm, rfl⟩
  wp_walk using wpAny_typeOf hTI, hc
  intro h tk acc hle hq
  show wpAny _ _ (Builtin.Tuple.tupleExact acc.toArray >>= fun v => ret v) _ _ _
  unfold Builtin.Tuple.tupleExact
  refine wpAny_bind (wpAny_newObj_type ?_ (by show acc.toArray.size ≤ sizeLine; simpa using hle))
  exact wpAny_pure hq

theorem Rm.deeper {A : Around} {h : Heap} (rm : Rm hb (n + 1) A h) : Rm hb n A.in1.in1.in1.in1 h := by
  obtain ⟨h1, h2, h3, h4⟩ := rm
  exact ⟨h1, by show A.depth + n ≤ 900; omega, by show A.units + 1 + 1 + 1 + 1 + 20 * n + 200 ≤ cLine; omega, h4⟩

theorem call_tuple_map {A : Around} {E : Value → Shared → Prop} {s : Shared} {m TI it l : Addr} {fv : Value} {sem : Mem → List V → Option V} (B : BiSem prog w hb n fv sem) {h0 : Heap} {Z α : List Addr} {mem : Mem} {Q : Value → Shared → Prop}
    (rm : Rm hb (n + 1) A h0) (me : Me prog w hb h0 Z α mem) (k0 : Kp h0 s.heap) (hst : hb.StaysIn s.heap) (hst0 : hb.StaysIn h0)
    (hm : IsMap s.heap m TI fv) (hTI : TupAt s.heap TI [.ref it]) (hit : s.heap.IsListIter it l 0) (hin : h0.get? it = none)
    {xs : List Value} {ds es : List Str} (hl : LstAt s.heap l xs) (rp : RPs s.heap Z (ds.map .str) xs) (hlen : ds.length ≤ sizeLine)
    (hsem : ds.mapM (fun d => strOf (sem mem [.p (.str d)])) = some es)
    (hQ : ∀ y h tk, RV h Z α (.p (.tup (es.map .str))) y → Kp h0 h → hb.StaysIn h → Q y { s with heap := h, toks := tk }) :
    wpAny (model prog w) A (call (.type "tuple") [.ref m]) Q E s := by
  refine callType_codes (Q₁ := fun obj s₁ => s₁.TypeIs obj "tuple" ∧ Q obj s₁) F.called_tuple (F.typeCall_tuple_1 _) F.entry_object_init
    (code_tuple_map hm fun hq => ?_) fun obj s₁ h₁ => ?_
  · refine collect_map B (h0 := h0) (Z := Z) (α := α) (mem := mem) (fun h k => (Rm.deeper rm).kp k) rm.hd me k0 hst hst0 hm hTI hit hin hl rp hlen hsem fun h tk acc k st ra => ?_
    have hal := ra.length
    rw [List.length_map] at hal
    have hes := (mapM_get hsem).1
    refine hq h tk acc (by omega) ⟨⟨_, Heap.get?_push_size _ rfl, rfl⟩, ?_⟩
    refine hQ _ _ tk ?_ (k.push _) (stays_push st _)
    exact RP.newTup ra
  · exact ⟨h₁.1, F.args_object_init_2 obj _, object_init_meets F.called_tuple.init.lookup F.called_tuple.made (by decide) prog w A.in1 _ s₁ ⟨h₁.1, rfl, h₁.2⟩⟩

noncomputable def semTM (sem : Mem → List V → Option V) (mem : Mem) (vs : List V) : Option V := match vs with
  | [v] => match derP mem v with
    | some (.lst l) => (strsP l).bind fun ds => if lenOk ds.length then (ds.mapM fun d => strOf (sem mem [.p (.str d)])).map fun es => .p (.tup (es.map .str)) else none
    | _ => none
  | _ => none
/- tuple(map(f, e)) -/
theorem sim_tm {g : Str} {fv : Value} {sem : Mem → List V → Option V} {p1 p2 p3 p4 p5 : Pos} {e : Expr} {f : XFs} (Gt : GN hb "tuple" (.type "tuple")) (Gm : GN hb "map" (.type "map")) (Gf : GN hb g fv) (B : BiSem prog w hb n fv sem)
    (ha : SimEs prog w hb (n + 1) sc nm [e] f) (hn : noStar e = true := by rfl)
    (h1 : sc.names.lookup ("tuple" : Str) = some .globalImplicit := by decide +kernel) (h2 : sc.names.lookup ("map" : Str) = some .globalImplicit := by decide +kernel) (h3 : sc.names.lookup g = some .globalImplicit := by decide +kernel) :
    SimE prog w hb (n + 1) sc nm (.Call (.Name "tuple" p1) [.Call (.Name "map" p2) [.Name g p3, e] [] p4] [] p5) (xCall (semTM sem) f) := by
  intro env Z α A s mem sl v Q E hsc rm st hf hQ
  subst hsc
  simp only [xCall, Option.bind_eq_some_iff] at hf
  obtain ⟨vs, hvs, hr⟩ := hf
  unfold semTM at hr
  split at hr
  · split at hr
    · rename_i l hd
      simp only [Option.bind_eq_some_iff] at hr
      obtain ⟨ds, hds, hr⟩ := hr
      split at hr
      · rename_i hlen
        simp only [Option.map_eq_some_iff] at hr
        obtain ⟨es, hes, rfl⟩ := hr
        refine call_raw Gt (keeps1_type _) rfl st.fm.kind st.fm.glob st.fm.blt h1 st.stays (spl_cons rfl ?_)
        refine call_raw Gm (keeps1_type _) (by simp only [List.all_cons, List.all_nil, hn]; rfl) st.fm.kind st.fm.glob st.fm.blt h2 st.stays (spl_cons rfl ?_)
        refine name_global Gf st.fm.kind st.fm.glob st.fm.blt h3 st.stays ?_
        refine ha env Z α A s mem sl _ _ _ _ rfl rm st hvs fun ys h1 t1 r1 k1 s1 => ⟨s1, ?_⟩
        obtain ⟨y, rfl, ry⟩ := one_of r1
        obtain ⟨a, ws, rfl, la, rp⟩ := derP_lst (st.me.kp k1) hd ry
        rw [strsP_get hds] at rp
        refine call_map_2 la.isList fun h2 hm hTI hit hsz hk => spl_nil ⟨fun b o e => hk b o (s1 b o e), ?_⟩
        replace hk : ∀ b o, h1.get? b = some o → h2.get? b = some o := hk
        have k2 : Kp h1 h2 := .of hk
        refine call_tuple_map (h0 := h1) (Z := Z) (α := α) (mem := mem) B (rm.kp k1) (st.me.kp k1) k2 (fun b o e => hk b o (s1 b o e)) s1 hm hTI hit (Heap.get?_none_of_le (Nat.le_refl _)) (k2.lst la) (rps_str_any rp) ?_ hes fun y h tk ry k3 s3 => ?_
        · simp only [lenOk, decide_eq_true_eq] at hlen
          rw [sizeLine_eq]; omega
        · exact hQ y h tk ry (k1.trans k3) s3
      · exact noK hr
    · exact noK hr
  · exact noK hr
end
end Mine
end
section
open PySem.W
namespace Mine
section
variable {prog : Program} {w : World} {A : Around} {E : Value → Shared → Prop} {s : Shared}

theorem pyHash_true {Q : Int → Shared → Prop} (h : ∀ tk, Q 1 { s with toks := tk }) : wpAny (model prog w) A (pyHash (.bool true)) Q E s := by
  unfold pyHash
  have hv : [Value.bool true].any Value.onHeap = false := rfl
  have hT : s.TypeIs (.bool true) "bool" := rfl
  refine wpAny_bind ?_
  rw [cRoomFor, if_neg (by rw [hv]; exact Bool.false_ne_true)]; refine wpAny_pure ?_
  refine wpAny_bind (wpAny_specialOf hT F.slot_bool_hash.lookup ?_)
  show wpAny _ _ (if (some (Value.builtin "int.__hash__") == some Value.none) = true then _ else _) Q E s
  rw [if_neg (by rw [beq_builtin_none]; exact Bool.false_ne_true)]
  refine wpAny_bind (wpAny_specialOf hT F.slot_bool_hash.lookup ?_)
  show wpAny _ _ (callSpecialIfBoundUnlessNone? (.bool true) "__hash__" _ >>= _) Q E s
  refine wpAny_bind (wpAny_callSpecialIfBoundUnlessNone?_slot hT F.slot_bool_hash
    (wpAny_call_entry F.slot_bool_hash hT entry_int_hash
      (show wpAny _ _ (do ret (← mkInt (rawHash 1))) _ _ s from wpAny_ret_mkInt ?_) (args_int_hash _)))
  have hr := rawHash_range 1
  show wpAny _ _ (if (decide (-(2 : Int) ^ 63 ≤ rawHash 1) && decide (rawHash 1 < 2 ^ 63)) = true then _ else _) Q E _
  rw [if_pos (by rw [decide_eq_true hr.1, decide_eq_true hr.2]; rfl)]
  exact wpAny_pure (h _)

noncomputable def tabT (led : Bool) : SetTable := { mask := 7, place := #[1], dummies := #[], finger := 0, led := led, moves := 0, plain := true }
/- a set: empty, or with True alone -/
noncomputable def SetE (h : Heap) (D : Addr) (led : Bool) : Prop := ∃ ep, h.get? D = some { cls := .type "set", dict := none, data := .set #[] ep (.fresh 0 0 led), slots := #[] }
noncomputable def SetT (h : Heap) (D : Addr) (led : Bool) : Prop := ∃ ep, h.get? D = some { cls := .type "set", dict := none, data := .set #[(1, .bool true)] ep (tabT led), slots := #[] }
noncomputable def byText (w : World) : Bool := w.params.followText "set-order"

theorem newSet_E {Q : Value → Shared → Prop} (h : SetE (s.heap.push { cls := .type "set", data := .set #[] 0 (.fresh 0 0 (!byText w)) }) s.heap.objs.size (!byText w) →
      Q (.ref s.heap.objs.size) { s with heap := s.heap.push { cls := .type "set", data := .set #[] 0 (.fresh 0 0 (!byText w)) } }) :
    wpAny (model prog w) A (newSet (.type "set")) Q E s := by
  unfold newSet setsByText
  refine wpAny_bind (wpAny_bind (wpAny_askSetting (wpAny_pure ?_)))
  exact wpAny_newObj_type (h ⟨0, Heap.get?_push_size _ rfl⟩)

theorem set_add_start {D : Addr} {o : Obj} {es : Array (Int × Value)} {ep : Nat} {t : SetTable} {Q : Value → Shared → Prop} (ho : s.heap.get? D = some o) (hc : o.cls = .type "set") (hd : o.data = .set es ep t)
    (h : ∀ (A' : Around) (tk : Nat) (Q' : Bool → Shared → Prop) (E' : Value → Shared → Prop), (∀ b s', Q .none s' → Q' b s') → wpAny (model prog w) A' (setAddHashed D (.bool true) 1) Q' E' { s with toks := tk }) :
    wpAny (model prog w) A (call (.builtin "set.add") [.ref D, .bool true]) Q E s := by
  have hT : s.TypeIs (.ref D) "set" := ⟨o, ho, hc⟩
  refine wpAny_call_entry F.slot_set_add hT F.entry_set_add ?_ (F.args_set_add_2 _ _)
  unfold Builtin.«set.add» Builtin.Frozenset.oneOther
  simp only [List.isEmpty_nil, bind_assoc]
  unfold Builtin.Frozenset.addrOf setAdd
  refine wpAny_bind (wpAny_pure ?_)
  try dsimp only
  refine wpAny_bind (wpAny_pure ?_)
  try dsimp only
  refine wpAny_bind ?_
  refine wpAny_holding ?_
  refine wpAny_bind (pyHash_true fun tk => ?_)
  refine h _ tk _ _ fun b s' hq => ?_
  show wpAny _ _ (ret Value.none) _ _ _
  exact wpAny_pure ⟨_, rfl, hq⟩

theorem set_add_E {D : Addr} {led : Bool} {Q : Value → Shared → Prop} (hD : SetE s.heap D led)
    (h : ∀ h' tk, SetT h' D led → Heap.SameBut D s.heap h' → Q .none { s with heap := h', toks := tk }) :
    wpAny (model prog w) A (call (.builtin "set.add") [.ref D, .bool true]) Q E s := by
  obtain ⟨ep, ho⟩ := hD
  refine set_add_start ho rfl rfl fun A' tk Q' E' hq => ?_
  unfold setAddHashed setAddHashedIn
  refine wpAny_holding (wpAny_bind (wpAny_setState_of (s := { s with toks := tk }) ho rfl rfl ?_))
  dsimp only
  rw [show byScan (.bool true) (#[] : Array (Int × Value)) = true from by decide +kernel]
  simp only [↓reduceIte]
  unfold setAddByScan
  refine wpAny_bind ?_
  refine wpAny_bind (wpAny_rule ?_)
  refine wpAny_bind ?_
  show wpAny _ _ (setScanFrom D (.bool true) 1 true [] 0) _ _ _
  unfold setScanFrom
  refine wpAny_pure ?_
  rw [show layNew (SetTable.fresh 0 0 led) #[] 1 (.bool true) = (#[(1, .bool true)], tabT led, false, false) from by cases led <;> decide +kernel]
  dsimp only
  refine wpAny_bind (wpAny_pure ?_)
  rw [show (tabT led).plain = true from rfl]
  simp only [↓reduceIte]
  refine wpAny_bind (wpAny_pure ?_)
  simp only [↓reduceIte]
  refine wpAny_bind (wpAny_storeSet_of (s := { s with toks := tk }) ho rfl ?_ (by show (1:Nat) ≤ sizeLine; rw [sizeLine_eq]; omega))
  rw [show (tabT led).tooFull = false from by cases led <;> decide +kernel]
  refine wpAny_pure ?_
  refine wpAny_pure ?_
  refine hq _ _ (h _ tk ⟨ep + 1, ?_⟩ (Heap.SameBut.update ..))
  exact Heap.get?_update_self _ ho rfl
theorem set_add_T {D : Addr} {led : Bool} {Q : Value → Shared → Prop} (hD : SetT s.heap D led) (h : ∀ tk, Q .none { s with toks := tk }) :
    wpAny (model prog w) A (call (.builtin "set.add") [.ref D, .bool true]) Q E s := by
  obtain ⟨ep, ho⟩ := hD
  refine set_add_start ho rfl rfl fun A' tk Q' E' hq => ?_
  unfold setAddHashed setAddHashedIn
  refine wpAny_holding (wpAny_bind (wpAny_setState_of (s := { s with toks := tk }) ho rfl (by cases led <;> decide +kernel) ?_))
  dsimp only
  rw [show byScan (.bool true) (#[(1, .bool true)] : Array (Int × Value)) = true from by decide +kernel]
  simp only [↓reduceIte]
  unfold setAddByScan
  refine wpAny_bind ?_
  refine wpAny_bind (wpAny_rule ?_)
  refine wpAny_bind ?_
  show wpAny _ _ (setScanFrom D (.bool true) 1 true [(1, .bool true)] 0) _ _ _
  unfold setScanFrom
  simp only [beq_self_eq_true, ↓reduceIte]
  refine wpAny_bind (wpAny_setEpoch_of (s := { s with toks := tk }) ho rfl (by cases led <;> decide +kernel) ?_)
  refine wpAny_bind ?_
  unfold eqBool
  rw [if_pos (by rfl)]
  refine wpAny_bind (wpAny_rule (wpAny_pure ?_))
  simp only [Bool.and_self, ↓reduceIte]
  refine wpAny_pure ?_
  exact wpAny_pure (wpAny_pure (hq _ _ (h tk)))
end
end Mine
end
section
open PySem.W
namespace Mine
namespace FS
theorem owner_si : Manifest.owners.lookup (String.ofList ['r', 'o', 't', 'a', 'r', 'e', 't', 'i', '_', 't', 'e', 's'].reverse) = some Manifest.sig_set_iterator := by kernel_rfl
theorem slot_si_next : Slot "set_iterator" "__next__" "set_iterator.__next__" :=
  .of (owner := "set_iterator") (n := "__next__") (by rw [typeLookup_type, builtinLookup_eq_fast]; kernel_rfl) (by decide +kernel) (by decide +kernel) (by decide +kernel)
    (by first | exact .inl (by decide +kernel) | exact .inr (by decide +kernel)) (by rw [isSubtype_type]; kernel_rfl)
theorem entry_si_next : entryFor table "set_iterator.__next__" = some Builtin.«set_iterator.__next__» := entryFor_of_tree (by kernel_rfl)
theorem args_si_next_1 (a : Value) : argsOk "set_iterator.__next__" ⟨[a], []⟩ := by
  unfold argsOk; rw [signature?_of (id := "set_iterator.__next__") (n := ['_', '_', 't', 'x', 'e', 'n', '_', '_']) (o := ['r', 'o', 't', 'a', 'r', 'e', 't', 'i', '_', 't', 'e', 's']) (by kernel_rfl) owner_si]; kernel_rfl
theorem entry_set_iter : entryFor table "set.__iter__" = some Builtin.«frozenset.__iter__» :=
  entryFor_alias (id' := "frozenset.__iter__") (by kernel_rfl) rfl (by decide +kernel) (by kernel_rfl)
end FS

end Mine
end
section
open PySem.W
namespace Mine
section
variable {prog : Program} {w : World} {A : Around} {E : Value → Shared → Prop} {s : Shared}
noncomputable abbrev IsSI (h : Heap) (I D : Addr) (a b : Nat) (ep : Nat) : Prop := h.get? I = some { cls := .type "set_iterator", dict := none, data := .fields #[rawInt a, rawInt b, .ref D, rawInt 1, rawInt ep], slots := #[] }
noncomputable abbrev SetTe (h : Heap) (D : Addr) (led : Bool) (ep : Nat) : Prop := h.get? D = some { cls := .type "set", dict := none, data := .set #[(1, .bool true)] ep (tabT led), slots := #[] }

theorem pyIter_set {D : Addr} {led : Bool} {ep : Nat} {Q : Value → Shared → Prop} (hD : SetTe s.heap D led ep)
    (h : ∀ h', IsSI h' s.heap.objs.size D 0 0 ep → Heap.ExtBut s.heap.objs.size s.heap h' → Q (.ref s.heap.objs.size) { s with heap := h' }) : wpAny (model prog w) A (pyIter (.ref D)) Q E s := by
  have hT : s.TypeIs (.ref D) "set" := ⟨_, hD, rfl⟩
  have hf : (tabT led).fits 1 = true := by cases led <;> decide +kernel
  refine wpAny_pyIter_slot hT F.slot_set_iter (wpAny_call_entry F.slot_set_iter hT FS.entry_set_iter ?_ (F.args_set_iter_1 _))
  unfold Builtin.«frozenset.__iter__» Builtin.Frozenset.slot0 slotArgs
  simp only [List.isEmpty_nil, Bool.not_true, Bool.false_eq_true, ↓reduceIte, bind_assoc, List.length_nil, bne_self_eq_false]
  unfold Builtin.Frozenset.addrOf Builtin.Frozenset.sizeOf
  refine wpAny_bind (wpAny_pure ?_)
  try dsimp only
  refine wpAny_bind (wpAny_pure ?_)
  refine wpAny_bind (wpAny_bind (wpAny_bind (wpAny_setState_of hD rfl hf (wpAny_pure (wpAny_pure ?_)))))
  unfold setDrawn setsByText
  refine wpAny_bind (wpAny_bind (wpAny_setState_of hD rfl hf ?_))
  refine wpAny_bind (wpAny_bind (wpAny_askSetting (wpAny_pure ?_)))
  have hcase : ∀ b : Bool, (!b && false) = false := by decide
  with_unfolding_all show wpAny _ _ (pure (!(byText w) && false)) _ _ _
  refine wpAny_pure ?_
  rw [hcase]
  simp only [Bool.false_eq_true, ↓reduceIte]
  refine wpAny_bind (wpAny_pure ?_)
  refine wpAny_bind (wpAny_setEpoch_of hD rfl hf ?_)
  unfold newFields
  refine wpAny_bind (wpAny_newObj_type ?_ (by size_fits))
  refine wpAny_pure ⟨_, rfl, "set_iterator", _, ⟨_, Heap.get?_push_size _ rfl, rfl⟩, FS.slot_si_next.lookup, ?_⟩
  exact h _ (Heap.get?_push_size _ rfl) fun b o _ e => Heap.get?_push_of_some _ e

theorem pick_one (f : Nat → Nat) (x : Int × Value) : pickOrder f #[x] = #[x] := by
  unfold pickOrder
  show pickOrder.go f 1 0 [x] #[] = _
  simp [pickOrder.go, Nat.mod_one]

theorem setNext_at {D : Addr} {slot given ep : Nat} {r : Option (Value × Nat)} {Q : Option (Value × Nat) → Shared → Prop} (hD : SetTe s.heap D (!byText w) ep)
    (h1 : byText w = true → r = ((#[((1 : Int), Value.bool true)] : Array (Int × Value))[given]?).map fun e => (e.2, slot))
    (h2 : byText w = false → r = match (#[((1 : Int), Value.bool true)] : Array (Int × Value))[SetTable.below #[1] slot]?, (#[1] : Array Nat)[SetTable.below #[1] slot]? with
      | some (_, x), some j => some (x, j + 1)
      | _, _ => none) (h : Q r s) : wpAny (model prog w) A (setNext D slot given ep) Q E s := by
  have hf : (tabT (!byText w)).fits 1 = true := by cases byText w <;> decide +kernel
  unfold setNext
  refine wpAny_bind (wpAny_setState_of hD rfl hf ?_)
  unfold setsByText
  refine wpAny_bind (wpAny_bind (wpAny_askSetting (wpAny_pure ?_)))
  show wpAny _ _ (if byText w = true then _ else _) _ _ _
  cases hb : byText w with
  | true =>
    rw [if_pos rfl, if_neg (by simp)]
    refine wpAny_bind ?_
    unfold setWalk setsByText
    refine wpAny_bind (wpAny_setState_of hD rfl hf ?_)
    refine wpAny_bind (wpAny_bind (wpAny_askSetting (wpAny_pure ?_)))
    rw [if_pos (show (model prog w).w.params.followText "set-order" = true from hb)]
    refine wpAny_bind (wpAny_askSetting (wpAny_pure (wpAny_pure ?_)))
    rw [pick_one, ← h1 hb]
    exact h
  | false =>
    rw [if_neg (by simp)]
    rw [if_neg (by cases byText w <;> decide +kernel)]
    refine wpAny_bind ?_
    refine wpAny_of_eq (a := ()) (by with_unfolding_all rfl) (wpAny_pure ?_)
    have := h2 hb
    show Q (match (#[((1 : Int), Value.bool true)] : Array (Int × Value))[SetTable.below #[1] slot]?, (#[1] : Array Nat)[SetTable.below #[1] slot]? with
      | some (_, x), some j => some (x, j + 1)
      | _, _ => none) s
    rw [← this]
    exact h

theorem si_next1 {I D : Addr} {ep : Nat} {Q : Option Value → Shared → Prop} (hI : IsSI s.heap I D 0 0 ep) (hD : SetTe s.heap D (!byText w) ep)
    (h : ∀ h' k, (byText w = false → k = 2) → IsSI h' I D k 1 ep → Heap.SameBut I s.heap h' → Q (some (.bool true)) { s with heap := h' }) : wpAny (model prog w) A (pyNext (.ref I)) Q E s := by
  have hT : s.TypeIs (.ref I) "set_iterator" := ⟨_, hI, rfl⟩
  have hf : (tabT (!byText w)).fits 1 = true := by cases byText w <;> decide +kernel
  unfold pyNext
  refine wpAny_bind (wpAny_attempt (wpAny_callSpecial?_slot (name := Str.ofString "__next__") hT FS.slot_si_next
    (wpAny_call_entry FS.slot_si_next hT FS.entry_si_next ?_ (FS.args_si_next_1 _))))
  show wpAny _ _ (fieldsOf (.ref I) >>= _) _ _ _
  refine wpAny_bind (wpAny_fieldsOf hI rfl ?_)
  unfold setEntries
  refine wpAny_bind (wpAny_bind (wpAny_setState_of hD rfl hf (wpAny_pure ?_)))
  rw [if_neg (by simp)]
  show wpAny _ _ (setNext D 0 0 ep >>= _) _ _ _
  refine wpAny_bind (setNext_at (r := some (.bool true, if byText w = true then 0 else 2)) hD (fun hb => by simp [hb]) (fun hb => by rw [hb]; decide +kernel) ?_)
  refine wpAny_bind (wpAny_setField_rec hI (by simp) fun h1 hI1 hs1 => ?_)
  refine wpAny_bind (wpAny_setField_rec hI1 (by simp) fun h2 hI2 hs2 => ?_)
  exact wpAny_pure ⟨_, rfl, wpAny_pure (h h2 (if byText w = true then 0 else 2) (fun hb => by simp [hb]) hI2 (hs1.trans hs2))⟩

theorem si_next2 {I D : Addr} {ep k : Nat} {Q : Option Value → Shared → Prop} (hh : A.handled = none) (hI : IsSI s.heap I D k 1 ep) (hk : byText w = false → k = 2) (hD : SetTe s.heap D (!byText w) ep)
    (h : ∀ h', Heap.ExtBut I s.heap h' → Q none { s with heap := h' }) : wpAny (model prog w) A (pyNext (.ref I)) Q E s := by
  have hT : s.TypeIs (.ref I) "set_iterator" := ⟨_, hI, rfl⟩
  have hf : (tabT (!byText w)).fits 1 = true := by cases byText w <;> decide +kernel
  unfold pyNext
  refine wpAny_bind (wpAny_attempt (wpAny_callSpecial?_slot (name := Str.ofString "__next__") hT FS.slot_si_next
    (wpAny_call_entry FS.slot_si_next hT FS.entry_si_next ?_ (FS.args_si_next_1 _))))
  show wpAny _ _ (fieldsOf (.ref I) >>= _) _ _ _
  refine wpAny_bind (wpAny_fieldsOf hI rfl ?_)
  unfold setEntries
  refine wpAny_bind (wpAny_bind (wpAny_setState_of hD rfl hf (wpAny_pure ?_)))
  rw [if_neg (by simp)]
  show wpAny _ _ (setNext D k 1 ep >>= _) _ _ _
  refine wpAny_bind (setNext_at (r := none) hD (fun hb => by simp) (fun hb => by rw [hk hb]; decide +kernel) ?_)
  refine wpAny_bind (wpAny_setField_rec hI (by simp) fun h1 hI1 hs1 => ?_)
  refine wpAny_bind ?_
  simp only [newExc, newTuple]
  refine wpAny_bind (wpAny_newObj_type ?_ (by size_fits))
  refine wpAny_bind (m := firstArgMember _ _) (wpAny_of_eq (a := Value.none) (by first | rfl | (simp only [firstArgMember]; rfl)) ?_)
  refine wpAny_newObj_type ?_ (by size_fits)
  simp only [raiseNew]
  refine wpAny_bind (wpAny_handled ?_)
  first | rw [show A.in1.handled = none from hh] | rw [hh]
  refine wpAny_bind (wpAny_pure (wpAny_throw ?_))
  refine wpAny_bind (wpAny_isInstance (T := "StopIteration") (b := true) ⟨_, Heap.get?_push_size _ rfl, rfl⟩ isSubtype_stop ?_)
  exact wpAny_pure (h _ ((hs1.extBut.push _).push _))

/- the one item of the set is taken out -/
theorem unpack_set {D : Addr} {targets : List (Bool × (Value → Sem Unit))} {Q : Unit → Shared → Prop} (hh : A.handled = none) (hD : SetT s.heap D (!byText w))
    (hn : targets.length = 1) (hstar : targets.findIdx? (·.1) = none)
    (h : ∀ h', Heap.ExtBut s.heap.objs.size s.heap h' → wpAny (model prog w) A (assignInOrder (targets.map (·.2)) [.bool true]) Q E { s with heap := h' }) :
    wpAny (model prog w) A (unpack (.ref D) targets) Q E s := by
  obtain ⟨ep, hD⟩ := hD
  have hT : s.TypeIs (.ref D) "set" := ⟨_, hD, rfl⟩
  have hlt : D ≠ s.heap.objs.size := Nat.ne_of_lt (Heap.lt_size hD)
  unfold unpack
  rw [hn, hstar]
  refine wpAny_bind (wpAny_holding ?_)
  unfold unpackItems
  refine wpAny_bind ?_
  unfold notIterableAtAll
  refine wpAny_bind (wpAny_specialOf hT F.slot_set_iter.lookup ?_)
  refine wpAny_pure ?_
  simp only [Bool.false_eq_true, if_false]
  refine wpAny_bind (wpAny_holding (pyIter_set hD fun h1 hI1 he1 => ?_))
  refine wpAny_bind (wpAny_holding ?_)
  show wpAny _ _ (pyNext (.ref s.heap.objs.size) >>= _) _ _ _
  refine wpAny_bind (si_next1 (s := { s with heap := h1 }) hI1 (he1 _ _ hlt hD) fun h2 k hk hI2 hs2 => ?_)
  refine wpAny_bind (wpAny_holding (wpAny_pure (wpAny_pure ?_)))
  rw [if_neg (by simp)]
  refine wpAny_bind (wpAny_holding (si_next2 (s := { s with heap := h2 }) hh hI2 hk (hs2.extBut _ _ hlt (he1 _ _ hlt hD)) fun h3 he3 => ?_))
  simp only [Option.isSome_none, Bool.false_eq_true, if_false]
  exact wpAny_pure (h h3 fun b o hb e => he3 b o hb (hs2.extBut b o hb (he1 b o hb e)))
end
end Mine
end
section
open PySem.W
namespace Mine
section
variable {prog : Program} {w : World} {hb : Heap} {n : Nat} {sc : Scope} {nm : List Str}

noncomputable def isTru : P → Bool
  | .bool true => true
  | _ => false
theorem SetE.cls {h : Heap} {D : Addr} {led : Bool} (x : SetE h D led) : ∃ o, h.get? D = some o ∧ o.cls = .type "set" := let ⟨_, e⟩ := x; ⟨_, e, rfl⟩
theorem SetT.cls {h : Heap} {D : Addr} {led : Bool} (x : SetT h D led) : ∃ o, h.get? D = some o ∧ o.cls = .type "set" := let ⟨_, e⟩ := x; ⟨_, e, rfl⟩
noncomputable def SetS (h : Heap) (D : Addr) (led : Bool) (ds : List P) : Prop := (ds = [] ∧ SetE h D led) ∨ (ds ≠ [] ∧ SetT h D led)

theorem SetS.at {h h' : Heap} {D : Addr} {led : Bool} {ds : List P} (x : SetS h D led ds) (k : ∀ o, h.get? D = some o → h'.get? D = some o) : SetS h' D led ds := by
  rcases x with ⟨a, ep, e⟩ | ⟨a, ep, e⟩
  · exact .inl ⟨a, ep, k _ e⟩
  · exact .inr ⟨a, ep, k _ e⟩
theorem SetS.get {h : Heap} {D : Addr} {led : Bool} {ds : List P} (x : SetS h D led ds) : ∃ o, h.get? D = some o ∧ o.cls = .type "set" := by
  rcases x with ⟨a, x⟩ | ⟨a, x⟩
  · exact x.cls
  · exact x.cls

theorem compTurn_set1 (elt target iter : Expr) (scope : Scope) (pos : Pos) (it acc : Value) (env : Env) :
    compTurn (.SetComp elt [⟨target, iter, [], 0⟩] scope pos) 0 it acc env = (standAt iter.pos >>= fun _ => pyNext it >>= fun r => match r with
      | none => pure (.done .next)
      | some v => letOwnedTupleGo target it v >>= fun _ => assign target env v >>= fun _ =>
        (eval elt env >>= fun x => standAt elt.pos >>= fun _ => call (.builtin "set.add") [acc, x] >>= fun _ => pure ()) >>= fun _ =>
          again (.compLoop (.SetComp elt [⟨target, iter, [], 0⟩] scope pos) 0 it acc env)) := by rfl

theorem compLoop_set {A : Around} {R : Result → Shared → Prop} {s : Shared} {elt target iter : Expr} {scope : Scope} {pos : Pos} {it acc : Value} {env : Env} (I : Nat → Shared → Prop)
    (turn : ∀ n s, I n s → wpAny (model prog w) A (pyNext it) (fun r s₁ => match r with
      | none => R (.ok .next) s₁
      | some v => wpAny (model prog w) A (assign target env v) (fun _ s₂ => wpAny (model prog w) A (eval elt env) (fun x s₃ =>
          wpAny (model prog w) A (call (.builtin "set.add") [acc, x]) (fun _ s₄ => ∃ m, m < n ∧ I m s₄) (notedBy (model prog w) A env fun e s' => R (.error e) s') s₃)
          (notedBy (model prog w) A env fun e s' => R (.error e) s') s₂) (notedBy (model prog w) A env fun e s' => R (.error e) s') s₁) (notedBy (model prog w) A env fun e s' => R (.error e) s') s)
    (n : Nat) (h : I n s) (ht : ∀ v, letOwnedTupleGo target it v = pure () := by intro _; rfl) :
    codeAny (model prog w) A (.compLoop (.SetComp elt [⟨target, iter, [], 0⟩] scope pos) 0 it acc env) R s := by
  refine codeAny_loop rfl I (fun n s hI => ?_) n h
  show wpAny _ A ((compTurn (.SetComp elt [⟨target, iter, [], 0⟩] scope pos) 0 it acc env).onRaise (fun x => do noteFrame x env; theTreesLotGoes x)) _ _ s
  refine wpAny_noted ?_
  rw [compTurn_set1]
  refine wpAny_bind (wpAny_standAt (wpAny_bind (wpAny_mono (turn n s hI) (fun r s₁ h₁ => ?_) fun _ _ h' => h')))
  cases r with
  | none => exact wpAny_pure h₁
  | some v =>
    refine wpAny_bind (wpAny_of_eq (ht v) ?_)
    refine wpAny_bind (wpAny_mono h₁ (fun _ s₂ h₂ => ?_) fun _ _ h' => h')
    exact wpAny_bind (wpAny_bind (wpAny_mono h₂ (fun x s₃ h₃ => wpAny_bind (wpAny_standAt (wpAny_bind (wpAny_mono h₃ (fun _ s₄ h₄ => wpAny_pure (wpAny_pure ⟨rfl, h₄⟩)) fun _ _ h' => h')))) fun _ _ h' => h'))

theorem compStart_set {A : Around} {R : Result → Shared → Prop} {s : Shared} {elt target iter : Expr} {scope : Scope} {pos : Pos} {it acc : Value} {env : Env}
    (h0 : codeAny (model prog w) A (.compLoop (.SetComp elt [⟨target, iter, [], 0⟩] scope pos) 0 it acc env) R s)
    (h : wpAny (model prog w) A (pyIter it) (fun it' s' => codeAny (model prog w) A (.compLoop (.SetComp elt [⟨target, iter, [], 0⟩] scope pos) 0 it' acc env) R s')
      (notedBy (model prog w) A env fun x s' => R (.error x) s') s) :
    codeAny (model prog w) A (.compStart (.SetComp elt [⟨target, iter, [], 0⟩] scope pos) 0 it acc env) R s := by
  refine codeAny_of_tree ?_
  show wpAny _ _ ((compStart (.SetComp elt [⟨target, iter, [], 0⟩] scope pos) 0 it acc env).onRaise (fun x => do noteFrame x env; standAt theWindowsPlace)) _ _ s
  refine wpAny_notedAt ?_
  unfold compStart
  show wpAny _ _ (ask >>= _) _ _ s
  refine wpAny_bind (wpAny_askSetting (wpAny_ite ?_))
  split
  · first
      | exact wpAny_bind (wpAny_pure (wpAny_pure (And.intro rfl h0)))
      | exact wpAny_pure (And.intro rfl h0)
  · first
      | exact wpAny_bind (wpAny_rule (wpAny_bind (wpAny_standAt (wpAny_bind (wpAny_mono h (fun it' s' h' => wpAny_pure (And.intro rfl h')) fun _ _ x => x)))))
      | (refine wpAny_bind (wpAny_rule ?_); show wpAny _ _ (standAt iter.pos >>= _) _ _ s; exact wpAny_bind (wpAny_standAt (wpAny_bind (wpAny_mono h (fun it' s' h' => wpAny_pure (And.intro rfl h')) fun _ _ x => x))))

theorem isTru_at {d : P} (h : isTru d = true) : d = .bool true := by
  cases d with
  | bool b => cases b; cases h; rfl
  | _ => cases h
/- the set so far, and what is still to come -/
inductive AcS (D : Addr) (led : Bool) (G : Nat → Option (List P)) (ds : List P) (i : Nat) (h : Heap) : Prop
  | mk (d r : List P) (la : SetS h D led d) (go : G i = some r) (e : ds = d ++ r)
theorem SetS.kept {h h' : Heap} {D : Addr} {led : Bool} {ds : List P} (x : SetS h D led ds) (k : ∀ o, h.get? D = some o → o.cls ≠ .type "frame" → h'.get? D = some o) : SetS h' D led ds := x.at fun o e => by
  obtain ⟨o', e', hc⟩ := x.get
  obtain rfl := soK (e.symm.trans e')
  exact k o e (by rw [hc]; exact ty_ne (by decide))
theorem compS_core {elt iter : Expr} {x : Str} {px : Pos} {scope : Scope} {pos pos' : Pos} {cap : List Nat} {nmc : List Str} {itf : XFs} {f : XF} {use : Option (Value → Sem Unit)}
    (ok : CompOk sc nm nmc cap scope [x]) (hit : SimV prog w hb n sc nm iter itf) (hf : SimE prog w hb n (relS scope sc) nmc elt f)
    (hfs : ∀ env x, foldedSetIterable iter env x = pure x)
    {env : Env} {Z α : List Addr} {A : Around} {s : Shared} {mem : Mem} {sl : Slots} {ds : List P} {Q E : Value → Shared → Prop} (hsc : env.scope = sc) (rm : Rm hb n A s.heap) (st : St prog w hb env nm Z α mem sl s.heap)
    (hds : compV cap itf tTrue f mem sl = some ds) (hall : ds.all isTru = true)
    (hfin : ∀ D C h tk m, s.heap.get? C = none → D ≠ C → h.Ns C m → Kp s.heap h → hb.StaysIn h → SetS h D (!byText w) ds → compPost (model prog w) A E use Q (.ref D) C (.ok .next) { s with heap := h, toks := tk }) :
    wpAny (model prog w) A (comprehension (.SetComp elt [⟨.Name x px, iter, [], 0⟩] scope pos) scope env pos' (newSet (.type "set")) false (eval iter env) use) Q E s := by
  refine bindK hds fun cv hcv hds => bindK hds fun vs hvs hds => ?_
  split at hds
  · refine comp_setup (ob := { cls := .type "set", data := .set #[] 0 (.fresh 0 0 (!byText w)) }) rfl ok hit hfs hsc rm st hcv hvs (fun s Q E h => newSet_E fun _ => h) rfl fun I h₁ tk fp wr Pr Md S C D h3 it hval L hn3 hD3 hS3 kb3 hst3 => ?_
    have X := L.lt ok hsc st hcv it hval
    suffices loop : codeAny (model prog w) A (.compLoop (.SetComp elt [⟨.Name x px, iter, [], 0⟩] scope pos) 0 (.ref I) (.ref D) (compEnvC scope (clAcc env scope.names []) C env)) (compPost (model prog w) A E use Q (.ref D) C) { s with heap := h3, toks := tk } from
      compStart_set loop (it.self _ _ _ hS3 loop)
    refine compLoop_set (LI hb s C D wr h₁ vs.length S (fun _ => True) (AcS D (!byText w) (fun i => compGo mem (cv.map some) tTrue f (vs.drop i)) ds)) (fun k s' li => ?_) vs.length
      (.mk 0 h3 tk _ rfl (Nat.zero_le _) rfl hS3 hn3 trivial ⟨[], ds, .inl ⟨rfl, _, hD3⟩, hds, rfl⟩ kb3 hst3)
    refine loop_turn X (fun i h h' ⟨d, r, la, go, e⟩ k _ => ⟨d, r, la.kept k, go, e⟩) (fun i h ⟨_, _, la, _, _⟩ => let ⟨o, e, _⟩ := la.get; ⟨o, e⟩) (fun h t' m hn ac kb hst => ?_) (fun _ _ h => h) (fun i hlt h5 t5 m hk hS5 hn5 _ ac kb5 hst5 hv st5 => ?_) li
    · obtain ⟨d, r, la, go, e⟩ := ac
      rw [List.drop_length] at go
      obtain rfl := soK go
      rw [List.append_nil] at e
      exact hfin D C h t' m L.cs L.dc hn (L.kp h kb) hst (e ▸ la)
    · obtain ⟨d, r, la5, go, rfl⟩ := ac
      rw [List.drop_eq_getElem_cons hlt, ← List.append_nil (cv.map some)] at go
      have hcsc : (compEnvC scope (clAcc env scope.names []) C env).scope = relS scope sc := by show relabel scope env = _; rw [relS_eq, hsc]
      refine compGo_cons go (fun q _ => nomatch q) fun d1 r' _ hr go2 e => ?_
      subst e
      refine hf (compEnvC scope (clAcc env scope.names []) C env) (D :: Z) α A { s with heap := h5, toks := t5 } mem _ _ _ _ hcsc (rm.kp (L.kp h5 kb5)) st5 hr fun y h7 t7 ry k7 s7 => ?_
      obtain rfl : d1 = .bool true := isTru_at (List.all_eq_true.mp hall d1 (List.mem_append_right _ List.mem_cons_self))
      obtain rfl : y = .bool true := ry
      have fin : ∀ h8 t8, SetT h8 D (!byText w) → Heap.SameBut D h7 h8 → ∃ m', m' < k ∧ LI hb s C D wr h₁ vs.length S (fun _ => True) (AcS D (!byText w) (fun i => compGo mem (cv.map some) tTrue f (vs.drop i)) (d ++ .bool true :: r')) m' { s with heap := h8, toks := t8 } := fun h8 t8 la8 hs8 =>
        ⟨vs.length - (i + 1), by rw [hk]; exact Nat.sub_lt_sub_left hlt (Nat.lt_succ_self i), .mk (i + 1) h8 t8 m rfl hlt rfl (X.T.frame (i + 1) h7 _ (X.frame hS5 k7) fun b' hb' o e => (hs8.2 b' (fun q => L.df (q ▸ hb'))).trans e) ((k7.ns hn5).sameBut hs8 (Ne.symm L.dc)) trivial
          ⟨d ++ [.bool true], r', .inr ⟨List.append_ne_nil_of_right_ne_nil _ (List.cons_ne_nil _ _), la8⟩, List.append_nil (cv.map some) ▸ go2, List.append_cons _ _ _⟩ ((kb5.kp k7).keep fun a o e hna q hq => (hs8.2 a (fun q' => hna (.inr (.inr q')))).trans hq)
          fun b' o e => (hs8.2 b' (fun q => nos L.bd (q ▸ e))).trans (s7 b' o e)⟩
      rcases la5.kept fun o e hc => k7.exact e hc with ⟨_, la⟩ | ⟨_, la⟩
      · exact set_add_E (s := { s with heap := h7, toks := t7 }) la fun h8 t8 l8 s8 => fin h8 t8 l8 s8
      · exact set_add_T (s := { s with heap := h7, toks := t7 }) la fun t8 => fin h7 t8 la (Heap.SameBut.refl ..)
  · exact noK hds
end
end Mine
end
section
open PySem.W
namespace Mine
section
variable {prog : Program} {w : World} {hb : Heap} {n : Nat} {sc : Scope} {nm : List Str}

/- x, = {e for v in it}: all of them True -/
noncomputable def sOne (i : Nat) (cap : List Nat) (it : XFs) (f : XF) : SF := fun mem sl => (compV cap it tTrue f mem sl).bind fun ds => if ds.all isTru && !ds.isEmpty then some (.next, mem, sl.set i (some (.p (.bool true)))) else none

theorem sim_one {elt iter : Expr} {x y : Str} {px py : Pos} {scope : Scope} {pos spos tpos : Pos} {x1 : Nat} {itf : XFs} {f : XF} (i : Nat) (cap : List Nat) (nmc : List Str)
    (hit : SimV prog w hb n sc nm iter itf) (hf : SimE prog w hb n (relS scope sc) nmc elt f)
    (hy : nm[i]? = some y := by rfl) (hnd : nm.Nodup := by decide +kernel) (hl : kindL sc y = true := by decide +kernel)
    (ok : compB sc nm nmc cap scope [x] = true := by decide +kernel)
    (hfs : ∀ env x, foldedSetIterable iter env x = pure x := by intro _ _; rfl)
    (hs : ∀ env, swapsWithSole [.Tuple [.Name y py] x1 tpos] (.SetComp elt [⟨.Name x px, iter, [], 0⟩] scope pos) spos.line env = pure false := by intro _; rfl)
    (hw : ∀ env, swappedStores [.Tuple [.Name y py] x1 tpos] (.SetComp elt [⟨.Name x px, iter, [], 0⟩] scope pos) env = pure none := by intro _; rfl) :
    SimS prog w hb n sc nm (.Assign [.Tuple [.Name y py] x1 tpos] (.SetComp elt [⟨.Name x px, iter, [], 0⟩] scope pos) spos) (sOne i cap itf f) := by
  intro env Z α A s mem sl o mem' sl' Q E hsc rm bd st hv hQ
  simp only [sOne, Option.bind_eq_some_iff] at hv
  obtain ⟨ds, hds, hv⟩ := hv
  split at hv
  · rename_i hc
    obtain ⟨rfl, rfl, rfl⟩ := so3 hv
    simp only [Bool.and_eq_true, Bool.not_eq_true', List.isEmpty_eq_false_iff] at hc
    refine Assign_Tuple ?_ (hs env) (hw env)
    rw [arm_eval_SetComp]
    refine compS_core (use := none) (CompOk.of ok) hit hf hfs hsc rm st hds hc.1 fun D C h tk m hC hDC hn k hst' hD => ?_
    refine ⟨m, hn, fun h' hsb => ?_⟩
    replace hsb : Heap.SameBut C h h' := hsb
    have hbC : hb.get? C = none := by cases q : hb.get? C with | none => rfl | some o => have := st.stays C o q; exact nos hC this
    have k' : Kp s.heap h' := k.sameBut hsb hC
    have hst2 : hb.StaysIn h' := fun b o e => (hsb.2 b (fun q => by rw [q, hbC] at e; exact noK e)).trans (hst' b o e)
    have hD' : SetT h' D (!byText w) := by
      rcases hD with ⟨e, _⟩ | ⟨_, ep, e⟩
      · exact absurd e hc.2
      · exact ⟨ep, (hsb.2 D hDC).trans e⟩
    show wpAny _ _ (assign (.Tuple [.Name y py] x1 tpos) env (.ref D)) _ _ _
    rw [arm_assign_Tuple]
    refine wpAny_bind (wpAny_standAt ?_)
    have hae : assignEach [.Name y py] env = [(false, assign (.Name y py) env)] := rfl
    rw [hae]
    refine unpack_set (s := { s with heap := h', toks := tk }) rm.hd hD' rfl rfl fun h2 he2 => ?_
    replace he2 : Heap.ExtBut h'.objs.size h' h2 := he2
    have k2 : Kp h' h2 := .of fun b o e => he2 b o (Nat.ne_of_lt (Heap.lt_size e)) e
    have hst3 : hb.StaysIn h2 := fun b o e => he2 b o (Nat.ne_of_lt (Heap.lt_size (hst2 b o e))) (hst2 b o e)
    show wpAny _ _ (do holding [] (assign (.Name y py) env (.bool true)); assignInOrder [] []) _ _ _
    refine wpAny_bind (wpAny_holding ?_)
    refine simA_name i hy hnd hl env Z α A { s with heap := h2, toks := tk } mem sl _ (.p (.bool true)) (.bool true) _ _ hsc rm.hd (bd.kp (k'.trans k2)) (st.kp (k'.trans k2) hst3) rfl rfl fun h3 t3 nx bd3 st3 => ?_
    refine wpAny_pure ?_
    exact hQ .next h3 t3 Z α ((Nx.of_kp (k'.trans k2)).trans nx) bd3 st3 rfl
  · exact noK hv
end
end Mine
end
section
open PySem.W
namespace Mine

/- what the names of the top mean -/
structure Cx where
  k : Str → Option P
  b : Str → Option (Mem → List V → Option V)
  ef : Str → Option (List V → Mem → Option (V × Mem))
structure CxOk (prog : Program) (w : World) (hb : Heap) (n : Nat) (cx : Cx) : Prop where
  k : ∀ x d, cx.k x = some d → ∃ fv, GN hb x fv ∧ ∀ Z, RP hb Z d fv
  b : ∀ x sem, cx.b x = some sem → ∃ fv, GN hb x fv ∧ Keeps1 hb fv ∧ BiSem prog w hb n fv sem
  ef : ∀ x sem, cx.ef x = some sem → ∃ fv, GN hb x fv ∧ Keeps1 hb fv ∧ EfSem prog w hb n fv sem
  ra : GN hb "range" (.type "range")
  en : GN hb "enumerate" (.type "enumerate")
  li : GN hb "list" (.type "list")
  tu : GN hb "tuple" (.type "tuple")
  ma : GN hb "map" (.type "map")
  ve : GN hb "ValueError" (.type "ValueError")
/- a meaning, and that it is one -/
structure R (cx : Cx) {α : Type} (J : Program → World → Heap → Nat → α → Prop) where
  f : α
  ok : ∀ prog w hb n, CxOk prog w hb n cx → J prog w hb (n + 1) f
noncomputable def onB {β : Type} (b : Bool) (d : β) (k : b = true → β) : β := match b, k with
  | true, k => k rfl
  | false, _ => d
noncomputable def onO {α β : Type} (o : Option α) (d : β) (k : ∀ a, o = some a → β) : β := match o, k with
  | some a, k => k a rfl
  | none, _ => d
noncomputable def onL1 {α : Type} {C : List α → Type} (l : List α) (d : ∀ l, C l) (k : ∀ a, C [a]) : C l := match l with
  | [] => d []
  | [a] => k a
  | a :: b :: r => d (a :: b :: r)
noncomputable def onL2 {α : Type} {C : List α → Type} (l : List α) (d : ∀ l, C l) (k : ∀ a b, C [a, b]) : C l := match l with
  | [] => d []
  | a :: r => onL1 (C := fun r => C (a :: r)) r (fun _ => d _) (k a)
noncomputable def onE {C : Expr → Type} (e : Expr) (d : ∀ e, C e) (name : ∀ x p, C (.Name x p)) (attr : ∀ o x p, C (.Attribute o x p)) (call : ∀ f args kw p, C (.Call f args kw p)) (tup : ∀ ts k p, C (.Tuple ts k p)) : C e := match e with
  | .Name x p => name x p
  | .Attribute o x p => attr o x p
  | .Call f args kw p => call f args kw p
  | .Tuple ts k p => tup ts k p
  | e => d e
noncomputable def onN {C : Expr → Type} (e : Expr) (d : ∀ e, C e) (name : ∀ x p, C (.Name x p)) : C e := onE e d name (fun _ _ _ => d _) (fun _ _ _ _ => d _) fun _ _ _ => d _
noncomputable def onC {C : Expr → Type} (e : Expr) (d : ∀ e, C e) (call : ∀ f args p, C (.Call f args [] p)) : C e := onE e d (fun _ _ => d _) (fun _ _ _ => d _) (fun f args kw p => match kw with | [] => call f args p | _ :: _ => d _) fun _ _ _ => d _
noncomputable def onGen {C : Comprehension → Type} (g : Comprehension) (d : ∀ g, C g) (k : ∀ x p it ifs, C ⟨.Name x p, it, ifs, 0⟩) : C g := match g with
  | ⟨t, it, ifs, a⟩ => onN (C := fun t => C ⟨t, it, ifs, a⟩) t (fun _ => d _) fun x p => match a with
    | .ofNat 0 => k x p it ifs
    | _ => d _

noncomputable def idx (nm : List Str) (x : Str) : Option Nat := nm.findIdx? (· == x)
theorem idx_at {nm : List Str} {x : Str} {i : Nat} (h : idx nm x = some i) : nm[i]? = some x := by
  obtain ⟨h1, h2, _⟩ := List.findIdx?_eq_some_iff_getElem.mp h
  rw [List.getElem?_eq_getElem h1, eq_of_beq h2]
noncomputable def dbg (x : Str) : Bool := x == ("__debug__" : Str)
noncomputable def glb (sc : Scope) (x : Str) : Bool := sc.names.lookup x == some .globalImplicit
theorem glb_at {sc : Scope} {x : Str} (h : glb sc x = true) : sc.names.lookup x = some .globalImplicit := eq_of_beq h
theorem not_true {b : Bool} (h : (!b) = true) : b = false := by cases b; rfl; cases h
theorem and1 {a b : Bool} (h : (a && b) = true) : a = true := by cases a; cases h; rfl
theorem and2 {a b : Bool} (h : (a && b) = true) : b = true := by cases a; cases h; exact h
noncomputable def xBin2 (op : Operator) (f g : XF) : XF := fun mem sl => match xBin op f g mem sl with
  | some v => some v
  | none => if op = .Mult then xRep f g mem sl else none
noncomputable def tOp (op : BoolOp) (f g : TF) : TF := match op with
  | .And => tAnd f g
  | .Or => tOr f g
/- methods, by name: its type and what it gives -/
structure MeR where
  x : Str
  T : String
  id : String
  sem : Mem → List V → Option V
  s : Slot T x id
  t : typeOf (.builtin id) = pure (.type "method_descriptor")
  B : ∀ {prog w hb n}, BiSem prog w hb n (.builtin id) sem
noncomputable def meths : List MeR := [⟨"startswith", "str", _, semStarts, F.slot_str_startswith, F.type_str_startswith, bi_startswith⟩, ⟨"endswith", "str", _, semEnds, F.slot_str_endswith, F.type_str_endswith, bi_endswith⟩,
  ⟨"rfind", "str", _, semRfind, F.slot_str_rfind, F.type_str_rfind, bi_rfind⟩, ⟨"rstrip", "str", _, semRstrip, F.slot_str_rstrip, F.type_str_rstrip, bi_rstrip⟩, ⟨"split", "str", _, semSplit, F.slot_str_split, F.type_str_split, bi_split⟩,
  ⟨"join", "str", _, semJoin, F.slot_str_join, F.type_str_join, bi_join⟩, ⟨"index", "list", _, semIndex, F.slot_list_index, F.type_list_index, bi_index⟩, ⟨"count", "list", _, semCount, F.slot_list_count, F.type_list_count, bi_count⟩]
noncomputable def plainBase : Expr → Bool
  | .Name _ _ => true
  | .Constant _ _ _ => true
  | .Subscript _ _ _ => true
  | _ => false
theorem base_is {o : Expr} (h : plainBase o = true) (x : Str) (env : Env) : attributeBase o x env (eval o env) = eval o env := by cases o <;> first | rfl | cases h
noncomputable def notSet : Expr → Bool
  | .Set _ _ _ => false
  | _ => true
theorem folded_is {e : Expr} (h : notSet e = true) (env : Env) (x : Value) : foldedSetIterable e env x = pure x := by
  cases e <;> first | rfl | cases h
theorem subscripted_is (b : Expr) (o i : Value) : ∃ ops, subscripted b false o i = operate ops (getItem o i) := by
  cases b
  case Slice a b c p => cases c <;> exact ⟨_, rfl⟩
  all_goals exact ⟨_, rfl⟩
/- the comprehension's own names: the captured, then its variables -/
noncomputable def capOf (nm : List Str) (scope : Scope) : List Str := (scope.names.filter fun y => y.2 == .free).map (·.1)
noncomputable def capIx (nm : List Str) (l : List Str) : List Nat := l.filterMap (idx nm)
noncomputable def compOk (sc : Scope) (nm : List Str) (scope : Scope) (x : Str) (iter : Expr) : Bool := notSet iter && compB sc nm (capOf nm scope ++ [x]) (capIx nm (capOf nm scope)) scope [x]
noncomputable def plOf (o : Expr) (env : Env) : Sem Bool := do return (← importBound o env).getD true
theorem meth_he {o a : Expr} {name : Str} {apos pos : Pos} (hb1 : plainBase o = true) (hp : noStar a = true) (hl : (apos.endLine == pos.line) = true) (env : Env) :
    eval (.Call (.Attribute o name apos) [a] [] pos) env = (do
      let ov ← eval o env
      standAt apos.atName
      let (f, first) ← holding [ov] (getMethod ov name (plOf o env))
      callWith pos f first (backTo pos (starEach [a] env)) []) := by
  show (do
    let ov ← attributeBase o name env (eval o env)
    standAt apos.atName
    methodCall o name apos pos env ov 1 (backTo pos (starEach [a] env)) []) = _
  rw [base_is hb1, starEach_cons hp]
  have h2 : methodCallForm 1 (backTo pos ((false, eval a env) :: starEach [] env)) [] = true := rfl
  unfold methodCall methodCallPos calleeOf
  rw [h2, hl]
  rfl
theorem pop_he {o : Expr} {apos pos : Pos} (hb1 : plainBase o = true) (hl : (apos.endLine == pos.line) = true) (env : Env) :
    eval (.Call (.Attribute o "pop" apos) [] [] pos) env = (do
      let ov ← eval o env
      standAt apos.atName
      let (f, first) ← holding [ov] (getMethod ov "pop" (plOf o env))
      callWith pos f first (backTo pos (starEach [] env)) []) := by
  show (do
    let ov ← attributeBase o "pop" env (eval o env)
    standAt apos.atName
    methodCall o "pop" apos pos env ov 0 (backTo pos (starEach [] env)) []) = _
  rw [base_is hb1]
  have h2 : methodCallForm 0 (backTo pos (starEach [] env)) [] = true := rfl
  unfold methodCall methodCallPos calleeOf
  rw [h2, hl]
  rfl
section
variable {prog : Program} {w : World} {hb : Heap} {n : Nat} {sc : Scope} {nm : List Str}
theorem simT_never {e : Expr} : SimT prog w hb n sc nm e (fun _ _ => none) := fun _ _ _ _ _ _ _ _ _ _ _ _ _ hf => nomatch hf
theorem simEs_never {es : List Expr} : SimEs prog w hb n sc nm es (fun _ _ => none) := fun _ _ _ _ _ _ _ _ _ _ _ _ _ _ hf => nomatch hf
theorem sim_bin2 {a b : Expr} {f g : XF} {op : Operator} {pos : Pos} (ha : SimE prog w hb n sc nm a f) (hb' : SimE prog w hb n sc nm b g) : SimE prog w hb n sc nm (.BinOp a op b pos) (xBin2 op f g) := by
  intro env Z α A s mem sl v Q E hsc rm st hf
  unfold xBin2 at hf
  cases h : xBin op f g mem sl with
  | some v' => rw [h] at hf; exact sim_bin op ha hb' env Z α A s mem sl v Q E hsc rm st (h.trans hf)
  | none =>
    rw [h] at hf
    dsimp only at hf
    by_cases ho : op = .Mult
    · rw [if_pos ho] at hf; subst ho; exact sim_rep ha hb' env Z α A s mem sl v Q E hsc rm st hf
    · exact nos (if_neg ho) hf
theorem simTs_op {op : BoolOp} {a : Expr} {rest : List Expr} {f g : TF} (ha : SimT prog w hb n sc nm a f) (hr : SimTs prog w hb n sc nm op rest g) : SimTs prog w hb n sc nm op (a :: rest) (tOp op f g) := match op, hr with
  | .And, hr => simTs_and ha hr
  | .Or, hr => simTs_or ha hr
end

section
variable {cx : Cx}
noncomputable abbrev RE (cx : Cx) (sc : Scope) (nm : List Str) (e : Expr) := R cx fun p w h n f => SimE p w h n sc nm e f
noncomputable abbrev RT (cx : Cx) (sc : Scope) (nm : List Str) (e : Expr) := R cx fun p w h n f => SimT p w h n sc nm e f
/- expressions and tests of the next lower depth -/
structure Bu (cx : Cx) where
  e : ∀ sc nm e, RE cx sc nm e
  t : ∀ sc nm e, RT cx sc nm e
variable {sc : Scope} {nm : List Str}
noncomputable def rNo {e : Expr} : RE cx sc nm e := ⟨xNever, fun _ _ _ _ _ => sim_never⟩
noncomputable def rNoT {e : Expr} : RT cx sc nm e := ⟨fun _ _ => none, fun _ _ _ _ _ => simT_never⟩
noncomputable def rConst (c : Const) {k : Nat} {p : Pos} : RE cx sc nm (.Constant c k p) := match c with
  | .int i => ⟨xK (.int i), fun _ _ _ _ _ => sim_int⟩
  | .str x => ⟨xK (.str x), fun _ _ _ _ _ => sim_str⟩
  | .bool b => ⟨xK (.bool b), fun _ _ _ _ _ => sim_bool⟩
  | _ => rNo
noncomputable def rName (x : Str) {p : Pos} : RE cx sc nm (.Name x p) := onO (idx nm x)
  (onO (cx.k x) rNo fun d h => onB (glb sc x) rNo fun g => ⟨xK d, fun _ _ _ _ C => let ⟨_, G, hd⟩ := C.k x d h; sim_glob d G hd (glb_at g)⟩)
  fun i h => onB (!dbg x) rNo fun g => ⟨xV i, fun _ _ _ _ _ => sim_var i (idx_at h) (not_true g)⟩
variable (u : Bu cx)
variable (sc : Scope) (nm : List Str)
noncomputable def rEs : (es : List Expr) → R cx fun p w h n f => SimEs p w h n sc nm es f
  | [] => ⟨xNil, fun _ _ _ _ _ => sims_nil⟩
  | e :: r => onB (noStar e) ⟨fun _ _ => none, fun _ _ _ _ _ => simEs_never⟩ fun g => ⟨xCons (u.e sc nm e).f (rEs r).f, fun _ _ _ _ C => sims_cons ((u.e sc nm e).ok _ _ _ _ C) ((rEs r).ok _ _ _ _ C) g⟩
noncomputable def rTs (op : BoolOp) : (es : List Expr) → R cx fun p w h n f => SimTs p w h n sc nm op es f
  | [] => ⟨fun _ _ => none, fun _ _ _ _ _ _ _ _ _ _ _ _ _ _ _ _ _ _ hf => nomatch hf⟩
  | [e] => ⟨(u.t sc nm e).f, fun _ _ _ _ C => simTs_one ((u.t sc nm e).ok _ _ _ _ C)⟩
  | e :: e2 :: r => ⟨tOp op (u.t sc nm e).f (rTs op (e2 :: r)).f, fun _ _ _ _ C => simTs_op ((u.t sc nm e).ok _ _ _ _ C) ((rTs op (e2 :: r)).ok _ _ _ _ C)⟩
noncomputable def rO : (o : Option Expr) → R cx fun p w h n f => SimO p w h n sc nm o f
  | none => ⟨oNone, fun _ _ _ _ _ => simO_none⟩
  | some e => ⟨oSome (u.e sc nm e).f, fun _ _ _ _ C => simO_some ((u.e sc nm e).ok _ _ _ _ C)⟩
noncomputable def rSub (a i : Expr) {p : Pos} : RE cx sc nm (.Subscript a i p) := match i with
  | .Slice lo hi st q => ⟨xSlice (u.e sc nm a).f (rO u sc nm lo).f (rO u sc nm hi).f (rO u sc nm st).f, fun _ _ _ _ C => sim_slice ((u.e sc nm a).ok _ _ _ _ C) ((rO u sc nm lo).ok _ _ _ _ C) ((rO u sc nm hi).ok _ _ _ _ C) ((rO u sc nm st).ok _ _ _ _ C) (subscripted_is _)⟩
  | i => ⟨xSub (u.e sc nm a).f (u.e sc nm i).f, fun _ _ _ _ C => sim_sub ((u.e sc nm a).ok _ _ _ _ C) ((u.e sc nm i).ok _ _ _ _ C) (subscripted_is _)⟩
noncomputable def rSeq (e : Expr) : R cx fun p w h n f => SimV p w h n sc nm e f := ⟨vSeq (u.e sc nm e).f, fun _ _ _ _ C => simV_seq ((u.e sc nm e).ok _ _ _ _ C)⟩
/- what is gone through: range(..), or a sequence -/
noncomputable def rV (e : Expr) : R cx fun p w h n f => SimV p w h n sc nm e f := onC (C := fun e => R cx fun p w h n f => SimV p w h n sc nm e f) e (rSeq u sc nm) fun f args q => onN (C := fun e => R cx fun p w h n f => SimV p w h n sc nm (.Call e args [] q) f) f (fun _ => rSeq u sc nm _) fun x p => match args with
  | [] => rSeq u sc nm _
  | a :: r => onB (x == ("range" : Str) && glb sc x && (a :: r).all noStar) (rSeq u sc nm _) fun g => ⟨vRange (rEs u sc nm (a :: r)).f, fun _ _ _ _ C => by
    have e := eq_of_beq (and1 (and1 g))
    subst e
    exact simV_range C.ra ((rEs u sc nm (a :: r)).ok _ _ _ _ C) (and2 g) (glb_at (and2 (and1 g)))⟩
noncomputable def rIfs : (es : List Expr) → R cx fun p w h n f => SimIfs p w h n sc nm es f
  | [] => ⟨tTrue, fun _ _ _ _ _ => simIfs_nil⟩
  | [e] => ⟨(u.t sc nm e).f, fun _ _ _ _ C => simIfs_one ((u.t sc nm e).ok _ _ _ _ C)⟩
  | _ :: _ :: _ => ⟨fun _ _ => none, fun _ _ _ _ _ _ _ _ _ _ _ _ _ _ _ _ _ _ hf => nomatch hf⟩
noncomputable def rComp1 (scope : Scope) (elt : Expr) (x : Str) (px : Pos) (it : Expr) (ifs : List Expr) (pos : Pos) : RE cx sc nm (.ListComp elt [⟨.Name x px, it, ifs, 0⟩] scope pos) := onB (compOk sc nm scope x it) rNo fun g =>
  ⟨xComp (capIx nm (capOf nm scope)) (rV u sc nm it).f (rIfs u (relS scope sc) (capOf nm scope ++ [x]) ifs).f (u.e (relS scope sc) (capOf nm scope ++ [x]) elt).f,
    fun _ _ _ _ C => sim_comp _ _ ((rV u sc nm it).ok _ _ _ _ C) ((rIfs u (relS scope sc) (capOf nm scope ++ [x]) ifs).ok _ _ _ _ C) ((u.e (relS scope sc) (capOf nm scope ++ [x]) elt).ok _ _ _ _ C) (and2 g) (folded_is (and1 g))⟩
noncomputable def rComp (scope : Scope) (elt : Expr) (gens : List Comprehension) {pos : Pos} : RE cx sc nm (.ListComp elt gens scope pos) := onL1 (C := fun gens => RE cx sc nm (.ListComp elt gens scope pos)) gens (fun _ => rNo) fun g =>
  onGen (C := fun g => RE cx sc nm (.ListComp elt [g] scope pos)) g (fun _ => rNo) fun x px it ifs => rComp1 u sc nm scope elt x px it ifs pos
noncomputable def rTm (g : Str) (e : Expr) {p pos : Pos} : RE cx sc nm (.Call (.Name g p) [e] [] pos) := onC (C := fun e => RE cx sc nm (.Call (.Name g p) [e] [] pos)) e (fun _ => rNo) fun f args p4 =>
  onN (C := fun f => RE cx sc nm (.Call (.Name g p) [.Call f args [] p4] [] pos)) f (fun _ => rNo) fun m p2 => onL2 (C := fun l => RE cx sc nm (.Call (.Name g p) [.Call (.Name m p2) l [] p4] [] pos)) args (fun _ => rNo) fun y a =>
  onN (C := fun y => RE cx sc nm (.Call (.Name g p) [.Call (.Name m p2) [y, a] [] p4] [] pos)) y (fun _ => rNo) fun f p3 => onO (cx.b f) rNo fun sem hs =>
  onB (noStar a && glb sc f && (glb sc m && m == ("map" : Str)) && (glb sc g && g == ("tuple" : Str))) rNo fun h => ⟨xCall (semTM sem) (rEs u sc nm [a]).f, fun _ _ _ _ C => by
    obtain ⟨_, G, K, B⟩ := C.b f sem hs
    have e1 := eq_of_beq (and2 (and2 h))
    have e2 := eq_of_beq (and2 (and2 (and1 h)))
    subst e1 e2
    exact sim_tm C.tu C.ma G B ((rEs u sc nm [a]).ok _ _ _ _ C) (and1 (and1 (and1 h))) (glb_at (and1 (and2 h))) (glb_at (and1 (and2 (and1 h)))) (glb_at (and2 (and1 (and1 h))))⟩
noncomputable def rCallN (g : Str) (args : List Expr) {p pos : Pos} : RE cx sc nm (.Call (.Name g p) args [] pos) := match args with
  | [] => rNo
  | e :: r => onO (cx.b g) (match r with | [] => rTm u sc nm g e | _ :: _ => rNo) fun sem hs => onB ((e :: r).all noStar && glb sc g) rNo fun h => ⟨xCall sem (rEs u sc nm (e :: r)).f, fun _ _ _ _ C =>
    let ⟨_, G, K, B⟩ := C.b g sem hs; sim_bi G K (B.mono (Nat.le_succ _)) ((rEs u sc nm (e :: r)).ok _ _ _ _ C) (and1 h) (glb_at (and2 h))⟩
noncomputable def rMeth (o : Expr) (x : Str) (apos pos : Pos) (args : List Expr) : RE cx sc nm (.Call (.Attribute o x apos) args [] pos) := onL1 (C := fun args => RE cx sc nm (.Call (.Attribute o x apos) args [] pos)) args (fun _ => rNo) fun a =>
  onO (meths.find? (·.x == x)) rNo fun q hq => onB (plainBase o && noStar a && (apos.endLine == pos.line)) rNo fun h => ⟨xMeth q.T q.sem (u.e sc nm o).f (rEs u sc nm [a]).f, fun _ _ _ _ C => by
    have e := eq_of_beq (List.find?_some (p := fun r : MeR => r.x == x) hq)
    subst e
    exact sim_meth q.s q.t q.B ((u.e sc nm o).ok _ _ _ _ C) ((rEs u sc nm [a]).ok _ _ _ _ C) ((Bool.and_true _).trans (and2 (and1 h))) (meth_he (and1 (and1 h)) (and2 (and1 h)) (and2 h))⟩
noncomputable def rCall (f : Expr) (args : List Expr) (pos : Pos) : RE cx sc nm (.Call f args [] pos) := onE (C := fun f => RE cx sc nm (.Call f args [] pos)) f (fun _ => rNo) (fun g p => rCallN u sc nm g args) (fun o x ap => rMeth u sc nm o x ap pos args) (fun _ _ _ _ => rNo) fun _ _ _ => rNo
noncomputable def rCmp (a : Expr) (ops : List CmpOp) (bs : List Expr) {pos : Pos} : RE cx sc nm (.Compare a ops bs pos) := onL1 (C := fun ops => RE cx sc nm (.Compare a ops bs pos)) ops (fun _ => rNo) fun op => onL1 (C := fun bs => RE cx sc nm (.Compare a [op] bs pos)) bs (fun _ => rNo) fun b =>
  onB (!behindInMarks op b) rNo fun h => ⟨xCmp op (u.e sc nm a).f (u.e sc nm b).f, fun _ _ _ _ C => sim_cmp op ((u.e sc nm a).ok _ _ _ _ C) ((u.e sc nm b).ok _ _ _ _ C) (not_true h)⟩
noncomputable def rCmpT (a : Expr) (ops : List CmpOp) (bs : List Expr) {pos : Pos} : RT cx sc nm (.Compare a ops bs pos) := onL1 (C := fun ops => RT cx sc nm (.Compare a ops bs pos)) ops (fun _ => rNoT) fun op => onL1 (C := fun bs => RT cx sc nm (.Compare a [op] bs pos)) bs (fun _ => rNoT) fun b =>
  onB (!behindInMarks op b) rNoT fun h => ⟨tCmp op (u.e sc nm a).f (u.e sc nm b).f, fun _ _ _ _ C => simT_cmp op ((u.e sc nm a).ok _ _ _ _ C) ((u.e sc nm b).ok _ _ _ _ C) (not_true h)⟩
noncomputable def rOr (op : BoolOp) (es : List Expr) {pos : Pos} : RE cx sc nm (.BoolOp op es pos) := match op with
  | .Or => onL2 (C := fun es => RE cx sc nm (.BoolOp .Or es pos)) es (fun _ => rNo) fun a b => ⟨xOr (u.e sc nm a).f (u.e sc nm b).f, fun _ _ _ _ C => sim_or ((u.e sc nm a).ok _ _ _ _ C) ((u.e sc nm b).ok _ _ _ _ C)⟩
  | .And => rNo
noncomputable def rE (e : Expr) : RE cx sc nm e := match e with
  | .Constant c _ _ => rConst c
  | .Name x _ => rName x
  | .BinOp a op b _ => ⟨xBin2 op (u.e sc nm a).f (u.e sc nm b).f, fun _ _ _ _ C => sim_bin2 ((u.e sc nm a).ok _ _ _ _ C) ((u.e sc nm b).ok _ _ _ _ C)⟩
  | .UnaryOp op a _ => match op with
    | .USub => ⟨xNeg (u.e sc nm a).f, fun _ _ _ _ C => sim_neg ((u.e sc nm a).ok _ _ _ _ C)⟩
    | _ => rNo
  | .Compare a ops bs _ => rCmp u sc nm a ops bs
  | .BoolOp op es _ => rOr u sc nm op es
  | .IfExp t a b _ => ⟨xIf (u.t sc nm t).f (u.e sc nm a).f (u.e sc nm b).f, fun _ _ _ _ C => sim_if ((u.t sc nm t).ok _ _ _ _ C) ((u.e sc nm a).ok _ _ _ _ C) ((u.e sc nm b).ok _ _ _ _ C)⟩
  | .List es _ => ⟨xList (rEs u sc nm es).f, fun _ _ _ _ C => sim_list ((rEs u sc nm es).ok _ _ _ _ C)⟩
  | .Tuple es _ _ => ⟨xTup (rEs u sc nm es).f, fun _ _ _ _ C => sim_tup ((rEs u sc nm es).ok _ _ _ _ C)⟩
  | .Subscript a i _ => rSub u sc nm a i
  | .Call f args kw pos => match kw with
    | [] => rCall u sc nm f args pos
    | _ :: _ => rNo
  | .ListComp elt gens scope _ => rComp u sc nm scope elt gens
  | _ => rNo
noncomputable def rT (e : Expr) : RT cx sc nm e := match e with
  | .Compare a ops bs _ => rCmpT u sc nm a ops bs
  | .UnaryOp op a _ => match op with
    | .Not => ⟨tNot (u.t sc nm a).f, fun _ _ _ _ C => simT_not ((u.t sc nm a).ok _ _ _ _ C)⟩
    | _ => rNoT
  | .BoolOp op es _ => ⟨(rTs u sc nm op es).f, fun _ _ _ _ C => simT_bool ((rTs u sc nm op es).ok _ _ _ _ C)⟩
  | e => onB (plainTest e) rNoT fun h => ⟨tX (u.e sc nm e).f, fun _ _ _ _ C => simT_x ((u.e sc nm e).ok _ _ _ _ C) h⟩
end
noncomputable def bu (cx : Cx) : Nat → Bu cx
  | 0 => ⟨fun _ _ _ => rNo, fun _ _ _ => rNoT⟩
  | k + 1 => ⟨rE (bu cx k), rT (bu cx k)⟩
end Mine
end
section
open PySem.W
namespace Mine

noncomputable def aNever : V → Slots → Option Slots := fun _ _ => none
noncomputable def noComp : Expr → Bool
  | .ListComp _ _ _ _ => false
  | .SetComp _ _ _ _ => false
  | .DictComp _ _ _ _ _ => false
  | _ => true
noncomputable def noTup : Expr → Bool
  | .Tuple _ _ _ => false
  | _ => true
theorem swaps_is {e : Expr} (h : noComp e = true) (t : Option Expr) (l : Nat) (env : Env) : swapsWith e t l env = pure false := by cases e <;> first | rfl | cases h
theorem swapped_is {e : Expr} (h : noTup e = true) (ts : List Expr) (k : Nat) (p : Pos) (env : Env) : swappedStores [.Tuple ts k p] e env = pure none := by cases e <;> first | rfl | cases h
/- y = [..]: y is a local of its own, or one that an inner function takes -/
noncomputable def locOk (sc : Scope) (x : Str) (px : Pos) (line : Nat) (scope : Scope) : Bool := sc.names.lookup x == some .local && sc.kind == .function && px.line == line && !(scope.names.any fun (n, k) => n == x && (k == .local || k == .cell))
section
variable {prog : Program} {w : World} {hb : Heap} {n : Nat} {sc : Scope} {nm : List Str}
theorem simA_never {t : Expr} : SimA prog w hb sc nm t aNever := fun _ _ _ _ _ _ _ _ _ _ _ _ _ _ _ _ _ hf => nomatch hf
/- x = e, the look at the swapped comprehension told for this scope alone -/
theorem sim_setk {x : Str} {e : Expr} {f : XF} {pos pos' : Pos} (i : Nat) (he : SimE prog w hb n sc nm e f) (hx : nm[i]? = some x) (hnd : nm.Nodup) (hk : kindL sc x = true)
    (hs : ∀ env : Env, env.scope = sc → swapsWith e (some (.Name x pos')) pos.line env = pure false) : SimS prog w hb n sc nm (.Assign [.Name x pos'] e pos) (sSet i f) := by
  intro env Z α A s mem sl o mem' sl' Q E hsc rm bd st hf hQ
  unfold sSet at hf
  cases hv : f mem sl with
  | none => rw [hv] at hf; cases hf
  | some v =>
    rw [hv] at hf
    obtain ⟨rfl, rfl, rfl⟩ := so3 hf
    refine wpAny_Assign_Name (he env Z α A s mem sl v _ _ hsc rm st hv fun y h1 t1 r1 k1 s1 => ?_) (hs env hsc)
    refine store_sim hx hnd hk hsc (bd.kp k1) (st.kp k1 s1) r1 fun h' tk nx bd' st' => ?_
    exact hQ .next h' tk Z α ((Nx.of_kp k1).trans nx) bd' st' rfl
theorem swaps_cell {elt : Expr} {gens : List Comprehension} {scope : Scope} {pos p : Pos} {x : Str} {l : Nat} (h : sc.names.lookup x = some .cell) (env : Env) (hsc : env.scope = sc) : swapsWith (.ListComp elt gens scope pos) (some (.Name x p)) l env = pure false := by
  have h1 : env.kindOf x = some .cell := by unfold Env.kindOf; rw [hsc]; exact h
  show (pure (env.blockKind == .function && env.kindOf x == some .local && p.line == pos.line && !(scope.names.any fun (n, k) => n == x && (k == .local || k == .cell))) : Sem Bool) = _
  rw [h1]
  have : (some NameKind.cell == some NameKind.local) = false := rfl
  rw [this, Bool.and_false, Bool.false_and, Bool.false_and]
end
/- eliminators -/
noncomputable def onX {C : Stmt → Type} (c : Stmt) (d : ∀ c, C c) (k : ∀ e p, C (.Expr e p)) : C c := match c with
  | .Expr e p => k e p
  | c => d c
/- x.m(y), x and y names, alone -/
noncomputable def onNC {C : List Stmt → Type} (b : List Stmt) (d : ∀ b, C b) (k : ∀ x p1 m ap y p2 p sp, C [.Expr (.Call (.Attribute (.Name x p1) m ap) [.Name y p2] [] p) sp]) : C b :=
  onL1 b d fun c => onX (C := fun c => C [c]) c (fun _ => d _) fun e sp => onC (C := fun e => C [.Expr e sp]) e (fun _ => d _) fun f args p => onE (C := fun f => C [.Expr (.Call f args [] p) sp]) f (fun _ => d _) (fun _ _ => d _)
    (fun o m ap => onN (C := fun o => C [.Expr (.Call (.Attribute o m ap) args [] p) sp]) o (fun _ => d _) fun x p1 => onL1 (C := fun args => C [.Expr (.Call (.Attribute (.Name x p1) m ap) args [] p) sp]) args (fun _ => d _) fun a =>
      onN (C := fun a => C [.Expr (.Call (.Attribute (.Name x p1) m ap) [a] [] p) sp]) a (fun _ => d _) fun y p2 => k x p1 m ap y p2 p sp) (fun _ _ _ _ => d _) fun _ _ _ => d _
noncomputable def onHd {C : List ExceptHandler → Type} (hs : List ExceptHandler) (d : ∀ hs, C hs) (k : ∀ x p b q, C [.ExceptHandler (some (.Name x p)) none b q]) : C hs :=
  onL1 hs d fun h => match h with
    | .ExceptHandler (some t) none b q => onN (C := fun t => C [.ExceptHandler (some t) none b q]) t (fun _ => d _) fun x p => k x p b q
    | _ => d _
section
variable {cx : Cx} {sc : Scope} {nm : List Str}
noncomputable abbrev RS (cx : Cx) (sc : Scope) (nm : List Str) (c : Stmt) := R cx fun p w h n f => SimS p w h n sc nm c f
noncomputable abbrev RA (cx : Cx) (sc : Scope) (nm : List Str) (t : Expr) := R cx fun p w h _ f => SimA p w h sc nm t f
noncomputable def sNo {c : Stmt} : RS cx sc nm c := ⟨sNever, fun _ _ _ _ _ => simS_never⟩
noncomputable def aNo {t : Expr} : RA cx sc nm t := ⟨aNever, fun _ _ _ _ _ => simA_never⟩
variable (u : Bu cx) (hnd : nm.Nodup)
include hnd
noncomputable def rA1 (t : Expr) : RA cx sc nm t := onN t (fun _ => aNo) fun x _ => onO (idx nm x) aNo fun i hi => onB (kindL sc x) aNo fun hk => ⟨aN i, fun _ _ _ _ _ => simA_name i (idx_at hi) hnd hk⟩
noncomputable def rAL : (ts : List Expr) → ts.all noStar = true → R cx fun p w h _ f => SimAL p w h sc nm ts f
  | [], _ => ⟨aNil, fun _ _ _ _ _ => simAL_nil⟩
  | t :: ts, h => ⟨aCons (rA1 (cx := cx) (sc := sc) hnd t).f (rAL ts (and2 h)).f, fun _ _ _ _ C => simAL_cons ((rA1 (cx := cx) (sc := sc) hnd t).ok _ _ _ _ C) ((rAL ts (and2 h)).ok _ _ _ _ C) (and1 h)⟩
noncomputable def rA (t : Expr) : RA cx sc nm t := onE t (rA1 hnd) (fun _ _ => rA1 hnd _) (fun _ _ _ => aNo) (fun _ _ _ _ => aNo) fun ts _ _ => onB (ts.all noStar) aNo fun h => ⟨aTup (rAL (cx := cx) (sc := sc) hnd ts h).f, fun _ _ _ _ C => simA_tup ((rAL hnd ts h).ok _ _ _ _ C)⟩
noncomputable def rI0 (t it : Expr) : R cx fun p w h n f => SimI p w h n sc nm t it f := ⟨gV (rA (cx := cx) (sc := sc) hnd t).f (rV u sc nm it).f, fun _ _ _ _ C => simI_v ((rA hnd t).ok _ _ _ _ C) ((rV u sc nm it).ok _ _ _ _ C)⟩
noncomputable def rI (t it : Expr) : R cx fun p w h n f => SimI p w h n sc nm t it f := onE (C := fun t => R cx fun p w h n f => SimI p w h n sc nm t it f) t (fun _ => rI0 u hnd _ _) (fun _ _ => rI0 u hnd _ _) (fun _ _ _ => rI0 u hnd _ _) (fun _ _ _ _ => rI0 u hnd _ _) fun ts k p =>
  onC (C := fun it => R cx fun p' w h n f => SimI p' w h n sc nm (.Tuple ts k p) it f) it (fun _ => rI0 u hnd _ _) fun f args q => onN (C := fun g => R cx fun p' w h n f => SimI p' w h n sc nm (.Tuple ts k p) (.Call g args [] q) f) f (fun _ => rI0 u hnd _ _) fun x p2 =>
  onL1 (C := fun args => R cx fun p' w h n f => SimI p' w h n sc nm (.Tuple ts k p) (.Call (.Name x p2) args [] q) f) args (fun _ => rI0 u hnd _ _) fun a => onB (noStar a && ts.all noStar && glb sc x && x == ("enumerate" : Str)) (rI0 u hnd _ _) fun h =>
  ⟨gEnum (rAL (cx := cx) (sc := sc) hnd ts (and2 (and1 (and1 h)))).f (rEs u sc nm [a]).f, fun _ _ _ _ C => by
    have e := eq_of_beq (and2 h)
    subst e
    exact simI_enum C.en ((rAL hnd ts (and2 (and1 (and1 h)))).ok _ _ _ _ C) ((rEs u sc nm [a]).ok _ _ _ _ C) ((Bool.and_true _).trans (and1 (and1 (and1 h)))) (glb_at (and2 (and1 h)))⟩
variable {x : Str} {i : Nat} (hx : nm[i]? = some x) (hk : kindL sc x = true)
include hx hk
noncomputable def rSete {px spos : Pos} {e : Expr} (h : noComp e = true) : RS cx sc nm (.Assign [.Name x px] e spos) := ⟨sSet i (u.e sc nm e).f, fun _ _ _ _ C => sim_setk i ((u.e sc nm e).ok _ _ _ _ C) hx hnd hk fun env _ => swaps_is h _ _ env⟩
noncomputable def rSetC {px pos spos : Pos} (hl : (pos.line == spos.line) = true) (elt : Expr) (scope : Scope) (gens : List Comprehension) : RS cx sc nm (.Assign [.Name x px] (.ListComp elt gens scope pos) spos) :=
  onL2 (C := fun gens => RS cx sc nm (.Assign [.Name x px] (.ListComp elt gens scope pos) spos)) gens
    (fun gens => onL1 (C := fun gens => RS cx sc nm (.Assign [.Name x px] (.ListComp elt gens scope pos) spos)) gens (fun _ => sNo) fun g => onGen (C := fun g => RS cx sc nm (.Assign [.Name x px] (.ListComp elt [g] scope pos) spos)) g (fun _ => sNo) fun x0 p it ifs =>
      onB (sc.names.lookup x == some .cell)
        (onB (compOk sc nm scope x0 it && locOk sc x px spos.line scope) sNo fun h => ⟨sSet i (xComp (capIx nm (capOf nm scope)) (rV u sc nm it).f (rIfs u (relS scope sc) (capOf nm scope ++ [x0]) ifs).f (u.e (relS scope sc) (capOf nm scope ++ [x0]) elt).f), fun _ _ _ _ C =>
          sim_setc i _ _ ((rV u sc nm it).ok _ _ _ _ C) ((rIfs u (relS scope sc) (capOf nm scope ++ [x0]) ifs).ok _ _ _ _ C) ((u.e (relS scope sc) (capOf nm scope ++ [x0]) elt).ok _ _ _ _ C) hx hnd (eq_of_beq (and1 (and1 (and1 (and2 h))))) (eq_of_beq (and2 (and1 (and1 (and2 h))))) (and2 (and1 h))
            (beq_iff_eq.mpr ((eq_of_beq (and2 (and1 (and2 h)))).trans (eq_of_beq hl).symm)) (not_true (and2 (and2 h))) (folded_is (and1 (and1 h)))⟩)
        fun hc => ⟨sSet i (rComp1 u sc nm scope elt x0 p it ifs pos).f, fun _ _ _ _ C => sim_setk i ((rComp1 u sc nm scope elt x0 p it ifs pos).ok _ _ _ _ C) hx hnd hk fun env hsc => swaps_cell (eq_of_beq hc) env hsc⟩)
    fun g1 g2 => onGen (C := fun g => RS cx sc nm (.Assign [.Name x px] (.ListComp elt [g, g2] scope pos) spos)) g1 (fun _ => sNo) fun x0 p0 it if0 => match if0 with
      | _ :: _ => sNo
      | [] => onGen (C := fun g => RS cx sc nm (.Assign [.Name x px] (.ListComp elt [⟨.Name x0 p0, it, [], 0⟩, g] scope pos) spos)) g2 (fun _ => sNo) fun x1 p1 i1 ifs =>
        onB (notSet it && notSet i1 && compB sc nm (capOf nm scope ++ [x0, x1]) (capIx nm (capOf nm scope)) scope [x0, x1] && locOk sc x px spos.line scope) sNo fun h =>
          ⟨sSet i (xComp2 (capIx nm (capOf nm scope)) (rV u sc nm it).f (rV u (relS scope sc) (capOf nm scope ++ [x0, x1]) i1).f (rIfs u (relS scope sc) (capOf nm scope ++ [x0, x1]) ifs).f (u.e (relS scope sc) (capOf nm scope ++ [x0, x1]) elt).f), fun _ _ _ _ C =>
            sim_setc2 i _ _ ((rV u sc nm it).ok _ _ _ _ C) ((rV u (relS scope sc) (capOf nm scope ++ [x0, x1]) i1).ok _ _ _ _ C) ((rIfs u (relS scope sc) (capOf nm scope ++ [x0, x1]) ifs).ok _ _ _ _ C) ((u.e (relS scope sc) (capOf nm scope ++ [x0, x1]) elt).ok _ _ _ _ C) hx hnd
              (eq_of_beq (and1 (and1 (and1 (and2 h))))) (eq_of_beq (and2 (and1 (and1 (and2 h))))) (and2 (and1 h)) (beq_iff_eq.mpr ((eq_of_beq (and2 (and1 (and2 h)))).trans (eq_of_beq hl).symm)) (not_true (and2 (and2 h))) (folded_is (and1 (and1 (and1 h)))) (folded_is (and2 (and1 (and1 h))))⟩
variable (cells : List Str)
noncomputable def rSetN (g : Str) (args : List Expr) {px p pos spos : Pos} : RS cx sc nm (.Assign [.Name x px] (.Call (.Name g p) args [] pos) spos) := match args with
  | [] => sNo
  | a :: r => onO (cx.ef g)
      (onB (cells.contains x) (rSete u hnd hx hk rfl) fun _ => onL1 (C := fun l => RS cx sc nm (.Assign [.Name x px] (.Call (.Name g p) l [] pos) spos)) (a :: r) (fun _ => rSete u hnd hx hk rfl) fun a =>
        onB (noStar a && glb sc g && g == ("list" : Str)) sNo fun h => ⟨sNew i (nListOf (rEs u sc nm [a]).f), fun _ _ _ _ C => by
          have e := eq_of_beq (and2 h)
          subst e
          exact sim_new i (simN_listof C.li ((rEs u sc nm [a]).ok _ _ _ _ C) ((Bool.and_true _).trans (and1 (and1 h))) (glb_at (and2 (and1 h)))) hx hnd hk fun env => swaps_is rfl _ _ env⟩)
      fun sem hs => onB ((a :: r).all noStar && glb sc g) sNo fun h => ⟨sEf i sem (rEs u sc nm (a :: r)).f, fun _ _ _ _ C =>
        let ⟨_, G, K, B⟩ := C.ef g sem hs; sim_ef i G K (B.mono (Nat.le_succ _)) ((rEs u sc nm (a :: r)).ok _ _ _ _ C) hx hnd hk (and1 h) (glb_at (and2 h))⟩
noncomputable def rSetCall (f : Expr) (args : List Expr) {px pos spos : Pos} : RS cx sc nm (.Assign [.Name x px] (.Call f args [] pos) spos) := onE (C := fun f => RS cx sc nm (.Assign [.Name x px] (.Call f args [] pos) spos)) f (fun _ => sNo) (fun g p => rSetN u hnd hx hk cells g args)
  (fun o m apos => match args with
    | _ :: _ => rSete u hnd hx hk rfl
    | [] => onB (plainBase o && (apos.endLine == pos.line) && m == ("pop" : Str)) sNo fun h => ⟨sPop i (u.e sc nm o).f, fun _ _ _ _ C => by
      have e := eq_of_beq (and2 h)
      subst e
      exact sim_pop i ((u.e sc nm o).ok _ _ _ _ C) hx hnd hk (pop_he (and1 (and1 h)) (and2 (and1 h)))⟩)
  (fun _ _ _ _ => sNo) fun _ _ _ => sNo
noncomputable def rSet (e : Expr) {px spos : Pos} : RS cx sc nm (.Assign [.Name x px] e spos) := match e with
  | .ListComp elt gens scope pos => onB (pos.line == spos.line) sNo fun h => rSetC u hnd hx hk h elt scope gens
  | .Call f args kw pos => match kw with
    | [] => rSetCall u hnd hx hk cells f args
    | _ :: _ => sNo
  | .Dict ks vs p => match ks, vs with
    | [], [] => ⟨sNew i nDict, fun _ _ _ _ _ => sim_new i simN_dict hx hnd hk⟩
    | _ :: _, _ => sNo
    | [], _ :: _ => sNo
  | .List es p => onB (cells.contains x) (rSete u hnd hx hk rfl) fun _ => ⟨sNew i (nList (rEs u sc nm es).f), fun _ _ _ _ C => sim_new i (simN_list ((rEs u sc nm es).ok _ _ _ _ C)) hx hnd hk⟩
  | .BinOp a op b p => onB (cells.contains x) (rSete u hnd hx hk rfl) fun _ => match op with
    | .Mult => ⟨sNew i (nMul (u.e sc nm a).f (u.e sc nm b).f), fun _ _ _ _ C => sim_new i (simN_mul ((u.e sc nm a).ok _ _ _ _ C) ((u.e sc nm b).ok _ _ _ _ C)) hx hnd hk⟩
    | _ => rSete u hnd hx hk rfl
  | e => onB (noComp e) sNo fun h => rSete u hnd hx hk h
omit hx hk
noncomputable def rOne (ts : List Expr) (elt : Expr) (gens : List Comprehension) (scope : Scope) {k : Nat} {tp pos spos : Pos} : RS cx sc nm (.Assign [.Tuple ts k tp] (.SetComp elt gens scope pos) spos) :=
  onL1 (C := fun gens => RS cx sc nm (.Assign [.Tuple ts k tp] (.SetComp elt gens scope pos) spos)) gens (fun _ => sNo) fun g => onGen (C := fun g => RS cx sc nm (.Assign [.Tuple ts k tp] (.SetComp elt [g] scope pos) spos)) g (fun _ => sNo) fun x p it ifs => match ifs with
    | _ :: _ => sNo
    | [] => onL1 (C := fun ts => RS cx sc nm (.Assign [.Tuple ts k tp] (.SetComp elt [⟨.Name x p, it, [], 0⟩] scope pos) spos)) ts (fun _ => sNo) fun t => onN (C := fun t => RS cx sc nm (.Assign [.Tuple [t] k tp] (.SetComp elt [⟨.Name x p, it, [], 0⟩] scope pos) spos)) t (fun _ => sNo) fun y py =>
      onO (idx nm y) sNo fun i hi => onB (kindL sc y && compOk sc nm scope x it) sNo fun h => ⟨sOne i (capIx nm (capOf nm scope)) (rV u sc nm it).f (u.e (relS scope sc) (capOf nm scope ++ [x]) elt).f, fun _ _ _ _ C =>
        sim_one i _ _ ((rV u sc nm it).ok _ _ _ _ C) ((u.e (relS scope sc) (capOf nm scope ++ [x]) elt).ok _ _ _ _ C) (idx_at hi) hnd (and1 h) (and2 (and2 h)) (folded_is (and1 (and2 h)))⟩
noncomputable def rAsg (e t : Expr) {spos : Pos} : RS cx sc nm (.Assign [t] e spos) := match t with
  | .Name x px => onO (idx nm x) sNo fun i hi => onB (kindL sc x) sNo fun hk => rSet u hnd (idx_at hi) hk cells e
  | .Tuple ts k tp => match e with
    | .SetComp elt gens scope _ => rOne u hnd ts elt gens scope
    | e => onB (noComp e && noTup e && ts.all noStar) sNo fun h => ⟨sUnp (aTup (rAL (cx := cx) (sc := sc) hnd ts (and2 h)).f) (u.e sc nm e).f, fun _ _ _ _ C => sim_unp (simA_tup ((rAL hnd ts (and2 h)).ok _ _ _ _ C)) ((u.e sc nm e).ok _ _ _ _ C)
      (fun env => (swaps_is (and1 (and1 h)) (some (.Tuple ts k tp)) spos.line env : swapsWithSole [.Tuple ts k tp] e spos.line env = pure false)) fun env => swapped_is (and2 (and1 h)) _ _ _ env⟩
  | .Subscript o i p => onB (noComp e) sNo fun h => ⟨sStore (u.e sc nm e).f (u.e sc nm o).f (u.e sc nm i).f, fun _ _ _ _ C => sim_store ((u.e sc nm e).ok _ _ _ _ C) ((u.e sc nm o).ok _ _ _ _ C) ((u.e sc nm i).ok _ _ _ _ C) fun env => swaps_is h _ _ env⟩
  | _ => sNo
omit hnd
noncomputable def rExp (e : Expr) {spos : Pos} : RS cx sc nm (.Expr e spos) := onC (C := fun e => RS cx sc nm (.Expr e spos)) e (fun _ => sNo) fun f args pos => onE (C := fun f => RS cx sc nm (.Expr (.Call f args [] pos) spos)) f (fun _ => sNo) (fun _ _ => sNo)
  (fun o m ap => onL1 (C := fun args => RS cx sc nm (.Expr (.Call (.Attribute o m ap) args [] pos) spos)) args (fun _ => sNo) fun a => onB (plainBase o && noStar a && (ap.endLine == pos.line) && m == ("append" : Str)) sNo fun h => ⟨sApp (u.e sc nm o).f (u.e sc nm a).f, fun _ _ _ _ C => by
    have e := eq_of_beq (and2 h)
    subst e
    exact sim_app ((u.e sc nm o).ok _ _ _ _ C) ((u.e sc nm a).ok _ _ _ _ C) (and2 (and1 (and1 h))) (meth_he (and1 (and1 (and1 h))) (and2 (and1 (and1 h))) (and2 (and1 h)))⟩)
  (fun _ _ _ _ => sNo) fun _ _ _ => sNo
noncomputable abbrev RB (cx : Cx) (sc : Scope) (nm : List Str) (b : List Stmt) := R cx fun p w h n f => SimB p w h n sc nm b f
noncomputable def rB (rec : ∀ c, RS cx sc nm c) : (b : List Stmt) → RB cx sc nm b
  | [] => ⟨bNil, fun _ _ _ _ _ => simB_nil⟩
  | c :: cs => ⟨bCons (rec c).f (rB rec cs).f, fun _ _ _ _ C => simB_cons ((rec c).ok _ _ _ _ C) ((rB rec cs).ok _ _ _ _ C)⟩
noncomputable def whFuel : Nat := 12
noncomputable def rTry0 (rec : ∀ c, RS cx sc nm c) (b : List Stmt) (hs : List ExceptHandler) {pos : Pos} : RS cx sc nm (.Try b hs [] [] pos) := match hs with
  | [] => sNo
  | _ :: _ => ⟨(rB rec b).f, fun _ _ _ _ C => sim_try ((rB rec b).ok _ _ _ _ C)⟩
noncomputable def rTry (rec : ∀ c, RS cx sc nm c) (b : List Stmt) (hs : List ExceptHandler) {pos : Pos} : RS cx sc nm (.Try b hs [] [] pos) :=
  onNC (C := fun b => RS cx sc nm (.Try b hs [] [] pos)) b (fun b => rTry0 rec b hs) fun x p1 m ap y p2 p sp => onHd (C := fun hs => RS cx sc nm (.Try [.Expr (.Call (.Attribute (.Name x p1) m ap) [.Name y p2] [] p) sp] hs [] [] pos)) hs (fun hs => rTry0 rec _ hs) fun ve pv hb q =>
  onNC (C := fun hb => RS cx sc nm (.Try [.Expr (.Call (.Attribute (.Name x p1) m ap) [.Name y p2] [] p) sp] [.ExceptHandler (some (.Name ve pv)) none hb q] [] [] pos)) hb (fun hb => rTry0 rec _ _) fun x' q1 m' ap' y' q2 p' sp' =>
  onO (idx nm x) sNo fun ia ha => onO (idx nm y) sNo fun ii hi => onO (idx nm x') sNo fun im hm =>
  onB (!dbg x && !dbg y && !dbg x' && glb sc ve && (ap.endLine == p.line) && (ap'.endLine == p'.line) && (m == ("remove" : Str) && m' == ("append" : Str) && (ve == ("ValueError" : Str) && y' == y))) sNo fun h => ⟨sTryRem ia ii im, fun _ _ _ _ C => by
    have g := and1 h
    have e1 := eq_of_beq (and1 (and1 (and2 h)))
    have e2 := eq_of_beq (and2 (and1 (and2 h)))
    have e3 := eq_of_beq (and1 (and2 (and2 h)))
    have e4 := eq_of_beq (and2 (and2 (and2 h)))
    subst e1 e2 e3 e4
    exact sim_tryrem ia ii im C.ve (idx_at ha) (idx_at hi) (idx_at hm) (not_true (and1 (and1 (and1 (and1 (and1 g)))))) (not_true (and2 (and1 (and1 (and1 (and1 g)))))) (not_true (and2 (and1 (and1 (and1 g))))) (glb_at (and2 (and1 (and1 g)))) (meth_he rfl rfl (and2 (and1 g))) (meth_he rfl rfl (and2 g))⟩
include hnd
noncomputable def rAug (t : Expr) (op : Operator) (e : Expr) {pos : Pos} : RS cx sc nm (.AugAssign t op e pos) := onN (C := fun t => RS cx sc nm (.AugAssign t op e pos)) t (fun _ => sNo) fun x p => onO (idx nm x) sNo fun i hi => onB (kindL sc x) sNo fun hk =>
  ⟨sAug i op (u.e sc nm e).f, fun _ _ _ _ C => sim_aug i op ((u.e sc nm e).ok _ _ _ _ C) (idx_at hi) hnd hk⟩
noncomputable def rSt (rec : ∀ c, RS cx sc nm c) (c : Stmt) : RS cx sc nm c := match c with
  | .Assign ts e _ => onL1 (C := fun ts => RS cx sc nm (.Assign ts e _)) ts (fun _ => sNo) fun t => rAsg u hnd cells e t
  | .Return o _ => match o with
    | some e => ⟨sRet (u.e sc nm e).f, fun _ _ _ _ C => sim_ret ((u.e sc nm e).ok _ _ _ _ C)⟩
    | none => sNo
  | .If t b r _ => ⟨sIf (u.t sc nm t).f (rB rec b).f (rB rec r).f, fun _ _ _ _ C => sim_sif ((u.t sc nm t).ok _ _ _ _ C) ((rB rec b).ok _ _ _ _ C) ((rB rec r).ok _ _ _ _ C)⟩
  | .For t it b r _ => onB (notSet it) sNo fun h => ⟨sFor (rI u hnd t it).f (rB rec b).f (rB rec r).f, fun _ _ _ _ C => sim_for ((rI u hnd t it).ok _ _ _ _ C) ((rB rec b).ok _ _ _ _ C) ((rB rec r).ok _ _ _ _ C) (folded_is h)⟩
  | .While t b r _ => match r with
    | [] => ⟨whGo (u.t sc nm t).f (rB rec b).f whFuel, fun _ _ _ _ C => sim_while _ ((u.t sc nm t).ok _ _ _ _ C) ((rB rec b).ok _ _ _ _ C)⟩
    | _ :: _ => sNo
  | .Break _ => ⟨sBrk, fun _ _ _ _ _ => sim_brk⟩
  | .Expr e _ => rExp u e
  | .AugAssign t op e _ => rAug u hnd t op e
  | .Try b hs r f _ => match r, f with
    | [], [] => rTry rec b hs
    | _ :: _, _ => sNo
    | [], _ :: _ => sNo
  | _ => sNo
noncomputable def rS : Nat → (c : Stmt) → RS cx sc nm c
  | 0, _ => sNo
  | k + 1, c => rSt u hnd cells (rS k) c
end
noncomputable def cBody (cx : Cx) (sc : Scope) (nm : List Str) (cells : List Str) (body : List Stmt) : SF := onB (decide nm.Nodup) sNever fun h => (rB (rS (cx := cx) (sc := sc) (bu cx 12) (of_decide_eq_true h) cells 8) body).f
theorem onB_at {β : Type} {b : Bool} {d : β} {k : b = true → β} {P : β → Prop} (h : b = true) (hk : P (k h)) : P (onB b d k) := by subst h; exact hk
theorem sound_body {prog : Program} {w : World} {hb : Heap} {n : Nat} {sc : Scope} {nm : List Str} {cx : Cx} (ok : CxOk prog w hb n cx) (hnd : nm.Nodup) (cells : List Str) (body : List Stmt) : SimB prog w hb (n + 1) sc nm body (cBody cx sc nm cells body) :=
  onB_at (P := SimB prog w hb (n + 1) sc nm body) (decide_eq_true hnd) ((rB _ body).ok _ _ _ _ ok)
end Mine
end
section
open PySem.W
namespace Mine
section
variable {prog : Program} {w : World} {hb : Heap} {n : Nat}

theorem gn_glob {mg : Str → Option Value} (g : hb.Ns mainGlobals mg) {x : Str} {v : Value} (h : mg x = some v) (hd : dbg x = false) : GN hb x v where
  load := fun M A E s env Q e1 e2 hs q => loadGlobal_global (mg := mg) (by rw [e1]; exact g.keeps hs) h q
  dbg := hd
theorem gn_blt {mg mb : Str → Option Value} (g : hb.Ns mainGlobals mg) (b : hb.Ns builtinsNs mb) {x : Str} {v : Value} (h1 : mg x = none) (h2 : mb x = some v) (hd : dbg x = false) : GN hb x v where
  load := fun M A E s env Q e1 e2 hs q => loadGlobal_builtin (mg := mg) (mb := mb) (by rw [e1]; exact g.keeps hs) h1 (by rw [e2]; exact b.keeps hs) h2 q
  dbg := hd

/- what a def must be like -/
noncomputable def fnOk (d : DefRec) (nm ps : List Str) : Bool := ps.isPrefixOf nm && decide nm.Nodup && ps.all (kindL d.scope) && d.scope.names.all (fun x => x.2 != .free) && !d.scope.isCoroutine && !d.scope.isGenerator && d.scope.kind == .function
structure FnF (hb : Heap) (d : DefRec) (f : Addr) : Prop where
  gn : GN hb d.name (.ref f)
  ks : Keeps1 hb (.ref f)
  fn : FnIs hb f d.name d.params d.body d.scope
theorem fn_at {p : Program} {loose : List Str} {mean : ExcName → Option Value} {mg mb : Str → Option Value} (T : Top p loose mean mg mb hb) {d : DefRec} (hd : d ∈ recsOf p) (hx : dbg d.name = false) : ∃ f, mg d.name = some (.ref f) ∧ FnF hb d f := by
  obtain ⟨a, o, pm, cd, doc, h1, h2, h3, h4⟩ := T.fn d hd
  exact ⟨a, h1, gn_glob T.g h1 hx, keeps1_fn h2 h3, ⟨o, pm, cd, doc, h2, h3, h4⟩, T.nolimit⟩
theorem fn_e {d : DefRec} {f : Addr} (h : FnF hb d f) {cx : Cx} (ok : CxOk prog w hb n cx) (nm ps cells : List Str) (F : SF) (hF : cBody cx d.scope nm cells d.body = F) (hok : fnOk d nm ps = true)
    (hbind : ∀ pm cd doc (ys : List Value), ys.length = ps.length → bindArgs (docDef d.name d.params d.body d.scope pm cd doc) ⟨ys, []⟩ = pure (ps.zip ys)) :
    EfSem prog w hb (n + 2) (.ref f) (efSem ps.length nm.length F) := by
  subst hF
  exact fn_ef h.fn (sound_body ok (of_decide_eq_true (and2 (and1 (and1 (and1 (and1 (and1 hok))))))) cells d.body) hbind (List.isPrefixOf_iff_prefix.mp (and1 (and1 (and1 (and1 (and1 (and1 hok)))))))
    (of_decide_eq_true (and2 (and1 (and1 (and1 (and1 (and1 hok))))))) (and2 (and1 (and1 (and1 (and1 hok))))) (and2 (and1 (and1 (and1 hok)))) (not_true (and2 (and1 (and1 hok)))) (not_true (and2 (and1 hok))) (eq_of_beq (and2 hok))
theorem fn_v {d : DefRec} {f : Addr} (h : FnF hb d f) {cx : Cx} (ok : CxOk prog w hb n cx) (nm cells : List Str) (p1 p2 : Str) (F : SF) (hF : cBody cx d.scope nm cells d.body = F) (hok : fnOk d nm [p1, p2] = true)
    (hbind : ∀ pm cd doc (y : Value) (ys : List Value), bindArgs (docDef d.name d.params d.body d.scope pm cd doc) ⟨y :: ys, []⟩ = (do let t ← newTuple ys; pure [(p1, y), (p2, t)])) :
    BiSem prog w hb (n + 2) (.ref f) (varSem 2 nm.length F) := by
  subst hF
  exact fn_var h.fn (sound_body ok (of_decide_eq_true (and2 (and1 (and1 (and1 (and1 (and1 hok))))))) cells d.body) hbind (List.isPrefixOf_iff_prefix.mp (and1 (and1 (and1 (and1 (and1 (and1 hok)))))))
    (of_decide_eq_true (and2 (and1 (and1 (and1 (and1 (and1 hok))))))) (and2 (and1 (and1 (and1 (and1 hok))))) (and2 (and1 (and1 (and1 hok)))) (not_true (and2 (and1 (and1 hok)))) (not_true (and2 (and1 hok))) (eq_of_beq (and2 hok))
theorem bindS {k : Nat} {C : List Value → Prop} (h : ∀ a ys, ys.length = k → C (a :: ys)) : ∀ ys : List Value, ys.length = k + 1 → C ys
  | a :: ys, e => h a ys (Nat.succ.inj e)
theorem bind1 {C : List Value → Prop} (h : ∀ a, C [a]) : ∀ ys : List Value, ys.length = 1 → C ys := bindS fun a ys e => List.eq_nil_of_length_eq_zero e ▸ h a
theorem bind2 {C : List Value → Prop} (h : ∀ a b, C [a, b]) : ∀ ys : List Value, ys.length = 2 → C ys := bindS fun a => bind1 (C := fun l => C (a :: l)) (h a)
theorem bind3 {C : List Value → Prop} (h : ∀ a b c, C [a, b, c]) : ∀ ys : List Value, ys.length = 3 → C ys := bindS fun a => bind2 (C := fun l => C (a :: l)) (h a)
theorem bind4 {C : List Value → Prop} (h : ∀ a b c d, C [a, b, c, d]) : ∀ ys : List Value, ys.length = 4 → C ys := bindS fun a => bind3 (C := fun l => C (a :: l)) (h a)
theorem bind5 {C : List Value → Prop} (h : ∀ a b c d e, C [a, b, c, d, e]) : ∀ ys : List Value, ys.length = 5 → C ys := bindS fun a => bind4 (C := fun l => C (a :: l)) (h a)
end
end Mine
end
section
open PySem.W
namespace Mine
/- the table of filemode, as data -/
noncomputable def tabP : P := .tup [.tup [.tup [.int 40960, .str "l"], .tup [.int 49152, .str "s"], .tup [.int 32768, .str "-"], .tup [.int 24576, .str "b"], .tup [.int 16384, .str "d"], .tup [.int 8192, .str "c"], .tup [.int 4096, .str "p"]],
  .tup [.tup [.int 256, .str "r"]], .tup [.tup [.int 128, .str "w"]], .tup [.tup [.int 2112, .str "s"], .tup [.int 2048, .str "S"], .tup [.int 64, .str "x"]],
  .tup [.tup [.int 32, .str "r"]], .tup [.tup [.int 16, .str "w"]], .tup [.tup [.int 1032, .str "s"], .tup [.int 1024, .str "S"], .tup [.int 8, .str "x"]],
  .tup [.tup [.int 4, .str "r"]], .tup [.tup [.int 2, .str "w"]], .tup [.tup [.int 513, .str "t"], .tup [.int 512, .str "T"], .tup [.int 1, .str "x"]]]
noncomputable def mkCx (bs : List (Str × (Mem → List V → Option V))) (es : List (Str × (List V → Mem → Option (V × Mem)))) : Cx where
  k := fun x => List.lookup x [("bytes", .ty "bytes"), ("str", .ty "str"), ("_filemode_table", tabP)]
  b := fun x => bs.lookup x
  ef := fun x => es.lookup x
noncomputable def N_uld : List Str := ["expected", "actual", "missing", "item"]
noncomputable def F_uld : SF := (bCons (sNew 2 (nList xNil)) (bCons (whGo (tX (xV 0)) (bCons (sPop 3 (xV 0)) (bCons (sTryRem 1 3 2) bNil)) whFuel) (bCons (sRet (xTup (xCons (xV 2) (xCons (xV 1) xNil)))) bNil)))
noncomputable def E_uld := efSem 2 4 F_uld
noncomputable def N_twc : List Str := ["x", "y"]
noncomputable def F_twc : SF := (bCons (sRet (xBin2 .Sub (xCmp .Gt (xV 0) (xV 1)) (xCmp .Lt (xV 0) (xV 1)))) bNil)
noncomputable def S_twc := fnSem 2 2 F_twc
noncomputable def N_fspath : List Str := ["path", "kind", "hook", "given"]
noncomputable def F_fspath : SF := (bCons (sSet 1 (xCall semType (xCons (xV 0) xNil))) (bCons (sIf (tX (xCall semSub (xCons (xV 1) (xCons (xTup (xCons (xK (.ty "str")) (xCons (xK (.ty "bytes")) xNil))) xNil)))) (bCons (sRet (xV 0)) bNil) bNil) (bCons sNever (bCons (sSet 2 xNever) (bCons (sIf (tCmp .Is (xV 2) xNever) (bCons sNever bNil) bNil) (bCons (sIf (tCmp .IsNot (xCall semType (xCons (xV 2) xNil)) (xCall semType (xCons xNever xNil))) (bCons sNever bNil) bNil) (bCons (sSet 3 xNever) (bCons (sIf (tX (xCall semSub (xCons (xCall semType (xCons (xV 3) xNil)) (xCons (xTup (xCons (xK (.ty "str")) (xCons (xK (.ty "bytes")) xNil))) xNil)))) (bCons (sRet (xV 3)) bNil) bNil) (bCons (sIf (tCmp .Gt (xCall semLen (xCons xNever xNil)) (xK (.int 200))) (bCons sNever bNil) bNil) (bCons sNever bNil))))))))))
noncomputable def S_fspath := fnSem 1 4 F_fspath
noncomputable def N_sep : List Str := ["path"]
noncomputable def F_sep : SF := (bCons (sIf (tX (xCall semIsB (xCons (xV 0) (xCons (xK (.ty "bytes")) xNil)))) (bCons (sRet xNever) bNil) (bCons (sRet (xK (.str "/"))) bNil)) bNil)
noncomputable def S_sep := fnSem 1 1 F_sep
noncomputable def N_ifmt : List Str := ["mode"]
noncomputable def F_ifmt : SF := (bCons (sRet (xBin2 .BitAnd (xV 0) (xK (.int 61440)))) bNil)
noncomputable def S_ifmt := fnSem 1 1 F_ifmt
noncomputable def N_join : List Str := ["a", "p", "sep", "path", "b"]
noncomputable def F_join : SF := (bCons (sSet 0 (xCall S_fspath (xCons (xV 0) xNil))) (bCons (sSet 2 (xCall S_sep (xCons (xV 0) xNil))) (bCons (sSet 3 (xV 0)) (bCons (bCons (sFor (gV (aN 4) (vSeq (xV 1))) (bCons (sSet 4 (xCall S_fspath (xCons (xV 4) xNil))) (bCons (sIf (tOr (tX (xMeth "str" semStarts (xV 4) (xCons (xV 2) xNil))) (tNot (tX (xV 3)))) (bCons (sSet 3 (xV 4)) bNil) (bCons (sIf (tX (xMeth "str" semEnds (xV 3) (xCons (xV 2) xNil))) (bCons (sAug 3 .Add (xV 4)) bNil) (bCons (sAug 3 .Add (xBin2 .Add (xV 2) (xV 4))) bNil)) bNil)) bNil)) bNil) bNil) (bCons (sRet (xV 3)) bNil)))))
noncomputable def S_join := varSem 2 5 F_join
noncomputable def N_dirname : List Str := ["p", "sep", "i", "head"]
noncomputable def F_dirname : SF := (bCons (sSet 0 (xCall S_fspath (xCons (xV 0) xNil))) (bCons (sSet 1 (xCall S_sep (xCons (xV 0) xNil))) (bCons (sSet 2 (xBin2 .Add (xMeth "str" semRfind (xV 0) (xCons (xV 1) xNil)) (xK (.int 1)))) (bCons (sSet 3 (xSlice (xV 0) oNone (oSome (xV 2)) oNone)) (bCons (sIf (tAnd (tX (xV 3)) (tCmp .NotEq (xV 3) (xBin2 .Mult (xV 1) (xCall semLen (xCons (xV 3) xNil))))) (bCons (sSet 3 (xMeth "str" semRstrip (xV 3) (xCons (xV 1) xNil))) bNil) bNil) (bCons (sRet (xV 3)) bNil))))))
noncomputable def S_dirname := fnSem 1 4 F_dirname
noncomputable def N_commonpath : List Str := ["paths", "sep", "curdir", "split_paths", "isabs", "s1", "s2", "common", "i", "c", "prefix"]
noncomputable def F_commonpath : SF := (bCons (sSet 0 (xCall (semTM S_fspath) (xCons (xV 0) xNil))) (bCons (sIf (tNot (tX (xV 0))) (bCons sNever bNil) bNil) (bCons (sIf (tX (xCall semIsB (xCons (xSub (xV 0) (xK (.int 0))) (xCons (xK (.ty "bytes")) xNil)))) (bCons (sSet 1 xNever) (bCons (sSet 2 xNever) bNil)) (bCons (sSet 1 (xK (.str "/"))) (bCons (sSet 2 (xK (.str "."))) bNil))) (bCons (bCons (sSet 3 (xComp [1] (vSeq (xV 0)) tTrue (xMeth "str" semSplit (xV 1) (xCons (xV 0) xNil)))) (bCons (bCons (sOne 4 [1] (vSeq (xV 0)) (xMeth "str" semStarts (xV 1) (xCons (xV 0) xNil))) bNil) (bCons (sSet 3 (xComp [2] (vSeq (xV 3)) tTrue (xComp [0] (vSeq (xV 1)) (tAnd (tX (xV 1)) (tCmp .NotEq (xV 1) (xV 0))) (xV 1)))) (bCons (sSet 5 (xCall (semBest false) (xCons (xV 3) xNil))) (bCons (sSet 6 (xCall (semBest true) (xCons (xV 3) xNil))) (bCons (sSet 7 (xV 5)) (bCons (sFor (gEnum (aCons (aN 8) (aCons (aN 9) aNil)) (xCons (xV 5) xNil)) (bCons (sIf (tCmp .NotEq (xV 9) (xSub (xV 6) (xV 8))) (bCons (sSet 7 (xSlice (xV 5) oNone (oSome (xV 8)) oNone)) (bCons sBrk bNil)) bNil) bNil) bNil) (bCons (sSet 10 (xIf (tX (xV 4)) (xV 1) (xSlice (xV 1) oNone (oSome (xK (.int 0))) oNone))) (bCons (sRet (xBin2 .Add (xV 10) (xMeth "str" semJoin (xV 1) (xCons (xV 7) xNil)))) bNil))))))))) bNil))))
noncomputable def S_commonpath := fnSem 1 11 F_commonpath
noncomputable def N_filemode : List Str := ["mode", "perm", "index", "table", "bit", "char"]
noncomputable def F_filemode : SF := (bCons (sNew 1 (nList xNil)) (bCons (sFor (gEnum (aCons (aN 2) (aCons (aN 3) aNil)) (xCons (xK tabP) xNil)) (bCons (sFor (gV (aTup (aCons (aN 4) (aCons (aN 5) aNil))) (vSeq (xV 3))) (bCons (sIf (tCmp .Eq (xV 2) (xK (.int 0))) (bCons (sIf (tCmp .Eq (xCall S_ifmt (xCons (xV 0) xNil)) (xV 4)) (bCons (sApp (xV 1) (xV 5)) (bCons sBrk bNil)) bNil) bNil) (bCons (sIf (tCmp .Eq (xBin2 .BitAnd (xV 0) (xV 4)) (xV 4)) (bCons (sApp (xV 1) (xV 5)) (bCons sBrk bNil)) bNil) bNil)) bNil) (bCons (sIf (tCmp .Eq (xV 2) (xK (.int 0))) (bCons (sApp (xV 1) (xK (.str "?"))) bNil) (bCons (sApp (xV 1) (xK (.str "-"))) bNil)) bNil)) bNil) bNil) (bCons (sRet (xMeth "str" semJoin (xK (.str "")) (xCons (xV 1) xNil))) bNil)))
noncomputable def S_filemode := fnSem 1 6 F_filemode
noncomputable def N_drawn : List Str := ["script", "told", "above", "kinds", "modes", "k", "rest", "moves", "t", "spot"]
noncomputable def F_drawn : SF := (bCons (sSet 1 (xComp [0] (vRange (xCons (xK (.int 7)) xNil)) tTrue (xCall semAbs (xCons (xCall semSum (xCons (xSlice (xV 0) (oSome (xV 1)) oNone (oSome (xK (.int 7)))) xNil)) xNil)))) (bCons (sNew 2 (nList (xCons (xK (.int 0)) xNil))) (bCons (sNew 3 (nList (xCons (xK (.int 3)) xNil))) (bCons (sNew 4 (nList (xCons (xK (.int 17407)) xNil))) (bCons (sFor (gV (aN 5) (vRange (xCons (xK (.int 1)) (xCons (xK (.int 6)) xNil)))) (bCons (sSet 6 (xBin2 .FloorDiv (xSub (xV 1) (xBin2 .Sub (xV 5) (xK (.int 1)))) (xV 5))) (bCons (sApp (xV 2) (xIf (tCmp .Eq (xV 5) (xK (.int 2))) (xK (.int 1)) (xBin2 .Mod (xBin2 .Add (xSub (xList (xCons (xK (.int 0)) (xCons (xK (.int 0)) (xCons (xK (.int 1)) (xCons (xK (.int 1)) (xCons (xK (.int 2)) (xCons (xK (.int 1)) xNil))))))) (xV 5)) (xSub (xV 1) (xBin2 .Sub (xV 5) (xK (.int 1))))) (xV 5)))) (bCons (sApp (xV 3) (xBin2 .Mod (xBin2 .Add (xSub (xList (xCons (xK (.int 0)) (xCons (xK (.int 0)) (xCons (xK (.int 1)) (xCons (xK (.int 1)) (xCons (xK (.int 2)) (xCons (xK (.int 1)) xNil))))))) (xV 5)) (xV 6)) (xK (.int 3)))) (bCons (sApp (xV 4) (xBin2 .Add (xSub (xList (xCons (xK (.int 16877)) (xCons (xK (.int 18889)) (xCons (xK (.int 33188)) xNil)))) (xSub (xV 3) (xV 5))) (xBin2 .Mult (xK (.int 65536)) (xBin2 .Mod (xBin2 .FloorDiv (xV 6) (xK (.int 3))) (xK (.int 65536)))))) bNil)))) bNil) (bCons (sNew 7 (nList xNil)) (bCons (sFor (gV (aN 8) (vRange (xCons (xK (.int 2)) xNil))) (bCons (sSet 6 (xSub (xV 1) (xBin2 .Add (xK (.int 5)) (xV 8)))) (bCons (sSet 9 (xBin2 .Add (xK (.int 1)) (xBin2 .Mod (xBin2 .Add (xSub (xList (xCons (xK (.int 3)) (xCons (xK (.int 4)) xNil))) (xV 8)) (xV 6)) (xK (.int 5))))) (bCons (sApp (xV 7) (xList (xCons (xV 9) (xCons (xBin2 .Mod (xBin2 .Add (xSub (xList (xCons (xK (.int 3)) (xCons (xK (.int 2)) xNil))) (xV 8)) (xBin2 .FloorDiv (xV 6) (xK (.int 5)))) (xV 9)) (xCons (xBin2 .Mod (xBin2 .FloorDiv (xV 6) (xK (.int 25))) (xK (.int 5))) xNil))))) bNil))) bNil) (bCons (sRet (xTup (xCons (xV 2) (xCons (xV 3) (xCons (xV 4) (xCons (xV 7) xNil)))))) bNil))))))))
noncomputable def S_drawn := fnSem 1 10 F_drawn
noncomputable def N_paths : List Str := ["above", "names", "paths", "k"]
noncomputable def F_paths : SF := (bCons (sNew 2 (nList (xCons (xK (.str "/")) xNil))) (bCons (sFor (gV (aN 3) (vRange (xCons (xK (.int 1)) (xCons (xK (.int 6)) xNil)))) (bCons (sApp (xV 2) (xCall S_join (xCons (xSub (xV 2) (xSub (xV 0) (xV 3))) (xCons (xSub (xV 1) (xBin2 .Sub (xV 3) (xK (.int 1)))) xNil)))) bNil) bNil) (bCons (sRet (xV 2)) bNil)))
noncomputable def S_paths := fnSem 2 4 F_paths
noncomputable def N_sorted : List Str := ["forms", "row", "form", "place"]
noncomputable def F_sorted : SF := (bCons (sSet 1 (xList xNil)) (bCons (sFor (gV (aN 2) (vSeq (xV 0))) (bCons (sSet 3 (xCall semLen (xCons (xV 1) xNil))) (bCons (whGo (tAnd (tCmp .Gt (xV 3) (xK (.int 0))) (tCmp .Gt (xCall S_twc (xCons (xSub (xV 1) (xBin2 .Sub (xV 3) (xK (.int 1)))) (xCons (xV 2) xNil))) (xK (.int 0)))) (bCons (sSet 3 (xBin2 .Sub (xV 3) (xK (.int 1)))) bNil) whFuel) (bCons (sSet 1 (xBin2 .Add (xBin2 .Add (xSlice (xV 1) oNone (oSome (xV 3)) oNone) (xList (xCons (xV 2) xNil))) (xSlice (xV 1) (oSome (xV 3)) oNone oNone))) bNil))) bNil) (bCons (sRet (xV 1)) bNil)))
noncomputable def S_sorted := fnSem 1 4 F_sorted
noncomputable def N_forms : List Str := ["paths", "modes", "folders", "forms", "path", "below"]
noncomputable def F_forms : SF := (bCons (sSet 2 (xComp [] (vSeq (xV 0)) tTrue (xCall S_dirname (xCons (xV 0) xNil)))) (bCons (sNew 3 nDict) (bCons (sFor (gV (aN 4) (vSeq (xSlice (xCall semSorted (xCons (xV 0) xNil)) oNone oNone (oSome (xNeg (xK (.int 1))))))) (bCons (sSet 5 (xComp [2, 3, 4, 0] (vRange (xCons (xK (.int 1)) (xCons (xK (.int 6)) xNil))) (tCmp .Eq (xSub (xV 0) (xV 4)) (xV 2)) (xSub (xV 1) (xSub (xV 3) (xV 4))))) (bCons (sStore (xList (xCons (xCall S_filemode (xCons (xSub (xV 1) (xMeth "list" semIndex (xV 0) (xCons (xV 4) xNil))) xNil)) (xCons (xCall S_sorted (xCons (xV 5) xNil)) xNil))) (xV 3) (xV 4)) bNil)) bNil) (bCons (sRet (xComp [3] (vSeq (xV 0)) tTrue (xSub (xV 0) (xV 1)))) bNil))))
noncomputable def S_forms := fnSem 2 6 F_forms
noncomputable def N_exchanges : List Str := ["forms", "ways", "form", "run", "k"]
noncomputable def F_exchanges : SF := (bCons (sSet 1 (xK (.int 1))) (bCons (sFor (gV (aN 2) (vSeq (xV 0))) (bCons (sSet 3 (xK (.int 0))) (bCons (sFor (gV (aN 4) (vRange (xCons (xCall semLen (xCons (xSub (xV 2) (xK (.int 1))) xNil)) xNil))) (bCons (sIf (tAnd (tCmp .Gt (xV 4) (xK (.int 0))) (tCmp .Eq (xCall S_twc (xCons (xSub (xSub (xV 2) (xK (.int 1))) (xBin2 .Sub (xV 4) (xK (.int 1)))) (xCons (xSub (xSub (xV 2) (xK (.int 1))) (xV 4)) xNil))) (xK (.int 0)))) (bCons (sSet 3 (xBin2 .Add (xV 3) (xK (.int 1)))) bNil) (bCons (sSet 3 (xK (.int 1))) bNil)) (bCons (sSet 1 (xBin2 .Mult (xV 1) (xV 3))) bNil)) bNil) bNil)) bNil) (bCons (sRet (xV 1)) bNil)))
noncomputable def S_exchanges := fnSem 1 5 F_exchanges
noncomputable def N_goes_with : List Str := ["paths", "again", "above", "renaming", "i", "k", "a", "b"]
noncomputable def F_goes_with : SF := (bCons (sFor (gV (aN 4) (vRange (xCons (xK (.int 6)) xNil))) (bCons (sIf (tCmp .NotEq (xCall S_dirname (xCons (xSub (xV 1) (xSub (xV 3) (xV 4))) xNil)) (xSub (xV 1) (xSub (xV 3) (xSub (xV 2) (xV 4))))) (bCons (sRet (xK (.bool false))) bNil) bNil) (bCons (sFor (gV (aN 5) (vRange (xCons (xV 4) xNil))) (bCons (sSet 6 (xV 4)) (bCons (sSet 7 (xV 5)) (bCons (whGo (tCmp .NotEq (xV 6) (xV 7)) (bCons (sIf (tCmp .Gt (xV 6) (xV 7)) (bCons (sSet 6 (xSub (xV 2) (xV 6))) bNil) (bCons (sSet 7 (xSub (xV 2) (xV 7))) bNil)) bNil) whFuel) (bCons (sIf (tCmp .NotEq (xCall S_commonpath (xCons (xList (xCons (xSub (xV 0) (xV 4)) (xCons (xSub (xV 0) (xV 5)) xNil))) xNil)) (xSub (xV 0) (xV 6))) (bCons (sRet (xK (.bool false))) bNil) bNil) (bCons (sIf (tCmp .NotEq (xCall S_commonpath (xCons (xList (xCons (xSub (xV 1) (xSub (xV 3) (xV 5))) (xCons (xSub (xV 1) (xSub (xV 3) (xV 4))) xNil))) xNil)) (xSub (xV 1) (xSub (xV 3) (xV 6)))) (bCons (sRet (xK (.bool false))) bNil) bNil) bNil))))) bNil) bNil)) bNil) (bCons (sRet (xK (.bool true))) bNil))
noncomputable def S_goes_with := fnSem 4 8 F_goes_with
noncomputable def N_own_forms : List Str := ["above", "kinds", "own", "k", "below"]
noncomputable def F_own_forms : SF := (bCons (sNew 2 (nList (xCons (xList xNil) (xCons (xList xNil) (xCons (xList xNil) (xCons (xList xNil) (xCons (xList xNil) (xCons (xList xNil) xNil)))))))) (bCons (sFor (gV (aN 3) (vRange (xCons (xK (.int 5)) (xCons (xNeg (xK (.int 1))) (xCons (xNeg (xK (.int 1))) xNil))))) (bCons (sSet 4 (xCall semSorted (xCons (xComp [0, 3, 2] (vRange (xCons (xBin2 .Add (xV 3) (xK (.int 1))) (xCons (xK (.int 6)) xNil))) (tCmp .Eq (xSub (xV 0) (xV 3)) (xV 1)) (xSub (xV 2) (xV 3))) xNil))) (bCons (sStore (xList (xCons (xSub (xList (xCons (xK (.str "drwxr-xr-x")) (xCons (xK (.str "drws--x--x")) (xCons (xK (.str "-rw-r--r--")) (xCons (xK (.str "drwxrwxrwt")) xNil))))) (xSub (xV 1) (xV 3))) (xCons (xV 4) xNil))) (xV 2) (xV 3)) bNil)) bNil) (bCons (sRet (xV 2)) bNil)))
noncomputable def S_own_forms := fnSem 2 5 F_own_forms
noncomputable def N_codes : List Str := ["above", "kinds", "table", "codes", "k", "key"]
noncomputable def F_codes : SF := (bCons (sNew 3 (nMul (xList (xCons (xK (.int 0)) xNil)) (xK (.int 6)))) (bCons (sFor (gV (aN 4) (vRange (xCons (xK (.int 5)) (xCons (xNeg (xK (.int 1))) (xCons (xNeg (xK (.int 1))) xNil))))) (bCons (sSet 5 (xBin2 .Add (xList (xCons (xSub (xV 1) (xV 4)) xNil)) (xCall semSorted (xCons (xComp [0, 3, 4] (vRange (xCons (xBin2 .Add (xV 4) (xK (.int 1))) (xCons (xK (.int 6)) xNil))) (tCmp .Eq (xSub (xV 0) (xV 3)) (xV 2)) (xSub (xV 1) (xV 3))) xNil)))) (bCons (sIf (tCmp .NotIn (xV 5) (xV 2)) (bCons (sApp (xV 2) (xV 5)) bNil) bNil) (bCons (sStore (xBin2 .Add (xK (.int 10)) (xMeth "list" semIndex (xV 2) (xCons (xV 5) xNil))) (xV 3) (xV 4)) bNil))) bNil) (bCons (sRet (xV 3)) bNil)))
noncomputable def E_codes := efSem 3 6 F_codes
noncomputable def N_renamings : List Str := ["above", "other", "kinds", "maps", "k"]
noncomputable def F_renamings : SF := (bCons (sSet 3 (xList (xCons (xList (xCons (xK (.int 0)) xNil)) xNil))) (bCons (sFor (gV (aN 4) (vRange (xCons (xK (.int 1)) (xCons (xK (.int 6)) xNil)))) (bCons (sSet 3 (xComp2 [0, 4, 2, 1] (vSeq (xV 3)) (vRange (xCons (xK (.int 1)) (xCons (xK (.int 6)) xNil))) (tAnd (tCmp .NotIn (xV 5) (xV 4)) (tAnd (tCmp .Eq (xSub (xV 3) (xV 5)) (xSub (xV 4) (xSub (xV 0) (xV 1)))) (tCmp .Eq (xSub (xV 2) (xV 5)) (xSub (xV 2) (xV 1))))) (xBin2 .Add (xV 4) (xList (xCons (xV 5) xNil))))) bNil) bNil) (bCons (sRet (xV 3)) bNil)))
noncomputable def S_renamings := fnSem 3 5 F_renamings
noncomputable def N_agrees : List Str := ["above", "kinds", "paths", "forms", "move", "other", "again", "copies", "own", "owns", "maps", "order", "wanted", "table", "codes", "others", "missing", "beyond", "first", "second", "answer"]
noncomputable def F_agrees : SF := (bCons (sSet 5 (xBin2 .Add (xBin2 .Add (xSlice (xV 0) oNone (oSome (xSub (xV 4) (xK (.int 0)))) oNone) (xList (xCons (xSub (xV 4) (xK (.int 1))) xNil))) (xSlice (xV 0) (oSome (xBin2 .Add (xSub (xV 4) (xK (.int 0))) (xK (.int 1)))) oNone oNone))) (bCons (sSet 6 (xCall S_paths (xCons (xV 5) (xCons (xComp [4] (vRange (xCons (xK (.int 1)) (xCons (xK (.int 6)) xNil))) tTrue (xSub (xK (.str "pqrst")) (xBin2 .Mod (xBin2 .Add (xBin2 .Mult (xK (.int 3)) (xV 1)) (xSub (xV 0) (xK (.int 2)))) (xK (.int 5))))) xNil)))) (bCons (sSet 7 (xCall S_forms (xCons (xV 6) (xCons (xComp [1] (vRange (xCons (xK (.int 6)) xNil)) tTrue (xBin2 .Add (xSub (xList (xCons (xK (.int 16877)) (xCons (xK (.int 18889)) (xCons (xK (.int 33188)) (xCons (xK (.int 17407)) xNil))))) (xSub (xV 0) (xV 1))) (xBin2 .Mult (xK (.int 65536)) (xV 1)))) xNil)))) (bCons (sSet 8 (xCall S_own_forms (xCons (xV 0) (xCons (xV 1) xNil)))) (bCons (sSet 9 (xCall S_own_forms (xCons (xV 5) (xCons (xV 1) xNil)))) (bCons (sIf (tOr (tCmp .NotEq (xV 3) (xV 8)) (tCmp .NotEq (xV 7) (xV 9))) (bCons (sRet (xK (.bool false))) bNil) bNil) (bCons (sSet 10 (xCall S_renamings (xCons (xV 0) (xCons (xV 5) (xCons (xV 1) xNil))))) (bCons (sSet 11 (xCall S_twc (xCons (xSub (xV 3) (xK (.int 0))) (xCons (xSub (xV 7) (xK (.int 0))) xNil)))) (bCons (sIf (tCmp .Eq (xSub (xV 8) (xK (.int 0))) (xSub (xV 9) (xK (.int 0)))) (bCons (sSet 12 (xK (.str "0"))) bNil) (bCons (sSet 12 (xIf (tCmp .Eq (xSub (xCall semSorted (xCons (xList (xCons (xSub (xV 8) (xK (.int 0))) (xCons (xSub (xV 9) (xK (.int 0))) xNil))) xNil)) (xK (.int 1))) (xSub (xV 8) (xK (.int 0)))) (xK (.str "1")) (xK (.str "-1")))) bNil)) (bCons (sIf (tOr (tCmp .NotEq (xCall semStrI (xCons (xV 11) xNil)) (xV 12)) (tCmp .NotEq (xCall semLen (xCons (xV 10) xNil)) (xIf (tCmp .Eq (xV 11) (xK (.int 0))) (xCall S_exchanges (xCons (xV 3) xNil)) (xK (.int 0))))) (bCons (sRet (xK (.bool false))) bNil) bNil) (bCons (sNew 13 (nList xNil)) (bCons (sEf 14 E_codes (xCons (xV 0) (xCons (xV 1) (xCons (xV 13) xNil)))) (bCons (sEf 15 E_codes (xCons (xV 5) (xCons (xV 1) (xCons (xV 13) xNil)))) (bCons (sSet 16 (xComp [14, 15, 8] (vRange (xCons (xK (.int 5)) (xCons (xNeg (xK (.int 1))) (xCons (xNeg (xK (.int 1))) xNil)))) (tCmp .Gt (xMeth "list" semCount (xSlice (xV 0) (oSome (xV 3)) oNone oNone) (xCons (xSub (xV 0) (xV 3)) xNil)) (xMeth "list" semCount (xV 1) (xCons (xSub (xV 0) (xV 3)) xNil))) (xSub (xV 2) (xV 3)))) (bCons (sSet 17 (xComp [14, 15, 9] (vRange (xCons (xK (.int 6)) xNil)) (tCmp .Gt (xMeth "list" semCount (xSlice (xV 1) oNone (oSome (xBin2 .Add (xV 3) (xK (.int 1)))) oNone) (xCons (xSub (xV 1) (xV 3)) xNil)) (xMeth "list" semCount (xV 0) (xCons (xSub (xV 1) (xV 3)) xNil))) (xSub (xV 2) (xV 3)))) (bCons (sNew 18 (nListOf (xCons (xV 3) xNil))) (bCons (sNew 19 (nListOf (xCons (xV 7) xNil))) (bCons (sEf 20 E_uld (xCons (xV 18) (xCons (xV 19) xNil))) (bCons (sIf (tOr (tCmp .NotEq (xCmp .Eq (xV 20) (xTup (xCons (xList xNil) (xCons (xList xNil) xNil)))) (xCmp .Gt (xCall semLen (xCons (xV 10) xNil)) (xK (.int 0)))) (tCmp .NotEq (xV 20) (xTup (xCons (xV 16) (xCons (xV 17) xNil))))) (bCons (sRet (xK (.bool false))) bNil) bNil) (bCons (sIf (tOr (tCmp .NotEq (xV 18) (xList xNil)) (tCmp .IsNot (xSub (xV 20) (xK (.int 1))) (xV 19))) (bCons (sRet (xK (.bool false))) bNil) bNil) (bCons (sRet (xOr (xCmp .Eq (xCall semLen (xCons (xV 10) xNil)) (xK (.int 0))) (xCall S_goes_with (xCons (xV 2) (xCons (xV 6) (xCons (xV 0) (xCons (xSub (xV 10) (xNeg (xK (.int 1)))) xNil))))))) bNil)))))))))))))))))))))
noncomputable def S_agrees := fnSem 5 21 F_agrees
noncomputable def N_law : List Str := ["script", "above", "kinds", "modes", "moves", "paths", "forms"]
noncomputable def F_law : SF := (bCons (sUnp (aTup (aCons (aN 1) (aCons (aN 2) (aCons (aN 3) (aCons (aN 4) aNil))))) (xCall S_drawn (xCons (xV 0) xNil))) (bCons (sSet 5 (xCall S_paths (xCons (xV 1) (xCons (xK (.str "abcde")) xNil)))) (bCons (sSet 6 (xCall S_forms (xCons (xV 5) (xCons (xV 3) xNil)))) (bCons (sRet (xCall semAll (xCons (xComp [1, 6, 2, 5] (vSeq (xV 4)) tTrue (xCall S_agrees (xCons (xV 0) (xCons (xV 2) (xCons (xV 3) (xCons (xV 1) (xCons (xV 4) xNil))))))) xNil))) bNil))))
noncomputable def S_law := fnSem 1 7 F_law
end Mine
end
section
open PySem.W
namespace Mine
noncomputable def dOf : Stmt → DefRec
  | .FunctionDef n a b _ _ _ sc _ _ p => ⟨n, a, b, sc, p⟩
  | _ => ⟨Str.empty, ⟨[], [], none, [], [], none, []⟩, [], ⟨.module, [], false, false, []⟩, ⟨0, 0, 0, 0⟩⟩
noncomputable def dr (i : Nat) : DefRec := dOf (Challenge.pw_pd0149_01.main.body.getD i (.Pass ⟨0, 0, 0, 0⟩))
noncomputable def bi0 : List (Str × (Mem → List V → Option V)) := [("len", semLen), ("abs", semAbs), ("str", semStrI), ("sum", semSum), ("all", semAll), ("sorted", semSorted), ("max", (semBest true)), ("min", (semBest false)), ("type", semType), ("isinstance", semIsB), ("issubclass", semSub)]
noncomputable def cx0 : Cx := mkCx bi0 []
theorem c_uld : cBody cx0 (dr 2).scope N_uld ["missing"] (dr 2).body = F_uld := by kernel_rfl
theorem o_uld : fnOk (dr 2) N_uld ["expected", "actual"] = true := by decide +kernel
theorem b_uld (pm cd doc y0 y1 : Value) : bindArgs (docDef (dr 2).name (dr 2).params (dr 2).body (dr 2).scope pm cd doc) ⟨[y0, y1], []⟩ = pure ([("expected" : Str), ("actual" : Str)].zip [y0, y1]) := by kernel_rfl
theorem c_twc : cBody cx0 (dr 3).scope N_twc [] (dr 3).body = F_twc := by kernel_rfl
theorem o_twc : fnOk (dr 3) N_twc ["x", "y"] = true := by decide +kernel
theorem b_twc (pm cd doc y0 y1 : Value) : bindArgs (docDef (dr 3).name (dr 3).params (dr 3).body (dr 3).scope pm cd doc) ⟨[y0, y1], []⟩ = pure ([("x" : Str), ("y" : Str)].zip [y0, y1]) := by kernel_rfl
theorem c_fspath : cBody cx0 (dr 12).scope N_fspath [] (dr 12).body = F_fspath := by kernel_rfl
theorem o_fspath : fnOk (dr 12) N_fspath ["path"] = true := by decide +kernel
theorem b_fspath (pm cd doc y0 : Value) : bindArgs (docDef (dr 12).name (dr 12).params (dr 12).body (dr 12).scope pm cd doc) ⟨[y0], []⟩ = pure ([("path" : Str)].zip [y0]) := by kernel_rfl
theorem c_sep : cBody cx0 (dr 16).scope N_sep [] (dr 16).body = F_sep := by kernel_rfl
theorem o_sep : fnOk (dr 16) N_sep ["path"] = true := by decide +kernel
theorem b_sep (pm cd doc y0 : Value) : bindArgs (docDef (dr 16).name (dr 16).params (dr 16).body (dr 16).scope pm cd doc) ⟨[y0], []⟩ = pure ([("path" : Str)].zip [y0]) := by kernel_rfl
theorem c_ifmt : cBody cx0 (dr 21).scope N_ifmt [] (dr 21).body = F_ifmt := by kernel_rfl
theorem o_ifmt : fnOk (dr 21) N_ifmt ["mode"] = true := by decide +kernel
theorem b_ifmt (pm cd doc y0 : Value) : bindArgs (docDef (dr 21).name (dr 21).params (dr 21).body (dr 21).scope pm cd doc) ⟨[y0], []⟩ = pure ([("mode" : Str)].zip [y0]) := by kernel_rfl
noncomputable def cx1 : Cx := mkCx (("three_way_cmp", S_twc) :: ("fspath", S_fspath) :: ("_get_sep", S_sep) :: ("S_IFMT", S_ifmt) :: bi0) [("unorderable_list_difference", E_uld)]
theorem c_join : cBody cx1 (dr 17).scope N_join [] (dr 17).body = F_join := by kernel_rfl
theorem o_join : fnOk (dr 17) N_join ["a", "p"] = true := by decide +kernel
theorem b_join (pm cd doc y : Value) (ys : List Value) : bindArgs (docDef (dr 17).name (dr 17).params (dr 17).body (dr 17).scope pm cd doc) ⟨y :: ys, []⟩ = (do let t ← newTuple ys; pure [("a", y), ("p", t)]) := by cases ys <;> kernel_rfl
theorem c_dirname : cBody cx1 (dr 18).scope N_dirname [] (dr 18).body = F_dirname := by kernel_rfl
theorem o_dirname : fnOk (dr 18) N_dirname ["p"] = true := by decide +kernel
theorem b_dirname (pm cd doc y0 : Value) : bindArgs (docDef (dr 18).name (dr 18).params (dr 18).body (dr 18).scope pm cd doc) ⟨[y0], []⟩ = pure ([("p" : Str)].zip [y0]) := by kernel_rfl
theorem c_commonpath : cBody cx1 (dr 19).scope N_commonpath [] (dr 19).body = F_commonpath := by kernel_rfl
theorem o_commonpath : fnOk (dr 19) N_commonpath ["paths"] = true := by decide +kernel
theorem b_commonpath (pm cd doc y0 : Value) : bindArgs (docDef (dr 19).name (dr 19).params (dr 19).body (dr 19).scope pm cd doc) ⟨[y0], []⟩ = pure ([("paths" : Str)].zip [y0]) := by kernel_rfl
theorem c_filemode : cBody cx1 (dr 42).scope N_filemode ["perm"] (dr 42).body = F_filemode := by kernel_rfl
theorem o_filemode : fnOk (dr 42) N_filemode ["mode"] = true := by decide +kernel
theorem b_filemode (pm cd doc y0 : Value) : bindArgs (docDef (dr 42).name (dr 42).params (dr 42).body (dr 42).scope pm cd doc) ⟨[y0], []⟩ = pure ([("mode" : Str)].zip [y0]) := by kernel_rfl
theorem c_sorted : cBody cx1 (dr 46).scope N_sorted [] (dr 46).body = F_sorted := by kernel_rfl
theorem o_sorted : fnOk (dr 46) N_sorted ["forms"] = true := by decide +kernel
theorem b_sorted (pm cd doc y0 : Value) : bindArgs (docDef (dr 46).name (dr 46).params (dr 46).body (dr 46).scope pm cd doc) ⟨[y0], []⟩ = pure ([("forms" : Str)].zip [y0]) := by kernel_rfl
theorem c_exchanges : cBody cx1 (dr 48).scope N_exchanges [] (dr 48).body = F_exchanges := by kernel_rfl
theorem o_exchanges : fnOk (dr 48) N_exchanges ["forms"] = true := by decide +kernel
theorem b_exchanges (pm cd doc y0 : Value) : bindArgs (docDef (dr 48).name (dr 48).params (dr 48).body (dr 48).scope pm cd doc) ⟨[y0], []⟩ = pure ([("forms" : Str)].zip [y0]) := by kernel_rfl
noncomputable def cx2 : Cx := mkCx (("three_way_cmp", S_twc) :: ("fspath", S_fspath) :: ("_get_sep", S_sep) :: ("S_IFMT", S_ifmt) :: ("join", S_join) :: ("dirname", S_dirname) :: ("commonpath", S_commonpath) :: ("filemode", S_filemode) :: ("_law_sorted", S_sorted) :: ("_law_exchanges", S_exchanges) :: bi0) [("unorderable_list_difference", E_uld)]
theorem c_drawn : cBody cx2 (dr 44).scope N_drawn ["above", "kinds", "modes", "moves"] (dr 44).body = F_drawn := by kernel_rfl
theorem o_drawn : fnOk (dr 44) N_drawn ["script"] = true := by decide +kernel
theorem b_drawn (pm cd doc y0 : Value) : bindArgs (docDef (dr 44).name (dr 44).params (dr 44).body (dr 44).scope pm cd doc) ⟨[y0], []⟩ = pure ([("script" : Str)].zip [y0]) := by kernel_rfl
theorem c_paths : cBody cx2 (dr 45).scope N_paths ["paths"] (dr 45).body = F_paths := by kernel_rfl
theorem o_paths : fnOk (dr 45) N_paths ["above", "names"] = true := by decide +kernel
theorem b_paths (pm cd doc y0 y1 : Value) : bindArgs (docDef (dr 45).name (dr 45).params (dr 45).body (dr 45).scope pm cd doc) ⟨[y0, y1], []⟩ = pure ([("above" : Str), ("names" : Str)].zip [y0, y1]) := by kernel_rfl
theorem c_forms : cBody cx2 (dr 47).scope N_forms [] (dr 47).body = F_forms := by kernel_rfl
theorem o_forms : fnOk (dr 47) N_forms ["paths", "modes"] = true := by decide +kernel
theorem b_forms (pm cd doc y0 y1 : Value) : bindArgs (docDef (dr 47).name (dr 47).params (dr 47).body (dr 47).scope pm cd doc) ⟨[y0, y1], []⟩ = pure ([("paths" : Str), ("modes" : Str)].zip [y0, y1]) := by kernel_rfl
theorem c_goes_with : cBody cx2 (dr 49).scope N_goes_with [] (dr 49).body = F_goes_with := by kernel_rfl
theorem o_goes_with : fnOk (dr 49) N_goes_with ["paths", "again", "above", "renaming"] = true := by decide +kernel
theorem b_goes_with (pm cd doc y0 y1 y2 y3 : Value) : bindArgs (docDef (dr 49).name (dr 49).params (dr 49).body (dr 49).scope pm cd doc) ⟨[y0, y1, y2, y3], []⟩ = pure ([("paths" : Str), ("again" : Str), ("above" : Str), ("renaming" : Str)].zip [y0, y1, y2, y3]) := by kernel_rfl
theorem c_own_forms : cBody cx2 (dr 50).scope N_own_forms ["own"] (dr 50).body = F_own_forms := by kernel_rfl
theorem o_own_forms : fnOk (dr 50) N_own_forms ["above", "kinds"] = true := by decide +kernel
theorem b_own_forms (pm cd doc y0 y1 : Value) : bindArgs (docDef (dr 50).name (dr 50).params (dr 50).body (dr 50).scope pm cd doc) ⟨[y0, y1], []⟩ = pure ([("above" : Str), ("kinds" : Str)].zip [y0, y1]) := by kernel_rfl
theorem c_codes : cBody cx2 (dr 51).scope N_codes ["codes"] (dr 51).body = F_codes := by kernel_rfl
theorem o_codes : fnOk (dr 51) N_codes ["above", "kinds", "table"] = true := by decide +kernel
theorem b_codes (pm cd doc y0 y1 y2 : Value) : bindArgs (docDef (dr 51).name (dr 51).params (dr 51).body (dr 51).scope pm cd doc) ⟨[y0, y1, y2], []⟩ = pure ([("above" : Str), ("kinds" : Str), ("table" : Str)].zip [y0, y1, y2]) := by kernel_rfl
theorem c_renamings : cBody cx2 (dr 52).scope N_renamings [] (dr 52).body = F_renamings := by kernel_rfl
theorem o_renamings : fnOk (dr 52) N_renamings ["above", "other", "kinds"] = true := by decide +kernel
theorem b_renamings (pm cd doc y0 y1 y2 : Value) : bindArgs (docDef (dr 52).name (dr 52).params (dr 52).body (dr 52).scope pm cd doc) ⟨[y0, y1, y2], []⟩ = pure ([("above" : Str), ("other" : Str), ("kinds" : Str)].zip [y0, y1, y2]) := by kernel_rfl
noncomputable def cx3 : Cx := mkCx (("three_way_cmp", S_twc) :: ("fspath", S_fspath) :: ("_get_sep", S_sep) :: ("S_IFMT", S_ifmt) :: ("join", S_join) :: ("dirname", S_dirname) :: ("commonpath", S_commonpath) :: ("filemode", S_filemode) :: ("_law_sorted", S_sorted) :: ("_law_exchanges", S_exchanges) :: ("_law_drawn", S_drawn) :: ("_law_paths", S_paths) :: ("_law_forms", S_forms) :: ("_law_goes_with", S_goes_with) :: ("_law_own_forms", S_own_forms) :: ("_law_renamings", S_renamings) :: bi0) [("unorderable_list_difference", E_uld), ("_law_codes", E_codes)]
theorem c_agrees : cBody cx3 (dr 53).scope N_agrees ["table", "first", "second"] (dr 53).body = F_agrees := by kernel_rfl
theorem o_agrees : fnOk (dr 53) N_agrees ["above", "kinds", "paths", "forms", "move"] = true := by decide +kernel
theorem b_agrees (pm cd doc y0 y1 y2 y3 y4 : Value) : bindArgs (docDef (dr 53).name (dr 53).params (dr 53).body (dr 53).scope pm cd doc) ⟨[y0, y1, y2, y3, y4], []⟩ = pure ([("above" : Str), ("kinds" : Str), ("paths" : Str), ("forms" : Str), ("move" : Str)].zip [y0, y1, y2, y3, y4]) := by kernel_rfl
noncomputable def cx4 : Cx := mkCx (("three_way_cmp", S_twc) :: ("fspath", S_fspath) :: ("_get_sep", S_sep) :: ("S_IFMT", S_ifmt) :: ("join", S_join) :: ("dirname", S_dirname) :: ("commonpath", S_commonpath) :: ("filemode", S_filemode) :: ("_law_sorted", S_sorted) :: ("_law_exchanges", S_exchanges) :: ("_law_drawn", S_drawn) :: ("_law_paths", S_paths) :: ("_law_forms", S_forms) :: ("_law_goes_with", S_goes_with) :: ("_law_own_forms", S_own_forms) :: ("_law_renamings", S_renamings) :: ("_law_agrees", S_agrees) :: bi0) [("unorderable_list_difference", E_uld), ("_law_codes", E_codes)]
theorem c_law : cBody cx4 (dr 54).scope N_law [] (dr 54).body = F_law := by kernel_rfl
theorem o_law : fnOk (dr 54) N_law ["script"] = true := by decide +kernel
theorem b_law (pm cd doc y0 : Value) : bindArgs (docDef (dr 54).name (dr 54).params (dr 54).body (dr 54).scope pm cd doc) ⟨[y0], []⟩ = pure ([("script" : Str)].zip [y0]) := by kernel_rfl
end Mine
end
section
open PySem.W
namespace Mine
noncomputable def isNm : Stmt → Bool
  | .Assign ts _ _ => onL1 (C := fun _ => Bool) ts (fun _ => false) fun t => onN (C := fun _ => Bool) t (fun _ => false) fun x _ => x == ("__name__" : Str)
  | _ => false
/- the text without its names of files -/
noncomputable def vw : Program := { Challenge.pw_pd0149_01 with main := { Challenge.pw_pd0149_01.main with body := Challenge.pw_pd0149_01.main.body.filter fun s => !isNm s } }
noncomputable def looseV : List Str := looseW vw ["_filemode_table"]
noncomputable def drIx : List Nat := [0, 2, 3, 5, 10, 12, 14, 16, 17, 18, 19, 21, 42, 44, 45, 46, 47, 48, 49, 50, 51, 52, 53, 54]
theorem recs_vw : recsOf vw = drIx.map dr := by kernel_rfl
theorem dr_mem {i : Nat} (h : i ∈ drIx) : dr i ∈ recsOf vw := by rw [recs_vw]; exact List.mem_map_of_mem h
/- the built-ins that the text names -/
noncomputable def bltV : List (Str × Value) := [("len", .builtin "len"), ("abs", .builtin "abs"), ("str", .type "str"), ("sum", .builtin "sum"), ("all", .builtin "all"), ("sorted", .builtin "sorted"), ("max", .builtin "max"), ("min", .builtin "min"),
  ("type", .type "type"), ("isinstance", .builtin "isinstance"), ("issubclass", .builtin "issubclass"), ("bytes", .type "bytes"), ("range", .type "range"), ("enumerate", .type "enumerate"), ("list", .type "list"), ("tuple", .type "tuple"), ("map", .type "map"), ("ValueError", .type "ValueError")]
noncomputable def freeB (x : Str) : Bool := !startupNames.contains x && !looseV.contains x && !((recsOf vw).map (·.name)).contains x && !((litsOf vw).map (·.1)).contains x && !((clssOf vw looseV).map (·.name)).contains x
theorem blt_ok : bltV.all (fun q => freeB q.1 && (bootBuiltins q.1 == some q.2) && !(q.1 == ("__name__" : Str)) && !dbg q.1) = true := by decide +kernel
theorem not_mem {l : List Str} {x : Str} (h : (!l.contains x) = true) : x ∉ l := fun m => by rw [List.contains_iff_mem.mpr m] at h; cases h

section
variable {prog : Program} {w : World} {hb : Heap} {n : Nat}

theorem gn_of {mean : ExcName → Option Value} {mg mb : Str → Option Value} (T : Top vw looseV mean mg mb hb) {x : Str} {v : Value} (h : (x, v) ∈ bltV) : GN hb x v := by
  have := List.all_eq_true.mp blt_ok _ h
  have f := and1 (and1 (and1 this))
  exact gn_blt T.g T.b (T.free x (not_mem (and1 (and1 (and1 (and1 f))))) (not_mem (and2 (and1 (and1 (and1 f))))) (not_mem (and2 (and1 (and1 f)))) (not_mem (and2 (and1 f))) (not_mem (and2 f)))
    ((T.builtins x fun e => by have := and2 (and1 this); rw [e] at this; cases this).trans (eq_of_beq (and2 (and1 (and1 this))))) (not_true (and2 this))
noncomputable def BOk (prog : Program) (w : World) (hb : Heap) (n : Nat) (q : Str × (Mem → List V → Option V)) : Prop := ∃ fv, GN hb q.1 fv ∧ Keeps1 hb fv ∧ BiSem prog w hb n fv q.2
noncomputable def EOk (prog : Program) (w : World) (hb : Heap) (n : Nat) (q : Str × (List V → Mem → Option (V × Mem))) : Prop := ∃ fv, GN hb q.1 fv ∧ Keeps1 hb fv ∧ EfSem prog w hb n fv q.2
theorem look_mem {β : Type} : ∀ {l : List (Str × β)} {x : Str} {y : β}, l.lookup x = some y → (x, y) ∈ l
  | (k, v) :: l, x, y, h => by
    rw [List.lookup_cons] at h
    cases hx : x == k with
    | true => rw [hx] at h; cases h; rw [eq_of_beq hx]; exact List.mem_cons_self
    | false => rw [hx] at h; exact List.mem_cons_of_mem _ (look_mem h)
noncomputable def TabOk (hb : Heap) (mg : Str → Option Value) : Prop := ∃ fv, mg "_filemode_table" = some fv ∧ ∀ Z, RP hb Z tabP fv
theorem fa_nil {α : Type} {p : α → Prop} : ∀ x ∈ ([] : List α), p x := fun _ h => nomatch h
theorem fa_cons {α : Type} {p : α → Prop} {a : α} {l : List α} (h1 : p a) (h2 : ∀ x ∈ l, p x) : ∀ x ∈ a :: l, p x := fun x h => by
  cases h with
  | head => exact h1
  | tail _ h => exact h2 x h
theorem gn_at {mean : ExcName → Option Value} {mg mb : Str → Option Value} (T : Top vw looseV mean mg mb hb) (x : Str) {v : Value} (h : bltV.lookup x = some v) : GN hb x v := gn_of T (look_mem h)
noncomputable def KOk (hb : Heap) (q : Str × P) : Prop := ∃ v, GN hb q.1 v ∧ ∀ Z, RP hb Z q.2 v
theorem ks_ok {mean : ExcName → Option Value} {mg mb : Str → Option Value} (T : Top vw looseV mean mg mb hb) (tab : TabOk hb mg) : ∀ q ∈ ([("bytes", .ty "bytes"), ("str", .ty "str"), ("_filemode_table", tabP)] : List (Str × P)), KOk hb q :=
  fa_cons ⟨_, gn_at T _ (v := .type "bytes") (by kernel_rfl), fun Z => rfl⟩ (fa_cons ⟨_, gn_at T _ (v := .type "str") (by kernel_rfl), fun Z => rfl⟩ (fa_cons (let ⟨fv, e, h⟩ := tab; ⟨fv, gn_glob T.g e (by decide +kernel), h⟩) fa_nil))
theorem cx_ok {mean : ExcName → Option Value} {mg mb : Str → Option Value} (T : Top vw looseV mean mg mb hb) (tab : TabOk hb mg) {bs : List (Str × (Mem → List V → Option V))} {es : List (Str × (List V → Mem → Option (V × Mem)))}
    (h1 : ∀ q ∈ bs, BOk prog w hb n q) (h2 : ∀ q ∈ es, EOk prog w hb n q) : CxOk prog w hb n (mkCx bs es) where
  k := fun x d h => ks_ok T tab (x, d) (look_mem h)
  b := fun x sem h => h1 _ (look_mem h)
  ef := fun x sem h => h2 _ (look_mem h)
  ra := gn_at T _ (by kernel_rfl)
  en := gn_at T _ (by kernel_rfl)
  li := gn_at T _ (by kernel_rfl)
  tu := gn_at T _ (by kernel_rfl)
  ma := gn_at T _ (by kernel_rfl)
  ve := gn_at T _ (by kernel_rfl)
theorem bok_b {mean : ExcName → Option Value} {mg mb : Str → Option Value} (T : Top vw looseV mean mg mb hb) (x : Str) (i : String) {sem : Mem → List V → Option V} (h : bltV.lookup x = some (.builtin i)) (k : BiSem prog w hb n (.builtin i) sem) : BOk prog w hb n (x, sem) :=
  ⟨_, gn_at T x h, keeps1_builtin _, k⟩
theorem bok_t {mean : ExcName → Option Value} {mg mb : Str → Option Value} (T : Top vw looseV mean mg mb hb) (x : Str) (i : String) {sem : Mem → List V → Option V} (h : bltV.lookup x = some (.type i)) (k : BiSem prog w hb n (.type i) sem) : BOk prog w hb n (x, sem) :=
  ⟨_, gn_at T x h, keeps1_type _, k⟩
theorem bi0_ok {mean : ExcName → Option Value} {mg mb : Str → Option Value} (T : Top vw looseV mean mg mb hb) : ∀ q ∈ bi0, BOk prog w hb n q :=
  fa_cons (bok_b T _ "len" (by kernel_rfl) bi_len) (fa_cons (bok_b T _ "abs" (by kernel_rfl) bi_abs) (fa_cons (bok_t T _ "str" (by kernel_rfl) bi_str) (fa_cons (bok_b T _ "sum" (by kernel_rfl) bi_sum)
  (fa_cons (bok_b T _ "all" (by kernel_rfl) bi_all) (fa_cons (bok_b T _ "sorted" (by kernel_rfl) bi_sorted) (fa_cons (bok_b T _ "max" (by kernel_rfl) bi_max) (fa_cons (bok_b T _ "min" (by kernel_rfl) bi_min)
  (fa_cons (bok_t T _ "type" (by kernel_rfl) bi_type) (fa_cons (bok_b T _ "isinstance" (by kernel_rfl) bi_isinstance) (fa_cons (bok_b T _ "issubclass" (by kernel_rfl) bi_issub) fa_nil))))))))))
end
end Mine
end
section
open PySem.W
namespace Mine
section
variable {prog : Program} {w : World} {hb : Heap}
theorem all_cons {α : Type} {P : α → Prop} {a : α} {l : List α} (h : P a) (hl : ∀ x ∈ l, P x) : ∀ x ∈ a :: l, P x := fun x hx => by
  cases hx with
  | head => exact h
  | tail _ hx => exact hl x hx
theorem BOk.mono {n m : Nat} {q : Str × (Mem → List V → Option V)} (h : BOk prog w hb n q) (hm : n ≤ m) : BOk prog w hb m q := let ⟨fv, a, b, c⟩ := h; ⟨fv, a, b, c.mono hm⟩
theorem EOk.mono {n m : Nat} {q : Str × (List V → Mem → Option (V × Mem))} (h : EOk prog w hb n q) (hm : n ≤ m) : EOk prog w hb m q := let ⟨fv, a, b, c⟩ := h; ⟨fv, a, b, c.mono hm⟩
theorem lv0 {mean : ExcName → Option Value} {mg mb : Str → Option Value} (T : Top vw looseV mean mg mb hb) (tab : TabOk hb mg) : CxOk prog w hb 0 cx0 := cx_ok T tab (bi0_ok T) (fun q h => nomatch h)
theorem f_uld {mean : ExcName → Option Value} {mg mb : Str → Option Value} (T : Top vw looseV mean mg mb hb) (tab : TabOk hb mg) : EOk prog w hb 2 ("unorderable_list_difference", E_uld) := by
  obtain ⟨f, hm, h⟩ := fn_at T (dr_mem (i := 2) (by decide)) (by decide +kernel)
  exact ⟨.ref f, (by kernel_rfl : (dr 2).name = ("unorderable_list_difference" : Str)) ▸ h.gn, h.ks, fn_e h (lv0 T tab) N_uld ["expected", "actual"] ["missing"] F_uld c_uld o_uld fun pm cd doc => bind2 fun y0 y1 => b_uld pm cd doc y0 y1⟩
theorem f_twc {mean : ExcName → Option Value} {mg mb : Str → Option Value} (T : Top vw looseV mean mg mb hb) (tab : TabOk hb mg) : BOk prog w hb 2 ("three_way_cmp", S_twc) := by
  obtain ⟨f, hm, h⟩ := fn_at T (dr_mem (i := 3) (by decide)) (by decide +kernel)
  exact ⟨.ref f, (by kernel_rfl : (dr 3).name = ("three_way_cmp" : Str)) ▸ h.gn, h.ks, fn_pure (fn_e h (lv0 T tab) N_twc ["x", "y"] [] F_twc c_twc o_twc fun pm cd doc => bind2 fun y0 y1 => b_twc pm cd doc y0 y1)⟩
theorem f_fspath {mean : ExcName → Option Value} {mg mb : Str → Option Value} (T : Top vw looseV mean mg mb hb) (tab : TabOk hb mg) : BOk prog w hb 2 ("fspath", S_fspath) := by
  obtain ⟨f, hm, h⟩ := fn_at T (dr_mem (i := 12) (by decide)) (by decide +kernel)
  exact ⟨.ref f, (by kernel_rfl : (dr 12).name = ("fspath" : Str)) ▸ h.gn, h.ks, fn_pure (fn_e h (lv0 T tab) N_fspath ["path"] [] F_fspath c_fspath o_fspath fun pm cd doc => bind1 fun y0 => b_fspath pm cd doc y0)⟩
theorem f_sep {mean : ExcName → Option Value} {mg mb : Str → Option Value} (T : Top vw looseV mean mg mb hb) (tab : TabOk hb mg) : BOk prog w hb 2 ("_get_sep", S_sep) := by
  obtain ⟨f, hm, h⟩ := fn_at T (dr_mem (i := 16) (by decide)) (by decide +kernel)
  exact ⟨.ref f, (by kernel_rfl : (dr 16).name = ("_get_sep" : Str)) ▸ h.gn, h.ks, fn_pure (fn_e h (lv0 T tab) N_sep ["path"] [] F_sep c_sep o_sep fun pm cd doc => bind1 fun y0 => b_sep pm cd doc y0)⟩
theorem f_ifmt {mean : ExcName → Option Value} {mg mb : Str → Option Value} (T : Top vw looseV mean mg mb hb) (tab : TabOk hb mg) : BOk prog w hb 2 ("S_IFMT", S_ifmt) := by
  obtain ⟨f, hm, h⟩ := fn_at T (dr_mem (i := 21) (by decide)) (by decide +kernel)
  exact ⟨.ref f, (by kernel_rfl : (dr 21).name = ("S_IFMT" : Str)) ▸ h.gn, h.ks, fn_pure (fn_e h (lv0 T tab) N_ifmt ["mode"] [] F_ifmt c_ifmt o_ifmt fun pm cd doc => bind1 fun y0 => b_ifmt pm cd doc y0)⟩
theorem lv1 {mean : ExcName → Option Value} {mg mb : Str → Option Value} (T : Top vw looseV mean mg mb hb) (tab : TabOk hb mg) : CxOk prog w hb 2 cx1 := cx_ok T tab (all_cons ((f_twc T tab).mono (by decide)) (all_cons ((f_fspath T tab).mono (by decide)) (all_cons ((f_sep T tab).mono (by decide)) (all_cons ((f_ifmt T tab).mono (by decide)) (bi0_ok T))))) (all_cons ((f_uld T tab).mono (by decide)) (fun q h => nomatch h))
theorem f_join {mean : ExcName → Option Value} {mg mb : Str → Option Value} (T : Top vw looseV mean mg mb hb) (tab : TabOk hb mg) : BOk prog w hb 4 ("join", S_join) := by
  obtain ⟨f, hm, h⟩ := fn_at T (dr_mem (i := 17) (by decide)) (by decide +kernel)
  exact ⟨.ref f, (by kernel_rfl : (dr 17).name = ("join" : Str)) ▸ h.gn, h.ks, fn_v h (lv1 T tab) N_join [] "a" "p" F_join c_join o_join b_join⟩
theorem f_dirname {mean : ExcName → Option Value} {mg mb : Str → Option Value} (T : Top vw looseV mean mg mb hb) (tab : TabOk hb mg) : BOk prog w hb 4 ("dirname", S_dirname) := by
  obtain ⟨f, hm, h⟩ := fn_at T (dr_mem (i := 18) (by decide)) (by decide +kernel)
  exact ⟨.ref f, (by kernel_rfl : (dr 18).name = ("dirname" : Str)) ▸ h.gn, h.ks, fn_pure (fn_e h (lv1 T tab) N_dirname ["p"] [] F_dirname c_dirname o_dirname fun pm cd doc => bind1 fun y0 => b_dirname pm cd doc y0)⟩
theorem f_commonpath {mean : ExcName → Option Value} {mg mb : Str → Option Value} (T : Top vw looseV mean mg mb hb) (tab : TabOk hb mg) : BOk prog w hb 4 ("commonpath", S_commonpath) := by
  obtain ⟨f, hm, h⟩ := fn_at T (dr_mem (i := 19) (by decide)) (by decide +kernel)
  exact ⟨.ref f, (by kernel_rfl : (dr 19).name = ("commonpath" : Str)) ▸ h.gn, h.ks, fn_pure (fn_e h (lv1 T tab) N_commonpath ["paths"] [] F_commonpath c_commonpath o_commonpath fun pm cd doc => bind1 fun y0 => b_commonpath pm cd doc y0)⟩
theorem f_filemode {mean : ExcName → Option Value} {mg mb : Str → Option Value} (T : Top vw looseV mean mg mb hb) (tab : TabOk hb mg) : BOk prog w hb 4 ("filemode", S_filemode) := by
  obtain ⟨f, hm, h⟩ := fn_at T (dr_mem (i := 42) (by decide)) (by decide +kernel)
  exact ⟨.ref f, (by kernel_rfl : (dr 42).name = ("filemode" : Str)) ▸ h.gn, h.ks, fn_pure (fn_e h (lv1 T tab) N_filemode ["mode"] ["perm"] F_filemode c_filemode o_filemode fun pm cd doc => bind1 fun y0 => b_filemode pm cd doc y0)⟩
theorem f_sorted {mean : ExcName → Option Value} {mg mb : Str → Option Value} (T : Top vw looseV mean mg mb hb) (tab : TabOk hb mg) : BOk prog w hb 4 ("_law_sorted", S_sorted) := by
  obtain ⟨f, hm, h⟩ := fn_at T (dr_mem (i := 46) (by decide)) (by decide +kernel)
  exact ⟨.ref f, (by kernel_rfl : (dr 46).name = ("_law_sorted" : Str)) ▸ h.gn, h.ks, fn_pure (fn_e h (lv1 T tab) N_sorted ["forms"] [] F_sorted c_sorted o_sorted fun pm cd doc => bind1 fun y0 => b_sorted pm cd doc y0)⟩
theorem f_exchanges {mean : ExcName → Option Value} {mg mb : Str → Option Value} (T : Top vw looseV mean mg mb hb) (tab : TabOk hb mg) : BOk prog w hb 4 ("_law_exchanges", S_exchanges) := by
  obtain ⟨f, hm, h⟩ := fn_at T (dr_mem (i := 48) (by decide)) (by decide +kernel)
  exact ⟨.ref f, (by kernel_rfl : (dr 48).name = ("_law_exchanges" : Str)) ▸ h.gn, h.ks, fn_pure (fn_e h (lv1 T tab) N_exchanges ["forms"] [] F_exchanges c_exchanges o_exchanges fun pm cd doc => bind1 fun y0 => b_exchanges pm cd doc y0)⟩
theorem lv2 {mean : ExcName → Option Value} {mg mb : Str → Option Value} (T : Top vw looseV mean mg mb hb) (tab : TabOk hb mg) : CxOk prog w hb 4 cx2 := cx_ok T tab (all_cons ((f_twc T tab).mono (by decide)) (all_cons ((f_fspath T tab).mono (by decide)) (all_cons ((f_sep T tab).mono (by decide)) (all_cons ((f_ifmt T tab).mono (by decide)) (all_cons ((f_join T tab).mono (by decide)) (all_cons ((f_dirname T tab).mono (by decide)) (all_cons ((f_commonpath T tab).mono (by decide)) (all_cons ((f_filemode T tab).mono (by decide)) (all_cons ((f_sorted T tab).mono (by decide)) (all_cons ((f_exchanges T tab).mono (by decide)) (bi0_ok T))))))))))) (all_cons ((f_uld T tab).mono (by decide)) (fun q h => nomatch h))
theorem f_drawn {mean : ExcName → Option Value} {mg mb : Str → Option Value} (T : Top vw looseV mean mg mb hb) (tab : TabOk hb mg) : BOk prog w hb 6 ("_law_drawn", S_drawn) := by
  obtain ⟨f, hm, h⟩ := fn_at T (dr_mem (i := 44) (by decide)) (by decide +kernel)
  exact ⟨.ref f, (by kernel_rfl : (dr 44).name = ("_law_drawn" : Str)) ▸ h.gn, h.ks, fn_pure (fn_e h (lv2 T tab) N_drawn ["script"] ["above", "kinds", "modes", "moves"] F_drawn c_drawn o_drawn fun pm cd doc => bind1 fun y0 => b_drawn pm cd doc y0)⟩
theorem f_paths {mean : ExcName → Option Value} {mg mb : Str → Option Value} (T : Top vw looseV mean mg mb hb) (tab : TabOk hb mg) : BOk prog w hb 6 ("_law_paths", S_paths) := by
  obtain ⟨f, hm, h⟩ := fn_at T (dr_mem (i := 45) (by decide)) (by decide +kernel)
  exact ⟨.ref f, (by kernel_rfl : (dr 45).name = ("_law_paths" : Str)) ▸ h.gn, h.ks, fn_pure (fn_e h (lv2 T tab) N_paths ["above", "names"] ["paths"] F_paths c_paths o_paths fun pm cd doc => bind2 fun y0 y1 => b_paths pm cd doc y0 y1)⟩
theorem f_forms {mean : ExcName → Option Value} {mg mb : Str → Option Value} (T : Top vw looseV mean mg mb hb) (tab : TabOk hb mg) : BOk prog w hb 6 ("_law_forms", S_forms) := by
  obtain ⟨f, hm, h⟩ := fn_at T (dr_mem (i := 47) (by decide)) (by decide +kernel)
  exact ⟨.ref f, (by kernel_rfl : (dr 47).name = ("_law_forms" : Str)) ▸ h.gn, h.ks, fn_pure (fn_e h (lv2 T tab) N_forms ["paths", "modes"] [] F_forms c_forms o_forms fun pm cd doc => bind2 fun y0 y1 => b_forms pm cd doc y0 y1)⟩
theorem f_goes_with {mean : ExcName → Option Value} {mg mb : Str → Option Value} (T : Top vw looseV mean mg mb hb) (tab : TabOk hb mg) : BOk prog w hb 6 ("_law_goes_with", S_goes_with) := by
  obtain ⟨f, hm, h⟩ := fn_at T (dr_mem (i := 49) (by decide)) (by decide +kernel)
  exact ⟨.ref f, (by kernel_rfl : (dr 49).name = ("_law_goes_with" : Str)) ▸ h.gn, h.ks, fn_pure (fn_e h (lv2 T tab) N_goes_with ["paths", "again", "above", "renaming"] [] F_goes_with c_goes_with o_goes_with fun pm cd doc => bind4 fun y0 y1 y2 y3 => b_goes_with pm cd doc y0 y1 y2 y3)⟩
theorem f_own_forms {mean : ExcName → Option Value} {mg mb : Str → Option Value} (T : Top vw looseV mean mg mb hb) (tab : TabOk hb mg) : BOk prog w hb 6 ("_law_own_forms", S_own_forms) := by
  obtain ⟨f, hm, h⟩ := fn_at T (dr_mem (i := 50) (by decide)) (by decide +kernel)
  exact ⟨.ref f, (by kernel_rfl : (dr 50).name = ("_law_own_forms" : Str)) ▸ h.gn, h.ks, fn_pure (fn_e h (lv2 T tab) N_own_forms ["above", "kinds"] ["own"] F_own_forms c_own_forms o_own_forms fun pm cd doc => bind2 fun y0 y1 => b_own_forms pm cd doc y0 y1)⟩
theorem f_codes {mean : ExcName → Option Value} {mg mb : Str → Option Value} (T : Top vw looseV mean mg mb hb) (tab : TabOk hb mg) : EOk prog w hb 6 ("_law_codes", E_codes) := by
  obtain ⟨f, hm, h⟩ := fn_at T (dr_mem (i := 51) (by decide)) (by decide +kernel)
  exact ⟨.ref f, (by kernel_rfl : (dr 51).name = ("_law_codes" : Str)) ▸ h.gn, h.ks, fn_e h (lv2 T tab) N_codes ["above", "kinds", "table"] ["codes"] F_codes c_codes o_codes fun pm cd doc => bind3 fun y0 y1 y2 => b_codes pm cd doc y0 y1 y2⟩
theorem f_renamings {mean : ExcName → Option Value} {mg mb : Str → Option Value} (T : Top vw looseV mean mg mb hb) (tab : TabOk hb mg) : BOk prog w hb 6 ("_law_renamings", S_renamings) := by
  obtain ⟨f, hm, h⟩ := fn_at T (dr_mem (i := 52) (by decide)) (by decide +kernel)
  exact ⟨.ref f, (by kernel_rfl : (dr 52).name = ("_law_renamings" : Str)) ▸ h.gn, h.ks, fn_pure (fn_e h (lv2 T tab) N_renamings ["above", "other", "kinds"] [] F_renamings c_renamings o_renamings fun pm cd doc => bind3 fun y0 y1 y2 => b_renamings pm cd doc y0 y1 y2)⟩
theorem lv3 {mean : ExcName → Option Value} {mg mb : Str → Option Value} (T : Top vw looseV mean mg mb hb) (tab : TabOk hb mg) : CxOk prog w hb 6 cx3 := cx_ok T tab (all_cons ((f_twc T tab).mono (by decide)) (all_cons ((f_fspath T tab).mono (by decide)) (all_cons ((f_sep T tab).mono (by decide)) (all_cons ((f_ifmt T tab).mono (by decide)) (all_cons ((f_join T tab).mono (by decide)) (all_cons ((f_dirname T tab).mono (by decide)) (all_cons ((f_commonpath T tab).mono (by decide)) (all_cons ((f_filemode T tab).mono (by decide)) (all_cons ((f_sorted T tab).mono (by decide)) (all_cons ((f_exchanges T tab).mono (by decide)) (all_cons ((f_drawn T tab).mono (by decide)) (all_cons ((f_paths T tab).mono (by decide)) (all_cons ((f_forms T tab).mono (by decide)) (all_cons ((f_goes_with T tab).mono (by decide)) (all_cons ((f_own_forms T tab).mono (by decide)) (all_cons ((f_renamings T tab).mono (by decide)) (bi0_ok T))))))))))))))))) (all_cons ((f_uld T tab).mono (by decide)) (all_cons ((f_codes T tab).mono (by decide)) (fun q h => nomatch h)))
theorem f_agrees {mean : ExcName → Option Value} {mg mb : Str → Option Value} (T : Top vw looseV mean mg mb hb) (tab : TabOk hb mg) : BOk prog w hb 8 ("_law_agrees", S_agrees) := by
  obtain ⟨f, hm, h⟩ := fn_at T (dr_mem (i := 53) (by decide)) (by decide +kernel)
  exact ⟨.ref f, (by kernel_rfl : (dr 53).name = ("_law_agrees" : Str)) ▸ h.gn, h.ks, fn_pure (fn_e h (lv3 T tab) N_agrees ["above", "kinds", "paths", "forms", "move"] ["table", "first", "second"] F_agrees c_agrees o_agrees fun pm cd doc => bind5 fun y0 y1 y2 y3 y4 => b_agrees pm cd doc y0 y1 y2 y3 y4)⟩
theorem lv4 {mean : ExcName → Option Value} {mg mb : Str → Option Value} (T : Top vw looseV mean mg mb hb) (tab : TabOk hb mg) : CxOk prog w hb 8 cx4 := cx_ok T tab (all_cons ((f_twc T tab).mono (by decide)) (all_cons ((f_fspath T tab).mono (by decide)) (all_cons ((f_sep T tab).mono (by decide)) (all_cons ((f_ifmt T tab).mono (by decide)) (all_cons ((f_join T tab).mono (by decide)) (all_cons ((f_dirname T tab).mono (by decide)) (all_cons ((f_commonpath T tab).mono (by decide)) (all_cons ((f_filemode T tab).mono (by decide)) (all_cons ((f_sorted T tab).mono (by decide)) (all_cons ((f_exchanges T tab).mono (by decide)) (all_cons ((f_drawn T tab).mono (by decide)) (all_cons ((f_paths T tab).mono (by decide)) (all_cons ((f_forms T tab).mono (by decide)) (all_cons ((f_goes_with T tab).mono (by decide)) (all_cons ((f_own_forms T tab).mono (by decide)) (all_cons ((f_renamings T tab).mono (by decide)) (all_cons ((f_agrees T tab).mono (by decide)) (bi0_ok T)))))))))))))))))) (all_cons ((f_uld T tab).mono (by decide)) (all_cons ((f_codes T tab).mono (by decide)) (fun q h => nomatch h)))
theorem f_law {mean : ExcName → Option Value} {mg mb : Str → Option Value} (T : Top vw looseV mean mg mb hb) (tab : TabOk hb mg) : ∃ f, mg "law" = some (.ref f) ∧ BiSem prog w hb 10 (.ref f) S_law := by
  obtain ⟨f, hm, h⟩ := fn_at T (dr_mem (i := 54) (by decide)) (by decide +kernel)
  exact ⟨f, (by kernel_rfl : (dr 54).name = ("law" : Str)) ▸ hm, fn_pure (fn_e h (lv4 T tab) N_law ["script"] [] F_law c_law o_law fun pm cd doc => bind1 fun y0 => b_law pm cd doc y0)⟩
end
end Mine
end
section
open PySem.W
namespace Mine

theorem rps_ints {h : Heap} {Z : List Addr} {ns : List Int} {vs : List Value} (x : IntsAre vs ns) : RPs h Z (ns.map .int) vs := by
  induction x with
  | nil => trivial
  | cons n t _ ih => exact ⟨⟨t, rfl⟩, ih⟩
theorem isList_dat {h : Heap} {a : Addr} {vs : List Value} {xs : List Value} (e : h.get? a = some { cls := .type "list", data := .seq xs.toArray }) (x : h.IsList a vs.toArray) : LstAt h a vs := by
  obtain ⟨o, e1, e2, n, e3⟩ := x
  rw [e] at e1
  obtain rfl := soK e1
  cases e3
  exact ⟨_, e⟩

set_option maxHeartbeats 4000000 in
theorem walk_law {XP : (Str → Option Value) → Heap → Prop} {YP : World → Heap → Prop} {d : DefRec} (hn : d.name = ("law" : Str)) (hlaw : ∀ ns : List Int, ns.length ≤ 63 → S_law [] [.p (.lst (ns.map .int))] = some (.p (.bool true)))
    (tabX : ∀ w mg h, h.Ns mainGlobals mg → XP mg h → YP w h → TabOk h mg) : WalkO vw ["_filemode_table"] XP YP Challenge.rw_pd0149_01.row.toRowW d [] fun f vs => PySem.call f vs := by
  intro w s₀ s₁ mg mb G Y a o pm cd doc dV kV ho hd hcd hD hmg hg args vals as hpre hlay hrd hwl hlo
  have T := G.T
  have tab := tabX w mg s₁.heap T.g G.X Y
  clear ho hd hcd hD
  wrow_args hpre hlay hrd hwl hlo
  rename ¬ _ => hlen
  rename IntsAre _ _ => hI
  rename Well _ _ _ _ => hW
  rename Heap.IsList _ _ _ => hL
  rename List Int => ns
  obtain ⟨f, hf, B⟩ := f_law (prog := Challenge.rw_pd0149_01.row.prog) (w := w) (hb := s₁.heap) T tab
  rw [hn, hf] at hmg
  cases hmg
  obtain ⟨xs, hx⟩ : ∃ xs : List Value, s₁.heap.get? _ = some { cls := .type "list", data := .seq xs.toArray } := by
    cases hW with
    | list hg _ => exact ⟨_, hg⟩
  have hl := isList_dat hx hL
  refine B [] [] callerA s₁ [] [.p (.lst (ns.map .int))] (.p (.bool true)) [_] _ _ ?_ ?_ (fun _ _ e => e) ⟨?_, trivial⟩ (hlaw ns (by omega)) ?_
  · exact ⟨rfl, by decide +kernel, by decide +kernel, [], rfl, trivial, fun _ h => nomatch h⟩
  · exact ⟨rfl, List.nodup_nil, (fun _ h => nomatch h), (fun _ h => nomatch h), (fun _ h => nomatch h), fun k a o h => nomatch h⟩
  · simp only [RV, RP]
    exact ⟨_, _, rfl, hl, by simp, rps_ints hI⟩
  · intro y h' tk ry k hs
    simp only [RV, RP] at ry
    subst ry
    refine GoodW.toG ⟨.inl ⟨_, .bool true, [], rfl, fun cls => rfl, .bool true, ?_, fun _ => ⟨List.nodup_nil, fun _ h => nomatch h⟩⟩, hs, rfl, hg⟩
    first | kernel_rfl | wrow_post
end Mine
end
section
open PySem.W
namespace Mine

/- forms: [mode's signs, forms]; their order -/
noncomputable def MS : Nat → Str
  | 0 => "drwxr-xr-x"
  | 1 => "drws--x--x"
  | 2 => "-rw-r--r--"
  | _ => "drwxrwxrwt"
/- the mode strings' rank -/
noncomputable def rkk : Nat → Nat
  | 0 => 2
  | 1 => 1
  | 2 => 0
  | _ => 3
noncomputable def frm (k : Nat) (cs : List P) : P := .lst [.str (MS k), .lst cs]
noncomputable def Form : Nat → P → Prop
  | 0, _ => False
  | n + 1, d => ∃ k cs, k < 4 ∧ d = frm k cs ∧ ∀ c ∈ cs, Form n c
theorem Form.up : ∀ {n : Nat} {d : P}, Form n d → Form (n + 1) d
  | n + 1, d, ⟨k, cs, hk, e, h⟩ => ⟨k, cs, hk, e, fun c hc => (h c hc).up⟩
theorem Form.mono {n m : Nat} {d : P} (h : Form n d) (hm : n ≤ m) : Form m d := by
  induction hm with
  | refl => exact h
  | step _ ih => exact ih.up

/- the key: the order of forms is the order of keys -/
noncomputable def key : Nat → P → List Nat
  | 0, _ => [0]
  | n + 1, d => match d with
    | .lst [.str s, .lst cs] => ((if s = MS 0 then 4 else if s = MS 1 then 3 else if s = MS 2 then 2 else 5) :: (cs.flatMap (key n) ++ [1]))
    | _ => [0]
theorem MS_inj : ∀ {i j : Nat}, i < 4 → j < 4 → MS i = MS j → i = j := by
  intro i j hi hj
  have : ∀ i, i < 4 → ∀ j, j < 4 → MS i = MS j → i = j := by decide +kernel
  exact this i hi j hj
theorem key_frm {n k : Nat} (hk : k < 4) (cs : List P) : key (n + 1) (frm k cs) = (rkk k + 2) :: (cs.flatMap (key n) ++ [1]) := by
  have : ∀ k, k < 4 → (if MS k = MS 0 then 4 else if MS k = MS 1 then 3 else if MS k = MS 2 then 2 else 5) = rkk k + 2 := by decide +kernel
  show ((if MS k = MS 0 then 4 else if MS k = MS 1 then 3 else if MS k = MS 2 then 2 else 5) :: _) = _
  rw [this k hk]
theorem rkk_inj : ∀ {i j : Nat}, i < 4 → j < 4 → rkk i = rkk j → i = j := by
  intro i j hi hj
  have : ∀ i, i < 4 → ∀ j, j < 4 → rkk i = rkk j → i = j := by decide +kernel
  exact this i hi j hj
theorem MS_lt : ∀ {i j : Nat}, i < 4 → j < 4 → decide ((MS i).cps.toList < (MS j).cps.toList) = decide (rkk i < rkk j) := by
  intro i j hi hj
  have : ∀ i, i < 4 → ∀ j, j < 4 → decide ((MS i).cps.toList < (MS j).cps.toList) = decide (rkk i < rkk j) := by decide +kernel
  exact this i hi j hj

/- keys end by themselves -/
noncomputable def Pre (κ : P → List Nat) (a b : P) : Prop := ∀ s t : List Nat, (κ a ++ s < κ b ++ t ↔ κ a < κ b ∨ (a = b ∧ s < t)) ∧ (κ a ++ s = κ b ++ t → a = b)
theorem pre_lists {κ : P → List Nat} : ∀ {cs ds : List P}, (∀ c ∈ cs, ∀ d ∈ ds, Pre κ c d) → (∀ d ∈ cs ++ ds, ∃ r l, κ d = (r + 2) :: l) → ∀ s t : List Nat,
    (cs.flatMap κ ++ 1 :: s < ds.flatMap κ ++ 1 :: t ↔ (cs.flatMap κ ++ [1] < ds.flatMap κ ++ [1]) ∨ (cs = ds ∧ s < t)) ∧ (cs.flatMap κ ++ 1 :: s = ds.flatMap κ ++ 1 :: t → cs = ds ∧ s = t)
  | [], [], _, _, s, t => by simp [List.cons_lt_cons_iff]
  | [], d :: ds, _, hs, s, t => by
    obtain ⟨r, l, e⟩ := hs d (by simp)
    simp [List.flatMap_cons, e, List.cons_lt_cons_iff]
  | c :: cs, [], _, hs, s, t => by
    obtain ⟨r, l, e⟩ := hs c (by simp)
    simp [List.flatMap_cons, e, List.cons_lt_cons_iff]
  | c :: cs, d :: ds, h, hs, s, t => by
    have hp := h c (by simp) d (by simp)
    have ih := pre_lists (cs := cs) (ds := ds) (fun x hx y hy => h x (by simp [hx]) y (by simp [hy])) (fun x hx => hs x (by simp at hx ⊢; rcases hx with hx | hx <;> simp [hx])) s t
    simp only [List.flatMap_cons, List.append_assoc]
    constructor
    · rw [(hp _ _).1, (hp _ _).1, ih.1]
      constructor
      · rintro (h1 | ⟨rfl, h2 | ⟨rfl, h3⟩⟩)
        · exact .inl (.inl h1)
        · exact .inl (.inr ⟨rfl, h2⟩)
        · exact .inr ⟨rfl, h3⟩
      · rintro ((h1 | ⟨rfl, h2⟩) | ⟨e, h3⟩)
        · exact .inl h1
        · exact .inr ⟨rfl, .inl h2⟩
        · cases e; exact .inr ⟨rfl, .inr ⟨rfl, h3⟩⟩
    · intro e
      have e1 := (hp _ _).2 e
      subst e1
      have := ih.2 (List.append_cancel_left e)
      exact ⟨by rw [this.1], this.2⟩
theorem key_head {n : Nat} {d : P} (h : Form n d) : ∃ r l, key n d = (r + 2) :: l := by
  cases n with
  | zero => cases h
  | succ n =>
    obtain ⟨k, cs, hk, rfl, _⟩ := h
    exact ⟨_, _, key_frm hk cs⟩
theorem key_pre : ∀ {n : Nat} {a b : P}, Form n a → Form n b → Pre (key n) a b
  | n + 1, a, b, ⟨k, cs, hk, ea, ha⟩, ⟨k', ds, hk', eb, hb⟩ => by
    subst ea eb
    intro s t
    have pl := pre_lists (κ := key n) (cs := cs) (ds := ds) (fun c hc d hd => key_pre (ha c hc) (hb d hd)) (fun x hx => key_head (by rcases List.mem_append.mp hx with h | h; exact ha x h; exact hb x h)) s t
    rw [key_frm hk, key_frm hk']
    simp only [List.cons_append, List.append_assoc, List.nil_append, List.cons_lt_cons_iff, Nat.add_lt_add_iff_right, Nat.add_right_cancel_iff, List.cons.injEq]
    constructor
    · rw [pl.1]
      constructor
      · rintro (h | ⟨h, h2 | ⟨rfl, h3⟩⟩)
        · exact .inl (.inl h)
        · exact .inl (.inr ⟨h, h2⟩)
        · exact .inr ⟨by rw [rkk_inj hk hk' h], h3⟩
      · rintro ((h | ⟨h, h2⟩) | ⟨e, h3⟩)
        · exact .inl h
        · exact .inr ⟨h, .inl h2⟩
        · injection e with e; injection e with e1 e2; injection e2 with e2 _; injection e2 with e2; injection e1 with e1
          subst e2
          rw [MS_inj hk hk' e1]
          exact .inr ⟨rfl, .inr ⟨rfl, h3⟩⟩
    · rintro ⟨h1, h2⟩
      rw [rkk_inj hk hk' h1, (pl.2 h2).1]
theorem key_inj {n : Nat} {a b : P} (ha : Form n a) (hb : Form n b) (e : key n a = key n b) : a = b := (key_pre ha hb [] []).2 (by rw [e])
end Mine
end
section
open PySem.W
namespace Mine
open Classical

theorem zip_some {N : Nat} : ∀ {xs ys : List P}, (∀ c ∈ xs, ∀ d ∈ ys, eqP N c d = some (decide (c = d))) → ((xs.zip ys).mapM fun p => eqP N p.1 p.2) = some ((xs.zip ys).map fun p => decide (p.1 = p.2))
  | [], _, _ => rfl
  | _ :: _, [], _ => rfl
  | c :: cs, d :: ds, h => by
    rw [List.zip_cons_cons, List.mapM_cons]
    show ((eqP N c d).bind fun r => ((cs.zip ds).mapM fun p => eqP N p.1 p.2).bind fun rs => some (r :: rs)) = _
    rw [h c (by simp) d (by simp), zip_some fun x hx y hy => h x (by simp [hx]) y (by simp [hy])]
    rfl
theorem zip_all : ∀ {xs ys : List P}, xs.length = ys.length → ((xs.zip ys).map fun p => decide (p.1 = p.2)).all id = decide (xs = ys)
  | [], [], _ => rfl
  | c :: cs, d :: ds, h => by
    have := zip_all (xs := cs) (ys := ds) (by simpa using h)
    rw [List.zip_cons_cons, List.map_cons, List.all_cons, this]
    by_cases h1 : c = d <;> by_cases h2 : cs = ds <;> simp [h1, h2]
theorem eqL {N : Nat} {xs ys : List P} (h : ∀ c ∈ xs, ∀ d ∈ ys, eqP N c d = some (decide (c = d))) : eqP (N + 1) (.lst xs) (.lst ys) = some (decide (P.lst xs = P.lst ys)) := by
  show (if xs.length = ys.length then ((xs.zip ys).mapM fun p => eqP N p.1 p.2).map fun bs => bs.all id else some false) = _
  by_cases hl : xs.length = ys.length
  · rw [if_pos hl, zip_some h]
    show some (List.all _ id) = _
    rw [zip_all hl]
    simp
  · rw [if_neg hl]
    have : xs ≠ ys := fun e => hl (by rw [e])
    simp [this]
theorem eqS (N : Nat) (x y : Str) : eqP (N + 1) (.str x) (.str y) = some (decide (P.str x = P.str y)) := by
  show some (x == y) = _
  by_cases h : x = y <;> simp [h]
/- two items, one by one -/
theorem eq2 {N : Nat} {a b c d : P} (h1 : eqP N a c = some (decide (a = c))) (h2 : eqP N b d = some (decide (b = d))) : eqP (N + 1) (.lst [a, b]) (.lst [c, d]) = some (decide (P.lst [a, b] = P.lst [c, d])) := by
  simp only [eqP, lstD, Option.bind_some, List.zip_cons_cons, List.zip_nil_right, List.mapM_cons, List.mapM_nil, h1, h2]
  by_cases e1 : a = c <;> by_cases e2 : b = d <;> simp [e1, e2]
theorem eqF : ∀ {n N : Nat} {a b : P}, Form n a → Form n b → 2 * n ≤ N → eqP N a b = some (decide (a = b))
  | n + 1, N, a, b, ⟨k, cs, hk, ea, ha⟩, ⟨k', ds, hk', eb, hb⟩, hN => by
    obtain ⟨M, rfl⟩ : ∃ M, N = M + 2 := ⟨N - 2, by omega⟩
    subst ea eb
    exact eq2 (eqS M _ _) (eqL fun c hc d hd => eqF (ha c hc) (hb d hd) (by omega))
/- one step of the comparison of lists -/
theorem cmpL {gt : Bool} {N : Nat} {c d : P} {cs ds : List P} (h : eqP N c d = some (decide (c = d))) (hs : ∀ x ∈ cs, ∀ y ∈ ds, eqP N x y = some (decide (x = y))) :
    cmpP gt (N + 1) (.lst (c :: cs)) (.lst (d :: ds)) = if c = d then cmpP gt (N + 1) (.lst cs) (.lst ds) else cmpP gt N c d := by
  have e0 := zip_some hs
  have e1 : (((c :: cs).zip (d :: ds)).mapM fun p => eqP N p.1 p.2) = some (decide (c = d) :: (cs.zip ds).map fun p => decide (p.1 = p.2)) := by
    rw [List.zip_cons_cons, List.mapM_cons]
    show ((eqP N c d).bind fun r => ((cs.zip ds).mapM fun p => eqP N p.1 p.2).bind fun rs => some (r :: rs)) = _
    rw [h, e0]
    rfl
  simp only [cmpP, lstD, Option.bind_some, e0, e1]
  by_cases hc : c = d
  · simp only [hc, decide_true, if_true]
    rw [List.findIdx?_cons]
    have : (true == false) = false := rfl
    rw [this]
    cases hf : ((cs.zip ds).map fun p => decide (p.1 = p.2)).findIdx? fun b => b == false with
    | none => cases gt <;> simp [sizeCmp]
    | some j => simp
  · simp only [hc, decide_false, if_false]
    rw [List.findIdx?_cons]
    simp
noncomputable def ltB (gt : Bool) (x y : List Nat) : Bool := match gt with
  | false => decide (x < y)
  | true => decide (y < x)
theorem ltB_step {gt : Bool} {κ : P → List Nat} {c d : P} (h1 : Pre κ c d) (h2 : Pre κ d c) (S T : List Nat) : ltB gt (κ c ++ S) (κ d ++ T) = if c = d then ltB gt S T else ltB gt (κ c) (κ d) := by
  by_cases e : c = d
  · subst e
    rw [if_pos rfl]
    cases gt
    · exact decide_eq_decide.mpr ((h1 S T).1.trans ⟨fun h => h.elim (fun h => absurd h (List.lt_irrefl _)) (·.2), fun h => .inr ⟨rfl, h⟩⟩)
    · exact decide_eq_decide.mpr ((h1 T S).1.trans ⟨fun h => h.elim (fun h => absurd h (List.lt_irrefl _)) (·.2), fun h => .inr ⟨rfl, h⟩⟩)
  · rw [if_neg e]
    cases gt
    · exact decide_eq_decide.mpr ((h1 S T).1.trans ⟨fun h => h.elim id fun h => absurd h.1 e, .inl⟩)
    · exact decide_eq_decide.mpr ((h2 T S).1.trans ⟨fun h => h.elim id fun h => absurd h.1.symm e, .inl⟩)
theorem cmpFs {gt : Bool} {N : Nat} {κ : P → List Nat} : ∀ {cs ds : List P}, (∀ x ∈ cs, ∀ y ∈ ds, eqP N x y = some (decide (x = y)) ∧ cmpP gt N x y = some (ltB gt (κ x) (κ y)) ∧ Pre κ x y ∧ Pre κ y x) → (∀ d ∈ cs ++ ds, ∃ r l, κ d = (r + 2) :: l) →
    cmpP gt (N + 1) (.lst cs) (.lst ds) = some (ltB gt (cs.flatMap κ ++ [1]) (ds.flatMap κ ++ [1]))
  | [], [], _, _ => by cases gt <;> simp [cmpP, lstD, Option.bind_some, sizeCmp, ltB]
  | [], d :: ds, _, hs => by
    obtain ⟨r, l, e⟩ := hs d (by simp)
    cases gt <;> simp [cmpP, lstD, Option.bind_some, sizeCmp, ltB, e, List.cons_lt_cons_iff]
  | c :: cs, [], _, hs => by
    obtain ⟨r, l, e⟩ := hs c (by simp)
    cases gt <;> simp [cmpP, lstD, Option.bind_some, sizeCmp, ltB, e, List.cons_lt_cons_iff]
  | c :: cs, d :: ds, h, hs => by
    obtain ⟨h1, h2, h3, h4⟩ := h c (by simp) d (by simp)
    have ih := cmpFs (cs := cs) (ds := ds) (fun x hx y hy => h x (by simp [hx]) y (by simp [hy])) (fun x hx => hs x (by simp at hx ⊢; rcases hx with hx | hx <;> simp [hx]))
    rw [cmpL h1 fun x hx y hy => (h x (by simp [hx]) y (by simp [hy])).1, List.flatMap_cons, List.flatMap_cons, List.append_assoc, List.append_assoc, ltB_step h3 h4]
    by_cases e : c = d
    · rw [if_pos e, if_pos e, ih]
    · rw [if_neg e, if_neg e, h2]
/- the comparison of two forms is that of their keys -/
theorem cmpF {gt : Bool} : ∀ {n N : Nat} {a b : P}, Form n a → Form n b → 2 * n ≤ N → cmpP gt N a b = some (ltB gt (key n a) (key n b))
  | n + 1, N, a, b, ⟨k, cs, hk, ea, ha⟩, ⟨k', ds, hk', eb, hb⟩, hN => by
    obtain ⟨M, rfl⟩ : ∃ M, N = M + 2 := ⟨N - 2, by omega⟩
    subst ea eb
    have hE : eqP (M + 1) (.lst cs) (.lst ds) = some (decide (P.lst cs = P.lst ds)) := eqL fun c hc d hd => eqF (ha c hc) (hb d hd) (by omega)
    have hC : cmpP gt (M + 1) (.lst cs) (.lst ds) = some (ltB gt (cs.flatMap (key n) ++ [1]) (ds.flatMap (key n) ++ [1])) :=
      cmpFs (fun c hc d hd => ⟨eqF (ha c hc) (hb d hd) (by omega), cmpF (ha c hc) (hb d hd) (by omega), key_pre (ha c hc) (hb d hd), key_pre (hb d hd) (ha c hc)⟩)
        fun x hx => key_head (by rcases List.mem_append.mp hx with h | h; exact ha x h; exact hb x h)
    rw [key_frm hk, key_frm hk']
    show cmpP gt (M + 1 + 1) (.lst [.str (MS k), .lst cs]) (.lst [.str (MS k'), .lst ds]) = _
    rw [cmpL (eqS M _ _) fun x hx y hy => by
      simp only [List.mem_cons, List.not_mem_nil, or_false] at hx hy
      subst hx hy
      exact hE]
    have hz : ∀ x ∈ ([] : List P), ∀ y ∈ ([] : List P), eqP (M + 1) x y = some (decide (x = y)) := fun x hx => nomatch hx
    by_cases e : k = k'
    · subst e
      rw [if_pos rfl, cmpL hE hz]
      have hs : ltB gt ((rkk k + 2) :: (cs.flatMap (key n) ++ [1])) ((rkk k + 2) :: (ds.flatMap (key n) ++ [1])) = ltB gt (cs.flatMap (key n) ++ [1]) (ds.flatMap (key n) ++ [1]) := by
        cases gt <;> simp only [ltB, List.cons_lt_cons_iff, Nat.lt_irrefl, false_or, true_and]
      rw [hs]
      by_cases e2 : cs = ds
      · subst e2
        rw [if_pos rfl]
        cases gt <;> simp [cmpP, lstD, Option.bind_some, sizeCmp, ltB]
      · rw [if_neg (by simpa using e2), hC]
    · have e1 : P.str (MS k) ≠ P.str (MS k') := fun q => e (MS_inj hk hk' (by injection q))
      rw [if_neg e1]
      have hr : rkk k ≠ rkk k' := fun q => e (rkk_inj hk hk' q)
      cases gt
      · show some (decide ((MS k).cps.toList < (MS k').cps.toList)) = _
        rw [MS_lt hk hk']
        simp [ltB, List.cons_lt_cons_iff, hr]
      · show some (decide ((MS k').cps.toList < (MS k).cps.toList)) = _
        rw [MS_lt hk' hk]
        simp [ltB, List.cons_lt_cons_iff, Ne.symm hr]
end Mine
end
section
open PySem.W
namespace Mine
open Classical

/- data that are ordered by keys -/
structure Keyed (κ : P → List Nat) (S : P → Prop) : Prop where
  eq : ∀ a b, S a → S b → eqP deep a b = some (decide (a = b))
  cmp : ∀ gt a b, S a → S b → cmpP gt deep a b = some (ltB gt (κ a) (κ b))
  inj : ∀ a b, S a → S b → κ a = κ b → a = b
theorem keyed_form {n : Nat} (hn : 2 * n ≤ 40) : Keyed (key n) (Form n) := ⟨fun a b ha hb => eqF ha hb hn, fun gt a b ha hb => cmpF ha hb hn, fun a b ha hb => key_inj ha hb⟩
noncomputable def Srt (κ : P → List Nat) (l : List P) : Prop := l.Pairwise fun a b => ¬ κ b < κ a
theorem not_lt_trans {x y z : List Nat} (h1 : ¬ y < x) (h2 : ¬ z < y) : ¬ z < x := fun h => by
  have a : x ≤ y := List.not_lt.mp h1
  have b : y ≤ z := List.not_lt.mp h2
  exact (List.not_lt.mpr (List.le_trans a b)) h
theorem eq_of_not {x y : List Nat} (h1 : ¬ x < y) (h2 : ¬ y < x) : x = y := List.le_antisymm (List.not_lt.mp h2) (List.not_lt.mp h1)
/- sorted alike, made of the same: the same -/
theorem srt_uniq {κ : P → List Nat} {S : P → Prop} (K : Keyed κ S) : ∀ {l r : List P}, (∀ x ∈ l, S x) → l.Perm r → Srt κ l → Srt κ r → l = r
  | [], r, _, hp, _, _ => by rw [List.Perm.nil_eq hp]
  | a :: l, r, hs, hp, h1, h2 => by
    cases r with
    | nil => exact absurd hp.length_eq (by simp)
    | cons b r =>
      have hSr : ∀ x ∈ b :: r, S x := fun x hx => hs x (hp.mem_iff.mpr hx)
      have hab : a = b := by
        have ha : a ∈ b :: r := hp.mem_iff.mp List.mem_cons_self
        have hb : b ∈ a :: l := hp.mem_iff.mpr List.mem_cons_self
        rcases List.mem_cons.mp ha with e | ha
        · exact e
        rcases List.mem_cons.mp hb with e | hb
        · exact e.symm
        exact K.inj a b (hs a List.mem_cons_self) (hSr b List.mem_cons_self) (eq_of_not ((List.pairwise_cons.mp h2).1 a ha) ((List.pairwise_cons.mp h1).1 b hb))
      subst hab
      rw [srt_uniq K (fun x hx => hs x (List.mem_cons_of_mem _ hx)) (List.Perm.cons_inv hp) (List.pairwise_cons.mp h1).2 (List.pairwise_cons.mp h2).2]
/- the sorted list -/
noncomputable def srt (κ : P → List Nat) (l : List P) : List P := l.mergeSort fun a b => decide (¬ κ b < κ a)
theorem srt_perm (κ : P → List Nat) (l : List P) : (srt κ l).Perm l := List.mergeSort_perm l _
theorem srt_srt (κ : P → List Nat) (l : List P) : Srt κ (srt κ l) := by
  have := List.pairwise_mergeSort (le := fun a b => decide (¬ κ b < κ a)) (fun a b c h1 h2 => by
    simp only [decide_eq_true_eq] at *
    exact not_lt_trans h1 h2) (fun a b => by
    simp only [Bool.or_eq_true, decide_eq_true_eq]
    by_cases h : κ b < κ a
    · exact .inr (List.lt_asymm h)
    · exact .inl h) l
  exact this.imp fun h => by simpa using h
theorem srt_of {κ : P → List Nat} {S : P → Prop} (K : Keyed κ S) {l r : List P} (hs : ∀ x ∈ l, S x) (hp : r.Perm l) (h : Srt κ r) : r = srt κ l :=
  srt_uniq K (fun x hx => hs x (hp.mem_iff.mp hx)) (hp.trans (srt_perm κ l).symm) h (srt_srt κ l)
theorem srt_congr {κ : P → List Nat} {S : P → Prop} (K : Keyed κ S) {l r : List P} (hs : ∀ x ∈ l, S x) (hp : l.Perm r) : srt κ l = srt κ r :=
  srt_uniq K (fun x hx => hs x ((srt_perm κ l).mem_iff.mp hx)) ((srt_perm κ l).trans (hp.trans (srt_perm κ r).symm)) (srt_srt κ l) (srt_srt κ r)
end Mine
end
section
open PySem.W
namespace Mine

noncomputable def rkCmp (r : List Nat) (i j : Nat) : Option Bool := match r[i]?, r[j]? with
  | some a, some b => some (Nat.blt a b)
  | _, _ => none
noncomputable def ascB : List Nat → Bool
  | [] => true
  | a :: l => l.all (Nat.ble a) && ascB l
noncomputable def okR (n : Nat) (r : List Nat) : Bool := match kasRun (rkCmp r) (kas_sort n) with
  | some p => p.toList.isPerm (List.range n) && ascB (p.toList.map fun i => r.getD i 0)
  | none => false
/- each letter says how many are below it -/
noncomputable def isRk (r : List Nat) : Bool := r.all fun a => (r.countP fun b => Nat.blt b a) == a
noncomputable def okRk (n : Nat) (r : List Nat) : Bool := !isRk r || okR n r
/- all lists of k more letters below n (apart, if asked) -/
noncomputable def allV (dist : Bool) (n : Nat) (ok : List Nat → Bool) : Nat → List Nat → Bool
  | 0, pre => ok pre
  | k + 1, pre => (List.range n).all fun x => (dist && pre.contains x) || allV dist n ok k (x :: pre)
theorem chk2 : allV false 2 (okRk 2) 2 [] = true := by decide +kernel
theorem chk3 : allV false 3 (okRk 3) 3 [] = true := by decide +kernel
theorem chk4 : allV false 4 (okRk 4) 4 [] = true := by decide +kernel
theorem chk5 : allV false 5 (okRk 5) 5 [] = true := by decide +kernel
theorem chk6 : allV true 6 (okRk 6) 6 [] = true := by decide +kernel
theorem allV_at {dist : Bool} {n : Nat} {ok : List Nat → Bool} : ∀ {k : Nat} {pre r : List Nat}, allV dist n ok k pre = true → r.length = k → (∀ x ∈ r, x < n) → (dist = true → (r ++ pre).Nodup) → ok (r.reverse ++ pre) = true
  | 0, pre, r, h, hl, _, _ => by rw [List.length_eq_zero_iff.mp hl]; exact h
  | k + 1, pre, [], h, hl, _, _ => by cases hl
  | k + 1, pre, x :: r, h, hl, hx, hd => by
    have h1 := List.all_eq_true.mp h x (List.mem_range.mpr (hx x List.mem_cons_self))
    have h2 : (dist && pre.contains x) = false := by
      cases hdd : dist with
      | false => rfl
      | true =>
        have := hd hdd
        simp only [List.cons_append, List.nodup_cons, List.mem_append, not_or] at this
        simpa using this.1.2
    rw [h2, Bool.false_or] at h1
    have := allV_at (r := r) h1 (by simpa using hl) (fun y hy => hx y (List.mem_cons_of_mem _ hy)) fun e => by
      have := hd e
      rw [List.cons_append] at this
      exact (List.perm_middle.symm.nodup_iff).mp this
    simpa using this
/- runs alike -/
theorem kasRun_le {α : Type} {c d : Nat → Nat → Option Bool} (h : ∀ i j b, c i j = some b → d i j = some b) : ∀ (t : KasT α) (a : α), kasRun c t = some a → kasRun d t = some a
  | .ret a, b, e => e
  | .ask i j k, b, e => by
    simp only [kasRun] at e ⊢
    cases hc : c i j with
    | none => rw [hc] at e; cases e
    | some v =>
      rw [hc] at e
      rw [h i j v hc]
      cases v with
      | true => exact kasRun_le h _ _ e
      | false => exact kasRun_le h _ _ e
end Mine
end
section
open PySem.W
namespace Mine
open Classical

theorem ascB_at : ∀ {l : List Nat}, ascB l = true → l.Pairwise (· ≤ ·)
  | [], _ => .nil
  | a :: l, h => .cons (fun b hb => Nat.le_of_ble_eq_true (List.all_eq_true.mp (and1 h) b hb)) (ascB_at (and2 h))
theorem countP_lt {α : Type} {p q : α → Bool} : ∀ {l : List α} {a : α}, (∀ x ∈ l, p x = true → q x = true) → a ∈ l → q a = true → p a = false → l.countP p < l.countP q
  | x :: l, a, h, ha, hq, hp => by
    rw [List.countP_cons, List.countP_cons]
    have hle : l.countP p ≤ l.countP q := List.countP_mono_left fun y hy => h y (List.mem_cons_of_mem _ hy)
    rcases List.mem_cons.mp ha with rfl | ha
    · rw [hq, hp]; simp; omega
    · have := countP_lt (fun y hy => h y (List.mem_cons_of_mem _ hy)) ha hq hp
      have h0 := h x List.mem_cons_self
      cases hx : p x with
      | false => simp; cases q x <;> simp <;> omega
      | true => rw [h0 hx]; simp; omega
section
variable {κ : P → List Nat}
noncomputable def rank (κ : P → List Nat) (l : List P) (x : P) : Nat := l.countP fun y => decide (κ y < κ x)
theorem rank_lt {l : List P} {x y : P} (hx : x ∈ l) (hy : y ∈ l) : rank κ l y < rank κ l x ↔ κ y < κ x := by
  constructor
  · intro h
    refine Classical.byContradiction fun hn => ?_
    have : rank κ l x ≤ rank κ l y := List.countP_mono_left fun z _ hz => by
      simp only [decide_eq_true_eq] at hz ⊢
      exact Classical.byContradiction fun hq => not_lt_trans hn hq hz
    omega
  · intro h
    exact countP_lt (a := y) (fun z _ hz => by simp only [decide_eq_true_eq] at hz ⊢; exact List.lt_trans hz h) hy (by simpa using h) (by simp [List.lt_irrefl])
theorem isRk_rank (l : List P) : isRk (l.map (rank κ l)) = true := by
  unfold isRk
  rw [List.all_eq_true]
  intro a ha
  obtain ⟨x, hx, rfl⟩ := List.mem_map.mp ha
  rw [List.countP_map, beq_iff_eq]
  show _ = l.countP _
  refine List.countP_congr fun y hy => ?_
  simp only [Function.comp_apply, Nat.blt_eq, decide_eq_true_eq]
  exact rank_lt hx hy
theorem rank_bd {l : List P} : ∀ a ∈ l.map (rank κ l), a < l.length := by
  intro a ha
  obtain ⟨x, hx, rfl⟩ := List.mem_map.mp ha
  have : l.countP (fun y => decide (κ y < κ x)) < l.countP fun _ => true := countP_lt (a := x) (fun _ _ _ => rfl) hx rfl (by simp [List.lt_irrefl])
  unfold rank
  simpa using this
theorem sortP_srt {S : P → Prop} (K : Keyed κ S) {l : List P} (hs : ∀ x ∈ l, S x) {T : String} (hT : ∀ x ∈ l, tyOf x = some T) (hn : l.length ≤ 5 ∨ (l.length = 6 ∧ l.Nodup)) : sortP l = some (srt κ l) := by
  unfold sortP
  by_cases h2 : l.length < 2
  · rw [if_pos h2]
    congr 1
    refine srt_of K hs (List.Perm.refl _) ?_
    match l, h2 with
    | [], _ => exact .nil
    | [a], _ => exact List.pairwise_singleton _ _
  · rw [if_neg h2, if_pos (by omega)]
    have hh : (l.head?).bind tyOf = some T := by
      cases l with
      | nil => simp at h2
      | cons a l => exact hT a List.mem_cons_self
    rw [hh]
    have hall : l.all (fun d => tyOf d == some T) = true := List.all_eq_true.mpr fun x hx => by rw [hT x hx]; simp
    simp only [hall, if_true]
    have hok : okR l.length (l.map (rank κ l)) = true := by
      have hl : (l.map (rank κ l)).length = l.length := by simp
      have fin : okRk l.length (l.map (rank κ l)) = true → okR l.length (l.map (rank κ l)) = true := fun h => by
        unfold okRk at h
        rw [isRk_rank] at h
        simpa using h
      have go : ∀ (n : Nat) (dist : Bool), allV dist n (okRk n) n [] = true → l.length = n → (dist = true → l.Nodup) → okRk n (l.map (rank κ l)) = true := fun n dist h e hd => by
        have := allV_at (r := (l.map (rank κ l)).reverse) h (by simp [e]) (fun x hx => by have := rank_bd x (List.mem_reverse.mp hx); omega) fun hdt => by
          rw [List.append_nil]
          refine (List.reverse_perm _).nodup_iff.mpr ?_
          refine List.Pairwise.map _ (R := fun a b => a ∈ l ∧ b ∈ l ∧ a ≠ b) (fun a b h e => h.2.2 ?_) ?_
          · exact K.inj a b (hs a h.1) (hs b h.2.1) (eq_of_not (fun q => by have := (rank_lt (κ := κ) h.2.1 h.1).mpr q; omega) (fun q => by have := (rank_lt (κ := κ) h.1 h.2.1).mpr q; omega))
          · exact List.Pairwise.imp_of_mem (fun ha hb hne => ⟨ha, hb, hne⟩) (hd hdt)
        simpa using this
      refine fin ?_
      rcases hn with hn | ⟨hn, hnd⟩
      · have : l.length = 2 ∨ l.length = 3 ∨ l.length = 4 ∨ l.length = 5 := by omega
        rcases this with e | e | e | e <;> rw [e]
        · exact go 2 false chk2 e (fun h => nomatch h)
        · exact go 3 false chk3 e (fun h => nomatch h)
        · exact go 4 false chk4 e (fun h => nomatch h)
        · exact go 5 false chk5 e (fun h => nomatch h)
      · rw [hn]; exact go 6 true chk6 hn fun _ => hnd
    unfold okR at hok
    split at hok
    · rename_i p hp
      have hp2 := kasRun_le (d := fun i j => cmpP false deep (l.getD i .none) (l.getD j .none)) (fun i j b h => by
        unfold rkCmp at h
        rw [List.getElem?_map, List.getElem?_map] at h
        cases hi : l[i]? with
        | none => rw [hi] at h; cases h
        | some x => cases hj : l[j]? with
          | none => rw [hi, hj] at h; exact noK h
          | some y =>
            rw [hi, hj] at h
            obtain rfl := soK h
            have hx := List.mem_of_getElem? hi
            have hy := List.mem_of_getElem? hj
            show cmpP false deep (l.getD i .none) (l.getD j .none) = _
            rw [List.getD_eq_getElem?_getD, List.getD_eq_getElem?_getD, hi, hj]
            show cmpP false deep x y = _
            rw [K.cmp false x y (hs x hx) (hs y hy)]
            congr 1
            have := rank_lt (κ := κ) hy hx
            rw [Bool.eq_iff_iff]
            simp only [ltB, decide_eq_true_eq, Nat.blt_eq]
            exact this.symm) _ _ hp
      rw [hp2]
      show some _ = some _
      congr 1
      have hperm : p.toList.Perm (List.range l.length) := List.isPerm_iff.mp (and1 hok)
      refine srt_of K hs ?_ ?_
      · have h1 := hperm.map fun i => l.getD i P.none
        have h3 : (List.range l.length).map (fun i => l.getD i P.none) = l := by
          refine List.ext_getElem (by simp) fun i h4 h5 => ?_
          simp [List.getD_eq_getElem?_getD, h5]
        rw [h3] at h1
        exact h1
      · have h1 := ascB_at (and2 hok)
        rw [List.pairwise_map] at h1
        unfold Srt
        rw [List.pairwise_map]
        refine List.Pairwise.imp_of_mem (fun {i j} hi hj h => ?_) h1
        have hi' : i < l.length := List.mem_range.mp (hperm.mem_iff.mp hi)
        have hj' : j < l.length := List.mem_range.mp (hperm.mem_iff.mp hj)
        simp only [List.getD_eq_getElem?_getD, List.getElem?_map, List.getElem?_eq_getElem hi', List.getElem?_eq_getElem hj', Option.map_some, Option.getD_some] at h ⊢
        intro q
        have := (rank_lt (κ := κ) (List.getElem_mem hi') (List.getElem_mem hj')).mpr q
        omega
    · cases hok
end
end Mine
end
section
open PySem.W
namespace Mine
open Classical

/- steps of the evaluation -/
section
variable {mem mem' : Mem} {sl sl' : Slots} {r : Option (Out × Mem × Slots)}
theorem ev_set {i : Nat} {f : XF} {g : SF} {v : V} (h : f mem sl = some v) (k : g mem (sl.set i (some v)) = r) : bCons (sSet i f) g mem sl = r := by
  show ((f mem sl).map _).bind _ = r
  rw [h]; exact k
theorem ev_new {i : Nat} {f : XN} {g : SF} {o : MO} (h : f mem sl = some o) (k : g (mem ++ [o]) (sl.set i (some (.c mem.length))) = r) : bCons (sNew i f) g mem sl = r := by
  show ((f mem sl).map _).bind _ = r
  rw [h]; exact k
theorem ev_ret {f : XF} {g : SF} {v : V} (h : f mem sl = some v) : bCons (sRet f) g mem sl = some (.ret v, mem, sl) := by
  show ((f mem sl).map _).bind _ = _
  rw [h]; rfl
theorem ev_next {f g : SF} (h : f mem sl = some (.next, mem', sl')) (k : g mem' sl' = r) : bCons f g mem sl = r := by
  show (f mem sl).bind _ = r
  rw [h]; exact k
theorem ev_stop {f g : SF} {v : V} (h : f mem sl = some (.ret v, mem', sl')) : bCons f g mem sl = some (.ret v, mem', sl') := by
  show (f mem sl).bind _ = _
  rw [h]; rfl
theorem ev_nil {f : SF} (h : f mem sl = r) : bCons f bNil mem sl = r := by
  show (f mem sl).bind _ = r
  rw [h]
  match r with
  | none => rfl
  | some (.next, _, _) => rfl
  | some (.brk, _, _) => rfl
  | some (.cont, _, _) => rfl
  | some (.ret _, _, _) => rfl
theorem ev_if {t : TF} {f g : SF} {c : Bool} (h : t mem sl = some c) (k : (match c with | true => f mem sl | false => g mem sl) = r) : sIf t f g mem sl = r := by
  show (t mem sl).bind _ = r
  rw [h]
  cases c <;> exact k
theorem ev_for {it : XG} {b e : SF} {gs : List (Slots → Option Slots)} (h : it mem sl = some gs) (k : forGo b e gs mem sl = r) : sFor it b e mem sl = r := by
  show (it mem sl).bind _ = r
  rw [h]; exact k
/- a loop by what holds between its turns -/
theorem for_inv {b : SF} {gs : List (Slots → Option Slots)} (I : Nat → Mem → Slots → Prop) (step : ∀ i g mem sl, gs[i]? = some g → I i mem sl → ∃ sl1 mem' sl', g sl = some sl1 ∧ b mem sl1 = some (.next, mem', sl') ∧ I (i + 1) mem' sl') :
    ∀ (k i : Nat) (mem : Mem) (sl : Slots), k = gs.length - i → i ≤ gs.length → I i mem sl → ∃ mem' sl', I gs.length mem' sl' ∧ forGo b bNil (gs.drop i) mem sl = some (.next, mem', sl')
  | 0, i, mem, sl, hk, hi, h => by
    have : i = gs.length := by omega
    subst this
    exact ⟨mem, sl, h, by rw [List.drop_length]; rfl⟩
  | k + 1, i, mem, sl, hk, hi, h => by
    have hlt : i < gs.length := by omega
    obtain ⟨sl1, mem', sl', h1, h2, h3⟩ := step i gs[i] mem sl (List.getElem?_eq_getElem hlt) h
    obtain ⟨m2, s2, h4, h5⟩ := for_inv I step k (i + 1) mem' sl' (by omega) hlt h3
    refine ⟨m2, s2, h4, ?_⟩
    rw [List.drop_eq_getElem_cons hlt]
    show ((gs[i] sl).bind _) = _
    rw [h1]
    show (b mem sl1).bind _ = _
    rw [h2]
    exact h5
theorem for_inv0 {b : SF} {gs : List (Slots → Option Slots)} (I : Nat → Mem → Slots → Prop) (step : ∀ i g mem sl, gs[i]? = some g → I i mem sl → ∃ sl1 mem' sl', g sl = some sl1 ∧ b mem sl1 = some (.next, mem', sl') ∧ I (i + 1) mem' sl')
    (h : I 0 mem sl) : ∃ mem' sl', I gs.length mem' sl' ∧ forGo b bNil gs mem sl = some (.next, mem', sl') := by
  have := for_inv I step gs.length 0 mem sl (by simp) (Nat.zero_le _) h
  simpa using this
theorem wh_step {t : TF} {b : SF} {k : Nat} (h : t mem sl = some true) (h2 : b mem sl = some (.next, mem', sl')) : whGo t b (k + 1) mem sl = whGo t b k mem' sl' := by
  simp only [whGo, h, h2, Option.bind_some, if_true]
theorem wh_end {t : TF} {b : SF} {k : Nat} (h : t mem sl = some false) : whGo t b (k + 1) mem sl = some (.next, mem, sl) := by
  show (t mem sl).bind _ = _
  rw [h]
  rfl
/- a comprehension: the items that pass, each turned -/
theorem comp_map {base : Slots} {t : TF} {f : XF} {p : V → Bool} {g : V → P} : ∀ {vs : List V}, (∀ v ∈ vs, t mem (base ++ [some v]) = some (p v) ∧ (p v = true → f mem (base ++ [some v]) = some (.p (g v)))) → compGo mem base t f vs = some ((vs.filter p).map g)
  | [], _ => rfl
  | v :: vs, h => by
    obtain ⟨h1, h2⟩ := h v List.mem_cons_self
    have ih := comp_map (vs := vs) fun x hx => h x (List.mem_cons_of_mem _ hx)
    show (t mem (base ++ [some v])).bind _ = _
    rw [h1]
    cases hp : p v with
    | false =>
      rw [List.filter_cons_of_neg (by simp [hp])]
      exact ih
    | true =>
      rw [List.filter_cons_of_pos hp]
      simp only [Option.bind_some, if_true, h2 hp, ih, Option.map_some, List.map_cons]
end
/- ranges -/
noncomputable def upto (a : Int) (n : Nat) : List V := (List.range n).map fun (i : Nat) => V.p (P.int (a + i))
theorem small_of {a : Int} (h1 : -(2 ^ 60) < a) (h2 : a < 2 ^ 60) : smallI a = true := by
  unfold smallI; rw [decide_eq_true h1, decide_eq_true h2]; rfl
theorem rsize {a b : Int} (h : a ≤ b) : (Builtin.Range.rangeSize a b 1).toNat = (b - a).toNat := by
  unfold Builtin.Range.rangeSize
  rw [if_pos (by omega)]
  by_cases hab : a < b
  · rw [if_pos hab, Int.ediv_one]; omega
  · rw [if_neg hab]; omega
theorem range1 {f : XFs} {mem : Mem} {sl : Slots} {b : Int} (h : f mem sl = some [.p (.int b)]) (h0 : 0 ≤ b) (h1 : b < 2 ^ 60) : vRange f mem sl = some (upto 0 b.toNat) := by
  unfold vRange
  rw [h]
  show (if smallI b = true then some (rangeL 0 1 (Builtin.Range.rangeSize 0 b 1).toNat) else none) = _
  rw [if_pos (small_of (by omega) h1), rsize h0]
  simp [rangeL, upto]
theorem range2 {f : XFs} {mem : Mem} {sl : Slots} {a b : Int} (h : f mem sl = some [.p (.int a), .p (.int b)]) (h0 : 0 ≤ a) (hab : a ≤ b) (h1 : b < 2 ^ 60) : vRange f mem sl = some (upto a (b - a).toNat) := by
  unfold vRange
  rw [h]
  show (if (smallI a && smallI b) = true then some (rangeL a 1 (Builtin.Range.rangeSize a b 1).toNat) else none) = _
  rw [small_of (a := a) (by omega) (by omega), small_of (a := b) (by omega) h1, if_pos (show (true && true) = true from rfl), rsize hab]
  simp [rangeL, upto]
end Mine
end
section
open PySem.W
namespace Mine
open Classical

theorem pick_run {β : Type} (l : List β) (a k : Nat) : ((List.range k).map (a + ·)).filterMap (l[·]?) = (l.drop a).take k := by
  induction k generalizing a with
  | zero => simp
  | succ k ih =>
    rw [List.range_succ_eq_map, List.map_cons, List.map_map]
    have h1 : (fun x => a + x) ∘ Nat.succ = fun x => (a + 1) + x := by funext x; simp only [Function.comp_apply]; omega
    rw [h1, List.filterMap_cons, ih]
    cases h : l[a]? with
    | none =>
      have : l.length ≤ a := List.getElem?_eq_none_iff.mp h
      simp only [Nat.add_zero, h]
      rw [List.drop_eq_nil_of_le this, List.drop_eq_nil_of_le (by omega)]
      simp
    | some x =>
      obtain ⟨h2, h3⟩ := List.getElem?_eq_some_iff.mp h
      simp only [Nat.add_zero, h]
      rw [List.drop_eq_getElem_cons h2, List.take_succ_cons, h3]
theorem clip_nat (n j : Nat) : clipAt n (j : Int) = min j n := by
  unfold clipAt
  split <;> omega
theorem sliceL_take {β : Type} (l : List β) (j : Nat) (hj : j ≤ l.length) : sliceL l none (some (j : Int)) none = l.take j := by
  unfold sliceL
  rw [sliceBounds_plain]
  simp only [Option.elim_none, Option.elim_some, clip_nat]
  rw [sliceRange_one, pick_run, List.drop_zero]
  congr 1; omega
theorem sliceL_drop {β : Type} (l : List β) (j : Nat) (hj : j ≤ l.length) : sliceL l (some (j : Int)) none none = l.drop j := by
  unfold sliceL
  rw [sliceBounds_plain]
  simp only [Option.elim_none, Option.elim_some, clip_nat]
  rw [sliceRange_one, pick_run, Nat.min_eq_left hj]
  exact List.take_of_length_le (by simp)
theorem sliceL_rev {β : Type} (l : List β) : sliceL l none none (some (-1)) = l.reverse := by
  unfold sliceL
  rw [krv_bounds, krv_sliceRange]
  induction l with
  | nil => rfl
  | cons a l ih =>
    have h1 : (List.range (a :: l).length).map (fun k => (a :: l).length - 1 - k) = ((List.range l.length).map fun k => (l.length - 1 - k) + 1) ++ [0] := by
      rw [List.length_cons, List.range_succ, List.map_append]
      congr 1
      · refine List.map_congr_left fun k hk => ?_
        have := List.mem_range.mp hk
        omega
      · simp
    rw [h1, List.filterMap_append, List.reverse_cons, ← ih, List.filterMap_map, List.filterMap_map]
    simp [Function.comp_def]

/- functions called -/
theorem fn_eval {k tot : Nat} {F : SF} {m mem' : Mem} {vs : List V} {ds : List P} {sl' : Slots} {v : V} {d : P} (ha : allP vs = some ds) (hl : vs.length = k) (h : F [] (vs.map some ++ List.replicate (tot - k) none) = some (.ret v, mem', sl'))
    (hv : frzV 0 mem' v = some (.p d)) : fnSem k tot F m vs = some (.p d) := by
  simp only [fnSem, efSem, ha, Option.bind_some, hl, if_true, h, List.length_nil, hv, Option.map_some]

/- three_way_cmp -/
theorem twc_eval {κ : P → List Nat} {S : P → Prop} (K : Keyed κ S) {m : Mem} {a b : P} (ha : S a) (hb : S b) : S_twc m [.p a, .p b] = some (.p (.int (b2i (decide (κ b < κ a)) - b2i (decide (κ a < κ b))))) := by
  refine fn_eval (ds := [a, b]) rfl rfl (mem' := []) (sl' := [some (.p a), some (.p b)]) (v := .p (.int (b2i (decide (κ b < κ a)) - b2i (decide (κ a < κ b))))) (ev_ret ?_) rfl
  have h1 := K.cmp true a b ha hb
  have h2 := K.cmp false a b ha hb
  simp only [ltB] at h1 h2
  have e1 : xCmp .Gt (xV 0) (xV 1) [] [some (.p a), some (.p b)] = some (.p (.bool (decide (κ b < κ a)))) := by
    show ((cmpP true deep a b)).map _ = _
    rw [h1]; rfl
  have e2 : xCmp .Lt (xV 0) (xV 1) [] [some (.p a), some (.p b)] = some (.p (.bool (decide (κ a < κ b)))) := by
    show ((cmpP false deep a b)).map _ = _
    rw [h2]; rfl
  show (match xBin .Sub (xCmp .Gt (xV 0) (xV 1)) (xCmp .Lt (xV 0) (xV 1)) [] [some (.p a), some (.p b)] with | some v => some v | none => _) = _
  unfold xBin
  rw [e1, e2]
  rfl
end Mine
end
section
open PySem.W
namespace Mine
open Classical

theorem seqIx {j n : Nat} (h : j < n) : seqIndex? (j : Int) n = some j := by
  unfold seqIndex?
  have : ¬ ((j : Int) < 0) := by omega
  simp only [this, if_false]
  rw [if_pos (by simp only [Bool.and_eq_true, decide_eq_true_eq]; omega)]
  simp
theorem sub_lst {mem : Mem} {l : List P} {j : Nat} {d : P} (h : l[j]? = some d) (hb : j < 2 ^ 60) : subV mem (.p (.lst l)) (.p (.int j)) = some (.p d) := by
  have hj : j < l.length := (List.getElem?_eq_some_iff.mp h).1
  have hs : smallI (j : Int) = true := small_of (by omega) (by omega)
  simp only [subV, subI, subQ, hs, if_true, derP, Option.bind_some, seqIx hj, h, Option.map_some]
theorem b2i_sub_pos {p q : Bool} (h : ¬ (p = true ∧ q = true)) : decide ((0 : Int) < b2i p - b2i q) = p := by
  cases p <;> cases q <;> simp_all [b2i]
theorem cmp_lt_int (a b : Int) : cmpP true deep (.int a) (.int b) = some (decide (b < a)) := rfl
theorem len_ok {n : Nat} (h : n ≤ 100) : lenOk n = true := by simp only [lenOk, decide_eq_true_eq]; omega
theorem not_both {x y : List Nat} : ¬ (decide (x < y) = true ∧ decide (y < x) = true) := fun h => by
  simp only [decide_eq_true_eq] at h
  exact List.lt_asymm h.1 h.2
/- the slots of _law_sorted -/
noncomputable def slS (l row : List P) (x : P) (p : Nat) : Slots := [some (.p (.lst l)), some (.p (.lst row)), some (.p x), some (.p (.int p))]
noncomputable def tS : TF := tAnd (tCmp .Gt (xV 3) (xK (.int 0))) (tCmp .Gt (xCall S_twc (xCons (xSub (xV 1) (xBin2 .Sub (xV 3) (xK (.int 1)))) (xCons (xV 2) xNil))) (xK (.int 0)))
noncomputable def bS : SF := bCons (sSet 3 (xBin2 .Sub (xV 3) (xK (.int 1)))) bNil
theorem tS_zero (l row : List P) (x : P) : tS [] (slS l row x 0) = some false := rfl
theorem tS_succ {κ : P → List Nat} {S : P → Prop} (K : Keyed κ S) {l row : List P} {x y : P} {p : Nat} (hx : S x) (hy : S y) (h : row[p]? = some y) (hp : p < 2 ^ 60) : tS [] (slS l row x (p + 1)) = some (decide (κ x < κ y)) := by
  have h1 : tCmp .Gt (xV 3) (xK (.int 0)) [] (slS l row x (p + 1)) = some true := by
    show (cmpP true deep (.int ((p + 1 : Nat) : Int)) (.int 0)) = _
    rw [cmp_lt_int]
    congr 1
    simp only [decide_eq_true_eq]
    omega
  have h2 : xSub (xV 1) (xBin2 .Sub (xV 3) (xK (.int 1))) [] (slS l row x (p + 1)) = some (.p y) := by
    show subV [] (.p (.lst row)) (.p (.int (((p + 1 : Nat) : Int) - 1))) = _
    have : (((p + 1 : Nat) : Int) - 1) = (p : Int) := by omega
    rw [this]
    exact sub_lst h hp
  have h3 : xCall S_twc (xCons (xSub (xV 1) (xBin2 .Sub (xV 3) (xK (.int 1)))) (xCons (xV 2) xNil)) [] (slS l row x (p + 1)) = some (.p (.int (b2i (decide (κ x < κ y)) - b2i (decide (κ y < κ x))))) := by
    show ((xSub _ _ [] _).bind _).bind _ = _
    rw [h2]
    exact twc_eval K hy hx
  unfold tS tAnd
  rw [h1]
  simp only [Option.bind_some, if_true]
  unfold tCmp
  rw [h3]
  show cmpP true deep (.int (b2i (decide (κ x < κ y)) - b2i (decide (κ y < κ x)))) (.int 0) = _
  rw [cmp_lt_int, b2i_sub_pos not_both]
theorem whS {κ : P → List Nat} {S : P → Prop} (K : Keyed κ S) {l row : List P} {x : P} (hx : S x) (hr : ∀ y ∈ row, S y) (hlen : row.length ≤ 100) : ∀ (p k : Nat), p ≤ row.length → p < k →
    ∃ j, j ≤ p ∧ (∀ i y, j ≤ i → i < p → row[i]? = some y → κ x < κ y) ∧ (∀ y, 0 < j → row[j - 1]? = some y → ¬ κ x < κ y) ∧ whGo tS bS k [] (slS l row x p) = some (.next, [], slS l row x j)
  | 0, k + 1, _, _ => ⟨0, Nat.le_refl _, fun i y _ h => absurd h (Nat.not_lt_zero _), fun y h => absurd h (Nat.not_lt_zero _), wh_end (tS_zero l row x)⟩
  | p + 1, k + 1, hp, hk => by
    have hlt : p < row.length := hp
    have hg : row[p]? = some row[p] := List.getElem?_eq_getElem hlt
    have ht := tS_succ K (l := l) hx (hr _ (List.getElem_mem hlt)) hg (by omega)
    by_cases h : κ x < κ row[p]
    · rw [decide_eq_true h] at ht
      obtain ⟨j, h1, h2, h3, h4⟩ := whS K (l := l) hx hr hlen p k (by omega) (by omega)
      refine ⟨j, by omega, fun i y hi1 hi2 hy => ?_, h3, ?_⟩
      · by_cases hip : i < p
        · exact h2 i y hi1 hip hy
        · have : i = p := by omega
          subst this
          obtain rfl := soK (hg.symm.trans hy)
          exact h
      · refine (wh_step (sl' := slS l row x p) ht ?_).trans h4
        refine ev_set (v := .p (.int p)) ?_ rfl
        show some (V.p (.int (((p + 1 : Nat) : Int) - 1))) = _
        have : (((p + 1 : Nat) : Int) - 1) = (p : Int) := by omega
        rw [this]
    · rw [decide_eq_false h] at ht
      refine ⟨p + 1, Nat.le_refl _, fun i y h1 h2 => absurd h2 (by omega), fun y _ hy => ?_, wh_end ht⟩
      rw [Nat.add_sub_cancel, hg] at hy
      obtain rfl := soK hy
      exact h
/- put into its place -/
theorem srt_ins {κ : P → List Nat} {row : List P} {x : P} {j : Nat} (hs : Srt κ row) (hj : j ≤ row.length) (h2 : ∀ i y, j ≤ i → i < row.length → row[i]? = some y → κ x < κ y) (h3 : ∀ y, 0 < j → row[j - 1]? = some y → ¬ κ x < κ y) :
    Srt κ (row.take j ++ [x] ++ row.drop j) := by
  unfold Srt at *
  rw [List.append_assoc, List.pairwise_append]
  refine ⟨hs.sublist (List.take_sublist _ _), ?_, ?_⟩
  · rw [List.singleton_append, List.pairwise_cons]
    refine ⟨fun y hy => ?_, hs.sublist (List.drop_sublist _ _)⟩
    obtain ⟨i, hi, rfl⟩ := List.mem_iff_getElem.mp hy
    rw [List.length_drop] at hi
    rw [List.getElem_drop]
    exact List.lt_asymm (h2 (j + i) _ (by omega) (by omega) (List.getElem?_eq_getElem _))
  · intro a ha b hb
    have hax : ¬ κ x < κ a := by
      obtain ⟨i, hi, rfl⟩ := List.mem_iff_getElem.mp ha
      rw [List.length_take] at hi
      rw [List.getElem_take]
      have hj0 : 0 < j := by omega
      have hlast := h3 row[j - 1] hj0 (List.getElem?_eq_getElem (by omega))
      by_cases hij : i = j - 1
      · subst hij; exact hlast
      · exact not_lt_trans ((List.pairwise_iff_getElem.mp hs) i (j - 1) (by omega) (by omega) (by omega)) hlast
    rcases List.mem_append.mp hb with hb | hb
    · rw [List.mem_singleton.mp hb]; exact hax
    · obtain ⟨i, hi, rfl⟩ := List.mem_iff_getElem.mp ha
      obtain ⟨i', hi', rfl⟩ := List.mem_iff_getElem.mp hb
      rw [List.length_take] at hi
      rw [List.length_drop] at hi'
      rw [List.getElem_take, List.getElem_drop]
      exact (List.pairwise_iff_getElem.mp hs) i (j + i') (by omega) (by omega) (by omega)
theorem perm_ins {row : List P} {x : P} {j : Nat} : (row.take j ++ [x] ++ row.drop j).Perm (x :: row) := by
  have h : (row.take j ++ [x] ++ row.drop j).Perm (x :: (row.take j ++ row.drop j)) := by
    rw [List.append_assoc]; exact List.perm_middle
  rwa [List.take_append_drop] at h
end Mine
end
section
open PySem.W
namespace Mine
open Classical

theorem len_eval {mem : Mem} {l : List P} (h : l.length ≤ 100) : semLen mem [.p (.lst l)] = some (.p (.int l.length)) := by
  show (if lenOk l.length = true then _ else none) = _
  rw [if_pos (len_ok h)]
theorem slice_take {mem : Mem} {l : List P} {j : Nat} (h : l.length ≤ 100) (hj : j ≤ l.length) : sliceV mem (.p (.lst l)) none (some (j : Int)) none = some (.p (.lst (l.take j))) := by
  show (if lenOk l.length = true then some (V.p (.lst (sliceL l none (some (j : Int)) none))) else none) = _
  rw [if_pos (len_ok h), sliceL_take l j hj]
theorem slice_drop {mem : Mem} {l : List P} {j : Nat} (h : l.length ≤ 100) (hj : j ≤ l.length) : sliceV mem (.p (.lst l)) (some (j : Int)) none none = some (.p (.lst (l.drop j))) := by
  show (if lenOk l.length = true then some (V.p (.lst (sliceL l (some (j : Int)) none none))) else none) = _
  rw [if_pos (len_ok h), sliceL_drop l j hj]
theorem int2_int (f : Int → Int → Option P) (a b : Int) : int2 f (.int a) (.int b) = f a b := rfl
theorem add_lst {a b : List P} (h : a.length + b.length ≤ 1000) : binP .Add (.lst a) (.lst b) = some (.lst (a ++ b)) := by
  have : a.length + b.length ≤ 2 ^ 20 := by omega
  exact if_pos this
theorem bin_of {op : Operator} {f g : XF} {mem : Mem} {sl : Slots} {x y : V} {d e r : P} (h1 : f mem sl = some x) (h2 : g mem sl = some y) (h3 : derP mem x = some d) (h4 : derP mem y = some e) (h5 : binP op d e = some r) : xBin2 op f g mem sl = some (.p r) := by
  simp only [xBin2, xBin, h1, h2, h3, h4, h5, Option.bind_some, Option.map_some]
theorem sorted_eval {κ : P → List Nat} {S : P → Prop} (K : Keyed κ S) {l : List P} (hs : ∀ x ∈ l, S x) (hl : l.length ≤ 11) {m : Mem} : S_sorted m [.p (.lst l)] = some (.p (.lst (srt κ l))) := by
  have hgs : ∀ (sl : Slots), sl[0]? = some (some (.p (.lst l))) → gV (aN 2) (vSeq (xV 0)) [] sl = some ((l.map V.p).map (aN 2)) := fun sl h => by
    simp only [gV, vSeq, xV, h, Option.join, Option.bind_some, Option.map_some, id]
  obtain ⟨mem', sl', hI, hF⟩ := for_inv0 (mem := []) (sl := [some (.p (.lst l)), some (.p (.lst [])), none, none])
    (gs := (l.map V.p).map (aN 2)) (b := bCons (sSet 3 (xCall semLen (xCons (xV 1) xNil))) (bCons (whGo tS bS whFuel) (bCons (sSet 1 (xBin2 .Add (xBin2 .Add (xSlice (xV 1) oNone (oSome (xV 3)) oNone) (xList (xCons (xV 2) xNil))) (xSlice (xV 1) (oSome (xV 3)) oNone oNone))) bNil)))
    (fun i mem sl => mem = [] ∧ ∃ row c2 c3, sl = [some (.p (.lst l)), some (.p (.lst row)), c2, c3] ∧ row.Perm (l.take i) ∧ Srt κ row)
    (by
      rintro i g mem sl hg ⟨rfl, row, c2, c3, rfl, hp, hr⟩
      rw [List.getElem?_map, List.getElem?_map] at hg
      cases hx : l[i]? with
      | none => rw [hx] at hg; cases hg
      | some x =>
        rw [hx] at hg
        obtain rfl := soK hg
        obtain ⟨hi, hxe⟩ := List.getElem?_eq_some_iff.mp hx
        have hrl : row.length = i := by rw [hp.length_eq, List.length_take]; omega
        have hSx : S x := hs x (List.mem_of_getElem? hx)
        have hSr : ∀ y ∈ row, S y := fun y hy => hs y (List.mem_of_mem_take (hp.mem_iff.mp hy))
        obtain ⟨j, h1, h2, h3, h4⟩ := whS K (l := l) hSx hSr (by omega) row.length whFuel (Nat.le_refl _) (by show _ < 12; omega)
        refine ⟨_, [], slS l (row.take j ++ [x] ++ row.drop j) x j, rfl, ?_, rfl, _, _, _, rfl, ?_, srt_ins hr (by omega) (fun i y h5 h6 => h2 i y h5 h6) h3⟩
        · refine ev_set (v := .p (.int row.length)) (len_eval (mem := []) (by omega)) ?_
          refine ev_next h4 ?_
          refine ev_set (v := .p (.lst (row.take j ++ [x] ++ row.drop j))) ?_ rfl
          refine bin_of (x := .p (.lst (row.take j ++ [x]))) (y := .p (.lst (row.drop j))) ?_ (slice_drop (mem := []) (by omega) (by omega)) rfl rfl (add_lst (by simp; omega))
          exact bin_of (x := .p (.lst (row.take j))) (y := .p (.lst [x])) (slice_take (mem := []) (by omega) (by omega)) rfl rfl rfl (add_lst (by simp; omega))
        · have : l.take (i + 1) = l.take i ++ [x] := by rw [List.take_add_one, hx]; rfl
          rw [this]
          exact perm_ins.trans ((List.Perm.cons x hp).trans (List.perm_append_comm (l₁ := [x]))))
    ⟨rfl, [], none, none, rfl, by simp, .nil⟩
  obtain ⟨rfl, row, c2, c3, rfl, hp, hr⟩ := hI
  have hle : ((l.map V.p).map (aN 2)).length = l.length := by simp
  rw [hle, List.take_length] at hp
  rw [srt_of K hs hp hr] at hF
  refine fn_eval (ds := [.lst l]) rfl rfl (ev_set (v := .p (.lst [])) rfl (ev_next (ev_for (hgs _ rfl) hF) (ev_ret (v := .p (.lst (srt κ l))) rfl))) rfl
end Mine
end
section
open PySem.W
namespace Mine

/- the names: 0: abcde; s + 1: pqrst, shifted by s -/
noncomputable def lett : Nat → Nat → Nat
  | 0, k => 96 + k
  | s + 1, k => 112 + (3 * k + s) % 5
/- the path of a chain of places -/
noncomputable def pathC (t : Nat) (X : List Nat) : Str := match X with
  | [] => "/"
  | X => ⟨(X.flatMap fun k => [47, lett t k]).toArray⟩
/- all chains: the ascending lists of 1 .. 5, with a last one below k -/
noncomputable def chains : Nat → List (List Nat)
  | 0 => [[]]
  | k + 1 => chains k ++ (chains k).map (· ++ [k + 1])
noncomputable def isStrV (r : Option V) (x : Str) : Bool := match r with
  | some (.p (.str y)) => y == x
  | _ => false
theorem isStrV_at {r : Option V} {x : Str} (h : isStrV r x = true) : r = some (.p (.str x)) := by
  unfold isStrV at h
  split at h
  · rw [eq_of_beq h]
  · cases h
/- join and dirname along the chains -/
noncomputable def jd (t : Nat) : Bool := [1, 2, 3, 4, 5].all fun k => (chains (k - 1)).all fun X =>
  isStrV (S_join [] [.p (.str (pathC t X)), .p (.str ⟨#[lett t k]⟩)]) (pathC t (X ++ [k])) && isStrV (S_dirname [] [.p (.str (pathC t (X ++ [k])))]) (pathC t X)
theorem jd0 : jd 0 = true := by decide +kernel
theorem jd1 : jd 1 = true := by decide +kernel
theorem jd2 : jd 2 = true := by decide +kernel
theorem jd3 : jd 3 = true := by decide +kernel
theorem jd4 : jd 4 = true := by decide +kernel
theorem jd5 : jd 5 = true := by decide +kernel
/- what commonpath asks of one path -/
noncomputable def compsC (t : Nat) (X : List Nat) : List Str := X.map fun k => ⟨#[lett t k]⟩
noncomputable def cpf (t : Nat) : Bool := (chains 5).all fun X => ((Txt.split (pathC t X) "/").filter fun c => c.length != 0 && !(c == ("." : Str))) == compsC t X && Txt.startswith (pathC t X) "/" && decide ((pathC t X).length ≤ 20) && decide ((Txt.split (pathC t X) "/").length ≤ 20)
  && (Txt.split (pathC t X) "/").all (fun c => decide (c.length ≤ 20)) && (("/" ++ Txt.join "/" (compsC t X) : Str) == pathC t X)
theorem cpf0 : cpf 0 = true := by decide +kernel
theorem cpf1 : cpf 1 = true := by decide +kernel
theorem cpf2 : cpf 2 = true := by decide +kernel
theorem cpf3 : cpf 3 = true := by decide +kernel
theorem cpf4 : cpf 4 = true := by decide +kernel
theorem cpf5 : cpf 5 = true := by decide +kernel
theorem dirname_root : S_dirname [] [.p (.str "/")] = some (.p (.str "/")) := isStrV_at (by decide +kernel)
end Mine
end
section
open PySem.W
namespace Mine
open Classical

/- lists of texts, compared -/
noncomputable def ltS : List Str → List Str → Bool
  | _, [] => false
  | [], _ :: _ => true
  | c :: cs, d :: ds => if c = d then ltS cs ds else decide (c.cps.toList < d.cps.toList)
noncomputable def stL (l : List Str) : P := .lst (l.map .str)
theorem eqSs (N : Nat) (cs ds : List Str) : ∀ x ∈ cs.map P.str, ∀ y ∈ ds.map P.str, eqP (N + 1) x y = some (decide (x = y)) := by
  intro x hx y hy
  obtain ⟨a, _, rfl⟩ := List.mem_map.mp hx
  obtain ⟨b, _, rfl⟩ := List.mem_map.mp hy
  exact eqS N a b
theorem cmpSs (N : Nat) : ∀ cs ds : List Str, cmpP false (N + 2) (stL cs) (stL ds) = some (ltS cs ds) ∧ cmpP true (N + 2) (stL cs) (stL ds) = some (ltS ds cs)
  | [], [] => by simp [stL, cmpP, lstD, Option.bind_some, sizeCmp, ltS]
  | [], d :: ds => by simp [stL, cmpP, lstD, Option.bind_some, sizeCmp, ltS]
  | c :: cs, [] => by simp [stL, cmpP, lstD, Option.bind_some, sizeCmp, ltS]
  | c :: cs, d :: ds => by
    have ih := cmpSs N cs ds
    have h := fun gt => cmpL (gt := gt) (eqS N c d) (eqSs N cs ds)
    have hi : (P.str c = P.str d) ↔ c = d := ⟨fun e => by injection e, fun e => by rw [e]⟩
    have e1 : ∀ gt, cmpP gt (N + 2) (stL (c :: cs)) (stL (d :: ds)) = if P.str c = P.str d then cmpP gt (N + 2) (stL cs) (stL ds) else cmpP gt (N + 1) (.str c) (.str d) := h
    rw [e1, e1]
    by_cases hc : c = d
    · rw [if_pos (hi.mpr hc), if_pos (hi.mpr hc), ih.1, ih.2]
      subst hc
      simp [ltS]
    · rw [if_neg (fun q => hc (hi.mp q)), if_neg (fun q => hc (hi.mp q))]
      simp [ltS, hc, Ne.symm hc, cmpP, strD, ltS0, Option.map_some]
theorem ltS_asymm : ∀ {cs ds : List Str}, ltS cs ds = true → ltS ds cs = false
  | _, [], h => by simp [ltS] at h
  | [], _ :: _, _ => rfl
  | c :: cs, d :: ds, h => by
    unfold ltS at h ⊢
    by_cases hc : c = d
    · subst hc; rw [if_pos rfl] at h ⊢; exact ltS_asymm h
    · rw [if_neg hc] at h
      rw [if_neg (Ne.symm hc)]
      simp only [decide_eq_true_eq, decide_eq_false_iff_not] at h ⊢
      exact List.lt_asymm h
noncomputable def lcpL : List Str → List Str → List Str
  | c :: cs, d :: ds => if c = d then c :: lcpL cs ds else []
  | _, _ => []
theorem lcpL_comm : ∀ cs ds, lcpL cs ds = lcpL ds cs
  | [], [] => rfl
  | [], _ :: _ => rfl
  | _ :: _, [] => rfl
  | c :: cs, d :: ds => by
    unfold lcpL
    by_cases h : c = d
    · subst h; rw [if_pos rfl, if_pos rfl, lcpL_comm cs ds]
    · rw [if_neg h, if_neg (Ne.symm h)]
/- min and max of two -/
theorem best2 {gt : Bool} {m : Mem} (cs ds : List Str) : semBest gt m [.p (.lst [stL cs, stL ds])] = some (.p (match gt with | false => if ltS ds cs = true then stL ds else stL cs | true => if ltS cs ds = true then stL ds else stL cs)) := by
  have h1 := cmpSs 38 cs ds
  have h2 := cmpSs 38 ds cs
  have h3 := cmpSs 38 cs cs
  have h4 := cmpSs 38 ds ds
  have d : deep = 38 + 2 := rfl
  have ok : bestOk gt [stL cs, stL ds] = true := by
    unfold bestOk
    simp only [List.length_cons, List.length_nil, List.all_eq_true, List.mem_range]
    intro i hi j hj
    have : i = 0 ∨ i = 1 := by omega
    have : j = 0 ∨ j = 1 := by omega
    rw [d]
    rcases ‹i = 0 ∨ i = 1› with rfl | rfl <;> rcases ‹j = 0 ∨ j = 1› with rfl | rfl <;> cases gt
    all_goals first
      | exact (congrArg Option.isSome h1.1) | exact (congrArg Option.isSome h1.2) | exact (congrArg Option.isSome h2.1) | exact (congrArg Option.isSome h2.2)
      | exact (congrArg Option.isSome h3.1) | exact (congrArg Option.isSome h3.2) | exact (congrArg Option.isSome h4.1) | exact (congrArg Option.isSome h4.2)
  show (if bestOk gt [stL cs, stL ds] = true then _ else none) = _
  rw [if_pos ok]
  show (([stL cs, stL ds] : List P)[argBest (fun i j => (cmpP gt deep (([stL cs, stL ds] : List P).getD i .none) (([stL cs, stL ds] : List P).getD j .none)).getD false) 1]?).map V.p = _
  have e : argBest (fun i j => (cmpP gt deep (([stL cs, stL ds] : List P).getD i .none) (([stL cs, stL ds] : List P).getD j .none)).getD false) 1 = if (cmpP gt deep (stL ds) (stL cs)).getD false = true then 1 else 0 := rfl
  rw [e, d]
  cases gt
  · rw [h2.1]
    cases h : ltS ds cs <;> simp
  · rw [h2.2]
    cases h : ltS cs ds <;> simp
end Mine
end
section
open PySem.W
namespace Mine
open Classical

section
variable {mem mem' : Mem} {sl sl1 sl' : Slots}
theorem forGo_next {body els : SF} {g : Slots → Option Slots} {gs : List (Slots → Option Slots)} {r : Option (Out × Mem × Slots)} (h1 : g sl = some sl1) (h2 : body mem sl1 = some (.next, mem', sl')) (k : forGo body els gs mem' sl' = r) : forGo body els (g :: gs) mem sl = r := by
  simp only [forGo, h1, Option.bind_some, h2, k]
theorem forGo_brk {body els : SF} {g : Slots → Option Slots} {gs : List (Slots → Option Slots)} (h1 : g sl = some sl1) (h2 : body mem sl1 = some (.brk, mem', sl')) : forGo body els (g :: gs) mem sl = some (.next, mem', sl') := by
  simp only [forGo, h1, Option.bind_some, h2]
theorem sub_of {f g : XF} {x y v : V} (h1 : f mem sl = some x) (h2 : g mem sl = some y) (h3 : subV mem x y = some v) : xSub f g mem sl = some v := by
  simp only [xSub, h1, h2, Option.bind_some, h3]
theorem tcmp_of {op : CmpOp} {f g : XF} {x y : V} {b : Bool} (h1 : f mem sl = some x) (h2 : g mem sl = some y) (h3 : cmpV op mem x y = some b) : tCmp op f g mem sl = some b := by
  simp only [tCmp, h1, h2, Option.bind_some, h3]
theorem xcmp_of {op : CmpOp} {f g : XF} {x y : V} {b : Bool} (h1 : f mem sl = some x) (h2 : g mem sl = some y) (h3 : cmpV op mem x y = some b) : xCmp op f g mem sl = some (.p (.bool b)) := by
  simp only [xCmp, h1, h2, Option.bind_some, h3, Option.map_some]
theorem ne_of {x y : V} {a b : P} {r : Bool} (h1 : der mem x = some a) (h2 : der mem y = some b) (h : eqP deep a b = some r) : cmpV .NotEq mem x y = some (!r) := by
  simp only [cmpV, h1, h2, Option.bind_some, h, Option.map_some]
theorem eq_of {x y : V} {a b : P} {r : Bool} (h1 : der mem x = some a) (h2 : der mem y = some b) (h : eqP deep a b = some r) : cmpV .Eq mem x y = some r := by
  simp only [cmpV, h1, h2, Option.bind_some, h]
theorem eq_str (x y : Str) : eqP deep (.str x) (.str y) = some (decide (P.str x = P.str y)) := eqS 39 x y
end
noncomputable def bCp : SF := bCons (sIf (tCmp .NotEq (xV 9) (xSub (xV 6) (xV 8))) (bCons (sSet 7 (xSlice (xV 5) oNone (oSome (xV 8)) oNone)) (bCons sBrk bNil)) bNil) bNil
/- commonpath's slots at the loop -/
noncomputable def slC (v0 v1 v2 v3 v4 : Option V) (s1 s2 : List Str) (c : List Str) (x8 x9 : Option V) : Slots := [v0, v1, v2, v3, v4, some (.p (stL s1)), some (.p (stL s2)), some (.p (stL c)), x8, x9, none]
noncomputable def gsC (s1 : List Str) : List (Slots → Option Slots) := (s1.map P.str).mapIdx fun i d sl => aCons (aN 8) (aCons (aN 9) aNil) [.p (.int (i : Nat)), .p d] sl
theorem gsC_drop (s1 : List Str) (pre : List Str) (c : Str) (r : List Str) (h : s1 = pre ++ c :: r) : (gsC s1).drop pre.length = (fun sl => aCons (aN 8) (aCons (aN 9) aNil) [.p (.int pre.length), .p (.str c)] sl) :: (gsC s1).drop (pre.length + 1) := by
  have hl : pre.length < (gsC s1).length := by simp [gsC, h]
  rw [List.drop_eq_getElem_cons hl]
  congr 1
  simp only [gsC, List.getElem_mapIdx, List.getElem_map]
  have : s1[pre.length]'(by simp [h]) = c := by simp [h]
  rw [this]
theorem loopC {v0 v1 v2 v3 v4 : Option V} {s1 s2 : List Str} (hl : s1.length ≤ 100) (hl2 : s2.length ≤ 100) : ∀ (r1 r2 pre : List Str) (x8 x9 : Option V), s1 = pre ++ r1 → s2 = pre ++ r2 → ltS r2 r1 = false →
    ∃ y8 y9, forGo bCp bNil ((gsC s1).drop pre.length) [] (slC v0 v1 v2 v3 v4 s1 s2 s1 x8 x9) = some (.next, [], slC v0 v1 v2 v3 v4 s1 s2 (pre ++ lcpL r1 r2) y8 y9)
  | [], r2, pre, x8, x9, h1, h2, h => by
    refine ⟨x8, x9, ?_⟩
    have hd : (gsC s1).drop pre.length = [] := by apply List.drop_eq_nil_of_le; simp [gsC, h1]
    rw [hd, List.append_nil] at *
    subst h1
    cases r2 <;> simp [forGo, bNil, lcpL]
  | c :: r1, [], pre, x8, x9, h1, h2, h => by simp [ltS] at h
  | c :: r1, d :: r2, pre, x8, x9, h1, h2, h => by
    rw [gsC_drop s1 pre c r1 h1]
    have hget : s2[pre.length]? = some d := by simp [h2]
    have ht : tCmp .NotEq (xV 9) (xSub (xV 6) (xV 8)) [] (slC v0 v1 v2 v3 v4 s1 s2 s1 (some (.p (.int pre.length))) (some (.p (.str c)))) = some (!decide (P.str c = P.str d)) := by
      exact tcmp_of (y := .p (.str d)) (rfl : xV 9 [] _ = some (.p (.str c))) (sub_of (rfl : xV 6 [] _ = some (.p (stL s2))) (rfl : xV 8 [] _ = some (.p (.int pre.length))) (sub_lst (by rw [List.getElem?_map, hget]; rfl) (by have := hl; rw [h1] at this; simp at this; omega))) (ne_of rfl rfl (eq_str c d))
    have hstr : (P.str c = P.str d) ↔ c = d := ⟨fun e => by injection e, fun e => by rw [e]⟩
    by_cases hc : c = d
    · subst hc
      rw [decide_eq_true rfl] at ht
      unfold ltS at h
      rw [if_pos rfl] at h
      obtain ⟨y8, y9, hF⟩ := loopC hl hl2 r1 r2 (pre ++ [c]) (some (.p (.int pre.length))) (some (.p (.str c))) (by simp [h1]) (by simp [h2]) h
      refine ⟨y8, y9, ?_⟩
      have hb : bCp [] (slC v0 v1 v2 v3 v4 s1 s2 s1 (some (.p (.int pre.length))) (some (.p (.str c)))) = some (.next, [], slC v0 v1 v2 v3 v4 s1 s2 s1 (some (.p (.int pre.length))) (some (.p (.str c)))) :=
        ev_nil (ev_if ht rfl)
      have e2 : (pre ++ [c]).length = pre.length + 1 := by simp
      rw [e2] at hF
      have e3 : pre ++ lcpL (c :: r1) (c :: r2) = pre ++ [c] ++ lcpL r1 r2 := by simp [lcpL]
      rw [e3]
      exact forGo_next rfl hb hF
    · rw [decide_eq_false (fun q => hc (hstr.mp q))] at ht
      refine ⟨some (.p (.int pre.length)), some (.p (.str c)), ?_⟩
      have hsl : xSlice (xV 5) oNone (oSome (xV 8)) oNone [] (slC v0 v1 v2 v3 v4 s1 s2 s1 (some (.p (.int pre.length))) (some (.p (.str c)))) = some (.p (stL pre)) := by
        show sliceV [] (.p (.lst (s1.map P.str))) none (some (pre.length : Int)) none = _
        rw [slice_take (by simpa using hl) (by simp [h1])]
        simp [h1, stL, List.map_append, List.take_append]
      have hb : bCp [] (slC v0 v1 v2 v3 v4 s1 s2 s1 (some (.p (.int pre.length))) (some (.p (.str c)))) = some (.brk, [], slC v0 v1 v2 v3 v4 s1 s2 pre (some (.p (.int pre.length))) (some (.p (.str c)))) :=
        ev_nil (ev_if ht (ev_set hsl rfl))
      have e3 : pre ++ lcpL (c :: r1) (d :: r2) = pre := by simp [lcpL, hc]
      rw [e3]
      exact forGo_brk rfl hb
end Mine
end
section
open PySem.W
namespace Mine
open Classical

section
variable {mem : Mem} {sl : Slots}
theorem comp_of {cap : List Nat} {it : XFs} {t : TF} {f : XF} {cv vs : List V} {p : V → Bool} {g : V → P} (h1 : capV cap sl = some cv) (h2 : it mem sl = some vs) (h3 : vs.length ≤ 100)
    (h : ∀ v ∈ vs, t mem (cv.map some ++ [some v]) = some (p v) ∧ (p v = true → f mem (cv.map some ++ [some v]) = some (.p (g v)))) : xComp cap it t f mem sl = some (.p (.lst ((vs.filter p).map g))) := by
  simp only [xComp, compV, h1, h2, Option.bind_some, len_ok h3, if_true, comp_map h, Option.map_some]
theorem set_of {f : XF} {v : V} {i : Nat} {mem' : Mem} (h : f mem sl = some v) : sSet i f mem sl = some (.next, mem, sl.set i (some v)) := by
  simp only [sSet, h, Option.map_some]
end
theorem fspath_eval (m : Mem) (x : Str) : S_fspath m [.p (.str x)] = some (.p (.str x)) := rfl
structure PathS (x : Str) (cx : List Str) : Prop where
  fil : (Txt.split x "/").filter (fun c => c.length != 0 && !(c == ("." : Str))) = cx
  st : Txt.startswith x "/" = true
  len : x.length ≤ 20
  sl : (Txt.split x "/").length ≤ 20
  cl : ∀ c ∈ Txt.split x "/", c.length ≤ 20
theorem split_eval {m : Mem} {x : Str} {cx : List Str} (h : PathS x cx) : semSplit m [.p (.str x), .p (.str "/")] = some (.p (stL (Txt.split x "/"))) := by
  have h1 := h.len
  have h2 := h.sl
  have : (lenOk (x.length + 1) && decide (0 < (Str.ofString "/").length) && lenOk (Txt.split x "/").length) = true := by
    rw [len_ok (by omega), len_ok (by omega)]
    have : decide (0 < (Str.ofString "/").length) = true := by decide +kernel
    rw [this]; rfl
  show Option.map V.p (if (lenOk (x.length + 1) && decide (0 < (Str.ofString "/").length) && lenOk (Txt.split x "/").length) = true then some (P.lst ((Txt.split x "/").map .str)) else none) = _
  rw [if_pos this]
  rfl
noncomputable def gSpl : V → P := fun v => match v with
  | .p (.str s) => stL (Txt.split s "/")
  | _ => .none
noncomputable def gFil : V → P := fun v => match v with
  | .p (.lst l) => .lst (((l.map V.p).filter fun c => match c with | .p (.str s) => s.length != 0 && !(s == ("." : Str)) | _ => false).map fun c => match c with | .p d => d | _ => .none)
  | _ => .none
theorem gFil_at (l : List Str) : gFil (.p (stL l)) = stL (l.filter fun c => c.length != 0 && !(c == ("." : Str))) := by
  unfold gFil stL
  dsimp only
  congr 1
  induction l with
  | nil => rfl
  | cons c l ih =>
    simp only [List.map_cons, List.filter_cons]
    by_cases h : (c.length != 0 && !(c == ("." : Str))) = true
    · rw [if_pos h, if_pos h, List.map_cons, List.map_cons, ih]
    · rw [if_neg h, if_neg h, ih]
theorem keep_eval {m : Mem} {l : List Str} (hl : l.length ≤ 100) (hc : ∀ c ∈ l, c.length ≤ 20) : xComp [0] (vSeq (xV 1)) (tAnd (tX (xV 1)) (tCmp .NotEq (xV 1) (xV 0))) (xV 1) m [some (.p (.str ".")), some (.p (stL l))] = some (.p (gFil (.p (stL l)))) := by
  refine comp_of (cv := [.p (.str ".")]) (vs := (l.map P.str).map V.p) (p := fun c => match c with | .p (.str s) => s.length != 0 && !(s == ("." : Str)) | _ => false) (g := fun c => match c with | .p d => d | _ => .none) rfl rfl (by simpa using hl) fun v hv => ?_
  simp only [List.mem_map] at hv
  obtain ⟨_, ⟨s, hs, rfl⟩, rfl⟩ := hv
  refine ⟨?_, fun _ => rfl⟩
  have h1 : tX (xV 1) m [some (.p (.str ".")), some (.p (.str s))] = some (s.length != 0) := by
    show (if lenOk s.length = true then some ((s.length : Int) != 0) else none) = _
    rw [if_pos (len_ok (by have := hc s hs; omega))]
    congr 1
    rw [Bool.eq_iff_iff]
    simp
  have h2 : tCmp .NotEq (xV 1) (xV 0) m [some (.p (.str ".")), some (.p (.str s))] = some (!decide (P.str s = P.str ".")) := tcmp_of rfl rfl (ne_of rfl rfl (eq_str s "."))
  have h3 : decide (P.str s = P.str ".") = (s == ("." : Str)) := by
    by_cases h : s = ("." : Str)
    · subst h; simp
    · have : ¬ (P.str s = P.str ".") := fun e => h (by injection e)
      rw [decide_eq_false this]
      exact (beq_eq_false_iff_ne.mpr h).symm
  show tAnd _ _ m [some (.p (.str ".")), some (.p (.str s))] = _
  unfold tAnd
  rw [h1]
  simp only [Option.bind_some]
  cases hz : s.length != 0
  · simp
  · rw [if_pos rfl, h2, h3]; simp
theorem sone_of {i : Nat} {cap : List Nat} {it : XFs} {f : XF} {mem : Mem} {sl : Slots} {ds : List P} (h : compV cap it tTrue f mem sl = some ds) (h2 : (ds.all isTru && !ds.isEmpty) = true) : sOne i cap it f mem sl = some (.next, mem, sl.set i (some (.p (.bool true)))) := by
  simp only [sOne, h, Option.bind_some, h2, if_true]
theorem fn_ev {k tot : Nat} {F : SF} {m : Mem} {vs : List V} {ds : List P} {d : P} (ha : allP vs = some ds) (hl : vs.length = k) (h : ∃ mem' sl', F [] (vs.map some ++ List.replicate (tot - k) none) = some (.ret (.p d), mem', sl')) : fnSem k tot F m vs = some (.p d) := by
  obtain ⟨mem', sl', h⟩ := h
  exact fn_eval ha hl h rfl
theorem join_eval {m : Mem} {x : Str} {l : List Str} (h : joinFit x l = true) : semJoin m [.p (.str x), .p (stL l)] = some (.p (.str (Txt.join x l))) := by
  have e : strsP (l.map P.str) = some l := by
    induction l with
    | nil => rfl
    | cons a l ih =>
      have ih := ih (by simp only [joinFit, decide_eq_true_eq] at h ⊢; simp only [List.map_cons, List.sum_cons, List.length_cons, Nat.add_mul] at h; omega)
      unfold strsP at ih ⊢
      rw [List.map_cons, List.mapM_cons, ih]; rfl
  show ((strsP (l.map P.str)).bind fun ys => if joinFit x ys = true then some (V.p (.str (Txt.join x ys))) else none) = _
  rw [e]
  exact if_pos h
theorem add_str {x y : Str} (h : x.length + y.length ≤ 1000) : binP .Add (.str x) (.str y) = some (.str (x ++ y)) := by
  have : x.length + y.length ≤ 2 ^ 20 := by omega
  exact if_pos this
theorem ltS_tot : ∀ {cs ds : List Str}, ltS cs ds = false → ltS ds cs = false → cs = ds
  | [], [], _, _ => rfl
  | [], _ :: _, h, _ => by simp [ltS] at h
  | _ :: _, [], _, h => by simp [ltS] at h
  | c :: cs, d :: ds, h1, h2 => by
    unfold ltS at h1 h2
    by_cases hc : c = d
    · subst hc; rw [if_pos rfl] at h1 h2; rw [ltS_tot h1 h2]
    · rw [if_neg hc] at h1
      rw [if_neg (Ne.symm hc)] at h2
      simp only [decide_eq_false_iff_not] at h1 h2
      exfalso
      have h3 : c.cps.toList = d.cps.toList := List.le_antisymm h2 h1
      apply hc
      cases c; cases d; congr 1
      exact Array.toList_inj.mp h3
theorem cp_eval {m : Mem} {x y : Str} {cx cy : List Str} (hx : PathS x cx) (hy : PathS y cy) (hj : (Txt.join "/" (lcpL cx cy)).length ≤ 100) (hf : joinFit "/" (lcpL cx cy) = true) :
    S_commonpath m [.p (.lst [.str x, .str y])] = some (.p (.str ("/" ++ Txt.join "/" (lcpL cx cy)))) := by
  have hcx : cx.length ≤ 20 := by rw [← hx.fil]; exact Nat.le_trans (List.length_filter_le _ _) hx.sl
  have hcy : cy.length ≤ 20 := by rw [← hy.fil]; exact Nat.le_trans (List.length_filter_le _ _) hy.sl
  have c4 : xComp [1] (vSeq (xV 0)) tTrue (xMeth "str" semSplit (xV 1) (xCons (xV 0) xNil)) [] [some (.p (.tup [.str x, .str y])), some (.p (.str "/")), some (.p (.str ".")), none, none, none, none, none, none, none, none] = some (.p (.lst [stL (Txt.split x "/"), stL (Txt.split y "/")])) := by
    refine comp_of (cv := [.p (.str "/")]) (vs := [.p (.str x), .p (.str y)]) (p := fun _ => true) (g := gSpl) rfl rfl (Nat.le_of_ble_eq_true rfl) fun v hv => ⟨rfl, fun _ => ?_⟩
    simp only [List.mem_cons, List.not_mem_nil, or_false] at hv
    rcases hv with rfl | rfl
    · exact split_eval (m := []) hx
    · exact split_eval (m := []) hy
  have c5 : compV [1] (vSeq (xV 0)) tTrue (xMeth "str" semStarts (xV 1) (xCons (xV 0) xNil)) [] [some (.p (.tup [.str x, .str y])), some (.p (.str "/")), some (.p (.str ".")), some (.p (.lst [stL (Txt.split x "/"), stL (Txt.split y "/")])), none, none, none, none, none, none, none] = some [.bool true, .bool true] := by
    have : compGo ([] : Mem) (([.p (.str "/")] : List V).map some) tTrue (xMeth "str" semStarts (xV 1) (xCons (xV 0) xNil)) [.p (.str x), .p (.str y)] = some ((([.p (.str x), .p (.str y)] : List V).filter fun _ => true).map fun _ => P.bool true) := by
      refine comp_map fun v hv => ⟨rfl, fun _ => ?_⟩
      simp only [List.mem_cons, List.not_mem_nil, or_false] at hv
      rcases hv with rfl | rfl
      · show some (V.p (.bool (Txt.startswith x "/"))) = _
        rw [hx.st]
      · show some (V.p (.bool (Txt.startswith y "/"))) = _
        rw [hy.st]
    exact this
  have c6 : ∀ (v4 : Option V), xComp [2] (vSeq (xV 3)) tTrue (xComp [0] (vSeq (xV 1)) (tAnd (tX (xV 1)) (tCmp .NotEq (xV 1) (xV 0))) (xV 1)) [] [some (.p (.tup [.str x, .str y])), some (.p (.str "/")), some (.p (.str ".")), some (.p (.lst [stL (Txt.split x "/"), stL (Txt.split y "/")])), v4, none, none, none, none, none, none] = some (.p (.lst [stL cx, stL cy])) := fun v4 => by
    rw [← hx.fil, ← hy.fil, ← gFil_at, ← gFil_at]
    refine comp_of (cv := [.p (.str ".")]) (vs := [.p (stL (Txt.split x "/")), .p (stL (Txt.split y "/"))]) (p := fun _ => true) (g := gFil) rfl rfl (Nat.le_of_ble_eq_true rfl) fun v hv => ⟨rfl, fun _ => ?_⟩
    simp only [List.mem_cons, List.not_mem_nil, or_false] at hv
    rcases hv with rfl | rfl
    · exact keep_eval (by have := hx.sl; omega) hx.cl
    · exact keep_eval (by have := hy.sl; omega) hy.cl
  have main : ∀ s1 s2 : List Str, s1.length ≤ 20 → s2.length ≤ 20 → ltS s2 s1 = false → lcpL s1 s2 = lcpL cx cy → (if ltS cy cx = true then stL cy else stL cx) = stL s1 → (if ltS cx cy = true then stL cy else stL cx) = stL s2 →
      S_commonpath m [.p (.lst [.str x, .str y])] = some (.p (.str ("/" ++ Txt.join "/" (lcpL cx cy)))) := by
    intro s1 s2 h1 h2 hlt hlcp e1 e2
    obtain ⟨y8, y9, hL⟩ := loopC (v0 := some (.p (.tup [.str x, .str y]))) (v1 := some (.p (.str "/"))) (v2 := some (.p (.str "."))) (v3 := some (.p (.lst [stL cx, stL cy]))) (v4 := some (.p (.bool true))) (s1 := s1) (s2 := s2) (by omega) (by omega) s1 s2 [] none none rfl rfl hlt
    rw [List.nil_append, hlcp] at hL
    refine fn_ev (ds := [.lst [.str x, .str y]]) rfl rfl ?_
    apply Exists.intro; apply Exists.intro
    refine ev_set (v := .p (.tup [.str x, .str y])) rfl ?_
    refine ev_next (sl' := [some (.p (.tup [.str x, .str y])), none, none, none, none, none, none, none, none, none, none]) rfl ?_
    refine ev_next (sl' := [some (.p (.tup [.str x, .str y])), some (.p (.str "/")), some (.p (.str ".")), none, none, none, none, none, none, none, none]) rfl ?_
    refine ev_nil ?_
    refine ev_set c4 ?_
    refine ev_next (ev_nil (sone_of c5 rfl)) ?_
    refine ev_set (c6 _) ?_
    refine ev_set (v := .p (stL s1)) ((best2 (m := []) (gt := false) cx cy).trans (by rw [← e1])) ?_
    refine ev_set (v := .p (stL s2)) ((best2 (m := []) (gt := true) cx cy).trans (by rw [← e2])) ?_
    refine ev_set (v := .p (stL s1)) rfl ?_
    refine ev_next (ev_for (gs := gsC s1) rfl hL) ?_
    refine ev_set (v := .p (.str "/")) rfl ?_
    refine ev_ret (bin_of (x := .p (.str "/")) (y := .p (.str (Txt.join "/" (lcpL cx cy)))) rfl ?_ rfl rfl ?_)
    · exact join_eval (m := []) hf
    · exact add_str (by have : (Str.ofString "/").length ≤ 100 := by decide +kernel
                        omega)
  cases h1 : ltS cy cx with
  | true =>
    have h2 := ltS_asymm h1
    exact main cy cx hcy hcx h2 (lcpL_comm _ _) (by rw [h1]; rfl) (by rw [h2]; rfl)
  | false =>
    cases h2 : ltS cx cy with
    | true => exact main cx cy hcx hcy h1 rfl (by rw [h1]; rfl) (by rw [h2]; rfl)
    | false =>
      have h3 := ltS_tot h1 h2
      subst h3
      exact main _ _ hcx hcx h1 rfl (by rw [h1]; rfl) (by rw [h1]; rfl)
end Mine
end
section
open PySem.W
namespace Mine
open Classical

theorem app_of {f g : XF} {mem : Mem} {sl : Slots} {k : Nat} {d : P} {l : List P} (h1 : f mem sl = some (.c k)) (h2 : g mem sl = some (.p d)) (h3 : mem[k]? = some (.ml l)) (h4 : l.length ≤ 100) : sApp f g mem sl = some (.next, mem.set k (.ml (l ++ [d])), sl) := by
  simp only [sApp, cl, cellV, datV, mlO, h1, h2, Option.bind_some, Option.map_some, h3, len_ok h4, if_true]
theorem ev_ifT {t : TF} {f g : SF} {mem : Mem} {sl : Slots} {r : Option (Out × Mem × Slots)} (h : t mem sl = some true) (k : f mem sl = r) : sIf t f g mem sl = r := by
  simp only [sIf, h, Option.bind_some, if_true, k]
theorem ev_ifF {t : TF} {f g : SF} {mem : Mem} {sl : Slots} {r : Option (Out × Mem × Slots)} (h : t mem sl = some false) (k : g mem sl = r) : sIf t f g mem sl = r := by
  simp only [sIf, h, Option.bind_some, k]; rfl
/- filemode -/
noncomputable def rowP (es : List (Int × Str)) : P := .tup (es.map fun e => .tup [.int e.1, .str e.2])
noncomputable def tabR : List (List (Int × Str)) := [[(40960, "l"), (49152, "s"), (32768, "-"), (24576, "b"), (16384, "d"), (8192, "c"), (4096, "p")], [(256, "r")], [(128, "w")], [(2112, "s"), (2048, "S"), (64, "x")], [(32, "r")], [(16, "w")], [(1032, "s"), (1024, "S"), (8, "x")], [(4, "r")], [(2, "w")], [(513, "t"), (512, "T"), (1, "x")]]
/- an entry that fits -/
noncomputable def fits (M : Int) (i : Nat) (m : Int) : Bool := if i = 0 then decide (Builtin.bitAnd M 61440 = m) else decide (Builtin.bitAnd M m = m)
noncomputable def rowF (M : Int) (i : Nat) : List (Int × Str) → Str
  | [] => if i = 0 then "?" else "-"
  | e :: es => if fits M i e.1 = true then e.2 else rowF M i es
noncomputable def fmode (M : Int) : Str := Txt.join "" (tabR.mapIdx fun i es => rowF M i es)
noncomputable def inF : SF := bCons (sIf (tCmp .Eq (xV 2) (xK (.int 0))) (bCons (sIf (tCmp .Eq (xCall S_ifmt (xCons (xV 0) xNil)) (xV 4)) (bCons (sApp (xV 1) (xV 5)) (bCons sBrk bNil)) bNil) bNil) (bCons (sIf (tCmp .Eq (xBin2 .BitAnd (xV 0) (xV 4)) (xV 4)) (bCons (sApp (xV 1) (xV 5)) (bCons sBrk bNil)) bNil) bNil)) bNil
noncomputable def elF : SF := bCons (sIf (tCmp .Eq (xV 2) (xK (.int 0))) (bCons (sApp (xV 1) (xK (.str "?"))) bNil) (bCons (sApp (xV 1) (xK (.str "-"))) bNil)) bNil
noncomputable def slF (M : Int) (i : Nat) (r x4 x5 : Option V) : Slots := [some (.p (.int M)), some (.c 0), some (.p (.int i)), r, x4, x5]
theorem eq_int (a b : Int) : eqP deep (.int a) (.int b) = some (decide (a = b)) := by
  show some (a == b) = _
  rfl
theorem teq_int {f g : XF} {mem : Mem} {sl : Slots} {a b : Int} (h1 : f mem sl = some (.p (.int a))) (h2 : g mem sl = some (.p (.int b))) : tCmp .Eq f g mem sl = some (decide (a = b)) := tcmp_of h1 h2 (eq_of rfl rfl (eq_int a b))
theorem brk_ev {f : SF} {mem mem' : Mem} {sl sl' : Slots} (h : f mem sl = some (.next, mem', sl')) : bCons f (bCons sBrk bNil) mem sl = some (.brk, mem', sl') := ev_next h rfl
theorem rowF_go {M : Int} {i : Nat} {r : Option V} {l : List P} (hl : l.length ≤ 100) : ∀ (es : List (Int × Str)) (x4 x5 : Option V), ∃ y4 y5, forGo inF elF ((es.map fun e => V.p (.tup [.int e.1, .str e.2])).map (aTup (aCons (aN 4) (aCons (aN 5) aNil)))) [.ml l] (slF M i r x4 x5) = some (.next, [.ml (l ++ [.str (rowF M i es)])], slF M i r y4 y5)
  | [], x4, x5 => by
    refine ⟨x4, x5, ?_⟩
    have ht : tCmp .Eq (xV 2) (xK (.int 0)) [.ml l] (slF M i r x4 x5) = some (decide ((i : Int) = 0)) := teq_int rfl rfl
    show elF _ _ = _
    by_cases hi : i = 0
    · subst hi
      exact ev_nil (ev_if ht (ev_nil (app_of (k := 0) rfl rfl rfl hl)))
    · rw [decide_eq_false (by omega)] at ht
      simp only [rowF, hi, if_false]
      exact ev_nil (ev_if ht (ev_nil (app_of (k := 0) rfl rfl rfl hl)))
  | e :: es, x4, x5 => by
    have ht : tCmp .Eq (xV 2) (xK (.int 0)) [.ml l] (slF M i r (some (.p (.int e.1))) (some (.p (.str e.2)))) = some (decide ((i : Int) = 0)) := teq_int rfl rfl
    have hA : ∀ {f : SF}, f = bCons (sApp (xV 1) (xV 5)) (bCons sBrk bNil) → f [.ml l] (slF M i r (some (.p (.int e.1))) (some (.p (.str e.2)))) = some (.brk, [.ml (l ++ [.str e.2])], slF M i r (some (.p (.int e.1))) (some (.p (.str e.2)))) := fun h => by
      subst h
      exact brk_ev (app_of (k := 0) rfl rfl rfl hl)
    have hb : inF [.ml l] (slF M i r (some (.p (.int e.1))) (some (.p (.str e.2)))) = if fits M i e.1 = true then some (.brk, [.ml (l ++ [.str e.2])], slF M i r (some (.p (.int e.1))) (some (.p (.str e.2)))) else some (.next, [.ml l], slF M i r (some (.p (.int e.1))) (some (.p (.str e.2)))) := by
      by_cases hi : i = 0
      · subst hi
        have h2 : tCmp .Eq (xCall S_ifmt (xCons (xV 0) xNil)) (xV 4) [.ml l] (slF M 0 r (some (.p (.int e.1))) (some (.p (.str e.2)))) = some (decide (Builtin.bitAnd M 61440 = e.1)) := teq_int rfl rfl
        unfold fits
        rw [if_pos rfl]
        by_cases hd : Builtin.bitAnd M 61440 = e.1
        · rw [decide_eq_true hd] at h2 ⊢; exact ev_nil (ev_ifT ht (ev_nil (ev_ifT h2 (hA rfl))))
        · rw [decide_eq_false hd] at h2 ⊢; exact ev_nil (ev_ifT ht (ev_nil (ev_ifF h2 rfl)))
      · rw [decide_eq_false (by omega)] at ht
        have h2 : tCmp .Eq (xBin2 .BitAnd (xV 0) (xV 4)) (xV 4) [.ml l] (slF M i r (some (.p (.int e.1))) (some (.p (.str e.2)))) = some (decide (Builtin.bitAnd M e.1 = e.1)) := teq_int rfl rfl
        unfold fits
        rw [if_neg hi]
        by_cases hd : Builtin.bitAnd M e.1 = e.1
        · rw [decide_eq_true hd] at h2 ⊢; exact ev_nil (ev_ifF ht (ev_nil (ev_ifT h2 (hA rfl))))
        · rw [decide_eq_false hd] at h2 ⊢; exact ev_nil (ev_ifF ht (ev_nil (ev_ifF h2 rfl)))
    by_cases hf : fits M i e.1 = true
    · rw [if_pos hf] at hb
      refine ⟨some (.p (.int e.1)), some (.p (.str e.2)), ?_⟩
      simp only [rowF, hf, if_true]
      exact forGo_brk rfl hb
    · rw [if_neg hf] at hb
      obtain ⟨y4, y5, h⟩ := rowF_go (M := M) (i := i) (r := r) hl es (some (.p (.int e.1))) (some (.p (.str e.2)))
      refine ⟨y4, y5, ?_⟩
      simp only [rowF, hf]
      exact forGo_next rfl hb h
noncomputable def gsF (T : List (List (Int × Str))) : List (Slots → Option Slots) := (T.map rowP).mapIdx fun i d sl => aCons (aN 2) (aCons (aN 3) aNil) [.p (.int (i : Nat)), .p d] sl
theorem fm_loop {M : Int} {T : List (List (Int × Str))} (hT : T.length ≤ 100) : ∃ x2 x3 x4 x5, forGo (bCons (sFor (gV (aTup (aCons (aN 4) (aCons (aN 5) aNil))) (vSeq (xV 3))) inF elF) bNil) bNil (gsF T) [.ml []] [some (.p (.int M)), some (.c 0), none, none, none, none]
    = some (.next, [.ml ((T.mapIdx fun i es => rowF M i es).map .str)], [some (.p (.int M)), some (.c 0), x2, x3, x4, x5]) := by
  obtain ⟨mem', sl', hI, hF⟩ := for_inv0 (mem := [.ml []]) (sl := [some (.p (.int M)), some (.c 0), none, none, none, none])
    (gs := gsF T) (b := bCons (sFor (gV (aTup (aCons (aN 4) (aCons (aN 5) aNil))) (vSeq (xV 3))) inF elF) bNil)
    (fun i mem sl => mem = [.ml (((T.take i).mapIdx fun i es => rowF M i es).map .str)] ∧ ∃ x2 x3 x4 x5, sl = [some (.p (.int M)), some (.c 0), x2, x3, x4, x5])
    (by
      rintro i g mem sl hg ⟨rfl, x2, x3, x4, x5, rfl⟩
      unfold gsF at hg
      rw [List.getElem?_mapIdx, List.getElem?_map] at hg
      cases hx : T[i]? with
      | none => rw [hx] at hg; cases hg
      | some es =>
        rw [hx] at hg
        obtain rfl := soK hg
        obtain ⟨hi, hxe⟩ := List.getElem?_eq_some_iff.mp hx
        obtain ⟨y4, y5, h⟩ := rowF_go (M := M) (i := i) (r := some (.p (rowP es))) (l := ((T.take i).mapIdx fun i es => rowF M i es).map .str) (by simp; omega) es x4 x5
        refine ⟨_, _, _, rfl, ev_nil (ev_for (gs := (es.map fun e => V.p (.tup [.int e.1, .str e.2])).map (aTup (aCons (aN 4) (aCons (aN 5) aNil)))) ?_ h), ?_, _, _, _, _, rfl⟩
        · show some (((es.map fun e => P.tup [.int e.1, .str e.2]).map V.p).map _) = _
          rw [List.map_map (l := es)]; rfl
        · have e1 : (T.take i).length = i := by rw [List.length_take]; omega
          rw [List.take_add_one, hx, List.mapIdx_append]
          simp only [Option.toList_some, List.mapIdx_cons, List.mapIdx_nil, List.map_append, List.map_cons, List.map_nil, e1, Nat.zero_add])
    ⟨rfl, _, _, _, _, rfl⟩
  obtain ⟨rfl, x2, x3, x4, x5, rfl⟩ := hI
  have : (gsF T).length = T.length := by simp [gsF]
  rw [this, List.take_length] at hF
  exact ⟨_, _, _, _, hF⟩
theorem join_cell {x : Str} {l : List Str} (h : joinFit x l = true) : semJoin [.ml (l.map .str)] [.p (.str x), .c 0] = some (.p (.str (Txt.join x l))) := join_eval (m := []) h
theorem fm_evalT {M : Int} {m2 : Mem} {s2 : Slots} {g : List (Slots → Option Slots)} {b : SF} (hF : forGo b bNil g [.ml []] [some (.p (.int M)), some (.c 0), none, none, none, none] = some (.next, m2, s2)) {v : V} {it : XG} (hi : it [.ml []] [some (.p (.int M)), some (.c 0), none, none, none, none] = some g)
    {f : XF} (hv : f m2 s2 = some v) : ∃ m' s', bCons (sNew 1 (nList xNil)) (bCons (sFor it b bNil) (bCons (sRet f) bNil)) [] [some (.p (.int M)), none, none, none, none, none] = some (.ret v, m', s') :=
  ⟨_, _, ev_new (o := .ml []) rfl (ev_next (ev_for hi hF) (ev_ret hv))⟩
theorem fm_join {x0 x2 x3 x4 x5 : Option V} {l : List Str} (h : joinFit "" l = true) : xMeth "str" semJoin (xK (.str "")) (xCons (xV 1) xNil) [.ml (l.map .str)] [x0, some (.c 0), x2, x3, x4, x5] = some (.p (.str (Txt.join "" l))) := join_cell h
theorem fm_eval (m : Mem) (M : Int) (hj : joinFit "" (tabR.mapIdx fun i es => rowF M i es) = true) : S_filemode m [.p (.int M)] = some (.p (.str (fmode M))) := by
  obtain ⟨x2, x3, x4, x5, hF⟩ := fm_loop (M := M) (T := tabR) (by decide)
  unfold fmode
  generalize (tabR.mapIdx fun i es => rowF M i es) = l at *
  exact fn_ev (ds := [.int M]) rfl rfl (fm_evalT hF (it := gEnum (aCons (aN 2) (aCons (aN 3) aNil)) (xCons (xK tabP) xNil)) rfl (fm_join hj))
/- the modes: only the low bits tell -/
theorem and_low {b r m : Nat} (hb : b < 65536) (hm : m < 65536) : (b + 65536 * r) &&& m = b &&& m := by
  apply Nat.eq_of_testBit_eq
  intro i
  rw [Nat.testBit_and, Nat.testBit_and]
  have e : b + 65536 * r = 2 ^ 16 * r + b := by omega
  by_cases hi : i < 16
  · rw [e, Nat.testBit_two_pow_mul_add _ (by omega), if_pos hi]
  · have : m.testBit i = false := Nat.testBit_lt_two_pow (Nat.lt_of_lt_of_le (by omega : m < 2 ^ 16) (Nat.pow_le_pow_right (by omega) (by omega)))
    simp [this]
theorem bitAnd_low {b r m : Nat} (hb : b < 65536) (hm : m < 65536) : Builtin.bitAnd ((b : Int) + 65536 * (r : Int)) (m : Int) = Builtin.bitAnd (b : Int) (m : Int) := by
  have e : (b : Int) + 65536 * (r : Int) = ((b + 65536 * r : Nat) : Int) := by omega
  rw [e]
  show (((b + 65536 * r) &&& m : Nat) : Int) = ((b &&& m : Nat) : Int)
  rw [and_low hb hm]
theorem rowF_congr {M N : Int} {i : Nat} (h0 : Builtin.bitAnd M 61440 = Builtin.bitAnd N 61440) : ∀ (es : List (Int × Str)), (∀ e ∈ es, Builtin.bitAnd M e.1 = Builtin.bitAnd N e.1) → rowF M i es = rowF N i es
  | [], _ => rfl
  | e :: es, h => by
    have ih := rowF_congr (i := i) h0 es fun x hx => h x (List.mem_cons_of_mem _ hx)
    have : fits M i e.1 = fits N i e.1 := by unfold fits; rw [h0, h e List.mem_cons_self]
    simp only [rowF, this, ih]
theorem tab_ok : ∀ es ∈ tabR, ∀ e ∈ es, e.1 = ((e.1.toNat : Nat) : Int) ∧ e.1.toNat < 65536 := by decide +kernel
theorem rows_low {b r : Nat} (hb : b < 65536) : (tabR.mapIdx fun i es => rowF ((b : Int) + 65536 * (r : Int)) i es) = tabR.mapIdx fun i es => rowF (b : Int) i es := by
  apply List.ext_getElem?
  intro i
  rw [List.getElem?_mapIdx, List.getElem?_mapIdx]
  cases hx : tabR[i]? with
  | none => rfl
  | some es =>
    simp only [Option.map_some]
    congr 1
    refine rowF_congr (bitAnd_low (m := 61440) hb (by omega)) es fun e he => ?_
    obtain ⟨h1, h2⟩ := tab_ok es (List.mem_of_getElem? hx) e he
    rw [h1]
    exact bitAnd_low hb h2
/- the kinds' modes -/
noncomputable def KM : Nat → Nat
  | 0 => 16877
  | 1 => 18889
  | 2 => 33188
  | _ => 17407
theorem KM_ok : ∀ k < 4, fmode (KM k : Int) = MS k ∧ joinFit "" (tabR.mapIdx fun i es => rowF (KM k : Int) i es) = true ∧ KM k < 65536 := by decide +kernel
/- filemode of a kind's mode -/
theorem filemode_eval (m : Mem) {k : Nat} (hk : k < 4) (r : Nat) : S_filemode m [.p (.int ((KM k : Int) + 65536 * (r : Int)))] = some (.p (.str (MS k))) := by
  obtain ⟨h1, h2, h3⟩ := KM_ok k hk
  have h4 := rows_low (r := r) h3
  rw [fm_eval m _ (by rw [h4]; exact h2)]
  unfold fmode at h1 ⊢
  rw [h4, h1]
end Mine
end
section
open PySem.W
namespace Mine
open Classical

/- trees of six places: each but the root has its upper one before it -/
noncomputable def trs : List (List Nat) := [0, 1].flatMap fun a => [0, 1, 2].flatMap fun b => [0, 1, 2, 3].flatMap fun c => [0, 1, 2, 3, 4].map fun d => [0, 0, a, b, c, d]
noncomputable def up (A : List Nat) (k : Nat) : Nat := A.getD k 0
/- the places from below the root down to k -/
noncomputable def chn (A : List Nat) : Nat → Nat → List Nat
  | 0, _ => []
  | n + 1, k => if k = 0 then [] else chn A n (up A k) ++ [k]
noncomputable def ch (A : List Nat) (k : Nat) : List Nat := chn A 5 k
noncomputable def inCh (k : Nat) (X : List Nat) : Bool := (chains k).any fun Y => Y == X
noncomputable def trOk (A : List Nat) : Bool := A.length == 6 && up A 0 == 0 && ch A 0 == [] && [1, 2, 3, 4, 5].all fun k => decide (up A k < k) && ch A k == ch A (up A k) ++ [k] && inCh (k - 1) (ch A (up A k))
theorem trs_ok : trs.all trOk = true := by decide +kernel
structure Tr (A : List Nat) : Prop where
  len : A.length = 6
  up0 : up A 0 = 0
  ch0 : ch A 0 = []
  lt : ∀ k, 0 < k → k < 6 → up A k < k
  chk : ∀ k, 0 < k → k < 6 → ch A k = ch A (up A k) ++ [k]
  inc : ∀ k, 0 < k → k < 6 → ch A (up A k) ∈ chains (k - 1)
theorem inCh_at {k : Nat} {X : List Nat} (h : inCh k X = true) : X ∈ chains k := by
  obtain ⟨Y, h1, h2⟩ := List.any_eq_true.mp h
  rw [← eq_of_beq h2]; exact h1
theorem five {k : Nat} (h1 : 0 < k) (h2 : k < 6) : k ∈ [1, 2, 3, 4, 5] := by
  simp only [List.mem_cons, List.not_mem_nil, or_false]; omega
theorem tr_of {A : List Nat} (h : A ∈ trs) : Tr A := by
  have h1 := List.all_eq_true.mp trs_ok A h
  unfold trOk at h1
  simp only [Bool.and_eq_true, beq_iff_eq, List.all_eq_true, decide_eq_true_eq] at h1
  exact ⟨h1.1.1.1, h1.1.1.2, h1.1.2, fun k a b => (h1.2 k (five a b)).1.1, fun k a b => (h1.2 k (five a b)).1.2, fun k a b => inCh_at (h1.2 k (five a b)).2⟩
theorem chains_up : ∀ {j k : Nat} {X : List Nat}, j ≤ k → X ∈ chains j → X ∈ chains k
  | j, 0, X, h, hx => by have : j = 0 := by omega
                         subst this; exact hx
  | j, k + 1, X, h, hx => by
    by_cases e : j = k + 1
    · subst e; exact hx
    · exact List.mem_append_left _ (chains_up (k := k) (by omega) hx)
theorem Tr.inC {A : List Nat} (T : Tr A) {k : Nat} (h : k < 6) : ch A k ∈ chains 5 := by
  by_cases hk : k = 0
  · subst hk
    rw [T.ch0]; decide
  · rw [T.chk k (by omega) h]
    have := T.inc k (by omega) h
    have h2 : ch A (up A k) ++ [k] ∈ chains (k - 1 + 1) := by
      refine List.mem_append_right _ (List.mem_map.mpr ⟨_, this, ?_⟩)
      rw [show k - 1 + 1 = k from by omega]
    exact chains_up (by omega) h2
/- the data of a tree -/
noncomputable def natL (l : List Nat) : P := .lst (l.map fun n => .int (n : Nat))
noncomputable def pth (t : Nat) (A : List Nat) (k : Nat) : Str := pathC t (ch A k)
theorem jd_at {t : Nat} (ht : t < 6) : jd t = true := by
  match t, ht with
  | 0, _ => exact jd0
  | 1, _ => exact jd1
  | 2, _ => exact jd2
  | 3, _ => exact jd3
  | 4, _ => exact jd4
  | 5, _ => exact jd5
theorem cpf_at {t : Nat} (ht : t < 6) : cpf t = true := by
  match t, ht with
  | 0, _ => exact cpf0
  | 1, _ => exact cpf1
  | 2, _ => exact cpf2
  | 3, _ => exact cpf3
  | 4, _ => exact cpf4
  | 5, _ => exact cpf5
theorem jd_use {t k : Nat} {X : List Nat} (ht : t < 6) (h1 : 0 < k) (h2 : k < 6) (hX : X ∈ chains (k - 1)) :
    S_join [] [.p (.str (pathC t X)), .p (.str ⟨#[lett t k]⟩)] = some (.p (.str (pathC t (X ++ [k])))) ∧ S_dirname [] [.p (.str (pathC t (X ++ [k])))] = some (.p (.str (pathC t X))) := by
  have h := List.all_eq_true.mp (List.all_eq_true.mp (jd_at ht) k (five h1 h2)) X hX
  rw [Bool.and_eq_true] at h
  exact ⟨isStrV_at h.1, isStrV_at h.2⟩
theorem var_mem {k tot : Nat} {F : SF} (m : Mem) (vs : List V) : fnSem k tot F m vs = fnSem k tot F [] vs := rfl
theorem join_at {t k : Nat} {A : List Nat} (T : Tr A) (ht : t < 6) (h1 : 0 < k) (h2 : k < 6) : S_join [] [.p (.str (pth t A (up A k))), .p (.str ⟨#[lett t k]⟩)] = some (.p (.str (pth t A k))) := by
  rw [pth, pth, T.chk k h1 h2]; exact (jd_use ht h1 h2 (T.inc k h1 h2)).1
theorem dir_at {t k : Nat} {A : List Nat} (T : Tr A) (ht : t < 6) (h2 : k < 6) (m : Mem) : S_dirname m [.p (.str (pth t A k))] = some (.p (.str (pth t A (up A k)))) := by
  rw [show S_dirname m _ = S_dirname [] [.p (.str (pth t A k))] from rfl]
  by_cases hk : k = 0
  · subst hk
    rw [T.up0]
    unfold pth
    rw [T.ch0]; exact dirname_root
  · rw [pth, pth, T.chk k (by omega) h2]; exact (jd_use ht (by omega) h2 (T.inc k (by omega) h2)).2
/- a cell's item; one of a text -/
theorem sub_cell {mem : Mem} {c j : Nat} {l : List P} {d : P} (hm : mem[c]? = some (.ml l)) (h : l[j]? = some d) (hb : j < 2 ^ 60) : subV mem (.c c) (.p (.int j)) = some (.p d) := by
  have hj : j < l.length := (List.getElem?_eq_some_iff.mp h).1
  have hs : smallI (j : Int) = true := small_of (by omega) (by omega)
  simp only [subV, subI, subQ, hs, if_true, derP, derM, hm, Option.bind_some, seqIx hj, h, Option.map_some]
theorem natL_at {A : List Nat} {k : Nat} (h : A.length = 6) (hk : k < 6) : (A.map fun (n : Nat) => P.int (n : Nat))[k]? = some (.int (up A k)) := by
  rw [List.getElem?_map, up, List.getD_eq_getElem?_getD, List.getElem?_eq_getElem (by omega)]; rfl
theorem upto_at {a : Nat} {n i : Nat} {v : V} (h : (upto a n)[i]? = some v) : i < n ∧ v = .p (.int ((a + i : Nat) : Int)) := by
  unfold upto at h
  rw [List.getElem?_map] at h
  by_cases hi : i < n
  · rw [List.getElem?_range hi] at h
    obtain rfl := soK h
    refine ⟨hi, ?_⟩
    congr 2
  · rw [List.getElem?_eq_none (by simp; omega)] at h
    exact noK h
theorem gV_at {i : Nat} {it : XFs} {mem : Mem} {sl : Slots} {vs : List V} (h : it mem sl = some vs) : gV (aN i) it mem sl = some (vs.map (aN i)) := by
  simp only [gV, h, Option.map_some]
theorem gsel {i : Nat} {gs : List (Slots → Option Slots)} {a n : Nat} {j : Nat} {g : Slots → Option Slots} (h : ((upto a n).map (aN i))[j]? = some g) : j < n ∧ g = aN i (.p (.int ((a + j : Nat) : Int))) := by
  rw [List.getElem?_map] at h
  cases hx : (upto a n)[j]? with
  | none => rw [hx] at h; cases h
  | some v =>
    rw [hx] at h
    obtain ⟨h1, h2⟩ := upto_at hx
    obtain rfl := soK h
    exact ⟨h1, by rw [h2]⟩
theorem upto_len (a : Int) (n : Nat) : (upto a n).length = n := by simp [upto]
theorem call2 {sem : Mem → List V → Option V} {f g : XF} {mem : Mem} {sl : Slots} {x y v : V} (h1 : f mem sl = some x) (h2 : g mem sl = some y) (h3 : sem mem [x, y] = some v) : xCall sem (xCons f (xCons g xNil)) mem sl = some v := by
  simp only [xCall, xCons, xNil, h1, h2, Option.bind_some, Option.map_some, h3]
theorem call1 {sem : Mem → List V → Option V} {f : XF} {mem : Mem} {sl : Slots} {x v : V} (h1 : f mem sl = some x) (h3 : sem mem [x] = some v) : xCall sem (xCons f xNil) mem sl = some v := by
  simp only [xCall, xCons, xNil, h1, Option.bind_some, Option.map_some, h3]
theorem sub1 (i : Nat) : binP .Sub (.int ((1 + i : Nat) : Int)) (.int 1) = some (.int (i : Nat)) := by
  have : ((1 + i : Nat) : Int) - 1 = (i : Nat) := by omega
  exact congrArg (fun i => some (P.int i)) this
/- what stands for the names -/
noncomputable def Nms (t : Nat) (v : P) : Prop := ∀ (mem : Mem) (k : Nat), k < 5 → subV mem (.p v) (.p (.int k)) = some (.p (.str ⟨#[lett t (k + 1)]⟩))
noncomputable def pths (t : Nat) (A : List Nat) (n : Nat) : List P := (List.range n).map fun k => .str (pth t A k)
theorem paths_eval {t : Nat} {A : List Nat} {v : P} (T : Tr A) (ht : t < 6) (hv : Nms t v) (m : Mem) : S_paths m [.p (natL A), .p v] = some (.p (.lst (pths t A 6))) := by
  have hr : vRange (xCons (xK (.int 1)) (xCons (xK (.int 6)) xNil)) [.ml (pths t A 1)] [some (.p (natL A)), some (.p v), some (.c 0), none] = some (upto 1 5) := range2 (a := 1) (b := 6) rfl (by omega) (by omega) (by omega)
  obtain ⟨mem', sl', hI, hF⟩ := for_inv0 (mem := [.ml (pths t A 1)]) (sl := [some (.p (natL A)), some (.p v), some (.c 0), none]) (gs := (upto 1 5).map (aN 3))
    (b := bCons (sApp (xV 2) (xCall S_join (xCons (xSub (xV 2) (xSub (xV 0) (xV 3))) (xCons (xSub (xV 1) (xBin2 .Sub (xV 3) (xK (.int 1)))) xNil)))) bNil)
    (fun i mem sl => mem = [.ml (pths t A (i + 1))] ∧ ∃ x3, sl = [some (.p (natL A)), some (.p v), some (.c 0), x3])
    (by
      rintro i g mem sl hg ⟨rfl, x3, rfl⟩
      obtain ⟨hi, rfl⟩ := gsel (gs := []) (a := 1) hg
      have hk : 1 + i < 6 := by omega
      refine ⟨_, _, _, rfl, ev_nil (app_of (k := 0) (d := .str (pth t A (1 + i))) (l := pths t A (i + 1)) rfl ?_ rfl (by simp [pths]; omega)), ?_, _, rfl⟩
      · have e1 : xSub (xV 0) (xV 3) [.ml (pths t A (i + 1))] [some (.p (natL A)), some (.p v), some (.c 0), some (.p (.int ((1 + i : Nat) : Int)))] = some (.p (.int (up A (1 + i)))) := sub_of rfl rfl (sub_lst (natL_at T.len hk) (by omega))
        have hlt := T.lt (1 + i) (by omega) hk
        have e2 : xSub (xV 2) (xSub (xV 0) (xV 3)) [.ml (pths t A (i + 1))] [some (.p (natL A)), some (.p v), some (.c 0), some (.p (.int ((1 + i : Nat) : Int)))] = some (.p (.str (pth t A (up A (1 + i))))) := sub_of rfl e1 (sub_cell (l := pths t A (i + 1)) rfl (by unfold pths; rw [List.getElem?_map, List.getElem?_range (by omega)]; rfl) (by omega))
        have e3 : xBin2 .Sub (xV 3) (xK (.int 1)) [.ml (pths t A (i + 1))] [some (.p (natL A)), some (.p v), some (.c 0), some (.p (.int ((1 + i : Nat) : Int)))] = some (.p (.int (i : Nat))) := bin_of rfl rfl rfl rfl (sub1 i)
        have e5 : (⟨#[lett t (1 + i)]⟩ : Str) = ⟨#[lett t (i + 1)]⟩ := by rw [Nat.add_comm]
        have e4 : xSub (xV 1) (xBin2 .Sub (xV 3) (xK (.int 1))) [.ml (pths t A (i + 1))] [some (.p (natL A)), some (.p v), some (.c 0), some (.p (.int ((1 + i : Nat) : Int)))] = some (.p (.str ⟨#[lett t (1 + i)]⟩)) :=
          sub_of rfl e3 (e5 ▸ hv _ i (by omega))
        exact call2 e2 e4 (join_at T ht (by omega) hk)
      · show [MO.ml (pths t A (i + 1) ++ [P.str (pth t A (1 + i))])] = _
        unfold pths
        rw [List.range_succ (n := i + 1), List.map_append, show 1 + i = i + 1 from by omega]; rfl)
    ⟨rfl, none, rfl⟩
  obtain ⟨rfl, x3, rfl⟩ := hI
  rw [List.length_map, upto_len] at hF
  have h0 : nList (xCons (xK (.str "/")) xNil) [] [some (.p (natL A)), some (.p v), none, none] = some (.ml (pths t A 1)) := by
    have : pths t A 1 = [.str "/"] := by
      show [P.str (pathC t (ch A 0))] = _
      rw [T.ch0]; rfl
    rw [this]; rfl
  exact fn_eval (ds := [natL A, v]) rfl rfl (ev_new h0 (ev_next (ev_for (gV_at hr) hF) (ev_ret (v := .c 0) rfl))) rfl
end Mine
end
section
open PySem.W
namespace Mine

/- commonpath of two places' paths -/
noncomputable def lcpN : List Nat → List Nat → List Nat
  | c :: cs, d :: ds => if c = d then c :: lcpN cs ds else []
  | _, _ => []
theorem lett_inj : ∀ t < 6, ∀ i < 6, ∀ k < 6, (0 < i ∧ 0 < k ∧ lett t i = lett t k) → i = k := by decide +kernel
theorem chains_lt : (chains 5).all (fun X => X.all fun k => decide (0 < k) && decide (k < 6)) = true := by decide +kernel
theorem lcp_in : (chains 5).all (fun X => (chains 5).all fun Y => inCh 5 (lcpN X Y)) = true := by decide +kernel
theorem lcp_comps {t : Nat} (ht : t < 6) : ∀ {X Y : List Nat}, (∀ k ∈ X, 0 < k ∧ k < 6) → (∀ k ∈ Y, 0 < k ∧ k < 6) → lcpL (compsC t X) (compsC t Y) = compsC t (lcpN X Y)
  | [], Y, _, _ => by cases Y <;> rfl
  | x :: X, [], _, _ => rfl
  | x :: X, y :: Y, h1, h2 => by
    show (if (⟨#[lett t x]⟩ : Str) = ⟨#[lett t y]⟩ then _ else _) = _
    by_cases e : x = y
    · subst e
      rw [if_pos rfl]
      have e2 : lcpN (x :: X) (x :: Y) = x :: lcpN X Y := by simp [lcpN]
      rw [e2]
      show _ :: lcpL (compsC t X) (compsC t Y) = _
      rw [lcp_comps ht (fun k hk => h1 k (List.mem_cons_of_mem _ hk)) fun k hk => h2 k (List.mem_cons_of_mem _ hk)]; rfl
    · have hx := h1 x List.mem_cons_self
      have hy := h2 y List.mem_cons_self
      rw [if_neg fun q => e (lett_inj t ht x hx.2 y hy.2 ⟨hx.1, hy.1, by injection q with q; simpa using q⟩)]
      have e2 : lcpN (x :: X) (y :: Y) = [] := by simp [lcpN, e]
      rw [e2]; rfl
theorem mem_lt {X : List Nat} (h : X ∈ chains 5) : ∀ k ∈ X, 0 < k ∧ k < 6 := fun k hk => by
  have := List.all_eq_true.mp (List.all_eq_true.mp chains_lt X h) k hk
  simpa using this
theorem pathS {t : Nat} {X : List Nat} (ht : t < 6) (h : X ∈ chains 5) : PathS (pathC t X) (compsC t X) ∧ ("/" ++ Txt.join "/" (compsC t X) : Str) = pathC t X := by
  have := List.all_eq_true.mp (cpf_at ht) X h
  simp only [Bool.and_eq_true, decide_eq_true_eq, beq_iff_eq, List.all_eq_true] at this
  obtain ⟨⟨⟨⟨⟨h1, h2⟩, h3⟩, h4⟩, h5⟩, h6⟩ := this
  exact ⟨⟨h1, h2, h3, h4, h5⟩, h6⟩
theorem app_len (x y : Str) : (x ++ y).length = x.length + y.length := by
  show (x.cps ++ y.cps).size = x.cps.size + y.cps.size
  rw [Array.size_append]
theorem chains_len : (chains 5).all (fun X => decide (X.length ≤ 5)) = true := by decide +kernel
theorem cp_at {t : Nat} {X Y : List Nat} (ht : t < 6) (hX : X ∈ chains 5) (hY : Y ∈ chains 5) (m : Mem) : S_commonpath m [.p (.lst [.str (pathC t X), .str (pathC t Y)])] = some (.p (.str (pathC t (lcpN X Y)))) := by
  have hZ : lcpN X Y ∈ chains 5 := inCh_at (List.all_eq_true.mp (List.all_eq_true.mp lcp_in X hX) Y hY)
  have e := lcp_comps ht (mem_lt hX) (mem_lt hY)
  obtain ⟨p1, p2⟩ := pathS ht hZ
  have hl := p1.len
  rw [← p2, app_len] at hl
  have hn : (lcpN X Y).length ≤ 5 := of_decide_eq_true (List.all_eq_true.mp chains_len _ hZ)
  have hs : ∀ Z : List Nat, ((compsC t Z).map (·.length)).sum = Z.length := fun Z => by
    induction Z with
    | nil => rfl
    | cons a Z ih =>
      show 1 + ((compsC t Z).map (·.length)).sum = _
      rw [ih, List.length_cons, Nat.add_comm]
  have h1 : (Str.ofString "/").length = 1 := by decide +kernel
  have hc : (compsC t (lcpN X Y)).length = (lcpN X Y).length := by simp [compsC]
  have := cp_eval (m := m) (pathS ht hX).1 (pathS ht hY).1 (by rw [e]; omega) (by
    rw [e]
    unfold joinFit
    rw [hs, hc, h1]
    exact decide_eq_true (by omega))
  rw [this, e, p2]
end Mine
end
section
open PySem.W
namespace Mine

/- the forms of the places -/
noncomputable def kids (A : List Nat) (k : Nat) : List Nat := (List.range' 1 5).filter fun c => up A c == k
noncomputable def obj (A : List Nat) (kd : Nat → Nat) : Nat → Nat → P
  | 0, k => frm (kd k) []
  | n + 1, k => frm (kd k) (srt (key 7) ((kids A k).map (obj A kd n)))
noncomputable def obO (A : List Nat) (kd : Nat → Nat) (k : Nat) : P := obj A kd 6 k
theorem mem_kids {A : List Nat} {k c : Nat} (h : c ∈ kids A k) : 0 < c ∧ c < 6 ∧ up A c = k := by
  unfold kids at h
  rw [List.mem_filter, List.mem_range'_1] at h
  exact ⟨by omega, by omega, eq_of_beq h.2⟩
theorem kids_lt {A : List Nat} (T : Tr A) {k c : Nat} (h : c ∈ kids A k) : k < c ∧ c < 6 := by
  obtain ⟨h1, h2, h3⟩ := mem_kids h
  have := T.lt c h1 h2
  omega
theorem obj_fuel {A : List Nat} {kd : Nat → Nat} (T : Tr A) : ∀ (n m k : Nat), k < 6 → 6 ≤ n + k → 6 ≤ m + k → obj A kd n k = obj A kd m k
  | 0, _, k, h1, h2, _ => by omega
  | n + 1, 0, k, h1, _, h3 => by omega
  | n + 1, m + 1, k, h1, h2, h3 => by
    unfold obj
    congr 2
    refine List.map_congr_left fun c hc => ?_
    have := kids_lt T hc
    exact obj_fuel T n m c (by omega) (by omega) (by omega)
theorem obO_eq {A : List Nat} {kd : Nat → Nat} (T : Tr A) {k : Nat} (h : k < 6) : obO A kd k = frm (kd k) (srt (key 7) ((kids A k).map (obO A kd))) := by
  show frm (kd k) (srt (key 7) ((kids A k).map (obj A kd 5))) = _
  congr 2
  refine List.map_congr_left fun c hc => ?_
  have := kids_lt T hc
  exact obj_fuel T 5 6 c (by omega) (by omega) (by omega)
theorem obj_form {A : List Nat} {kd : Nat → Nat} (hk : ∀ k, kd k < 4) : ∀ n k, Form (n + 1) (obj A kd n k)
  | 0, k => ⟨kd k, [], hk k, rfl, fun c hc => nomatch hc⟩
  | n + 1, k => ⟨kd k, _, hk k, rfl, fun c hc => by
    obtain ⟨x, _, rfl⟩ := List.mem_map.mp ((srt_perm _ _).mem_iff.mp hc)
    exact obj_form hk n x⟩
/- forms are of this depth -/
noncomputable abbrev F7 : P → Prop := Form 7
theorem obO_form {A : List Nat} {kd : Nat → Nat} (hk : ∀ k, kd k < 4) (k : Nat) : F7 (obO A kd k) := obj_form hk 6 k
theorem K7 : Keyed (key 7) F7 := keyed_form (by omega)
theorem kids_len (A : List Nat) (k : Nat) : (kids A k).length ≤ 5 := by
  have := List.length_filter_le (fun c => up A c == k) (List.range' 1 5)
  rw [List.length_range'] at this
  exact this
theorem kids_from {A : List Nat} (T : Tr A) {k : Nat} (h : k < 6) : (List.range' (k + 1) (5 - k)).filter (fun c => up A c == k) = kids A k := by
  have e : List.range' 1 5 = List.range' 1 k ++ List.range' (k + 1) (5 - k) := by
    have := List.range'_append_1 (s := 1) (m := k) (n := 5 - k)
    rw [show 1 + k = k + 1 from by omega, show k + (5 - k) = 5 from by omega] at this
    exact this.symm
  unfold kids
  have e0 : (List.range' 1 k).filter (fun c => up A c == k) = [] := List.filter_eq_nil_iff.mpr fun c hc => ?_
  · rw [e, List.filter_append, e0, List.nil_append]
  rw [List.mem_range'_1] at hc
  have := T.lt c (by omega) (by omega)
  simp only [beq_iff_eq]
  omega
/- comprehensions along plain items -/
theorem comp_on {α : Type} {mem : Mem} {base : Slots} {t : TF} {f : XF} {e : α → V} {p : α → Bool} {g : α → P} : ∀ {l : List α}, (∀ a ∈ l, t mem (base ++ [some (e a)]) = some (p a) ∧ (p a = true → f mem (base ++ [some (e a)]) = some (.p (g a)))) → compGo mem base t f (l.map e) = some ((l.filter p).map g)
  | [], _ => rfl
  | v :: vs, h => by
    obtain ⟨h1, h2⟩ := h v List.mem_cons_self
    have ih := comp_on (l := vs) fun x hx => h x (List.mem_cons_of_mem _ hx)
    show (t mem (base ++ [some (e v)])).bind _ = _
    rw [h1]
    cases hp : p v with
    | false =>
      rw [List.filter_cons_of_neg (by simp [hp])]
      exact ih
    | true =>
      rw [List.filter_cons_of_pos hp]
      simp only [Option.bind_some, if_true, h2 hp, ih, Option.map_some, List.map_cons]
theorem xcomp_on {α : Type} {cap : List Nat} {it : XFs} {mem : Mem} {sl : Slots} {t : TF} {f : XF} {cv : List V} {l : List α} (e : α → V) (p : α → Bool) (g : α → P) (h1 : capV cap sl = some cv) (h2 : it mem sl = some (l.map e)) (h3 : l.length ≤ 100)
    (h : ∀ a ∈ l, t mem (cv.map some ++ [some (e a)]) = some (p a) ∧ (p a = true → f mem (cv.map some ++ [some (e a)]) = some (.p (g a)))) : xComp cap it t f mem sl = some (.p (.lst ((l.filter p).map g))) := by
  simp only [xComp, compV, h1, h2, Option.bind_some, List.length_map, len_ok h3, if_true, comp_on h, Option.map_some]
noncomputable def vI (n : Nat) : V := .p (.int (n : Nat))
theorem upto_range (a n : Nat) : upto a n = (List.range' a n).map vI := by
  unfold upto vI
  rw [List.range'_eq_map_range, List.map_map]
  rfl
theorem rangeN {f : XFs} {mem : Mem} {sl : Slots} {a b : Nat} (h : f mem sl = some [.p (.int (a : Nat)), .p (.int (b : Nat))]) (hab : a ≤ b) (hb : b ≤ 100) : vRange f mem sl = some ((List.range' a (b - a)).map vI) := by
  rw [range2 h (by omega) (by omega) (by omega), ← upto_range]
  congr 2
  omega
noncomputable def vDown : XFs := vRange (xCons (xK (.int 5)) (xCons (xNeg (xK (.int 1))) (xCons (xNeg (xK (.int 1))) xNil)))
theorem down_eval (mem : Mem) (sl : Slots) : vDown mem sl = some ([5, 4, 3, 2, 1, 0].map vI) := by
  have : rangeL 5 (-1) (Builtin.Range.rangeSize 5 (-1) (-1)).toNat = [5, 4, 3, 2, 1, 0].map vI := by rfl
  rw [← this]; rfl
theorem dsel {i : Nat} {j : Nat} {g : Slots → Option Slots} (h : (([5, 4, 3, 2, 1, 0].map vI).map (aN i))[j]? = some g) : j < 6 ∧ g = aN i (vI (5 - j)) := by
  have hj : j < 6 := by
    have := (List.getElem?_eq_some_iff.mp h).1
    simpa using this
  refine ⟨hj, ?_⟩
  match j, hj with
  | 0, _ => obtain rfl := soK h; rfl
  | 1, _ => obtain rfl := soK h; rfl
  | 2, _ => obtain rfl := soK h; rfl
  | 3, _ => obtain rfl := soK h; rfl
  | 4, _ => obtain rfl := soK h; rfl
  | 5, _ => obtain rfl := soK h; rfl
/- the kinds -/
structure Kd (L : List Nat) : Prop where
  len : L.length = 6
  lt : ∀ k, up L k < 4
end Mine
end
section
open PySem.W
namespace Mine

/- _law_own_forms -/
theorem store_int {e o i : XF} {mem : Mem} {sl : Slots} {d : P} {k j : Nat} {l : List P} (h1 : e mem sl = some (.p d)) (h2 : o mem sl = some (.c k)) (h3 : i mem sl = some (.p (.int (j : Nat)))) (h4 : mem[k]? = some (.ml l)) (hj : j < l.length) (hl : l.length ≤ 100) :
    sStore e o i mem sl = some (.next, mem.set k (.ml (l.set j d)), sl) := by
  have : (decide ((0 : Int) ≤ (j : Nat)) && decide (((j : Nat) : Int) < l.length) && lenOk l.length) = true := by
    rw [len_ok hl, decide_eq_true (by omega), decide_eq_true (by omega)]; rfl
  simp only [sStore, cellV, datV, storeV, intD, h1, h2, h3, Option.bind_some, h4, this, if_true, Option.map_some, Int.toNat_natCast]
theorem list2 {f g : XF} {mem : Mem} {sl : Slots} {a b : P} (h1 : f mem sl = some (.p a)) (h2 : g mem sl = some (.p b)) : xList (xCons f (xCons g xNil)) mem sl = some (.p (.lst [a, b])) := by
  simp only [xList, xCons, xNil, h1, h2, Option.bind_some, Option.map_some]; rfl
theorem sorted_at {κ : P → List Nat} {S : P → Prop} (K : Keyed κ S) {l : List P} (hs : ∀ x ∈ l, S x) {T : String} (hT : ∀ x ∈ l, tyOf x = some T) (hn : l.length ≤ 5 ∨ (l.length = 6 ∧ l.Nodup)) (m : Mem) : semSorted m [.p (.lst l)] = some (.p (.lst (srt κ l))) := by
  show (sortP l).map _ = _
  rw [sortP_srt K hs hT hn]; rfl
theorem tyF {x : P} (h : F7 x) : tyOf x = some "list" := by
  obtain ⟨k, cs, _, rfl, _⟩ := h; rfl
theorem nat_sub {A : List Nat} {mem : Mem} {sl : Slots} {f g : XF} {k : Nat} (h : A.length = 6) (hk : k < 6) (h1 : f mem sl = some (.p (natL A))) (h2 : g mem sl = some (vI k)) : xSub f g mem sl = some (vI (up A k)) := sub_of h1 h2 (sub_lst (natL_at h hk) (by omega))
theorem teq_nat {f g : XF} {mem : Mem} {sl : Slots} {a b : Nat} (h1 : f mem sl = some (vI a)) (h2 : g mem sl = some (vI b)) : tCmp .Eq f g mem sl = some (a == b) := by
  rw [teq_int h1 h2]
  congr 1
  rw [Bool.eq_iff_iff]
  simp only [decide_eq_true_eq, beq_iff_eq]
  omega
theorem ms_at : ∀ k < 4, ([.str "drwxr-xr-x", .str "drws--x--x", .str "-rw-r--r--", .str "drwxrwxrwt"] : List P)[k]? = some (.str (MS k))
  | 0, _ => rfl
  | 1, _ => rfl
  | 2, _ => rfl
  | 3, _ => rfl
noncomputable def ownL (A : List Nat) (kd : Nat → Nat) (n : Nat) : List P := (List.range 6).map fun j => if n ≤ j then obO A kd j else .lst []
theorem ownL_at {A : List Nat} {kd : Nat → Nat} {n j : Nat} (h : n ≤ j) (hj : j < 6) : (ownL A kd n)[j]? = some (obO A kd j) := by
  unfold ownL
  rw [List.getElem?_map, List.getElem?_range hj]
  simp only [Option.map_some, h, if_true]
theorem ownL_set (A : List Nat) (kd : Nat → Nat) {n : Nat} (h : n < 6) : (ownL A kd (n + 1)).set n (obO A kd n) = ownL A kd n := by
  apply List.ext_getElem?
  intro j
  unfold ownL
  rw [List.getElem?_set]
  by_cases hj : n = j
  · subst hj
    simp [h]
  · simp only [hj, if_false, List.getElem?_map]
    cases hx : (List.range 6)[j]? with
    | none => rfl
    | some i =>
      have : i = j := by
        have := List.getElem?_eq_some_iff.mp hx
        obtain ⟨h1, h2⟩ := this
        rw [List.getElem_range] at h2
        exact h2.symm
      subst this
      simp only [Option.map_some]
      congr 1
      by_cases h1 : n ≤ i
      · rw [if_pos h1, if_pos (by omega)]
      · rw [if_neg h1, if_neg (by omega)]
noncomputable def ownP (A : List Nat) (kd : Nat → Nat) : P := .lst (ownL A kd 0)
noncomputable def bOwn : SF := bCons (sSet 4 (xCall semSorted (xCons (xComp [0, 3, 2] (vRange (xCons (xBin2 .Add (xV 3) (xK (.int 1))) (xCons (xK (.int 6)) xNil))) (tCmp .Eq (xSub (xV 0) (xV 3)) (xV 1)) (xSub (xV 2) (xV 3))) xNil))) (bCons (sStore (xList (xCons (xSub (xList (xCons (xK (.str "drwxr-xr-x")) (xCons (xK (.str "drws--x--x")) (xCons (xK (.str "-rw-r--r--")) (xCons (xK (.str "drwxrwxrwt")) xNil))))) (xSub (xV 1) (xV 3))) (xCons (xV 4) xNil))) (xV 2) (xV 3)) bNil)
theorem add1 (k : Nat) : binP .Add (.int (k : Nat)) (.int 1) = some (.int ((k + 1 : Nat) : Int)) := by
  have : (k : Int) + 1 = ((k + 1 : Nat) : Int) := by omega
  exact congrArg (fun i => some (P.int i)) this
theorem own_eval {A L : List Nat} (T : Tr A) (hL : Kd L) (m : Mem) : S_own_forms m [.p (natL A), .p (natL L)] = some (.p (ownP A (up L))) := by
  obtain ⟨mem', sl', hI, hF⟩ := for_inv0 (mem := [.ml (ownL A (up L) 6)]) (sl := [some (.p (natL A)), some (.p (natL L)), some (.c 0), none, none]) (gs := ([5, 4, 3, 2, 1, 0].map vI).map (aN 3)) (b := bOwn)
    (fun i mem sl => mem = [.ml (ownL A (up L) (6 - i))] ∧ ∃ x3 x4, sl = [some (.p (natL A)), some (.p (natL L)), some (.c 0), x3, x4])
    (by
      rintro i g mem sl hg ⟨rfl, x3, x4, rfl⟩
      obtain ⟨hi, rfl⟩ := dsel hg
      obtain ⟨k, hk⟩ : ∃ k, k = 5 - i := ⟨_, rfl⟩
      have hk6 : k < 6 := by omega
      rw [show 6 - i = k + 1 from by omega, show 6 - (i + 1) = k from by omega, ← hk]
      have hc : xComp [0, 3, 2] (vRange (xCons (xBin2 .Add (xV 3) (xK (.int 1))) (xCons (xK (.int 6)) xNil))) (tCmp .Eq (xSub (xV 0) (xV 3)) (xV 1)) (xSub (xV 2) (xV 3)) [.ml (ownL A (up L) (k + 1))] [some (.p (natL A)), some (.p (natL L)), some (.c 0), some (vI k), x4] = some (.p (.lst ((kids A k).map (obO A (up L))))) := by
        rw [← kids_from T hk6]
        refine xcomp_on vI _ _ (cv := [.p (natL A), vI k, .c 0]) (l := List.range' (k + 1) (5 - k)) rfl ?_ (by simp; omega) fun c hc => ?_
        · have : xCons (xBin2 .Add (xV 3) (xK (.int 1))) (xCons (xK (.int 6)) xNil) [.ml (ownL A (up L) (k + 1))] [some (.p (natL A)), some (.p (natL L)), some (.c 0), some (vI k), x4] = some [vI (k + 1), vI 6] := by
            have h1 : xBin2 .Add (xV 3) (xK (.int 1)) [.ml (ownL A (up L) (k + 1))] [some (.p (natL A)), some (.p (natL L)), some (.c 0), some (vI k), x4] = some (vI (k + 1)) := bin_of rfl rfl rfl rfl (add1 k)
            simp only [xCons, xNil, h1, Option.bind_some, Option.map_some]; rfl
          rw [show 5 - k = 6 - (k + 1) from by omega]
          exact rangeN this (by omega) (by omega)
        · rw [List.mem_range'_1] at hc
          exact ⟨teq_nat (nat_sub T.len (by omega) rfl rfl) rfl, fun _ => sub_of rfl rfl (sub_cell rfl (ownL_at (by omega) (by omega)) (by omega))⟩
      have hF : ∀ x ∈ (kids A k).map (obO A (up L)), F7 x := fun x hx => by
        obtain ⟨c, _, rfl⟩ := List.mem_map.mp hx
        exact obO_form hL.lt c
      have hs : xCall semSorted (xCons (xComp [0, 3, 2] (vRange (xCons (xBin2 .Add (xV 3) (xK (.int 1))) (xCons (xK (.int 6)) xNil))) (tCmp .Eq (xSub (xV 0) (xV 3)) (xV 1)) (xSub (xV 2) (xV 3))) xNil) [.ml (ownL A (up L) (k + 1))] [some (.p (natL A)), some (.p (natL L)), some (.c 0), some (vI k), x4] = some (.p (.lst (srt (key 7) ((kids A k).map (obO A (up L)))))) :=
        call1 hc (sorted_at K7 hF (fun x hx => tyF (hF x hx)) (.inl (by rw [List.length_map]; exact kids_len A k)) _)
      refine ⟨_, _, _, rfl, ev_set hs (ev_nil (store_int (d := obO A (up L) k) (k := 0) (j := k) (l := ownL A (up L) (k + 1)) ?_ rfl rfl rfl (by simp [ownL]; omega) (by simp [ownL]))), ?_, _, _, rfl⟩
      · rw [obO_eq T hk6]
        exact list2 (sub_of rfl (nat_sub hL.len hk6 rfl rfl) (sub_lst (ms_at _ (hL.lt k)) (by have := hL.lt k; omega))) rfl
      · show [MO.ml _] = _
        rw [ownL_set A (up L) hk6])
    ⟨rfl, none, none, rfl⟩
  obtain ⟨rfl, x3, x4, rfl⟩ := hI
  exact fn_eval (ds := [natL A, natL L]) rfl rfl (ev_new (o := .ml (ownL A (up L) 6)) rfl (ev_next (ev_for (gV_at (down_eval _ _)) hF) (ev_ret (v := .c 0) rfl))) rfl
end Mine
end
section
open PySem.W
namespace Mine

/- texts in order; the places' paths -/
noncomputable def kstr : P → List Nat
  | .str s => s.cps.toList
  | _ => []
noncomputable def isSt (d : P) : Prop := ∃ s : Str, d = .str s
theorem keyed_str : Keyed kstr isSt where
  eq := by rintro _ _ ⟨a, rfl⟩ ⟨b, rfl⟩; exact (eqS 39 a b).trans (by congr)
  cmp := by rintro gt _ _ ⟨a, rfl⟩ ⟨b, rfl⟩; cases gt <;> rfl
  inj := by
    rintro _ _ ⟨a, rfl⟩ ⟨b, rfl⟩ h
    cases a; cases b
    congr 2
    exact Array.toList_inj.mp h
theorem pathC_inj {t : Nat} {X Y : List Nat} (ht : t < 6) (hX : X ∈ chains 5) (hY : Y ∈ chains 5) (h : pathC t X = pathC t Y) : X = Y := by
  have h1 := (pathS ht hX).1.fil
  have h2 := (pathS ht hY).1.fil
  rw [h, h2] at h1
  have : ∀ {X Y : List Nat}, (∀ k ∈ X, 0 < k ∧ k < 6) → (∀ k ∈ Y, 0 < k ∧ k < 6) → compsC t Y = compsC t X → X = Y := by
    intro X
    induction X with
    | nil => intro Y _ _ h; cases Y with
      | nil => rfl
      | cons y Y => cases h
    | cons x X ih =>
      intro Y h1 h2 h
      cases Y with
      | nil => cases h
      | cons y Y =>
        have hx := h1 x List.mem_cons_self
        have hy := h2 y List.mem_cons_self
        injection h with h3 h4
        have h5 : lett t y = lett t x := by injection h3 with h3; simpa using h3
        rw [lett_inj t ht y hy.2 x hx.2 ⟨hy.1, hx.1, h5⟩, ih (fun k hk => h1 k (List.mem_cons_of_mem _ hk)) (fun k hk => h2 k (List.mem_cons_of_mem _ hk)) h4]
  exact this (mem_lt hX) (mem_lt hY) h1
theorem Tr.chne {A : List Nat} (T : Tr A) {k : Nat} (h0 : 0 < k) (h : k < 6) : (ch A k).getLast? = some k := by
  rw [T.chk k h0 h]; simp
theorem ch_inj {A : List Nat} (T : Tr A) {i k : Nat} (hi : i < 6) (hk : k < 6) (h : ch A i = ch A k) : i = k := by
  by_cases h0 : i = 0
  · by_cases h1 : k = 0
    · omega
    · have := T.chne (k := k) (by omega) hk
      rw [← h, h0, T.ch0] at this
      exact noK this
  · have e1 := T.chne (k := i) (by omega) hi
    by_cases h1 : k = 0
    · rw [h, h1, T.ch0] at e1
      exact noK e1
    · have e2 := T.chne (k := k) (by omega) hk
      rw [h, e2] at e1
      obtain rfl := soK e1; rfl
theorem pth_inj {t : Nat} {A : List Nat} (T : Tr A) (ht : t < 6) {i k : Nat} (hi : i < 6) (hk : k < 6) (h : pth t A i = pth t A k) : i = k :=
  ch_inj T hi hk (pathC_inj ht (T.inC hi) (T.inC hk) h)
theorem pathC_cps (t : Nat) (X : List Nat) (k : Nat) : (pathC t X).cps.toList < (pathC t (X ++ [k])).cps.toList := by
  have e : (pathC t (X ++ [k])).cps.toList = (X ++ [k]).flatMap fun k => [47, lett t k] := by
    cases X <;> rfl
  rw [e]
  have hp : ∀ (l : List Nat) (a : Nat) (r : List Nat), l < l ++ a :: r := by
    intro l a r
    induction l with
    | nil => simp
    | cons b l ih => rw [List.cons_append, List.cons_lt_cons_iff]; exact .inr ⟨rfl, ih⟩
  cases X with
  | nil =>
    have : (pathC t []).cps.toList = [47] := by
      show ("/" : Str).cps.toList = [47]
      decide +kernel
    rw [this]
    exact hp [47] (lett t k) []
  | cons x X =>
    rw [List.flatMap_append]
    exact hp _ 47 [lett t k]
theorem pth_lt {t : Nat} {A : List Nat} (T : Tr A) {c : Nat} (h0 : 0 < c) (h : c < 6) : kstr (.str (pth t A (up A c))) < kstr (.str (pth t A c)) := by
  show (pathC t (ch A (up A c))).cps.toList < (pathC t (ch A c)).cps.toList
  rw [T.chk c h0 h]
  exact pathC_cps t _ c
/- turned back -/
theorem perm_map_inv {α β : Type} {f : α → β} {l m : List β} (h : l.Perm m) : ∀ r : List α, m = r.map f → ∃ q : List α, l = q.map f ∧ q.Perm r := by
  induction h with
  | nil => intro r h; exact ⟨[], rfl, by cases r with | nil => exact .refl _ | cons a r => cases h⟩
  | cons x _ ih =>
    intro r h
    cases r with
    | nil => cases h
    | cons a r =>
      injection h with h1 h2
      obtain ⟨q, e, hp⟩ := ih r h2
      exact ⟨a :: q, by rw [List.map_cons, ← h1, e], hp.cons a⟩
  | swap x y l =>
    intro r h
    match r, h with
    | a :: b :: r, h =>
      injection h with h1 h2
      injection h2 with h2 h3
      exact ⟨b :: a :: r, by rw [List.map_cons, List.map_cons, ← h1, ← h2, ← h3], .swap a b r⟩
  | trans _ _ ih1 ih2 =>
    intro r h
    obtain ⟨q, e, hq⟩ := ih2 r h
    obtain ⟨q', e', hq'⟩ := ih1 q e
    exact ⟨q', e', hq'.trans hq⟩
/- the places in the order in which the forms are made -/
theorem order_ex {t : Nat} {A : List Nat} (T : Tr A) (ht : t < 6) : ∃ R : List Nat, (srt kstr (pths t A 6)).reverse = R.map (fun k => P.str (pth t A k)) ∧ R.Perm (List.range 6) ∧ ∀ done k rest, R = done ++ k :: rest → ∀ c ∈ kids A k, c ∈ done := by
  obtain ⟨R, e, hp⟩ := perm_map_inv (f := fun k => P.str (pth t A k)) ((List.reverse_perm _).trans (srt_perm kstr (pths t A 6))) (List.range 6) rfl
  refine ⟨R, e, hp, fun done k rest hR c hc => ?_⟩
  obtain ⟨h1, h2, h3⟩ := mem_kids hc
  have hcR : c ∈ R := hp.mem_iff.mpr (List.mem_range.mpr h2)
  have hs : (R.map fun k => P.str (pth t A k)).Pairwise fun a b => ¬ kstr a < kstr b := by
    rw [← e, List.pairwise_reverse]
    exact srt_srt kstr _
  rw [hR] at hcR
  rcases List.mem_append.mp hcR with h | h
  · exact h
  · exfalso
    have hlt := pth_lt (t := t) T h1 h2
    rw [h3] at hlt
    rcases List.mem_cons.mp h with h | h
    · have := T.lt c h1 h2
      omega
    · rw [hR, List.map_append, List.pairwise_append] at hs
      have := (List.pairwise_cons.mp hs.2.1).1 (.str (pth t A c)) (List.mem_map.mpr ⟨c, h, rfl⟩)
      exact this hlt
end Mine
end
section
open PySem.W
namespace Mine

/- _law_forms -/
theorem idx6 : ∀ k < 6, ((List.range 6).map fun i => decide (i = k)).findIdx? id = some k := by decide +kernel
open Classical
theorem eqM {S : P → Prop} {κ : P → List Nat} (K : Keyed κ S) {d : P} (hd : S d) : ∀ {l : List P}, (∀ x ∈ l, S x) → l.mapM (fun q => eqP deep q d) = some (l.map fun q => decide (q = d))
  | [], _ => rfl
  | x :: l, h => by
    have h1 : eqP deep x d = some (decide (x = d)) := (K.eq x d (h x List.mem_cons_self) hd).trans (by congr)
    rw [List.mapM_cons, eqM K hd fun y hy => h y (List.mem_cons_of_mem _ hy), h1]; rfl
theorem index_pth {t : Nat} {A : List Nat} (T : Tr A) (ht : t < 6) {k : Nat} (hk : k < 6) (m : Mem) : semIndex m [.p (.lst (pths t A 6)), .p (.str (pth t A k))] = some (vI k) := by
  have h1 := eqM keyed_str (d := .str (pth t A k)) ⟨_, rfl⟩ (l := pths t A 6) fun x hx => by
    obtain ⟨c, _, rfl⟩ := List.mem_map.mp hx
    exact ⟨_, rfl⟩
  have h2 : (pths t A 6).map (fun q => decide (q = P.str (pth t A k))) = (List.range 6).map fun i => decide (i = k) := by
    unfold pths
    rw [List.map_map]
    refine List.map_congr_left fun i hi => ?_
    rw [List.mem_range] at hi
    refine decide_eq_decide.mpr ⟨fun e => pth_inj T ht hi hk (by injection e), fun e => by rw [e]⟩
  have hl : lenOk (pths t A 6).length = true := len_ok (by simp [pths])
  simp only [semIndex, two, one, lstM, lstD, derP, Option.bind_some, hl, if_true, h1, h2, idx6 k hk, Option.map_some]; rfl
theorem store_str {e o i : XF} {mem : Mem} {sl : Slots} {d : P} {k : Nat} {j : Str} {l : List (Str × P)} (h1 : e mem sl = some (.p d)) (h2 : o mem sl = some (.c k)) (h3 : i mem sl = some (.p (.str j))) (h4 : mem[k]? = some (.md l)) (hj : getK l j = none) (hl : l.length ≤ 100) :
    sStore e o i mem sl = some (.next, mem.set k (.md (l ++ [(j, d)])), sl) := by
  simp only [sStore, cellV, datV, storeV, strD, h1, h2, h3, Option.bind_some, h4, hj, len_ok hl]; rfl
theorem sub_dict {mem : Mem} {c : Nat} {l : List (Str × P)} {j : Str} {d : P} (hm : mem[c]? = some (.md l)) (h : getK l j = some d) : subV mem (.c c) (.p (.str j)) = some (.p d) := by
  simp only [subV, subD, hm, Option.bind_some, h, Option.map_some]
noncomputable def dct (t : Nat) (A : List Nat) (kd : Nat → Nat) (R : List Nat) : List (Str × P) := R.map fun k => (pth t A k, obO A kd k)
theorem getK_in {t : Nat} {A : List Nat} {kd : Nat → Nat} (T : Tr A) (ht : t < 6) {k : Nat} (hk : k < 6) : ∀ {R : List Nat}, (∀ x ∈ R, x < 6) → k ∈ R → getK (dct t A kd R) (pth t A k) = some (obO A kd k)
  | [], _, h => nomatch h
  | r :: R, hR, h => by
    show (if pth t A r = pth t A k then some (obO A kd r) else getK (dct t A kd R) (pth t A k)) = _
    by_cases e : r = k
    · subst e; rw [if_pos rfl]
    · rw [if_neg fun q => e (pth_inj T ht (hR r List.mem_cons_self) hk q)]
      exact getK_in T ht hk (fun x hx => hR x (List.mem_cons_of_mem _ hx)) ((List.mem_cons.mp h).resolve_left (Ne.symm e))
theorem getK_out {t : Nat} {A : List Nat} {kd : Nat → Nat} (T : Tr A) (ht : t < 6) {k : Nat} (hk : k < 6) : ∀ {R : List Nat}, (∀ x ∈ R, x < 6) → k ∉ R → getK (dct t A kd R) (pth t A k) = none
  | [], _, _ => rfl
  | r :: R, hR, h => by
    show (if pth t A r = pth t A k then some (obO A kd r) else getK (dct t A kd R) (pth t A k)) = _
    have e : r ≠ k := fun e => h (e ▸ List.mem_cons_self)
    rw [if_neg fun q => e (pth_inj T ht (hR r List.mem_cons_self) hk q)]
    exact getK_out T ht hk (fun x hx => hR x (List.mem_cons_of_mem _ hx)) fun q => h (List.mem_cons_of_mem _ q)
/- what stands for the modes -/
structure Mds (L : List Nat) (ms : List P) : Prop where
  at_ : ∀ k < 6, ∃ r : Nat, ms[k]? = some (.int ((KM (up L k) : Int) + 65536 * (r : Int)))
noncomputable def objs (A : List Nat) (kd : Nat → Nat) : P := .lst ((List.range 6).map (obO A kd))
theorem objs_own (A : List Nat) (kd : Nat → Nat) : ownP A kd = objs A kd := by
  unfold ownP objs ownL
  simp
noncomputable def fols (t : Nat) (A : List Nat) : P := .lst ((List.range 6).map fun k => .str (pth t A (up A k)))
noncomputable def bFo : SF := bCons (sSet 5 (xComp [2, 3, 4, 0] (vRange (xCons (xK (.int 1)) (xCons (xK (.int 6)) xNil))) (tCmp .Eq (xSub (xV 0) (xV 4)) (xV 2)) (xSub (xV 1) (xSub (xV 3) (xV 4))))) (bCons (sStore (xList (xCons (xCall S_filemode (xCons (xSub (xV 1) (xMeth "list" semIndex (xV 0) (xCons (xV 4) xNil))) xNil)) (xCons (xCall S_sorted (xCons (xV 5) xNil)) xNil))) (xV 3) (xV 4)) bNil)
noncomputable def slFo (t : Nat) (A : List Nat) (ms : List P) (x4 x5 : Option V) : Slots := [some (.p (.lst (pths t A 6))), some (.p (.lst ms)), some (.p (fols t A)), some (.c 0), x4, x5]
theorem pths_at {t : Nat} {A : List Nat} {k : Nat} (h : k < 6) : (pths t A 6)[k]? = some (.str (pth t A k)) := by
  unfold pths
  rw [List.getElem?_map, List.getElem?_range h]; rfl
theorem fols_at {t : Nat} {A : List Nat} {k : Nat} (h : k < 6) : ((List.range 6).map fun k => P.str (pth t A (up A k)))[k]? = some (.str (pth t A (up A k))) := by
  rw [List.getElem?_map, List.getElem?_range h]; rfl
theorem bFo_eval {t : Nat} {A L : List Nat} {ms : List P} (T : Tr A) (ht : t < 6) (hL : Kd L) (hm : Mds L ms) {done : List Nat} (hd : ∀ x ∈ done, x < 6) (hdl : done.length ≤ 6) {k : Nat} (hk : k < 6) (hin : ∀ c ∈ kids A k, c ∈ done) (hnew : k ∉ done) {x5 : Option V} :
    ∃ y5, bFo [.md (dct t A (up L) done)] (slFo t A ms (some (.p (.str (pth t A k)))) x5) = some (.next, [.md (dct t A (up L) (done ++ [k]))], slFo t A ms (some (.p (.str (pth t A k)))) y5) := by
  refine ⟨some (.p (.lst ((kids A k).map (obO A (up L))))), ?_⟩
  have hc : xComp [2, 3, 4, 0] (vRange (xCons (xK (.int 1)) (xCons (xK (.int 6)) xNil))) (tCmp .Eq (xSub (xV 0) (xV 4)) (xV 2)) (xSub (xV 1) (xSub (xV 3) (xV 4))) [.md (dct t A (up L) done)] (slFo t A ms (some (.p (.str (pth t A k)))) x5) = some (.p (.lst ((kids A k).map (obO A (up L))))) := by
    refine xcomp_on vI (fun c => up A c == k) _ (cv := [.p (fols t A), .c 0, .p (.str (pth t A k)), .p (.lst (pths t A 6))]) (l := List.range' 1 5) rfl (rangeN (a := 1) (b := 6) rfl (by omega) (by omega)) (by simp) fun c hc => ?_
    rw [List.mem_range'_1] at hc
    refine ⟨?_, fun hp => ?_⟩
    · have hup : up A c < 6 := by
        have := T.lt c (by omega) (by omega)
        omega
      refine (tcmp_of (sub_of rfl rfl (sub_lst (fols_at (by omega)) (by omega))) rfl (eq_of rfl rfl (eq_str (pth t A (up A c)) (pth t A k)))).trans ?_
      congr 1
      rw [Bool.eq_iff_iff]
      simp only [decide_eq_true_eq, beq_iff_eq]
      exact ⟨fun e => pth_inj T ht hup hk (by injection e), fun e => by rw [e]⟩
    · have hck : c ∈ kids A k := List.mem_filter.mpr ⟨by rw [List.mem_range'_1]; omega, hp⟩
      exact sub_of rfl (sub_of rfl rfl (sub_lst (pths_at (by omega)) (by omega))) (sub_dict rfl (getK_in T ht (by omega) hd (hin c hck)))
  have hF : ∀ x ∈ (kids A k).map (obO A (up L)), F7 x := fun x hx => by
    obtain ⟨c, _, rfl⟩ := List.mem_map.mp hx
    exact obO_form hL.lt c
  obtain ⟨r, hr⟩ := hm.at_ k hk
  have hfm : ∀ {x5}, xCall S_filemode (xCons (xSub (xV 1) (xMeth "list" semIndex (xV 0) (xCons (xV 4) xNil))) xNil) [.md (dct t A (up L) done)] (slFo t A ms (some (.p (.str (pth t A k)))) x5) = some (.p (.str (MS (up L k)))) := fun {x5} => by
    have h1 : xMeth "list" semIndex (xV 0) (xCons (xV 4) xNil) [.md (dct t A (up L) done)] (slFo t A ms (some (.p (.str (pth t A k)))) x5) = some (vI k) := index_pth T ht hk [.md (dct t A (up L) done)]
    exact call1 (sub_of rfl h1 (sub_lst hr (by omega))) (filemode_eval _ (hL.lt k) r)
  refine ev_set hc (ev_nil (store_str (d := obO A (up L) k) (k := 0) (j := pth t A k) (l := dct t A (up L) done) ?_ rfl rfl rfl (getK_out T ht hk hd hnew) (by simp [dct]; omega))) |>.trans ?_
  · rw [obO_eq T hk]
    exact list2 hfm (call1 rfl (sorted_eval K7 hF (by rw [List.length_map]; have := kids_len A k; omega)))
  · have : dct t A (up L) done ++ [(pth t A k, obO A (up L) k)] = dct t A (up L) (done ++ [k]) := by simp [dct]
    rw [this]; rfl
end Mine
end
section
open PySem.W
namespace Mine

theorem loopFo {t : Nat} {A L : List Nat} {ms : List P} (T : Tr A) (ht : t < 6) (hL : Kd L) (hm : Mds L ms) {R : List Nat} (hp : R.Perm (List.range 6)) (ho : ∀ done k rest, R = done ++ k :: rest → ∀ c ∈ kids A k, c ∈ done) :
    ∀ (rest done : List Nat) (x4 x5 : Option V), R = done ++ rest → ∃ y4 y5, forGo bFo bNil (rest.map fun k => aN 4 (.p (.str (pth t A k)))) [.md (dct t A (up L) done)] (slFo t A ms x4 x5) = some (.next, [.md (dct t A (up L) R)], slFo t A ms y4 y5)
  | [], done, x4, x5, h => by
    rw [List.append_nil] at h
    subst h
    exact ⟨x4, x5, rfl⟩
  | k :: rest, done, x4, x5, h => by
    have h6 : ∀ x ∈ R, x < 6 := fun x hx => List.mem_range.mp (hp.mem_iff.mp hx)
    have hn : R.Nodup := hp.nodup_iff.mpr List.nodup_range
    have hl : R.length = 6 := by rw [hp.length_eq, List.length_range]
    have hk : k ∈ R := by rw [h]; simp
    have hd : ∀ x ∈ done, x < 6 := fun x hx => h6 x (by rw [h]; exact List.mem_append_left _ hx)
    have hnew : k ∉ done := fun q => by
      rw [h, List.nodup_append] at hn
      exact hn.2.2 k q k List.mem_cons_self rfl
    obtain ⟨y5, hb⟩ := bFo_eval (x5 := x5) T ht hL hm hd (by rw [h] at hl; simp at hl; omega) (h6 k hk) (ho done k rest h) hnew
    obtain ⟨z4, z5, hF⟩ := loopFo T ht hL hm hp ho rest (done ++ [k]) (some (.p (.str (pth t A k)))) y5 (by rw [h]; simp)
    exact ⟨z4, z5, forGo_next rfl hb hF⟩
theorem slice_rev {mem : Mem} {l : List P} (h : l.length ≤ 100) : sliceV mem (.p (.lst l)) none none (some (-1)) = some (.p (.lst l.reverse)) := by
  show (if lenOk l.length = true then some (V.p (.lst (sliceL l none none (some (-1))))) else none) = _
  rw [if_pos (len_ok h), sliceL_rev]
theorem slice_of {a : XF} {mem : Mem} {sl : Slots} {x v : V} {lo hi st : XO} {l h t : Option Int} (h1 : a mem sl = some x) (h2 : lo mem sl = some l) (h3 : hi mem sl = some h) (h4 : st mem sl = some t) (h5 : sliceV mem x l h t = some v) : xSlice a lo hi st mem sl = some v := by
  simp only [xSlice, h1, h2, h3, h4, Option.bind_some, h5]
theorem forms_eval {t : Nat} {A L : List Nat} {ms : List P} (T : Tr A) (ht : t < 6) (hL : Kd L) (hm : Mds L ms) (m : Mem) : S_forms m [.p (.lst (pths t A 6)), .p (.lst ms)] = some (.p (objs A (up L))) := by
  obtain ⟨R, e, hp, ho⟩ := order_ex (t := t) T ht
  obtain ⟨y4, y5, hF⟩ := loopFo T ht hL hm hp ho R [] none none rfl
  have hl : (pths t A 6).length = 6 := by simp [pths]
  have hd : xComp [] (vSeq (xV 0)) tTrue (xCall S_dirname (xCons (xV 0) xNil)) [] [some (.p (.lst (pths t A 6))), some (.p (.lst ms)), none, none, none, none] = some (.p (fols t A)) := by
    have := xcomp_on (l := List.range 6) (fun k => V.p (.str (pth t A k))) (fun _ => true) (fun k => P.str (pth t A (up A k))) (cap := []) (cv := []) (it := vSeq (xV 0)) (t := tTrue) (f := xCall S_dirname (xCons (xV 0) xNil)) (mem := []) (sl := [some (.p (.lst (pths t A 6))), some (.p (.lst ms)), none, none, none, none]) rfl ?_ (by simp) fun k hk => ⟨rfl, fun _ => call1 rfl (dir_at T ht (List.mem_range.mp hk) _)⟩
    · exact this
    · show some ((pths t A 6).map V.p) = _
      rw [pths, List.map_map]; rfl
  have hnd : (pths t A 6).Nodup := by
    unfold pths List.Nodup
    rw [List.pairwise_map]
    refine List.nodup_range.imp_of_mem fun {a b} ha hb hne he => hne ?_
    exact pth_inj T ht (List.mem_range.mp ha) (List.mem_range.mp hb) (by injection he)
  have hst : ∀ x ∈ pths t A 6, isSt x := fun x hx => by
    obtain ⟨c, _, rfl⟩ := List.mem_map.mp hx
    exact ⟨_, rfl⟩
  have hs : ∀ {mem : Mem} {x2 x3 x4 x5 : Option V}, gV (aN 4) (vSeq (xSlice (xCall semSorted (xCons (xV 0) xNil)) oNone oNone (oSome (xNeg (xK (.int 1)))))) mem [some (.p (.lst (pths t A 6))), x2, x3, x4, x5, none] = some (R.map fun k => aN 4 (.p (.str (pth t A k)))) := fun {mem x2 x3 x4 x5} => by
    have h1 : xSlice (xCall semSorted (xCons (xV 0) xNil)) oNone oNone (oSome (xNeg (xK (.int 1)))) mem [some (.p (.lst (pths t A 6))), x2, x3, x4, x5, none] = some (.p (.lst (R.map fun k => P.str (pth t A k)))) := by
      rw [← e]
      exact slice_of (call1 rfl (sorted_at keyed_str hst (T := "str") (fun x hx => by obtain ⟨s, rfl⟩ := hst x hx; rfl) (.inr ⟨hl, hnd⟩) _)) rfl rfl rfl (slice_rev (by rw [(srt_perm _ _).length_eq]; omega))
    have h2 : vSeq (xSlice (xCall semSorted (xCons (xV 0) xNil)) oNone oNone (oSome (xNeg (xK (.int 1))))) mem [some (.p (.lst (pths t A 6))), x2, x3, x4, x5, none] = some (R.map fun k => V.p (.str (pth t A k))) := by
      unfold vSeq
      rw [h1]
      show some ((R.map fun k => P.str (pth t A k)).map V.p) = _
      rw [List.map_map]; rfl
    rw [gV_at h2, List.map_map]; rfl
  have h6 : ∀ x ∈ R, x < 6 := fun x hx => List.mem_range.mp (hp.mem_iff.mp hx)
  have hr : xComp [3] (vSeq (xV 0)) tTrue (xSub (xV 0) (xV 1)) [.md (dct t A (up L) R)] (slFo t A ms y4 y5) = some (.p (objs A (up L))) := by
    have := xcomp_on (l := List.range 6) (fun k => V.p (.str (pth t A k))) (fun _ => true) (obO A (up L)) (cap := [3]) (cv := [.c 0]) (it := vSeq (xV 0)) (t := tTrue) (f := xSub (xV 0) (xV 1)) (mem := [.md (dct t A (up L) R)]) (sl := slFo t A ms y4 y5) rfl ?_ (by simp) fun k hk => ⟨rfl, fun _ => sub_of rfl rfl (sub_dict rfl (getK_in T ht (List.mem_range.mp hk) h6 (hp.mem_iff.mpr hk)))⟩
    · exact this
    · show some ((pths t A 6).map V.p) = _
      rw [pths, List.map_map]; rfl
  exact fn_ev (ds := [.lst (pths t A 6), .lst ms]) rfl rfl ⟨_, _, ev_set hd (ev_new (o := .md []) rfl (ev_next (ev_for hs hF) (ev_ret hr)))⟩
end Mine
end
section
open PySem.W
namespace Mine

/- _law_renamings -/
theorem comp2_on {α β : Type} {mem : Mem} {base : Slots} {it1 : XFs} {t : TF} {f : XF} {e : α → V} {e2 : β → V} {js : List β} {p : α → β → Bool} {g : α → β → P} : ∀ {l : List α},
    (∀ a ∈ l, it1 mem (base ++ [some (e a)]) = some (js.map e2) ∧ ∀ b ∈ js, t mem (base ++ [some (e a)] ++ [some (e2 b)]) = some (p a b) ∧ (p a b = true → f mem (base ++ [some (e a)] ++ [some (e2 b)]) = some (.p (g a b)))) →
    comp2Go mem base it1 t f (l.map e) = some (l.flatMap fun a => (js.filter (p a)).map (g a))
  | [], _ => rfl
  | a :: l, h => by
    obtain ⟨h1, h2⟩ := h a List.mem_cons_self
    have ih := comp2_on (l := l) fun x hx => h x (List.mem_cons_of_mem _ hx)
    show (it1 mem (base ++ [some (e a)])).bind _ = _
    rw [h1]
    simp only [Option.bind_some, comp_on h2, ih, Option.map_some, List.flatMap_cons]
theorem lenBig {n : Nat} (h : n ≤ 10000) : lenOk n = true := by simp only [lenOk, decide_eq_true_eq]; omega
noncomputable def renStep (A O : List Nat) (kd : Nat → Nat) (k : Nat) (fs : List (List Nat)) : List (List Nat) := fs.flatMap fun f => ((List.range' 1 5).filter fun j => !f.contains j && (up O j == up f (up A k) && kd j == kd k)).map fun j => f ++ [j]
noncomputable def ren (A O : List Nat) (kd : Nat → Nat) : Nat → List (List Nat)
  | 0 => [[0]]
  | n + 1 => renStep A O kd (n + 1) (ren A O kd n)
theorem ren_len (A O : List Nat) (kd : Nat → Nat) : ∀ n, ∀ f ∈ ren A O kd n, f.length = n + 1
  | 0, f, h => by rw [List.mem_singleton.mp h]; rfl
  | n + 1, f, h => by
    obtain ⟨f0, h1, h2⟩ := List.mem_flatMap.mp h
    obtain ⟨j, _, rfl⟩ := List.mem_map.mp h2
    rw [List.length_append, ren_len A O kd n f0 h1]; rfl
theorem ren_cnt (A O : List Nat) (kd : Nat → Nat) : ∀ n, (ren A O kd n).length ≤ 5 ^ n
  | 0 => Nat.le_refl _
  | n + 1 => by
    have ih := ren_cnt A O kd n
    show (renStep A O kd (n + 1) (ren A O kd n)).length ≤ _
    have : ∀ fs : List (List Nat), (renStep A O kd (n + 1) fs).length ≤ 5 * fs.length := fun fs => by
      induction fs with
      | nil => exact Nat.le_refl _
      | cons f fs ih =>
        unfold renStep at ih ⊢
        rw [List.flatMap_cons, List.length_append, List.length_map, List.length_cons]
        have := List.length_filter_le (fun j => !f.contains j && (up O j == up f (up A (n + 1)) && kd j == kd (n + 1))) (List.range' 1 5)
        rw [List.length_range'] at this
        omega
    have := this (ren A O kd n)
    rw [Nat.pow_succ]
    omega
theorem sub_nat {f : List Nat} {mem : Mem} {sl : Slots} {x y : XF} {k : Nat} (hk : k < f.length) (hs : k ≤ 100) (h1 : x mem sl = some (.p (natL f))) (h2 : y mem sl = some (vI k)) : xSub x y mem sl = some (vI (up f k)) :=
  sub_of h1 h2 (sub_lst (by rw [List.getElem?_map, up, List.getD_eq_getElem?_getD, List.getElem?_eq_getElem hk]; rfl) (by omega))
theorem eqM_nat (j : Nat) : ∀ f : List Nat, (f.map fun n => P.int (n : Nat)).mapM (fun q => eqP deep q (.int (j : Nat))) = some (f.map fun n => n == j)
  | [] => rfl
  | n :: f => by
    have h1 : eqP deep (.int (n : Nat)) (.int (j : Nat)) = some (n == j) := by
      rw [eq_int]
      congr 1
      rw [Bool.eq_iff_iff]
      simp only [decide_eq_true_eq, beq_iff_eq]
      omega
    rw [List.map_cons, List.mapM_cons, eqM_nat j f, h1]; rfl
theorem any_map_beq (j : Nat) (f : List Nat) : (f.map fun n => n == j).any id = f.contains j := by
  induction f with
  | nil => rfl
  | cons a f ih =>
    rw [List.map_cons, List.any_cons, ih, List.contains_cons]
    congr 1
    exact Bool.beq_comm ..
theorem notin_nat {x y : XF} {mem : Mem} {sl : Slots} {f : List Nat} {j : Nat} (h1 : x mem sl = some (vI j)) (h2 : y mem sl = some (.p (natL f))) : tCmp .NotIn x y mem sl = some (!f.contains j) := by
  refine tcmp_of h1 h2 ?_
  show (((f.map fun n => P.int (n : Nat)).mapM fun q => eqP deep q (.int (j : Nat))).map fun bs => !bs.any id) = _
  rw [eqM_nat, Option.map_some, any_map_beq]
theorem tand_of {a b : TF} {mem : Mem} {sl : Slots} {p q : Bool} (h1 : a mem sl = some p) (h2 : b mem sl = some q) : tAnd a b mem sl = some (p && q) := by
  simp only [tAnd, h1, Option.bind_some, h2]
  cases p <;> rfl
noncomputable def renP (fs : List (List Nat)) : P := .lst (fs.map natL)
noncomputable def bRe : SF := bCons (sSet 3 (xComp2 [0, 4, 2, 1] (vSeq (xV 3)) (vRange (xCons (xK (.int 1)) (xCons (xK (.int 6)) xNil))) (tAnd (tCmp .NotIn (xV 5) (xV 4)) (tAnd (tCmp .Eq (xSub (xV 3) (xV 5)) (xSub (xV 4) (xSub (xV 0) (xV 1)))) (tCmp .Eq (xSub (xV 2) (xV 5)) (xSub (xV 2) (xV 1))))) (xBin2 .Add (xV 4) (xList (xCons (xV 5) xNil))))) bNil
theorem ren_step {A O L : List Nat} (T : Tr A) (hO : O.length = 6) (hL : L.length = 6) {n : Nat} (hn : n < 5) (mem : Mem) : bRe mem [some (.p (natL A)), some (.p (natL O)), some (.p (natL L)), some (.p (renP (ren A O (up L) n))), some (vI (n + 1))] =
    some (.next, mem, [some (.p (natL A)), some (.p (natL O)), some (.p (natL L)), some (.p (renP (ren A O (up L) (n + 1)))), some (vI (n + 1))]) := by
  refine ev_set (v := .p (renP (ren A O (up L) (n + 1)))) ?_ rfl
  have hlt := T.lt (n + 1) (by omega) (by omega)
  have hg : comp2Go mem [some (.p (natL A)), some (vI (n + 1)), some (.p (natL L)), some (.p (natL O))] (vRange (xCons (xK (.int 1)) (xCons (xK (.int 6)) xNil))) (tAnd (tCmp .NotIn (xV 5) (xV 4)) (tAnd (tCmp .Eq (xSub (xV 3) (xV 5)) (xSub (xV 4) (xSub (xV 0) (xV 1)))) (tCmp .Eq (xSub (xV 2) (xV 5)) (xSub (xV 2) (xV 1))))) (xBin2 .Add (xV 4) (xList (xCons (xV 5) xNil))) ((ren A O (up L) n).map fun f => V.p (natL f))
      = some ((ren A O (up L) n).flatMap fun f => ((List.range' 1 5).filter fun j => !f.contains j && (up O j == up f (up A (n + 1)) && up L j == up L (n + 1))).map fun j => natL (f ++ [j])) := by
    refine comp2_on (e2 := vI) fun f hf => ⟨rangeN (a := 1) (b := 6) rfl (by omega) (by omega), fun j hj => ⟨?_, fun _ => ?_⟩⟩
    · rw [List.mem_range'_1] at hj
      have hfl := ren_len A O (up L) n f hf
      refine tand_of (notin_nat rfl rfl) (tand_of (teq_nat (nat_sub hO (by omega) rfl rfl) (sub_nat (by omega) (by omega) rfl (nat_sub T.len (by omega) rfl rfl))) (teq_nat (nat_sub hL (by omega) rfl rfl) (nat_sub hL (by omega) rfl rfl)))
    · have hfl := ren_len A O (up L) n f hf
      have e : natL (f ++ [j]) = .lst ((f.map fun n => P.int (n : Nat)) ++ [.int (j : Nat)]) := by simp [natL]
      rw [e]
      exact bin_of rfl rfl rfl rfl (add_lst (by rw [List.length_map, hfl]; simp; omega))
  have e : (ren A O (up L) n).flatMap (fun f => ((List.range' 1 5).filter fun j => !f.contains j && (up O j == up f (up A (n + 1)) && up L j == up L (n + 1))).map fun j => natL (f ++ [j])) = (ren A O (up L) (n + 1)).map natL := by
    show _ = (renStep A O (up L) (n + 1) (ren A O (up L) n)).map natL
    unfold renStep
    rw [List.map_flatMap]
    simp only [List.map_map]
    rfl
  rw [e] at hg
  have hv : vSeq (xV 3) mem [some (.p (natL A)), some (.p (natL O)), some (.p (natL L)), some (.p (renP (ren A O (up L) n))), some (vI (n + 1))] = some ((ren A O (up L) n).map fun f => V.p (natL f)) := by
    show some (((ren A O (up L) n).map natL).map V.p) = _
    rw [List.map_map]; rfl
  have hc := ren_cnt A O (up L) (n + 1)
  have h5 : 5 ^ (n + 1) ≤ 5 ^ 5 := Nat.pow_le_pow_right (by omega) (by omega)
  have hl : lenOk ((ren A O (up L) (n + 1)).map natL).length = true := lenBig (by rw [List.length_map]; omega)
  unfold xComp2 comp2V
  rw [show capV [0, 4, 2, 1] [some (.p (natL A)), some (.p (natL O)), some (.p (natL L)), some (.p (renP (ren A O (up L) n))), some (vI (n + 1))] = some [.p (natL A), vI (n + 1), .p (natL L), .p (natL O)] from rfl, Option.bind_some, hv, Option.bind_some]
  rw [show ([V.p (natL A), vI (n + 1), .p (natL L), .p (natL O)] : List V).map some = [some (.p (natL A)), some (vI (n + 1)), some (.p (natL L)), some (.p (natL O))] from rfl, hg]
  simp only [Option.bind_some, hl, if_true, Option.map_some]
  rfl
theorem ren_eval {A O L : List Nat} (T : Tr A) (hO : O.length = 6) (hL : L.length = 6) (m : Mem) : S_renamings m [.p (natL A), .p (natL O), .p (natL L)] = some (.p (renP (ren A O (up L) 5))) := by
  obtain ⟨mem', sl', hI, hF⟩ := for_inv0 (mem := []) (sl := [some (.p (natL A)), some (.p (natL O)), some (.p (natL L)), some (.p (renP (ren A O (up L) 0))), none]) (gs := ((List.range' 1 5).map vI).map (aN 4)) (b := bRe)
    (fun i mem sl => mem = [] ∧ ∃ x4, sl = [some (.p (natL A)), some (.p (natL O)), some (.p (natL L)), some (.p (renP (ren A O (up L) i))), x4])
    (by
      rintro i g mem sl hg ⟨rfl, x4, rfl⟩
      rw [← upto_range] at hg
      obtain ⟨hi, rfl⟩ := gsel (gs := []) hg
      rw [Nat.add_comm]
      exact ⟨_, _, _, rfl, ren_step T hO hL hi _, rfl, _, rfl⟩)
    ⟨rfl, none, rfl⟩
  obtain ⟨rfl, x4, rfl⟩ := hI
  exact fn_ev (ds := [natL A, natL O, natL L]) rfl rfl ⟨_, _, ev_set (v := .p (renP (ren A O (up L) 0))) rfl (ev_next (ev_for (gV_at (rangeN (a := 1) (b := 6) rfl (by omega) (by omega))) hF) (ev_ret rfl))⟩
end Mine
end
section
open PySem.W
namespace Mine
open Classical

/- _law_exchanges -/
noncomputable def cnt (a : P) (l : List P) : Nat := l.countP fun x => decide (x = a)
noncomputable def mf : List P → Nat
  | [] => 1
  | a :: l => (cnt a l + 1) * mf l
theorem cnt_perm {a : P} {l r : List P} (h : l.Perm r) : cnt a l = cnt a r := h.countP_eq _
theorem cnt_cons (a b : P) (l : List P) : cnt a (b :: l) = cnt a l + if b = a then 1 else 0 := by
  unfold cnt
  rw [List.countP_cons]
  by_cases h : b = a <;> simp [h]
theorem mf_perm {l r : List P} (h : l.Perm r) : mf l = mf r := by
  induction h with
  | nil => rfl
  | cons a h ih => show _ * _ = _ * _; rw [cnt_perm h, ih]
  | swap a b l =>
    show (cnt b (a :: l) + 1) * ((cnt a l + 1) * mf l) = (cnt a (b :: l) + 1) * ((cnt b l + 1) * mf l)
    rw [cnt_cons, cnt_cons]
    by_cases e : a = b
    · subst e; rfl
    · rw [if_neg e, if_neg (Ne.symm e), Nat.add_zero, Nat.add_zero, ← Nat.mul_assoc, ← Nat.mul_assoc, Nat.mul_comm (cnt b l + 1)]
  | trans _ _ h1 h2 => rw [h1, h2]
noncomputable def fct : Nat → Nat
  | 0 => 1
  | n + 1 => (n + 1) * fct n
theorem mf_le : ∀ l : List P, mf l ≤ fct l.length
  | [] => Nat.le_refl _
  | a :: l => Nat.mul_le_mul (Nat.succ_le_succ List.countP_le_length) (mf_le l)
theorem fct5 : ∀ n < 6, fct n ≤ 120 := by decide +kernel
theorem mf120 {l : List P} (h : l.length ≤ 5) : mf l ≤ 120 := Nat.le_trans (mf_le l) (fct5 _ (by omega))
/- in a sorted list the like stand together -/
theorem cnt_zero {κ : P → List Nat} {S : P → Prop} (K : Keyed κ S) {l : List P} {a b : P} (hs : ∀ x ∈ l ++ [a, b], S x) (h : Srt κ (l ++ [a, b])) (hne : a ≠ b) : cnt b (l ++ [a]) = 0 := by
  unfold cnt
  rw [List.countP_eq_zero]
  intro x hx
  simp only [decide_eq_true_eq]
  rintro rfl
  have hab : ¬ κ x < κ a := by
    have h2 := (List.pairwise_append.mp h).2.1
    exact (List.pairwise_cons.mp h2).1 x (by simp)
  rcases List.mem_append.mp hx with hx | hx
  · have hxa : ¬ κ a < κ x := (List.pairwise_append.mp h).2.2 x hx a (by simp)
    exact hne (K.inj a x (hs a (by simp)) (hs x (by simp)) (eq_of_not hxa hab))
  · rw [List.mem_singleton] at hx
    exact hne hx.symm
/- the run up to place i of a sorted list -/
noncomputable def runAt (cs : List P) : Nat → Nat
  | 0 => 0
  | i + 1 => match cs[i]? with | some c => cnt c (cs.take (i + 1)) | none => 0
theorem run_step {κ : P → List Nat} {S : P → Prop} (K : Keyed κ S) {cs : List P} (hs : ∀ x ∈ cs, S x) (h : Srt κ cs) {i : Nat} {c : P} (hc : cs[i]? = some c) :
    runAt cs (i + 1) = (match i with | 0 => 1 | j + 1 => if cs[j]? = some c then runAt cs i + 1 else 1) ∧ mf (cs.take (i + 1)).reverse = mf (cs.take i).reverse * runAt cs (i + 1) := by
  have ht : cs.take (i + 1) = cs.take i ++ [c] := by rw [List.take_add_one, hc]; rfl
  have hr : runAt cs (i + 1) = cnt c (cs.take i) + 1 := by
    show (match cs[i]? with | some c => cnt c (cs.take (i + 1)) | none => 0) = _
    rw [hc]
    show cnt c (cs.take (i + 1)) = _
    rw [ht]
    unfold cnt
    rw [List.countP_append]
    simp
  constructor
  · rw [hr]
    cases i with
    | zero => simp [cnt]
    | succ j =>
      have hjl : j < cs.length := by have := (List.getElem?_eq_some_iff.mp hc).1; omega
      have hb : cs[j]? = some cs[j] := List.getElem?_eq_getElem hjl
      have htj : cs.take (j + 1) = cs.take j ++ [cs[j]] := by rw [List.take_add_one, hb]; rfl
      show _ = if cs[j]? = some c then runAt cs (j + 1) + 1 else 1
      rw [hb]
      by_cases e : cs[j] = c
      · rw [if_pos (by rw [e])]
        show _ = (match cs[j]? with | some c => cnt c (cs.take (j + 1)) | none => 0) + 1
        rw [hb, e]
      · rw [if_neg (by simpa using e)]
        have hp : cs.take (j + 1 + 1) = cs.take j ++ [cs[j], c] := by rw [ht, htj, List.append_assoc]; rfl
        have := cnt_zero K (l := cs.take j) (a := cs[j]) (b := c) (fun x hx => hs x (List.mem_of_mem_take (by rw [hp]; exact hx))) (by rw [← hp]; exact h.sublist (List.take_sublist _ _)) e
        rw [htj, this]
  · rw [ht, hr, List.reverse_append]
    show (cnt c (cs.take i).reverse + 1) * mf (cs.take i).reverse = _
    rw [cnt_perm (List.reverse_perm _), Nat.mul_comm]
end Mine
end
section
open PySem.W
namespace Mine
open Classical

noncomputable def bEx : SF := bCons (sIf (tAnd (tCmp .Gt (xV 4) (xK (.int 0))) (tCmp .Eq (xCall S_twc (xCons (xSub (xSub (xV 2) (xK (.int 1))) (xBin2 .Sub (xV 4) (xK (.int 1)))) (xCons (xSub (xSub (xV 2) (xK (.int 1))) (xV 4)) xNil))) (xK (.int 0)))) (bCons (sSet 3 (xBin2 .Add (xV 3) (xK (.int 1)))) bNil) (bCons (sSet 3 (xK (.int 1))) bNil)) (bCons (sSet 1 (xBin2 .Mult (xV 1) (xV 3))) bNil)
theorem twc0 {κ : P → List Nat} {S : P → Prop} (K : Keyed κ S) {f g : XF} {mem : Mem} {sl : Slots} {a b : P} (ha : S a) (hb : S b) (h1 : f mem sl = some (.p a)) (h2 : g mem sl = some (.p b)) : tCmp .Eq (xCall S_twc (xCons f (xCons g xNil))) (xK (.int 0)) mem sl = some (decide (a = b)) := by
  rw [teq_int (call2 h1 h2 (twc_eval K ha hb)) rfl]
  congr 1
  refine decide_eq_decide.mpr ⟨fun e => ?_, fun e => by subst e; simp⟩
  refine K.inj a b ha hb (eq_of_not (fun h => ?_) fun h => ?_)
  · rw [decide_eq_true h, decide_eq_false (List.lt_asymm h)] at e
    exact absurd e (by decide)
  · rw [decide_eq_true h, decide_eq_false (List.lt_asymm h)] at e
    exact absurd e (by decide)
theorem mul_nat {a b : Nat} (h : a < 2 ^ 60) : binP .Mult (.int (a : Nat)) (.int (b : Nat)) = some (.int ((a * b : Nat) : Int)) := by
  have : smallI (a : Int) = true := small_of (by omega) (by omega)
  exact (int2_int _ _ _).trans ((if_pos this).trans (by rw [Int.natCast_mul]))
theorem gt0 {f : XF} {mem : Mem} {sl : Slots} {i : Nat} (h : f mem sl = some (vI i)) : tCmp .Gt f (xK (.int 0)) mem sl = some (decide (0 < i)) := by
  refine tcmp_of h rfl ((cmp_lt_int _ _).trans ?_)
  congr 1
  exact decide_eq_decide.mpr (by omega)
theorem range0 {f : XFs} {mem : Mem} {sl : Slots} {n : Nat} (h : f mem sl = some [vI n]) (hn : n ≤ 100) : vRange f mem sl = some (upto (0 : Nat) n) := range1 h (by omega) (by omega)
theorem subn1 (i : Nat) : binP .Sub (.int ((i + 1 : Nat) : Int)) (.int 1) = some (.int (i : Nat)) := by
  have : ((i + 1 : Nat) : Int) - 1 = (i : Nat) := by omega
  exact congrArg (fun i => some (P.int i)) this
theorem loopEx {x0 : Option V} {s : P} {cs : List P} (hs : ∀ x ∈ cs, F7 x) (h : Srt (key 7) cs) (hl : cs.length ≤ 5) {W : Nat} (hW : W ≤ 120 ^ 5) (x4 : Option V) :
    ∃ y3 y4, forGo bEx bNil ((upto (0 : Nat) cs.length).map (aN 4)) [] [x0, some (vI W), some (.p (.lst [s, .lst cs])), some (vI 0), x4] = some (.next, [], [x0, some (vI (W * mf cs)), some (.p (.lst [s, .lst cs])), y3, y4]) := by
  obtain ⟨mem', sl', hI, hF⟩ := for_inv0 (mem := []) (sl := [x0, some (vI W), some (.p (.lst [s, .lst cs])), some (vI 0), x4]) (gs := (upto (0 : Nat) cs.length).map (aN 4)) (b := bEx)
    (fun i mem sl => mem = [] ∧ ∃ x4, sl = [x0, some (vI (W * mf (cs.take i).reverse)), some (.p (.lst [s, .lst cs])), some (vI (runAt cs i)), x4])
    (by
      rintro i g mem sl hg ⟨rfl, x4, rfl⟩
      obtain ⟨hi, rfl⟩ := gsel (gs := []) (a := 0) hg
      rw [Nat.zero_add]
      have hc : cs[i]? = some cs[i] := List.getElem?_eq_getElem hi
      obtain ⟨hr, hm⟩ := run_step K7 hs h hc
      have hw : W * mf (cs.take i).reverse < 2 ^ 60 := by
        have h1 := mf120 (l := (cs.take i).reverse) (by simp; omega)
        have h2 : W * mf (cs.take i).reverse ≤ 120 ^ 5 * 120 := Nat.mul_le_mul hW h1
        exact Nat.lt_of_le_of_lt h2 (by decide)
      have h1 := gt0 (f := xV 4) (mem := []) (sl := [x0, some (vI (W * mf (cs.take i).reverse)), some (.p (.lst [s, .lst cs])), some (vI (runAt cs i)), some (vI i)]) (i := i) rfl
      have hcs : ∀ {x1 x3 x4 : Option V}, xSub (xV 2) (xK (.int 1)) [] [x0, x1, some (.p (.lst [s, .lst cs])), x3, x4] = some (.p (.lst cs)) := fun {x1 x3 x4} => sub_of rfl rfl (sub_lst (j := 1) rfl (by omega))
      have hx : xSub (xSub (xV 2) (xK (.int 1))) (xV 4) [] [x0, some (vI (W * mf (cs.take i).reverse)), some (.p (.lst [s, .lst cs])), some (vI (runAt cs i)), some (vI i)] = some (.p cs[i]) := sub_of hcs rfl (sub_lst hc (by omega))
      have hb : sIf (tAnd (tCmp .Gt (xV 4) (xK (.int 0))) (tCmp .Eq (xCall S_twc (xCons (xSub (xSub (xV 2) (xK (.int 1))) (xBin2 .Sub (xV 4) (xK (.int 1)))) (xCons (xSub (xSub (xV 2) (xK (.int 1))) (xV 4)) xNil))) (xK (.int 0)))) (bCons (sSet 3 (xBin2 .Add (xV 3) (xK (.int 1)))) bNil) (bCons (sSet 3 (xK (.int 1))) bNil) [] [x0, some (vI (W * mf (cs.take i).reverse)), some (.p (.lst [s, .lst cs])), some (vI (runAt cs i)), some (vI i)]
          = some (.next, [], [x0, some (vI (W * mf (cs.take i).reverse)), some (.p (.lst [s, .lst cs])), some (vI (runAt cs (i + 1))), some (vI i)]) := by
        cases i with
        | zero =>
          rw [hr]
          refine ev_ifF ?_ rfl
          simp only [tAnd, h1, Option.bind_some]; rfl
        | succ j =>
          have hcj : cs[j]? = some cs[j] := List.getElem?_eq_getElem (by omega)
          have h2 := twc0 K7 (hs _ (List.getElem_mem (by omega : j < cs.length))) (hs _ (List.getElem_mem hi)) (f := xSub (xSub (xV 2) (xK (.int 1))) (xBin2 .Sub (xV 4) (xK (.int 1)))) (sub_of hcs (bin_of rfl rfl rfl rfl (subn1 j)) (sub_lst hcj (by omega))) hx
          have h3 := tand_of h1 h2
          rw [decide_eq_true (by omega : 0 < j + 1), Bool.true_and] at h3
          rw [hr]
          by_cases e : cs[j] = cs[j + 1]
          · rw [decide_eq_true e] at h3
            refine ev_ifT h3 ?_
            show _ = some (Out.next, _, [_, _, _, some (vI (if cs[j]? = some cs[j + 1] then runAt cs (j + 1) + 1 else 1)), _])
            rw [if_pos (by rw [hcj, e])]
            exact ev_nil (set_of (mem' := []) (v := vI (runAt cs (j + 1) + 1)) (bin_of rfl rfl rfl rfl (add1 _)))
          · rw [decide_eq_false e] at h3
            refine ev_ifF h3 ?_
            show _ = some (Out.next, _, [_, _, _, some (vI (if cs[j]? = some cs[j + 1] then runAt cs (j + 1) + 1 else 1)), _])
            rw [if_neg (by rw [hcj]; simpa using e)]; rfl
      refine ⟨_, _, _, rfl, ev_next hb (ev_set (v := vI (W * mf (cs.take i).reverse * runAt cs (i + 1))) (bin_of rfl rfl rfl rfl (mul_nat hw)) rfl), rfl, some (vI i), ?_⟩
      rw [hm, Nat.mul_assoc]; rfl)
    ⟨rfl, x4, by simp [mf, runAt]⟩
  obtain ⟨rfl, y4, rfl⟩ := hI
  rw [List.length_map, upto_len, List.take_length, mf_perm (List.reverse_perm cs)] at hF
  exact ⟨_, _, hF⟩
/- how many ways below the places up to n -/
noncomputable def exW (A : List Nat) (kd : Nat → Nat) : Nat → Nat
  | 0 => 1
  | n + 1 => exW A kd n * mf ((kids A n).map (obO A kd))
theorem exW_le (A : List Nat) (kd : Nat → Nat) : ∀ n, exW A kd n ≤ 120 ^ n
  | 0 => Nat.le_refl _
  | n + 1 => by
    rw [Nat.pow_succ]
    exact Nat.mul_le_mul (exW_le A kd n) (mf120 (by rw [List.length_map]; exact kids_len A n))
theorem exch_eval {A L : List Nat} (T : Tr A) (hL : Kd L) (m : Mem) : S_exchanges m [.p (objs A (up L))] = some (vI (exW A (up L) 6)) := by
  obtain ⟨mem', sl', hI, hF⟩ := for_inv0 (mem := []) (sl := [some (.p (objs A (up L))), some (vI 1), none, none, none]) (gs := ((List.range 6).map fun k => V.p (obO A (up L) k)).map (aN 2))
    (b := bCons (sSet 3 (xK (.int 0))) (bCons (sFor (gV (aN 4) (vRange (xCons (xCall semLen (xCons (xSub (xV 2) (xK (.int 1))) xNil)) xNil))) bEx bNil) bNil))
    (fun i mem sl => mem = [] ∧ i ≤ 6 ∧ ∃ x2 x3 x4, sl = [some (.p (objs A (up L))), some (vI (exW A (up L) i)), x2, x3, x4])
    (by
      rintro i g mem sl hg ⟨rfl, _, x2, x3, x4, rfl⟩
      have hi : i < 6 := by
        have := (List.getElem?_eq_some_iff.mp hg).1
        simpa using this
      rw [List.getElem?_map, List.getElem?_map, List.getElem?_range hi] at hg
      obtain rfl := soK hg
      have hcl : (srt (key 7) ((kids A i).map (obO A (up L)))).length ≤ 5 := by
        rw [(srt_perm _ _).length_eq, List.length_map]; exact kids_len A i
      have hW : exW A (up L) i ≤ 120 ^ 5 := Nat.le_trans (exW_le A (up L) i) (Nat.pow_le_pow_right (by omega) (by omega))
      obtain ⟨y3, y4, hF⟩ := loopEx (x0 := some (.p (objs A (up L)))) (s := .str (MS (up L i))) (cs := srt (key 7) ((kids A i).map (obO A (up L)))) (fun x hx => by
        obtain ⟨c, _, rfl⟩ := List.mem_map.mp ((srt_perm _ _).mem_iff.mp hx)
        exact obO_form hL.lt c) (srt_srt _ _) hcl hW x4
      rw [mf_perm (srt_perm _ _)] at hF
      have hg2 : gV (aN 4) (vRange (xCons (xCall semLen (xCons (xSub (xV 2) (xK (.int 1))) xNil)) xNil)) [] [some (.p (objs A (up L))), some (vI (exW A (up L) i)), some (.p (frm (up L i) (srt (key 7) ((kids A i).map (obO A (up L)))))), some (vI 0), x4] = some ((upto (0 : Nat) (srt (key 7) ((kids A i).map (obO A (up L)))).length).map (aN 4)) := by
        refine gV_at (range0 ?_ (by omega))
        have : xCall semLen (xCons (xSub (xV 2) (xK (.int 1))) xNil) [] [some (.p (objs A (up L))), some (vI (exW A (up L) i)), some (.p (frm (up L i) (srt (key 7) ((kids A i).map (obO A (up L)))))), some (vI 0), x4] = some (vI (srt (key 7) ((kids A i).map (obO A (up L)))).length) :=
          call1 (sub_of rfl rfl (sub_lst (j := 1) (l := [.str (MS (up L i)), .lst (srt (key 7) ((kids A i).map (obO A (up L))))]) rfl (by omega))) (len_eval (by omega))
        simp only [xCons, xNil, this, Option.bind_some, Option.map_some]
      refine ⟨[some (.p (objs A (up L))), some (vI (exW A (up L) i)), some (.p (frm (up L i) (srt (key 7) ((kids A i).map (obO A (up L)))))), x3, x4], [], _, ?_, ev_set (v := vI 0) rfl (ev_nil (ev_for hg2 hF)), rfl, by omega, _, _, _, rfl⟩
      rw [← obO_eq T hi]; rfl)
    ⟨rfl, by omega, none, none, none, rfl⟩
  obtain ⟨rfl, _, x2, x3, x4, rfl⟩ := hI
  have hl : (((List.range 6).map fun k => V.p (obO A (up L) k)).map (aN 2)).length = 6 := by simp
  rw [hl] at hF
  have hv : vSeq (xV 0) [] [some (.p (objs A (up L))), some (vI 1), none, none, none] = some ((List.range 6).map fun k => V.p (obO A (up L) k)) := by
    show some (((List.range 6).map (obO A (up L))).map V.p) = _
    rw [List.map_map]; rfl
  exact fn_ev (ds := [objs A (up L)]) rfl rfl ⟨_, _, ev_set (v := vI 1) rfl (ev_next (ev_for (gV_at hv) hF) (ev_ret rfl))⟩
end Mine
end
section
open PySem.W
namespace Mine
open Classical

/- _law_codes: the table of the keys -/
noncomputable def kI : P → List Nat
  | .int n => [n.toNat]
  | _ => []
noncomputable def isN (d : P) : Prop := ∃ n : Nat, d = .int (n : Nat)
theorem keyed_nat : Keyed kI isN where
  eq := by
    rintro _ _ ⟨a, rfl⟩ ⟨b, rfl⟩
    rw [eq_int]
    congr 1
    exact decide_eq_decide.mpr ⟨fun e => by rw [e], fun e => by injection e⟩
  cmp := by
    have hc : ∀ a b : Nat, decide ([a] < [b]) = decide ((a : Int) < (b : Int)) := fun a b => decide_eq_decide.mpr (by simp [List.cons_lt_cons_iff])
    rintro gt _ _ ⟨a, rfl⟩ ⟨b, rfl⟩
    cases gt
    · exact congrArg some (hc a b).symm
    · exact congrArg some (hc b a).symm
  inj := by
    rintro _ _ ⟨a, rfl⟩ ⟨b, rfl⟩ h
    have : a = b := by simpa [kI] using h
    rw [this]
noncomputable def kin : P → Nat
  | .lst [.str s, _] => if s = MS 0 then 0 else if s = MS 1 then 1 else if s = MS 2 then 2 else 3
  | _ => 0
noncomputable def sub : P → List P
  | .lst [_, .lst cs] => cs
  | _ => []
theorem kin_frm : ∀ {k : Nat}, k < 4 → ∀ cs, kin (frm k cs) = k := by
  intro k hk cs
  have h : ∀ i < 4, (MS k = MS i ↔ k = i) := fun i hi => ⟨MS_inj hk hi, fun e => by rw [e]⟩
  show (if MS k = MS 0 then 0 else if MS k = MS 1 then 1 else if MS k = MS 2 then 2 else 3) = k
  simp only [h 0 (by omega), h 1 (by omega), h 2 (by omega)]
  match k, hk with
  | 0, _ => rfl
  | 1, _ => rfl
  | 2, _ => rfl
  | 3, _ => rfl
theorem frm_kin {d : P} (h : F7 d) : d = frm (kin d) (sub d) := by
  obtain ⟨k, cs, hk, rfl, _⟩ := h
  rw [kin_frm hk]; rfl
theorem sub_F7 {d : P} (h : F7 d) : ∀ c ∈ sub d, F7 c := by
  obtain ⟨k, cs, hk, rfl, hc⟩ := h
  exact fun c hx => (hc c hx).up
noncomputable def cd (D : List P) (d : P) : Nat := 10 + D.idxOf d
noncomputable def rowOf (D : List P) (d : P) : P := .lst (.int (kin d : Nat) :: srt kI ((sub d).map fun c => .int (cd D c : Nat)))
theorem cd_inj {D : List P} {a b : P} (ha : a ∈ D) (hb : b ∈ D) (h : cd D a = cd D b) : a = b := by
  have h1 : D.idxOf a = D.idxOf b := by unfold cd at h; omega
  have e1 := List.getElem_idxOf (List.idxOf_lt_length_iff.mpr ha)
  have e2 := List.getElem_idxOf (List.idxOf_lt_length_iff.mpr hb)
  rw [← e1, ← e2]
  simp only [h1]
theorem cd_app {D : List P} {a : P} (ha : a ∈ D) (E : List P) : cd (D ++ E) a = cd D a := by
  unfold cd
  rw [List.idxOf_append, if_pos ha]
theorem map_inj_mem {α β : Type} {f : α → β} : ∀ {l r : List α}, (∀ x ∈ l, ∀ y ∈ r, f x = f y → x = y) → l.map f = r.map f → l = r
  | [], [], _, _ => rfl
  | [], _ :: _, _, h => by cases h
  | _ :: _, [], _, h => by cases h
  | x :: l, y :: r, hi, h => by
    injection h with h1 h2
    rw [hi x List.mem_cons_self y List.mem_cons_self h1, map_inj_mem (fun a ha b hb => hi a (List.mem_cons_of_mem _ ha) b (List.mem_cons_of_mem _ hb)) h2]
/- a form whose parts are known -/
structure Kn (D : List P) (d : P) : Prop where
  f7 : F7 d
  so : Srt (key 7) (sub d)
  cl : ∀ c ∈ sub d, c ∈ D
theorem row_inj {D : List P} {d e : P} (hd : Kn D d) (he : Kn D e) (h : rowOf D d = rowOf D e) : d = e := by
  injection h with h
  injection h with h1 h2
  have hk : kin d = kin e := by injection h1 with h1; omega
  have hp : ((sub d).map fun c => P.int (cd D c : Nat)).Perm ((sub e).map fun c => P.int (cd D c : Nat)) := ((srt_perm kI _).symm.trans (h2 ▸ List.Perm.refl _)).trans (srt_perm kI _)
  obtain ⟨q, e1, e2⟩ := perm_map_inv hp (sub e) rfl
  have hq : sub d = q := map_inj_mem (fun x hx y hy hxy => by
    injection hxy with hxy
    exact cd_inj (hd.cl x hx) (he.cl y (e2.mem_iff.mp hy)) (by omega)) e1
  rw [← hq] at e2
  rw [frm_kin hd.f7, frm_kin he.f7, hk, srt_uniq K7 (sub_F7 hd.f7) e2 hd.so he.so]
theorem row_app {D : List P} {d : P} (h : ∀ c ∈ sub d, c ∈ D) (E : List P) : rowOf (D ++ E) d = rowOf D d := by
  unfold rowOf
  congr 3
  exact List.map_congr_left fun c hc => by rw [cd_app (h c hc)]
/- the table and the forms it holds -/
structure Tb (D tbl : List P) : Prop where
  nd : D.Nodup
  kn : ∀ d ∈ D, Kn D d
  eq : tbl = D.map (rowOf D)
theorem Tb.nil : Tb [] [] := ⟨.nil, fun d h => (nomatch h), rfl⟩
theorem Tb.add {D tbl : List P} (h : Tb D tbl) {d : P} (hd : Kn D d) (hn : d ∉ D) : Tb (D ++ [d]) (tbl ++ [rowOf D d]) where
  nd := List.nodup_append.mpr ⟨h.nd, by simp, fun a ha b hb e => hn (by rw [List.mem_singleton] at hb; rw [← hb, ← e]; exact ha)⟩
  kn := fun x hx => by
    have hx2 : Kn D x := by
      rcases List.mem_append.mp hx with hx | hx
      · exact h.kn x hx
      · rw [List.mem_singleton.mp hx]; exact hd
    exact ⟨hx2.f7, hx2.so, fun c hc => List.mem_append_left _ (hx2.cl c hc)⟩
  eq := by
    rw [List.map_append, h.eq]
    congr 1
    · exact List.map_congr_left fun x hx => (row_app (h.kn x hx).cl _).symm
    · show [_] = [_]
      rw [row_app hd.cl]
end Mine
end
section
open PySem.W
namespace Mine
open Classical

theorem eq_row {xs ys : List P} (hx : ∀ x ∈ xs, isN x) (hy : ∀ y ∈ ys, isN y) : eqP deep (.lst xs) (.lst ys) = some (decide (P.lst xs = P.lst ys)) := by
  refine (eqL (N := 39) fun c hc d hd => ?_)
  obtain ⟨a, rfl⟩ := hx c hc
  obtain ⟨b, rfl⟩ := hy d hd
  show some ((a : Int) == (b : Int)) = _
  congr 1
  rw [Bool.eq_iff_iff]
  simp
theorem row_isN (D : List P) (d : P) : ∃ xs, rowOf D d = .lst xs ∧ ∀ x ∈ xs, isN x := by
  refine ⟨_, rfl, fun x hx => ?_⟩
  rcases List.mem_cons.mp hx with rfl | hx
  · exact ⟨_, rfl⟩
  · obtain ⟨c, _, rfl⟩ := List.mem_map.mp ((srt_perm kI _).mem_iff.mp hx)
    exact ⟨_, rfl⟩
theorem rows_eq {D tbl : List P} (h : Tb D tbl) {d : P} (hd : Kn D d) : tbl.mapM (fun q => eqP deep q (rowOf D d)) = some (D.map fun x => decide (x = d)) := by
  rw [h.eq]
  have : ∀ E : List P, (∀ x ∈ E, Kn D x) → (E.map (rowOf D)).mapM (fun q => eqP deep q (rowOf D d)) = some (E.map fun x => decide (x = d)) := by
    intro E hE
    induction E with
    | nil => rfl
    | cons x E ih =>
      obtain ⟨xs, e1, h1⟩ := row_isN D x
      obtain ⟨ys, e2, h2⟩ := row_isN D d
      have h3 : eqP deep (rowOf D x) (rowOf D d) = some (decide (x = d)) := by
        rw [e1, e2, eq_row h1 h2, ← e1, ← e2]
        congr 1
        exact decide_eq_decide.mpr ⟨row_inj (hE x List.mem_cons_self) hd, fun e => by rw [e]⟩
      rw [List.map_cons, List.mapM_cons, ih fun y hy => hE y (List.mem_cons_of_mem _ hy), h3]; rfl
  exact this D h.kn
theorem any_mem (D : List P) (d : P) : (D.map fun x => decide (x = d)).any id = decide (d ∈ D) := by
  rw [Bool.eq_iff_iff]
  simp
theorem find_idx {d : P} : ∀ {D : List P}, d ∈ D → (D.map fun x => decide (x = d)).findIdx? id = some (D.idxOf d)
  | x :: D, h => by
    rw [List.map_cons, List.findIdx?_cons, List.idxOf_cons]
    by_cases e : x = d
    · subst e; simp
    · have ih := find_idx ((List.mem_cons.mp h).resolve_left (Ne.symm e))
      have : (x == d) = false := beq_eq_false_iff_ne.mpr e
      simp [e, ih, this]
theorem sub_obO {A : List Nat} {kd : Nat → Nat} (T : Tr A) {k : Nat} (h : k < 6) : sub (obO A kd k) = srt (key 7) ((kids A k).map (obO A kd)) := by
  rw [obO_eq T h]; rfl

theorem kn_of {A L : List Nat} {D : List P} (T : Tr A) (hL : Kd L) {k : Nat} (h : k < 6) (hD : ∀ c ∈ kids A k, obO A (up L) c ∈ D) : Kn D (obO A (up L) k) := by
  refine ⟨obO_form hL.lt k, ?_, fun c hc => ?_⟩
  · rw [sub_obO T h]; exact srt_srt _ _
  · rw [sub_obO T h] at hc
    obtain ⟨x, hx, rfl⟩ := List.mem_map.mp ((srt_perm _ _).mem_iff.mp hc)
    exact hD x hx
theorem row_obO {A L : List Nat} (T : Tr A) (hL : Kd L) {k : Nat} (h : k < 6) (D : List P) : rowOf D (obO A (up L) k) = .lst (.int (up L k : Nat) :: srt kI ((kids A k).map fun c => .int (cd D (obO A (up L) c) : Nat))) := by
  have h1 : kin (obO A (up L) k) = up L k := by rw [obO_eq T h, kin_frm (hL.lt k)]
  have h2 : srt kI ((sub (obO A (up L) k)).map fun c => .int (cd D c : Nat)) = srt kI ((kids A k).map fun c => .int (cd D (obO A (up L) c) : Nat)) := by
    have h3 := srt_congr keyed_nat (l := (sub (obO A (up L) k)).map fun c => .int (cd D c : Nat)) (r := ((kids A k).map (obO A (up L))).map fun c => .int (cd D c : Nat)) (fun x hx => by
      obtain ⟨c, _, rfl⟩ := List.mem_map.mp hx
      exact ⟨_, rfl⟩) (by rw [sub_obO T h]; exact (srt_perm _ _).map _)
    rw [h3, List.map_map]; rfl
  unfold rowOf
  rw [h1, h2]
/- the codes that are made down to n -/
noncomputable def cdL (D : List P) (O : Nat → P) (n : Nat) : List P := (List.range 6).map fun j => if n ≤ j then .int (cd D (O j) : Nat) else .int 0
theorem cdL_at {D : List P} {O : Nat → P} {n j : Nat} (h : n ≤ j) (hj : j < 6) : (cdL D O n)[j]? = some (.int (cd D (O j) : Nat)) := by
  unfold cdL
  rw [List.getElem?_map, List.getElem?_range hj]
  simp only [Option.map_some, h, if_true]
theorem cdL_set (D : List P) (O : Nat → P) {n : Nat} (h : n < 6) : (cdL D O (n + 1)).set n (.int (cd D (O n) : Nat)) = cdL D O n := by
  apply List.ext_getElem?
  intro j
  unfold cdL
  rw [List.getElem?_set]
  by_cases hj : n = j
  · subst hj
    simp [h]
  · simp only [hj, if_false, List.getElem?_map]
    cases hx : (List.range 6)[j]? with
    | none => rfl
    | some i =>
      obtain ⟨h1, h2⟩ := List.getElem?_eq_some_iff.mp hx
      rw [List.getElem_range] at h2
      subst h2
      simp only [Option.map_some]
      congr 1
      by_cases h1 : n ≤ j
      · rw [if_pos h1, if_pos (by omega)]
      · rw [if_neg h1, if_neg (by omega)]
theorem cdL_app {D : List P} {O : Nat → P} {n : Nat} (h : ∀ j, n ≤ j → j < 6 → O j ∈ D) (E : List P) : cdL (D ++ E) O n = cdL D O n := by
  unfold cdL
  refine List.map_congr_left fun j hj => ?_
  by_cases hn : n ≤ j
  · rw [if_pos hn, if_pos hn, cd_app (h j hn (List.mem_range.mp hj))]
  · rw [if_neg hn, if_neg hn]
noncomputable def bCo : SF := bCons (sSet 5 (xBin2 .Add (xList (xCons (xSub (xV 1) (xV 4)) xNil)) (xCall semSorted (xCons (xComp [0, 3, 4] (vRange (xCons (xBin2 .Add (xV 4) (xK (.int 1))) (xCons (xK (.int 6)) xNil))) (tCmp .Eq (xSub (xV 0) (xV 3)) (xV 2)) (xSub (xV 1) (xV 3))) xNil)))) (bCons (sIf (tCmp .NotIn (xV 5) (xV 2)) (bCons (sApp (xV 2) (xV 5)) bNil) bNil) (bCons (sStore (xBin2 .Add (xK (.int 10)) (xMeth "list" semIndex (xV 2) (xCons (xV 5) xNil))) (xV 3) (xV 4)) bNil))
noncomputable def slCo (A L : List Nat) (x4 x5 : Option V) : Slots := [some (.p (natL A)), some (.p (natL L)), some (.c 0), some (.c 1), x4, x5]
theorem list1 {f : XF} {mem : Mem} {sl : Slots} {a : P} (h1 : f mem sl = some (.p a)) : xList (xCons f xNil) mem sl = some (.p (.lst [a])) := by
  simp only [xList, xCons, xNil, h1, Option.bind_some, Option.map_some]; rfl
theorem key_eval {A L : List Nat} (T : Tr A) (hL : Kd L) {D tbl : List P} {k : Nat} (hk : k < 6) (x5 : Option V) :
    xBin2 .Add (xList (xCons (xSub (xV 1) (xV 4)) xNil)) (xCall semSorted (xCons (xComp [0, 3, 4] (vRange (xCons (xBin2 .Add (xV 4) (xK (.int 1))) (xCons (xK (.int 6)) xNil))) (tCmp .Eq (xSub (xV 0) (xV 3)) (xV 2)) (xSub (xV 1) (xV 3))) xNil)) [.ml tbl, .ml (cdL D (obO A (up L)) (k + 1))] (slCo A L (some (vI k)) x5)
      = some (.p (rowOf D (obO A (up L) k))) := by
  have hc : xComp [0, 3, 4] (vRange (xCons (xBin2 .Add (xV 4) (xK (.int 1))) (xCons (xK (.int 6)) xNil))) (tCmp .Eq (xSub (xV 0) (xV 3)) (xV 2)) (xSub (xV 1) (xV 3)) [.ml tbl, .ml (cdL D (obO A (up L)) (k + 1))] (slCo A L (some (vI k)) x5) = some (.p (.lst ((kids A k).map fun c => .int (cd D (obO A (up L) c) : Nat)))) := by
    rw [← kids_from T hk]
    refine xcomp_on vI _ _ (cv := [.p (natL A), .c 1, vI k]) (l := List.range' (k + 1) (5 - k)) rfl ?_ (by simp; omega) fun c hc => ?_
    · have : xCons (xBin2 .Add (xV 4) (xK (.int 1))) (xCons (xK (.int 6)) xNil) [.ml tbl, .ml (cdL D (obO A (up L)) (k + 1))] (slCo A L (some (vI k)) x5) = some [vI (k + 1), vI 6] := by
        have h1 : xBin2 .Add (xV 4) (xK (.int 1)) [.ml tbl, .ml (cdL D (obO A (up L)) (k + 1))] (slCo A L (some (vI k)) x5) = some (vI (k + 1)) := bin_of rfl rfl rfl rfl (add1 k)
        simp only [xCons, xNil, h1, Option.bind_some, Option.map_some]; rfl
      rw [show 5 - k = 6 - (k + 1) from by omega]
      exact rangeN this (by omega) (by omega)
    · rw [List.mem_range'_1] at hc
      exact ⟨teq_nat (nat_sub T.len (by omega) rfl rfl) rfl, fun _ => sub_of rfl rfl (sub_cell (mem := [.ml tbl, .ml (cdL D (obO A (up L)) (k + 1))]) (c := 1) rfl (cdL_at (by omega) (by omega)) (by omega))⟩
  rw [row_obO T hL hk]
  refine bin_of (list1 (nat_sub hL.len hk rfl rfl)) (call1 hc (sorted_at keyed_nat (T := "int") (fun x hx => ?_) (fun x hx => ?_) (.inl (by rw [List.length_map]; exact kids_len A k)) _)) rfl rfl (add_lst ?_)
  · obtain ⟨c, _, rfl⟩ := List.mem_map.mp hx
    exact ⟨_, rfl⟩
  · obtain ⟨c, _, rfl⟩ := List.mem_map.mp hx
    rfl
  · rw [(srt_perm _ _).length_eq, List.length_map]
    have := kids_len A k
    simp; omega
theorem index_of {D tbl : List P} (h : Tb D tbl) {d : P} (hd : d ∈ D) (hl : D.length ≤ 100) {mem : Mem} (hm : mem[0]? = some (.ml tbl)) : semIndex mem [.c 0, .p (rowOf D d)] = some (vI (D.idxOf d)) := by
  have hl2 : lenOk tbl.length = true := len_ok (by rw [h.eq, List.length_map]; exact hl)
  simp only [semIndex, two, one, lstM, lstD, derP, derM, Option.bind_some, hm, hl2, if_true, rows_eq h (h.kn d hd), find_idx hd, Option.map_some]; rfl
theorem bCo_eval {A L : List Nat} (T : Tr A) (hL : Kd L) {D tbl : List P} (h : Tb D tbl) (hl : D.length ≤ 50) {k : Nat} (hk : k < 6) (hD : ∀ j, k + 1 ≤ j → j < 6 → obO A (up L) j ∈ D) (x5 : Option V) :
    ∃ E tbl' y5, bCo [.ml tbl, .ml (cdL D (obO A (up L)) (k + 1))] (slCo A L (some (vI k)) x5) = some (.next, [.ml tbl', .ml (cdL (D ++ E) (obO A (up L)) k)], slCo A L (some (vI k)) y5) ∧ Tb (D ++ E) tbl' ∧ E.length ≤ 1 ∧ obO A (up L) k ∈ D ++ E := by
  have hkn : Kn D (obO A (up L) k) := kn_of T hL hk fun c hc => hD c (by have := kids_lt T hc; omega) (kids_lt T hc).2
  have hkey := key_eval T hL (D := D) (tbl := tbl) hk x5
  have hni : tCmp .NotIn (xV 5) (xV 2) [.ml tbl, .ml (cdL D (obO A (up L)) (k + 1))] (slCo A L (some (vI k)) (some (.p (rowOf D (obO A (up L) k))))) = some (!decide (obO A (up L) k ∈ D)) := by
    refine tcmp_of rfl rfl ?_
    show ((tbl.mapM fun q => eqP deep q (rowOf D (obO A (up L) k))).map fun bs => !bs.any id) = _
    rw [rows_eq h hkn, Option.map_some, any_mem]
  have fin : ∀ (E tbl' : List P), Tb (D ++ E) tbl' → E.length ≤ 1 → obO A (up L) k ∈ D ++ E → ∀ y5 : Option V, y5 = some (.p (rowOf D (obO A (up L) k))) → bCons (sStore (xBin2 .Add (xK (.int 10)) (xMeth "list" semIndex (xV 2) (xCons (xV 5) xNil))) (xV 3) (xV 4)) bNil [.ml tbl', .ml (cdL D (obO A (up L)) (k + 1))] (slCo A L (some (vI k)) y5) = some (.next, [.ml tbl', .ml (cdL (D ++ E) (obO A (up L)) k)], slCo A L (some (vI k)) y5) := by
    rintro E tbl' hT hE hin _ rfl
    have hi := index_of hT hin (by rw [List.length_append]; omega) (mem := [.ml tbl', .ml (cdL D (obO A (up L)) (k + 1))]) rfl
    rw [row_app hkn.cl] at hi
    have hm : xMeth "list" semIndex (xV 2) (xCons (xV 5) xNil) [.ml tbl', .ml (cdL D (obO A (up L)) (k + 1))] (slCo A L (some (vI k)) (some (.p (rowOf D (obO A (up L) k))))) = some (vI ((D ++ E).idxOf (obO A (up L) k))) := hi
    have ha : binP .Add (.int 10) (.int ((D ++ E).idxOf (obO A (up L) k) : Nat)) = some (.int (cd (D ++ E) (obO A (up L) k) : Nat)) := by
      show some (P.int _) = _
      simp only [cd, Int.natCast_add]; rfl
    refine (ev_nil (store_int (k := 1) (j := k) (l := cdL D (obO A (up L)) (k + 1)) (bin_of rfl hm rfl rfl ha) rfl rfl rfl (by simp [cdL]; omega) (by simp [cdL]))).trans ?_
    rw [← cdL_app hD E, cdL_set (D ++ E) (obO A (up L)) hk]; rfl
  by_cases hin : obO A (up L) k ∈ D
  · rw [decide_eq_true hin] at hni
    refine ⟨[], tbl, _, ev_set hkey (ev_next (ev_ifF hni rfl) (fin [] tbl (by rw [List.append_nil]; exact h) (by simp) (by rw [List.append_nil]; exact hin) _ rfl)), by rw [List.append_nil]; exact h, by simp, by rw [List.append_nil]; exact hin⟩
  · rw [decide_eq_false hin] at hni
    have hT := h.add hkn hin
    have hl3 : tbl.length ≤ 100 := by rw [h.eq, List.length_map]; omega
    refine ⟨[obO A (up L) k], _, _, ev_set hkey (ev_next (ev_ifT hni (ev_nil (app_of (k := 0) rfl rfl rfl hl3))) (fin _ _ hT (by simp) (by simp) _ rfl)), hT, by simp, by simp⟩
end Mine
end
section
open PySem.W
namespace Mine
open Classical

theorem ef_eval {k tot : Nat} {F : SF} {vs : List V} {mem mem' : Mem} {sl' : Slots} {v v' : V} (hl : vs.length = k) (h : F mem (vs.map some ++ List.replicate (tot - k) none) = some (.ret v, mem', sl')) (hv : frzV mem.length mem' v = some v') : efSem k tot F vs mem = some (v', mem'.take mem.length) := by
  simp only [efSem, hl, if_true, h, Option.bind_some, hv, Option.map_some]
theorem codes_eval {A L : List Nat} (T : Tr A) (hL : Kd L) {D tbl : List P} (h : Tb D tbl) (hl : D.length ≤ 40) :
    ∃ E tbl', E_codes [.p (natL A), .p (natL L), .c 0] [.ml tbl] = some (.p (.lst (cdL (D ++ E) (obO A (up L)) 0)), [.ml tbl']) ∧ Tb (D ++ E) tbl' ∧ E.length ≤ 6 ∧ ∀ j < 6, obO A (up L) j ∈ D ++ E := by
  obtain ⟨mem', sl', hI, hF⟩ := for_inv0 (mem := [.ml tbl, .ml (cdL D (obO A (up L)) 6)]) (sl := slCo A L none none) (gs := ([5, 4, 3, 2, 1, 0].map vI).map (aN 4)) (b := bCo)
    (fun i mem sl => i ≤ 6 ∧ ∃ E tbl' x4 x5, mem = [.ml tbl', .ml (cdL (D ++ E) (obO A (up L)) (6 - i))] ∧ sl = slCo A L x4 x5 ∧ Tb (D ++ E) tbl' ∧ E.length ≤ i ∧ ∀ j, 6 - i ≤ j → j < 6 → obO A (up L) j ∈ D ++ E)
    (by
      rintro i g mem sl hg ⟨_, E, tbl', x4, x5, rfl, rfl, hT, hE, hO⟩
      obtain ⟨hi, rfl⟩ := dsel hg
      obtain ⟨k, hk⟩ : ∃ k, k = 5 - i := ⟨_, rfl⟩
      have e1 : 6 - i = k + 1 := by omega
      have e2 : 6 - (i + 1) = k := by omega
      rw [e1] at hO ⊢
      rw [e2, ← hk]
      obtain ⟨E2, tbl2, y5, h1, h2, h3, h4⟩ := bCo_eval T hL hT (by rw [List.length_append]; omega) (by omega : k < 6) hO x5
      refine ⟨_, _, _, rfl, h1, by omega, E ++ E2, tbl2, _, _, by rw [List.append_assoc], rfl, by rw [← List.append_assoc]; exact h2, by rw [List.length_append]; omega, fun j hj hj6 => ?_⟩
      rw [← List.append_assoc]
      by_cases e : j = k
      · subst e; exact h4
      · exact List.mem_append_left _ (hO j (by omega) hj6))
    ⟨by omega, [], tbl, none, none, by rw [List.append_nil], rfl, by rw [List.append_nil]; exact h, by simp, fun j h1 h2 => by omega⟩
  obtain ⟨_, E, tbl', x4, x5, rfl, rfl, hT, hE, hO⟩ := hI
  have hlen : (([5, 4, 3, 2, 1, 0].map vI).map (aN 4)).length = 6 := by simp
  rw [hlen] at hE hO hF
  refine ⟨E, tbl', ?_, hT, hE, fun j hj => hO j (by omega) hj⟩
  have h0 : cdL D (obO A (up L)) 6 = [.int 0, .int 0, .int 0, .int 0, .int 0, .int 0] := by simp [cdL, List.range, List.range.loop]
  have hN : nMul (xList (xCons (xK (.int 0)) xNil)) (xK (.int 6)) [.ml tbl] [some (.p (natL A)), some (.p (natL L)), some (.c 0), none, none, none] = some (.ml (cdL D (obO A (up L)) 6)) := by
    rw [h0]; rfl
  have hb : F_codes [.ml tbl] [some (.p (natL A)), some (.p (natL L)), some (.c 0), none, none, none] = some (.ret (.c 1), [.ml tbl', .ml (cdL (D ++ E) (obO A (up L)) (6 - 6))], slCo A L x4 x5) :=
    ev_new hN (ev_next (ev_for (gV_at (down_eval _ _)) hF) (ev_ret (v := .c 1) rfl))
  exact ef_eval (k := 3) (tot := 6) (vs := [.p (natL A), .p (natL L), .c 0]) (mem := [.ml tbl]) (v' := .p (.lst (cdL (D ++ E) (obO A (up L)) 0))) rfl hb rfl
end Mine
end
section
open PySem.W
namespace Mine

/- _law_goes_with -/
noncomputable def lcaW (A : List Nat) : Nat → Nat → Nat → Option Nat
  | 0, _, _ => none
  | n + 1, a, b => if a = b then some a else if b < a then lcaW A n (up A a) b else lcaW A n a (up A b)
noncomputable def slG (x0 x1 x3 x5 : Option V) (A : List Nat) (i : Nat) (x6 x7 : Option V) : Slots := [x0, x1, some (.p (natL A)), x3, some (vI i), x5, x6, x7]
noncomputable def bLca : SF := bCons (sIf (tCmp .Gt (xV 6) (xV 7)) (bCons (sSet 6 (xSub (xV 2) (xV 6))) bNil) (bCons (sSet 7 (xSub (xV 2) (xV 7))) bNil)) bNil
theorem tne_nat {f g : XF} {mem : Mem} {sl : Slots} {a b : Nat} (h1 : f mem sl = some (vI a)) (h2 : g mem sl = some (vI b)) : tCmp .NotEq f g mem sl = some (!(a == b)) := by
  refine tcmp_of h1 h2 ((ne_of rfl rfl (eq_int _ _)).trans ?_)
  congr 2
  rw [Bool.eq_iff_iff]
  simp only [decide_eq_true_eq, beq_iff_eq]
  omega
theorem tgt_nat {f g : XF} {mem : Mem} {sl : Slots} {a b : Nat} (h1 : f mem sl = some (vI a)) (h2 : g mem sl = some (vI b)) : tCmp .Gt f g mem sl = some (decide (b < a)) := by
  refine tcmp_of h1 h2 ((cmp_lt_int _ _).trans ?_)
  congr 1
  exact decide_eq_decide.mpr (by omega)
theorem wh_lca {x0 x1 x3 x5 : Option V} {A : List Nat} (T : Tr A) {i : Nat} : ∀ (n a b c : Nat), a < 6 → b < 6 → lcaW A n a b = some c →
    whGo (tCmp .NotEq (xV 6) (xV 7)) bLca n [] (slG x0 x1 x3 x5 A i (some (vI a)) (some (vI b))) = some (.next, [], slG x0 x1 x3 x5 A i (some (vI c)) (some (vI c)))
  | 0, a, b, c, _, _, h => by exact noK h
  | n + 1, a, b, c, ha, hb, h => by
    have h1 : tCmp .NotEq (xV 6) (xV 7) [] (slG x0 x1 x3 x5 A i (some (vI a)) (some (vI b))) = some (!(a == b)) := tne_nat rfl rfl
    have h2 : tCmp .Gt (xV 6) (xV 7) [] (slG x0 x1 x3 x5 A i (some (vI a)) (some (vI b))) = some (decide (b < a)) := tgt_nat rfl rfl
    have hup : ∀ x, x < 6 → up A x < 6 := fun x hx => by
      by_cases e : x = 0
      · rw [e, T.up0]; omega
      · have := T.lt x (by omega) hx; omega
    unfold lcaW at h
    by_cases e : a = b
    · subst e
      rw [if_pos rfl] at h
      obtain rfl := soK h
      exact wh_end (by rw [h1]; simp)
    · rw [if_neg e] at h
      have h1 : tCmp .NotEq (xV 6) (xV 7) [] (slG x0 x1 x3 x5 A i (some (vI a)) (some (vI b))) = some true := by rw [h1]; simp [e]
      by_cases e2 : b < a
      · rw [if_pos e2] at h
        rw [decide_eq_true e2] at h2
        exact (wh_step h1 (ev_nil (ev_ifT h2 (ev_nil (set_of (mem' := []) (nat_sub T.len ha rfl rfl)))))).trans (wh_lca T n (up A a) b c (hup a ha) hb h)
      · rw [if_neg e2] at h
        rw [decide_eq_false e2] at h2
        exact (wh_step h1 (ev_nil (ev_ifF h2 (ev_nil (set_of (mem' := []) (nat_sub T.len hb rfl rfl)))))).trans (wh_lca T n a (up A b) c ha (hup b hb) h)
/- what a renaming must satisfy -/
noncomputable def goesOk (A O f : List Nat) : Bool := f.length == 6 && (List.range 6).all fun i => decide (up f i < 6) && up O (up f i) == up f (up A i) &&
  (List.range i).all fun k => match lcaW A whFuel i k with
    | some a => decide (a < 6) && lcpN (ch A i) (ch A k) == ch A a && lcpN (ch O (up f k)) (ch O (up f i)) == ch O (up f a)
    | none => false
structure Goes (A O f : List Nat) : Prop where
  len : f.length = 6
  lt : ∀ i < 6, up f i < 6
  up_ : ∀ i < 6, up O (up f i) = up f (up A i)
  lca : ∀ i < 6, ∀ k < i, ∃ a, lcaW A whFuel i k = some a ∧ a < 6 ∧ lcpN (ch A i) (ch A k) = ch A a ∧ lcpN (ch O (up f k)) (ch O (up f i)) = ch O (up f a)
theorem goes_of {A O f : List Nat} (h : goesOk A O f = true) : Goes A O f := by
  unfold goesOk at h
  simp only [Bool.and_eq_true, beq_iff_eq, List.all_eq_true, List.mem_range, decide_eq_true_eq] at h
  refine ⟨h.1, fun i hi => (h.2 i hi).1.1, fun i hi => (h.2 i hi).1.2, fun i hi k hk => ?_⟩
  have := (h.2 i hi).2 k hk
  split at this
  · rename_i a e
    simp only [Bool.and_eq_true, beq_iff_eq, decide_eq_true_eq] at this
    exact ⟨a, e, this.1.1, this.1.2, this.2⟩
  · cases this
end Mine
end
section
open PySem.W
namespace Mine

theorem pth_sub {t : Nat} {A : List Nat} {mem : Mem} {sl : Slots} {x y : XF} {k : Nat} (hk : k < 6) (h1 : x mem sl = some (.p (.lst (pths t A 6)))) (h2 : y mem sl = some (vI k)) : xSub x y mem sl = some (.p (.str (pth t A k))) := sub_of h1 h2 (sub_lst (pths_at hk) (by omega))
theorem tne_str {f g : XF} {mem : Mem} {sl : Slots} {a : Str} (h1 : f mem sl = some (.p (.str a))) (h2 : g mem sl = some (.p (.str a))) : tCmp .NotEq f g mem sl = some false := by
  refine tcmp_of h1 h2 ((ne_of rfl rfl (eq_str a a)).trans ?_)
  simp
noncomputable def bGoK : SF := bCons (sSet 6 (xV 4)) (bCons (sSet 7 (xV 5)) (bCons (whGo (tCmp .NotEq (xV 6) (xV 7)) bLca whFuel) (bCons (sIf (tCmp .NotEq (xCall S_commonpath (xCons (xList (xCons (xSub (xV 0) (xV 4)) (xCons (xSub (xV 0) (xV 5)) xNil))) xNil)) (xSub (xV 0) (xV 6))) (bCons (sRet (xK (.bool false))) bNil) bNil) (bCons (sIf (tCmp .NotEq (xCall S_commonpath (xCons (xList (xCons (xSub (xV 1) (xSub (xV 3) (xV 5))) (xCons (xSub (xV 1) (xSub (xV 3) (xV 4))) xNil))) xNil)) (xSub (xV 1) (xSub (xV 3) (xV 6)))) (bCons (sRet (xK (.bool false))) bNil) bNil) bNil))))
noncomputable def bGoI : SF := bCons (sIf (tCmp .NotEq (xCall S_dirname (xCons (xSub (xV 1) (xSub (xV 3) (xV 4))) xNil)) (xSub (xV 1) (xSub (xV 3) (xSub (xV 2) (xV 4))))) (bCons (sRet (xK (.bool false))) bNil) bNil) (bCons (sFor (gV (aN 5) (vRange (xCons (xV 4) xNil))) bGoK bNil) bNil)
noncomputable def slGo (t s : Nat) (A O f : List Nat) (x4 x5 x6 x7 : Option V) : Slots := [some (.p (.lst (pths t A 6))), some (.p (.lst (pths s O 6))), some (.p (natL A)), some (.p (natL f)), x4, x5, x6, x7]
variable {t s : Nat} {A O f : List Nat} (T : Tr A) (U : Tr O) (ht : t < 6) (hs : s < 6) (G : Goes A O f)
include T U ht hs G
theorem goK {i k : Nat} (hi : i < 6) (hk : k < i) (x6 x7 : Option V) : ∃ y6 y7, bGoK [] (slGo t s A O f (some (vI i)) (some (vI k)) x6 x7) = some (.next, [], slGo t s A O f (some (vI i)) (some (vI k)) y6 y7) := by
  obtain ⟨a, e, ha, h1, h2⟩ := G.lca i hi k hk
  refine ⟨some (vI a), some (vI a), ev_set (v := vI i) rfl (ev_set (v := vI k) rfl (ev_next (wh_lca T _ i k a hi (by omega) e) (ev_next (ev_ifF (tne_str (a := pth t A a) ?_ (pth_sub ha rfl rfl)) rfl) (ev_nil (ev_ifF (tne_str (a := pth s O (up f a)) ?_ (pth_sub (G.lt a ha) rfl (nat_sub G.len ha rfl rfl))) rfl)))))⟩
  · refine call1 (list2 (pth_sub hi rfl rfl) (pth_sub (by omega) rfl rfl)) ?_
    rw [pth, pth, cp_at ht (T.inC hi) (T.inC (by omega)), h1]; rfl
  · refine call1 (list2 (pth_sub (G.lt k (by omega)) rfl (nat_sub G.len (by omega) rfl rfl)) (pth_sub (G.lt i hi) rfl (nat_sub G.len hi rfl rfl))) ?_
    rw [pth, pth, cp_at hs (U.inC (G.lt k (by omega))) (U.inC (G.lt i hi)), h2]; rfl
theorem goI {i : Nat} (hi : i < 6) (x5 x6 x7 : Option V) : ∃ y5 y6 y7, bGoI [] (slGo t s A O f (some (vI i)) x5 x6 x7) = some (.next, [], slGo t s A O f (some (vI i)) y5 y6 y7) := by
  obtain ⟨mem', sl', hI, hF⟩ := for_inv0 (mem := []) (sl := slGo t s A O f (some (vI i)) x5 x6 x7) (gs := (upto (0 : Nat) i).map (aN 5)) (b := bGoK) (fun _ mem sl => mem = [] ∧ ∃ x5 x6 x7, sl = slGo t s A O f (some (vI i)) x5 x6 x7)
    (by
      rintro k g mem sl hg ⟨rfl, x5, x6, x7, rfl⟩
      obtain ⟨hk, rfl⟩ := gsel (gs := []) (a := 0) hg
      rw [Nat.zero_add]
      obtain ⟨y6, y7, h⟩ := goK T U ht hs G hi hk x6 x7
      exact ⟨_, _, _, rfl, h, rfl, _, _, _, rfl⟩)
    ⟨rfl, _, _, _, rfl⟩
  obtain ⟨rfl, y5, y6, y7, rfl⟩ := hI
  have hup : up A i < 6 := by
    by_cases e : i = 0
    · rw [e, T.up0]; omega
    · have := T.lt i (by omega) hi; omega
  refine ⟨y5, y6, y7, ev_next (ev_ifF (tne_str (a := pth s O (up f (up A i))) ?_ (pth_sub (G.lt _ hup) rfl (nat_sub G.len hup rfl (nat_sub T.len hi rfl rfl)))) rfl) (ev_nil (ev_for (gV_at (range0 rfl (by omega))) hF))⟩
  rw [← G.up_ i hi]
  exact call1 (pth_sub (G.lt i hi) rfl (nat_sub G.len hi rfl rfl)) (dir_at U hs (G.lt i hi) _)
theorem goes_eval (m : Mem) : S_goes_with m [.p (.lst (pths t A 6)), .p (.lst (pths s O 6)), .p (natL A), .p (natL f)] = some (.p (.bool true)) := by
  obtain ⟨mem', sl', hI, hF⟩ := for_inv0 (mem := []) (sl := slGo t s A O f none none none none) (gs := (upto (0 : Nat) 6).map (aN 4)) (b := bGoI) (fun _ mem sl => mem = [] ∧ ∃ x4 x5 x6 x7, sl = slGo t s A O f x4 x5 x6 x7)
    (by
      rintro i g mem sl hg ⟨rfl, x4, x5, x6, x7, rfl⟩
      obtain ⟨hi, rfl⟩ := gsel (gs := []) (a := 0) hg
      rw [Nat.zero_add]
      obtain ⟨y5, y6, y7, h⟩ := goI T U ht hs G hi x5 x6 x7
      exact ⟨_, _, _, rfl, h, rfl, _, _, _, _, rfl⟩)
    ⟨rfl, _, _, _, _, rfl⟩
  obtain ⟨rfl, y4, y5, y6, y7, rfl⟩ := hI
  exact fn_ev (ds := [.lst (pths t A 6), .lst (pths s O 6), natL A, natL f]) rfl rfl ⟨_, _, ev_next (ev_for (gV_at (range0 (n := 6) rfl (by omega))) hF) (ev_ret rfl)⟩
end Mine
end
section
open PySem.W
namespace Mine
open Classical

/- unorderable_list_difference -/
theorem cnt_count (a : P) (l : List P) : cnt a l = l.count a := rfl
theorem cnt_erase (a b : P) (l : List P) : cnt a (l.erase b) = cnt a l - if b = a then 1 else 0 := by
  rw [cnt_count, cnt_count, List.count_erase]
  by_cases h : b = a <;> simp [h]
/- all that can be told apart -/
noncomputable def Dis (S : P → Prop) : Prop := ∀ a b, S a → S b → eqP deep a b = some (decide (a = b))
theorem dis7 : Dis F7 := fun a b ha hb => K7.eq a b ha hb
theorem eqM7 {S : P → Prop} (K : Dis S) {d : P} (hd : S d) : ∀ {l : List P}, (∀ x ∈ l, S x) → l.mapM (fun q => eqP deep q d) = some (l.map fun q => decide (q = d))
  | [], _ => rfl
  | x :: l, h => by
    rw [List.mapM_cons, eqM7 K hd fun y hy => h y (List.mem_cons_of_mem _ hy), K x d (h x List.mem_cons_self) hd]; rfl
theorem find_none {d : P} {D : List P} (h : d ∉ D) : (D.map fun x => decide (x = d)).findIdx? id = none := by
  rw [List.findIdx?_eq_none_iff]
  intro x hx
  obtain ⟨y, hy, rfl⟩ := List.mem_map.mp hx
  simp only [id, decide_eq_false_iff_not]
  exact fun e => h (e ▸ hy)
noncomputable def udA (O : Nat → P) : Nat → List P → List P
  | 0, l => l
  | n + 1, l => udA O n (l.erase (O n))
noncomputable def udM (O : Nat → P) : Nat → List P → List P
  | 0, _ => []
  | n + 1, l => if O n ∈ l then udM O n (l.erase (O n)) else O n :: udM O n (l.erase (O n))
noncomputable def rl (O : Nat → P) (n : Nat) : P := .lst ((List.range n).map O)
theorem loopU {O : Nat → P} (hO : ∀ k, F7 (O k)) {tb : MO} : ∀ (n fuel : Nat) (M Ac : List P) (x3 : Option V), n < fuel → n ≤ 6 → (∀ x ∈ Ac, F7 x) → Ac.length ≤ 6 → M.length + n ≤ 6 →
    ∃ y3, whGo (tX (xV 0)) (bCons (sPop 3 (xV 0)) (bCons (sTryRem 1 3 2) bNil)) fuel [tb, .ml ((List.range n).map O), .ml Ac, .ml M] [some (.c 1), some (.c 2), some (.c 3), x3]
      = some (.next, [tb, .ml [], .ml (udA O n Ac), .ml (M ++ udM O n Ac)], [some (.c 1), some (.c 2), some (.c 3), y3])
  | 0, fuel + 1, M, Ac, x3, h, _, _, _, _ => ⟨x3, by rw [udM, udA, List.append_nil]; exact wh_end rfl⟩
  | n + 1, fuel + 1, M, Ac, x3, h, hn, hA, hAl, hM => by
    have ht : tX (xV 0) [tb, .ml ((List.range (n + 1)).map O), .ml Ac, .ml M] [some (.c 1), some (.c 2), some (.c 3), x3] = some true := by
      show (if lenOk ((List.range (n + 1)).map O).length = true then some (!((List.range (n + 1)).map O).isEmpty) else none) = _
      rw [if_pos (len_ok (by simp; omega))]
      simp [List.range_succ]
    have hp : sPop 3 (xV 0) [tb, .ml ((List.range (n + 1)).map O), .ml Ac, .ml M] [some (.c 1), some (.c 2), some (.c 3), x3] = some (.next, [tb, .ml ((List.range n).map O), .ml Ac, .ml M], [some (.c 1), some (.c 2), some (.c 3), some (.p (O n))]) := by
      show ((((List.range (n + 1)).map O).getLast?).bind fun d => if lenOk ((List.range (n + 1)).map O).length = true then (some (Out.next, [tb, .ml ((List.range (n + 1)).map O).dropLast, .ml Ac, .ml M], [some (.c 1), some (.c 2), some (.c 3), some (.p d)]) : Option (Out × Mem × Slots)) else none) = _
      have e1 : ((List.range (n + 1)).map O).getLast? = some (O n) := by simp [List.range_succ]
      have e2 : ((List.range (n + 1)).map O).dropLast = (List.range n).map O := by simp [List.range_succ]
      rw [e1, e2]
      exact if_pos (len_ok (by simp; omega))
    have hAe : ∀ x ∈ Ac.erase (O n), F7 x := fun x hx => hA x (List.mem_of_mem_erase hx)
    have hle : (Ac.erase (O n)).length ≤ 6 := Nat.le_trans (List.length_erase_le ..) hAl
    by_cases hin : O n ∈ Ac
    · have hr : sTryRem 1 3 2 [tb, .ml ((List.range n).map O), .ml Ac, .ml M] [some (.c 1), some (.c 2), some (.c 3), some (.p (O n))] = some (.next, [tb, .ml ((List.range n).map O), .ml (Ac.erase (O n)), .ml M], [some (.c 1), some (.c 2), some (.c 3), some (.p (O n))]) := by
        show (if lenOk Ac.length = true then if lenOk M.length = true then (Ac.mapM fun q => eqP deep q (O n)).map fun bs => ((Out.next, (bs.findIdx? id).elim [tb, .ml ((List.range n).map O), .ml Ac, .ml (M ++ [O n])] fun j => [tb, .ml ((List.range n).map O), .ml (Ac.eraseIdx j), .ml M], [some (.c 1), some (.c 2), some (.c 3), some (.p (O n))]) : Out × Mem × Slots) else none else none) = _
        rw [if_pos (len_ok (by omega)), if_pos (len_ok (by omega)), eqM7 dis7 (hO n) hA]
        show some (Out.next, ((Ac.map fun q => decide (q = O n)).findIdx? id).elim _ _, _) = _
        rw [find_idx hin, List.erase_eq_eraseIdx_of_idxOf rfl]; rfl
      obtain ⟨y3, hF⟩ := loopU hO n fuel M (Ac.erase (O n)) (some (.p (O n))) (by omega) (by omega) hAe hle (by omega)
      refine ⟨y3, (wh_step ht (ev_next hp (ev_nil hr))).trans (hF.trans ?_)⟩
      rw [udM, udA, if_pos hin]
    · have hr : sTryRem 1 3 2 [tb, .ml ((List.range n).map O), .ml Ac, .ml M] [some (.c 1), some (.c 2), some (.c 3), some (.p (O n))] = some (.next, [tb, .ml ((List.range n).map O), .ml Ac, .ml (M ++ [O n])], [some (.c 1), some (.c 2), some (.c 3), some (.p (O n))]) := by
        show (if lenOk Ac.length = true then if lenOk M.length = true then (Ac.mapM fun q => eqP deep q (O n)).map fun bs => ((Out.next, (bs.findIdx? id).elim [tb, .ml ((List.range n).map O), .ml Ac, .ml (M ++ [O n])] fun j => [tb, .ml ((List.range n).map O), .ml (Ac.eraseIdx j), .ml M], [some (.c 1), some (.c 2), some (.c 3), some (.p (O n))]) : Out × Mem × Slots) else none else none) = _
        rw [if_pos (len_ok (by omega)), if_pos (len_ok (by omega)), eqM7 dis7 (hO n) hA]
        show some (Out.next, ((Ac.map fun q => decide (q = O n)).findIdx? id).elim _ _, _) = _
        rw [find_none hin]; rfl
      obtain ⟨y3, hF⟩ := loopU hO n fuel (M ++ [O n]) Ac (some (.p (O n))) (by omega) (by omega) hA hAl (by rw [List.length_append]; simp; omega)
      refine ⟨y3, (wh_step ht (ev_next hp (ev_nil hr))).trans (hF.trans ?_)⟩
      rw [udM, udA, if_neg hin, List.erase_of_not_mem hin, List.append_assoc]; rfl
end Mine
end
section
open PySem.W
namespace Mine
open Classical

theorem uld_eval {O : Nat → P} (hO : ∀ k, F7 (O k)) {tb : MO} {Ac : List P} (hA : ∀ x ∈ Ac, F7 x) (hl : Ac.length ≤ 6) :
    E_uld [.c 1, .c 2] [tb, .ml ((List.range 6).map O), .ml Ac] = some (.t [.inl (.lst (udM O 6 Ac)), .inr 2], [tb, .ml [], .ml (udA O 6 Ac)]) := by
  obtain ⟨y3, hF⟩ := loopU hO (tb := tb) 6 whFuel [] Ac none (by decide) (by omega) hA hl (by simp)
  rw [List.nil_append] at hF
  have hb : F_uld [tb, .ml ((List.range 6).map O), .ml Ac] [some (.c 1), some (.c 2), none, none] = some (.ret (.t [.inr 3, .inr 2]), [tb, .ml [], .ml (udA O 6 Ac), .ml (udM O 6 Ac)], [some (.c 1), some (.c 2), some (.c 3), y3]) :=
    ev_new (o := .ml []) rfl (ev_next hF (ev_ret rfl))
  exact ef_eval (k := 2) (tot := 4) (vs := [.c 1, .c 2]) (v' := .t [.inl (.lst (udM O 6 Ac)), .inr 2]) rfl hb rfl
theorem cnt_append (a : P) (l r : List P) : cnt a (l ++ r) = cnt a l + cnt a r := by unfold cnt; exact List.countP_append ..
theorem mem_cnt {a : P} {l : List P} : a ∈ l ↔ 0 < cnt a l := by rw [cnt_count]; exact List.count_pos_iff.symm
/- what is missing, by counts -/
theorem udM_eq {O : Nat → P} {c : P → Nat} : ∀ (n : Nat) (Ac : List P), n ≤ 6 → (∀ x, cnt x Ac = c x - cnt x ((List.range' n (6 - n)).map O)) →
    udM O n Ac = ((List.range n).reverse.filter fun k => decide (c (O k) < cnt (O k) ((List.range' k (6 - k)).map O))).map O
  | 0, _, _, _ => rfl
  | n + 1, Ac, hn, h => by
    have e : List.range' n (6 - n) = n :: List.range' (n + 1) (6 - (n + 1)) := by
      rw [show 6 - n = (6 - (n + 1)) + 1 from by omega, List.range'_succ]
    have hc : ∀ x, cnt x ((List.range' n (6 - n)).map O) = cnt x ((List.range' (n + 1) (6 - (n + 1))).map O) + if O n = x then 1 else 0 := fun x => by rw [e, List.map_cons, cnt_cons]
    have ih := udM_eq (O := O) (c := c) n (Ac.erase (O n)) (by omega) fun x => by rw [cnt_erase, h, hc, Nat.sub_sub]
    rw [List.range_succ, List.reverse_append, List.reverse_singleton, List.singleton_append, List.filter_cons]
    have h1 := hc (O n)
    rw [if_pos rfl] at h1
    have h2 := h (O n)
    unfold udM
    by_cases hin : O n ∈ Ac
    · have := mem_cnt.mp hin
      rw [if_pos hin, ih, if_neg (by simp only [decide_eq_true_eq]; omega)]
    · have : ¬ 0 < cnt (O n) Ac := fun q => hin (mem_cnt.mpr q)
      rw [if_neg hin, ih, if_pos (by simp only [decide_eq_true_eq]; omega), List.map_cons]
/- the first ones left out -/
noncomputable def kp : (P → Nat) → List P → List P
  | _, [] => []
  | c, x :: l => if c x = 0 then x :: kp c l else kp (fun y => c y - if x = y then 1 else 0) l
theorem kp_zero : ∀ {c : P → Nat}, (∀ x, c x = 0) → ∀ l, kp c l = l
  | c, h, [] => rfl
  | c, h, x :: l => by unfold kp; rw [if_pos (h x), kp_zero h l]
theorem kp_erase : ∀ (l : List P) (c : P → Nat) (y : P), (kp c l).erase y = kp (fun x => c x + if y = x then 1 else 0) l
  | [], _, _ => rfl
  | x :: l, c, y => by
    unfold kp
    by_cases hxy : y = x
    · subst hxy
      rw [if_neg (by simp : ¬ (c y + if y = y then 1 else 0) = 0)]
      have e : (fun z => (c z + if y = z then 1 else 0) - if y = z then 1 else 0) = c := by funext z; omega
      rw [e]
      by_cases h : c y = 0
      · rw [if_pos h, List.erase_cons_head]
      · rw [if_neg h, kp_erase l]
        congr 1
        funext z
        by_cases hz : y = z
        · subst hz; simp only [if_true]; omega
        · simp only [hz, if_false, Nat.sub_zero, Nat.add_zero]
    · have e1 : (c x + if y = x then 1 else 0) = c x := by rw [if_neg hxy, Nat.add_zero]
      show _ = if (c x + if y = x then 1 else 0) = 0 then x :: kp (fun x => c x + if y = x then 1 else 0) l else kp (fun y_1 => (c y_1 + if y = y_1 then 1 else 0) - if x = y_1 then 1 else 0) l
      rw [e1]
      by_cases h : c x = 0
      · rw [if_pos h, if_pos h, List.erase_cons_tail (by simpa using Ne.symm hxy), kp_erase l]
      · rw [if_neg h, if_neg h, kp_erase l]
        congr 1
        funext z
        by_cases hz : x = z
        · subst hz; simp only [hxy, if_false, if_true]; omega
        · simp only [hz, if_false, Nat.sub_zero]
theorem udA_kp {O : Nat → P} : ∀ (n : Nat) (c : P → Nat) (l : List P), udA O n (kp c l) = kp (fun x => c x + cnt x ((List.range n).map O)) l
  | 0, c, l => rfl
  | n + 1, c, l => by
    unfold udA
    rw [kp_erase, udA_kp n]
    congr 1
    funext x
    rw [List.range_succ, List.map_append, cnt_append, List.map_singleton, cnt_cons]
    simp only [cnt, List.countP_nil]
    omega
theorem kp_idx {O' : Nat → P} {c : P → Nat} : ∀ (r m : Nat), kp (fun x => c x - cnt x ((List.range m).map O')) ((List.range' m r).map O') = ((List.range' m r).filter fun k => decide (c (O' k) < cnt (O' k) ((List.range (k + 1)).map O'))).map O'
  | 0, m => rfl
  | r + 1, m => by
    have hs : ∀ x, cnt x ((List.range (m + 1)).map O') = cnt x ((List.range m).map O') + if O' m = x then 1 else 0 := fun x => by
      rw [List.range_succ, List.map_append, cnt_append, List.map_singleton, cnt_cons]
      simp only [cnt, List.countP_nil]
      omega
    have ih := kp_idx (O' := O') (c := c) r (m + 1)
    rw [List.range'_succ, List.map_cons, List.filter_cons]
    unfold kp
    have h1 := hs (O' m)
    rw [if_pos rfl] at h1
    by_cases h : c (O' m) - cnt (O' m) ((List.range m).map O') = 0
    · rw [if_pos h, if_pos (by simp only [decide_eq_true_eq]; omega), List.map_cons, ← ih]
      congr 2
      funext x
      rw [hs]
      by_cases hx : O' m = x
      · subst hx; simp only [if_true]; omega
      · simp only [hx, if_false, Nat.add_zero]
    · rw [if_neg h, if_neg (by simp only [decide_eq_true_eq]; omega), ← ih]
      congr 1
      funext x
      rw [hs, Nat.sub_sub]
theorem udA_eq {O O' : Nat → P} : udA O 6 ((List.range 6).map O') = ((List.range 6).filter fun k => decide (cnt (O' k) ((List.range 6).map O) < cnt (O' k) ((List.range (k + 1)).map O'))).map O' := by
  have h1 := udA_kp (O := O) 6 (fun _ => 0) ((List.range 6).map O')
  rw [kp_zero (fun _ => rfl)] at h1
  have h2 := kp_idx (O' := O') (c := fun x => cnt x ((List.range 6).map O)) 6 0
  rw [h1]
  rw [← List.range_eq_range'] at h2
  rw [← h2]
  congr 1
  funext x
  simp [cnt]
end Mine
end
section
open PySem.W
namespace Mine
open Classical

/- missing and beyond -/
noncomputable def cds (D : List P) (X : Nat → P) (js : List Nat) : List P := js.map fun j => .int (cd D (X j) : Nat)
theorem cdL_cds (D : List P) (X : Nat → P) : cdL D X 0 = cds D X (List.range 6) := by
  unfold cdL cds
  simp
theorem count_codes {D : List P} {X : Nat → P} {js : List Nat} {d : P} (hd : d ∈ D) (hX : ∀ j ∈ js, X j ∈ D) (m : Mem) : semCount m [.p (.lst (cds D X js)), .p (.int (cd D d : Nat))] = some (vI (cnt d (js.map X))) := by
  have h1 := eqM_nat (cd D d) (js.map fun j => cd D (X j))
  have e : cds D X js = (js.map fun j => cd D (X j)).map fun n => P.int (n : Nat) := by unfold cds; rw [List.map_map]; rfl
  rw [← e] at h1
  have e2 : ((js.map fun j => cd D (X j)).map fun n => n == cd D d).countP id = cnt d (js.map X) := by
    unfold cnt
    rw [List.map_map, List.countP_map, List.countP_map]
    refine List.countP_congr fun j hj => ?_
    simp only [Function.comp_apply, id, beq_iff_eq, decide_eq_true_eq]
    exact ⟨fun h => cd_inj (hX j hj) hd h, fun h => by rw [h]⟩
  simp only [semCount, two, one, lstM, lstD, derP, Option.bind_some, h1, Option.map_some, e2]; rfl
theorem cds_at {D : List P} {X : Nat → P} {k : Nat} (h : k < 6) : (cds D X (List.range 6))[k]? = some (.int (cd D (X k) : Nat)) := by
  unfold cds
  rw [List.getElem?_map, List.getElem?_range h]; rfl
theorem cds_drop {D : List P} {X : Nat → P} {k : Nat} (h : k ≤ 6) : (cds D X (List.range 6)).drop k = cds D X (List.range' k (6 - k)) := by
  unfold cds
  rw [← List.map_drop, List.range_eq_range', List.drop_range', Nat.zero_add, Nat.mul_one]
theorem cds_take {D : List P} {X : Nat → P} {k : Nat} (h : k ≤ 6) : (cds D X (List.range 6)).take k = cds D X (List.range k) := by
  unfold cds
  rw [← List.map_take, List.take_range, Nat.min_eq_left h]
theorem cds_len (D : List P) (X : Nat → P) (js : List Nat) : (cds D X js).length = js.length := by simp [cds]
theorem cmeth {f : XF} {g : XF} {mem : Mem} {sl : Slots} {l : List P} {d : P} {v : V} (h1 : f mem sl = some (.p (.lst l))) (h2 : g mem sl = some (.p d)) (h3 : semCount mem [.p (.lst l), .p d] = some v) : xMeth "list" semCount f (xCons g xNil) mem sl = some v := by
  have : isT "list" mem (.p (.lst l)) = true := rfl
  simp only [xMeth, h1, Option.bind_some, this, if_true, xCons, h2, xNil, Option.map_some, h3]
variable {D : List P} {O O' : Nat → P} (hO : ∀ k < 6, O k ∈ D) (hO' : ∀ k < 6, O' k ∈ D)
include hO hO'
theorem mis_eval {mem : Mem} {sl : Slots} (hc : capV [14, 15, 8] sl = some [.p (.lst (cds D O (List.range 6))), .p (.lst (cds D O' (List.range 6))), .p (rl O 6)]) :
    xComp [14, 15, 8] vDown (tCmp .Gt (xMeth "list" semCount (xSlice (xV 0) (oSome (xV 3)) oNone oNone) (xCons (xSub (xV 0) (xV 3)) xNil)) (xMeth "list" semCount (xV 1) (xCons (xSub (xV 0) (xV 3)) xNil))) (xSub (xV 2) (xV 3)) mem sl = some (.p (.lst (udM O 6 ((List.range 6).map O')))) := by
  rw [udM_eq (c := fun x => cnt x ((List.range 6).map O')) 6 _ (by omega) (fun x => by simp [cnt])]
  have hr : (List.range 6).reverse = [5, 4, 3, 2, 1, 0] := rfl
  rw [hr]
  refine xcomp_on vI _ _ hc (down_eval _ _) (by simp) fun k hk => ?_
  have hk6 : k < 6 := by
    simp only [List.mem_cons, List.not_mem_nil, or_false] at hk
    omega
  have hx : xSub (xV 0) (xV 3) mem (([.p (.lst (cds D O (List.range 6))), .p (.lst (cds D O' (List.range 6))), .p (rl O 6)] : List V).map some ++ [some (vI k)]) = some (.p (.int (cd D (O k) : Nat))) := sub_of rfl rfl (sub_lst (cds_at hk6) (by omega))
  refine ⟨tgt_nat (cmeth (l := cds D O (List.range' k (6 - k))) ?_ hx (count_codes (hO k hk6) (fun j hj => hO j (by rw [List.mem_range'_1] at hj; omega)) _)) (cmeth rfl hx (count_codes (hO k hk6) (fun j hj => hO' j (List.mem_range.mp hj)) _)), fun _ => sub_of rfl rfl (sub_lst (l := (List.range 6).map O) (by rw [List.getElem?_map, List.getElem?_range hk6]; rfl) (by omega))⟩
  have : sliceV mem (.p (.lst (cds D O (List.range 6)))) (some (k : Int)) none none = some (.p (.lst (cds D O (List.range' k (6 - k))))) := by
    rw [slice_drop (by rw [cds_len]; simp) (by rw [cds_len]; simp; omega), cds_drop (by omega)]
  exact slice_of rfl rfl rfl rfl this
theorem bey_eval {mem : Mem} {sl : Slots} (hc : capV [14, 15, 9] sl = some [.p (.lst (cds D O (List.range 6))), .p (.lst (cds D O' (List.range 6))), .p (rl O' 6)]) :
    xComp [14, 15, 9] (vRange (xCons (xK (.int 6)) xNil)) (tCmp .Gt (xMeth "list" semCount (xSlice (xV 1) oNone (oSome (xBin2 .Add (xV 3) (xK (.int 1)))) oNone) (xCons (xSub (xV 1) (xV 3)) xNil)) (xMeth "list" semCount (xV 0) (xCons (xSub (xV 1) (xV 3)) xNil))) (xSub (xV 2) (xV 3)) mem sl = some (.p (.lst (udA O 6 ((List.range 6).map O')))) := by
  rw [udA_eq]
  refine xcomp_on vI _ _ hc ?_ (by simp) fun k hk => ?_
  · rw [range0 (n := 6) rfl (by omega), upto_range, ← List.range_eq_range']
  have hk6 : k < 6 := List.mem_range.mp hk
  have hx : xSub (xV 1) (xV 3) mem (([.p (.lst (cds D O (List.range 6))), .p (.lst (cds D O' (List.range 6))), .p (rl O' 6)] : List V).map some ++ [some (vI k)]) = some (.p (.int (cd D (O' k) : Nat))) := sub_of rfl rfl (sub_lst (cds_at hk6) (by omega))
  refine ⟨tgt_nat (cmeth (l := cds D O' (List.range (k + 1))) ?_ hx (count_codes (hO' k hk6) (fun j hj => hO' j (by rw [List.mem_range] at hj; omega)) _)) (cmeth rfl hx (count_codes (hO' k hk6) (fun j hj => hO j (List.mem_range.mp hj)) _)), fun _ => sub_of rfl rfl (sub_lst (l := (List.range 6).map O') (by rw [List.getElem?_map, List.getElem?_range hk6]; rfl) (by omega))⟩
  have : sliceV mem (.p (.lst (cds D O' (List.range 6)))) none (some ((k + 1 : Nat) : Int)) none = some (.p (.lst (cds D O' (List.range (k + 1))))) := by
    rw [slice_take (by rw [cds_len]; simp) (by rw [cds_len]; simp; omega), cds_take (by omega)]
  have hb : oSome (xBin2 .Add (xV 3) (xK (.int 1))) mem (([.p (.lst (cds D O (List.range 6))), .p (.lst (cds D O' (List.range 6))), .p (rl O' 6)] : List V).map some ++ [some (vI k)]) = some (some ((k + 1 : Nat) : Int)) := by
    have h1 : xBin2 .Add (xV 3) (xK (.int 1)) mem (([.p (.lst (cds D O (List.range 6))), .p (.lst (cds D O' (List.range 6))), .p (rl O' 6)] : List V).map some ++ [some (vI k)]) = some (vI (k + 1)) := bin_of rfl rfl rfl rfl (add1 k)
    unfold oSome
    rw [h1]; rfl
  exact slice_of rfl rfl hb rfl this
end Mine
end
section
open PySem.W
namespace Mine

/- the finite part: keys of the places, reckoned; renamings counted -/
noncomputable def leqN : List Nat → List Nat → Bool
  | [], [] => true
  | x :: xs, y :: ys => match Nat.beq x y with | true => leqN xs ys | false => false
  | _, _ => false
/- x below y -/
noncomputable def ltN : List Nat → List Nat → Bool
  | _, [] => false
  | [], _ :: _ => true
  | x :: xs, y :: ys => match Nat.beq x y with | true => ltN xs ys | false => Nat.ble (x + 1) y
noncomputable def insK (a : List Nat) : List (List Nat) → List (List Nat)
  | [] => [a]
  | b :: l => match ltN b a with | true => b :: insK a l | false => a :: b :: l
noncomputable def cntK (a : List Nat) : List (List Nat) → Nat
  | [] => 0
  | b :: l => match leqN b a with | true => cntK a l + 1 | false => cntK a l
noncomputable def mfK : List (List Nat) → Nat
  | [] => 1
  | a :: l => (cntK a l + 1) * mfK l
/- the sorted keys of the kids of k among the places c, c + 1, .. -/
noncomputable def skK (A : List Nat) (k : Nat) : Nat → List (List Nat) → List (List Nat)
  | _, [] => []
  | c, x :: xs => match Nat.beq (up A c) k with | true => insK x (skK A k (c + 1) xs) | false => skK A k (c + 1) xs
noncomputable def apL : List (List Nat) → List Nat
  | [] => [1]
  | x :: xs => x ++ apL xs
noncomputable def stK (A : List Nat) (r k : Nat) (q : List (List Nat)) (ks : List (List Nat)) (p : Nat) : List (List Nat) × Nat := ((r :: apL q) :: ks, mfK q * p)
noncomputable def keysK (A L : List Nat) : Nat → List (List Nat) × Nat
  | 0 => ([], 1)
  | n + 1 => match keysK A L n with | (ks, p) => stK A (rkk (up L (5 - n)) + 2) (5 - n) (skK A (5 - n) (6 - n) ks) ks p
noncomputable def remK (a : List Nat) : List (List Nat) → Option (List (List Nat))
  | [] => none
  | b :: l => match leqN b a with | true => some l | false => (remK a l).map (b :: ·)
noncomputable def isPK : List (List Nat) → List (List Nat) → Bool
  | [], [] => true
  | [], _ :: _ => false
  | a :: l, m => match remK a m with | some m' => isPK l m' | none => false
noncomputable def hd1 : List (List Nat) → List Nat
  | [] => []
  | x :: _ => x
noncomputable def chk (A B L : List Nat) : Bool := match keysK A L 6, keysK B L 6, (ren A B (up L) 5).length with
  | (ka, pa), (kb, _), n => match leqN (hd1 ka) (hd1 kb) with | true => isPK ka kb && Nat.beq n pa | false => Nat.beq n 0
noncomputable def shG (s : Nat) : Nat := s * s + s + 1
noncomputable def htK (A : List Nat) : Nat → Nat → Nat
  | 0, _ => 1
  | n + 1, k => shG ((kids A k).map (htK A n)).sum
noncomputable def kdsAll : List (List Nat) := [0, 1, 2].flatMap fun a => [0, 1, 2].flatMap fun b => [0, 1, 2].flatMap fun c => [0, 1, 2].flatMap fun d => [0, 1, 2].map fun e => [3, a, b, c, d, e]
noncomputable def trs1 : List (List Nat) := [0, 1, 2].flatMap fun b => [0, 1, 2, 3].flatMap fun c => [0, 1, 2, 3, 4].map fun d => [0, 0, 1, b, c, d]
noncomputable def mvs (A : List Nat) : List (List Nat) := A :: (List.range' 1 5).flatMap fun s => ((List.range s).filter fun d => !(up A s == d)).map fun d => A.set s d
/- the same, for the kernel -/
noncomputable def ltF (x : List Nat) : List Nat → Bool :=
  @List.rec Nat (fun _ => List Nat → Bool) (fun y => @List.rec Nat (fun _ => Bool) false (fun _ _ _ => true) y)
    (fun a _ ih y => @List.rec Nat (fun _ => Bool) false (fun b t _ => @Bool.rec (fun _ => Bool) (Nat.ble (Nat.add a 1) b) (ih t) (Nat.beq a b)) y) x
noncomputable def insF (a : List Nat) (l : List (List Nat)) : List (List Nat) := @List.rec (List Nat) (fun _ => List (List Nat)) [a] (fun b l ih => @Bool.rec (fun _ => List (List Nat)) (a :: b :: l) (b :: ih) (ltF b a)) l
noncomputable def cntF (a : List Nat) (l : List (List Nat)) : Nat := @List.rec (List Nat) (fun _ => Nat) 0 (fun b _ ih => @Bool.rec (fun _ => Nat) ih (Nat.add ih 1) (PySem.W.Fast.lEq b a)) l
noncomputable def mfF (l : List (List Nat)) : Nat := @List.rec (List Nat) (fun _ => Nat) 1 (fun a l ih => Nat.mul (Nat.add (cntF a l) 1) ih) l
noncomputable def skF (k : Nat) (xs : List (List Nat)) : List Nat → List (List Nat) := @List.rec (List Nat) (fun _ => List Nat → List (List Nat)) (fun _ => []) (fun x _ ih ps => @List.rec Nat (fun _ => List (List Nat)) [] (fun p ps' _ => @Bool.rec (fun _ => List (List Nat)) (ih ps') (insF x (ih ps')) (Nat.beq p k)) ps) xs
noncomputable def catF (x y : List Nat) : List Nat := @List.rec Nat (fun _ => List Nat) y (fun a _ ih => a :: ih) x
noncomputable def apF (l : List (List Nat)) : List Nat := @List.rec (List Nat) (fun _ => List Nat) [1] (fun x _ ih => catF x ih) l
noncomputable def keysF (ps : List Nat) : List Nat → Nat → List (List Nat) × Nat := @List.rec Nat (fun _ => List Nat → Nat → List (List Nat) × Nat) (fun _ _ => ([], 1))
  (fun _ ps ih ls k => @List.rec Nat (fun _ => List (List Nat) × Nat) ([], 1) (fun l ls' _ => @Prod.rec (List (List Nat)) Nat (fun _ => List (List Nat) × Nat) (fun ks m => ((Nat.add (rkk l) 2 :: apF (skF k ks ps)) :: ks, Nat.mul (mfF (skF k ks ps)) m)) (ih ls' (Nat.add k 1))) ls) ps
noncomputable def remF (a : List Nat) (l : List (List Nat)) : Option (List (List Nat)) := @List.rec (List Nat) (fun _ => Option (List (List Nat))) none (fun b l ih => @Bool.rec (fun _ => Option (List (List Nat))) (@Option.rec (List (List Nat)) (fun _ => Option (List (List Nat))) none (fun r => some (b :: r)) ih) (some l) (PySem.W.Fast.lEq b a)) l
noncomputable def isPF (l : List (List Nat)) : List (List Nat) → Bool := @List.rec (List Nat) (fun _ => List (List Nat) → Bool) (fun m => @List.rec (List Nat) (fun _ => Bool) true (fun _ _ _ => false) m) (fun a _ ih m => @Option.rec (List (List Nat)) (fun _ => Bool) false (fun m' => ih m') (remF a m)) l
noncomputable def nthF (l : List Nat) : Nat → Nat := @List.rec Nat (fun _ => Nat → Nat) (fun _ => 0) (fun a _ ih k => @Nat.rec (fun _ => Nat) a (fun m _ => ih m) k) l
noncomputable def labF (L f : List Nat) : List Nat → Bool := @List.rec Nat (fun _ => List Nat → Bool) (fun _ => true) (fun x _ ih ls => @List.rec Nat (fun _ => Bool) true (fun l ls' _ => @Bool.rec (fun _ => Bool) false (ih ls') (Nat.beq (nthF L x) l)) ls) f
noncomputable def cnF (L : List Nat) (fs : List (List Nat)) : Nat := @List.rec (List Nat) (fun _ => Nat) 0 (fun f _ ih => @Bool.rec (fun _ => Nat) ih (Nat.add ih 1) (labF L f L)) fs
theorem lEq_leq (x y : List Nat) : PySem.W.Fast.lEq x y = leqN x y := by
  induction x generalizing y with
  | nil => cases y <;> rfl
  | cons a x ih => cases y with
    | nil => rfl
    | cons b y =>
      show @Bool.rec (fun _ => Bool) false (PySem.W.Fast.lEq x y) (Nat.beq a b) = _
      unfold leqN
      rw [ih]
      cases Nat.beq a b <;> rfl
theorem ltF_eq (x y : List Nat) : ltF x y = ltN x y := by
  induction x generalizing y with
  | nil => cases y <;> rfl
  | cons a x ih => cases y with
    | nil => rfl
    | cons b y =>
      show @Bool.rec (fun _ => Bool) (Nat.ble (Nat.add a 1) b) (ltF x y) (Nat.beq a b) = _
      unfold ltN
      rw [ih]
      cases Nat.beq a b <;> rfl
theorem insF_eq (a : List Nat) (l : List (List Nat)) : insF a l = insK a l := by
  induction l with
  | nil => rfl
  | cons b l ih =>
    show @Bool.rec (fun _ => List (List Nat)) (a :: b :: l) (b :: insF a l) (ltF b a) = _
    unfold insK
    rw [ih, ltF_eq]
    cases ltN b a <;> rfl
theorem cntF_eq (a : List Nat) (l : List (List Nat)) : cntF a l = cntK a l := by
  induction l with
  | nil => rfl
  | cons b l ih =>
    show @Bool.rec (fun _ => Nat) (cntF a l) (Nat.add (cntF a l) 1) (PySem.W.Fast.lEq b a) = _
    unfold cntK
    rw [ih, lEq_leq]
    cases leqN b a <;> rfl
theorem mfF_eq (l : List (List Nat)) : mfF l = mfK l := by
  induction l with
  | nil => rfl
  | cons a l ih =>
    show Nat.mul (Nat.add (cntF a l) 1) (mfF l) = _
    rw [ih, cntF_eq]; rfl
theorem skF_eq {A : List Nat} (k : Nat) (xs : List (List Nat)) : ∀ c, c + xs.length ≤ A.length → skF k xs (A.drop c) = skK A k c xs := by
  induction xs with
  | nil => exact fun _ _ => rfl
  | cons x xs ih =>
    intro c hc
    have hlt : c < A.length := by rw [List.length_cons] at hc; omega
    have e : up A c = A[c] := by rw [up, List.getD_eq_getElem?_getD, List.getElem?_eq_getElem hlt]; rfl
    rw [List.drop_eq_getElem_cons hlt]
    show @Bool.rec (fun _ => List (List Nat)) (skF k xs (A.drop (c + 1))) (insF x (skF k xs (A.drop (c + 1)))) (Nat.beq A[c] k) = _
    rw [ih (c + 1) (by rw [List.length_cons] at hc; omega), insF_eq, ← e]
    show _ = (match Nat.beq (up A c) k with | true => insK x (skK A k (c + 1) xs) | false => skK A k (c + 1) xs)
    cases Nat.beq (up A c) k <;> rfl
theorem catF_eq (x y : List Nat) : catF x y = x ++ y := by
  induction x with
  | nil => rfl
  | cons a x ih => exact congrArg (a :: ·) ih
theorem apF_eq (l : List (List Nat)) : apF l = apL l := by
  induction l with
  | nil => rfl
  | cons x l ih => exact (congrArg (catF x) ih).trans (catF_eq x _)
theorem keysK_len (A L : List Nat) : ∀ n, (keysK A L n).1.length = n
  | 0 => rfl
  | n + 1 => by
    have := keysK_len A L n
    unfold keysK
    cases h : keysK A L n with
    | mk ks p => rw [h] at this; exact congrArg (· + 1) this
theorem keysF_eq {A L : List Nat} (hA : A.length = 6) (hL : L.length = 6) : ∀ n, n ≤ 6 → keysF (A.drop (6 - n)) (L.drop (6 - n)) (6 - n) = keysK A L n
  | 0, _ => by
    rw [List.drop_eq_nil_of_le (by omega)]; rfl
  | n + 1, h => by
    have ih := keysF_eq hA hL n (by omega)
    have hl := keysK_len A L n
    have e1 : 6 - (n + 1) = 5 - n := by omega
    have e2 : 6 - n = 5 - n + 1 := by omega
    have h1 : 5 - n < A.length := by omega
    have h2 : 5 - n < L.length := by omega
    have e3 : up L (5 - n) = L[5 - n] := by rw [up, List.getD_eq_getElem?_getD, List.getElem?_eq_getElem h2]; rfl
    rw [e1, List.drop_eq_getElem_cons h1, List.drop_eq_getElem_cons h2]
    rw [e2] at ih
    show @Prod.rec (List (List Nat)) Nat (fun _ => List (List Nat) × Nat) (fun ks m => ((Nat.add (rkk L[5 - n]) 2 :: apF (skF (5 - n) ks (A.drop (5 - n + 1)))) :: ks, Nat.mul (mfF (skF (5 - n) ks (A.drop (5 - n + 1)))) m)) (keysF (A.drop (5 - n + 1)) (L.drop (5 - n + 1)) (5 - n + 1)) = _
    rw [ih]
    show _ = (match keysK A L n with | (ks, p) => stK A (rkk (up L (5 - n)) + 2) (5 - n) (skK A (5 - n) (6 - n) ks) ks p)
    cases q : keysK A L n with
    | mk ks p =>
      rw [q] at hl
      have hl' : ks.length = n := hl
      show ((Nat.add (rkk L[5 - n]) 2 :: apF (skF (5 - n) ks (A.drop (5 - n + 1)))) :: ks, Nat.mul (mfF (skF (5 - n) ks (A.drop (5 - n + 1)))) p) = stK A (rkk (up L (5 - n)) + 2) (5 - n) (skK A (5 - n) (6 - n) ks) ks p
      rw [skF_eq _ _ _ (by omega), apF_eq, mfF_eq, e3, e2]; rfl
theorem keysF6 {A L : List Nat} (hA : A.length = 6) (hL : L.length = 6) : keysF A L 0 = keysK A L 6 := keysF_eq hA hL 6 (Nat.le_refl _)
theorem remF_eq (a : List Nat) (l : List (List Nat)) : remF a l = remK a l := by
  induction l with
  | nil => rfl
  | cons b l ih =>
    show @Bool.rec (fun _ => Option (List (List Nat))) (@Option.rec (List (List Nat)) (fun _ => Option (List (List Nat))) none (fun r => some (b :: r)) (remF a l)) (some l) (PySem.W.Fast.lEq b a) = _
    unfold remK
    rw [ih, lEq_leq]
    cases leqN b a with
    | true => rfl
    | false => cases remK a l <;> rfl
theorem isPF_eq (l : List (List Nat)) : ∀ m, isPF l m = isPK l m := by
  induction l with
  | nil => intro m; cases m <;> rfl
  | cons a l ih =>
    intro m
    show @Option.rec (List (List Nat)) (fun _ => Bool) false (fun m' => isPF l m') (remF a m) = _
    unfold isPK
    rw [remF_eq]
    cases remK a m with
    | none => rfl
    | some r => exact ih r
theorem nthF_eq (l : List Nat) : ∀ k, nthF l k = up l k := by
  induction l with
  | nil => intro k; unfold up; rw [List.getD_nil]; rfl
  | cons a l ih =>
    intro k
    cases k with
    | zero => rfl
    | succ k => exact ih k
/- the places' kinds are kept, from place i on -/
noncomputable def lab (kd : Nat → Nat) : Nat → List Nat → Bool
  | _, [] => true
  | i, x :: f => Nat.beq (kd x) (kd i) && lab kd (i + 1) f
theorem beq_nat (a b : Nat) : Nat.beq a b = (a == b) := by rw [Bool.eq_iff_iff]; simp
theorem lab_snoc (kd : Nat → Nat) (j : Nat) : ∀ (f : List Nat) (i : Nat), lab kd i (f ++ [j]) = (lab kd i f && (kd j == kd (i + f.length)))
  | [], i => by
    simp only [List.nil_append, lab, Bool.and_true, beq_nat, List.length_nil, Nat.add_zero, Bool.true_and]
  | x :: f, i => by
    show (Nat.beq (kd x) (kd i) && lab kd (i + 1) (f ++ [j])) = _
    have e : i + 1 + f.length = i + (x :: f).length := by rw [List.length_cons]; omega
    rw [lab_snoc kd j f (i + 1), e, ← Bool.and_assoc]; rfl
theorem labF_eq (L : List Nat) : ∀ (f : List Nat) (i : Nat), i + f.length ≤ L.length → labF L f (L.drop i) = lab (up L) i f
  | [], _, _ => rfl
  | x :: f, i, h => by
    have hlt : i < L.length := by rw [List.length_cons] at h; omega
    have e : up L i = L[i] := by rw [up, List.getD_eq_getElem?_getD, List.getElem?_eq_getElem hlt]; rfl
    rw [List.drop_eq_getElem_cons hlt]
    show @Bool.rec (fun _ => Bool) false (labF L f (L.drop (i + 1))) (Nat.beq (nthF L x) L[i]) = (Nat.beq (up L x) (up L i) && lab (up L) (i + 1) f)
    rw [labF_eq L f (i + 1) (by rw [List.length_cons] at h; omega), nthF_eq, e]
    cases Nat.beq (up L x) L[i] <;> rfl
theorem ren_lab (A B : List Nat) (kd : Nat → Nat) : ∀ n, ren A B kd n = (ren A B (fun _ => 0) n).filter (lab kd 0)
  | 0 => by
    have : lab kd 0 [0] = true := by simp only [lab, Bool.and_true]; exact Nat.beq_refl _
    show [[0]] = [[0]].filter (lab kd 0)
    rw [List.filter_cons_of_pos this]; rfl
  | n + 1 => by
    have ih := ren_lab A B kd n
    have hlen := ren_len A B (fun _ => 0) n
    show renStep A B kd (n + 1) (ren A B kd n) = (renStep A B (fun _ => 0) (n + 1) (ren A B (fun _ => 0) n)).filter (lab kd 0)
    rw [ih]
    generalize ren A B (fun _ => 0) n = fs at hlen
    induction fs with
    | nil => rfl
    | cons f fs ihf =>
      have ihf := ihf fun g hg => hlen g (List.mem_cons_of_mem _ hg)
      unfold renStep at ihf ⊢
      have hl : f.length = n + 1 := hlen f List.mem_cons_self
      have hf : ∀ js : List Nat, ((js.filter fun j => !f.contains j && (up B j == up f (up A (n + 1)) && (0 : Nat) == 0)).map fun j => f ++ [j]).filter (lab kd 0) =
          if lab kd 0 f = true then (js.filter fun j => !f.contains j && (up B j == up f (up A (n + 1)) && kd j == kd (n + 1))).map fun j => f ++ [j] else [] := fun js => by
        rw [List.filter_map]
        have : (lab kd 0 ∘ fun j => f ++ [j]) = fun j => lab kd 0 f && (kd j == kd (n + 1)) := by
          funext j
          show lab kd 0 (f ++ [j]) = _
          rw [lab_snoc, hl, Nat.zero_add]
        rw [this, List.filter_filter]
        cases h : lab kd 0 f with
        | true =>
          rw [if_pos rfl]
          congr 2
          funext j
          rw [Bool.true_and, Bool.and_comm, Bool.and_assoc, Bool.and_assoc]; rfl
        | false =>
          rw [if_neg Bool.false_ne_true]
          have : (js.filter fun j => (false && (kd j == kd (n + 1))) && (!f.contains j && (up B j == up f (up A (n + 1)) && (0 : Nat) == 0))) = [] := by
            rw [List.filter_eq_nil_iff]
            intro a _
            rw [Bool.false_and, Bool.false_and]
            exact Bool.false_ne_true
          rw [this]; rfl
      rw [List.flatMap_cons, List.filter_append, hf, ← ihf]
      cases h : lab kd 0 f with
      | true => rw [List.filter_cons_of_pos h, List.flatMap_cons, if_pos rfl]
      | false => rw [List.filter_cons_of_neg (by rw [h]; exact Bool.false_ne_true), if_neg Bool.false_ne_true, List.nil_append]
theorem cnF_eq {L : List Nat} (hL : L.length = 6) (fs : List (List Nat)) (h : ∀ f ∈ fs, f.length = 6) : cnF L fs = (fs.filter (lab (up L) 0)).length := by
  induction fs with
  | nil => rfl
  | cons f fs ih =>
    have ih := ih fun g hg => h g (List.mem_cons_of_mem _ hg)
    have e : labF L f L = lab (up L) 0 f := labF_eq L f 0 (by rw [h f List.mem_cons_self, hL]; exact Nat.le_refl _)
    show @Bool.rec (fun _ => Nat) (cnF L fs) (Nat.add (cnF L fs) 1) (labF L f L) = _
    rw [e, ih]
    cases q : lab (up L) 0 f with
    | true => rw [List.filter_cons_of_pos q]; rfl
    | false => rw [List.filter_cons_of_neg (by rw [q]; exact Bool.false_ne_true)]
noncomputable def chkF (A B : List Nat) (fs : List (List Nat)) (L : List Nat) : Bool := @Prod.rec (List (List Nat)) Nat (fun _ => Bool) (fun ka pa => @Prod.rec (List (List Nat)) Nat (fun _ => Bool) (fun kb _ =>
  @Bool.rec (fun _ => Bool) (Nat.beq (cnF L fs) 0) (@Bool.rec (fun _ => Bool) false (Nat.beq (cnF L fs) pa) (isPF ka kb)) (PySem.W.Fast.lEq (hd1 ka) (hd1 kb))) (keysF B L 0)) (keysF A L 0)
theorem chkF_eq {A B L : List Nat} (hA : A.length = 6) (hB : B.length = 6) (hL : L.length = 6) (h : chkF A B (ren A B (fun _ => 0) 5) L = true) : chk A B L = true := by
  unfold chkF at h
  rw [keysF6 hA hL, keysF6 hB hL, cnF_eq hL _ (ren_len A B _ 5), ← ren_lab] at h
  unfold chk
  cases h1 : keysK A L 6 with
  | mk ka pa => cases h2 : keysK B L 6 with
    | mk kb pb =>
      rw [h1, h2] at h
      replace h : @Bool.rec (fun _ => Bool) (Nat.beq (ren A B (up L) 5).length 0) (@Bool.rec (fun _ => Bool) false (Nat.beq (ren A B (up L) 5).length pa) (isPF ka kb)) (PySem.W.Fast.lEq (hd1 ka) (hd1 kb)) = true := h
      rw [lEq_leq, isPF_eq] at h
      show (match leqN (hd1 ka) (hd1 kb) with | true => isPK ka kb && Nat.beq (ren A B (up L) 5).length pa | false => Nat.beq (ren A B (up L) 5).length 0) = true
      cases h3 : leqN (hd1 ka) (hd1 kb) with
      | false => rw [h3] at h; exact h
      | true =>
        rw [h3] at h
        cases h4 : isPK ka kb with
        | false => rw [h4] at h; exact h
        | true => rw [h4] at h; exact h
noncomputable def pairOk (A B : List Nat) : Bool := match ren A B (fun _ => 0) 5 with
  | [] => !(Nat.beq (htK A 6 0) (htK B 6 0))
  | f :: fs => (f :: fs).all (goesOk A B) && kdsAll.all fun L => chkF A B (f :: fs) L
noncomputable def grp (b c : Nat) : Bool := [0, 1, 2, 3, 4].all fun d => (mvs [0, 0, 1, b, c, d]).all fun B => pairOk [0, 0, 1, b, c, d] B
theorem grp00 : grp 0 0 = true := by decide +kernel
theorem grp01 : grp 0 1 = true := by decide +kernel
theorem grp02 : grp 0 2 = true := by decide +kernel
theorem grp03 : grp 0 3 = true := by decide +kernel
theorem grp10 : grp 1 0 = true := by decide +kernel
theorem grp11 : grp 1 1 = true := by decide +kernel
theorem grp12 : grp 1 2 = true := by decide +kernel
theorem grp13 : grp 1 3 = true := by decide +kernel
theorem grp20 : grp 2 0 = true := by decide +kernel
theorem grp21 : grp 2 1 = true := by decide +kernel
theorem grp22 : grp 2 2 = true := by decide +kernel
theorem grp23 : grp 2 3 = true := by decide +kernel
end Mine
end
section
open PySem.W
namespace Mine

/- the reckoned keys are the keys -/
theorem leqN_iff : ∀ {x y : List Nat}, leqN x y = true ↔ x = y
  | [], [] => by simp [leqN]
  | [], _ :: _ => by simp [leqN]
  | _ :: _, [] => by simp [leqN]
  | x :: xs, y :: ys => by
    have ih := leqN_iff (x := xs) (y := ys)
    unfold leqN
    cases h : Nat.beq x y with
    | true =>
      have : x = y := Nat.eq_of_beq_eq_true h
      subst this
      simp [ih]
    | false =>
      have : x ≠ y := Nat.ne_of_beq_eq_false h
      simp [this]
theorem ltN_iff : ∀ {x y : List Nat}, ltN x y = true ↔ x < y
  | _, [] => by unfold ltN; simp
  | [], _ :: _ => by unfold ltN; simp
  | x :: xs, y :: ys => by
    have ih := ltN_iff (x := xs) (y := ys)
    unfold ltN
    rw [List.cons_lt_cons_iff]
    cases h : Nat.beq x y with
    | true =>
      have : x = y := Nat.eq_of_beq_eq_true h
      subst this
      simp [ih]
    | false =>
      have : x ≠ y := Nat.ne_of_beq_eq_false h
      simp only [Nat.ble_eq, this, false_and, or_false]
      exact Iff.rfl
noncomputable def sN (l : List (List Nat)) : Prop := l.Pairwise fun a b => ¬ b < a
theorem insK_perm (a : List Nat) : ∀ l, (insK a l).Perm (a :: l)
  | [] => .refl _
  | b :: l => by
    unfold insK
    cases ltN b a with
    | true => exact ((insK_perm a l).cons b).trans (.swap a b l)
    | false => exact .refl _
theorem insK_sN {a : List Nat} : ∀ {l : List (List Nat)}, sN l → sN (insK a l)
  | [], _ => by simp [insK, sN]
  | b :: l, h => by
    unfold insK
    have h1 := List.pairwise_cons.mp h
    cases e : ltN b a with
    | true =>
      have hlt := ltN_iff.mp e
      refine List.pairwise_cons.mpr ⟨fun x hx => ?_, insK_sN h1.2⟩
      rcases List.mem_cons.mp ((insK_perm a l).mem_iff.mp hx) with rfl | hx
      · exact List.lt_asymm hlt
      · exact h1.1 x hx
    | false =>
      have hn : ¬ b < a := fun q => by rw [ltN_iff.mpr q] at e; cases e
      refine List.pairwise_cons.mpr ⟨fun x hx => ?_, h⟩
      rcases List.mem_cons.mp hx with rfl | hx
      · exact hn
      · exact not_lt_trans hn (h1.1 x hx)
theorem sN_uniq : ∀ {l r : List (List Nat)}, l.Perm r → sN l → sN r → l = r
  | [], r, hp, _, _ => by rw [List.Perm.nil_eq hp]
  | a :: l, [], hp, _, _ => absurd hp.length_eq (by simp)
  | a :: l, b :: r, hp, h1, h2 => by
    have hab : a = b := by
      have ha : a ∈ b :: r := hp.mem_iff.mp List.mem_cons_self
      have hb : b ∈ a :: l := hp.mem_iff.mpr List.mem_cons_self
      rcases List.mem_cons.mp ha with e | ha
      · exact e
      rcases List.mem_cons.mp hb with e | hb
      · exact e.symm
      exact eq_of_not ((List.pairwise_cons.mp h2).1 a ha) ((List.pairwise_cons.mp h1).1 b hb)
    subst hab
    rw [sN_uniq (List.Perm.cons_inv hp) (List.pairwise_cons.mp h1).2 (List.pairwise_cons.mp h2).2]
theorem skK_ok {A : List Nat} {k : Nat} {X : Nat → List Nat} : ∀ (r c : Nat), (skK A k c ((List.range' c r).map X)).Perm (((List.range' c r).filter fun c => up A c == k).map X) ∧ sN (skK A k c ((List.range' c r).map X))
  | 0, c => ⟨.refl _, .nil⟩
  | r + 1, c => by
    obtain ⟨h1, h2⟩ := skK_ok (A := A) (k := k) (X := X) r (c + 1)
    rw [List.range'_succ, List.map_cons, List.filter_cons]
    unfold skK
    have e : (up A c == k) = Nat.beq (up A c) k := by rw [Bool.eq_iff_iff]; simp
    rw [e]
    cases h : Nat.beq (up A c) k with
    | true => exact ⟨(insK_perm _ _).trans (h1.cons _), insK_sN h2⟩
    | false => exact ⟨h1, h2⟩
theorem key_up : ∀ {n : Nat} {d : P}, Form n d → key (n + 1) d = key n d
  | n + 1, d, ⟨k, cs, hk, e, h⟩ => by
    subst e
    rw [key_frm hk, key_frm hk]
    congr 2
    have : ∀ l : List P, (∀ c ∈ l, Form n c) → l.flatMap (key (n + 1)) = l.flatMap (key n) := fun l hl => by
      induction l with
      | nil => rfl
      | cons c l ih => rw [List.flatMap_cons, List.flatMap_cons, key_up (hl c List.mem_cons_self), ih fun x hx => hl x (List.mem_cons_of_mem _ hx)]
    exact this cs h
theorem apL_eq : ∀ l : List P, apL (l.map (key 7)) = l.flatMap (key 7) ++ [1]
  | [] => rfl
  | c :: l => by
    show key 7 c ++ apL (l.map (key 7)) = _
    rw [apL_eq l, List.flatMap_cons, List.append_assoc]
theorem flat_up (n : Nat) : ∀ l : List P, (∀ c ∈ l, Form n c) → l.flatMap (key n) = l.flatMap (key (n + 1))
  | [], _ => rfl
  | c :: l, hl => by
    have h1 := key_up (hl c List.mem_cons_self)
    have h2 := flat_up n l fun x hx => hl x (List.mem_cons_of_mem _ hx)
    show key n c ++ l.flatMap (key n) = key (n + 1) c ++ l.flatMap (key (n + 1))
    rw [h1, h2]
theorem obO6 {A L : List Nat} (T : Tr A) (hL : Kd L) {x : Nat} (h1 : 0 < x) (h2 : x < 6) : Form 6 (obO A (up L) x) := by
  have e : obO A (up L) x = obj A (up L) 5 x := obj_fuel T 6 5 x h2 (by omega) (by omega)
  rw [e]
  exact obj_form hL.lt 5 x
theorem key_frm7 {k : Nat} (hk : k < 4) {cs : List P} (h : ∀ c ∈ cs, Form 6 c) : key 7 (frm k cs) = (rkk k + 2) :: apL (cs.map (key 7)) := by
  rw [apL_eq]
  exact (key_frm (n := 6) hk cs).trans (congrArg (fun q => (rkk k + 2) :: (q ++ [1])) (flat_up 6 cs h))
theorem key_obO {A L : List Nat} (T : Tr A) (hL : Kd L) {k : Nat} (h : k < 6) : key 7 (obO A (up L) k) = (rkk (up L k) + 2) :: apL ((srt (key 7) ((kids A k).map (obO A (up L)))).map (key 7)) := by
  rw [obO_eq T h]
  exact key_frm7 (hL.lt k) fun c hc => by
    obtain ⟨x, hx, rfl⟩ := List.mem_map.mp ((srt_perm _ _).mem_iff.mp hc)
    obtain ⟨h1, h2, _⟩ := mem_kids hx
    exact obO6 T hL h1 h2
noncomputable def keyO (A L : List Nat) (k : Nat) : List Nat := key 7 (obO A (up L) k)
theorem skK_kids {A L : List Nat} (T : Tr A) (hL : Kd L) {k : Nat} (h : k < 6) : skK A k (k + 1) ((List.range' (k + 1) (5 - k)).map (keyO A L)) = (srt (key 7) ((kids A k).map (obO A (up L)))).map (key 7) := by
  obtain ⟨h1, h2⟩ := skK_ok (A := A) (k := k) (X := keyO A L) (5 - k) (k + 1)
  rw [kids_from T h] at h1
  refine sN_uniq (h1.trans ?_) h2 ?_
  · have := ((srt_perm (key 7) ((kids A k).map (obO A (up L)))).map (key 7)).symm
    rw [List.map_map] at this
    exact this
  · exact List.pairwise_map.mpr (srt_srt (key 7) _)
end Mine
end
section
open PySem.W
namespace Mine
open Classical

theorem key7_inj {a b : P} (ha : F7 a) (hb : F7 b) (h : key 7 a = key 7 b) : a = b := K7.inj a b ha hb h
theorem cntK_eq {a : P} (ha : F7 a) : ∀ {l : List P}, (∀ x ∈ l, F7 x) → cntK (key 7 a) (l.map (key 7)) = cnt a l
  | [], _ => rfl
  | b :: l, h => by
    have ih := cntK_eq ha fun x hx => h x (List.mem_cons_of_mem _ hx)
    rw [List.map_cons, cnt_cons]
    unfold cntK
    cases e : leqN (key 7 b) (key 7 a) with
    | true =>
      have := key7_inj (h b List.mem_cons_self) ha (leqN_iff.mp e)
      rw [if_pos this, ih]
    | false =>
      have : b ≠ a := fun q => by rw [q, leqN_iff.mpr rfl] at e; cases e
      rw [if_neg this, ih]; rfl
theorem mfK_eq : ∀ {l : List P}, (∀ x ∈ l, F7 x) → mfK (l.map (key 7)) = mf l
  | [], _ => rfl
  | a :: l, h => by
    have ih := mfK_eq fun x hx => h x (List.mem_cons_of_mem _ hx)
    show (cntK (key 7 a) (l.map (key 7)) + 1) * mfK (l.map (key 7)) = (cnt a l + 1) * mf l
    rw [cntK_eq (h a List.mem_cons_self) fun x hx => h x (List.mem_cons_of_mem _ hx), ih]
theorem keysK_step {A L : List Nat} (T : Tr A) (hL : Kd L) {n : Nat} (hn : n < 6) {p : Nat} (h : keysK A L n = ((List.range' (6 - n) n).map (keyO A L), p)) (hp : p * exW A (up L) (6 - n) = exW A (up L) 6) :
    ∃ p', keysK A L (n + 1) = ((List.range' (6 - (n + 1)) (n + 1)).map (keyO A L), p') ∧ p' * exW A (up L) (6 - (n + 1)) = exW A (up L) 6 := by
  obtain ⟨k, hk⟩ : ∃ k, k = 5 - n := ⟨_, rfl⟩
  have e1 : 6 - n = k + 1 := by omega
  have e2 : 6 - (n + 1) = k := by omega
  have e3 : n = 5 - k := by omega
  have hk6 : k < 6 := by omega
  have hF : ∀ x ∈ (kids A k).map (obO A (up L)), F7 x := fun x hx => by
    obtain ⟨c, _, rfl⟩ := List.mem_map.mp hx
    exact obO_form hL.lt c
  have hF2 : ∀ x ∈ srt (key 7) ((kids A k).map (obO A (up L))), F7 x := fun x hx => hF x ((srt_perm _ _).mem_iff.mp hx)
  refine ⟨mfK ((srt (key 7) ((kids A k).map (obO A (up L)))).map (key 7)) * p, ?_, ?_⟩
  · have e4 : keysK A L (n + 1) = stK A (rkk (up L (5 - n)) + 2) (5 - n) (skK A (5 - n) (6 - n) ((List.range' (6 - n) n).map (keyO A L))) ((List.range' (6 - n) n).map (keyO A L)) p := by
      unfold keysK
      rw [h]
    have e5 := skK_kids T hL hk6
    have e6 : (List.range' (6 - n) n).map (keyO A L) = (List.range' (k + 1) (5 - k)).map (keyO A L) := by rw [e1, ← e3]
    rw [e4, e6, ← hk, e1, e5, e2, List.range'_succ, List.map_cons, ← e3]
    have e7 : keyO A L k = (rkk (up L k) + 2) :: apL ((srt (key 7) ((kids A k).map (obO A (up L)))).map (key 7)) := key_obO T hL hk6
    rw [e7]
    have e8 : (List.range' (k + 1) n).map (keyO A L) = (List.range' (k + 1) (5 - k)).map (keyO A L) := by rw [← e3]
    rfl
  · rw [mfK_eq hF2, mf_perm (srt_perm _ _), e2]
    rw [e1] at hp
    rw [← hp]
    show _ = p * (exW A (up L) k * mf ((kids A k).map (obO A (up L))))
    rw [Nat.mul_comm (mf _) p, Nat.mul_assoc, Nat.mul_comm (exW A (up L) k)]
theorem keysK_eq {A L : List Nat} (T : Tr A) (hL : Kd L) : ∀ n, n ≤ 6 → ∃ p, keysK A L n = ((List.range' (6 - n) n).map (keyO A L), p) ∧ p * exW A (up L) (6 - n) = exW A (up L) 6
  | 0, _ => ⟨1, rfl, Nat.one_mul _⟩
  | n + 1, h => by
    obtain ⟨p, h1, h2⟩ := keysK_eq T hL n (by omega)
    exact keysK_step T hL (by omega) h1 h2
theorem keysK6 {A L : List Nat} (T : Tr A) (hL : Kd L) : keysK A L 6 = ((List.range 6).map (keyO A L), exW A (up L) 6) := by
  obtain ⟨p, h1, h2⟩ := keysK_eq T hL 6 (Nat.le_refl _)
  have : p = exW A (up L) 6 := by
    rw [← h2]
    exact (Nat.mul_one p).symm
  rw [h1, this, ← List.range_eq_range']
theorem remK_perm {a : List Nat} : ∀ {l m : List (List Nat)}, remK a l = some m → l.Perm (a :: m)
  | b :: l, m, h => by
    unfold remK at h
    cases e : leqN b a with
    | true =>
      rw [e] at h
      obtain rfl := soK h
      rw [leqN_iff.mp e]
    | false =>
      rw [e] at h
      cases hr : remK a l with
      | none => rw [hr] at h; cases h
      | some q =>
        rw [hr] at h
        obtain rfl := soK h
        exact ((remK_perm hr).cons b).trans (.swap a b q)
theorem isPK_perm : ∀ {l m : List (List Nat)}, isPK l m = true → l.Perm m
  | [], [], _ => .refl _
  | [], _ :: _, h => by cases h
  | a :: l, m, h => by
    unfold isPK at h
    cases hr : remK a m with
    | none => rw [hr] at h; cases h
    | some q =>
      rw [hr] at h
      exact ((isPK_perm h).cons a).trans (remK_perm hr).symm
/- what chk tells -/
theorem chk_use {A B L : List Nat} (T : Tr A) (U : Tr B) (hL : Kd L) (h : chk A B L = true) :
    (obO A (up L) 0 = obO B (up L) 0 → ((List.range 6).map (obO A (up L))).Perm ((List.range 6).map (obO B (up L))) ∧ (ren A B (up L) 5).length = exW A (up L) 6) ∧ (obO A (up L) 0 ≠ obO B (up L) 0 → (ren A B (up L) 5).length = 0) := by
  have e : chk A B L = match leqN (keyO A L 0) (keyO B L 0) with | true => isPK ((List.range 6).map (keyO A L)) ((List.range 6).map (keyO B L)) && Nat.beq (ren A B (up L) 5).length (exW A (up L) 6) | false => Nat.beq (ren A B (up L) 5).length 0 := by
    unfold chk
    rw [keysK6 T hL, keysK6 U hL]; rfl
  rw [e] at h
  have hA := obO_form (A := A) hL.lt
  have hB := obO_form (A := B) hL.lt
  constructor
  · intro heq
    have hk : leqN (keyO A L 0) (keyO B L 0) = true := leqN_iff.mpr (by unfold keyO; rw [heq])
    rw [hk] at h
    simp only [Bool.and_eq_true] at h
    refine ⟨?_, Nat.eq_of_beq_eq_true h.2⟩
    have hp := isPK_perm h.1
    obtain ⟨q, e1, e2⟩ := perm_map_inv (f := key 7) (l := (List.range 6).map (keyO A L)) hp ((List.range 6).map (obO B (up L))) (by rw [List.map_map]; rfl)
    have e3 : ((List.range 6).map (obO A (up L))).map (key 7) = q.map (key 7) := by rw [← e1, List.map_map]; rfl
    have e4 := map_inj_mem (fun x hx y hy hxy => by
      obtain ⟨i, _, rfl⟩ := List.mem_map.mp hx
      obtain ⟨j, _, rfl⟩ := List.mem_map.mp (e2.mem_iff.mp hy)
      exact key7_inj (hA i) (hB j) hxy) e3
    rw [e4]
    exact e2
  · intro hne
    have hk : leqN (keyO A L 0) (keyO B L 0) = false := by
      rw [Bool.eq_false_iff]
      exact fun q => hne (key7_inj (hA 0) (hB 0) (leqN_iff.mp q))
    rw [hk] at h
    exact Nat.eq_of_beq_eq_true h
end Mine
end
section
open PySem.W
namespace Mine

noncomputable def hsh : Nat → P → Nat
  | 0, _ => 1
  | n + 1, d => shG ((sub d).map (hsh n)).sum
theorem hsh_obj {A : List Nat} {kd : Nat → Nat} : ∀ (n m k : Nat), n ≤ m → hsh n (obj A kd m k) = htK A n k
  | 0, m, k, _ => rfl
  | n + 1, 0, k, h => by omega
  | n + 1, m + 1, k, h => by
    show shG ((srt (key 7) ((kids A k).map (obj A kd m))).map (hsh n)).sum = shG ((kids A k).map (htK A n)).sum
    have h1 : ((srt (key 7) ((kids A k).map (obj A kd m))).map (hsh n)).sum = (((kids A k).map (obj A kd m)).map (hsh n)).sum := List.Perm.sum_nat ((srt_perm _ _).map _)
    have h2 : ((kids A k).map (obj A kd m)).map (hsh n) = (kids A k).map (htK A n) := by
      rw [List.map_map]
      exact List.map_congr_left fun c _ => hsh_obj n m c (by omega)
    rw [h1, h2]
theorem ren_sub {A B : List Nat} {kd : Nat → Nat} : ∀ (n : Nat) (f : List Nat), f ∈ ren A B kd n → f ∈ ren A B (fun _ => 0) n
  | 0, f, h => h
  | n + 1, f, h => by
    obtain ⟨g, h1, h2⟩ := List.mem_flatMap.mp h
    obtain ⟨j, h3, rfl⟩ := List.mem_map.mp h2
    have h4 := List.mem_filter.mp h3
    refine List.mem_flatMap.mpr ⟨g, ren_sub n g h1, List.mem_map.mpr ⟨j, List.mem_filter.mpr ⟨h4.1, ?_⟩, rfl⟩⟩
    have h5 := h4.2
    simp only [Bool.and_eq_true] at h5 ⊢
    exact ⟨h5.1, h5.2.1, rfl⟩
/- all that _law_agrees needs of two trees -/
structure Pair (A B L : List Nat) : Prop where
  eq : obO A (up L) 0 = obO B (up L) 0 → ((List.range 6).map (obO A (up L))).Perm ((List.range 6).map (obO B (up L))) ∧ (ren A B (up L) 5).length = exW A (up L) 6
  ne : obO A (up L) 0 ≠ obO B (up L) 0 → (ren A B (up L) 5).length = 0
  goes : ∀ f ∈ ren A B (up L) 5, Goes A B f
theorem pair_of {A B L : List Nat} (T : Tr A) (U : Tr B) (hL : Kd L) (hk : L ∈ kdsAll) (h : pairOk A B = true) : Pair A B L := by
  have hs := fun f => ren_sub (A := A) (B := B) (kd := up L) 5 f
  unfold pairOk at h
  generalize hr : ren A B (fun _ => 0) 5 = r at h hs
  cases r with
  | nil =>
    have hnil : ren A B (up L) 5 = [] := List.eq_nil_iff_forall_not_mem.mpr fun f hf => nomatch hs f hf
    have hne : obO A (up L) 0 ≠ obO B (up L) 0 := fun e => by
      have e1 : hsh 6 (obO A (up L) 0) = htK A 6 0 := hsh_obj 6 6 0 (Nat.le_refl _)
      have e2 : hsh 6 (obO B (up L) 0) = htK B 6 0 := hsh_obj 6 6 0 (Nat.le_refl _)
      rw [e, e2] at e1
      have h' : (!Nat.beq (htK A 6 0) (htK B 6 0)) = true := h
      rw [e1] at h'
      simp at h'
    exact ⟨fun e => absurd e hne, fun _ => by rw [hnil]; rfl, fun f hf => by rw [hnil] at hf; cases hf⟩
  | cons f fs =>
    have h' : ((f :: fs).all (goesOk A B) && kdsAll.all fun L => chkF A B (f :: fs) L) = true := h
    rw [Bool.and_eq_true] at h'
    have h2 := chk_use T U hL (chkF_eq T.len U.len hL.len (hr ▸ List.all_eq_true.mp h'.2 L hk))
    exact ⟨h2.1, h2.2, fun g hg => goes_of (List.all_eq_true.mp h'.1 g (hs g hg))⟩
theorem grp_at : ∀ b < 3, ∀ c < 4, grp b c = true := fun b hb c hc => by
  match b, hb, c, hc with
  | 0, _, 0, _ => exact grp00
  | 0, _, 1, _ => exact grp01
  | 0, _, 2, _ => exact grp02
  | 0, _, 3, _ => exact grp03
  | 1, _, 0, _ => exact grp10
  | 1, _, 1, _ => exact grp11
  | 1, _, 2, _ => exact grp12
  | 1, _, 3, _ => exact grp13
  | 2, _, 0, _ => exact grp20
  | 2, _, 1, _ => exact grp21
  | 2, _, 2, _ => exact grp22
  | 2, _, 3, _ => exact grp23
theorem pairs_ok {b c d : Nat} (hb : b < 3) (hc : c < 4) (hd : d < 5) {B : List Nat} (hB : B ∈ mvs [0, 0, 1, b, c, d]) : pairOk [0, 0, 1, b, c, d] B = true := by
  have h := grp_at b hb c hc
  unfold grp at h
  have hd' : d ∈ [0, 1, 2, 3, 4] := (List.mem_range.mpr hd : d ∈ List.range 5)
  exact List.all_eq_true.mp (List.all_eq_true.mp h d hd') B hB
/- a move's tree -/
theorem mvs_in {A : List Nat} (hl : A.length = 6) {s d : Nat} (h1 : 0 < s) (h2 : s < 6) (h3 : d < s) : A.set s d ∈ mvs A := by
  by_cases e : up A s = d
  · have : A.set s d = A := by
      subst e
      apply List.ext_getElem?
      intro j
      rw [List.getElem?_set]
      by_cases hj : s = j
      · subst hj
        simp [hl, h2, up]
      · simp [hj]
    rw [this]
    exact List.mem_cons_self
  · refine List.mem_cons_of_mem _ (List.mem_flatMap.mpr ⟨s, by rw [List.mem_range'_1]; omega, List.mem_map.mpr ⟨d, List.mem_filter.mpr ⟨List.mem_range.mpr h3, ?_⟩, rfl⟩⟩)
    simp [e]
theorem trs_at {a b c d : Nat} (ha : a < 2) (hb : b < 3) (hc : c < 4) (hd : d < 5) : [0, 0, a, b, c, d] ∈ trs :=
  List.mem_flatMap.mpr ⟨a, List.mem_range.mpr ha, List.mem_flatMap.mpr ⟨b, List.mem_range.mpr hb, List.mem_flatMap.mpr ⟨c, List.mem_range.mpr hc, List.mem_map.mpr ⟨d, List.mem_range.mpr hd, rfl⟩⟩⟩⟩
theorem mvs_tr {b c d : Nat} (hb : b < 3) (hc : c < 4) (hd : d < 5) {B : List Nat} (hB : B ∈ mvs [0, 0, 1, b, c, d]) : Tr B := by
  refine tr_of ?_
  rcases List.mem_cons.mp hB with rfl | hB
  · exact trs_at Nat.one_lt_two hb hc hd
  · obtain ⟨s, hs, h⟩ := List.mem_flatMap.mp hB
    obtain ⟨x, hx, rfl⟩ := List.mem_map.mp h
    have hx := List.mem_range.mp (List.mem_filter.mp hx).1
    have hs := List.mem_range'_1.mp hs
    match s, hs, hx with
    | 1, _, hx => cases Nat.lt_one_iff.mp hx; exact trs_at Nat.one_lt_two hb hc hd
    | 2, _, hx => exact trs_at hx hb hc hd
    | 3, _, hx => exact trs_at Nat.one_lt_two hx hc hd
    | 4, _, hx => exact trs_at Nat.one_lt_two hb hx hd
    | 5, _, hx => exact trs_at Nat.one_lt_two hb hc hx
    | s + 6, h, _ => exact absurd h.2 (Nat.not_lt.mpr (Nat.le_add_left 6 s))
theorem base_tr {b c d : Nat} (hb : b < 3) (hc : c < 4) (hd : d < 5) : Tr [0, 0, 1, b, c, d] := mvs_tr hb hc hd List.mem_cons_self
end Mine
end
section
open PySem.W
namespace Mine

/- _law_agrees: the other tree, its names and modes -/
section
variable {mem : Mem} {sl : Slots}
theorem natL_drop (A : List Nat) (k : Nat) : (A.map fun (n : Nat) => P.int (n : Nat)).drop k = (A.drop k).map fun (n : Nat) => P.int (n : Nat) := List.map_drop.symm
theorem osome_nat {f : XF} {k : Nat} (h : f mem sl = some (vI k)) : oSome f mem sl = some (some (k : Int)) := by
  unfold oSome; rw [h]; rfl
theorem other_eval {A : List Nat} {s d sh : Nat} (h0 : xV 0 mem sl = some (.p (natL A))) (h4 : xV 4 mem sl = some (.p (natL [s, d, sh]))) (hl : A.length = 6) (hs : s < 6) :
    xBin2 .Add (xBin2 .Add (xSlice (xV 0) oNone (oSome (xSub (xV 4) (xK (.int 0)))) oNone) (xList (xCons (xSub (xV 4) (xK (.int 1))) xNil))) (xSlice (xV 0) (oSome (xBin2 .Add (xSub (xV 4) (xK (.int 0))) (xK (.int 1)))) oNone oNone) mem sl = some (.p (natL (A.set s d))) := by
  have hm : (A.map fun (n : Nat) => P.int (n : Nat)).length = 6 := by rw [List.length_map, hl]
  have e0 : xSub (xV 4) (xK (.int 0)) mem sl = some (vI s) := sub_of h4 rfl (sub_lst (j := 0) rfl (by omega))
  have e1 : xSub (xV 4) (xK (.int 1)) mem sl = some (vI d) := sub_of h4 rfl (sub_lst (j := 1) rfl (by omega))
  have t1 : xSlice (xV 0) oNone (oSome (xSub (xV 4) (xK (.int 0)))) oNone mem sl = some (.p (.lst ((A.map fun (n : Nat) => P.int (n : Nat)).take s))) := slice_of h0 rfl (osome_nat e0) rfl (slice_take (by omega) (by omega))
  have t2 : xSlice (xV 0) (oSome (xBin2 .Add (xSub (xV 4) (xK (.int 0))) (xK (.int 1)))) oNone oNone mem sl = some (.p (.lst ((A.map fun (n : Nat) => P.int (n : Nat)).drop (s + 1)))) := slice_of h0 (osome_nat (k := s + 1) (bin_of e0 rfl rfl rfl (add1 s))) rfl rfl (slice_drop (by omega) (by omega))
  have e : natL (A.set s d) = .lst ((A.map fun (n : Nat) => P.int (n : Nat)).take s ++ [.int (d : Nat)] ++ (A.map fun (n : Nat) => P.int (n : Nat)).drop (s + 1)) := by
    unfold natL
    rw [List.map_set, List.set_eq_take_append_cons_drop, if_pos (by omega), List.append_assoc]; rfl
  rw [e]
  exact bin_of (bin_of t1 (list1 e1) rfl rfl (add_lst (by simp; omega))) t2 rfl rfl (add_lst (by simp; omega))
theorem pqrst_at : ∀ i < 5, subV [] (.p (.str "pqrst")) (.p (.int (i : Nat))) = some (.p (.str ⟨#[112 + i]⟩)) := fun i hi => by
  match i, hi with
  | 0, _ => rfl
  | 1, _ => rfl
  | 2, _ => rfl
  | 3, _ => rfl
  | 4, _ => rfl
theorem mod_nat {a b : Nat} (h : 0 < b) : binP .Mod (.int (a : Nat)) (.int (b : Nat)) = some (.int ((a % b : Nat) : Int)) := by
  have h1 : ¬ ((b : Int) = 0) := by omega
  have h2 : Int.fmod (a : Int) (b : Int) = ((a % b : Nat) : Int) := by rw [Int.fmod_eq_emod_of_nonneg _ (by omega)]; rfl
  exact (int2_int _ _ _).trans ((if_pos h1).trans (by rw [h2]))
theorem add_nat (a b : Nat) : binP .Add (.int (a : Nat)) (.int (b : Nat)) = some (.int ((a + b : Nat) : Int)) := by
  exact congrArg (fun i => some (P.int i)) (Int.natCast_add a b).symm
noncomputable def nms (t : Nat) : P := .lst ((List.range' 1 5).map fun k => .str ⟨#[lett t k]⟩)
theorem nms_ok (t : Nat) : Nms t (nms t) := fun mem k hk => by
  refine sub_lst ?_ (by omega)
  rw [List.getElem?_map, List.getElem?_range' (by omega)]
  simp only [Option.map_some, Nat.one_mul]
  rw [Nat.add_comm]
theorem names_eval {s d sh : Nat} (h4 : capV [4] sl = some [.p (natL [s, d, sh])]) :
    xComp [4] (vRange (xCons (xK (.int 1)) (xCons (xK (.int 6)) xNil))) tTrue (xSub (xK (.str "pqrst")) (xBin2 .Mod (xBin2 .Add (xBin2 .Mult (xK (.int 3)) (xV 1)) (xSub (xV 0) (xK (.int 2)))) (xK (.int 5)))) mem sl = some (.p (nms (sh + 1))) := by
  have e : nms (sh + 1) = .lst (((List.range' 1 5).filter fun _ => true).map fun k => .str ⟨#[lett (sh + 1) k]⟩) := rfl
  rw [e]
  refine xcomp_on vI _ _ h4 (rangeN (a := 1) (b := 6) rfl (by omega) (by omega)) (by simp) fun k hk => ⟨rfl, fun _ => ?_⟩
  have e2 : xSub (xV 0) (xK (.int 2)) mem (([.p (natL [s, d, sh])] : List V).map some ++ [some (vI k)]) = some (vI sh) := sub_of rfl rfl (sub_lst (j := 2) rfl (by omega))
  have e1 : xBin2 .Mult (xK (.int 3)) (xV 1) mem (([.p (natL [s, d, sh])] : List V).map some ++ [some (vI k)]) = some (vI (3 * k)) := bin_of rfl rfl rfl rfl (mul_nat (a := 3) (by omega))
  have e3 : xBin2 .Mod (xBin2 .Add (xBin2 .Mult (xK (.int 3)) (xV 1)) (xSub (xV 0) (xK (.int 2)))) (xK (.int 5)) mem (([.p (natL [s, d, sh])] : List V).map some ++ [some (vI k)]) = some (vI ((3 * k + sh) % 5)) := bin_of (bin_of e1 e2 rfl rfl (add_nat _ _)) rfl rfl rfl (mod_nat (b := 5) (by omega))
  exact sub_of rfl e3 (pqrst_at _ (Nat.mod_lt _ (by omega)))
theorem km_at : ∀ k < 4, ([.int 16877, .int 18889, .int 33188, .int 17407] : List P)[k]? = some (.int (KM k : Nat))
  | 0, _ => rfl
  | 1, _ => rfl
  | 2, _ => rfl
  | 3, _ => rfl
noncomputable def mdL (L : List Nat) : List P := (List.range 6).map fun k => .int ((KM (up L k) + 65536 * k : Nat) : Int)
theorem mdL_ok (L : List Nat) : Mds L (mdL L) := ⟨fun k hk => ⟨k, by
  unfold mdL
  rw [List.getElem?_map, List.getElem?_range hk]
  simp only [Option.map_some, Int.natCast_add, Int.natCast_mul]; rfl⟩⟩
theorem modes_eval {L : List Nat} (hL : Kd L) (h1 : capV [1] sl = some [.p (natL L)]) :
    xComp [1] (vRange (xCons (xK (.int 6)) xNil)) tTrue (xBin2 .Add (xSub (xList (xCons (xK (.int 16877)) (xCons (xK (.int 18889)) (xCons (xK (.int 33188)) (xCons (xK (.int 17407)) xNil))))) (xSub (xV 0) (xV 1))) (xBin2 .Mult (xK (.int 65536)) (xV 1))) mem sl = some (.p (.lst (mdL L))) := by
  have e : mdL L = ((List.range 6).filter fun _ => true).map fun k => .int ((KM (up L k) + 65536 * k : Nat) : Int) := rfl
  rw [e]
  refine xcomp_on vI _ _ h1 ?_ (by simp) fun k hk => ⟨rfl, fun _ => ?_⟩
  · rw [range0 (n := 6) rfl (by omega), upto_range, ← List.range_eq_range']
  have hk6 : k < 6 := List.mem_range.mp hk
  have e1 : xBin2 .Mult (xK (.int 65536)) (xV 1) mem (([.p (natL L)] : List V).map some ++ [some (vI k)]) = some (vI (65536 * k)) := bin_of rfl rfl rfl rfl (mul_nat (a := 65536) (by omega))
  exact bin_of (sub_of rfl (nat_sub hL.len hk6 rfl rfl) (sub_lst (km_at _ (hL.lt k)) (by have := hL.lt k; omega))) e1 rfl rfl (add_nat _ _)
end
end Mine
end
section
open PySem.W
namespace Mine
open Classical

/- _law_agrees: order, wanted -/
noncomputable def ordI (a b : P) : Int := b2i (decide (key 7 b < key 7 a)) - b2i (decide (key 7 a < key 7 b))
noncomputable def wan (a b : P) : Str := if a = b then "0" else if key 7 b < key 7 a then "1" else "-1"
theorem ord_cases {a b : P} (ha : F7 a) (hb : F7 b) : (a = b ∧ ordI a b = 0 ∧ wan a b = "0") ∨ (a ≠ b ∧ key 7 b < key 7 a ∧ ordI a b = 1 ∧ wan a b = "1") ∨ (a ≠ b ∧ ¬ key 7 b < key 7 a ∧ ordI a b = -1 ∧ wan a b = "-1") := by
  unfold ordI wan
  by_cases e : a = b
  · subst e
    refine .inl ⟨rfl, ?_, if_pos rfl⟩
    simp
  · by_cases h : key 7 b < key 7 a
    · refine .inr (.inl ⟨e, h, ?_, by rw [if_neg e, if_pos h]⟩)
      rw [decide_eq_true h, decide_eq_false (List.lt_asymm h)]; rfl
    · have h2 : key 7 a < key 7 b := Classical.byContradiction fun q => e (key7_inj ha hb (eq_of_not q h))
      refine .inr (.inr ⟨e, h, ?_, by rw [if_neg e, if_neg h]⟩)
      rw [decide_eq_false h, decide_eq_true h2]; rfl
theorem str_ord {a b : P} (ha : F7 a) (hb : F7 b) (m : Mem) : semStrI m [.p (.int (ordI a b))] = some (.p (.str (wan a b))) := by
  rcases ord_cases ha hb with ⟨_, h1, h2⟩ | ⟨_, _, h1, h2⟩ | ⟨_, _, h1, h2⟩ <;> rw [h1, h2] <;> rfl
theorem srt2 {a b : P} (ha : F7 a) (hb : F7 b) : srt (key 7) [a, b] = if key 7 b < key 7 a then [b, a] else [a, b] := by
  have hs : ∀ x ∈ [a, b], F7 x := fun x hx => by
    simp only [List.mem_cons, List.not_mem_nil, or_false] at hx
    rcases hx with rfl | rfl <;> assumption
  by_cases h : key 7 b < key 7 a
  · rw [if_pos h]
    exact (srt_of K7 hs (.swap a b []) (by simp [Srt]; exact List.not_lt.mp (List.lt_asymm h))).symm
  · rw [if_neg h]
    exact (srt_of K7 hs (.refl _) (by simp [Srt]; exact List.not_lt.mp h)).symm
theorem teq7 {f g : XF} {mem : Mem} {sl : Slots} {a b : P} (ha : F7 a) (hb : F7 b) (h1 : f mem sl = some (.p a)) (h2 : g mem sl = some (.p b)) : tCmp .Eq f g mem sl = some (decide (a = b)) := tcmp_of h1 h2 (eq_of rfl rfl (dis7 a b ha hb))
noncomputable def sWan : SF := sIf (tCmp .Eq (xSub (xV 8) (xK (.int 0))) (xSub (xV 9) (xK (.int 0)))) (bCons (sSet 12 (xK (.str "0"))) bNil) (bCons (sSet 12 (xIf (tCmp .Eq (xSub (xCall semSorted (xCons (xList (xCons (xSub (xV 8) (xK (.int 0))) (xCons (xSub (xV 9) (xK (.int 0))) xNil))) xNil)) (xK (.int 1))) (xSub (xV 8) (xK (.int 0)))) (xK (.str "1")) (xK (.str "-1")))) bNil)
theorem wan_eval {mem : Mem} {sl : Slots} {a b : P} (ha : F7 a) (hb : F7 b) (h1 : xSub (xV 8) (xK (.int 0)) mem sl = some (.p a)) (h2 : xSub (xV 9) (xK (.int 0)) mem sl = some (.p b)) : sWan mem sl = some (.next, mem, sl.set 12 (some (.p (.str (wan a b))))) := by
  have ht := teq7 ha hb h1 h2
  unfold sWan wan
  by_cases e : a = b
  · rw [decide_eq_true e] at ht
    rw [if_pos e]
    exact ev_ifT ht (ev_nil (set_of (mem' := mem) rfl))
  · rw [decide_eq_false e] at ht
    rw [if_neg e]
    have hs : ∀ x ∈ [a, b], F7 x := fun x hx => by
      simp only [List.mem_cons, List.not_mem_nil, or_false] at hx
      rcases hx with rfl | rfl <;> assumption
    have hq : xCall semSorted (xCons (xList (xCons (xSub (xV 8) (xK (.int 0))) (xCons (xSub (xV 9) (xK (.int 0))) xNil))) xNil) mem sl = some (.p (.lst (srt (key 7) [a, b]))) := call1 (list2 h1 h2) (sorted_at K7 hs (fun x hx => tyF (hs x hx)) (.inl (by simp)) _)
    rw [srt2 ha hb] at hq
    by_cases h : key 7 b < key 7 a
    · rw [if_pos h] at hq
      have h3 := teq7 (f := xSub (xCall semSorted (xCons (xList (xCons (xSub (xV 8) (xK (.int 0))) (xCons (xSub (xV 9) (xK (.int 0))) xNil))) xNil)) (xK (.int 1))) ha ha (sub_of hq rfl (sub_lst (j := 1) rfl (by omega))) h1
      rw [decide_eq_true rfl] at h3
      rw [if_pos h]
      refine ev_ifF ht (ev_nil (set_of (mem' := mem) ?_))
      simp only [xIf, h3, Option.bind_some, if_true]; rfl
    · rw [if_neg h] at hq
      have h3 := teq7 (f := xSub (xCall semSorted (xCons (xList (xCons (xSub (xV 8) (xK (.int 0))) (xCons (xSub (xV 9) (xK (.int 0))) xNil))) xNil)) (xK (.int 1))) hb ha (sub_of hq rfl (sub_lst (j := 1) rfl (by omega))) h1
      rw [decide_eq_false (Ne.symm e)] at h3
      rw [if_neg h]
      refine ev_ifF ht (ev_nil (set_of (mem' := mem) ?_))
      simp only [xIf, h3, Option.bind_some]; rfl
/- lists and pairs of lists, compared -/
theorem eqFs {N : Nat} (hN : 14 ≤ N) {xs ys : List P} (hx : ∀ x ∈ xs, F7 x) (hy : ∀ y ∈ ys, F7 y) : eqP (N + 1) (.lst xs) (.lst ys) = some (decide (xs = ys)) := by
  rw [eqL (N := N) fun c hc d hd => eqF (hx c hc) (hy d hd) hN]
  congr 1
  exact decide_eq_decide.mpr ⟨fun e => by injection e, fun e => by rw [e]⟩
theorem eqT {xs ys us vs : List P} (hx : ∀ x ∈ xs, F7 x) (hy : ∀ x ∈ ys, F7 x) (hu : ∀ x ∈ us, F7 x) (hv : ∀ x ∈ vs, F7 x) : eqP deep (.tup [.lst xs, .lst us]) (.tup [.lst ys, .lst vs]) = some (decide (xs = ys ∧ us = vs)) := by
  have h1 := eqFs (N := 38) (by omega) hx hy
  have h2 := eqFs (N := 38) (by omega) hu hv
  show (([(P.lst xs, P.lst ys), (P.lst us, P.lst vs)] : List (P × P)).mapM fun p => eqP 39 p.1 p.2).map (fun bs => bs.all id && ([P.lst xs, P.lst us].length == [P.lst ys, P.lst vs].length)) = _
  rw [List.mapM_cons, List.mapM_cons, List.mapM_nil]
  show ((eqP 39 (.lst xs) (.lst ys)).bind fun r => ((eqP 39 (.lst us) (.lst vs)).bind fun r2 => some [r2]).bind fun rs => some (r :: rs)).map _ = _
  rw [h1, h2]
  by_cases e1 : xs = ys <;> by_cases e2 : us = vs <;> simp [e1, e2]
/- the leftovers: none if and only if the roots are alike -/
theorem mf_pos : ∀ l : List P, 0 < mf l
  | [] => Nat.one_pos
  | a :: l => Nat.mul_pos (Nat.succ_pos _) (mf_pos l)
theorem exW_pos (A : List Nat) (kd : Nat → Nat) : ∀ n, 0 < exW A kd n
  | 0 => Nat.one_pos
  | n + 1 => Nat.mul_pos (exW_pos A kd n) (mf_pos _)
theorem cnt_sub {a : P} {l r : List P} (h : l.Sublist r) : cnt a l ≤ cnt a r := h.countP_le
theorem left_nil {O O' : Nat → P} (hp : ((List.range 6).map O).Perm ((List.range 6).map O')) : udM O 6 ((List.range 6).map O') = [] ∧ udA O 6 ((List.range 6).map O') = [] := by
  constructor
  · rw [udM_eq (c := fun x => cnt x ((List.range 6).map O')) 6 _ (by omega) (fun x => by simp [cnt]), List.map_eq_nil_iff, List.filter_eq_nil_iff]
    intro k hk
    have hk6 : k < 6 := List.mem_range.mp (List.mem_reverse.mp hk)
    have h1 : cnt (O k) ((List.range' k (6 - k)).map O) ≤ cnt (O k) ((List.range 6).map O) := by
      refine cnt_sub (List.Sublist.map O ?_)
      have e : List.range' k (6 - k) = (List.range 6).drop k := by rw [List.range_eq_range', List.drop_range', Nat.zero_add, Nat.mul_one]
      rw [e]
      exact List.drop_sublist _ _
    rw [cnt_perm hp] at h1
    simp only [decide_eq_true_eq]
    omega
  · rw [udA_eq, List.map_eq_nil_iff, List.filter_eq_nil_iff]
    intro k hk
    have hk6 : k < 6 := List.mem_range.mp hk
    have h1 : cnt (O' k) ((List.range (k + 1)).map O') ≤ cnt (O' k) ((List.range 6).map O') := by
      refine cnt_sub (List.Sublist.map O' ?_)
      have e : List.range (k + 1) = (List.range 6).take (k + 1) := by rw [List.take_range, Nat.min_eq_left (by omega)]
      rw [e]
      exact List.take_sublist _ _
    rw [← cnt_perm hp] at h1
    simp only [decide_eq_true_eq]
    omega
theorem left_ne {A B L : List Nat} (T : Tr A) (U : Tr B) (hL : Kd L) (h0 : up L 0 = 3) (h1 : ∀ k, 0 < k → k < 6 → up L k < 3) (hne : obO A (up L) 0 ≠ obO B (up L) 0) : udM (obO A (up L)) 6 ((List.range 6).map (obO B (up L))) ≠ [] := by
  intro e
  rw [udM_eq (c := fun x => cnt x ((List.range 6).map (obO B (up L)))) 6 _ (by omega) (fun x => by simp [cnt]), List.map_eq_nil_iff, List.filter_eq_nil_iff] at e
  have h2 := e 0 (by simp)
  simp only [decide_eq_true_eq] at h2
  have h3 : 0 < cnt (obO A (up L) 0) ((List.range' 0 (6 - 0)).map (obO A (up L))) := mem_cnt.mp (List.mem_map.mpr ⟨0, by simp, rfl⟩)
  have h4 : obO A (up L) 0 ∈ (List.range 6).map (obO B (up L)) := mem_cnt.mpr (by omega)
  obtain ⟨j, hj, hj2⟩ := List.mem_map.mp h4
  rw [List.mem_range] at hj
  have k1 : kin (obO A (up L) 0) = up L 0 := by rw [obO_eq T (by omega), kin_frm (hL.lt 0)]
  have k2 : kin (obO B (up L) j) = up L j := by rw [obO_eq U hj, kin_frm (hL.lt j)]
  rw [hj2, k1, h0] at k2
  by_cases h : j = 0
  · subst h; exact hne hj2.symm
  · have := h1 j (by omega) hj
    omega
end Mine
end
section
open PySem.W
namespace Mine
open Classical

theorem sef_of {i : Nat} {sem : List V → Mem → Option (V × Mem)} {f : XFs} {mem mem' : Mem} {sl : Slots} {vs : List V} {v : V} (h : f mem sl = some vs) (h2 : sem vs mem = some (v, mem')) : sEf i sem f mem sl = some (.next, mem', sl.set i (some v)) := by
  simp only [sEf, h, Option.bind_some, h2, Option.map_some]
theorem tor_ff {a b : TF} {mem : Mem} {sl : Slots} (h1 : a mem sl = some false) (h2 : b mem sl = some false) : tOr a b mem sl = some false := by
  simp only [tOr, h1, h2, Option.bind_some]; rfl
theorem or_ff {a b : XF} {mem : Mem} {sl : Slots} {v : V} (h1 : a mem sl = some (.p (.bool false))) (h2 : b mem sl = some v) : xOr a b mem sl = some v := by
  unfold xOr
  rw [h1, Option.bind_some, show truV mem (.p (.bool false)) = some false from rfl, Option.bind_some, if_neg (by decide), h2]
theorem or_tt {a b : XF} {mem : Mem} {sl : Slots} (h1 : a mem sl = some (.p (.bool true))) : xOr a b mem sl = some (.p (.bool true)) := by
  unfold xOr
  rw [h1, Option.bind_some, show truV mem (.p (.bool true)) = some true from rfl, Option.bind_some, if_pos rfl]
theorem call3 {sem : Mem → List V → Option V} {f g k : XF} {mem : Mem} {sl : Slots} {x y z v : V} (h1 : f mem sl = some x) (h2 : g mem sl = some y) (h3 : k mem sl = some z) (h4 : sem mem [x, y, z] = some v) : xCall sem (xCons f (xCons g (xCons k xNil))) mem sl = some v := by
  simp only [xCall, xCons, xNil, h1, h2, h3, Option.bind_some, Option.map_some, h4]
theorem call4 {sem : Mem → List V → Option V} {f g k j : XF} {mem : Mem} {sl : Slots} {x y z u v : V} (h1 : f mem sl = some x) (h2 : g mem sl = some y) (h3 : k mem sl = some z) (h4 : j mem sl = some u) (h5 : sem mem [x, y, z, u] = some v) : xCall sem (xCons f (xCons g (xCons k (xCons j xNil)))) mem sl = some v := by
  simp only [xCall, xCons, xNil, h1, h2, h3, h4, Option.bind_some, Option.map_some, h5]
theorem own_eval' {A L : List Nat} (T : Tr A) (hL : Kd L) (m : Mem) : S_own_forms m [.p (natL A), .p (natL L)] = some (.p (objs A (up L))) := by
  rw [own_eval T hL, objs_own]
theorem mem_objs {A L : List Nat} (hL : Kd L) : ∀ x ∈ (List.range 6).map (obO A (up L)), F7 x := fun x hx => by
  obtain ⟨k, _, rfl⟩ := List.mem_map.mp hx
  exact obO_form hL.lt k
theorem tne_objs {A L : List Nat} (hL : Kd L) {f g : XF} {mem : Mem} {sl : Slots} (h1 : f mem sl = some (.p (objs A (up L)))) (h2 : g mem sl = some (.p (objs A (up L)))) : tCmp .NotEq f g mem sl = some false := by
  refine tcmp_of h1 h2 ((ne_of rfl rfl (eqFs (N := 39) (by omega) (mem_objs hL) (mem_objs hL))).trans ?_)
  simp
theorem objs_at {A L : List Nat} {k : Nat} (hk : k < 6) : ((List.range 6).map (obO A (up L)))[k]? = some (obO A (up L) k) := by
  rw [List.getElem?_map, List.getElem?_range hk]; rfl
theorem len_renP {mem : Mem} {fs : List (List Nat)} (h : fs.length ≤ 10000) : semLen mem [.p (renP fs)] = some (vI fs.length) := by
  have : lenOk (fs.map natL).length = true := lenBig (by rw [List.length_map]; exact h)
  show (if lenOk (fs.map natL).length = true then some (V.p (.int (fs.map natL).length)) else none) = _
  rw [if_pos this, List.length_map]; rfl
theorem len_ren {mem : Mem} {A B : List Nat} {kd : Nat → Nat} : semLen mem [.p (renP (ren A B kd 5))] = some (vI (ren A B kd 5).length) :=
  len_renP (Nat.le_trans (ren_cnt A B kd 5) (by decide))
theorem last_ren {mem : Mem} {fs : List (List Nat)} {f : List Nat} (h : fs.getLast? = some f) : subV mem (.p (renP fs)) (.p (.int (-1))) = some (.p (natL f)) := by
  have hne : fs ≠ [] := fun e => by rw [e] at h; cases h
  have hl : 0 < (fs.map natL).length := by rw [List.length_map]; exact List.length_pos_iff.mpr hne
  have h1 : seqIndex? (-1) (fs.map natL).length = some ((fs.map natL).length - 1) := by
    unfold seqIndex?
    have e : (if (-1 : Int) < 0 then (-1 : Int) + ((fs.map natL).length : Int) else -1) = (((fs.map natL).length - 1 : Nat) : Int) := by
      rw [if_pos (by omega)]; omega
    simp only [e]
    rw [if_pos (by simp only [Bool.and_eq_true, decide_eq_true_eq]; omega)]
    simp
  have h2 : (fs.map natL)[(fs.map natL).length - 1]? = some (natL f) := by
    rw [← List.getLast?_eq_getElem?, List.getLast?_map, h]; rfl
  have hs : smallI (-1) = true := by decide
  simp only [subV, subI, subQ, hs, if_true, renP, derP, Option.bind_some, h1, h2, Option.map_some]
variable {A B L : List Nat} (T : Tr A) (U : Tr B) (hL : Kd L) (h0 : up L 0 = 3) (hk : ∀ k, 0 < k → k < 6 → up L k < 3) (R : Pair A B L)
include T U hL R
/- how many renamings are wanted -/
theorem cnt_eval {mem : Mem} {sl : Slots} (h11 : xV 11 mem sl = some (.p (.int (ordI (obO A (up L) 0) (obO B (up L) 0))))) (h3 : xV 3 mem sl = some (.p (objs A (up L)))) :
    xIf (tCmp .Eq (xV 11) (xK (.int 0))) (xCall S_exchanges (xCons (xV 3) xNil)) (xK (.int 0)) mem sl = some (vI (ren A B (up L) 5).length) := by
  have ht := teq_int h11 (g := xK (.int 0)) (b := 0) rfl
  unfold xIf
  rw [ht, Option.bind_some]
  rcases ord_cases (obO_form (A := A) hL.lt 0) (obO_form (A := B) hL.lt 0) with ⟨e, h1, _⟩ | ⟨e, _, h1, _⟩ | ⟨e, _, h1, _⟩
  · rw [h1, (R.eq e).2]
    exact call1 h3 (exch_eval T hL _)
  · rw [h1, R.ne e]; rfl
  · rw [h1, R.ne e]; rfl
/- the answer is as told -/
theorem ans_eval (h0 : up L 0 = 3) (hk : ∀ k, 0 < k → k < 6 → up L k < 3) : decide (udM (obO A (up L)) 6 ((List.range 6).map (obO B (up L))) = [] ∧ udA (obO A (up L)) 6 ((List.range 6).map (obO B (up L))) = []) = decide (0 < (ren A B (up L) 5).length) := by
  by_cases e : obO A (up L) 0 = obO B (up L) 0
  · rw [decide_eq_true (left_nil (R.eq e).1), (R.eq e).2, decide_eq_true (exW_pos A (up L) 6)]
  · rw [R.ne e, decide_eq_false fun q => left_ne T U hL h0 hk e q.1]; rfl
/- the last renaming goes with the paths -/
theorem last_eval {t s : Nat} (ht : t < 6) (hs : s < 6) {mem : Mem} {sl : Slots} (h2 : xV 2 mem sl = some (.p (.lst (pths t A 6)))) (h6 : xV 6 mem sl = some (.p (.lst (pths s B 6)))) (h00 : xV 0 mem sl = some (.p (natL A))) (h10 : xV 10 mem sl = some (.p (renP (ren A B (up L) 5)))) :
    xOr (xCmp .Eq (xCall semLen (xCons (xV 10) xNil)) (xK (.int 0))) (xCall S_goes_with (xCons (xV 2) (xCons (xV 6) (xCons (xV 0) (xCons (xSub (xV 10) (xNeg (xK (.int 1)))) xNil))))) mem sl = some (.p (.bool true)) := by
  have h1 : xCmp .Eq (xCall semLen (xCons (xV 10) xNil)) (xK (.int 0)) mem sl = some (.p (.bool (decide (((ren A B (up L) 5).length : Int) = 0)))) := xcmp_of (call1 h10 len_ren) rfl (eq_of rfl rfl (eq_int _ _))
  cases hr : (ren A B (up L) 5).getLast? with
  | none =>
    have : ren A B (up L) 5 = [] := List.getLast?_eq_none_iff.mp hr
    rw [this] at h1
    exact or_tt h1
  | some f =>
    have hf : f ∈ ren A B (up L) 5 := List.mem_of_getLast? hr
    have hn : ¬ ((ren A B (up L) 5).length : Int) = 0 := by
      have := List.length_pos_of_mem hf
      omega
    rw [decide_eq_false hn] at h1
    exact or_ff h1 (call4 h2 h6 h00 (sub_of h10 rfl (last_ren hr)) (goes_eval T U ht hs (R.goes f hf) _))
end Mine
end
section
open PySem.W
namespace Mine
open Classical

noncomputable def fAns : SF := sIf (tOr (tCmp .NotEq (xCmp .Eq (xV 20) (xTup (xCons (xList xNil) (xCons (xList xNil) xNil)))) (xCmp .Gt (xCall semLen (xCons (xV 10) xNil)) (xK (.int 0)))) (tCmp .NotEq (xV 20) (xTup (xCons (xV 16) (xCons (xV 17) xNil))))) (bCons (sRet (xK (.bool false))) bNil) bNil
noncomputable def fAns2 : SF := sIf (tOr (tCmp .NotEq (xV 18) (xList xNil)) (tCmp .IsNot (xSub (xV 20) (xK (.int 1))) (xV 19))) (bCons (sRet (xK (.bool false))) bNil) bNil
theorem eq_bool (a b : Bool) : eqP deep (.bool a) (.bool b) = some (a == b) := rfl
theorem fAns_eval {tb : MO} {sl : Slots} {M Ac : List P} {fs : List (List Nat)} (hM : ∀ x ∈ M, F7 x) (hA : ∀ x ∈ Ac, F7 x) (hl : fs.length ≤ 10000) (h20 : sl[20]? = some (some (.t [.inl (.lst M), .inr 2]))) (h10 : sl[10]? = some (some (.p (renP fs)))) (h16 : sl[16]? = some (some (.p (.lst M)))) (h17 : sl[17]? = some (some (.p (.lst Ac))))
    (hd : decide (M = [] ∧ Ac = []) = decide (0 < fs.length)) : fAns [tb, .ml [], .ml Ac] sl = some (.next, [tb, .ml [], .ml Ac], sl) := by
  have v20 : xV 20 [tb, .ml [], .ml Ac] sl = some (.t [.inl (.lst M), .inr 2]) := by simp only [xV, h20]; rfl
  have v10 : xV 10 [tb, .ml [], .ml Ac] sl = some (.p (renP fs)) := by simp only [xV, h10]; rfl
  have v16 : xV 16 [tb, .ml [], .ml Ac] sl = some (.p (.lst M)) := by simp only [xV, h16]; rfl
  have v17 : xV 17 [tb, .ml [], .ml Ac] sl = some (.p (.lst Ac)) := by simp only [xV, h17]; rfl
  have hd20 : der [tb, .ml [], .ml Ac] (.t [.inl (.lst M), .inr 2]) = some (.tup [.lst M, .lst Ac]) := rfl
  have e1 : xCmp .Eq (xV 20) (xTup (xCons (xList xNil) (xCons (xList xNil) xNil))) [tb, .ml [], .ml Ac] sl = some (.p (.bool (decide (M = [] ∧ Ac = [])))) :=
    xcmp_of v20 (y := .p (.tup [.lst [], .lst []])) rfl (eq_of hd20 rfl (eqT hM (fun x hx => nomatch hx) hA fun x hx => nomatch hx))
  have e2 : xCmp .Gt (xCall semLen (xCons (xV 10) xNil)) (xK (.int 0)) [tb, .ml [], .ml Ac] sl = some (.p (.bool (decide (0 < fs.length)))) := by
    refine xcmp_of (call1 v10 (len_renP hl)) rfl ((cmp_lt_int _ _).trans ?_)
    congr 1
    exact decide_eq_decide.mpr (by omega)
  rw [hd] at e1
  have t1 : tCmp .NotEq (xCmp .Eq (xV 20) (xTup (xCons (xList xNil) (xCons (xList xNil) xNil)))) (xCmp .Gt (xCall semLen (xCons (xV 10) xNil)) (xK (.int 0))) [tb, .ml [], .ml Ac] sl = some false := by
    refine tcmp_of e1 e2 ((ne_of rfl rfl (eq_bool _ _)).trans ?_)
    simp
  have e3 : xTup (xCons (xV 16) (xCons (xV 17) xNil)) [tb, .ml [], .ml Ac] sl = some (.p (.tup [.lst M, .lst Ac])) := by
    simp only [xTup, xCons, xNil, v16, v17, Option.bind_some, Option.map_some]; rfl
  have t2 : tCmp .NotEq (xV 20) (xTup (xCons (xV 16) (xCons (xV 17) xNil))) [tb, .ml [], .ml Ac] sl = some false := by
    refine tcmp_of v20 e3 ((ne_of hd20 rfl (eqT hM hM hA hA)).trans ?_)
    simp
  exact ev_ifF (tor_ff t1 t2) rfl
theorem fAns2_eval {tb : MO} {sl : Slots} {M Ac : List P} (h20 : sl[20]? = some (some (.t [.inl (.lst M), .inr 2]))) (h18 : sl[18]? = some (some (.c 1))) (h19 : sl[19]? = some (some (.c 2))) : fAns2 [tb, .ml [], .ml Ac] sl = some (.next, [tb, .ml [], .ml Ac], sl) := by
  have v20 : xV 20 [tb, .ml [], .ml Ac] sl = some (.t [.inl (.lst M), .inr 2]) := by simp only [xV, h20]; rfl
  have v18 : xV 18 [tb, .ml [], .ml Ac] sl = some (.c 1) := by simp only [xV, h18]; rfl
  have v19 : xV 19 [tb, .ml [], .ml Ac] sl = some (.c 2) := by simp only [xV, h19]; rfl
  have t1 : tCmp .NotEq (xV 18) (xList xNil) [tb, .ml [], .ml Ac] sl = some false := by
    refine tcmp_of v18 (y := .p (.lst [])) rfl ((ne_of (a := .lst []) rfl rfl (eqFs (N := 39) (xs := []) (ys := []) (by omega) (fun x hx => nomatch hx) fun x hx => nomatch hx)).trans ?_)
    simp
  have t2 : tCmp .IsNot (xSub (xV 20) (xK (.int 1))) (xV 19) [tb, .ml [], .ml Ac] sl = some false := tcmp_of (sub_of v20 rfl (v := .c 2) rfl) v19 rfl
  exact ev_ifF (tor_ff t1 t2) rfl
theorem udA_mem {O : Nat → P} : ∀ (n : Nat) (l : List P), (∀ x ∈ l, F7 x) → ∀ x ∈ udA O n l, F7 x
  | 0, l, h => h
  | n + 1, l, h => udA_mem n (l.erase (O n)) fun x hx => h x (List.mem_of_mem_erase hx)
theorem udM_mem {O : Nat → P} (hO : ∀ k, F7 (O k)) : ∀ (n : Nat) (l : List P), ∀ x ∈ udM O n l, F7 x
  | 0, l, x, h => absurd h List.not_mem_nil
  | n + 1, l, x, h => by
    unfold udM at h
    by_cases hin : O n ∈ l
    · rw [if_pos hin] at h; exact udM_mem hO n _ x h
    · rw [if_neg hin] at h
      rcases List.mem_cons.mp h with rfl | h
      · exact hO n
      · exact udM_mem hO n _ x h
end Mine
end
section
open PySem.W
namespace Mine
open Classical

set_option maxHeartbeats 8000000 in
theorem agrees_eval {A L : List Nat} {s d sh : Nat} (T : Tr A) (U : Tr (A.set s d)) (hL : Kd L) (h0 : up L 0 = 3) (hk : ∀ k, 0 < k → k < 6 → up L k < 3) (R : Pair A (A.set s d) L) (hs : s < 6) (hsh : sh < 5) (m : Mem) :
    S_agrees m [.p (natL A), .p (natL L), .p (.lst (pths 0 A 6)), .p (objs A (up L)), .p (natL [s, d, sh])] = some (.p (.bool true)) := by
  have ht : sh + 1 < 6 := by omega
  have fA := obO_form (A := A) hL.lt
  have fB := obO_form (A := A.set s d) hL.lt
  have T1 : Tb [] [] := .nil
  obtain ⟨D1, tbl1, c1, T2, l1, m1⟩ := codes_eval T hL T1 (by simp)
  rw [List.nil_append] at c1 T2 m1
  obtain ⟨E2, tbl2, c2, T3, l2, m2⟩ := codes_eval U hL T2 (by omega)
  have hc1 : cdL D1 (obO A (up L)) 0 = cds (D1 ++ E2) (obO A (up L)) (List.range 6) := by
    rw [← cdL_app (fun j _ hj => m1 j hj) E2, cdL_cds]
  have hc2 : cdL (D1 ++ E2) (obO (A.set s d) (up L)) 0 = cds (D1 ++ E2) (obO (A.set s d) (up L)) (List.range 6) := cdL_cds _ _
  rw [hc1] at c1
  rw [hc2] at c2
  have hu := uld_eval (O := obO A (up L)) fA (tb := .ml tbl2) (Ac := (List.range 6).map (obO (A.set s d) (up L))) (mem_objs hL) (by simp)
  have hans := ans_eval T U hL R h0 hk
  refine fn_ev (ds := [natL A, natL L, .lst (pths 0 A 6), objs A (up L), natL [s, d, sh]]) rfl rfl ?_
  apply Exists.intro; apply Exists.intro
  refine ev_set (other_eval rfl rfl T.len hs) ?_
  show bCons _ _ _ [some _, some _, some _, some _, some _, some _, none, none, none, none, none, none, none, none, none, none, none, none, none, none, none] = _
  refine ev_set (call2 rfl (names_eval rfl) (paths_eval U ht (nms_ok _) [])) ?_
  show bCons _ _ _ [some _, some _, some _, some _, some _, some _, some _, none, none, none, none, none, none, none, none, none, none, none, none, none, none] = _
  refine ev_set (call2 rfl (modes_eval hL rfl) (forms_eval U ht hL (mdL_ok L) [])) ?_
  show bCons _ _ _ [some _, some _, some _, some _, some _, some _, some _, some _, none, none, none, none, none, none, none, none, none, none, none, none, none] = _
  refine ev_set (call2 rfl rfl (own_eval' T hL [])) ?_
  show bCons _ _ _ [some _, some _, some _, some _, some _, some _, some _, some _, some _, none, none, none, none, none, none, none, none, none, none, none, none] = _
  refine ev_set (call2 rfl rfl (own_eval' U hL [])) ?_
  show bCons _ _ _ [some _, some _, some _, some _, some _, some _, some _, some _, some _, some _, none, none, none, none, none, none, none, none, none, none, none] = _
  refine ev_next (ev_ifF (tor_ff (tne_objs hL rfl rfl) (tne_objs hL rfl rfl)) rfl) ?_
  refine ev_set (call3 rfl rfl rfl (ren_eval T U.len hL.len [])) ?_
  show bCons _ _ _ [some _, some _, some _, some _, some _, some _, some _, some _, some _, some _, some _, none, none, none, none, none, none, none, none, none, none] = _
  refine ev_set (call2 (sub_of rfl rfl (sub_lst (j := 0) (objs_at (by omega)) (by omega))) (sub_of rfl rfl (sub_lst (j := 0) (objs_at (by omega)) (by omega))) (twc_eval K7 (m := []) (fA 0) (fB 0))) ?_
  show bCons _ _ _ [some _, some _, some _, some _, some _, some _, some _, some _, some _, some _, some _, some _, none, none, none, none, none, none, none, none, none] = _
  refine ev_next (wan_eval (fA 0) (fB 0) (sub_of rfl rfl (sub_lst (j := 0) (objs_at (by omega)) (by omega))) (sub_of rfl rfl (sub_lst (j := 0) (objs_at (by omega)) (by omega)))) ?_
  show bCons _ _ _ [some _, some _, some _, some _, some _, some _, some _, some _, some _, some _, some _, some _, some _, none, none, none, none, none, none, none, none] = _
  refine ev_next (ev_ifF (tor_ff (tne_str (call1 rfl (str_ord (fA 0) (fB 0) [])) rfl) ((tne_nat (call1 rfl len_ren) (cnt_eval T U hL R rfl rfl)).trans (by simp))) rfl) ?_
  refine ev_new (o := .ml []) rfl ?_
  show bCons _ _ _ [some _, some _, some _, some _, some _, some _, some _, some _, some _, some _, some _, some _, some _, some _, none, none, none, none, none, none, none] = _
  refine ev_next (sef_of rfl c1) ?_
  show bCons _ _ _ [some _, some _, some _, some _, some _, some _, some _, some _, some _, some _, some _, some _, some _, some _, some _, none, none, none, none, none, none] = _
  refine ev_next (sef_of rfl c2) ?_
  show bCons _ _ _ [some _, some _, some _, some _, some _, some _, some _, some _, some _, some _, some _, some _, some _, some _, some _, some _, none, none, none, none, none] = _
  refine ev_set (mis_eval (D := D1 ++ E2) (fun k hk => List.mem_append_left _ (m1 k hk)) m2 rfl) ?_
  show bCons _ _ _ [some _, some _, some _, some _, some _, some _, some _, some _, some _, some _, some _, some _, some _, some _, some _, some _, some _, none, none, none, none] = _
  refine ev_set (bey_eval (D := D1 ++ E2) (fun k hk => List.mem_append_left _ (m1 k hk)) m2 rfl) ?_
  show bCons _ _ _ [some _, some _, some _, some _, some _, some _, some _, some _, some _, some _, some _, some _, some _, some _, some _, some _, some _, some _, none, none, none] = _
  refine ev_new (o := .ml ((List.range 6).map (obO A (up L)))) rfl ?_
  show bCons _ _ _ [some _, some _, some _, some _, some _, some _, some _, some _, some _, some _, some _, some _, some _, some _, some _, some _, some _, some _, some _, none, none] = _
  refine ev_new (o := .ml ((List.range 6).map (obO (A.set s d) (up L)))) rfl ?_
  show bCons _ _ _ [some _, some _, some _, some _, some _, some _, some _, some _, some _, some _, some _, some _, some _, some _, some _, some _, some _, some _, some _, some _, none] = _
  refine ev_next (sef_of rfl hu) ?_
  show bCons _ _ _ [some _, some _, some _, some _, some _, some _, some _, some _, some _, some _, some _, some _, some _, some _, some _, some _, some _, some _, some _, some _, some _] = _
  refine ev_next (fAns_eval (udM_mem fA 6 _) (udA_mem 6 _ (mem_objs hL)) (Nat.le_trans (ren_cnt A (A.set s d) (up L) 5) (by decide)) rfl rfl rfl rfl hans) ?_
  refine ev_next (fAns2_eval rfl rfl rfl) ?_
  exact ev_ret (last_eval T U hL R (by omega) ht rfl rfl rfl rfl)
end Mine
end
section
open PySem.W
namespace Mine

/- _law_drawn -/
theorem sliceL_map {α β : Type} (f : α → β) (l : List α) (lo hi st : Option Int) : sliceL (l.map f) lo hi st = (sliceL l lo hi st).map f := by
  unfold sliceL
  rw [List.length_map, List.map_filterMap]
  simp only [List.getElem?_map]
theorem ints_map : ∀ xs : List Int, intsP (xs.map .int) = some xs
  | [] => rfl
  | x :: xs => by
    have ih := ints_map xs
    unfold intsP at ih ⊢
    rw [List.map_cons, List.mapM_cons, ih]; rfl
/- what the sums tell -/
noncomputable def tv (ns : List Int) (k : Nat) : Nat := (sliceL ns (some (k : Int)) none (some 7)).sum.natAbs
noncomputable def tl (ns : List Int) : List Nat := (List.range 7).map (tv ns)
theorem tl_len (ns : List Int) : (tl ns).length = 7 := by simp [tl]
theorem told_eval {ns : List Int} (h : ns.length ≤ 63) {mem : Mem} {sl : Slots} (h0 : capV [0] sl = some [.p (.lst (ns.map .int))]) :
    xComp [0] (vRange (xCons (xK (.int 7)) xNil)) tTrue (xCall semAbs (xCons (xCall semSum (xCons (xSlice (xV 0) (oSome (xV 1)) oNone (oSome (xK (.int 7)))) xNil)) xNil)) mem sl = some (.p (natL (tl ns))) := by
  have e : natL (tl ns) = .lst (((List.range 7).filter fun _ => true).map fun k => .int (tv ns k : Nat)) := rfl
  rw [e]
  refine xcomp_on vI _ _ h0 ?_ (by simp) fun k hk => ⟨rfl, fun _ => ?_⟩
  · rw [range0 (n := 7) rfl (by omega), upto_range, ← List.range_eq_range']
  · have e1 : xSlice (xV 0) (oSome (xV 1)) oNone (oSome (xK (.int 7))) mem (([.p (.lst (ns.map .int))] : List V).map some ++ [some (vI k)]) = some (.p (.lst ((sliceL ns (some (k : Int)) none (some 7)).map .int))) := by
      refine slice_of rfl rfl rfl rfl ?_
      have : lenOk (ns.map P.int).length = true := len_ok (by rw [List.length_map]; omega)
      show (if lenOk (ns.map P.int).length = true then some (V.p (.lst (sliceL (ns.map P.int) (some (k : Int)) none (some 7)))) else none) = _
      rw [if_pos this, sliceL_map]
    have e2 : xCall semSum (xCons (xSlice (xV 0) (oSome (xV 1)) oNone (oSome (xK (.int 7)))) xNil) mem (([.p (.lst (ns.map .int))] : List V).map some ++ [some (vI k)]) = some (.p (.int (sliceL ns (some (k : Int)) none (some 7)).sum)) := by
      refine call1 e1 ?_
      show (intsP ((sliceL ns (some (k : Int)) none (some 7)).map .int)).map _ = _
      rw [ints_map]; rfl
    refine call1 e2 ?_
    have : ∀ a : Int, (if a < 0 then -a else a) = (a.natAbs : Int) := fun a => by split <;> omega
    show some (V.p (.int (if (sliceL ns (some (k : Int)) none (some 7)).sum < 0 then -(sliceL ns (some (k : Int)) none (some 7)).sum else (sliceL ns (some (k : Int)) none (some 7)).sum))) = _
    rw [this]; rfl
theorem div_nat {a b : Nat} (h : 0 < b) (h2 : b < 1000) : binP .FloorDiv (.int (a : Nat)) (.int (b : Nat)) = some (.int ((a / b : Nat) : Int)) := by
  have h1 : (decide (0 < (b : Int)) && decide ((b : Int) < 2 ^ 20)) = true := by
    rw [Bool.and_eq_true, decide_eq_true_eq, decide_eq_true_eq]; omega
  have h2 : Int.fdiv (a : Int) (b : Int) = ((a / b : Nat) : Int) := by rw [Int.fdiv_eq_ediv_of_nonneg _ (by omega)]; rfl
  exact (int2_int _ _ _).trans ((if_pos h1).trans (by rw [h2]))
noncomputable def c6L : List Nat := [0, 0, 1, 1, 2, 1]
noncomputable def abT (t : List Nat) (i : Nat) : Nat := if 1 + i = 2 then 1 else (up c6L (1 + i) + up t i) % (1 + i)
noncomputable def kdT (t : List Nat) (i : Nat) : Nat := (up c6L (1 + i) + up t i / (1 + i)) % 3
noncomputable def mdT (t : List Nat) (i : Nat) : Nat := up [16877, 18889, 33188] (kdT t i) + 65536 * (up t i / (1 + i) / 3 % 65536)
noncomputable def rowT (x : Nat) (f : Nat → Nat) (i : Nat) : List P := .int (x : Nat) :: (List.range i).map fun j => .int (f j : Nat)
theorem rowT_succ (x : Nat) (f : Nat → Nat) (i : Nat) : rowT x f i ++ [.int (f i : Nat)] = rowT x f (i + 1) := by
  unfold rowT
  rw [List.range_succ, List.map_append]; rfl
theorem rowT_len (x : Nat) (f : Nat → Nat) (i : Nat) : (rowT x f i).length = i + 1 := by simp [rowT]
theorem rowT_at (x : Nat) (f : Nat → Nat) (i : Nat) : (rowT x f (i + 1))[1 + i]? = some (.int (f i : Nat)) := by
  unfold rowT
  rw [Nat.add_comm 1 i, List.getElem?_cons_succ, List.getElem?_map, List.getElem?_range (by omega)]; rfl
noncomputable def b1D : SF := (bCons (sSet 6 (xBin2 .FloorDiv (xSub (xV 1) (xBin2 .Sub (xV 5) (xK (.int 1)))) (xV 5))) (bCons (sApp (xV 2) (xIf (tCmp .Eq (xV 5) (xK (.int 2))) (xK (.int 1)) (xBin2 .Mod (xBin2 .Add (xSub (xList (xCons (xK (.int 0)) (xCons (xK (.int 0)) (xCons (xK (.int 1)) (xCons (xK (.int 1)) (xCons (xK (.int 2)) (xCons (xK (.int 1)) xNil))))))) (xV 5)) (xSub (xV 1) (xBin2 .Sub (xV 5) (xK (.int 1))))) (xV 5)))) (bCons (sApp (xV 3) (xBin2 .Mod (xBin2 .Add (xSub (xList (xCons (xK (.int 0)) (xCons (xK (.int 0)) (xCons (xK (.int 1)) (xCons (xK (.int 1)) (xCons (xK (.int 2)) (xCons (xK (.int 1)) xNil))))))) (xV 5)) (xV 6)) (xK (.int 3)))) (bCons (sApp (xV 4) (xBin2 .Add (xSub (xList (xCons (xK (.int 16877)) (xCons (xK (.int 18889)) (xCons (xK (.int 33188)) xNil)))) (xSub (xV 3) (xV 5))) (xBin2 .Mult (xK (.int 65536)) (xBin2 .Mod (xBin2 .FloorDiv (xV 6) (xK (.int 3))) (xK (.int 65536)))))) bNil))))
noncomputable def slD (d : P) (t : List Nat) (x5 x6 x7 x8 x9 : Option V) : Slots := [some (.p d), some (.p (natL t)), some (.c 0), some (.c 1), some (.c 2), x5, x6, x7, x8, x9]
noncomputable def mmD (t : List Nat) (i : Nat) : Mem := [.ml (rowT 0 (abT t) i), .ml (rowT 3 (kdT t) i), .ml (rowT 17407 (mdT t) i)]
theorem b1D_eval {d : P} {t : List Nat} (ht : t.length = 7) {i : Nat} (hi : i < 5) (x6 x7 x8 x9 : Option V) :
    b1D (mmD t i) (slD d t (some (vI (1 + i))) x6 x7 x8 x9) = some (.next, mmD t (i + 1), slD d t (some (vI (1 + i))) (some (vI (up t i / (1 + i)))) x7 x8 x9) := by
  have hs : ∀ (mem : Mem) (y6 : Option V), xSub (xV 1) (xBin2 .Sub (xV 5) (xK (.int 1))) mem (slD d t (some (vI (1 + i))) y6 x7 x8 x9) = some (vI (up t i)) := fun mem y6 =>
    sub_nat (by omega) (by omega) rfl (bin_of rfl rfl rfl rfl (sub1 i))
  have hc : ∀ (mem : Mem) (y6 : Option V), xSub (xList (xCons (xK (.int 0)) (xCons (xK (.int 0)) (xCons (xK (.int 1)) (xCons (xK (.int 1)) (xCons (xK (.int 2)) (xCons (xK (.int 1)) xNil))))))) (xV 5) mem (slD d t (some (vI (1 + i))) y6 x7 x8 x9) = some (vI (up c6L (1 + i))) := fun mem y6 =>
    sub_nat (f := c6L) (by show 1 + i < 6; omega) (by omega) rfl rfl
  have l1 : ∀ (x : Nat) (f : Nat → Nat), (rowT x f i).length ≤ 100 := fun x f => by rw [rowT_len]; omega
  refine ev_set (v := vI (up t i / (1 + i))) (bin_of (hs _ _) rfl rfl rfl (div_nat (by omega) (by omega))) ?_
  show bCons _ _ (mmD t i) (slD d t (some (vI (1 + i))) (some (vI (up t i / (1 + i)))) x7 x8 x9) = _
  refine ev_next (sl' := slD d t (some (vI (1 + i))) (some (vI (up t i / (1 + i)))) x7 x8 x9) (mem' := [.ml (rowT 0 (abT t) (i + 1)), .ml (rowT 3 (kdT t) i), .ml (rowT 17407 (mdT t) i)]) ((app_of (k := 0) (d := .int (abT t i : Nat)) rfl ?_ rfl (l1 _ _)).trans ?_) ?_
  · unfold xIf
    rw [teq_nat (a := 1 + i) (b := 2) rfl rfl, Option.bind_some]
    unfold abT
    by_cases h : 1 + i = 2
    · rw [if_pos h, if_pos (by rw [h]; rfl)]; rfl
    · rw [if_neg h, if_neg (by simpa using h)]
      exact bin_of (bin_of (hc _ _) (hs _ _) rfl rfl (add_nat _ _)) rfl rfl rfl (mod_nat (by omega))
  · rw [rowT_succ]; rfl
  refine ev_next (sl' := slD d t (some (vI (1 + i))) (some (vI (up t i / (1 + i)))) x7 x8 x9) (mem' := [.ml (rowT 0 (abT t) (i + 1)), .ml (rowT 3 (kdT t) (i + 1)), .ml (rowT 17407 (mdT t) i)]) ((app_of (k := 1) (d := .int (kdT t i : Nat)) rfl ?_ rfl (l1 _ _)).trans ?_) ?_
  · exact bin_of (bin_of (hc _ _) rfl rfl rfl (add_nat _ _)) rfl rfl rfl (mod_nat (b := 3) (by omega))
  · rw [rowT_succ]; rfl
  refine ev_nil ((app_of (k := 2) (d := .int (mdT t i : Nat)) rfl ?_ rfl (l1 _ _)).trans ?_)
  · have e1 : xSub (xV 3) (xV 5) [.ml (rowT 0 (abT t) (i + 1)), .ml (rowT 3 (kdT t) (i + 1)), .ml (rowT 17407 (mdT t) i)] (slD d t (some (vI (1 + i))) (some (vI (up t i / (1 + i)))) x7 x8 x9) = some (vI (kdT t i)) := sub_of rfl rfl (sub_cell rfl (rowT_at 3 (kdT t) i) (by omega))
    have hk : kdT t i < 3 := Nat.mod_lt _ (by omega)
    exact bin_of (sub_nat (f := [16877, 18889, 33188]) hk (by omega) rfl e1) (bin_of rfl (bin_of (bin_of rfl rfl rfl rfl (div_nat (b := 3) (by omega) (by omega))) rfl rfl rfl (mod_nat (b := 65536) (by omega))) rfl rfl (mul_nat (a := 65536) (by omega))) rfl rfl (add_nat _ _)
  · rw [rowT_succ]; rfl
end Mine
end
section
open PySem.W
namespace Mine

noncomputable def spT (t : List Nat) (j : Nat) : Nat := 1 + (up [3, 4] j + up t (5 + j)) % 5
noncomputable def deT (t : List Nat) (j : Nat) : Nat := (up [3, 2] j + up t (5 + j) / 5) % spT t j
noncomputable def shT (t : List Nat) (j : Nat) : Nat := up t (5 + j) / 25 % 5
noncomputable def mvL (t : List Nat) (j : Nat) : P := natL [spT t j, deT t j, shT t j]
noncomputable def b2D : SF := (bCons (sSet 6 (xSub (xV 1) (xBin2 .Add (xK (.int 5)) (xV 8)))) (bCons (sSet 9 (xBin2 .Add (xK (.int 1)) (xBin2 .Mod (xBin2 .Add (xSub (xList (xCons (xK (.int 3)) (xCons (xK (.int 4)) xNil))) (xV 8)) (xV 6)) (xK (.int 5))))) (bCons (sApp (xV 7) (xList (xCons (xV 9) (xCons (xBin2 .Mod (xBin2 .Add (xSub (xList (xCons (xK (.int 3)) (xCons (xK (.int 2)) xNil))) (xV 8)) (xBin2 .FloorDiv (xV 6) (xK (.int 5)))) (xV 9)) (xCons (xBin2 .Mod (xBin2 .FloorDiv (xV 6) (xK (.int 25))) (xK (.int 5))) xNil))))) bNil)))
noncomputable def mm2 (t : List Nat) (j : Nat) : Mem := [.ml (rowT 0 (abT t) 5), .ml (rowT 3 (kdT t) 5), .ml (rowT 17407 (mdT t) 5), .ml ((List.range j).map (mvL t))]
theorem b2D_eval {d : P} {t : List Nat} (ht : t.length = 7) {j : Nat} (hj : j < 2) (x5 x6 x9 : Option V) :
    b2D (mm2 t j) (slD d t x5 x6 (some (.c 3)) (some (vI j)) x9) = some (.next, mm2 t (j + 1), slD d t x5 (some (vI (up t (5 + j)))) (some (.c 3)) (some (vI j)) (some (vI (spT t j)))) := by
  refine ev_set (v := vI (up t (5 + j))) (sub_nat (by omega) (by omega) rfl (bin_of (d := .int (5 : Nat)) rfl rfl rfl rfl (add_nat 5 j))) ?_
  refine ev_set (v := vI (spT t j)) (bin_of (d := .int (1 : Nat)) rfl (bin_of (bin_of (sub_nat (f := [3, 4]) hj (by omega) rfl rfl) rfl rfl rfl (add_nat _ _)) rfl rfl rfl (mod_nat (b := 5) (by omega))) rfl rfl (add_nat _ _)) ?_
  refine ev_nil ((app_of (k := 3) (d := mvL t j) rfl ?_ rfl (by simp; omega)).trans ?_)
  · have e1 : xBin2 .Mod (xBin2 .Add (xSub (xList (xCons (xK (.int 3)) (xCons (xK (.int 2)) xNil))) (xV 8)) (xBin2 .FloorDiv (xV 6) (xK (.int 5)))) (xV 9) (mm2 t j) (slD d t x5 (some (vI (up t (5 + j)))) (some (.c 3)) (some (vI j)) (some (vI (spT t j)))) = some (vI (deT t j)) :=
      bin_of (bin_of (sub_nat (f := [3, 2]) hj (by omega) rfl rfl) (bin_of rfl rfl rfl rfl (div_nat (b := 5) (by omega) (by omega))) rfl rfl (add_nat _ _)) rfl rfl rfl (mod_nat (by unfold spT; omega))
    have e2 : xBin2 .Mod (xBin2 .FloorDiv (xV 6) (xK (.int 25))) (xK (.int 5)) (mm2 t j) (slD d t x5 (some (vI (up t (5 + j)))) (some (.c 3)) (some (vI j)) (some (vI (spT t j)))) = some (vI (shT t j)) :=
      bin_of (bin_of rfl rfl rfl rfl (div_nat (b := 25) (by omega) (by omega))) rfl rfl rfl (mod_nat (b := 5) (by omega))
    show xList _ (mm2 t j) (slD d t x5 (some (vI (up t (5 + j)))) (some (.c 3)) (some (vI j)) (some (vI (spT t j)))) = _
    simp only [xList, xCons, xNil, e1, e2, Option.bind_some, Option.map_some]; rfl
  · unfold mm2
    rw [List.range_succ, List.map_append]; rfl
noncomputable def dAt (t : List Nat) : List Nat := 0 :: (List.range 5).map (abT t)
noncomputable def dKd (t : List Nat) : List Nat := 3 :: (List.range 5).map (kdT t)
noncomputable def dMd (t : List Nat) : P := .lst (rowT 17407 (mdT t) 5)
theorem drawn_eval {ns : List Int} (h : ns.length ≤ 63) (m : Mem) : S_drawn m [.p (.lst (ns.map .int))] = some (.p (.tup [natL (dAt (tl ns)), natL (dKd (tl ns)), dMd (tl ns), .lst [mvL (tl ns) 0, mvL (tl ns) 1]])) := by
  have ht := tl_len ns
  obtain ⟨mem1, sl1, hI1, hF1⟩ := for_inv0 (mem := mmD (tl ns) 0) (sl := slD (.lst (ns.map .int)) (tl ns) none none none none none) (gs := (upto (1 : Nat) 5).map (aN 5)) (b := b1D)
    (fun i mem sl => mem = mmD (tl ns) i ∧ ∃ x5 x6, sl = slD (.lst (ns.map .int)) (tl ns) x5 x6 none none none)
    (by
      rintro i g mem sl hg ⟨rfl, x5, x6, rfl⟩
      obtain ⟨hi, rfl⟩ := gsel (gs := []) (a := 1) hg
      exact ⟨_, _, _, rfl, b1D_eval ht hi _ _ _ _, rfl, _, _, rfl⟩)
    ⟨rfl, _, _, rfl⟩
  obtain ⟨rfl, x5, x6, rfl⟩ := hI1
  rw [List.length_map, upto_len] at hF1
  obtain ⟨mem2, sl2, hI2, hF2⟩ := for_inv0 (mem := mm2 (tl ns) 0) (sl := slD (.lst (ns.map .int)) (tl ns) x5 x6 (some (.c 3)) none none) (gs := (upto (0 : Nat) 2).map (aN 8)) (b := b2D)
    (fun i mem sl => mem = mm2 (tl ns) i ∧ ∃ x6 x8 x9, sl = slD (.lst (ns.map .int)) (tl ns) x5 x6 (some (.c 3)) x8 x9)
    (by
      rintro i g mem sl hg ⟨rfl, x6, x8, x9, rfl⟩
      obtain ⟨hi, rfl⟩ := gsel (gs := []) (a := 0) hg
      rw [Nat.zero_add]
      exact ⟨_, _, _, rfl, b2D_eval ht hi _ _ _, rfl, _, _, _, rfl⟩)
    ⟨rfl, _, _, _, rfl⟩
  obtain ⟨rfl, y6, x8, x9, rfl⟩ := hI2
  rw [List.length_map, upto_len] at hF2
  refine fn_eval (ds := [.lst (ns.map .int)]) (mem' := mm2 (tl ns) 2) (sl' := slD (.lst (ns.map .int)) (tl ns) x5 y6 (some (.c 3)) x8 x9) (v := .t [.inr 0, .inr 1, .inr 2, .inr 3]) rfl rfl ?_ rfl
  refine ev_set (told_eval h rfl) ?_
  refine ev_new (o := .ml [.int 0]) rfl ?_
  refine ev_new (o := .ml [.int 3]) rfl ?_
  refine ev_new (o := .ml [.int 17407]) rfl ?_
  show bCons _ _ (mmD (tl ns) 0) (slD (.lst (ns.map .int)) (tl ns) none none none none none) = _
  refine ev_next (ev_for (gV_at (range2 (a := 1) (b := 6) rfl (by omega) (by omega) (by omega))) hF1) ?_
  refine ev_new (o := .ml []) rfl ?_
  show bCons _ _ (mm2 (tl ns) 0) (slD (.lst (ns.map .int)) (tl ns) x5 x6 (some (.c 3)) none none) = _
  refine ev_next (ev_for (gV_at (range0 (n := 2) rfl (by omega))) hF2) ?_
  exact ev_ret rfl
theorem dAt_eq (t : List Nat) : ∃ b c d, b < 3 ∧ c < 4 ∧ d < 5 ∧ dAt t = [0, 0, 1, b, c, d] :=
  ⟨abT t 2, abT t 3, abT t 4, Nat.mod_lt _ (by omega), Nat.mod_lt _ (by omega), Nat.mod_lt _ (by omega), by
    have h0 : abT t 0 = 0 := Nat.mod_one _
    show [0, abT t 0, abT t 1, abT t 2, abT t 3, abT t 4] = _
    rw [h0]; rfl⟩
theorem dKd_in (t : List Nat) : dKd t ∈ kdsAll := by
  have h : ∀ i, kdT t i ∈ [0, 1, 2] := fun i => by
    have : kdT t i < 3 := Nat.mod_lt _ (by omega)
    exact (List.mem_range.mpr this : kdT t i ∈ List.range 3)
  unfold kdsAll
  refine List.mem_flatMap.mpr ⟨_, h 0, List.mem_flatMap.mpr ⟨_, h 1, List.mem_flatMap.mpr ⟨_, h 2, List.mem_flatMap.mpr ⟨_, h 3, List.mem_map.mpr ⟨_, h 4, rfl⟩⟩⟩⟩⟩
theorem dKd_at (t : List Nat) {k : Nat} (h0 : 0 < k) (h : k < 6) : up (dKd t) k = kdT t (k - 1) := by
  obtain ⟨j, rfl⟩ : ∃ j, k = j + 1 := ⟨k - 1, by omega⟩
  unfold dKd up
  rw [List.getD_eq_getElem?_getD, List.getElem?_cons_succ, List.getElem?_map, List.getElem?_range (by omega)]; rfl
theorem dKd_kd (t : List Nat) : Kd (dKd t) where
  len := rfl
  lt := fun k => by
    by_cases h : k < 6
    · by_cases h0 : k = 0
      · subst h0; show 3 < 4; omega
      · rw [dKd_at t (by omega) h]
        have : kdT t (k - 1) < 3 := Nat.mod_lt _ (by omega)
        omega
    · unfold up
      rw [List.getD_eq_getElem?_getD, List.getElem?_eq_none (by show 6 ≤ k; omega)]
      show 0 < 4; omega
theorem dMd_ok (t : List Nat) : Mds (dKd t) (rowT 17407 (mdT t) 5) where
  at_ := fun k hk => by
    by_cases h0 : k = 0
    · subst h0; exact ⟨0, rfl⟩
    · refine ⟨up t (k - 1) / (1 + (k - 1)) / 3 % 65536, ?_⟩
      rw [dKd_at t (by omega) hk]
      obtain ⟨j, rfl⟩ : ∃ j, k = j + 1 := ⟨k - 1, by omega⟩
      unfold rowT
      rw [List.getElem?_cons_succ, List.getElem?_map, List.getElem?_range (by omega), Nat.add_sub_cancel]
      have h3 : ∀ k < 3, up [16877, 18889, 33188] k = KM k := fun k hk => by
        match k, hk with
        | 0, _ => rfl
        | 1, _ => rfl
        | 2, _ => rfl
      show some (P.int ((up [16877, 18889, 33188] (kdT t j) + 65536 * (up t j / (1 + j) / 3 % 65536) : Nat) : Int)) = _
      rw [h3 (kdT t j) (Nat.mod_lt _ (by omega)), Int.natCast_add, Int.natCast_mul]; rfl
theorem abcde_ok : Nms 0 (.str "abcde") := fun mem k hk => by
  match k, hk with
  | 0, _ => rfl
  | 1, _ => rfl
  | 2, _ => rfl
  | 3, _ => rfl
  | 4, _ => rfl
theorem unp_of {g : V → Slots → Option Slots} {f : XF} {mem : Mem} {sl sl' : Slots} {v : V} (h : f mem sl = some v) (h2 : g v sl = some sl') : sUnp g f mem sl = some (.next, mem, sl') := by
  simp only [sUnp, h, h2, Option.bind_some, Option.map_some]
theorem call5 {sem : Mem → List V → Option V} {f g k j i : XF} {mem : Mem} {sl : Slots} {x y z u q v : V} (h1 : f mem sl = some x) (h2 : g mem sl = some y) (h3 : k mem sl = some z) (h4 : j mem sl = some u) (h5 : i mem sl = some q) (h6 : sem mem [x, y, z, u, q] = some v) : xCall sem (xCons f (xCons g (xCons k (xCons j (xCons i xNil))))) mem sl = some v := by
  simp only [xCall, xCons, xNil, h1, h2, h3, h4, h5, Option.bind_some, Option.map_some, h6]
theorem law_eval {ns : List Int} (h : ns.length ≤ 63) : S_law [] [.p (.lst (ns.map .int))] = some (.p (.bool true)) := by
  obtain ⟨b, c, d, hb, hc, hd, hA⟩ := dAt_eq (tl ns)
  have T : Tr (dAt (tl ns)) := by rw [hA]; exact base_tr hb hc hd
  have hL := dKd_kd (tl ns)
  have hS : ∀ j, spT (tl ns) j < 6 ∧ 0 < spT (tl ns) j ∧ deT (tl ns) j < spT (tl ns) j ∧ shT (tl ns) j < 5 := fun j => by
    have h1 : (up [3, 4] j + up (tl ns) (5 + j)) % 5 < 5 := Nat.mod_lt _ (by omega)
    have h2 : spT (tl ns) j = 1 + (up [3, 4] j + up (tl ns) (5 + j)) % 5 := rfl
    exact ⟨by omega, by omega, Nat.mod_lt _ (by omega), Nat.mod_lt _ (by omega)⟩
  have hag : ∀ j, ∀ m : Mem, S_agrees m [.p (natL (dAt (tl ns))), .p (natL (dKd (tl ns))), .p (.lst (pths 0 (dAt (tl ns)) 6)), .p (objs (dAt (tl ns)) (up (dKd (tl ns)))), .p (mvL (tl ns) j)] = some (.p (.bool true)) := fun j m => by
    obtain ⟨h1, h2, h3, h4⟩ := hS j
    have hB : (dAt (tl ns)).set (spT (tl ns) j) (deT (tl ns) j) ∈ mvs (dAt (tl ns)) := mvs_in rfl h2 h1 h3
    rw [hA] at hB
    have U : Tr ((dAt (tl ns)).set (spT (tl ns) j) (deT (tl ns) j)) := by
      rw [hA]; exact mvs_tr hb hc hd hB
    refine agrees_eval T U hL rfl (fun k k0 k6 => ?_) (pair_of T U hL (dKd_in _) ?_) h1 h4 m
    · rw [dKd_at _ k0 k6]; exact Nat.mod_lt _ (by omega)
    · rw [hA]; exact pairs_ok hb hc hd hB
  refine fn_ev (ds := [.lst (ns.map .int)]) rfl rfl ?_
  apply Exists.intro; apply Exists.intro
  refine ev_next (unp_of (call1 rfl (drawn_eval h _)) rfl) ?_
  show bCons _ _ _ [some _, some _, some _, some _, some _, none, none] = _
  refine ev_set (call2 rfl rfl (paths_eval T (t := 0) (by omega) abcde_ok _)) ?_
  refine ev_set (call2 rfl rfl (forms_eval T (t := 0) (by omega) hL (dMd_ok _) _)) ?_
  show bCons _ _ _ [some _, some _, some _, some _, some _, some _, some _] = _
  refine ev_ret (call1 (x := .p (.lst (((([0, 1] : List Nat).filter fun _ => true)).map fun _ => P.bool true))) (xcomp_on (fun j => V.p (mvL (tl ns) j)) _ _ rfl rfl (by simp) fun j _ => ⟨rfl, fun _ => ?_⟩) rfl)
  exact call5 rfl rfl rfl rfl rfl (hag j _)
end Mine
end
section
open PySem.W
namespace Mine
/- a tuple, looked at -/
noncomputable def seqB : Obj → Option (List Value)
  | ⟨.type t, none, .seq vs _, ⟨[]⟩⟩ => if t = "tuple" then some vs.toList else none
  | _ => none
theorem seqB_at {o : Obj} {vs : List Value} (e : seqB o = some vs) : ∃ n, o = { cls := .type "tuple", data := .seq vs.toArray n } := by
  unfold seqB at e
  split at e
  · split at e
    · rename_i q
      cases e
      exact ⟨_, by rw [q]⟩
    · cases e
  · cases e
noncomputable def allB : List (Value → Bool) → List Value → Bool
  | [], [] => true
  | f :: fs, v :: vs => f v && allB fs vs
  | _, _ => false
noncomputable def rpB (h : Heap) : Nat → P → Value → Bool
  | 0, _, _ => false
  | n + 1, d, v => match d, v with
    | .int i, .int j _ => decide (i = j)
    | .str s, .str t _ => decide (s = t)
    | .tup l, .ref a => match (h.get? a).bind seqB with
      | some vs => allB (l.map (rpB h n)) vs
      | none => false
    | _, _ => false
theorem rpB_rp {h : Heap} {Z : List Addr} : ∀ (n : Nat) (d : P) (v : Value), rpB h n d v = true → RP h Z d v
  | n + 1, d, v, e => by
    unfold rpB at e
    split at e
    · simp only [RP]
      exact ⟨_, by rw [of_decide_eq_true e]⟩
    · simp only [RP]
      exact ⟨_, by rw [of_decide_eq_true e]⟩
    · rename_i l a
      cases q : (h.get? a).bind seqB with
      | none => rw [q] at e; cases e
      | some vs =>
        rw [q] at e
        obtain ⟨o, q1, q2⟩ := Option.bind_eq_some_iff.mp q
        obtain ⟨m, rfl⟩ := seqB_at q2
        simp only [RP]
        refine ⟨a, vs, rfl, ⟨m, q1⟩, ?_⟩
        have key : ∀ (l : List P) (vs : List Value), allB (l.map (rpB h n)) vs = true → RPs h Z l vs := by
          intro l
          induction l with
          | nil => intro vs e; cases vs with
            | nil => trivial
            | cons v vs => cases e
          | cons d l ih => intro vs e; cases vs with
            | nil => cases e
            | cons v vs =>
              have e2 := Bool.and_eq_true_iff.mp e
              exact ⟨rpB_rp n d v e2.1, ih vs e2.2⟩
        exact key l vs e
    · cases e
noncomputable def tabX (s : Shared) : Bool := match s.heap.nsMap mainGlobals "_filemode_table" with
  | some v => rpB s.heap 9 tabP v
  | none => false
theorem tabX_ok {s : Shared} (e : tabX s = true) : TabOk s.heap (s.heap.nsMap mainGlobals) := by
  unfold tabX at e
  split at e
  · rename_i v hv
    exact ⟨v, hv, fun Z => rpB_rp _ _ v e⟩
  · cases e
theorem TabOk.keeps (mg : Str → Option Value) (h h' : Heap) (x : TabOk h mg) (k : ∀ b o, h.get? b = some o → h'.get? b = some o) : TabOk h' mg :=
  let ⟨fv, e, r⟩ := x
  ⟨fv, e, fun Z => RP.kp (.of k) _ _ (r Z)⟩
noncomputable def drL : DefRec := dr 54
set_option maxHeartbeats 0 in
theorem left : LeftO Challenge.rw_pd0149_01.row.prog vw ["_filemode_table"] (fun s => tabX s && recOk (RowW.records Challenge.rw_pd0149_01.row.toRowW) s) (fun _ => ()) (fun _ => ()) 3416 := by
  intro w
  unfold openEnds topFrom fencedOpening
  rw [Fast.te14082659384304107361, Fast.te4187177175401517315, Fast.te14364793385576792824, Fast.te10274390034422433532, Fast.te14289696077712309145]
  kernel_rfl
set_option maxHeartbeats 0 in
theorem said : Challenge.rw_pd0149_01.wellSaid = true := by kernel_rfl
end Mine
end
section
open PySem.W
namespace Mine
theorem holds_of (hlaw : ∀ ns : List Int, ns.length ≤ 63 → S_law [] [.p (.lst (ns.map .int))] = some (.p (.bool true))) : Challenge.rw_pd0149_01.Holds := by
  refine holds_law said fun hs => holds_open (d := drL) (kwd := []) left (YP := fun _ _ => True) (XP := fun mg h => TabOk h mg) (fun _ _ _ => trivial) (fun _ _ _ _ _ => trivial) (fun s e => tabX_ok (Bool.and_eq_true_iff.mp e).1) TabOk.keeps (by kernel_rfl) (by kernel_rfl) (by kernel_rfl) (fun s e => recFacts_of (Bool.and_eq_true_iff.mp e).2) (by rfl) hs (by decide +kernel) ⟨rfl, rfl, rfl, rfl, rfl, by decide +kernel⟩ ⟨[.list []], by decide +kernel, by decide +kernel⟩ ?_
  exact walk_law (by kernel_rfl) hlaw fun w mg h _ x _ => x
end Mine
end
theorem PySem.Challenge.cw_pd0149_01_holds : PySem.Challenge.rw_pd0149_01.Holds := by
  exact Mine.holds_of fun _ h => Mine.law_eval h
