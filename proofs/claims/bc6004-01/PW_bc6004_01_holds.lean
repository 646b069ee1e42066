import PyProof.Rows.All
import Wide.All
import OpenK.AllK
import Wide.FinOn
import Lean
import PySem.Challenge.RW_bc6004_01
open PySem PySem.W PyProof.Rows
set_option Elab.async false

section
open PySem.Calls PySem.Spec
set_option maxRecDepth 100000

namespace Mine

/-- a value's text -/
def vText : Value → List Nat
  | .int i _ => (PySem.Str.ofString (toString i)).cps.toList
  | .str x _ => x.cps.toList
  | _ => []
def IsVal (v : Value) : Prop := (∃ x t, v = .str x t ∧ x.length ≤ 100) ∨ (∃ i t, v = .int i t ∧ 0 ≤ i ∧ i < 10 ^ 10)

def fill : List Nat → List (List Nat) → Option (List Nat)
  | [], [] => some []
  | [], _ :: _ => none
  | [c], vs => if c = 37 then none else (fill [] vs).map (c :: ·)
  | c :: d :: r, vs =>
    if c = 37 then
      if d = 37 then (fill r vs).map (37 :: ·)
      else match vs with
        | [] => none
        | v :: vs => (fill r vs).map (v ++ ·)
    else (fill (d :: r) vs).map (c :: ·)

inductive WF : List Nat → Prop
  | nil : WF []
  | lit {c : Nat} {r : List Nat} : c ≠ 37 → WF r → WF (c :: r)
  | pp {r : List Nat} : WF r → WF (37 :: 37 :: r)
  | ps {r : List Nat} : WF r → WF (37 :: 115 :: r)

theorem fill_lit {c : Nat} {r : List Nat} {vs : List (List Nat)} (h : c ≠ 37) : fill (c :: r) vs = (fill r vs).map (c :: ·) := by
  cases r with
  | nil => simp [fill, h]
  | cons d r => simp [fill, h]
theorem fill_pp {r : List Nat} {vs : List (List Nat)} : fill (37 :: 37 :: r) vs = (fill r vs).map (37 :: ·) := by
  simp [fill]
theorem fill_ps0 {r : List Nat} : fill (37 :: 115 :: r) [] = none := by
  simp [fill]
theorem fill_ps1 {r v : List Nat} {vs : List (List Nat)} : fill (37 :: 115 :: r) (v :: vs) = (fill r vs).map (v ++ ·) := by
  simp [fill]

theorem fill_lits {vs : List (List Nat)} {r : List Nat} : ∀ {l : List Nat}, (∀ c ∈ l, c ≠ 37) → fill (l ++ r) vs = (fill r vs).map (l ++ ·)
  | [], _ => by
    rw [List.nil_append]
    cases fill r vs <;> rfl
  | c :: l, h => by
    rw [List.cons_append, fill_lit (h c (.head _)), fill_lits fun d hd => h d (.tail _ hd)]
    cases fill r vs <;> rfl

theorem span_loop (p : Nat → Bool) : ∀ (l acc : List Nat), List.span.loop p l acc = (acc.reverse ++ l.takeWhile p, l.dropWhile p)
  | [], acc => by simp [List.span.loop]
  | a :: l, acc => by
    rw [List.span.loop]
    cases h : p a with
    | true => simp [span_loop p l, h]
    | false => simp [h]
theorem span_is (p : Nat → Bool) (l : List Nat) : l.span p = (l.takeWhile p, l.dropWhile p) := by
  rw [List.span, span_loop]; simp

theorem mem_take (p : Nat → Bool) : ∀ (l : List Nat), ∀ c ∈ l.takeWhile p, p c = true
  | [], _, h => nomatch h
  | a :: l, c, h => by
    rw [List.takeWhile_cons] at h
    split at h
    · rcases List.mem_cons.mp h with rfl | h
      · assumption
      · exact mem_take p l c h
    · exact nomatch h
/-- the span of a well-formed format -/
theorem wf_span {r : List Nat} (h : WF r) : ∃ lit rest, r.span (· != 37) = (lit, rest) ∧ r = lit ++ rest ∧ (∀ c ∈ lit, c ≠ 37) ∧ WF rest := by
  rw [span_is]
  refine ⟨_, _, rfl, (List.takeWhile_append_dropWhile).symm, ?_, ?_⟩
  · intro c hc
    have := mem_take _ _ c hc
    simpa using this
  · induction h with
    | nil => exact .nil
    | lit hc hr ih => rw [List.dropWhile_cons_of_pos (by simpa using hc)]; exact ih
    | pp hr ih => exact .pp hr
    | ps hr ih => exact .ps hr

open Builtin.Str in
section
variable {M : Model} {A : Around} {F0 : List Nat} {f : Nat → List Value × Writer × List Nat → Sem (ForInStep (List Value × Writer × List Nat))}

structure Turns (M : Model) (A : Around) (F0 : List Nat) (f : Nat → List Value × Writer × List Nat → Sem (ForInStep (List Value × Writer × List Nat))) : Prop where
  nil : ∀ (x : Nat) (p : List Value) (w : Writer) (s : Shared) (T : PySem.Str) (N : Nat) (Q : ForInStep (List Value × Writer × List Nat) → Shared → Prop) (E : Value → Shared → Prop),
    KPc.Good w T N → N ≤ 16777216 → Q (.done (p, w, [])) s → wpAny M A (f x (p, w, [])) Q E s
  lit : ∀ (x : Nat) (p : List Value) (w : Writer) (s : Shared) (T : PySem.Str) (N : Nat) (Q : ForInStep (List Value × Writer × List Nat) → Shared → Prop) (E : Value → Shared → Prop) (c : Nat) (l rest : List Nat),
    KPc.Good w T N → N ≤ 16777216 → (c :: (l ++ rest)).span (· != 37) = (c :: l, rest) → (c :: (l ++ rest)) <:+ F0 →
    (∀ w', KPc.Good w' (T ++ ⟨(c :: l).toArray⟩) (N + (l.length + 1)) → Q (.yield (p, w', rest)) s) → wpAny M A (f x (p, w, c :: (l ++ rest))) Q E s
  pp : ∀ (x : Nat) (p : List Value) (w : Writer) (s : Shared) (T : PySem.Str) (N : Nat) (Q : ForInStep (List Value × Writer × List Nat) → Shared → Prop) (E : Value → Shared → Prop) (rest : List Nat),
    KPc.Good w T N → N ≤ 16777216 →
    (∀ w', KPc.Good w' (T ++ ⟨#[37]⟩) (N + 1) → Q (.yield (p, w', rest)) s) → wpAny M A (f x (p, w, 37 :: 37 :: rest)) Q E s
  ps1 : ∀ (x : Nat) (v : Value) (p : List Value) (w : Writer) (s : Shared) (T : PySem.Str) (N : Nat) (Q : ForInStep (List Value × Writer × List Nat) → Shared → Prop) (E : Value → Shared → Prop) (rest : List Nat),
    KPc.Good w T N → N ≤ 16777216 → IsVal v →
    (∀ w' tk, KPc.Good w' (T ++ ⟨(vText v).toArray⟩) (N + 100) → Q (.yield (p, w', rest)) { s with toks := tk }) → wpAny M A (f x (v :: p, w, 37 :: 115 :: rest)) Q E s
  ps0 : ∀ (x : Nat) (w : Writer) (s : Shared) (T : PySem.Str) (N : Nat) (Q : ForInStep (List Value × Writer × List Nat) → Shared → Prop) (E : Value → Shared → Prop) (rest : List Nat),
    KPc.Good w T N → N ≤ 16777216 →
    (∀ h' tk e, Heap.NewExc s.heap h' e "TypeError" → E (.ref e) { s with heap := h', toks := tk }) → wpAny M A (f x ([], w, 37 :: 115 :: rest)) Q E s

theorem run_loop (C : Turns M A F0 f) : ∀ (l : List Nat) (r : List Nat) (p : List Value) (w : Writer) (s : Shared) (T : PySem.Str) (N : Nat) (Q : List Value × Writer × List Nat → Shared → Prop) (E : Value → Shared → Prop),
    r.length ≤ l.length → WF r → r <:+ F0 → (∀ v ∈ p, IsVal v) → KPc.Good w T N → N + r.length + 100 * p.length ≤ 100000 →
    (∀ out w' N' tk, fill r (p.map vText) = some out → KPc.Good w' ⟨(T.cps.toList ++ out).toArray⟩ N' → N' ≤ 100000 → Q ([], w', []) { s with toks := tk }) →
    (∀ v vs w' tk, fill r (p.map vText) = none → Q (v :: vs, w', []) { s with toks := tk }) →
    (∀ h' tk e, fill r (p.map vText) = none → Heap.NewExc s.heap h' e "TypeError" → E (.ref e) { s with heap := h', toks := tk }) →
    wpAny M A (forIn l (p, w, r) f) Q E s := by
  intro l
  induction l with
  | nil =>
    intro r p w s T N Q E hl hw hsuf hv g hN hok hleft hbad
    have hr : r = [] := List.eq_nil_of_length_eq_zero (Nat.le_zero.mp hl)
    subst hr
    rw [List.forIn_nil]
    refine wpAny_pure ?_
    cases p with
    | nil => exact hok [] w N s.toks rfl (by rw [List.append_nil]; exact g) (by simp at hN; omega)
    | cons v p => exact hleft v p w s.toks rfl
  | cons x l ih =>
    intro r p w s T N Q E hl hw hsuf hv g hN hok hleft hbad
    refine KPc.turn ?_
    cases hw with
    | nil =>
      refine C.nil x p w s T N _ E g (by omega) ?_
      cases p with
      | nil => exact hok [] w N s.toks rfl (by rw [List.append_nil]; exact g) (by simp at hN; omega)
      | cons v p => exact hleft v p w s.toks rfl
    | @lit c r hc hr =>
      obtain ⟨lit, rest, e1, e2, e3, e4⟩ := wf_span hr
      subst e2
      have e5 : (c :: (lit ++ rest)).span (· != 37) = (c :: lit, rest) := by
        rw [span_is] at e1 ⊢
        have h1 := congrArg Prod.fst e1
        have h2 := congrArg Prod.snd e1
        have hcb : (c != 37) = true := by simpa using hc
        rw [List.takeWhile_cons, List.dropWhile_cons, if_pos hcb, if_pos hcb]
        exact Prod.ext (congrArg (c :: ·) h1) h2
      have hfill : ∀ vs, fill (c :: (lit ++ rest)) vs = (fill rest vs).map ((c :: lit) ++ ·) := fun vs => by
        rw [← List.cons_append]
        exact fill_lits fun d hd => by
          rcases List.mem_cons.mp hd with rfl | hd
          · exact hc
          · exact e3 d hd
      refine C.lit x p w s T N _ E c lit rest g (by omega) e5 hsuf fun w' g' => ?_
      simp only [List.length_cons, List.length_append] at hl hN
      refine ih rest p w' s _ _ Q E (by omega) e4 (List.IsSuffix.trans ⟨c :: lit, by simp⟩ hsuf) hv g' (by omega) ?_ ?_ ?_
      · intro out w2 N2 tk ho g2 hN2
        refine hok ((c :: lit) ++ out) w2 N2 tk (by rw [hfill, ho]; rfl) ?_ hN2
        have : (T ++ (⟨(c :: lit).toArray⟩ : PySem.Str)).cps.toList ++ out = T.cps.toList ++ ((c :: lit) ++ out) := by
          rw [PySem.Str.cps_append]; simp
        rw [this] at g2; exact g2
      · intro v vs w2 tk ho; exact hleft v vs w2 tk (by rw [hfill, ho]; rfl)
      · intro h' tk e ho; exact hbad h' tk e (by rw [hfill, ho]; rfl)
    | @pp r hr =>
      refine C.pp x p w s T N _ E r g (by omega) fun w' g' => ?_
      simp only [List.length_cons] at hl hN
      refine ih r p w' s _ _ Q E (by omega) hr (List.IsSuffix.trans ⟨[37, 37], rfl⟩ hsuf) hv g' (by omega) ?_ ?_ ?_
      · intro out w2 N2 tk ho g2 hN2
        refine hok (37 :: out) w2 N2 tk (by rw [fill_pp, ho]; rfl) ?_ hN2
        have : (T ++ (⟨#[37]⟩ : PySem.Str)).cps.toList ++ out = T.cps.toList ++ (37 :: out) := by
          rw [PySem.Str.cps_append]; simp
        rw [this] at g2; exact g2
      · intro v vs w2 tk ho; exact hleft v vs w2 tk (by rw [fill_pp, ho]; rfl)
      · intro h' tk e ho; exact hbad h' tk e (by rw [fill_pp, ho]; rfl)
    | @ps r hr =>
      simp only [List.length_cons] at hl hN
      cases p with
      | nil => exact C.ps0 x w s T N _ E r g (by omega) fun h' tk e he => hbad h' tk e fill_ps0 he
      | cons v p =>
        simp only [List.length_cons] at hN
        refine C.ps1 x v p w s T N _ E r g (by omega) (hv v (.head _)) fun w' tk g' => ?_
        refine ih r p w' { s with toks := tk } _ _ Q E (by omega) hr (List.IsSuffix.trans ⟨[37, 115], rfl⟩ hsuf) (fun u hu => hv u (.tail _ hu)) g' (by omega) ?_ ?_ ?_
        · intro out w2 N2 tk2 ho g2 hN2
          refine hok (vText v ++ out) w2 N2 tk2 (by rw [List.map_cons, fill_ps1, ho]; rfl) ?_ hN2
          have : (T ++ (⟨(vText v).toArray⟩ : PySem.Str)).cps.toList ++ out = T.cps.toList ++ (vText v ++ out) := by
            rw [PySem.Str.cps_append]; simp
          rw [this] at g2; exact g2
        · intro v' vs w2 tk2 ho; exact hleft v' vs w2 tk2 (by rw [List.map_cons, fill_ps1, ho]; rfl)
        · intro h' tk2 e ho; exact hbad h' tk2 e (by rw [List.map_cons, fill_ps1, ho]; rfl)
end
end Mine

namespace Mine
open Builtin Builtin.Str
set_option maxHeartbeats 4000000 in
theorem pct_tup {prog : Program} {w : World} {A : Around} {s : Shared} {Q : Fin → Shared → Prop} {E : Value → Shared → Prop} {F : PySem.Str} {t : Tok} {b : Addr} {its : Array Value} {o : Obj} {n : Nat}
    (ho : s.heap.get? b = some o) (hc : o.cls = .type "tuple") (hd : o.data = .seq its n) (hA : A.handled = none) (hw : WF F.cps.toList) (hv : ∀ v ∈ its.toList, IsVal v)
    (hN : F.cps.toList.length + 100 * its.toList.length ≤ 100000)
    (hok : ∀ out t' tk, fill F.cps.toList (its.toList.map vText) = some out → Q (.done (.ret (.str ⟨out.toArray⟩ t'))) { s with toks := tk })
    (hbad : ∀ h' tk e, fill F.cps.toList (its.toList.map vText) = none → Heap.NewExc s.heap h' e "TypeError" → E (.ref e) { s with heap := h', toks := tk }) :
    wpAny (model prog w) A (percentFormat (.str F t) F (.ref b)) Q E s := by
  unfold Builtin.Str.percentFormat
  refine wpAny_bind (wpAny_isInstance (T := "tuple") ⟨o, ho, hc⟩ KPt.sub_tt ?_)
  refine wpAny_bind (KPt.asStr_ref ho hd ?_)
  refine wpAny_bind (KPt.fills_ref ⟨o, ho, hc⟩ ?_)
  intro ms
  refine wpAny_ite (KPc.ite_yes rfl ?_)
  refine wpAny_bind (wpAny_seqItems ho hd ?_)
  refine wpAny_bind (wpAny_pure ?_)
  refine wpAny_bind ?_
  rw [KPc.range_list]
  refine run_loop (F0 := F.cps.toList) ?C _ _ _ _ s PySem.Str.empty 0 _ _ ?_ hw (List.suffix_refl _) hv KPc.good0 ?_ ?_ ?_ ?_
  case C =>
    refine ⟨?_, ?_, ?_, ?_, ?_⟩
    · intro x p w s T N Q E g hN h
      refine wpAny_ite (KPc.ite_no (KPc.short_good g hN) ?_)
      refine wpAny_ite (KPc.ite_yes rfl ?_)
      exact wpAny_pure h
    · intro x p w s T N Q E c l rest g hN e5 hsuf h
      refine wpAny_ite (KPc.ite_no (KPc.short_good g hN) ?_)
      refine wpAny_ite (KPc.ite_no Bool.false_ne_true ?_)
      refine wpAny_ite (KPc.ite_yes ((congrArg (fun z : List Nat × List Nat => (!z.1.isEmpty) = true) e5).mpr rfl) ?_)
      refine wpAny_pure ?_
      refine (congrArg (fun z : List Nat × List Nat => Q (.yield (p, w.add ⟨z.1.toArray⟩ (if (z.1.length == F.length) = true then some (Value.str F t) else none), z.2)) s) e5).mpr ?_
      refine h _ ?_
      have hg := KPc.good_add (x := ⟨(c :: l).toArray⟩) (o := if ((c :: l).length == F.length) = true then some (Value.str F t) else none) g (by
        intro v hv'
        split at hv'
        · rename_i hl
          have hl : l.length + 1 = F.length := by simpa using hl
          obtain ⟨pre, hpre⟩ := hsuf
          have hlen := congrArg List.length hpre
          simp only [List.length_append, List.length_cons, Array.length_toList] at hlen
          have hFl : F.length = F.cps.size := rfl
          have hp : pre = [] := List.eq_nil_of_length_eq_zero (by omega)
          have hr : rest = [] := List.eq_nil_of_length_eq_zero (by omega)
          subst hp hr
          rw [List.nil_append, List.append_nil] at hpre
          refine ⟨t, ?_⟩
          rw [← Option.some.inj hv']
          congr 1
          apply PySem.Str.ext'
          rw [hpre]
        · exact nomatch hv')
      exact hg
    · intro x p w s T N Q E rest g hN h
      refine wpAny_ite (KPc.ite_no (KPc.short_good g hN) ?_)
      refine wpAny_ite (KPc.ite_no Bool.false_ne_true ?_)
      refine wpAny_ite (KPc.ite_no Bool.false_ne_true ?_)
      refine wpAny_ite (KPc.ite_yes rfl ?_)
      refine wpAny_pure (h _ ?_)
      have hg := KPc.good_add (x := PySem.Str.ofString "%") (o := none) g (KPc.obj_none rfl)
      have e : PySem.Str.ofString "%" = ⟨#[37]⟩ := by decide +kernel
      rw [e] at hg
      exact hg
    · intro x v p w s T N Q E rest g hN hv h
      refine wpAny_ite (KPc.ite_no (KPc.short_good g hN) ?_)
      repeat kpc_if
      refine wpAny_bind ?_
      refine wpAny_holding ?_
      repeat kpc_if
      rcases hv with ⟨y, u, rfl, hy⟩ | ⟨i, u, rfl, h0, h1⟩
      · refine wpAny_bind ?_
        refine wpAny_of_eq (KPc.strOf_str _ _) ?_
        refine wpAny_bind (wpAny_of_eq (a := some _) rfl ?_)
        refine wpAny_pure ?_
        refine wpAny_pure ?_
        have hg := KPc.good_mono (K := N + 100) (KPc.good_add (x := y) (o := if rest.isEmpty = true then some (Value.str y u) else none) g (by
          intro v hv'
          split at hv'
          · exact ⟨u, (Option.some.inj hv').symm⟩
          · exact nomatch hv')) (by omega)
        have eb : (⟨y.cps.toList.toArray⟩ : PySem.Str) = y := congrArg PySem.Str.mk (Array.toArray_toList ..)
        refine h _ s.toks ?_
        show KPc.Good _ (T ++ ⟨y.cps.toList.toArray⟩) _
        rw [eb]
        rw [← eb] at hg
        rw [← eb]
        exact hg
      · refine wpAny_bind ?_
        have hlog : i.natAbs.log2 < 1920 := PyProof.Rows.shown (N := 2 ^ 1920) (by omega) (by omega) (Int.le_refl _)
        refine KPc.strOf_int hlog ?_
        refine wpAny_bind (wpAny_of_eq (a := some _) rfl ?_)
        refine wpAny_pure ?_
        refine wpAny_pure ?_
        have hlen : (PySem.Str.ofString (toString i)).length ≤ 10 := toString_length_le (k := 10) h0 (by decide) h1
        refine h _ (s.toks + 1) (KPc.good_mono (KPc.good_add (x := ⟨(PySem.Str.ofString (toString i)).cps.toList.toArray⟩) g ?_) ?_)
        · intro v hv'
          split at hv'
          · refine ⟨s.toks, ?_⟩
            rw [← Option.some.inj hv']
          · exact nomatch hv'
        · have : (⟨(PySem.Str.ofString (toString i)).cps.toList.toArray⟩ : PySem.Str).length = (PySem.Str.ofString (toString i)).length := by
            rw [show (⟨(PySem.Str.ofString (toString i)).cps.toList.toArray⟩ : PySem.Str) = PySem.Str.ofString (toString i) from congrArg PySem.Str.mk (Array.toArray_toList ..)]
          omega
    · intro x w s T N Q E rest g hN h
      refine wpAny_ite (KPc.ite_no (KPc.short_good g hN) ?_)
      repeat kpc_if
      refine wpAny_bind (wpAny_bind (wpAny_rule ?_))
      exact wpAny_raiseErrorWords plainExc_TypeError hA fun h' tk e he => h h' tk e he
  · rw [List.length_range']; exact Nat.le_refl _
  · simpa using hN
  · intro out w' N' tk hf g' hN'
    refine wpAny_ite (KPc.ite_no Bool.false_ne_true ?_)
    refine KPc.finish_ok g' (by omega) rfl fun t' k => ?_
    have e : (⟨(PySem.Str.empty.cps.toList ++ out).toArray⟩ : PySem.Str) = ⟨out.toArray⟩ := by
      congr 1
    rw [e]
    exact hok out t' k hf
  · intro v vs w' tk hf
    refine wpAny_ite (KPc.ite_yes rfl ?_)
    refine wpAny_bind (wpAny_rule ?_)
    refine wpAny_bind (wpAny_raiseErrorWords plainExc_TypeError hA fun h' tk' e he => ?_)
    exact hbad h' tk' e hf he
  · intro h' tk e hf he
    exact hbad h' tk e hf he
theorem mod_run {prog : Program} {w : World} {A : Around} {s : Shared} {Q : Value → Shared → Prop} {E : Value → Shared → Prop} {X : PySem.Str} {t : Tok} {b : Addr} {its : Array Value} {o : Obj} {n : Nat}
    (ho : s.heap.get? b = some o) (hc : o.cls = .type "tuple") (hd : o.data = .seq its n) (hA : A.handled = none) (hw : WF X.cps.toList) (hv : ∀ v ∈ its.toList, IsVal v)
    (hN : X.cps.toList.length + 100 * its.toList.length ≤ 100000)
    (hok : ∀ out t' tk, fill X.cps.toList (its.toList.map vText) = some out → Q (.str ⟨out.toArray⟩ t') { s with toks := tk })
    (hbad : ∀ h' tk e, fill X.cps.toList (its.toList.map vText) = none → Heap.NewExc s.heap h' e "TypeError" → E (.ref e) { s with heap := h', toks := tk }) :
    wpAny (model prog w) A (binaryOp .Mod (.str X t) (.ref b)) Q E s := by
  have hT : s.TypeIs (.ref b) "tuple" := ⟨o, ho, hc⟩
  refine KPt.bin_left (T := "str") (U := "tuple") (op := .Mod) (by decide) (typeIs_str s X t) hT F.fills_str_mod KPt.fills_tuple F.slot_str_mod ?_
  refine wpAny_call (codeAny_call_builtin F.slot_str_mod.plain F.entry_str_mod (F.slot_str_mod.check _ _ _ _ _ _ _ _ (typeIs_str s X t) (F.args_str_mod_2 _ _) ?_))
  rw [KPt.entry_is_r]
  refine pct_tup ho hc hd hA hw hv hN ?_ ?_
  · intro out t' tk hf
    exact ⟨(fun e => nomatch e), hok out t' tk hf⟩
  · intro h' tk e hf he
    exact hbad h' tk e hf he
end Mine

namespace Mine
open Builtin Builtin.Str

def blank (c : Nat) : Bool := c == 32 || c == 9 || c == 10
def cutL (l : List Nat) : List Nat := ((l.dropWhile blank).reverse.dropWhile blank).reverse

theorem pick_range (l : List Nat) : ∀ (k n : Nat), k + n ≤ l.length → (List.range' k n).filterMap (fun i => l[i]?) = (l.drop k).take n := by
  intro k n
  induction n generalizing k with
  | zero => intro _; simp
  | succ n ih =>
    intro h
    rw [List.range'_succ, List.filterMap_cons, ih (k + 1) (by omega)]
    have hk : k < l.length := by omega
    rw [List.getElem?_eq_getElem hk, List.drop_eq_getElem_cons hk]
    rfl

theorem range_one (a b : Nat) (h : a ≤ b) : sliceRange (a : Int) (b : Int) 1 = List.range' a (b - a) := by
  unfold sliceRange
  simp only [show (1 : Int) > 0 by decide, if_true]
  have e : (if (a : Int) < b then ((b : Int) - a + 1 - 1) / 1 else 0) = ((b - a : Nat) : Int) := by
    split <;> omega
  rw [e, Int.toNat_natCast, List.range'_eq_map_range]
  refine List.map_congr_left fun k _ => ?_
  omega

theorem slice_is (x : Str) (l u : Option Int) (a b : Nat) (h : strSliceIndices l u 1 x.length = List.range' a (b - a)) (hab : a ≤ b) (hb : b ≤ x.length) :
    (Txt.slice x l u).cps.toList = (x.cps.toList.drop a).take (b - a) := by
  have hx : x.cps.toList.length = x.length := by simp [Str.length]
  have hp := pick_range x.cps.toList a (b - a) (by omega)
  unfold Txt.slice
  split
  · rename_i hc
    simp only [beq_self_eq_true, Bool.true_and, beq_iff_eq] at hc
    rw [h, List.length_range'] at hc
    have ha : a = 0 := by omega
    subst ha
    rw [hc, List.drop_zero, List.take_of_length_le (by omega)]
  · show (List.filterMap _ _) = _
    rw [h, ← hp]
    simp only [Array.getElem?_toList]

theorem slice_tail {x : Str} {c : Nat} {r : List Nat} (h : x.cps.toList = c :: r) : (Txt.slice x (some 1) none).cps.toList = r := by
  have hx : x.cps.toList.length = x.length := by simp [Str.length]
  rw [h, List.length_cons] at hx
  rw [slice_is x _ _ 1 x.length ?_ (by omega) (Nat.le_refl _), h]
  · simp only [List.drop_succ_cons, List.drop_zero]
    exact List.take_of_length_le (by omega)
  · unfold strSliceIndices
    simp only [show (1 : Int) > 0 by decide, if_true, show ¬ ((1 : Int) < 0) by decide, if_false]
    have e2 : (max 0 (min 1 (x.length : Int))) = ((1 : Nat) : Int) := by omega
    rw [e2, range_one _ _ (by omega)]

theorem slice_init {x : Str} {c : Nat} {r : List Nat} (h : x.cps.toList = r ++ [c]) : (Txt.slice x none (some (-1))).cps.toList = r := by
  have hx : x.cps.toList.length = x.length := by simp [Str.length]
  rw [h, List.length_append, List.length_singleton] at hx
  rw [slice_is x _ _ 0 r.length ?_ (by omega) (by omega), h]
  · simp
  · unfold strSliceIndices
    simp only [show (1 : Int) > 0 by decide, if_true, show ((-1 : Int) < 0) by decide]
    have e2 : (max 0 (min (-1 + (x.length : Int)) (x.length : Int))) = ((r.length : Nat) : Int) := by omega
    rw [e2]
    exact range_one 0 r.length (by omega)

theorem item_first {x : Str} {c : Nat} {r : List Nat} (h : x.cps.toList = c :: r) : Txt.item x 0 = ⟨#[c]⟩ := by
  have hx : x.cps.toList.length = x.length := by simp [Str.length]
  rw [h, List.length_cons] at hx
  have h0 : x.cps[0]? = some c := by rw [← Array.getElem?_toList, h]; rfl
  unfold Txt.item Txt.charAt seqIndex?
  simp only [show ¬ ((0 : Int) < 0) by decide, if_false]
  have e2 : (decide ((0 : Int) ≤ 0) && decide ((0 : Int) < x.length)) = true := by
    rw [Bool.and_eq_true]; exact ⟨by decide, decide_eq_true (by omega)⟩
  rw [if_pos e2]
  show (⟨#[(x.cps[0]?).getD 0]⟩ : Str) = _
  rw [h0]; rfl
theorem item_last {x : Str} {c : Nat} {r : List Nat} (h : x.cps.toList = r ++ [c]) : Txt.item x (-1) = ⟨#[c]⟩ := by
  have hx : x.cps.toList.length = x.length := by simp [Str.length]
  rw [h, List.length_append, List.length_singleton] at hx
  have h0 : x.cps[r.length]? = some c := by
    rw [← Array.getElem?_toList, h, List.getElem?_append_right (Nat.le_refl _)]; simp
  unfold Txt.item Txt.charAt seqIndex?
  simp only [show ((-1 : Int) < 0) by decide, if_true]
  have e2 : (decide ((0 : Int) ≤ -1 + x.length) && decide (-1 + (x.length : Int) < x.length)) = true := by
    rw [Bool.and_eq_true]; exact ⟨decide_eq_true (by omega), decide_eq_true (by omega)⟩
  rw [if_pos e2]
  have e3 : (-1 + (x.length : Int)).toNat = r.length := by omega
  show (⟨#[(x.cps[(-1 + (x.length : Int)).toNat]?).getD 0]⟩ : Str) = _
  rw [e3, h0]; rfl
theorem in_blank (x : Str) (hx : x = ⟨#[32, 9, 10]⟩) (c : Nat) : (!(occurrences x ⟨#[c]⟩ 0 x.length 1).isEmpty) = blank c := by
  rw [StrLaws.found_one, hx, Bool.eq_iff_iff, decide_eq_true_eq]
  simp [blank, or_assoc]
theorem list_end : ∀ (l : List Nat), l ≠ [] → ∃ r c, l = r ++ [c]
  | l, h => ⟨l.dropLast, l.getLast h, (List.dropLast_concat_getLast h).symm⟩
end Mine

namespace Mine
open Builtin Builtin.Str

/-! the text's statements, by their place -/
def pg : Program := PySem.Challenge.pw_bc6004_01
def nthS : List Stmt → Nat → Stmt
  | [], _ => .Pass ⟨0, 0, 0, 0⟩
  | a :: _, 0 => a
  | _ :: r, n + 1 => nthS r n
def stmtAt (i : Nat) : Stmt := nthS PySem.Challenge.pw_bc6004_01.main.body i
def fName : Stmt → Str
  | .FunctionDef n _ _ _ _ _ _ _ _ _ => n
  | _ => Str.empty
def fArgs : Stmt → Arguments
  | .FunctionDef _ a _ _ _ _ _ _ _ _ => a
  | _ => ⟨[], [], none, [], [], none, []⟩
def fBody : Stmt → List Stmt
  | .FunctionDef _ _ b _ _ _ _ _ _ _ => b
  | _ => []
def fScope : Stmt → Scope
  | .FunctionDef _ _ _ _ _ _ sc _ _ _ => sc
  | _ => { kind := .function, names := [], isGenerator := false, isCoroutine := false }

structure FnIn (K : Frag) (f : Addr) (S : Stmt) : Prop where
  ex : ∃ oc od osl pm cdv, K.lookup f = some ⟨oc, od, .func (fnOf (fName S) (fName S) (fArgs S) (fBody S) (fScope S) .none .none .none pm none cdv .none), osl⟩ ∧ codeIn K cdv (fName S) = true

structure Cx (K : Frag) (p : Program) (loose : List Str) (mean : ExcName → Option Value) (mg mb : Str → Option Value) (A₀ A : Around) (base h₀ : Heap) (outer : List Env) (env : Env) (L : Addr) (d : Nat) : Prop where
  B : Below A₀ base outer h₀
  X : K.In h₀
  T : Top p loose mean mg mb h₀
  hA : A.frames = some (env :: outer)
  hf : env.frame = some L
  hk : env.scope.kind = .function
  hd : A.depth + d < recursionLimit
  hu : A.units + 8 * d + 40 < cLine
  hh : A.handled = none

section
variable {prog : Program} {w : World} {K : Frag} {p : Program} {loose : List Str} {mean : ExcName → Option Value} {mg mb : Str → Option Value} {A₀ A : Around} {base h₀ : Heap} {outer : List Env} {env : Env} {L : Addr} {d : Nat}
  {m : Str → Option Value} {news : List (Addr × Obj)} {s : Shared} {Q E : Value → Shared → Prop}

abbrev RQ (Q E : Value → Shared → Prop) : Result → Shared → Prop := fun r s' => match r with | .ok (.ret v) => Q v s' | .ok _ => False | .error e => E e s'

theorem enter {S : Stmt} {f : Addr} {vals : List Value} {binds : List (Str × Value)} (FI : FnIn K f S) (C : Cx K p loose mean mg mb A₀ A base h₀ outer env L (d + 1)) (F : Fr h₀ L s.heap m) (N : News h₀ L s.heap news)
    (hbind : ∀ pm cdv, bindArgs (fnOf (fName S) (fName S) (fArgs S) (fBody S) (fScope S) .none .none .none pm none cdv .none) ⟨vals, []⟩ = pure binds)
    (hloc : (binds.all fun x => decide ((fScope S).names.lookup x.1 = some .local)) = true)
    (hco : (fScope S).isCoroutine = false) (hgen : (fScope S).isGenerator = false) (hk : (fScope S).kind = .function) (hcell : ∀ x ∈ (fScope S).names, x.2 ≠ .cell)
    (h : ∀ g L' h₁ cdv tk, Fr h₀ L g m → Fr g L' h₁ (fun y => binds.reverse.lookup y) → News g L' h₁ news →
      Cx K p loose mean mg mb A (A.deeper (envOf (fName S) (fScope S) L' f cdv)) base g (env :: outer) (envOf (fName S) (fScope S) L' f cdv) L' d →
      wpAny (model prog w) (A.deeper (envOf (fName S) (fScope S) L' f cdv)) (execs (fBody S) (envOf (fName S) (fScope S) L' f cdv))
        (fun fl s' => LeaveK h₀ L m g (RQ Q E) (match fl with | .ret v => v | _ => .none) s')
        (fun e s' => wpAny (model prog w) (A.deeper (envOf (fName S) (fScope S) L' f cdv)) (leaving (envOf (fName S) (fScope S) L' f cdv) e) (fun _ s'' => E e s'') (fun e' s'' => E e' s'') s')
        { s with heap := h₁, toks := tk }) :
    wpAny (model prog w) A (call (.ref f) vals) Q E s := by
  obtain ⟨oc, od, osl, pm, cdv, ho, hcd⟩ := FI.ex
  refine wpAny_call (code_def C.B F C.X N C.T C.hA C.hf C.hk ho hcd (Nat.lt_of_le_of_lt (Nat.le_add_right _ _) C.hd) (BindsTo.of_eq (hbind pm cdv)) (locs hloc) (fun g L' h₁ FG FL NG BG XG TG => ?_) hco hgen hk hcell)
  exact h g L' h₁ cdv _ FG FL NG ⟨BG, XG, TG, Around.frames_deeper C.hA, rfl, hk, (by have := C.hd; show A.depth + 1 + d < _; omega), (by have := C.hu; show A.units + 3 + 8 * d + 40 < _; omega), C.hh⟩
end

/-! _law_cut -/
abbrev cutS : Stmt := stmtAt 23
structure KNames (K : Frag) : Prop where
  cut : FnIn K 207 (stmtAt 23)
  filled : FnIn K 214 (stmtAt 24)
  said : FnIn K 221 (stmtAt 25)
  pretty : FnIn K 21 (stmtAt 1)
  kinds : FnIn K 187 (stmtAt 21)
  pad : FnIn K 180 (stmtAt 20)
  blankN : nsIn K mainGlobals (Str.ofString "_law_BLANK") = some (some (.str (Str.ofString " \t\n") 436))
  prettyN : nsIn K mainGlobals (Str.ofString "pretty_message") = some (some (.ref 21))
  prettyK : keepIn K (.ref 21) = true
  lenN : nsIn K mainGlobals (Str.ofString "len") = some none
  strN : nsIn K mainGlobals (Str.ofString "str") = some none
  minN : nsIn K mainGlobals (Str.ofString "min") = some none
  rangeN : nsIn K mainGlobals (Str.ofString "range") = some none
  listN : nsIn K mainGlobals (Str.ofString "list") = some none
  isN : nsIn K mainGlobals (Str.ofString "isinstance") = some none
  typeN : nsIn K mainGlobals (Str.ofString "TypeError") = some none
  padN : nsIn K mainGlobals (Str.ofString "_law_PAD") = some (some (.ref 180))
  padK : keepIn K (.ref 180) = true
  kindsN : nsIn K mainGlobals (Str.ofString "_law_KINDS") = some (some (.ref 187))
  kindsK : keepIn K (.ref 187) = true
  cutN : nsIn K mainGlobals (Str.ofString "_law_cut") = some (some (.ref 207))
  cutK : keepIn K (.ref 207) = true
  filledN : nsIn K mainGlobals (Str.ofString "_law_filled") = some (some (.ref 214))
  filledK : keepIn K (.ref 214) = true
  saidN : nsIn K mainGlobals (Str.ofString "_law_said") = some (some (.ref 221))
  saidK : keepIn K (.ref 221) = true
  piecesN : nsIn K mainGlobals (Str.ofString "_law_PIECES") = some (some (.ref 171))
  endsN : nsIn K mainGlobals (Str.ofString "_law_ENDS") = some (some (.ref 172))
  valuesN : nsIn K mainGlobals (Str.ofString "_law_VALUES") = some (some (.ref 173))
  aboveN : nsIn K mainGlobals (Str.ofString "_law_ABOVE") = some (some (.ref 200))
  piecesT : ∃ o its n, K.lookup 171 = some o ∧ o.cls = .type "tuple" ∧ o.data = .seq its n ∧ StrsAre its.toList (["ab", "Z", " ", "%s", "%%", "x y", "%s", "q"].map Str.ofString)
  endsT : ∃ o its n, K.lookup 172 = some o ∧ o.cls = .type "tuple" ∧ o.data = .seq its n ∧ StrsAre its.toList (["", " ", "\n    ", "\t ", "\n\n"].map Str.ofString)
  valuesT : ∃ o its n, K.lookup 173 = some o ∧ o.cls = .type "tuple" ∧ o.data = .seq its n ∧ StrsAre its.toList (["", "p", " q ", "50%", "%s", "  "].map Str.ofString)
end Mine

namespace Mine
open Builtin Builtin.Str
theorem bne_empty {y : Str} : (y != Str.ofString "") = !(y.cps.toList.isEmpty) := by
  have e : Str.ofString "" = ⟨#[]⟩ := by decide +kernel
  rw [e]
  obtain ⟨⟨l⟩⟩ := y
  cases l with
  | nil => rfl
  | cons a l => rfl
theorem blank_str : Str.ofString " \t\n" = ⟨#[32, 9, 10]⟩ := by decide +kernel
theorem len_list (y : Str) : y.cps.toList.length = y.length := by simp [Str.length]
section
variable {prog : Program} {w : World} {K : Frag} {p : Program} {loose : List Str} {mean : ExcName → Option Value} {mg mb : Str → Option Value} {A₀ A : Around} {base h₀ : Heap} {outer : List Env} {env : Env} {L : Addr} {d : Nat}
  {m : Str → Option Value} {news : List (Addr × Obj)} {s : Shared} {Q E : Value → Shared → Prop}

set_option maxHeartbeats 2000000 in
theorem cut_call {x : Str} {t : Tok} (KN : KNames K) (C : Cx K p loose mean mg mb A₀ A base h₀ outer env L (d + 1)) (F : Fr h₀ L s.heap m) (N : News h₀ L s.heap news) (hx : x.length ≤ 100000)
    (hQ : ∀ t' h' tk, Fr h₀ L h' m → News h₀ L h' news → Q (.str ⟨(cutL x.cps.toList).toArray⟩ t') { s with heap := h', toks := tk }) :
    wpAny (model prog w) A (call (.ref 207) [.str x t]) Q E s := by
  refine enter (binds := [(Str.ofString "text", .str x t)]) KN.cut C F N (fun _ _ => rfl) (by rfl) rfl rfl rfl (by decide) ?_
  intro g L' h1 cdv tk FG FL NG C'
  refine wpAny_mono (E := fun _ _ => False) ?_ (fun _ _ h => h) (fun _ _ h => h.elim)
  refine wpAny_execs_cons ?_
  refine While_inv2 (fun n m₁ news₁ => ∃ y u, m₁ (Str.ofString "text") = some (.str y u) ∧ y.length = n ∧ y.length ≤ 100000 ∧ y.cps.toList.dropWhile blank = x.cps.toList.dropWhile blank ∧ news₁ = news) FL NG ⟨x, t, rfl, rfl, hx, rfl, rfl⟩ ?_ ?_
  · rintro n m₁ news₁ h₁ tk₁ F₁ N₁ ⟨y, u, hm, hn, hlen, hdrop, hnews⟩
    rw [hnews] at N₁; clear hnews
    have second : ∀ tk₂, y.cps.toList = x.cps.toList.dropWhile blank → wpAny (model prog w) (A.deeper (envOf (fName (stmtAt 23)) (fScope (stmtAt 23)) L' 207 cdv)) (execs (fBody (stmtAt 23)).tail (envOf (fName (stmtAt 23)) (fScope (stmtAt 23)) L' 207 cdv))
        (fun fl s' => LeaveK h₀ L m g (RQ Q E) (match fl with | .ret v => v | _ => .none) s') (fun _ _ => False) { s with heap := h₁, toks := tk₂ } := by
      intro tk₂ hy
      refine wpAny_execs_cons ?_
      refine While_inv2 (s := { s with heap := h₁, toks := tk₂ }) (fun n m₁ news₁ => ∃ y u, m₁ (Str.ofString "text") = some (.str y u) ∧ y.length = n ∧ y.length ≤ 100000 ∧ y.cps.toList.reverse.dropWhile blank = (x.cps.toList.dropWhile blank).reverse.dropWhile blank ∧ news₁ = news) F₁ N₁ ⟨y, u, hm, rfl, hlen, by rw [hy], rfl⟩ ?_ ?_
      · rintro n m₁ news₁ h₁ tk₁ F₁ N₁ ⟨y, u, hm, hn, hlen, hdrop, hnews⟩
        rw [hnews] at N₁; clear hnews
        have third : ∀ tk₂, y.cps.toList = cutL x.cps.toList → wpAny (model prog w) (A.deeper (envOf (fName (stmtAt 23)) (fScope (stmtAt 23)) L' 207 cdv)) (execs (fBody (stmtAt 23)).tail.tail (envOf (fName (stmtAt 23)) (fScope (stmtAt 23)) L' 207 cdv))
            (fun fl s' => LeaveK h₀ L m g (RQ Q E) (match fl with | .ret v => v | _ => .none) s') (fun _ _ => False) { s with heap := h₁, toks := tk₂ } := by
          intro tk₃ hy
          refine wpAny_execs_cons ?_
          refine wpAny_Return_some ?_
          refine nameX_L F₁ hm ?_
          refine leaveK_ F₁ N₁ fun kF kN => ?_
          have e : y = ⟨(cutL x.cps.toList).toArray⟩ := by
            obtain ⟨⟨l⟩⟩ := y
            exact congrArg Str.mk (congrArg Array.mk hy)
          rw [e]
          exact hQ _ _ _ kF kN
        refine isTrue_and ?_
        refine wpAny_isTrue_Compare1 ?_
        refine nameX_L F₁ hm ?_
        refine Calls.Constant_str ?_
        refine ne_str ?_
        refine wpAny_truthy_bool ?_
        rw [bne_empty]
        cases hy : y.cps.toList with
        | nil =>
          rw [hy] at hdrop
          refine third _ ?_
          rw [hy, cutL, ← hdrop]
          rfl
        | cons c₀ r₀ =>
          obtain ⟨r, c, hrc⟩ := list_end (c₀ :: r₀) (fun h => nomatch h)
          have hl := len_list y
          rw [hy, List.length_cons] at hl
          rw [hrc] at hy
          refine isTrue_and ?_
          refine wpAny_isTrue_Compare1 ?_
          refine Subscript_ ?_
          refine nameX_L F₁ hm ?_
          refine UnaryOp_ ?_
          refine wpAny_Constant_int ?_
          refine neg_int ?_
          refine item_str (by decide) (by omega) (by omega) ?_
          intro _
          rw [item_last hy]
          refine nameX_K F₁ C'.X (topRead_of C'.T) KN.blankN ?_
          refine SB.contains ?_
          refine wpAny_truthy_bool ?_
          rw [Txt.contains, in_blank _ blank_str]
          cases hb : blank c with
          | false =>
            rw [hy, List.reverse_append, List.reverse_singleton, List.singleton_append, List.dropWhile_cons_of_neg (by rw [hb]; exact Bool.false_ne_true)] at hdrop
            refine third _ ?_
            rw [hy, cutL, ← hdrop]
            simp
          | true =>
            refine isTrue_and_nil ?_
            refine wpAny_execs_cons ?_
            refine wpAny_Assign_Name ?_
            refine Subscript_ ?_
            refine nameX_L F₁ hm ?_
            refine wpAny_Slice ?_
            refine evalPart_none_step ?_
            refine evalPart_some_step ?_
            refine UnaryOp_ ?_
            refine wpAny_Constant_int ?_
            refine neg_int ?_
            refine evalPart_none_step ?_
            refine slice_strN_ns F₁ N₁ ?_ (hsz := by rw [sizeLine_eq]; omega)
            intro h2 t2 k2 F2 N2
            refine storeX_L F2 N2 ?_
            intro h3 F3 N3
            refine wpAny_execs_nil ?_
            have ht := slice_init hy
            have hl2 := len_list (Txt.slice y none (some (-1)))
            rw [ht] at hl2
            have hl3 := len_list y
            rw [hy, List.length_append, List.length_singleton] at hl3
            refine ⟨h3, _, _, news, (Txt.slice y none (some (-1))).length, rfl, F3, N3, by omega, Txt.slice y none (some (-1)), t2, rfl, rfl, by omega, ?_, rfl⟩
            rw [ht, ← hdrop, hy, List.reverse_append, List.reverse_singleton, List.singleton_append, List.dropWhile_cons_of_pos hb]
      · passes_own
    refine isTrue_and ?_
    refine wpAny_isTrue_Compare1 ?_
    refine nameX_L F₁ hm ?_
    refine Calls.Constant_str ?_
    refine ne_str ?_
    refine wpAny_truthy_bool ?_
    rw [bne_empty]
    cases hy : y.cps.toList with
    | nil =>
      rw [hy, List.dropWhile_nil] at hdrop
      exact second _ (hy.trans hdrop)
    | cons c r =>
      have hl := len_list y
      rw [hy, List.length_cons] at hl
      refine isTrue_and ?_
      refine wpAny_isTrue_Compare1 ?_
      refine Subscript_ ?_
      refine nameX_L F₁ hm ?_
      refine wpAny_Constant_int ?_
      refine item_str (by decide) (by omega) (by omega) ?_
      intro _
      rw [item_first hy]
      refine nameX_K F₁ C'.X (topRead_of C'.T) KN.blankN ?_
      refine SB.contains ?_
      refine wpAny_truthy_bool ?_
      rw [Txt.contains, in_blank _ blank_str]
      cases hb : blank c with
      | false =>
        rw [hy, List.dropWhile_cons_of_neg (by rw [hb]; exact Bool.false_ne_true)] at hdrop
        exact second _ (hy.trans hdrop)
      | true =>
        refine isTrue_and_nil ?_
        refine wpAny_execs_cons ?_
        refine wpAny_Assign_Name ?_
        refine Subscript_ ?_
        refine nameX_L F₁ hm ?_
        refine wpAny_Slice ?_
        refine evalPart_some_step ?_
        refine wpAny_Constant_int ?_
        refine evalPart_none_step ?_
        refine evalPart_none_step ?_
        refine slice_strN_sn F₁ N₁ ?_ (hsz := by rw [sizeLine_eq]; omega)
        intro h2 t2 k2 F2 N2
        refine storeX_L F2 N2 ?_
        intro h3 F3 N3
        refine wpAny_execs_nil ?_
        have ht := slice_tail hy
        have hl2 := len_list (Txt.slice y (some 1) none)
        rw [ht] at hl2
        refine ⟨h3, _, _, news, (Txt.slice y (some 1) none).length, rfl, F3, N3, by omega, Txt.slice y (some 1) none, t2, rfl, rfl, by omega, ?_, rfl⟩
        rw [ht, ← hdrop, hy, List.dropWhile_cons_of_pos hb]
  · passes_own
end
end Mine

namespace Mine
open Builtin Builtin.Str
abbrev tupO (vs : List Value) : Obj := { cls := .type "tuple", data := .seq vs.toArray }
theorem raised_sub {base : Heap} {l : List Env} {e : Addr} {cls : Value} {news news' : List (Addr × Obj)} {h : Heap} (R : RaisedN base l e cls news h) (hs : ∀ q ∈ news', q ∈ news) : RaisedN base l e cls news' h := by
  obtain ⟨B, a0, hB, hl, hf⟩ := R
  exact ⟨B, a0, hB, fun q hq => hl q (hs q hq), hf⟩

theorem vText_len {v : Value} (h : IsVal v) : (vText v).length ≤ 100 := by
  rcases h with ⟨x, t, rfl, hx⟩ | ⟨i, t, rfl, h0, h1⟩
  · show x.cps.toList.length ≤ 100
    rw [len_list]; exact hx
  · show (Str.ofString (toString i)).cps.toList.length ≤ 100
    rw [len_list]
    have := toString_length_le (k := 10) h0 (by decide) h1
    omega
theorem fill_len {r : List Nat} (h : WF r) : ∀ (vs : List (List Nat)) (out : List Nat), fill r vs = some out → (∀ v ∈ vs, v.length ≤ 100) → out.length ≤ r.length + 100 * vs.length := by
  induction h with
  | nil =>
    intro vs out e _
    cases vs with
    | nil => cases e; exact Nat.zero_le _
    | cons v vs => cases e
  | lit hc hr ih =>
    intro vs out e hv
    rw [fill_lit hc] at e
    obtain ⟨o, eo, rfl⟩ := Option.map_eq_some_iff.mp e
    have := ih vs o eo hv
    simp only [List.length_cons]; omega
  | pp hr ih =>
    intro vs out e hv
    rw [fill_pp] at e
    obtain ⟨o, eo, rfl⟩ := Option.map_eq_some_iff.mp e
    have := ih vs o eo hv
    simp only [List.length_cons]; omega
  | ps hr ih =>
    intro vs out e hv
    cases vs with
    | nil => rw [fill_ps0] at e; cases e
    | cons v vs =>
      rw [fill_ps1] at e
      obtain ⟨o, eo, rfl⟩ := Option.map_eq_some_iff.mp e
      have := ih vs o eo fun u hu => hv u (.tail _ hu)
      have := hv v (.head _)
      simp only [List.length_cons, List.length_append]; omega

theorem pretty_bind {K : Frag} {S : Setting} {pm cdv : Value} {x : Str} {t : Tok} : ∀ vs : List Value, vs.length ≤ 3 →
    ∃ g₁, peek1 K S (bindArgs (fnOf (fName (stmtAt 1)) (fName (stmtAt 1)) (fArgs (stmtAt 1)) (fBody (stmtAt 1)) (fScope (stmtAt 1)) .none .none .none pm none cdv .none) ⟨.str x t :: vs, []⟩) = some (tupO vs, g₁) ∧
      ∀ D, g₁ D = some [(Str.ofString "string", .str x t), (Str.ofString "params", .ref D)]
  | [], _ => ⟨_, rfl, fun _ => rfl⟩
  | [_], _ => ⟨_, rfl, fun _ => rfl⟩
  | [_, _], _ => ⟨_, rfl, fun _ => rfl⟩
  | [_, _, _], _ => ⟨_, rfl, fun _ => rfl⟩
  | _ :: _ :: _ :: _ :: _, h => by simp at h

section
variable {prog : Program} {w : World} {K : Frag} {p : Program} {loose : List Str} {mean : ExcName → Option Value} {mg mb : Str → Option Value} {A₀ A : Around} {base h₀ : Heap} {outer : List Env} {env : Env} {L : Addr} {d : Nat}
  {m : Str → Option Value} {news : List (Addr × Obj)} {s : Shared} {Q E : Value → Shared → Prop}

set_option maxHeartbeats 2000000 in
theorem pretty_call {x : Str} {t : Tok} {vs : List Value} (KN : KNames K) (C : Cx K p loose mean mg mb A₀ A base h₀ outer env L (d + 1)) (F : Fr h₀ L s.heap m) (N : News h₀ L s.heap news)
    (hx : x.length ≤ 1000) (hv : ∀ v ∈ vs, IsVal v) (hl : vs.length ≤ 3) (hw : WF x.cps.toList)
    (hok0 : vs = [] → ∀ t' h' tk, Fr h₀ L h' m → News h₀ L h' news → Q (.str (Txt.strip x) t') { s with heap := h', toks := tk })
    (hok1 : vs ≠ [] → ∀ out t' h' tk, fill x.cps.toList (vs.map vText) = some out → Fr h₀ L h' m → News h₀ L h' news → Q (.str (Txt.strip ⟨out.toArray⟩) t') { s with heap := h', toks := tk })
    (hbad : vs ≠ [] → fill x.cps.toList (vs.map vText) = none → ∀ h' tk e g, Fr h₀ L g m → g.UpToSlots h' → RaisedN base (env :: outer) e (.type "TypeError") news h' → E (.ref e) { s with heap := h', toks := tk }) :
    wpAny (model prog w) A (call (.ref 21) (.str x t :: vs)) Q E s := by
  obtain ⟨oc, od, osl, pm, cdv, ho, hcd⟩ := KN.pretty.ex
  obtain ⟨g₁, e1, e2⟩ := pretty_bind (K := K) (S := ⟨prog, w.params⟩) (pm := pm) (cdv := cdv) (x := x) (t := t) vs hl
  refine wpAny_call (kp_rest C.B F C.X N C.T C.hA C.hf C.hk ho hcd (Nat.lt_of_le_of_lt (Nat.le_add_right _ _) C.hd) rfl e1 e2 (fun _ => locs rfl) ?_ rfl rfl rfl (by decide))
  intro D g L' h1 hD FG FL NG BG XG TG
  have C' : Cx K p loose mean mg mb A (A.deeper (envOf (fName (stmtAt 1)) (fScope (stmtAt 1)) L' 21 cdv)) base g (env :: outer) (envOf (fName (stmtAt 1)) (fScope (stmtAt 1)) L' 21 cdv) L' d :=
    ⟨BG, XG, TG, Around.frames_deeper C.hA, rfl, rfl, (by have := C.hd; show A.depth + 1 + d < _; omega), (by have := C.hu; show A.units + 3 + 8 * d + 40 < _; omega), C.hh⟩
  refine wpAny_execs_cons ?_
  refine wpAny_Assign_Name ?_
  refine nameX_L FL rfl ?_
  refine storeX_L FL NG ?_
  intro h2 F2 N2
  refine wpAny_execs_cons ?_
  refine wpAny_If ?_
  refine isTrue_plain ?_
  refine nameX_L F2 rfl ?_
  have hT : IsTup h2 D vs.toArray := N2.isTup (.head _)
  refine truthy_tuple hT (by rw [List.size_toArray]; omega) ?_
  have tail : ∀ (y : Str) (u : Tok) (h3 : Heap) (m3 : Str → Option Value) (tk : Nat), m3 (Str.ofString "output") = some (.str y u) → y.length ≤ 100000 → Fr g L' h3 m3 → News g L' h3 ((D, tupO vs) :: news) →
      (∀ t' h' tk, Fr h₀ L h' m → News h₀ L h' news → Q (.str (Txt.strip y) t') { s with heap := h', toks := tk }) →
      wpAny (model prog w) (A.deeper (envOf (fName (stmtAt 1)) (fScope (stmtAt 1)) L' 21 cdv)) (execs (fBody (stmtAt 1)).tail.tail (envOf (fName (stmtAt 1)) (fScope (stmtAt 1)) L' 21 cdv))
        (fun fl s' => LeaveK h₀ L m g (RQ Q E) (match fl with | .ret v => v | _ => .none) s')
        (fun e s' => wpAny (model prog w) (A.deeper (envOf (fName (stmtAt 1)) (fScope (stmtAt 1)) L' 21 cdv)) (leaving (envOf (fName (stmtAt 1)) (fScope (stmtAt 1)) L' 21 cdv) e) (fun _ s'' => E e s'') (fun e' s'' => E e' s'') s')
        { s with heap := h3, toks := tk } := by
    intro y u h3 m3 tk hm hy F3 N3 hq
    refine wpAny_execs_cons ?_
    refine wpAny_Assign_Name ?_
    refine MethodCall_ ?_
    refine nameX_L F3 hm ?_
    refine GM.strip ?_
    refine callWith_method0 ?_
    refine SCL.strip ?_ (by rw [sizeLine_eq]; omega)
    intro t' k _
    refine storeX_L F3 N3 ?_
    intro h4 F4 N4
    refine wpAny_execs_cons ?_
    refine wpAny_Return_some ?_
    refine nameX_L F4 rfl ?_
    refine leaveK_ F4 N4 fun kF kN => ?_
    exact hq _ _ _ kF fun q hq => kN q (.tail _ hq)
  cases vs with
  | nil =>
    rw [if_neg (by decide)]
    refine wpAny_execs_nil ?_
    exact tail x t h2 _ _ rfl (by omega) F2 N2 (hok0 rfl)
  | cons v vs =>
    refine wpAny_execs_cons ?_
    refine wpAny_Assign_Name ?_
    refine wpAny_BinOp ?_
    refine nameX_L F2 rfl ?_
    refine nameX_L F2 rfl ?_
    have hlen := len_list x
    refine mod_run (N2 _ (.head _)).1 rfl rfl C'.hh hw hv (by show x.cps.toList.length + 100 * (v :: vs).length ≤ 100000; omega) ?_ ?_
    · intro out t' tk hf
      refine storeX_L F2 N2 ?_
      intro h3 F3 N3
      refine wpAny_execs_nil ?_
      refine tail ⟨out.toArray⟩ t' h3 _ _ rfl ?_ F3 N3 (fun t' h' tk kF kN => hok1 (fun h => nomatch h) out t' h' tk hf kF kN)
      have hq := fill_len hw _ _ hf fun y hy => by
        obtain ⟨v', hv', rfl⟩ := List.mem_map.mp hy
        exact vText_len (hv v' hv')
      rw [List.length_map] at hq
      replace hq : out.length ≤ x.cps.toList.length + 100 * (v :: vs).length := hq
      show out.toArray.size ≤ 100000
      rw [List.size_toArray]
      omega
    · intro h' tk e hf he
      refine leave_newK C'.B he F2 N2 fun h'' R U => ?_
      exact hbad (fun h => nomatch h) hf h'' _ e g FG U (raised_sub R fun q hq => .tail _ hq)
end
end Mine

namespace Mine
open Builtin Builtin.Str
section
variable {prog : Program} {w : World} {K : Frag} {p : Program} {loose : List Str} {mean : ExcName → Option Value} {mg mb : Str → Option Value} {A₀ A : Around} {base h₀ : Heap} {outer : List Env} {env : Env} {L : Addr} {d : Nat}
  {m : Str → Option Value} {news : List (Addr × Obj)} {s : Shared} {Q E : Value → Shared → Prop}

theorem list_of {h : Heap} {l : Addr} {its : Array Value} {n : Nat} (N : News h₀ L h news) (hm : (l, W.listOf its n) ∈ news) : h.IsList l its := ⟨_, (N _ hm).1, rfl, n, rfl⟩

theorem item_list {value slice : PySem.Expr} {l : Addr} {its : Array Value} {k : Int} {u : Tok} {v : Value}
    (hl : s.heap.IsList l its) (h0 : 0 ≤ k) (hhi : k < 2 ^ 63) (hx : its[k.toNat]? = some v) (h : Q v s)
    (hs : subscripted slice false (.ref l) (.int k u) = operate [.ref l, .int k u] (getItem (.ref l) (.int k u))) :
    wpAny (model prog w) A (subscriptTail value slice (.ref l) (.int k u)) Q E s :=
  tail_any hl.typeIs slot_list_getitem.lookup (wpAny_getItem_list hl h0 hhi hx h) hs

set_option maxHeartbeats 4000000 in
theorem said_call {x : Str} {t : Tok} {lv : Addr} {vs : List Value} {n : Nat} (KN : KNames K) (C : Cx K p loose mean mg mb A₀ A base h₀ outer env L (d + 1 + 1)) (F : Fr h₀ L s.heap m) (N : News h₀ L s.heap news)
    (hm : (lv, W.listOf vs.toArray n) ∈ news)
    (hx : x.length ≤ 1000) (hv : ∀ v ∈ vs, IsVal v) (hl : vs.length ≤ 3) (hw : WF x.cps.toList)
    (hok0 : vs = [] → ∀ t' h' tk, Fr h₀ L h' m → News h₀ L h' news → Q (.str (Txt.strip x) t') { s with heap := h', toks := tk })
    (hok1 : vs ≠ [] → ∀ out t' h' tk, fill x.cps.toList (vs.map vText) = some out → Fr h₀ L h' m → News h₀ L h' news → Q (.str (Txt.strip ⟨out.toArray⟩) t') { s with heap := h', toks := tk })
    (hbad : vs ≠ [] → fill x.cps.toList (vs.map vText) = none → ∀ h' tk e g, Fr h₀ L g m → g.UpToSlots h' → RaisedN base (env :: outer) e (.type "TypeError") news h' → E (.ref e) { s with heap := h', toks := tk }) :
    wpAny (model prog w) A (call (.ref 221) [.str x t, .ref lv]) Q E s := by
  refine enter (binds := [(Str.ofString "text", .str x t), (Str.ofString "values", .ref lv)]) KN.said C F N (fun _ _ => rfl) (by rfl) rfl rfl rfl (by decide) ?_
  intro g L' h1 cdv tk FG FL NG C'
  have TR := topRead_of C'.T
  have hL : h1.IsList lv vs.toArray := list_of NG hm
  -- the end: pretty_message's call, from any state with this heap
  have fin : ∀ ws tk, ws = vs → wpAny (model prog w) (A.deeper (envOf (fName (stmtAt 25)) (fScope (stmtAt 25)) L' 221 cdv)) (call (.ref 21) (.str x t :: ws))
      (fun v s' => LeaveK h₀ L m g (RQ Q E) v s')
      (fun e s' => wpAny (model prog w) (A.deeper (envOf (fName (stmtAt 25)) (fScope (stmtAt 25)) L' 221 cdv)) (leaving (envOf (fName (stmtAt 25)) (fScope (stmtAt 25)) L' 221 cdv) e) (fun _ s'' => E e s'') (fun e' s'' => E e' s'') s')
      { s with heap := h1, toks := tk } := by
    intro ws tk hws
    subst hws
    refine pretty_call (s := { s with heap := h1, toks := tk }) KN C' FL NG hx hv hl hw ?_ ?_ ?_
    · intro h0 t' h' tk kF kN
      exact leaveK_ kF kN fun kF kN => hok0 h0 t' h' tk kF kN
    · intro h0 out t' h' tk hf kF kN
      exact leaveK_ kF kN fun kF kN => hok1 h0 out t' h' tk hf kF kN
    · intro h0 hf h' tk e g₂ F₂ U R
      refine leave_onN C'.B F₂ R U fun h'' R' U' => ?_
      exact hbad h0 hf h'' _ e g FG U' R'
  have lenT : ∀ (k : Int) (p1 p2 p3 p4 p5 : Pos) (whole : Sem Value) (tk : Nat) (Q' : Bool → Shared → Prop) (E' : Value → Shared → Prop), (∀ tk, Q' ((vs.length : Int) == k) { s with heap := h1, toks := tk }) →
      wpAny (model prog w) (A.deeper (envOf (fName (stmtAt 25)) (fScope (stmtAt 25)) L' 221 cdv)) (PySem.isTrue (.Compare (.Call (.Name (Str.ofString "len") p1) [.Name (Str.ofString "values") p2] [] p3) [.Eq] [.Constant (.int k) 0 p4] p5) (envOf (fName (stmtAt 25)) (fScope (stmtAt 25)) L' 221 cdv) whole) Q' E' { s with heap := h1, toks := tk } := by
    intro k p1 p2 p3 p4 p5 whole tk Q' E' hq
    refine wpAny_isTrue_Compare1 ?_
    refine Call_ ?_
    refine nameX_B FL C'.X TR KN.lenN boot_len (by decide) ?_
    refine PyProof.Rows.callWith_builtin1 ?_
    refine args_cons ?_
    refine nameX_L FL rfl ?_
    refine args_nil ?_
    refine call_len_list hL (by rw [List.size_toArray]; omega) ?_
    refine wpAny_Constant_int ?_
    refine PyProof.Rows.eq_int ?_
    refine wpAny_truthy_bool ?_
    rw [List.size_toArray]
    exact hq _
  have itemT : ∀ (i : Int) (v : Value) (p1 p2 p3 : Pos) (tk : Nat) (Q' : Value → Shared → Prop) (E' : Value → Shared → Prop), 0 ≤ i → i < 10 → vs[i.toNat]? = some v → (∀ tk, Q' v { s with heap := h1, toks := tk }) →
      wpAny (model prog w) (A.deeper (envOf (fName (stmtAt 25)) (fScope (stmtAt 25)) L' 221 cdv)) (eval (.Subscript (.Name (Str.ofString "values") p1) (.Constant (.int i) 0 p2) p3) (envOf (fName (stmtAt 25)) (fScope (stmtAt 25)) L' 221 cdv)) Q' E' { s with heap := h1, toks := tk } := by
    intro i v p1 p2 p3 tk Q' E' h0 h9 hi hq
    refine Subscript_ ?_
    refine nameX_L FL rfl ?_
    refine wpAny_Constant_int ?_
    refine item_list hL h0 (by omega) (by rw [List.getElem?_toArray]; exact hi) (hq _) rfl
  have XI : K.In h1 := C'.X.keeps FL.keep
  refine wpAny_execs_cons ?_
  refine wpAny_If ?_
  refine lenT _ _ _ _ _ _ _ _ _ _ fun tk => ?_
  rcases vs with _ | ⟨v0, _ | ⟨v1, _ | ⟨v2, _ | ⟨v3, r⟩⟩⟩⟩
  · refine wpAny_execs_cons ?_
    refine wpAny_Return_some ?_
    refine Call_ ?_
    refine nameX_K FL C'.X TR KN.prettyN ?_
    refine callWith_K C'.X KN.prettyK ?_
    refine args_cons ?_
    refine nameX_L FL rfl ?_
    refine args_nil ?_
    exact ⟨XI, fin _ _ rfl⟩
  · refine wpAny_execs_nil ?_
    refine wpAny_execs_cons ?_
    refine wpAny_If ?_
    refine lenT _ _ _ _ _ _ _ _ _ _ fun tk => ?_
    refine wpAny_execs_cons ?_
    refine wpAny_Return_some ?_
    refine Call_ ?_
    refine nameX_K FL C'.X TR KN.prettyN ?_
    refine callWith_K C'.X KN.prettyK ?_
    refine args_cons ?_
    refine nameX_L FL rfl ?_
    refine args_cons ?_
    refine itemT 0 v0 _ _ _ _ _ _ (by decide) (by decide) rfl fun tk => ?_
    refine args_nil ?_
    exact ⟨XI, fin _ _ rfl⟩
  · refine wpAny_execs_nil ?_
    refine wpAny_execs_cons ?_
    refine wpAny_If ?_
    refine lenT _ _ _ _ _ _ _ _ _ _ fun tk => ?_
    refine wpAny_execs_nil ?_
    refine wpAny_execs_cons ?_
    refine wpAny_If ?_
    refine lenT _ _ _ _ _ _ _ _ _ _ fun tk => ?_
    refine wpAny_execs_cons ?_
    refine wpAny_Return_some ?_
    refine Call_ ?_
    refine nameX_K FL C'.X TR KN.prettyN ?_
    refine callWith_K C'.X KN.prettyK ?_
    refine args_cons ?_
    refine nameX_L FL rfl ?_
    refine args_cons ?_
    refine itemT 0 v0 _ _ _ _ _ _ (by decide) (by decide) rfl fun tk => ?_
    refine args_cons ?_
    refine itemT 1 v1 _ _ _ _ _ _ (by decide) (by decide) rfl fun tk => ?_
    refine args_nil ?_
    exact ⟨XI, fin _ _ rfl⟩
  · refine wpAny_execs_nil ?_
    refine wpAny_execs_cons ?_
    refine wpAny_If ?_
    refine lenT _ _ _ _ _ _ _ _ _ _ fun tk => ?_
    refine wpAny_execs_nil ?_
    refine wpAny_execs_cons ?_
    refine wpAny_If ?_
    refine lenT _ _ _ _ _ _ _ _ _ _ fun tk => ?_
    refine wpAny_execs_nil ?_
    refine wpAny_execs_cons ?_
    refine wpAny_Return_some ?_
    refine Call_ ?_
    refine nameX_K FL C'.X TR KN.prettyN ?_
    refine callWith_K C'.X KN.prettyK ?_
    refine args_cons ?_
    refine nameX_L FL rfl ?_
    refine args_cons ?_
    refine itemT 0 v0 _ _ _ _ _ _ (by decide) (by decide) rfl fun tk => ?_
    refine args_cons ?_
    refine itemT 1 v1 _ _ _ _ _ _ (by decide) (by decide) rfl fun tk => ?_
    refine args_cons ?_
    refine itemT 2 v2 _ _ _ _ _ _ (by decide) (by decide) rfl fun tk => ?_
    refine args_nil ?_
    exact ⟨XI, fin _ _ rfl⟩
  · simp only [List.length_cons] at hl
    omega
end
end Mine

namespace Mine
open Builtin Builtin.Str

def fillP : List (List Nat) → List (List Nat) → Option (List Nat)
  | [], [] => some []
  | [], _ :: _ => none
  | p :: ps, vs =>
    if p = [37, 115] then
      match vs with
      | [] => none
      | v :: vs => (fillP ps vs).map (v ++ ·)
    else (fillP ps vs).map ((if p = [37, 37] then [37] else p) ++ ·)

theorem fillP_ps0 {ps : List (List Nat)} : fillP ([37, 115] :: ps) [] = none := by simp [fillP]
theorem fillP_ps1 {ps : List (List Nat)} {v : List Nat} {vs : List (List Nat)} : fillP ([37, 115] :: ps) (v :: vs) = (fillP ps vs).map (v ++ ·) := by simp [fillP]
theorem fillP_other {p : List Nat} {ps vs : List (List Nat)} (h : p ≠ [37, 115]) : fillP (p :: ps) vs = (fillP ps vs).map ((if p = [37, 37] then [37] else p) ++ ·) := by
  rw [fillP.eq_def]
  simp only [if_neg h]
theorem map_map_cat {o : Option (List Nat)} {a b c : List Nat} (h : a ++ b = c) : (o.map (b ++ ·)).map (a ++ ·) = o.map (c ++ ·) := by
  subst h
  cases o with
  | none => rfl
  | some l => exact congrArg some (List.append_assoc a b l).symm

theorem str_beq_lit {x y : Str} {l : List Nat} (h : y = ⟨l.toArray⟩) : (x == y) = decide (x.cps.toList = l) := by
  subst h
  rw [Bool.eq_iff_iff, beq_iff_eq, decide_eq_true_eq]
  constructor
  · intro h; rw [h]
  · intro h
    obtain ⟨⟨l'⟩⟩ := x
    exact congrArg Str.mk (congrArg Array.mk h)
theorem str_ps : Str.ofString "%s" = ⟨[37, 115].toArray⟩ := by decide +kernel
theorem str_pp : Str.ofString "%%" = ⟨[37, 37].toArray⟩ := by decide +kernel
theorem str_p : Str.ofString "%" = ⟨[37].toArray⟩ := by decide +kernel

section
variable {prog : Program} {w : World} {K : Frag} {p : Program} {loose : List Str} {mean : ExcName → Option Value} {mg mb : Str → Option Value} {A₀ A : Around} {base h₀ : Heap} {outer : List Env} {env : Env} {L : Addr} {d : Nat}
  {m : Str → Option Value} {news : List (Addr × Obj)} {s : Shared} {Q E : Value → Shared → Prop}

theorem str_of_val {v : Value} (hv : IsVal v) (h : ∀ y ty tk, y.cps.toList = vText v → y.length ≤ 100 → Q (.str y ty) { s with toks := tk }) :
    wpAny (model prog w) A (call (.type "str") [v]) Q E s := by
  have hl := vText_len hv
  rcases hv with ⟨x, t, rfl, hx⟩ | ⟨i, t, rfl, h0, h1⟩
  · exact P.str_of_str (h x t s.toks rfl hx)
  · refine P.str_of_int (PyProof.Rows.shown (N := 2 ^ 1920) (by omega) (by omega) (Int.le_refl _)) (h _ _ _ rfl ?_)
    have e := len_list (Str.ofString (toString i))
    have hl' : (Str.ofString (toString i)).cps.toList.length ≤ 100 := hl
    omega

theorem enterG {S : Stmt} {f : Addr} {vals : List Value} {binds : List (Str × Value)} (FI : FnIn K f S) (C : Cx K p loose mean mg mb A₀ A base h₀ outer env L (d + 1)) (F : Fr h₀ L s.heap m) (N : News h₀ L s.heap news)
    (hbind : ∀ pm cdv, bindArgs (fnOf (fName S) (fName S) (fArgs S) (fBody S) (fScope S) .none .none .none pm none cdv .none) ⟨vals, []⟩ = pure binds)
    (hloc : (binds.all fun x => decide ((fScope S).names.lookup x.1 = some .local)) = true)
    (hco : (fScope S).isCoroutine = false) (hgen : (fScope S).isGenerator = false) (hk : (fScope S).kind = .function) (hcell : ∀ x ∈ (fScope S).names, x.2 ≠ .cell)
    (h : ∀ L' h₁ cdv tk, Fr s.heap L' h₁ (fun y => binds.reverse.lookup y) → K.In s.heap → Top p loose mean mg mb s.heap →
      wpAny (model prog w) (A.deeper (envOf (fName S) (fScope S) L' f cdv)) (execs (fBody S) (envOf (fName S) (fScope S) L' f cdv))
        (fun fl s' => (∀ b o, s.heap.get? b = some o → s'.heap.get? b = some o) ∧ (Fr h₀ L s'.heap m → News h₀ L s'.heap news → Q (match fl with | .ret v => v | _ => .none) s'))
        (fun _ _ => False)
        { s with heap := h₁, toks := tk }) :
    wpAny (model prog w) A (call (.ref f) vals) Q E s := by
  obtain ⟨oc, od, osl, pm, cdv, ho, hcd⟩ := FI.ex
  have X := C.X.keeps F.keep
  have T := C.T.keeps F.keep
  refine wpAny_call (codeAny_call_def (fd := fnOf (fName S) (fName S) (fArgs S) (fBody S) (fScope S) .none .none .none pm none cdv .none) (body := fBody S) (binds := binds) (Nat.lt_of_le_of_lt (Nat.le_add_right _ _) C.hd) (X _ _ ho) rfl T.nolimit (codeRec_of X hcd) rfl (BindsTo.of_eq (hbind pm cdv)) hcell (locs hloc) (fun h₁ hns hk₁ => ?_) hco hgen hk)
  refine wpAny_mono (h s.heap.objs.size h₁ cdv _ ⟨hns, hk₁, Nat.le_refl _⟩ X T) (fun fl s' hl => ?_) (fun _ _ h => h.elim)
  exact hl.2 (F.after hl.1) fun q hq => ⟨hl.1 _ _ (N q hq).1, (N q hq).2⟩

set_option maxHeartbeats 4000000 in
theorem filled_call {lp lv : Addr} {pvs vs : List Value} {ps : List Str} {n1 n2 : Nat} (KN : KNames K) (C : Cx K p loose mean mg mb A₀ A base h₀ outer env L (d + 1)) (F : Fr h₀ L s.heap m) (N : News h₀ L s.heap news)
    (hmp : (lp, W.listOf pvs.toArray n1) ∈ news) (hmv : (lv, W.listOf vs.toArray n2) ∈ news) (hps : StrsAre pvs ps) (hp : ∀ x ∈ ps, x.length ≤ 10) (hpl : ps.length ≤ 8) (hv : ∀ v ∈ vs, IsVal v) (hl : vs.length ≤ 3)
    (hok : ∀ out t' h' tk, fillP (ps.map fun x => x.cps.toList) (vs.map vText) = some out → Fr h₀ L h' m → News h₀ L h' news → Q (.str ⟨out.toArray⟩ t') { s with heap := h', toks := tk })
    (hno : ∀ h' tk, fillP (ps.map fun x => x.cps.toList) (vs.map vText) = none → Fr h₀ L h' m → News h₀ L h' news → Q .none { s with heap := h', toks := tk }) :
    wpAny (model prog w) A (call (.ref 214) [.ref lp, .ref lv]) Q E s := by
  refine enterG (binds := [(Str.ofString "parts", .ref lp), (Str.ofString "values", .ref lv)]) KN.filled C F N (fun _ _ => rfl) (by rfl) rfl rfl rfl (by decide) ?_
  intro L' h1 cdv tk FL X T
  have TR := topRead_of T
  have hh : (A.deeper (envOf (fName (stmtAt 24)) (fScope (stmtAt 24)) L' 214 cdv)).handled = none := C.hh
  have hLp : s.heap.IsList lp pvs.toArray := list_of N hmp
  have hLv : s.heap.IsList lv vs.toArray := list_of N hmv
  refine wpAny_execs_cons ?_
  refine Assign_Tuple ?_
  refine Tuple_ ?_
  refine args_cons ?_
  refine Calls.Constant_str ?_
  refine args_cons ?_
  refine wpAny_Constant_int ?_
  refine args_nil ?_
  refine newTuple_N FL News.nil ?_ (by rw [sizeLine_eq]; exact (by decide : 2 ≤ 16777216))
  intro h2 F2 N2
  refine unpackN_ F2 N2 (N2.isTup (.head _)) hh rfl rfl ?_
  intro h3 F3 N3
  refine assignInOrder_cons ?_
  refine wpAny_assign_Name ?_
  refine storeX_L F3 N3 ?_
  intro h4 F4 N4
  refine assignInOrder_cons ?_
  refine wpAny_assign_Name ?_
  refine storeX_L F4 N4 ?_
  intro h5 F5 N5
  refine assignInOrder_nil ?_
  refine wpAny_execs_cons ?_
  refine For_inv3 (h₀ := s.heap) rfl rfl ?_ (fun _ => rfl) ?_
  · refine nameX_L F5 rfl ?_
    refine Iter_listD3 hh hLp hps.areOf F5 News.nil (fun i m₁ news₁ => ∃ T tT k tk, m₁ (Str.ofString "text") = some (.str T tT) ∧ m₁ (Str.ofString "used") = some (.int (k : Nat) tk) ∧ m₁ (Str.ofString "values") = some (.ref lv) ∧ k ≤ vs.length ∧ T.length ≤ 100 * i ∧
      fillP (ps.map fun x => x.cps.toList) (vs.map vText) = (fillP ((ps.drop i).map fun x => x.cps.toList) ((vs.drop k).map vText)).map (T.cps.toList ++ ·)) ⟨_, _, 0, _, rfl, rfl, rfl, Nat.zero_le _, by decide +kernel, ?_⟩ ?_ ?_
    · rw [List.drop_zero, List.drop_zero]
      have e : (Str.ofString "").cps.toList = [] := by decide +kernel
      rw [e]
      cases fillP (ps.map fun x => x.cps.toList) (vs.map vText) <;> rfl
    · rintro i a v m₁ news₁ s₁ own ⟨hh₁, tk₁, rfl⟩ hia hka ⟨T, tT, k, tkk, e1, e2, e3, hk, hT, hfill⟩ hnews _ F₁ N₁
      obtain ⟨ta, rfl⟩ := hka
      obtain ⟨hi, hia'⟩ := List.getElem?_eq_some_iff.mp hia
      have hd : ps.drop i = a :: ps.drop (i + 1) := by rw [List.drop_eq_getElem_cons hi, hia']
      have hamem : a ∈ ps := List.mem_of_getElem? hia
      have hsz := hp a hamem
      rw [hd, List.map_cons] at hfill
      have X1 : K.In hh₁ := X.keeps F₁.keep
      have L1 : hh₁.IsList lv vs.toArray := hLv.at fun o e => F₁.keep _ _ e
      refine wpAny_execs_cons ?_
      refine wpAny_If ?_
      refine wpAny_isTrue_Compare1 ?_
      refine nameX_L F₁ rfl ?_
      refine Calls.Constant_str ?_
      refine PyProof.Rows.eq_str ?_
      refine wpAny_truthy_bool ?_
      rw [str_beq_lit str_ps]
      by_cases ha : a.cps.toList = [37, 115]
      · rw [if_pos (decide_eq_true ha)]
        rw [ha] at hfill
        refine wpAny_execs_cons ?_
        refine wpAny_If ?_
        refine wpAny_isTrue_Compare1 ?_
        refine nameX_L F₁ ((if_neg (by decide)).trans e2) ?_
        refine Call_ ?_
        refine nameX_B F₁ X TR KN.lenN boot_len (by decide) ?_
        refine PyProof.Rows.callWith_builtin1 ?_
        refine args_cons ?_
        refine nameX_L F₁ ((if_neg (by decide)).trans e3) ?_
        refine args_nil ?_
        refine call_len_list L1 (by rw [List.size_toArray]; omega) ?_
        refine PyProof.Rows.eq_int ?_
        refine wpAny_truthy_bool ?_
        rw [List.size_toArray]
        by_cases hkl : k = vs.length
        · subst hkl
          rw [if_pos (by simp)]
          rw [List.drop_length, List.map_nil, fillP_ps0] at hfill
          refine wpAny_execs_cons ?_
          refine wpAny_Return_some ?_
          refine Constant_none ?_
          exact ⟨F₁.keep, fun kF kN => hno _ _ hfill kF kN⟩
        · rw [if_neg (by simpa using fun h : (k : Int) = vs.length => hkl (by omega))]
          have hkv : k < vs.length := by omega
          have hdv : vs.drop k = vs[k] :: vs.drop (k + 1) := List.drop_eq_getElem_cons hkv
          have hvk := hv vs[k] (List.getElem_mem hkv)
          rw [hdv, List.map_cons, fillP_ps1] at hfill
          refine wpAny_execs_nil ?_
          refine wpAny_execs_cons ?_
          refine wpAny_Assign_Name ?_
          refine wpAny_BinOp ?_
          refine nameX_L F₁ ((if_neg (by decide)).trans e1) ?_
          refine Call_ ?_
          refine nameX_B F₁ X TR KN.strN PyProof.Rows.boot_str (by decide) ?_
          refine Pv.callWith_type1 ?_
          refine args_cons ?_
          refine Subscript_ ?_
          refine nameX_L F₁ ((if_neg (by decide)).trans e3) ?_
          refine nameX_L F₁ ((if_neg (by decide)).trans e2) ?_
          refine item_list L1 (Int.natCast_nonneg k) (by omega) (v := vs[k]) (by rw [List.getElem?_toArray, Int.toNat_natCast]; exact List.getElem?_eq_getElem hkv) ?_ rfl
          refine args_nil ?_
          refine str_of_val hvk fun y ty tk₂ hy hyl => ?_
          refine SBL.add ?_ (by rw [sizeLine_eq]; omega)
          intro t₃ k₃ hlen
          refine storeX_L F₁ N₁ ?_
          intro h6 F6 N6
          refine wpAny_execs_cons ?_
          refine wpAny_Assign_Name ?_
          refine wpAny_BinOp ?_
          refine nameX_L F6 ((if_neg (by decide)).trans ((if_neg (by decide)).trans e2)) ?_
          refine wpAny_Constant_int ?_
          refine PyProof.Rows.add_int ?_
          refine storeX_L F6 N6 ?_
          intro h7 F7 N7
          refine wpAny_execs_nil ?_
          refine wpAny_execs_nil ?_
          refine ⟨rfl, h7, _, _, news₁, rfl, F7, N7, rfl, T ++ y, t₃, k + 1, _, ?_, rfl, ?_, by omega, by omega, ?_⟩
          · exact (if_neg (by decide)).trans (if_pos rfl)
          · exact (if_neg (by decide)).trans ((if_neg (by decide)).trans ((if_neg (by decide)).trans e3))
          · rw [hfill, PySem.Str.cps_append]
            exact map_map_cat (by simp [hy])
      · rw [if_neg (by rw [decide_eq_true_eq]; exact ha)]
        rw [fillP_other ha] at hfill
        refine wpAny_execs_cons ?_
        refine wpAny_Assign_Name ?_
        refine wpAny_BinOp ?_
        refine nameX_L F₁ ((if_neg (by decide)).trans e1) ?_
        refine IfExp_ ?_
        refine wpAny_isTrue_Compare1 ?_
        refine nameX_L F₁ rfl ?_
        refine Calls.Constant_str ?_
        refine PyProof.Rows.eq_str ?_
        refine wpAny_truthy_bool ?_
        rw [str_beq_lit str_pp]
        by_cases hb : a.cps.toList = [37, 37]
        · rw [if_pos (decide_eq_true hb)]
          rw [if_pos hb] at hfill
          refine Calls.Constant_str ?_
          refine SBL.add ?_ (by rw [sizeLine_eq, str_p]; show T.length + 1 ≤ 16777216; omega)
          intro t₃ k₃ hlen
          rw [str_p] at hlen ⊢
          have hl1 : (⟨[37].toArray⟩ : Str).length = 1 := rfl
          refine storeX_L F₁ N₁ ?_
          intro h6 F6 N6
          refine wpAny_execs_nil ?_
          refine wpAny_execs_nil ?_
          refine ⟨rfl, h6, _, _, news₁, rfl, F6, N6, rfl, T ++ ⟨[37].toArray⟩, t₃, k, tkk, rfl, ?_, ?_, hk, by omega, ?_⟩
          · exact (if_neg (by decide)).trans ((if_neg (by decide)).trans e2)
          · exact (if_neg (by decide)).trans ((if_neg (by decide)).trans e3)
          · rw [hfill, PySem.Str.cps_append]
            exact map_map_cat (by simp)
        · rw [if_neg (by rw [decide_eq_true_eq]; exact hb)]
          rw [if_neg hb] at hfill
          refine nameX_L F₁ rfl ?_
          refine SBL.add ?_ (by rw [sizeLine_eq]; omega)
          intro t₃ k₃ hlen
          refine storeX_L F₁ N₁ ?_
          intro h6 F6 N6
          refine wpAny_execs_nil ?_
          refine wpAny_execs_nil ?_
          refine ⟨rfl, h6, _, _, news₁, rfl, F6, N6, rfl, T ++ a, t₃, k, tkk, rfl, ?_, ?_, hk, by omega, ?_⟩
          · exact (if_neg (by decide)).trans ((if_neg (by decide)).trans e2)
          · exact (if_neg (by decide)).trans ((if_neg (by decide)).trans e3)
          · rw [hfill, PySem.Str.cps_append]
            exact map_map_cat (by simp)
    · rintro h' tk' m' news' F' N' _ ⟨T, tT, k, tkk, e1, e2, e3, hk, hT, hfill⟩
      rw [List.drop_length, List.map_nil] at hfill
      have X1 : K.In h' := X.keeps F'.keep
      have L1 : h'.IsList lv vs.toArray := hLv.at fun o e => F'.keep _ _ e
      refine wpAny_execs_cons ?_
      refine wpAny_Return_some ?_
      refine IfExp_ ?_
      refine wpAny_isTrue_Compare1 ?_
      refine nameX_L F' e2 ?_
      refine Call_ ?_
      refine nameX_B F' X TR KN.lenN boot_len (by decide) ?_
      refine PyProof.Rows.callWith_builtin1 ?_
      refine args_cons ?_
      refine nameX_L F' e3 ?_
      refine args_nil ?_
      refine call_len_list L1 (by rw [List.size_toArray]; omega) ?_
      refine PyProof.Rows.eq_int ?_
      refine wpAny_truthy_bool ?_
      rw [List.size_toArray]
      by_cases hkl : k = vs.length
      · subst hkl
        rw [if_pos (by simp)]
        rw [List.drop_length, List.map_nil, fillP, Option.map_some, List.append_nil] at hfill
        refine nameX_L F' e1 ?_
        refine ⟨F'.keep, fun kF kN => ?_⟩
        have h9 := fun tk => hok _ tT h' tk hfill kF kN
        have e : (⟨T.cps.toList.toArray⟩ : Str) = T := congrArg Str.mk (Array.toArray_toList ..)
        rw [e] at h9
        exact h9 _
      · rw [if_neg (by simpa using fun h : (k : Int) = vs.length => hkl (by omega))]
        have hkv : k < vs.length := by omega
        rw [List.drop_eq_getElem_cons hkv, List.map_cons] at hfill
        refine Constant_none ?_
        exact ⟨F'.keep, fun kF kN => hno _ _ (hfill.trans (by simp [fillP])) kF kN⟩
  · passes_own
end
end Mine

namespace Mine
open Builtin Builtin.Str

section
variable {prog : Program} {w : World} {K : Frag} {p : Program} {loose : List Str} {mean : ExcName → Option Value} {mg mb : Str → Option Value} {A₀ A : Around} {base h₀ : Heap} {outer : List Env} {env : Env} {L : Addr} {d : Nat}
  {m : Str → Option Value} {news : List (Addr × Obj)} {s : Shared} {Q E : Value → Shared → Prop}

/-- a comprehension whose element only reads -/
theorem rest_ind {elt : Expr} {x : Str} {scope : Scope} {cl : List (Str × Addr)} {S : List (Addr × Obj) → Prop} {P : Nat → Value → Prop} {Fin : List Value → List (Addr × Obj) → Prop} (n : Nat) (Good : Nat → List Value → Prop) (hS : S news)
    (step : ∀ i v I oI C oC D m₂ h tk (E' : Value → Shared → Prop) ys (Q' : Value → Shared → Prop), i < n → P i v → Good i ys → LCg.NsObj oC m₂ → m₂ x = some v → Fr h₀ L h m → News h₀ L h ((I, oI) :: (C, oC) :: (D, LCg.lst ys) :: news) →
      (∀ y h' tk', Fr h₀ L h' m → News h₀ L h' ((I, oI) :: (C, oC) :: (D, LCg.lst ys) :: news) → Good (i + 1) (ys ++ [y]) → Q' y { s with heap := h', toks := tk' }) →
      wpAny (model prog w) A (eval elt (compEnvC scope cl C env)) Q' E' { s with heap := h, toks := tk })
    (fin : ∀ ys, Good n ys → Fin ys news) :
    ∀ k i ys, k + i = n → Good i ys → LCg.CompRest prog w A h₀ L m env elt x scope cl s S P Fin k i ys news := by
  intro k
  induction k with
  | zero =>
    intro i ys hk hg
    have : i = n := by omega
    subst this
    exact LCg.CompRest.zero (fin ys hg)
  | succ k ih =>
    intro i ys hk hg
    refine LCg.CompRest.succ fun v I oI C oC D m₂ h tk E' hP hC hx F N off _ => ?_
    refine step i v I oI C oC D m₂ h tk E' ys _ (by omega) hP hg hC hx F N fun y h' tk' F' N' hg' => ?_
    exact LCg.CompEnd.intro F' N' news (fun _ h => h) off hS (ih (i + 1) _ (by omega) hg')

/-- one name of a comprehension's own block, held in a cell -/
theorem ld_cellC {scope : Scope} {cl : List (Str × Addr)} {C c : Addr} {x : Str} {pos : Pos} {v : Value} {o : Obj} (N : News h₀ L s.heap news) (hc : cl.lookup x = some c) (hm : (c, o) ∈ news) (hd : o.data = .cell (some v)) (h : Q v s)
    {M : Model} (hk : (compEnvC scope cl C env).scope.kind = .function := by rfl) (hx : (compEnvC scope cl C env).kindOf x = some .cell := by rfl) (hb : (x == ("__debug__" : Str)) = false := by decide) :
    wpAny M A (eval (.Name x pos) (compEnvC scope cl C env)) Q E s := wpAny_Name (wpAny_loadName_cell hk hx hc ⟨o, N.get hm, hd⟩ h) hb

theorem strs_get : ∀ {vs : List Value} {xs : List Str} {j : Nat}, StrsAre vs xs → j < xs.length → ∃ x t, vs[j]? = some (.str x t) ∧ x ∈ xs
  | _, _, _, .nil, h => absurd h (Nat.not_lt_zero _)
  | _, _, 0, .cons x t h, _ => ⟨x, t, rfl, .head _⟩
  | _, _, j + 1, .cons x t h, hj => by
    obtain ⟨y, u, e, hm⟩ := strs_get h (Nat.lt_of_succ_lt_succ hj)
    exact ⟨y, u, e, .tail _ hm⟩
theorem strs_len : ∀ {vs : List Value} {xs : List Str}, StrsAre vs xs → vs.length = xs.length
  | _, _, .nil => rfl
  | _, _, .cons _ _ h => congrArg (· + 1) (strs_len h)

/-- an item of a written table of texts -/
theorem tab_item {value slice : PySem.Expr} {T : Addr} {o : Obj} {its : Array Value} {n : Nat} {xs : List Str} {k : Int} {u : Tok}
    (hT : s.heap.get? T = some o) (hc : o.cls = .type "tuple") (hd : o.data = .seq its n) (hs : StrsAre its.toList xs) (h0 : 0 ≤ k) (h1 : k < xs.length) (h2 : xs.length < 1000)
    (h : ∀ x t, x ∈ xs → Q (.str x t) s)
    (hss : subscripted slice false (.ref T) (.int k u) = operate [.ref T, .int k u] (getItem (.ref T) (.int k u))) :
    wpAny (model prog w) A (subscriptTail value slice (.ref T) (.int k u)) Q E s := by
  have hlen := strs_len hs
  obtain ⟨x, t, e, hm⟩ := strs_get (j := k.toNat) hs (by omega)
  have ht : IsTup s.heap T its := ⟨o, hT, hc, n, hd⟩
  have hsz : its.size = xs.length := by rw [← hlen]; simp
  refine item_tupleT (l := its.toList) (j := k.toNat) (by simpa using ht) (by omega) (by omega) ?_ e (h x t hm) hss
  unfold seqIndex?
  rw [hlen]
  simp only [if_neg (show ¬ k < 0 by omega)]
  rw [if_pos (by rw [Bool.and_eq_true]; exact ⟨decide_eq_true h0, decide_eq_true (by omega)⟩)]
end
end Mine

namespace Mine
open Builtin Builtin.Str

abbrev lawS : Stmt := stmtAt 26
abbrev LE (L fa : Addr) (cd : Value) : Env := envX (fName (stmtAt 26)) (fScope (stmtAt 26)) L fa cd [(Str.ofString "wrong", L + 1 + 1), (Str.ofString "s", L + 1)]
def stS (i : Nat) : Stmt := nthS (fBody (stmtAt 26)) i

theorem off1_ne {D : Addr} : ∀ {l : List (Addr × Obj)}, LCg.Off1 D l → ∀ q ∈ l, q.1 ≠ D
  | [], _, _, h => nomatch h
  | _ :: _, x, q, h => by
    rcases List.mem_cons.mp h with rfl | h
    · exact x.1
    · exact off1_ne x.2 q h

theorem ints_mem : ∀ {vs : List Value} {ns : List Int} {v : Value}, IntsAre vs ns → v ∈ vs → ∃ a t, v = .int a t
  | _, _, _, .cons a t h, .head _ => ⟨a, t, rfl⟩
  | _, _, _, .cons a t h, .tail _ hv => ints_mem h hv
theorem ints_snoc : ∀ {vs : List Value} {ns : List Int} {a : Int} {t : Tok}, IntsAre vs ns → IntsAre (vs ++ [.int a t]) (ns ++ [a])
  | _, _, _, _, .nil => .cons _ _ .nil
  | _, _, _, _, .cons b u h => .cons b u (ints_snoc h)
section
variable {prog : Program} {w : World} {K : Frag} {p : Program} {loose : List Str} {mean : ExcName → Option Value} {mg mb : Str → Option Value} {A₀ A : Around} {base h₀ : Heap} {outer : List Env} {L fa : Addr} {cd : Value} {d : Nat}
  {m : Str → Option Value} {news : List (Addr × Obj)} {s : Shared} {E : Value → Shared → Prop}

theorem min5 {Q : Value → Shared → Prop} {n : Nat} {t u : Tok} (hA : A.handled = none) (F : Fr h₀ L s.heap m) (N : News h₀ L s.heap news)
    (h : ∀ c t' h' tk, c = ((min n 5 : Nat) : Int) → Fr h₀ L h' m → News h₀ L h' news → Q (.int c t') { s with heap := h', toks := tk }) :
    wpAny (model prog w) A (call (.builtin "min") [.int (n : Int) t, .int 5 u]) Q E s :=
  min_two_N hA F N fun h' tk F' N' => h _ _ h' tk (by split <;> omega) F' N'

set_option maxHeartbeats 400000 in
theorem law0 {Q : Flow → Shared → Prop} {ow os : Obj} {v₀ : Option Value} {sc : Addr} {vs : List Value} {ns : List Int} (KN : KNames K) (C : Cx K p loose mean mg mb A₀ A base h₀ outer (LE L fa cd) L (d + 1)) (F : Fr h₀ L s.heap m) (N : News h₀ L s.heap [(L + 1 + 1, ow), (L + 1, os)])
    (hos : os.data = .cell v₀) (hm : m (Str.ofString "script") = some (.ref sc)) (hsc : h₀.IsList sc vs.toArray) (hI : IntsAre vs ns) (hlen : ns.length ≤ 63)
    (hQ : ∀ h' tk D ys zs os', Fr h₀ L h' m → News h₀ L h' [(D, LCg.lst ys), (L + 1 + 1, ow), (L + 1, os')] → os'.data = .cell (some (.ref D)) → IntsAre ys zs → zs.length = 5 → (∀ z ∈ zs, 0 ≤ z ∧ z < 1000000007) → D ≠ L + 1 + 1 → D ≠ L + 1 → Q .next { s with heap := h', toks := tk }) :
    wpAny (model prog w) A (exec (stS 0) (LE L fa cd)) Q E s := by
  have TR := topRead_of C.T
  have hsz : vs.toArray.size ≤ sizeLine := by rw [List.size_toArray, hI.length, sizeLine_eq]; omega
  refine wpAny_Assign_Name ?_
  refine LCg.ListComp_U (cl := []) F rfl (by decide) rfl (by decide) rfl ?_
  refine wpAny_BinOp ?_
  refine Subscript_ ?_
  refine nameX_L F hm ?_
  refine wpAny_Slice ?_
  refine evalPart_none_step ?_
  refine evalPart_some_step ?_
  refine wpAny_Constant_int ?_
  refine evalPart_none_step ?_
  refine kmk_slice_ints F N (hsc.at fun o e => F.keep _ _ e) IsPart.none (IsPart.int _ _) hI (kmk_upto hI (by decide)) rfl ?_ rfl (fun _ => rfl) hsz
  intro D1 ws1 h1 F1 N1 hD1 hI1 _ hl1
  refine Subscript_ ?_
  refine Call_ ?_
  refine nameX_K F1 C.X TR KN.padN ?_
  refine callWith_K0 (C.X.keeps F1.keep) KN.padK ?_
  refine enter (binds := []) KN.pad C F1 N1 (fun _ _ => rfl) (by rfl) rfl rfl rfl (by decide) ?_
  intro g L' h2 cdv tk2 FG FL NG C'
  refine wpAny_mono (E := fun _ _ => False) ?_ (fun _ _ h => h) (fun _ _ h => h.elim)
  refine wpAny_execs_cons ?_
  refine wpAny_Return_some ?_
  refine List_ ?_
  refine args_cons ?_
  refine wpAny_Constant_int ?_
  refine args_cons ?_
  refine wpAny_Constant_int ?_
  refine args_cons ?_
  refine wpAny_Constant_int ?_
  refine args_cons ?_
  refine wpAny_Constant_int ?_
  refine args_cons ?_
  refine wpAny_Constant_int ?_
  refine args_nil ?_
  refine newList_K FL NG ?_ (by rw [sizeLine_eq]; exact (by decide : 5 ≤ 16777216))
  intro D2 h3 F3 N3 hD2
  refine leaveK_ F3 N3 fun F4 N4 => ?_
  have hI2 : IntsAre [Value.int 11011 tk2, .int 3 (tk2 + 1), .int 1 (tk2 + 1 + 1), .int 2 (tk2 + 1 + 1 + 1), .int 5 (tk2 + 1 + 1 + 1 + 1)] [11011, 3, 1, 2, 5] := .cons _ _ (.cons _ _ (.cons _ _ (.cons _ _ (.cons _ _ .nil))))
  refine wpAny_Slice ?_
  refine evalPart_some_step ?_
  refine Call_ ?_
  refine nameX_B F4 C.X TR KN.minN boot_min (by decide) ?_
  refine PyProof.Rows.callWith_builtin1 ?_
  refine args_cons ?_
  refine Call_ ?_
  refine nameX_B F4 C.X TR KN.lenN boot_len (by decide) ?_
  refine PyProof.Rows.callWith_builtin1 ?_
  refine args_cons ?_
  refine nameX_L F4 hm ?_
  refine args_nil ?_
  refine call_len_list (hsc.at fun o e => F4.keep _ _ e) (by rw [List.size_toArray, hI.length]; omega) ?_
  refine args_cons ?_
  refine wpAny_Constant_int ?_
  refine args_nil ?_
  refine min5 C.hh F4 N4 ?_
  intro c t5 h5 tk5 hc F5 N5
  refine evalPart_none_step ?_
  refine evalPart_none_step ?_
  refine kba_turn (value' := .Name (Str.ofString "_") ⟨0, 0, 0, 0⟩) (fun _ => rfl) ?_
  refine kmk_slice_ints F5 N5 (list_of N5 (.head _)) (IsPart.int _ _) IsPart.none hI2 (kmk_from hI2 (by omega)) rfl ?_ rfl (fun _ => rfl) (by rw [sizeLine_eq]; exact (by decide : 5 ≤ 16777216))
  intro D3 ws3 h6 F6 N6 hD3 hI3 _ _
  have la : h6.IsList D1 ws1.toArray := list_of (n := 0) N6 (.tail _ (.tail _ (.head _)))
  have lb : h6.IsList D3 ws3.toArray := list_of (n := 0) N6 (.head _)
  refine kmk_add_ints F6 N6 la lb hI1 hI3 ?_ ?_
  · intro D4 ws4 h7 F7 N7 hD4 hI4
    have N8 : News h₀ L h7 [(D4, W.listOf ws4.toArray 0), (L + 1 + 1, ow), (L + 1, os)] := fun q hq => N7 q (by
      simp only [List.mem_cons, List.not_mem_nil, or_false] at hq ⊢
      rcases hq with h | h | h <;> simp [h])
    clear N7
    have hx : ∃ zs, IntsAre ws4 zs ∧ zs.length = 5 := by
      refine ⟨_, hI4, ?_⟩
      have hsz' : vs.toArray.size = ns.length := by rw [List.size_toArray, hI.length]
      rw [hsz'] at hc
      have h5' : Int.toNat 5 = 5 := rfl
      have hl5 : [(11011 : Int), 3, 1, 2, 5].length = 5 := rfl
      rw [List.length_append, List.length_take, List.length_drop, hl5, h5', hc]
      omega
    obtain ⟨zs, hZ, hlz⟩ := hx
    clear hI4
    refine LCg.CompSrc.ledger C.hh F7 N8 (.head _) (by rw [List.size_toArray, hZ.length, hlz, sizeLine_eq]; exact (by decide : 5 ≤ 16777216)) fun g' => ?_
    refine rest_ind ws4.toArray.size (fun i ys => ∃ zs', IntsAre ys zs' ∧ zs'.length = i ∧ ∀ z ∈ zs', 0 ≤ z ∧ z < 1000000007) (.inr ⟨_, .head _, rfl, _, rfl⟩) ?_ ?_ _ _ _ (Nat.add_zero _) ⟨[], .nil, rfl, fun _ h => nomatch h⟩
    · rintro i v I oI C₂ oC D m₂ h tk E' ys Q' hi hP ⟨zs', hg1, hg2, hg3⟩ hC hx' F9 N9 hq
      have hv : ∃ a t, v = .int a t := by
        have : v ∈ ws4 := by
          rw [List.getElem?_toArray] at hP
          exact List.mem_of_getElem? hP
        exact ints_mem hZ this
      obtain ⟨a, ta, rfl⟩ := hv
      refine wpAny_BinOp ?_
      refine ldVarK (hC.ns (N9 _ (.tail _ (.head _))).1) hx' ?_ rfl rfl (by decide)
      refine wpAny_Constant_int ?_
      refine mod_int' (by decide) ?_
      refine hq _ _ _ F9 N9 ⟨zs' ++ [Int.fmod a 1000000007], ints_snoc hg1, by simp [hg2], ?_⟩
      intro z hz
      rcases List.mem_append.mp hz with hz | hz
      · exact hg3 z hz
      · rw [List.mem_singleton.mp hz]
        exact ⟨fmod_lo _ (by decide), fmod_hi _ (by decide)⟩
    · rintro ys ⟨zs', hg1, hg2, hg3⟩ D h tk F9 N9 hoff
      have N10 : News h₀ L h [(D, LCg.lst ys), (L + 1 + 1, ow), (L + 1, os)] := fun q hq => N9 q (by
        rcases List.mem_cons.mp hq with h | hq
        · exact h ▸ .head _
        · exact .tail _ (.tail _ hq))
      have hne := off1_ne hoff
      have hn1 : L + 1 + 1 ≠ D := hne (L + 1 + 1, ow) (.tail _ (.head _))
      have hn2 : L + 1 ≠ D := hne (L + 1, os) (.tail _ (.tail _ (.head _)))
      refine storeX_C F9 N10 rfl (.tail (Ne.symm hn2) (.tail (Nat.succ_ne_self (L + 1)) (.head (fun _ h => nomatch h)))) hos ?_
      intro h' os' F11 N11 hd'
      refine hQ h' _ D ys zs' os' F11 N11 hd' hg1 ?_ hg3 (Ne.symm hn1) (Ne.symm hn2)
      rw [hg2, List.size_toArray, hZ.length, hlz]
  · have hl5 : [(11011 : Int), 3, 1, 2, 5].length = 5 := rfl
    have h5' : Int.toNat 5 = 5 := rfl
    rw [List.length_take, List.length_drop, sizeLine_eq, hl5, h5']
    omega
end
end Mine

namespace Mine
open Builtin Builtin.Str

def PIECES : List Str := ["ab", "Z", " ", "%s", "%%", "x y", "%s", "q"].map Str.ofString
def ENDS : List Str := ["", " ", "\n    ", "\t ", "\n\n"].map Str.ofString
def VALUES : List Str := ["", "p", " q ", "50%", "%s", "  "].map Str.ofString

theorem strs_snoc : ∀ {vs : List Value} {xs : List Str} {x : Str} {t : Tok}, StrsAre vs xs → StrsAre (vs ++ [.str x t]) (xs ++ [x])
  | _, _, _, _, .nil => .cons _ _ .nil
  | _, _, _, _, .cons y u h => .cons y u (strs_snoc h)
theorem ints_get : ∀ {vs : List Value} {ns : List Int} {j : Nat}, IntsAre vs ns → j < ns.length → ∃ a t, vs[j]? = some (.int a t) ∧ a ∈ ns
  | _, _, _, .nil, h => absurd h (Nat.not_lt_zero _)
  | _, _, 0, .cons x t h, _ => ⟨x, t, rfl, .head _⟩
  | _, _, j + 1, .cons x t h, hj => by
    obtain ⟨y, u, e, hm⟩ := ints_get h (Nat.lt_of_succ_lt_succ hj)
    exact ⟨y, u, e, .tail _ hm⟩
theorem pow_pos_small {b : Int} (hb : b = 8 ∨ b = 6) (i : Nat) : 0 < b ^ i := Int.pow_pos (by omega)
theorem pow_small {b : Int} (hb : b = 8 ∨ b = 6) {i : Nat} (hi : i < 9) : (b ^ i).natAbs < 1073741824 := by
  have : ∀ j : Fin 9, ((8 : Int) ^ j.val).natAbs < 1073741824 ∧ ((6 : Int) ^ j.val).natAbs < 1073741824 := by decide
  rcases hb with rfl | rfl
  · exact (this ⟨i, hi⟩).1
  · exact (this ⟨i, hi⟩).2

section
variable {prog : Program} {w : World} {K : Frag} {p : Program} {loose : List Str} {mean : ExcName → Option Value} {mg mb : Str → Option Value} {A₀ A : Around} {base h₀ : Heap} {outer : List Env} {L fa : Addr} {cd : Value} {d : Nat}
  {m : Str → Option Value} {news : List (Addr × Obj)} {s : Shared} {E : Value → Shared → Prop}

set_option maxHeartbeats 1000000 in
theorem law1 {Q : Flow → Shared → Prop} {os : Obj} {Ds : Addr} {ys : List Value} {zs : List Int} {n : Nat} (KN : KNames K) (C : Cx K p loose mean mg mb A₀ A base h₀ outer (LE L fa cd) L d) (F : Fr h₀ L s.heap m) (N : News h₀ L s.heap news)
    (hs : (L + 1, os) ∈ news) (hos : os.data = .cell (some (.ref Ds))) (hD : (Ds, W.listOf ys.toArray n) ∈ news) (hZ : IntsAre ys zs) (hzl : zs.length = 5) (hz : ∀ z ∈ zs, 0 ≤ z ∧ z < 1000000007)
    (hQ : ∀ h' tk D vs ps, Fr h₀ L h' (fun z => if z = Str.ofString "parts" then some (.ref D) else m z) → News h₀ L h' ((D, W.listOf vs.toArray vs.length) :: news) → StrsAre vs ps → ps.length ≤ 8 → (∀ x ∈ ps, x ∈ PIECES) → (∀ q ∈ news, q.1 ≠ D) → Q .next { s with heap := h', toks := tk }) :
    wpAny (model prog w) A (exec (stS 1) (LE L fa cd)) Q E s := by
  have TR := topRead_of C.T
  obtain ⟨z0, t0, e0, hz0⟩ := ints_get (j := 0) hZ (by omega)
  have hb0 := hz z0 hz0
  obtain ⟨oT, itsT, nT, hT1, hT2, hT3, hT4⟩ := KN.piecesT
  refine LCg.Assign_ListComp_U (cl := [(Str.ofString "s", L + 1)]) F rfl rfl rfl (by decide) rfl (by decide) rfl rfl rfl ?_
  refine Call_ ?_
  refine nameX_B F C.X TR KN.rangeN boot_range (by decide) ?_
  refine Pv.callWith_type1 ?_
  refine args_cons ?_
  refine wpAny_BinOp ?_
  refine Subscript_ ?_
  refine nameX_C N rfl hs hos ?_
  refine wpAny_Constant_int ?_
  refine item_list (list_of N hD) (by decide) (by decide) (by rw [List.getElem?_toArray]; exact e0) ?_ rfl
  refine wpAny_Constant_int ?_
  refine mod_int' (by decide) ?_
  refine args_nil ?_
  refine range1_rows F N ?_
  intro h1 tk1 t1 u1 v1 hr F1 N1 _
  have hm0 : 0 ≤ Int.fmod z0 9 := fmod_lo _ (by decide)
  have hm1 : Int.fmod z0 9 < 9 := fmod_hi _ (by decide)
  refine LCg.CompSrc.range (n := (Int.fmod z0 9).toNat) C.hh F1 N1 hr (small_one (by decide) (by decide) (by omega) (by omega)) (by rw [rangeSize_nat]; omega) (by rw [sizeLine_eq]; omega) fun g => ?_
  refine rest_ind (Int.fmod z0 9).toNat (fun i ys => ∃ ps, StrsAre ys ps ∧ ps.length = i ∧ ∀ x ∈ ps, x ∈ PIECES) trivial ?_ ?_ _ _ _ (Nat.add_zero _) ⟨[], .nil, rfl, fun _ h => nomatch h⟩
  · rintro i v I oI C₂ oC D m₂ h tk E' ys' Q' hi ⟨tv, rfl⟩ ⟨ps, hg1, hg2, hg3⟩ hC hx' F9 N9 hq
    refine Subscript_ ?_
    refine LCgL.ld_global F9 C.X C.T KN.piecesN ?_
    refine wpAny_BinOp ?_
    refine wpAny_BinOp ?_
    refine Subscript_ ?_
    refine ld_cellC N9 rfl (.tail _ (.tail _ (.tail _ hs))) hos ?_
    refine wpAny_Constant_int ?_
    refine item_list (list_of N9 (.tail _ (.tail _ (.tail _ hD)))) (by decide) (by decide) (by rw [List.getElem?_toArray]; exact e0) ?_ rfl
    refine wpAny_BinOp ?_
    refine wpAny_Constant_int ?_
    refine ldVarK (hC.ns (N9 _ (.tail _ (.head _))).1) hx' ?_ rfl rfl (by decide)
    refine pow_int_small (by omega) (by omega) (by decide) ?_
    have e8 : (0 + (i : Int)).toNat = i := by omega
    rw [e8]
    have hpp := pow_pos_small (b := 8) (.inl rfl) i
    have hps := pow_small (b := 8) (.inl rfl) (i := i) (by omega)
    generalize hP : (8 : Int) ^ i = P at hpp hps ⊢
    refine floordiv_int (by omega) ?_ (.inl (PyProof.noPylong_small hps))
    refine wpAny_Constant_int ?_
    refine mod_int' (by decide) ?_
    have hX := C.X.keeps F9.keep
    refine tab_item (hX _ _ hT1) hT2 hT3 hT4 (fmod_lo _ (by decide)) (fmod_hi _ (by decide)) (by decide) ?_ rfl
    intro x tx hx
    exact hq _ _ _ F9 N9 ⟨ps ++ [x], strs_snoc hg1, by simp [hg2], fun y hy => by
      rcases List.mem_append.mp hy with hy | hy
      · exact hg3 y hy
      · rw [List.mem_singleton.mp hy]; exact hx⟩
  · rintro ys' ⟨ps, hg1, hg2, hg3⟩ D h tk F9 N9 hoff
    exact hQ h tk D ys' ps F9 N9 hg1 (by omega) hg3 (fun q hq => off1_ne hoff q hq)
set_option maxHeartbeats 1000000 in
theorem law4 {Q : Flow → Shared → Prop} {os : Obj} {Ds : Addr} {ys : List Value} {zs : List Int} {n : Nat} (KN : KNames K) (C : Cx K p loose mean mg mb A₀ A base h₀ outer (LE L fa cd) L d) (F : Fr h₀ L s.heap m) (N : News h₀ L s.heap news)
    (hs : (L + 1, os) ∈ news) (hos : os.data = .cell (some (.ref Ds))) (hD : (Ds, W.listOf ys.toArray n) ∈ news) (hZ : IntsAre ys zs) {k : Int} {tk₀ : Tok} (hmany : m (Str.ofString "many") = some (.int k tk₀)) (hk0 : 0 ≤ k) (hk4 : k < 4) (hzl : zs.length = 5) (hz : ∀ z ∈ zs, 0 ≤ z ∧ z < 1000000007)
    (hQ : ∀ h' tk D vs ps, Fr h₀ L h' (fun z => if z = Str.ofString "values" then some (.ref D) else m z) → News h₀ L h' ((D, W.listOf vs.toArray vs.length) :: news) → StrsAre vs ps → (ps.length : Int) = k → (∀ x ∈ ps, x ∈ VALUES) → (∀ q ∈ news, q.1 ≠ D) → Q .next { s with heap := h', toks := tk }) :
    wpAny (model prog w) A (exec (stS 4) (LE L fa cd)) Q E s := by
  have TR := topRead_of C.T
  obtain ⟨z0, t0, e0, hz0⟩ := ints_get (j := 3) hZ (by omega)
  have hb0 := hz z0 hz0
  obtain ⟨oT, itsT, nT, hT1, hT2, hT3, hT4⟩ := KN.valuesT
  refine LCg.Assign_ListComp_U (cl := [(Str.ofString "s", L + 1)]) F rfl rfl rfl (by decide) rfl (by decide) rfl rfl rfl ?_
  refine Call_ ?_
  refine nameX_B F C.X TR KN.rangeN boot_range (by decide) ?_
  refine Pv.callWith_type1 ?_
  refine args_cons ?_
  refine nameX_L F hmany ?_
  refine args_nil ?_
  refine range1_rows F N ?_
  intro h1 tk1 t1 u1 v1 hr F1 N1 _
  refine LCg.CompSrc.range (n := k.toNat) C.hh F1 N1 hr (small_one (by decide) (by decide) (by omega) (by omega)) (by rw [rangeSize_nat]; omega) (by rw [sizeLine_eq]; omega) fun g => ?_
  refine rest_ind k.toNat (fun i ys => ∃ ps, StrsAre ys ps ∧ ps.length = i ∧ ∀ x ∈ ps, x ∈ VALUES) trivial ?_ ?_ _ _ _ (Nat.add_zero _) ⟨[], .nil, rfl, fun _ h => nomatch h⟩
  · rintro i v I oI C₂ oC D m₂ h tk E' ys' Q' hi ⟨tv, rfl⟩ ⟨ps, hg1, hg2, hg3⟩ hC hx' F9 N9 hq
    refine Subscript_ ?_
    refine LCgL.ld_global F9 C.X C.T KN.valuesN ?_
    refine wpAny_BinOp ?_
    refine wpAny_BinOp ?_
    refine Subscript_ ?_
    refine ld_cellC N9 rfl (.tail _ (.tail _ (.tail _ hs))) hos ?_
    refine wpAny_Constant_int ?_
    refine item_list (list_of N9 (.tail _ (.tail _ (.tail _ hD)))) (by decide) (by decide) (by rw [List.getElem?_toArray]; exact e0) ?_ rfl
    refine wpAny_BinOp ?_
    refine wpAny_Constant_int ?_
    refine ldVarK (hC.ns (N9 _ (.tail _ (.head _))).1) hx' ?_ rfl rfl (by decide)
    refine pow_int_small (by omega) (by omega) (by decide) ?_
    have e8 : (0 + (i : Int)).toNat = i := by omega
    rw [e8]
    have hpp := pow_pos_small (b := 6) (.inr rfl) i
    have hps := pow_small (b := 6) (.inr rfl) (i := i) (by omega)
    generalize hP : (6 : Int) ^ i = P at hpp hps ⊢
    refine floordiv_int (by omega) ?_ (.inl (PyProof.noPylong_small hps))
    refine wpAny_Constant_int ?_
    refine mod_int' (by decide) ?_
    have hX := C.X.keeps F9.keep
    refine tab_item (hX _ _ hT1) hT2 hT3 hT4 (fmod_lo _ (by decide)) (fmod_hi _ (by decide)) (by decide) ?_ rfl
    intro x tx hx
    exact hq _ _ _ F9 N9 ⟨ps ++ [x], strs_snoc hg1, by simp [hg2], fun y hy => by
      rcases List.mem_append.mp hy with hy | hy
      · exact hg3 y hy
      · rw [List.mem_singleton.mp hy]; exact hx⟩
  · rintro ys' ⟨ps, hg1, hg2, hg3⟩ D h tk F9 N9 hoff
    exact hQ h tk D ys' ps F9 N9 hg1 (by omega) hg3 (fun q hq => off1_ne hoff q hq)
end
end Mine

namespace Mine
open Builtin Builtin.Str

section
variable {prog : Program} {w : World} {K : Frag} {p : Program} {loose : List Str} {mean : ExcName → Option Value} {mg mb : Str → Option Value} {A₀ A : Around} {base h₀ : Heap} {outer : List Env} {L fa : Addr} {cd : Value} {d : Nat}
  {m : Str → Option Value} {news : List (Addr × Obj)} {s : Shared} {E : Value → Shared → Prop}

set_option maxHeartbeats 1000000 in
theorem law2 {Q : Flow → Shared → Prop} {os : Obj} {Ds : Addr} {ys : List Value} {zs : List Int} {n : Nat} (KN : KNames K) (C : Cx K p loose mean mg mb A₀ A base h₀ outer (LE L fa cd) L d) (F : Fr h₀ L s.heap m) (N : News h₀ L s.heap news)
    (hs : (L + 1, os) ∈ news) (hos : os.data = .cell (some (.ref Ds))) (hD : (Ds, W.listOf ys.toArray n) ∈ news) (hZ : IntsAre ys zs) (hzl : zs.length = 5)
    (hQ : ∀ h' tk hd th tl tt, Fr h₀ L h' (fun y => if y = Str.ofString "head" then some (.str hd th) else (if y = Str.ofString "tail" then some (.str tl tt) else m y)) → News h₀ L h' news → hd ∈ ENDS → tl ∈ ENDS → Q .next { s with heap := h', toks := tk }) :
    wpAny (model prog w) A (exec (stS 2) (LE L fa cd)) Q E s := by
  have TR := topRead_of C.T
  obtain ⟨z0, t0, e0, hz0⟩ := ints_get (j := 1) hZ (by omega)
  obtain ⟨oT, itsT, nT, hT1, hT2, hT3, hT4⟩ := KN.endsT
  have hX := C.X.keeps F.keep
  refine Assign_Tuple_swapped (names := [Str.ofString "head", Str.ofString "tail"]) ?_ rfl rfl
  refine Tuple_ ?_
  refine args_cons ?_
  refine Subscript_ ?_
  refine nameX_K F C.X TR KN.endsN ?_
  refine wpAny_BinOp ?_
  refine Subscript_ ?_
  refine nameX_C N rfl hs hos ?_
  refine wpAny_Constant_int ?_
  refine item_list (list_of N hD) (by decide) (by decide) (by rw [List.getElem?_toArray]; exact e0) ?_ rfl
  refine wpAny_Constant_int ?_
  refine mod_int' (by decide) ?_
  refine tab_item (hX _ _ hT1) hT2 hT3 hT4 (fmod_lo _ (by decide)) (fmod_hi _ (by decide)) (by decide) ?_ rfl
  intro x1 t1 hx1
  refine args_cons ?_
  refine Subscript_ ?_
  refine nameX_K F C.X TR KN.endsN ?_
  refine wpAny_BinOp ?_
  refine wpAny_BinOp ?_
  refine Subscript_ ?_
  refine nameX_C N rfl hs hos ?_
  refine wpAny_Constant_int ?_
  refine item_list (list_of N hD) (by decide) (by decide) (by rw [List.getElem?_toArray]; exact e0) ?_ rfl
  refine wpAny_Constant_int ?_
  refine floordiv_int (by decide) ?_ (.inl (PyProof.noPylong_small (by decide)))
  refine wpAny_Constant_int ?_
  refine mod_int' (by decide) ?_
  refine tab_item (hX _ _ hT1) hT2 hT3 hT4 (fmod_lo _ (by decide)) (fmod_hi _ (by decide)) (by decide) ?_ rfl
  intro x2 t2 hx2
  refine args_nil ?_
  refine newTuple_N F N ?_ (by rw [sizeLine_eq]; exact (by decide : 2 ≤ 16777216))
  intro h2 F2 N2
  refine unpackItemsN_ F2 N2 (N2.isTup (.head _)) C.hh rfl ?_
  intro h3 F3 N3
  refine assignInOrder_cons ?_
  refine wpAny_bindName ?_
  refine storeX_L F3 N3 ?_
  intro h4 F4 N4
  refine assignInOrder_cons ?_
  refine wpAny_bindName ?_
  refine storeX_L F4 N4 ?_
  intro h5 F5 N5
  refine assignInOrder_nil ?_
  exact hQ h5 _ x1 t1 x2 t2 F5 (fun q hq => N5 q (.tail _ hq)) hx1 hx2

set_option maxHeartbeats 1000000 in
theorem law3 {Q : Flow → Shared → Prop} {os : Obj} {Ds : Addr} {ys : List Value} {zs : List Int} {n : Nat} (C : Cx K p loose mean mg mb A₀ A base h₀ outer (LE L fa cd) L d) (F : Fr h₀ L s.heap m) (N : News h₀ L s.heap news)
    (hs : (L + 1, os) ∈ news) (hos : os.data = .cell (some (.ref Ds))) (hD : (Ds, W.listOf ys.toArray n) ∈ news) (hZ : IntsAre ys zs) (hzl : zs.length = 5)
    (hQ : ∀ h' tk k tk₀, Fr h₀ L h' (fun y => if y = Str.ofString "many" then some (.int k tk₀) else m y) → News h₀ L h' news → 0 ≤ k → k < 4 → Q .next { s with heap := h', toks := tk }) :
    wpAny (model prog w) A (exec (stS 3) (LE L fa cd)) Q E s := by
  obtain ⟨z0, t0, e0, hz0⟩ := ints_get (j := 2) hZ (by omega)
  refine wpAny_Assign_Name ?_
  refine wpAny_BinOp ?_
  refine Subscript_ ?_
  refine nameX_C N rfl hs hos ?_
  refine wpAny_Constant_int ?_
  refine item_list (list_of N hD) (by decide) (by decide) (by rw [List.getElem?_toArray]; exact e0) ?_ rfl
  refine wpAny_Constant_int ?_
  refine mod_int' (by decide) ?_
  refine storeX_L F N ?_
  intro h3 F3 N3
  exact hQ h3 _ _ _ F3 N3 (fmod_lo _ (by decide)) (fmod_hi _ (by decide))

set_option maxHeartbeats 1000000 in
theorem law5 {Q : Flow → Shared → Prop} {os ow : Obj} {Ds Dp Dv : Addr} {ys pvs vvs : List Value} {zs : List Int} {n1 n2 n3 : Nat} {k : Int} {tk₀ : Tok} {xs : List Str} (C : Cx K p loose mean mg mb A₀ A base h₀ outer (LE L fa cd) L d) (F : Fr h₀ L s.heap m)
    (N : News h₀ L s.heap [(Dv, W.listOf vvs.toArray n3), (Dp, W.listOf pvs.toArray n2), (Ds, W.listOf ys.toArray n1), (L + 1 + 1, ow), (L + 1, os)])
    (hos : os.data = .cell (some (.ref Ds))) (hZ : IntsAre ys zs) (hzl : zs.length = 5) (hz : ∀ z ∈ zs, 0 ≤ z ∧ z < 1000000007)
    (hmany : m (Str.ofString "many") = some (.int k tk₀)) (hvals : m (Str.ofString "values") = some (.ref Dv)) (hV : StrsAre vvs xs) (hxl : (xs.length : Int) = k) (hxs : ∀ x ∈ xs, x ∈ VALUES)
    (hne : ∀ q ∈ ([(Dp, W.listOf pvs.toArray n2), (Ds, W.listOf ys.toArray n1), (L + 1 + 1, ow), (L + 1, os)] : List (Addr × Obj)), q.1 ≠ Dv)
    (hQ : ∀ h' tk (vs : List Value), Fr h₀ L h' m → News h₀ L h' [(Dv, W.listOf vs.toArray n3), (Dp, W.listOf pvs.toArray n2), (Ds, W.listOf ys.toArray n1), (L + 1 + 1, ow), (L + 1, os)] → (∀ v ∈ vs, IsVal v ∧ ((∃ x t, v = .str x t ∧ x ∈ VALUES) ∨ ∃ i t, v = .int i t)) → vs.length = xs.length → Q .next { s with heap := h', toks := tk }) :
    wpAny (model prog w) A (exec (stS 5) (LE L fa cd)) Q E s := by
  obtain ⟨z0, t0, e0, hz0⟩ := ints_get (j := 0) hZ (by omega)
  obtain ⟨z3, t3, e3, hz3⟩ := ints_get (j := 3) hZ (by omega)
  have hb0 := hz z0 hz0
  have hb3 := hz z3 hz3
  have hs : (L + 1, os) ∈ ([(Dv, W.listOf vvs.toArray n3), (Dp, W.listOf pvs.toArray n2), (Ds, W.listOf ys.toArray n1), (L + 1 + 1, ow), (L + 1, os)] : List (Addr × Obj)) := .tail _ (.tail _ (.tail _ (.tail _ (.head _))))
  have hLs : s.heap.IsList Ds ys.toArray := list_of (n := n1) N (.tail _ (.tail _ (.head _)))
  have hall : ∀ (vvs : List Value) (xs : List Str), StrsAre vvs xs → (∀ x ∈ xs, x ∈ VALUES) → ∀ v ∈ vvs, IsVal v ∧ ((∃ x t, v = .str x t ∧ x ∈ VALUES) ∨ ∃ i t, v = .int i t) := by
    intro vvs xs h
    induction h with
    | nil => intro _ v hv; exact nomatch hv
    | cons x t h ih =>
      intro hx v hv
      rcases List.mem_cons.mp hv with rfl | hv
      · have hm := hx x (.head _)
        refine ⟨.inl ⟨x, t, rfl, ?_⟩, .inl ⟨x, t, rfl, hm⟩⟩
        have : ∀ y ∈ VALUES, y.length ≤ 100 := by decide +kernel
        exact this x hm
      · exact ih (fun y hy => hx y (.tail _ hy)) v hv
  have stay : ∀ tk, Q .next { s with heap := s.heap, toks := tk } := fun tk => hQ s.heap tk vvs F N (hall vvs xs hV hxs) (strs_len hV)
  refine wpAny_If ?_
  refine isTrue_and ?_
  refine wpAny_isTrue_Compare1 ?_
  refine wpAny_BinOp ?_
  refine Subscript_ ?_
  refine nameX_C N rfl hs hos ?_
  refine wpAny_Constant_int ?_
  refine item_list hLs (by decide) (by decide) (by rw [List.getElem?_toArray]; exact e3) ?_ rfl
  refine wpAny_Constant_int ?_
  refine mod_int' (by decide) ?_
  refine wpAny_Constant_int ?_
  refine PyProof.Rows.eq_int ?_
  refine wpAny_truthy_bool ?_
  cases h7 : (Int.fmod z3 7 == 0) with
  | false => exact wpAny_execs_nil (stay _)
  | true =>
    refine isTrue_and ?_
    refine wpAny_isTrue_Compare1 ?_
    refine nameX_L F hmany ?_
    refine wpAny_Constant_int ?_
    refine gt_int ?_
    refine wpAny_truthy_bool ?_
    by_cases hk : k > 0
    · rw [if_pos (decide_eq_true hk)]
      refine isTrue_and_nil ?_
      refine wpAny_execs_cons ?_
      refine wpAny_Assign_Subscript ?_
      refine wpAny_BinOp ?_
      refine Subscript_ ?_
      refine nameX_C N rfl hs hos ?_
      refine wpAny_Constant_int ?_
      refine item_list hLs (by decide) (by decide) (by rw [List.getElem?_toArray]; exact e0) ?_ rfl
      refine Subscript_ ?_
      refine nameX_C N rfl hs hos ?_
      refine wpAny_Constant_int ?_
      refine item_list hLs (by decide) (by decide) (by rw [List.getElem?_toArray]; exact e3) ?_ rfl
      refine PyProof.Rows.add_int ?_
      refine nameX_L F hvals ?_
      refine wpAny_Constant_int ?_
      cases hV with
      | nil => exfalso; simp at hxl; omega
      | @cons x t vr xr hV' =>
        refine ki_set F N (by decide) (by decide) rfl (.head hne) ?_
        intro h' F' N'
        refine wpAny_execs_nil ?_
        refine hQ h' _ _ F' N' ?_ ?_
        · intro v hv
          rcases List.mem_cons.mp hv with rfl | hv
          · exact ⟨.inr ⟨_, _, rfl, by omega, by omega⟩, .inr ⟨_, _, rfl⟩⟩
          · exact hall vr xr hV' (fun y hy => hxs y (.tail _ hy)) v hv
        · have := strs_len hV'
          simp only [List.length_cons, this]
    · rw [if_neg (by rw [decide_eq_true_eq]; exact hk)]
      exact wpAny_execs_nil (stay _)
end
end Mine

namespace Mine
open Builtin Builtin.Str

/-! the plain law -/
def plainC (c : Nat) : Bool := Unicode.isSpace c == blank c
theorem dropWhile_congr {l : List Nat} (h : ∀ c ∈ l, Unicode.isSpace c = blank c) : l.dropWhile Unicode.isSpace = l.dropWhile blank := by
  induction l with
  | nil => rfl
  | cons a l ih =>
    rw [List.dropWhile_cons, List.dropWhile_cons, h a (.head _), ih fun c hc => h c (.tail _ hc)]
theorem drop_take_while (q : Nat → Bool) : ∀ l : List Nat, l.drop (l.takeWhile q).length = l.dropWhile q
  | [] => rfl
  | a :: l => by
    rw [List.takeWhile_cons, List.dropWhile_cons]
    split
    · simpa using drop_take_while q l
    · rfl
theorem mem_dropWhile {q : Nat → Bool} : ∀ {l : List Nat} {c : Nat}, c ∈ l.dropWhile q → c ∈ l
  | [], _, h => h
  | a :: l, c, h => by
    rw [List.dropWhile_cons] at h
    split at h
    · exact .tail _ (mem_dropWhile h)
    · exact h
theorem take_rev (l : List Nat) (q : Nat → Bool) : l.take (l.length - (l.reverse.takeWhile q).length) = (l.reverse.dropWhile q).reverse := by
  rw [← drop_take_while, List.reverse_drop, List.reverse_reverse, List.length_reverse]
theorem strip_is (x : Str) (h : ∀ c ∈ x.cps.toList, Unicode.isSpace c = blank c) : Txt.strip x = ⟨(cutL x.cps.toList).toArray⟩ := by
  have hx := len_list x
  rw [Txt.strip, PyProof.Rows.stripBy_eq]
  unfold strSub stripHi stripLo
  simp only [if_true]
  apply congrArg Str.mk
  apply Array.toList_inj.mp
  rw [Array.toList_extract, List.extract_eq_take_drop]
  rw [drop_take_while]
  have e2 : x.length - ((x.cps.toList.dropWhile Unicode.isSpace).reverse.takeWhile Unicode.isSpace).length - (x.cps.toList.takeWhile Unicode.isSpace).length = (x.cps.toList.dropWhile Unicode.isSpace).length - ((x.cps.toList.dropWhile Unicode.isSpace).reverse.takeWhile Unicode.isSpace).length := by
    rw [← drop_take_while Unicode.isSpace x.cps.toList, List.length_drop]
    omega
  rw [e2, take_rev, dropWhile_congr h]
  unfold cutL
  rw [dropWhile_congr (l := (x.cps.toList.dropWhile blank).reverse) fun c hc => h c (mem_dropWhile (List.mem_reverse.mp hc))]

theorem join_empty_cps (ys : List Str) : (Txt.join (Str.ofString "") ys).cps.toList = (ys.map fun x => x.cps.toList).flatten := by
  have e : Str.ofString "" = ⟨#[]⟩ := by decide +kernel
  have fl : ∀ (ys : List Str) (acc : Array Nat), (ys.foldl (fun acc p => acc ++ (Str.ofString "").cps ++ p.cps) acc).toList = acc.toList ++ (ys.map fun x => x.cps.toList).flatten := by
    intro ys
    induction ys with
    | nil => intro acc; simp
    | cons y ys ih =>
      intro acc
      rw [List.foldl_cons, ih, e]
      simp
  unfold Txt.join glued
  cases ys with
  | nil => rfl
  | cons y ys =>
    show (List.foldl _ y.cps ys).toList = _
    rw [fl]
    simp

theorem wf_piece : ∀ x ∈ PIECES, ∀ r, WF r → WF (x.cps.toList ++ r) := by
  intro x hx r hr
  simp only [PIECES, List.map_cons, List.map_nil, List.mem_cons, List.not_mem_nil, or_false] at hx
  rcases hx with h | h | h | h | h | h | h | h <;> subst h
  · rw [show (Str.ofString "ab").cps.toList = [97, 98] by decide +kernel]; exact .lit (by decide) (.lit (by decide) hr)
  · rw [show (Str.ofString "Z").cps.toList = [90] by decide +kernel]; exact .lit (by decide) hr
  · rw [show (Str.ofString " ").cps.toList = [32] by decide +kernel]; exact .lit (by decide) hr
  · rw [show (Str.ofString "%s").cps.toList = [37, 115] by decide +kernel]; exact .ps hr
  · rw [show (Str.ofString "%%").cps.toList = [37, 37] by decide +kernel]; exact .pp hr
  · rw [show (Str.ofString "x y").cps.toList = [120, 32, 121] by decide +kernel]; exact .lit (by decide) (.lit (by decide) (.lit (by decide) hr))
  · rw [show (Str.ofString "%s").cps.toList = [37, 115] by decide +kernel]; exact .ps hr
  · rw [show (Str.ofString "q").cps.toList = [113] by decide +kernel]; exact .lit (by decide) hr
theorem piece_kind : ∀ x ∈ PIECES, x.cps.toList = [37, 115] ∨ x.cps.toList = [37, 37] ∨ (x.cps.toList ≠ [37, 115] ∧ x.cps.toList ≠ [37, 37] ∧ ∀ c ∈ x.cps.toList, c ≠ 37) := by decide +kernel
theorem ends_no : ∀ x ∈ ENDS, ∀ c ∈ x.cps.toList, c ≠ 37 := by decide +kernel
theorem wf_lits {r : List Nat} (hr : WF r) : ∀ {l : List Nat}, (∀ c ∈ l, c ≠ 37) → WF (l ++ r)
  | [], _ => hr
  | c :: l, h => .lit (h c (.head _)) (wf_lits hr fun d hd => h d (.tail _ hd))

theorem wf_parts : ∀ {ps : List Str}, (∀ x ∈ ps, x ∈ PIECES) → ∀ {r : List Nat}, WF r → WF ((ps.map fun x => x.cps.toList).flatten ++ r)
  | [], _, _, hr => hr
  | x :: ps, h, r, hr => by
    rw [List.map_cons, List.flatten_cons, List.append_assoc]
    exact wf_piece x (h x (.head _)) _ (wf_parts (fun y hy => h y (.tail _ hy)) hr)

theorem fill_end {tl : List Nat} (h : ∀ c ∈ tl, c ≠ 37) (vs : List (List Nat)) : fill tl vs = (fillP [] vs).map (· ++ tl) := by
  have := fill_lits (r := []) (vs := vs) h
  rw [List.append_nil] at this
  rw [this]
  cases vs with
  | nil => simp [fill, fillP]
  | cons v vs => simp [fill, fillP]

theorem fill_parts {tl : List Nat} (ht : ∀ c ∈ tl, c ≠ 37) : ∀ {ps : List Str}, (∀ x ∈ ps, x ∈ PIECES) → ∀ vs : List (List Nat),
    fill ((ps.map fun x => x.cps.toList).flatten ++ tl) vs = (fillP (ps.map fun x => x.cps.toList) vs).map (· ++ tl)
  | [], _, vs => fill_end ht vs
  | x :: ps, h, vs => by
    have ih := fill_parts ht (ps := ps) fun y hy => h y (.tail _ hy)
    rw [List.map_cons, List.flatten_cons, List.append_assoc]
    rcases piece_kind x (h x (.head _)) with e | e | ⟨e1, e2, e3⟩
    · rw [e]
      cases vs with
      | nil => rw [fillP_ps0]; exact fill_ps0
      | cons v vs =>
        rw [fillP_ps1]
        refine (fill_ps1).trans ?_
        show Option.map _ (fill ((ps.map fun x => x.cps.toList).flatten ++ tl) vs) = _
        rw [ih]
        cases fillP (ps.map fun x => x.cps.toList) vs <;> simp
    · rw [fillP_other (by rw [e]; decide), e, if_pos rfl]
      refine (fill_pp).trans ?_
      show Option.map _ (fill ((ps.map fun x => x.cps.toList).flatten ++ tl) vs) = _
      rw [ih]
      cases fillP (ps.map fun x => x.cps.toList) vs <;> simp
    · rw [fillP_other e1, if_neg e2, fill_lits e3, ih]
      cases fillP (ps.map fun x => x.cps.toList) vs <;> simp

/-- the whole text -/
theorem fill_text {hd tl : Str} {ps : List Str} (hh : hd ∈ ENDS) (ht : tl ∈ ENDS) (hp : ∀ x ∈ ps, x ∈ PIECES) (vs : List (List Nat)) :
    fill (hd.cps.toList ++ ((ps.map fun x => x.cps.toList).flatten ++ tl.cps.toList)) vs = (fillP (ps.map fun x => x.cps.toList) vs).map fun o => hd.cps.toList ++ (o ++ tl.cps.toList) := by
  rw [fill_lits (ends_no hd hh), fill_parts (ends_no tl ht) hp]
  cases fillP (ps.map fun x => x.cps.toList) vs <;> simp
theorem wf_text {hd tl : Str} {ps : List Str} (hh : hd ∈ ENDS) (ht : tl ∈ ENDS) (hp : ∀ x ∈ ps, x ∈ PIECES) : WF (hd.cps.toList ++ ((ps.map fun x => x.cps.toList).flatten ++ tl.cps.toList)) := by
  have h0 := wf_lits (r := []) .nil (ends_no tl ht)
  rw [List.append_nil] at h0
  exact wf_lits (wf_parts hp h0) (ends_no hd hh)

/-! the signs are plain -/
theorem digit_plain {i : Int} (h0 : 0 ≤ i) : ∀ c ∈ (Str.ofString (toString i)).cps.toList, Unicode.isSpace c = blank c := by
  obtain ⟨n, rfl⟩ : ∃ n : Nat, i = (n : Int) := ⟨i.toNat, by omega⟩
  intro c hc
  have e : toString (n : Int) = String.ofList (Nat.toDigits 10 n) := rfl
  rw [e, Str.ofString_eq_toList] at hc
  have hc : c ∈ ((String.ofList (Nat.toDigits 10 n)).toList.map Char.toNat) := hc
  rw [String.toList_ofList] at hc
  obtain ⟨ch, hch, rfl⟩ := List.mem_map.mp hc
  have hd := Nat.isDigit_of_mem_toDigits (by decide) (by decide) hch
  have h1 : 48 ≤ ch.toNat ∧ ch.toNat ≤ 57 := by
    simp only [Char.isDigit, Bool.and_eq_true, decide_eq_true_eq] at hd
    exact hd
  have : ∀ k : Fin 10, Unicode.isSpace (48 + k.val) = blank (48 + k.val) := by decide +kernel
  have h2 := this ⟨ch.toNat - 48, by omega⟩
  rwa [show 48 + (ch.toNat - 48) = ch.toNat by omega] at h2
theorem pieces_plain : ∀ x ∈ PIECES, ∀ c ∈ x.cps.toList, Unicode.isSpace c = blank c := by decide +kernel
theorem ends_plain : ∀ x ∈ ENDS, ∀ c ∈ x.cps.toList, Unicode.isSpace c = blank c := by decide +kernel
theorem values_plain : ∀ x ∈ VALUES, ∀ c ∈ x.cps.toList, Unicode.isSpace c = blank c := by decide +kernel
theorem fillP_plain : ∀ {ps : List (List Nat)} {vs : List (List Nat)} {o : List Nat}, fillP ps vs = some o → (∀ x ∈ ps, ∀ c ∈ x, Unicode.isSpace c = blank c) → (∀ v ∈ vs, ∀ c ∈ v, Unicode.isSpace c = blank c) → ∀ c ∈ o, Unicode.isSpace c = blank c
  | [], [], o, e, _, _ => by cases e; exact fun c hc => nomatch hc
  | [], _ :: _, o, e, _, _ => by cases e
  | x :: ps, vs, o, e, hp, hv => by
    by_cases hx : x = [37, 115]
    · subst hx
      cases vs with
      | nil => rw [fillP_ps0] at e; cases e
      | cons v vs =>
        rw [fillP_ps1] at e
        obtain ⟨o', eo, rfl⟩ := Option.map_eq_some_iff.mp e
        intro c hc
        rcases List.mem_append.mp hc with hc | hc
        · exact hv v (.head _) c hc
        · exact fillP_plain eo (fun y hy => hp y (.tail _ hy)) (fun y hy => hv y (.tail _ hy)) c hc
    · rw [fillP_other hx] at e
      obtain ⟨o', eo, rfl⟩ := Option.map_eq_some_iff.mp e
      intro c hc
      rcases List.mem_append.mp hc with hc | hc
      · split at hc
        · rw [List.mem_singleton.mp hc]; decide +kernel
        · exact hp x (.head _) c hc
      · exact fillP_plain eo (fun y hy => hp y (.tail _ hy)) hv c hc
end Mine

namespace Mine
open Builtin Builtin.Str
theorem pieces_len : ∀ x ∈ PIECES, x.length ≤ 10 := by decide +kernel
theorem ends_len : ∀ x ∈ ENDS, x.length ≤ 10 := by decide +kernel
theorem sum_len : ∀ {ps : List Str}, (∀ x ∈ ps, x.length ≤ 10) → (ps.map fun x => x.length).sum ≤ 10 * ps.length
  | [], _ => Nat.le_refl _
  | x :: ps, h => by
    have := sum_len (ps := ps) fun y hy => h y (.tail _ hy)
    have := h x (.head _)
    simp only [List.map_cons, List.sum_cons, List.length_cons]
    omega
theorem flat_len : ∀ {ps : List Str}, ((ps.map fun x => x.cps.toList).flatten).length = (ps.map fun x => x.length).sum
  | [] => rfl
  | x :: ps => by
    simp only [List.map_cons, List.flatten_cons, List.length_append, List.sum_cons, flat_len, len_list]
theorem str_of_list (x : Str) : (⟨x.cps.toList.toArray⟩ : Str) = x := congrArg Str.mk (Array.toArray_toList ..)

section
variable {prog : Program} {w : World} {K : Frag} {p : Program} {loose : List Str} {mean : ExcName → Option Value} {mg mb : Str → Option Value} {A₀ A : Around} {base h₀ : Heap} {outer : List Env} {L fa : Addr} {cd : Value} {d : Nat}
  {m : Str → Option Value} {news : List (Addr × Obj)} {s : Shared} {E : Value → Shared → Prop}

set_option maxHeartbeats 1000000 in
theorem law6 {Q : Flow → Shared → Prop} {Dp : Addr} {pvs : List Value} {n : Nat} {ps : List Str} {hd tl : Str} {th tt : Tok} (F : Fr h₀ L s.heap m) (N : News h₀ L s.heap news)
    (hDp : (Dp, W.listOf pvs.toArray n) ∈ news) (hP : StrsAre pvs ps) (hps : ∀ x ∈ ps, x ∈ PIECES) (hpl : ps.length ≤ 8) (hmp : m (Str.ofString "parts") = some (.ref Dp)) (hmh : m (Str.ofString "head") = some (.str hd th)) (hmt : m (Str.ofString "tail") = some (.str tl tt)) (hh : hd ∈ ENDS) (ht : tl ∈ ENDS)
    (hQ : ∀ h' tk x tx, Fr h₀ L h' (fun y => if y = Str.ofString "text" then some (.str x tx) else m y) → News h₀ L h' news → x.cps.toList = hd.cps.toList ++ ((ps.map fun x => x.cps.toList).flatten ++ tl.cps.toList) → x.length ≤ 1000 → Q .next { s with heap := h', toks := tk }) :
    wpAny (model prog w) A (exec (stS 6) (LE L fa cd)) Q E s := by
  have hsum := sum_len (ps := ps) fun x hx => pieces_len x (hps x hx)
  have e0 : (Str.ofString "").length ≤ 16 := by decide +kernel
  have ej := join_empty_cps ps
  have el : (Txt.join (Str.ofString "") ps).length = (ps.map fun x => x.length).sum := by rw [← len_list, ej, flat_len]
  have h1 := ends_len hd hh
  have h2 := ends_len tl ht
  refine wpAny_Assign_Name ?_
  refine wpAny_BinOp ?_
  refine wpAny_BinOp ?_
  refine nameX_L F hmh ?_
  refine MethodCall_ ?_
  refine Calls.Constant_str ?_
  refine GM.join ?_
  refine callWith_method1 ?_
  refine args_cons ?_
  refine nameX_L F hmp ?_
  refine args_nil ?_
  refine join_listW (list_of N hDp) hP e0 (by omega) ?_
  intro t1 k1
  refine SBL.add ?_ (by rw [sizeLine_eq, el]; omega)
  intro t2 k2 hl2
  refine nameX_L F hmt ?_
  refine SBL.add ?_ (by rw [sizeLine_eq]; omega)
  intro t3 k3 hl3
  refine storeX_L F N ?_
  intro h' F' N'
  refine hQ h' _ _ _ F' N' ?_ (by omega)
  rw [PySem.Str.cps_append, PySem.Str.cps_append, Array.toList_append, Array.toList_append, ej, List.append_assoc]

set_option maxHeartbeats 1000000 in
theorem law7 {Q : Flow → Shared → Prop} {x : Str} {tx : Tok} (KN : KNames K) (C : Cx K p loose mean mg mb A₀ A base h₀ outer (LE L fa cd) L (d + 1 + 1)) (F : Fr h₀ L s.heap m) (N : News h₀ L s.heap news)
    (hmx : m (Str.ofString "text") = some (.str x tx)) (hx : x.length ≤ 1000) (hw : WF x.cps.toList) (hpl : ∀ c ∈ x.cps.toList, Unicode.isSpace c = blank c)
    (hQ : ∀ h' tk, Fr h₀ L h' m → News h₀ L h' news → Q .next { s with heap := h', toks := tk }) :
    wpAny (model prog w) A (exec (stS 7) (LE L fa cd)) Q (fun _ _ => False) s := by
  have TR := topRead_of C.T
  refine wpAny_If ?_
  refine wpAny_isTrue_Compare1 ?_
  refine Call_ ?_
  refine nameX_K F C.X TR KN.saidN ?_
  refine callWith_K C.X KN.saidK ?_
  refine args_cons ?_
  refine nameX_L F hmx ?_
  refine args_cons ?_
  refine List_ ?_
  refine args_nil ?_
  refine newList_K F N ?_ (Nat.zero_le _)
  intro l h1 F1 N1 hl1
  refine args_nil ?_
  refine ⟨C.X.keeps F1.keep, ?_⟩
  refine said_call (vs := []) (n := 0) KN C F1 N1 (.head _) hx (fun _ h => nomatch h) (Nat.zero_le _) hw ?_ (fun h => absurd rfl h) (fun h => absurd rfl h)
  intro _ t2 h2 tk2 F2 N2
  refine Call_ ?_
  refine nameX_K F2 C.X TR KN.cutN ?_
  refine callWith_K C.X KN.cutK ?_
  refine args_cons ?_
  refine nameX_L F2 hmx ?_
  refine args_nil ?_
  refine ⟨C.X.keeps F2.keep, ?_⟩
  refine cut_call KN C F2 N2 (by omega) ?_
  intro t3 h3 tk3 F3 N3
  refine PyProof.Rows.ne_str ?_
  refine wpAny_truthy_bool ?_
  rw [strip_is x hpl, bne_self_eq_false]
  refine wpAny_execs_nil ?_
  exact hQ h3 _ F3 fun q hq => N3 q (.tail _ hq)

set_option maxHeartbeats 1000000 in
theorem law8 {Q : Flow → Shared → Prop} {Dp Dv : Addr} {pvs vs : List Value} {n1 n2 : Nat} {ps : List Str} (KN : KNames K) (C : Cx K p loose mean mg mb A₀ A base h₀ outer (LE L fa cd) L (d + 1)) (F : Fr h₀ L s.heap m) (N : News h₀ L s.heap news)
    (hDp : (Dp, W.listOf pvs.toArray n1) ∈ news) (hDv : (Dv, W.listOf vs.toArray n2) ∈ news) (hP : StrsAre pvs ps) (hps : ∀ x ∈ ps, x ∈ PIECES) (hpl : ps.length ≤ 8) (hv : ∀ v ∈ vs, IsVal v) (hvl : vs.length ≤ 3)
    (hmp : m (Str.ofString "parts") = some (.ref Dp)) (hmv : m (Str.ofString "values") = some (.ref Dv))
    (hQ : ∀ h' tk due, Fr h₀ L h' (fun y => if y = Str.ofString "due" then some due else m y) → News h₀ L h' news →
      (match fillP (ps.map fun x => x.cps.toList) (vs.map vText) with | some out => ∃ t, due = .str ⟨out.toArray⟩ t | none => due = .none) → Q .next { s with heap := h', toks := tk }) :
    wpAny (model prog w) A (exec (stS 8) (LE L fa cd)) Q E s := by
  have TR := topRead_of C.T
  refine wpAny_Assign_Name ?_
  refine Call_ ?_
  refine nameX_K F C.X TR KN.filledN ?_
  refine callWith_K C.X KN.filledK ?_
  refine args_cons ?_
  refine nameX_L F hmp ?_
  refine args_cons ?_
  refine nameX_L F hmv ?_
  refine args_nil ?_
  refine ⟨C.X.keeps F.keep, ?_⟩
  refine filled_call KN C F N hDp hDv hP (fun x hx => pieces_len x (hps x hx)) hpl hv hvl ?_ ?_
  · intro out t h1 tk1 ho F1 N1
    refine storeX_L F1 N1 ?_
    intro h2 F2 N2
    exact hQ h2 _ _ F2 N2 (by rw [ho]; exact ⟨t, rfl⟩)
  · intro h1 tk1 ho F1 N1
    refine storeX_L F1 N1 ?_
    intro h2 F2 N2
    exact hQ h2 _ _ F2 N2 (by rw [ho])
end
end Mine

namespace Mine
open Builtin Builtin.Str

section
variable {prog : Program} {w : World} {K : Frag} {p : Program} {loose : List Str} {mean : ExcName → Option Value} {mg mb : Str → Option Value} {A₀ A : Around} {h₀ : Heap} {outer : List Env} {L fa : Addr} {cd : Value} {d : Nat}
  {m : Str → Option Value} {news : List (Addr × Obj)} {s : Shared}

/-- a TypeError that came from a call is caught by the law's own clause -/
theorem caught {Q : Flow → Shared → Prop} {g : Heap} {e : Addr} {np pos : Pos} {b₀ : Stmt} {suite : List Stmt} {rest : List ExceptHandler} (KN : KNames K) (C : Cx K p loose mean mg mb A₀ A h₀ h₀ outer (LE L fa cd) L d) (F : Fr h₀ L g m) (U : g.UpToSlots s.heap)
    (R : RaisedN h₀ (LE L fa cd :: outer) e (.type "TypeError") news s.heap)
    (k : ∀ h', Fr h₀ L h' m → News h₀ L h' news → wpAny (model prog w) (A.mark (some (.ref e))) (execs (b₀ :: suite) (LE L fa cd)) Q (fun _ _ => False) { s with heap := h' }) :
    wpAny (model prog w) A (noteFrame (.ref e) (LE L fa cd)) (fun _ s₂ => wpAny (model prog w) A (setFlight (.ref e) none) (fun _ s₃ =>
      wpAny (model prog w) A (handleBy (.ref e) (LE L fa cd) (.ExceptHandler (some (.Name (Str.ofString "TypeError") np)) none (b₀ :: suite) pos :: rest)) Q (fun _ _ => False) s₃) (fun _ _ => False) s₂) (fun _ _ => False) s := by
  obtain ⟨B, a0, hB, hl, hfl⟩ := R
  have TR := topRead_of C.T
  have fresh : B.get? L = none := by
    obtain ⟨_, ⟨L₁, _, e1, e2, _⟩, _⟩ := hfl.2.2.1
    have e1 : some L = some L₁ := e1
    rw [Option.some.inj e1]
    exact e2
  refine wpAny_looks_onW C.hA rfl hfl fun h1 held1 up1 => ?_
  refine wpAny_landsW held1 fun h2 fly2 up2 => ?_
  have up12 := U.trans (up1.trans up2)
  have base2 := flyingW_base hB fly2
  have F2 := F.of_stays base2.1 up12
  obtain ⟨ob, hob, hoc⟩ := base2.there
  refine wpAny_handleBy_builtin (X := "TypeError") (T := "TypeError") (b := true) PySem.F.isExc_TypeError PySem.F.notTuple_TypeError (by rw [isSubtype_type]; kernel_rfl) ?_
  refine nameX_B F2 C.X TR KN.typeN PyProof.Rows.Boot.«TypeError» (by decide) ?_
  refine ⟨rfl, ⟨ob, hob, hoc⟩, ?_⟩
  show wpAny _ _ (setFlight (.ref e) none) _ _ _
  refine lands_againW fly2 fun h3 fly3 up3 => ?_
  have base3 := flyingW_base hB fly3
  have F3 := F.of_stays base3.1 (up12.trans up3)
  refine wpAny_mono (k h3 F3 fun q hq => ⟨fly3.1 _ _ (hl q hq).1, fun z => ?_, (hl q hq).2⟩) (fun _ _ h => h) (fun _ _ h => h.elim)
  have z1 := (hl q hq).1
  rw [z, fresh] at z1
  cases z1

set_option maxHeartbeats 2000000 in
theorem law9 {Q : Flow → Shared → Prop} {x hd tl : Str} {tx th tt : Tok} {Dv : Addr} {vs : List Value} {n : Nat} {ps : List Str} {due : Value} (KN : KNames K) (C : Cx K p loose mean mg mb A₀ A h₀ h₀ outer (LE L fa cd) L (d + 1 + 1)) (F : Fr h₀ L s.heap m) (N : News h₀ L s.heap news)
    (hmx : m (Str.ofString "text") = some (.str x tx)) (hmh : m (Str.ofString "head") = some (.str hd th)) (hmt : m (Str.ofString "tail") = some (.str tl tt)) (hmv : m (Str.ofString "values") = some (.ref Dv)) (hmd : m (Str.ofString "due") = some due)
    (hDv : (Dv, W.listOf vs.toArray n) ∈ news) (hx : x.length ≤ 1000) (hh : hd ∈ ENDS) (ht : tl ∈ ENDS) (hps : ∀ y ∈ ps, y ∈ PIECES)
    (hxe : x.cps.toList = hd.cps.toList ++ ((ps.map fun y => y.cps.toList).flatten ++ tl.cps.toList))
    (hv : ∀ v ∈ vs, IsVal v) (hvl : vs.length ≤ 3) (hvp : ∀ v ∈ vs, ∀ c ∈ vText v, Unicode.isSpace c = blank c)
    (hdue : match fillP (ps.map fun y => y.cps.toList) (vs.map vText) with | some out => ∃ t, due = .str ⟨out.toArray⟩ t | none => due = .none)
    (hQ : ∀ h' tk m', Fr h₀ L h' m' → News h₀ L h' news → Q .next { s with heap := h', toks := tk }) :
    wpAny (model prog w) A (exec (stS 9) (LE L fa cd)) Q (fun _ _ => False) s := by
  have TR := topRead_of C.T
  have hw : WF x.cps.toList := by rw [hxe]; exact wf_text hh ht hps
  refine wpAny_If ?_
  refine wpAny_isTrue_Compare1 ?_
  refine Call_ ?_
  refine nameX_B F C.X TR KN.lenN boot_len (by decide) ?_
  refine PyProof.Rows.callWith_builtin1 ?_
  refine args_cons ?_
  refine nameX_L F hmv ?_
  refine args_nil ?_
  refine call_len_list (list_of N hDv) (by rw [List.size_toArray]; omega) ?_
  refine wpAny_Constant_int ?_
  refine gt_int ?_
  refine wpAny_truthy_bool ?_
  by_cases hvs : vs = []
  · subst hvs
    rw [if_neg (by decide)]
    exact wpAny_execs_nil (hQ s.heap _ m F N)
  · have hpos : 0 < vs.length := List.length_pos_iff.mpr hvs
    rw [if_pos (by rw [decide_eq_true_eq, List.size_toArray]; omega)]
    refine wpAny_execs_cons ?_
    refine wpAny_Try_except ?_
    refine wpAny_execs_cons ?_
    refine wpAny_Assign_Name ?_
    refine Call_ ?_
    refine nameX_K F C.X TR KN.saidN ?_
    refine callWith_K C.X KN.saidK ?_
    refine args_cons ?_
    refine nameX_L F hmx ?_
    refine args_cons ?_
    refine nameX_L F hmv ?_
    refine args_nil ?_
    refine ⟨C.X.keeps F.keep, ?_⟩
    refine said_call KN C F N hDv hx hv hvl hw (fun h => absurd h hvs) ?_ ?_
    · intro _ out t1 h1 tk1 ho F1 N1
      have hol := fill_len hw _ out ho fun v hv' => by
        obtain ⟨u, hu, rfl⟩ := List.mem_map.mp hv'
        exact vText_len (hv u hu)
      rw [hxe, fill_text hh ht hps] at ho
      obtain ⟨o, eo, rfl⟩ := Option.map_eq_some_iff.mp ho
      rw [eo] at hdue
      obtain ⟨td, rfl⟩ := hdue
      refine storeX_L F1 N1 ?_
      intro h2 F2 N2
      refine wpAny_execs_nil ?_
      refine wpAny_execs_nil ?_
      refine wpAny_execs_cons ?_
      refine wpAny_If ?_
      refine wpAny_isTrue_Compare1 ?_
      refine nameX_L F2 rfl ?_
      refine IfExp_ ?_
      refine wpAny_isTrue_Compare1 ?_
      refine nameX_L F2 ((if_neg (by decide)).trans hmd) ?_
      refine Constant_none ?_
      refine is_str_none ?_
      refine wpAny_truthy_bool ?_
      refine Call_ ?_
      refine nameX_K F2 C.X TR KN.cutN ?_
      refine callWith_K C.X KN.cutK ?_
      refine args_cons ?_
      refine wpAny_BinOp ?_
      refine wpAny_BinOp ?_
      refine nameX_L F2 ((if_neg (by decide)).trans hmh) ?_
      refine nameX_L F2 ((if_neg (by decide)).trans hmd) ?_
      have hll : (Str.mk o.toArray).length = o.length := by simp [Str.length]
      have hlh := len_list hd
      have hlt := len_list tl
      have hlx := len_list x
      rw [List.length_append, List.length_append, List.length_map] at hol
      refine SBL.add ?_ (by rw [sizeLine_eq, hll]; omega)
      intro t2 k2 hl2
      refine nameX_L F2 ((if_neg (by decide)).trans hmt) ?_
      refine SBL.add ?_ (by rw [sizeLine_eq]; omega)
      intro t3 k3 hl3
      refine args_nil ?_
      refine ⟨C.X.keeps F2.keep, ?_⟩
      refine cut_call KN C F2 N2 (by omega) ?_
      intro t4 h4 tk4 F4 N4
      refine PyProof.Rows.ne_str ?_
      refine wpAny_truthy_bool ?_
      have ecps : (hd ++ ⟨o.toArray⟩ ++ tl : Str).cps.toList = hd.cps.toList ++ (o ++ tl.cps.toList) := by
        rw [PySem.Str.cps_append, PySem.Str.cps_append, Array.toList_append, Array.toList_append, List.append_assoc]
      have hpl : ∀ c ∈ (Str.mk (hd.cps.toList ++ (o ++ tl.cps.toList)).toArray).cps.toList, Unicode.isSpace c = blank c := by
        intro c hc
        have hc : c ∈ hd.cps.toList ++ (o ++ tl.cps.toList) := hc
        rcases List.mem_append.mp hc with hc | hc
        · exact ends_plain hd hh c hc
        · rcases List.mem_append.mp hc with hc | hc
          · refine fillP_plain eo ?_ ?_ c hc
            · intro y hy
              obtain ⟨z, hz, rfl⟩ := List.mem_map.mp hy
              exact pieces_plain z (hps z hz)
            · intro y hy
              obtain ⟨z, hz, rfl⟩ := List.mem_map.mp hy
              exact hvp z hz
          · exact ends_plain tl ht c hc
      rw [strip_is _ hpl, ecps, bne_self_eq_false, if_neg (by decide)]
      refine wpAny_execs_nil ?_
      refine wpAny_execs_nil ?_
      exact hQ h4 _ _ F4 N4
    · intro _ hf h1 tk1 e g F1 U R
      rw [hxe, fill_text hh ht hps, Option.map_eq_none_iff] at hf
      rw [hf] at hdue
      refine caught KN C F1 U R fun h' F' N' => ?_
      refine wpAny_execs_cons ?_
      refine wpAny_Assign_Name ?_
      refine Constant_none ?_
      refine storeX_L F' N' ?_
      intro h2 F2 N2
      refine wpAny_execs_nil ?_
      refine wpAny_execs_cons ?_
      refine wpAny_If ?_
      refine wpAny_isTrue_Compare1 ?_
      refine nameX_L F2 rfl ?_
      refine IfExp_ ?_
      refine wpAny_isTrue_Compare1 ?_
      refine nameX_L F2 ((if_neg (by decide)).trans hmd) ?_
      refine Constant_none ?_
      rw [hdue]
      refine is_none_none ?_
      refine wpAny_truthy_bool ?_
      refine Constant_none ?_
      refine EqNone.ne_none_none ?_
      refine wpAny_truthy_bool ?_
      refine wpAny_execs_nil ?_
      refine wpAny_execs_nil ?_
      exact hQ h2 _ _ F2 N2
end
end Mine

namespace Mine
open Builtin Builtin.Str

def CADR : List Addr := [31, 44, 56, 68, 81, 93, 106, 118, 131, 144, 156, 168]
def KVALS : List Value := [.ref 31, .ref 44, .ref 56, .ref 68, .ref 81, .ref 93, .ref 106, .ref 118, .ref 131, .ref 144, .ref 156, .ref 168]
def ABOVE : List (List Int) := [[0], [0, 1], [0, 2], [3], [3, 4], [5], [5, 6], [7], [8], [8, 9], [8, 9, 10], [8, 9, 11]]
def ABADR : List Addr := [188, 189, 190, 191, 192, 193, 194, 195, 196, 197, 198, 199]

/-- what the law needs of one class -/
structure Kind (K : Frag) (C : Addr) : Prop where
  keep : keepIn K (.ref C) = true
  exc : excIn K C [.type "Exception", .type "BaseException", .type "object"] "Exception.__new__" = true
  ga : findIn K (.ref C) "__getattribute__" = some (some (.builtin "BaseException.__getattribute__"))
  gh : findIn K (.ref C) "__getattr__" = some none
  base : mroIn K C (.type "BaseException") = some true
  dct : (clsIn K C).isSome = true
  attr : findIn K (.ref C) "__class__" = some (some (.builtin "object.__class__"))
  mro : mroIn K C (.type "object") = some true
structure KKinds (K : Frag) : Prop where
  n0 : nsIn K mainGlobals (Str.ofString "PathError") = some (some (.ref 31))
  n1 : nsIn K mainGlobals (Str.ofString "PathBuildingError") = some (some (.ref 44))
  n2 : nsIn K mainGlobals (Str.ofString "DuplicateCertificateError") = some (some (.ref 56))
  n3 : nsIn K mainGlobals (Str.ofString "CRLValidationError") = some (some (.ref 68))
  n4 : nsIn K mainGlobals (Str.ofString "CRLNoMatchesError") = some (some (.ref 81))
  n5 : nsIn K mainGlobals (Str.ofString "OCSPValidationError") = some (some (.ref 93))
  n6 : nsIn K mainGlobals (Str.ofString "OCSPNoMatchesError") = some (some (.ref 106))
  n7 : nsIn K mainGlobals (Str.ofString "SoftFailError") = some (some (.ref 118))
  n8 : nsIn K mainGlobals (Str.ofString "ValidationError") = some (some (.ref 131))
  n9 : nsIn K mainGlobals (Str.ofString "PathValidationError") = some (some (.ref 144))
  n10 : nsIn K mainGlobals (Str.ofString "RevokedError") = some (some (.ref 156))
  n11 : nsIn K mainGlobals (Str.ofString "InvalidCertificateError") = some (some (.ref 168))
  kind : ∀ C ∈ CADR, Kind K C
  objGet : specialIn K (.builtin "object.__class__") "__get__" = some (some (.builtin "getset_descriptor.__get__"))
  objTake : takesIn K (.builtin "object.__class__") = some true
  isi : ∀ i : Fin 12, ∀ j : Fin 12, kitOne K (.ref CADR[i]) (.ref CADR[j]) = some (decide (((j.val : Nat) : Int) ∈ ABOVE[i]))
  above : ∃ o its n, K.lookup 200 = some o ∧ o.cls = .type "tuple" ∧ o.data = .seq its n ∧ its.toList = ABADR.map .ref
  row : ∀ i : Fin 12, ∃ o its n, K.lookup ABADR[i] = some o ∧ o.cls = .type "tuple" ∧ o.data = .seq its n ∧ IntsAre its.toList ABOVE[i]

section
variable {prog : Program} {w : World} {K : Frag} {p : Program} {loose : List Str} {mean : ExcName → Option Value} {mg mb : Str → Option Value} {A₀ A : Around} {base h₀ : Heap} {outer : List Env} {env : Env} {L : Addr} {d : Nat}
  {m : Str → Option Value} {news : List (Addr × Obj)} {s : Shared} {Q E : Value → Shared → Prop}

set_option maxHeartbeats 1000000 in
theorem kinds_call (KN : KNames K) (KK : KKinds K) (C : Cx K p loose mean mg mb A₀ A base h₀ outer env L (d + 1)) (F : Fr h₀ L s.heap m) (N : News h₀ L s.heap news)
    (hQ : ∀ D h' tk, Fr h₀ L h' m → News h₀ L h' ((D, tupO KVALS) :: news) → Q (.ref D) { s with heap := h', toks := tk }) :
    wpAny (model prog w) A (call (.ref 187) []) Q E s := by
  refine enter (binds := []) KN.kinds C F N (fun _ _ => rfl) (by rfl) rfl rfl rfl (by decide) ?_
  intro g L' h2 cdv tk2 FG FL NG C'
  have TR := topRead_of C'.T
  refine wpAny_mono (E := fun _ _ => False) ?_ (fun _ _ h => h) (fun _ _ h => h.elim)
  refine wpAny_execs_cons ?_
  refine wpAny_Return_some ?_
  refine Tuple_ ?_
  refine args_cons ?_
  refine nameX_K FL C'.X TR KK.n0 ?_
  refine args_cons ?_
  refine nameX_K FL C'.X TR KK.n1 ?_
  refine args_cons ?_
  refine nameX_K FL C'.X TR KK.n2 ?_
  refine args_cons ?_
  refine nameX_K FL C'.X TR KK.n3 ?_
  refine args_cons ?_
  refine nameX_K FL C'.X TR KK.n4 ?_
  refine args_cons ?_
  refine nameX_K FL C'.X TR KK.n5 ?_
  refine args_cons ?_
  refine nameX_K FL C'.X TR KK.n6 ?_
  refine args_cons ?_
  refine nameX_K FL C'.X TR KK.n7 ?_
  refine args_cons ?_
  refine nameX_K FL C'.X TR KK.n8 ?_
  refine args_cons ?_
  refine nameX_K FL C'.X TR KK.n9 ?_
  refine args_cons ?_
  refine nameX_K FL C'.X TR KK.n10 ?_
  refine args_cons ?_
  refine nameX_K FL C'.X TR KK.n11 ?_
  refine args_nil ?_
  refine newTuple_N FL NG ?_ (by rw [sizeLine_eq]; exact (by decide : 12 ≤ 16777216))
  intro h3 F3 N3
  exact leaveK_ F3 N3 fun F4 N4 => hQ _ _ _ F4 N4

theorem tup_item {value slice : PySem.Expr} {T : Addr} {o : Obj} {its : Array Value} {n : Nat} {l : List Value} {k : Int} {u : Tok} {v : Value}
    (hT : s.heap.get? T = some o) (hc : o.cls = .type "tuple") (hd : o.data = .seq its n) (hs : its.toList = l) (h0 : 0 ≤ k) (h1 : k < l.length) (h2 : l.length < 1000)
    (e : l[k.toNat]? = some v) (h : Q v s)
    (hss : subscripted slice false (.ref T) (.int k u) = operate [.ref T, .int k u] (getItem (.ref T) (.int k u))) :
    wpAny (model prog w) A (subscriptTail value slice (.ref T) (.int k u)) Q E s := by
  have ht : IsTup s.heap T its := ⟨o, hT, hc, n, hd⟩
  refine item_tupleT (l := l) (j := k.toNat) (by rw [← hs]; simpa using ht) (by omega) (by omega) ?_ e h hss
  unfold seqIndex?
  simp only [if_neg (show ¬ k < 0 by omega)]
  rw [if_pos (by rw [Bool.and_eq_true]; exact ⟨decide_eq_true h0, decide_eq_true (by omega)⟩)]

abbrev excO (C t : Addr) : Obj := { cls := .ref C, data := .fields #[.ref t, .none, .none, .none, .bool false, .none] }

/-- an own class of Exception is called with no arguments -/
theorem make_exc {C : Addr} (X : K.In h₀) (e : excIn K C [.type "Exception", .type "BaseException", .type "object"] "Exception.__new__" = true) (F : Fr h₀ L s.heap m) (N : News h₀ L s.heap news)
    (hQ : ∀ x t h', Fr h₀ L h' m → News h₀ L h' ((x, excO C t) :: news) → (∀ q ∈ news, q.1 ≠ x) → Q (.ref x) { s with heap := h' }) :
    wpAny (model prog w) A (call (.ref C) []) Q E s := by
  have X' := X.keeps F.keep
  unfold excIn at e
  split at e
  · rename_i dd cd sl ho
    split at e
    · rename_i C' bm k0 k1 k2 k3 n k5 hm hs
      simp only [Bool.and_eq_true, beq_iff_eq, Bool.not_eq_true'] at e
      obtain ⟨⟨⟨⟨⟨rfl, rfl⟩, hdel⟩, ht⟩, hok⟩, hni⟩ := e
      obtain ⟨nm, bs, mro, ns, qn, hd, sn, sub, ab, col, del⟩ := cd
      dsimp only at hm hdel hok hni
      subst hm hdel
      have hsl : sl = #[k0, k1, k2, k3, some (.builtin "Exception.__new__"), k5] := by
        obtain ⟨l⟩ := sl
        simp only at hs
        rw [hs]
      subst hsl
      obtain ⟨hh, g, dr, tk, os⟩ := s
      refine wpAny_call_exc_subT PySem.F.excBase_Exception (tail_of_in X' ht) (X' _ _ ho) (.of_isNs (isNs_of_in X' hok)) (nsMap_none_of_in X' hok hni) ?_ (Nat.zero_le _)
      intro h' x hx
      obtain ⟨t, e1, _, _⟩ := hx.there
      refine hQ x t h' (F.keeps hx.keeps) (fun q hq => ?_) fun q hq z => ?_
      · rcases List.mem_cons.mp hq with rfl | hq
        · refine ⟨e1, ?_, ?_⟩
          · intro z
            have z' : x = L := z
            have hL := F.ns.lt
            have hn := hx.new
            rw [z'] at hn
            obtain ⟨o, _, _, ho', _⟩ := F.ns
            rw [ho'] at hn
            cases hn
          · cases q : h₀.get? x with
            | none => rfl
            | some o => have := F.keep x o q; rw [hx.new] at this; cases this
        · exact N.grown hx.keeps q hq
      · have z1 := (N q hq).1
        rw [z, hx.new] at z1
        cases z1
    · cases e
  · cases e

/-- «__class__» of such an instance, by BaseException.__getattribute__ -/
theorem ga_body {x D : Addr} {ox : Obj} {odo : Option Obj} {name : Str} {g a : Value} {tk : Tok} {P : Value → Shared → Prop} (X : K.In s.heap) (I : InstAt s.heap x ox D odo) (hf : findObj K D odo name = some (.bind g a))
    (h : wpAny (model prog w) A (call g [a, .ref x, .ref D]) P E s) :
    wpAny (model prog w) A (Builtin.«object.__getattribute__» ⟨[.ref x, .str name tk], []⟩) (fun fin s' => match fin with | .done (.ret v) => P v s' | _ => False) E s := by
  obtain ⟨hh, gg, d, t, os⟩ := s
  have L0 := I.type (M := model prog w)
  have L1 := looks_find (M := model prog w) X I hf
  refine wpAny_bind (wpAny_pure (wpAny_bind (wpAny_pure (wpAny_bind (L0.at (wpAny_bind (L1.at ?_)))))))
  show wpAny _ _ (holding [a] (call g [a, .ref x, .ref D]) >>= ret) _ _ _
  exact wpAny_bind (wpAny_holding (wpAny_mono h (fun v s' z => wpAny_pure z) fun _ _ z => z))

theorem exc_class {x D : Addr} {ox : Obj} {odo : Option Obj} {Q : Option Value → Shared → Prop} (X : K.In s.heap) (I : InstAt s.heap x ox D odo)
    (hga : findIn K (.ref D) "__getattribute__" = some (some (.builtin "BaseException.__getattribute__"))) (hgh : findIn K (.ref D) "__getattr__" = some none) (hb : mroIn K D (.type "BaseException") = some true)
    (hf : findObj K D odo "__class__" = some (.bind (.builtin "getset_descriptor.__get__") (.builtin "object.__class__"))) (hm : mroIn K D (.type "object") = some true)
    (h : Q (some (.ref D)) { s with toks := s.toks + 1 }) : wpAny (model prog w) A (getAttr? (.ref x) "__class__") Q E s := by
  obtain ⟨hh, g, d, t, os⟩ := s
  have L0 := I.type (M := model prog w)
  have L1 := looks_findIn (M := model prog w) X hga
  have L2 := looks_findIn (M := model prog w) X hgh
  have L3 : Looks (model prog w) hh (isInstance (.ref x) (.type "BaseException")) true := L0.andThen (looks_mroIn X hb)
  have hk : builtinKind "BaseException.__getattribute__" = some .slot := by decide +kernel
  have hsplit : splitId "BaseException.__getattribute__" = some ("BaseException", "__getattribute__") := by decide +kernel
  unfold getAttr? getAttrBy? getAttrBy
  refine wpAny_bind (wpAny_mkText (wpAny_bind (wpAny_attempt (wpAny_holding (wpAny_bind (L0.at (wpAny_bind (L1.at ?_))))))))
  dsimp only
  rw [show (onTheHeap (Value.ref D) && Value.builtin "BaseException.__getattribute__" == Value.builtin "object.__getattribute__") = false from by rw [show (Value.builtin "BaseException.__getattribute__" == Value.builtin "object.__getattribute__") = false from by decide +kernel, Bool.and_false], if_neg (by decide)]
  unfold getAttrByItsOwn
  refine wpAny_bind ?_
  show wpAny _ _ (typeLookup (.ref D) "__getattr__") _ _ _
  refine L2.at ?_
  refine wpAny_bind (wpAny_attempt (wpAny_holding ?_))
  show wpAny _ _ (boundAndCalled _ _ _) _ _ _
  refine wpAny_bind (wpAny_of_eq (PySem.F.attr_Exception.ga.bind _) ?_)
  show wpAny _ _ (call (.builtin "BaseException.__getattribute__") [.ref x, .str (Str.ofString "__class__") t]) _ _ ⟨hh, g, d, t + 1, os⟩
  have key : ∀ {A' : Around} {E' : Value → Shared → Prop} {Q' : Unit → Shared → Prop}, Q' () ⟨hh, g, d, t + 1, os⟩ → wpAny (model prog w) A' (checkBuiltinCall "BaseException.__getattribute__" ⟨[.ref x, .str (Str.ofString "__class__") t], []⟩) Q' E' ⟨hh, g, d, t + 1, os⟩ := by
    intro A' E' Q' q
    have k1 := @check_slot (model prog w) A' E' ⟨hh, g, d, t + 1, os⟩ "BaseException.__getattribute__" "BaseException" "__getattribute__" (.ref x) [.str (Str.ofString "__class__") t] [] Q'
    have k2 := k1 hk
    have k3 := k2 hsplit
    have k4 := k3 L3
    exact k4 (PySem.F.args_bexc_ga _ _) q
  refine wpAny_call ?_
  refine codeAny_call_builtin PySem.F.attr_Exception.ga.plain PySem.F.entry_bexc_ga ?_
  refine key ?_
  refine wpAny_mono (ga_body X I hf (P := fun v s' => v = .ref D ∧ s' = ⟨hh, g, d, t + 1, os⟩) (E := fun _ _ => False) (wpAny_call (class_get (s := ⟨hh, g, d, t + 1, os⟩) X I hm ⟨rfl, rfl⟩))) (fun fin s' z => ?_) fun _ _ z => z.elim
  rcases fin with (_ | _ | _ | _) | _ <;> first | exact z.elim | (obtain ⟨rfl, rfl⟩ := z; exact wpAny_pure (wpAny_pure h))

/-- isinstance of such an instance -/
theorem kitx_exc {x t C : Addr} (KK : KKinds K) (k : Kind K C) : KitX K (.ref x) (.ref C) (fun h => InstAt h x (excO C t) C none) where
  ty := fun _ _ _ I => I.type
  it := fun _ _ X _ => by
    have hc := k.dct
    unfold clsIn at hc
    split at hc
    · rename_i c' d' cd' sl' ho
      intro A' Q' E' s' k q
      unfold isType loadHead
      exact wpAny_bind (wpAny_loadPart (k _ _ (X _ _ ho)) (wpAny_pure q))
    · cases hc
  ne := fun h tp dd its n sl X htp => by
    have hc := k.dct
    refine Bool.eq_false_iff.mpr fun q => ?_
    have e : C = tp := Value.ref.inj (beq_iff_eq.mp q)
    subst e
    unfold clsIn at hc
    split at hc
    · rename_i c' d' cd' sl' ho
      have z := (X _ _ ho).symm.trans htp
      cases z
    · cases hc
  ca := fun {prog w A E Q s} X I h => by
    have hf : findObj K C none "__class__" = some (.bind (.builtin "getset_descriptor.__get__") (.builtin "object.__class__")) := by
      obtain ⟨cd, hc⟩ := Option.isSome_iff_exists.mp k.dct
      unfold findObj
      rw [hc, Option.bind_some, k.attr, Option.bind_some]
      simp [KK.objGet, KK.objTake]
    exact exc_class X I k.ga k.gh k.base hf k.mro h
end
end Mine

namespace Mine
open Builtin Builtin.Str

theorem kvals_at : ∀ i : Fin 12, KVALS[i.val]? = some (.ref CADR[i]) := by
  intro ⟨i, hi⟩
  match i, hi with
  | 0, _ => rfl
  | 1, _ => rfl
  | 2, _ => rfl
  | 3, _ => rfl
  | 4, _ => rfl
  | 5, _ => rfl
  | 6, _ => rfl
  | 7, _ => rfl
  | 8, _ => rfl
  | 9, _ => rfl
  | 10, _ => rfl
  | 11, _ => rfl
theorem abadr_at : ∀ i : Fin 12, (ABADR.map Value.ref)[i.val]? = some (.ref ABADR[i]) := by
  intro ⟨i, hi⟩
  match i, hi with
  | 0, _ => rfl
  | 1, _ => rfl
  | 2, _ => rfl
  | 3, _ => rfl
  | 4, _ => rfl
  | 5, _ => rfl
  | 6, _ => rfl
  | 7, _ => rfl
  | 8, _ => rfl
  | 9, _ => rfl
  | 10, _ => rfl
  | 11, _ => rfl
theorem cadr_mem (i : Fin 12) : CADR[i] ∈ CADR := List.getElem_mem _
section
variable {prog : Program} {w : World} {K : Frag} {p : Program} {loose : List Str} {mean : ExcName → Option Value} {mg mb : Str → Option Value} {A₀ A : Around} {base h₀ : Heap} {outer : List Env} {L fa : Addr} {cd : Value} {d : Nat}
  {m : Str → Option Value} {news : List (Addr × Obj)} {s : Shared} {E : Value → Shared → Prop}

set_option maxHeartbeats 1000000 in
theorem law10 {Q : Flow → Shared → Prop} {os : Obj} {Ds : Addr} {ys : List Value} {zs : List Int} {n : Nat} (C : Cx K p loose mean mg mb A₀ A base h₀ outer (LE L fa cd) L d) (F : Fr h₀ L s.heap m) (N : News h₀ L s.heap news)
    (hs : (L + 1, os) ∈ news) (hos : os.data = .cell (some (.ref Ds))) (hD : (Ds, W.listOf ys.toArray n) ∈ news) (hZ : IntsAre ys zs) (hzl : zs.length = 5)
    (hQ : ∀ h' tk (i : Fin 12) tk₀, Fr h₀ L h' (fun y => if y = Str.ofString "i" then some (.int (i.val : Int) tk₀) else m y) → News h₀ L h' news → Q .next { s with heap := h', toks := tk }) :
    wpAny (model prog w) A (exec (stS 10) (LE L fa cd)) Q E s := by
  obtain ⟨z0, t0, e0, hz0⟩ := ints_get (j := 4) hZ (by omega)
  refine wpAny_Assign_Name ?_
  refine wpAny_BinOp ?_
  refine Subscript_ ?_
  refine nameX_C N rfl hs hos ?_
  refine wpAny_Constant_int ?_
  refine item_list (list_of N hD) (by decide) (by decide) (by rw [List.getElem?_toArray]; exact e0) ?_ rfl
  refine wpAny_Constant_int ?_
  refine mod_int' (by decide) ?_
  have h0 : 0 ≤ Int.fmod z0 12 := fmod_lo _ (by decide)
  have h1 : Int.fmod z0 12 < 12 := fmod_hi _ (by decide)
  obtain ⟨k, hk⟩ : ∃ k : Nat, Int.fmod z0 12 = (k : Int) := ⟨(Int.fmod z0 12).toNat, by omega⟩
  rw [hk] at h1 ⊢
  refine storeX_L F N ?_
  intro h3 F3 N3
  exact hQ h3 _ ⟨k, by omega⟩ _ F3 N3

set_option maxHeartbeats 1000000 in
theorem law11 {Q : Flow → Shared → Prop} {ow : Obj} {v₀ : Option Value} {i : Fin 12} {ti : Tok} (KN : KNames K) (KK : KKinds K) (C : Cx K p loose mean mg mb A₀ A base h₀ outer (LE L fa cd) L (d + 1)) (F : Fr h₀ L s.heap m) (N : News h₀ L s.heap news)
    (hw : (L + 1 + 1, ow) ∈ news) (how : ow.data = .cell v₀) (hmi : m (Str.ofString "i") = some (.int (i.val : Int) ti))
    (hQ : ∀ h' tk x t ow', Fr h₀ L h' m → News h₀ L h' [(x, excO CADR[i] t), (L + 1 + 1, ow')] → ow'.data = .cell (some (.ref x)) → Q .next { s with heap := h', toks := tk }) :
    wpAny (model prog w) A (exec (stS 11) (LE L fa cd)) Q E s := by
  have TR := topRead_of C.T
  have kd := KK.kind _ (cadr_mem i)
  refine wpAny_Assign_Name ?_
  refine Call_ ?_
  refine Subscript_ ?_
  refine Call_ ?_
  refine nameX_K F C.X TR KN.kindsN ?_
  refine callWith_K0 (C.X.keeps F.keep) KN.kindsK ?_
  refine kinds_call KN KK C F N ?_
  intro T h1 tk1 F1 N1
  refine nameX_L F1 hmi ?_
  refine kba_turn (value' := .Name (Str.ofString "_") ⟨0, 0, 0, 0⟩) (fun _ => rfl) ?_
  refine tup_item (N1 _ (.head _)).1 rfl rfl rfl (by omega) (by have := i.isLt; show ((i.val : Nat) : Int) < 12; omega) (by decide) (kvals_at i) ?_ rfl
  refine callWith_K0 (C.X.keeps F1.keep) kd.keep ?_
  refine make_exc C.X kd.exc F1 N1 ?_
  intro x t h2 F2 N2 hx
  have N3 : News h₀ L h2 [(x, excO CADR[i] t), (L + 1 + 1, ow)] := fun q hq => N2 q (by
    simp only [List.mem_cons, List.not_mem_nil, or_false] at hq
    rcases hq with rfl | rfl
    · exact .head _
    · exact .tail _ (.tail _ hw))
  have hne : L + 1 + 1 ≠ x := hx (L + 1 + 1, ow) (.tail _ hw)
  refine storeX_C F2 N3 rfl (.tail (Ne.symm hne) (.head (fun _ h => nomatch h))) how ?_
  intro h3 o' F4 N4 hd'
  exact hQ h3 _ x t o' F4 N4 hd'
end
end Mine

namespace Mine
open Builtin Builtin.Str

section
variable {prog : Program} {w : World} {K : Frag} {p : Program} {loose : List Str} {mean : ExcName → Option Value} {mg mb : Str → Option Value} {A₀ A : Around} {base h₀ : Heap} {outer : List Env} {env : Env} {L : Addr} {d : Nat}
  {m : Str → Option Value} {news : List (Addr × Obj)} {s : Shared} {Q E : Value → Shared → Prop}

/-- a comprehension with a test that only reads; its element only reads -/
theorem restT_ind {ct elt : Expr} {x : Str} {scope : Scope} {cl : List (Str × Addr)} {S : List (Addr × Obj) → Prop} {P : Nat → Value → Prop} {Fin : List Value → List (Addr × Obj) → Prop} (n : Nat) (T : Nat → Bool) (Good : Nat → List Value → Prop) (hS : S news)
    (good : ∀ i v ys, i < n → P i v → Good i ys → Good (i + 1) (if T i = true then ys ++ [v] else ys))
    (elem : ∀ v C m₂ (s' : Shared) (E' Q' : Value → Shared → Prop), s'.heap.Ns C m₂ → m₂ x = some v → Q' v s' → wpAny (model prog w) A (eval elt (compEnvC scope cl C env)) Q' E' s')
    (step : ∀ i v I oI C oC D m₂ h tk (E' : Value → Shared → Prop) ys (Q' : Bool → Shared → Prop), i < n → P i v → LCg.NsObj oC m₂ → m₂ x = some v → Fr h₀ L h m → News h₀ L h ((I, oI) :: (C, oC) :: (D, LCg.lst ys) :: news) →
      (∀ h' tk', Fr h₀ L h' m → News h₀ L h' ((I, oI) :: (C, oC) :: (D, LCg.lst ys) :: news) → Q' (T i) { s with heap := h', toks := tk' }) →
      wpAny (model prog w) A (isTrue ct (compEnvC scope cl C env) (eval ct (compEnvC scope cl C env))) Q' E' { s with heap := h, toks := tk })
    (fin : ∀ ys, Good n ys → Fin ys news) :
    ∀ k i ys, k + i = n → Good i ys → LCt.CompRestT prog w A h₀ L m env ct elt x scope cl s S P Fin k i ys news := by
  intro k
  induction k with
  | zero =>
    intro i ys hk hg
    have : i = n := by omega
    subst this
    exact LCt.CompRestT.zero (fin ys hg)
  | succ k ih =>
    intro i ys hk hg
    refine LCt.CompRestT.succ fun v I oI C oC D m₂ h tk E' hP hC hx F N off _ => ?_
    have hg' := good i v ys (by omega) hP hg
    refine step i v I oI C oC D m₂ h tk E' ys _ (by omega) hP hC hx F N fun h' tk' F' N' => ?_
    cases hT : T i with
    | true =>
      rw [hT, if_pos rfl] at hg'
      rw [if_pos rfl]
      refine elem v C m₂ _ _ _ (hC.ns (N' _ (.tail _ (.head _))).1) hx ?_
      exact LCg.CompEnd.intro F' N' news (fun _ h => h) off hS (ih (i + 1) _ (by omega) hg')
    | false =>
      rw [hT, if_neg (by decide)] at hg'
      rw [if_neg (by decide)]
      exact LCg.CompEnd.intro F' N' news (fun _ h => h) off hS (ih (i + 1) _ (by omega) hg')
end

def aboveI (i : Fin 12) (k : Nat) : List Int := ((List.range k).filter fun j => decide (((j : Nat) : Int) ∈ ABOVE[i])).map fun j => ((j : Nat) : Int)
theorem above_all : ∀ i : Fin 12, aboveI i 12 = ABOVE[i] := by decide +kernel
theorem above_succ (i : Fin 12) (k : Nat) : aboveI i (k + 1) = if decide (((k : Nat) : Int) ∈ ABOVE[i]) = true then aboveI i k ++ [((k : Nat) : Int)] else aboveI i k := by
  unfold aboveI
  rw [List.range_succ, List.filter_append, List.map_append]
  rw [List.filter_cons, List.filter_nil]
  split
  · rfl
  · rw [List.map_nil, List.append_nil]

section
variable {prog : Program} {w : World} {K : Frag} {p : Program} {loose : List Str} {mean : ExcName → Option Value} {mg mb : Str → Option Value} {A₀ A : Around} {base h₀ : Heap} {outer : List Env} {L fa : Addr} {cd : Value} {d : Nat}
  {m : Str → Option Value} {news : List (Addr × Obj)} {s : Shared} {E : Value → Shared → Prop}

set_option maxHeartbeats 2000000 in
theorem law12 {Q : Flow → Shared → Prop} {ow : Obj} {x t : Addr} {i : Fin 12} {ti : Tok} (KN : KNames K) (KK : KKinds K) (C : Cx K p loose mean mg mb A₀ A base h₀ outer (LE L fa cd) L (d + 1 + 1 + 1)) (F : Fr h₀ L s.heap m)
    (N : News h₀ L s.heap [(x, excO CADR[i] t), (L + 1 + 1, ow)]) (how : ow.data = .cell (some (.ref x))) (hmi : m (Str.ofString "i") = some (.int (i.val : Int) ti))
    (hQ : ∀ h' tk, Fr h₀ L h' m → Q (.ret (.bool true)) { s with heap := h', toks := tk }) :
    wpAny (model prog w) A (exec (stS 12) (LE L fa cd)) Q E s := by
  have TR := topRead_of C.T
  have kd := KK.kind _ (cadr_mem i)
  refine wpAny_Return_some ?_
  refine wpAny_Compare1 ?_
  refine LCt.ListComp_T (cl := [(Str.ofString "wrong", L + 1 + 1)]) F rfl (by decide) rfl (by decide) rfl ?_
  refine Call_ ?_
  refine nameX_B F C.X TR KN.rangeN boot_range (by decide) ?_
  refine Pv.callWith_type1 ?_
  refine args_cons ?_
  refine wpAny_Constant_int ?_
  refine args_nil ?_
  refine range1_rows F N ?_
  intro h1 tk1 t1 u1 v1 hr F1 N1 _
  refine LCt.CompSrcT.range (n := 12) C.hh F1 N1 hr (by decide) (by decide) (by rw [sizeLine_eq]; exact (by decide : 12 ≤ 16777216)) fun g => ?_
  refine restT_ind 12 (fun j => decide (((j : Nat) : Int) ∈ ABOVE[i])) (fun j ys => IntsAre ys (aboveI i j)) trivial ?_ ?_ ?_ ?_ _ _ _ (Nat.add_zero _) .nil
  · rintro j v ys hj ⟨tv, rfl⟩ hg
    rw [above_succ]
    split
    · rw [Int.zero_add]
      exact ints_snoc hg
    · exact hg
  · intro v C₂ m₂ s' E' Q' hns hx' hq
    exact ldVarK hns hx' hq rfl rfl (by decide)
  · rintro j v I oI C₂ oC D m₂ h tk E' ys' Q' hj ⟨tv, rfl⟩ hC hx' F9 N9 hq
    refine isTrue_plain ?_
    refine Call_ ?_
    refine LCgL.ld_built F9 C.X C.T KN.isN boot_isinstance (by decide) ?_
    refine PyProof.Rows.callWith_builtin1 ?_
    refine args_cons ?_
    refine ld_cellC N9 rfl (.tail _ (.tail _ (.tail _ (.tail _ (.head _))))) how ?_
    refine args_cons ?_
    refine Subscript_ ?_
    refine Call_ ?_
    refine LCgL.ld_global F9 C.X C.T KN.kindsN ?_
    refine callWith_K0 (C.X.keeps F9.keep) KN.kindsK ?_
    refine kinds_call KN KK C F9 N9 ?_
    intro T h2 tk2 F2 N2
    refine ldVarK (hC.ns (N2 _ (.tail _ (.tail _ (.head _)))).1) hx' ?_ rfl rfl (by decide)
    refine kba_turn (value' := .Name (Str.ofString "_") ⟨0, 0, 0, 0⟩) (fun _ => rfl) ?_
    refine tup_item (v := .ref CADR[(⟨j, hj⟩ : Fin 12)]) (N2 _ (.head _)).1 rfl rfl rfl (by omega) (by show (0 : Int) + ((j : Nat) : Int) < 12; omega) (by decide) (by
      have e : ((0 : Int) + ((j : Nat) : Int)).toNat = j := by omega
      rw [e]; exact kvals_at ⟨j, hj⟩) ?_ rfl
    refine args_nil ?_
    refine kia_one (kitx_exc KK kd) (C.X.keeps F2.keep) ⟨(N2 _ (.tail _ (.tail _ (.tail _ (.tail _ (.head _)))))).1, rfl, rfl, trivial⟩ (KK.isi i ⟨j, hj⟩) (by intro q; cases q) ?_
    intro tk3
    refine wpAny_truthy_bool ?_
    exact hq h2 tk3 F2 fun q hq => N2 q (.tail _ hq)
  · intro ys hg D h tk F9 N9 _
    rw [above_all] at hg
    obtain ⟨oT, itsT, nT, hT1, hT2, hT3, hT4⟩ := KK.above
    obtain ⟨oR, itsR, nR, hR1, hR2, hR3, hR4⟩ := KK.row i
    refine Call_ ?_
    refine nameX_B F9 C.X TR KN.listN Pv.boot_list (by decide) ?_
    refine Pv.callWith_type1 ?_
    refine args_cons ?_
    refine Subscript_ ?_
    refine nameX_K F9 C.X TR KN.aboveN ?_
    refine nameX_L F9 hmi ?_
    refine tup_item (C.X.keeps F9.keep _ _ hT1) hT2 hT3 hT4 (by omega) (by have := i.isLt; show ((i.val : Nat) : Int) < 12; omega) (by decide) (abadr_at i) ?_ rfl
    refine args_nil ?_
    refine list_copyKT F9 N9 ⟨oR, C.X.keeps F9.keep _ _ hR1, hR2, nR, hR3⟩ ?_ (by
      have hl := hR4.length
      have : ∀ i : Fin 12, ABOVE[i].length ≤ 3 := by decide
      have := this i
      rw [← Array.length_toList, hl, sizeLine_eq]; omega)
    intro D2 c h2 F2 N2 _
    refine eq_intsK (list_of (n := _) N2 (.tail _ (.head _))) hg (by
      have : h2.IsList D2 itsR := N2.isList (.head _)
      simpa using this) hR4 (by have := C.hu; omega) ?_
    rw [decide_eq_true rfl]
    exact hQ h2 _ F2
end
end Mine

namespace Mine
open Builtin Builtin.Str

theorem vals_plain {v : Value} (h : IsVal v ∧ ((∃ x t, v = .str x t ∧ x ∈ VALUES) ∨ ∃ i t, v = .int i t)) : ∀ c ∈ vText v, Unicode.isSpace c = blank c := by
  obtain ⟨h1, ⟨x, t, rfl, hx⟩ | ⟨i, t, rfl⟩⟩ := h
  · exact values_plain x hx
  · rcases h1 with ⟨_, _, e, _⟩ | ⟨j, u, e, h0, _⟩
    · cases e
    · cases e; exact digit_plain h0

section
variable {prog : Program} {w : World} {K : Frag} {p : Program} {loose : List Str} {mean : ExcName → Option Value} {mg mb : Str → Option Value} {A₀ A : Around} {h₀ : Heap} {outer : List Env} {L fa : Addr} {cd : Value} {d : Nat}
  {m : Str → Option Value} {news : List (Addr × Obj)} {s : Shared}

set_option maxHeartbeats 4000000 in
theorem law_body {Q : Flow → Shared → Prop} {ow os : Obj} {v₀ v₁ : Option Value} {sc : Addr} {vs : List Value} {ns : List Int} (KN : KNames K) (KK : KKinds K)
    (C : Cx K p loose mean mg mb A₀ A h₀ h₀ outer (LE L fa cd) L (d + 1 + 1 + 1)) (F : Fr h₀ L s.heap m) (N : News h₀ L s.heap [(L + 1 + 1, ow), (L + 1, os)])
    (how : ow.data = .cell v₁) (hos : os.data = .cell v₀) (hm : m (Str.ofString "script") = some (.ref sc)) (hsc : h₀.IsList sc vs.toArray) (hI : IntsAre vs ns) (hlen : ns.length ≤ 63)
    (hQ : ∀ h' tk m', Fr h₀ L h' m' → Q (.ret (.bool true)) { s with heap := h', toks := tk }) :
    wpAny (model prog w) A (execs (fBody (stmtAt 26)) (LE L fa cd)) Q (fun _ _ => False) s := by
  refine wpAny_execs_cons ?_
  refine law0 KN C F N hos hm hsc hI hlen ?_
  intro h1 tk1 Ds ys zs os1 F1 N1 hos1 hZ hzl hz hne1 hne2
  refine wpAny_execs_cons ?_
  refine law1 KN C F1 N1 (.tail _ (.tail _ (.head _))) hos1 (.head _) hZ hzl hz ?_
  intro h2 tk2 Dp pvs ps F2 N2 hP hpl hps hDp
  refine wpAny_execs_cons ?_
  refine law2 KN C F2 N2 (.tail _ (.tail _ (.tail _ (.head _)))) hos1 (.tail _ (.head _)) hZ hzl ?_
  intro h3 tk3 hd th tl tt F3 N3 hh ht
  refine wpAny_execs_cons ?_
  refine law3 C F3 N3 (.tail _ (.tail _ (.tail _ (.head _)))) hos1 (.tail _ (.head _)) hZ hzl ?_
  intro h4 tk4 k tkm F4 N4 hk0 hk4
  refine wpAny_execs_cons ?_
  refine law4 KN C F4 N4 (.tail _ (.tail _ (.tail _ (.head _)))) hos1 (.tail _ (.head _)) hZ rfl hk0 hk4 hzl hz ?_
  intro h5 tk5 Dv vvs xs F5 N5 hV hxl hxs hDv
  refine wpAny_execs_cons ?_
  refine law5 C F5 N5 hos1 hZ hzl hz ((if_neg (by decide)).trans rfl) rfl hV hxl hxs hDv ?_
  intro h6 tk6 us F6 N6 hus hul
  have hul3 : us.length ≤ 3 := by omega
  refine wpAny_execs_cons ?_
  refine law6 F6 N6 (.tail _ (.head _)) hP hps hpl rfl rfl rfl hh ht ?_
  intro h7 tk7 x tx F7 N7 hxe hxle
  have hw : WF x.cps.toList := by rw [hxe]; exact wf_text hh ht hps
  have hpln : ∀ c ∈ x.cps.toList, Unicode.isSpace c = blank c := by
    intro c hc
    rw [hxe] at hc
    rcases List.mem_append.mp hc with hc | hc
    · exact ends_plain hd hh c hc
    · rcases List.mem_append.mp hc with hc | hc
      · obtain ⟨l, hl, hc⟩ := List.mem_flatten.mp hc
        obtain ⟨y, hy, rfl⟩ := List.mem_map.mp hl
        exact pieces_plain y (hps y hy) c hc
      · exact ends_plain tl ht c hc
  refine wpAny_execs_cons ?_
  refine law7 KN C F7 N7 rfl hxle hw hpln ?_
  intro h8 tk8 F8 N8
  refine wpAny_execs_cons ?_
  refine law8 KN C F8 N8 (.tail _ (.head _)) (.head _) hP hps hpl (fun v hv => (hus v hv).1) hul3 rfl rfl ?_
  intro h9 tk9 due F9 N9 hdue
  refine wpAny_execs_cons ?_
  refine law9 KN C F9 N9 rfl rfl rfl rfl rfl (.head _) hxle hh ht hps hxe (fun v hv => (hus v hv).1) hul3 (fun v hv => vals_plain (hus v hv)) hdue ?_
  intro h10 tk10 m10 F10 N10
  refine wpAny_execs_cons ?_
  refine law10 C F10 N10 (.tail _ (.tail _ (.tail _ (.tail _ (.head _))))) hos1 (.tail _ (.tail _ (.head _))) hZ hzl ?_
  intro h11 tk11 i ti F11 N11
  refine wpAny_execs_cons ?_
  refine law11 KN KK C F11 N11 (.tail _ (.tail _ (.tail _ (.head _)))) how rfl ?_
  intro h12 tk12 xw tw ow' F12 N12 how'
  refine wpAny_execs_cons ?_
  refine law12 KN KK C F12 N12 how' rfl ?_
  intro h13 tk13 F13
  exact hQ h13 tk13 _ F13
end
end Mine

namespace Mine
theorem names_of {K : Frag} {h : Heap} (_ : K.In h) (n : KNames K) : KNames K := n
theorem kind_of {K : Frag} {h : Heap} (C : Addr) (_ : K.In h) (n : Kind K C) : Kind K C := n
theorem kinds_of {K : Frag} {h : Heap} (_ : K.In h) (n : KKinds K) : KKinds K := n
theorem isi_of {K : Frag} {h : Heap} (_ : K.In h) (e : (List.finRange 12).all (fun i => (List.finRange 12).all fun j => kitOne K (.ref CADR[i]) (.ref CADR[j]) == some (decide (((j.val : Nat) : Int) ∈ ABOVE[i]))) = true) :
    ∀ i : Fin 12, ∀ j : Fin 12, kitOne K (.ref CADR[i]) (.ref CADR[j]) = some (decide (((j.val : Nat) : Int) ∈ ABOVE[i])) := by
  intro i j
  rw [List.all_eq_true] at e
  have h1 := e i (List.mem_finRange i)
  rw [List.all_eq_true] at h1
  exact beq_iff_eq.mp (h1 j (List.mem_finRange j))
theorem kind_all {K : Frag} (k0 : Kind K 31) (k1 : Kind K 44) (k2 : Kind K 56) (k3 : Kind K 68) (k4 : Kind K 81) (k5 : Kind K 93) (k6 : Kind K 106) (k7 : Kind K 118) (k8 : Kind K 131) (k9 : Kind K 144) (k10 : Kind K 156) (k11 : Kind K 168) :
    ∀ C ∈ CADR, Kind K C := by
  intro C hC
  simp only [CADR, List.mem_cons, List.not_mem_nil, or_false] at hC
  rcases hC with rfl | rfl | rfl | rfl | rfl | rfl | rfl | rfl | rfl | rfl | rfl | rfl <;> assumption
abbrev RowAt (K : Frag) (a : Addr) (l : List Int) : Prop := ∃ o its n, K.lookup a = some o ∧ o.cls = .type "tuple" ∧ o.data = .seq its n ∧ IntsAre its.toList l
theorem row_all {K : Frag} (r0 : RowAt K 188 [0]) (r1 : RowAt K 189 [0, 1]) (r2 : RowAt K 190 [0, 2]) (r3 : RowAt K 191 [3]) (r4 : RowAt K 192 [3, 4]) (r5 : RowAt K 193 [5]) (r6 : RowAt K 194 [5, 6]) (r7 : RowAt K 195 [7]) (r8 : RowAt K 196 [8]) (r9 : RowAt K 197 [8, 9]) (r10 : RowAt K 198 [8, 9, 10]) (r11 : RowAt K 199 [8, 9, 11]) :
    ∀ i : Fin 12, ∃ o its n, K.lookup ABADR[i] = some o ∧ o.cls = .type "tuple" ∧ o.data = .seq its n ∧ IntsAre its.toList ABOVE[i] := by
  intro ⟨i, hi⟩
  match i, hi with
  | 0, _ => exact r0
  | 1, _ => exact r1
  | 2, _ => exact r2
  | 3, _ => exact r3
  | 4, _ => exact r4
  | 5, _ => exact r5
  | 6, _ => exact r6
  | 7, _ => exact r7
  | 8, _ => exact r8
  | 9, _ => exact r9
  | 10, _ => exact r10
  | 11, _ => exact r11
end Mine
end

set_option maxRecDepth 100000 in
set_option maxHeartbeats 8000000 in
theorem PySem.Challenge.cw_bc6004_01_holds : PySem.Challenge.rw_bc6004_01.Holds := by
  w_on
  o_law
  k_head
  case hw => w_witness2
  w_strict (
    k_go0
    rename_i w s₀ s₁ mg mb G Y fa o pm doc ho hg KX X V GL T B TE TW a11 a10 M a9 a8 hcd ns hs hlay0 hL1 hr1 hl2 a6 a5 a4 vs a2 hL ra w1 r0 hI hr hc1 hc2 K0 hD h₁ tk₁ F ow os how hos N0 X0
    have KN := Mine.names_of KX {
       cut := ⟨⟨_, _, _, _, _, rfl, by kernel_rfl⟩⟩,
       filled := ⟨⟨_, _, _, _, _, rfl, by kernel_rfl⟩⟩,
       said := ⟨⟨_, _, _, _, _, rfl, by kernel_rfl⟩⟩,
       pretty := ⟨⟨_, _, _, _, _, rfl, by kernel_rfl⟩⟩,
       kinds := ⟨⟨_, _, _, _, _, rfl, by kernel_rfl⟩⟩,
       pad := ⟨⟨_, _, _, _, _, rfl, by kernel_rfl⟩⟩,
       blankN := by kernel_rfl,
       prettyN := by kernel_rfl,
       prettyK := by kernel_rfl,
       lenN := by kernel_rfl,
       strN := by kernel_rfl,
       minN := by kernel_rfl,
       rangeN := by kernel_rfl,
       listN := by kernel_rfl,
       isN := by kernel_rfl,
       typeN := by kernel_rfl,
       padN := by kernel_rfl,
       padK := by kernel_rfl,
       kindsN := by kernel_rfl,
       kindsK := by kernel_rfl,
       cutN := by kernel_rfl,
       cutK := by kernel_rfl,
       filledN := by kernel_rfl,
       filledK := by kernel_rfl,
       saidN := by kernel_rfl,
       saidK := by kernel_rfl,
       piecesN := by kernel_rfl,
       endsN := by kernel_rfl,
       valuesN := by kernel_rfl,
       aboveN := by kernel_rfl,
       piecesT := ⟨_, _, _, rfl, rfl, rfl, .cons _ _ (.cons _ _ (.cons _ _ (.cons _ _ (.cons _ _ (.cons _ _ (.cons _ _ (.cons _ _ .nil)))))))⟩,
       endsT := ⟨_, _, _, rfl, rfl, rfl, .cons _ _ (.cons _ _ (.cons _ _ (.cons _ _ (.cons _ _ .nil))))⟩,
       valuesT := ⟨_, _, _, rfl, rfl, rfl, .cons _ _ (.cons _ _ (.cons _ _ (.cons _ _ (.cons _ _ (.cons _ _ .nil)))))⟩ }
    have k0 := Mine.kind_of 31 KX ⟨by kernel_rfl, by kernel_rfl, by kernel_rfl, by kernel_rfl, by kernel_rfl, by kernel_rfl, by kernel_rfl, by kernel_rfl⟩
    have k1 := Mine.kind_of 44 KX ⟨by kernel_rfl, by kernel_rfl, by kernel_rfl, by kernel_rfl, by kernel_rfl, by kernel_rfl, by kernel_rfl, by kernel_rfl⟩
    have k2 := Mine.kind_of 56 KX ⟨by kernel_rfl, by kernel_rfl, by kernel_rfl, by kernel_rfl, by kernel_rfl, by kernel_rfl, by kernel_rfl, by kernel_rfl⟩
    have k3 := Mine.kind_of 68 KX ⟨by kernel_rfl, by kernel_rfl, by kernel_rfl, by kernel_rfl, by kernel_rfl, by kernel_rfl, by kernel_rfl, by kernel_rfl⟩
    have k4 := Mine.kind_of 81 KX ⟨by kernel_rfl, by kernel_rfl, by kernel_rfl, by kernel_rfl, by kernel_rfl, by kernel_rfl, by kernel_rfl, by kernel_rfl⟩
    have k5 := Mine.kind_of 93 KX ⟨by kernel_rfl, by kernel_rfl, by kernel_rfl, by kernel_rfl, by kernel_rfl, by kernel_rfl, by kernel_rfl, by kernel_rfl⟩
    have k6 := Mine.kind_of 106 KX ⟨by kernel_rfl, by kernel_rfl, by kernel_rfl, by kernel_rfl, by kernel_rfl, by kernel_rfl, by kernel_rfl, by kernel_rfl⟩
    have k7 := Mine.kind_of 118 KX ⟨by kernel_rfl, by kernel_rfl, by kernel_rfl, by kernel_rfl, by kernel_rfl, by kernel_rfl, by kernel_rfl, by kernel_rfl⟩
    have k8 := Mine.kind_of 131 KX ⟨by kernel_rfl, by kernel_rfl, by kernel_rfl, by kernel_rfl, by kernel_rfl, by kernel_rfl, by kernel_rfl, by kernel_rfl⟩
    have k9 := Mine.kind_of 144 KX ⟨by kernel_rfl, by kernel_rfl, by kernel_rfl, by kernel_rfl, by kernel_rfl, by kernel_rfl, by kernel_rfl, by kernel_rfl⟩
    have k10 := Mine.kind_of 156 KX ⟨by kernel_rfl, by kernel_rfl, by kernel_rfl, by kernel_rfl, by kernel_rfl, by kernel_rfl, by kernel_rfl, by kernel_rfl⟩
    have k11 := Mine.kind_of 168 KX ⟨by kernel_rfl, by kernel_rfl, by kernel_rfl, by kernel_rfl, by kernel_rfl, by kernel_rfl, by kernel_rfl, by kernel_rfl⟩
    have hi := Mine.isi_of KX (by kernel_rfl)
    have KK := Mine.kinds_of KX {
      n0 := by kernel_rfl,
      n1 := by kernel_rfl,
      n2 := by kernel_rfl,
      n3 := by kernel_rfl,
      n4 := by kernel_rfl,
      n5 := by kernel_rfl,
      n6 := by kernel_rfl,
      n7 := by kernel_rfl,
      n8 := by kernel_rfl,
      n9 := by kernel_rfl,
      n10 := by kernel_rfl,
      n11 := by kernel_rfl,
      kind := Mine.kind_all k0 k1 k2 k3 k4 k5 k6 k7 k8 k9 k10 k11,
      objGet := by kernel_rfl,
      objTake := by kernel_rfl,
      isi := hi,
      above := ⟨_, _, _, rfl, rfl, rfl, rfl⟩,
      row := (Mine.row_all ⟨_, _, _, rfl, rfl, rfl, (.cons _ _ .nil)⟩ ⟨_, _, _, rfl, rfl, rfl, (.cons _ _ (.cons _ _ .nil))⟩ ⟨_, _, _, rfl, rfl, rfl, (.cons _ _ (.cons _ _ .nil))⟩ ⟨_, _, _, rfl, rfl, rfl, (.cons _ _ .nil)⟩ ⟨_, _, _, rfl, rfl, rfl, (.cons _ _ (.cons _ _ .nil))⟩ ⟨_, _, _, rfl, rfl, rfl, (.cons _ _ .nil)⟩ ⟨_, _, _, rfl, rfl, rfl, (.cons _ _ (.cons _ _ .nil))⟩ ⟨_, _, _, rfl, rfl, rfl, (.cons _ _ .nil)⟩ ⟨_, _, _, rfl, rfl, rfl, (.cons _ _ .nil)⟩ ⟨_, _, _, rfl, rfl, rfl, (.cons _ _ (.cons _ _ .nil))⟩ ⟨_, _, _, rfl, rfl, rfl, (.cons _ _ (.cons _ _ (.cons _ _ .nil)))⟩ ⟨_, _, _, rfl, rfl, rfl, (.cons _ _ (.cons _ _ (.cons _ _ .nil)))⟩) }
    have hlen : ns.length ≤ 63 := by omega
    refine wpAny_mono (Mine.law_body (d := 0) KN KK ⟨K0, KX, T, Around.frames_deeper rfl, rfl, rfl, by simp only [depth_deeper, depth_caller]; decide, by rw [units_deeper, units_caller]; decide, rfl⟩ F N0 how hos rfl hL hI hlen ?_) (fun _ _ h => h) (fun _ _ h => h.elim)
    intro h' tk m' F'
    refine goodW_bool F' hg (fun _ => rfl) ?_
    wrow_post)
