import PyProof.Rows.All
import Wide.All
import OpenK.AllK
import Wide.FinOn
import PyProof.ListRange
import PyProof.ListTruth
import PyProof.MeetsSeq
import PyProof.SliceList
import PyProof.WalkInts
import Lean
import PySem.Challenge.RW_re0028_01
set_option Elab.async false
set_option maxRecDepth 100000
set_option linter.unusedVariables false

/-! part RunL -/
namespace Mine
open PySem PySem.W PySem.W.X PySem.Spec PySem.Calls PyProof.Rows

noncomputable abbrev Cells := List (Addr × Obj)
structure Frm where
  k : Result → Sem Fin
  g : Bool
  l : List Value
  c : Code
  p : Pos
inductive Out where
  | fin (r : Result)
  | again (c : Code) (p : Pos)
  | susp (v : Value) (g : Bool) (l : List Value) (k : Resume → Sem Fin) (c : Code) (p : Pos) (κ : List Frm)
inductive Item where
  | a (x : Nat)
  | o (x : Obj)
  | v (x : Value)
  | s (x : Str)
  | c (x : Code)
  | b (x : List (Code × Pos))
  | g (x : GenState)
  | p (x : Prop)
structure SPost where
  t : Sem Fin
  p : Pos
  upd : List (Nat × Obj)
  news : List (Addr × Obj)
  tk : Nat
  chk : List (Item × Item)
structure GPost where
  res : GenResult
  st : GenState
  upd : List (Nat × Obj)
  news : List (Addr × Obj)
  tk : Nat
  chk : List (Item × Item)
structure Post where
  res : Result
  upd : List (Nat × Obj)
  news : List (Addr × Obj)
  tk : Nat
  chk : List (Item × Item)
noncomputable abbrev ConF := Code → List (Code × Pos) → Cells → Nat → List Nat → Option Post
noncomputable abbrev SkF := Code → List (Code × Pos) → Cells → Nat → List Nat → Option SPost
noncomputable abbrev GkF := List (Code × Pos) → Cells → Nat → GenState → List Nat → Option GPost
structure CPost where
  res : Result
  upd : List (Nat × Obj)
  news : List (Addr × Obj)
  tk : Nat
  gs : List (Nat × GenState)
  chk : List (Item × Item)
noncomputable abbrev CgF := Code → List (Code × Pos) → Cells → Nat → List (Nat × GenState) → List Nat → Option CPost
inductive Ev where
  | st
  | dy (i : Nat)
  | go
  | stop
  | con (m : Nat) (F : ConF)
  | sk (m : Nat) (F : SkF)
  | wk (m : Nat) (G : GkF)
  | cg (m : Nat) (F : CgF)
structure Res where
  out : Out
  cs : Cells
  tk : Nat
  gs : List (Nat × GenState)
  prs : List (Item × Item)

noncomputable def getC : Cells → Nat → Option (Addr × Obj)
  | [], _ => none
  | x :: _, 0 => some x
  | _ :: l, i + 1 => getC l i
noncomputable def setC : Cells → Nat → Obj → Cells
  | [], _, _ => []
  | x :: l, 0, o => (x.1, o) :: l
  | x :: l, i + 1, o => x :: setC l i o
noncomputable def setAll : Cells → List (Nat × Obj) → Cells
  | cs, [] => cs
  | cs, u :: us => setAll (setC cs u.1 u.2) us
noncomputable def applyPost (cs : Cells) (po : Post) : Cells := setAll cs po.upd ++ po.news
noncomputable def appU (cs : Cells) (upd : List (Nat × Obj)) (news : List (Addr × Obj)) : Cells := setAll cs upd ++ news
noncomputable def splitN : Nat → List Nat → Option (List Nat × List Nat)
  | 0, l => some ([], l)
  | _ + 1, [] => none
  | n + 1, x :: l => match splitN n l with
    | some (a, b) => some (x :: a, b)
    | none => none

noncomputable def run (den : Code → Sem Fin) (pg : Program) (P : Params) (kt : KT) : Nat → List Ev → Sem Fin → Code → Pos → List (Code × Pos) → List Frm → Cells → Nat → List (Nat × GenState) → List (Item × Item) → List Nat → Option Res
  | 0, _, _, _, _, _, _, _, _, _, _, _ => none
  | n + 1, log, t, c, p, bl, κ, cs, tk, gs, pr, sup =>
    match t with
    | .pure fin => match fin with
      | .done f => match κ with
        | [] => match log, sup with
          | [], [] => some ⟨.fin (.ok f), cs, tk, gs, pr⟩
          | _, _ => none
        | fr :: κ => run den pg P kt n log (fr.k (.ok f)) fr.c fr.p bl.tail κ cs tk gs pr sup
      | .again c2 => match c2.quiet with
        | false => none
        | true => match log with
          | .go :: log => run den pg P kt n log (den c2) c2 p bl κ cs tk gs pr sup
          | .stop :: log => match κ, log, sup with
            | [], [], [] => some ⟨.again c2 p, cs, tk, gs, pr⟩
            | _, _, _ => none
          | .con m F :: log => match splitN m sup with
            | some (ns, sup) => match F c2 bl cs tk ns with
              | some po => match κ with
                | [] => match log, sup with
                  | [], [] => some ⟨.fin po.res, applyPost cs po, po.tk, gs, po.chk ++ pr⟩
                  | _, _ => none
                | fr :: κ => run den pg P kt n log (fr.k po.res) fr.c fr.p bl.tail κ (applyPost cs po) po.tk gs (po.chk ++ pr) sup
              | none => none
            | none => none
          | .cg m F :: log => match splitN m sup with
            | some (ns, sup) => match F c2 bl cs tk gs ns with
              | some po => match κ with
                | [] => match log, sup with
                  | [], [] => some ⟨.fin po.res, appU cs po.upd po.news, po.tk, po.gs, po.chk ++ pr⟩
                  | _, _ => none
                | fr :: κ => run den pg P kt n log (fr.k po.res) fr.c fr.p bl.tail κ (appU cs po.upd po.news) po.tk po.gs (po.chk ++ pr) sup
              | none => none
            | none => none
          | .sk m F :: log => match splitN m sup with
            | some (ns, sup) => match F c2 bl cs tk ns with
              | some po => run den pg P kt n log po.t c2 po.p bl κ (appU cs po.upd po.news) po.tk gs (po.chk ++ pr) sup
              | none => none
            | none => none
          | _ => none
    | .raise e => match κ with
        | [] => match log, sup with
          | [], [] => some ⟨.fin (.error e), cs, tk, gs, pr⟩
          | _, _ => none
        | fr :: κ => run den pg P kt n log (fr.k (.error e)) fr.c fr.p bl.tail κ cs tk gs pr sup
    | .rule _ k => run den pg P kt n log (k ()) c p bl κ cs tk gs pr sup
    | .at p k => run den pg P kt n log (k ()) c p bl κ cs tk gs pr sup
    | .point _ k => run den pg P kt n log (k ()) c p bl κ cs tk gs pr sup
    | .ask k => run den pg P kt n log (k ⟨pg, P⟩) c p bl κ cs tk gs pr sup
    | .load a _ k => match log with
      | .st :: log => match kt.get a with
        | some o => run den pg P kt n log (k o) c p bl κ cs tk gs pr sup
        | none => none
      | .dy i :: log => match getC cs i with
        | some (x, o) => run den pg P kt n log (k o) c p bl κ cs tk gs ((.a a, .a x) :: pr) sup
        | none => none
      | _ => none
    | .update a _ f k => match log with
      | .dy i :: log => match getC cs i with
        | some (x, o) => match (f o).isFreed with
          | false => run den pg P kt n log (k ()) c p bl κ (setC cs i (f o)) tk gs ((.a a, .a x) :: pr) sup
          | true => none
        | none => none
      | _ => none
    | .alloc o k => match o.isFreed with
      | true => none
      | false => match sup with
        | a :: sup => run den pg P kt n log (k a) c p bl κ (cs ++ [(a, o)]) tk gs pr sup
        | [] => none
    | .fresh k => run den pg P kt n log (k tk) c p bl κ cs (tk + 1) gs pr sup
    | .handled _ k => run den pg P kt n log (k none) c p bl κ cs tk gs pr sup
    | .stack k => run den pg P kt n log (k ((c, p) :: bl)) c p bl κ cs tk gs pr sup
    | .newGen c2 k => match sup with
      | g :: sup => run den pg P kt n log (k g) c p bl κ cs tk (gs ++ [(g, .fresh c2)]) pr sup
      | [] => none
    | .yield v g l k => match log, sup with
      | [], [] => some ⟨.susp v g l k c p κ, cs, tk, gs, pr⟩
      | _, _ => none
    | .call c2 hd g l k => match hd with
      | some _ => none
      | none => match log with
        | .go :: log => run den pg P kt n log (den c2) c2 p ((c, p) :: bl) (⟨k, g, l, c, p⟩ :: κ) cs tk gs pr sup
        | .con m F :: log => match splitN m sup with
          | some (ns, sup) => match F c2 ((c, p) :: bl) cs tk ns with
            | some po => run den pg P kt n log (k po.res) c p bl κ (applyPost cs po) po.tk gs (po.chk ++ pr) sup
            | none => none
          | none => none
        | .cg m F :: log => match splitN m sup with
          | some (ns, sup) => match F c2 ((c, p) :: bl) cs tk gs ns with
            | some po => run den pg P kt n log (k po.res) c p bl κ (appU cs po.upd po.news) po.tk po.gs (po.chk ++ pr) sup
            | none => none
          | none => none
        | .sk m F :: log => match splitN m sup with
          | some (ns, sup) => match F c2 ((c, p) :: bl) cs tk ns with
            | some po => run den pg P kt n log po.t c2 po.p ((c, p) :: bl) (⟨k, g, l, c, p⟩ :: κ) (appU cs po.upd po.news) po.tk gs (po.chk ++ pr) sup
            | none => none
          | none => none
        | _ => none
    | .genState g k => match gs with
      | [(g', st)] => run den pg P kt n log (k st.seen) c p bl κ cs tk gs ((.a g, .a g') :: pr) sup
      | _ => none
    | .resume g r _ k => match r with
      | .send .none => match gs with
        | [(g', st)] => match log with
          | .wk m G :: log => match splitN m sup with
            | some (ns, sup) => match G ((c, p) :: bl) cs tk st ns with
              | some po => run den pg P kt n log (k po.res) c p bl κ (appU cs po.upd po.news) po.tk [(g', po.st)] (((.a g, .a g') :: po.chk) ++ pr) sup
              | none => none
            | none => none
          | _ => none
        | _ => none
      | _ => none
    | _ => none

/-! soundness -/
noncomputable abbrev cx (c : Code) (bl : List (Code × Pos)) : PySem.Ctx := ⟨c, none, none, bl, none⟩

structure Inv (kt : KT) (s₀ : Shared) (T : List Addr) (s : Shared) (cs : Cells) (tk : Nat) (gs : List (Nat × GenState) := []) : Prop where
  st : ∀ a o, kt.get a = some o → s.heap.get? a = some o
  cell : ∀ x ∈ cs, s.heap.get? x.1 = some x.2
  nodup : (cs.map (·.1)).Nodup
  apart : ∀ x ∈ cs, kt.get x.1 = none
  mine : ∀ x ∈ cs, x.1 ∈ T ∨ s₀.heap.get? x.1 = none
  tk : s.toks = tk
  keep : ∀ b o, s₀.heap.get? b = some o → b ∉ T → s.heap.get? b = some o
  size : ∀ b, s₀.heap.get? b ≠ none → s.heap.get? b ≠ none
  gens : ∀ (g : Nat) (x : GenState), s₀.gens[g]? = some x → s.gens[g]? = some x
  gsz : s₀.gens.size ≤ s.gens.size
  gs : ∀ x ∈ gs, s.gens[x.1]? = some x.2 ∧ s₀.gens.size ≤ x.1
  bare : AllBare s.gens
  os : s.os = s₀.os

theorem getC_mem : ∀ {cs : Cells} {i : Nat} {x : Addr × Obj}, getC cs i = some x → x ∈ cs
  | [], _, _, h => by cases h
  | y :: l, 0, x, h => by
    have : y = x := Option.some.inj h
    subst this; exact .head _
  | y :: l, i + 1, x, h => .tail _ (getC_mem (cs := l) h)
theorem setC_fst : ∀ (cs : Cells) (i : Nat) (o : Obj), (setC cs i o).map (·.1) = cs.map (·.1)
  | [], _, _ => rfl
  | x :: l, 0, o => rfl
  | x :: l, i + 1, o => by show _ :: (setC l i o).map _ = _; rw [setC_fst l i o]; rfl
theorem setC_mem : ∀ {cs : Cells} {i : Nat} {x : Addr} {o o' : Obj}, (cs.map (·.1)).Nodup → getC cs i = some (x, o) → ∀ y ∈ setC cs i o', (y = (x, o')) ∨ (y ∈ cs ∧ y.1 ≠ x)
  | [], _, _, _, _, _, h => by cases h
  | z :: l, 0, x, o, o', hn, h => fun y hy => by
    have : z = (x, o) := Option.some.inj h
    subst this
    have hn' := List.nodup_cons.mp hn
    rcases List.mem_cons.mp hy with e | e
    · exact .inl e
    · exact .inr ⟨.tail _ e, fun q => hn'.1 (by show x ∈ _; rw [← q]; exact List.mem_map_of_mem (f := (·.1)) e)⟩
  | z :: l, i + 1, x, o, o', hn, h => fun y hy => by
    have hn' := List.nodup_cons.mp hn
    rcases List.mem_cons.mp hy with e | e
    · subst e
      refine .inr ⟨.head _, fun q => hn'.1 ?_⟩
      show y.1 ∈ _
      rw [q]
      exact List.mem_map_of_mem (f := (·.1)) (getC_mem (cs := l) (i := i) h)
    · rcases setC_mem (cs := l) hn'.2 h y e with q | ⟨q, q'⟩
      · exact .inl q
      · exact .inr ⟨.tail _ q, q'⟩

section
variable {kt : KT} {s₀ s : Shared} {T : List Addr} {cs : Cells} {tk : Nat} {gs : List (Nat × GenState)}
theorem Inv.alloc (I : Inv kt s₀ T s cs tk gs) {o : Obj} (hf : o.isFreed = false) : Inv kt s₀ T { s with heap := s.heap.push o } (cs ++ [(s.heap.objs.size, o)]) tk gs := by
  have lt : ∀ x ∈ cs, x.1 < s.heap.objs.size := fun x hx => Heap.lt_size (I.cell x hx)
  refine ⟨fun a o' e => Heap.get?_push_of_some _ (I.st a o' e), fun x hx => ?_, ?_, fun x hx => ?_, fun x hx => ?_, I.tk, fun b o' e h => Heap.get?_push_of_some _ (I.keep b o' e h), ?_, I.gens, I.gsz, I.gs, I.bare, I.os⟩
  · rcases List.mem_append.mp hx with hx | hx
    · exact Heap.get?_push_of_some _ (I.cell x hx)
    · rw [List.mem_singleton.mp hx]; exact Heap.get?_push_size _ hf
  · rw [List.map_append, List.nodup_append]
    refine ⟨I.nodup, by simp, fun a ha b hb => ?_⟩
    obtain ⟨x, hx, rfl⟩ := List.mem_map.mp ha
    have e : b = s.heap.objs.size := by simpa using hb
    have l := lt x hx
    rw [e]
    exact Nat.ne_of_lt l
  · rcases List.mem_append.mp hx with hx | hx
    · exact I.apart x hx
    · rw [List.mem_singleton.mp hx]
      cases q : kt.get s.heap.objs.size with
      | none => rfl
      | some o' => exact absurd (Heap.lt_size (I.st _ _ q)) (Nat.lt_irrefl _)
  · rcases List.mem_append.mp hx with hx | hx
    · exact I.mine x hx
    · rw [List.mem_singleton.mp hx]
      right
      cases q : s₀.heap.get? s.heap.objs.size with
      | none => rfl
      | some o' =>
        have z := I.size s.heap.objs.size (by rw [q]; exact fun h => nomatch h)
        cases q2 : s.heap.get? s.heap.objs.size with
        | none => exact absurd q2 z
        | some o2 => exact absurd (Heap.lt_size q2) (Nat.lt_irrefl _)
  · intro b hb
    cases q2 : s.heap.get? b with
    | none => exact absurd q2 (I.size b hb)
    | some o2 =>
      show (s.heap.push o).get? b ≠ none
      rw [Heap.get?_push_of_some _ q2]; exact fun h => nomatch h

theorem Inv.set (I : Inv kt s₀ T s cs tk gs) {i : Nat} {x : Addr} {o : Obj} {f : Obj → Obj} (hi : getC cs i = some (x, o)) (hf : (f o).isFreed = false) : Inv kt s₀ T { s with heap := s.heap.update x f } (setC cs i (f o)) tk gs := by
  have hm := getC_mem hi
  have ho := I.cell _ hm
  have hs : Heap.SameBut x s.heap (s.heap.update x f) := Heap.SameBut.update ..
  refine ⟨fun a o' e => ?_, fun y hy => ?_, by rw [setC_fst]; exact I.nodup, fun y hy => ?_, fun y hy => ?_, I.tk, fun b o' e h => ?_, ?_, I.gens, I.gsz, I.gs, I.bare, I.os⟩
  · refine (hs.2 a fun q => ?_).trans (I.st a o' e)
    have := I.apart _ hm
    rw [← q] at this
    rw [this] at e; cases e
  · rcases setC_mem I.nodup hi y hy with q | ⟨q, q'⟩
    · rw [q]
      first | exact Heap.get?_update_self f ho hf | exact Heap.get?_update_self _ ho hf
    · exact (hs.2 y.1 q').trans (I.cell y q)
  · rcases setC_mem I.nodup hi y hy with q | ⟨q, q'⟩
    · rw [q]; exact I.apart (x, o) hm
    · exact I.apart y q
  · rcases setC_mem I.nodup hi y hy with q | ⟨q, q'⟩
    · rw [q]; exact I.mine (x, o) hm
    · exact I.mine y q
  · refine (hs.2 b fun q => ?_).trans (I.keep b o' e h)
    rcases I.mine _ hm with z | z
    · exact h (by rw [q]; exact z)
    · rw [q, z] at e; cases e
  · intro b hb
    show (s.heap.update x f).get? b ≠ none
    by_cases q : b = x
    · rw [q]
      have z : (s.heap.update x f).get? x = some (f o) := Heap.get?_update_self f ho hf
      rw [z]; exact fun h => nomatch h
    · rw [hs.2 b q]; exact I.size b hb
theorem Inv.newGen (I : Inv kt s₀ T s cs tk gs) (c : Code) : Inv kt s₀ T { s with gens := s.gens.push (.fresh c) } cs tk (gs ++ [(s.gens.size, .fresh c)]) := by
  have get : ∀ (g : Nat) (x : GenState), s.gens[g]? = some x → (s.gens.push (.fresh c))[g]? = some x := fun g x e => by
    obtain ⟨h, e'⟩ := Array.getElem?_eq_some_iff.mp e
    rw [Array.getElem?_push_lt h, e']
  refine ⟨I.st, I.cell, I.nodup, I.apart, I.mine, I.tk, I.keep, I.size, fun g x e => get g x (I.gens g x e), ?_, fun x hx => ?_, ?_, I.os⟩
  · show _ ≤ (s.gens.push _).size
    rw [Array.size_push]; exact Nat.le_succ_of_le I.gsz
  · rcases List.mem_append.mp hx with hx | hx
    · exact ⟨get _ _ (I.gs x hx).1, (I.gs x hx).2⟩
    · rw [List.mem_singleton.mp hx]
      exact ⟨by show (s.gens.push _)[s.gens.size]? = _; simp, I.gsz⟩
  · intro y hy
    rcases Array.mem_push.mp hy with h | h
    · exact I.bare y h
    · rw [h]; rfl
end

noncomputable def ConSound (M : Model) (kt : KT) (m : Nat) (F : ConF) : Prop :=
  ∀ c bl p cs tk gs s₀ T s, Inv kt s₀ T s cs tk gs → (∀ ns : List Nat, ns.length = m → ∃ po, F c bl cs tk ns = some po ∧ ∀ q ∈ po.chk, q.1 = q.2) →
    wpCode M (cx c bl) (fun r s' => ∃ ns po, ns.length = m ∧ F c bl cs tk ns = some po ∧ r = po.res ∧ Inv kt s₀ T s' (applyPost cs po) po.tk gs) p s

/-- a part of a code's tree skipped -/
noncomputable def SkSound (M : Model) (kt : KT) (m : Nat) (F : SkF) : Prop :=
  ∀ c bl p cs tk gs s₀ T s, Inv kt s₀ T s cs tk gs → (∀ ns : List Nat, ns.length = m → ∃ po, F c bl cs tk ns = some po ∧ ∀ q ∈ po.chk, q.1 = q.2) →
    ∃ (α : Type) (X : Sem α) (K : α → Sem Fin) (H : Value → Sem Fin) (gd : Bool → Bool) (lv : List Value → List Value), M.den c = X.wrap K H gd lv ∧
      Sem.wp M (cx c bl) X (fun v p' s' => ∃ ns po, ns.length = m ∧ F c bl cs tk ns = some po ∧ K v = po.t ∧ p' = po.p ∧ Inv kt s₀ T s' (appU cs po.upd po.news) po.tk gs) (fun _ _ _ => False) p s
/-- a generator woken -/
noncomputable def GkSound (M : Model) (kt : KT) (m : Nat) (G : GkF) : Prop :=
  ∀ c p bl cs tk g st s₀ T s, Inv kt s₀ T s cs tk [(g, st)] → (∀ ns : List Nat, ns.length = m → ∃ po, G ((c, p) :: bl) cs tk st ns = some po ∧ ∀ q ∈ po.chk, q.1 = q.2) →
    ∃ ns po s', ns.length = m ∧ G ((c, p) :: bl) cs tk st ns = some po ∧ Wakes M (cx c bl) p g (.send .none) s po.res s' ∧ Inv kt s₀ T s' (appU cs po.upd po.news) po.tk [(g, po.st)]
/-- a contract that moves generators -/
noncomputable def CgSound (M : Model) (kt : KT) (m : Nat) (F : CgF) : Prop :=
  ∀ c bl p cs tk gs s₀ T s, Inv kt s₀ T s cs tk gs → (∀ ns : List Nat, ns.length = m → ∃ po, F c bl cs tk gs ns = some po ∧ ∀ q ∈ po.chk, q.1 = q.2) →
    wpCode M (cx c bl) (fun r s' => ∃ ns po, ns.length = m ∧ F c bl cs tk gs ns = some po ∧ r = po.res ∧ Inv kt s₀ T s' (appU cs po.upd po.news) po.tk po.gs) p s
noncomputable def LogSound (M : Model) (kt : KT) : List Ev → Prop
  | [] => True
  | .con m F :: log => ConSound M kt m F ∧ LogSound M kt log
  | .sk m F :: log => SkSound M kt m F ∧ LogSound M kt log
  | .wk m F :: log => GkSound M kt m F ∧ LogSound M kt log
  | .cg m F :: log => CgSound M kt m F ∧ LogSound M kt log
  | _ :: log => LogSound M kt log
theorem LogSound.tail {M : Model} {kt : KT} {e : Ev} {log : List Ev} (h : LogSound M kt (e :: log)) : LogSound M kt log := by
  cases e <;> first | exact h | exact h.2

/-- what a judgement on running trees must allow -/
structure Jd (M : Model) (Z : List Frm → List (Code × Pos) → Code → Sem Fin → Pos → Shared → Prop) (Ff : Result → Shared → Prop) (Fa : List (Code × Pos) → Code → Pos → Shared → Prop)
    (Fs : Value → Bool → List Value → (Resume → Sem Fin) → Code → Pos → List Frm → Shared → Prop) : Prop where
  fin0 : ∀ r bl c p s, Ff r s → Z [] bl c (leafOf r) p s
  finS : ∀ r fr κ bl c p s, Z κ bl.tail fr.c (fr.k r) fr.p s → Z (fr :: κ) bl c (leafOf r) p s
  againG : ∀ c2 κ bl c p s, c2.quiet = true → Z κ bl c2 (M.den c2) p s → Z κ bl c (.pure (.again c2)) p s
  againT : ∀ c2 bl c p s, c2.quiet = true → Fa bl c2 p s → Z [] bl c (.pure (.again c2)) p s
  again0 : ∀ c2 bl c p s, c2.quiet = true → wpCode M (cx c2 bl) Ff p s → Z [] bl c (.pure (.again c2)) p s
  againS : ∀ c2 fr κ bl c p s, c2.quiet = true → wpCode M (cx c2 bl) (fun r s' => Z κ bl.tail fr.c (fr.k r) fr.p s') p s → Z (fr :: κ) bl c (.pure (.again c2)) p s
  rule : ∀ tag k κ bl c p s, Z κ bl c (k ()) p s → Z κ bl c (.rule tag k) p s
  «at» : ∀ q k κ bl c p s, Z κ bl c (k ()) q s → Z κ bl c (.at q k) p s
  point : ∀ l k κ bl c p s, Z κ bl c (k ()) p s → Z κ bl c (.point l k) p s
  ask : ∀ k κ bl c p s, Z κ bl c (k ⟨M.prog, M.w.params⟩) p s → Z κ bl c (.ask k) p s
  load : ∀ a q k κ bl c p s o, s.heap.get? a = some o → Z κ bl c (k o) p s → Z κ bl c (.load a q k) p s
  update : ∀ a q f k κ bl c p s, (s.heap.get? a).isSome → Z κ bl c (k ()) p { s with heap := s.heap.update a f } → Z κ bl c (.update a q f k) p s
  alloc : ∀ o k κ bl c p s, Z κ bl c (k s.heap.objs.size) p { s with heap := s.heap.push o } → Z κ bl c (.alloc o k) p s
  fresh : ∀ k κ bl c p s, Z κ bl c (k s.toks) p { s with toks := s.toks + 1 } → Z κ bl c (.fresh k) p s
  handled : ∀ own k κ bl c p s, Z κ bl c (k none) p s → Z κ bl c (.handled own k) p s
  stack : ∀ k κ bl c p s, Z κ bl c (k ((c, p) :: bl)) p s → Z κ bl c (.stack k) p s
  callG : ∀ c2 g l k κ bl c p s, Z (⟨k, g, l, c, p⟩ :: κ) ((c, p) :: bl) c2 (M.den c2) p s → Z κ bl c (.call c2 none g l k) p s
  callC : ∀ c2 g l k κ bl c p s, wpCode M (cx c2 ((c, p) :: bl)) (fun r s' => Z κ bl c (k r) p s') p s → Z κ bl c (.call c2 none g l k) p s
  newGen : ∀ c2 k κ bl c p s, Z κ bl c (k s.gens.size) p { s with gens := s.gens.push (.fresh c2) } → Z κ bl c (.newGen c2 k) p s
  genState : ∀ g st k κ bl c p s, s.gens[g]? = some st → Z κ bl c (k st.seen) p s → Z κ bl c (.genState g k) p s
  resume : ∀ g r l k κ bl c p s, (∃ res s', Wakes M (cx c bl) p g r s res s' ∧ Z κ bl c (k res) p s') → Z κ bl c (.resume g r l k) p s
  yield : ∀ v g l k κ bl c p s, Fs v g l k c p κ s → Z κ bl c (.yield v g l k) p s
  skip : ∀ (α : Type) (X : Sem α) (K : α → Sem Fin) H gd lv κ bl c p s, Sem.wp M (cx c bl) X (fun v p' s' => Z κ bl c (K v) p' s') (fun _ _ _ => False) p s → Z κ bl c (X.wrap K H gd lv) p s

noncomputable def EndsJ (kt : KT) (s₀ : Shared) (T : List Addr) (Ff : Result → Shared → Prop) (Fa : List (Code × Pos) → Code → Pos → Shared → Prop) (Fs : Value → Bool → List Value → (Resume → Sem Fin) → Code → Pos → List Frm → Shared → Prop) (bl : List (Code × Pos)) (r : Res) : Prop :=
  ∀ s', Inv kt s₀ T s' r.cs r.tk r.gs → match r.out with
    | .fin res => Ff res s'
    | .again c p => Fa bl c p s'
    | .susp v g l k c p κ => Fs v g l k c p κ s'

theorem splitN_app : ∀ (m : Nat) (ns sup : List Nat), ns.length = m → splitN m (ns ++ sup) = some (ns, sup)
  | 0, [], _, _ => rfl
  | m + 1, x :: ns, sup, h => by
    have : splitN m (ns ++ sup) = some (ns, sup) := splitN_app m ns sup (by simpa using h)
    show (match splitN m (ns ++ sup) with | some (a, b) => some (x :: a, b) | none => none) = _
    rw [this]
theorem splitN_some : ∀ (m : Nat) (l a b : List Nat), splitN m l = some (a, b) → l = a ++ b ∧ a.length = m
  | 0, l, a, b, h => by cases h; exact ⟨rfl, rfl⟩
  | m + 1, [], a, b, h => by cases h
  | m + 1, x :: l, a, b, h => by
    have h : (match splitN m l with | some (a, b) => some (x :: a, b) | none => none) = some (a, b) := h
    cases q : splitN m l with
    | none => rw [q] at h; cases h
    | some y =>
      obtain ⟨a', b'⟩ := y
      rw [q] at h
      cases h
      obtain ⟨rfl, h2⟩ := splitN_some m l a' _ q
      exact ⟨rfl, by simp [h2]⟩

/-! the stuck places of a run, in few words -/
noncomputable def bS {α : Type} (m : Nat) (sup : List Nat) (f : List Nat → List Nat → Option α) : Option α := match splitN m sup with
  | some (a, b) => f a b
  | none => none
noncomputable def bO {α β : Type} (o : Option β) (f : β → Option α) : Option α := match o with
  | some x => f x
  | none => none
noncomputable def bT {α : Type} (b : Bool) (x : Option α) : Option α := match b with
  | false => none
  | true => x
noncomputable def bF {α : Type} (b : Bool) (x : Option α) : Option α := match b with
  | false => x
  | true => none
noncomputable def consX {α : Type} (sup : List Nat) (f : Nat → List Nat → Option α) : Option α := match sup with
  | a :: sup => f a sup
  | [] => none
noncomputable def endX (log : List Ev) (sup : List Nat) (r : Res) : Option Res := match log, sup with
  | [], [] => some r
  | _, _ => none
noncomputable def stopX (κ : List Frm) (log : List Ev) (sup : List Nat) (r : Res) : Option Res := match κ, log, sup with
  | [], [], [] => some r
  | _, _, _ => none
theorem bS_app {α : Type} {m : Nat} {ns sup : List Nat} {f : List Nat → List Nat → Option α} (h : ns.length = m) : bS m (ns ++ sup) f = f ns sup := by
  unfold bS
  rw [splitN_app m ns sup h]
theorem bS_le {α : Type} {m : Nat} {sup : List Nat} {f : List Nat → List Nat → Option α} {r : α} (h : bS m sup f = some r) : m ≤ sup.length := by
  unfold bS at h
  cases q : splitN m sup with
  | none => rw [q] at h; cases h
  | some y =>
    obtain ⟨h1, h2⟩ := splitN_some _ _ _ _ q
    rw [h1, List.length_append, h2]
    exact Nat.le_add_right _ _
theorem bO_some {α β : Type} {o : Option β} {f : β → Option α} {r : α} (h : bO o f = some r) : ∃ x, o = some x ∧ f x = some r := by
  cases o with
  | none => cases h
  | some x => exact ⟨x, rfl, h⟩
theorem bT_some {α : Type} {b : Bool} {x : Option α} {r : α} (h : bT b x = some r) : b = true ∧ x = some r := by
  cases b with
  | false => cases h
  | true => exact ⟨rfl, h⟩
theorem bF_some {α : Type} {b : Bool} {x : Option α} {r : α} (h : bF b x = some r) : b = false ∧ x = some r := by
  cases b with
  | false => exact ⟨rfl, h⟩
  | true => cases h
theorem endX_some {log : List Ev} {sup : List Nat} {r r' : Res} (h : endX log sup r = some r') : r = r' := by
  cases log <;> cases sup <;> first | exact Option.some.inj h | cases h
theorem stopX_some {κ : List Frm} {log : List Ev} {sup : List Nat} {r r' : Res} (h : stopX κ log sup r = some r') : κ = [] ∧ r = r' := by
  cases κ <;> cases log <;> cases sup <;> first | exact ⟨rfl, Option.some.inj h⟩ | cases h
theorem bS_some {α : Type} {m : Nat} {sup : List Nat} {f : List Nat → List Nat → Option α} {r : α} (h : bS m sup f = some r) : ∃ a b, f a b = some r := by
  unfold bS at h
  cases q : splitN m sup with
  | none => rw [q] at h; cases h
  | some y => rw [q] at h; exact ⟨_, _, h⟩
theorem consX_some {α : Type} {sup : List Nat} {f : Nat → List Nat → Option α} {r : α} (h : consX sup f = some r) : ∃ a b, f a b = some r := by
  cases sup with
  | nil => cases h
  | cons a b => exact ⟨a, b, h⟩

section
variable {den : Code → Sem Fin} {pg : Program} {P : Params} {kt : KT}
theorem run_prs : ∀ (n : Nat) log t c p bl κ cs tk gs pr sup r, run den pg P kt n log t c p bl κ cs tk gs pr sup = some r → ∃ l, r.prs = l ++ pr
  | 0, _, _, _, _, _, _, _, _, _, _, _, _, h => by cases h
  | n + 1, log, t, c, p, bl, κ, cs, tk, gs, pr, sup, r, h => by
    have ih : ∀ {log t c p bl κ cs tk gs pr sup r}, run den pg P kt n log t c p bl κ cs tk gs pr sup = some r → ∃ l, r.prs = l ++ pr := fun e => run_prs n _ _ _ _ _ _ _ _ _ _ _ _ e
    have cons : ∀ {x : List (Item × Item)}, (∃ l, r.prs = l ++ (x ++ pr)) → ∃ l, r.prs = l ++ pr := fun {x} ⟨l, e⟩ => ⟨l ++ x, by rw [e, List.append_assoc]⟩
    cases t with
    | pure fin =>
      cases fin with
      | done f =>
        cases κ with
        | nil =>
          have e := endX_some (show endX log sup ⟨.fin (.ok f), cs, tk, gs, pr⟩ = some r from h)
          exact ⟨[], by rw [← e]; rfl⟩
        | cons fr κ => exact ih h
      | again c2 =>
        cases log with
        | nil => exact nomatch (bT_some (show bT c2.quiet none = some r from h)).2
        | cons ev log =>
          cases ev with
          | go => exact ih (bT_some (show bT c2.quiet (run den pg P kt n log (den c2) c2 p bl κ cs tk gs pr sup) = some r from Eq.trans (by kernel_rfl) h)).2
          | stop =>
            have e := (stopX_some (bT_some (show bT c2.quiet (stopX κ log sup ⟨.again c2 p, cs, tk, gs, pr⟩) = some r from Eq.trans (by kernel_rfl) h)).2).2
            exact ⟨[], by rw [← e]; rfl⟩
          | st => exact nomatch (bT_some (show bT c2.quiet none = some r from h)).2
          | dy => exact nomatch (bT_some (show bT c2.quiet none = some r from h)).2
          | wk => exact nomatch (bT_some (show bT c2.quiet none = some r from h)).2
          | sk m F =>
            obtain ⟨ns, sup, e⟩ := bS_some (bT_some (show bT c2.quiet (bS m sup fun ns sup => bO (F c2 bl cs tk ns) fun po => run den pg P kt n log po.t c2 po.p bl κ (appU cs po.upd po.news) po.tk gs (po.chk ++ pr) sup) = some r from Eq.trans (by kernel_rfl) h)).2
            obtain ⟨po, _, e⟩ := bO_some e
            exact cons (ih e)
          | con m F =>
            cases κ with
            | nil =>
              obtain ⟨ns, sup, e⟩ := bS_some (bT_some (show bT c2.quiet (bS m sup fun ns sup => bO (F c2 bl cs tk ns) fun po => endX log sup ⟨.fin po.res, applyPost cs po, po.tk, gs, po.chk ++ pr⟩) = some r from Eq.trans (by kernel_rfl) h)).2
              obtain ⟨po, _, e⟩ := bO_some e
              have e := endX_some e
              exact ⟨po.chk, by rw [← e]⟩
            | cons fr κ =>
              obtain ⟨ns, sup, e⟩ := bS_some (bT_some (show bT c2.quiet (bS m sup fun ns sup => bO (F c2 bl cs tk ns) fun po => run den pg P kt n log (fr.k po.res) fr.c fr.p bl.tail κ (applyPost cs po) po.tk gs (po.chk ++ pr) sup) = some r from Eq.trans (by kernel_rfl) h)).2
              obtain ⟨po, _, e⟩ := bO_some e
              exact cons (ih e)
          | cg m F =>
            cases κ with
            | nil =>
              obtain ⟨ns, sup, e⟩ := bS_some (bT_some (show bT c2.quiet (bS m sup fun ns sup => bO (F c2 bl cs tk gs ns) fun po => endX log sup ⟨.fin po.res, appU cs po.upd po.news, po.tk, po.gs, po.chk ++ pr⟩) = some r from Eq.trans (by kernel_rfl) h)).2
              obtain ⟨po, _, e⟩ := bO_some e
              have e := endX_some e
              exact ⟨po.chk, by rw [← e]⟩
            | cons fr κ =>
              obtain ⟨ns, sup, e⟩ := bS_some (bT_some (show bT c2.quiet (bS m sup fun ns sup => bO (F c2 bl cs tk gs ns) fun po => run den pg P kt n log (fr.k po.res) fr.c fr.p bl.tail κ (appU cs po.upd po.news) po.tk po.gs (po.chk ++ pr) sup) = some r from Eq.trans (by kernel_rfl) h)).2
              obtain ⟨po, _, e⟩ := bO_some e
              exact cons (ih e)
    | raise x =>
      cases κ with
      | nil =>
        have e := endX_some (show endX log sup ⟨.fin (.error x), cs, tk, gs, pr⟩ = some r from h)
        exact ⟨[], by rw [← e]; rfl⟩
      | cons fr κ => exact ih h
    | rule tag k => exact ih h
    | «at» q k => exact ih h
    | point l k => exact ih h
    | ask k => exact ih h
    | load a q k =>
      cases log with
      | nil => cases h
      | cons ev log =>
        cases ev with
        | st =>
          obtain ⟨o, _, e⟩ := bO_some (show bO (kt.get a) (fun o => run den pg P kt n log (k o) c p bl κ cs tk gs pr sup) = some r from Eq.trans (by kernel_rfl) h)
          exact ih e
        | dy i =>
          obtain ⟨y, _, e⟩ := bO_some (show bO (getC cs i) (fun y => run den pg P kt n log (k y.2) c p bl κ cs tk gs ([(.a a, .a y.1)] ++ pr) sup) = some r from Eq.trans (by kernel_rfl) h)
          exact cons (ih e)
        | _ => cases h
    | update a q f k =>
      cases log with
      | nil => cases h
      | cons ev log =>
        cases ev with
        | dy i =>
          obtain ⟨y, _, e⟩ := bO_some (show bO (getC cs i) (fun y => bF (f y.2).isFreed (run den pg P kt n log (k ()) c p bl κ (setC cs i (f y.2)) tk gs ([(.a a, .a y.1)] ++ pr) sup)) = some r from Eq.trans (by kernel_rfl) h)
          exact cons (ih (bF_some e).2)
        | _ => cases h
    | alloc o k =>
      obtain ⟨_, _, e⟩ := consX_some (bF_some (show bF o.isFreed (consX sup fun a sup => run den pg P kt n log (k a) c p bl κ (cs ++ [(a, o)]) tk gs pr sup) = some r from Eq.trans (by kernel_rfl) h)).2
      exact ih e
    | fresh k => exact ih h
    | handled own k => exact ih h
    | stack k => exact ih h
    | call c2 hdl g l k =>
      cases hdl with
      | some v => cases h
      | none =>
        cases log with
        | nil => cases h
        | cons ev log =>
          cases ev with
          | go => exact ih h
          | sk m F =>
            obtain ⟨ns, sup, e⟩ := bS_some (show bS m sup (fun ns sup => bO (F c2 ((c, p) :: bl) cs tk ns) fun po => run den pg P kt n log po.t c2 po.p ((c, p) :: bl) (⟨k, g, l, c, p⟩ :: κ) (appU cs po.upd po.news) po.tk gs (po.chk ++ pr) sup) = some r from Eq.trans (by kernel_rfl) h)
            obtain ⟨po, _, e⟩ := bO_some e
            exact cons (ih e)
          | con m F =>
            obtain ⟨ns, sup, e⟩ := bS_some (show bS m sup (fun ns sup => bO (F c2 ((c, p) :: bl) cs tk ns) fun po => run den pg P kt n log (k po.res) c p bl κ (applyPost cs po) po.tk gs (po.chk ++ pr) sup) = some r from Eq.trans (by kernel_rfl) h)
            obtain ⟨po, _, e⟩ := bO_some e
            exact cons (ih e)
          | cg m F =>
            obtain ⟨ns, sup, e⟩ := bS_some (show bS m sup (fun ns sup => bO (F c2 ((c, p) :: bl) cs tk gs ns) fun po => run den pg P kt n log (k po.res) c p bl κ (appU cs po.upd po.news) po.tk po.gs (po.chk ++ pr) sup) = some r from Eq.trans (by kernel_rfl) h)
            obtain ⟨po, _, e⟩ := bO_some e
            exact cons (ih e)
          | _ => cases h
    | newGen c2 k =>
      obtain ⟨_, _, e⟩ := consX_some (show consX sup (fun g sup => run den pg P kt n log (k g) c p bl κ cs tk (gs ++ [(g, .fresh c2)]) pr sup) = some r from Eq.trans (by kernel_rfl) h)
      exact ih e
    | yield v g l k =>
      have e := endX_some (show endX log sup ⟨.susp v g l k c p κ, cs, tk, gs, pr⟩ = some r from h)
      exact ⟨[], by rw [← e]; rfl⟩
    | genState g k =>
      match gs, h with
      | [(g', st)], h => exact cons (x := [(.a g, .a g')]) (ih h)
      | [], h => cases h
      | _ :: _ :: _, h => cases h
    | resume g r' l k =>
      match r', gs, log, h with
      | .send .none, [(g', st)], .wk m G :: log, h =>
        obtain ⟨ns, sup, e⟩ := bS_some (show bS m sup (fun ns sup => bO (G ((c, p) :: bl) cs tk st ns) fun po => run den pg P kt n log (k po.res) c p bl κ (appU cs po.upd po.news) po.tk [(g', po.st)] (((.a g, .a g') :: po.chk) ++ pr) sup) = some r from Eq.trans (by kernel_rfl) h)
        obtain ⟨po, _, e⟩ := bO_some e
        exact cons (ih e)
      | .send .none, [(g', st)], [], h => cases h
      | .send .none, [(g', st)], .st :: _, h => cases h
      | .send .none, [(g', st)], .dy _ :: _, h => cases h
      | .send .none, [(g', st)], .go :: _, h => cases h
      | .send .none, [(g', st)], .stop :: _, h => cases h
      | .send .none, [(g', st)], .con _ _ :: _, h => cases h
      | .send .none, [(g', st)], .cg _ _ :: _, h => cases h
      | .send .none, [(g', st)], .sk _ _ :: _, h => cases h
      | .send .none, [], _, h => cases h
      | .send .none, _ :: _ :: _, _, h => cases h
      | .send (.bool _), _, _, h => cases h
      | .send (.int ..), _, _, h => cases h
      | .send (.float ..), _, _, h => cases h
      | .send (.str ..), _, _, h => cases h
      | .send (.bytes ..), _, _, h => cases h
      | .send (.type _), _, _, h => cases h
      | .send (.builtin _), _, _, h => cases h
      | .send (.ref _), _, _, h => cases h
      | .send .ellipsis, _, _, h => cases h
      | .send .notImplemented, _, _, h => cases h
      | .throw _, _, _, h => cases h
    | _ => cases h

theorem nil_sup {N : Nat} {X : List Nat → Prop} (H : ∀ sup : List Nat, sup.length = N → X sup) : ∃ sup, sup.length = N ∧ X sup :=
  ⟨List.replicate N 0, by simp, H _ (by simp)⟩


theorem run_gen {M : Model} (hd : M.den = den) (hp : M.prog = pg) (hw : M.w.params = P) {s₀ : Shared} {T : List Addr} {Z : List Frm → List (Code × Pos) → Code → Sem Fin → Pos → Shared → Prop} {Ff : Result → Shared → Prop} {Fa : List (Code × Pos) → Code → Pos → Shared → Prop}
    {Fs : Value → Bool → List Value → (Resume → Sem Fin) → Code → Pos → List Frm → Shared → Prop} (J : Jd M Z Ff Fa Fs) {bl₀ : List (Code × Pos)} :
    ∀ (n : Nat) log t c p bl κ cs tk gs pr (N : Nat) (s : Shared), bl₀ = (κ.foldl (fun b _ => b.tail) bl) →
    (∀ sup : List Nat, sup.length = N → ∃ r, run den pg P kt n log t c p bl κ cs tk gs pr sup = some r ∧ (∀ q ∈ r.prs, q.1 = q.2) ∧ EndsJ kt s₀ T Ff Fa Fs bl₀ r) →
    LogSound M kt log → Inv kt s₀ T s cs tk gs → Z κ bl c t p s
  | 0, log, t, c, p, bl, κ, cs, tk, gs, pr, N, s, hb, H, hl, I => by
    obtain ⟨sup, _, r, e, _⟩ := nil_sup H
    cases e
  | n + 1, log, t, c, p, bl, κ, cs, tk, gs, pr, N, s, hb, H, hl, I => by
    have ih := run_gen hd hp hw (s₀ := s₀) (T := T) J (bl₀ := bl₀) n
    obtain ⟨sup0, hs0, r0, e0, x0, en0⟩ := nil_sup H
    have pp : ∀ {log t c p bl κ cs tk gs sup r} {chk : List (Item × Item)}, run den pg P kt n log t c p bl κ cs tk gs (chk ++ pr) sup = some r → (∀ q ∈ r.prs, q.1 = q.2) → ∀ q ∈ chk, q.1 = q.2 := fun e x q hq => by
      obtain ⟨l, el⟩ := run_prs _ _ _ _ _ _ _ _ _ _ _ _ _ e
      exact x q (by rw [el]; exact List.mem_append_right _ (List.mem_append_left _ hq))
    have skp : ∀ (c2 : Code) (bl' : List (Code × Pos)) (κ' : List Frm) (m : Nat) (F : SkF) (log : List Ev), bl₀ = (κ'.foldl (fun b _ => b.tail) bl') → m ≤ N → LogSound M kt log → SkSound M kt m F →
        (∀ (ns sup : List Nat), ns.length = m → sup.length + m = N → ∃ po r, F c2 bl' cs tk ns = some po ∧ run den pg P kt n log po.t c2 po.p bl' κ' (appU cs po.upd po.news) po.tk gs (po.chk ++ pr) sup = some r ∧ (∀ q ∈ r.prs, q.1 = q.2) ∧ EndsJ kt s₀ T Ff Fa Fs bl₀ r) →
        Z κ' bl' c2 (M.den c2) p s := by
      intro c2 bl' κ' m F log hb' hm hl' hs key
      obtain ⟨α, X, K, Hh, gd, lv, eX, hX⟩ := hs c2 bl' p cs tk gs s₀ T s I fun ns hn => by
        obtain ⟨po, r, e, e2, x, _⟩ := key ns (List.replicate (N - m) 0) hn (by rw [List.length_replicate]; exact Nat.sub_add_cancel hm)
        exact ⟨po, e, pp e2 x⟩
      rw [eX]
      refine J.skip α X K Hh gd lv κ' bl' c2 p s (Sem.wp_mono M _ _ ?_ (fun _ _ _ h => h) p s hX)
      rintro v p' s' ⟨ns, po, hn, hF, hK, rfl, I'⟩
      rw [hK]
      refine ih log po.t c2 po.p bl' κ' (appU cs po.upd po.news) po.tk gs (po.chk ++ pr) (N - m) s' hb' (fun sup hs => ?_) hl' I'
      obtain ⟨po', r, hF', e, x⟩ := key ns sup hn (by rw [hs]; exact Nat.sub_add_cancel hm)
      rw [hF] at hF'
      cases hF'
      exact ⟨r, e, x⟩
    have ns_len : ∀ {m : Nat} {ns sup : List Nat}, ns.length = m → sup.length + m = N → (ns ++ sup).length = N := fun h1 h2 => by rw [List.length_append, h1, Nat.add_comm]; exact h2
    have rep : ∀ {m : Nat}, m ≤ N → (List.replicate (N - m) 0).length + m = N := fun h => by rw [List.length_replicate]; exact Nat.sub_add_cancel h
    have sub : ∀ {m : Nat} {sup : List Nat}, m ≤ N → sup.length = N - m → sup.length + m = N := fun h hs => by rw [hs]; exact Nat.sub_add_cancel h
    cases t with
    | pure fin =>
      cases fin with
      | done f =>
        cases κ with
        | nil =>
          have e : endX log sup0 ⟨.fin (.ok f), cs, tk, gs, pr⟩ = some r0 := e0
          have e := endX_some e
          subst e
          exact J.fin0 (.ok f) bl c p s (en0 s I)
        | cons fr κ' => exact J.finS (.ok f) fr κ' bl c p s (ih log (fr.k (.ok f)) fr.c fr.p bl.tail κ' cs tk gs pr N s hb (fun sup hs => H sup hs) hl I)
      | again c2 =>
        cases log with
        | nil => exact nomatch (bT_some (show bT c2.quiet none = some r0 from e0)).2
        | cons ev log =>
          cases ev with
          | go =>
            have cv : ∀ {sup r}, run den pg P kt (n + 1) (.go :: log) (.pure (.again c2)) c p bl κ cs tk gs pr sup = some r → bT c2.quiet (run den pg P kt n log (den c2) c2 p bl κ cs tk gs pr sup) = some r := fun {sup r} e => Eq.trans (by kernel_rfl) e
            have hq := (bT_some (cv e0)).1
            have z := ih log (den c2) c2 p bl κ cs tk gs pr N s hb (fun sup hs => by
              obtain ⟨r, e, x⟩ := H sup hs
              exact ⟨r, (bT_some (cv e)).2, x⟩) hl.tail I
            refine J.againG c2 κ bl c p s hq ?_
            rw [hd]; exact z
          | stop =>
            have e : bT c2.quiet (stopX κ log sup0 ⟨.again c2 p, cs, tk, gs, pr⟩) = some r0 := e0
            obtain ⟨hq, e1⟩ := bT_some e
            obtain ⟨rfl, e2⟩ := stopX_some e1
            subst e2
            have hb' : bl₀ = bl := hb
            subst hb'
            exact J.againT c2 bl₀ c p s hq (en0 s I)
          | st => exact nomatch (bT_some (show bT c2.quiet none = some r0 from e0)).2
          | dy => exact nomatch (bT_some (show bT c2.quiet none = some r0 from e0)).2
          | wk => exact nomatch (bT_some (show bT c2.quiet none = some r0 from e0)).2
          | sk m F =>
            have cv : ∀ {sup r}, run den pg P kt (n + 1) (.sk m F :: log) (.pure (.again c2)) c p bl κ cs tk gs pr sup = some r → bT c2.quiet (bS m sup fun ns sup => bO (F c2 bl cs tk ns) fun po => run den pg P kt n log po.t c2 po.p bl κ (appU cs po.upd po.news) po.tk gs (po.chk ++ pr) sup) = some r := fun {sup r} e => Eq.trans (by kernel_rfl) e
            obtain ⟨hq, e⟩ := bT_some (cv e0)
            have hm : m ≤ N := hs0 ▸ bS_le e
            refine J.againG c2 κ bl c p s hq (skp c2 bl κ m F log hb hm hl.2 hl.1 fun ns sup hn hs => ?_)
            obtain ⟨r, e, x⟩ := H (ns ++ sup) (ns_len hn hs)
            have e := (bT_some (cv e)).2
            rw [bS_app hn] at e
            obtain ⟨po, hF, e⟩ := bO_some e
            exact ⟨po, r, hF, e, x⟩
          | con m F =>
            cases κ with
            | nil =>
              have cv : ∀ {sup r}, run den pg P kt (n + 1) (.con m F :: log) (.pure (.again c2)) c p bl [] cs tk gs pr sup = some r → bT c2.quiet (bS m sup fun ns sup => bO (F c2 bl cs tk ns) fun po => endX log sup ⟨.fin po.res, applyPost cs po, po.tk, gs, po.chk ++ pr⟩) = some r := fun {sup r} e => Eq.trans (by kernel_rfl) e
              obtain ⟨hq, e⟩ := bT_some (cv e0)
              have hm : m ≤ N := hs0 ▸ bS_le e
              have key : ∀ (ns sup : List Nat), ns.length = m → sup.length + m = N → ∃ po, F c2 bl cs tk ns = some po ∧ (∀ q ∈ po.chk, q.1 = q.2) ∧ EndsJ kt s₀ T Ff Fa Fs bl₀ ⟨.fin po.res, applyPost cs po, po.tk, gs, po.chk ++ pr⟩ := fun ns sup hn hs => by
                obtain ⟨r, e, x, en⟩ := H (ns ++ sup) (ns_len hn hs)
                have e := (bT_some (cv e)).2
                rw [bS_app hn] at e
                obtain ⟨po, hF, e⟩ := bO_some e
                have e := endX_some e
                subst e
                exact ⟨po, hF, fun q hq => x q (List.mem_append_left _ hq), en⟩
              refine J.again0 c2 bl c p s hq (wpCode_mono ?_ (hl.1 c2 bl p cs tk gs s₀ T s I fun ns hn => ?_))
              · rintro r s' ⟨ns, po, hn, hF, rfl, I'⟩
                obtain ⟨po', hF', _, en⟩ := key ns (List.replicate (N - m) 0) hn (rep hm)
                rw [hF] at hF'
                cases hF'
                exact en s' I'
              · obtain ⟨po, e, x, _⟩ := key ns (List.replicate (N - m) 0) hn (rep hm)
                exact ⟨po, e, x⟩
            | cons fr κ' =>
              have cv : ∀ {sup r}, run den pg P kt (n + 1) (.con m F :: log) (.pure (.again c2)) c p bl (fr :: κ') cs tk gs pr sup = some r → bT c2.quiet (bS m sup fun ns sup => bO (F c2 bl cs tk ns) fun po => run den pg P kt n log (fr.k po.res) fr.c fr.p bl.tail κ' (applyPost cs po) po.tk gs (po.chk ++ pr) sup) = some r := fun {sup r} e => Eq.trans (by kernel_rfl) e
              obtain ⟨hq, e⟩ := bT_some (cv e0)
              have hm : m ≤ N := hs0 ▸ bS_le e
              have key : ∀ (ns sup : List Nat), ns.length = m → sup.length + m = N → ∃ po r, F c2 bl cs tk ns = some po ∧ run den pg P kt n log (fr.k po.res) fr.c fr.p bl.tail κ' (applyPost cs po) po.tk gs (po.chk ++ pr) sup = some r ∧ (∀ q ∈ r.prs, q.1 = q.2) ∧ EndsJ kt s₀ T Ff Fa Fs bl₀ r := fun ns sup hn hs => by
                obtain ⟨r, e, x⟩ := H (ns ++ sup) (ns_len hn hs)
                have e := (bT_some (cv e)).2
                rw [bS_app hn] at e
                obtain ⟨po, hF, e⟩ := bO_some e
                exact ⟨po, r, hF, e, x⟩
              refine J.againS c2 fr κ' bl c p s hq (wpCode_mono ?_ (hl.1 c2 bl p cs tk gs s₀ T s I fun ns hn => ?_))
              · rintro r s' ⟨ns, po, hn, hF, rfl, I'⟩
                refine ih log (fr.k po.res) fr.c fr.p bl.tail κ' (applyPost cs po) po.tk gs (po.chk ++ pr) (N - m) s' hb (fun sup hs => ?_) hl.2 I'
                obtain ⟨po', r, hF', e, x⟩ := key ns sup hn (sub hm hs)
                rw [hF] at hF'
                cases hF'
                exact ⟨r, e, x⟩
              · obtain ⟨po, r, e, e2, x, _⟩ := key ns (List.replicate (N - m) 0) hn (rep hm)
                exact ⟨po, e, pp e2 x⟩
          | cg m F =>
            cases κ with
            | nil =>
              have cv : ∀ {sup r}, run den pg P kt (n + 1) (.cg m F :: log) (.pure (.again c2)) c p bl [] cs tk gs pr sup = some r → bT c2.quiet (bS m sup fun ns sup => bO (F c2 bl cs tk gs ns) fun po => endX log sup ⟨.fin po.res, appU cs po.upd po.news, po.tk, po.gs, po.chk ++ pr⟩) = some r := fun {sup r} e => Eq.trans (by kernel_rfl) e
              obtain ⟨hq, e⟩ := bT_some (cv e0)
              have hm : m ≤ N := hs0 ▸ bS_le e
              have key : ∀ (ns sup : List Nat), ns.length = m → sup.length + m = N → ∃ po, F c2 bl cs tk gs ns = some po ∧ (∀ q ∈ po.chk, q.1 = q.2) ∧ EndsJ kt s₀ T Ff Fa Fs bl₀ ⟨.fin po.res, appU cs po.upd po.news, po.tk, po.gs, po.chk ++ pr⟩ := fun ns sup hn hs => by
                obtain ⟨r, e, x, en⟩ := H (ns ++ sup) (ns_len hn hs)
                have e := (bT_some (cv e)).2
                rw [bS_app hn] at e
                obtain ⟨po, hF, e⟩ := bO_some e
                have e := endX_some e
                subst e
                exact ⟨po, hF, fun q hq => x q (List.mem_append_left _ hq), en⟩
              refine J.again0 c2 bl c p s hq (wpCode_mono ?_ (hl.1 c2 bl p cs tk gs s₀ T s I fun ns hn => ?_))
              · rintro r s' ⟨ns, po, hn, hF, rfl, I'⟩
                obtain ⟨po', hF', _, en⟩ := key ns (List.replicate (N - m) 0) hn (rep hm)
                rw [hF] at hF'
                cases hF'
                exact en s' I'
              · obtain ⟨po, e, x, _⟩ := key ns (List.replicate (N - m) 0) hn (rep hm)
                exact ⟨po, e, x⟩
            | cons fr κ' =>
              have cv : ∀ {sup r}, run den pg P kt (n + 1) (.cg m F :: log) (.pure (.again c2)) c p bl (fr :: κ') cs tk gs pr sup = some r → bT c2.quiet (bS m sup fun ns sup => bO (F c2 bl cs tk gs ns) fun po => run den pg P kt n log (fr.k po.res) fr.c fr.p bl.tail κ' (appU cs po.upd po.news) po.tk po.gs (po.chk ++ pr) sup) = some r := fun {sup r} e => Eq.trans (by kernel_rfl) e
              obtain ⟨hq, e⟩ := bT_some (cv e0)
              have hm : m ≤ N := hs0 ▸ bS_le e
              have key : ∀ (ns sup : List Nat), ns.length = m → sup.length + m = N → ∃ po r, F c2 bl cs tk gs ns = some po ∧ run den pg P kt n log (fr.k po.res) fr.c fr.p bl.tail κ' (appU cs po.upd po.news) po.tk po.gs (po.chk ++ pr) sup = some r ∧ (∀ q ∈ r.prs, q.1 = q.2) ∧ EndsJ kt s₀ T Ff Fa Fs bl₀ r := fun ns sup hn hs => by
                obtain ⟨r, e, x⟩ := H (ns ++ sup) (ns_len hn hs)
                have e := (bT_some (cv e)).2
                rw [bS_app hn] at e
                obtain ⟨po, hF, e⟩ := bO_some e
                exact ⟨po, r, hF, e, x⟩
              refine J.againS c2 fr κ' bl c p s hq (wpCode_mono ?_ (hl.1 c2 bl p cs tk gs s₀ T s I fun ns hn => ?_))
              · rintro r s' ⟨ns, po, hn, hF, rfl, I'⟩
                refine ih log (fr.k po.res) fr.c fr.p bl.tail κ' (appU cs po.upd po.news) po.tk po.gs (po.chk ++ pr) (N - m) s' hb (fun sup hs => ?_) hl.2 I'
                obtain ⟨po', r, hF', e, x⟩ := key ns sup hn (sub hm hs)
                rw [hF] at hF'
                cases hF'
                exact ⟨r, e, x⟩
              · obtain ⟨po, r, e, e2, x, _⟩ := key ns (List.replicate (N - m) 0) hn (rep hm)
                exact ⟨po, e, pp e2 x⟩
    | raise x =>
      cases κ with
      | nil =>
        have e : endX log sup0 ⟨.fin (.error x), cs, tk, gs, pr⟩ = some r0 := e0
        have e := endX_some e
        subst e
        exact J.fin0 (.error x) bl c p s (en0 s I)
      | cons fr κ' => exact J.finS (.error x) fr κ' bl c p s (ih log (fr.k (.error x)) fr.c fr.p bl.tail κ' cs tk gs pr N s hb (fun sup hs => H sup hs) hl I)
    | rule tag k => exact J.rule tag k κ bl c p s (ih log (k ()) c p bl κ cs tk gs pr N s hb (fun sup hs => H sup hs) hl I)
    | «at» q k => exact J.at q k κ bl c p s (ih log (k ()) c q bl κ cs tk gs pr N s hb (fun sup hs => H sup hs) hl I)
    | point l k => exact J.point l k κ bl c p s (ih log (k ()) c p bl κ cs tk gs pr N s hb (fun sup hs => H sup hs) hl I)
    | ask k =>
      have z := ih log (k ⟨pg, P⟩) c p bl κ cs tk gs pr N s hb (fun sup hs => H sup hs) hl I
      refine J.ask k κ bl c p s ?_
      rw [hp, hw]; exact z
    | load a q k =>
      cases log with
      | nil => cases e0
      | cons ev log =>
        cases ev with
        | st =>
          have cv : ∀ {sup r}, run den pg P kt (n + 1) (.st :: log) (.load a q k) c p bl κ cs tk gs pr sup = some r → bO (kt.get a) (fun o => run den pg P kt n log (k o) c p bl κ cs tk gs pr sup) = some r := fun {sup r} e => Eq.trans (by kernel_rfl) e
          obtain ⟨o, hk, _⟩ := bO_some (cv e0)
          exact J.load a q k κ bl c p s o (I.st a o hk) (ih log (k o) c p bl κ cs tk gs pr N s hb (fun sup hs => by
            obtain ⟨r, e, x⟩ := H sup hs
            obtain ⟨o', hk', e⟩ := bO_some (cv e)
            rw [hk] at hk'
            cases hk'
            exact ⟨r, e, x⟩) hl.tail I)
        | dy i =>
          have cv : ∀ {sup r}, run den pg P kt (n + 1) (.dy i :: log) (.load a q k) c p bl κ cs tk gs pr sup = some r → bO (getC cs i) (fun y => run den pg P kt n log (k y.2) c p bl κ cs tk gs ([(.a a, .a y.1)] ++ pr) sup) = some r := fun {sup r} e => Eq.trans (by kernel_rfl) e
          obtain ⟨⟨x, o⟩, hk, e⟩ := bO_some (cv e0)
          have ax : a = x := Item.a.inj (pp e x0 (.a a, .a x) (.head _))
          subst ax
          exact J.load a q k κ bl c p s o (I.cell _ (getC_mem hk)) (ih log (k o) c p bl κ cs tk gs _ N s hb (fun sup hs => by
            obtain ⟨r, e, x⟩ := H sup hs
            obtain ⟨o', hk', e⟩ := bO_some (cv e)
            rw [hk] at hk'
            cases hk'
            exact ⟨r, e, x⟩) hl.tail I)
        | _ => cases e0
    | update a q f k =>
      cases log with
      | nil => cases e0
      | cons ev log =>
        cases ev with
        | dy i =>
          have cv : ∀ {sup r}, run den pg P kt (n + 1) (.dy i :: log) (.update a q f k) c p bl κ cs tk gs pr sup = some r → bO (getC cs i) (fun y => bF (f y.2).isFreed (run den pg P kt n log (k ()) c p bl κ (setC cs i (f y.2)) tk gs ([(.a a, .a y.1)] ++ pr) sup)) = some r := fun {sup r} e => Eq.trans (by kernel_rfl) e
          obtain ⟨⟨x, o⟩, hk, e⟩ := bO_some (cv e0)
          obtain ⟨hf, e⟩ := bF_some e
          have ax : a = x := Item.a.inj (pp e x0 (.a a, .a x) (.head _))
          subst ax
          exact J.update a q f k κ bl c p s (by rw [I.cell _ (getC_mem hk)]; rfl) (ih log (k ()) c p bl κ _ tk gs _ N _ hb (fun sup hs => by
            obtain ⟨r, e, x⟩ := H sup hs
            obtain ⟨o', hk', e⟩ := bO_some (cv e)
            rw [hk] at hk'
            cases hk'
            exact ⟨r, (bF_some e).2, x⟩) hl.tail (I.set hk hf))
        | _ => cases e0
    | alloc o k =>
      have cv : ∀ {sup r}, run den pg P kt (n + 1) log (.alloc o k) c p bl κ cs tk gs pr sup = some r → bF o.isFreed (consX sup fun a sup => run den pg P kt n log (k a) c p bl κ (cs ++ [(a, o)]) tk gs pr sup) = some r := fun {sup r} e => Eq.trans (by kernel_rfl) e
      have hf := (bF_some (cv e0)).1
      cases N with
      | zero =>
        obtain ⟨r, e, _⟩ := H [] rfl
        exact nomatch (bF_some (cv e)).2
      | succ N =>
        exact J.alloc o k κ bl c p s (ih log (k s.heap.objs.size) c p bl κ _ tk gs pr N _ hb (fun sup hs => by
          obtain ⟨r, e, x⟩ := H (s.heap.objs.size :: sup) (by rw [List.length_cons, hs])
          exact ⟨r, (bF_some (cv e)).2, x⟩) hl (I.alloc hf))
    | fresh k =>
      have z := ih log (k tk) c p bl κ cs (tk + 1) gs pr N { s with toks := s.toks + 1 } hb (fun sup hs => H sup hs) hl ⟨I.st, I.cell, I.nodup, I.apart, I.mine, by rw [← I.tk], I.keep, I.size, I.gens, I.gsz, I.gs, I.bare, I.os⟩
      refine J.fresh k κ bl c p s ?_
      rw [I.tk]
      rw [I.tk] at z
      exact z
    | handled own k => exact J.handled own k κ bl c p s (ih log (k none) c p bl κ cs tk gs pr N s hb (fun sup hs => H sup hs) hl I)
    | stack k => exact J.stack k κ bl c p s (ih log (k ((c, p) :: bl)) c p bl κ cs tk gs pr N s hb (fun sup hs => H sup hs) hl I)
    | call c2 hdl g l k =>
      cases hdl with
      | some v => cases e0
      | none =>
        cases log with
        | nil => cases e0
        | cons ev log =>
          cases ev with
          | go =>
            have z := ih log (den c2) c2 p ((c, p) :: bl) (⟨k, g, l, c, p⟩ :: κ) cs tk gs pr N s hb (fun sup hs => H sup hs) hl.tail I
            refine J.callG c2 g l k κ bl c p s ?_
            rw [hd]; exact z
          | sk m F =>
            have cv : ∀ {sup r}, run den pg P kt (n + 1) (.sk m F :: log) (.call c2 none g l k) c p bl κ cs tk gs pr sup = some r → bS m sup (fun ns sup => bO (F c2 ((c, p) :: bl) cs tk ns) fun po => run den pg P kt n log po.t c2 po.p ((c, p) :: bl) (⟨k, g, l, c, p⟩ :: κ) (appU cs po.upd po.news) po.tk gs (po.chk ++ pr) sup) = some r := fun {sup r} e => Eq.trans (by kernel_rfl) e
            have hm : m ≤ N := hs0 ▸ bS_le (cv e0)
            refine J.callG c2 g l k κ bl c p s (skp c2 ((c, p) :: bl) (⟨k, g, l, c, p⟩ :: κ) m F log hb hm hl.2 hl.1 fun ns sup hn hs => ?_)
            obtain ⟨r, e, x⟩ := H (ns ++ sup) (ns_len hn hs)
            have e := cv e
            rw [bS_app hn] at e
            obtain ⟨po, hF, e⟩ := bO_some e
            exact ⟨po, r, hF, e, x⟩
          | con m F =>
            have cv : ∀ {sup r}, run den pg P kt (n + 1) (.con m F :: log) (.call c2 none g l k) c p bl κ cs tk gs pr sup = some r → bS m sup (fun ns sup => bO (F c2 ((c, p) :: bl) cs tk ns) fun po => run den pg P kt n log (k po.res) c p bl κ (applyPost cs po) po.tk gs (po.chk ++ pr) sup) = some r := fun {sup r} e => Eq.trans (by kernel_rfl) e
            have hm : m ≤ N := hs0 ▸ bS_le (cv e0)
            have key : ∀ (ns sup : List Nat), ns.length = m → sup.length + m = N → ∃ po r, F c2 ((c, p) :: bl) cs tk ns = some po ∧ run den pg P kt n log (k po.res) c p bl κ (applyPost cs po) po.tk gs (po.chk ++ pr) sup = some r ∧ (∀ q ∈ r.prs, q.1 = q.2) ∧ EndsJ kt s₀ T Ff Fa Fs bl₀ r := fun ns sup hn hs => by
              obtain ⟨r, e, x⟩ := H (ns ++ sup) (ns_len hn hs)
              have e := cv e
              rw [bS_app hn] at e
              obtain ⟨po, hF, e⟩ := bO_some e
              exact ⟨po, r, hF, e, x⟩
            refine J.callC c2 g l k κ bl c p s (wpCode_mono ?_ (hl.1 c2 ((c, p) :: bl) p cs tk gs s₀ T s I fun ns hn => ?_))
            · rintro r s' ⟨ns, po, hn, hF, rfl, I'⟩
              refine ih log (k po.res) c p bl κ (applyPost cs po) po.tk gs (po.chk ++ pr) (N - m) s' hb (fun sup hs => ?_) hl.2 I'
              obtain ⟨po', r, hF', e, x⟩ := key ns sup hn (sub hm hs)
              rw [hF] at hF'
              cases hF'
              exact ⟨r, e, x⟩
            · obtain ⟨po, r, e, e2, x, _⟩ := key ns (List.replicate (N - m) 0) hn (rep hm)
              exact ⟨po, e, pp e2 x⟩
          | cg m F =>
            have cv : ∀ {sup r}, run den pg P kt (n + 1) (.cg m F :: log) (.call c2 none g l k) c p bl κ cs tk gs pr sup = some r → bS m sup (fun ns sup => bO (F c2 ((c, p) :: bl) cs tk gs ns) fun po => run den pg P kt n log (k po.res) c p bl κ (appU cs po.upd po.news) po.tk po.gs (po.chk ++ pr) sup) = some r := fun {sup r} e => Eq.trans (by kernel_rfl) e
            have hm : m ≤ N := hs0 ▸ bS_le (cv e0)
            have key : ∀ (ns sup : List Nat), ns.length = m → sup.length + m = N → ∃ po r, F c2 ((c, p) :: bl) cs tk gs ns = some po ∧ run den pg P kt n log (k po.res) c p bl κ (appU cs po.upd po.news) po.tk po.gs (po.chk ++ pr) sup = some r ∧ (∀ q ∈ r.prs, q.1 = q.2) ∧ EndsJ kt s₀ T Ff Fa Fs bl₀ r := fun ns sup hn hs => by
              obtain ⟨r, e, x⟩ := H (ns ++ sup) (ns_len hn hs)
              have e := cv e
              rw [bS_app hn] at e
              obtain ⟨po, hF, e⟩ := bO_some e
              exact ⟨po, r, hF, e, x⟩
            refine J.callC c2 g l k κ bl c p s (wpCode_mono ?_ (hl.1 c2 ((c, p) :: bl) p cs tk gs s₀ T s I fun ns hn => ?_))
            · rintro r s' ⟨ns, po, hn, hF, rfl, I'⟩
              refine ih log (k po.res) c p bl κ (appU cs po.upd po.news) po.tk po.gs (po.chk ++ pr) (N - m) s' hb (fun sup hs => ?_) hl.2 I'
              obtain ⟨po', r, hF', e, x⟩ := key ns sup hn (sub hm hs)
              rw [hF] at hF'
              cases hF'
              exact ⟨r, e, x⟩
            · obtain ⟨po, r, e, e2, x, _⟩ := key ns (List.replicate (N - m) 0) hn (rep hm)
              exact ⟨po, e, pp e2 x⟩
          | _ => cases e0
    | newGen c2 k =>
      cases N with
      | zero =>
        obtain ⟨r, e, _⟩ := H [] rfl
        cases e
      | succ N =>
        exact J.newGen c2 k κ bl c p s (ih log (k s.gens.size) c p bl κ cs tk _ pr N _ hb (fun sup hs => by
          obtain ⟨r, e, x⟩ := H (s.gens.size :: sup) (by rw [List.length_cons, hs])
          exact ⟨r, e, x⟩) hl (I.newGen c2))
    | yield v g l k =>
      have e : endX log sup0 ⟨.susp v g l k c p κ, cs, tk, gs, pr⟩ = some r0 := e0
      have e := endX_some e
      subst e
      exact J.yield v g l k κ bl c p s (en0 s I)
    | genState g k =>
      match gs, I, H, e0 with
      | [(g', st)], I, H, e0 =>
        have e : run den pg P kt n log (k st.seen) c p bl κ cs tk [(g', st)] ([(.a g, .a g')] ++ pr) sup0 = some r0 := e0
        have gg : g = g' := Item.a.inj (pp e x0 (.a g, .a g') (.head _))
        subst gg
        exact J.genState g st k κ bl c p s (I.gs (g, st) (.head _)).1 (ih log (k st.seen) c p bl κ cs tk [(g, st)] _ N s hb (fun sup hs => H sup hs) hl I)
      | [], _, _, e0 => cases e0
      | _ :: _ :: _, _, _, e0 => cases e0
    | resume g r l k =>
      match r, gs, log, I, H, e0, hl with
      | .send .none, [(g', st)], .wk m G :: log, I, H, e0, hl =>
        have cv : ∀ {sup r}, run den pg P kt (n + 1) (.wk m G :: log) (.resume g (.send .none) l k) c p bl κ cs tk [(g', st)] pr sup = some r → bS m sup (fun ns sup => bO (G ((c, p) :: bl) cs tk st ns) fun po => run den pg P kt n log (k po.res) c p bl κ (appU cs po.upd po.news) po.tk [(g', po.st)] (((.a g, .a g') :: po.chk) ++ pr) sup) = some r := fun {sup r} e => Eq.trans (by kernel_rfl) e
        have hm : m ≤ N := hs0 ▸ bS_le (cv e0)
        have key : ∀ (ns sup : List Nat), ns.length = m → sup.length + m = N → ∃ po r, G ((c, p) :: bl) cs tk st ns = some po ∧ run den pg P kt n log (k po.res) c p bl κ (appU cs po.upd po.news) po.tk [(g', po.st)] (((.a g, .a g') :: po.chk) ++ pr) sup = some r ∧ (∀ q ∈ r.prs, q.1 = q.2) ∧ EndsJ kt s₀ T Ff Fa Fs bl₀ r := fun ns sup hn hs => by
          obtain ⟨r, e, x⟩ := H (ns ++ sup) (ns_len hn hs)
          have e := cv e
          rw [bS_app hn] at e
          obtain ⟨po, hF, e⟩ := bO_some e
          exact ⟨po, r, hF, e, x⟩
        have gg : g = g' := by
          obtain ⟨po, r, e, e2, x, _⟩ := key (List.replicate m 0) (List.replicate (N - m) 0) (by simp) (rep hm)
          exact Item.a.inj (pp e2 x (.a g, .a g') (.head _))
        subst gg
        obtain ⟨ns, po, s', hn, hG, hW, I'⟩ := hl.1 c p bl cs tk g st s₀ T s I fun ns hn => by
          obtain ⟨po, r, e, e2, x, _⟩ := key ns (List.replicate (N - m) 0) hn (rep hm)
          exact ⟨po, e, fun q hq => pp e2 x q (.tail _ hq)⟩
        refine J.resume g (.send .none) l k κ bl c p s ⟨po.res, s', hW, ?_⟩
        refine ih log (k po.res) c p bl κ (appU cs po.upd po.news) po.tk [(g, po.st)] (((.a g, .a g) :: po.chk) ++ pr) (N - m) s' hb (fun sup hs => ?_) hl.2 I'
        obtain ⟨po', r, hF', e, x⟩ := key ns sup hn (sub hm hs)
        rw [hG] at hF'
        cases hF'
        exact ⟨r, e, x⟩
      | .send .none, [(g', st)], [], _, _, any, _ => cases any
      | .send .none, [(g', st)], .st :: _, _, _, any, _ => cases any
      | .send .none, [(g', st)], .dy _ :: _, _, _, any, _ => cases any
      | .send .none, [(g', st)], .go :: _, _, _, any, _ => cases any
      | .send .none, [(g', st)], .stop :: _, _, _, any, _ => cases any
      | .send .none, [(g', st)], .con _ _ :: _, _, _, any, _ => cases any
      | .send .none, [(g', st)], .cg _ _ :: _, _, _, any, _ => cases any
      | .send .none, [(g', st)], .sk _ _ :: _, _, _, any, _ => cases any
      | .send .none, [], _, _, _, any, _ => cases any
      | .send .none, _ :: _ :: _, _, _, _, any, _ => cases any
      | .send (.bool _), _, _, _, _, any, _ => cases any
      | .send (.int ..), _, _, _, _, any, _ => cases any
      | .send (.float ..), _, _, _, _, any, _ => cases any
      | .send (.str ..), _, _, _, _, any, _ => cases any
      | .send (.bytes ..), _, _, _, _, any, _ => cases any
      | .send (.type _), _, _, _, _, any, _ => cases any
      | .send (.builtin _), _, _, _, _, any, _ => cases any
      | .send (.ref _), _, _, _, _, any, _ => cases any
      | .send .ellipsis, _, _, _, _, any, _ => cases any
      | .send .notImplemented, _, _, _, _, any, _ => cases any
      | .throw _, _, _, _, _, any, _ => cases any
    | _ => cases e0

/-! the first judgement: wp -/
noncomputable def endR (M : Model) (R : Result → Shared → Prop) : List Frm → List (Code × Pos) → Result → Shared → Prop
  | [], _ => R
  | f :: κ, bl => fun r s => Sem.wp M (cx f.c bl.tail) (f.k r) (Sem.finPost M (cx f.c bl.tail) (endR M R κ bl.tail)) (fun e _ s' => endR M R κ bl.tail (.error e) s') f.p s
noncomputable def Means (M : Model) (R : Result → Shared → Prop) (κ : List Frm) (bl : List (Code × Pos)) (c : Code) (t : Sem Fin) (p : Pos) (s : Shared) : Prop :=
  Sem.wp M (cx c bl) t (Sem.finPost M (cx c bl) (endR M R κ bl)) (fun e _ s' => endR M R κ bl (.error e) s') p s
theorem wp_wrapM {α β : Type} {M : Model} {Γ : PySem.Ctx} {K : α → Sem β} {H : Value → Sem β} {gd : Bool → Bool} {lv : List Value → List Value} {Q : β → Pos → Shared → Prop} {E : Value → Pos → Shared → Prop} (X : Sem α) :
    ∀ {p s}, Sem.wp M Γ X (fun a p' s' => Sem.wp M Γ (K a) Q E p' s') (fun x p' s' => Sem.wp M Γ (H x) Q E p' s') p s → Sem.wp M Γ (X.wrap K H gd lv) Q E p s := by
  induction X with
  | pure a => exact fun h => h
  | raise x => exact fun h => h
  | unsupported what => exact fun h => h
  | finish x => exact fun h => h
  | register a k => exact fun h => h
  | yield v g l k => exact fun h => h
  | fork c k => exact fun h => h
  | await a f d l k => exact fun h => h
  | rule tag k ih => exact fun h => ih () h
  | «at» p' k ih => exact fun h => ih () h
  | load a part k ih => exact fun ⟨o, ho, h⟩ => ⟨o, ho, ih o h⟩
  | update a part f k ih => exact fun ⟨ho, h⟩ => ⟨ho, ih () h⟩
  | alloc o k ih => exact fun h => ih _ h
  | loadIfAlive a k ih => exact fun h => ih _ h
  | point l k ih => exact fun h => ih () h
  | fresh k ih => exact fun h => ih _ h
  | ask k ih => exact fun h => ih _ h
  | choose src n k ih => exact fun ⟨hn, h⟩ => ⟨hn, ih _ h⟩
  | os q l k ih => exact fun h => ih _ h
  | call c h g l k ih => exact fun ⟨r, s₁, hret, hw⟩ => ⟨r, s₁, hret, ih r hw⟩
  | handled own k ih => exact fun h => ih _ h
  | newGen c k ih => exact fun h => ih _ h
  | genState g k ih => exact fun ⟨st, hg, h⟩ => ⟨st, hg, ih _ h⟩
  | resume g r l k ih => exact fun ⟨res, s₁, hwk, h⟩ => ⟨res, s₁, hwk, ih res h⟩
  | stack k ih => exact fun h => ih _ h
  | thread k ih => exact fun h => ih _ h
theorem jdW (M : Model) (R : Result → Shared → Prop) : Jd M (Means M R) R (fun bl c p s => wpCode M (cx c bl) R p s) (fun _ _ _ _ _ _ _ _ => False) where
  fin0 r bl c p s h := by cases r <;> exact h
  finS r fr κ bl c p s h := by cases r <;> exact h
  againG c2 κ bl c p s hq h := by
    refine ⟨hq, ?_⟩
    rw [wpCode_iff_wp]
    exact h
  againT c2 bl c p s hq h := ⟨hq, h⟩
  again0 c2 bl c p s hq h := ⟨hq, h⟩
  againS c2 fr κ bl c p s hq h := ⟨hq, h⟩
  rule tag k κ bl c p s h := h
  «at» q k κ bl c p s h := h
  point l k κ bl c p s h := h
  ask k κ bl c p s h := h
  load a q k κ bl c p s o ho h := ⟨o, ho, h⟩
  update a q f k κ bl c p s ho h := ⟨ho, h⟩
  alloc o k κ bl c p s h := h
  fresh k κ bl c p s h := h
  handled own k κ bl c p s h := by cases own <;> exact h
  stack k κ bl c p s h := h
  callG c2 g l k κ bl c p s h := by
    show wpCode M (cx c2 ((c, p) :: bl)) (endR M R (⟨k, g, l, c, p⟩ :: κ) ((c, p) :: bl)) p s
    rw [wpCode_iff_wp]
    exact h
  callC c2 g l k κ bl c p s h := h
  newGen c2 k κ bl c p s h := h
  genState g st k κ bl c p s hg h := ⟨st, hg, h⟩
  resume g r l k κ bl c p s h := h
  yield v g l k κ bl c p s h := h.elim
  skip α X K H gd lv κ bl c p s h := wp_wrapM X (Sem.wp_mono M _ _ (fun _ _ _ h => h) (fun _ _ _ (h : False) => h.elim) p s h)

noncomputable def Ends (M : Model) (kt : KT) (s₀ : Shared) (T : List Addr) (R : Result → Shared → Prop) (bl : List (Code × Pos)) (r : Res) : Prop :=
  ∀ s', Inv kt s₀ T s' r.cs r.tk r.gs → match r.out with
    | .fin res => R res s'
    | .again c p => wpCode M (cx c bl) R p s'
    | .susp .. => False
theorem run_sound {M : Model} (hd : M.den = den) (hp : M.prog = pg) (hw : M.w.params = P) {s₀ : Shared} {T : List Addr} {R : Result → Shared → Prop} {bl₀ : List (Code × Pos)} 
    (n : Nat) (log t c p bl κ cs tk gs pr) (N : Nat) (s : Shared) (hb : bl₀ = (κ.foldl (fun b _ => b.tail) bl))
    (H : ∀ sup : List Nat, sup.length = N → ∃ r, run den pg P kt n log t c p bl κ cs tk gs pr sup = some r ∧ (∀ q ∈ r.prs, q.1 = q.2) ∧ Ends M kt s₀ T R bl₀ r)
    (hl : LogSound M kt log) (I : Inv kt s₀ T s cs tk gs) : Means M R κ bl c t p s :=
  run_gen hd hp hw (jdW M R) n log t c p bl κ cs tk gs pr N s hb (fun sup hs => by
    obtain ⟨r, e, x, en⟩ := H sup hs
    exact ⟨r, e, x, fun s' I' => en s' I'⟩) hl I

/-! the second judgement: a generator's frame -/
noncomputable def Frm.fr (f : Frm) : Frame := .ret f.k none f.g f.l f.c f.p []
theorem split_fr : ∀ (κ : List Frm), splitAtGen (κ.map Frm.fr) = none
  | [] => rfl
  | f :: κ => by
    show (splitAtGen (κ.map Frm.fr)).map _ = none
    rw [split_fr κ]; rfl
theorem marks_fr : ∀ (κ : List Frm), marksOver (κ.map Frm.fr) (none, none) = (none, none)
  | [] => rfl
  | f :: κ => by
    show Frame.marks (Frm.fr f) (marksOver (κ.map Frm.fr) (none, none)) = _
    rw [marks_fr κ]; rfl
theorem over_cx (c : Code) (bl₀ : List (Code × Pos)) (κ : List Frm) : (cx c bl₀).over (κ.map Frm.fr) = cx c (κ.map (fun f => (f.c, f.p)) ++ bl₀) := by
  unfold PySem.Ctx.over
  rw [split_fr κ]
  show PySem.Ctx.mk c (marksOver (κ.map Frm.fr) (none, none)).1 (marksOver (κ.map Frm.fr) (none, none)).1 ((κ.map Frm.fr).map Frame.where_ ++ bl₀) (marksOver (κ.map Frm.fr) (none, none)).2 = _
  rw [marks_fr κ, List.map_map]
  rfl
noncomputable def MeansG (M : Model) (bl₀ : List (Code × Pos)) (Φ : End → Shared → Prop) (κ : List Frm) (bl : List (Code × Pos)) (c : Code) (t : Sem Fin) (p : Pos) (s : Shared) : Prop :=
  bl = κ.map (fun f => (f.c, f.p)) ++ bl₀ → ∃ e s', Runs M (cx c bl₀) p t (κ.map Frm.fr) s e s' ∧ Φ e s'
theorem jdG (M : Model) (bl₀ : List (Code × Pos)) (Φ : End → Shared → Prop) : Jd M (MeansG M bl₀ Φ) (fun r s => Φ (.ret r) s) (fun _ _ _ _ => False) (fun v g l k c p κ s => Φ (.susp v g l k c p (κ.map Frm.fr)) s) where
  fin0 r bl c p s h _ := ⟨.ret r, s, Runs.leaf r, h⟩
  finS r fr κ bl c p s h hb := by
    obtain ⟨e, s', hr, hΦ⟩ := h (by rw [hb]; rfl)
    exact ⟨e, s', Runs.pop r hr, hΦ⟩
  againG c2 κ bl c p s hq h hb := by
    obtain ⟨e, s', hr, hΦ⟩ := h hb
    exact ⟨e, s', Runs.head (c₁ := c2) (fun _ _ y => .again hq y) hr, hΦ⟩
  againT c2 bl c p s hq h := h.elim
  again0 c2 bl c p s hq h hb := by
    obtain ⟨r, s', hr, hΦ⟩ := h
    refine ⟨.ret r, s', .again hq ?_, hΦ⟩
    have : bl = bl₀ := hb
    subst this
    exact hr
  againS c2 fr κ bl c p s hq h hb := by
    obtain ⟨r, s₁, hr, hz⟩ := h
    obtain ⟨e, s', hr', hΦ⟩ := hz (by rw [hb]; rfl)
    refine ⟨e, s', .segRet (r := r) (s₁ := s₁) ?_ hr', hΦ⟩
    have e1 := over_cx c bl₀ (fr :: κ)
    have e2 : (cx c bl₀).over (Frame.ret fr.k none fr.g fr.l fr.c fr.p [] :: κ.map Frm.fr) = cx c bl := by rw [hb]; exact e1
    rw [e2]
    exact .again hq hr
  rule tag k κ bl c p s h hb := by
    obtain ⟨e, s', hr, hΦ⟩ := h hb
    exact ⟨e, s', Runs.head' (fun _ _ x => .rule x) hr, hΦ⟩
  «at» q k κ bl c p s h hb := by
    obtain ⟨e, s', hr, hΦ⟩ := h hb
    exact ⟨e, s', Runs.head' (fun _ _ x => .at x) hr, hΦ⟩
  point l k κ bl c p s h hb := by
    obtain ⟨e, s', hr, hΦ⟩ := h hb
    exact ⟨e, s', Runs.head' (fun _ _ x => .point x) hr, hΦ⟩
  ask k κ bl c p s h hb := by
    obtain ⟨e, s', hr, hΦ⟩ := h hb
    exact ⟨e, s', Runs.head' (fun _ _ x => .ask x) hr, hΦ⟩
  load a q k κ bl c p s o ho h hb := by
    obtain ⟨e, s', hr, hΦ⟩ := h hb
    exact ⟨e, s', Runs.head' (fun _ _ x => .load ho x) hr, hΦ⟩
  update a q f k κ bl c p s ho h hb := by
    obtain ⟨e, s', hr, hΦ⟩ := h hb
    exact ⟨e, s', Runs.head' (fun _ _ x => .update ho x) hr, hΦ⟩
  alloc o k κ bl c p s h hb := by
    obtain ⟨e, s', hr, hΦ⟩ := h hb
    exact ⟨e, s', Runs.head' (fun _ _ x => .alloc x) hr, hΦ⟩
  fresh k κ bl c p s h hb := by
    obtain ⟨e, s', hr, hΦ⟩ := h hb
    exact ⟨e, s', Runs.head' (fun _ _ x => .fresh x) hr, hΦ⟩
  handled own k κ bl c p s h hb := by
    obtain ⟨e, s', hr, hΦ⟩ := h hb
    refine ⟨e, s', Runs.head' (fun _ _ x => .handled ?_) hr, hΦ⟩
    rw [over_cx] at x ⊢
    cases own <;> exact x
  stack k κ bl c p s h hb := by
    obtain ⟨e, s', hr, hΦ⟩ := h hb
    refine ⟨e, s', Runs.head' (fun _ _ x => .stack ?_) hr, hΦ⟩
    rw [over_cx] at x ⊢
    rw [← hb] at x ⊢
    exact x
  callG c2 g l k κ bl c p s h hb := by
    obtain ⟨e, s', hr, hΦ⟩ := h (by rw [hb]; rfl)
    exact ⟨e, s', runs_call_seg hr, hΦ⟩
  callC c2 g l k κ bl c p s h hb := by
    obtain ⟨r, s₁, hr, hz⟩ := h
    obtain ⟨e, s', hr', hΦ⟩ := hz hb
    refine ⟨e, s', Runs.head' (fun _ _ x => .call (r := r) (s₁ := s₁) ?_ x) hr', hΦ⟩
    rw [over_cx, ← hb]
    exact hr
  newGen c2 k κ bl c p s h hb := by
    obtain ⟨e, s', hr, hΦ⟩ := h hb
    exact ⟨e, s', Runs.head' (fun _ _ x => .newGen x) hr, hΦ⟩
  genState g st k κ bl c p s hg h hb := by
    obtain ⟨e, s', hr, hΦ⟩ := h hb
    exact ⟨e, s', Runs.head' (fun _ _ x => .genState hg x) hr, hΦ⟩
  resume g r l k κ bl c p s h hb := by
    obtain ⟨res, s₁, hw, h⟩ := h
    obtain ⟨e, s', hr, hΦ⟩ := h hb
    refine ⟨e, s', Runs.head' (fun _ _ x => (Sem.runs_resume_iff M _).mpr ⟨res, s₁, ?_, x⟩) hr, hΦ⟩
    rw [over_cx, ← hb]
    exact hw
  yield v g l k κ bl c p s h hb := ⟨_, s, Runs.yield' _ (split_fr κ), h⟩
  skip α X K H gd lv κ bl c p s h hb := by
    refine runs_wrap_of_wp K H gd lv X (Q := fun v p' s' => MeansG M bl₀ Φ κ bl c (K v) p' s') (E := fun _ _ _ => False) ?_ (fun a p' s' h' => h' hb) (fun _ _ _ h' => h'.elim)
    rw [over_cx, ← hb]
    exact h
end
end Mine

/-! part Static -/
namespace Mine
open PySem PySem.W PySem.W.X
noncomputable abbrev pw : Program := PySem.Challenge.pw_re0028_01
noncomputable def ent (P : Params) (x : Str) (t : Nat) (v : Value) : DictEntry := ⟨PyData.keyHash P x, .str x t, v⟩
noncomputable def fnOfS : Stmt → Arguments × List Stmt × Scope
  | .FunctionDef _ a b _ _ _ sc _ _ _ => (a, b, sc)
  | _ => default
noncomputable def bodyOfC : Stmt → List Stmt
  | .ClassDef _ _ _ b _ _ _ _ _ _ _ => b
  | _ => []
noncomputable def nthS : List Stmt → Nat → Stmt
  | [], _ => default
  | s :: _, 0 => s
  | _ :: l, i + 1 => nthS l i
noncomputable def fnTop (i : Nat) : Arguments × List Stmt × Scope := fnOfS (nthS pw.main.body i)
noncomputable def fnMeth (i : Nat) : Arguments × List Stmt × Scope := fnOfS (nthS (bodyOfC (nthS pw.main.body 9)) i)
noncomputable def fnDat (f : Arguments × List Stmt × Scope) (name qual : Str) (globals : Addr) (dV kV doc pm : Value) (an : Option Addr) (code ct : Value) (blt : Addr) : FuncData :=
  { name, qualname := qual, params := f.1, body := .stmts f.2.1, scope := f.2.2, globals, closure := [], defaults := dV, kwdefaults := kV, doc, pyModule := pm, annotations := an, code, closureTuple := ct, builtins := blt }
noncomputable def so0 (P : Params) : Obj := PySem.W.boot_o_0 P
noncomputable def so2 (P : Params) : Obj := PySem.W.boot_o_2 P
noncomputable def so3 (P : Params) : Obj := ⟨.type "dict", none, (.dict ⟨[ent P ⟨⟨[95, 95, 110, 97, 109, 101, 95, 95]⟩⟩ 165 (.str ⟨⟨[108, 97, 119, 95, 114, 101, 48, 48, 50, 56, 95, 48, 49]⟩⟩ 357),
  ent P ⟨⟨[95, 95, 100, 111, 99, 95, 95]⟩⟩ 166 (.none),
  ent P ⟨⟨[95, 95, 112, 97, 99, 107, 97, 103, 101, 95, 95]⟩⟩ 167 (.none),
  ent P ⟨⟨[95, 95, 108, 111, 97, 100, 101, 114, 95, 95]⟩⟩ 168 (.builtin "__main__.__loader__#opaque"),
  ent P ⟨⟨[95, 95, 115, 112, 101, 99, 95, 95]⟩⟩ 169 (.none),
  ent P ⟨⟨[95, 95, 97, 110, 110, 111, 116, 97, 116, 105, 111, 110, 115, 95, 95]⟩⟩ 170 (.ref 6),
  ent P ⟨⟨[95, 95, 98, 117, 105, 108, 116, 105, 110, 115, 95, 95]⟩⟩ 171 (.ref 4),
  ent P ⟨⟨[95, 95, 102, 105, 108, 101, 95, 95]⟩⟩ 173 (.str ⟨⟨[47, 99, 108, 97, 105, 109, 47, 99, 117, 116, 46, 112, 121]⟩⟩ 172),
  ent P ⟨⟨[95, 95, 99, 97, 99, 104, 101, 100, 95, 95]⟩⟩ 174 (.none),
  ent P ⟨⟨[95, 119, 97, 108, 108]⟩⟩ 193 (.ref 21),
  ent P ⟨⟨[98, 49, 95, 115, 101, 116]⟩⟩ 255 (.ref 29),
  ent P ⟨⟨[105, 110, 95, 116, 97, 98, 108, 101, 95, 98, 49]⟩⟩ 262 (.ref 39),
  ent P ⟨⟨[95, 105, 116, 101, 114, 95, 101, 115, 99, 97, 112, 101, 100, 95, 99, 104, 97, 114, 115]⟩⟩ 274 (.ref 46),
  ent P ⟨⟨[95, 115, 116, 114, 105, 112, 95, 113, 117, 111, 116, 101, 100, 95, 114, 101, 97, 108, 110, 97, 109, 101, 115]⟩⟩ 286 (.ref 53),
  ent P ⟨⟨[95, 99, 104, 101, 99, 107, 95, 112, 97, 114, 101, 110, 116, 104, 101, 115, 105, 115]⟩⟩ 296 (.ref 60),
  ent P ⟨⟨[95, 110, 101, 116, 114, 99, 108, 101, 120]⟩⟩ 356 (.ref 98),
  ent P ⟨⟨[95, 108, 97, 119, 95, 114, 101, 97, 100]⟩⟩ 370 (.ref 109),
  ent P ⟨⟨[95, 108, 97, 119, 95, 114, 101, 97, 100, 105, 110, 103, 115]⟩⟩ 380 (.ref 116),
  ent P ⟨⟨[95, 108, 97, 119, 95, 112, 114, 101, 112, 97, 114, 101, 100]⟩⟩ 386 (.ref 121),
  ent P ⟨⟨[95, 108, 97, 119, 95, 98, 114, 97, 99, 107, 101, 116, 115]⟩⟩ 392 (.ref 126),
  ent P ⟨⟨[95, 108, 97, 119, 95, 99, 108, 111, 115, 101, 115]⟩⟩ 398 (.ref 131),
  ent P ⟨⟨[95, 108, 97, 119, 95, 116, 119, 111, 115]⟩⟩ 409 (.ref 138),
  ent P ⟨⟨[108, 97, 119]⟩⟩ 415 (.ref 143)]⟩ 23), ⟨[]⟩⟩
noncomputable def so4 (P : Params) : Obj := PySem.W.boot_o_4 P
noncomputable def so29 (P : Params) : Obj := ⟨.type "set", none, (.set ⟨[(65024, .int (65024) 212), (65025, .int (65025) 213), (65026, .int (65026) 214), (65027, .int (65027) 215), (65028, .int (65028) 216), (65029, .int (65029) 217), (6150, .int (6150) 198), (65030, .int (65030) 218), (65031, .int (65031) 219), (65032, .int (65032) 220), (65033, .int (65033) 221), (6155, .int (6155) 199), (6156, .int (6156) 200), (6157, .int (6157) 201), (8203, .int (8203) 202), (8204, .int (8204) 203), (8205, .int (8205) 204), (65034, .int (65034) 222), (65035, .int (65035) 223), (65036, .int (65036) 224), (65037, .int (65037) 225), (65038, .int (65038) 226), (65039, .int (65039) 227), (173, .int (173) 196), (847, .int (847) 197), (8288, .int (8288) 205), (65279, .int (65279) 206)]⟩ 29 ⟨127, ⟨[0, 1, 2, 3, 4, 5, 6, 7, 8, 9, 10, 11, 12, 13, 14, 15, 16, 17, 18, 19, 20, 21, 22, 45, 79, 96, 127]⟩, ⟨[]⟩, 0, !P.followText "set-order", 2, true⟩), ⟨[]⟩⟩
noncomputable def so38 (P : Params) : Obj := ⟨.type "code", none, (.fields ⟨[.str ⟨⟨[105, 110, 95, 116, 97, 98, 108, 101, 95, 98, 49]⟩⟩ 256, .str ⟨⟨[105, 110, 95, 116, 97, 98, 108, 101, 95, 98, 49]⟩⟩ 257, .str ⟨⟨[47, 99, 108, 97, 105, 109, 47, 99, 117, 116, 46, 112, 121]⟩⟩ 258, .int (6) 0, .int (1) 0, .int (0) 0, .int (0) 0, .int (3) 0, .ref 33, .bool true, .int (181) 0, .ref 34, .none, .ref 35, .ref 36, .ref 37, .int (260) 0, .int (6) 0, .str ⟨⟨[47, 99, 108, 97, 105, 109, 47, 99, 117, 116, 46, 112, 121]⟩⟩ 261]⟩), ⟨[]⟩⟩
noncomputable def so39 (P : Params) : Obj := ⟨.type "function", none, (.func (fnDat (fnTop 3) ⟨⟨[105, 110, 95, 116, 97, 98, 108, 101, 95, 98, 49]⟩⟩ ⟨⟨[105, 110, 95, 116, 97, 98, 108, 101, 95, 98, 49]⟩⟩ 3 (.none) (.none) (.none) (.str ⟨⟨[99, 112, 121, 51, 49, 51, 46, 115, 116, 114, 105, 110, 103, 112, 114, 101, 112]⟩⟩ 194) none (.ref 38) (.none) 0)), ⟨[]⟩⟩
noncomputable def so45 (P : Params) : Obj := ⟨.type "code", none, (.fields ⟨[.str ⟨⟨[95, 105, 116, 101, 114, 95, 101, 115, 99, 97, 112, 101, 100, 95, 99, 104, 97, 114, 115]⟩⟩ 265, .str ⟨⟨[95, 105, 116, 101, 114, 95, 101, 115, 99, 97, 112, 101, 100, 95, 99, 104, 97, 114, 115]⟩⟩ 266, .str ⟨⟨[47, 99, 108, 97, 105, 109, 47, 99, 117, 116, 46, 112, 121]⟩⟩ 267, .int (9) 0, .int (1) 0, .int (0) 0, .int (0) 0, .int (35) 0, .ref 40, .bool true, .int (181) 0, .ref 41, .none, .ref 42, .ref 43, .ref 44, .int (272) 0, .int (9) 0, .str ⟨⟨[47, 99, 108, 97, 105, 109, 47, 99, 117, 116, 46, 112, 121]⟩⟩ 273]⟩), ⟨[]⟩⟩
noncomputable def so46 (P : Params) : Obj := ⟨.type "function", none, (.func (fnDat (fnTop 5) ⟨⟨[95, 105, 116, 101, 114, 95, 101, 115, 99, 97, 112, 101, 100, 95, 99, 104, 97, 114, 115]⟩⟩ ⟨⟨[95, 105, 116, 101, 114, 95, 101, 115, 99, 97, 112, 101, 100, 95, 99, 104, 97, 114, 115]⟩⟩ 3 (.none) (.none) (.none) (.str ⟨⟨[99, 112, 121, 51, 49, 51, 46, 101, 109, 97, 105, 108, 46, 117, 116, 105, 108, 115]⟩⟩ 263) none (.ref 45) (.none) 0)), ⟨[]⟩⟩
noncomputable def so52 (P : Params) : Obj := ⟨.type "code", none, (.fields ⟨[.str ⟨⟨[95, 115, 116, 114, 105, 112, 95, 113, 117, 111, 116, 101, 100, 95, 114, 101, 97, 108, 110, 97, 109, 101, 115]⟩⟩ 275, .str ⟨⟨[95, 115, 116, 114, 105, 112, 95, 113, 117, 111, 116, 101, 100, 95, 114, 101, 97, 108, 110, 97, 109, 101, 115]⟩⟩ 276, .str ⟨⟨[47, 99, 108, 97, 105, 109, 47, 99, 117, 116, 46, 112, 121]⟩⟩ 277, .int (22) 0, .int (1) 0, .int (0) 0, .int (0) 0, .int (3) 0, .ref 47, .bool true, .int (181) 0, .ref 48, .none, .ref 49, .ref 50, .ref 51, .int (284) 0, .int (22) 0, .str ⟨⟨[47, 99, 108, 97, 105, 109, 47, 99, 117, 116, 46, 112, 121]⟩⟩ 285]⟩), ⟨[]⟩⟩
noncomputable def so53 (P : Params) : Obj := ⟨.type "function", none, (.func (fnDat (fnTop 6) ⟨⟨[95, 115, 116, 114, 105, 112, 95, 113, 117, 111, 116, 101, 100, 95, 114, 101, 97, 108, 110, 97, 109, 101, 115]⟩⟩ ⟨⟨[95, 115, 116, 114, 105, 112, 95, 113, 117, 111, 116, 101, 100, 95, 114, 101, 97, 108, 110, 97, 109, 101, 115]⟩⟩ 3 (.none) (.none) (.none) (.str ⟨⟨[99, 112, 121, 51, 49, 51, 46, 101, 109, 97, 105, 108, 46, 117, 116, 105, 108, 115]⟩⟩ 263) none (.ref 52) (.none) 0)), ⟨[]⟩⟩
noncomputable def so59 (P : Params) : Obj := ⟨.type "code", none, (.fields ⟨[.str ⟨⟨[95, 99, 104, 101, 99, 107, 95, 112, 97, 114, 101, 110, 116, 104, 101, 115, 105, 115]⟩⟩ 287, .str ⟨⟨[95, 99, 104, 101, 99, 107, 95, 112, 97, 114, 101, 110, 116, 104, 101, 115, 105, 115]⟩⟩ 288, .str ⟨⟨[47, 99, 108, 97, 105, 109, 47, 99, 117, 116, 46, 112, 121]⟩⟩ 289, .int (40) 0, .int (1) 0, .int (0) 0, .int (0) 0, .int (3) 0, .ref 54, .bool true, .int (181) 0, .ref 55, .none, .ref 56, .ref 57, .ref 58, .int (294) 0, .int (40) 0, .str ⟨⟨[47, 99, 108, 97, 105, 109, 47, 99, 117, 116, 46, 112, 121]⟩⟩ 295]⟩), ⟨[]⟩⟩
noncomputable def so60 (P : Params) : Obj := ⟨.type "function", none, (.func (fnDat (fnTop 7) ⟨⟨[95, 99, 104, 101, 99, 107, 95, 112, 97, 114, 101, 110, 116, 104, 101, 115, 105, 115]⟩⟩ ⟨⟨[95, 99, 104, 101, 99, 107, 95, 112, 97, 114, 101, 110, 116, 104, 101, 115, 105, 115]⟩⟩ 3 (.none) (.none) (.none) (.str ⟨⟨[99, 112, 121, 51, 49, 51, 46, 101, 109, 97, 105, 108, 46, 117, 116, 105, 108, 115]⟩⟩ 263) none (.ref 59) (.none) 0)), ⟨[]⟩⟩
noncomputable def so73 (P : Params) : Obj := ⟨.type "code", none, (.fields ⟨[.str ⟨⟨[95, 95, 105, 110, 105, 116, 95, 95]⟩⟩ 311, .str ⟨⟨[95, 110, 101, 116, 114, 99, 108, 101, 120, 46, 95, 95, 105, 110, 105, 116, 95, 95]⟩⟩ 312, .str ⟨⟨[47, 99, 108, 97, 105, 109, 47, 99, 117, 116, 46, 112, 121]⟩⟩ 313, .int (54) 0, .int (2) 0, .int (0) 0, .int (0) 0, .int (3) 0, .ref 68, .bool true, .int (181) 0, .ref 69, .none, .ref 70, .ref 71, .ref 72, .int (316) 0, .int (54) 0, .str ⟨⟨[47, 99, 108, 97, 105, 109, 47, 99, 117, 116, 46, 112, 121]⟩⟩ 317]⟩), ⟨[]⟩⟩
noncomputable def so74 (P : Params) : Obj := ⟨.type "function", none, (.func (fnDat (fnMeth 0) ⟨⟨[95, 95, 105, 110, 105, 116, 95, 95]⟩⟩ ⟨⟨[95, 110, 101, 116, 114, 99, 108, 101, 120, 46, 95, 95, 105, 110, 105, 116, 95, 95]⟩⟩ 3 (.none) (.none) (.none) (.str ⟨⟨[99, 112, 121, 51, 49, 51, 46, 110, 101, 116, 114, 99]⟩⟩ 297) none (.ref 73) (.none) 0)), ⟨[]⟩⟩
noncomputable def so80 (P : Params) : Obj := ⟨.type "code", none, (.fields ⟨[.str ⟨⟨[95, 114, 101, 97, 100, 95, 99, 104, 97, 114]⟩⟩ 319, .str ⟨⟨[95, 110, 101, 116, 114, 99, 108, 101, 120, 46, 95, 114, 101, 97, 100, 95, 99, 104, 97, 114]⟩⟩ 320, .str ⟨⟨[47, 99, 108, 97, 105, 109, 47, 99, 117, 116, 46, 112, 121]⟩⟩ 321, .int (60) 0, .int (1) 0, .int (0) 0, .int (0) 0, .int (3) 0, .ref 75, .bool true, .int (181) 0, .ref 76, .none, .ref 77, .ref 78, .ref 79, .int (324) 0, .int (60) 0, .str ⟨⟨[47, 99, 108, 97, 105, 109, 47, 99, 117, 116, 46, 112, 121]⟩⟩ 325]⟩), ⟨[]⟩⟩
noncomputable def so81 (P : Params) : Obj := ⟨.type "function", none, (.func (fnDat (fnMeth 1) ⟨⟨[95, 114, 101, 97, 100, 95, 99, 104, 97, 114]⟩⟩ ⟨⟨[95, 110, 101, 116, 114, 99, 108, 101, 120, 46, 95, 114, 101, 97, 100, 95, 99, 104, 97, 114]⟩⟩ 3 (.none) (.none) (.none) (.str ⟨⟨[99, 112, 121, 51, 49, 51, 46, 110, 101, 116, 114, 99]⟩⟩ 297) none (.ref 80) (.none) 0)), ⟨[]⟩⟩
noncomputable def so87 (P : Params) : Obj := ⟨.type "code", none, (.fields ⟨[.str ⟨⟨[103, 101, 116, 95, 116, 111, 107, 101, 110]⟩⟩ 327, .str ⟨⟨[95, 110, 101, 116, 114, 99, 108, 101, 120, 46, 103, 101, 116, 95, 116, 111, 107, 101, 110]⟩⟩ 328, .str ⟨⟨[47, 99, 108, 97, 105, 109, 47, 99, 117, 116, 46, 112, 121]⟩⟩ 329, .int (66) 0, .int (1) 0, .int (0) 0, .int (0) 0, .int (3) 0, .ref 82, .bool true, .int (181) 0, .ref 83, .none, .ref 84, .ref 85, .ref 86, .int (334) 0, .int (66) 0, .str ⟨⟨[47, 99, 108, 97, 105, 109, 47, 99, 117, 116, 46, 112, 121]⟩⟩ 335]⟩), ⟨[]⟩⟩
noncomputable def so88 (P : Params) : Obj := ⟨.type "function", none, (.func (fnDat (fnMeth 2) ⟨⟨[103, 101, 116, 95, 116, 111, 107, 101, 110]⟩⟩ ⟨⟨[95, 110, 101, 116, 114, 99, 108, 101, 120, 46, 103, 101, 116, 95, 116, 111, 107, 101, 110]⟩⟩ 3 (.none) (.none) (.none) (.str ⟨⟨[99, 112, 121, 51, 49, 51, 46, 110, 101, 116, 114, 99]⟩⟩ 297) none (.ref 87) (.none) 0)), ⟨[]⟩⟩
noncomputable def so97 (P : Params) : Obj := ⟨.type "dict", none, (.dict ⟨[ent P ⟨⟨[95, 95, 109, 111, 100, 117, 108, 101, 95, 95]⟩⟩ 306 (.str ⟨⟨[99, 112, 121, 51, 49, 51, 46, 110, 101, 116, 114, 99]⟩⟩ 297),
  ent P ⟨⟨[95, 95, 102, 105, 114, 115, 116, 108, 105, 110, 101, 110, 111, 95, 95]⟩⟩ 310 (.int (52) 309),
  ent P ⟨⟨[95, 95, 105, 110, 105, 116, 95, 95]⟩⟩ 318 (.ref 74),
  ent P ⟨⟨[95, 114, 101, 97, 100, 95, 99, 104, 97, 114]⟩⟩ 326 (.ref 81),
  ent P ⟨⟨[103, 101, 116, 95, 116, 111, 107, 101, 110]⟩⟩ 336 (.ref 88),
  ent P ⟨⟨[112, 117, 115, 104, 95, 116, 111, 107, 101, 110]⟩⟩ 344 (.ref 95),
  ent P ⟨⟨[95, 95, 115, 116, 97, 116, 105, 99, 95, 97, 116, 116, 114, 105, 98, 117, 116, 101, 115, 95, 95]⟩⟩ 349 (.ref 96),
  ent P ⟨⟨[95, 95, 100, 105, 99, 116, 95, 95]⟩⟩ 351 (.ref 99),
  ent P ⟨⟨[95, 95, 119, 101, 97, 107, 114, 101, 102, 95, 95]⟩⟩ 353 (.ref 100),
  ent P ⟨⟨[95, 95, 100, 111, 99, 95, 95]⟩⟩ 354 (.none)]⟩ 4), ⟨[]⟩⟩
noncomputable def so98 (P : Params) : Obj := ⟨.type "type", none, (.cls ⟨⟨⟨[95, 110, 101, 116, 114, 99, 108, 101, 120]⟩⟩, [.type "object"], [.ref 98, .type "object"], 97, ⟨⟨[95, 110, 101, 116, 114, 99, 108, 101, 120]⟩⟩, true, [], [], false, none, false⟩), ⟨[none, none, some (.str ⟨⟨[95, 110, 101, 116, 114, 99, 108, 101, 120]⟩⟩ 299), some (.str ⟨⟨[95, 110, 101, 116, 114, 99, 108, 101, 120]⟩⟩ 307), some (.builtin "object.__new__"), some (.bool true)]⟩⟩
noncomputable def so104 (P : Params) : Obj := ⟨.none, none, (.fields ⟨[]⟩), ⟨[]⟩⟩
noncomputable def so108 (P : Params) : Obj := ⟨.type "code", none, (.fields ⟨[.str ⟨⟨[95, 108, 97, 119, 95, 114, 101, 97, 100]⟩⟩ 359, .str ⟨⟨[95, 108, 97, 119, 95, 114, 101, 97, 100]⟩⟩ 360, .str ⟨⟨[47, 99, 108, 97, 105, 109, 47, 99, 117, 116, 46, 112, 121]⟩⟩ 361, .int (96) 0, .int (2) 0, .int (0) 0, .int (0) 0, .int (3) 0, .ref 103, .bool true, .int (181) 0, .ref 104, .none, .ref 105, .ref 106, .ref 107, .int (368) 0, .int (96) 0, .str ⟨⟨[47, 99, 108, 97, 105, 109, 47, 99, 117, 116, 46, 112, 121]⟩⟩ 369]⟩), ⟨[]⟩⟩
noncomputable def so109 (P : Params) : Obj := ⟨.type "function", none, (.func (fnDat (fnTop 11) ⟨⟨[95, 108, 97, 119, 95, 114, 101, 97, 100]⟩⟩ ⟨⟨[95, 108, 97, 119, 95, 114, 101, 97, 100]⟩⟩ 3 (.none) (.none) (.none) (.str ⟨⟨[108, 97, 119, 95, 114, 101, 48, 48, 50, 56, 95, 48, 49]⟩⟩ 357) none (.ref 108) (.none) 0)), ⟨[]⟩⟩
noncomputable def so115 (P : Params) : Obj := ⟨.type "code", none, (.fields ⟨[.str ⟨⟨[95, 108, 97, 119, 95, 114, 101, 97, 100, 105, 110, 103, 115]⟩⟩ 371, .str ⟨⟨[95, 108, 97, 119, 95, 114, 101, 97, 100, 105, 110, 103, 115]⟩⟩ 372, .str ⟨⟨[47, 99, 108, 97, 105, 109, 47, 99, 117, 116, 46, 112, 121]⟩⟩ 373, .int (103) 0, .int (2) 0, .int (0) 0, .int (0) 0, .int (3) 0, .ref 110, .bool true, .int (181) 0, .ref 111, .none, .ref 112, .ref 113, .ref 114, .int (378) 0, .int (103) 0, .str ⟨⟨[47, 99, 108, 97, 105, 109, 47, 99, 117, 116, 46, 112, 121]⟩⟩ 379]⟩), ⟨[]⟩⟩
noncomputable def so116 (P : Params) : Obj := ⟨.type "function", none, (.func (fnDat (fnTop 12) ⟨⟨[95, 108, 97, 119, 95, 114, 101, 97, 100, 105, 110, 103, 115]⟩⟩ ⟨⟨[95, 108, 97, 119, 95, 114, 101, 97, 100, 105, 110, 103, 115]⟩⟩ 3 (.none) (.none) (.none) (.str ⟨⟨[108, 97, 119, 95, 114, 101, 48, 48, 50, 56, 95, 48, 49]⟩⟩ 357) none (.ref 115) (.none) 0)), ⟨[]⟩⟩
noncomputable def so120 (P : Params) : Obj := ⟨.type "code", none, (.fields ⟨[.str ⟨⟨[95, 108, 97, 119, 95, 112, 114, 101, 112, 97, 114, 101, 100]⟩⟩ 381, .str ⟨⟨[95, 108, 97, 119, 95, 112, 114, 101, 112, 97, 114, 101, 100]⟩⟩ 382, .str ⟨⟨[47, 99, 108, 97, 105, 109, 47, 99, 117, 116, 46, 112, 121]⟩⟩ 383, .int (108) 0, .int (1) 0, .int (0) 0, .int (0) 0, .int (3) 0, .ref 117, .bool true, .int (181) 0, .ref 118, .none, .none, .none, .ref 119, .int (384) 0, .int (108) 0, .str ⟨⟨[47, 99, 108, 97, 105, 109, 47, 99, 117, 116, 46, 112, 121]⟩⟩ 385]⟩), ⟨[]⟩⟩
noncomputable def so121 (P : Params) : Obj := ⟨.type "function", none, (.func (fnDat (fnTop 13) ⟨⟨[95, 108, 97, 119, 95, 112, 114, 101, 112, 97, 114, 101, 100]⟩⟩ ⟨⟨[95, 108, 97, 119, 95, 112, 114, 101, 112, 97, 114, 101, 100]⟩⟩ 3 (.none) (.none) (.none) (.str ⟨⟨[108, 97, 119, 95, 114, 101, 48, 48, 50, 56, 95, 48, 49]⟩⟩ 357) none (.ref 120) (.none) 0)), ⟨[]⟩⟩
noncomputable def so125 (P : Params) : Obj := ⟨.type "code", none, (.fields ⟨[.str ⟨⟨[95, 108, 97, 119, 95, 98, 114, 97, 99, 107, 101, 116, 115]⟩⟩ 387, .str ⟨⟨[95, 108, 97, 119, 95, 98, 114, 97, 99, 107, 101, 116, 115]⟩⟩ 388, .str ⟨⟨[47, 99, 108, 97, 105, 109, 47, 99, 117, 116, 46, 112, 121]⟩⟩ 389, .int (110) 0, .int (1) 0, .int (0) 0, .int (0) 0, .int (3) 0, .ref 122, .bool true, .int (181) 0, .ref 123, .none, .none, .none, .ref 124, .int (390) 0, .int (110) 0, .str ⟨⟨[47, 99, 108, 97, 105, 109, 47, 99, 117, 116, 46, 112, 121]⟩⟩ 391]⟩), ⟨[]⟩⟩
noncomputable def so126 (P : Params) : Obj := ⟨.type "function", none, (.func (fnDat (fnTop 14) ⟨⟨[95, 108, 97, 119, 95, 98, 114, 97, 99, 107, 101, 116, 115]⟩⟩ ⟨⟨[95, 108, 97, 119, 95, 98, 114, 97, 99, 107, 101, 116, 115]⟩⟩ 3 (.none) (.none) (.none) (.str ⟨⟨[108, 97, 119, 95, 114, 101, 48, 48, 50, 56, 95, 48, 49]⟩⟩ 357) none (.ref 125) (.none) 0)), ⟨[]⟩⟩
noncomputable def so130 (P : Params) : Obj := ⟨.type "code", none, (.fields ⟨[.str ⟨⟨[95, 108, 97, 119, 95, 99, 108, 111, 115, 101, 115]⟩⟩ 393, .str ⟨⟨[95, 108, 97, 119, 95, 99, 108, 111, 115, 101, 115]⟩⟩ 394, .str ⟨⟨[47, 99, 108, 97, 105, 109, 47, 99, 117, 116, 46, 112, 121]⟩⟩ 395, .int (112) 0, .int (1) 0, .int (0) 0, .int (0) 0, .int (3) 0, .ref 127, .bool true, .int (181) 0, .ref 128, .none, .none, .none, .ref 129, .int (396) 0, .int (112) 0, .str ⟨⟨[47, 99, 108, 97, 105, 109, 47, 99, 117, 116, 46, 112, 121]⟩⟩ 397]⟩), ⟨[]⟩⟩
noncomputable def so131 (P : Params) : Obj := ⟨.type "function", none, (.func (fnDat (fnTop 15) ⟨⟨[95, 108, 97, 119, 95, 99, 108, 111, 115, 101, 115]⟩⟩ ⟨⟨[95, 108, 97, 119, 95, 99, 108, 111, 115, 101, 115]⟩⟩ 3 (.none) (.none) (.none) (.str ⟨⟨[108, 97, 119, 95, 114, 101, 48, 48, 50, 56, 95, 48, 49]⟩⟩ 357) none (.ref 130) (.none) 0)), ⟨[]⟩⟩
noncomputable def so137 (P : Params) : Obj := ⟨.type "code", none, (.fields ⟨[.str ⟨⟨[95, 108, 97, 119, 95, 116, 119, 111, 115]⟩⟩ 399, .str ⟨⟨[95, 108, 97, 119, 95, 116, 119, 111, 115]⟩⟩ 400, .str ⟨⟨[47, 99, 108, 97, 105, 109, 47, 99, 117, 116, 46, 112, 121]⟩⟩ 401, .int (117) 0, .int (2) 0, .int (0) 0, .int (0) 0, .int (3) 0, .ref 132, .bool true, .int (181) 0, .ref 133, .none, .ref 134, .ref 135, .ref 136, .int (407) 0, .int (117) 0, .str ⟨⟨[47, 99, 108, 97, 105, 109, 47, 99, 117, 116, 46, 112, 121]⟩⟩ 408]⟩), ⟨[]⟩⟩
noncomputable def so138 (P : Params) : Obj := ⟨.type "function", none, (.func (fnDat (fnTop 16) ⟨⟨[95, 108, 97, 119, 95, 116, 119, 111, 115]⟩⟩ ⟨⟨[95, 108, 97, 119, 95, 116, 119, 111, 115]⟩⟩ 3 (.none) (.none) (.none) (.str ⟨⟨[108, 97, 119, 95, 114, 101, 48, 48, 50, 56, 95, 48, 49]⟩⟩ 357) none (.ref 137) (.none) 0)), ⟨[]⟩⟩
noncomputable def so142 (P : Params) : Obj := ⟨.type "code", none, (.fields ⟨[.str ⟨⟨[108, 97, 119]⟩⟩ 410, .str ⟨⟨[108, 97, 119]⟩⟩ 411, .str ⟨⟨[47, 99, 108, 97, 105, 109, 47, 99, 117, 116, 46, 112, 121]⟩⟩ 412, .int (126) 0, .int (1) 0, .int (0) 0, .int (0) 0, .int (3) 0, .ref 139, .bool true, .int (181) 0, .ref 140, .none, .none, .none, .ref 141, .int (413) 0, .int (126) 0, .str ⟨⟨[47, 99, 108, 97, 105, 109, 47, 99, 117, 116, 46, 112, 121]⟩⟩ 414]⟩), ⟨[]⟩⟩
noncomputable def so143 (P : Params) : Obj := ⟨.type "function", none, (.func (fnDat (fnTop 17) ⟨⟨[108, 97, 119]⟩⟩ ⟨⟨[108, 97, 119]⟩⟩ 3 (.none) (.none) (.none) (.str ⟨⟨[108, 97, 119, 95, 114, 101, 48, 48, 50, 56, 95, 48, 49]⟩⟩ 357) none (.ref 142) (.none) 0)), ⟨[]⟩⟩

noncomputable def ktS (P : Params) : KT := (.node (some (so0 P)) (.node none (.node (some (so3 P)) (.node none (.node none .nil (.node none (.node none (.node (some (so143 P)) .nil .nil) .nil) .nil)) (.node none (.node (some (so39 P)) .nil .nil) (.node none (.node (some (so87 P)) .nil .nil) .nil))) (.node none (.node none (.node none (.node none (.node (some (so131 P)) .nil .nil) .nil) .nil) (.node none .nil (.node (some (so115 P)) .nil .nil))) (.node none .nil (.node (some (so59 P)) .nil .nil)))) (.node none (.node none (.node none (.node none .nil (.node (some (so97 P)) .nil .nil)) (.node none (.node (some (so81 P)) .nil .nil) .nil)) (.node none (.node none (.node (some (so73 P)) (.node (some (so137 P)) .nil .nil) .nil) .nil) (.node none .nil (.node (some (so121 P)) .nil .nil)))) (.node none (.node none .nil (.node (some (so53 P)) .nil .nil)) (.node (some (so29 P)) (.node (some (so45 P)) .nil (.node (some (so109 P)) .nil .nil)) (.node none .nil (.node (some (so125 P)) .nil .nil)))))) (.node (some (so2 P)) (.node (some (so4 P)) (.node none (.node none .nil (.node none (.node (some (so80 P)) .nil .nil) .nil)) (.node none .nil (.node none (.node (some (so88 P)) .nil .nil) (.node (some (so120 P)) .nil .nil)))) (.node none (.node none .nil (.node (some (so52 P)) .nil (.node (some (so116 P)) .nil .nil))) (.node none (.node none .nil (.node (some (so108 P)) .nil .nil)) (.node (some (so60 P)) .nil .nil)))) (.node none (.node none (.node none (.node none (.node none (.node (some (so130 P)) .nil .nil) .nil) (.node (some (so98 P)) .nil .nil)) .nil) (.node none (.node none (.node (some (so74 P)) (.node (some (so138 P)) .nil .nil) .nil) .nil) .nil)) (.node none (.node none (.node (some (so38 P)) .nil .nil) .nil) (.node none (.node (some (so46 P)) (.node none (.node (some (so142 P)) .nil .nil) .nil) .nil) (.node none .nil (.node (some (so126 P)) .nil .nil)))))))
noncomputable abbrev denF : Code → Sem Fin := PySem.W.Fast.tw11892475500146522536 PySem.W.Fast.tw14364793385576792824
theorem den_eq : denote table = denF := by
  rw [PySem.table_eq_tree, PySem.W.Fast.te11892475500146522536, PySem.W.Fast.te14364793385576792824]
/-- the two rows of the world that the call asks, fixed -/
noncomputable def fixW (w : World) (b b2 : Bool) : World := { w with params := { w.params with followText := fun r => if PySem.code r = PySem.code "special-get-raises" then b else if PySem.code r = PySem.code "comprehension-iter-twice" then b2 else w.params.followText r } }
end Mine

/-! part RunH -/
namespace Mine
open PySem PySem.W PySem.W.X PySem.Spec PySem.Calls PyProof.Rows

noncomputable def prs2 (r : Option Res) : List Item := match r with
  | some x => x.prs.map (·.2)
  | none => []
noncomputable def okRun (r : Option Res) (out : Out) (cs : Cells) (tk : Nat) (gs : List (Nat × GenState) := []) : Prop :=
  r.map (fun x => (x.out, x.cs, x.tk, x.gs, x.prs.map (·.1))) = some (out, cs, tk, gs, prs2 r)
theorem pairs_eq : ∀ {l : List (Item × Item)}, l.map (·.1) = l.map (·.2) → ∀ q ∈ l, q.1 = q.2
  | [], _, _, h => nomatch h
  | x :: l, e, q, h => by
    rw [List.map_cons, List.map_cons] at e
    injection e with e1 e2
    rcases List.mem_cons.mp h with h | h
    · rw [h]; exact e1
    · exact pairs_eq e2 q h
theorem okRun.ex {r : Option Res} {out : Out} {cs : Cells} {tk : Nat} {gs : List (Nat × GenState)} (h : okRun r out cs tk gs) : ∃ x, r = some x ∧ x.out = out ∧ x.cs = cs ∧ x.tk = tk ∧ x.gs = gs ∧ ∀ q ∈ x.prs, q.1 = q.2 := by
  unfold okRun at h
  cases r with
  | none => cases h
  | some x =>
    simp only [Option.map_some, Option.some.injEq, Prod.mk.injEq, prs2] at h
    obtain ⟨a, b, c, d, e⟩ := h
    exact ⟨x, rfl, a, b, c, d, pairs_eq e⟩

section
variable {kt : KT} {s₀ s s' : Shared} {T T₁ : List Addr} {cs nc nc' cs₂ : Cells} {tk tk' : Nat} {gs : List (Nat × GenState)}
/-- what is known of a part of the cells, with the state itself as the ground -/
theorem Inv.focus (I : Inv kt s₀ T s cs tk gs) (h : ∀ x ∈ nc, x ∈ cs) (nd : (nc.map (·.1)).Nodup) : Inv kt s (nc.map (·.1)) s nc tk :=
  ⟨I.st, fun x hx => I.cell x (h x hx), nd, fun x hx => I.apart x (h x hx), fun x hx => .inl (List.mem_map_of_mem hx), I.tk, fun _ _ e _ => e, fun _ h => h, fun _ _ e => e, Nat.le_refl _, fun _ hx => (nomatch hx), I.bare, rfl⟩
theorem Inv.start (h1 : ∀ a o, kt.get a = some o → s.heap.get? a = some o) (h2 : ∀ x ∈ nc, s.heap.get? x.1 = some x.2) (nd : (nc.map (·.1)).Nodup) (h3 : ∀ x ∈ nc, kt.get x.1 = none) (h4 : s.toks = tk) (h5 : AllBare s.gens) : Inv kt s (nc.map (·.1)) s nc tk :=
  ⟨h1, h2, nd, h3, fun x hx => .inl (List.mem_map_of_mem hx), h4, fun _ _ e _ => e, fun _ h => h, fun _ _ e => e, Nat.le_refl _, fun _ hx => (nomatch hx), h5, rfl⟩
theorem Inv.trans (I : Inv kt s₀ T s cs tk gs) (J : Inv kt s T₁ s' nc' tk') (hT : ∀ a ∈ T₁, a ∈ cs.map (·.1)) (h : ∀ x ∈ cs₂, x ∈ nc' ∨ (x ∈ cs ∧ x.1 ∉ T₁)) (nd : (cs₂.map (·.1)).Nodup) : Inv kt s₀ T s' cs₂ tk' gs := by
  have hT' : ∀ a ∈ T₁, a ∈ T ∨ s₀.heap.get? a = none := fun a ha => by
    obtain ⟨x, hx, rfl⟩ := List.mem_map.mp (hT a ha)
    exact I.mine x hx
  refine ⟨J.st, fun x hx => ?_, nd, fun x hx => ?_, fun x hx => ?_, J.tk, fun b o e hb => ?_, fun b hb => J.size b (I.size b hb), fun g x e => J.gens g x (I.gens g x e), Nat.le_trans I.gsz J.gsz, fun x hx => ⟨J.gens _ _ (I.gs x hx).1, (I.gs x hx).2⟩, J.bare, J.os.trans I.os⟩
  · rcases h x hx with q | ⟨q, q'⟩
    · exact J.cell x q
    · exact J.keep _ _ (I.cell x q) q'
  · rcases h x hx with q | ⟨q, q'⟩
    · exact J.apart x q
    · exact I.apart x q
  · rcases h x hx with q | ⟨q, q'⟩
    · rcases J.mine x q with z | z
      · exact hT' _ z
      · by_cases ht : x.1 ∈ T
        · exact .inl ht
        · right
          cases e : s₀.heap.get? x.1 with
          | none => rfl
          | some o => rw [I.keep _ _ e ht] at z; cases z
    · exact I.mine x q
  · refine J.keep b o (I.keep b o e hb) fun q => ?_
    rcases hT' b q with z | z
    · exact hb z
    · rw [z] at e; cases e
theorem Inv.forget (I : Inv kt s₀ T s cs tk gs) (h : cs₂.Sublist cs) : Inv kt s₀ T s cs₂ tk gs :=
  ⟨I.st, fun x hx => I.cell x (h.subset hx), (h.map _).nodup I.nodup, fun x hx => I.apart x (h.subset hx), fun x hx => I.mine x (h.subset hx), I.tk, I.keep, I.size, I.gens, I.gsz, I.gs, I.bare, I.os⟩
end

section
variable {M : Model} {kt : KT} {den : Code → Sem Fin} {pg : Program} {P : Params}
/-- a code run by the kernel -/
theorem seg_tree (hd : M.den = den) (hp : M.prog = pg) (hw : M.w.params = P) {s₀ s : Shared} {T : List Addr} {R : Result → Shared → Prop} {n N : Nat} {log : List Ev} {t : Sem Fin} {c : Code} {p : Pos} {bl : List (Code × Pos)} {cs : Cells} {tk : Nat}
    {out : List Nat → Out} {cs' : List Nat → Cells} {tk' : List Nat → Nat}
    (H : ∀ sup : List Nat, sup.length = N → okRun (run den pg P kt n log t c p bl [] cs tk [] [] sup) (out sup) (cs' sup) (tk' sup))
    (hl : LogSound M kt log) (I : Inv kt s₀ T s cs tk)
    (en : ∀ (sup : List Nat) s', sup.length = N → Inv kt s₀ T s' (cs' sup) (tk' sup) → match out sup with
      | .fin res => R res s'
      | .again c p => wpCode M (cx c bl) R p s'
      | .susp .. => False) : Means M R [] bl c t p s := by
  refine run_sound hd hp hw (s₀ := s₀) (T := T) (R := R) (bl₀ := bl) n log t c p bl [] cs tk [] [] N s rfl (fun sup hs => ?_) hl I
  obtain ⟨x, e, e1, e2, e3, e4, e5⟩ := (H sup hs).ex
  refine ⟨x, e, e5, fun s' I' => ?_⟩
  rw [e2, e3, e4] at I'
  rw [e1]
  exact en sup s' hs I'
theorem seg_code (hd : M.den = den) (hp : M.prog = pg) (hw : M.w.params = P) {s₀ s : Shared} {T : List Addr} {R : Result → Shared → Prop} {n N : Nat} {log : List Ev} {c : Code} {p : Pos} {bl : List (Code × Pos)} {cs : Cells} {tk : Nat}
    {out : List Nat → Out} {cs' : List Nat → Cells} {tk' : List Nat → Nat}
    (H : ∀ sup : List Nat, sup.length = N → okRun (run den pg P kt n log (den c) c p bl [] cs tk [] [] sup) (out sup) (cs' sup) (tk' sup))
    (hl : LogSound M kt log) (I : Inv kt s₀ T s cs tk)
    (en : ∀ (sup : List Nat) s', sup.length = N → Inv kt s₀ T s' (cs' sup) (tk' sup) → match out sup with
      | .fin res => R res s'
      | .again c p => wpCode M (cx c bl) R p s'
      | .susp .. => False) : wpCode M (cx c bl) R p s := by
  rw [wpCode_iff_wp]
  show Sem.wp M (cx c bl) (M.den c) _ _ p s
  rw [hd]
  exact seg_tree hd hp hw H hl I en
end

/-! contracts for built-ins -/
theorem wpCode_meets {pg : Program} {w : World} {id : String} {args : Args} {B : Builtin} {S : PySem.Spec} {bl : List (Code × Pos)} {R : Result → Shared → Prop} {p : Pos} {s : Shared}
    (hq : plainId id = true) (entry : entryFor table id = some B) (g : Meets (B args) S) (h : S { depth := frameCount bl, units := unitsOf bl } R s) : wpCode (model pg w) (cx (.builtin id args) bl) R p s :=
  (codeAny_builtin (A := { depth := frameCount bl, units := unitsOf bl }) entry (by rw [Around.under_plainId hq args]; exact g pg w _ R s h)) (cx (.builtin id args) bl) p rfl ⟨rfl, Nat.le_refl _, fun _ h => (nomatch h), fun _ h => (nomatch h), Nat.le_refl _⟩

noncomputable def lstO (xs : List Value) (n : Nat) : Obj := ⟨.type "list", none, .seq ⟨xs⟩ n, ⟨[]⟩⟩

/-- list.pop(l, 0) -/
noncomputable def popF (ci : Nat) (v : Value) (vs : List Value) (n : Nat) : ConF := fun c _ cs tk _ => match c, getC cs ci with
  | .builtin id ⟨[.ref a, .int i _], []⟩, some (x, o) => some ⟨.ok (.ret v), [(ci, lstO vs (n + 1))], [], tk, [(.a (PySem.code id), .a 8174157772325415533), (.a a, .a x), (.o o, .o (lstO (v :: vs) n)), (.v (.int i 0), .v (.int 0 0))]⟩
  | _, _ => none
theorem mapSeq_pop (v : Value) (vs : List Value) (n : Nat) : Obj.mapSeq (fun xs => xs.eraseIdxIfInBounds 0) (lstO (v :: vs) n) = lstO vs (n + 1) := by
  have e : (⟨v :: vs⟩ : Array Value).eraseIdxIfInBounds 0 = ⟨vs⟩ := by
    apply Array.ext'
    simp [Array.eraseIdxIfInBounds]
  unfold lstO Obj.mapSeq
  simp only [e]
  have : ((⟨vs⟩ : Array Value).size == (⟨v :: vs⟩ : Array Value).size) = false := by simp
  rw [this]; rfl
theorem pop_sound (pg : Program) (w : World) (kt : KT) (ci : Nat) (v : Value) (vs : List Value) (n : Nat) (hv : vs.length + 1 ≤ sizeLine) : ConSound (model pg w) kt 0 (popF ci v vs n) := by
  intro c bl p cs tk gs s₀ T s I H
  obtain ⟨po, hF, chk⟩ := H [] rfl
  unfold popF at hF
  split at hF
  · rename_i id a i u x o hg
    cases hF
    have e1 : id = "list.pop" := PySem.code_inj _ _ (Item.a.inj (chk _ (.head _)))
    have e2 : a = x := Item.a.inj (chk _ (.tail _ (.head _)))
    have e3 : o = lstO (v :: vs) n := Item.o.inj (chk _ (.tail _ (.tail _ (.head _))))
    have e4 : i = 0 := (Value.int.inj (Item.v.inj (chk _ (.tail _ (.tail _ (.tail _ (.head _))))))).1
    subst e1 e2 e3 e4
    refine wpCode_meets (by decide +kernel) F.entry_list_pop (PySem.MeetsSeq.list_pop_at a ⟨v :: vs⟩ n 0 u 0 v (by decide) (by unfold seqIndex?; simp) rfl hv) ⟨I.cell _ (getC_mem hg), [], _, rfl, by unfold popF; rw [hg], rfl, ?_⟩
    show Inv kt s₀ T _ (setC cs ci (lstO vs (n + 1)) ++ []) tk gs
    rw [List.append_nil, ← mapSeq_pop]
    exact I.set hg rfl
  · cases hF

/-! checks of a part of the end alone -/
inductive OC where
  | fin (r : Result)
  | again (c : Code)
  | susp (v : Value)
noncomputable def Out.oc : Out → OC
  | .fin r => .fin r
  | .again c _ => .again c
  | .susp v .. => .susp v
noncomputable def pick : List Bool → Cells → Cells
  | [], _ => []
  | _, [] => []
  | true :: m, x :: l => x :: pick m l
  | false :: m, _ :: l => pick m l
theorem pick_sub : ∀ (m : List Bool) (l : Cells), (pick m l).Sublist l
  | [], l => List.nil_sublist l
  | true :: m, [] => List.Sublist.refl _
  | false :: m, [] => List.Sublist.refl _
  | true :: m, x :: l => (pick_sub m l).cons_cons x
  | false :: m, x :: l => (pick_sub m l).cons x
noncomputable def okP (m : List Bool) (r : Option Res) (oc : OC) (cs : Cells) : Prop :=
  r.map (fun x => (x.out.oc, pick m x.cs, x.gs, x.prs.map (·.1))) = some (oc, cs, [], prs2 r)
theorem okP.ex {m : List Bool} {r : Option Res} {oc : OC} {cs : Cells} (h : okP m r oc cs) : ∃ x, r = some x ∧ x.out.oc = oc ∧ pick m x.cs = cs ∧ x.gs = [] ∧ ∀ q ∈ x.prs, q.1 = q.2 := by
  unfold okP at h
  cases r with
  | none => cases h
  | some x =>
    simp only [Option.map_some, Option.some.injEq, Prod.mk.injEq, prs2] at h
    obtain ⟨a, b, d, e⟩ := h
    exact ⟨x, rfl, a, b, d, pairs_eq e⟩
section
variable {M : Model} {kt : KT} {den : Code → Sem Fin} {pg : Program} {P : Params}
theorem segP (hd : M.den = den) (hp : M.prog = pg) (hw : M.w.params = P) {s₀ s : Shared} {T : List Addr} {R : Result → Shared → Prop} {n N : Nat} {log : List Ev} {c : Code} {p : Pos} {bl : List (Code × Pos)} {cs : Cells} {tk : Nat}
    (m : List Bool) {oc : List Nat → OC} {cs' : List Nat → Cells}
    (H : ∀ sup : List Nat, sup.length = N → okP m (run den pg P kt n log (den c) c p bl [] cs tk [] [] sup) (oc sup) (cs' sup))
    (hl : LogSound M kt log) (I : Inv kt s₀ T s cs tk)
    (en : ∀ (sup : List Nat) s' tk', sup.length = N → Inv kt s₀ T s' (cs' sup) tk' → match oc sup with
      | .fin res => R res s'
      | .again c => ∀ p, wpCode M (cx c bl) R p s'
      | .susp _ => False) : wpCode M (cx c bl) R p s := by
  rw [wpCode_iff_wp]
  show Sem.wp M (cx c bl) (M.den c) _ _ p s
  rw [hd]
  refine run_sound hd hp hw (s₀ := s₀) (T := T) (R := R) (bl₀ := bl) n log (den c) c p bl [] cs tk [] [] N s rfl (fun sup hs => ?_) hl I
  obtain ⟨x, e, e1, e2, e4, e5⟩ := (H sup hs).ex
  refine ⟨x, e, e5, fun s' I' => ?_⟩
  rw [e4] at I'
  have I2 := I'.forget (pick_sub m x.cs)
  rw [e2] at I2
  have z := en sup s' _ hs I2
  rw [← e1] at z
  revert z
  cases x.out with
  | fin r => exact id
  | again c p => exact fun z => z p
  | susp => exact id
end

/-- a + b of two texts -/
noncomputable def addF (q b : Str) : ConF := fun c _ _ _ ns => match c, ns with
  | .builtin id ⟨[.str q' _, .str b' _], []⟩, [t, tk'] => some ⟨.ok (.ret (.str (q ++ b) t)), [], [], tk', [(.a (PySem.code id), .a 116512096292018843154609524), (.s q', .s q), (.s b', .s b)]⟩
  | _, _ => none
theorem Inv.toks {kt : KT} {s₀ s : Shared} {T : List Addr} {cs : Cells} {tk : Nat} {gs : List (Nat × GenState)} (I : Inv kt s₀ T s cs tk gs) (t : Nat) : Inv kt s₀ T { s with toks := t } cs t gs :=
  ⟨I.st, I.cell, I.nodup, I.apart, I.mine, rfl, I.keep, I.size, I.gens, I.gsz, I.gs, I.bare, I.os⟩
theorem empty_of_len {q : Str} (h : (q.length == 0) = true) : q = ⟨#[]⟩ := by
  have : q.cps.size = 0 := by simpa [Str.length] using h
  cases q
  simp only [Str.mk.injEq]
  exact Array.eq_empty_of_size_eq_zero this
theorem add_sound (pg : Program) (w : World) (kt : KT) (q b : Str) (hq : (q ++ b).length ≤ sizeLine) : ConSound (model pg w) kt 2 (addF q b) := by
  intro c bl p cs tk gs s₀ T s I H
  obtain ⟨po, hF, chk⟩ := H [0, 0] rfl
  unfold addF at hF
  split at hF
  · rename_i id q' tq b' tb t tk' hns
    cases hF
    have e1 : id = "str.__add__" := PySem.code_inj _ _ (Item.a.inj (chk _ (.head _)))
    have e2 : q' = q := Item.s.inj (chk _ (.tail _ (.head _)))
    have e3 : b' = b := Item.s.inj (chk _ (.tail _ (.tail _ (.head _))))
    subst e1 e2 e3
    refine wpCode_meets (by decide +kernel) F.entry_str_add (gives_str_add q' b' tq tb).meets ?_
    have fin : ∀ (v : Value) (t' : Nat) (s' : Shared), s' = { s with toks := t' } → (∃ t, v = .str (q' ++ b') t) → ∃ (ns : List Nat) (po : Post), ns.length = 2 ∧ addF q' b' (.builtin "str.__add__" ⟨[.str q' tq, .str b' tb], []⟩) bl cs tk ns = some po ∧ (.ok (.ret v) : Result) = po.res ∧ Inv kt s₀ T s' (applyPost cs po) po.tk gs := by
      rintro v t' s' rfl ⟨t, rfl⟩
      refine ⟨[t, t'], _, rfl, rfl, rfl, ?_⟩
      show Inv kt s₀ T _ (cs ++ []) t' gs
      rw [List.append_nil]
      exact I.toks t'
    show Made.post _ _ s
    split
    · rename_i h
      refine fin _ s.toks s rfl ⟨tb, ?_⟩
      rw [empty_of_len h]
      rw [show ((⟨#[]⟩ : Str) ++ b') = b' from Str.empty_append b']
    · split
      · rename_i h
        refine fin _ s.toks s rfl ⟨tq, ?_⟩
        rw [empty_of_len h]
        rw [show (q' ++ (⟨#[]⟩ : Str)) = q' from Str.append_empty q']
      · exact ⟨hq, fin _ _ _ rfl ⟨_, rfl⟩⟩
  · cases hF
end Mine

/-! part RunC -/
namespace Mine
open PySem PySem.W PySem.W.X PySem.Spec PySem.Calls PyProof.Rows

/-! a contract out of a theorem about a code -/
structure PostC where
  res : Result
  objs : List Obj
  news : List (Addr × Obj)
  tk : Nat
/-- the cells that a contract speaks of: number, address, object -/
noncomputable abbrev PreC := List (Nat × Addr × Obj)
noncomputable def chkPre (cs : Cells) : PreC → Option (List (Item × Item))
  | [] => some []
  | (i, a, o) :: r => match getC cs i, chkPre cs r with
    | some (x, o'), some l => some ((.a x, .a a) :: (.o o', .o o) :: l)
    | _, _ => none
noncomputable def updOf : PreC → List Obj → List (Nat × Obj)
  | (i, _, _) :: r, o :: os => (i, o) :: updOf r os
  | _, _ => []
noncomputable def cellsP : PreC → List Obj → Cells
  | (_, a, _) :: r, o :: os => (a, o) :: cellsP r os
  | _, _ => []
noncomputable def cells0 (pre : PreC) : Cells := pre.map fun x => (x.2.1, x.2.2)
noncomputable def headPos : List (Code × Pos) → Pos
  | [] => default
  | x :: _ => x.2
noncomputable def conOf (code : Code) (blE : Pos → List (Code × Pos)) (pre : PreC) (post : List Nat → PostC) : ConF := fun c bl cs _ ns => match chkPre cs pre with
  | some l => some ⟨(post ns).res, updOf pre (post ns).objs, (post ns).news, (post ns).tk, (.c c, .c code) :: (.b bl, .b (blE (headPos bl))) :: l⟩
  | none => none
theorem ConSound.by {M : Model} {kt : KT} {m : Nat} {α : Type} (f : Cells → Nat → α) {F : α → ConF} (h : ∀ y, ConSound M kt m (F y)) : ConSound M kt m (fun c bl cs tk ns => F (f cs tk) c bl cs tk ns) :=
  fun c bl p cs tk gs s₀ T s I H => h (f cs tk) c bl p cs tk gs s₀ T s I H

theorem chkPre_spec {cs : Cells} : ∀ {pre : PreC} {l : List (Item × Item)}, chkPre cs pre = some l → (∀ q ∈ l, q.1 = q.2) → ∀ x ∈ pre, getC cs x.1 = some (x.2.1, x.2.2)
  | [], _, _, _, x, hx => nomatch hx
  | (i, a, o) :: r, l, h, hq, x, hx => by
    unfold chkPre at h
    split at h
    · rename_i y o' l' hg hr
      cases h
      have e1 : y = a := Item.a.inj (hq _ (.head _))
      have e2 : o' = o := Item.o.inj (hq _ (.tail _ (.head _)))
      subst e1 e2
      rcases List.mem_cons.mp hx with e | e
      · rw [e]; exact hg
      · exact chkPre_spec hr (fun q hm => hq q (.tail _ (.tail _ hm))) x e
    · cases h
theorem setAll_fst : ∀ (us : List (Nat × Obj)) (cs : Cells), (setAll cs us).map (·.1) = cs.map (·.1)
  | [], _ => rfl
  | u :: us, cs => by
    show (setAll (setC cs u.1 u.2) us).map _ = _
    rw [setAll_fst us, setC_fst]
theorem getC_setC : ∀ (cs : Cells) (i j : Nat) (o : Obj), i ≠ j → getC (setC cs i o) j = getC cs j
  | [], _, _, _, _ => rfl
  | x :: l, 0, 0, o, h => absurd rfl h
  | x :: l, 0, j + 1, o, h => rfl
  | x :: l, i + 1, 0, o, h => rfl
  | x :: l, i + 1, j + 1, o, h => getC_setC l i j o fun e => h (by rw [e])
theorem setAll_mem : ∀ (pre : PreC) (os : List Obj) (cs : Cells), (cs.map (·.1)).Nodup → (pre.map (·.1)).Nodup → os.length = pre.length → (∀ x ∈ pre, getC cs x.1 = some (x.2.1, x.2.2)) →
    ∀ y ∈ setAll cs (updOf pre os), y ∈ cellsP pre os ∨ (y ∈ cs ∧ y.1 ∉ (cells0 pre).map (·.1))
  | [], os, cs, _, _, _, _, y, hy => .inr ⟨hy, fun h => nomatch h⟩
  | (i, a, o) :: r, [], _, _, _, h, _, _, _ => by simp at h
  | (i, a, o) :: r, o' :: os, cs, hn, hi, hl, hg, y, hy => by
    have hi' := List.nodup_cons.mp hi
    have hy' : y ∈ setAll (setC cs i o') (updOf r os) := hy
    have z := setAll_mem r os (setC cs i o') (by rw [setC_fst]; exact hn) hi'.2 (by simpa using hl) (fun x hx => by
      rw [getC_setC _ _ _ _ fun e => hi'.1 (by show i ∈ _; rw [e]; exact List.mem_map_of_mem (f := (·.1)) hx)]
      exact hg x (.tail _ hx)) y hy'
    have ha : getC cs i = some (a, o) := hg (i, a, o) (.head _)
    rcases z with q | ⟨q, q'⟩
    · exact .inl (.tail _ q)
    · rcases setC_mem hn ha y q with e | ⟨e, e'⟩
      · exact .inl (by rw [e]; exact .head _)
      · refine .inr ⟨e, fun h => ?_⟩
        rcases List.mem_cons.mp h with h | h
        · exact e' h
        · exact q' h
theorem cellsP_fst : ∀ (pre : PreC) (os : List Obj), os.length = pre.length → (cellsP pre os).map (·.1) = (cells0 pre).map (·.1)
  | [], _, _ => rfl
  | _ :: _, [], h => by simp at h
  | (i, a, o) :: r, o' :: os, h => by
    show a :: (cellsP r os).map _ = a :: (cells0 r).map _
    rw [cellsP_fst r os (by simpa using h)]
theorem conOf_sound {M : Model} {kt : KT} {m : Nat} {code : Code} {blE : Pos → List (Code × Pos)} {pre : PreC} {post : List Nat → PostC} (hi : (pre.map (·.1)).Nodup)
    (spec : ∀ s tk p pp, Inv kt s ((cells0 pre).map (·.1)) s (cells0 pre) tk → wpCode M (cx code (blE pp)) (fun r s' => ∃ ns, ns.length = m ∧ r = (post ns).res ∧ (post ns).objs.length = pre.length ∧ Inv kt s ((cells0 pre).map (·.1)) s' (cellsP pre (post ns).objs ++ (post ns).news) (post ns).tk) p s) :
    ConSound M kt m (conOf code blE pre post) := by
  intro c bl p cs tk gs s₀ T s I H
  obtain ⟨po, hF, chk⟩ := H (List.replicate m 0) (by simp)
  unfold conOf at hF
  split at hF
  · rename_i l hl
    cases hF
    have e1 : c = code := Item.c.inj (chk _ (.head _))
    have e2 : bl = blE (headPos bl) := Item.b.inj (chk _ (.tail _ (.head _)))
    subst e1
    generalize hpp : headPos bl = pp at e2
    have hg := chkPre_spec hl fun q hm => chk q (.tail _ (.tail _ hm))
    have sub : ∀ x ∈ cells0 pre, x ∈ cs := fun x hx => by
      obtain ⟨y, hy, rfl⟩ := List.mem_map.mp hx
      exact getC_mem (hg y hy)
    have nd : ((cells0 pre).map (·.1)).Nodup := by
      have key : ∀ (pre : PreC), (pre.map (·.1)).Nodup → (∀ x ∈ pre, getC cs x.1 = some (x.2.1, x.2.2)) → ((cells0 pre).map (·.1)).Nodup := by
        intro pre
        induction pre with
        | nil => exact fun _ _ => List.nodup_nil
        | cons x r ih =>
          intro h1 h2
          have h1' := List.nodup_cons.mp h1
          refine List.nodup_cons.mpr ⟨fun h => ?_, ih h1'.2 fun y hy => h2 y (.tail _ hy)⟩
          obtain ⟨z, hz, e⟩ := List.mem_map.mp h
          obtain ⟨y, hy, rfl⟩ := List.mem_map.mp hz
          have ex := h2 x (.head _)
          have ey := h2 y (.tail _ hy)
          have ne : x.1 ≠ y.1 := fun e => h1'.1 (by show x.1 ∈ _; rw [e]; exact List.mem_map_of_mem (f := (·.1)) hy)
          have inj : ∀ (cs : Cells) (i j : Nat) (a : Addr) (o o' : Obj), (cs.map (·.1)).Nodup → getC cs i = some (a, o) → getC cs j = some (a, o') → i = j := by
            intro cs
            induction cs with
            | nil => intro i j a o o' _ h; cases h
            | cons v l ih2 =>
              intro i j a o o' hn h h'
              have hn' := List.nodup_cons.mp hn
              cases i with
              | zero =>
                cases j with
                | zero => rfl
                | succ j =>
                  have e : v = (a, o) := Option.some.inj h
                  subst e
                  exact absurd (List.mem_map_of_mem (f := (·.1)) (getC_mem (cs := l) (i := j) h')) hn'.1
              | succ i =>
                cases j with
                | zero =>
                  have e : v = (a, o') := Option.some.inj h'
                  subst e
                  exact absurd (List.mem_map_of_mem (f := (·.1)) (getC_mem (cs := l) (i := i) h)) hn'.1
                | succ j => rw [ih2 i j a o o' hn'.2 h h']
          have e' : y.2.1 = x.2.1 := e
          rw [e'] at ey
          exact ne (inj cs _ _ _ _ _ I.nodup ex ey)
      exact key pre hi hg
    rw [e2]
    refine wpCode_mono ?_ (spec s tk p pp (I.focus sub nd))
    rintro r s' ⟨ns, hn, hr, ho, J⟩
    refine ⟨ns, _, hn, by unfold conOf; rw [← e2, hl], hr, ?_⟩
    show Inv kt s₀ T s' (setAll cs (updOf pre (post ns).objs) ++ (post ns).news) _ gs
    have T₁ := cellsP_fst pre _ ho
    have fresh : ∀ x ∈ (post ns).news, s.heap.get? x.1 = none := fun x hx => by
      rcases J.mine x (List.mem_append.mpr (.inr hx)) with z | z
      · have := J.nodup
        rw [List.map_append, T₁, List.nodup_append] at this
        exact absurd rfl (this.2.2 x.1 z x.1 (List.mem_map_of_mem hx))
      · exact z
    refine I.trans J (fun a ha => ?_) (fun x hx => ?_) ?_
    · obtain ⟨x, hx, rfl⟩ := List.mem_map.mp ha
      exact List.mem_map_of_mem (sub x hx)
    · rcases List.mem_append.mp hx with h | h
      · rcases setAll_mem pre _ cs I.nodup hi ho hg x h with q | q
        · exact .inl (List.mem_append.mpr (.inl q))
        · exact .inr q
      · exact .inl (List.mem_append.mpr (.inr h))
    · rw [List.map_append, setAll_fst, List.nodup_append]
      have := J.nodup
      rw [List.map_append, List.nodup_append] at this
      refine ⟨I.nodup, this.2.1, fun a ha a' ha' e => ?_⟩
      obtain ⟨x, hx, rfl⟩ := List.mem_map.mp ha
      obtain ⟨y, hy, rfl⟩ := List.mem_map.mp ha'
      have z := fresh y hy
      rw [← e, I.cell x hx] at z
      cases z
  · cases hF
end Mine

/-! part LR -/
namespace Mine
open PySem PySem.W PySem.W.X PySem.Spec PySem.Calls PyProof.Rows
noncomputable def chvL (c t : Nat) : Value := .str ⟨⟨[c]⟩⟩ t
/-- many toks in two numbers -/
noncomputable def zipT (B : Nat) : Nat → List Nat → List (Nat × Nat)
  | _, [] => []
  | e, c :: l => (c, e % B) :: zipT B (e / B) l
theorem zipT_enc : ∀ (l : List (Nat × Nat)) (B : Nat), 0 < B → (∀ x ∈ l, x.2 < B) → ∃ e, zipT B e (l.map (·.1)) = l
  | [], _, _, _ => ⟨0, rfl⟩
  | x :: l, B, hB, h => by
    obtain ⟨e, he⟩ := zipT_enc l B hB fun y hy => h y (.tail _ hy)
    refine ⟨x.2 + B * e, ?_⟩
    have h1 : (x.2 + B * e) % B = x.2 := by rw [Nat.add_mul_mod_self_left, Nat.mod_eq_of_lt (h x (.head _))]
    have h2 : (x.2 + B * e) / B = e := by rw [Nat.add_mul_div_left _ _ hB, Nat.div_eq_of_lt (h x (.head _)), Nat.zero_add]
    show (x.1, (x.2 + B * e) % B) :: zipT B ((x.2 + B * e) / B) (l.map (·.1)) = _
    rw [h1, h2, he]
theorem bound_of : ∀ (l : List (Nat × Nat)), ∃ B, 0 < B ∧ ∀ x ∈ l, x.2 < B
  | [] => ⟨1, Nat.one_pos, fun _ h => nomatch h⟩
  | x :: l => by
    obtain ⟨B, hB, h⟩ := bound_of l
    refine ⟨max B (x.2 + 1), by omega, fun y hy => ?_⟩
    rcases List.mem_cons.mp hy with e | e
    · rw [e]; omega
    · have := h y e; omega
theorem enc_any (o : List Nat) (l : List (Nat × Nat)) (h : l.map (·.1) = o) : ∃ B e, zipT B e o = l := by
  obtain ⟨B, hB, hb⟩ := bound_of l
  obtain ⟨e, he⟩ := zipT_enc l B hB hb
  exact ⟨B, e, by rw [← h]; exact he⟩
theorem items_vals {x : List Nat} {acc : Array Value} (h : ItemsOf (SignAt ⟨⟨x⟩⟩) acc x.length) : ∃ l : List (Nat × Nat), l.map (·.1) = x ∧ acc.toList = l.map fun z => chvL z.1 z.2 := by
  obtain ⟨hs, hi⟩ := h
  have hi' : ∀ j v, acc.toList[j]? = some v → ∃ c u, x[j]? = some c ∧ v = chvL c u := fun j v e => by
    obtain ⟨c, u, e1, e2⟩ := hi j v (by rw [← Array.getElem?_toList]; exact e)
    exact ⟨c, u, by simpa using e1, e2⟩
  have hs' : acc.toList.length = x.length := by simpa using hs
  revert hi' hs'
  generalize acc.toList = as
  clear hi hs acc
  induction as generalizing x with
  | nil =>
    intro _ h
    cases x with
    | nil => exact ⟨[], rfl, rfl⟩
    | cons => simp at h
  | cons a as ih =>
    intro hi hs
    cases x with
    | nil => simp at hs
    | cons c x =>
      obtain ⟨c', u, e1, e2⟩ := hi 0 a rfl
      obtain ⟨l, h1, h2⟩ := ih (x := x) (fun j v e => hi (j + 1) v (by simpa using e)) (by simpa using hs)
      have e1 : c = c' := Option.some.inj e1
      subst e1
      exact ⟨(c, u) :: l, by simp [h1], by simp [h2, e2]⟩

noncomputable def getNL : List Nat → Nat → Nat
  | [], _ => 0
  | a :: _, 0 => a
  | _ :: l, i + 1 => getNL l i
/-- list.__init__(l, text) -/
noncomputable def initF (ci : Nat) (x : Str) (vs : List Nat → List Value) : ConF := fun c _ cs tk ns => match c, getC cs ci with
  | .builtin id ⟨[.ref a, .str x' _], []⟩, some (y, o) => some ⟨.ok (.ret .none), [(ci, lstO (vs ns) (getNL ns 0))], [], getNL ns 1, [(.a (PySem.code id), .a (PySem.code "list.__init__")), (.a a, .a y), (.o o, .o (lstO [] 0)), (.s x', .s x)]⟩
  | _, _ => none
theorem Inv.move {kt : KT} {s₀ s : Shared} {T : List Addr} {cs : Cells} {tk : Nat} {gs : List (Nat × GenState)} (I : Inv kt s₀ T s cs tk gs) {i : Nat} {S : Addr} {o o' : Obj} (hi : getC cs i = some (S, o)) {h' : Heap} {t : Nat}
    (hk : ∀ b ob, b ≠ S → s.heap.get? b = some ob → h'.get? b = some ob) (hS : h'.get? S = some o') : Inv kt s₀ T { s with heap := h', toks := t } (setC cs i o') t gs := by
  have hm := getC_mem hi
  refine ⟨fun a ob e => hk a ob (fun q => ?_) (I.st a ob e), fun y hy => ?_, by rw [setC_fst]; exact I.nodup, fun y hy => ?_, fun y hy => ?_, rfl, fun b ob e h => hk b ob (fun q => ?_) (I.keep b ob e h), fun b hb => ?_, I.gens, I.gsz, I.gs, I.bare, I.os⟩
  · have := I.apart _ hm
    rw [← q] at this
    rw [this] at e; cases e
  · rcases setC_mem I.nodup hi y hy with q | ⟨q, q'⟩
    · rw [q]; exact hS
    · exact hk _ _ q' (I.cell y q)
  · rcases setC_mem I.nodup hi y hy with q | ⟨q, q'⟩
    · rw [q]; exact I.apart (S, o) hm
    · exact I.apart y q
  · rcases setC_mem I.nodup hi y hy with q | ⟨q, q'⟩
    · rw [q]; exact I.mine (S, o) hm
    · exact I.mine y q
  · rcases I.mine _ hm with z | z
    · exact h (by rw [q]; exact z)
    · rw [q, z] at e; cases e
  · show h'.get? b ≠ none
    by_cases q : b = S
    · rw [q, hS]; exact fun h => nomatch h
    · cases q2 : s.heap.get? b with
      | none => exact absurd q2 (I.size b hb)
      | some ob => rw [hk b ob q q2]; exact fun h => nomatch h
theorem init_sound (pg : Program) (w : World) (kt : KT) (ci m : Nat) (x : Str) (vs : List Nat → List Value) (hx : x.length ≤ sizeLine)
    (hv : ∀ (l : List (Nat × Nat)) (n tk : Nat), l.map (·.1) = x.cps.toList → ∃ ns, ns.length = m ∧ vs ns = (l.map fun z => chvL z.1 z.2) ∧ getNL ns 0 = n ∧ getNL ns 1 = tk) : ConSound (model pg w) kt m (initF ci x vs) := by
  intro c bl p cs tk gs s₀ T s I H
  obtain ⟨po, hF, chk⟩ := H (List.replicate m 0) (by simp)
  unfold initF at hF
  split at hF
  · rename_i id a x' t y o hg
    cases hF
    have e1 : id = "list.__init__" := PySem.code_inj _ _ (Item.a.inj (chk _ (.head _)))
    have e2 : a = y := Item.a.inj (chk _ (.tail _ (.head _)))
    have e3 : o = lstO [] 0 := Item.o.inj (chk _ (.tail _ (.tail _ (.head _))))
    have e4 : x' = x := Item.s.inj (chk _ (.tail _ (.tail _ (.tail _ (.head _)))))
    subst e1 e2 e3 e4
    have hS : s.heap.get? a = some (lstO [] 0) := I.cell _ (getC_mem hg)
    refine (codeAny_builtin (A := { depth := frameCount bl, units := unitsOf bl }) F.entry_list_init ?_) (cx (.builtin "list.__init__" _) bl) p rfl ⟨rfl, Nat.le_refl _, fun _ h => (nomatch h), fun _ h => (nomatch h), Nat.le_refl _⟩
    rw [Around.under_plainId (by decide +kernel)]
    refine wpAny_list_init_str (R := fun r s' => ∃ ns po, ns.length = m ∧ initF ci x' vs (.builtin "list.__init__" ⟨[.ref a, .str x' t], []⟩) bl cs tk ns = some po ∧ r = po.res ∧ Inv kt s₀ T s' (applyPost cs po) po.tk gs) (A := { depth := frameCount bl, units := unitsOf bl }) (hn := hx) rfl x' t a hS fun h' tk' acc' c' hk hS' hacc => ?_
    obtain ⟨l, h1, h2⟩ := items_vals (x := x'.cps.toList) (acc := acc') hacc
    obtain ⟨ns, hn, hvs, hn0, hn1⟩ := hv l c' tk' h1
    refine ⟨ns, _, hn, by unfold initF; rw [hg], rfl, ?_⟩
    show Inv kt s₀ T _ (setC cs ci (lstO (vs ns) (getNL ns 0)) ++ []) (getNL ns 1) gs
    rw [List.append_nil, hvs, hn0, hn1, ← h2]
    exact I.move hg hk hS'
  · cases hF
end Mine

/-! part GetTok -/
namespace Mine
open PySem PySem.W PySem.W.X PySem.Spec PySem.Calls PyProof.Rows

/-! the parts of get_token -/
noncomputable def forParts : Stmt → Expr × List Stmt × List Stmt
  | .For t _ b o _ => (t, b, o)
  | _ => default
noncomputable def ifParts : Stmt → List Stmt × List Stmt
  | .If _ b o _ => (b, o)
  | _ => default
noncomputable def asgVal : Stmt → Expr
  | .Assign _ e _ => e
  | _ => default
noncomputable def lamParts : Expr → Arguments × Expr × Scope
  | .Lambda a b sc _ => (a, b, sc)
  | _ => default
noncomputable def gtBody : List Stmt := (fnMeth 2).2.1
noncomputable def gtO : Expr × List Stmt × List Stmt := forParts (nthS gtBody 3)
noncomputable def gtQ : Expr × List Stmt × List Stmt := forParts (nthS (ifParts (nthS gtO.2.1 1)).1 0)
noncomputable def gtB : Expr × List Stmt × List Stmt := forParts (nthS (ifParts (nthS gtO.2.1 1)).2 2)
noncomputable def fnLam (e : Expr) (cl : List (Str × Addr)) (code ct : Value) : FuncData :=
  { name := ⟨⟨[60, 108, 97, 109, 98, 100, 97, 62]⟩⟩, qualname := ⟨⟨[95, 108, 97, 119, 95, 114, 101, 97, 100, 46, 60, 108, 111, 99, 97, 108, 115, 62, 46, 60, 108, 97, 109, 98, 100, 97, 62]⟩⟩, params := (lamParts e).1, body := .expr (lamParts e).2.1, scope := (lamParts e).2.2, globals := 3, closure := cl, defaults := .none, kwdefaults := .none, doc := .none, pyModule := .str ⟨⟨[108, 97, 119, 95, 114, 101, 48, 48, 50, 56, 95, 48, 49]⟩⟩ 357, annotations := none, code, closureTuple := ct, builtins := 0 }
/-- the numbers of a lexer: addresses and toks -/
structure Lx where
  (L D S Sd F C Ce Li PB cS ctF k1 k2 k3 k4 k5 : Nat)
  t : Nat → Nat
/-- the numbers of one call of get_token -/
structure Gx where
  (G Mt It t7 t8 t9 t11 : Nat)
noncomputable def envGT (G : Nat) : Env := { scope := (fnMeth 2).2.2, locals := G, globals := 3, cells := [], qual := ⟨⟨[95, 110, 101, 116, 114, 99, 108, 101, 120, 46, 103, 101, 116, 95, 116, 111, 107, 101, 110, 46, 60, 108, 111, 99, 97, 108, 115, 62, 46]⟩⟩, func := some 88, code := .ref 87, frame := some G, builtins := 0 }
noncomputable def cO (y : Gx) : Code := .forLoop gtO.1 (.ref y.It) gtO.2.1 gtO.2.2 (envGT y.G)
noncomputable def cQ (y : Gx) : Code := .forLoop gtQ.1 (.ref y.It) gtQ.2.1 gtQ.2.2 (envGT y.G)
noncomputable def cB (y : Gx) : Code := .forLoop gtB.1 (.ref y.It) gtB.2.1 gtB.2.2 (envGT y.G)
structure Stk where
  (b1 : List Stmt) (e1 : Env) (p1 : Pos)
  (t2 : Expr) (i2 : Value) (b2 o2 : List Stmt) (e2 : Env) (p2 : Pos)
  (b3 : List Stmt) (e3 : Env) (p3 : Pos)
  (b4 : List Stmt) (e4 : Env) (p4 p5 : Pos)
noncomputable def blG (k : Stk) : List (Code × Pos) := [(.func k.b1 k.e1, k.p1), (.forLoop k.t2 k.i2 k.b2 k.o2 k.e2, k.p2), (.func k.b3 k.e3, k.p3), (.func k.b4 k.e4, k.p4), (.builtin "claim.caller" {}, k.p5)]
noncomputable def blO (k : Stk) (y : Gx) (pF : Pos) : List (Code × Pos) := (.func gtBody (envGT y.G), pF) :: blG k
noncomputable def blI (k : Stk) (y : Gx) (pF pO : Pos) : List (Code × Pos) := (cO y, pO) :: blO k y pF
/-- the objects -/
noncomputable def oL (x : Lx) : Obj := ⟨.ref 98, some x.D, .plain, ⟨[]⟩⟩
noncomputable def oD (P : Params) (x : Lx) (ln : Int) (lt : Nat) : Obj := ⟨.type "dict", none, .dict ⟨[ent P ⟨⟨[108, 105, 110, 101, 110, 111]⟩⟩ (x.t 0) (.int ln lt), ent P ⟨⟨[105, 110, 115, 116, 114, 101, 97, 109]⟩⟩ (x.t 2) (.ref x.S), ent P ⟨⟨[119, 104, 105, 116, 101, 115, 112, 97, 99, 101]⟩⟩ (x.t 3) (.str ⟨⟨[10, 9, 13, 32]⟩⟩ (x.t 4)), ent P ⟨⟨[112, 117, 115, 104, 98, 97, 99, 107]⟩⟩ (x.t 5) (.ref x.PB)]⟩ 4, ⟨[]⟩⟩
noncomputable def oS (x : Lx) : Obj := ⟨.type "function", some x.Sd, .func (fnLam (asgVal (nthS (fnTop 11).2.1 1)) [] (.ref x.cS) .none), ⟨[]⟩⟩
noncomputable def oSd (P : Params) (x : Lx) : Obj := ⟨.type "dict", none, .dict ⟨[ent P ⟨⟨[114, 101, 97, 100]⟩⟩ (x.t 6) (.ref x.F)]⟩ 1, ⟨[]⟩⟩
noncomputable def oF (x : Lx) : Obj := ⟨.type "function", none, .func (fnLam (asgVal (nthS (fnTop 11).2.1 2)) [(⟨⟨[115, 105, 103, 110, 115]⟩⟩, x.Ce)] (.ref x.C) (.ref x.ctF)), ⟨[]⟩⟩
noncomputable def oC (x : Lx) : Obj := ⟨.type "code", none, .fields ⟨[.str ⟨⟨[60, 108, 97, 109, 98, 100, 97, 62]⟩⟩ (x.t 20), .str ⟨⟨[95, 108, 97, 119, 95, 114, 101, 97, 100, 46, 60, 108, 111, 99, 97, 108, 115, 62, 46, 60, 108, 97, 109, 98, 100, 97, 62]⟩⟩ (x.t 21), .str ⟨⟨[47, 99, 108, 97, 105, 109, 47, 99, 117, 116, 46, 112, 121]⟩⟩ (x.t 22), .int 99 0, .int 1 0, .int 0 0, .int 0 0, .int 19 0, .ref x.k1, .bool true, .int 181 0, .ref x.k2, .none, .ref x.k3, .ref x.k4, .ref x.k5, .int (x.t 23) 0, .int 99 0, .str ⟨⟨[47, 99, 108, 97, 105, 109, 47, 99, 117, 116, 46, 112, 121]⟩⟩ (x.t 24)]⟩, ⟨[]⟩⟩
noncomputable def oCe (x : Lx) : Obj := ⟨.type "cell", none, .cell (some (.ref x.Li)), ⟨[]⟩⟩
noncomputable def oG (P : Params) (x : Lx) (y : Gx) (q : Str) (tq tc : Nat) (ch : Value) : Obj := ⟨.type "frame", none, .dict ⟨[ent P ⟨⟨[115, 101, 108, 102]⟩⟩ y.t7 (.ref x.L), ent P ⟨⟨[116, 111, 107, 101, 110]⟩⟩ y.t8 (.str q tq), ent P ⟨⟨[102, 105, 116, 101, 114]⟩⟩ y.t9 (.ref y.It), ent P ⟨⟨[99, 104]⟩⟩ tc ch]⟩ 4, ⟨[]⟩⟩
noncomputable def oG0 (P : Params) (x : Lx) (y : Gx) (tq : Nat) : Obj := ⟨.type "frame", none, .dict ⟨[ent P ⟨⟨[115, 101, 108, 102]⟩⟩ y.t7 (.ref x.L), ent P ⟨⟨[116, 111, 107, 101, 110]⟩⟩ y.t8 (.str ⟨⟨[]⟩⟩ tq), ent P ⟨⟨[102, 105, 116, 101, 114]⟩⟩ y.t9 (.ref y.It)]⟩ 3, ⟨[]⟩⟩
noncomputable def oMt (x : Lx) : Obj := ⟨.type "method", none, .fields ⟨[.ref 81, .ref x.L]⟩, ⟨[]⟩⟩
noncomputable def oIt (y : Gx) : Obj := ⟨.type "callable_iterator", none, .fields ⟨[.ref y.Mt, .str ⟨⟨[]⟩⟩ y.t11, .bool false]⟩, ⟨[]⟩⟩
noncomputable def lexA (P : Params) (x : Lx) (ln : Int) (lt : Nat) (xs : List Value) (n : Nat) : Cells :=
  [(x.L, oL x), (x.D, oD P x ln lt), (x.S, oS x), (x.Sd, oSd P x), (x.F, oF x), (x.C, oC x), (x.Ce, oCe x), (x.Li, lstO xs n)]
noncomputable def lexC (P : Params) (x : Lx) (y : Gx) (ln : Int) (lt : Nat) (xs : List Value) (n : Nat) (g : Obj) : Cells :=
  [(x.L, oL x), (x.D, oD P x ln lt), (x.S, oS x), (x.Sd, oSd P x), (x.F, oF x), (x.C, oC x), (x.Ce, oCe x), (x.Li, lstO xs n), (y.G, g), (y.Mt, oMt x), (y.It, oIt y)]
noncomputable def chv (c t : Nat) : Value := .str ⟨⟨[c]⟩⟩ t
noncomputable abbrev fP (w : World) (b b2 : Bool) : Params := (fixW w b b2).params
noncomputable abbrev runF (w : World) (b b2 : Bool) (log : List Ev) (c : Code) (p : Pos) (bl : List (Code × Pos)) (cs : Cells) (tk : Nat) (sup : List Nat) : Option Res :=
  run denF pw (fP w b b2) (ktS (fP w b b2)) 1000000 log (denF c) c p bl [] cs tk [] [] sup
noncomputable def m11 : List Bool := [true, true, true, true, true, true, true, true, true, true, true]
noncomputable def getN : List Nat → Nat → Nat
  | [], _ => 0
  | a :: _, 0 => a
  | _ :: l, i + 1 => getN l i
/-- a long list of numbers by a function -/
noncomputable def tabN (f : Nat → Nat) : Nat → Nat → List Nat
  | 0, _ => []
  | n + 1, i => f i :: tabN f n (i + 1)
theorem getN_cons (a : Nat) (l : List Nat) (i : Nat) : getN (a :: l) (i + 1) = getN l i := rfl
theorem tabN_of : ∀ (l : List Nat) (g : Nat → Nat) (j : Nat), (∀ i, i < l.length → g (j + i) = getN l i) → tabN g l.length j = l
  | [], _, _, _ => rfl
  | a :: l, g, j, h => by
    show g j :: tabN g l.length (j + 1) = a :: l
    rw [tabN_of l g (j + 1) fun i hi => by
      have := h (i + 1) (by simp; omega)
      rw [show j + 1 + i = j + (i + 1) by omega, this]; rfl]
    have := h 0 (by simp)
    rw [show g j = a from this]
theorem tabN_sup {sup : List Nat} {n : Nat} (h : sup.length = n) : tabN (getN sup) n 0 = sup := by
  subst h
  exact tabN_of sup _ 0 fun i _ => by rw [Nat.zero_add]
theorem sup_ex {sup : List Nat} {n : Nat} (h : sup.length = n) : ∃ f, sup = tabN f n 0 := ⟨getN sup, (tabN_sup h).symm⟩
noncomputable def stC (c : Nat) : Str := ⟨⟨[c]⟩⟩
noncomputable def logQ1 (v : Value) (vs : List Value) (n : Nat) : List Ev := [.dy 10, .go, .dy 10, .go, .dy 10, .dy 10, .dy 9, .st, .go, .dy 9, .go, .st, .st, .dy 11, .dy 11, .st, .go, .dy 11, .dy 0, .st, .st, .st, .go, .dy 0, .st, .st, .st, .dy 0, .dy 0, .st, .dy 1, .dy 2, .dy 2, .dy 2, .dy 2, .go, .dy 2, .go, .dy 2, .dy 2, .dy 2, .dy 3, .dy 4, .go, .dy 4, .dy 5, .dy 12, .dy 12, .st, .go, .dy 6, .dy 7, .dy 13, .dy 7, .go, .dy 7, .go, .dy 13, .dy 7, .dy 13, .dy 6, .dy 7, .dy 7, .dy 7, .dy 7, .go, .dy 7, .con 0 (popF 7 v vs n), .dy 11, .dy 11, .dy 11, .go, .go, .dy 11, .dy 10, .dy 10, .go, .go, .dy 8, .dy 8, .dy 8, .go, .go, .dy 8]
noncomputable def logQ2 (v : Value) (vs : List Value) (n : Nat) (q b : Str) : List Ev := [.dy 10, .go, .dy 10, .go, .dy 10, .dy 10, .dy 9, .st, .go, .dy 9, .go, .st, .st, .dy 11, .dy 11, .st, .go, .dy 11, .dy 0, .st, .st, .st, .go, .dy 0, .st, .st, .st, .dy 0, .dy 0, .st, .dy 1, .dy 2, .dy 2, .dy 2, .dy 2, .go, .dy 2, .go, .dy 2, .dy 2, .dy 2, .dy 3, .dy 4, .go, .dy 4, .dy 5, .dy 12, .dy 12, .st, .go, .dy 6, .dy 7, .dy 13, .dy 7, .go, .dy 7, .go, .dy 13, .dy 7, .dy 13, .dy 6, .dy 7, .dy 7, .dy 7, .dy 7, .go, .dy 7, .con 0 (popF 7 v vs n), .dy 11, .dy 11, .dy 11, .go, .go, .dy 11, .dy 10, .dy 10, .go, .go, .dy 8, .dy 8, .dy 8, .go, .go, .dy 8, .go, .go, .dy 8, .dy 8, .go, .con 2 (addF q b), .dy 8, .dy 8, .stop]
noncomputable def logQ3 (v v2 : Value) (vs : List Value) (n : Nat) (q b : Str) : List Ev := [.dy 10, .go, .dy 10, .go, .dy 10, .dy 10, .dy 9, .st, .go, .dy 9, .go, .st, .st, .dy 11, .dy 11, .st, .go, .dy 11, .dy 0, .st, .st, .st, .go, .dy 0, .st, .st, .st, .dy 0, .dy 0, .st, .dy 1, .dy 2, .dy 2, .dy 2, .dy 2, .go, .dy 2, .go, .dy 2, .dy 2, .dy 2, .dy 3, .dy 4, .go, .dy 4, .dy 5, .dy 12, .dy 12, .st, .go, .dy 6, .dy 7, .dy 13, .dy 7, .go, .dy 7, .go, .dy 13, .dy 7, .dy 13, .dy 6, .dy 7, .dy 7, .dy 7, .dy 7, .go, .dy 7, .con 0 (popF 7 v (v2 :: vs) n), .dy 11, .dy 11, .dy 11, .go, .go, .dy 11, .dy 10, .dy 10, .go, .go, .dy 8, .dy 8, .dy 8, .go, .go, .dy 8, .go, .go, .dy 8, .dy 0, .st, .st, .st, .dy 0, .st, .st, .st, .dy 0, .st, .st, .st, .st, .dy 0, .dy 1, .st, .go, .st, .st, .dy 14, .dy 14, .st, .go, .dy 14, .dy 0, .st, .st, .st, .go, .dy 0, .st, .st, .st, .dy 0, .dy 0, .st, .dy 1, .dy 2, .dy 2, .dy 2, .dy 2, .go, .dy 2, .go, .dy 2, .dy 2, .dy 2, .dy 3, .dy 4, .go, .dy 4, .dy 5, .dy 15, .dy 15, .st, .go, .dy 6, .dy 7, .dy 16, .dy 7, .go, .dy 7, .go, .dy 16, .dy 7, .dy 16, .dy 6, .dy 7, .dy 7, .dy 7, .dy 7, .go, .dy 7, .con 0 (popF 7 v2 vs (n + 1)), .dy 14, .dy 14, .dy 14, .go, .go, .dy 14, .dy 8, .dy 8, .dy 8, .dy 8, .go, .con 2 (addF q b), .dy 8, .dy 8, .stop]
noncomputable def logB1 (v : Value) (vs : List Value) (n : Nat) : List Ev := [.dy 10, .go, .dy 10, .go, .dy 10, .dy 10, .dy 9, .st, .go, .dy 9, .go, .st, .st, .dy 11, .dy 11, .st, .go, .dy 11, .dy 0, .st, .st, .st, .go, .dy 0, .st, .st, .st, .dy 0, .dy 0, .st, .dy 1, .dy 2, .dy 2, .dy 2, .dy 2, .go, .dy 2, .go, .dy 2, .dy 2, .dy 2, .dy 3, .dy 4, .go, .dy 4, .dy 5, .dy 12, .dy 12, .st, .go, .dy 6, .dy 7, .dy 13, .dy 7, .go, .dy 7, .go, .dy 13, .dy 7, .dy 13, .dy 6, .dy 7, .dy 7, .dy 7, .dy 7, .go, .dy 7, .con 0 (popF 7 v vs n), .dy 11, .dy 11, .dy 11, .go, .go, .dy 11, .dy 0, .st, .st, .st, .go, .dy 0, .st, .st, .st, .dy 0, .dy 0, .st, .dy 1, .go, .go, .dy 0, .st, .st, .st, .go, .dy 0, .st, .go, .dy 0, .st, .dy 0, .st, .st, .st, .dy 0, .st, .dy 1, .dy 1, .dy 1, .dy 11, .dy 10, .dy 10, .go, .go, .dy 8, .dy 8, .dy 8, .dy 8, .dy 0, .st, .st, .st, .go, .dy 0, .st, .st, .st, .dy 0, .dy 0, .st, .dy 1, .go, .go, .dy 8]
noncomputable def logB2 (v : Value) (vs : List Value) (n : Nat) (q b : Str) : List Ev := [.dy 10, .go, .dy 10, .go, .dy 10, .dy 10, .dy 9, .st, .go, .dy 9, .go, .st, .st, .dy 11, .dy 11, .st, .go, .dy 11, .dy 0, .st, .st, .st, .go, .dy 0, .st, .st, .st, .dy 0, .dy 0, .st, .dy 1, .dy 2, .dy 2, .dy 2, .dy 2, .go, .dy 2, .go, .dy 2, .dy 2, .dy 2, .dy 3, .dy 4, .go, .dy 4, .dy 5, .dy 12, .dy 12, .st, .go, .dy 6, .dy 7, .dy 13, .dy 7, .go, .dy 7, .go, .dy 13, .dy 7, .dy 13, .dy 6, .dy 7, .dy 7, .dy 7, .dy 7, .go, .dy 7, .con 0 (popF 7 v vs n), .dy 11, .dy 11, .dy 11, .go, .go, .dy 11, .dy 10, .dy 10, .go, .go, .dy 8, .dy 8, .dy 8, .dy 8, .dy 0, .st, .st, .st, .go, .dy 0, .st, .st, .st, .dy 0, .dy 0, .st, .dy 1, .go, .go, .dy 8, .go, .go, .dy 8, .dy 8, .go, .con 2 (addF q b), .dy 8, .dy 8, .stop]
noncomputable def logB3 (v v2 : Value) (vs : List Value) (n : Nat) (q b : Str) : List Ev := [.dy 10, .go, .dy 10, .go, .dy 10, .dy 10, .dy 9, .st, .go, .dy 9, .go, .st, .st, .dy 11, .dy 11, .st, .go, .dy 11, .dy 0, .st, .st, .st, .go, .dy 0, .st, .st, .st, .dy 0, .dy 0, .st, .dy 1, .dy 2, .dy 2, .dy 2, .dy 2, .go, .dy 2, .go, .dy 2, .dy 2, .dy 2, .dy 3, .dy 4, .go, .dy 4, .dy 5, .dy 12, .dy 12, .st, .go, .dy 6, .dy 7, .dy 13, .dy 7, .go, .dy 7, .go, .dy 13, .dy 7, .dy 13, .dy 6, .dy 7, .dy 7, .dy 7, .dy 7, .go, .dy 7, .con 0 (popF 7 v (v2 :: vs) n), .dy 11, .dy 11, .dy 11, .go, .go, .dy 11, .dy 10, .dy 10, .go, .go, .dy 8, .dy 8, .dy 8, .dy 8, .dy 0, .st, .st, .st, .go, .dy 0, .st, .st, .st, .dy 0, .dy 0, .st, .dy 1, .go, .go, .dy 8, .go, .go, .dy 8, .dy 0, .st, .st, .st, .dy 0, .st, .st, .st, .dy 0, .st, .st, .st, .st, .dy 0, .dy 1, .st, .go, .st, .st, .dy 14, .dy 14, .st, .go, .dy 14, .dy 0, .st, .st, .st, .go, .dy 0, .st, .st, .st, .dy 0, .dy 0, .st, .dy 1, .dy 2, .dy 2, .dy 2, .dy 2, .go, .dy 2, .go, .dy 2, .dy 2, .dy 2, .dy 3, .dy 4, .go, .dy 4, .dy 5, .dy 15, .dy 15, .st, .go, .dy 6, .dy 7, .dy 16, .dy 7, .go, .dy 7, .go, .dy 16, .dy 7, .dy 16, .dy 6, .dy 7, .dy 7, .dy 7, .dy 7, .go, .dy 7, .con 0 (popF 7 v2 vs (n + 1)), .dy 14, .dy 14, .dy 14, .go, .go, .dy 14, .dy 8, .dy 8, .dy 8, .dy 8, .go, .con 2 (addF q b), .dy 8, .dy 8, .stop]
noncomputable def logOm (v : Value) (vs : List Value) (n : Nat) (F : ConF) : List Ev := [.dy 10, .go, .dy 10, .go, .dy 10, .dy 10, .dy 9, .st, .go, .dy 9, .go, .st, .st, .dy 11, .dy 11, .st, .go, .dy 11, .dy 0, .st, .st, .st, .go, .dy 0, .st, .st, .st, .dy 0, .dy 0, .st, .dy 1, .dy 2, .dy 2, .dy 2, .dy 2, .go, .dy 2, .go, .dy 2, .dy 2, .dy 2, .dy 3, .dy 4, .go, .dy 4, .dy 5, .dy 12, .dy 12, .st, .go, .dy 6, .dy 7, .dy 13, .dy 7, .go, .dy 7, .go, .dy 13, .dy 7, .dy 13, .dy 6, .dy 7, .dy 7, .dy 7, .dy 7, .go, .dy 7, .con 0 (popF 7 v vs n), .dy 11, .dy 11, .dy 11, .go, .go, .dy 11, .dy 10, .dy 10, .go, .go, .dy 8, .dy 8, .dy 8, .dy 8, .dy 0, .st, .st, .st, .go, .dy 0, .st, .st, .st, .dy 0, .dy 0, .st, .dy 1, .go, .go, .dy 8, .go, .go, .dy 8, .dy 10, .dy 10, .go, .dy 10, .go, .dy 10, .con 3 F]
noncomputable def logOb3 (v v2 : Value) (vs : List Value) (n : Nat) (q b : Str) (F : ConF) : List Ev := [.dy 10, .go, .dy 10, .go, .dy 10, .dy 10, .dy 9, .st, .go, .dy 9, .go, .st, .st, .dy 11, .dy 11, .st, .go, .dy 11, .dy 0, .st, .st, .st, .go, .dy 0, .st, .st, .st, .dy 0, .dy 0, .st, .dy 1, .dy 2, .dy 2, .dy 2, .dy 2, .go, .dy 2, .go, .dy 2, .dy 2, .dy 2, .dy 3, .dy 4, .go, .dy 4, .dy 5, .dy 12, .dy 12, .st, .go, .dy 6, .dy 7, .dy 13, .dy 7, .go, .dy 7, .go, .dy 13, .dy 7, .dy 13, .dy 6, .dy 7, .dy 7, .dy 7, .dy 7, .go, .dy 7, .con 0 (popF 7 v (v2 :: vs) n), .dy 11, .dy 11, .dy 11, .go, .go, .dy 11, .dy 10, .dy 10, .go, .go, .dy 8, .dy 8, .dy 8, .dy 8, .dy 0, .st, .st, .st, .go, .dy 0, .st, .st, .st, .dy 0, .dy 0, .st, .dy 1, .go, .go, .dy 8, .go, .go, .dy 8, .go, .go, .dy 8, .dy 0, .st, .st, .st, .dy 0, .st, .st, .st, .dy 0, .st, .st, .st, .st, .dy 0, .dy 1, .st, .go, .st, .st, .dy 14, .dy 14, .st, .go, .dy 14, .dy 0, .st, .st, .st, .go, .dy 0, .st, .st, .st, .dy 0, .dy 0, .st, .dy 1, .dy 2, .dy 2, .dy 2, .dy 2, .go, .dy 2, .go, .dy 2, .dy 2, .dy 2, .dy 3, .dy 4, .go, .dy 4, .dy 5, .dy 15, .dy 15, .st, .go, .dy 6, .dy 7, .dy 16, .dy 7, .go, .dy 7, .go, .dy 16, .dy 7, .dy 16, .dy 6, .dy 7, .dy 7, .dy 7, .dy 7, .go, .dy 7, .con 0 (popF 7 v2 vs (n + 1)), .dy 14, .dy 14, .dy 14, .go, .go, .dy 14, .dy 8, .dy 8, .dy 8, .dy 8, .go, .con 2 (addF q b), .dy 8, .dy 8, .dy 8, .dy 10, .dy 10, .go, .dy 10, .go, .dy 10, .con 4 F]
noncomputable def logG1 (m : Nat) (F : ConF) : List Ev := [.st, .st, .dy 9, .dy 9, .st, .go, .dy 9, .dy 0, .st, .st, .st, .go, .dy 0, .st, .st, .st, .dy 0, .dy 0, .st, .dy 1, .dy 8, .dy 8, .go, .dy 8, .go, .dy 8, .go, .dy 8, .dy 9, .dy 9, .st, .st, .dy 9, .dy 0, .st, .st, .st, .go, .dy 0, .st, .st, .st, .st, .st, .st, .dy 0, .dy 0, .st, .dy 1, .st, .st, .st, .go, .st, .go, .go, .go, .dy 10, .dy 9, .dy 9, .dy 9, .dy 11, .dy 11, .go, .dy 11, .go, .dy 11, .con m F]
noncomputable def logGe : List Ev := [.st, .st, .dy 9, .dy 9, .st, .go, .dy 9, .dy 0, .st, .st, .st, .go, .dy 0, .st, .st, .st, .dy 0, .dy 0, .st, .dy 1, .dy 8, .dy 8, .go, .dy 8, .go, .dy 8, .go, .dy 8, .dy 9, .dy 9, .st, .st, .dy 9, .dy 0, .st, .st, .st, .go, .dy 0, .st, .st, .st, .st, .st, .st, .dy 0, .dy 0, .st, .dy 1, .st, .st, .st, .go, .st, .go, .go, .go, .dy 10, .dy 9, .dy 9, .dy 9, .dy 11, .dy 11, .go, .dy 11, .go, .dy 11, .go, .dy 11, .go, .dy 11, .go, .dy 11, .dy 11, .dy 10, .st, .go, .dy 10, .go, .st, .st, .dy 12, .dy 12, .st, .go, .dy 12, .dy 0, .st, .st, .st, .go, .dy 0, .st, .st, .st, .dy 0, .dy 0, .st, .dy 1, .dy 2, .dy 2, .dy 2, .dy 2, .go, .dy 2, .go, .dy 2, .dy 2, .dy 2, .dy 3, .dy 4, .go, .dy 4, .dy 5, .dy 13, .dy 13, .st, .go, .dy 6, .dy 7, .dy 14, .dy 7, .go, .dy 7, .go, .dy 14, .dy 7, .dy 14, .go, .dy 7, .dy 14, .dy 7, .dy 14, .dy 12, .dy 12, .dy 12, .go, .go, .dy 12, .dy 11, .dy 11, .go, .go, .dy 11, .dy 10, .st, .dy 11, .dy 11, .dy 11, .dy 11, .dy 11, .dy 11, .dy 16, .go, .dy 9]

section
variable (w : World) (b b2 : Bool) (k : Stk) (x : Lx) (y : Gx) (pF pO p : Pos) (ln : Int) (lt : Nat) (vs : List Value) (n tk : Nat) (q : Str) (tq tc : Nat) (ch : Value)
theorem segQ1 (t : Nat) (sup : List Nat) (h : sup.length = 3) : okP m11 (runF w b b2 (logQ1 (chv 34 t) vs n) (cQ y) p (blI k y pF pO) (lexC (fP w b b2) x y ln lt (chv 34 t :: vs) n (oG (fP w b b2) x y q tq tc ch)) tk sup)
    (.fin (.ok (.ret (.str q tq)))) (lexC (fP w b b2) x y ln lt vs (n + 1) (oG (fP w b b2) x y q tq tc (chv 34 t))) := by
  obtain ⟨fS, rfl⟩ := sup_ex h
  cases b <;> (unfold okP; kernel_rfl)
theorem segQ2a (t : Nat) (sup : List Nat) (h : sup.length = 5) : okP m11 (runF w b b2 (logQ2 (chv 40 t) vs n q (stC 40)) (cQ y) p (blI k y pF pO) (lexC (fP w b b2) x y ln lt (chv 40 t :: vs) n (oG (fP w b b2) x y q tq tc ch)) tk sup)
    (.again (cQ y)) (lexC (fP w b b2) x y ln lt vs (n + 1) (oG (fP w b b2) x y (q ++ stC 40) (getN sup 3) tc (chv 40 t))) := by
  obtain ⟨fS, rfl⟩ := sup_ex h
  cases b <;> (unfold okP; kernel_rfl)
theorem segQ2b (t : Nat) (sup : List Nat) (h : sup.length = 5) : okP m11 (runF w b b2 (logQ2 (chv 41 t) vs n q (stC 41)) (cQ y) p (blI k y pF pO) (lexC (fP w b b2) x y ln lt (chv 41 t :: vs) n (oG (fP w b b2) x y q tq tc ch)) tk sup)
    (.again (cQ y)) (lexC (fP w b b2) x y ln lt vs (n + 1) (oG (fP w b b2) x y (q ++ stC 41) (getN sup 3) tc (chv 41 t))) := by
  obtain ⟨fS, rfl⟩ := sup_ex h
  cases b <;> (unfold okP; kernel_rfl)
theorem segQ2 (c t : Nat) (sup : List Nat) (h : sup.length = 5) : okP m11 (runF w b b2 (logQ2 (chv (c + 93) t) vs n q (stC (c + 93))) (cQ y) p (blI k y pF pO) (lexC (fP w b b2) x y ln lt (chv (c + 93) t :: vs) n (oG (fP w b b2) x y q tq tc ch)) tk sup)
    (.again (cQ y)) (lexC (fP w b b2) x y ln lt vs (n + 1) (oG (fP w b b2) x y (q ++ stC (c + 93)) (getN sup 3) tc (chv (c + 93) t))) := by
  obtain ⟨fS, rfl⟩ := sup_ex h
  cases b <;> (unfold okP; kernel_rfl)
theorem segQ3 (t0 c t : Nat) (sup : List Nat) (h : sup.length = 8) : okP m11 (runF w b b2 (logQ3 (chv 92 t0) (chv (c + 11) t) vs n q (stC (c + 11))) (cQ y) p (blI k y pF pO) (lexC (fP w b b2) x y ln lt (chv 92 t0 :: chv (c + 11) t :: vs) n (oG (fP w b b2) x y q tq tc ch)) tk sup)
    (.again (cQ y)) (lexC (fP w b b2) x y ln lt vs (n + 1 + 1) (oG (fP w b b2) x y (q ++ stC (c + 11)) (getN sup 6) tc (chv (c + 11) t))) := by
  obtain ⟨fS, rfl⟩ := sup_ex h
  cases b <;> (unfold okP; kernel_rfl)
theorem segB1 (t : Nat) (sup : List Nat) (h : sup.length = 3) : okP m11 (runF w b b2 (logB1 (chv 10 t) vs n) (cB y) p (blI k y pF pO) (lexC (fP w b b2) x y 1 lt (chv 10 t :: vs) n (oG (fP w b b2) x y q tq tc ch)) tk sup)
    (.fin (.ok (.ret (.str q tq)))) (lexC (fP w b b2) x y 2 (tk + 10) vs (n + 1) (oG (fP w b b2) x y q tq tc (chv 10 t))) := by
  obtain ⟨fS, rfl⟩ := sup_ex h
  cases b <;> (unfold okP; kernel_rfl)
theorem segB2a (t : Nat) (sup : List Nat) (h : sup.length = 5) : okP m11 (runF w b b2 (logB2 (chv 40 t) vs n q (stC 40)) (cB y) p (blI k y pF pO) (lexC (fP w b b2) x y ln lt (chv 40 t :: vs) n (oG (fP w b b2) x y q tq tc ch)) tk sup)
    (.again (cB y)) (lexC (fP w b b2) x y ln lt vs (n + 1) (oG (fP w b b2) x y (q ++ stC 40) (getN sup 3) tc (chv 40 t))) := by
  obtain ⟨fS, rfl⟩ := sup_ex h
  cases b <;> (unfold okP; kernel_rfl)
theorem segB2b (t : Nat) (sup : List Nat) (h : sup.length = 5) : okP m11 (runF w b b2 (logB2 (chv 41 t) vs n q (stC 41)) (cB y) p (blI k y pF pO) (lexC (fP w b b2) x y ln lt (chv 41 t :: vs) n (oG (fP w b b2) x y q tq tc ch)) tk sup)
    (.again (cB y)) (lexC (fP w b b2) x y ln lt vs (n + 1) (oG (fP w b b2) x y (q ++ stC 41) (getN sup 3) tc (chv 41 t))) := by
  obtain ⟨fS, rfl⟩ := sup_ex h
  cases b <;> (unfold okP; kernel_rfl)
theorem segB2 (c t : Nat) (sup : List Nat) (h : sup.length = 5) : okP m11 (runF w b b2 (logB2 (chv (c + 93) t) vs n q (stC (c + 93))) (cB y) p (blI k y pF pO) (lexC (fP w b b2) x y ln lt (chv (c + 93) t :: vs) n (oG (fP w b b2) x y q tq tc ch)) tk sup)
    (.again (cB y)) (lexC (fP w b b2) x y ln lt vs (n + 1) (oG (fP w b b2) x y (q ++ stC (c + 93)) (getN sup 3) tc (chv (c + 93) t))) := by
  obtain ⟨fS, rfl⟩ := sup_ex h
  cases b <;> (unfold okP; kernel_rfl)
theorem segB3 (t0 c t : Nat) (sup : List Nat) (h : sup.length = 8) : okP m11 (runF w b b2 (logB3 (chv 92 t0) (chv (c + 11) t) vs n q (stC (c + 11))) (cB y) p (blI k y pF pO) (lexC (fP w b b2) x y ln lt (chv 92 t0 :: chv (c + 11) t :: vs) n (oG (fP w b b2) x y q tq tc ch)) tk sup)
    (.again (cB y)) (lexC (fP w b b2) x y ln lt vs (n + 1 + 1) (oG (fP w b b2) x y (q ++ stC (c + 11)) (getN sup 6) tc (chv (c + 11) t))) := by
  obtain ⟨fS, rfl⟩ := sup_ex h
  cases b <;> (unfold okP; kernel_rfl)
end
end Mine

/-! part GT2 -/
namespace Mine
open PySem PySem.W PySem.W.X PySem.Spec PySem.Calls PyProof.Rows

noncomputable abbrev MM (w : World) (b b2 : Bool) : Model := model pw (fixW w b b2)
theorem MM_den (w : World) (b b2 : Bool) : (MM w b b2).den = denF := den_eq
noncomputable def vals (xs : List (Nat × Nat)) : List Value := xs.map fun z => chv z.1 z.2
/-- a text without a hanging backslash, and what is read of it -/
inductive Gd : List (Nat × Nat) → List Nat → Prop where
  | nil : Gd [] []
  | esc {c t t0 : Nat} {l : List (Nat × Nat)} {o : List Nat} : 11 ≤ c → Gd l o → Gd ((92, t0) :: (c, t) :: l) (c :: o)
  | ord {c t : Nat} {l : List (Nat × Nat)} {o : List Nat} : (c = 40 ∨ c = 41 ∨ 93 ≤ c) → Gd l o → Gd ((c, t) :: l) (c :: o)
theorem Gd.len {l : List (Nat × Nat)} {o : List Nat} (g : Gd l o) : o.length ≤ l.length := by
  induction g with
  | nil => exact Nat.le_refl _
  | esc _ _ ih => simp only [List.length_cons]; omega
  | ord _ _ ih => simp only [List.length_cons]; omega
theorem str_cons (q : Str) (c : Nat) (o : List Nat) : (q ++ stC c) ++ (⟨⟨o⟩⟩ : Str) = q ++ (⟨⟨c :: o⟩⟩ : Str) := by
  apply Str.ext'
  rw [Str.cps_append, Str.cps_append, Str.cps_append]
  apply Array.ext'
  simp [stC]
theorem str_nil (q : Str) : q ++ (⟨⟨[]⟩⟩ : Str) = q := Str.append_empty q
theorem len_stC (q : Str) (c : Nat) : (q ++ stC c).length = q.length + 1 := by
  rw [Str.length_append]; rfl
theorem sizeLine_is : sizeLine = 16777216 := by decide

section
variable {w : World} {b b2 : Bool} {s₀ : Shared} {T : List Addr} {k : Stk} {x : Lx} {y : Gx} {pF pO : Pos}
noncomputable abbrev KT' (w : World) (b b2 : Bool) : KT := ktS (fP w b b2)
theorem loopQ {xs : List (Nat × Nat)} {o : List Nat} (g : Gd xs o) : ∀ (q : Str) (tq tc n tk t34 : Nat) (ch : Value) (ln : Int) (lt : Nat) (tail : List Value) (s : Shared) (p : Pos),
    Inv (KT' w b b2) s₀ T s (lexC (fP w b b2) x y ln lt (vals xs ++ chv 34 t34 :: tail) n (oG (fP w b b2) x y q tq tc ch)) tk → q.length + xs.length + tail.length ≤ 10000 →
    wpCode (MM w b b2) (cx (cQ y) (blI k y pF pO)) (fun r s' => ∃ tq' n' tk', r = .ok (.ret (.str (q ++ (⟨⟨o⟩⟩ : Str)) tq')) ∧ Inv (KT' w b b2) s₀ T s' (lexC (fP w b b2) x y ln lt tail n' (oG (fP w b b2) x y (q ++ (⟨⟨o⟩⟩ : Str)) tq' tc (chv 34 t34))) tk') p s := by
  induction g with
  | nil =>
    intro q tq tc n tk t34 ch ln lt tail s p I hl
    refine segP (MM_den w b b2) rfl rfl m11 (fun sup hs => segQ1 w b b2 k x y pF pO p ln lt tail n tk q tq tc ch t34 sup hs) ⟨pop_sound _ _ _ _ _ _ _ (by rw [sizeLine_is]; simp at hl; omega), trivial⟩ I fun sup s' tk' hs I' => ?_
    rw [str_nil]
    exact ⟨tq, n + 1, tk', rfl, I'⟩
  | @esc c t t0 l o hc g ih =>
    intro q tq tc n tk t34 ch ln lt tail s p I hl
    simp only [List.length_cons] at hl
    have hg := g.len
    obtain ⟨d, rfl⟩ : ∃ d, c = d + 11 := ⟨c - 11, by omega⟩
    refine segP (MM_den w b b2) rfl rfl m11 (fun sup hs => segQ3 w b b2 k x y pF pO p ln lt (vals l ++ chv 34 t34 :: tail) n tk q tq tc ch t0 d t sup hs)
      ⟨pop_sound _ _ _ _ _ _ _ (by rw [sizeLine_is]; simp [vals]; omega), pop_sound _ _ _ _ _ _ _ (by rw [sizeLine_is]; simp [vals]; omega), add_sound _ _ _ _ _ (by rw [len_stC, sizeLine_is]; omega), trivial⟩ I fun sup s' tk' hs I' => ?_
    intro p'
    have z := ih (q ++ stC (d + 11)) (getN sup 6) tc (n + 1 + 1) tk' t34 (chv (d + 11) t) ln lt tail s' p' I' (by rw [len_stC]; omega)
    rw [str_cons] at z
    exact z
  | @ord c t l o hc g ih =>
    intro q tq tc n tk t34 ch ln lt tail s p I hl
    simp only [List.length_cons] at hl
    have hpop : (vals l ++ chv 34 t34 :: tail).length + 1 ≤ sizeLine := by rw [sizeLine_is]; simp [vals]; omega
    have hadd : (q ++ stC c).length ≤ sizeLine := by rw [len_stC, sizeLine_is]; omega
    have next : ∀ (sup : List Nat) (s' : Shared) (tk' : Nat), sup.length = 5 → Inv (KT' w b b2) s₀ T s' (lexC (fP w b b2) x y ln lt (vals l ++ chv 34 t34 :: tail) (n + 1) (oG (fP w b b2) x y (q ++ stC c) (getN sup 3) tc (chv c t))) tk' → ∀ p', wpCode (MM w b b2) (cx (cQ y) (blI k y pF pO)) (fun r s' => ∃ tq' n' tk', r = .ok (.ret (.str (q ++ (⟨⟨c :: o⟩⟩ : Str)) tq')) ∧ Inv (KT' w b b2) s₀ T s' (lexC (fP w b b2) x y ln lt tail n' (oG (fP w b b2) x y (q ++ (⟨⟨c :: o⟩⟩ : Str)) tq' tc (chv 34 t34))) tk') p' s' := fun sup s' tk' hs I' p' => by
      have z := ih (q ++ stC c) (getN sup 3) tc (n + 1) tk' t34 (chv c t) ln lt tail s' p' I' (by rw [len_stC]; omega)
      rw [str_cons] at z
      exact z
    rcases hc with rfl | rfl | hc
    · exact segP (MM_den w b b2) rfl rfl m11 (fun sup hs => segQ2a w b b2 k x y pF pO p ln lt (vals l ++ chv 34 t34 :: tail) n tk q tq tc ch t sup hs) ⟨pop_sound _ _ _ _ _ _ _ hpop, add_sound _ _ _ _ _ hadd, trivial⟩ I next
    · exact segP (MM_den w b b2) rfl rfl m11 (fun sup hs => segQ2b w b b2 k x y pF pO p ln lt (vals l ++ chv 34 t34 :: tail) n tk q tq tc ch t sup hs) ⟨pop_sound _ _ _ _ _ _ _ hpop, add_sound _ _ _ _ _ hadd, trivial⟩ I next
    · obtain ⟨d, rfl⟩ : ∃ d, c = d + 93 := ⟨c - 93, by omega⟩
      exact segP (MM_den w b b2) rfl rfl m11 (fun sup hs => segQ2 w b b2 k x y pF pO p ln lt (vals l ++ chv 34 t34 :: tail) n tk q tq tc ch d t sup hs) ⟨pop_sound _ _ _ _ _ _ _ hpop, add_sound _ _ _ _ _ hadd, trivial⟩ I next
end
end Mine

/-! part GT3 -/
namespace Mine
open PySem PySem.W PySem.W.X PySem.Spec PySem.Calls PyProof.Rows

noncomputable def preZ : List Nat → Cells → PreC
  | i :: is, (a, o) :: l => (i, a, o) :: preZ is l
  | _, _ => []
noncomputable def objsOf (cs : Cells) : List Obj := cs.map (·.2)
/-- a contract by cells before and cells behind -/
noncomputable def conC (code : Code) (blE : Pos → List (Code × Pos)) (idx : List Nat) (cs : Cells) (res : List Nat → Result) (cs' : List Nat → Cells) (tk' : List Nat → Nat) : ConF :=
  conOf code blE (preZ idx cs) fun ns => ⟨res ns, objsOf (cs' ns), [], tk' ns⟩
theorem cells0_preZ : ∀ (idx : List Nat) (cs : Cells), idx.length = cs.length → cells0 (preZ idx cs) = cs
  | [], [], _ => rfl
  | [], _ :: _, h => by simp at h
  | _ :: _, [], h => by simp at h
  | i :: is, (a, o) :: l, h => by
    show (a, o) :: cells0 (preZ is l) = _
    rw [cells0_preZ is l (by simpa using h)]
theorem preZ_fst : ∀ (idx : List Nat) (cs : Cells), idx.length = cs.length → (preZ idx cs).map (·.1) = idx
  | [], [], _ => rfl
  | [], _ :: _, h => by simp at h
  | _ :: _, [], h => by simp at h
  | i :: is, (a, o) :: l, h => by
    show i :: (preZ is l).map _ = _
    rw [preZ_fst is l (by simpa using h)]
theorem preZ_len : ∀ (idx : List Nat) (cs : Cells), idx.length = cs.length → (preZ idx cs).length = cs.length
  | [], [], _ => rfl
  | [], _ :: _, h => by simp at h
  | _ :: _, [], h => by simp at h
  | i :: is, (a, o) :: l, h => by
    show (preZ is l).length + 1 = l.length + 1
    rw [preZ_len is l (by simpa using h)]
theorem cellsP_preZ : ∀ (idx : List Nat) (cs cs' : Cells), idx.length = cs.length → cs'.map (·.1) = cs.map (·.1) → cellsP (preZ idx cs) (objsOf cs') = cs'
  | [], [], [], _, _ => rfl
  | [], [], _ :: _, _, h => by simp at h
  | [], _ :: _, _, h, _ => by simp at h
  | _ :: _, [], _, h, _ => by simp at h
  | i :: is, (a, o) :: l, [], _, h => by simp at h
  | i :: is, (a, o) :: l, (a', o') :: l', h, h' => by
    rw [List.map_cons, List.map_cons] at h'
    injection h' with e1 e2
    show (a, o') :: cellsP (preZ is l) (objsOf l') = _
    rw [cellsP_preZ is l l' (by simpa using h) e2]
    have : a' = a := e1
    rw [this]
theorem conC_sound {M : Model} {kt : KT} {m : Nat} {code : Code} {blE : Pos → List (Code × Pos)} {idx : List Nat} {cs : Cells} {res : List Nat → Result} {cs' : List Nat → Cells} {tk' : List Nat → Nat}
    (hi : idx.Nodup) (hl : idx.length = cs.length) (ha : ∀ ns, (cs' ns).map (·.1) = cs.map (·.1))
    (spec : ∀ s tk p pp, Inv kt s (cs.map (·.1)) s cs tk → wpCode M (cx code (blE pp)) (fun r s' => ∃ ns, ns.length = m ∧ r = res ns ∧ Inv kt s (cs.map (·.1)) s' (cs' ns) (tk' ns)) p s) :
    ConSound M kt m (conC code blE idx cs res cs' tk') := by
  refine conOf_sound (by rw [preZ_fst idx cs hl]; exact hi) fun s tk p pp I => ?_
  rw [cells0_preZ idx cs hl] at I
  refine wpCode_mono ?_ (spec s tk p pp I)
  rintro r s' ⟨ns, hn, hr, J⟩
  refine ⟨ns, hn, hr, ?_, ?_⟩
  · show (objsOf (cs' ns)).length = _
    rw [preZ_len idx cs hl]
    have := congrArg List.length (ha ns)
    simpa [objsOf] using this
  · rw [cells0_preZ idx cs hl]
    show Inv kt s _ s' (cellsP (preZ idx cs) (objsOf (cs' ns)) ++ []) _
    rw [cellsP_preZ idx cs _ hl (ha ns), List.append_nil]
    exact J

/-! numbers read off the cells -/
noncomputable def nthE : List DictEntry → Nat → DictEntry
  | [], _ => default
  | e :: _, 0 => e
  | _ :: l, i + 1 => nthE l i
noncomputable def tokV : Value → Nat
  | .str _ t => t
  | .int _ t => t
  | _ => 0
noncomputable def entsOf (o : Obj) : List DictEntry := match o.data with
  | .dict ⟨es⟩ _ => es
  | _ => []
noncomputable def fldsOf (o : Obj) : List Value := match o.data with
  | .fields ⟨vs⟩ => vs
  | _ => []
noncomputable def nthV : List Value → Nat → Value
  | [], _ => .none
  | v :: _, 0 => v
  | _ :: l, i + 1 => nthV l i
noncomputable def objAt (cs : Cells) (i : Nat) : Obj := match getC cs i with
  | some x => x.2
  | none => ⟨.none, none, .plain, ⟨[]⟩⟩
noncomputable def adAt (cs : Cells) (i : Nat) : Nat := match getC cs i with
  | some x => x.1
  | none => 0
noncomputable def keyTok (cs : Cells) (i j : Nat) : Nat := tokV (nthE (entsOf (objAt cs i)) j).key
noncomputable def valTok (cs : Cells) (i j : Nat) : Nat := tokV (nthE (entsOf (objAt cs i)) j).val
noncomputable def fldTok (cs : Cells) (i j : Nat) : Nat := tokV (nthV (fldsOf (objAt cs i)) j)
noncomputable def logOb2 (v : Value) (vs : List Value) (n : Nat) (q b : Str) (F : ConF) : List Ev := [.dy 10, .go, .dy 10, .go, .dy 10, .dy 10, .dy 9, .st, .go, .dy 9, .go, .st, .st, .dy 11, .dy 11, .st, .go, .dy 11, .dy 0, .st, .st, .st, .go, .dy 0, .st, .st, .st, .dy 0, .dy 0, .st, .dy 1, .dy 2, .dy 2, .dy 2, .dy 2, .go, .dy 2, .go, .dy 2, .dy 2, .dy 2, .dy 3, .dy 4, .go, .dy 4, .dy 5, .dy 12, .dy 12, .st, .go, .dy 6, .dy 7, .dy 13, .dy 7, .go, .dy 7, .go, .dy 13, .dy 7, .dy 13, .dy 6, .dy 7, .dy 7, .dy 7, .dy 7, .go, .dy 7, .con 0 (popF 7 v vs n), .dy 11, .dy 11, .dy 11, .go, .go, .dy 11, .dy 10, .dy 10, .go, .go, .dy 8, .dy 8, .dy 8, .dy 8, .dy 0, .st, .st, .st, .go, .dy 0, .st, .st, .st, .dy 0, .dy 0, .st, .dy 1, .go, .go, .dy 8, .go, .go, .dy 8, .go, .go, .dy 8, .dy 8, .go, .con 2 (addF q b), .dy 8, .dy 8, .dy 8, .dy 10, .dy 10, .go, .dy 10, .go, .dy 10, .con 4 F]
noncomputable def i11 : List Nat := [0, 1, 2, 3, 4, 5, 6, 7, 8, 9, 10]

section
variable {w : World} {b b2 : Bool} {s₀ : Shared} {T : List Addr} {k : Stk} {x : Lx} {y : Gx} {pF pO : Pos}
theorem loopB {xs : List (Nat × Nat)} {o : List Nat} (g : Gd xs o) : ∀ (q : Str) (tq tc n tk te : Nat) (ch : Value) (lt : Nat) (tail : List Value) (s : Shared) (p : Pos),
    Inv (KT' w b b2) s₀ T s (lexC (fP w b b2) x y 1 lt (vals xs ++ chv 10 te :: tail) n (oG (fP w b b2) x y q tq tc ch)) tk → q.length + xs.length + tail.length ≤ 10000 →
    wpCode (MM w b b2) (cx (cB y) (blI k y pF pO)) (fun r s' => ∃ tq' n' tk' lt', r = .ok (.ret (.str (q ++ (⟨⟨o⟩⟩ : Str)) tq')) ∧ Inv (KT' w b b2) s₀ T s' (lexC (fP w b b2) x y 2 lt' tail n' (oG (fP w b b2) x y (q ++ (⟨⟨o⟩⟩ : Str)) tq' tc (chv 10 te))) tk') p s := by
  induction g with
  | nil =>
    intro q tq tc n tk te ch lt tail s p I hl
    refine segP (MM_den w b b2) rfl rfl m11 (fun sup hs => segB1 w b b2 k x y pF pO p lt tail n tk q tq tc ch te sup hs) ⟨pop_sound _ _ _ _ _ _ _ (by rw [sizeLine_is]; simp at hl; omega), trivial⟩ I fun sup s' tk' hs I' => ?_
    rw [str_nil]
    exact ⟨tq, n + 1, tk', _, rfl, I'⟩
  | @esc c t t0 l o hc g ih =>
    intro q tq tc n tk te ch lt tail s p I hl
    simp only [List.length_cons] at hl
    obtain ⟨d, rfl⟩ : ∃ d, c = d + 11 := ⟨c - 11, by omega⟩
    refine segP (MM_den w b b2) rfl rfl m11 (fun sup hs => segB3 w b b2 k x y pF pO p 1 lt (vals l ++ chv 10 te :: tail) n tk q tq tc ch t0 d t sup hs)
      ⟨pop_sound _ _ _ _ _ _ _ (by rw [sizeLine_is]; simp [vals]; omega), pop_sound _ _ _ _ _ _ _ (by rw [sizeLine_is]; simp [vals]; omega), add_sound _ _ _ _ _ (by rw [len_stC, sizeLine_is]; omega), trivial⟩ I fun sup s' tk' hs I' => ?_
    intro p'
    have z := ih (q ++ stC (d + 11)) (getN sup 6) tc (n + 1 + 1) tk' te (chv (d + 11) t) lt tail s' p' I' (by rw [len_stC]; omega)
    rw [str_cons] at z
    exact z
  | @ord c t l o hc g ih =>
    intro q tq tc n tk te ch lt tail s p I hl
    simp only [List.length_cons] at hl
    have hpop : (vals l ++ chv 10 te :: tail).length + 1 ≤ sizeLine := by rw [sizeLine_is]; simp [vals]; omega
    have hadd : (q ++ stC c).length ≤ sizeLine := by rw [len_stC, sizeLine_is]; omega
    have next : ∀ (sup : List Nat) (s' : Shared) (tk' : Nat), sup.length = 5 → Inv (KT' w b b2) s₀ T s' (lexC (fP w b b2) x y 1 lt (vals l ++ chv 10 te :: tail) (n + 1) (oG (fP w b b2) x y (q ++ stC c) (getN sup 3) tc (chv c t))) tk' → ∀ p', wpCode (MM w b b2) (cx (cB y) (blI k y pF pO)) (fun r s' => ∃ tq' n' tk' lt', r = .ok (.ret (.str (q ++ (⟨⟨c :: o⟩⟩ : Str)) tq')) ∧ Inv (KT' w b b2) s₀ T s' (lexC (fP w b b2) x y 2 lt' tail n' (oG (fP w b b2) x y (q ++ (⟨⟨c :: o⟩⟩ : Str)) tq' tc (chv 10 te))) tk') p' s' := fun sup s' tk' hs I' p' => by
      have z := ih (q ++ stC c) (getN sup 3) tc (n + 1) tk' te (chv c t) lt tail s' p' I' (by rw [len_stC]; omega)
      rw [str_cons] at z
      exact z
    rcases hc with rfl | rfl | hc
    · exact segP (MM_den w b b2) rfl rfl m11 (fun sup hs => segB2a w b b2 k x y pF pO p 1 lt (vals l ++ chv 10 te :: tail) n tk q tq tc ch t sup hs) ⟨pop_sound _ _ _ _ _ _ _ hpop, add_sound _ _ _ _ _ hadd, trivial⟩ I next
    · exact segP (MM_den w b b2) rfl rfl m11 (fun sup hs => segB2b w b b2 k x y pF pO p 1 lt (vals l ++ chv 10 te :: tail) n tk q tq tc ch t sup hs) ⟨pop_sound _ _ _ _ _ _ _ hpop, add_sound _ _ _ _ _ hadd, trivial⟩ I next
    · obtain ⟨d, rfl⟩ : ∃ d, c = d + 93 := ⟨c - 93, by omega⟩
      exact segP (MM_den w b b2) rfl rfl m11 (fun sup hs => segB2 w b b2 k x y pF pO p 1 lt (vals l ++ chv 10 te :: tail) n tk q tq tc ch d t sup hs) ⟨pop_sound _ _ _ _ _ _ _ hpop, add_sound _ _ _ _ _ hadd, trivial⟩ I next
end

/-! the outer loop's turn -/
noncomputable def oStr (o : List Nat) : Str := ⟨⟨o⟩⟩
noncomputable def emp : Str := ⟨⟨[]⟩⟩
/-- the inner loops as contracts -/
noncomputable def FQ (P : Params) (k : Stk) (x : Lx) (y : Gx) (pF : Pos) (o : List Nat) (ln : Int) (lt : Nat) (vs tail : List Value) (n t34 : Nat) (ch : Value) : ConF := fun c bl cs tk ns =>
  conC (cQ y) (fun pp => blI k y pF pp) i11 (lexC P x y ln lt vs n (oG P x y emp (valTok cs 8 1) (keyTok cs 8 3) ch)) (fun ns => .ok (.ret (.str (emp ++ oStr o) (getN ns 0))))
    (fun ns => lexC P x y ln lt tail (getN ns 1) (oG P x y (emp ++ oStr o) (getN ns 0) (keyTok cs 8 3) (chv 34 t34))) (fun ns => getN ns 2) c bl cs tk ns
noncomputable def FB (P : Params) (k : Stk) (x : Lx) (y : Gx) (pF : Pos) (q : Str) (o : List Nat) (lt : Nat) (vs tail : List Value) (n te : Nat) (ch : Value) : ConF := fun c bl cs tk ns =>
  conC (cB y) (fun pp => blI k y pF pp) i11 (lexC P x y 1 lt vs n (oG P x y q (valTok cs 8 1) (keyTok cs 8 3) ch)) (fun ns => .ok (.ret (.str (q ++ oStr o) (getN ns 0))))
    (fun ns => lexC P x y 2 (getN ns 3) tail (getN ns 1) (oG P x y (q ++ oStr o) (getN ns 0) (keyTok cs 8 3) (chv 10 te))) (fun ns => getN ns 2) c bl cs tk ns
theorem FQ_sound {w : World} {b b2 : Bool} {k : Stk} {x : Lx} {y : Gx} {pF : Pos} {xs : List (Nat × Nat)} {o : List Nat} (g : Gd xs o) (ln : Int) (lt : Nat) (tail : List Value) (n t34 : Nat) (ch : Value) (hl : xs.length + tail.length ≤ 10000) :
    ConSound (MM w b b2) (KT' w b b2) 3 (FQ (fP w b b2) k x y pF o ln lt (vals xs ++ chv 34 t34 :: tail) tail n t34 ch) := by
  refine ConSound.by (fun cs _ => (valTok cs 8 1, keyTok cs 8 3)) (F := fun z => conC (cQ y) (fun pp => blI k y pF pp) i11 (lexC (fP w b b2) x y ln lt (vals xs ++ chv 34 t34 :: tail) n (oG (fP w b b2) x y emp z.1 z.2 ch)) (fun ns => .ok (.ret (.str (emp ++ oStr o) (getN ns 0))))
    (fun ns => lexC (fP w b b2) x y ln lt tail (getN ns 1) (oG (fP w b b2) x y (emp ++ oStr o) (getN ns 0) z.2 (chv 34 t34))) (fun ns => getN ns 2)) fun z => ?_
  refine conC_sound (by decide) rfl (fun _ => rfl) fun s tk p pp I => ?_
  refine wpCode_mono ?_ (loopQ g emp z.1 z.2 n tk t34 ch ln lt tail s p I (by show 0 + _ + _ ≤ _; omega))
  rintro r s' ⟨tq', n', tk', hr, J⟩
  exact ⟨[tq', n', tk'], rfl, hr, J⟩
theorem FB_sound {w : World} {b b2 : Bool} {k : Stk} {x : Lx} {y : Gx} {pF : Pos} {xs : List (Nat × Nat)} {o : List Nat} (g : Gd xs o) (q : Str) (lt : Nat) (tail : List Value) (n te : Nat) (ch : Value) (hl : q.length + xs.length + tail.length ≤ 10000) :
    ConSound (MM w b b2) (KT' w b b2) 4 (FB (fP w b b2) k x y pF q o lt (vals xs ++ chv 10 te :: tail) tail n te ch) := by
  refine ConSound.by (fun cs _ => (valTok cs 8 1, keyTok cs 8 3)) (F := fun z => conC (cB y) (fun pp => blI k y pF pp) i11 (lexC (fP w b b2) x y 1 lt (vals xs ++ chv 10 te :: tail) n (oG (fP w b b2) x y q z.1 z.2 ch)) (fun ns => .ok (.ret (.str (q ++ oStr o) (getN ns 0))))
    (fun ns => lexC (fP w b b2) x y 2 (getN ns 3) tail (getN ns 1) (oG (fP w b b2) x y (q ++ oStr o) (getN ns 0) z.2 (chv 10 te))) (fun ns => getN ns 2)) fun z => ?_
  refine conC_sound (by decide) rfl (fun _ => rfl) fun s tk p pp I => ?_
  refine wpCode_mono ?_ (loopB g q z.1 z.2 n tk te ch lt tail s p I hl)
  rintro r s' ⟨tq', n', tk', lt', hr, J⟩
  exact ⟨[tq', n', tk', lt'], rfl, hr, J⟩

section
variable (w : World) (b b2 : Bool) (k : Stk) (x : Lx) (y : Gx) (pF p : Pos) (ln : Int) (lt : Nat) (vs tail : List Value) (n tk tq : Nat) (o : List Nat)
theorem segOm (t t34 : Nat) (sup : List Nat) (h : sup.length = 6) : okP m11 (runF w b b2 (logOm (chv 34 t) vs n (FQ (fP w b b2) k x y pF o ln lt vs tail (n + 1) t34 (chv 34 t))) (cO y) p (blO k y pF) (lexC (fP w b b2) x y ln lt (chv 34 t :: vs) n (oG0 (fP w b b2) x y tq)) tk sup)
    (.fin (.ok (.ret (.str (emp ++ oStr o) (getN sup 3))))) (lexC (fP w b b2) x y ln lt tail (getN sup 4) (oG (fP w b b2) x y (emp ++ oStr o) (getN sup 3) (tk + 8) (chv 34 t34))) := by
  obtain ⟨fS, rfl⟩ := sup_ex h
  cases b <;> (unfold okP; kernel_rfl)
theorem segOb2a (t te : Nat) (sup : List Nat) (h : sup.length = 9) : okP m11 (runF w b b2 (logOb2 (chv 40 t) vs n emp (stC 40) (FB (fP w b b2) k x y pF (emp ++ stC 40) o lt vs tail (n + 1) te (chv 40 t))) (cO y) p (blO k y pF) (lexC (fP w b b2) x y 1 lt (chv 40 t :: vs) n (oG0 (fP w b b2) x y tq)) tk sup)
    (.fin (.ok (.ret (.str ((emp ++ stC 40) ++ oStr o) (getN sup 5))))) (lexC (fP w b b2) x y 2 (getN sup 8) tail (getN sup 6) (oG (fP w b b2) x y ((emp ++ stC 40) ++ oStr o) (getN sup 5) (tk + 8) (chv 10 te))) := by
  obtain ⟨fS, rfl⟩ := sup_ex h
  cases b <;> (unfold okP; kernel_rfl)
theorem segOb2b (t te : Nat) (sup : List Nat) (h : sup.length = 9) : okP m11 (runF w b b2 (logOb2 (chv 41 t) vs n emp (stC 41) (FB (fP w b b2) k x y pF (emp ++ stC 41) o lt vs tail (n + 1) te (chv 41 t))) (cO y) p (blO k y pF) (lexC (fP w b b2) x y 1 lt (chv 41 t :: vs) n (oG0 (fP w b b2) x y tq)) tk sup)
    (.fin (.ok (.ret (.str ((emp ++ stC 41) ++ oStr o) (getN sup 5))))) (lexC (fP w b b2) x y 2 (getN sup 8) tail (getN sup 6) (oG (fP w b b2) x y ((emp ++ stC 41) ++ oStr o) (getN sup 5) (tk + 8) (chv 10 te))) := by
  obtain ⟨fS, rfl⟩ := sup_ex h
  cases b <;> (unfold okP; kernel_rfl)
theorem segOb2 (c t te : Nat) (sup : List Nat) (h : sup.length = 9) : okP m11 (runF w b b2 (logOb2 (chv (c + 93) t) vs n emp (stC (c + 93)) (FB (fP w b b2) k x y pF (emp ++ stC (c + 93)) o lt vs tail (n + 1) te (chv (c + 93) t))) (cO y) p (blO k y pF) (lexC (fP w b b2) x y 1 lt (chv (c + 93) t :: vs) n (oG0 (fP w b b2) x y tq)) tk sup)
    (.fin (.ok (.ret (.str ((emp ++ stC (c + 93)) ++ oStr o) (getN sup 5))))) (lexC (fP w b b2) x y 2 (getN sup 8) tail (getN sup 6) (oG (fP w b b2) x y ((emp ++ stC (c + 93)) ++ oStr o) (getN sup 5) (tk + 8) (chv 10 te))) := by
  obtain ⟨fS, rfl⟩ := sup_ex h
  cases b <;> (unfold okP; kernel_rfl)
theorem segOb3 (t0 c t te : Nat) (sup : List Nat) (h : sup.length = 12) : okP m11 (runF w b b2 (logOb3 (chv 92 t0) (chv (c + 11) t) vs n emp (stC (c + 11)) (FB (fP w b b2) k x y pF (emp ++ stC (c + 11)) o lt vs tail (n + 1 + 1) te (chv (c + 11) t))) (cO y) p (blO k y pF) (lexC (fP w b b2) x y 1 lt (chv 92 t0 :: chv (c + 11) t :: vs) n (oG0 (fP w b b2) x y tq)) tk sup)
    (.fin (.ok (.ret (.str ((emp ++ stC (c + 11)) ++ oStr o) (getN sup 8))))) (lexC (fP w b b2) x y 2 (getN sup 11) tail (getN sup 9) (oG (fP w b b2) x y ((emp ++ stC (c + 11)) ++ oStr o) (getN sup 8) (tk + 8) (chv 10 te))) := by
  obtain ⟨fS, rfl⟩ := sup_ex h
  cases b <;> (unfold okP; kernel_rfl)
end
end Mine

/-! part GT4 -/
namespace Mine
open PySem PySem.W PySem.W.X PySem.Spec PySem.Calls PyProof.Rows

section
variable {w : World} {b b2 : Bool} {s₀ : Shared} {T : List Addr} {k : Stk} {x : Lx} {y : Gx} {pF : Pos}
theorem emp_app (q : Str) : emp ++ q = q := Str.empty_append q
theorem outerM {xs : List (Nat × Nat)} {o : List Nat} (g : Gd xs o) (n tk tq t t34 : Nat) (ln : Int) (lt : Nat) (tail : List Value) (s : Shared) (p : Pos)
    (I : Inv (KT' w b b2) s₀ T s (lexC (fP w b b2) x y ln lt (chv 34 t :: (vals xs ++ chv 34 t34 :: tail)) n (oG0 (fP w b b2) x y tq)) tk) (hl : xs.length + tail.length ≤ 9000) :
    wpCode (MM w b b2) (cx (cO y) (blO k y pF)) (fun r s' => ∃ tq' n' tk' tc', r = .ok (.ret (.str (oStr o) tq')) ∧ Inv (KT' w b b2) s₀ T s' (lexC (fP w b b2) x y ln lt tail n' (oG (fP w b b2) x y (oStr o) tq' tc' (chv 34 t34))) tk') p s := by
  refine segP (MM_den w b b2) rfl rfl m11 (fun sup hs => segOm w b b2 k x y pF p ln lt (vals xs ++ chv 34 t34 :: tail) tail n tk tq o t t34 sup hs)
    ⟨pop_sound _ _ _ _ _ _ _ (by rw [sizeLine_is]; simp [vals]; omega), FQ_sound g ln lt tail (n + 1) t34 (chv 34 t) (by omega), trivial⟩ I fun sup s' tk' hs I' => ?_
  rw [emp_app] at I'
  simp only [emp_app]
  exact ⟨_, _, _, _, rfl, I'⟩
theorem outerB {xs : List (Nat × Nat)} {o : List Nat} (g : Gd xs o) (hx : xs ≠ []) (n tk tq te : Nat) (lt : Nat) (tail : List Value) (s : Shared) (p : Pos)
    (I : Inv (KT' w b b2) s₀ T s (lexC (fP w b b2) x y 1 lt (vals xs ++ chv 10 te :: tail) n (oG0 (fP w b b2) x y tq)) tk) (hl : xs.length + tail.length ≤ 9000) :
    wpCode (MM w b b2) (cx (cO y) (blO k y pF)) (fun r s' => ∃ tq' n' tk' tc' lt', r = .ok (.ret (.str (oStr o) tq')) ∧ Inv (KT' w b b2) s₀ T s' (lexC (fP w b b2) x y 2 lt' tail n' (oG (fP w b b2) x y (oStr o) tq' tc' (chv 10 te))) tk') p s := by
  have e1 : ∀ (c : Nat) (o : List Nat), (emp ++ stC c) ++ oStr o = oStr (c :: o) := fun c o => (str_cons emp c o).trans (emp_app _)
  cases g with
  | nil => exact absurd rfl hx
  | @esc c t t0 l o hc g =>
    simp only [List.length_cons] at hl
    obtain ⟨d, rfl⟩ : ∃ d, c = d + 11 := ⟨c - 11, by omega⟩
    refine segP (MM_den w b b2) rfl rfl m11 (fun sup hs => segOb3 w b b2 k x y pF p lt (vals l ++ chv 10 te :: tail) tail n tk tq o t0 d t te sup hs)
      ⟨pop_sound _ _ _ _ _ _ _ (by rw [sizeLine_is]; simp [vals]; omega), pop_sound _ _ _ _ _ _ _ (by rw [sizeLine_is]; simp [vals]; omega), add_sound _ _ _ _ _ (by rw [len_stC, sizeLine_is]; show 0 + 1 ≤ _; omega), FB_sound g _ lt tail (n + 1 + 1) te _ (by rw [len_stC]; show 0 + 1 + _ + _ ≤ _; omega), trivial⟩ I fun sup s' tk' hs I' => ?_
    rw [e1] at I'
    simp only [e1]
    exact ⟨_, _, _, _, _, rfl, I'⟩
  | @ord c t l o hc g =>
    simp only [List.length_cons] at hl
    have hpop : (vals l ++ chv 10 te :: tail).length + 1 ≤ sizeLine := by rw [sizeLine_is]; simp [vals]; omega
    have hadd : (emp ++ stC c).length ≤ sizeLine := by rw [len_stC, sizeLine_is]; show 0 + 1 ≤ _; omega
    have hfb := FB_sound (w := w) (b := b) (b2 := b2) (k := k) (x := x) (y := y) (pF := pF) g (emp ++ stC c) lt tail (n + 1) te (chv c t) (by rw [len_stC]; show 0 + 1 + _ + _ ≤ _; omega)
    have fin : ∀ (sup : List Nat) (s' : Shared) (tk' : Nat), sup.length = 9 → Inv (KT' w b b2) s₀ T s' (lexC (fP w b b2) x y 2 (getN sup 8) tail (getN sup 6) (oG (fP w b b2) x y ((emp ++ stC c) ++ oStr o) (getN sup 5) (tk + 8) (chv 10 te))) tk' → ∃ tq' n' tk' tc' lt', (.ok (.ret (.str ((emp ++ stC c) ++ oStr o) (getN sup 5))) : Result) = .ok (.ret (.str (oStr (c :: o)) tq')) ∧ Inv (KT' w b b2) s₀ T s' (lexC (fP w b b2) x y 2 lt' tail n' (oG (fP w b b2) x y (oStr (c :: o)) tq' tc' (chv 10 te))) tk' := fun sup s' tk' hs I' => by
      rw [e1] at I' ⊢
      exact ⟨_, _, _, _, _, rfl, I'⟩
    rcases hc with rfl | rfl | hc
    · exact segP (MM_den w b b2) rfl rfl m11 (fun sup hs => segOb2a w b b2 k x y pF p lt (vals l ++ chv 10 te :: tail) tail n tk tq o t te sup hs) ⟨pop_sound _ _ _ _ _ _ _ hpop, add_sound _ _ _ _ _ hadd, hfb, trivial⟩ I fin
    · exact segP (MM_den w b b2) rfl rfl m11 (fun sup hs => segOb2b w b b2 k x y pF p lt (vals l ++ chv 10 te :: tail) tail n tk tq o t te sup hs) ⟨pop_sound _ _ _ _ _ _ _ hpop, add_sound _ _ _ _ _ hadd, hfb, trivial⟩ I fin
    · obtain ⟨d, rfl⟩ : ∃ d, c = d + 93 := ⟨c - 93, by omega⟩
      exact segP (MM_den w b b2) rfl rfl m11 (fun sup hs => segOb2 w b b2 k x y pF p lt (vals l ++ chv 10 te :: tail) tail n tk tq o d t te sup hs) ⟨pop_sound _ _ _ _ _ _ _ hpop, add_sound _ _ _ _ _ hadd, hfb, trivial⟩ I fin
end

/-! get_token -/
noncomputable def iG : List Nat := [0, 1, 2, 3, 4, 5, 6, 7, 9, 10, 11]
noncomputable def gxOf (cs : Cells) : Gx := ⟨adAt cs 9, adAt cs 10, adAt cs 11, keyTok cs 9 0, keyTok cs 9 1, keyTok cs 9 2, fldTok cs 11 1⟩
noncomputable def FOm (P : Params) (k : Stk) (x : Lx) (o : List Nat) (ln : Int) (lt : Nat) (vs tail : List Value) (n t34 : Nat) : ConF := fun c bl cs tk ns =>
  conC (cO (gxOf cs)) (fun pp => blO k (gxOf cs) pp) iG (lexC P x (gxOf cs) ln lt vs n (oG0 P x (gxOf cs) (valTok cs 9 1))) (fun ns => .ok (.ret (.str (oStr o) (getN ns 0))))
    (fun ns => lexC P x (gxOf cs) ln lt tail (getN ns 1) (oG P x (gxOf cs) (oStr o) (getN ns 0) (getN ns 3) (chv 34 t34))) (fun ns => getN ns 2) c bl cs tk ns
noncomputable def FOb (P : Params) (k : Stk) (x : Lx) (o : List Nat) (lt : Nat) (vs tail : List Value) (n te : Nat) : ConF := fun c bl cs tk ns =>
  conC (cO (gxOf cs)) (fun pp => blO k (gxOf cs) pp) iG (lexC P x (gxOf cs) 1 lt vs n (oG0 P x (gxOf cs) (valTok cs 9 1))) (fun ns => .ok (.ret (.str (oStr o) (getN ns 0))))
    (fun ns => lexC P x (gxOf cs) 2 (getN ns 4) tail (getN ns 1) (oG P x (gxOf cs) (oStr o) (getN ns 0) (getN ns 3) (chv 10 te))) (fun ns => getN ns 2) c bl cs tk ns
theorem FOm_sound {w : World} {b b2 : Bool} {k : Stk} {x : Lx} {xs : List (Nat × Nat)} {o : List Nat} (g : Gd xs o) (ln : Int) (lt : Nat) (tail : List Value) (n t t34 : Nat) (hl : xs.length + tail.length ≤ 9000) :
    ConSound (MM w b b2) (KT' w b b2) 4 (FOm (fP w b b2) k x o ln lt (chv 34 t :: (vals xs ++ chv 34 t34 :: tail)) tail n t34) := by
  refine ConSound.by (fun cs _ => (gxOf cs, valTok cs 9 1)) (F := fun z => conC (cO z.1) (fun pp => blO k z.1 pp) iG (lexC (fP w b b2) x z.1 ln lt (chv 34 t :: (vals xs ++ chv 34 t34 :: tail)) n (oG0 (fP w b b2) x z.1 z.2)) (fun ns => .ok (.ret (.str (oStr o) (getN ns 0))))
    (fun ns => lexC (fP w b b2) x z.1 ln lt tail (getN ns 1) (oG (fP w b b2) x z.1 (oStr o) (getN ns 0) (getN ns 3) (chv 34 t34))) (fun ns => getN ns 2)) fun z => ?_
  refine conC_sound (by decide) rfl (fun _ => rfl) fun s tk p pp I => ?_
  refine wpCode_mono ?_ (outerM g n tk z.2 t t34 ln lt tail s p I hl)
  rintro r s' ⟨tq', n', tk', tc', hr, J⟩
  exact ⟨[tq', n', tk', tc'], rfl, hr, J⟩
theorem FOb_sound {w : World} {b b2 : Bool} {k : Stk} {x : Lx} {xs : List (Nat × Nat)} {o : List Nat} (g : Gd xs o) (hx : xs ≠ []) (lt : Nat) (tail : List Value) (n te : Nat) (hl : xs.length + tail.length ≤ 9000) :
    ConSound (MM w b b2) (KT' w b b2) 5 (FOb (fP w b b2) k x o lt (vals xs ++ chv 10 te :: tail) tail n te) := by
  refine ConSound.by (fun cs _ => (gxOf cs, valTok cs 9 1)) (F := fun z => conC (cO z.1) (fun pp => blO k z.1 pp) iG (lexC (fP w b b2) x z.1 1 lt (vals xs ++ chv 10 te :: tail) n (oG0 (fP w b b2) x z.1 z.2)) (fun ns => .ok (.ret (.str (oStr o) (getN ns 0))))
    (fun ns => lexC (fP w b b2) x z.1 2 (getN ns 4) tail (getN ns 1) (oG (fP w b b2) x z.1 (oStr o) (getN ns 0) (getN ns 3) (chv 10 te))) (fun ns => getN ns 2)) fun z => ?_
  refine conC_sound (by decide) rfl (fun _ => rfl) fun s tk p pp I => ?_
  refine wpCode_mono ?_ (outerB g hx n tk z.2 te lt tail s p I hl)
  rintro r s' ⟨tq', n', tk', tc', lt', hr, J⟩
  exact ⟨[tq', n', tk', tc', lt'], rfl, hr, J⟩
noncomputable def m9 : List Bool := [true, true, true, true, true, true, true, true, true]
noncomputable def lexB (P : Params) (x : Lx) (ln : Int) (lt : Nat) (xs : List Value) (n : Nat) : Cells := lexA P x ln lt xs n ++ [(x.PB, lstO [] 0)]
noncomputable def cGT (x : Lx) : Code := .call (.ref 88) ⟨[.ref x.L], []⟩
section
variable (w : World) (b b2 : Bool) (k : Stk) (x : Lx) (p : Pos) (ln : Int) (lt : Nat) (vs tail : List Value) (n tk : Nat) (o : List Nat)
theorem segGm (t34 : Nat) (sup : List Nat) (h : sup.length = 7) : okP m9 (runF w b b2 (logG1 4 (FOm (fP w b b2) k x o ln lt vs tail n t34)) (cGT x) p (blG k) (lexB (fP w b b2) x ln lt vs n) tk sup)
    (.fin (.ok (.ret (.str (oStr o) (getN sup 3))))) (lexB (fP w b b2) x ln lt tail (getN sup 4)) := by
  obtain ⟨fS, rfl⟩ := sup_ex h
  cases b <;> (unfold okP; kernel_rfl)
theorem segGb (te : Nat) (sup : List Nat) (h : sup.length = 8) : okP m9 (runF w b b2 (logG1 5 (FOb (fP w b b2) k x o lt vs tail n te)) (cGT x) p (blG k) (lexB (fP w b b2) x 1 lt vs n) tk sup)
    (.fin (.ok (.ret (.str (oStr o) (getN sup 3))))) (lexB (fP w b b2) x 2 (getN sup 7) tail (getN sup 4)) := by
  obtain ⟨fS, rfl⟩ := sup_ex h
  cases b <;> (unfold okP; kernel_rfl)
end
section
variable {w : World} {b b2 : Bool} {s₀ : Shared} {T : List Addr} {k : Stk} {x : Lx}
theorem getTokM {xs : List (Nat × Nat)} {o : List Nat} (g : Gd xs o) (n tk t t34 : Nat) (ln : Int) (lt : Nat) (tail : List Value) (s : Shared) (p : Pos)
    (I : Inv (KT' w b b2) s₀ T s (lexB (fP w b b2) x ln lt (chv 34 t :: (vals xs ++ chv 34 t34 :: tail)) n) tk) (hl : xs.length + tail.length ≤ 9000) :
    wpCode (MM w b b2) (cx (cGT x) (blG k)) (fun r s' => ∃ tq' n' tk', r = .ok (.ret (.str (oStr o) tq')) ∧ Inv (KT' w b b2) s₀ T s' (lexB (fP w b b2) x ln lt tail n') tk') p s :=
  segP (MM_den w b b2) rfl rfl m9 (fun sup hs => segGm w b b2 k x p ln lt (chv 34 t :: (vals xs ++ chv 34 t34 :: tail)) tail n tk o t34 sup hs) ⟨FOm_sound g ln lt tail n t t34 hl, trivial⟩ I fun sup s' tk' hs I' => ⟨_, _, _, rfl, I'⟩
theorem getTokB {xs : List (Nat × Nat)} {o : List Nat} (g : Gd xs o) (hx : xs ≠ []) (n tk te : Nat) (lt : Nat) (tail : List Value) (s : Shared) (p : Pos)
    (I : Inv (KT' w b b2) s₀ T s (lexB (fP w b b2) x 1 lt (vals xs ++ chv 10 te :: tail) n) tk) (hl : xs.length + tail.length ≤ 9000) :
    wpCode (MM w b b2) (cx (cGT x) (blG k)) (fun r s' => ∃ tq' n' tk' lt', r = .ok (.ret (.str (oStr o) tq')) ∧ Inv (KT' w b b2) s₀ T s' (lexB (fP w b b2) x 2 lt' tail n') tk') p s :=
  segP (MM_den w b b2) rfl rfl m9 (fun sup hs => segGb w b b2 k x p lt (vals xs ++ chv 10 te :: tail) tail n tk o te sup hs) ⟨FOb_sound g hx lt tail n te hl, trivial⟩ I fun sup s' tk' hs I' => ⟨_, _, _, _, rfl, I'⟩
end
end Mine

/-! part GT5 -/
namespace Mine
open PySem PySem.W PySem.W.X PySem.Spec PySem.Calls PyProof.Rows
noncomputable def logMt : List Ev := [.dy 9, .go, .st, .st, .dy 11, .dy 11, .st, .go, .dy 11, .dy 0, .st, .st, .st, .go, .dy 0, .st, .st, .st, .dy 0, .dy 0, .st, .dy 1, .dy 2, .dy 2, .dy 2, .dy 2, .go, .dy 2, .go, .dy 2, .dy 2, .dy 2, .dy 3, .dy 4, .go, .dy 4, .dy 5, .dy 12, .dy 12, .st, .go, .dy 6, .dy 7, .dy 13, .dy 7, .go, .dy 7, .go, .dy 13, .dy 7, .dy 13, .go, .dy 7, .dy 13, .dy 7, .dy 13, .dy 11, .dy 11, .dy 11, .go, .go, .dy 11]
noncomputable def tupO (xs : List Value) : Obj := ⟨.type "tuple", none, .seq ⟨xs⟩ 0, ⟨[]⟩⟩
noncomputable def stopO (t : Nat) : Obj := ⟨.type "StopIteration", none, .fields ⟨[.ref t, .none, .none, .none, .bool false, .none]⟩, ⟨[]⟩⟩
noncomputable def oItE : Obj := ⟨.type "callable_iterator", none, .fields ⟨[.none, .none, .bool true]⟩, ⟨[]⟩⟩
noncomputable def cNx (y : Gx) : Code := .builtin "callable_iterator.__next__" ⟨[.ref y.It], []⟩
noncomputable def lexE (P : Params) (x : Lx) (y : Gx) (ln : Int) (lt : Nat) (xs : List Value) (n : Nat) (g : Obj) : Cells :=
  [(x.L, oL x), (x.D, oD P x ln lt), (x.S, oS x), (x.Sd, oSd P x), (x.F, oF x), (x.C, oC x), (x.Ce, oCe x), (x.Li, lstO xs n), (y.G, g), (y.Mt, oMt x), (y.It, oItE)]
theorem segPT {M : Model} {kt : KT} {den : Code → Sem Fin} {pg : Program} {P : Params} (hd : M.den = den) (hp : M.prog = pg) (hw : M.w.params = P) {s₀ s : Shared} {T : List Addr} {R : Result → Shared → Prop} {n N : Nat} {log : List Ev} {t : Sem Fin} {c : Code} {p : Pos} {bl : List (Code × Pos)} {cs : Cells} {tk : Nat}
    (m : List Bool) {oc : List Nat → OC} {cs' : List Nat → Cells}
    (H : ∀ sup : List Nat, sup.length = N → okP m (run den pg P kt n log t c p bl [] cs tk [] [] sup) (oc sup) (cs' sup))
    (hl : LogSound M kt log) (I : Inv kt s₀ T s cs tk)
    (en : ∀ (sup : List Nat) s' tk', sup.length = N → Inv kt s₀ T s' (cs' sup) tk' → match oc sup with
      | .fin res => R res s'
      | .again c => ∀ p, wpCode M (cx c bl) R p s'
      | .susp _ => False) : Means M R [] bl c t p s := by
  refine run_sound hd hp hw (s₀ := s₀) (T := T) (R := R) (bl₀ := bl) n log t c p bl [] cs tk [] [] N s rfl (fun sup hs => ?_) hl I
  obtain ⟨x, e, e1, e2, e4, e5⟩ := (H sup hs).ex
  refine ⟨x, e, e5, fun s' I' => ?_⟩
  rw [e4] at I'
  have I2 := I'.forget (pick_sub m x.cs)
  rw [e2] at I2
  have z := en sup s' _ hs I2
  rw [← e1] at z
  revert z
  cases x.out with
  | fin r => exact id
  | again c p => exact fun z => z p
  | susp => exact id
theorem wp_eqStr {pg : Program} {w : World} {c : Code} {bl : List (Code × Pos)} {z : Str} {t u : Nat} {Q : Bool → Pos → Shared → Prop} {E : Value → Pos → Shared → Prop} {p : Pos} {s : Shared} (h : ∀ p', Q true p' s) :
    Sem.wp (model pg w) (cx c bl) (eqBool (.str z t) (.str z u)) Q E p s := by
  have a := wpAny_eqBool_str (prog := pg) (w := w) (A := { depth := frameCount bl + c.weight, units := c.cUnits + unitsOf bl }) (E := fun _ _ => False) (s := s) (a := z) (b := z) (t := t) (u := u) (Q := fun b s' => b = true ∧ s' = s) ⟨by simp, rfl⟩
  refine Sem.wp_mono _ _ _ ?_ ?_ p s (a (cx c bl) p ⟨rfl, Nat.le_refl _, fun _ h => (nomatch h), fun _ h => (nomatch h), Nat.le_refl _⟩)
  · rintro b p' s' ⟨rfl, rfl⟩; exact h p'
  · intro v p' s' h; exact h.elim
section
variable (w : World) (b b2 : Bool) (k : Stk) (x : Lx) (y : Gx) (pF pO p pN : Pos) (ln : Int) (lt : Nat) (n tk tq : Nat)
theorem segMt (sup : List Nat) (h : sup.length = 3) : okP m11 (runF w b b2 logMt (.call (.ref y.Mt) ⟨[], []⟩) p ((cNx y, pN) :: (cO y, pO) :: blO k y pF) (lexC (fP w b b2) x y ln lt [] n (oG0 (fP w b b2) x y tq)) tk sup)
    (.fin (.ok (.ret (.str emp (tk + 5))))) (lexC (fP w b b2) x y ln lt [] n (oG0 (fP w b b2) x y tq)) := by
  obtain ⟨fS, rfl⟩ := sup_ex h
  cases b <;> (unfold okP; kernel_rfl)
end
theorem entry_nx : entryFor table "callable_iterator.__next__" = some Builtin.«callable_iterator.__next__» := entryFor_of_tree (by kernel_rfl)
section
variable {w : World} {b b2 : Bool} {s₀ : Shared} {T : List Addr} {k : Stk} {x : Lx} {y : Gx} {pF pO : Pos}
theorem nextE (ln : Int) (lt n tk tq : Nat) (s : Shared) (p : Pos) (I : Inv (KT' w b b2) s₀ T s (lexC (fP w b b2) x y ln lt [] n (oG0 (fP w b b2) x y tq)) tk) :
    wpCode (MM w b b2) (cx (cNx y) ((cO y, pO) :: blO k y pF)) (fun r s' => ∃ a e tk', r = .error (.ref e) ∧ Inv (KT' w b b2) s₀ T s' (lexE (fP w b b2) x y ln lt [] n (oG0 (fP w b b2) x y tq) ++ [(a, tupO []), (e, stopO a)]) tk') p s := by
  have hIt : s.heap.get? y.It = some (oIt y) := I.cell (y.It, oIt y) (by simp [lexC])
  have hMt : s.heap.get? y.Mt = some (oMt x) := I.cell (y.Mt, oMt x) (by simp [lexC])
  have h81 : s.heap.get? 81 = some (so81 (fP w b b2)) := I.st 81 _ rfl
  have hden : (MM w b b2).den (cNx y) = Builtin.«callable_iterator.__next__» ⟨[.ref y.It], []⟩ := by
    show denote table (cNx y) = _
    unfold cNx denote
    dsimp only
    rw [entry_nx]
  rw [wpCode_iff_wp]
  show Sem.wp _ _ ((MM w b b2).den (cNx y)) _ _ p s
  rw [hden]
  generalize hQ : Sem.finPost (MM w b b2) (cx (cNx y) ((cO y, pO) :: blO k y pF)) _ = Q
  generalize hE : (fun (e : Value) (_ : Pos) (s' : Shared) => ∃ a e_1 tk', (Except.error e : Result) = Except.error (Value.ref e_1) ∧ Inv (KT' w b b2) s₀ T s' (lexE (fP w b b2) x y ln lt [] n (oG0 (fP w b b2) x y tq) ++ [(a, tupO []), (e_1, stopO a)]) tk') = E
  unfold Builtin.«callable_iterator.__next__»
  refine ⟨_, hIt, ?_⟩
  refine ⟨_, hIt, ?_⟩
  refine ⟨_, hMt, ?_⟩
  refine ⟨_, h81, ?_⟩
  refine segP (MM_den w b b2) rfl rfl m11 (fun sup hs => segMt w b b2 k x y pF pO p p ln lt n tk tq sup hs) trivial I fun sup s' tk' hs I' => ?_
  have hIt' : s'.heap.get? y.It = some (oIt y) := I'.cell (y.It, oIt y) (by simp [lexC])
  refine ⟨_, hIt', ?_⟩
  refine ⟨_, hIt', ?_⟩
  refine Eq.mpr (Sem.wp_bind' _ _ (eqBool (.str emp y.t11) (.str emp (tk + 5))) _ _ _ _ _) ?_
  refine wp_eqStr fun p' => ?_
  subst hQ hE
  exact segPT (MM_den w b b2) rfl rfl (m11 ++ [true, true]) (R := fun r s' => ∃ a e tk', r = .error (.ref e) ∧ Inv (KT' w b b2) s₀ T s' (lexE (fP w b b2) x y ln lt [] n (oG0 (fP w b b2) x y tq) ++ [(a, tupO []), (e, stopO a)]) tk')
    (n := 1000) (N := 2) (log := [.dy 10, .dy 9, .st, .dy 10, .dy 10, .dy 10, .dy 10, .dy 10, .dy 10]) (oc := fun sup => .fin (.error (.ref (getN sup 1)))) (cs' := fun sup => lexE (fP w b b2) x y ln lt [] n (oG0 (fP w b b2) x y tq) ++ [(getN sup 0, tupO []), (getN sup 1, stopO (getN sup 0))])
    (fun sup hs => match sup, hs with
      | [a1, a2], _ => by unfold okP; kernel_rfl) trivial I' fun sup s'' tk'' hs I'' => ⟨_, _, _, rfl, I''⟩
end
end Mine

/-! part GT6 -/
namespace Mine
open PySem PySem.W PySem.W.X PySem.Spec PySem.Calls PyProof.Rows
noncomputable def FNx (P : Params) (k : Stk) (x : Lx) (y : Gx) (pF : Pos) (ln : Int) (lt n tq : Nat) : ConF :=
  conOf (cNx y) (fun pp => (cO y, pp) :: blO k y pF) (preZ i11 (lexC P x y ln lt [] n (oG0 P x y tq))) fun ns => ⟨.error (.ref (getN ns 1)), objsOf (lexE P x y ln lt [] n (oG0 P x y tq)), [(getN ns 0, tupO []), (getN ns 1, stopO (getN ns 0))], getN ns 2⟩
theorem FNx_sound {w : World} {b b2 : Bool} {k : Stk} {x : Lx} {y : Gx} {pF : Pos} (ln : Int) (lt n tq : Nat) : ConSound (MM w b b2) (KT' w b b2) 3 (FNx (fP w b b2) k x y pF ln lt n tq) := by
  refine conOf_sound (by rw [preZ_fst _ _ rfl]; decide) fun s tk p pp I => ?_
  refine wpCode_mono ?_ (nextE (k := k) (pF := pF) (pO := pp) ln lt n tk tq s p I)
  rintro r s' ⟨a, e, tk', hr, J⟩
  exact ⟨[a, e, tk'], rfl, hr, rfl, J⟩
section
variable (w : World) (b b2 : Bool) (k : Stk) (x : Lx) (y : Gx) (pF p : Pos) (ln : Int) (lt : Nat) (n tk tq : Nat)
theorem segOe (sup : List Nat) (h : sup.length = 3) : okP m11 (runF w b b2 [.dy 10, .go, .dy 10, .con 3 (FNx (fP w b b2) k x y pF ln lt n tq), .dy 12, .go] (cO y) p (blO k y pF) (lexC (fP w b b2) x y ln lt [] n (oG0 (fP w b b2) x y tq)) tk sup)
    (.fin (.ok .next)) (lexE (fP w b b2) x y ln lt [] n (oG0 (fP w b b2) x y tq)) := by
  obtain ⟨fS, rfl⟩ := sup_ex h
  cases b <;> (unfold okP; kernel_rfl)
end
noncomputable def FOe (P : Params) (k : Stk) (x : Lx) (ln : Int) (lt n : Nat) : ConF := fun c bl cs tk ns =>
  conC (cO (gxOf cs)) (fun pp => blO k (gxOf cs) pp) iG (lexC P x (gxOf cs) ln lt [] n (oG0 P x (gxOf cs) (valTok cs 9 1))) (fun ns => .ok .next)
    (fun ns => lexE P x (gxOf cs) ln lt [] n (oG0 P x (gxOf cs) (valTok cs 9 1))) (fun ns => getN ns 0) c bl cs tk ns
theorem FOe_sound {w : World} {b b2 : Bool} {k : Stk} {x : Lx} (ln : Int) (lt n : Nat) : ConSound (MM w b b2) (KT' w b b2) 1 (FOe (fP w b b2) k x ln lt n) := by
  refine ConSound.by (fun cs _ => (gxOf cs, valTok cs 9 1)) (F := fun z => conC (cO z.1) (fun pp => blO k z.1 pp) iG (lexC (fP w b b2) x z.1 ln lt [] n (oG0 (fP w b b2) x z.1 z.2)) (fun ns => .ok .next)
    (fun ns => lexE (fP w b b2) x z.1 ln lt [] n (oG0 (fP w b b2) x z.1 z.2)) (fun ns => getN ns 0)) fun z => ?_
  refine conC_sound (by decide) rfl (fun _ => rfl) fun s tk p pp I => ?_
  exact segP (MM_den w b b2) rfl rfl m11 (fun sup hs => segOe w b b2 k x z.1 pp p ln lt n tk z.2 sup hs) ⟨FNx_sound ln lt n z.2, trivial⟩ I fun sup s' tk' hs I' => ⟨[tk'], rfl, rfl, I'⟩
section
variable (w : World) (b b2 : Bool) (k : Stk) (x : Lx) (p : Pos) (ln : Int) (lt : Nat) (n tk : Nat)
theorem segGe (sup : List Nat) (h : sup.length = 4) : okP m9 (runF w b b2 (logG1 1 (FOe (fP w b b2) k x ln lt n) ++ [.dy 9]) (cGT x) p (blG k) (lexB (fP w b b2) x ln lt [] n) tk sup)
    (.fin (.ok (.ret (.str emp (tk + 4))))) (lexB (fP w b b2) x ln lt [] n) := by
  obtain ⟨fS, rfl⟩ := sup_ex h
  cases b <;> (unfold okP; kernel_rfl)
end
theorem getTokE {w : World} {b b2 : Bool} {s₀ : Shared} {T : List Addr} {k : Stk} {x : Lx} (n tk : Nat) (ln : Int) (lt : Nat) (s : Shared) (p : Pos) (I : Inv (KT' w b b2) s₀ T s (lexB (fP w b b2) x ln lt [] n) tk) :
    wpCode (MM w b b2) (cx (cGT x) (blG k)) (fun r s' => ∃ tq' tk', r = .ok (.ret (.str emp tq')) ∧ Inv (KT' w b b2) s₀ T s' (lexB (fP w b b2) x ln lt [] n) tk') p s :=
  segP (MM_den w b b2) rfl rfl m9 (fun sup hs => segGe w b b2 k x p ln lt n tk sup hs) ⟨FOe_sound ln lt n, trivial⟩ I fun sup s' tk' hs I' => ⟨_, _, rfl, I'⟩
end Mine

/-! part LR2 -/
namespace Mine
open PySem PySem.W PySem.W.X PySem.Spec PySem.Calls PyProof.Rows

/-! checks with propositions left over -/
noncomputable def noP : List (Item × Item) → List (Item × Item)
  | [] => []
  | (a, b) :: l => match a with
    | .p _ => noP l
    | _ => (a, b) :: noP l
noncomputable def onP : List (Item × Item) → List Prop
  | [] => []
  | (a, b) :: l => match a with
    | .p P => (Item.p P = b) :: onP l
    | _ => onP l
theorem splitP : ∀ {l : List (Item × Item)}, (∀ q ∈ noP l, q.1 = q.2) → (∀ P ∈ onP l, P) → ∀ q ∈ l, q.1 = q.2
  | [], _, _, q, h => nomatch h
  | (a, b) :: l, h1, h2, q, h => by
    unfold noP at h1
    unfold onP at h2
    split at h1
    · rename_i P
      rcases List.mem_cons.mp h with e | e
      · rw [e]; exact h2 _ (.head _)
      · exact splitP h1 (fun P hP => h2 P (.tail _ hP)) q e
    · rename_i hne
      have h2' : ∀ P ∈ onP l, P := by
        intro P hP
        refine h2 P ?_
        split
        · rename_i P' ; exact absurd rfl (hne P')
        · exact hP
      rcases List.mem_cons.mp h with e | e
      · rw [e]; exact h1 _ (.head _)
      · exact splitP (fun q hq => h1 q (.tail _ hq)) h2' q e
noncomputable def prsN (r : Option Res) : List Item := match r with
  | some x => (noP x.prs).map (·.2)
  | none => []
noncomputable def okQ (m : List Bool) (r : Option Res) (oc : OC) (cs : Cells) (ps : List Prop) : Prop :=
  r.map (fun x => (x.out.oc, pick m x.cs, x.gs, (noP x.prs).map (·.1), onP x.prs)) = some (oc, cs, [], prsN r, ps)
theorem okQ.ex {m : List Bool} {r : Option Res} {oc : OC} {cs : Cells} {ps : List Prop} (h : okQ m r oc cs ps) (hp : ∀ P ∈ ps, P) : ∃ x, r = some x ∧ x.out.oc = oc ∧ pick m x.cs = cs ∧ x.gs = [] ∧ ∀ q ∈ x.prs, q.1 = q.2 := by
  unfold okQ at h
  cases r with
  | none => cases h
  | some x =>
    simp only [Option.map_some, Option.some.injEq, Prod.mk.injEq, prsN] at h
    obtain ⟨a, b, d, e, f⟩ := h
    exact ⟨x, rfl, a, b, d, splitP (pairs_eq e) (by rw [f]; exact hp)⟩
section
variable {M : Model} {kt : KT} {den : Code → Sem Fin} {pg : Program} {P : Params}
theorem segQ (hd : M.den = den) (hp : M.prog = pg) (hw : M.w.params = P) {s₀ s : Shared} {T : List Addr} {R : Result → Shared → Prop} {n N : Nat} {log : List Ev} {c : Code} {p : Pos} {bl : List (Code × Pos)} {cs : Cells} {tk : Nat}
    (m : List Bool) {oc : List Nat → OC} {cs' : List Nat → Cells} {ps : List Nat → List Prop}
    (H : ∀ sup : List Nat, sup.length = N → okQ m (run den pg P kt n log (den c) c p bl [] cs tk [] [] sup) (oc sup) (cs' sup) (ps sup))
    (hps : ∀ sup : List Nat, sup.length = N → ∀ P ∈ ps sup, P)
    (hl : LogSound M kt log) (I : Inv kt s₀ T s cs tk)
    (en : ∀ (sup : List Nat) s' tk', sup.length = N → Inv kt s₀ T s' (cs' sup) tk' → match oc sup with
      | .fin res => R res s'
      | .again c => ∀ p, wpCode M (cx c bl) R p s'
      | .susp _ => False) : wpCode M (cx c bl) R p s := by
  rw [wpCode_iff_wp]
  show Sem.wp M (cx c bl) (M.den c) _ _ p s
  rw [hd]
  refine run_sound hd hp hw (s₀ := s₀) (T := T) (R := R) (bl₀ := bl) n log (den c) c p bl [] cs tk [] [] N s rfl (fun sup hs => ?_) hl I
  obtain ⟨x, e, e1, e2, e4, e5⟩ := (H sup hs).ex (hps sup hs)
  refine ⟨x, e, e5, fun s' I' => ?_⟩
  rw [e4] at I'
  have I2 := I'.forget (pick_sub m x.cs)
  rw [e2] at I2
  have z := en sup s' _ hs I2
  rw [← e1] at z
  revert z
  cases x.out with
  | fin r => exact id
  | again c p => exact fun z => z p
  | susp => exact id
end
noncomputable def reqF (Q : Prop) (F : ConF) : ConF := fun c bl cs tk ns => match F c bl cs tk ns with
  | some po => some ⟨po.res, po.upd, po.news, po.tk, (.p Q, .p True) :: po.chk⟩
  | none => none
theorem reqF_sound {M : Model} {kt : KT} {m : Nat} {Q : Prop} {F : ConF} (h : Q → ConSound M kt m F) : ConSound M kt m (reqF Q F) := by
  intro c bl p cs tk gs s₀ T s I H
  have hQ : Q := by
    obtain ⟨po, hF, chk⟩ := H (List.replicate m 0) (by simp)
    unfold reqF at hF
    split at hF
    · cases hF
      have := Item.p.inj (chk _ (.head _))
      rw [this]; trivial
    · cases hF
  refine wpCode_mono ?_ (h hQ c bl p cs tk gs s₀ T s I fun ns hn => ?_)
  · rintro r s' ⟨ns, po, hn, hF, rfl, I'⟩
    exact ⟨ns, ⟨po.res, po.upd, po.news, po.tk, (.p Q, .p True) :: po.chk⟩, hn, by unfold reqF; rw [hF], rfl, I'⟩
  · obtain ⟨po, hF, chk⟩ := H ns hn
    unfold reqF at hF
    cases e : F c bl cs tk ns with
    | none => rw [e] at hF; cases hF
    | some po' =>
      rw [e] at hF
      cases hF
      exact ⟨po', rfl, fun q hq => chk q (.tail _ hq)⟩
theorem ConSound.byB {M : Model} {kt : KT} {m : Nat} {α : Type} (f : List (Code × Pos) → Cells → Nat → α) {F : α → ConF} (h : ∀ y, ConSound M kt m (F y)) : ConSound M kt m (fun c bl cs tk ns => F (f bl cs tk) c bl cs tk ns) :=
  fun c bl p cs tk gs s₀ T s I H => h (f bl cs tk) c bl p cs tk gs s₀ T s I H

/-! get_token as a contract -/
structure Ix where
  (L D S Sd F C Ce Li PB : Nat)
noncomputable def Ix.list (i : Ix) : List Nat := [i.L, i.D, i.S, i.Sd, i.F, i.C, i.Ce, i.Li, i.PB]
noncomputable def refN : Value → Nat
  | .ref a => a
  | _ => 0
noncomputable def intN : Value → Nat
  | .int i _ => i.toNat
  | _ => 0
noncomputable def intI : Value → Int
  | .int i _ => i
  | _ => 0
noncomputable def fcode (o : Obj) : Value := match o.data with
  | .func f => f.code
  | _ => .none
noncomputable def fct (o : Obj) : Value := match o.data with
  | .func f => f.closureTuple
  | _ => .none
noncomputable def seqV (o : Obj) : List Value := match o.data with
  | .seq ⟨l⟩ _ => l
  | _ => []
noncomputable def seqN (o : Obj) : Nat := match o.data with
  | .seq _ n => n
  | _ => 0
noncomputable def lxT (i : Ix) (cs : Cells) : Nat → Nat
  | 0 => keyTok cs i.D 0
  | 2 => keyTok cs i.D 1
  | 3 => keyTok cs i.D 2
  | 4 => valTok cs i.D 2
  | 5 => keyTok cs i.D 3
  | 6 => keyTok cs i.Sd 0
  | 20 => fldTok cs i.C 0
  | 21 => fldTok cs i.C 1
  | 22 => fldTok cs i.C 2
  | 23 => intN (nthV (fldsOf (objAt cs i.C)) 16)
  | 24 => fldTok cs i.C 18
  | _ => 0
noncomputable def lxOf (i : Ix) (cs : Cells) : Lx :=
  ⟨adAt cs i.L, adAt cs i.D, adAt cs i.S, adAt cs i.Sd, adAt cs i.F, adAt cs i.C, adAt cs i.Ce, adAt cs i.Li, adAt cs i.PB, refN (fcode (objAt cs i.S)), refN (fct (objAt cs i.F)),
    refN (nthV (fldsOf (objAt cs i.C)) 8), refN (nthV (fldsOf (objAt cs i.C)) 11), refN (nthV (fldsOf (objAt cs i.C)) 13), refN (nthV (fldsOf (objAt cs i.C)) 14), refN (nthV (fldsOf (objAt cs i.C)) 15), lxT i cs⟩
noncomputable def stk0 : Stk := ⟨[], default, default, default, .none, [], [], default, default, [], default, default, [], default, default, default⟩
noncomputable def stkOf : List (Code × Pos) → Stk
  | [(.func b1 e1, p1), (.forLoop t2 i2 b2 o2 e2, p2), (.func b3 e3, p3), (.func b4 e4, p4), (_, p5)] => ⟨b1, e1, p1, t2, i2, b2, o2, e2, p2, b3, e3, p3, b4, e4, p4, p5⟩
  | _ => stk0
noncomputable def PreM (vs : List Value) (o : List Nat) : Prop := ∃ xs t t34, vs = chv 34 t :: (vals xs ++ [chv 34 t34]) ∧ Gd xs o ∧ xs.length ≤ 8000
noncomputable def PreB (vs : List Value) (o : List Nat) : Prop := ∃ xs te, vs = vals xs ++ [chv 10 te] ∧ Gd xs o ∧ xs ≠ [] ∧ xs.length ≤ 8000
structure Gy where
  x : Lx
  k : Stk
  ln : Int
  lt : Nat
  vs : List Value
  n : Nat
noncomputable def gyOf (i : Ix) (bl : List (Code × Pos)) (cs : Cells) (_ : Nat) : Gy := ⟨lxOf i cs, stkOf bl, intI (nthE (entsOf (objAt cs i.D)) 0).val, valTok cs i.D 0, seqV (objAt cs i.Li), seqN (objAt cs i.Li)⟩
noncomputable def FGm (P : Params) (i : Ix) (o : List Nat) : ConF := fun c bl cs tk ns => (fun (y : Gy) => reqF (PreM y.vs o) (conC (cGT y.x) (fun _ => blG y.k) i.list (lexB P y.x y.ln y.lt y.vs y.n) (fun ns => .ok (.ret (.str (oStr o) (getN ns 0)))) (fun ns => lexB P y.x y.ln y.lt [] (getN ns 1)) (fun ns => getN ns 2))) (gyOf i bl cs tk) c bl cs tk ns
noncomputable def FGb (P : Params) (i : Ix) (o : List Nat) : ConF := fun c bl cs tk ns => (fun (y : Gy) => reqF (PreB y.vs o) (conC (cGT y.x) (fun _ => blG y.k) i.list (lexB P y.x 1 y.lt y.vs y.n) (fun ns => .ok (.ret (.str (oStr o) (getN ns 0)))) (fun ns => lexB P y.x 2 (getN ns 3) [] (getN ns 1)) (fun ns => getN ns 2))) (gyOf i bl cs tk) c bl cs tk ns
noncomputable def FGe (P : Params) (i : Ix) : ConF := fun c bl cs tk ns => (fun (y : Gy) => conC (cGT y.x) (fun _ => blG y.k) i.list (lexB P y.x y.ln y.lt [] y.n) (fun ns => .ok (.ret (.str emp (getN ns 0)))) (fun ns => lexB P y.x y.ln y.lt [] y.n) (fun ns => getN ns 1)) (gyOf i bl cs tk) c bl cs tk ns
section
variable {w : World} {b b2 : Bool} {i : Ix} (hi : i.list.Nodup)
include hi
theorem FGm_sound (o : List Nat) : ConSound (MM w b b2) (KT' w b b2) 3 (FGm (fP w b b2) i o) := by
  refine ConSound.byB (gyOf i) (F := fun y => reqF (PreM y.vs o) (conC (cGT y.x) (fun _ => blG y.k) i.list (lexB (fP w b b2) y.x y.ln y.lt y.vs y.n) (fun ns => .ok (.ret (.str (oStr o) (getN ns 0)))) (fun ns => lexB (fP w b b2) y.x y.ln y.lt [] (getN ns 1)) (fun ns => getN ns 2))) fun y => reqF_sound fun hq => ?_
  obtain ⟨xs, t, t34, e, g, hl⟩ := hq
  refine conC_sound hi rfl (fun _ => rfl) fun s tk p pp I => ?_
  rw [e] at I ⊢
  refine wpCode_mono ?_ (getTokM g y.n tk t t34 y.ln y.lt [] s p I (by simp; omega))
  rintro r s' ⟨tq', n', tk', hr, J⟩
  exact ⟨[tq', n', tk'], rfl, hr, J⟩
theorem FGb_sound (o : List Nat) : ConSound (MM w b b2) (KT' w b b2) 4 (FGb (fP w b b2) i o) := by
  refine ConSound.byB (gyOf i) (F := fun y => reqF (PreB y.vs o) (conC (cGT y.x) (fun _ => blG y.k) i.list (lexB (fP w b b2) y.x 1 y.lt y.vs y.n) (fun ns => .ok (.ret (.str (oStr o) (getN ns 0)))) (fun ns => lexB (fP w b b2) y.x 2 (getN ns 3) [] (getN ns 1)) (fun ns => getN ns 2))) fun y => reqF_sound fun hq => ?_
  obtain ⟨xs, te, e, g, hx, hl⟩ := hq
  refine conC_sound hi rfl (fun _ => rfl) fun s tk p pp I => ?_
  rw [e] at I ⊢
  refine wpCode_mono ?_ (getTokB g hx y.n tk te y.lt [] s p I (by simp; omega))
  rintro r s' ⟨tq', n', tk', lt', hr, J⟩
  exact ⟨[tq', n', tk', lt'], rfl, hr, J⟩
theorem FGe_sound : ConSound (MM w b b2) (KT' w b b2) 2 (FGe (fP w b b2) i) := by
  refine ConSound.byB (gyOf i) (F := fun y => conC (cGT y.x) (fun _ => blG y.k) i.list (lexB (fP w b b2) y.x y.ln y.lt [] y.n) (fun ns => .ok (.ret (.str emp (getN ns 0)))) (fun ns => lexB (fP w b b2) y.x y.ln y.lt [] y.n) (fun ns => getN ns 1)) fun y => ?_
  refine conC_sound hi rfl (fun _ => rfl) fun s tk p pp I => ?_
  refine wpCode_mono ?_ (getTokE y.n tk y.ln y.lt s p I)
  rintro r s' ⟨tq', tk', hr, J⟩
  exact ⟨[tq', tk'], rfl, hr, J⟩
end

/-! _law_read -/
noncomputable def tabO (c1 c2 : Nat) : Obj := ⟨.none, none, .fields ⟨[.int 98 0, .int 13 0, .ref c1, .int 99 0, .int 18 0, .ref c2]⟩, ⟨[]⟩⟩
noncomputable def tab0 : Obj := ⟨.none, none, .fields ⟨[]⟩, ⟨[]⟩⟩
noncomputable def tabC (c1 : Nat) (z : Lx) : Cells := [(104, tabO c1 z.C), (z.C, oC z)]
noncomputable def cLR (tx : Str) (tt : Nat) (m : Bool) : Code := .call (.ref 109) ⟨[.str tx tt, .bool m], []⟩
noncomputable def blR (k : Stk) : List (Code × Pos) := [(.forLoop k.t2 k.i2 k.b2 k.o2 k.e2, k.p2), (.func k.b3 k.e3, k.p3), (.func k.b4 k.e4, k.p4), (.builtin "claim.caller" {}, k.p5)]
noncomputable def iR1 : Ix := ⟨21, 20, 10, 19, 18, 17, 2, 3, 23⟩
noncomputable def iR2 : Ix := ⟨10, 9, 5, 8, 7, 1, 3, 4, 12⟩
noncomputable def vsM (o : List Nat) (ns : List Nat) : List Value := chv 34 (getN ns 2) :: (vals (zipT (getN ns 4) (getN ns 5) o) ++ [chv 34 (getN ns 3)])
noncomputable def vsB (o : List Nat) (ns : List Nat) : List Value := vals (zipT (getN ns 3) (getN ns 4) o) ++ [chv 10 (getN ns 2)]
noncomputable def q34 : Str := ⟨⟨[34]⟩⟩
noncomputable def q10 : Str := ⟨⟨[10]⟩⟩
noncomputable def logR1m (q1 b1 q2 b2 : Str) (I G E : ConF) : List Ev := [.st, .st, .dy 1, .dy 1, .dy 1, .dy 1, .st, .go, .dy 1, .st, .st, .dy 1, .go, .con 2 (addF q1 b1), .go, .con 2 (addF q2 b2), .go, .go, .go, .go, .dy 3, .dy 3, .go, .dy 3, .con 6 I, .dy 2, .dy 2, .st, .dy 0, .dy 0, .dy 0, .dy 0, .st, .st, .st, .dy 1, .dy 1, .st, .dy 0, .dy 0, .dy 0, .dy 0, .st, .st, .st, .dy 1, .dy 10, .go, .dy 10, .go, .dy 10, .dy 10, .dy 10, .dy 10, .dy 19, .dy 19, .dy 19, .st, .dy 1, .st, .st, .go, .st, .st, .go, .st, .go, .st, .st, .st, .go, .st, .st, .st, .st, .st, .st, .st, .go, .st, .st, .st, .st, .st, .st, .st, .st, .st, .st, .st, .st, .st, .dy 21, .st, .dy 21, .st, .st, .st, .st, .go, .st, .st, .dy 22, .dy 22, .dy 22, .dy 22, .st, .go, .dy 22, .dy 21, .st, .st, .st, .go, .dy 21, .st, .go, .dy 21, .st, .dy 21, .st, .st, .st, .dy 21, .st, .dy 20, .dy 20, .dy 20, .dy 22, .dy 22, .dy 21, .st, .st, .st, .go, .dy 21, .st, .go, .dy 21, .st, .dy 21, .st, .st, .st, .dy 21, .st, .dy 20, .dy 20, .dy 20, .dy 22, .dy 21, .st, .st, .st, .go, .dy 21, .st, .go, .dy 21, .st, .dy 21, .st, .st, .st, .dy 21, .st, .dy 20, .dy 20, .dy 20, .dy 22, .dy 21, .st, .st, .st, .go, .dy 21, .st, .go, .dy 21, .st, .dy 21, .st, .st, .st, .dy 21, .st, .dy 20, .dy 20, .dy 20, .dy 1, .dy 1, .dy 1, .dy 21, .st, .st, .st, .dy 21, .st, .st, .st, .dy 21, .st, .st, .st, .st, .dy 21, .dy 20, .st, .con 3 G, .dy 1, .dy 1, .dy 1, .dy 21, .st, .st, .st, .dy 21, .st, .st, .st, .dy 21, .st, .st, .st, .st, .dy 21, .dy 20, .st, .con 2 E, .go, .go, .dy 1]
noncomputable def logR2m (q1 b1 q2 b2 : Str) (I G E : ConF) : List Ev := [.st, .st, .dy 2, .dy 2, .dy 2, .dy 2, .st, .go, .dy 2, .st, .st, .dy 2, .go, .con 2 (addF q1 b1), .go, .con 2 (addF q2 b2), .go, .go, .go, .go, .dy 4, .dy 4, .go, .dy 4, .con 6 I, .dy 3, .dy 3, .st, .dy 0, .st, .st, .st, .dy 2, .dy 2, .st, .dy 0, .st, .st, .st, .dy 2, .dy 5, .go, .dy 5, .go, .dy 5, .dy 5, .dy 5, .dy 5, .dy 8, .dy 8, .dy 8, .st, .dy 2, .st, .st, .go, .st, .st, .go, .st, .go, .st, .st, .st, .go, .st, .st, .st, .st, .st, .st, .st, .go, .st, .st, .st, .st, .st, .st, .st, .st, .st, .st, .st, .st, .st, .dy 10, .st, .dy 10, .st, .st, .st, .st, .go, .st, .st, .dy 11, .dy 11, .dy 11, .dy 11, .st, .go, .dy 11, .dy 10, .st, .st, .st, .go, .dy 10, .st, .go, .dy 10, .st, .dy 10, .st, .st, .st, .dy 10, .st, .dy 9, .dy 9, .dy 9, .dy 11, .dy 11, .dy 10, .st, .st, .st, .go, .dy 10, .st, .go, .dy 10, .st, .dy 10, .st, .st, .st, .dy 10, .st, .dy 9, .dy 9, .dy 9, .dy 11, .dy 10, .st, .st, .st, .go, .dy 10, .st, .go, .dy 10, .st, .dy 10, .st, .st, .st, .dy 10, .st, .dy 9, .dy 9, .dy 9, .dy 11, .dy 10, .st, .st, .st, .go, .dy 10, .st, .go, .dy 10, .st, .dy 10, .st, .st, .st, .dy 10, .st, .dy 9, .dy 9, .dy 9, .dy 2, .dy 2, .dy 2, .dy 10, .st, .st, .st, .dy 10, .st, .st, .st, .dy 10, .st, .st, .st, .st, .dy 10, .dy 9, .st, .con 3 G, .dy 2, .dy 2, .dy 2, .dy 10, .st, .st, .st, .dy 10, .st, .st, .st, .dy 10, .st, .st, .st, .st, .dy 10, .dy 9, .st, .con 2 E, .go, .go, .dy 2]
noncomputable def logR1b (q1 b1 : Str) (I G E : ConF) : List Ev := [.st, .st, .dy 1, .dy 1, .dy 1, .dy 1, .st, .go, .dy 1, .st, .st, .dy 1, .go, .con 2 (addF q1 b1), .go, .go, .go, .go, .dy 3, .dy 3, .go, .dy 3, .con 5 I, .dy 2, .dy 2, .st, .dy 0, .dy 0, .dy 0, .dy 0, .st, .st, .st, .dy 1, .dy 1, .st, .dy 0, .dy 0, .dy 0, .dy 0, .st, .st, .st, .dy 1, .dy 10, .go, .dy 10, .go, .dy 10, .dy 10, .dy 10, .dy 10, .dy 19, .dy 19, .dy 19, .st, .dy 1, .st, .st, .go, .st, .st, .go, .st, .go, .st, .st, .st, .go, .st, .st, .st, .st, .st, .st, .st, .go, .st, .st, .st, .st, .st, .st, .st, .st, .st, .st, .st, .st, .st, .dy 21, .st, .dy 21, .st, .st, .st, .st, .go, .st, .st, .dy 22, .dy 22, .dy 22, .dy 22, .st, .go, .dy 22, .dy 21, .st, .st, .st, .go, .dy 21, .st, .go, .dy 21, .st, .dy 21, .st, .st, .st, .dy 21, .st, .dy 20, .dy 20, .dy 20, .dy 22, .dy 22, .dy 21, .st, .st, .st, .go, .dy 21, .st, .go, .dy 21, .st, .dy 21, .st, .st, .st, .dy 21, .st, .dy 20, .dy 20, .dy 20, .dy 22, .dy 21, .st, .st, .st, .go, .dy 21, .st, .go, .dy 21, .st, .dy 21, .st, .st, .st, .dy 21, .st, .dy 20, .dy 20, .dy 20, .dy 22, .dy 21, .st, .st, .st, .go, .dy 21, .st, .go, .dy 21, .st, .dy 21, .st, .st, .st, .dy 21, .st, .dy 20, .dy 20, .dy 20, .dy 1, .dy 1, .dy 1, .dy 21, .st, .st, .st, .dy 21, .st, .st, .st, .dy 21, .st, .st, .st, .st, .dy 21, .dy 20, .st, .con 4 G, .dy 1, .dy 1, .dy 1, .dy 21, .st, .st, .st, .dy 21, .st, .st, .st, .dy 21, .st, .st, .st, .st, .dy 21, .dy 20, .st, .con 2 E, .go, .go, .dy 1]
noncomputable def logR2b (q1 b1 : Str) (I G E : ConF) : List Ev := [.st, .st, .dy 2, .dy 2, .dy 2, .dy 2, .st, .go, .dy 2, .st, .st, .dy 2, .go, .con 2 (addF q1 b1), .go, .go, .go, .go, .dy 4, .dy 4, .go, .dy 4, .con 5 I, .dy 3, .dy 3, .st, .dy 0, .st, .st, .st, .dy 2, .dy 2, .st, .dy 0, .st, .st, .st, .dy 2, .dy 5, .go, .dy 5, .go, .dy 5, .dy 5, .dy 5, .dy 5, .dy 8, .dy 8, .dy 8, .st, .dy 2, .st, .st, .go, .st, .st, .go, .st, .go, .st, .st, .st, .go, .st, .st, .st, .st, .st, .st, .st, .go, .st, .st, .st, .st, .st, .st, .st, .st, .st, .st, .st, .st, .st, .dy 10, .st, .dy 10, .st, .st, .st, .st, .go, .st, .st, .dy 11, .dy 11, .dy 11, .dy 11, .st, .go, .dy 11, .dy 10, .st, .st, .st, .go, .dy 10, .st, .go, .dy 10, .st, .dy 10, .st, .st, .st, .dy 10, .st, .dy 9, .dy 9, .dy 9, .dy 11, .dy 11, .dy 10, .st, .st, .st, .go, .dy 10, .st, .go, .dy 10, .st, .dy 10, .st, .st, .st, .dy 10, .st, .dy 9, .dy 9, .dy 9, .dy 11, .dy 10, .st, .st, .st, .go, .dy 10, .st, .go, .dy 10, .st, .dy 10, .st, .st, .st, .dy 10, .st, .dy 9, .dy 9, .dy 9, .dy 11, .dy 10, .st, .st, .st, .go, .dy 10, .st, .go, .dy 10, .st, .dy 10, .st, .st, .st, .dy 10, .st, .dy 9, .dy 9, .dy 9, .dy 2, .dy 2, .dy 2, .dy 10, .st, .st, .st, .dy 10, .st, .st, .st, .dy 10, .st, .st, .st, .st, .dy 10, .dy 9, .st, .con 4 G, .dy 2, .dy 2, .dy 2, .dy 10, .st, .st, .st, .dy 10, .st, .st, .st, .dy 10, .st, .st, .st, .st, .dy 10, .dy 9, .st, .con 2 E, .go, .go, .dy 2]

noncomputable def fstC (r : Option Res) : Cells := match r with
  | some x => tabC (adAt x.cs 9) (lxOf iR1 x.cs)
  | none => []
section
variable (w : World) (b b2 : Bool) (k : Stk) (p : Pos) (tx : List Nat) (tt : Nat) (o : List Nat) (tk : Nat)
theorem segR2m (c1 : Nat) (z : Lx) (sup : List Nat) (h : sup.length = 26) : okQ [true, true] (runF w b b2 (logR2m q34 ⟨⟨tx⟩⟩ (q34 ++ ⟨⟨tx⟩⟩) q34 (initF 4 ((q34 ++ ⟨⟨tx⟩⟩) ++ q34) (vsM tx)) (FGm (fP w b b2) iR2 o) (FGe (fP w b b2) iR2)) (cLR ⟨⟨tx⟩⟩ tt true) p (blR k) (tabC c1 z) tk sup)
    (.fin (.ok (.ret (.str (oStr o) (getN sup 21))))) (tabC c1 z) [Item.p (PreM (vsM tx [getN sup 7, getN sup 8, getN sup 9, getN sup 10, getN sup 11, getN sup 12]) o) = .p True] := by
  obtain ⟨fS, rfl⟩ := sup_ex h
  cases b <;> (unfold okQ; kernel_rfl)
theorem segR2b (c1 : Nat) (z : Lx) (sup : List Nat) (h : sup.length = 24) : okQ [true, true] (runF w b b2 (logR2b ⟨⟨tx⟩⟩ q10 (initF 4 (⟨⟨tx⟩⟩ ++ q10) (vsB tx)) (FGb (fP w b b2) iR2 o) (FGe (fP w b b2) iR2)) (cLR ⟨⟨tx⟩⟩ tt false) p (blR k) (tabC c1 z) tk sup)
    (.fin (.ok (.ret (.str (oStr o) (getN sup 18))))) (tabC c1 z) [Item.p (PreB (vsB tx [getN sup 5, getN sup 6, getN sup 7, getN sup 8, getN sup 9]) o) = .p True] := by
  obtain ⟨fS, rfl⟩ := sup_ex h
  cases b <;> (unfold okQ; kernel_rfl)
theorem segR1m (sup : List Nat) (h : sup.length = 38) : okQ [true, false, false, false, false, false, false, false, false, false, false, false, false, false, false, false, false, true] (runF w b b2 (logR1m q34 ⟨⟨tx⟩⟩ (q34 ++ ⟨⟨tx⟩⟩) q34 (initF 3 ((q34 ++ ⟨⟨tx⟩⟩) ++ q34) (vsM tx)) (FGm (fP w b b2) iR1 o) (FGe (fP w b b2) iR1)) (cLR ⟨⟨tx⟩⟩ tt true) p (blR k) [(104, tab0)] tk sup)
    (.fin (.ok (.ret (.str (oStr o) (getN sup 33))))) (fstC (runF w b b2 (logR1m q34 ⟨⟨tx⟩⟩ (q34 ++ ⟨⟨tx⟩⟩) q34 (initF 3 ((q34 ++ ⟨⟨tx⟩⟩) ++ q34) (vsM tx)) (FGm (fP w b b2) iR1 o) (FGe (fP w b b2) iR1)) (cLR ⟨⟨tx⟩⟩ tt true) p (blR k) [(104, tab0)] tk sup)) [Item.p (PreM (vsM tx [getN sup 7, getN sup 8, getN sup 9, getN sup 10, getN sup 11, getN sup 12]) o) = .p True] := by
  obtain ⟨fS, rfl⟩ := sup_ex h
  cases b <;> (unfold okQ; kernel_rfl)
theorem segR1b (sup : List Nat) (h : sup.length = 36) : okQ [true, false, false, false, false, false, false, false, false, false, false, false, false, false, false, false, false, true] (runF w b b2 (logR1b ⟨⟨tx⟩⟩ q10 (initF 3 (⟨⟨tx⟩⟩ ++ q10) (vsB tx)) (FGb (fP w b b2) iR1 o) (FGe (fP w b b2) iR1)) (cLR ⟨⟨tx⟩⟩ tt false) p (blR k) [(104, tab0)] tk sup)
    (.fin (.ok (.ret (.str (oStr o) (getN sup 30))))) (fstC (runF w b b2 (logR1b ⟨⟨tx⟩⟩ q10 (initF 3 (⟨⟨tx⟩⟩ ++ q10) (vsB tx)) (FGb (fP w b b2) iR1 o) (FGe (fP w b b2) iR1)) (cLR ⟨⟨tx⟩⟩ tt false) p (blR k) [(104, tab0)] tk sup)) [Item.p (PreB (vsB tx [getN sup 5, getN sup 6, getN sup 7, getN sup 8, getN sup 9]) o) = .p True] := by
  obtain ⟨fS, rfl⟩ := sup_ex h
  cases b <;> (unfold okQ; kernel_rfl)
end
end Mine

/-! part LR3 -/
namespace Mine
open PySem PySem.W PySem.W.X PySem.Spec PySem.Calls PyProof.Rows

/-- reading, on codes alone -/
inductive GdC : List Nat → List Nat → Prop where
  | nil : GdC [] []
  | esc {c : Nat} {l o : List Nat} : 11 ≤ c → GdC l o → GdC (92 :: c :: l) (c :: o)
  | ord {c : Nat} {l o : List Nat} : (c = 40 ∨ c = 41 ∨ 93 ≤ c) → GdC l o → GdC (c :: l) (c :: o)
theorem GdC.zip {l o : List Nat} (g : GdC l o) : ∀ B e, Gd (zipT B e l) o := by
  induction g with
  | nil => exact fun _ _ => .nil
  | esc hc g ih => exact fun B e => .esc hc (ih B _)
  | ord hc g ih => exact fun B e => .ord hc (ih B _)
theorem zipT_len : ∀ (l : List Nat) (B e : Nat), (zipT B e l).length = l.length
  | [], _, _ => rfl
  | c :: l, B, e => by show (zipT B (e / B) l).length + 1 = l.length + 1; rw [zipT_len l]
theorem cps_m (tx : List Nat) : ((q34 ++ (⟨⟨tx⟩⟩ : Str)) ++ q34).cps.toList = 34 :: (tx ++ [34]) := by
  rw [Str.cps_append, Str.cps_append]; simp [q34]
theorem cps_b (tx : List Nat) : ((⟨⟨tx⟩⟩ : Str) ++ q10).cps.toList = tx ++ [10] := by
  rw [Str.cps_append]; simp [q10]
theorem len_cps (x : Str) : x.length = x.cps.toList.length := by simp [Str.length]
theorem hvM (tx : List Nat) (l : List (Nat × Nat)) (n tk : Nat) (h : l.map (·.1) = ((q34 ++ (⟨⟨tx⟩⟩ : Str)) ++ q34).cps.toList) :
    ∃ ns : List Nat, ns.length = 6 ∧ vsM tx ns = (l.map fun z => chvL z.1 z.2) ∧ getNL ns 0 = n ∧ getNL ns 1 = tk := by
  rw [cps_m] at h
  cases l with
  | nil => cases h
  | cons x l =>
    obtain ⟨c, t⟩ := x
    rw [List.map_cons] at h
    injection h with h1 h2
    have h1 : c = 34 := h1
    subst h1
    obtain ⟨l1, l3, rfl, h3, h4⟩ := List.map_eq_append_iff.mp h2
    obtain ⟨⟨c, t34⟩, rfl, h5⟩ := List.map_eq_singleton_iff.mp h4
    have h5 : c = 34 := h5
    subst h5
    obtain ⟨B, e, he⟩ := enc_any tx l1 h3
    refine ⟨[n, tk, t, t34, B, e], rfl, ?_, rfl, rfl⟩
    show chv 34 t :: (vals (zipT B e tx) ++ [chv 34 t34]) = _
    rw [he]
    simp [vals, chvL, chv]
theorem hvB (tx : List Nat) (l : List (Nat × Nat)) (n tk : Nat) (h : l.map (·.1) = ((⟨⟨tx⟩⟩ : Str) ++ q10).cps.toList) :
    ∃ ns : List Nat, ns.length = 5 ∧ vsB tx ns = (l.map fun z => chvL z.1 z.2) ∧ getNL ns 0 = n ∧ getNL ns 1 = tk := by
  rw [cps_b] at h
  obtain ⟨l1, l3, rfl, h3, h4⟩ := List.map_eq_append_iff.mp h
  obtain ⟨⟨c, te⟩, rfl, h5⟩ := List.map_eq_singleton_iff.mp h4
  have h5 : c = 10 := h5
  subst h5
  obtain ⟨B, e, he⟩ := enc_any tx l1 h3
  refine ⟨[n, tk, te, B, e], rfl, ?_, rfl, rfl⟩
  show vals (zipT B e tx) ++ [chv 10 te] = _
  rw [he]
  simp [vals, chvL, chv]
section
variable {w : World} {b b2 : Bool} {s₀ : Shared} {T : List Addr} {k : Stk} {tx o : List Nat}
theorem preM_of (g : GdC tx o) (hl : tx.length ≤ 8000) (ns : List Nat) : PreM (vsM tx ns) o := ⟨zipT _ _ tx, _, _, rfl, g.zip _ _, by rw [zipT_len]; exact hl⟩
theorem preB_of (g : GdC tx o) (hx : tx ≠ []) (hl : tx.length ≤ 8000) (ns : List Nat) : PreB (vsB tx ns) o := ⟨zipT _ _ tx, _, rfl, g.zip _ _, fun h => hx (by
    have := zipT_len tx (getN ns 3) (getN ns 4)
    rw [h] at this
    exact List.length_eq_zero_iff.mp this.symm), by rw [zipT_len]; exact hl⟩
theorem one_p {Q : Prop} (h : Q) : ∀ P ∈ [Item.p Q = .p True], P := fun P hP => by
  rw [List.mem_singleton.mp hP, eq_true h]
theorem readM2 (g : GdC tx o) (hl : tx.length ≤ 8000) (c1 : Nat) (z : Lx) (tt tk : Nat) (s : Shared) (p : Pos) (I : Inv (KT' w b b2) s₀ T s (tabC c1 z) tk) :
    wpCode (MM w b b2) (cx (cLR ⟨⟨tx⟩⟩ tt true) (blR k)) (fun r s' => ∃ tq tk', r = .ok (.ret (.str (oStr o) tq)) ∧ Inv (KT' w b b2) s₀ T s' (tabC c1 z) tk') p s := by
  refine segQ (MM_den w b b2) rfl rfl _ (fun sup hs => segR2m w b b2 k p tx tt o tk c1 z sup hs) (fun sup hs => one_p (preM_of g hl _))
    ⟨add_sound _ _ _ _ _ ?_, add_sound _ _ _ _ _ ?_, init_sound _ _ _ _ 6 _ _ ?_ (hvM tx), FGm_sound (by decide) o, FGe_sound (by decide), trivial⟩ I fun sup s' tk' hs I' => ⟨_, _, rfl, I'⟩
  all_goals (rw [sizeLine_is]; first | (rw [len_cps, cps_m]; simp; omega) | (rw [len_cps, Str.cps_append]; simp [q34]; omega))
theorem readB2 (g : GdC tx o) (hx : tx ≠ []) (hl : tx.length ≤ 8000) (c1 : Nat) (z : Lx) (tt tk : Nat) (s : Shared) (p : Pos) (I : Inv (KT' w b b2) s₀ T s (tabC c1 z) tk) :
    wpCode (MM w b b2) (cx (cLR ⟨⟨tx⟩⟩ tt false) (blR k)) (fun r s' => ∃ tq tk', r = .ok (.ret (.str (oStr o) tq)) ∧ Inv (KT' w b b2) s₀ T s' (tabC c1 z) tk') p s := by
  refine segQ (MM_den w b b2) rfl rfl _ (fun sup hs => segR2b w b b2 k p tx tt o tk c1 z sup hs) (fun sup hs => one_p (preB_of g hx hl _))
    ⟨add_sound _ _ _ _ _ ?_, init_sound _ _ _ _ 5 _ _ ?_ (hvB tx), FGb_sound (by decide) o, FGe_sound (by decide), trivial⟩ I fun sup s' tk' hs I' => ⟨_, _, rfl, I'⟩
  all_goals (rw [sizeLine_is]; rw [len_cps, cps_b]; simp; omega)
theorem fstC_is {m : List Bool} {r : Option Res} {oc : OC} {ps : List Prop} (h : okQ m r oc (fstC r) ps) : ∃ c1 z, fstC r = tabC c1 z := by
  cases r with
  | none => unfold okQ at h; cases h
  | some x => exact ⟨_, _, rfl⟩
theorem readM1 (g : GdC tx o) (hl : tx.length ≤ 8000) (tt tk : Nat) (s : Shared) (p : Pos) (I : Inv (KT' w b b2) s₀ T s [(104, tab0)] tk) :
    wpCode (MM w b b2) (cx (cLR ⟨⟨tx⟩⟩ tt true) (blR k)) (fun r s' => ∃ tq tk' c1 z, r = .ok (.ret (.str (oStr o) tq)) ∧ Inv (KT' w b b2) s₀ T s' (tabC c1 z) tk') p s := by
  refine segQ (MM_den w b b2) rfl rfl _ (fun sup hs => segR1m w b b2 k p tx tt o tk sup hs) (fun sup hs => one_p (preM_of g hl _))
    ⟨add_sound _ _ _ _ _ ?_, add_sound _ _ _ _ _ ?_, init_sound _ _ _ _ 6 _ _ ?_ (hvM tx), FGm_sound (by decide) o, FGe_sound (by decide), trivial⟩ I fun sup s' tk' hs I' => ?_
  rotate_left 3
  · obtain ⟨c1, z, e⟩ := fstC_is (segR1m w b b2 k p tx tt o tk sup hs)
    rw [e] at I'
    exact ⟨_, _, c1, z, rfl, I'⟩
  all_goals (rw [sizeLine_is]; first | (rw [len_cps, cps_m]; simp; omega) | (rw [len_cps, Str.cps_append]; simp [q34]; omega))
theorem readB1 (g : GdC tx o) (hx : tx ≠ []) (hl : tx.length ≤ 8000) (tt tk : Nat) (s : Shared) (p : Pos) (I : Inv (KT' w b b2) s₀ T s [(104, tab0)] tk) :
    wpCode (MM w b b2) (cx (cLR ⟨⟨tx⟩⟩ tt false) (blR k)) (fun r s' => ∃ tq tk' c1 z, r = .ok (.ret (.str (oStr o) tq)) ∧ Inv (KT' w b b2) s₀ T s' (tabC c1 z) tk') p s := by
  refine segQ (MM_den w b b2) rfl rfl _ (fun sup hs => segR1b w b b2 k p tx tt o tk sup hs) (fun sup hs => one_p (preB_of g hx hl _))
    ⟨add_sound _ _ _ _ _ ?_, init_sound _ _ _ _ 5 _ _ ?_ (hvB tx), FGb_sound (by decide) o, FGe_sound (by decide), trivial⟩ I fun sup s' tk' hs I' => ?_
  rotate_left 2
  · obtain ⟨c1, z, e⟩ := fstC_is (segR1b w b b2 k p tx tt o tk sup hs)
    rw [e] at I'
    exact ⟨_, _, c1, z, rfl, I'⟩
  all_goals (rw [sizeLine_is]; rw [len_cps, cps_b]; simp; omega)
end
end Mine

/-! part RD -/
namespace Mine
open PySem PySem.W PySem.W.X PySem.Spec PySem.Calls PyProof.Rows

theorem ConSound.byC {M : Model} {kt : KT} {m : Nat} {α : Type} (f : Code → List (Code × Pos) → Cells → Nat → α) {F : α → ConF} (h : ∀ y, ConSound M kt m (F y)) : ConSound M kt m (fun c bl cs tk ns => F (f c bl cs tk) c bl cs tk ns) :=
  fun c bl p cs tk gs s₀ T s I H => h (f c bl cs tk) c bl p cs tk gs s₀ T s I H

theorem Inv.perm {kt : KT} {s₀ s : Shared} {T : List Addr} {cs cs' : Cells} {tk : Nat} {gs : List (Nat × GenState)} (I : Inv kt s₀ T s cs tk gs) (h : cs.Perm cs') : Inv kt s₀ T s cs' tk gs :=
  ⟨I.st, fun x hx => I.cell x (h.mem_iff.mpr hx), (h.map _).nodup_iff.mp I.nodup, fun x hx => I.apart x (h.mem_iff.mpr hx), fun x hx => I.mine x (h.mem_iff.mpr hx), I.tk, I.keep, I.size, I.gens, I.gsz, I.gs, I.bare, I.os⟩

/-! _law_read as a contract -/
noncomputable def nsZ (c1 : Nat) (z : Lx) : List Nat := [c1, z.C, z.k1, z.k2, z.k3, z.k4, z.k5, z.t 20, z.t 21, z.t 22, z.t 23, z.t 24]
noncomputable def zN (j : Nat) (ns : List Nat) : Lx := ⟨0, 0, 0, 0, 0, getN ns (j + 1), 0, 0, 0, 0, 0, getN ns (j + 2), getN ns (j + 3), getN ns (j + 4), getN ns (j + 5), getN ns (j + 6), fun | 20 => getN ns (j + 7) | 21 => getN ns (j + 8) | 22 => getN ns (j + 9) | 23 => getN ns (j + 10) | 24 => getN ns (j + 11) | _ => 0⟩
noncomputable def zAt (cs : Cells) (i : Nat) : Lx := lxOf ⟨99, 99, 99, 99, 99, i, 99, 99, 99⟩ cs
noncomputable def stkR : List (Code × Pos) → Stk
  | [(.forLoop t2 i2 b2 o2 e2, p2), (.func b3 e3, p3), (.func b4 e4, p4), (_, p5)] => ⟨[], default, default, t2, i2, b2, o2, e2, p2, b3, e3, p3, b4, e4, p4, p5⟩
  | _ => stk0
structure Ry where
  tt : Nat
  m : Bool
  k : Stk
  c1 : Nat
  z : Lx
noncomputable def ryOf (i0 iC : Nat) (c : Code) (bl : List (Code × Pos)) (cs : Cells) (_ : Nat) : Ry :=
  match c with
  | .call _ ⟨[.str _ t, .bool m], _⟩ => ⟨t, m, stkR bl, refN (nthV (fldsOf (objAt cs i0)) 2), zAt cs iC⟩
  | _ => ⟨0, true, stkR bl, refN (nthV (fldsOf (objAt cs i0)) 2), zAt cs iC⟩
/-- the first _law_read: the table grows -/
noncomputable def FR1 (m : Bool) (tx o : List Nat) (i0 : Nat) : ConF := fun c bl cs tk ns => (fun (y : Ry) => reqF (y.m = m) (conOf (cLR ⟨⟨tx⟩⟩ y.tt y.m) (fun _ => blR y.k) [(i0, 104, tab0)] fun ns => ⟨.ok (.ret (.str (oStr o) (getN ns 0))), [tabO (getN ns 2) (getN ns 3)], [(getN ns 3, oC (zN 2 ns))], getN ns 1⟩)) (ryOf i0 99 c bl cs tk) c bl cs tk ns
/-- a later one -/
noncomputable def FR2 (m : Bool) (tx o : List Nat) (i0 iC : Nat) : ConF := fun c bl cs tk ns => (fun (y : Ry) => reqF (y.m = m) (conOf (cLR ⟨⟨tx⟩⟩ y.tt y.m) (fun _ => blR y.k) [(i0, 104, tabO y.c1 y.z.C), (iC, y.z.C, oC y.z)] fun ns => ⟨.ok (.ret (.str (oStr o) (getN ns 0))), [tabO y.c1 y.z.C, oC y.z], [], getN ns 1⟩)) (ryOf i0 iC c bl cs tk) c bl cs tk ns
section
variable {w : World} {b b2 : Bool}
theorem FR1_sound (m : Bool) {tx o : List Nat} (g : GdC tx o) (hx : tx ≠ []) (hl : tx.length ≤ 8000) (i0 : Nat) : ConSound (MM w b b2) (KT' w b b2) 14 (FR1 m tx o i0) := by
  refine ConSound.byC (ryOf i0 99) (F := fun y => reqF (y.m = m) (conOf (cLR ⟨⟨tx⟩⟩ y.tt y.m) (fun _ => blR y.k) [(i0, 104, tab0)] fun ns => ⟨.ok (.ret (.str (oStr o) (getN ns 0))), [tabO (getN ns 2) (getN ns 3)], [(getN ns 3, oC (zN 2 ns))], getN ns 1⟩)) fun y => reqF_sound fun hm => ?_
  refine conOf_sound (by simp) fun s tk p pp I => ?_
  have key : wpCode (MM w b b2) (cx (cLR ⟨⟨tx⟩⟩ y.tt y.m) (blR y.k)) (fun r s' => ∃ tq tk' c1 z, r = .ok (.ret (.str (oStr o) tq)) ∧ Inv (KT' w b b2) s ((cells0 [(i0, 104, tab0)]).map (·.1)) s' (tabC c1 z) tk') p s := by
    cases e : y.m
    · exact readB1 g hx hl _ _ _ _ I
    · exact readM1 g hl _ _ _ _ I
  refine wpCode_mono ?_ key
  rintro r s' ⟨tq, tk', c1, z, rfl, J⟩
  exact ⟨[tq, tk'] ++ nsZ c1 z, rfl, rfl, rfl, J⟩
theorem FR2_sound (m : Bool) {tx o : List Nat} (g : GdC tx o) (hx : tx ≠ []) (hl : tx.length ≤ 8000) (i0 iC : Nat) (hi : i0 ≠ iC) : ConSound (MM w b b2) (KT' w b b2) 2 (FR2 m tx o i0 iC) := by
  refine ConSound.byC (ryOf i0 iC) (F := fun y => reqF (y.m = m) (conOf (cLR ⟨⟨tx⟩⟩ y.tt y.m) (fun _ => blR y.k) [(i0, 104, tabO y.c1 y.z.C), (iC, y.z.C, oC y.z)] fun ns => ⟨.ok (.ret (.str (oStr o) (getN ns 0))), [tabO y.c1 y.z.C, oC y.z], [], getN ns 1⟩)) fun y => reqF_sound fun hm => ?_
  refine conOf_sound (by simp [hi]) fun s tk p pp I => ?_
  have key : wpCode (MM w b b2) (cx (cLR ⟨⟨tx⟩⟩ y.tt y.m) (blR y.k)) (fun r s' => ∃ tq tk', r = .ok (.ret (.str (oStr o) tq)) ∧ Inv (KT' w b b2) s ((cells0 [(i0, 104, tabO y.c1 y.z.C), (iC, y.z.C, oC y.z)]).map (·.1)) s' (tabC y.c1 y.z) tk') p s := by
    cases e : y.m
    · exact readB2 g hx hl _ _ _ _ _ _ I
    · exact readM2 g hl _ _ _ _ _ _ I
  refine wpCode_mono ?_ key
  rintro r s' ⟨tq, tk', rfl, J⟩
  exact ⟨[tq, tk'], rfl, rfl, rfl, J⟩
end

/-! _law_readings -/
noncomputable def cRd (tx : Str) (tt : Nat) (n : Int) (tu : Nat) : Code := .call (.ref 116) ⟨[.str tx tt, .int n tu], []⟩
noncomputable def blL (k : Stk) : List (Code × Pos) := [(.func k.b4 k.e4, k.p4), (.builtin "claim.caller" {}, k.p5)]
noncomputable def logRd1 (R1 R2 R3 : ConF) : List Ev := [.st, .st, .dy 1, .dy 1, .dy 1, .dy 1, .st, .go, .dy 1, .dy 1, .dy 1, .st, .st, .go, .go, .go, .go, .dy 3, .dy 3, .go, .dy 3, .go, .dy 3, .dy 3, .dy 3, .go, .dy 3, .go, .dy 3, .dy 3, .dy 3, .dy 4, .go, .dy 4, .go, .dy 4, .go, .dy 4, .dy 4, .dy 4, .dy 4, .dy 4, .dy 4, .dy 4, .dy 1, .dy 1, .dy 1, .dy 2, .dy 2, .dy 2, .dy 2, .st, .dy 1, .go, .go, .dy 2, .dy 2, .dy 2, .go, .dy 2, .go, .dy 2, .dy 1, .dy 1, .go, .go, .go, .go, .go, .go, .st, .con 14 R1, .go, .dy 2, .go, .dy 2, .dy 2, .dy 2, .go, .dy 4, .go, .dy 4, .go, .dy 4, .dy 4, .dy 4, .dy 4, .dy 4, .dy 4, .dy 4, .dy 1, .dy 1, .dy 1, .dy 2, .dy 2, .dy 2, .dy 2, .st, .dy 1, .go, .go, .dy 2, .dy 2, .dy 2, .go, .dy 2, .go, .dy 2, .dy 1, .dy 1, .go, .go, .go, .go, .go, .go, .st, .con 2 R2, .go, .dy 2, .go, .dy 2, .dy 2, .dy 2, .go, .dy 4, .go, .dy 4, .go, .dy 4, .dy 4, .dy 4, .dy 4, .dy 4, .dy 4, .dy 4, .dy 1, .dy 1, .dy 1, .dy 2, .dy 2, .dy 2, .dy 2, .st, .dy 1, .go, .go, .dy 2, .dy 2, .dy 2, .go, .dy 2, .go, .dy 2, .dy 1, .dy 1, .go, .go, .go, .go, .go, .go, .st, .con 2 R3, .go, .dy 2, .go, .dy 2, .dy 2, .dy 2, .go, .dy 4, .go, .dy 4, .go, .dy 4, .dy 4, .dy 4, .dy 7, .go, .dy 1]
noncomputable def logRd2 (R1 R2 R3 : ConF) : List Ev := [.st, .st, .dy 2, .dy 2, .dy 2, .dy 2, .st, .go, .dy 2, .dy 2, .dy 2, .st, .st, .go, .go, .go, .go, .dy 4, .dy 4, .go, .dy 4, .go, .dy 4, .dy 4, .dy 4, .go, .dy 4, .go, .dy 4, .dy 4, .dy 4, .dy 5, .go, .dy 5, .go, .dy 5, .go, .dy 5, .dy 5, .dy 5, .dy 5, .dy 5, .dy 5, .dy 5, .dy 2, .dy 2, .dy 2, .dy 3, .dy 3, .dy 3, .dy 3, .st, .dy 2, .go, .go, .dy 3, .dy 3, .dy 3, .go, .dy 3, .go, .dy 3, .dy 2, .dy 2, .go, .go, .go, .go, .go, .go, .st, .con 2 R1, .go, .dy 3, .go, .dy 3, .dy 3, .dy 3, .go, .dy 5, .go, .dy 5, .go, .dy 5, .dy 5, .dy 5, .dy 5, .dy 5, .dy 5, .dy 5, .dy 2, .dy 2, .dy 2, .dy 3, .dy 3, .dy 3, .dy 3, .st, .dy 2, .go, .go, .dy 3, .dy 3, .dy 3, .go, .dy 3, .go, .dy 3, .dy 2, .dy 2, .go, .go, .go, .go, .go, .go, .st, .con 2 R2, .go, .dy 3, .go, .dy 3, .dy 3, .dy 3, .go, .dy 5, .go, .dy 5, .go, .dy 5, .dy 5, .dy 5, .dy 5, .dy 5, .dy 5, .dy 5, .dy 2, .dy 2, .dy 2, .dy 3, .dy 3, .dy 3, .dy 3, .st, .dy 2, .go, .go, .dy 3, .dy 3, .dy 3, .go, .dy 3, .go, .dy 3, .dy 2, .dy 2, .go, .go, .go, .go, .go, .go, .st, .con 2 R3, .go, .dy 3, .go, .dy 3, .dy 3, .dy 3, .go, .dy 5, .go, .dy 5, .go, .dy 5, .dy 5, .dy 5, .dy 7, .go, .dy 2]
section
variable (w : World) (b b2 : Bool) (k : Stk) (p : Pos) (tx o1 o2 o3 : List Nat) (tt tu : Nat) (n : Int) (tk : Nat) (m : Bool)
theorem segRd1 (sup : List Nat) (h : sup.length = 24) : okQ [true, false, true, false, false, true] (runF w b b2 (logRd1 (FR1 m tx o1 0) (FR2 (!m) o1 o2 0 5) (FR2 m o2 o3 0 5)) (cRd ⟨⟨tx⟩⟩ tt n tu) p (blL k) [(104, tab0)] tk sup)
    (.fin (.ok (.ret (.ref (getN sup 1))))) [(104, tabO (getN sup 6) (getN sup 7)), (getN sup 1, lstO [.str ⟨⟨tx⟩⟩ tt, .str (oStr o1) (getN sup 4), .str (oStr o2) (getN sup 18), .str (oStr o3) (getN sup 20)] 3), (getN sup 7, oC (zN 6 sup))] [Item.p ((Int.fmod (n + 3) 2 == 1) = m) = .p True, Item.p ((Int.fmod (n + 2) 2 == 1) = !m) = .p True, Item.p ((Int.fmod (n + 1) 2 == 1) = m) = .p True] := by
  obtain ⟨fS, rfl⟩ := sup_ex h
  cases b <;> (unfold okQ; kernel_rfl)
theorem segRd2 (c1 : Nat) (z : Lx) (sup : List Nat) (h : sup.length = 12) : okQ [true, true, false, true] (runF w b b2 (logRd2 (FR2 m tx o1 0 1) (FR2 (!m) o1 o2 0 1) (FR2 m o2 o3 0 1)) (cRd ⟨⟨tx⟩⟩ tt n tu) p (blL k) (tabC c1 z) tk sup)
    (.fin (.ok (.ret (.ref (getN sup 1))))) [(104, tabO c1 z.C), (z.C, oC z), (getN sup 1, lstO [.str ⟨⟨tx⟩⟩ tt, .str (oStr o1) (getN sup 4), .str (oStr o2) (getN sup 6), .str (oStr o3) (getN sup 8)] 3)] [Item.p ((Int.fmod (n + 3) 2 == 1) = m) = .p True, Item.p ((Int.fmod (n + 2) 2 == 1) = !m) = .p True, Item.p ((Int.fmod (n + 1) 2 == 1) = m) = .p True] := by
  obtain ⟨fS, rfl⟩ := sup_ex h
  cases b <;> (unfold okQ; kernel_rfl)
end
noncomputable def stkL : List (Code × Pos) → Stk
  | [(.func b4 e4, p4), (_, p5)] => ⟨[], default, default, default, .none, [], [], default, default, [], default, default, b4, e4, p4, p5⟩
  | _ => stk0
structure Rdy where
  tt : Nat
  n : Int
  tu : Nat
  k : Stk
  c1 : Nat
  z : Lx
noncomputable def rdyOf (i0 iC : Nat) (c : Code) (bl : List (Code × Pos)) (cs : Cells) (_ : Nat) : Rdy :=
  match c with
  | .call _ ⟨[.str _ t, .int n u], _⟩ => ⟨t, n, u, stkL bl, refN (nthV (fldsOf (objAt cs i0)) 2), zAt cs iC⟩
  | _ => ⟨0, 0, 0, stkL bl, refN (nthV (fldsOf (objAt cs i0)) 2), zAt cs iC⟩
noncomputable def lstRd (tx o1 o2 o3 : List Nat) (tt t1 t2 t3 : Nat) : Obj := lstO [.str ⟨⟨tx⟩⟩ tt, .str (oStr o1) t1, .str (oStr o2) t2, .str (oStr o3) t3] 3
/-- the first _law_readings -/
noncomputable def FD1 (tx o1 o2 o3 : List Nat) (i0 : Nat) : ConF := fun c bl cs tk ns => (fun (y : Rdy) => conOf (cRd ⟨⟨tx⟩⟩ y.tt y.n y.tu) (fun _ => blL y.k) [(i0, 104, tab0)] fun ns => ⟨.ok (.ret (.ref (getN ns 0))), [tabO (getN ns 5) (getN ns 6)], [(getN ns 6, oC (zN 5 ns)), (getN ns 0, lstRd tx o1 o2 o3 y.tt (getN ns 1) (getN ns 2) (getN ns 3))], getN ns 4⟩) (rdyOf i0 99 c bl cs tk) c bl cs tk ns
/-- the second -/
noncomputable def FD2 (tx o1 o2 o3 : List Nat) (i0 iC : Nat) : ConF := fun c bl cs tk ns => (fun (y : Rdy) => conOf (cRd ⟨⟨tx⟩⟩ y.tt y.n y.tu) (fun _ => blL y.k) [(i0, 104, tabO y.c1 y.z.C), (iC, y.z.C, oC y.z)] fun ns => ⟨.ok (.ret (.ref (getN ns 0))), [tabO y.c1 y.z.C, oC y.z], [(getN ns 0, lstRd tx o1 o2 o3 y.tt (getN ns 1) (getN ns 2) (getN ns 3))], getN ns 4⟩) (rdyOf i0 iC c bl cs tk) c bl cs tk ns
theorem par_props (n : Int) : ∀ P ∈ [Item.p ((Int.fmod (n + 3) 2 == 1) = (Int.fmod (n + 1) 2 == 1)) = .p True, Item.p ((Int.fmod (n + 2) 2 == 1) = !(Int.fmod (n + 1) 2 == 1)) = .p True, Item.p ((Int.fmod (n + 1) 2 == 1) = (Int.fmod (n + 1) 2 == 1)) = .p True], P := by
  have h : ∀ a : Int, (Int.fmod a 2 == 1) = decide (a % 2 = 1) := fun a => by
    rw [Int.fmod_eq_emod_of_nonneg a (by decide)]; rfl
  simp only [h]
  have e1 : (decide ((n + 3) % 2 = 1) = decide ((n + 1) % 2 = 1)) = True := eq_true (by rw [decide_eq_decide]; omega)
  have e2 : (decide ((n + 2) % 2 = 1) = !decide ((n + 1) % 2 = 1)) = True := eq_true (by rw [← decide_not, decide_eq_decide]; omega)
  rw [e1, e2]
  intro P hP
  rcases List.mem_cons.mp hP with h | hP
  · rw [h]
  rcases List.mem_cons.mp hP with h | hP
  · rw [h]
  rw [List.mem_singleton.mp hP]; trivial
section
variable {w : World} {b b2 : Bool} {tx o1 o2 o3 : List Nat} (g1 : GdC tx o1) (g2 : GdC o1 o2) (g3 : GdC o2 o3) (h0 : tx ≠ []) (h1 : o1 ≠ []) (h2 : o2 ≠ []) (l0 : tx.length ≤ 8000) (l1 : o1.length ≤ 8000) (l2 : o2.length ≤ 8000)
include g1 g2 g3 h0 h1 h2 l0 l1 l2
theorem FD1_sound (i0 : Nat) : ConSound (MM w b b2) (KT' w b b2) 17 (FD1 tx o1 o2 o3 i0) := by
  refine ConSound.byC (rdyOf i0 99) (F := fun y => conOf (cRd ⟨⟨tx⟩⟩ y.tt y.n y.tu) (fun _ => blL y.k) [(i0, 104, tab0)] fun ns => ⟨.ok (.ret (.ref (getN ns 0))), [tabO (getN ns 5) (getN ns 6)], [(getN ns 6, oC (zN 5 ns)), (getN ns 0, lstRd tx o1 o2 o3 y.tt (getN ns 1) (getN ns 2) (getN ns 3))], getN ns 4⟩) fun y => ?_
  refine conOf_sound (by simp) fun s tk p pp I => ?_
  refine segQ (MM_den w b b2) rfl rfl _ (fun sup hs => segRd1 w b b2 y.k p tx o1 o2 o3 y.tt y.tu y.n tk _ sup hs) (fun sup hs => par_props y.n)
    ⟨FR1_sound _ g1 h0 l0 0, FR2_sound _ g2 h1 l1 0 5 (by decide), FR2_sound _ g3 h2 l2 0 5 (by decide), trivial⟩ I fun sup s' tk' hs I' => ?_
  have nd := I'.nodup
  refine ⟨[getN sup 1, getN sup 4, getN sup 18, getN sup 20, tk', getN sup 6, getN sup 7, getN sup 8, getN sup 9, getN sup 10, getN sup 11, getN sup 12, getN sup 13, getN sup 14, getN sup 15, getN sup 16, getN sup 17], rfl, rfl, rfl, ?_⟩
  exact I'.perm (by exact (List.Perm.swap _ _ _).cons _)
theorem FD2_sound (i0 iC : Nat) (hi : i0 ≠ iC) : ConSound (MM w b b2) (KT' w b b2) 5 (FD2 tx o1 o2 o3 i0 iC) := by
  refine ConSound.byC (rdyOf i0 iC) (F := fun y => conOf (cRd ⟨⟨tx⟩⟩ y.tt y.n y.tu) (fun _ => blL y.k) [(i0, 104, tabO y.c1 y.z.C), (iC, y.z.C, oC y.z)] fun ns => ⟨.ok (.ret (.ref (getN ns 0))), [tabO y.c1 y.z.C, oC y.z], [(getN ns 0, lstRd tx o1 o2 o3 y.tt (getN ns 1) (getN ns 2) (getN ns 3))], getN ns 4⟩) fun y => ?_
  refine conOf_sound (by simp [hi]) fun s tk p pp I => ?_
  refine segQ (MM_den w b b2) rfl rfl _ (fun sup hs => segRd2 w b b2 y.k p tx o1 o2 o3 y.tt y.tu y.n tk _ y.c1 y.z sup hs) (fun sup hs => par_props y.n)
    ⟨FR2_sound _ g1 h0 l0 0 1 (by decide), FR2_sound _ g2 h1 l1 0 1 (by decide), FR2_sound _ g3 h2 l2 0 1 (by decide), trivial⟩ I fun sup s' tk' hs I' => ?_
  exact ⟨[getN sup 1, getN sup 4, getN sup 6, getN sup 8, tk'], rfl, rfl, rfl, I'⟩
end
end Mine

/-! part IT -/
namespace Mine
open PySem PySem.W PySem.W.X PySem.Spec PySem.Calls PyProof.Rows

theorem wpCode_any {pg : Program} {w : World} {id : String} {args : Args} {B : Builtin} {bl : List (Code × Pos)} {R : Result → Shared → Prop} {p : Pos} {s : Shared}
    (hq : plainId id = true) (entry : entryFor table id = some B)
    (h : ∀ A : Around, A.handled = none → wpAny (model pg w) A (B args) (fun fin s' => ∃ v, fin = .done (.ret v) ∧ R (.ok (.ret v)) s') (fun e s' => R (.error e) s') s) : wpCode (model pg w) (cx (.builtin id args) bl) R p s :=
  (codeAny_builtin (A := { depth := frameCount bl, units := unitsOf bl }) entry (by
    rw [Around.under_plainId hq args]
    refine wpAny_mono (h _ rfl) ?_ (fun _ _ x => x)
    rintro fin s' ⟨v, rfl, hv⟩; exact hv)) (cx (.builtin id args) bl) p rfl ⟨rfl, Nat.le_refl _, fun _ h => (nomatch h), fun _ h => (nomatch h), Nat.le_refl _⟩

/-! iterators over texts -/
noncomputable def itTy (wd : Bool) : String := bif wd then "str_iterator" else "str_ascii_iterator"
noncomputable def itO (wd : Bool) (v : Value) (j : Nat) : Obj := ⟨.type (itTy wd), none, .fields ⟨[v, .int (j : Nat) 0]⟩, ⟨[]⟩⟩
noncomputable def strIterF (wd : Bool) : ConF := fun c _ _ tk ns => match c with
  | .builtin id ⟨[.str x t], []⟩ => some ⟨.ok (.ret (.ref (getN ns 0))), [], [(getN ns 0, itO wd (.str x t) 0)], tk, [(.a (PySem.code id), .a (PySem.code "str.__iter__")), (.p (x.cps.all (· < 128) = !wd), .p True)]⟩
  | _ => none
theorem Inv.push {kt : KT} {s₀ s : Shared} {T : List Addr} {cs : Cells} {tk : Nat} {gs : List (Nat × GenState)} (I : Inv kt s₀ T s cs tk gs) {o : Obj} (hf : o.isFreed = false) : Inv kt s₀ T { s with heap := s.heap.push o } (cs ++ [(s.heap.objs.size, o)]) tk gs := I.alloc hf
theorem strIter_sound (pg : Program) (w : World) (kt : KT) (wd : Bool) : ConSound (model pg w) kt 1 (strIterF wd) := by
  intro c bl p cs tk gs s₀ T s I H
  obtain ⟨po, hF, chk⟩ := H [0] rfl
  unfold strIterF at hF
  split at hF
  · rename_i id x t
    cases hF
    have e1 : id = "str.__iter__" := PySem.code_inj _ _ (Item.a.inj (chk _ (.head _)))
    have e2 : x.cps.all (· < 128) = !wd := by rw [Item.p.inj (chk _ (.tail _ (.head _)))]; trivial
    subst e1
    refine wpCode_any (by decide +kernel) F.entry_str_iter fun A hA => ?_
    show wpAny _ _ (do ret (← newFields (if (true && x.cps.all (· < 128)) = true then "str_ascii_iterator" else "str_iterator") [.str x t, rawInt 0])) _ _ s
    rw [e2]
    cases wd
    · exact wpAny_bind (wpAny_newObj_type (wpAny_pure ⟨_, rfl, [s.heap.objs.size], _, rfl, rfl, rfl, I.push rfl⟩))
    · exact wpAny_bind (wpAny_newObj_type (wpAny_pure ⟨_, rfl, [s.heap.objs.size], _, rfl, rfl, rfl, I.push rfl⟩))
  · cases hF

/-- the next sign -/
noncomputable def itX (o : Obj) : Str := match o.data with
  | .fields ⟨.str x _ :: _⟩ => x
  | _ => ⟨⟨[]⟩⟩
noncomputable def itT (o : Obj) : Nat := match o.data with
  | .fields ⟨.str _ t :: _⟩ => t
  | _ => 0
noncomputable def nextId (wd : Bool) : Nat := bif wd then PySem.code "str_iterator.__next__" else PySem.code "str_ascii_iterator.__next__"
noncomputable def nextF (wd : Bool) (ci : Nat) (j c1 : Nat) : ConF := fun c _ cs tk _ => match c, getC cs ci with
  | .builtin id ⟨[.ref a], []⟩, some (y, o) => some ⟨.ok (.ret (.str ⟨⟨[c1]⟩⟩ tk)), [(ci, itO wd (.str (itX o) (itT o)) (j + 1))], [], tk + 1,
      [(.a (PySem.code id), .a (nextId wd)), (.a a, .a y), (.o o, .o (itO wd (.str (itX o) (itT o)) j)), (.p ((itX o).cps[j]? = some c1), .p True)]⟩
  | _, _ => none
theorem nextF_sound (pg : Program) (w : World) (kt : KT) (wd : Bool) (ci j c1 : Nat) : ConSound (model pg w) kt 0 (nextF wd ci j c1) := by
  intro c bl p cs tk gs s₀ T s I H
  obtain ⟨po, hF, chk⟩ := H [] rfl
  unfold nextF at hF
  split at hF
  · rename_i id a y o hg
    cases hF
    have e1 : PySem.code id = nextId wd := Item.a.inj (chk _ (.head _))
    have e2 : a = y := Item.a.inj (chk _ (.tail _ (.head _)))
    have e3 : o = itO wd (.str (itX o) (itT o)) j := Item.o.inj (chk _ (.tail _ (.tail _ (.head _))))
    have e4 : (itX o).cps[j]? = some c1 := by rw [Item.p.inj (chk _ (.tail _ (.tail _ (.tail _ (.head _)))))]; trivial
    subst e2
    have ho := I.cell _ (getC_mem hg)
    have hpost : ∃ ns po, ns.length = 0 ∧ nextF wd ci j c1 (.builtin id ⟨[.ref a], []⟩) bl cs tk ns = some po ∧ (.ok (.ret (.str ⟨⟨[c1]⟩⟩ s.toks)) : Result) = po.res ∧ Inv kt s₀ T { s with heap := s.heap.update a (Obj.mapFields (·.setIfInBounds 1 (rawInt (((j : Nat) : Int) + 1)))), toks := s.toks + 1 } (applyPost cs po) po.tk gs := by
      refine ⟨[], _, rfl, by unfold nextF; rw [hg], by rw [I.tk], ?_⟩
      show Inv kt s₀ T _ (setC cs ci (itO wd (.str (itX o) (itT o)) (j + 1)) ++ []) (tk + 1) gs
      rw [List.append_nil, ← I.tk]
      refine (I.set (f := Obj.mapFields (·.setIfInBounds 1 (rawInt (((j : Nat) : Int) + 1)))) hg (by rw [e3]; rfl)).toks (s.toks + 1) |> fun z => ?_
      rw [e3] at z
      exact z
    cases wd
    · have e1' : id = "str_ascii_iterator.__next__" := PySem.code_inj _ _ e1
      subst e1'
      refine wpCode_any (by decide +kernel) F.entry_str_ascii_iterator_next fun A hA => ?_
      show wpAny _ _ (field (.ref a) 0 >>= _) _ _ s
      refine wpAny_bind (wpAny_field ho (by rw [e3]; rfl) (x := .str (itX o) (itT o)) rfl ?_)
      show wpAny _ _ (field (.ref a) 1 >>= _) _ _ s
      refine wpAny_bind (wpAny_field ho (by rw [e3]; rfl) (x := .int (j : Nat) 0) rfl ?_)
      simp only [Int.toNat_natCast, e4]
      exact wpAny_bind (wpAny_setField ho (by rw [e3]; rfl) (by simp) (wpAny_bind (wpAny_mkStr (wpAny_pure ⟨_, rfl, hpost⟩) (by show 1 ≤ sizeLine; decide))))
    · have e1' : id = "str_iterator.__next__" := PySem.code_inj _ _ e1
      subst e1'
      refine wpCode_any (by decide +kernel) F.entry_str_iterator_next fun A hA => ?_
      show wpAny _ _ (field (.ref a) 0 >>= _) _ _ s
      refine wpAny_bind (wpAny_field ho (by rw [e3]; rfl) (x := .str (itX o) (itT o)) rfl ?_)
      show wpAny _ _ (field (.ref a) 1 >>= _) _ _ s
      refine wpAny_bind (wpAny_field ho (by rw [e3]; rfl) (x := .int (j : Nat) 0) rfl ?_)
      simp only [Int.toNat_natCast, e4]
      exact wpAny_bind (wpAny_setField ho (by rw [e3]; rfl) (by simp) (wpAny_bind (wpAny_mkStr (wpAny_pure ⟨_, rfl, hpost⟩) (by show 1 ≤ sizeLine; decide))))
  · cases hF

/-- the end of the text -/
noncomputable def nextEF (wd : Bool) (ci : Nat) (j : Nat) : ConF := fun c _ cs tk ns => match c, getC cs ci with
  | .builtin id ⟨[.ref a], []⟩, some (y, o) => some ⟨.error (.ref (getN ns 1)), [(ci, itO wd .none j)], [(getN ns 0, tupO []), (getN ns 1, stopO (getN ns 0))], tk,
      [(.a (PySem.code id), .a (nextId wd)), (.a a, .a y), (.o o, .o (itO wd (.str (itX o) (itT o)) j)), (.p ((itX o).cps[j]? = none), .p True)]⟩
  | _, _ => none
theorem nextEF_sound (pg : Program) (w : World) (kt : KT) (wd : Bool) (ci j : Nat) : ConSound (model pg w) kt 2 (nextEF wd ci j) := by
  intro c bl p cs tk gs s₀ T s I H
  obtain ⟨po, hF, chk⟩ := H [0, 0] rfl
  unfold nextEF at hF
  split at hF
  · rename_i id a y o hg
    cases hF
    have e1 : PySem.code id = nextId wd := Item.a.inj (chk _ (.head _))
    have e2 : a = y := Item.a.inj (chk _ (.tail _ (.head _)))
    have e3 : o = itO wd (.str (itX o) (itT o)) j := Item.o.inj (chk _ (.tail _ (.tail _ (.head _))))
    have e4 : (itX o).cps[j]? = none := by rw [Item.p.inj (chk _ (.tail _ (.tail _ (.tail _ (.head _)))))]; trivial
    subst e2
    have ho := I.cell _ (getC_mem hg)
    have hset := I.set (f := Obj.mapFields (·.setIfInBounds 0 .none)) hg (by rw [e3]; rfl)
    have hpost : ∃ ns po, ns.length = 2 ∧ nextEF wd ci j (.builtin id ⟨[.ref a], []⟩) bl cs tk ns = some po ∧ (.error (.ref ((s.heap.update a (Obj.mapFields (·.setIfInBounds 0 .none))).push (tupO [])).objs.size) : Result) = po.res ∧
        Inv kt s₀ T { s with heap := ((s.heap.update a (Obj.mapFields (·.setIfInBounds 0 .none))).push (tupO [])).push (stopO (s.heap.update a (Obj.mapFields (·.setIfInBounds 0 .none))).objs.size) } (applyPost cs po) po.tk gs := by
      refine ⟨[(s.heap.update a (Obj.mapFields (·.setIfInBounds 0 .none))).objs.size, ((s.heap.update a (Obj.mapFields (·.setIfInBounds 0 .none))).push (tupO [])).objs.size], _, rfl, by unfold nextEF; rw [hg], rfl, ?_⟩
      have z := (hset.alloc (o := tupO []) rfl).alloc (o := stopO (s.heap.update a (Obj.mapFields (·.setIfInBounds 0 .none))).objs.size) rfl
      rw [List.append_assoc] at z
      rw [e3] at z
      exact z
    cases wd
    · have e1' : id = "str_ascii_iterator.__next__" := PySem.code_inj _ _ e1
      subst e1'
      refine wpCode_any (by decide +kernel) F.entry_str_ascii_iterator_next fun A hA => ?_
      show wpAny _ _ (field (.ref a) 0 >>= _) _ _ s
      refine wpAny_bind (wpAny_field ho (by rw [e3]; rfl) (x := .str (itX o) (itT o)) rfl ?_)
      show wpAny _ _ (field (.ref a) 1 >>= _) _ _ s
      refine wpAny_bind (wpAny_field ho (by rw [e3]; rfl) (x := .int (j : Nat) 0) rfl ?_)
      simp only [Int.toNat_natCast, e4]
      refine wpAny_bind (wpAny_rule (wpAny_bind (wpAny_setField ho (by rw [e3]; rfl) (by simp) (wpAny_bind (wpAny_letGo ?_)))))
      show wpAny _ _ (newExc (.type "StopIteration") [] >>= _) _ _ _
      refine wpAny_bind ?_
      simp only [newExc, newTuple]
      refine wpAny_bind (wpAny_newObj_type ?_ (by size_fits))
      refine wpAny_bind (m := firstArgMember _ _) (wpAny_of_eq (a := Value.none) (by first | rfl | (simp only [firstArgMember]; rfl)) ?_)
      refine wpAny_newObj_type ?_ (by size_fits)
      simp only [raiseNew]
      refine wpAny_bind (wpAny_handled ?_)
      rw [show A.handled = none from hA]
      exact wpAny_bind (wpAny_pure (wpAny_throw hpost))
    · have e1' : id = "str_iterator.__next__" := PySem.code_inj _ _ e1
      subst e1'
      refine wpCode_any (by decide +kernel) F.entry_str_iterator_next fun A hA => ?_
      show wpAny _ _ (field (.ref a) 0 >>= _) _ _ s
      refine wpAny_bind (wpAny_field ho (by rw [e3]; rfl) (x := .str (itX o) (itT o)) rfl ?_)
      show wpAny _ _ (field (.ref a) 1 >>= _) _ _ s
      refine wpAny_bind (wpAny_field ho (by rw [e3]; rfl) (x := .int (j : Nat) 0) rfl ?_)
      simp only [Int.toNat_natCast, e4]
      refine wpAny_bind (wpAny_rule (wpAny_bind (wpAny_setField ho (by rw [e3]; rfl) (by simp) (wpAny_bind (wpAny_letGo ?_)))))
      show wpAny _ _ (newExc (.type "StopIteration") [] >>= _) _ _ _
      refine wpAny_bind ?_
      simp only [newExc, newTuple]
      refine wpAny_bind (wpAny_newObj_type ?_ (by size_fits))
      refine wpAny_bind (m := firstArgMember _ _) (wpAny_of_eq (a := Value.none) (by first | rfl | (simp only [firstArgMember]; rfl)) ?_)
      refine wpAny_newObj_type ?_ (by size_fits)
      simp only [raiseNew]
      refine wpAny_bind (wpAny_handled ?_)
      rw [show A.handled = none from hA]
      exact wpAny_bind (wpAny_pure (wpAny_throw hpost))
  · cases hF

/-! the set of the unseen signs -/
noncomputable def unseenN : List Nat := [65024, 65025, 65026, 65027, 65028, 65029, 6150, 65030, 65031, 65032, 65033, 6155, 6156, 6157, 8203, 8204, 8205, 65034, 65035, 65036, 65037, 65038, 65039, 173, 847, 8288, 65279]
noncomputable def setInF (v : Bool) : ConF := fun c _ cs tk _ => match c with
  | .builtin id ⟨[.ref a, .int i _], []⟩ => some ⟨.ok (.ret (.bool v)), [], [], tk + 1, [(.a (PySem.code id), .a (PySem.code "set.__contains__")), (.a a, .a 29), (.p (unseenN.contains i.toNat = v ∧ 0 ≤ i ∧ i < 70000), .p True)]⟩
  | _ => none
theorem hash_small (i : Int) (h0 : 0 ≤ i) (h : i < 70000) : hashInt i = i := by
  have e : rawHash i = i := by
    unfold rawHash
    have h1 : (i.natAbs : Int) % ((2 ^ 61 - 1 : Nat) : Int) = i := by rw [Int.natAbs_of_nonneg h0]; exact Int.emod_eq_of_lt h0 (by omega)
    have h2 : ¬ i < 0 := by omega
    simp only [h1, if_neg h2]
    have h3 : (i == -1) = false := by rw [beq_eq_false_iff_ne]; omega
    rw [h3]
    simp only [Bool.false_eq_true, if_false]
  unfold hashInt
  rw [e]
  have h3 : (i == -1) = false := by rw [beq_eq_false_iff_ne]; omega
  rw [h3]; rfl
theorem so29_of (w : World) (b b2 : Bool) {s : Shared} (h : s.heap.get? 29 = some (so29 (fP w b b2))) : s.heap.SetOf (intKind pw (fixW w b b2)) 29 (fun i => (unseenN.map Int.ofNat).contains i) 27 := by
  refine ⟨_, _, _, _, h, ⟨rfl, rfl, rfl⟩, rfl, ?_, ?_, by show (27 : Nat) < 4096; decide, rfl, rfl⟩
  · intro e he
    have : 0 ≤ e.1 ∧ e.1 < 70000 ∧ ∃ t, e.2 = .int e.1 t := by
      simp only [List.mem_cons, List.not_mem_nil, or_false] at he
      rcases he with rfl | rfl | rfl | rfl | rfl | rfl | rfl | rfl | rfl | rfl | rfl | rfl | rfl | rfl | rfl | rfl | rfl | rfl | rfl | rfl | rfl | rfl | rfl | rfl | rfl | rfl | rfl <;> exact ⟨by decide, by decide, _, rfl⟩
    obtain ⟨h1, h2, t, h3⟩ := this
    refine ⟨⟨e.1, by rw [h3]; exact intKind_is _ _ _ _, (hash_small e.1 h1 h2).symm⟩, by rw [h3]; rfl⟩
  · intro k
    have key : ∀ (l : List (Int × Value)), (∀ e ∈ l, ∃ t, e.2 = .int e.1 t) → ((∃ e ∈ l, Value.isInt k e.2 = true) ↔ k ∈ l.map (·.1)) := by
      intro l hl
      constructor
      · rintro ⟨e, he, h⟩
        obtain ⟨t, ht⟩ := hl e he
        rw [ht] at h
        have : e.1 = k := by simpa [Value.isInt] using h
        rw [← this]; exact List.mem_map_of_mem he
      · intro h
        obtain ⟨e, he, rfl⟩ := List.mem_map.mp h
        obtain ⟨t, ht⟩ := hl e he
        exact ⟨e, he, by rw [ht]; simp [Value.isInt]⟩
    refine Iff.trans ?_ (key _ ?_).symm
    · exact List.contains_iff_mem
    · intro e he
      simp only [List.mem_cons, List.not_mem_nil, or_false] at he
      rcases he with rfl | rfl | rfl | rfl | rfl | rfl | rfl | rfl | rfl | rfl | rfl | rfl | rfl | rfl | rfl | rfl | rfl | rfl | rfl | rfl | rfl | rfl | rfl | rfl | rfl | rfl | rfl <;> exact ⟨_, rfl⟩
theorem contains_ofNat (i : Int) (h : 0 ≤ i) : ∀ l : List Nat, (l.map Int.ofNat).contains i = l.contains i.toNat
  | [] => rfl
  | a :: l => by
    rw [List.map_cons, List.contains_cons, List.contains_cons, contains_ofNat i h l]
    congr 1
    rw [Bool.eq_iff_iff, beq_iff_eq, beq_iff_eq]
    show i = (a : Int) ↔ _
    omega
theorem setIn_sound (w : World) (b b2 : Bool) (v : Bool) : ConSound (MM w b b2) (KT' w b b2) 0 (setInF v) := by
  intro c bl p cs tk gs s₀ T s I H
  obtain ⟨po, hF, chk⟩ := H [] rfl
  unfold setInF at hF
  split at hF
  · rename_i id a i t
    cases hF
    have e1 : id = "set.__contains__" := PySem.code_inj _ _ (Item.a.inj (chk _ (.head _)))
    have e2 : a = 29 := Item.a.inj (chk _ (.tail _ (.head _)))
    have e3 : unseenN.contains i.toNat = v ∧ 0 ≤ i ∧ i < 70000 := by rw [Item.p.inj (chk _ (.tail _ (.tail _ (.head _))))]; trivial
    subst e1 e2
    have hS := so29_of w b b2 (I.st 29 _ rfl)
    refine wpCode_any (by decide +kernel) entry_set_contains fun A hA => ?_
    unfold Builtin.«frozenset.__contains__» Builtin.Frozenset.oneOther
    simp only [List.isEmpty_nil, bind_assoc]
    unfold Builtin.Frozenset.addrOf Builtin.Frozenset.withSetAsKey setContains
    refine wpAny_bind (wpAny_pure ?_)
    try dsimp only
    refine wpAny_bind (wpAny_pure ?_)
    try dsimp only
    refine wpAny_bind (wpAny_tryCatch ?_)
    refine wpAny_holding ?_
    refine wpAny_bind ((intKind pw (fixW w b b2)).pyHash (k := i) (intKind_is _ _ _ _) ?_)
    refine wpAny_bind (wpAny_setFind_of (k := i) (s := { s with toks := s.toks + 1 }) (intKind_is _ _ _ _) rfl hS fun r hr => ?_)
    refine wpAny_pure ?_
    show wpAny _ _ (ret (Value.bool r.isSome)) _ _ _
    rw [hr, contains_ofNat i e3.2.1, e3.1]
    refine wpAny_pure ⟨_, rfl, [], _, rfl, rfl, rfl, ?_⟩
    show Inv _ s₀ T _ (cs ++ []) (tk + 1) gs
    rw [List.append_nil, ← I.tk]
    exact I.toks _
  · cases hF

/-! list.append, str.join -/
noncomputable def appF (ci : Nat) : ConF := fun c _ cs tk _ => match c, getC cs ci with
  | .builtin id ⟨[.ref a, v], []⟩, some (y, o) => some ⟨.ok (.ret .none), [(ci, lstO (seqV o ++ [v]) (seqN o + 1))], [], tk, [(.a (PySem.code id), .a (PySem.code "list.append")), (.a a, .a y), (.o o, .o (lstO (seqV o) (seqN o))), (.p ((seqV o).length ≤ sizeLine), .p True)]⟩
  | _, _ => none
theorem mapSeq_push (v : Value) (vs : List Value) (n : Nat) : Obj.mapSeq (fun xs => xs.push v) (lstO vs n) = lstO (vs ++ [v]) (n + 1) := by
  have e : (⟨vs⟩ : Array Value).push v = ⟨vs ++ [v]⟩ := by
    apply Array.ext'
    simp
  unfold lstO Obj.mapSeq
  simp only [e]
  have : ((⟨vs ++ [v]⟩ : Array Value).size == (⟨vs⟩ : Array Value).size) = false := by simp
  rw [this]; rfl
theorem appF_sound (pg : Program) (w : World) (kt : KT) (ci : Nat) : ConSound (model pg w) kt 0 (appF ci) := by
  intro c bl p cs tk gs s₀ T s I H
  obtain ⟨po, hF, chk⟩ := H [] rfl
  unfold appF at hF
  split at hF
  · rename_i id a v y o hg
    cases hF
    have e1 : id = "list.append" := PySem.code_inj _ _ (Item.a.inj (chk _ (.head _)))
    have e2 : a = y := Item.a.inj (chk _ (.tail _ (.head _)))
    have e3 : o = lstO (seqV o) (seqN o) := Item.o.inj (chk _ (.tail _ (.tail _ (.head _))))
    have e4 : (seqV o).length ≤ sizeLine := by rw [Item.p.inj (chk _ (.tail _ (.tail _ (.tail _ (.head _)))))]; trivial
    subst e1 e2
    have ho := I.cell _ (getC_mem hg)
    refine wpCode_meets (by decide +kernel) F.entry_list_append (PySem.AutoListH.list_append_list_val_0 a ⟨seqV o⟩ (seqN o) v e4) ⟨by rw [ho]; exact congrArg some e3, [], _, rfl, by unfold appF; rw [hg], rfl, ?_⟩
    show Inv kt s₀ T _ (setC cs ci (lstO (seqV o ++ [v]) (seqN o + 1)) ++ []) tk gs
    rw [List.append_nil, ← mapSeq_push, ← e3]
    exact I.set hg (by rw [e3, mapSeq_push]; rfl)
  · cases hF
/-- ''.join of a list of texts -/
noncomputable def JoinP (X : Str) (o : Obj) : Prop := ∃ (l : List (Str × Tok)) (n : Nat), o = lstO (strValues l) n ∧ Builtin.Str.tooLong ((l.map (·.1)).toArray.foldl (· + ·.length + (⟨⟨[]⟩⟩ : Str).length) 0) = false ∧ Builtin.Str.glued ⟨⟨[]⟩⟩ (l.map (·.1)) = X ∧ X.length ≤ sizeLine
noncomputable def joinF (ci : Nat) (X : Str) : ConF := fun c _ cs tk ns => match c, getC cs ci with
  | .builtin id ⟨[.str x _, .ref a], []⟩, some (y, o) => some ⟨.ok (.ret (.str X (getN ns 0))), [], [], getN ns 1, [(.a (PySem.code id), .a (PySem.code "str.join")), (.a a, .a y), (.s x, .s ⟨⟨[]⟩⟩), (.p (JoinP X o), .p True)]⟩
  | _, _ => none
theorem joinF_sound (pg : Program) (w : World) (kt : KT) (ci : Nat) (X : Str) : ConSound (model pg w) kt 2 (joinF ci X) := by
  intro c bl p cs tk gs s₀ T s I H
  obtain ⟨po, hF, chk⟩ := H [0, 0] rfl
  unfold joinF at hF
  split at hF
  · rename_i id x t a y o hg
    cases hF
    have e1 : id = "str.join" := PySem.code_inj _ _ (Item.a.inj (chk _ (.head _)))
    have e2 : a = y := Item.a.inj (chk _ (.tail _ (.head _)))
    have e3 : x = ⟨⟨[]⟩⟩ := Item.s.inj (chk _ (.tail _ (.tail _ (.head _))))
    have e4 : JoinP X o := by rw [Item.p.inj (chk _ (.tail _ (.tail _ (.tail _ (.head _)))))]; trivial
    subst e1 e2 e3
    obtain ⟨l, n, h1, h2, h3, h4⟩ := e4
    have ho := I.cell _ (getC_mem hg)
    have fin : ∀ (v : Value) (t' : Nat) (s' : Shared), s' = { s with toks := t' } → (∃ t, v = .str X t) → ∃ (ns : List Nat) (po : Post), ns.length = 2 ∧ joinF ci X (.builtin "str.join" ⟨[.str ⟨⟨[]⟩⟩ t, .ref a], []⟩) bl cs tk ns = some po ∧ (.ok (.ret v) : Result) = po.res ∧ Inv kt s₀ T s' (applyPost cs po) po.tk gs := by
      rintro v t' s' rfl ⟨t, rfl⟩
      refine ⟨[t, t'], _, rfl, by unfold joinF; rw [hg], rfl, ?_⟩
      show Inv kt s₀ T _ (cs ++ []) t' gs
      rw [List.append_nil]
      exact I.toks t'
    refine wpCode_meets (by decide +kernel) F.entry_str_join (meets_str_join_list ⟨⟨[]⟩⟩ t a l h2) ⟨⟨o, ho, by rw [h1]; rfl, n, by rw [h1]; rfl⟩, ?_⟩
    unfold joinMade
    split
    · rename_i q
      refine fin _ s.toks s rfl ⟨q.2, ?_⟩
      rw [← h3]; rfl
    · exact ⟨by rw [h3]; exact h4, fin _ _ _ rfl ⟨_, by rw [h3]⟩⟩
  · cases hF
end Mine

/-! part PR -/
namespace Mine
open PySem PySem.W PySem.W.X PySem.Spec PySem.Calls PyProof.Rows

/-! selectors -/
noncomputable def retE : Stmt → Expr
  | .Return (some e) _ => e
  | _ => default
noncomputable def nthX : List Expr → Nat → Expr
  | [], _ => default
  | a :: _, 0 => a
  | _ :: l, i + 1 => nthX l i
noncomputable def callA : Expr → Nat → Expr
  | .Call _ as _ _, i => nthX as i
  | _, _ => default
noncomputable def lcScope : Expr → Scope
  | .ListComp _ _ sc _ => sc
  | _ => default
/-- the caller's part of the stack: law's frame, with or without a comprehension of its own -/
structure Cq where
  (ea : Expr) (eb : List Comprehension) (ec : Scope) (ed : Pos) (dp : Nat) (it acc : Value) (env : Env) (p : Pos)
noncomputable def blP (sh : Bool) (k : Stk) (q : Cq) : List (Code × Pos) := match sh with
  | true => (.compLoop (.ListComp q.ea q.eb q.ec q.ed) q.dp q.it q.acc q.env, q.p) :: blL k
  | false => blL k
noncomputable def cq0 : Cq := ⟨default, [], default, default, 0, .none, .none, default, default⟩
noncomputable def cqOf : List (Code × Pos) → Cq
  | (.compLoop (.ListComp ea eb ec ed) dp it acc env, p) :: _ => ⟨ea, eb, ec, ed, dp, it, acc, env, p⟩
  | _ => cq0
noncomputable def stkP : List (Code × Pos) → Stk
  | [_, (.func b4 e4, p4), (_, p5)] => ⟨[], default, default, default, .none, [], [], default, default, [], default, default, b4, e4, p4, p5⟩
  | [(.func b4 e4, p4), (_, p5)] => ⟨[], default, default, default, .none, [], [], default, default, [], default, default, b4, e4, p4, p5⟩
  | _ => stk0
/-- one frame over it -/
structure Fq where
  (b : List Stmt) (e : Env) (p : Pos)
noncomputable def blF (f : Fq) (sh : Bool) (k : Stk) (q : Cq) : List (Code × Pos) := (.func f.b f.e, f.p) :: blP sh k q

/-! _law_prepared -/
noncomputable def ePr : Expr := callA (retE (nthS (fnTop 13).2.1 0)) 0
noncomputable def envPr (ns fr : Nat) : Env := { scope := lcScope ePr, locals := ns, globals := 3, cells := [], qual := ⟨⟨[95, 108, 97, 119, 95, 112, 114, 101, 112, 97, 114, 101, 100, 46, 60, 108, 111, 99, 97, 108, 115, 62, 46]⟩⟩, func := none, code := .ref 120, frame := some fr, builtins := 0 }
noncomputable def cPr (it acc ns fr : Nat) : Code := .compLoop ePr 0 (.ref it) (.ref acc) (envPr ns fr)
noncomputable def nsPr (P : Params) : Option (Nat × Value) → Obj
  | none => ⟨.type "dict", none, .dict ⟨[]⟩ 0, ⟨[]⟩⟩
  | some (kt, v) => ⟨.type "dict", none, .dict ⟨[ent P ⟨⟨[115, 105, 103, 110]⟩⟩ kt v]⟩ 1, ⟨[]⟩⟩
noncomputable def csPr (P : Params) (it acc ns : Nat) (x : Str) (t j : Nat) (vs : List Value) (n : Nat) (z : Option (Nat × Value)) : Cells := [(it, itO true (.str x t) j), (acc, lstO vs n), (ns, nsPr P z)]
noncomputable def logPrO (NX SC AP : ConF) : List Ev := [.dy 0, .go, .dy 0, .con 0 NX, .dy 2, .dy 2, .st, .dy 2, .st, .go, .st, .st, .dy 3, .dy 3, .st, .go, .st, .st, .dy 3, .go, .go, .st, .st, .st, .go, .st, .con 0 SC, .dy 2, .go, .dy 1, .con 0 AP, .stop]
noncomputable def logPrI (NX SC : ConF) : List Ev := [.dy 0, .go, .dy 0, .con 0 NX, .dy 2, .dy 2, .st, .dy 2, .st, .go, .st, .st, .dy 3, .dy 3, .st, .go, .st, .st, .dy 3, .go, .go, .st, .st, .st, .go, .st, .con 0 SC, .stop]
noncomputable def logPrE (NX : ConF) : List Ev := [.dy 0, .go, .dy 0, .con 2 NX, .dy 4]
section
variable (w : World) (b b2 : Bool) (sh : Bool) (k : Stk) (q : Cq) (f : Fq) (p : Pos) (it acc ns fr : Nat) (x : Str) (t j c tk : Nat) (vs : List Value) (n : Nat)
theorem segPrO1 (sup : List Nat) (h : sup.length = 1) : okQ [true, true, true] (runF w b b2 (logPrO (nextF true 0 j c) (setInF false) (appF 1)) (cPr it acc ns fr) p (blF f sh k q) (csPr (fP w b b2) it acc ns x t j vs n none) tk sup)
    (.again (cPr it acc ns fr)) (csPr (fP w b b2) it acc ns x t (j + 1) (vs ++ [chv c tk]) (n + 1) (some ((tk + 1), chv c tk))) [Item.p (vs.length ≤ sizeLine) = .p True, Item.p (unseenN.contains c = false ∧ (0 : Int) ≤ (c : Int) ∧ (c : Int) < 70000) = .p True, Item.p (x.cps[j]? = some c) = .p True] := by
  obtain ⟨fS, rfl⟩ := sup_ex h
  cases b <;> cases sh <;> (unfold okQ; kernel_rfl)
theorem segPrI1 (sup : List Nat) (h : sup.length = 1) : okQ [true, true, true] (runF w b b2 (logPrI (nextF true 0 j c) (setInF true)) (cPr it acc ns fr) p (blF f sh k q) (csPr (fP w b b2) it acc ns x t j vs n none) tk sup)
    (.again (cPr it acc ns fr)) (csPr (fP w b b2) it acc ns x t (j + 1) vs n (some ((tk + 1), chv c tk))) [Item.p (unseenN.contains c = true ∧ (0 : Int) ≤ (c : Int) ∧ (c : Int) < 70000) = .p True, Item.p (x.cps[j]? = some c) = .p True] := by
  obtain ⟨fS, rfl⟩ := sup_ex h
  cases b <;> cases sh <;> (unfold okQ; kernel_rfl)
theorem segPrO2 (kt : Nat) (v : Value) (sup : List Nat) (h : sup.length = 1) : okQ [true, true, true] (runF w b b2 (logPrO (nextF true 0 j c) (setInF false) (appF 1)) (cPr it acc ns fr) p (blF f sh k q) (csPr (fP w b b2) it acc ns x t j vs n (some (kt, v))) tk sup)
    (.again (cPr it acc ns fr)) (csPr (fP w b b2) it acc ns x t (j + 1) (vs ++ [chv c tk]) (n + 1) (some (kt, chv c tk))) [Item.p (vs.length ≤ sizeLine) = .p True, Item.p (unseenN.contains c = false ∧ (0 : Int) ≤ (c : Int) ∧ (c : Int) < 70000) = .p True, Item.p (x.cps[j]? = some c) = .p True] := by
  obtain ⟨fS, rfl⟩ := sup_ex h
  cases b <;> cases sh <;> (unfold okQ; kernel_rfl)
theorem segPrI2 (kt : Nat) (v : Value) (sup : List Nat) (h : sup.length = 1) : okQ [true, true, true] (runF w b b2 (logPrI (nextF true 0 j c) (setInF true)) (cPr it acc ns fr) p (blF f sh k q) (csPr (fP w b b2) it acc ns x t j vs n (some (kt, v))) tk sup)
    (.again (cPr it acc ns fr)) (csPr (fP w b b2) it acc ns x t (j + 1) vs n (some (kt, chv c tk))) [Item.p (unseenN.contains c = true ∧ (0 : Int) ≤ (c : Int) ∧ (c : Int) < 70000) = .p True, Item.p (x.cps[j]? = some c) = .p True] := by
  obtain ⟨fS, rfl⟩ := sup_ex h
  cases b <;> cases sh <;> (unfold okQ; kernel_rfl)
theorem segPrE (kt : Nat) (v : Value) (sup : List Nat) (h : sup.length = 2) : okQ [true, true, true] (runF w b b2 (logPrE (nextEF true 0 j)) (cPr it acc ns fr) p (blF f sh k q) (csPr (fP w b b2) it acc ns x t j vs n (some (kt, v))) tk sup)
    (.fin (.ok .next)) [(it, itO true .none j), (acc, lstO vs n), (ns, nsPr (fP w b b2) (some (kt, v)))] [Item.p (x.cps[j]? = none) = .p True] := by
  obtain ⟨fS, rfl⟩ := sup_ex h
  cases b <;> cases sh <;> (unfold okQ; kernel_rfl)
end
noncomputable def keepC (l : List Nat) : List Nat := l.filter fun c => !unseenN.contains c
theorem itX_at (wd : Bool) (x : Str) (t j : Nat) : itX (itO wd (.str x t) j) = x := rfl
theorem getC_pre {x : Str} {pre l : List Nat} {c : Nat} (h : x.cps.toList = pre ++ c :: l) : x.cps[pre.length]? = some c := by
  rw [← Array.getElem?_toList, h]; simp
theorem getC_end {x : Str} {pre : List Nat} (h : x.cps.toList = pre) : x.cps[pre.length]? = none := by
  rw [← Array.getElem?_toList, h]; simp
theorem all_p2 {A B : Prop} (a : A) (b : B) : ∀ P ∈ [Item.p A = .p True, Item.p B = .p True], P := fun P hP => by
  rcases List.mem_cons.mp hP with h | hP
  · rw [h, eq_true a]
  rw [List.mem_singleton.mp hP, eq_true b]
theorem all_p3 {A B C : Prop} (a : A) (b : B) (c : C) : ∀ P ∈ [Item.p A = .p True, Item.p B = .p True, Item.p C = .p True], P := fun P hP => by
  rcases List.mem_cons.mp hP with h | hP
  · rw [h, eq_true a]
  exact all_p2 b c P hP
section
variable {w : World} {b b2 : Bool} {s₀ : Shared} {T : List Addr} {sh : Bool} {k : Stk} {q : Cq} {f : Fq} {it acc ns fr : Nat} {x : Str} {t : Nat}
theorem loopPr : ∀ (l pre : List Nat) (vs : List Value) (n kt vc vt tk : Nat) (s : Shared) (p : Pos), x.cps.toList = pre ++ l → Inv (KT' w b b2) s₀ T s (csPr (fP w b b2) it acc ns x t pre.length vs n (some (kt, chv vc vt))) tk → (∀ c ∈ l, c < 70000) → vs.length + l.length ≤ 9000 →
    wpCode (MM w b b2) (cx (cPr it acc ns fr) (blF f sh k q)) (fun r s' => ∃ zs n' kt' vc' vt' tk' j', r = .ok .next ∧ zs.map (·.1) = keepC l ∧ Inv (KT' w b b2) s₀ T s' [(it, itO true .none j'), (acc, lstO (vs ++ vals zs) n'), (ns, nsPr (fP w b b2) (some (kt', chv vc' vt')))] tk') p s
  | [], pre, vs, n, kt, vc, vt, tk, s, p, hx, I, hc, hl => by
    rw [List.append_nil] at hx
    refine segQ (MM_den w b b2) rfl rfl _ (fun sup hs => segPrE w b b2 sh k q f p it acc ns fr x t pre.length tk vs n kt (chv vc vt) sup hs) (fun sup hs => one_p (getC_end hx)) ⟨nextEF_sound _ _ _ _ _ _, trivial⟩ I fun sup s' tk' hs I' => ?_
    exact ⟨[], n, kt, vc, vt, tk', _, rfl, rfl, by simpa [vals] using I'⟩
  | c :: l, pre, vs, n, kt, vc, vt, tk, s, p, hx, I, hc, hl => by
    have hg := getC_pre hx
    have hx' : x.cps.toList = (pre ++ [c]) ++ l := by rw [hx]; simp
    have hl' : (pre ++ [c]).length = pre.length + 1 := by simp
    have hcc : c < 70000 := hc c (.head _)
    simp only [List.length_cons] at hl
    cases e : unseenN.contains c
    · refine segQ (MM_den w b b2) rfl rfl _ (fun sup hs => segPrO2 w b b2 sh k q f p it acc ns fr x t pre.length c tk vs n kt (chv vc vt) sup hs) (fun sup hs => all_p3 (by rw [sizeLine_is]; omega) ⟨e, by omega, by omega⟩ hg) ⟨nextF_sound _ _ _ _ _ _ _, setIn_sound _ _ _ _, appF_sound _ _ _ _, trivial⟩ I fun sup s' tk' hs I' => ?_
      intro p'
      refine wpCode_mono ?_ (loopPr l (pre ++ [c]) (vs ++ [chv c tk]) (n + 1) kt c tk tk' s' p' hx' (by rw [hl']; exact I') (fun d hd => hc d (.tail _ hd)) (by simp; omega))
      rintro r s'' ⟨zs, n', kt', vc', vt', tk'', j', rfl, h1, J⟩
      refine ⟨(c, tk) :: zs, n', kt', vc', vt', tk'', j', rfl, ?_, ?_⟩
      · show c :: zs.map _ = _
        rw [h1]
        unfold keepC
        rw [List.filter_cons]
        simp only [e, Bool.not_false, if_true]
      · have e2 : vs ++ vals ((c, tk) :: zs) = (vs ++ [chv c tk]) ++ vals zs := by simp [vals]
        rw [e2]; exact J
    · refine segQ (MM_den w b b2) rfl rfl _ (fun sup hs => segPrI2 w b b2 sh k q f p it acc ns fr x t pre.length c tk vs n kt (chv vc vt) sup hs) (fun sup hs => all_p2 ⟨e, by omega, by omega⟩ hg) ⟨nextF_sound _ _ _ _ _ _ _, setIn_sound _ _ _ _, trivial⟩ I fun sup s' tk' hs I' => ?_
      intro p'
      refine wpCode_mono ?_ (loopPr l (pre ++ [c]) vs n kt c tk tk' s' p' hx' (by rw [hl']; exact I') (fun d hd => hc d (.tail _ hd)) (by omega))
      rintro r s'' ⟨zs, n', kt', vc', vt', tk'', j', rfl, h1, J⟩
      refine ⟨zs, n', kt', vc', vt', tk'', j', rfl, ?_, J⟩
      rw [h1]
      unfold keepC
      rw [List.filter_cons]
      simp only [e, Bool.not_true, Bool.false_eq_true, if_false]
theorem loopPr1 (c : Nat) (l : List Nat) (tk : Nat) (s : Shared) (p : Pos) (hx : x.cps.toList = c :: l) (I : Inv (KT' w b b2) s₀ T s (csPr (fP w b b2) it acc ns x t 0 [] 0 none) tk) (hc : ∀ d ∈ c :: l, d < 70000) (hl : l.length ≤ 8000) :
    wpCode (MM w b b2) (cx (cPr it acc ns fr) (blF f sh k q)) (fun r s' => ∃ zs n' kt' vc' vt' tk' j', r = .ok .next ∧ zs.map (·.1) = keepC (c :: l) ∧ Inv (KT' w b b2) s₀ T s' [(it, itO true .none j'), (acc, lstO (vals zs) n'), (ns, nsPr (fP w b b2) (some (kt', chv vc' vt')))] tk') p s := by
  have hg : x.cps[0]? = some c := getC_pre (pre := []) hx
  have hx' : x.cps.toList = [c] ++ l := hx
  have hcc : c < 70000 := hc c (.head _)
  cases e : unseenN.contains c
  · refine segQ (MM_den w b b2) rfl rfl _ (fun sup hs => segPrO1 w b b2 sh k q f p it acc ns fr x t 0 c tk [] 0 sup hs) (fun sup hs => all_p3 (by rw [sizeLine_is]; simp) ⟨e, by omega, by omega⟩ hg) ⟨nextF_sound _ _ _ _ _ _ _, setIn_sound _ _ _ _, appF_sound _ _ _ _, trivial⟩ I fun sup s' tk' hs I' => ?_
    intro p'
    refine wpCode_mono ?_ (loopPr l [c] [chv c tk] 1 (tk + 1) c tk tk' s' p' hx' I' (fun d hd => hc d (.tail _ hd)) (by simp; omega))
    rintro r s'' ⟨zs, n', kt', vc', vt', tk'', j', rfl, h1, J⟩
    refine ⟨(c, tk) :: zs, n', kt', vc', vt', tk'', j', rfl, ?_, J⟩
    show c :: zs.map _ = _
    rw [h1]
    unfold keepC
    rw [List.filter_cons]
    simp only [e, Bool.not_false, if_true]
  · refine segQ (MM_den w b b2) rfl rfl _ (fun sup hs => segPrI1 w b b2 sh k q f p it acc ns fr x t 0 c tk [] 0 sup hs) (fun sup hs => all_p2 ⟨e, by omega, by omega⟩ hg) ⟨nextF_sound _ _ _ _ _ _ _, setIn_sound _ _ _ _, trivial⟩ I fun sup s' tk' hs I' => ?_
    intro p'
    refine wpCode_mono ?_ (loopPr l [c] [] 0 (tk + 1) c tk tk' s' p' hx' I' (fun d hd => hc d (.tail _ hd)) (by simp; omega))
    rintro r s'' ⟨zs, n', kt', vc', vt', tk'', j', rfl, h1, J⟩
    refine ⟨zs, n', kt', vc', vt', tk'', j', rfl, ?_, J⟩
    rw [h1]
    unfold keepC
    rw [List.filter_cons]
    simp only [e, Bool.not_true, Bool.false_eq_true, if_false]
end
/-- the loop as a contract -/
structure Py where
  (it acc ns fr : Nat) (k : Stk) (q : Cq) (f : Fq) (x : Str) (t : Nat)
noncomputable def fqOf : List (Code × Pos) → Fq
  | (.func b e, p) :: _ => ⟨b, e, p⟩
  | _ => ⟨[], default, default⟩
noncomputable def refC : Code → Nat × Nat × Nat × Nat
  | .compLoop _ _ (.ref it) (.ref acc) env => (it, acc, env.locals, env.frame.getD 0)
  | _ => (0, 0, 0, 0)
noncomputable def pyOf (ci : Nat) (c : Code) (bl : List (Code × Pos)) (cs : Cells) (_ : Nat) : Py := ⟨(refC c).1, (refC c).2.1, (refC c).2.2.1, (refC c).2.2.2, stkP bl.tail, cqOf bl.tail, fqOf bl, itX (objAt cs ci), itT (objAt cs ci)⟩
noncomputable def PrepP (l o : List Nat) : Prop := l ≠ [] ∧ (∀ c ∈ l, c < 70000) ∧ l.length ≤ 8000 ∧ o = keepC l
noncomputable def FLp (P : Params) (sh : Bool) (o : List Nat) : ConF := fun c bl cs tk ns => (fun (y : Py) => reqF (PrepP y.x.cps.toList o) (conC (cPr y.it y.acc y.ns y.fr) (fun _ => blF y.f sh y.k y.q) [1, 2, 3] (csPr P y.it y.acc y.ns y.x y.t 0 [] 0 none) (fun _ => .ok .next)
  (fun ns => [(y.it, itO true .none (getN ns 0)), (y.acc, lstO (vals (zipT (getN ns 1) (getN ns 2) o)) (getN ns 3)), (y.ns, nsPr P (some (getN ns 4, chv (getN ns 5) (getN ns 6))))]) (fun ns => getN ns 7))) (pyOf 1 c bl cs tk) c bl cs tk ns
theorem FLp_sound {w : World} {b b2 : Bool} (sh : Bool) (o : List Nat) : ConSound (MM w b b2) (KT' w b b2) 8 (FLp (fP w b b2) sh o) := by
  refine ConSound.byC (pyOf 1) (F := fun y => reqF (PrepP y.x.cps.toList o) (conC (cPr y.it y.acc y.ns y.fr) (fun _ => blF y.f sh y.k y.q) [1, 2, 3] (csPr (fP w b b2) y.it y.acc y.ns y.x y.t 0 [] 0 none) (fun _ => .ok .next)
    (fun ns => [(y.it, itO true .none (getN ns 0)), (y.acc, lstO (vals (zipT (getN ns 1) (getN ns 2) o)) (getN ns 3)), (y.ns, nsPr (fP w b b2) (some (getN ns 4, chv (getN ns 5) (getN ns 6))))]) (fun ns => getN ns 7))) fun y => reqF_sound fun hq => ?_
  obtain ⟨h1, h2, h3, h4⟩ := hq
  refine conC_sound (by decide) rfl (fun _ => rfl) fun s tk p pp I => ?_
  cases hl : y.x.cps.toList with
  | nil => exact absurd hl h1
  | cons c l =>
    rw [hl] at h2 h3 h4
    refine wpCode_mono ?_ (loopPr1 c l tk s p hl I h2 (by simp at h3; omega))
    rintro r s' ⟨zs, n', kt', vc', vt', tk', j', rfl, e1, J⟩
    obtain ⟨B, e, he⟩ := enc_any o zs (by rw [e1, h4])
    refine ⟨[j', B, e, n', kt', vc', vt', tk'], rfl, rfl, ?_⟩
    show Inv _ _ _ s' [(y.it, itO true .none j'), (y.acc, lstO (vals (zipT B e o)) n'), (y.ns, nsPr _ (some (kt', chv vc' vt')))] tk'
    rw [he]
    exact J
theorem glued_vals : ∀ (zs : List (Nat × Nat)), Builtin.Str.glued ⟨⟨[]⟩⟩ ((zs.map fun z => ((⟨⟨[z.1]⟩⟩ : Str), z.2)).map (·.1)) = oStr (zs.map (·.1)) := by
  have key : ∀ (l : List (Nat × Nat)) (acc : Array Nat), (l.map fun z => (⟨⟨[z.1]⟩⟩ : Str)).foldl (fun acc p => acc ++ (⟨⟨[]⟩⟩ : Str).cps ++ p.cps) acc = ⟨acc.toList ++ l.map (·.1)⟩ := by
    intro l
    induction l with
    | nil => intro acc; simp
    | cons a l ih =>
      intro acc
      rw [List.map_cons, List.foldl_cons, ih]
      simp
  intro zs
  have e : (zs.map fun z => ((⟨⟨[z.1]⟩⟩ : Str), z.2)).map (·.1) = zs.map fun z => (⟨⟨[z.1]⟩⟩ : Str) := by simp
  rw [e]
  unfold Builtin.Str.glued
  cases zs with
  | nil => rfl
  | cons a l =>
    show (⟨_⟩ : Str) = _
    rw [List.map_cons, List.drop_succ_cons, List.drop_zero, List.headD_cons, key]
    rfl
theorem fold_len (l : List (Nat × Nat)) : ∀ a, ((l.map fun z => (⟨⟨[z.1]⟩⟩ : Str))).foldl (fun a (x : Str) => a + x.length + (⟨⟨[]⟩⟩ : Str).length) a = a + l.length := by
  induction l with
  | nil => intro a; rfl
  | cons z l ih =>
    intro a
    rw [List.map_cons, List.foldl_cons, ih]
    show a + 1 + 0 + l.length = a + (l.length + 1)
    omega
theorem joinP_vals (zs : List (Nat × Nat)) (n : Nat) (h : zs.length ≤ 9000) : JoinP (oStr (zs.map (·.1))) (lstO (vals zs) n) := by
  refine ⟨zs.map fun z => ((⟨⟨[z.1]⟩⟩ : Str), z.2), n, ?_, ?_, glued_vals zs, ?_⟩
  · unfold vals strValues
    rw [List.map_map]; rfl
  · have e : (zs.map fun z => ((⟨⟨[z.1]⟩⟩ : Str), z.2)).map (·.1) = zs.map fun z => (⟨⟨[z.1]⟩⟩ : Str) := by simp
    rw [e]
    have := fold_len zs 0
    unfold Builtin.Str.tooLong
    rw [List.foldl_toArray, this]
    rw [decide_eq_false_iff_not, sizeLine_is]; omega
  · rw [sizeLine_is]
    show (zs.map (·.1)).toArray.size ≤ _
    simp; omega
/-! the function -/
noncomputable def cP121 (x : Str) (t : Nat) : Code := .call (.ref 121) ⟨[.str x t], []⟩
noncomputable def appE (a b : List Ev) : List Ev := a ++ b
noncomputable def logPr (b2 : Bool) (L J : ConF) : List Ev := appE [.st, .st, .dy 0, .dy 0, .st, .go, .dy 0, .go, .con 1 (strIterF true), .dy 1, .go] (appE (cond b2 [] [.dy 1, .dy 1, .go, .dy 1, .go, .dy 1]) [.con 8 L, .dy 3, .dy 3, .dy 3, .go, .con 2 J])
section
variable (w : World) (b b2 : Bool) (sh : Bool) (k : Stk) (q : Cq) (p : Pos) (x : Str) (t tk : Nat) (o : List Nat)
theorem segPr (sup : List Nat) (h : sup.length = 14) : okQ [] (runF w b b2 (logPr b2 (FLp (fP w b b2) sh o) (joinF 2 (oStr o))) (cP121 x t) p (blP sh k q) [] tk sup)
    (.fin (.ok (.ret (.str (oStr o) (getN sup 12))))) [] [Item.p (JoinP (oStr o) (lstO (vals (zipT (getN sup 5) (getN sup 6) o)) (getN sup 7))) = .p True, Item.p (PrepP x.cps.toList o) = .p True, Item.p (x.cps.all (· < 128) = false) = .p True] := by
  obtain ⟨fS, rfl⟩ := sup_ex h
  cases b <;> cases b2 <;> cases sh <;> (unfold okQ; kernel_rfl)
end
structure Ty where
  (t : Nat) (k : Stk) (q : Cq)
noncomputable def tyOf (c : Code) (bl : List (Code × Pos)) (_ : Cells) (_ : Nat) : Ty := match c with
  | .call _ ⟨[.str _ t], _⟩ => ⟨t, stkP bl, cqOf bl⟩
  | _ => ⟨0, stkP bl, cqOf bl⟩
/-- _law_prepared as a contract -/
noncomputable def F121 (sh : Bool) (tx o : List Nat) : ConF := fun c bl cs tk ns => (fun (y : Ty) => conOf (cP121 ⟨⟨tx⟩⟩ y.t) (fun _ => blP sh y.k y.q) [] (fun ns => ⟨.ok (.ret (.str (oStr o) (getN ns 0))), [], [], getN ns 1⟩)) (tyOf c bl cs tk) c bl cs tk ns
theorem F121_sound {w : World} {b b2 : Bool} (sh : Bool) {tx o : List Nat} (h : PrepP tx o) (ha : tx.any (fun c => !decide (c < 128)) = true) : ConSound (MM w b b2) (KT' w b b2) 2 (F121 sh tx o) := by
  refine ConSound.byC tyOf (F := fun y => conOf (cP121 ⟨⟨tx⟩⟩ y.t) (fun _ => blP sh y.k y.q) [] (fun ns => ⟨.ok (.ret (.str (oStr o) (getN ns 0))), [], [], getN ns 1⟩)) fun y => ?_
  refine conOf_sound (by simp) fun s tk p pp I => ?_
  have hx : (⟨⟨tx⟩⟩ : Str).cps.all (· < 128) = false := by
    show (⟨tx⟩ : Array Nat).all (· < 128) = false
    rw [List.all_toArray, List.all_eq_not_any_not, ha]; rfl
  have hz : ∀ B e, (zipT B e o).length ≤ 9000 := fun B e => by
    rw [zipT_len, h.2.2.2]
    exact Nat.le_trans (List.length_filter_le _ _) (Nat.le_trans h.2.2.1 (by decide))
  have hm : ∀ B e, (zipT B e o).map (·.1) = o := fun B e => by
    have : ∀ (l : List Nat) (B e : Nat), (zipT B e l).map (·.1) = l := by
      intro l
      induction l with
      | nil => intro B e; rfl
      | cons c l ih => intro B e; show c :: (zipT B (e / B) l).map _ = _; rw [ih]
    exact this o B e
  refine segQ (MM_den w b b2) rfl rfl _ (fun sup hs => segPr w b b2 sh y.k y.q p ⟨⟨tx⟩⟩ y.t tk o sup hs) (fun sup hs => all_p3 (by
    have z := joinP_vals (zipT (getN sup 5) (getN sup 6) o) (getN sup 7) (hz _ _)
    rw [hm] at z; exact z) h hx) (by
      cases b2
      · exact ⟨strIter_sound _ _ _ _, FLp_sound _ _, joinF_sound _ _ _ _ _, trivial⟩
      · exact ⟨strIter_sound _ _ _ _, FLp_sound _ _, joinF_sound _ _ _ _ _, trivial⟩) I fun sup s' tk' hs I' => ?_
  exact ⟨[getN sup 12, tk'], rfl, rfl, rfl, I'⟩
end Mine

/-! part SK -/
namespace Mine
open PySem PySem.W PySem.W.X PySem.Spec PySem.Calls PyProof.Rows

/-! a for loop over an enumerate of a text: the first part of a turn skipped -/
noncomputable def hL (env : Env) : Value → Sem Unit := fun x => do noteFrame x env; theTreesLotGoes x
noncomputable def h0 (target : Expr) : Value → Sem Unit := fun _ => standAt { target.pos with line := 0 }
/-- what is behind the letting go -/
noncomputable def Xr (target : Expr) (it : Value) : Option Value → Sem (Option Value)
  | none => pure none
  | some v => do letOwnedTupleGo target it v; pure (some v)
noncomputable def Xf (target : Expr) (it : Value) : Sem (Option Value) := do
  standAt target.pos
  let r ← (pyNext it).onRaise (h0 target)
  Xr target it r
noncomputable def Kf (target : Expr) (it : Value) (body orelse : List Stmt) (env : Env) : Option Value → Sem Fin
  | none => again (.block orelse env)
  | some v => do
    assign target env v
    match ← execs body env with
    | .next | .cont => again (.forLoop target it body orelse env)
    | .brk => pure (.done .next)
    | .ret v => pure (.done (.ret v))
theorem forTurn_split (target : Expr) (it : Value) (body orelse : List Stmt) (env : Env) : forTurn target it body orelse env = Xf target it >>= Kf target it body orelse env := by
  unfold forTurn Xf
  show Sem.bind _ _ = Sem.bind (Sem.bind _ _) _
  rw [Sem.bind_assoc]
  congr 1
  funext _
  show Sem.bind _ _ = Sem.bind (Sem.bind _ _) _
  rw [Sem.bind_assoc]
  congr 1
  funext r
  cases r with
  | none => rfl
  | some v =>
    show Sem.bind _ _ = Sem.bind (Sem.bind _ _) _
    rw [Sem.bind_assoc]
    rfl
theorem onRaise_split {α β : Type} (X : Sem α) (K : α → Sem β) (h : Value → Sem Unit) : (X >>= K).onRaise h = X.wrap (fun a => (K a).onRaise h) (fun e => (h e).bind fun _ => .raise e) (fun g => g) (fun l => l) := by
  rw [Sem.onRaise_eq_wrap, Sem.bind_eq_wrap', Sem.wrap_wrap]
  refine Sem.wrap_congr X _ _ (fun a => ?_) (fun e => rfl)
  rw [Sem.onRaise_eq_wrap]
/-- the rest, in the quick twin's words -/
noncomputable def KfT (target : Expr) (it : Value) (body orelse : List Stmt) (env : Env) (v : Value) : Sem Fin :=
  R.onRaiseR (R.bindR (Fast.tw17772580674575903948 target env v) fun _ => R.bindR (Fast.tw12563942051412417395 body env) fun r => match r with
    | .next => Fast.tw12377390311714414960 (.forLoop target it body orelse env)
    | .cont => Fast.tw12377390311714414960 (.forLoop target it body orelse env)
    | .brk => pure (.done .next)
    | .ret v => pure (.done (.ret v))) (fun x => R.bindR (Fast.tw17872113653443481271 x env) fun _ => Fast.tw1623429502029203251 x)
theorem KfT_eq (target : Expr) (it : Value) (body orelse : List Stmt) (env : Env) (v : Value) : KfT target it body orelse env v = (Kf target it body orelse env (some v)).onRaise (hL env) := by
  unfold KfT Kf hL
  rw [← R.onRaiseR_eq, ← R.bindR_eq, ← Fast.te17772580674575903948, ← Fast.te12563942051412417395, ← Fast.te12377390311714414960, ← Fast.te17872113653443481271, ← Fast.te1623429502029203251]
  rfl
/-! the enumerate and its next -/
noncomputable def enumO (si : Nat) (j : Nat) (last : Value) : Obj := ⟨.type "enumerate", none, .fields ⟨[.none, .bool false, .ref si, .int (j : Nat) 0, .none, last]⟩, ⟨[]⟩⟩
noncomputable def enumX (si a : Nat) (j : Nat) (last : Value) : Obj := ⟨.type "enumerate", none, .fields ⟨[.int (a : Nat) 0, .bool false, .ref si, .int (j : Nat) 0, .none, last]⟩, ⟨[]⟩⟩
noncomputable def nxT (it : Value) : Sem Fin := R.bindR (Fast.tw9404975358583537561 it) fun r => match r with
  | none => pure (.done .next)
  | some v => pure (.done (.ret v))
theorem nxT_eq (it : Value) : nxT it = pyNext it >>= fun r => match r with
    | none => pure (.done .next)
    | some v => pure (.done (.ret v)) := by
  unfold nxT
  rw [← R.bindR_eq, ← Fast.te9404975358583537561]
  rfl
noncomputable def logNx (NX : ConF) : List Ev := [.dy 0, .go, .dy 0, .go, .dy 0, .dy 1, .go, .dy 1, .con 0 NX, .dy 0, .dy 0, .dy 0, .dy 0, .dy 0, .dy 0, .dy 0, .dy 0, .dy 0, .dy 0, .dy 0, .dy 0, .dy 0, .dy 0]
section
variable (w : World) (b b2 : Bool) (c : Code) (p : Pos) (bl : List (Code × Pos)) (en si : Nat) (x : Str) (t j c1 tk : Nat) (last : Value)
theorem segNx (sup : List Nat) (h : sup.length = 1) : okQ [true, true, true] (run denF pw (fP w b b2) (ktS (fP w b b2)) 1000000 (logNx (nextF false 1 j c1)) (nxT (.ref en)) c p bl [] [(en, enumO si j last), (si, itO false (.str x t) j)] tk [] [] sup)
    (.fin (.ok (.ret (.ref (getN sup 0))))) [(en, enumX si (getN sup 0) (j + 1) (.str ⟨⟨[c1]⟩⟩ tk)), (si, itO false (.str x t) (j + 1)), (getN sup 0, tupO [.int (j : Nat) (tk + 1), .str ⟨⟨[c1]⟩⟩ tk])] [Item.p (x.cps[j]? = some c1) = .p True] := by
  obtain ⟨fS, rfl⟩ := sup_ex h
  cases b <;> (unfold okQ; kernel_rfl)
end

theorem segQT {M : Model} {kt : KT} {den : Code → Sem Fin} {pg : Program} {P : Params} (hd : M.den = den) (hp : M.prog = pg) (hw : M.w.params = P) {s₀ s : Shared} {T : List Addr} {R : Result → Shared → Prop} {n N : Nat} {log : List Ev} {t : Sem Fin} {c : Code} {p : Pos} {bl : List (Code × Pos)} {cs : Cells} {tk : Nat}
    (m : List Bool) {oc : List Nat → OC} {cs' : List Nat → Cells} {ps : List Nat → List Prop}
    (H : ∀ sup : List Nat, sup.length = N → okQ m (run den pg P kt n log t c p bl [] cs tk [] [] sup) (oc sup) (cs' sup) (ps sup))
    (hps : ∀ sup : List Nat, sup.length = N → ∀ P ∈ ps sup, P)
    (hl : LogSound M kt log) (I : Inv kt s₀ T s cs tk)
    (en : ∀ (sup : List Nat) s' tk', sup.length = N → Inv kt s₀ T s' (cs' sup) tk' → match oc sup with
      | .fin res => R res s'
      | .again c => ∀ p, wpCode M (cx c bl) R p s'
      | .susp _ => False) : Means M R [] bl c t p s := by
  refine run_sound hd hp hw (s₀ := s₀) (T := T) (R := R) (bl₀ := bl) n log t c p bl [] cs tk [] [] N s rfl (fun sup hs => ?_) hl I
  obtain ⟨x, e, e1, e2, e4, e5⟩ := (H sup hs).ex (hps sup hs)
  refine ⟨x, e, e5, fun s' I' => ?_⟩
  rw [e4] at I'
  have I2 := I'.forget (pick_sub m x.cs)
  rw [e2] at I2
  have z := en sup s' _ hs I2
  rw [← e1] at z
  revert z
  cases x.out with
  | fin r => exact id
  | again c p => exact fun z => z p
  | susp => exact id
theorem wp_onRaise {α : Type} {M : Model} {Γ : PySem.Ctx} (X : Sem α) (h : Value → Sem Unit) {Q : α → Pos → Shared → Prop} {E : Value → Pos → Shared → Prop} {p : Pos} {s : Shared} (hx : Sem.wp M Γ X Q (fun _ _ _ => False) p s) : Sem.wp M Γ (X.onRaise h) Q E p s := by
  rw [Sem.onRaise_eq_wrap]
  exact wp_wrapM X (Sem.wp_mono M _ _ (fun _ _ _ h => h) (fun _ _ _ (h : False) => h.elim) p s hx)
section
variable {w : World} {b b2 : Bool}
noncomputable def NxR (w : World) (b b2 : Bool) (s₀ : Shared) (T : List Addr) (en si : Nat) (x : Str) (t j c1 tk : Nat) (r : Result) (s' : Shared) : Prop :=
  ∃ a tk', r = .ok (.ret (.ref a)) ∧ Inv (KT' w b b2) s₀ T s' [(en, enumX si a (j + 1) (.str ⟨⟨[c1]⟩⟩ tk)), (si, itO false (.str x t) (j + 1)), (a, tupO [.int (j : Nat) (tk + 1), .str ⟨⟨[c1]⟩⟩ tk])] tk'
theorem wp_pyNext {c : Code} {bl : List (Code × Pos)} {en si t j c1 tk : Nat} {x : Str} {last : Value} {s₀ s : Shared} {T : List Addr} {p : Pos} (hx : x.cps[j]? = some c1) (I : Inv (KT' w b b2) s₀ T s [(en, enumO si j last), (si, itO false (.str x t) j)] tk) :
    Sem.wp (MM w b b2) (cx c bl) (pyNext (.ref en)) (fun r _ s' => ∃ a tk', r = some (.ref a) ∧ Inv (KT' w b b2) s₀ T s' [(en, enumX si a (j + 1) (.str ⟨⟨[c1]⟩⟩ tk)), (si, itO false (.str x t) (j + 1)), (a, tupO [.int (j : Nat) (tk + 1), .str ⟨⟨[c1]⟩⟩ tk])] tk') (fun _ _ _ => False) p s := by
  have z := segQT (MM_den w b b2) rfl rfl _ (R := NxR w b b2 s₀ T en si x t j c1 tk)
    (fun sup hs => segNx w b b2 c p bl en si x t j c1 tk last sup hs) (fun sup hs => one_p hx) ⟨nextF_sound _ _ _ _ _ _ _, trivial⟩ I (fun sup s' tk' hs I' => ⟨_, tk', rfl, I'⟩)
  unfold Means at z
  rw [nxT_eq, Sem.wp_bind'] at z
  refine Sem.wp_mono _ _ _ ?_ ?_ p s z
  · intro r p' s' h
    cases r with
    | none =>
      have h' : NxR w b b2 s₀ T en si x t j c1 tk (.ok .next) s' := h
      obtain ⟨a, tk', e, _⟩ := h'; cases e
    | some v =>
      have h' : NxR w b b2 s₀ T en si x t j c1 tk (.ok (.ret v)) s' := h
      obtain ⟨a, tk', e, J⟩ := h'
      cases e
      exact ⟨a, tk', rfl, J⟩
  · intro e p' s' h
    have h' : NxR w b b2 s₀ T en si x t j c1 tk (.error e) s' := h
    obtain ⟨a, tk', e, _⟩ := h'; cases e
theorem wp_letGo {c : Code} {bl : List (Code × Pos)} {en si a j tk : Nat} {te : List Expr} {tx : Nat} {tp : Pos} {last : Value} {cs : Cells} {s₀ s : Shared} {T : List Addr} {p : Pos} (I : Inv (KT' w b b2) s₀ T s ((en, enumX si a j last) :: cs) tk) :
    Sem.wp (MM w b b2) (cx c bl) (letOwnedTupleGo (.Tuple te tx tp) (.ref en) (.ref a)) (fun _ _ s' => Inv (KT' w b b2) s₀ T s' ((en, enumO si j last) :: cs) tk) (fun _ _ _ => False) p s := by
  have hen : s.heap.get? en = some (enumX si a j last) := I.cell (en, enumX si a j last) (.head _)
  have z := wpAny_letOwnedTupleGo_enum (prog := pw) (w := fixW w b b2) (A := { depth := frameCount bl + c.weight, units := c.cUnits + unitsOf bl }) (E := fun _ _ => False) (s := s) (elts := te) (x1 := tx) (pos := tp) (e := en) (it := si) (a := a) (i := (j : Nat)) (item := last)
    (Q := fun _ s' => Inv (KT' w b b2) s₀ T s' ((en, enumO si j last) :: cs) tk) hen (fun h' he hs => by
      obtain rfl := I.tk
      exact I.move (i := 0) (S := en) (o' := enumO si j last) rfl (h' := h') (t := s.toks) (fun b ob hb e => (hs.2 b hb).trans e) he)
  exact z (cx c bl) p ⟨rfl, Nat.le_refl _, fun _ h => (nomatch h), fun _ h => (nomatch h), Nat.le_refl _⟩

/-- the first part of a turn -/
theorem wp_Xf {c : Code} {bl : List (Code × Pos)} {en si t j c1 tk : Nat} {te : List Expr} {tx : Nat} {tp : Pos} {x : Str} {last : Value} {s₀ s : Shared} {T : List Addr} {p : Pos} (hx : x.cps[j]? = some c1) (I : Inv (KT' w b b2) s₀ T s [(en, enumO si j last), (si, itO false (.str x t) j)] tk) :
    Sem.wp (MM w b b2) (cx c bl) (Xf (.Tuple te tx tp) (.ref en)) (fun r _ s' => ∃ a tk', r = some (.ref a) ∧ Inv (KT' w b b2) s₀ T s' [(en, enumO si (j + 1) (.str ⟨⟨[c1]⟩⟩ tk)), (si, itO false (.str x t) (j + 1)), (a, tupO [.int (j : Nat) (tk + 1), .str ⟨⟨[c1]⟩⟩ tk])] tk') (fun _ _ _ => False) p s := by
  unfold Xf
  show Sem.wp _ _ ((pyNext (.ref en)).onRaise (h0 (.Tuple te tx tp)) >>= Xr (.Tuple te tx tp) (.ref en)) _ _ tp s
  rw [Sem.wp_bind']
  refine wp_onRaise _ _ ?_
  refine Sem.wp_mono _ _ _ ?_ (fun _ _ _ h => h) _ _ (wp_pyNext hx I)
  rintro r p' s' ⟨a, tk', rfl, I'⟩
  show Sem.wp _ _ (letOwnedTupleGo (.Tuple te tx tp) (.ref en) (.ref a) >>= fun _ => pure (some (Value.ref a))) _ _ p' s'
  rw [Sem.wp_bind']
  refine Sem.wp_mono _ _ _ ?_ (fun _ _ _ h => h) _ _ (wp_letGo I')
  intro _ p'' s'' J
  exact ⟨a, tk', rfl, J⟩
end
/-- the skipping of the first part, as an event's word; five numbers: the tuple's address, the place, and one for the toks -/
noncomputable def skE (ie is : Nat) (j c1 : Nat) : SkF := fun c bl cs tk ns => match c, getC cs ie, getC cs is with
  | .forLoop (.Tuple te tx tp) (.ref en) body orelse env, some (xe, oe), some (xs, os) => some
    { t := KfT (.Tuple te tx tp) (.ref en) body orelse env (.ref (getN ns 0)), p := ⟨getN ns 1, getN ns 2, getN ns 3, getN ns 4⟩,
      upd := [(ie, enumO xs (j + 1) (.str ⟨⟨[c1]⟩⟩ tk)), (is, itO false (.str (itX os) (itT os)) (j + 1))],
      news := [(getN ns 0, tupO [.int (j : Nat) (tk + 1), .str ⟨⟨[c1]⟩⟩ tk])], tk := getN ns 5,
      chk := [(.a en, .a xe), (.o oe, .o (enumO xs j (nthV (fldsOf oe) 5))), (.o os, .o (itO false (.str (itX os) (itT os)) j)), (.p ((itX os).cps[j]? = some c1), .p True)] }
  | _, _, _ => none
theorem skE_sound {w : World} {b b2 : Bool} (ie is j c1 : Nat) (hi : ie ≠ is) : SkSound (MM w b b2) (KT' w b b2) 6 (skE ie is j c1) := by
  intro c bl p cs tk gs s₀ T s I H
  obtain ⟨po, hF, chk⟩ := H [0, 0, 0, 0, 0, 0] rfl
  unfold skE at hF
  split at hF
  · rename_i te tx tp en body orelse env xe oe xs os he hs
    cases hF
    have e1 : en = xe := Item.a.inj (chk _ (.head _))
    have e2 : oe = enumO xs j (nthV (fldsOf oe) 5) := Item.o.inj (chk _ (.tail _ (.head _)))
    have e3 : os = itO false (.str (itX os) (itT os)) j := Item.o.inj (chk _ (.tail _ (.tail _ (.head _))))
    have e4 : (itX os).cps[j]? = some c1 := by rw [Item.p.inj (chk _ (.tail _ (.tail _ (.tail _ (.head _)))))]; trivial
    subst e1
    refine ⟨_, Xf (.Tuple te tx tp) (.ref en), fun a => (Kf (.Tuple te tx tp) (.ref en) body orelse env a).onRaise (hL env), fun e => (hL env e).bind fun _ => .raise e, fun g => g, fun l => l, ?_, ?_⟩
    · show denote table (.forLoop (.Tuple te tx tp) (.ref en) body orelse env) = _
      rw [← onRaise_split, ← forTurn_split]
      rfl
    have me := getC_mem he
    have ms := getC_mem hs
    have ne : en ≠ xs := fun q => by
      subst q
      have := I.cell _ me
      have h2 := I.cell _ ms
      rw [this] at h2
      have h3 : oe = os := Option.some.inj h2
      rw [e2, e3] at h3
      exact absurd (Value.type.inj (congrArg Obj.cls h3)) (by decide)
    have foc := I.focus (nc := [(en, oe), (xs, os)]) (fun y hy => by
      rcases List.mem_cons.mp hy with q | q
      · rw [q]; exact me
      · rw [List.mem_singleton.mp q]; exact ms) (by simp [ne])
    rw [e2, e3] at foc
    refine Sem.wp_mono _ _ _ ?_ (fun _ _ _ h => h) _ _ (wp_Xf (t := itT os) e4 foc)
    rintro r p' s' ⟨a, tk', rfl, J⟩
    refine ⟨[a, p'.line, p'.col, p'.endLine, p'.endCol, tk'], _, rfl, by unfold skE; rw [he, hs], (KfT_eq _ _ _ _ _ _).symm, rfl, ?_⟩
    show Inv _ s₀ T s' (setC (setC cs ie (enumO xs (j + 1) (.str ⟨⟨[c1]⟩⟩ tk))) is (itO false (.str (itX os) (itT os)) (j + 1)) ++ [(a, tupO [.int (j : Nat) (tk + 1), .str ⟨⟨[c1]⟩⟩ tk])]) tk' gs
    have nd := J.nodup
    have fr : s.heap.get? a = none := by
      rcases J.mine (a, tupO [.int (j : Nat) (tk + 1), .str ⟨⟨[c1]⟩⟩ tk]) (.tail _ (.tail _ (.head _))) with q | q
      · simp only [List.map_cons, List.map_nil, List.nodup_cons, List.mem_cons, List.not_mem_nil, or_false, not_or] at nd q
        rcases q with q | q
        · exact absurd q.symm nd.1.2
        · exact absurd q.symm nd.2.1
      · exact q
    refine I.trans J (fun y hy => ?_) (fun y hy => ?_) ?_
    · rcases List.mem_cons.mp hy with q | q
      · rw [q]; exact List.mem_map_of_mem (f := (·.1)) me
      · rw [List.mem_singleton.mp q]; exact List.mem_map_of_mem (f := (·.1)) ms
    · rcases List.mem_append.mp hy with q | q
      · have h2 : getC (setC cs ie (enumO xs (j + 1) (.str ⟨⟨[c1]⟩⟩ tk))) is = some (xs, os) := by rw [getC_setC _ _ _ _ hi]; exact hs
        rcases setC_mem (by rw [setC_fst]; exact I.nodup) h2 y q with z | ⟨z, z'⟩
        · exact .inl (by rw [z]; exact .tail _ (.head _))
        · rcases setC_mem I.nodup he y z with v | ⟨v, v'⟩
          · exact .inl (by rw [v]; exact .head _)
          · refine .inr ⟨v, ?_⟩
            simp only [List.map_cons, List.map_nil, List.mem_cons, List.not_mem_nil, or_false, not_or]
            exact ⟨v', z'⟩
      · rw [List.mem_singleton.mp q]; exact .inl (.tail _ (.tail _ (.head _)))
    · rw [List.map_append, setC_fst, setC_fst, List.nodup_append]
      refine ⟨I.nodup, by simp, fun q hq q' hq' e => ?_⟩
      have : q' = a := by simpa using hq'
      obtain ⟨y, hy, rfl⟩ := List.mem_map.mp hq
      have z := I.cell y hy
      rw [show y.1 = a from e.trans this, fr] at z
      cases z
  · cases hF
end Mine

/-! part IE -/
namespace Mine
open PySem PySem.W PySem.W.X PySem.Spec PySem.Calls PyProof.Rows

/-! the generator _iter_escaped_chars -/
noncomputable def gBodyI : List Stmt := (fnTop 5).2.1
noncomputable def gForI : Expr × List Stmt × List Stmt := forParts (nthS gBodyI 2)
noncomputable def envIE (G : Nat) : Env := { scope := (fnTop 5).2.2, locals := G, globals := 3, cells := [], qual := ⟨⟨[95, 105, 116, 101, 114, 95, 101, 115, 99, 97, 112, 101, 100, 95, 99, 104, 97, 114, 115, 46, 60, 108, 111, 99, 97, 108, 115, 62, 46]⟩⟩, func := some 46, code := .ref 45, frame := some G, builtins := 0 }
noncomputable def cI0 (G : Nat) : Code := .func gBodyI (envIE G)
noncomputable def cI (G en : Nat) : Code := .forLoop gForI.1 (.ref en) gForI.2.1 gForI.2.2 (envIE G)
/-- the frame: first, later -/
noncomputable def oI0 (P : Params) (ka : Nat) (x : Str) (t : Nat) : Obj := ⟨.type "frame", none, .dict ⟨[ent P ⟨⟨[97, 100, 100, 114]⟩⟩ ka (.str x t)]⟩ 1, ⟨[]⟩⟩
structure Ik where
  (ka kp ke kc : Nat)
noncomputable def oI (P : Params) (y : Ik) (x : Str) (t : Nat) (jp tp : Nat) (esc : Bool) (ch : Value) : Obj := ⟨.type "frame", none, .dict ⟨[ent P ⟨⟨[97, 100, 100, 114]⟩⟩ y.ka (.str x t), ent P ⟨⟨[112, 111, 115]⟩⟩ y.kp (.int (jp : Nat) tp), ent P ⟨⟨[101, 115, 99, 97, 112, 101]⟩⟩ y.ke (.bool esc), ent P ⟨⟨[99, 104]⟩⟩ y.kc ch]⟩ 4, ⟨[]⟩⟩
noncomputable def csI (P : Params) (G si en : Nat) (y : Ik) (x : Str) (t j jp tp : Nat) (esc : Bool) (ch last : Value) : Cells := [(G, oI P y x t jp tp esc ch), (si, itO false (.str x t) j), (en, enumO si j last)]
noncomputable def okS (m : List Bool) (r : Option Res) (o : Out) (cs : Cells) (ps : List Prop) : Prop :=
  r.map (fun x => (x.out, pick m x.cs, x.gs, (noP x.prs).map (·.1), onP x.prs)) = some (o, cs, [], prsN r, ps)
noncomputable def suspK (r : Option Res) : Resume → Sem Fin := match r with
  | some ⟨.susp _ _ _ k _ _ _, _, _, _, _⟩ => k
  | _ => fun _ => .pure (.done .next)
noncomputable def frm0 : Frm := ⟨fun _ => .pure (.done .next), false, [], cI0 0, default⟩
noncomputable def suspF (r : Option Res) : Frm := match r with
  | some ⟨.susp _ _ _ _ _ _ (f :: _), _, _, _, _⟩ => f
  | _ => frm0
noncomputable def logFO (SI : ConF) (SK1 : SkF) : List Ev := [.dy 0, .dy 0, .dy 0, .dy 0, .st, .st, .dy 0, .go, .go, .go, .go, .go, .con 1 SI, .dy 1, .dy 2, .dy 2, .go, .dy 2, .go, .dy 2, .dy 2, .dy 2, .go, .dy 2, .go, .dy 2, .sk 6 SK1, .dy 3, .dy 3, .dy 3, .go, .dy 3, .go, .dy 4, .dy 4, .go, .dy 4, .go, .dy 4, .dy 4, .dy 3, .dy 4, .dy 4, .dy 4, .go, .dy 4, .go, .dy 4, .dy 4, .dy 3, .dy 4, .dy 4, .dy 4, .go, .dy 4, .go, .dy 4, .dy 4, .dy 3, .dy 4, .dy 4, .dy 6, .dy 0, .dy 0, .dy 0, .dy 0, .dy 0, .dy 0, .go, .go, .dy 0, .dy 0]
noncomputable def logFE (SI : ConF) (SK1 SK2 : SkF) : List Ev := [.dy 0, .dy 0, .dy 0, .dy 0, .st, .st, .dy 0, .go, .go, .go, .go, .go, .con 1 SI, .dy 1, .dy 2, .dy 2, .go, .dy 2, .go, .dy 2, .dy 2, .dy 2, .go, .dy 2, .go, .dy 2, .sk 6 SK1, .dy 3, .dy 3, .dy 3, .go, .dy 3, .go, .dy 4, .dy 4, .go, .dy 4, .go, .dy 4, .dy 4, .dy 3, .dy 4, .dy 4, .dy 4, .go, .dy 4, .go, .dy 4, .dy 4, .dy 3, .dy 4, .dy 4, .dy 4, .go, .dy 4, .go, .dy 4, .dy 4, .dy 3, .dy 4, .dy 4, .dy 6, .dy 0, .dy 0, .dy 0, .dy 0, .dy 0, .dy 0, .go, .go, .dy 0, .dy 0, .sk 6 SK2, .dy 7, .dy 7, .dy 7, .go, .dy 7, .go, .dy 8, .dy 8, .go, .dy 8, .go, .dy 8, .dy 8, .dy 7, .dy 8, .dy 8, .dy 8, .go, .dy 8, .go, .dy 8, .dy 8, .dy 7, .dy 8, .dy 8, .dy 8, .go, .dy 8, .go, .dy 8, .dy 8, .dy 7, .dy 8, .dy 8, .dy 10, .dy 0, .dy 0, .dy 0, .dy 0, .dy 0, .dy 0, .dy 0, .go, .go]
noncomputable def logEE (SK1 SK2 : SkF) : List Ev := [.dy 0, .dy 0, .sk 6 SK1, .dy 3, .dy 3, .dy 3, .go, .dy 3, .go, .dy 4, .dy 4, .go, .dy 4, .go, .dy 4, .dy 4, .dy 3, .dy 4, .dy 4, .dy 4, .go, .dy 4, .go, .dy 4, .dy 4, .dy 3, .dy 4, .dy 4, .dy 4, .go, .dy 4, .go, .dy 4, .dy 4, .dy 3, .dy 4, .dy 4, .dy 6, .dy 0, .dy 0, .dy 0, .dy 0, .dy 0, .dy 0, .go, .go, .dy 0, .dy 0, .sk 6 SK2, .dy 7, .dy 7, .dy 7, .go, .dy 7, .go, .dy 8, .dy 8, .go, .dy 8, .go, .dy 8, .dy 8, .dy 7, .dy 8, .dy 8, .dy 8, .go, .dy 8, .go, .dy 8, .dy 8, .dy 7, .dy 8, .dy 8, .dy 8, .go, .dy 8, .go, .dy 8, .dy 8, .dy 7, .dy 8, .dy 8, .dy 10, .dy 0, .dy 0, .dy 0, .dy 0, .dy 0, .dy 0, .dy 0, .go, .go]
noncomputable def logEO (SK1 : SkF) : List Ev := [.dy 0, .dy 0, .sk 6 SK1, .dy 3, .dy 3, .dy 3, .go, .dy 3, .go, .dy 4, .dy 4, .go, .dy 4, .go, .dy 4, .dy 4, .dy 3, .dy 4, .dy 4, .dy 4, .go, .dy 4, .go, .dy 4, .dy 4, .dy 3, .dy 4, .dy 4, .dy 4, .go, .dy 4, .go, .dy 4, .dy 4, .dy 3, .dy 4, .dy 4, .dy 6, .dy 0, .dy 0, .dy 0, .dy 0, .dy 0, .dy 0, .go, .go, .dy 0, .dy 0]
noncomputable def logOE (SK1 SK2 : SkF) : List Ev := [.sk 6 SK1, .dy 3, .dy 3, .dy 3, .go, .dy 3, .go, .dy 4, .dy 4, .go, .dy 4, .go, .dy 4, .dy 4, .dy 3, .dy 4, .dy 4, .dy 4, .go, .dy 4, .go, .dy 4, .dy 4, .dy 3, .dy 4, .dy 4, .dy 4, .go, .dy 4, .go, .dy 4, .dy 4, .dy 3, .dy 4, .dy 4, .dy 6, .dy 0, .dy 0, .dy 0, .dy 0, .dy 0, .dy 0, .go, .go, .dy 0, .dy 0, .sk 6 SK2, .dy 7, .dy 7, .dy 7, .go, .dy 7, .go, .dy 8, .dy 8, .go, .dy 8, .go, .dy 8, .dy 8, .dy 7, .dy 8, .dy 8, .dy 8, .go, .dy 8, .go, .dy 8, .dy 8, .dy 7, .dy 8, .dy 8, .dy 8, .go, .dy 8, .go, .dy 8, .dy 8, .dy 7, .dy 8, .dy 8, .dy 10, .dy 0, .dy 0, .dy 0, .dy 0, .dy 0, .dy 0, .dy 0, .go, .go]
noncomputable def logOO (SK1 : SkF) : List Ev := [.sk 6 SK1, .dy 3, .dy 3, .dy 3, .go, .dy 3, .go, .dy 4, .dy 4, .go, .dy 4, .go, .dy 4, .dy 4, .dy 3, .dy 4, .dy 4, .dy 4, .go, .dy 4, .go, .dy 4, .dy 4, .dy 3, .dy 4, .dy 4, .dy 4, .go, .dy 4, .go, .dy 4, .dy 4, .dy 3, .dy 4, .dy 4, .dy 6, .dy 0, .dy 0, .dy 0, .dy 0, .dy 0, .dy 0, .go, .go, .dy 0, .dy 0]
noncomputable def logEX (NXE : ConF) : List Ev := [.dy 0, .dy 0, .go, .dy 2, .go, .dy 2, .go, .dy 2, .dy 1, .go, .dy 1, .con 2 NXE, .dy 4, .go, .dy 0]
noncomputable def logOX (NXE : ConF) : List Ev := [.go, .dy 2, .go, .dy 2, .go, .dy 2, .dy 1, .go, .dy 1, .con 2 NXE, .dy 4, .go, .dy 0]
/-- the run of a generator's tree -/
noncomputable abbrev runT (w : World) (b b2 : Bool) (log : List Ev) (t : Sem Fin) (c : Code) (p : Pos) (bl : List (Code × Pos)) (κ : List Frm) (cs : Cells) (tk : Nat) (sup : List Nat) : Option Res :=
  run denF pw (fP w b b2) (ktS (fP w b b2)) 1000000 log t c p bl κ cs tk [] [] sup
/-- two model runs, for the closures' names -/
noncomputable def canO (w : World) (b b2 : Bool) (G en : Nat) : Option Res := runT w b b2 (logOO (skE 2 1 0 40)) (.pure (.again (cI G en))) (cI G en) default [] [] (csI (fP w b b2) G 0 en ⟨0, 0, 0, 0⟩ ⟨⟨[40]⟩⟩ 0 0 0 0 false .none .none) 0 [1, 2, 3, 4, 5, 6, 7, 8, 9, 10]
noncomputable def canE (w : World) (b b2 : Bool) (G en : Nat) : Option Res := runT w b b2 (logOE (skE 2 1 0 92) (skE 2 1 1 40)) (.pure (.again (cI G en))) (cI G en) default [] [] (csI (fP w b b2) G 0 en ⟨0, 0, 0, 0⟩ ⟨⟨[92, 40]⟩⟩ 0 0 0 0 false .none .none) 0 [1, 2, 3, 4, 5, 6, 7, 8, 9, 10, 11, 12, 13, 14, 15, 16, 17, 18, 19]
noncomputable def canF (w : World) (b b2 : Bool) (G en : Nat) : Option Res := runT w b b2 (logFO (strIterF false) (skE 2 1 0 40)) (denF (cI0 G)) (cI0 G) default [] [] [(G, oI0 (fP w b b2) 0 ⟨⟨[40]⟩⟩ 0)] 0 [0, en, 1, 2, 3, 4, 5, 6, 7, 8, 9, 10]
noncomputable def k1 (w : World) (b b2 : Bool) (G en : Nat) : Resume → Sem Fin := suspK (canE w b b2 G en)
noncomputable def k2 (w : World) (b b2 : Bool) (G en : Nat) : Resume → Sem Fin := suspK (canO w b b2 G en)
noncomputable def frI (w : World) (b b2 : Bool) (G en : Nat) : Frm := suspF (canF w b b2 G en)
noncomputable def suspP (r : Option Res) : Pos := match r with
  | some ⟨.susp _ _ _ _ _ p _, _, _, _, _⟩ => p
  | _ => default
noncomputable def pos1 (w : World) (b b2 : Bool) : Pos := suspP (canE w b b2 0 0)
noncomputable def pos2 (w : World) (b b2 : Bool) : Pos := suspP (canO w b b2 0 0)
noncomputable def outE (w : World) (b b2 : Bool) (G en a : Nat) : Out := .susp (.ref a) false [] (k1 w b b2 G en) (cI G en) (pos1 w b b2) [frI w b b2 G en]
noncomputable def outO (w : World) (b b2 : Bool) (G en a : Nat) : Out := .susp (.ref a) false [] (k2 w b b2 G en) (cI G en) (pos2 w b b2) [frI w b b2 G en]
noncomputable def blI' (w : World) (b b2 : Bool) (G en : Nat) (bl : List (Code × Pos)) : List (Code × Pos) := ((frI w b b2 G en).c, (frI w b b2 G en).p) :: bl
section
variable (w : World) (b b2 : Bool) (p : Pos) (bl : List (Code × Pos)) (G si en : Nat) (y : Ik) (x : Str) (t j jp tp tk : Nat) (ch last : Value)
theorem segE40 (sup : List Nat) (h : sup.length = 10) : okS [true, true, true, false, false, false, false, true] (runT w b b2 (logEO (skE 2 1 j 40)) (k1 w b b2 G en (.send .none)) (cI G en) p (blI' w b b2 G en bl) [frI w b b2 G en] (csI (fP w b b2) G si en y x t j jp tp true ch last) tk sup)
    (outO w b b2 G en (getN sup 9)) (csI (fP w b b2) G si en y x t (j + 1) j (tk + 2) false (.str ⟨⟨[40]⟩⟩ (tk + 1)) (.str ⟨⟨[40]⟩⟩ (tk + 1)) ++ [((getN sup 9), tupO [.int (j : Nat) ((tk + 1) + 1), (.str ⟨⟨[40]⟩⟩ (tk + 1))])]) [Item.p (x.cps[j]? = some 40) = .p True] := by
  obtain ⟨fS, rfl⟩ := sup_ex h
  cases b <;> (unfold okS; kernel_rfl)
theorem segE41 (sup : List Nat) (h : sup.length = 10) : okS [true, true, true, false, false, false, false, true] (runT w b b2 (logEO (skE 2 1 j 41)) (k1 w b b2 G en (.send .none)) (cI G en) p (blI' w b b2 G en bl) [frI w b b2 G en] (csI (fP w b b2) G si en y x t j jp tp true ch last) tk sup)
    (outO w b b2 G en (getN sup 9)) (csI (fP w b b2) G si en y x t (j + 1) j (tk + 2) false (.str ⟨⟨[41]⟩⟩ (tk + 1)) (.str ⟨⟨[41]⟩⟩ (tk + 1)) ++ [((getN sup 9), tupO [.int (j : Nat) ((tk + 1) + 1), (.str ⟨⟨[41]⟩⟩ (tk + 1))])]) [Item.p (x.cps[j]? = some 41) = .p True] := by
  obtain ⟨fS, rfl⟩ := sup_ex h
  cases b <;> (unfold okS; kernel_rfl)
theorem segEE (c : Nat) (sup : List Nat) (h : sup.length = 19) : okS [true, true, true, false, false, false, false, false, false, false, false, true] (runT w b b2 (logEE (skE 2 1 j 92) (skE 2 1 (j + 1) c)) (k1 w b b2 G en (.send .none)) (cI G en) p (blI' w b b2 G en bl) [frI w b b2 G en] (csI (fP w b b2) G si en y x t j jp tp true ch last) tk sup)
    (outE w b b2 G en (getN sup 18)) (csI (fP w b b2) G si en y x t (j + 1 + 1) (j + 1) (getN sup 5 + 5) true (.str ⟨⟨[c]⟩⟩ (getN sup 5 + 4)) (.str ⟨⟨[c]⟩⟩ (getN sup 5 + 4)) ++ [((getN sup 18), tupO [.int ((j + 1 : Nat)) (getN sup 5 + 5), (.str ⟨⟨[92, c]⟩⟩ (getN sup 14 + 3))])]) [Item.p (x.cps[j + 1]? = some c) = .p True, Item.p (x.cps[j]? = some 92) = .p True] := by
  obtain ⟨fS, rfl⟩ := sup_ex h
  cases b <;> (unfold okS; kernel_rfl)
theorem segEX (sup : List Nat) (h : sup.length = 2) : okS [true, true, true] (runT w b b2 (logEX (nextEF false 1 j)) (k1 w b b2 G en (.send .none)) (cI G en) p (blI' w b b2 G en bl) [frI w b b2 G en] (csI (fP w b b2) G si en y x t j jp tp true ch last) tk sup)
    (.fin (.ok (.ret .none))) ([(G, oI (fP w b b2) y x t jp tp false ch), (si, itO false .none j), (en, enumO si j last)]) [Item.p (x.cps[j]? = none) = .p True] := by
  obtain ⟨fS, rfl⟩ := sup_ex h
  cases b <;> (unfold okS; kernel_rfl)
theorem segO40 (sup : List Nat) (h : sup.length = 10) : okS [true, true, true, false, false, false, false, true] (runT w b b2 (logOO (skE 2 1 j 40)) (k2 w b b2 G en (.send .none)) (cI G en) p (blI' w b b2 G en bl) [frI w b b2 G en] (csI (fP w b b2) G si en y x t j jp tp false ch last) tk sup)
    (outO w b b2 G en (getN sup 9)) (csI (fP w b b2) G si en y x t (j + 1) j (tk + 1) false (.str ⟨⟨[40]⟩⟩ tk) (.str ⟨⟨[40]⟩⟩ tk) ++ [((getN sup 9), tupO [.int (j : Nat) (tk + 1), (.str ⟨⟨[40]⟩⟩ tk)])]) [Item.p (x.cps[j]? = some 40) = .p True] := by
  obtain ⟨fS, rfl⟩ := sup_ex h
  cases b <;> (unfold okS; kernel_rfl)
theorem segO41 (sup : List Nat) (h : sup.length = 10) : okS [true, true, true, false, false, false, false, true] (runT w b b2 (logOO (skE 2 1 j 41)) (k2 w b b2 G en (.send .none)) (cI G en) p (blI' w b b2 G en bl) [frI w b b2 G en] (csI (fP w b b2) G si en y x t j jp tp false ch last) tk sup)
    (outO w b b2 G en (getN sup 9)) (csI (fP w b b2) G si en y x t (j + 1) j (tk + 1) false (.str ⟨⟨[41]⟩⟩ tk) (.str ⟨⟨[41]⟩⟩ tk) ++ [((getN sup 9), tupO [.int (j : Nat) (tk + 1), (.str ⟨⟨[41]⟩⟩ tk)])]) [Item.p (x.cps[j]? = some 41) = .p True] := by
  obtain ⟨fS, rfl⟩ := sup_ex h
  cases b <;> (unfold okS; kernel_rfl)
theorem segOE (c : Nat) (sup : List Nat) (h : sup.length = 19) : okS [true, true, true, false, false, false, false, false, false, false, false, true] (runT w b b2 (logOE (skE 2 1 j 92) (skE 2 1 (j + 1) c)) (k2 w b b2 G en (.send .none)) (cI G en) p (blI' w b b2 G en bl) [frI w b b2 G en] (csI (fP w b b2) G si en y x t j jp tp false ch last) tk sup)
    (outE w b b2 G en (getN sup 18)) (csI (fP w b b2) G si en y x t (j + 1 + 1) (j + 1) (getN sup 5 + 5) true (.str ⟨⟨[c]⟩⟩ (getN sup 5 + 4)) (.str ⟨⟨[c]⟩⟩ (getN sup 5 + 4)) ++ [((getN sup 18), tupO [.int ((j + 1 : Nat)) (getN sup 5 + 5), (.str ⟨⟨[92, c]⟩⟩ (getN sup 14 + 3))])]) [Item.p (x.cps[j + 1]? = some c) = .p True, Item.p (x.cps[j]? = some 92) = .p True] := by
  obtain ⟨fS, rfl⟩ := sup_ex h
  cases b <;> (unfold okS; kernel_rfl)
theorem segOX (sup : List Nat) (h : sup.length = 2) : okS [true, true, true] (runT w b b2 (logOX (nextEF false 1 j)) (k2 w b b2 G en (.send .none)) (cI G en) p (blI' w b b2 G en bl) [frI w b b2 G en] (csI (fP w b b2) G si en y x t j jp tp false ch last) tk sup)
    (.fin (.ok (.ret .none))) ([(G, oI (fP w b b2) y x t jp tp false ch), (si, itO false .none j), (en, enumO si j last)]) [Item.p (x.cps[j]? = none) = .p True] := by
  obtain ⟨fS, rfl⟩ := sup_ex h
  cases b <;> (unfold okS; kernel_rfl)
end
section
variable (w : World) (b b2 : Bool) (p : Pos) (bl : List (Code × Pos)) (G ka : Nat) (x : Str) (t tk : Nat)
theorem segF40 (sup : List Nat) (h : sup.length = 12) : okS [true, true, true, false, false, false, false, true] (runT w b b2 (logFO (strIterF false) (skE 2 1 0 40)) (denF (cI0 G)) (cI0 G) p bl [] [(G, oI0 (fP w b b2) ka x t)] tk sup)
    (outO w b b2 G (getN sup 1) (getN sup 11)) (csI (fP w b b2) G (getN sup 0) (getN sup 1) ⟨ka, tk + 1, tk + 2, getN sup 7 + 1⟩ x t 1 0 (tk + 4) false (.str ⟨⟨[40]⟩⟩ (tk + 3)) (.str ⟨⟨[40]⟩⟩ (tk + 3)) ++ [((getN sup 11), tupO [.int ((0 : Nat)) (tk + 4), (.str ⟨⟨[40]⟩⟩ (tk + 3))])]) [Item.p (x.cps[0]? = some 40) = .p True, Item.p (x.cps.all (· < 128) = true) = .p True] := by
  obtain ⟨fS, rfl⟩ := sup_ex h
  cases b <;> (unfold okS; kernel_rfl)
theorem segF41 (sup : List Nat) (h : sup.length = 12) : okS [true, true, true, false, false, false, false, true] (runT w b b2 (logFO (strIterF false) (skE 2 1 0 41)) (denF (cI0 G)) (cI0 G) p bl [] [(G, oI0 (fP w b b2) ka x t)] tk sup)
    (outO w b b2 G (getN sup 1) (getN sup 11)) (csI (fP w b b2) G (getN sup 0) (getN sup 1) ⟨ka, tk + 1, tk + 2, getN sup 7 + 1⟩ x t 1 0 (tk + 4) false (.str ⟨⟨[41]⟩⟩ (tk + 3)) (.str ⟨⟨[41]⟩⟩ (tk + 3)) ++ [((getN sup 11), tupO [.int ((0 : Nat)) (tk + 4), (.str ⟨⟨[41]⟩⟩ (tk + 3))])]) [Item.p (x.cps[0]? = some 41) = .p True, Item.p (x.cps.all (· < 128) = true) = .p True] := by
  obtain ⟨fS, rfl⟩ := sup_ex h
  cases b <;> (unfold okS; kernel_rfl)
theorem segFE (c : Nat) (sup : List Nat) (h : sup.length = 21) : okS [true, true, true, false, false, false, false, false, false, false, false, true] (runT w b b2 (logFE (strIterF false) (skE 2 1 0 92) (skE 2 1 1 c)) (denF (cI0 G)) (cI0 G) p bl [] [(G, oI0 (fP w b b2) ka x t)] tk sup)
    (outE w b b2 G (getN sup 1) (getN sup 20)) (csI (fP w b b2) G (getN sup 0) (getN sup 1) ⟨ka, tk + 1, tk + 2, getN sup 7 + 1⟩ x t 2 1 (getN sup 7 + 5) true (.str ⟨⟨[c]⟩⟩ (getN sup 7 + 4)) (.str ⟨⟨[c]⟩⟩ (getN sup 7 + 4)) ++ [((getN sup 20), tupO [.int ((1 : Nat)) (getN sup 7 + 5), (.str ⟨⟨[92, c]⟩⟩ (getN sup 16 + 3))])]) [Item.p (x.cps[1]? = some c) = .p True, Item.p (x.cps[0]? = some 92) = .p True, Item.p (x.cps.all (· < 128) = true) = .p True] := by
  obtain ⟨fS, rfl⟩ := sup_ex h
  cases b <;> (unfold okS; kernel_rfl)
end
end Mine

/-! part WK -/
namespace Mine
open PySem PySem.W PySem.W.X PySem.Spec PySem.Calls PyProof.Rows

theorem okS.ex {m : List Bool} {r : Option Res} {o : Out} {cs : Cells} {ps : List Prop} (h : okS m r o cs ps) (hp : ∀ P ∈ ps, P) : ∃ x, r = some x ∧ x.out = o ∧ pick m x.cs = cs ∧ x.gs = [] ∧ ∀ q ∈ x.prs, q.1 = q.2 := by
  unfold okS at h
  cases r with
  | none => cases h
  | some x =>
    simp only [Option.map_some, Option.some.injEq, Prod.mk.injEq, prsN] at h
    obtain ⟨a, b, d, e, f⟩ := h
    exact ⟨x, rfl, a, b, d, splitP (pairs_eq e) (by rw [f]; exact hp)⟩
noncomputable def endOf : Out → End
  | .fin r => .ret r
  | .susp v g l k c p κ => .susp v g l k c p (κ.map Frm.fr)
  | .again _ _ => .ret (.ok .next)
noncomputable def notAgain : Out → Prop
  | .again _ _ => False
  | _ => True
/-- a generator's run by the kernel -/
theorem gen_run {w : World} {b b2 : Bool} {s₀ s : Shared} {T : List Addr} {N : Nat} {log : List Ev} {t : Sem Fin} {c : Code} {p : Pos} {bl₀ : List (Code × Pos)} {κ : List Frm} {cs : Cells} {tk : Nat}
    (m : List Bool) {o : List Nat → Out} {cs' : List Nat → Cells} {ps : List Nat → List Prop}
    (H : ∀ sup : List Nat, sup.length = N → okS m (runT w b b2 log t c p (κ.map (fun f => (f.c, f.p)) ++ bl₀) κ cs tk sup) (o sup) (cs' sup) (ps sup))
    (hps : ∀ sup : List Nat, sup.length = N → ∀ P ∈ ps sup, P) (hna : ∀ sup, notAgain (o sup))
    (hl : LogSound (MM w b b2) (KT' w b b2) log) (I : Inv (KT' w b b2) s₀ T s cs tk) :
    ∃ e s', Runs (MM w b b2) (cx c bl₀) p t (κ.map Frm.fr) s e s' ∧ ∃ (sup : List Nat) (tk' : Nat), sup.length = N ∧ e = endOf (o sup) ∧ Inv (KT' w b b2) s₀ T s' (cs' sup) tk' := by
  have hb : bl₀ = κ.foldl (fun b _ => b.tail) (κ.map (fun f => (f.c, f.p)) ++ bl₀) := by
    clear H I
    induction κ with
    | nil => rfl
    | cons f κ ih => exact ih
  refine run_gen (MM_den w b b2) rfl rfl (jdG (MM w b b2) bl₀ fun e s' => ∃ (sup : List Nat) (tk' : Nat), sup.length = N ∧ e = endOf (o sup) ∧ Inv (KT' w b b2) s₀ T s' (cs' sup) tk') 1000000 log t c p _ κ cs tk [] [] N s hb (fun sup hs => ?_) hl I rfl
  obtain ⟨x, e, e1, e2, e4, e5⟩ := (H sup hs).ex (hps sup hs)
  refine ⟨x, e, e5, fun s' I' => ?_⟩
  rw [e4] at I'
  have I2 := I'.forget (pick_sub m x.cs)
  rw [e2] at I2
  have hn := hna sup
  rw [← e1] at hn
  cases ho : x.out with
  | fin r => exact ⟨sup, _, hs, by rw [← e1, ho]; rfl, I2⟩
  | again c2 p2 => rw [ho] at hn; exact hn.elim
  | susp v g l k c2 p2 κ2 => exact ⟨sup, _, hs, by rw [← e1, ho]; rfl, I2⟩

/-! the generator's states -/
noncomputable def stE (w : World) (b b2 : Bool) (G en : Nat) : GenState := .suspended (k1 w b b2 G en) [] (cI G en) (pos1 w b b2) [Frm.fr (frI w b b2 G en)] false
noncomputable def stO (w : World) (b b2 : Bool) (G en : Nat) : GenState := .suspended (k2 w b b2 G en) [] (cI G en) (pos2 w b b2) [Frm.fr (frI w b b2 G en)] false
noncomputable def stS (w : World) (b b2 : Bool) (esc : Bool) (G en : Nat) : GenState := match esc with
  | true => stE w b b2 G en
  | false => stO w b b2 G en
theorem frI_g (w : World) (b b2 : Bool) (G en : Nat) : (frI w b b2 G en).g = false := by cases b <;> kernel_rfl
theorem gs_outE (w : World) (b b2 : Bool) (G en a : Nat) : (endOf (outE w b b2 G en a)).genState = stE w b b2 G en := by
  show GenState.suspended _ _ _ _ _ (false || ((frI w b b2 G en).g || false)) = _
  rw [frI_g]; rfl
theorem gs_outO (w : World) (b b2 : Bool) (G en a : Nat) : (endOf (outO w b b2 G en a)).genState = stO w b b2 G en := by
  show GenState.suspended _ _ _ _ _ (false || ((frI w b b2 G en).g || false)) = _
  rw [frI_g]; rfl
theorem qt_outE (w : World) (b b2 : Bool) (G en a : Nat) : (endOf (outE w b b2 G en a)).quiet = true := by
  show (!(false || ((frI w b b2 G en).g || false))) = _
  rw [frI_g]; rfl
theorem qt_outO (w : World) (b b2 : Bool) (G en a : Nat) : (endOf (outO w b b2 G en a)).quiet = true := by
  show (!(false || ((frI w b b2 G en).g || false))) = _
  rw [frI_g]; rfl

/-! waking and laying down again -/
section
variable {kt : KT} {s₀ s s₁ : Shared} {T : List Addr} {cs : Cells} {tk : Nat} {g : Nat} {st : GenState}
theorem Inv.wakes (I : Inv kt s₀ T s cs tk [(g, st)]) : Inv kt (s.setGen g .running) (cs.map (·.1)) (s.setGen g .running) cs tk :=
  ⟨I.st, I.cell, I.nodup, I.apart, fun x hx => .inl (List.mem_map_of_mem hx), I.tk, fun _ _ e _ => e, fun _ h => h, fun _ _ e => e, Nat.le_refl _, fun _ hx => (nomatch hx), by
    intro y hy
    have hy' : y ∈ s.gens.setIfInBounds g .running := hy
    rw [Array.mem_iff_getElem] at hy'
    obtain ⟨i, hi, e⟩ := hy'
    rw [Array.getElem_setIfInBounds] at e
    split at e
    · rw [← e]; rfl
    · rw [← e]; exact I.bare _ (Array.getElem_mem _)
    · simpa using hi, rfl⟩
theorem Inv.lays {cs₁ : Cells} {tk₁ : Nat} {st' : GenState} (I : Inv kt s₀ T s cs tk [(g, st)]) {T₁ : List Addr} {nc : Cells} (J : Inv kt (s.setGen g .running) T₁ s₁ nc tk₁) (hb : st'.bare = true)
    (hT : ∀ a ∈ T₁, a ∈ cs.map (·.1)) (h : ∀ x ∈ cs₁, x ∈ nc ∨ (x ∈ cs ∧ x.1 ∉ T₁)) (nd : (cs₁.map (·.1)).Nodup) : Inv kt s₀ T (s₁.setGen g st') cs₁ tk₁ [(g, st')] := by
  have hT' : ∀ a ∈ T₁, a ∈ T ∨ s₀.heap.get? a = none := fun a ha => by
    obtain ⟨x, hx, rfl⟩ := List.mem_map.mp (hT a ha)
    exact I.mine x hx
  have hg := I.gs (g, st) (.head _)
  have hlt : g < s.gens.size := (Array.getElem?_eq_some_iff.mp hg.1).1
  have hrun : s₁.gens[g]? = some .running := J.gens g _ (by
    show (s.gens.setIfInBounds g .running)[g]? = _
    rw [Array.getElem?_setIfInBounds_self_of_lt hlt])
  have hlt1 : g < s₁.gens.size := (Array.getElem?_eq_some_iff.mp hrun).1
  refine ⟨J.st, fun x hx => ?_, nd, fun x hx => ?_, fun x hx => ?_, J.tk, fun b o e hb => ?_, fun b hb => J.size b (I.size b hb), fun i x e => ?_, ?_, fun x hx => ?_, ?_, J.os.trans I.os⟩
  · rcases h x hx with q | ⟨q, q'⟩
    · exact J.cell x q
    · exact J.keep _ _ (I.cell x q) q'
  · rcases h x hx with q | ⟨q, q'⟩
    · exact J.apart x q
    · exact I.apart x q
  · rcases h x hx with q | ⟨q, q'⟩
    · rcases J.mine x q with z | z
      · exact hT' _ z
      · by_cases ht : x.1 ∈ T
        · exact .inl ht
        · right
          cases e : s₀.heap.get? x.1 with
          | none => rfl
          | some o =>
            have z' : s.heap.get? x.1 = none := z
            rw [I.keep _ _ e ht] at z'; cases z'
    · exact I.mine x q
  · refine J.keep b o (I.keep b o e hb) fun q => ?_
    rcases hT' b q with z | z
    · exact hb z
    · rw [z] at e; cases e
  · have hi : i < s₀.gens.size := (Array.getElem?_eq_some_iff.mp e).1
    have ne : g ≠ i := fun q => by have := hg.2; omega
    show (s₁.gens.setIfInBounds g st')[i]? = _
    rw [Array.getElem?_setIfInBounds_ne ne]
    refine J.gens i x ?_
    show (s.gens.setIfInBounds g .running)[i]? = _
    rw [Array.getElem?_setIfInBounds_ne ne]
    exact I.gens i x e
  · have h1 := J.gsz
    have h2 : (s.setGen g .running).gens.size = s.gens.size := by show (s.gens.setIfInBounds g .running).size = _; simp
    have h3 : (s₁.setGen g st').gens.size = s₁.gens.size := by show (s₁.gens.setIfInBounds g st').size = _; simp
    have := I.gsz
    omega
  · rw [List.mem_singleton.mp hx]
    refine ⟨?_, hg.2⟩
    show (s₁.gens.setIfInBounds g st')[g]? = _
    rw [Array.getElem?_setIfInBounds_self_of_lt hlt1]
  · intro y hy
    have hy' : y ∈ s₁.gens.setIfInBounds g st' := hy
    rw [Array.mem_iff_getElem] at hy'
    obtain ⟨i, hi, e⟩ := hy'
    rw [Array.getElem_setIfInBounds] at e
    split at e
    · rw [← e]; exact hb
    · rw [← e]; exact J.bare _ (Array.getElem_mem _)
    · simpa using hi
end

/-! the wakings as events -/
structure Wy where
  (G si en : Nat) (y : Ik) (x : Str) (t jp tp : Nat) (ch last : Value)
noncomputable def natN : Value → Nat
  | .int i _ => i.toNat
  | _ => 0
noncomputable def wyOf (iG is ie : Nat) (cs : Cells) : Wy := ⟨adAt cs iG, adAt cs is, adAt cs ie, ⟨keyTok cs iG 0, keyTok cs iG 1, keyTok cs iG 2, keyTok cs iG 3⟩, itX (objAt cs is), itT (objAt cs is), natN (nthE (entsOf (objAt cs iG)) 1).val, valTok cs iG 1, (nthE (entsOf (objAt cs iG)) 3).val, nthV (fldsOf (objAt cs ie)) 5⟩
noncomputable def preI (P : Params) (iG is ie : Nat) (z : Wy) (j : Nat) (esc : Bool) : PreC := [(iG, z.G, oI P z.y z.x z.t z.jp z.tp esc z.ch), (is, z.si, itO false (.str z.x z.t) j), (ie, z.en, enumO z.si j z.last)]
structure PostG where
  res : GenResult
  st : GenState
  objs : List Obj
  news : Cells
  tk : Nat
/-- a waking from cells before -/
noncomputable def wkOf (st0 : GenState) (pre : PreC) (rq : Prop) (post : List Nat → PostG) : GkF := fun _ cs _ st ns => match chkPre cs pre with
  | some l => some { res := (post ns).res, st := (post ns).st, upd := updOf pre (post ns).objs, news := (post ns).news, tk := (post ns).tk, chk := (.g st, .g st0) :: (.p rq, .p True) :: l }
  | none => none
theorem GkSound.by {M : Model} {kt : KT} {m : Nat} {α : Type} (f : List (Code × Pos) → Cells → Nat → α) {F : α → GkF} (h : ∀ y, GkSound M kt m (F y)) : GkSound M kt m (fun bl cs tk st ns => F (f bl cs tk) bl cs tk st ns) :=
  fun c p bl cs tk g st s₀ T s I H => h (f ((c, p) :: bl) cs tk) c p bl cs tk g st s₀ T s I H
theorem pre_nodup {cs : Cells} (hn : (cs.map (·.1)).Nodup) : ∀ (pre : PreC), (pre.map (·.1)).Nodup → (∀ x ∈ pre, getC cs x.1 = some (x.2.1, x.2.2)) → ((cells0 pre).map (·.1)).Nodup := by
  have inj : ∀ (cs : Cells) (i j : Nat) (a : Addr) (o o' : Obj), (cs.map (·.1)).Nodup → getC cs i = some (a, o) → getC cs j = some (a, o') → i = j := by
    intro cs
    induction cs with
    | nil => intro i j a o o' _ h; cases h
    | cons v l ih2 =>
      intro i j a o o' hn h h'
      have hn' := List.nodup_cons.mp hn
      cases i with
      | zero =>
        cases j with
        | zero => rfl
        | succ j =>
          have e : v = (a, o) := Option.some.inj h
          subst e
          exact absurd (List.mem_map_of_mem (f := (·.1)) (getC_mem (cs := l) (i := j) h')) hn'.1
      | succ i =>
        cases j with
        | zero =>
          have e : v = (a, o') := Option.some.inj h'
          subst e
          exact absurd (List.mem_map_of_mem (f := (·.1)) (getC_mem (cs := l) (i := i) h)) hn'.1
        | succ j => rw [ih2 i j a o o' hn'.2 h h']
  intro pre
  induction pre with
  | nil => exact fun _ _ => List.nodup_nil
  | cons x r ih =>
    intro h1 h2
    have h1' := List.nodup_cons.mp h1
    refine List.nodup_cons.mpr ⟨fun h => ?_, ih h1'.2 fun y hy => h2 y (.tail _ hy)⟩
    obtain ⟨z, hz, e⟩ := List.mem_map.mp h
    obtain ⟨y, hy, rfl⟩ := List.mem_map.mp hz
    have ex := h2 x (.head _)
    have ey := h2 y (.tail _ hy)
    have ne : x.1 ≠ y.1 := fun e => h1'.1 (by show x.1 ∈ _; rw [e]; exact List.mem_map_of_mem (f := (·.1)) hy)
    have e' : y.2.1 = x.2.1 := e
    rw [e'] at ey
    exact ne (inj cs _ _ _ _ _ hn ex ey)
theorem wkOf_sound {M : Model} {kt : KT} {m : Nat} {st0 : GenState} {pre : PreC} {rq : Prop} {post : List Nat → PostG} (hi : (pre.map (·.1)).Nodup)
    (spec : rq → ∀ s tk g c p bl s', s.gens[g]? = some st0 → s' = s.setGen g .running → Inv kt s' ((cells0 pre).map (·.1)) s' (cells0 pre) tk → ∃ ns s₁, ns.length = m ∧ Wakes M (cx c bl) p g (.send .none) s (post ns).res (s₁.setGen g (post ns).st) ∧ (post ns).st.bare = true ∧ (post ns).objs.length = pre.length ∧ Inv kt s' ((cells0 pre).map (·.1)) s₁ (cellsP pre (post ns).objs ++ (post ns).news) (post ns).tk) :
    GkSound M kt m (wkOf st0 pre rq post) := by
  intro c p bl cs tk g st s₀ T s I H
  obtain ⟨po, hF, chk⟩ := H (List.replicate m 0) (by simp)
  unfold wkOf at hF
  split at hF
  · rename_i l hl
    cases hF
    have e1 : st = st0 := Item.g.inj (chk _ (.head _))
    have e2 : rq := by rw [Item.p.inj (chk _ (.tail _ (.head _)))]; trivial
    subst e1
    have hg := chkPre_spec hl fun q hm => chk q (.tail _ (.tail _ hm))
    have sub : ∀ x ∈ cells0 pre, x ∈ cs := fun x hx => by
      obtain ⟨y, hy, rfl⟩ := List.mem_map.mp hx
      exact getC_mem (hg y hy)
    have nd := pre_nodup I.nodup pre hi hg
    have W := I.wakes
    have W' : Inv kt (s.setGen g .running) ((cells0 pre).map (·.1)) (s.setGen g .running) (cells0 pre) tk :=
      ⟨W.st, fun x hx => W.cell x (sub x hx), nd, fun x hx => W.apart x (sub x hx), fun x hx => .inl (List.mem_map_of_mem hx), W.tk, fun _ _ e _ => e, fun _ h => h, fun _ _ e => e, Nat.le_refl _, fun _ hx => (nomatch hx), W.bare, rfl⟩
    obtain ⟨ns, s₁, hn, hW, hbare, ho, J⟩ := spec e2 s tk g c p bl _ (I.gs (g, st) (.head _)).1 rfl W'
    refine ⟨ns, _, _, hn, by unfold wkOf; rw [hl], hW, ?_⟩
    show Inv kt s₀ T _ (setAll cs (updOf pre (post ns).objs) ++ (post ns).news) _ [(g, (post ns).st)]
    have T₁ := cellsP_fst pre _ ho
    have fresh : ∀ x ∈ (post ns).news, s.heap.get? x.1 = none := fun x hx => by
      rcases J.mine x (List.mem_append.mpr (.inr hx)) with z | z
      · have := J.nodup
        rw [List.map_append, T₁, List.nodup_append] at this
        exact absurd rfl (this.2.2 x.1 z x.1 (List.mem_map_of_mem hx))
      · exact z
    refine I.lays J hbare (fun a ha => ?_) (fun x hx => ?_) ?_
    · obtain ⟨x, hx, rfl⟩ := List.mem_map.mp ha
      exact List.mem_map_of_mem (sub x hx)
    · rcases List.mem_append.mp hx with h | h
      · rcases setAll_mem pre _ cs I.nodup hi ho hg x h with q | q
        · exact .inl (List.mem_append.mpr (.inl q))
        · exact .inr q
      · exact .inl (List.mem_append.mpr (.inr h))
    · rw [List.map_append, setAll_fst, List.nodup_append]
      have := J.nodup
      rw [List.map_append, List.nodup_append] at this
      refine ⟨I.nodup, this.2.1, fun a ha a' ha' e => ?_⟩
      obtain ⟨x, hx, rfl⟩ := List.mem_map.mp ha
      obtain ⟨y, hy, rfl⟩ := List.mem_map.mp ha'
      have z := fresh y hy
      rw [← e, I.cell x hx] at z
      cases z
  · cases hF

/-- from a state to a unit of one sign -/
noncomputable def wkO (w : World) (b b2 : Bool) (e : Bool) (j c1 iG is ie : Nat) : GkF := fun bl cs tk st ns => (fun (z : Wy) => wkOf (stS w b b2 e z.G z.en) (preI (fP w b b2) iG is ie z j e) (z.x.cps[j]? = some c1 ∧ (c1 = 40 ∨ c1 = 41)) fun ns =>
  ⟨.yielded (.ref (getN ns 0)), stS w b b2 false z.G z.en, [oI (fP w b b2) z.y z.x z.t j (getN ns 1) false (.str ⟨⟨[c1]⟩⟩ (getN ns 2)), itO false (.str z.x z.t) (j + 1), enumO z.si (j + 1) (.str ⟨⟨[c1]⟩⟩ (getN ns 2))], [(getN ns 0, tupO [.int (j : Nat) (getN ns 1), .str ⟨⟨[c1]⟩⟩ (getN ns 2)])], getN ns 3⟩) (wyOf iG is ie cs) bl cs tk st ns
/-- to a unit of two signs -/
noncomputable def wkE (w : World) (b b2 : Bool) (e : Bool) (j c1 iG is ie : Nat) : GkF := fun bl cs tk st ns => (fun (z : Wy) => wkOf (stS w b b2 e z.G z.en) (preI (fP w b b2) iG is ie z j e) (z.x.cps[j]? = some 92 ∧ z.x.cps[j + 1]? = some c1) fun ns =>
  ⟨.yielded (.ref (getN ns 0)), stS w b b2 true z.G z.en, [oI (fP w b b2) z.y z.x z.t (j + 1) (getN ns 1) true (.str ⟨⟨[c1]⟩⟩ (getN ns 2)), itO false (.str z.x z.t) (j + 1 + 1), enumO z.si (j + 1 + 1) (.str ⟨⟨[c1]⟩⟩ (getN ns 2))], [(getN ns 0, tupO [.int ((j + 1 : Nat)) (getN ns 1), .str ⟨⟨[92, c1]⟩⟩ (getN ns 4)])], getN ns 3⟩) (wyOf iG is ie cs) bl cs tk st ns
/-- to the end -/
noncomputable def wkX (w : World) (b b2 : Bool) (e : Bool) (j iG is ie : Nat) : GkF := fun bl cs tk st ns => (fun (z : Wy) => wkOf (stS w b b2 e z.G z.en) (preI (fP w b b2) iG is ie z j e) (z.x.cps[j]? = none) fun ns =>
  ⟨.returned .none, .finished, [oI (fP w b b2) z.y z.x z.t z.jp z.tp false z.ch, itO false .none j, enumO z.si j z.last], [], getN ns 0⟩) (wyOf iG is ie cs) bl cs tk st ns
section
variable {w : World} {b b2 : Bool}
theorem wake_run {st0 : GenState} {k : Resume → Sem Fin} {G en : Nat} {pos : Pos} (he : st0 = .suspended k [] (cI G en) pos [Frm.fr (frI w b b2 G en)] false) {s s₀ : Shared} {T : List Addr} {g N tk : Nat} {c : Code} {p : Pos} {bl : List (Code × Pos)} {cs : Cells} {log : List Ev}
    (m : List Bool) {o : List Nat → Out} {cs' : List Nat → Cells} {ps : List Nat → List Prop} (hg : s.gens[g]? = some st0)
    (H : ∀ sup : List Nat, sup.length = N → okS m (runT w b b2 log (k (.send .none)) (cI G en) pos (blI' w b b2 G en ((c, p) :: bl)) [frI w b b2 G en] cs tk sup) (o sup) (cs' sup) (ps sup))
    (hps : ∀ sup : List Nat, sup.length = N → ∀ P ∈ ps sup, P) (hna : ∀ sup, notAgain (o sup))
    (hl : LogSound (MM w b b2) (KT' w b b2) log) (I : Inv (KT' w b b2) s₀ T (s.setGen g .running) cs tk) (hq : ∀ sup, (endOf (o sup)).quiet = true) :
    ∃ (sup : List Nat) (s₁ : Shared) (tk' : Nat), sup.length = N ∧ Wakes (MM w b b2) (cx c bl) p g (.send .none) s (endOf (o sup)).result (s₁.setGen g (endOf (o sup)).genState) ∧ Inv (KT' w b b2) s₀ T s₁ (cs' sup) tk' := by
  obtain ⟨e, s₁, hr, sup, tk', hs, rfl, J⟩ := gen_run (bl₀ := (c, p) :: bl) (κ := [frI w b b2 G en]) m H hps hna hl I
  refine ⟨sup, s₁, tk', hs, ?_, J⟩
  unfold Wakes
  rw [hg, he]
  exact ⟨_, s₁, hr, hq sup, rfl, rfl⟩
theorem iwk {iG is ie : Nat} (h : [iG, is, ie].Nodup) (P : Params) (z : Wy) (j : Nat) (e : Bool) : ((preI P iG is ie z j e).map (·.1)).Nodup := h
theorem wkO_sound (e : Bool) (j c1 iG is ie : Nat) (hi : [iG, is, ie].Nodup) : GkSound (MM w b b2) (KT' w b b2) 4 (wkO w b b2 e j c1 iG is ie) := by
  refine GkSound.by (fun _ cs _ => wyOf iG is ie cs) (F := fun z => wkOf (stS w b b2 e z.G z.en) (preI (fP w b b2) iG is ie z j e) (z.x.cps[j]? = some c1 ∧ (c1 = 40 ∨ c1 = 41)) fun ns =>
    ⟨.yielded (.ref (getN ns 0)), stS w b b2 false z.G z.en, [oI (fP w b b2) z.y z.x z.t j (getN ns 1) false (.str ⟨⟨[c1]⟩⟩ (getN ns 2)), itO false (.str z.x z.t) (j + 1), enumO z.si (j + 1) (.str ⟨⟨[c1]⟩⟩ (getN ns 2))], [(getN ns 0, tupO [.int (j : Nat) (getN ns 1), .str ⟨⟨[c1]⟩⟩ (getN ns 2)])], getN ns 3⟩) fun z => ?_
  refine wkOf_sound (iwk hi _ _ _ _) fun hq s tk g c p bl s' hg hs' I => ?_
  subst hs'
  obtain ⟨hx, h4 | h4⟩ := hq <;> subst h4 <;> cases e
  · obtain ⟨sup, s₁, tk', hs, hW, J⟩ := wake_run (st0 := stO w b b2 z.G z.en) rfl _ hg (fun sup hs => segO40 w b b2 _ _ z.G z.si z.en z.y z.x z.t j z.jp z.tp tk z.ch z.last sup hs) (fun sup hs => one_p hx) (fun _ => trivial) ⟨skE_sound _ _ _ _ (by decide), trivial⟩ I (fun _ => qt_outO _ _ _ _ _ _)
    rw [gs_outO] at hW
    exact ⟨[getN sup 9, tk + 1, tk, tk'], s₁, rfl, hW, rfl, rfl, J⟩
  · obtain ⟨sup, s₁, tk', hs, hW, J⟩ := wake_run (st0 := stE w b b2 z.G z.en) rfl _ hg (fun sup hs => segE40 w b b2 _ _ z.G z.si z.en z.y z.x z.t j z.jp z.tp tk z.ch z.last sup hs) (fun sup hs => one_p hx) (fun _ => trivial) ⟨skE_sound _ _ _ _ (by decide), trivial⟩ I (fun _ => qt_outO _ _ _ _ _ _)
    rw [gs_outO] at hW
    exact ⟨[getN sup 9, tk + 2, tk + 1, tk'], s₁, rfl, hW, rfl, rfl, J⟩
  · obtain ⟨sup, s₁, tk', hs, hW, J⟩ := wake_run (st0 := stO w b b2 z.G z.en) rfl _ hg (fun sup hs => segO41 w b b2 _ _ z.G z.si z.en z.y z.x z.t j z.jp z.tp tk z.ch z.last sup hs) (fun sup hs => one_p hx) (fun _ => trivial) ⟨skE_sound _ _ _ _ (by decide), trivial⟩ I (fun _ => qt_outO _ _ _ _ _ _)
    rw [gs_outO] at hW
    exact ⟨[getN sup 9, tk + 1, tk, tk'], s₁, rfl, hW, rfl, rfl, J⟩
  · obtain ⟨sup, s₁, tk', hs, hW, J⟩ := wake_run (st0 := stE w b b2 z.G z.en) rfl _ hg (fun sup hs => segE41 w b b2 _ _ z.G z.si z.en z.y z.x z.t j z.jp z.tp tk z.ch z.last sup hs) (fun sup hs => one_p hx) (fun _ => trivial) ⟨skE_sound _ _ _ _ (by decide), trivial⟩ I (fun _ => qt_outO _ _ _ _ _ _)
    rw [gs_outO] at hW
    exact ⟨[getN sup 9, tk + 2, tk + 1, tk'], s₁, rfl, hW, rfl, rfl, J⟩
theorem wkE_sound (e : Bool) (j c1 iG is ie : Nat) (hi : [iG, is, ie].Nodup) : GkSound (MM w b b2) (KT' w b b2) 5 (wkE w b b2 e j c1 iG is ie) := by
  refine GkSound.by (fun _ cs _ => wyOf iG is ie cs) (F := fun z => wkOf (stS w b b2 e z.G z.en) (preI (fP w b b2) iG is ie z j e) (z.x.cps[j]? = some 92 ∧ z.x.cps[j + 1]? = some c1) fun ns =>
    ⟨.yielded (.ref (getN ns 0)), stS w b b2 true z.G z.en, [oI (fP w b b2) z.y z.x z.t (j + 1) (getN ns 1) true (.str ⟨⟨[c1]⟩⟩ (getN ns 2)), itO false (.str z.x z.t) (j + 1 + 1), enumO z.si (j + 1 + 1) (.str ⟨⟨[c1]⟩⟩ (getN ns 2))], [(getN ns 0, tupO [.int ((j + 1 : Nat)) (getN ns 1), .str ⟨⟨[92, c1]⟩⟩ (getN ns 4)])], getN ns 3⟩) fun z => ?_
  refine wkOf_sound (iwk hi _ _ _ _) fun hq s tk g c p bl s' hg hs' I => ?_
  subst hs'
  obtain ⟨h1, h2⟩ := hq
  cases e
  · obtain ⟨sup, s₁, tk', hs, hW, J⟩ := wake_run (st0 := stO w b b2 z.G z.en) rfl _ hg (fun sup hs => segOE w b b2 _ _ z.G z.si z.en z.y z.x z.t j z.jp z.tp tk z.ch z.last c1 sup hs) (fun sup hs => all_p2 h2 h1) (fun _ => trivial) ⟨skE_sound _ _ _ _ (by decide), skE_sound _ _ _ _ (by decide), trivial⟩ I (fun _ => qt_outE _ _ _ _ _ _)
    rw [gs_outE] at hW
    exact ⟨[getN sup 18, getN sup 5 + 5, getN sup 5 + 4, tk', getN sup 14 + 3], s₁, rfl, hW, rfl, rfl, J⟩
  · obtain ⟨sup, s₁, tk', hs, hW, J⟩ := wake_run (st0 := stE w b b2 z.G z.en) rfl _ hg (fun sup hs => segEE w b b2 _ _ z.G z.si z.en z.y z.x z.t j z.jp z.tp tk z.ch z.last c1 sup hs) (fun sup hs => all_p2 h2 h1) (fun _ => trivial) ⟨skE_sound _ _ _ _ (by decide), skE_sound _ _ _ _ (by decide), trivial⟩ I (fun _ => qt_outE _ _ _ _ _ _)
    rw [gs_outE] at hW
    exact ⟨[getN sup 18, getN sup 5 + 5, getN sup 5 + 4, tk', getN sup 14 + 3], s₁, rfl, hW, rfl, rfl, J⟩
theorem wkX_sound (e : Bool) (j iG is ie : Nat) (hi : [iG, is, ie].Nodup) : GkSound (MM w b b2) (KT' w b b2) 1 (wkX w b b2 e j iG is ie) := by
  refine GkSound.by (fun _ cs _ => wyOf iG is ie cs) (F := fun z => wkOf (stS w b b2 e z.G z.en) (preI (fP w b b2) iG is ie z j e) (z.x.cps[j]? = none) fun ns =>
    ⟨.returned .none, .finished, [oI (fP w b b2) z.y z.x z.t z.jp z.tp false z.ch, itO false .none j, enumO z.si j z.last], [], getN ns 0⟩) fun z => ?_
  refine wkOf_sound (iwk hi _ _ _ _) fun hq s tk g c p bl s' hg hs' I => ?_
  subst hs'
  cases e
  · obtain ⟨sup, s₁, tk', hs, hW, J⟩ := wake_run (st0 := stO w b b2 z.G z.en) rfl _ hg (fun sup hs => segOX w b b2 _ _ z.G z.si z.en z.y z.x z.t j z.jp z.tp tk z.ch z.last sup hs) (fun sup hs => one_p hq) (fun _ => trivial) ⟨nextEF_sound _ _ _ _ _ _, trivial⟩ I (fun _ => rfl)
    exact ⟨[tk'], s₁, rfl, hW, rfl, rfl, J⟩
  · obtain ⟨sup, s₁, tk', hs, hW, J⟩ := wake_run (st0 := stE w b b2 z.G z.en) rfl _ hg (fun sup hs => segEX w b b2 _ _ z.G z.si z.en z.y z.x z.t j z.jp z.tp tk z.ch z.last sup hs) (fun sup hs => one_p hq) (fun _ => trivial) ⟨nextEF_sound _ _ _ _ _ _, trivial⟩ I (fun _ => rfl)
    exact ⟨[tk'], s₁, rfl, hW, rfl, rfl, J⟩
theorem wake_fresh {G : Nat} {s s₀ : Shared} {T : List Addr} {g N tk : Nat} {c : Code} {p : Pos} {bl : List (Code × Pos)} {cs : Cells} {log : List Ev}
    (m : List Bool) {o : List Nat → Out} {cs' : List Nat → Cells} {ps : List Nat → List Prop} (hg : s.gens[g]? = some (.fresh (cI0 G)))
    (H : ∀ sup : List Nat, sup.length = N → okS m (runT w b b2 log (denF (cI0 G)) (cI0 G) p ((c, p) :: bl) [] cs tk sup) (o sup) (cs' sup) (ps sup))
    (hps : ∀ sup : List Nat, sup.length = N → ∀ P ∈ ps sup, P) (hna : ∀ sup, notAgain (o sup))
    (hl : LogSound (MM w b b2) (KT' w b b2) log) (I : Inv (KT' w b b2) s₀ T (s.setGen g .running) cs tk) (hq : ∀ sup, (endOf (o sup)).quiet = true) :
    ∃ (sup : List Nat) (s₁ : Shared) (tk' : Nat), sup.length = N ∧ Wakes (MM w b b2) (cx c bl) p g (.send .none) s (endOf (o sup)).result (s₁.setGen g (endOf (o sup)).genState) ∧ Inv (KT' w b b2) s₀ T s₁ (cs' sup) tk' := by
  obtain ⟨e, s₁, hr, sup, tk', hs, rfl, J⟩ := gen_run (bl₀ := (c, p) :: bl) (κ := []) m H hps hna hl I
  refine ⟨sup, s₁, tk', hs, ?_, J⟩
  unfold Wakes
  rw [hg]
  refine ⟨_, s₁, ?_, hq sup, rfl, rfl⟩
  rw [MM_den]
  exact hr
end
structure Wf where
  (G ka : Nat) (x : Str) (t : Nat)
noncomputable def frX (o : Obj) : Str := match (nthE (entsOf o) 0).val with
  | .str x _ => x
  | _ => ⟨⟨[]⟩⟩
noncomputable def wfOf (iG : Nat) (cs : Cells) : Wf := ⟨adAt cs iG, keyTok cs iG 0, frX (objAt cs iG), valTok cs iG 0⟩
/-- the first waking, to a unit of one sign -/
noncomputable def wkFO (w : World) (b b2 : Bool) (c1 iG : Nat) : GkF := fun bl cs tk st ns => (fun (z : Wf) => wkOf (.fresh (cI0 z.G)) [(iG, z.G, oI0 (fP w b b2) z.ka z.x z.t)] (z.x.cps[0]? = some c1 ∧ (c1 = 40 ∨ c1 = 41) ∧ z.x.cps.all (· < 128) = true) fun ns =>
  ⟨.yielded (.ref (getN ns 0)), stS w b b2 false z.G (getN ns 2), [oI (fP w b b2) ⟨z.ka, getN ns 3, getN ns 4, getN ns 5⟩ z.x z.t 0 (getN ns 6) false (.str ⟨⟨[c1]⟩⟩ (getN ns 7))],
    [(getN ns 1, itO false (.str z.x z.t) 1), (getN ns 2, enumO (getN ns 1) 1 (.str ⟨⟨[c1]⟩⟩ (getN ns 7))), (getN ns 0, tupO [.int ((0 : Nat)) (getN ns 6), .str ⟨⟨[c1]⟩⟩ (getN ns 7)])], getN ns 8⟩) (wfOf iG cs) bl cs tk st ns
noncomputable def wkFE (w : World) (b b2 : Bool) (c1 iG : Nat) : GkF := fun bl cs tk st ns => (fun (z : Wf) => wkOf (.fresh (cI0 z.G)) [(iG, z.G, oI0 (fP w b b2) z.ka z.x z.t)] (z.x.cps[0]? = some 92 ∧ z.x.cps[1]? = some c1 ∧ z.x.cps.all (· < 128) = true) fun ns =>
  ⟨.yielded (.ref (getN ns 0)), stS w b b2 true z.G (getN ns 2), [oI (fP w b b2) ⟨z.ka, getN ns 3, getN ns 4, getN ns 5⟩ z.x z.t 1 (getN ns 6) true (.str ⟨⟨[c1]⟩⟩ (getN ns 7))],
    [(getN ns 1, itO false (.str z.x z.t) 2), (getN ns 2, enumO (getN ns 1) 2 (.str ⟨⟨[c1]⟩⟩ (getN ns 7))), (getN ns 0, tupO [.int ((1 : Nat)) (getN ns 6), .str ⟨⟨[92, c1]⟩⟩ (getN ns 9)])], getN ns 8⟩) (wfOf iG cs) bl cs tk st ns
section
variable {w : World} {b b2 : Bool}
theorem wkFO_sound (c1 iG : Nat) : GkSound (MM w b b2) (KT' w b b2) 9 (wkFO w b b2 c1 iG) := by
  refine GkSound.by (fun _ cs _ => wfOf iG cs) (F := fun z => wkOf (.fresh (cI0 z.G)) [(iG, z.G, oI0 (fP w b b2) z.ka z.x z.t)] (z.x.cps[0]? = some c1 ∧ (c1 = 40 ∨ c1 = 41) ∧ z.x.cps.all (· < 128) = true) fun ns =>
    ⟨.yielded (.ref (getN ns 0)), stS w b b2 false z.G (getN ns 2), [oI (fP w b b2) ⟨z.ka, getN ns 3, getN ns 4, getN ns 5⟩ z.x z.t 0 (getN ns 6) false (.str ⟨⟨[c1]⟩⟩ (getN ns 7))],
      [(getN ns 1, itO false (.str z.x z.t) 1), (getN ns 2, enumO (getN ns 1) 1 (.str ⟨⟨[c1]⟩⟩ (getN ns 7))), (getN ns 0, tupO [.int ((0 : Nat)) (getN ns 6), .str ⟨⟨[c1]⟩⟩ (getN ns 7)])], getN ns 8⟩) fun z => ?_
  refine wkOf_sound (by simp) fun hq s tk g c p bl s' hg hs' I => ?_
  subst hs'
  obtain ⟨hx, h4 | h4, ha⟩ := hq <;> subst h4
  · obtain ⟨sup, s₁, tk', hs, hW, J⟩ := wake_fresh _ hg (fun sup hs => segF40 w b b2 p _ z.G z.ka z.x z.t tk sup hs) (fun sup hs => all_p2 hx ha) (fun _ => trivial) ⟨strIter_sound _ _ _ _, skE_sound _ _ _ _ (by decide), trivial⟩ I (fun _ => qt_outO _ _ _ _ _ _)
    rw [gs_outO] at hW
    exact ⟨[getN sup 11, getN sup 0, getN sup 1, tk + 1, tk + 2, getN sup 7 + 1, tk + 4, tk + 3, tk'], s₁, rfl, hW, rfl, rfl, J⟩
  · obtain ⟨sup, s₁, tk', hs, hW, J⟩ := wake_fresh _ hg (fun sup hs => segF41 w b b2 p _ z.G z.ka z.x z.t tk sup hs) (fun sup hs => all_p2 hx ha) (fun _ => trivial) ⟨strIter_sound _ _ _ _, skE_sound _ _ _ _ (by decide), trivial⟩ I (fun _ => qt_outO _ _ _ _ _ _)
    rw [gs_outO] at hW
    exact ⟨[getN sup 11, getN sup 0, getN sup 1, tk + 1, tk + 2, getN sup 7 + 1, tk + 4, tk + 3, tk'], s₁, rfl, hW, rfl, rfl, J⟩
theorem wkFE_sound (c1 iG : Nat) : GkSound (MM w b b2) (KT' w b b2) 10 (wkFE w b b2 c1 iG) := by
  refine GkSound.by (fun _ cs _ => wfOf iG cs) (F := fun z => wkOf (.fresh (cI0 z.G)) [(iG, z.G, oI0 (fP w b b2) z.ka z.x z.t)] (z.x.cps[0]? = some 92 ∧ z.x.cps[1]? = some c1 ∧ z.x.cps.all (· < 128) = true) fun ns =>
    ⟨.yielded (.ref (getN ns 0)), stS w b b2 true z.G (getN ns 2), [oI (fP w b b2) ⟨z.ka, getN ns 3, getN ns 4, getN ns 5⟩ z.x z.t 1 (getN ns 6) true (.str ⟨⟨[c1]⟩⟩ (getN ns 7))],
      [(getN ns 1, itO false (.str z.x z.t) 2), (getN ns 2, enumO (getN ns 1) 2 (.str ⟨⟨[c1]⟩⟩ (getN ns 7))), (getN ns 0, tupO [.int ((1 : Nat)) (getN ns 6), .str ⟨⟨[92, c1]⟩⟩ (getN ns 9)])], getN ns 8⟩) fun z => ?_
  refine wkOf_sound (by simp) fun hq s tk g c p bl s' hg hs' I => ?_
  subst hs'
  obtain ⟨h1, h2, ha⟩ := hq
  obtain ⟨sup, s₁, tk', hs, hW, J⟩ := wake_fresh _ hg (fun sup hs => segFE w b b2 p _ z.G z.ka z.x z.t tk c1 sup hs) (fun sup hs => all_p3 h2 h1 ha) (fun _ => trivial) ⟨strIter_sound _ _ _ _, skE_sound _ _ _ _ (by decide), skE_sound _ _ _ _ (by decide), trivial⟩ I (fun _ => qt_outE _ _ _ _ _ _)
  rw [gs_outE] at hW
  exact ⟨[getN sup 20, getN sup 0, getN sup 1, tk + 1, tk + 2, getN sup 7 + 1, getN sup 7 + 5, getN sup 7 + 4, tk', getN sup 16 + 3], s₁, rfl, hW, rfl, rfl, J⟩
end
end Mine

/-! part BR -/
namespace Mine
open PySem PySem.W PySem.W.X PySem.Spec PySem.Calls PyProof.Rows

/-! runs that move a generator -/
noncomputable abbrev runG (w : World) (b b2 : Bool) (log : List Ev) (c : Code) (p : Pos) (bl : List (Code × Pos)) (cs : Cells) (tk : Nat) (gs : List (Nat × GenState)) (sup : List Nat) : Option Res :=
  run denF pw (fP w b b2) (ktS (fP w b b2)) 1000000 log (denF c) c p bl [] cs tk gs [] sup
noncomputable def okG (m : List Bool) (r : Option Res) (oc : OC) (cs : Cells) (gs : List (Nat × GenState)) (ps : List Prop) : Prop :=
  r.map (fun x => (x.out.oc, pick m x.cs, x.gs, (noP x.prs).map (·.1), onP x.prs)) = some (oc, cs, gs, prsN r, ps)
theorem okG.ex {m : List Bool} {r : Option Res} {oc : OC} {cs : Cells} {gs : List (Nat × GenState)} {ps : List Prop} (h : okG m r oc cs gs ps) (hp : ∀ P ∈ ps, P) : ∃ x, r = some x ∧ x.out.oc = oc ∧ pick m x.cs = cs ∧ x.gs = gs ∧ ∀ q ∈ x.prs, q.1 = q.2 := by
  unfold okG at h
  cases r with
  | none => cases h
  | some x =>
    simp only [Option.map_some, Option.some.injEq, Prod.mk.injEq, prsN] at h
    obtain ⟨a, b, d, e, f⟩ := h
    exact ⟨x, rfl, a, b, d, splitP (pairs_eq e) (by rw [f]; exact hp)⟩
theorem segG {w : World} {b b2 : Bool} {s₀ s : Shared} {T : List Addr} {R : Result → Shared → Prop} {N : Nat} {log : List Ev} {c : Code} {p : Pos} {bl : List (Code × Pos)} {cs : Cells} {tk : Nat} {gs : List (Nat × GenState)}
    (m : List Bool) {oc : List Nat → OC} {cs' : List Nat → Cells} {gs' : List Nat → List (Nat × GenState)} {ps : List Nat → List Prop}
    (H : ∀ sup : List Nat, sup.length = N → okG m (runG w b b2 log c p bl cs tk gs sup) (oc sup) (cs' sup) (gs' sup) (ps sup))
    (hps : ∀ sup : List Nat, sup.length = N → ∀ P ∈ ps sup, P)
    (hl : LogSound (MM w b b2) (KT' w b b2) log) (I : Inv (KT' w b b2) s₀ T s cs tk gs)
    (en : ∀ (sup : List Nat) s' tk', sup.length = N → Inv (KT' w b b2) s₀ T s' (cs' sup) tk' (gs' sup) → match oc sup with
      | .fin res => R res s'
      | .again c => ∀ p, wpCode (MM w b b2) (cx c bl) R p s'
      | .susp _ => False) : wpCode (MM w b b2) (cx c bl) R p s := by
  rw [wpCode_iff_wp]
  show Sem.wp (MM w b b2) (cx c bl) ((MM w b b2).den c) _ _ p s
  rw [MM_den]
  refine run_sound (MM_den w b b2) rfl rfl (s₀ := s₀) (T := T) (R := R) (bl₀ := bl) 1000000 log (denF c) c p bl [] cs tk gs [] N s rfl (fun sup hs => ?_) hl I
  obtain ⟨x, e, e1, e2, e4, e5⟩ := (H sup hs).ex (hps sup hs)
  refine ⟨x, e, e5, fun s' I' => ?_⟩
  rw [e4] at I'
  have I2 := I'.forget (pick_sub m x.cs)
  rw [e2] at I2
  have z := en sup s' _ hs I2
  rw [← e1] at z
  revert z
  cases x.out with
  | fin r => exact id
  | again c p => exact fun z => z p
  | susp => exact id
section
variable {kt : KT} {s₀ s s' : Shared} {T T₁ : List Addr} {cs nc nc' cs₂ : Cells} {tk tk' : Nat} {gs gs' : List (Nat × GenState)}
theorem Inv.noG (I : Inv kt s₀ T s cs tk gs) : Inv kt s₀ T s cs tk [] :=
  ⟨I.st, I.cell, I.nodup, I.apart, I.mine, I.tk, I.keep, I.size, I.gens, I.gsz, fun _ hx => (nomatch hx), I.bare, I.os⟩
theorem Inv.focusG (I : Inv kt s₀ T s cs tk gs) (h : ∀ x ∈ nc, x ∈ cs) (nd : (nc.map (·.1)).Nodup) : Inv kt { s with gens := s₀.gens } (nc.map (·.1)) s nc tk gs :=
  ⟨I.st, fun x hx => I.cell x (h x hx), nd, fun x hx => I.apart x (h x hx), fun x hx => .inl (List.mem_map_of_mem hx), I.tk, fun _ _ e _ => e, fun _ h => h, I.gens, I.gsz, I.gs, I.bare, rfl⟩
theorem Inv.transG (I : Inv kt s₀ T s cs tk gs) (J : Inv kt { s with gens := s₀.gens } T₁ s' nc' tk' gs') (hT : ∀ a ∈ T₁, a ∈ cs.map (·.1)) (h : ∀ x ∈ cs₂, x ∈ nc' ∨ (x ∈ cs ∧ x.1 ∉ T₁)) (nd : (cs₂.map (·.1)).Nodup) : Inv kt s₀ T s' cs₂ tk' gs' := by
  have hT' : ∀ a ∈ T₁, a ∈ T ∨ s₀.heap.get? a = none := fun a ha => by
    obtain ⟨x, hx, rfl⟩ := List.mem_map.mp (hT a ha)
    exact I.mine x hx
  refine ⟨J.st, fun x hx => ?_, nd, fun x hx => ?_, fun x hx => ?_, J.tk, fun b o e hb => ?_, fun b hb => J.size b (I.size b hb), J.gens, J.gsz, J.gs, J.bare, J.os.trans I.os⟩
  · rcases h x hx with q | ⟨q, q'⟩
    · exact J.cell x q
    · exact J.keep _ _ (I.cell x q) q'
  · rcases h x hx with q | ⟨q, q'⟩
    · exact J.apart x q
    · exact I.apart x q
  · rcases h x hx with q | ⟨q, q'⟩
    · rcases J.mine x q with z | z
      · exact hT' _ z
      · by_cases ht : x.1 ∈ T
        · exact .inl ht
        · right
          cases e : s₀.heap.get? x.1 with
          | none => rfl
          | some o =>
            have z' : s.heap.get? x.1 = none := z
            rw [I.keep _ _ e ht] at z'; cases z'
    · exact I.mine x q
  · refine J.keep b o (I.keep b o e hb) fun q => ?_
    rcases hT' b q with z | z
    · exact hb z
    · rw [z] at e; cases e
end
/-- a contract over a code that uses up a generator -/
structure PostR where
  res : Result
  objs : List Obj
  news : Cells
  tk : Nat
noncomputable def cgOf (code : Code) (blE : Pos → List (Code × Pos)) (g0 : Nat) (st0 : GenState) (pre : PreC) (rq : Prop) (post : List Nat → PostR) : CgF := fun c bl cs _ gs ns => match gs, chkPre cs pre with
  | [(g, st)], some l => some { res := (post ns).res, upd := updOf pre (post ns).objs, news := (post ns).news, tk := (post ns).tk, gs := [], chk := (.a g, .a g0) :: (.g st, .g st0) :: (.c c, .c code) :: (.b bl, .b (blE (headPos bl))) :: (.p rq, .p True) :: l }
  | _, _ => none
theorem CgSound.byC {M : Model} {kt : KT} {m : Nat} {α : Type} (f : Code → List (Code × Pos) → Cells → Nat → α) {F : α → CgF} (h : ∀ y, CgSound M kt m (F y)) : CgSound M kt m (fun c bl cs tk gs ns => F (f c bl cs tk) c bl cs tk gs ns) :=
  fun c bl p cs tk gs s₀ T s I H => h (f c bl cs tk) c bl p cs tk gs s₀ T s I H
theorem cgOf_sound {M : Model} {kt : KT} {m : Nat} {code : Code} {blE : Pos → List (Code × Pos)} {g0 : Nat} {st0 : GenState} {pre : PreC} {rq : Prop} {post : List Nat → PostR} (hi : (pre.map (·.1)).Nodup)
    (spec : rq → ∀ s₀ T s tk p pp, Inv kt s₀ T s (cells0 pre) tk [(g0, st0)] → wpCode M (cx code (blE pp)) (fun r s' => ∃ ns gs', ns.length = m ∧ r = (post ns).res ∧ (post ns).objs.length = pre.length ∧ Inv kt s₀ T s' (cellsP pre (post ns).objs ++ (post ns).news) (post ns).tk gs') p s) :
    CgSound M kt m (cgOf code blE g0 st0 pre rq post) := by
  intro c bl p cs tk gs s₀ T s I H
  obtain ⟨po, hF, chk⟩ := H (List.replicate m 0) (by simp)
  unfold cgOf at hF
  split at hF
  · rename_i g st l hl
    cases hF
    have e1 : g = g0 := Item.a.inj (chk _ (.head _))
    have e2 : st = st0 := Item.g.inj (chk _ (.tail _ (.head _)))
    have e3 : c = code := Item.c.inj (chk _ (.tail _ (.tail _ (.head _))))
    have e4 : bl = blE (headPos bl) := Item.b.inj (chk _ (.tail _ (.tail _ (.tail _ (.head _)))))
    have e5 : rq := by rw [Item.p.inj (chk _ (.tail _ (.tail _ (.tail _ (.tail _ (.head _))))))]; trivial
    subst e1 e2 e3
    generalize hpp : headPos bl = pp at e4
    have hg := chkPre_spec hl fun q hm => chk q (.tail _ (.tail _ (.tail _ (.tail _ (.tail _ hm)))))
    have sub : ∀ x ∈ cells0 pre, x ∈ cs := fun x hx => by
      obtain ⟨y, hy, rfl⟩ := List.mem_map.mp hx
      exact getC_mem (hg y hy)
    have nd := pre_nodup I.nodup pre hi hg
    rw [e4]
    refine wpCode_mono ?_ (spec e5 _ _ s tk p pp (I.focusG sub nd))
    rintro r s' ⟨ns, gs', hn, hr, ho, J⟩
    refine ⟨ns, _, hn, by unfold cgOf; rw [← e4, hl], hr, ?_⟩
    show Inv kt s₀ T s' (setAll cs (updOf pre (post ns).objs) ++ (post ns).news) _ []
    have T₁ := cellsP_fst pre _ ho
    have fresh : ∀ x ∈ (post ns).news, s.heap.get? x.1 = none := fun x hx => by
      rcases J.mine x (List.mem_append.mpr (.inr hx)) with z | z
      · have := J.nodup
        rw [List.map_append, T₁, List.nodup_append] at this
        exact absurd rfl (this.2.2 x.1 z x.1 (List.mem_map_of_mem hx))
      · exact z
    refine (I.transG J (fun a ha => ?_) (fun x hx => ?_) ?_).noG
    · obtain ⟨x, hx, rfl⟩ := List.mem_map.mp ha
      exact List.mem_map_of_mem (sub x hx)
    · rcases List.mem_append.mp hx with h | h
      · rcases setAll_mem pre _ cs I.nodup hi ho hg x h with q | q
        · exact .inl (List.mem_append.mpr (.inl q))
        · exact .inr q
      · exact .inl (List.mem_append.mpr (.inr h))
    · rw [List.map_append, setAll_fst, List.nodup_append]
      have := J.nodup
      rw [List.map_append, List.nodup_append] at this
      refine ⟨I.nodup, this.2.1, fun a ha a' ha' e => ?_⟩
      obtain ⟨x, hx, rfl⟩ := List.mem_map.mp ha
      obtain ⟨y, hy, rfl⟩ := List.mem_map.mp ha'
      have z := fresh y hy
      rw [← e, I.cell x hx] at z
      cases z
  · cases hF

/-! _law_brackets -/
noncomputable def eBr : Expr := retE (nthS (fnTop 14).2.1 0)
noncomputable def envBr (ns fr : Nat) : Env := { scope := lcScope eBr, locals := ns, globals := 3, cells := [], qual := ⟨⟨[95, 108, 97, 119, 95, 98, 114, 97, 99, 107, 101, 116, 115, 46, 60, 108, 111, 99, 97, 108, 115, 62, 46]⟩⟩, func := none, code := .ref 125, frame := some fr, builtins := 0 }
noncomputable def cBr (it acc ns fr : Nat) : Code := .compLoop eBr 0 (.ref it) (.ref acc) (envBr ns fr)
noncomputable def genO (g t1 t2 : Nat) : Obj := ⟨.type "generator", none, .fields ⟨[.int (g : Nat) 0, .str ⟨⟨[95, 105, 116, 101, 114, 95, 101, 115, 99, 97, 112, 101, 100, 95, 99, 104, 97, 114, 115]⟩⟩ t1, .str ⟨⟨[95, 105, 116, 101, 114, 95, 101, 115, 99, 97, 112, 101, 100, 95, 99, 104, 97, 114, 115]⟩⟩ t2]⟩, ⟨[]⟩⟩
noncomputable def nsBr (P : Params) : Option (Nat × Nat × Value × Value) → Obj
  | none => ⟨.type "dict", none, .dict ⟨[]⟩ 0, ⟨[]⟩⟩
  | some (kp, ku, vp, vu) => ⟨.type "dict", none, .dict ⟨[ent P ⟨⟨[112, 108, 97, 99, 101]⟩⟩ kp vp, ent P ⟨⟨[117, 110, 105, 116]⟩⟩ ku vu]⟩ 2, ⟨[]⟩⟩
noncomputable def blRL (k : Stk) : List (Code × Pos) := [(.forLoop k.t2 k.i2 k.b2 k.o2 k.e2, k.p2), (.func k.b4 k.e4, k.p4), (.builtin "claim.caller" {}, k.p5)]
noncomputable def blBr (f : Fq) (k : Stk) : List (Code × Pos) := (.func f.b f.e, f.p) :: blRL k
structure Bz where
  (it acc ns fr g t1 t2 G : Nat)
noncomputable def csB0 (P : Params) (z : Bz) (ka : Nat) (x : Str) (t : Nat) : Cells := [(z.it, genO z.g z.t1 z.t2), (z.acc, lstO [] 0), (z.ns, nsBr P none), (z.G, oI0 P ka x t)]
noncomputable def csB (P : Params) (z : Bz) (si en : Nat) (y : Ik) (x : Str) (t j jp tp : Nat) (esc : Bool) (ch last : Value) (vs : List Value) (n kp ku : Nat) (vp vu : Value) : Cells :=
  [(z.it, genO z.g z.t1 z.t2), (z.acc, lstO vs n), (z.ns, nsBr P (some (kp, ku, vp, vu))), (z.G, oI P y x t jp tp esc ch), (si, itO false (.str x t) j), (en, enumO si j last)]
noncomputable def logFSb (m : Nat) (WK : GkF) : List Ev := [.dy 0, .go, .dy 0, .go, .dy 0, .st, .wk m WK, .dy 0, .dy 6, .dy 6, .dy 6, .go, .dy 6, .go, .dy 7, .dy 7, .go, .dy 7, .go, .dy 7, .dy 7, .dy 6, .dy 7, .dy 7, .dy 7, .go, .dy 7, .go, .dy 7, .dy 7, .dy 6, .dy 7, .dy 7, .dy 7, .go, .dy 7, .go, .dy 7, .dy 7, .dy 6, .dy 7, .dy 7, .dy 9, .dy 2, .dy 2, .dy 2, .dy 2, .dy 2, .go, .go, .go, .go, .go, .go, .stop]
noncomputable def logFAb (m : Nat) (WK : GkF) (AP : ConF) : List Ev := [.dy 0, .go, .dy 0, .go, .dy 0, .st, .wk m WK, .dy 0, .dy 6, .dy 6, .dy 6, .go, .dy 6, .go, .dy 7, .dy 7, .go, .dy 7, .go, .dy 7, .dy 7, .dy 6, .dy 7, .dy 7, .dy 7, .go, .dy 7, .go, .dy 7, .dy 7, .dy 6, .dy 7, .dy 7, .dy 7, .go, .dy 7, .go, .dy 7, .dy 7, .dy 6, .dy 7, .dy 7, .dy 9, .dy 2, .dy 2, .dy 2, .dy 2, .dy 2, .go, .go, .go, .go, .go, .go, .dy 2, .go, .dy 1, .con 0 AP, .stop]
noncomputable def logLSb (m : Nat) (WK : GkF) : List Ev := [.dy 0, .go, .dy 0, .go, .dy 0, .st, .wk m WK, .dy 0, .dy 6, .dy 6, .dy 6, .go, .dy 6, .go, .dy 7, .dy 7, .go, .dy 7, .go, .dy 7, .dy 7, .dy 6, .dy 7, .dy 7, .dy 7, .go, .dy 7, .go, .dy 7, .dy 7, .dy 6, .dy 7, .dy 7, .dy 7, .go, .dy 7, .go, .dy 7, .dy 7, .dy 6, .dy 7, .dy 7, .dy 9, .dy 2, .dy 2, .dy 2, .dy 2, .dy 2, .go, .go, .go, .go, .go, .go, .stop]
noncomputable def logLAb (m : Nat) (WK : GkF) (AP : ConF) : List Ev := [.dy 0, .go, .dy 0, .go, .dy 0, .st, .wk m WK, .dy 0, .dy 6, .dy 6, .dy 6, .go, .dy 6, .go, .dy 7, .dy 7, .go, .dy 7, .go, .dy 7, .dy 7, .dy 6, .dy 7, .dy 7, .dy 7, .go, .dy 7, .go, .dy 7, .dy 7, .dy 6, .dy 7, .dy 7, .dy 7, .go, .dy 7, .go, .dy 7, .dy 7, .dy 6, .dy 7, .dy 7, .dy 9, .dy 2, .dy 2, .dy 2, .dy 2, .dy 2, .go, .go, .go, .go, .go, .go, .dy 2, .go, .dy 1, .con 0 AP, .stop]
noncomputable def logLXb (m : Nat) (WK : GkF) : List Ev := [.dy 0, .go, .dy 0, .go, .dy 0, .st, .wk m WK, .dy 7]
section
variable (w : World) (b b2 : Bool) (p : Pos) (k : Stk) (f : Fq) (z : Bz) (x : Str) (t tk : Nat)
theorem segBF40 (ka : Nat) (sup : List Nat) (h : sup.length = 12) : okG [true, true, true, true, true, true] (runG w b b2 (logFAb 9 (wkFO w b b2 40 3) (appF 1)) (cBr z.it z.acc z.ns z.fr) p (blBr f k) (csB0 (fP w b b2) z ka x t) tk [(z.g, .fresh (cI0 z.G))] sup)
    (.again (cBr z.it z.acc z.ns z.fr)) (csB (fP w b b2) z (getN sup 1) (getN sup 2) ⟨ka, (getN sup 3), (getN sup 4), (getN sup 5)⟩ x t 1 0 (getN sup 6) false (.str ⟨⟨[40]⟩⟩ (getN sup 7)) (.str ⟨⟨[40]⟩⟩ (getN sup 7)) [(.str ⟨⟨[40]⟩⟩ (getN sup 7))] 1 (getN sup 8) ((getN sup 8) + 1) (.int ((0 : Nat)) (getN sup 6)) (.str ⟨⟨[40]⟩⟩ (getN sup 7))) [(z.g, stS w b b2 false z.G (getN sup 2))] [Item.p (([] : List Value).length ≤ sizeLine) = .p True, Item.p (x.cps[0]? = some 40 ∧ (40 = 40 ∨ 40 = 41) ∧ x.cps.all (· < 128) = true) = .p True] := by
  obtain ⟨fS, rfl⟩ := sup_ex h
  cases b <;> (unfold okG; kernel_rfl)
theorem segBL40 (e : Bool) (si en : Nat) (y : Ik) (j jp tp : Nat) (ch last : Value) (vs : List Value) (n kp ku : Nat) (vp vu : Value) (sup : List Nat) (h : sup.length = 7) : okG [true, true, true, true, true, true] (runG w b b2 (logLAb 4 (wkO w b b2 e j 40 3 4 5) (appF 1)) (cBr z.it z.acc z.ns z.fr) p (blBr f k) (csB (fP w b b2) z si en y x t j jp tp e ch last vs n kp ku vp vu) tk [(z.g, stS w b b2 e z.G en)] sup)
    (.again (cBr z.it z.acc z.ns z.fr)) (csB (fP w b b2) z si en y x t (j + 1) j (getN sup 1) false (.str ⟨⟨[40]⟩⟩ (getN sup 2)) (.str ⟨⟨[40]⟩⟩ (getN sup 2)) (vs ++ [(.str ⟨⟨[40]⟩⟩ (getN sup 2))]) (n + 1) kp ku (.int (j : Nat) (getN sup 1)) (.str ⟨⟨[40]⟩⟩ (getN sup 2))) [(z.g, stS w b b2 false z.G en)] [Item.p (vs.length ≤ sizeLine) = .p True, Item.p (x.cps[j]? = some 40 ∧ (40 = 40 ∨ 40 = 41)) = .p True] := by
  obtain ⟨fS, rfl⟩ := sup_ex h
  cases b <;> cases e <;> (unfold okG; kernel_rfl)
theorem segBF41 (ka : Nat) (sup : List Nat) (h : sup.length = 12) : okG [true, true, true, true, true, true] (runG w b b2 (logFAb 9 (wkFO w b b2 41 3) (appF 1)) (cBr z.it z.acc z.ns z.fr) p (blBr f k) (csB0 (fP w b b2) z ka x t) tk [(z.g, .fresh (cI0 z.G))] sup)
    (.again (cBr z.it z.acc z.ns z.fr)) (csB (fP w b b2) z (getN sup 1) (getN sup 2) ⟨ka, (getN sup 3), (getN sup 4), (getN sup 5)⟩ x t 1 0 (getN sup 6) false (.str ⟨⟨[41]⟩⟩ (getN sup 7)) (.str ⟨⟨[41]⟩⟩ (getN sup 7)) [(.str ⟨⟨[41]⟩⟩ (getN sup 7))] 1 (getN sup 8) ((getN sup 8) + 1) (.int ((0 : Nat)) (getN sup 6)) (.str ⟨⟨[41]⟩⟩ (getN sup 7))) [(z.g, stS w b b2 false z.G (getN sup 2))] [Item.p (([] : List Value).length ≤ sizeLine) = .p True, Item.p (x.cps[0]? = some 41 ∧ (41 = 40 ∨ 41 = 41) ∧ x.cps.all (· < 128) = true) = .p True] := by
  obtain ⟨fS, rfl⟩ := sup_ex h
  cases b <;> (unfold okG; kernel_rfl)
theorem segBL41 (e : Bool) (si en : Nat) (y : Ik) (j jp tp : Nat) (ch last : Value) (vs : List Value) (n kp ku : Nat) (vp vu : Value) (sup : List Nat) (h : sup.length = 7) : okG [true, true, true, true, true, true] (runG w b b2 (logLAb 4 (wkO w b b2 e j 41 3 4 5) (appF 1)) (cBr z.it z.acc z.ns z.fr) p (blBr f k) (csB (fP w b b2) z si en y x t j jp tp e ch last vs n kp ku vp vu) tk [(z.g, stS w b b2 e z.G en)] sup)
    (.again (cBr z.it z.acc z.ns z.fr)) (csB (fP w b b2) z si en y x t (j + 1) j (getN sup 1) false (.str ⟨⟨[41]⟩⟩ (getN sup 2)) (.str ⟨⟨[41]⟩⟩ (getN sup 2)) (vs ++ [(.str ⟨⟨[41]⟩⟩ (getN sup 2))]) (n + 1) kp ku (.int (j : Nat) (getN sup 1)) (.str ⟨⟨[41]⟩⟩ (getN sup 2))) [(z.g, stS w b b2 false z.G en)] [Item.p (vs.length ≤ sizeLine) = .p True, Item.p (x.cps[j]? = some 41 ∧ (41 = 40 ∨ 41 = 41)) = .p True] := by
  obtain ⟨fS, rfl⟩ := sup_ex h
  cases b <;> cases e <;> (unfold okG; kernel_rfl)
theorem segBFE40 (ka : Nat) (sup : List Nat) (h : sup.length = 13) : okG [true, true, true, true, true, true] (runG w b b2 (logFAb 10 (wkFE w b b2 40 3) (appF 1)) (cBr z.it z.acc z.ns z.fr) p (blBr f k) (csB0 (fP w b b2) z ka x t) tk [(z.g, .fresh (cI0 z.G))] sup)
    (.again (cBr z.it z.acc z.ns z.fr)) (csB (fP w b b2) z (getN sup 1) (getN sup 2) ⟨ka, (getN sup 3), (getN sup 4), (getN sup 5)⟩ x t 2 1 (getN sup 6) true (.str ⟨⟨[40]⟩⟩ (getN sup 7)) (.str ⟨⟨[40]⟩⟩ (getN sup 7)) [(.str ⟨⟨[92, 40]⟩⟩ (getN sup 9))] 1 (getN sup 8) ((getN sup 8) + 1) (.int ((1 : Nat)) (getN sup 6)) (.str ⟨⟨[92, 40]⟩⟩ (getN sup 9))) [(z.g, stS w b b2 true z.G (getN sup 2))] [Item.p (([] : List Value).length ≤ sizeLine) = .p True, Item.p (x.cps[0]? = some 92 ∧ x.cps[1]? = some 40 ∧ x.cps.all (· < 128) = true) = .p True] := by
  obtain ⟨fS, rfl⟩ := sup_ex h
  cases b <;> (unfold okG; kernel_rfl)
theorem segBLE40 (e : Bool) (si en : Nat) (y : Ik) (j jp tp : Nat) (ch last : Value) (vs : List Value) (n kp ku : Nat) (vp vu : Value) (sup : List Nat) (h : sup.length = 8) : okG [true, true, true, true, true, true] (runG w b b2 (logLAb 5 (wkE w b b2 e j 40 3 4 5) (appF 1)) (cBr z.it z.acc z.ns z.fr) p (blBr f k) (csB (fP w b b2) z si en y x t j jp tp e ch last vs n kp ku vp vu) tk [(z.g, stS w b b2 e z.G en)] sup)
    (.again (cBr z.it z.acc z.ns z.fr)) (csB (fP w b b2) z si en y x t (j + 1 + 1) (j + 1) (getN sup 1) true (.str ⟨⟨[40]⟩⟩ (getN sup 2)) (.str ⟨⟨[40]⟩⟩ (getN sup 2)) (vs ++ [(.str ⟨⟨[92, 40]⟩⟩ (getN sup 4))]) (n + 1) kp ku (.int ((j + 1) : Nat) (getN sup 1)) (.str ⟨⟨[92, 40]⟩⟩ (getN sup 4))) [(z.g, stS w b b2 true z.G en)] [Item.p (vs.length ≤ sizeLine) = .p True, Item.p (x.cps[j]? = some 92 ∧ x.cps[j + 1]? = some 40) = .p True] := by
  obtain ⟨fS, rfl⟩ := sup_ex h
  cases b <;> cases e <;> (unfold okG; kernel_rfl)
theorem segBFE41 (ka : Nat) (sup : List Nat) (h : sup.length = 13) : okG [true, true, true, true, true, true] (runG w b b2 (logFAb 10 (wkFE w b b2 41 3) (appF 1)) (cBr z.it z.acc z.ns z.fr) p (blBr f k) (csB0 (fP w b b2) z ka x t) tk [(z.g, .fresh (cI0 z.G))] sup)
    (.again (cBr z.it z.acc z.ns z.fr)) (csB (fP w b b2) z (getN sup 1) (getN sup 2) ⟨ka, (getN sup 3), (getN sup 4), (getN sup 5)⟩ x t 2 1 (getN sup 6) true (.str ⟨⟨[41]⟩⟩ (getN sup 7)) (.str ⟨⟨[41]⟩⟩ (getN sup 7)) [(.str ⟨⟨[92, 41]⟩⟩ (getN sup 9))] 1 (getN sup 8) ((getN sup 8) + 1) (.int ((1 : Nat)) (getN sup 6)) (.str ⟨⟨[92, 41]⟩⟩ (getN sup 9))) [(z.g, stS w b b2 true z.G (getN sup 2))] [Item.p (([] : List Value).length ≤ sizeLine) = .p True, Item.p (x.cps[0]? = some 92 ∧ x.cps[1]? = some 41 ∧ x.cps.all (· < 128) = true) = .p True] := by
  obtain ⟨fS, rfl⟩ := sup_ex h
  cases b <;> (unfold okG; kernel_rfl)
theorem segBLE41 (e : Bool) (si en : Nat) (y : Ik) (j jp tp : Nat) (ch last : Value) (vs : List Value) (n kp ku : Nat) (vp vu : Value) (sup : List Nat) (h : sup.length = 8) : okG [true, true, true, true, true, true] (runG w b b2 (logLAb 5 (wkE w b b2 e j 41 3 4 5) (appF 1)) (cBr z.it z.acc z.ns z.fr) p (blBr f k) (csB (fP w b b2) z si en y x t j jp tp e ch last vs n kp ku vp vu) tk [(z.g, stS w b b2 e z.G en)] sup)
    (.again (cBr z.it z.acc z.ns z.fr)) (csB (fP w b b2) z si en y x t (j + 1 + 1) (j + 1) (getN sup 1) true (.str ⟨⟨[41]⟩⟩ (getN sup 2)) (.str ⟨⟨[41]⟩⟩ (getN sup 2)) (vs ++ [(.str ⟨⟨[92, 41]⟩⟩ (getN sup 4))]) (n + 1) kp ku (.int ((j + 1) : Nat) (getN sup 1)) (.str ⟨⟨[92, 41]⟩⟩ (getN sup 4))) [(z.g, stS w b b2 true z.G en)] [Item.p (vs.length ≤ sizeLine) = .p True, Item.p (x.cps[j]? = some 92 ∧ x.cps[j + 1]? = some 41) = .p True] := by
  obtain ⟨fS, rfl⟩ := sup_ex h
  cases b <;> cases e <;> (unfold okG; kernel_rfl)
theorem segBFE92 (ka : Nat) (sup : List Nat) (h : sup.length = 13) : okG [true, true, true, true, true, true] (runG w b b2 (logFSb 10 (wkFE w b b2 92 3)) (cBr z.it z.acc z.ns z.fr) p (blBr f k) (csB0 (fP w b b2) z ka x t) tk [(z.g, .fresh (cI0 z.G))] sup)
    (.again (cBr z.it z.acc z.ns z.fr)) (csB (fP w b b2) z (getN sup 1) (getN sup 2) ⟨ka, (getN sup 3), (getN sup 4), (getN sup 5)⟩ x t 2 1 (getN sup 6) true (.str ⟨⟨[92]⟩⟩ (getN sup 7)) (.str ⟨⟨[92]⟩⟩ (getN sup 7)) [] 0 (getN sup 8) ((getN sup 8) + 1) (.int ((1 : Nat)) (getN sup 6)) (.str ⟨⟨[92, 92]⟩⟩ (getN sup 9))) [(z.g, stS w b b2 true z.G (getN sup 2))] [Item.p (x.cps[0]? = some 92 ∧ x.cps[1]? = some 92 ∧ x.cps.all (· < 128) = true) = .p True] := by
  obtain ⟨fS, rfl⟩ := sup_ex h
  cases b <;> (unfold okG; kernel_rfl)
theorem segBLE92 (e : Bool) (si en : Nat) (y : Ik) (j jp tp : Nat) (ch last : Value) (vs : List Value) (n kp ku : Nat) (vp vu : Value) (sup : List Nat) (h : sup.length = 8) : okG [true, true, true, true, true, true] (runG w b b2 (logLSb 5 (wkE w b b2 e j 92 3 4 5)) (cBr z.it z.acc z.ns z.fr) p (blBr f k) (csB (fP w b b2) z si en y x t j jp tp e ch last vs n kp ku vp vu) tk [(z.g, stS w b b2 e z.G en)] sup)
    (.again (cBr z.it z.acc z.ns z.fr)) (csB (fP w b b2) z si en y x t (j + 1 + 1) (j + 1) (getN sup 1) true (.str ⟨⟨[92]⟩⟩ (getN sup 2)) (.str ⟨⟨[92]⟩⟩ (getN sup 2)) vs n kp ku (.int ((j + 1) : Nat) (getN sup 1)) (.str ⟨⟨[92, 92]⟩⟩ (getN sup 4))) [(z.g, stS w b b2 true z.G en)] [Item.p (x.cps[j]? = some 92 ∧ x.cps[j + 1]? = some 92) = .p True] := by
  obtain ⟨fS, rfl⟩ := sup_ex h
  cases b <;> cases e <;> (unfold okG; kernel_rfl)
theorem segBLX (e : Bool) (si en : Nat) (y : Ik) (j jp tp : Nat) (ch last : Value) (vs : List Value) (n kp ku : Nat) (vp vu : Value) (sup : List Nat) (h : sup.length = 3) : okG [true, true, true, true] (runG w b b2 (logLXb 1 (wkX w b b2 e j 3 4 5)) (cBr z.it z.acc z.ns z.fr) p (blBr f k) (csB (fP w b b2) z si en y x t j jp tp e ch last vs n kp ku vp vu) tk [(z.g, stS w b b2 e z.G en)] sup)
    (.fin (.ok .next)) [(z.it, genO z.g z.t1 z.t2), (z.acc, lstO vs n), (z.ns, nsBr (fP w b b2) (some (kp, ku, vp, vu))), (z.G, oI (fP w b b2) y x t jp tp false ch)] [(z.g, .finished)] [Item.p (x.cps[j]? = none) = .p True] := by
  obtain ⟨fS, rfl⟩ := sup_ex h
  cases b <;> cases e <;> (unfold okG; kernel_rfl)
end
/-- the units of a text -/
inductive Un : List Nat → List (List Nat) → Prop where
  | nil : Un [] []
  | ord {c : Nat} {l : List Nat} {us : List (List Nat)} : (c = 40 ∨ c = 41) → Un l us → Un (c :: l) ([c] :: us)
  | esc {c : Nat} {l : List Nat} {us : List (List Nat)} : (c = 40 ∨ c = 41 ∨ c = 92) → Un l us → Un (92 :: c :: l) ([92, c] :: us)
noncomputable def brU (us : List (List Nat)) : List (List Nat) := us.filter fun u => u != [92, 92]
noncomputable def uOf : Nat → Nat → List Nat
  | 0, c => [c]
  | _ + 1, c => [92, c]
noncomputable def uval (z : List Nat × Nat) : Value := .str ⟨⟨z.1⟩⟩ z.2
section
variable {w : World} {b b2 : Bool} {s₀ : Shared} {T : List Addr} {k : Stk} {f : Fq} {z : Bz} {x : Str} {t : Nat}
/-- what is left behind the loop -/
noncomputable def EndB (w : World) (b b2 : Bool) (s₀ : Shared) (T : List Addr) (z : Bz) (x : Str) (t ka : Nat) (vs : List Value) (us : List (List Nat)) (r : Result) (s' : Shared) : Prop :=
  ∃ (ts : List (List Nat × Nat)) (n' kp ku vj vt fu cu tu : Nat) (y : Ik) (jp tp cc tc tk' : Nat), r = .ok .next ∧ ts.map (·.1) = brU us ∧ y.ka = ka ∧
    Inv (KT' w b b2) s₀ T s' [(z.it, genO z.g z.t1 z.t2), (z.acc, lstO (vs ++ ts.map uval) n'), (z.ns, nsBr (fP w b b2) (some (kp, ku, .int (vj : Nat) vt, .str ⟨⟨uOf fu cu⟩⟩ tu))), (z.G, oI (fP w b b2) y x t jp tp false (.str ⟨⟨[cc]⟩⟩ tc))] tk' [(z.g, .finished)]
theorem EndB.cons {vs : List Value} {us : List (List Nat)} {ka : Nat} {u : List Nat} {tu : Nat} (hu : u ≠ [92, 92]) {r : Result} {s' : Shared} (h : EndB w b b2 s₀ T z x t ka (vs ++ [.str ⟨⟨u⟩⟩ tu]) us r s') : EndB w b b2 s₀ T z x t ka vs (u :: us) r s' := by
  obtain ⟨ts, n', kp, ku, vj, vt, fu, cu, tu', y, jp, tp, cc, tc, tk', h1, h2, h3, J⟩ := h
  refine ⟨(u, tu) :: ts, n', kp, ku, vj, vt, fu, cu, tu', y, jp, tp, cc, tc, tk', h1, ?_, h3, ?_⟩
  · show u :: ts.map _ = _
    rw [h2]
    unfold brU
    rw [List.filter_cons]
    have : (u != [92, 92]) = true := by simpa using hu
    rw [this]; rfl
  · have e : vs ++ ((u, tu) :: ts).map uval = (vs ++ [.str ⟨⟨u⟩⟩ tu]) ++ ts.map uval := by simp [uval]
    rw [e]; exact J
theorem EndB.skip {vs : List Value} {us : List (List Nat)} {ka : Nat} {r : Result} {s' : Shared} (h : EndB w b b2 s₀ T z x t ka vs us r s') : EndB w b b2 s₀ T z x t ka vs ([92, 92] :: us) r s' := by
  obtain ⟨ts, n', kp, ku, vj, vt, fu, cu, tu', y, jp, tp, cc, tc, tk', h1, h2, h3, J⟩ := h
  exact ⟨ts, n', kp, ku, vj, vt, fu, cu, tu', y, jp, tp, cc, tc, tk', h1, by rw [h2]; rfl, h3, J⟩
theorem loopBr {l : List Nat} {us : List (List Nat)} (h : Un l us) : ∀ (pre : List Nat) (e : Bool) (si en : Nat) (y : Ik) (jp tp cc tc : Nat) (last : Value) (vs : List Value) (n kp ku vj vt fu cu tu tk : Nat) (s : Shared) (p : Pos),
    x.cps.toList = pre ++ l → Inv (KT' w b b2) s₀ T s (csB (fP w b b2) z si en y x t pre.length jp tp e (.str ⟨⟨[cc]⟩⟩ tc) last vs n kp ku (.int (vj : Nat) vt) (.str ⟨⟨uOf fu cu⟩⟩ tu)) tk [(z.g, stS w b b2 e z.G en)] → vs.length + us.length ≤ 9000 →
    wpCode (MM w b b2) (cx (cBr z.it z.acc z.ns z.fr) (blBr f k)) (EndB w b b2 s₀ T z x t y.ka vs us) p s := by
  induction h with
  | nil =>
    intro pre e si en y jp tp cc tc last vs n kp ku vj vt fu cu tu tk s p hx I hl
    rw [List.append_nil] at hx
    refine segG _ (fun sup hs => segBLX w b b2 p k f z x t tk e si en y pre.length jp tp (.str ⟨⟨[cc]⟩⟩ tc) last vs n kp ku (.int (vj : Nat) vt) (.str ⟨⟨uOf fu cu⟩⟩ tu) sup hs) (fun sup hs => one_p (getC_end hx)) ⟨wkX_sound _ _ _ _ _ (by decide), trivial⟩ I fun sup s' tk' hs I' => ?_
    exact ⟨[], n, kp, ku, vj, vt, fu, cu, tu, y, jp, tp, cc, tc, tk', rfl, rfl, rfl, by rw [List.map_nil, List.append_nil]; exact I'⟩
  | @ord c l us hc h ih =>
    intro pre e si en y jp tp cc tc last vs n kp ku vj vt fu cu tu tk s p hx I hl
    have hg := getC_pre hx
    have hx' : x.cps.toList = (pre ++ [c]) ++ l := by rw [hx]; simp
    have hl' : (pre ++ [c]).length = pre.length + 1 := by simp
    simp only [List.length_cons] at hl
    have hv : vs.length ≤ sizeLine := by rw [sizeLine_is]; omega
    rcases hc with rfl | rfl
    · refine segG _ (fun sup hs => segBL40 w b b2 p k f z x t tk e si en y pre.length jp tp (.str ⟨⟨[cc]⟩⟩ tc) last vs n kp ku (.int (vj : Nat) vt) (.str ⟨⟨uOf fu cu⟩⟩ tu) sup hs) (fun sup hs => all_p2 hv ⟨hg, .inl rfl⟩) ⟨wkO_sound _ _ _ _ _ _ (by decide), appF_sound _ _ _ _, trivial⟩ I fun sup s' tk' hs I' => ?_
      intro p'
      exact wpCode_mono (fun _ _ q => q.cons (by decide)) (ih (pre ++ [40]) false si en y _ _ 40 _ _ (vs ++ [.str ⟨⟨[40]⟩⟩ _]) (n + 1) kp ku _ _ 0 40 _ tk' s' p' hx' (by rw [hl']; exact I') (by simp; omega))
    · refine segG _ (fun sup hs => segBL41 w b b2 p k f z x t tk e si en y pre.length jp tp (.str ⟨⟨[cc]⟩⟩ tc) last vs n kp ku (.int (vj : Nat) vt) (.str ⟨⟨uOf fu cu⟩⟩ tu) sup hs) (fun sup hs => all_p2 hv ⟨hg, .inr rfl⟩) ⟨wkO_sound _ _ _ _ _ _ (by decide), appF_sound _ _ _ _, trivial⟩ I fun sup s' tk' hs I' => ?_
      intro p'
      exact wpCode_mono (fun _ _ q => q.cons (by decide)) (ih (pre ++ [41]) false si en y _ _ 41 _ _ (vs ++ [.str ⟨⟨[41]⟩⟩ _]) (n + 1) kp ku _ _ 0 41 _ tk' s' p' hx' (by rw [hl']; exact I') (by simp; omega))
  | @esc c l us hc h ih =>
    intro pre e si en y jp tp cc tc last vs n kp ku vj vt fu cu tu tk s p hx I hl
    have hg := getC_pre hx
    have hx' : x.cps.toList = (pre ++ [92, c]) ++ l := by rw [hx]; simp
    have hg2 : x.cps[pre.length + 1]? = some c := by
      have := getC_pre (pre := pre ++ [92]) (l := l) (c := c) (x := x) (by rw [hx]; simp)
      simpa using this
    have hl' : (pre ++ [92, c]).length = pre.length + 1 + 1 := by simp
    simp only [List.length_cons] at hl
    have hv : vs.length ≤ sizeLine := by rw [sizeLine_is]; omega
    rcases hc with rfl | rfl | rfl
    · refine segG _ (fun sup hs => segBLE40 w b b2 p k f z x t tk e si en y pre.length jp tp (.str ⟨⟨[cc]⟩⟩ tc) last vs n kp ku (.int (vj : Nat) vt) (.str ⟨⟨uOf fu cu⟩⟩ tu) sup hs) (fun sup hs => all_p2 hv ⟨hg, hg2⟩) ⟨wkE_sound _ _ _ _ _ _ (by decide), appF_sound _ _ _ _, trivial⟩ I fun sup s' tk' hs I' => ?_
      intro p'
      exact wpCode_mono (fun _ _ q => q.cons (by decide)) (ih (pre ++ [92, 40]) true si en y _ _ 40 _ _ (vs ++ [.str ⟨⟨[92, 40]⟩⟩ _]) (n + 1) kp ku _ _ 1 40 _ tk' s' p' hx' (by rw [hl']; exact I') (by simp; omega))
    · refine segG _ (fun sup hs => segBLE41 w b b2 p k f z x t tk e si en y pre.length jp tp (.str ⟨⟨[cc]⟩⟩ tc) last vs n kp ku (.int (vj : Nat) vt) (.str ⟨⟨uOf fu cu⟩⟩ tu) sup hs) (fun sup hs => all_p2 hv ⟨hg, hg2⟩) ⟨wkE_sound _ _ _ _ _ _ (by decide), appF_sound _ _ _ _, trivial⟩ I fun sup s' tk' hs I' => ?_
      intro p'
      exact wpCode_mono (fun _ _ q => q.cons (by decide)) (ih (pre ++ [92, 41]) true si en y _ _ 41 _ _ (vs ++ [.str ⟨⟨[92, 41]⟩⟩ _]) (n + 1) kp ku _ _ 1 41 _ tk' s' p' hx' (by rw [hl']; exact I') (by simp; omega))
    · refine segG _ (fun sup hs => segBLE92 w b b2 p k f z x t tk e si en y pre.length jp tp (.str ⟨⟨[cc]⟩⟩ tc) last vs n kp ku (.int (vj : Nat) vt) (.str ⟨⟨uOf fu cu⟩⟩ tu) sup hs) (fun sup hs => one_p ⟨hg, hg2⟩) ⟨wkE_sound _ _ _ _ _ _ (by decide), trivial⟩ I fun sup s' tk' hs I' => ?_
      intro p'
      exact wpCode_mono (fun _ _ q => q.skip) (ih (pre ++ [92, 92]) true si en y _ _ 92 _ _ vs n kp ku _ _ 1 92 _ tk' s' p' hx' (by rw [hl']; exact I') (by omega))
theorem loopBr1 {us : List (List Nat)} (h : Un x.cps.toList us) (hx0 : x.cps.toList ≠ []) (ha : x.cps.all (· < 128) = true) (hl : us.length ≤ 8000) (ka tk : Nat) (s : Shared) (p : Pos) (I : Inv (KT' w b b2) s₀ T s (csB0 (fP w b b2) z ka x t) tk [(z.g, .fresh (cI0 z.G))]) :
    wpCode (MM w b b2) (cx (cBr z.it z.acc z.ns z.fr) (blBr f k)) (EndB w b b2 s₀ T z x t ka [] us) p s := by
  have hv : ([] : List Value).length ≤ sizeLine := Nat.zero_le _
  generalize hL : x.cps.toList = L at h hx0
  cases h with
  | nil => exact absurd rfl hx0
  | @ord c l us hc h =>
    have hg : x.cps[0]? = some c := getC_pre (pre := []) hL
    simp only [List.length_cons] at hl
    rcases hc with rfl | rfl
    · refine segG _ (fun sup hs => segBF40 w b b2 p k f z x t tk ka sup hs) (fun sup hs => all_p2 hv ⟨hg, .inl rfl, ha⟩) ⟨wkFO_sound _ _, appF_sound _ _ _ _, trivial⟩ I fun sup s' tk' hs I' => ?_
      intro p'
      exact wpCode_mono (fun _ _ q => q.cons (by decide)) (loopBr h [40] false _ _ ⟨ka, _, _, _⟩ _ _ 40 _ _ [.str ⟨⟨[40]⟩⟩ _] 1 _ _ _ _ 0 40 _ tk' s' p' hL I' (by simp; omega))
    · refine segG _ (fun sup hs => segBF41 w b b2 p k f z x t tk ka sup hs) (fun sup hs => all_p2 hv ⟨hg, .inr rfl, ha⟩) ⟨wkFO_sound _ _, appF_sound _ _ _ _, trivial⟩ I fun sup s' tk' hs I' => ?_
      intro p'
      exact wpCode_mono (fun _ _ q => q.cons (by decide)) (loopBr h [41] false _ _ ⟨ka, _, _, _⟩ _ _ 41 _ _ [.str ⟨⟨[41]⟩⟩ _] 1 _ _ _ _ 0 41 _ tk' s' p' hL I' (by simp; omega))
  | @esc c l us hc h =>
    have hg : x.cps[0]? = some 92 := getC_pre (pre := []) hL
    have hg2 : x.cps[1]? = some c := getC_pre (pre := [92]) hL
    simp only [List.length_cons] at hl
    rcases hc with rfl | rfl | rfl
    · refine segG _ (fun sup hs => segBFE40 w b b2 p k f z x t tk ka sup hs) (fun sup hs => all_p2 hv ⟨hg, hg2, ha⟩) ⟨wkFE_sound _ _, appF_sound _ _ _ _, trivial⟩ I fun sup s' tk' hs I' => ?_
      intro p'
      exact wpCode_mono (fun _ _ q => q.cons (by decide)) (loopBr h [92, 40] true _ _ ⟨ka, _, _, _⟩ _ _ 40 _ _ [.str ⟨⟨[92, 40]⟩⟩ _] 1 _ _ _ _ 1 40 _ tk' s' p' hL I' (by simp; omega))
    · refine segG _ (fun sup hs => segBFE41 w b b2 p k f z x t tk ka sup hs) (fun sup hs => all_p2 hv ⟨hg, hg2, ha⟩) ⟨wkFE_sound _ _, appF_sound _ _ _ _, trivial⟩ I fun sup s' tk' hs I' => ?_
      intro p'
      exact wpCode_mono (fun _ _ q => q.cons (by decide)) (loopBr h [92, 41] true _ _ ⟨ka, _, _, _⟩ _ _ 41 _ _ [.str ⟨⟨[92, 41]⟩⟩ _] 1 _ _ _ _ 1 41 _ tk' s' p' hL I' (by simp; omega))
    · refine segG _ (fun sup hs => segBFE92 w b b2 p k f z x t tk ka sup hs) (fun sup hs => one_p ⟨hg, hg2, ha⟩) ⟨wkFE_sound _ _, trivial⟩ I fun sup s' tk' hs I' => ?_
      intro p'
      exact wpCode_mono (fun _ _ q => q.skip) (loopBr h [92, 92] true _ _ ⟨ka, _, _, _⟩ _ _ 92 _ _ [] 0 _ _ _ _ 1 92 _ tk' s' p' hL I' (by simp; omega))
end
end Mine

/-! part BR2 -/
namespace Mine
open PySem PySem.W PySem.W.X PySem.Spec PySem.Calls PyProof.Rows

/-! the loop of _law_brackets as a contract; the function -/
structure By where
  (z : Bz) (f : Fq) (k : Stk) (ka : Nat) (x : Str) (t : Nat)
noncomputable def nat0 : List Value → Nat
  | .int i _ :: _ => i.toNat
  | _ => 0
noncomputable def stkRL : List (Code × Pos) → Stk
  | [(.forLoop t2 i2 b2 o2 e2, p2), (.func b4 e4, p4), (_, p5)] => ⟨[], default, default, t2, i2, b2, o2, e2, p2, [], default, default, b4, e4, p4, p5⟩
  | _ => stk0
noncomputable def byOf (ii iG : Nat) (c : Code) (bl : List (Code × Pos)) (cs : Cells) (_ : Nat) : By :=
  ⟨⟨(refC c).1, (refC c).2.1, (refC c).2.2.1, (refC c).2.2.2, nat0 (fldsOf (objAt cs ii)), fldTok cs ii 1, fldTok cs ii 2, adAt cs iG⟩, fqOf bl, stkRL bl.tail, keyTok cs iG 0, frX (objAt cs iG), valTok cs iG 0⟩
noncomputable def BrP (l : List Nat) (v : List (List Nat)) : Prop := ∃ us, Un l us ∧ brU us = v ∧ l ≠ [] ∧ (∀ c ∈ l, c < 128) ∧ l.length ≤ 8000
noncomputable def u4 (u0 u1 u2 u3 : List Nat) (ns : List Nat) : List Value := [.str ⟨⟨u0⟩⟩ (getN ns 0), .str ⟨⟨u1⟩⟩ (getN ns 1), .str ⟨⟨u2⟩⟩ (getN ns 2), .str ⟨⟨u3⟩⟩ (getN ns 3)]
noncomputable def postLb (P : Params) (y : By) (u0 u1 u2 u3 : List Nat) (ns : List Nat) : PostR :=
  ⟨.ok .next, [genO y.z.g y.z.t1 y.z.t2, lstO (u4 u0 u1 u2 u3 ns) (getN ns 4), nsBr P (some (getN ns 5, getN ns 6, .int (getN ns 7 : Nat) (getN ns 8), .str ⟨⟨uOf (getN ns 9) (getN ns 10)⟩⟩ (getN ns 11))),
    oI P ⟨y.ka, getN ns 12, getN ns 13, getN ns 14⟩ y.x y.t (getN ns 15) (getN ns 16) false (.str ⟨⟨[getN ns 17]⟩⟩ (getN ns 18))], [], getN ns 19⟩
noncomputable def FLb (P : Params) (u0 u1 u2 u3 : List Nat) (ii ia ins iG : Nat) : CgF := fun c bl cs tk gs ns => (fun (y : By) => cgOf (cBr y.z.it y.z.acc y.z.ns y.z.fr) (fun _ => blBr y.f y.k) y.z.g (.fresh (cI0 y.z.G)) [(ii, y.z.it, genO y.z.g y.z.t1 y.z.t2), (ia, y.z.acc, lstO [] 0), (ins, y.z.ns, nsBr P none), (iG, y.z.G, oI0 P y.ka y.x y.t)]
  (BrP y.x.cps.toList [u0, u1, u2, u3]) (postLb P y u0 u1 u2 u3)) (byOf ii iG c bl cs tk) c bl cs tk gs ns
theorem un_len {l : List Nat} {us : List (List Nat)} (h : Un l us) : us.length ≤ l.length := by
  induction h with
  | nil => exact Nat.le_refl _
  | ord _ _ ih => simp; exact ih
  | esc _ _ ih => simp; omega
theorem FLb_sound {w : World} {b b2 : Bool} (u0 u1 u2 u3 : List Nat) (ii ia ins iG : Nat) (hi : [ii, ia, ins, iG].Nodup) : CgSound (MM w b b2) (KT' w b b2) 20 (FLb (fP w b b2) u0 u1 u2 u3 ii ia ins iG) := by
  refine CgSound.byC (byOf ii iG) (F := fun y => cgOf (cBr y.z.it y.z.acc y.z.ns y.z.fr) (fun _ => blBr y.f y.k) y.z.g (.fresh (cI0 y.z.G)) [(ii, y.z.it, genO y.z.g y.z.t1 y.z.t2), (ia, y.z.acc, lstO [] 0), (ins, y.z.ns, nsBr (fP w b b2) none), (iG, y.z.G, oI0 (fP w b b2) y.ka y.x y.t)]
    (BrP y.x.cps.toList [u0, u1, u2, u3]) (postLb (fP w b b2) y u0 u1 u2 u3)) fun y => ?_
  refine cgOf_sound hi fun hq s₀ T s tk p pp I => ?_
  obtain ⟨us, h, hu, h0, ha, hl⟩ := hq
  have hall : y.x.cps.all (· < 128) = true := by
    rw [← Array.all_toList, List.all_eq_true]
    intro c hc
    exact decide_eq_true (ha c hc)
  refine wpCode_mono ?_ (loopBr1 (f := y.f) (k := y.k) h h0 hall (Nat.le_trans (un_len h) hl) y.ka tk s p I)
  rintro r s' ⟨ts, n', kp, ku, vj, vt, fu, cu, tu, y', jp, tp, cc, tc, tk', h1, h2, h3, J⟩
  rw [hu] at h2
  obtain ⟨⟨v0, t0⟩, ts, rfl, e0, h2⟩ := List.map_eq_cons_iff.mp h2
  obtain ⟨⟨v1, t1⟩, ts, rfl, e1, h2⟩ := List.map_eq_cons_iff.mp h2
  obtain ⟨⟨v2, t2⟩, ts, rfl, e2, h2⟩ := List.map_eq_cons_iff.mp h2
  obtain ⟨⟨v3, t3⟩, rfl, e3⟩ := List.map_eq_singleton_iff.mp h2
  obtain rfl : v0 = u0 := e0
  obtain rfl : v1 = u1 := e1
  obtain rfl : v2 = u2 := e2
  obtain rfl : v3 = u3 := e3
  obtain ⟨ka', kp', ke', kc'⟩ := y'
  obtain rfl : ka' = y.ka := h3
  exact ⟨[t0, t1, t2, t3, n', kp, ku, vj, vt, fu, cu, tu, kp', ke', kc', jp, tp, cc, tc, tk'], _, rfl, h1, rfl, J⟩
noncomputable def cB126 (x : Str) (t : Nat) : Code := .call (.ref 126) ⟨[.str x t], []⟩
noncomputable def logBr (b2 : Bool) (L : CgF) : List Ev := appE [.st, .st, .dy 0, .dy 0, .st, .go, .st, .dy 0, .st, .go, .st, .st, .dy 1, .dy 1, .st, .dy 2, .dy 2, .go, .dy 2, .go, .dy 2, .go] (appE (cond b2 [] [.dy 2, .dy 2, .go, .dy 2, .go, .dy 2]) [.cg 20 L, .dy 4, .dy 4, .dy 4, .dy 4, .dy 4, .dy 4])
section
variable (w : World) (b b2 : Bool) (k : Stk) (p : Pos) (x : Str) (t tk : Nat) (u0 u1 u2 u3 : List Nat)
theorem segBr (sup : List Nat) (h : sup.length = 26) : okG [false, false, false, true] (runG w b b2 (logBr b2 (FLb (fP w b b2) u0 u1 u2 u3 2 3 4 1)) (cB126 x t) p (blRL k) [] tk [] sup)
    (.fin (.ok (.ret (.ref (getN sup 4))))) [(getN sup 4, lstO [.str ⟨⟨u0⟩⟩ (getN sup 6), .str ⟨⟨u1⟩⟩ (getN sup 7), .str ⟨⟨u2⟩⟩ (getN sup 8), .str ⟨⟨u3⟩⟩ (getN sup 9)] (getN sup 10))] [] [Item.p (BrP x.cps.toList [u0, u1, u2, u3]) = .p True] := by
  obtain ⟨fS, rfl⟩ := sup_ex h
  cases b <;> cases b2 <;> (unfold okG; kernel_rfl)
end
structure Cy where
  (t : Nat) (k : Stk)
noncomputable def cyOf (c : Code) (bl : List (Code × Pos)) (_ : Cells) (_ : Nat) : Cy := match c with
  | .call _ ⟨[.str _ t], _⟩ => ⟨t, stkRL bl⟩
  | _ => ⟨0, stkRL bl⟩
/-- _law_brackets as a contract -/
noncomputable def F126 (tx u0 u1 u2 u3 : List Nat) : ConF := fun c bl cs tk ns => (fun (y : Cy) => conOf (cB126 ⟨⟨tx⟩⟩ y.t) (fun _ => blRL y.k) [] (fun ns => ⟨.ok (.ret (.ref (getN ns 0))), [], [(getN ns 0, lstO [.str ⟨⟨u0⟩⟩ (getN ns 1), .str ⟨⟨u1⟩⟩ (getN ns 2), .str ⟨⟨u2⟩⟩ (getN ns 3), .str ⟨⟨u3⟩⟩ (getN ns 4)] (getN ns 5))], getN ns 6⟩)) (cyOf c bl cs tk) c bl cs tk ns
theorem F126_sound {w : World} {b b2 : Bool} {tx u0 u1 u2 u3 : List Nat} (h : BrP tx [u0, u1, u2, u3]) : ConSound (MM w b b2) (KT' w b b2) 7 (F126 tx u0 u1 u2 u3) := by
  refine ConSound.byC cyOf (F := fun y => conOf (cB126 ⟨⟨tx⟩⟩ y.t) (fun _ => blRL y.k) [] (fun ns => ⟨.ok (.ret (.ref (getN ns 0))), [], [(getN ns 0, lstO [.str ⟨⟨u0⟩⟩ (getN ns 1), .str ⟨⟨u1⟩⟩ (getN ns 2), .str ⟨⟨u2⟩⟩ (getN ns 3), .str ⟨⟨u3⟩⟩ (getN ns 4)] (getN ns 5))], getN ns 6⟩)) fun y => ?_
  refine conOf_sound (by simp) fun s tk p pp I => ?_
  refine segG _ (fun sup hs => segBr w b b2 y.k p ⟨⟨tx⟩⟩ y.t tk u0 u1 u2 u3 sup hs) (fun sup hs => one_p h) (by
    cases b2
    · exact ⟨FLb_sound _ _ _ _ _ _ _ _ (by decide), trivial⟩
    · exact ⟨FLb_sound _ _ _ _ _ _ _ _ (by decide), trivial⟩) I fun sup s' tk' hs I' => ?_
  exact ⟨[getN sup 4, getN sup 6, getN sup 7, getN sup 8, getN sup 9, getN sup 10, tk'], rfl, rfl, rfl, I'⟩
end Mine

/-! part CK -/
namespace Mine
open PySem PySem.W PySem.W.X PySem.Spec PySem.Calls PyProof.Rows

/-! int.__lt__ with its answer named; str.__contains__ likewise -/
noncomputable def ltF (v : Bool) : ConF := fun c _ _ tk _ => match c with
  | .builtin id ⟨[.int a _, .int e _], []⟩ => some ⟨.ok (.ret (.bool v)), [], [], tk, [(.a (PySem.code id), .a (PySem.code "int.__lt__")), (.p (decide (a < e) = v), .p True)]⟩
  | _ => none
theorem ltF_sound (pg : Program) (w : World) (kt : KT) (v : Bool) : ConSound (model pg w) kt 0 (ltF v) := by
  intro c bl p cs tk gs s₀ T s I H
  obtain ⟨po, hF, chk⟩ := H [] rfl
  unfold ltF at hF
  split at hF
  · rename_i id a t e u
    cases hF
    have e1 : id = "int.__lt__" := PySem.code_inj _ _ (Item.a.inj (chk _ (.head _)))
    have e2 : decide (a < e) = v := by rw [Item.p.inj (chk _ (.tail _ (.head _)))]; trivial
    subst e1
    refine wpCode_meets (by decide +kernel) F.entry_int_lt (gives_int_lt a e t u).meets ?_
    show ∃ ns po, _
    rw [e2]
    exact ⟨[], _, rfl, rfl, rfl, by show Inv kt s₀ T s (cs ++ []) tk gs; rw [List.append_nil]; exact I⟩
  · cases hF
noncomputable def inF (v : Bool) : ConF := fun c _ _ tk _ => match c with
  | .builtin id ⟨[.str x _, .str y _], []⟩ => some ⟨.ok (.ret (.bool v)), [], [], tk, [(.a (PySem.code id), .a (PySem.code "str.__contains__")), (.p ((!(Builtin.Str.occurrences x y 0 x.length 1).isEmpty) = v), .p True)]⟩
  | _ => none
theorem inF_sound (pg : Program) (w : World) (kt : KT) (v : Bool) : ConSound (model pg w) kt 0 (inF v) := by
  intro c bl p cs tk gs s₀ T s I H
  obtain ⟨po, hF, chk⟩ := H [] rfl
  unfold inF at hF
  split at hF
  · rename_i id x t y u
    cases hF
    have e1 : id = "str.__contains__" := PySem.code_inj _ _ (Item.a.inj (chk _ (.head _)))
    have e2 : (!(Builtin.Str.occurrences x y 0 x.length 1).isEmpty) = v := by rw [Item.p.inj (chk _ (.tail _ (.head _)))]; trivial
    subst e1
    refine wpCode_meets (by decide +kernel) F.entry_str_contains (gives_str_contains x y t u).meets ?_
    show ∃ ns po, _
    rw [e2]
    exact ⟨[], _, rfl, rfl, rfl, by show Inv kt s₀ T s (cs ++ []) tk gs; rw [List.append_nil]; exact I⟩
  · cases hF

/-! _check_parenthesis: the loop -/
noncomputable def gForC : Expr × List Stmt × List Stmt := forParts (nthS (fnTop 7).2.1 2)
noncomputable def envCk (F : Nat) : Env := { scope := (fnTop 7).2.2, locals := F, globals := 3, cells := [], qual := ⟨⟨[95, 99, 104, 101, 99, 107, 95, 112, 97, 114, 101, 110, 116, 104, 101, 115, 105, 115, 46, 60, 108, 111, 99, 97, 108, 115, 62, 46]⟩⟩, func := some 60, code := .ref 59, frame := some F, builtins := 0 }
noncomputable def cCk (it F : Nat) : Code := .forLoop gForC.1 (.ref it) gForC.2.1 gForC.2.2 (envCk F)
noncomputable def blCk (f : Fq) (k : Stk) : List (Code × Pos) := (.func f.b f.e, f.p) :: blRL k
noncomputable def oK0 (P : Params) (ka ko : Nat) (x : Str) (t d to : Nat) : Obj := ⟨.type "frame", none, .dict ⟨[ent P ⟨⟨[97, 100, 100, 114]⟩⟩ ka (.str x t), ent P ⟨⟨[111, 112, 101, 110, 115]⟩⟩ ko (.int (d : Nat) to)]⟩ 2, ⟨[]⟩⟩
/-- the frame with a count of any shape -/
noncomputable def oKv (P : Params) (q : Ik) (x : Str) (t : Nat) (d : Int) (to : Nat) (vp vu : Value) : Obj := ⟨.type "frame", none, .dict ⟨[ent P ⟨⟨[97, 100, 100, 114]⟩⟩ q.ka (.str x t), ent P ⟨⟨[111, 112, 101, 110, 115]⟩⟩ q.kp (.int d to), ent P ⟨⟨[112, 111, 115]⟩⟩ q.ke vp, ent P ⟨⟨[99, 104]⟩⟩ q.kc vu]⟩ 4, ⟨[]⟩⟩
structure Cz where
  (it F g t1 t2 G : Nat)
noncomputable def csK0 (P : Params) (z : Cz) (ka ko : Nat) (x : Str) (t d to : Nat) (kb : Nat) : Cells := [(z.it, genO z.g z.t1 z.t2), (z.F, oK0 P ka ko x t d to), (z.G, oI0 P kb x t)]
noncomputable def csK (P : Params) (z : Cz) (si en : Nat) (q : Ik) (d : Int) (to : Nat) (vp vu : Value) (y : Ik) (x : Str) (t j jp tp : Nat) (esc : Bool) (ch last : Value) : Cells :=
  [(z.it, genO z.g z.t1 z.t2), (z.F, oKv P q x t d to vp vu), (z.G, oI P y x t jp tp esc ch), (si, itO false (.str x t) j), (en, enumO si j last)]
noncomputable def logCF40 (m : Nat) (WK : GkF) : List Ev := [.dy 0, .go, .dy 0, .go, .dy 0, .st, .wk m WK, .dy 0, .dy 5, .dy 5, .dy 5, .go, .dy 5, .go, .dy 6, .dy 6, .go, .dy 6, .go, .dy 6, .dy 6, .dy 5, .dy 6, .dy 6, .dy 6, .go, .dy 6, .go, .dy 6, .dy 6, .dy 5, .dy 6, .dy 6, .dy 6, .go, .dy 6, .go, .dy 6, .dy 6, .dy 5, .dy 6, .dy 6, .dy 8, .dy 1, .dy 1, .dy 1, .dy 1, .dy 1, .go, .go, .dy 1, .go, .go, .dy 1, .dy 1, .stop]
noncomputable def logCFE (m : Nat) (WK : GkF) : List Ev := [.dy 0, .go, .dy 0, .go, .dy 0, .st, .wk m WK, .dy 0, .dy 5, .dy 5, .dy 5, .go, .dy 5, .go, .dy 6, .dy 6, .go, .dy 6, .go, .dy 6, .dy 6, .dy 5, .dy 6, .dy 6, .dy 6, .go, .dy 6, .go, .dy 6, .dy 6, .dy 5, .dy 6, .dy 6, .dy 6, .go, .dy 6, .go, .dy 6, .dy 6, .dy 5, .dy 6, .dy 6, .dy 8, .dy 1, .dy 1, .dy 1, .dy 1, .dy 1, .go, .go, .dy 1, .go, .go, .stop]
noncomputable def logCF41 (m : Nat) (WK : GkF) (LT : ConF) : List Ev := [.dy 0, .go, .dy 0, .go, .dy 0, .st, .wk m WK, .dy 0, .dy 5, .dy 5, .dy 5, .go, .dy 5, .go, .dy 6, .dy 6, .go, .dy 6, .go, .dy 6, .dy 6, .dy 5, .dy 6, .dy 6, .dy 6, .go, .dy 6, .go, .dy 6, .dy 6, .dy 5, .dy 6, .dy 6, .dy 6, .go, .dy 6, .go, .dy 6, .dy 6, .dy 5, .dy 6, .dy 6, .dy 8, .dy 1, .dy 1, .dy 1, .dy 1, .dy 1, .go, .go, .dy 1, .go, .go, .dy 1, .go, .go, .dy 1, .dy 1, .dy 1, .go, .con 0 LT]
noncomputable def logCL40 (m : Nat) (WK : GkF) : List Ev := [.dy 0, .go, .dy 0, .go, .dy 0, .st, .wk m WK, .dy 0, .dy 5, .dy 5, .dy 5, .go, .dy 5, .go, .dy 6, .dy 6, .go, .dy 6, .go, .dy 6, .dy 6, .dy 5, .dy 6, .dy 6, .dy 6, .go, .dy 6, .go, .dy 6, .dy 6, .dy 5, .dy 6, .dy 6, .dy 6, .go, .dy 6, .go, .dy 6, .dy 6, .dy 5, .dy 6, .dy 6, .dy 8, .dy 1, .dy 1, .dy 1, .dy 1, .dy 1, .go, .go, .dy 1, .go, .go, .dy 1, .dy 1, .stop]
noncomputable def logCL41 (m : Nat) (WK : GkF) (LT : ConF) : List Ev := [.dy 0, .go, .dy 0, .go, .dy 0, .st, .wk m WK, .dy 0, .dy 5, .dy 5, .dy 5, .go, .dy 5, .go, .dy 6, .dy 6, .go, .dy 6, .go, .dy 6, .dy 6, .dy 5, .dy 6, .dy 6, .dy 6, .go, .dy 6, .go, .dy 6, .dy 6, .dy 5, .dy 6, .dy 6, .dy 6, .go, .dy 6, .go, .dy 6, .dy 6, .dy 5, .dy 6, .dy 6, .dy 8, .dy 1, .dy 1, .dy 1, .dy 1, .dy 1, .go, .go, .dy 1, .go, .go, .dy 1, .go, .go, .dy 1, .dy 1, .dy 1, .go, .con 0 LT, .stop]
noncomputable def logCLE (m : Nat) (WK : GkF) : List Ev := [.dy 0, .go, .dy 0, .go, .dy 0, .st, .wk m WK, .dy 0, .dy 5, .dy 5, .dy 5, .go, .dy 5, .go, .dy 6, .dy 6, .go, .dy 6, .go, .dy 6, .dy 6, .dy 5, .dy 6, .dy 6, .dy 6, .go, .dy 6, .go, .dy 6, .dy 6, .dy 5, .dy 6, .dy 6, .dy 6, .go, .dy 6, .go, .dy 6, .dy 6, .dy 5, .dy 6, .dy 6, .dy 8, .dy 1, .dy 1, .dy 1, .dy 1, .dy 1, .go, .go, .dy 1, .go, .go, .stop]
noncomputable def logCLZ (m : Nat) (WK : GkF) (LT : ConF) : List Ev := [.dy 0, .go, .dy 0, .go, .dy 0, .st, .wk m WK, .dy 0, .dy 5, .dy 5, .dy 5, .go, .dy 5, .go, .dy 6, .dy 6, .go, .dy 6, .go, .dy 6, .dy 6, .dy 5, .dy 6, .dy 6, .dy 6, .go, .dy 6, .go, .dy 6, .dy 6, .dy 5, .dy 6, .dy 6, .dy 6, .go, .dy 6, .go, .dy 6, .dy 6, .dy 5, .dy 6, .dy 6, .dy 8, .dy 1, .dy 1, .dy 1, .dy 1, .dy 1, .go, .go, .dy 1, .go, .go, .dy 1, .go, .go, .dy 1, .dy 1, .dy 1, .go, .con 0 LT]
noncomputable def logCLX (m : Nat) (WK : GkF) : List Ev := [.dy 0, .go, .dy 0, .go, .dy 0, .st, .wk m WK, .dy 6, .go]
section
variable (w : World) (b b2 : Bool) (p : Pos) (k : Stk) (f : Fq) (z : Cz) (x : Str) (t tk : Nat)
theorem segCF40 (ka ko to kb : Nat) (sup : List Nat) (h : sup.length = 12) : okG [true, true, true, true, true] (runG w b b2 (logCF40 9 (wkFO w b b2 40 2)) (cCk z.it z.F) p (blCk f k) (csK0 (fP w b b2) z ka ko x t 0 to kb) tk [(z.g, .fresh (cI0 z.G))] sup)
    (.again (cCk z.it z.F)) (csK (fP w b b2) z (getN sup 1) (getN sup 2) ⟨ka, ko, (getN sup 8), (getN sup 8) + 1⟩ 1 ((getN sup 8) + 4) (.int ((0 : Nat)) (getN sup 6)) (.str ⟨⟨[40]⟩⟩ (getN sup 7)) ⟨kb, (getN sup 3), (getN sup 4), (getN sup 5)⟩ x t 1 0 (getN sup 6) false (.str ⟨⟨[40]⟩⟩ (getN sup 7)) (.str ⟨⟨[40]⟩⟩ (getN sup 7))) [(z.g, stS w b b2 false z.G (getN sup 2))] [Item.p (x.cps[0]? = some 40 ∧ (40 = 40 ∨ 40 = 41) ∧ x.cps.all (· < 128) = true) = .p True] := by
  obtain ⟨fS, rfl⟩ := sup_ex h
  cases b <;> (unfold okG; kernel_rfl)
theorem segCF41 (ka ko to kb : Nat) (sup : List Nat) (h : sup.length = 12) : okG [true, true, true] (runG w b b2 (logCF41 9 (wkFO w b b2 41 2) (ltF true)) (cCk z.it z.F) p (blCk f k) (csK0 (fP w b b2) z ka ko x t 0 to kb) tk [(z.g, .fresh (cI0 z.G))] sup)
    (.fin (.ok (.ret (.bool false)))) ([(z.it, genO z.g z.t1 z.t2), (z.F, oKv (fP w b b2) ⟨ka, ko, (getN sup 8), (getN sup 8) + 1⟩ x t (Int.sub 0 1) ((getN sup 8) + 5) (.int ((0 : Nat)) (getN sup 6)) (.str ⟨⟨[41]⟩⟩ (getN sup 7))), (z.G, oI (fP w b b2) ⟨kb, (getN sup 3), (getN sup 4), (getN sup 5)⟩ x t 0 (getN sup 6) false (.str ⟨⟨[41]⟩⟩ (getN sup 7)))]) [(z.g, stS w b b2 false z.G (getN sup 2))] [Item.p (decide ((Int.sub 0 1) < 0) = true) = .p True, Item.p (x.cps[0]? = some 41 ∧ (41 = 40 ∨ 41 = 41) ∧ x.cps.all (· < 128) = true) = .p True] := by
  obtain ⟨fS, rfl⟩ := sup_ex h
  cases b <;> (unfold okG; kernel_rfl)
theorem segCFE (ka ko to kb : Nat) (c : Nat) (sup : List Nat) (h : sup.length = 13) : okG [true, true, true, true, true] (runG w b b2 (logCFE 10 (wkFE w b b2 c 2)) (cCk z.it z.F) p (blCk f k) (csK0 (fP w b b2) z ka ko x t 0 to kb) tk [(z.g, .fresh (cI0 z.G))] sup)
    (.again (cCk z.it z.F)) (csK (fP w b b2) z (getN sup 1) (getN sup 2) ⟨ka, ko, (getN sup 8), (getN sup 8) + 1⟩ 0 to (.int ((1 : Nat)) (getN sup 6)) (.str ⟨⟨[92, c]⟩⟩ (getN sup 9)) ⟨kb, (getN sup 3), (getN sup 4), (getN sup 5)⟩ x t 2 1 (getN sup 6) true (.str ⟨⟨[c]⟩⟩ (getN sup 7)) (.str ⟨⟨[c]⟩⟩ (getN sup 7))) [(z.g, stS w b b2 true z.G (getN sup 2))] [Item.p (x.cps[0]? = some 92 ∧ x.cps[1]? = some c ∧ x.cps.all (· < 128) = true) = .p True] := by
  obtain ⟨fS, rfl⟩ := sup_ex h
  cases b <;> (unfold okG; kernel_rfl)
theorem segCL40 (e : Bool) (si en : Nat) (q : Ik) (d : Int) (to : Nat) (vp vu : Value) (y : Ik) (j jp tp : Nat) (ch last : Value) (sup : List Nat) (h : sup.length = 7) : okG [true, true, true, true, true] (runG w b b2 (logCL40 4 (wkO w b b2 e j 40 2 3 4)) (cCk z.it z.F) p (blCk f k) (csK (fP w b b2) z si en q d to vp vu y x t j jp tp e ch last) tk [(z.g, stS w b b2 e z.G en)] sup)
    (.again (cCk z.it z.F)) (csK (fP w b b2) z si en q ((d : Int) + 1) ((getN sup 3) + 4) (.int (j : Nat) (getN sup 1)) (.str ⟨⟨[40]⟩⟩ (getN sup 2)) y x t (j + 1) j (getN sup 1) false (.str ⟨⟨[40]⟩⟩ (getN sup 2)) (.str ⟨⟨[40]⟩⟩ (getN sup 2))) [(z.g, stS w b b2 false z.G en)] [Item.p (x.cps[j]? = some 40 ∧ (40 = 40 ∨ 40 = 41)) = .p True] := by
  obtain ⟨fS, rfl⟩ := sup_ex h
  cases b <;> cases e <;> (unfold okG; kernel_rfl)
theorem segCL41 (e : Bool) (si en : Nat) (q : Ik) (d : Int) (to : Nat) (vp vu : Value) (y : Ik) (j jp tp : Nat) (ch last : Value) (sup : List Nat) (h : sup.length = 7) : okG [true, true, true, true, true] (runG w b b2 (logCL41 4 (wkO w b b2 e j 41 2 3 4) (ltF false)) (cCk z.it z.F) p (blCk f k) (csK (fP w b b2) z si en q d to vp vu y x t j jp tp e ch last) tk [(z.g, stS w b b2 e z.G en)] sup)
    (.again (cCk z.it z.F)) (csK (fP w b b2) z si en q ((d : Int) - 1) ((getN sup 3) + 5) (.int (j : Nat) (getN sup 1)) (.str ⟨⟨[41]⟩⟩ (getN sup 2)) y x t (j + 1) j (getN sup 1) false (.str ⟨⟨[41]⟩⟩ (getN sup 2)) (.str ⟨⟨[41]⟩⟩ (getN sup 2))) [(z.g, stS w b b2 false z.G en)] [Item.p (decide ((d - 1) < 0) = false) = .p True, Item.p (x.cps[j]? = some 41 ∧ (41 = 40 ∨ 41 = 41)) = .p True] := by
  obtain ⟨fS, rfl⟩ := sup_ex h
  cases b <;> cases e <;> (unfold okG; kernel_rfl)
theorem segCLE (e : Bool) (si en : Nat) (q : Ik) (d : Int) (to : Nat) (vp vu : Value) (y : Ik) (j jp tp : Nat) (ch last : Value) (c : Nat) (sup : List Nat) (h : sup.length = 8) : okG [true, true, true, true, true] (runG w b b2 (logCLE 5 (wkE w b b2 e j c 2 3 4)) (cCk z.it z.F) p (blCk f k) (csK (fP w b b2) z si en q d to vp vu y x t j jp tp e ch last) tk [(z.g, stS w b b2 e z.G en)] sup)
    (.again (cCk z.it z.F)) (csK (fP w b b2) z si en q d to (.int ((j + 1) : Nat) (getN sup 1)) (.str ⟨⟨[92, c]⟩⟩ (getN sup 4)) y x t (j + 1 + 1) (j + 1) (getN sup 1) true (.str ⟨⟨[c]⟩⟩ (getN sup 2)) (.str ⟨⟨[c]⟩⟩ (getN sup 2))) [(z.g, stS w b b2 true z.G en)] [Item.p (x.cps[j]? = some 92 ∧ x.cps[j + 1]? = some c) = .p True] := by
  obtain ⟨fS, rfl⟩ := sup_ex h
  cases b <;> cases e <;> (unfold okG; kernel_rfl)
theorem segCLZ (e : Bool) (si en : Nat) (q : Ik) (d : Int) (to : Nat) (vp vu : Value) (y : Ik) (j jp tp : Nat) (ch last : Value) (sup : List Nat) (h : sup.length = 7) : okG [true, true, true] (runG w b b2 (logCLZ 4 (wkO w b b2 e j 41 2 3 4) (ltF true)) (cCk z.it z.F) p (blCk f k) (csK (fP w b b2) z si en q d to vp vu y x t j jp tp e ch last) tk [(z.g, stS w b b2 e z.G en)] sup)
    (.fin (.ok (.ret (.bool false)))) ([(z.it, genO z.g z.t1 z.t2), (z.F, oKv (fP w b b2) q x t ((d : Int) - 1) ((getN sup 3) + 5) (.int (j : Nat) (getN sup 1)) (.str ⟨⟨[41]⟩⟩ (getN sup 2))), (z.G, oI (fP w b b2) y x t j (getN sup 1) false (.str ⟨⟨[41]⟩⟩ (getN sup 2)))]) [(z.g, stS w b b2 false z.G en)] [Item.p (decide ((d - 1) < 0) = true) = .p True, Item.p (x.cps[j]? = some 41 ∧ (41 = 40 ∨ 41 = 41)) = .p True] := by
  obtain ⟨fS, rfl⟩ := sup_ex h
  cases b <;> cases e <;> (unfold okG; kernel_rfl)
theorem segCLX (e : Bool) (si en : Nat) (q : Ik) (d : Int) (to : Nat) (vp vu : Value) (y : Ik) (j jp tp : Nat) (ch last : Value) (sup : List Nat) (h : sup.length = 3) : okG [true, true, true] (runG w b b2 (logCLX 1 (wkX w b b2 e j 2 3 4)) (cCk z.it z.F) p (blCk f k) (csK (fP w b b2) z si en q d to vp vu y x t j jp tp e ch last) tk [(z.g, stS w b b2 e z.G en)] sup)
    (.fin (.ok .next)) ([(z.it, genO z.g z.t1 z.t2), (z.F, oKv (fP w b b2) q x t d to vp vu), (z.G, oI (fP w b b2) y x t jp tp false ch)]) [(z.g, .finished)] [Item.p (x.cps[j]? = none) = .p True] := by
  obtain ⟨fS, rfl⟩ := sup_ex h
  cases b <;> cases e <;> (unfold okG; kernel_rfl)
end
/-- the count over the units -/
noncomputable def ckU : List (List Nat) → Nat → Option Nat
  | [], d => some d
  | u :: us, d => if u = [40] then ckU us (d + 1) else if u = [41] then (match d with
    | 0 => none
    | d + 1 => ckU us d) else ckU us d
theorem ckU_40 (us : List (List Nat)) (d : Nat) : ckU ([40] :: us) d = ckU us (d + 1) := rfl
theorem ckU_41 (us : List (List Nat)) (d : Nat) : ckU ([41] :: us) (d + 1) = ckU us d := rfl
theorem ckU_41z (us : List (List Nat)) : ckU ([41] :: us) 0 = none := rfl
theorem ckU_e (c : Nat) (us : List (List Nat)) (d : Nat) : ckU ([92, c] :: us) d = ckU us d := by
  show (if [92, c] = [40] then _ else if [92, c] = [41] then _ else ckU us d) = _
  rw [if_neg (by simp), if_neg (by simp)]
noncomputable def resC : Option Nat → Result
  | some _ => .ok .next
  | none => .ok (.ret (.bool false))
noncomputable def cntC : Option Nat → Int
  | some o => (o : Int)
  | none => -1
section
variable {w : World} {b b2 : Bool} {s₀ : Shared} {T : List Addr} {k : Stk} {f : Fq} {z : Cz} {x : Str} {t : Nat}
/-- what is left behind the loop -/
noncomputable def EndC (w : World) (b b2 : Bool) (s₀ : Shared) (T : List Addr) (z : Cz) (x : Str) (t ka ko kb : Nat) (res : Option Nat) (r : Result) (s' : Shared) : Prop :=
  ∃ (q y : Ik) (to vj vt fu cu tu jp tp cc tc tk' : Nat) (gs' : List (Nat × GenState)), r = resC res ∧ q.ka = ka ∧ q.kp = ko ∧ y.ka = kb ∧
    Inv (KT' w b b2) s₀ T s' [(z.it, genO z.g z.t1 z.t2), (z.F, oKv (fP w b b2) q x t (cntC res) to (.int (vj : Nat) vt) (.str ⟨⟨uOf fu cu⟩⟩ tu)), (z.G, oI (fP w b b2) y x t jp tp false (.str ⟨⟨[cc]⟩⟩ tc))] tk' gs'
theorem sub_one (d : Nat) : ((d + 1 : Nat) : Int) - 1 = (d : Int) := by omega
theorem loopCk {l : List Nat} {us : List (List Nat)} (h : Un l us) : ∀ (pre : List Nat) (e : Bool) (si en : Nat) (q : Ik) (d to vj vt fu cu tu : Nat) (y : Ik) (jp tp cc tc : Nat) (last : Value) (tk : Nat) (s : Shared) (p : Pos),
    x.cps.toList = pre ++ l → Inv (KT' w b b2) s₀ T s (csK (fP w b b2) z si en q (d : Nat) to (.int (vj : Nat) vt) (.str ⟨⟨uOf fu cu⟩⟩ tu) y x t pre.length jp tp e (.str ⟨⟨[cc]⟩⟩ tc) last) tk [(z.g, stS w b b2 e z.G en)] →
    wpCode (MM w b b2) (cx (cCk z.it z.F) (blCk f k)) (EndC w b b2 s₀ T z x t q.ka q.kp y.ka (ckU us d)) p s := by
  induction h with
  | nil =>
    intro pre e si en q d to vj vt fu cu tu y jp tp cc tc last tk s p hx I
    rw [List.append_nil] at hx
    refine segG _ (fun sup hs => segCLX w b b2 p k f z x t tk e si en q (d : Nat) to (.int (vj : Nat) vt) (.str ⟨⟨uOf fu cu⟩⟩ tu) y pre.length jp tp (.str ⟨⟨[cc]⟩⟩ tc) last sup hs) (fun sup hs => one_p (getC_end hx)) ⟨wkX_sound _ _ _ _ _ (by decide), trivial⟩ I fun sup s' tk' hs I' => ?_
    exact ⟨q, y, to, vj, vt, fu, cu, tu, jp, tp, cc, tc, tk', _, rfl, rfl, rfl, rfl, I'⟩
  | @ord c l us hc h ih =>
    intro pre e si en q d to vj vt fu cu tu y jp tp cc tc last tk s p hx I
    have hg := getC_pre hx
    have hx' : x.cps.toList = (pre ++ [c]) ++ l := by rw [hx]; simp
    have hl' : (pre ++ [c]).length = pre.length + 1 := by simp
    rcases hc with rfl | rfl
    · rw [ckU_40]
      refine segG _ (fun sup hs => segCL40 w b b2 p k f z x t tk e si en q (d : Nat) to (.int (vj : Nat) vt) (.str ⟨⟨uOf fu cu⟩⟩ tu) y pre.length jp tp (.str ⟨⟨[cc]⟩⟩ tc) last sup hs) (fun sup hs => one_p ⟨hg, .inl rfl⟩) ⟨wkO_sound _ _ _ _ _ _ (by decide), trivial⟩ I fun sup s' tk' hs I' => ?_
      intro p'
      exact ih (pre ++ [40]) false si en q (d + 1) _ _ _ 0 40 _ y _ _ 40 _ _ tk' s' p' hx' (by rw [hl']; exact I')
    · cases d with
      | zero =>
        rw [ckU_41z]
        refine segG _ (fun sup hs => segCLZ w b b2 p k f z x t tk e si en q ((0 : Nat) : Int) to (.int (vj : Nat) vt) (.str ⟨⟨uOf fu cu⟩⟩ tu) y pre.length jp tp (.str ⟨⟨[cc]⟩⟩ tc) last sup hs) (fun sup hs => all_p2 (by decide) ⟨hg, .inr rfl⟩) ⟨wkO_sound _ _ _ _ _ _ (by decide), ltF_sound _ _ _ _, trivial⟩ I fun sup s' tk' hs I' => ?_
        exact ⟨q, y, _, _, _, 0, 41, _, _, _, 41, _, tk', _, rfl, rfl, rfl, rfl, I'⟩
      | succ d =>
        rw [ckU_41]
        refine segG _ (fun sup hs => segCL41 w b b2 p k f z x t tk e si en q ((d + 1 : Nat) : Int) to (.int (vj : Nat) vt) (.str ⟨⟨uOf fu cu⟩⟩ tu) y pre.length jp tp (.str ⟨⟨[cc]⟩⟩ tc) last sup hs) (fun sup hs => all_p2 (by rw [sub_one]; exact decide_eq_false (by omega)) ⟨hg, .inr rfl⟩) ⟨wkO_sound _ _ _ _ _ _ (by decide), ltF_sound _ _ _ _, trivial⟩ I fun sup s' tk' hs I' => ?_
        intro p'
        rw [sub_one] at I'
        exact ih (pre ++ [41]) false si en q d _ _ _ 0 41 _ y _ _ 41 _ _ tk' s' p' hx' (by rw [hl']; exact I')
  | @esc c l us hc h ih =>
    intro pre e si en q d to vj vt fu cu tu y jp tp cc tc last tk s p hx I
    have hg := getC_pre hx
    have hx' : x.cps.toList = (pre ++ [92, c]) ++ l := by rw [hx]; simp
    have hg2 : x.cps[pre.length + 1]? = some c := by
      have := getC_pre (pre := pre ++ [92]) (l := l) (c := c) (x := x) (by rw [hx]; simp)
      simpa using this
    have hl' : (pre ++ [92, c]).length = pre.length + 1 + 1 := by simp
    rw [ckU_e]
    refine segG _ (fun sup hs => segCLE w b b2 p k f z x t tk e si en q (d : Nat) to (.int (vj : Nat) vt) (.str ⟨⟨uOf fu cu⟩⟩ tu) y pre.length jp tp (.str ⟨⟨[cc]⟩⟩ tc) last c sup hs) (fun sup hs => one_p ⟨hg, hg2⟩) ⟨wkE_sound _ _ _ _ _ _ (by decide), trivial⟩ I fun sup s' tk' hs I' => ?_
    intro p'
    exact ih (pre ++ [92, c]) true si en q d _ _ _ 1 c _ y _ _ c _ _ tk' s' p' hx' (by rw [hl']; exact I')
theorem loopCk1 {us : List (List Nat)} (h : Un x.cps.toList us) (hx0 : x.cps.toList ≠ []) (ha : x.cps.all (· < 128) = true) (ka ko to kb tk : Nat) (s : Shared) (p : Pos) (I : Inv (KT' w b b2) s₀ T s (csK0 (fP w b b2) z ka ko x t 0 to kb) tk [(z.g, .fresh (cI0 z.G))]) :
    wpCode (MM w b b2) (cx (cCk z.it z.F) (blCk f k)) (EndC w b b2 s₀ T z x t ka ko kb (ckU us 0)) p s := by
  generalize hL : x.cps.toList = L at h hx0
  cases h with
  | nil => exact absurd rfl hx0
  | @ord c l us hc h =>
    have hg : x.cps[0]? = some c := getC_pre (pre := []) hL
    rcases hc with rfl | rfl
    · rw [ckU_40]
      refine segG _ (fun sup hs => segCF40 w b b2 p k f z x t tk ka ko to kb sup hs) (fun sup hs => one_p ⟨hg, .inl rfl, ha⟩) ⟨wkFO_sound _ _, trivial⟩ I fun sup s' tk' hs I' => ?_
      intro p'
      exact loopCk h [40] false _ _ ⟨ka, ko, _, _⟩ 1 _ _ _ 0 40 _ ⟨kb, _, _, _⟩ _ _ 40 _ _ tk' s' p' hL I'
    · rw [ckU_41z]
      refine segG _ (fun sup hs => segCF41 w b b2 p k f z x t tk ka ko to kb sup hs) (fun sup hs => all_p2 (by decide) ⟨hg, .inr rfl, ha⟩) ⟨wkFO_sound _ _, ltF_sound _ _ _ _, trivial⟩ I fun sup s' tk' hs I' => ?_
      exact ⟨⟨ka, ko, _, _⟩, ⟨kb, _, _, _⟩, _, _, _, 0, 41, _, _, _, 41, _, tk', _, rfl, rfl, rfl, rfl, I'⟩
  | @esc c l us hc h =>
    have hg : x.cps[0]? = some 92 := getC_pre (pre := []) hL
    have hg2 : x.cps[1]? = some c := getC_pre (pre := [92]) hL
    rw [ckU_e]
    refine segG _ (fun sup hs => segCFE w b b2 p k f z x t tk ka ko to kb c sup hs) (fun sup hs => one_p ⟨hg, hg2, ha⟩) ⟨wkFE_sound _ _, trivial⟩ I fun sup s' tk' hs I' => ?_
    intro p'
    exact loopCk h [92, c] true _ _ ⟨ka, ko, _, _⟩ 0 _ _ _ 1 c _ ⟨kb, _, _, _⟩ _ _ c _ _ tk' s' p' hL I'
end
/-- the loop as a contract -/
structure Ky where
  (z : Cz) (f : Fq) (k : Stk) (ka ko to kb : Nat) (x : Str) (t : Nat)
noncomputable def refF : Code → Nat × Nat
  | .forLoop _ (.ref it) _ _ env => (it, env.locals)
  | _ => (0, 0)
noncomputable def kyOf (ii iF iG : Nat) (c : Code) (bl : List (Code × Pos)) (cs : Cells) (_ : Nat) : Ky :=
  ⟨⟨(refF c).1, (refF c).2, nat0 (fldsOf (objAt cs ii)), fldTok cs ii 1, fldTok cs ii 2, adAt cs iG⟩, fqOf bl, stkRL bl.tail, keyTok cs iF 0, keyTok cs iF 1, valTok cs iF 1, keyTok cs iG 0, frX (objAt cs iG), valTok cs iG 0⟩
noncomputable def CkP (l : List Nat) (res : Option Nat) : Prop := ∃ us, Un l us ∧ ckU us 0 = res ∧ l ≠ [] ∧ (∀ c ∈ l, c < 128)
noncomputable def postCk (P : Params) (y : Ky) (res : Option Nat) (ns : List Nat) : PostR :=
  ⟨resC res, [genO y.z.g y.z.t1 y.z.t2, oKv P ⟨y.ka, y.ko, getN ns 0, getN ns 1⟩ y.x y.t (cntC res) (getN ns 2) (.int (getN ns 3 : Nat) (getN ns 4)) (.str ⟨⟨uOf (getN ns 5) (getN ns 6)⟩⟩ (getN ns 7)),
    oI P ⟨y.kb, getN ns 8, getN ns 9, getN ns 10⟩ y.x y.t (getN ns 11) (getN ns 12) false (.str ⟨⟨[getN ns 13]⟩⟩ (getN ns 14))], [], getN ns 15⟩
noncomputable def FLc (P : Params) (res : Option Nat) (ii iF iG : Nat) : CgF := fun c bl cs tk gs ns => (fun (y : Ky) => cgOf (cCk y.z.it y.z.F) (fun _ => blCk y.f y.k) y.z.g (.fresh (cI0 y.z.G)) [(ii, y.z.it, genO y.z.g y.z.t1 y.z.t2), (iF, y.z.F, oK0 P y.ka y.ko y.x y.t 0 y.to), (iG, y.z.G, oI0 P y.kb y.x y.t)]
  (CkP y.x.cps.toList res) (postCk P y res)) (kyOf ii iF iG c bl cs tk) c bl cs tk gs ns
theorem FLc_sound {w : World} {b b2 : Bool} (res : Option Nat) (ii iF iG : Nat) (hi : [ii, iF, iG].Nodup) : CgSound (MM w b b2) (KT' w b b2) 16 (FLc (fP w b b2) res ii iF iG) := by
  refine CgSound.byC (kyOf ii iF iG) (F := fun y => cgOf (cCk y.z.it y.z.F) (fun _ => blCk y.f y.k) y.z.g (.fresh (cI0 y.z.G)) [(ii, y.z.it, genO y.z.g y.z.t1 y.z.t2), (iF, y.z.F, oK0 (fP w b b2) y.ka y.ko y.x y.t 0 y.to), (iG, y.z.G, oI0 (fP w b b2) y.kb y.x y.t)]
    (CkP y.x.cps.toList res) (postCk (fP w b b2) y res)) fun y => ?_
  refine cgOf_sound hi fun hq s₀ T s tk p pp I => ?_
  obtain ⟨us, h, hu, h0, ha⟩ := hq
  have hall : y.x.cps.all (· < 128) = true := by
    rw [← Array.all_toList, List.all_eq_true]
    intro c hc
    exact decide_eq_true (ha c hc)
  refine wpCode_mono ?_ (loopCk1 (f := y.f) (k := y.k) (z := y.z) h h0 hall y.ka y.ko y.to y.kb tk s p I)
  rintro r s' ⟨q, y', to, vj, vt, fu, cu, tu, jp, tp, cc, tc, tk', gs', h1, h2, h3, h4, J⟩
  rw [hu] at h1 J
  obtain ⟨q1, q2, q3, q4⟩ := q
  obtain ⟨y1, y2, y3, y4⟩ := y'
  obtain rfl : q1 = y.ka := h2
  obtain rfl : q2 = y.ko := h3
  obtain rfl : y1 = y.kb := h4
  exact ⟨[q3, q4, to, vj, vt, fu, cu, tu, y2, y3, y4, jp, tp, cc, tc, tk'], _, rfl, h1, rfl, J⟩
/-! the function -/
noncomputable def cC60 (x : Str) (t : Nat) : Code := .call (.ref 60) ⟨[.str x t], []⟩
noncomputable def logCk (IN : ConF) (L : CgF) (more : List Ev) : List Ev := appE [.st, .st, .dy 0, .dy 0, .st, .go, .st, .dy 0, .st, .go, .st, .st, .dy 1, .dy 1, .st, .go, .dy 1, .go, .con 0 IN, .dy 1, .dy 0, .dy 0, .dy 0, .dy 0, .st, .dy 0, .st, .go, .st, .st, .dy 2, .dy 2, .st, .dy 3, .dy 3, .go, .dy 3, .go, .dy 3, .cg 16 L] more
section
variable (w : World) (b b2 : Bool) (k : Stk) (p : Pos) (x : Str) (t tk o : Nat)
theorem segCk (sup : List Nat) (h : sup.length = 21) : okG [] (runG w b b2 (logCk (inF false) (FLc (fP w b b2) (some o) 3 0 2) [.dy 0, .go, .go]) (cC60 x t) p (blRL k) [] tk [] sup)
    (.fin (.ok (.ret (.bool (((o : Nat) : Int) == 0))))) [] [] [Item.p (CkP x.cps.toList (some o)) = .p True, Item.p ((!(Builtin.Str.occurrences x ⟨⟨[34]⟩⟩ 0 x.length 1).isEmpty) = false) = .p True] := by
  obtain ⟨fS, rfl⟩ := sup_ex h
  cases b <;> (unfold okG; kernel_rfl)
theorem segCk0 (sup : List Nat) (h : sup.length = 21) : okG [] (runG w b b2 (logCk (inF false) (FLc (fP w b b2) none 3 0 2) []) (cC60 x t) p (blRL k) [] tk [] sup)
    (.fin (.ok (.ret (.bool false)))) [] [] [Item.p (CkP x.cps.toList none) = .p True, Item.p ((!(Builtin.Str.occurrences x ⟨⟨[34]⟩⟩ 0 x.length 1).isEmpty) = false) = .p True] := by
  obtain ⟨fS, rfl⟩ := sup_ex h
  cases b <;> (unfold okG; kernel_rfl)
end
noncomputable def ansC : Option Nat → Bool
  | some o => decide (o = 0)
  | none => false
theorem un_no34 {l : List Nat} {us : List (List Nat)} (h : Un l us) : 34 ∉ l := by
  induction h with
  | nil => simp
  | ord hc _ ih =>
    rcases hc with rfl | rfl <;> simpa using ih
  | esc hc _ ih =>
    rcases hc with rfl | rfl | rfl <;> simpa using ih
/-- _check_parenthesis as a contract -/
noncomputable def F60 (tx : List Nat) (B : Bool) : ConF := fun c bl cs tk ns => (fun (y : Cy) => conOf (cC60 ⟨⟨tx⟩⟩ y.t) (fun _ => blRL y.k) [] (fun ns => ⟨.ok (.ret (.bool B)), [], [], getN ns 0⟩)) (cyOf c bl cs tk) c bl cs tk ns
theorem F60_sound {w : World} {b b2 : Bool} {tx : List Nat} {us : List (List Nat)} (h : Un tx us) (h0 : tx ≠ []) (ha : ∀ c ∈ tx, c < 128) {B : Bool} (hB : ansC (ckU us 0) = B) : ConSound (MM w b b2) (KT' w b b2) 1 (F60 tx B) := by
  refine ConSound.byC cyOf (F := fun y => conOf (cC60 ⟨⟨tx⟩⟩ y.t) (fun _ => blRL y.k) [] (fun ns => ⟨.ok (.ret (.bool B)), [], [], getN ns 0⟩)) fun y => ?_
  refine conOf_sound (by simp) fun s tk p pp I => ?_
  have hi : (!(Builtin.Str.occurrences (⟨⟨tx⟩⟩ : Str) ⟨⟨[34]⟩⟩ 0 (⟨⟨tx⟩⟩ : Str).length 1).isEmpty) = false := by
    refine (PySem.StrLaws.found_one ⟨⟨tx⟩⟩ 34).trans ?_
    exact decide_eq_false (un_no34 h)
  cases e : ckU us 0 with
  | none =>
    rw [e] at hB
    refine segG _ (fun sup hs => segCk0 w b b2 y.k p ⟨⟨tx⟩⟩ y.t tk sup hs) (fun sup hs => all_p2 ⟨us, h, e, h0, ha⟩ hi) ⟨inF_sound _ _ _ _, FLc_sound _ _ _ _ (by decide), trivial⟩ I fun sup s' tk' hs I' => ?_
    exact ⟨[tk'], rfl, by rw [← hB]; rfl, rfl, I'⟩
  | some o =>
    rw [e] at hB
    refine segG _ (fun sup hs => segCk w b b2 y.k p ⟨⟨tx⟩⟩ y.t tk o sup hs) (fun sup hs => all_p2 ⟨us, h, e, h0, ha⟩ hi) ⟨inF_sound _ _ _ _, FLc_sound _ _ _ _ (by decide), trivial⟩ I fun sup s' tk' hs I' => ?_
    refine ⟨[tk'], rfl, ?_, rfl, I'⟩
    have : (((o : Nat) : Int) == 0) = B := by
      rw [← hB]
      show _ = decide (o = 0)
      rw [Bool.eq_iff_iff, beq_iff_eq, decide_eq_true_eq]; omega
    rw [this]
end Mine

/-! part LI -/
namespace Mine
open PySem PySem.W PySem.W.X PySem.Spec PySem.Calls PyProof.Rows

/-! iterators over lists of any make -/
noncomputable def lsI (v : Value) (j : Nat) : Obj := ⟨.type "list_iterator", none, .fields ⟨[v, .int (j : Nat) 0]⟩, ⟨[]⟩⟩
noncomputable def nextLF (ci cl j : Nat) (v : Value) : ConF := fun c _ cs tk _ => match c, getC cs ci, getC cs cl with
  | .builtin id ⟨[.ref a], []⟩, some (y, o), some (l, ol) => some ⟨.ok (.ret v), [(ci, lsI (.ref l) (j + 1))], [], tk,
      [(.a (PySem.code id), .a (PySem.code "list_iterator.__next__")), (.a a, .a y), (.o o, .o (lsI (.ref l) j)), (.o ol, .o (lstO (seqV ol) (seqN ol))), (.p ((seqV ol)[j]? = some v), .p True)]⟩
  | _, _, _ => none
theorem nextLF_sound (pg : Program) (w : World) (kt : KT) (ci cl j : Nat) (v : Value) : ConSound (model pg w) kt 0 (nextLF ci cl j v) := by
  intro c bl p cs tk gs s₀ T s I H
  obtain ⟨po, hF, chk⟩ := H [] rfl
  unfold nextLF at hF
  split at hF
  · rename_i id a y o l ol hg hl
    cases hF
    have e1 : id = "list_iterator.__next__" := PySem.code_inj _ _ (Item.a.inj (chk _ (.head _)))
    have e2 : a = y := Item.a.inj (chk _ (.tail _ (.head _)))
    have e3 : o = lsI (.ref l) j := Item.o.inj (chk _ (.tail _ (.tail _ (.head _))))
    have e4 : ol = lstO (seqV ol) (seqN ol) := Item.o.inj (chk _ (.tail _ (.tail _ (.tail _ (.head _)))))
    have e5 : (seqV ol)[j]? = some v := by rw [Item.p.inj (chk _ (.tail _ (.tail _ (.tail _ (.tail _ (.head _))))))]; trivial
    subst e1 e2
    have ho := I.cell _ (getC_mem hg)
    have hol := I.cell _ (getC_mem hl)
    refine wpCode_any (by decide +kernel) entry_listiter_next fun A hA => ?_
    show wpAny _ _ (field (.ref a) 0 >>= _) _ _ s
    refine wpAny_bind (wpAny_field ho (by rw [e3]; rfl) (x := .ref l) rfl ?_)
    show wpAny _ _ (if (Value.ref l == Value.none) = true then _ else _) _ _ s
    rw [if_neg (show ¬ ((Value.ref l == Value.none) = true) from Bool.false_ne_true)]
    show wpAny _ _ (field (.ref a) 1 >>= _) _ _ s
    refine wpAny_bind (wpAny_field ho (by rw [e3]; rfl) (x := .int (j : Nat) 0) rfl ?_)
    show wpAny _ _ (seqItems? (.ref l) >>= _) _ _ s
    have hd : ol.data = .seq ⟨seqV ol⟩ (seqN ol) := by
      have := congrArg Obj.data e4
      exact this
    refine wpAny_bind (wpAny_seqItems hol hd ?_)
    have e5' : (⟨seqV ol⟩ : Array Value)[j]? = some v := by rw [← e5]; simp
    simp only [Int.toNat_natCast, e5']
    refine wpAny_bind (wpAny_setField ho (by rw [e3]; rfl) (by simp) (wpAny_pure ⟨v, rfl, [], _, rfl, by unfold nextLF; rw [hg, hl], rfl, ?_⟩))
    show Inv kt s₀ T _ (setC cs ci (lsI (.ref l) (j + 1)) ++ []) tk gs
    rw [List.append_nil]
    have z := I.set (f := Obj.mapFields (·.setIfInBounds 1 (rawInt (((j : Nat) : Int) + 1)))) hg (by rw [e3]; rfl)
    have e6 : Obj.mapFields (·.setIfInBounds 1 (rawInt (((j : Nat) : Int) + 1))) o = lsI (.ref l) (j + 1) := by rw [e3]; rfl
    rw [e6] at z
    exact z
  · cases hF
noncomputable def nextLE (ci cl j : Nat) : ConF := fun c _ cs tk ns => match c, getC cs ci, getC cs cl with
  | .builtin id ⟨[.ref a], []⟩, some (y, o), some (l, ol) => some ⟨.error (.ref (getN ns 1)), [(ci, lsI .none j)], [(getN ns 0, tupO []), (getN ns 1, stopO (getN ns 0))], tk,
      [(.a (PySem.code id), .a (PySem.code "list_iterator.__next__")), (.a a, .a y), (.o o, .o (lsI (.ref l) j)), (.o ol, .o (lstO (seqV ol) (seqN ol))), (.p ((seqV ol)[j]? = none), .p True)]⟩
  | _, _, _ => none
theorem nextLE_sound (pg : Program) (w : World) (kt : KT) (ci cl j : Nat) : ConSound (model pg w) kt 2 (nextLE ci cl j) := by
  intro c bl p cs tk gs s₀ T s I H
  obtain ⟨po, hF, chk⟩ := H [0, 0] rfl
  unfold nextLE at hF
  split at hF
  · rename_i id a y o l ol hg hl
    cases hF
    have e1 : id = "list_iterator.__next__" := PySem.code_inj _ _ (Item.a.inj (chk _ (.head _)))
    have e2 : a = y := Item.a.inj (chk _ (.tail _ (.head _)))
    have e3 : o = lsI (.ref l) j := Item.o.inj (chk _ (.tail _ (.tail _ (.head _))))
    have e4 : ol = lstO (seqV ol) (seqN ol) := Item.o.inj (chk _ (.tail _ (.tail _ (.tail _ (.head _)))))
    have e5 : (seqV ol)[j]? = none := by rw [Item.p.inj (chk _ (.tail _ (.tail _ (.tail _ (.tail _ (.head _))))))]; trivial
    subst e1 e2
    have ho := I.cell _ (getC_mem hg)
    have hol := I.cell _ (getC_mem hl)
    have hset := I.set (f := Obj.mapFields (·.setIfInBounds 0 .none)) hg (by rw [e3]; rfl)
    have e6 : Obj.mapFields (·.setIfInBounds 0 .none) o = lsI .none j := by rw [e3]; rfl
    rw [e6] at hset
    have hpost : ∃ ns po, ns.length = 2 ∧ nextLE ci cl j (.builtin "list_iterator.__next__" ⟨[.ref a], []⟩) bl cs tk ns = some po ∧ (.error (.ref ((s.heap.update a (Obj.mapFields (·.setIfInBounds 0 .none))).push (tupO [])).objs.size) : Result) = po.res ∧
        Inv kt s₀ T { s with heap := ((s.heap.update a (Obj.mapFields (·.setIfInBounds 0 .none))).push (tupO [])).push (stopO (s.heap.update a (Obj.mapFields (·.setIfInBounds 0 .none))).objs.size) } (applyPost cs po) po.tk gs := by
      refine ⟨[(s.heap.update a (Obj.mapFields (·.setIfInBounds 0 .none))).objs.size, ((s.heap.update a (Obj.mapFields (·.setIfInBounds 0 .none))).push (tupO [])).objs.size], _, rfl, by unfold nextLE; rw [hg, hl], rfl, ?_⟩
      have z := (hset.alloc (o := tupO []) rfl).alloc (o := stopO (s.heap.update a (Obj.mapFields (·.setIfInBounds 0 .none))).objs.size) rfl
      rw [List.append_assoc] at z
      exact z
    refine wpCode_any (by decide +kernel) entry_listiter_next fun A hA => ?_
    show wpAny _ _ (field (.ref a) 0 >>= _) _ _ s
    refine wpAny_bind (wpAny_field ho (by rw [e3]; rfl) (x := .ref l) rfl ?_)
    show wpAny _ _ (if (Value.ref l == Value.none) = true then _ else _) _ _ s
    rw [if_neg (show ¬ ((Value.ref l == Value.none) = true) from Bool.false_ne_true)]
    show wpAny _ _ (field (.ref a) 1 >>= _) _ _ s
    refine wpAny_bind (wpAny_field ho (by rw [e3]; rfl) (x := .int (j : Nat) 0) rfl ?_)
    show wpAny _ _ (seqItems? (.ref l) >>= _) _ _ s
    have hd : ol.data = .seq ⟨seqV ol⟩ (seqN ol) := by
      have := congrArg Obj.data e4
      exact this
    refine wpAny_bind (wpAny_seqItems hol hd ?_)
    have e5' : (⟨seqV ol⟩ : Array Value)[j]? = none := by rw [← e5]; simp
    simp only [Int.toNat_natCast, e5']
    refine wpAny_bind (wpAny_rule (wpAny_bind (wpAny_setField ho (by rw [e3]; rfl) (by simp) ?_)))
    show wpAny _ _ (newExc (.type "StopIteration") [] >>= _) _ _ _
    refine wpAny_bind ?_
    simp only [newExc, newTuple]
    refine wpAny_bind (wpAny_newObj_type ?_ (by size_fits))
    refine wpAny_bind (m := firstArgMember _ _) (wpAny_of_eq (a := Value.none) (by first | rfl | (simp only [firstArgMember]; rfl)) ?_)
    refine wpAny_newObj_type ?_ (by size_fits)
    simp only [raiseNew]
    refine wpAny_bind (wpAny_handled ?_)
    rw [show A.handled = none from hA]
    exact wpAny_bind (wpAny_pure (wpAny_throw hpost))
  · cases hF
end Mine

/-! part CL -/
namespace Mine
open PySem PySem.W PySem.W.X PySem.Spec PySem.Calls PyProof.Rows

/-! str.replace that finds something -/
noncomputable def ReplP (x y z : Str) (u v : Nat) (X : Str) : Prop := ((Builtin.Str.occurrences x y 0 x.length (x.length + 1)).isEmpty || (y.length == 0 && z.length == 0)) = false ∧ (u == 0 || v == 0) = false ∧ (u == v) = false ∧ (y == z) = false ∧
  Builtin.Str.tooLong (x.length + (Builtin.Str.occurrences x y 0 x.length (x.length + 1)).length * z.length) = false ∧ Builtin.Str.glued z (Builtin.Str.partsBetween x (Builtin.Str.occurrences x y 0 x.length (x.length + 1)) y.length) = X ∧ X.length ≤ sizeLine
noncomputable def replF (X : Str) : ConF := fun c _ _ tk _ => match c with
  | .builtin id ⟨[.str x _, .str y u, .str z v], []⟩ => some ⟨.ok (.ret (.str X tk)), [], [], tk + 1, [(.a (PySem.code id), .a (PySem.code "str.replace")), (.p (ReplP x y z u v X), .p True)]⟩
  | _ => none
theorem replF_sound (pg : Program) (w : World) (kt : KT) (X : Str) : ConSound (model pg w) kt 0 (replF X) := by
  intro c bl p cs tk gs s₀ T s I H
  obtain ⟨po, hF, chk⟩ := H [] rfl
  unfold replF at hF
  split at hF
  · rename_i id x t y u z v
    cases hF
    have e1 : id = "str.replace" := PySem.code_inj _ _ (Item.a.inj (chk _ (.head _)))
    have e2 : ReplP x y z u v X := by rw [Item.p.inj (chk _ (.tail _ (.head _)))]; trivial
    subst e1
    obtain ⟨h1, h2, h3, h4, h5, h6, h7⟩ := e2
    refine wpCode_meets (by decide +kernel) F.entry_str_replace (gives_str_replace x y z t u v (fun _ => ⟨h2, h3, h4, h5⟩)).meets ?_
    rw [h1, h6]
    show _ ∧ _
    refine ⟨h7, [], _, rfl, rfl, by rw [I.tk], ?_⟩
    show Inv kt s₀ T _ (cs ++ []) (tk + 1) gs
    rw [List.append_nil, ← I.tk]
    exact I.toks _
  · cases hF

/-! _law_closes: the comprehension -/
noncomputable def asgE : Stmt → Expr
  | .Assign _ e _ => e
  | _ => default
noncomputable def eCl : Expr := callA (asgE (nthS (fnTop 15).2.1 0)) 0
noncomputable def envCl (ns fr : Nat) : Env := { scope := lcScope eCl, locals := ns, globals := 3, cells := [], qual := ⟨⟨[95, 108, 97, 119, 95, 99, 108, 111, 115, 101, 115, 46, 60, 108, 111, 99, 97, 108, 115, 62, 46]⟩⟩, func := none, code := .ref 130, frame := some fr, builtins := 0 }
noncomputable def cCl (it acc ns fr : Nat) : Code := .compLoop eCl 0 (.ref it) (.ref acc) (envCl ns fr)
noncomputable def nsCl (P : Params) : Option (Nat × Value) → Obj
  | none => ⟨.type "dict", none, .dict ⟨[]⟩ 0, ⟨[]⟩⟩
  | some (kt, v) => ⟨.type "dict", none, .dict ⟨[ent P ⟨⟨[115, 105, 100, 101]⟩⟩ kt v]⟩ 1, ⟨[]⟩⟩
noncomputable def csCl (P : Params) (it acc ns l : Nat) (j : Nat) (vs : List Value) (n : Nat) (z : Option (Nat × Value)) (xs : List Value) (m : Nat) : Cells := [(it, lsI (.ref l) j), (acc, lstO vs n), (ns, nsCl P z), (l, lstO xs m)]
noncomputable def logClI (NX AP : ConF) : List Ev := [.dy 0, .go, .dy 0, .con 0 NX, .dy 2, .dy 2, .dy 2, .go, .go, .go, .dy 1, .con 0 AP, .stop]
noncomputable def logClX (NX : ConF) : List Ev := [.dy 0, .go, .dy 0, .con 2 NX, .dy 5]
noncomputable def m4 : List Bool := [true, true, true, true]
/-! the while loop -/
noncomputable def whParts : Stmt → Expr × List Stmt × List Stmt
  | .While t b o _ => (t, b, o)
  | _ => default
noncomputable def gW : Expr × List Stmt × List Stmt := whParts (nthS (fnTop 15).2.1 1)
noncomputable def envW (F : Nat) : Env := { scope := (fnTop 15).2.2, locals := F, globals := 3, cells := [], qual := ⟨⟨[95, 108, 97, 119, 95, 99, 108, 111, 115, 101, 115, 46, 60, 108, 111, 99, 97, 108, 115, 62, 46]⟩⟩, func := some 131, code := .ref 130, frame := some F, builtins := 0 }
noncomputable def cW (F : Nat) : Code := .whileLoop gW.1 gW.2.1 gW.2.2 (envW F)
noncomputable def oW (P : Params) (ks l kr : Nat) (r : Str) (tr : Nat) : Obj := ⟨.type "frame", none, .dict ⟨[ent P ⟨⟨[115, 105, 100, 101, 115]⟩⟩ ks (.ref l), ent P ⟨⟨[114, 111, 119]⟩⟩ kr (.str r tr)]⟩ 2, ⟨[]⟩⟩
noncomputable def logWT (IN RP : ConF) : List Ev := [.dy 0, .go, .con 0 IN, .dy 0, .go, .con 0 RP, .dy 0, .dy 0, .stop]
noncomputable def logWF (IN : ConF) : List Ev := [.dy 0, .go, .con 0 IN]
section
variable (w : World) (b b2 : Bool) (k : Stk) (f : Fq) (p : Pos) (it acc ns fr l : Nat) (t j tk : Nat) (vs : List Value) (n : Nat) (xs : List Value) (m : Nat)
theorem segCl0F (sup : List Nat) (h : sup.length = 0) : okQ m4 (runF w b b2 (logClI (nextLF 0 3 j (.int (0 : Nat) t)) (appF 1)) (cCl it acc ns fr) p (blCk f k) (csCl (fP w b b2) it acc ns l j vs n none xs m) tk sup)
    (.again (cCl it acc ns fr)) (csCl (fP w b b2) it acc ns l (j + 1) (vs ++ [chv 40 (tk + 2)]) (n + 1) (some (tk, .int (0 : Nat) t)) xs m) [Item.p (vs.length ≤ sizeLine) = .p True, Item.p (xs[j]? = some (.int (0 : Nat) t)) = .p True] := by
  match sup, h with
  | [], _ => cases b <;> (unfold okQ; kernel_rfl)
theorem segCl0L (kt : Nat) (v : Value) (sup : List Nat) (h : sup.length = 0) : okQ m4 (runF w b b2 (logClI (nextLF 0 3 j (.int (0 : Nat) t)) (appF 1)) (cCl it acc ns fr) p (blCk f k) (csCl (fP w b b2) it acc ns l j vs n (some (kt, v)) xs m) tk sup)
    (.again (cCl it acc ns fr)) (csCl (fP w b b2) it acc ns l (j + 1) (vs ++ [chv 40 (tk + 2)]) (n + 1) (some (kt, .int (0 : Nat) t)) xs m) [Item.p (vs.length ≤ sizeLine) = .p True, Item.p (xs[j]? = some (.int (0 : Nat) t)) = .p True] := by
  match sup, h with
  | [], _ => cases b <;> (unfold okQ; kernel_rfl)
theorem segCl1F (sup : List Nat) (h : sup.length = 0) : okQ m4 (runF w b b2 (logClI (nextLF 0 3 j (.int (1 : Nat) t)) (appF 1)) (cCl it acc ns fr) p (blCk f k) (csCl (fP w b b2) it acc ns l j vs n none xs m) tk sup)
    (.again (cCl it acc ns fr)) (csCl (fP w b b2) it acc ns l (j + 1) (vs ++ [chv 41 (tk + 2)]) (n + 1) (some (tk, .int (1 : Nat) t)) xs m) [Item.p (vs.length ≤ sizeLine) = .p True, Item.p (xs[j]? = some (.int (1 : Nat) t)) = .p True] := by
  match sup, h with
  | [], _ => cases b <;> (unfold okQ; kernel_rfl)
theorem segCl1L (kt : Nat) (v : Value) (sup : List Nat) (h : sup.length = 0) : okQ m4 (runF w b b2 (logClI (nextLF 0 3 j (.int (1 : Nat) t)) (appF 1)) (cCl it acc ns fr) p (blCk f k) (csCl (fP w b b2) it acc ns l j vs n (some (kt, v)) xs m) tk sup)
    (.again (cCl it acc ns fr)) (csCl (fP w b b2) it acc ns l (j + 1) (vs ++ [chv 41 (tk + 2)]) (n + 1) (some (kt, .int (1 : Nat) t)) xs m) [Item.p (vs.length ≤ sizeLine) = .p True, Item.p (xs[j]? = some (.int (1 : Nat) t)) = .p True] := by
  match sup, h with
  | [], _ => cases b <;> (unfold okQ; kernel_rfl)
theorem segClXF (sup : List Nat) (h : sup.length = 2) : okQ m4 (runF w b b2 (logClX (nextLE 0 3 j)) (cCl it acc ns fr) p (blCk f k) (csCl (fP w b b2) it acc ns l j vs n none xs m) tk sup)
    (.fin (.ok .next)) [(it, lsI .none j), (acc, lstO vs n), (ns, nsCl (fP w b b2) none), (l, lstO xs m)] [Item.p (xs[j]? = none) = .p True] := by
  obtain ⟨fS, rfl⟩ := sup_ex h
  cases b <;> (unfold okQ; kernel_rfl)
theorem segClXL (kt : Nat) (v : Value) (sup : List Nat) (h : sup.length = 2) : okQ m4 (runF w b b2 (logClX (nextLE 0 3 j)) (cCl it acc ns fr) p (blCk f k) (csCl (fP w b b2) it acc ns l j vs n (some (kt, v)) xs m) tk sup)
    (.fin (.ok .next)) [(it, lsI .none j), (acc, lstO vs n), (ns, nsCl (fP w b b2) (some (kt, v))), (l, lstO xs m)] [Item.p (xs[j]? = none) = .p True] := by
  obtain ⟨fS, rfl⟩ := sup_ex h
  cases b <;> (unfold okQ; kernel_rfl)
end
section
variable (w : World) (b b2 : Bool) (k : Stk) (f : Fq) (p : Pos) (F ks l kr tr tk : Nat) (r X : Str)
theorem segWT (sup : List Nat) (h : sup.length = 0) : okQ [true] (runF w b b2 (logWT (inF true) (replF X)) (cW F) p (blCk f k) [(F, oW (fP w b b2) ks l kr r tr)] tk sup)
    (.again (cW F)) [(F, oW (fP w b b2) ks l kr X (tk + 3))] [Item.p (ReplP r ⟨⟨[40, 41]⟩⟩ ⟨⟨[]⟩⟩ (tk + 1) (tk + 2) X) = .p True, Item.p ((!(Builtin.Str.occurrences r ⟨⟨[40, 41]⟩⟩ 0 r.length 1).isEmpty) = true) = .p True] := by
  match sup, h with
  | [], _ => cases b <;> (unfold okQ; kernel_rfl)
theorem segWF (sup : List Nat) (h : sup.length = 0) : okQ [true] (runF w b b2 (logWF (inF false)) (cW F) p (blCk f k) [(F, oW (fP w b b2) ks l kr r tr)] tk sup)
    (.fin (.ok .next)) [(F, oW (fP w b b2) ks l kr r tr)] [Item.p ((!(Builtin.Str.occurrences r ⟨⟨[40, 41]⟩⟩ 0 r.length 1).isEmpty) = false) = .p True] := by
  match sup, h with
  | [], _ => cases b <;> (unfold okQ; kernel_rfl)
end
/-! the plain words of the loops -/
noncomputable def hasB (r : List Nat) : Bool := !(Builtin.Str.occurrences (⟨⟨r⟩⟩ : Str) ⟨⟨[40, 41]⟩⟩ 0 (⟨⟨r⟩⟩ : Str).length 1).isEmpty
noncomputable def occB (r : List Nat) : List Nat := Builtin.Str.occurrences (⟨⟨r⟩⟩ : Str) ⟨⟨[40, 41]⟩⟩ 0 (⟨⟨r⟩⟩ : Str).length ((⟨⟨r⟩⟩ : Str).length + 1)
noncomputable def repB (r : List Nat) : List Nat := (Builtin.Str.glued ⟨⟨[]⟩⟩ (Builtin.Str.partsBetween (⟨⟨r⟩⟩ : Str) (occB r) 2)).cps.toList
noncomputable def okB (r : List Nat) : Bool := !(occB r).isEmpty && !Builtin.Str.tooLong ((⟨⟨r⟩⟩ : Str).length + (occB r).length * 0) && decide ((repB r).length ≤ sizeLine)
inductive Wl : List Nat → List Nat → Prop where
  | stop {r : List Nat} : hasB r = false → Wl r r
  | step {r r' : List Nat} : hasB r = true → okB r = true → Wl (repB r) r' → Wl r r'
theorem repl_of {r : List Nat} (h : okB r = true) (tk : Nat) : ReplP ⟨⟨r⟩⟩ ⟨⟨[40, 41]⟩⟩ ⟨⟨[]⟩⟩ (tk + 1) (tk + 2) ⟨⟨repB r⟩⟩ := by
  unfold okB at h
  simp only [Bool.and_eq_true, Bool.not_eq_true', decide_eq_true_eq] at h
  obtain ⟨⟨h1, h2⟩, h3⟩ := h
  refine ⟨?_, ?_, ?_, by decide, h2, ?_, ?_⟩
  · show ((occB r).isEmpty || _) = false
    rw [h1]; rfl
  · have e1 : (tk + 1 == 0) = false := by rw [beq_eq_false_iff_ne]; omega
    have e2 : (tk + 2 == 0) = false := by rw [beq_eq_false_iff_ne]; omega
    show (tk + 1 == 0 || tk + 2 == 0) = false
    rw [e1, e2]; rfl
  · show (tk + 1 == tk + 2) = false
    rw [beq_eq_false_iff_ne]; omega
  · show Builtin.Str.glued ⟨⟨[]⟩⟩ (Builtin.Str.partsBetween (⟨⟨r⟩⟩ : Str) (occB r) 2) = _
    rfl
  · rw [len_cps]; exact h3
section
variable {w : World} {b b2 : Bool} {s₀ : Shared} {T : List Addr} {k : Stk} {f : Fq}
theorem loopW {F ks l kr : Nat} {r r' : List Nat} (h : Wl r r') : ∀ (tr tk : Nat) (s : Shared) (p : Pos), Inv (KT' w b b2) s₀ T s [(F, oW (fP w b b2) ks l kr ⟨⟨r⟩⟩ tr)] tk →
    wpCode (MM w b b2) (cx (cW F) (blCk f k)) (fun q s' => ∃ tr' tk', q = .ok .next ∧ Inv (KT' w b b2) s₀ T s' [(F, oW (fP w b b2) ks l kr ⟨⟨r'⟩⟩ tr')] tk') p s := by
  induction h with
  | stop h0 =>
    intro tr tk s p I
    refine segQ (MM_den w b b2) rfl rfl _ (fun sup hs => segWF w b b2 k f p F ks l kr tr tk _ sup hs) (fun sup hs => one_p h0) ⟨inF_sound _ _ _ _, trivial⟩ I fun sup s' tk' hs I' => ?_
    exact ⟨tr, tk', rfl, I'⟩
  | @step r r' h0 h1 h2 ih =>
    intro tr tk s p I
    refine segQ (MM_den w b b2) rfl rfl _ (fun sup hs => segWT w b b2 k f p F ks l kr tr tk ⟨⟨r⟩⟩ ⟨⟨repB r⟩⟩ sup hs) (fun sup hs => all_p2 (repl_of h1 tk) h0) ⟨inF_sound _ _ _ _, replF_sound _ _ _ _, trivial⟩ I fun sup s' tk' hs I' => ?_
    intro p'
    exact ih _ _ s' p' I'
noncomputable def iv (z : Nat × Nat) : Value := .int (z.1 : Nat) z.2
theorem getV_pre {xs : List Value} {pre l : List (Nat × Nat)} {z : Nat × Nat} (h : xs = (pre ++ z :: l).map iv) : xs[pre.length]? = some (iv z) := by
  rw [h]; simp
theorem getV_end {xs : List Value} {pre : List (Nat × Nat)} (h : xs = pre.map iv) : xs[pre.length]? = none := by
  rw [h]; simp
variable {it acc ns fr l : Nat} {xs : List Value} {m : Nat}
theorem loopCl : ∀ (sd pre : List (Nat × Nat)) (vs : List Value) (n kt sv tv tk : Nat) (s : Shared) (p : Pos), xs = (pre ++ sd).map iv → (∀ z ∈ sd, z.1 = 0 ∨ z.1 = 1) → vs.length + sd.length ≤ 9000 →
    Inv (KT' w b b2) s₀ T s (csCl (fP w b b2) it acc ns l pre.length vs n (some (kt, .int (sv : Nat) tv)) xs m) tk →
    wpCode (MM w b b2) (cx (cCl it acc ns fr) (blCk f k)) (fun r s' => ∃ (zs : List (Nat × Nat)) (n' kt' sv' tv' j' tk' : Nat), r = .ok .next ∧ zs.map (·.1) = sd.map (fun z => 40 + z.1) ∧ Inv (KT' w b b2) s₀ T s' [(it, lsI .none j'), (acc, lstO (vs ++ vals zs) n'), (ns, nsCl (fP w b b2) (some (kt', .int (sv' : Nat) tv'))), (l, lstO xs m)] tk') p s
  | [], pre, vs, n, kt, sv, tv, tk, s, p, hx, hd, hl, I => by
    rw [List.append_nil] at hx
    refine segQ (MM_den w b b2) rfl rfl _ (fun sup hs => segClXL w b b2 k f p it acc ns fr l pre.length tk vs n xs m kt (.int (sv : Nat) tv) sup hs) (fun sup hs => one_p (getV_end hx)) ⟨nextLE_sound _ _ _ _ _ _, trivial⟩ I fun sup s' tk' hs I' => ?_
    exact ⟨[], n, kt, sv, tv, _, tk', rfl, rfl, by simpa [vals] using I'⟩
  | (sd, t) :: rest, pre, vs, n, kt, sv, tv, tk, s, p, hx, hd, hl, I => by
    have hg := getV_pre hx
    have hx' : xs = ((pre ++ [(sd, t)]) ++ rest).map iv := by rw [hx]; simp
    have hl' : (pre ++ [(sd, t)]).length = pre.length + 1 := by simp
    simp only [List.length_cons] at hl
    have hv : vs.length ≤ sizeLine := by rw [sizeLine_is]; omega
    have fin : ∀ (tk' : Nat) (s' : Shared), Inv (KT' w b b2) s₀ T s' (csCl (fP w b b2) it acc ns l (pre.length + 1) (vs ++ [chv (40 + sd) (tk + 2)]) (n + 1) (some (kt, .int (sd : Nat) t)) xs m) tk' → ∀ p', wpCode (MM w b b2) (cx (cCl it acc ns fr) (blCk f k)) (fun r s' => ∃ (zs : List (Nat × Nat)) (n' kt' sv' tv' j' tk' : Nat), r = .ok .next ∧ zs.map (·.1) = ((sd, t) :: rest).map (fun z => 40 + z.1) ∧ Inv (KT' w b b2) s₀ T s' [(it, lsI .none j'), (acc, lstO (vs ++ vals zs) n'), (ns, nsCl (fP w b b2) (some (kt', .int (sv' : Nat) tv'))), (l, lstO xs m)] tk') p' s' := by
      intro tk' s' I' p'
      refine wpCode_mono ?_ (loopCl rest (pre ++ [(sd, t)]) (vs ++ [chv (40 + sd) (tk + 2)]) (n + 1) kt sd t tk' s' p' hx' (fun z hz => hd z (.tail _ hz)) (by simp; omega) (by rw [hl']; exact I'))
      rintro r s'' ⟨zs, n', kt', sv', tv', j', tk'', rfl, h1, J⟩
      refine ⟨(40 + sd, tk + 2) :: zs, n', kt', sv', tv', j', tk'', rfl, ?_, ?_⟩
      · show (40 + sd) :: zs.map _ = (40 + sd) :: rest.map _
        rw [h1]
      · have e2 : vs ++ vals ((40 + sd, tk + 2) :: zs) = (vs ++ [chv (40 + sd) (tk + 2)]) ++ vals zs := by simp [vals]
        rw [e2]; exact J
    rcases hd (sd, t) (.head _) with q | q
    · obtain rfl : sd = 0 := q
      exact segQ (MM_den w b b2) rfl rfl _ (fun sup hs => segCl0L w b b2 k f p it acc ns fr l t pre.length tk vs n xs m kt (.int (sv : Nat) tv) sup hs) (fun sup hs => all_p2 hv hg) ⟨nextLF_sound _ _ _ _ _ _ _, appF_sound _ _ _ _, trivial⟩ I fun sup s' tk' hs I' => fin tk' s' I'
    · obtain rfl : sd = 1 := q
      exact segQ (MM_den w b b2) rfl rfl _ (fun sup hs => segCl1L w b b2 k f p it acc ns fr l t pre.length tk vs n xs m kt (.int (sv : Nat) tv) sup hs) (fun sup hs => all_p2 hv hg) ⟨nextLF_sound _ _ _ _ _ _ _, appF_sound _ _ _ _, trivial⟩ I fun sup s' tk' hs I' => fin tk' s' I'
theorem loopCl1 (sd t : Nat) (rest : List (Nat × Nat)) (tk : Nat) (s : Shared) (p : Pos) (hx : xs = ((sd, t) :: rest).map iv) (hd : ∀ z ∈ (sd, t) :: rest, z.1 = 0 ∨ z.1 = 1) (hl : rest.length ≤ 8000)
    (I : Inv (KT' w b b2) s₀ T s (csCl (fP w b b2) it acc ns l 0 [] 0 none xs m) tk) :
    wpCode (MM w b b2) (cx (cCl it acc ns fr) (blCk f k)) (fun r s' => ∃ (zs : List (Nat × Nat)) (n' kt' sv' tv' j' tk' : Nat), r = .ok .next ∧ zs.map (·.1) = ((sd, t) :: rest).map (fun z => 40 + z.1) ∧ Inv (KT' w b b2) s₀ T s' [(it, lsI .none j'), (acc, lstO (vals zs) n'), (ns, nsCl (fP w b b2) (some (kt', .int (sv' : Nat) tv'))), (l, lstO xs m)] tk') p s := by
  have hg : xs[0]? = some (iv (sd, t)) := getV_pre (pre := []) hx
  have hv : ([] : List Value).length ≤ sizeLine := Nat.zero_le _
  have fin : ∀ (tk' : Nat) (s' : Shared), Inv (KT' w b b2) s₀ T s' (csCl (fP w b b2) it acc ns l 1 [chv (40 + sd) (tk + 2)] 1 (some (tk, .int (sd : Nat) t)) xs m) tk' → ∀ p', wpCode (MM w b b2) (cx (cCl it acc ns fr) (blCk f k)) (fun r s' => ∃ (zs : List (Nat × Nat)) (n' kt' sv' tv' j' tk' : Nat), r = .ok .next ∧ zs.map (·.1) = ((sd, t) :: rest).map (fun z => 40 + z.1) ∧ Inv (KT' w b b2) s₀ T s' [(it, lsI .none j'), (acc, lstO (vals zs) n'), (ns, nsCl (fP w b b2) (some (kt', .int (sv' : Nat) tv'))), (l, lstO xs m)] tk') p' s' := by
    intro tk' s' I' p'
    refine wpCode_mono ?_ (loopCl rest [(sd, t)] [chv (40 + sd) (tk + 2)] 1 tk sd t tk' s' p' hx (fun z hz => hd z (.tail _ hz)) (by simp; omega) I')
    rintro r s'' ⟨zs, n', kt', sv', tv', j', tk'', rfl, h1, J⟩
    refine ⟨(40 + sd, tk + 2) :: zs, n', kt', sv', tv', j', tk'', rfl, ?_, J⟩
    show (40 + sd) :: zs.map _ = (40 + sd) :: rest.map _
    rw [h1]
  rcases hd (sd, t) (.head _) with q | q
  · obtain rfl : sd = 0 := q
    exact segQ (MM_den w b b2) rfl rfl _ (fun sup hs => segCl0F w b b2 k f p it acc ns fr l t 0 tk [] 0 xs m sup hs) (fun sup hs => all_p2 hv hg) ⟨nextLF_sound _ _ _ _ _ _ _, appF_sound _ _ _ _, trivial⟩ I fun sup s' tk' hs I' => fin tk' s' I'
  · obtain rfl : sd = 1 := q
    exact segQ (MM_den w b b2) rfl rfl _ (fun sup hs => segCl1F w b b2 k f p it acc ns fr l t 0 tk [] 0 xs m sup hs) (fun sup hs => all_p2 hv hg) ⟨nextLF_sound _ _ _ _ _ _ _, appF_sound _ _ _ _, trivial⟩ I fun sup s' tk' hs I' => fin tk' s' I'
end
/-! contracts -/
structure Zy where
  (it acc ns fr l : Nat) (f : Fq) (k : Stk) (xs : List Value) (m : Nat)
noncomputable def zyOf (il : Nat) (c : Code) (bl : List (Code × Pos)) (cs : Cells) (_ : Nat) : Zy := ⟨(refC c).1, (refC c).2.1, (refC c).2.2.1, (refC c).2.2.2, adAt cs il, fqOf bl, stkRL bl.tail, seqV (objAt cs il), seqN (objAt cs il)⟩
noncomputable def ClP (xs : List Value) (o : List Nat) : Prop := ∃ sd : List (Nat × Nat), xs = sd.map iv ∧ (∀ z ∈ sd, z.1 = 0 ∨ z.1 = 1) ∧ o = sd.map (fun z => 40 + z.1) ∧ sd.length ≤ 8000
noncomputable def nsQ (em : Bool) (ns : List Nat) : Option (Nat × Value) := match em with
  | true => none
  | false => some (getN ns 4, .int (getN ns 5 : Nat) (getN ns 6))
noncomputable def FLs (P : Params) (em : Bool) (o : List Nat) (ii ia ins il : Nat) : ConF := fun c bl cs tk ns => (fun (y : Zy) => reqF (ClP y.xs o ∧ (o.isEmpty = em)) (conC (cCl y.it y.acc y.ns y.fr) (fun _ => blCk y.f y.k) [ii, ia, ins, il] (csCl P y.it y.acc y.ns y.l 0 [] 0 none y.xs y.m) (fun _ => .ok .next)
  (fun ns => [(y.it, lsI .none (getN ns 0)), (y.acc, lstO (vals (zipT (getN ns 1) (getN ns 2) o)) (getN ns 3)), (y.ns, nsCl P (nsQ em ns)), (y.l, lstO y.xs y.m)]) (fun ns => getN ns 7))) (zyOf il c bl cs tk) c bl cs tk ns
theorem FLs_sound {w : World} {b b2 : Bool} (em : Bool) (o : List Nat) (ii ia ins il : Nat) (hi : [ii, ia, ins, il].Nodup) : ConSound (MM w b b2) (KT' w b b2) 8 (FLs (fP w b b2) em o ii ia ins il) := by
  refine ConSound.byC (zyOf il) (F := fun y => reqF (ClP y.xs o ∧ (o.isEmpty = em)) (conC (cCl y.it y.acc y.ns y.fr) (fun _ => blCk y.f y.k) [ii, ia, ins, il] (csCl (fP w b b2) y.it y.acc y.ns y.l 0 [] 0 none y.xs y.m) (fun _ => .ok .next)
    (fun ns => [(y.it, lsI .none (getN ns 0)), (y.acc, lstO (vals (zipT (getN ns 1) (getN ns 2) o)) (getN ns 3)), (y.ns, nsCl (fP w b b2) (nsQ em ns)), (y.l, lstO y.xs y.m)]) (fun ns => getN ns 7))) fun y => reqF_sound fun hq => ?_
  obtain ⟨⟨sd, h1, h2, h3, h4⟩, he⟩ := hq
  refine conC_sound hi rfl (fun _ => rfl) fun s tk p pp I => ?_
  cases sd with
  | nil =>
    have he : true = em := by rw [← he, h3]; rfl
    subst he
    refine segQ (MM_den w b b2) rfl rfl _ (fun sup hs => segClXF w b b2 y.k y.f p y.it y.acc y.ns y.fr y.l 0 tk [] 0 y.xs y.m sup hs) (fun sup hs => one_p (by rw [h1]; rfl)) ⟨nextLE_sound _ _ _ _ _ _, trivial⟩ I fun sup s' tk' hs I' => ?_
    refine ⟨[0, 0, 0, 0, 0, 0, 0, tk'], rfl, rfl, ?_⟩
    rw [show o = [] from h3]
    exact I'
  | cons z rest =>
    obtain ⟨sd, t⟩ := z
    have he : false = em := by rw [← he, h3]; rfl
    subst he
    refine wpCode_mono ?_ (loopCl1 sd t rest tk s p h1 h2 (by simp at h4; omega) I)
    rintro r s' ⟨zs, n', kt', sv', tv', j', tk', rfl, e1, J⟩
    obtain ⟨B, e, he⟩ := enc_any o zs (by rw [e1, h3])
    refine ⟨[j', B, e, n', kt', sv', tv', tk'], rfl, rfl, ?_⟩
    show Inv _ _ _ s' [(y.it, lsI .none j'), (y.acc, lstO (vals (zipT B e o)) n'), (y.ns, nsCl _ (some (kt', .int (sv' : Nat) tv'))), (y.l, lstO y.xs y.m)] tk'
    rw [he]
    exact J
structure Vy where
  (F ks l kr tr : Nat) (f : Fq) (k : Stk)
noncomputable def envL : Code → Nat
  | .whileLoop _ _ _ env => env.locals
  | _ => 0
noncomputable def vyOf (iF : Nat) (c : Code) (bl : List (Code × Pos)) (cs : Cells) (_ : Nat) : Vy := ⟨envL c, keyTok cs iF 0, refN (nthE (entsOf (objAt cs iF)) 0).val, keyTok cs iF 1, valTok cs iF 1, fqOf bl, stkRL bl.tail⟩
noncomputable def FWl (P : Params) (r r' : List Nat) (iF : Nat) : ConF := fun c bl cs tk ns => (fun (y : Vy) => conC (cW y.F) (fun _ => blCk y.f y.k) [iF] [(y.F, oW P y.ks y.l y.kr ⟨⟨r⟩⟩ y.tr)] (fun _ => .ok .next) (fun ns => [(y.F, oW P y.ks y.l y.kr ⟨⟨r'⟩⟩ (getN ns 0))]) (fun ns => getN ns 1)) (vyOf iF c bl cs tk) c bl cs tk ns
theorem FWl_sound {w : World} {b b2 : Bool} {r r' : List Nat} (h : Wl r r') (iF : Nat) : ConSound (MM w b b2) (KT' w b b2) 2 (FWl (fP w b b2) r r' iF) := by
  refine ConSound.byC (vyOf iF) (F := fun y => conC (cW y.F) (fun _ => blCk y.f y.k) [iF] [(y.F, oW (fP w b b2) y.ks y.l y.kr ⟨⟨r⟩⟩ y.tr)] (fun _ => .ok .next) (fun ns => [(y.F, oW (fP w b b2) y.ks y.l y.kr ⟨⟨r'⟩⟩ (getN ns 0))]) (fun ns => getN ns 1)) fun y => ?_
  refine conC_sound (by simp) rfl (fun _ => rfl) fun s tk p pp I => ?_
  refine wpCode_mono ?_ (loopW h y.tr tk s p I)
  rintro q s' ⟨tr', tk', rfl, J⟩
  exact ⟨[tr', tk'], rfl, rfl, J⟩
/-! the function -/
noncomputable def cC131 (l : Nat) : Code := .call (.ref 131) ⟨[.ref l], []⟩
noncomputable def logCl (b2 em : Bool) (L J W : ConF) : List Ev := appE [.st, .st, .dy 1, .dy 1, .st, .go, .dy 1, .dy 0, .dy 0, .go, .dy 0, .go, .dy 2, .go] (appE (cond b2 [] [.dy 2, .dy 2, .go, .dy 2, .go, .dy 2]) (.con 8 L :: (appE (cond em [.dy 4] [.dy 4, .dy 4, .dy 4]) [.go, .con 2 J, .dy 1, .dy 1, .con 2 W, .dy 1, .go, .go])))
section
variable (w : World) (b b2 : Bool) (k : Stk) (p : Pos) (l tk : Nat) (xs : List Value) (m : Nat) (em : Bool) (o r : List Nat)
theorem segCl (sup : List Nat) (h : sup.length = 16) : okQ [true] (runF w b b2 (logCl b2 em (FLs (fP w b b2) em o 2 3 4 0) (joinF 3 (oStr o)) (FWl (fP w b b2) o r 1)) (cC131 l) p (blRL k) [(l, lstO xs m)] tk sup)
    (.fin (.ok (.ret (.bool (r == []))))) [(l, lstO xs m)] [Item.p (JoinP (oStr o) (lstO (vals (zipT (getN sup 5) (getN sup 6) o)) (getN sup 7))) = .p True, Item.p (ClP xs o ∧ (o.isEmpty = em)) = .p True] := by
  obtain ⟨fS, rfl⟩ := sup_ex h
  cases b <;> cases b2 <;> cases em <;> (unfold okQ; kernel_rfl)
end
structure Ty1 where
  (l : Nat) (k : Stk) (xs : List Value) (m : Nat)
noncomputable def ty1Of (il : Nat) (c : Code) (bl : List (Code × Pos)) (cs : Cells) (_ : Nat) : Ty1 := ⟨adAt cs il, stkRL bl, seqV (objAt cs il), seqN (objAt cs il)⟩
theorem zip_fst : ∀ (l : List Nat) (B e : Nat), (zipT B e l).map (·.1) = l
  | [], _, _ => rfl
  | c :: l, B, e => by show c :: (zipT B (e / B) l).map _ = _; rw [zip_fst l]
/-- _law_closes as a contract -/
noncomputable def F131 (o : List Nat) (B : Bool) (il : Nat) : ConF := fun c bl cs tk ns => (fun (y : Ty1) => reqF (ClP y.xs o) (conOf (cC131 y.l) (fun _ => blRL y.k) [(il, y.l, lstO y.xs y.m)] (fun ns => ⟨.ok (.ret (.bool B)), [lstO y.xs y.m], [], getN ns 0⟩))) (ty1Of il c bl cs tk) c bl cs tk ns
theorem F131_sound {w : World} {b b2 : Bool} {o r : List Nat} (h : Wl o r) {B : Bool} (hB : (r == []) = B) (il : Nat) : ConSound (MM w b b2) (KT' w b b2) 1 (F131 o B il) := by
  refine ConSound.byC (ty1Of il) (F := fun y => reqF (ClP y.xs o) (conOf (cC131 y.l) (fun _ => blRL y.k) [(il, y.l, lstO y.xs y.m)] (fun ns => ⟨.ok (.ret (.bool B)), [lstO y.xs y.m], [], getN ns 0⟩))) fun y => reqF_sound fun hq => ?_
  refine conOf_sound (by simp) fun s tk p pp I => ?_
  have hlen : o.length ≤ 8000 := by
    obtain ⟨sd, _, _, h3, h4⟩ := hq
    rw [h3]; simpa using h4
  refine segQ (MM_den w b b2) rfl rfl _ (fun sup hs => segCl w b b2 y.k p y.l tk y.xs y.m o.isEmpty o r sup hs) (fun sup hs => all_p2 (by
    have z := joinP_vals (zipT (getN sup 5) (getN sup 6) o) (getN sup 7) (by rw [zipT_len]; omega)
    rw [zip_fst] at z; exact z) ⟨hq, rfl⟩) (by
      cases b2 <;> cases o.isEmpty <;> exact ⟨FLs_sound _ _ _ _ _ _ (by decide), joinF_sound _ _ _ _ _, FWl_sound h _, trivial⟩) I fun sup s' tk' hs I' => ?_
  exact ⟨[tk'], rfl, by rw [hB], rfl, I'⟩
end Mine

/-! part TW -/
namespace Mine
open PySem PySem.W PySem.W.X PySem.Spec PySem.Calls PyProof.Rows

/-! ints of any size: product, floor quotient, equality with its answer named; the iterator of range(n) -/
theorem made_int {kt : KT} {s₀ s : Shared} {T : List Addr} {cs : Cells} {tk : Nat} {gs : List (Nat × GenState)} (I : Inv kt s₀ T s cs tk gs) : Inv kt s₀ T { s with toks := s.toks + 1 } (cs ++ []) (tk + 1) gs := by
  rw [List.append_nil, ← I.tk]
  exact I.toks _
noncomputable def mulF : ConF := fun c _ _ tk _ => match c with
  | .builtin id ⟨[.int a _, .int e _], []⟩ => some ⟨.ok (.ret (.int (a * e) tk)), [], [], tk + 1, [(.a (PySem.code id), .a (PySem.code "int.__mul__")), (.p (IntMulOk a e), .p True)]⟩
  | _ => none
theorem mulF_sound (pg : Program) (w : World) (kt : KT) : ConSound (model pg w) kt 0 mulF := by
  intro c bl p cs tk gs s₀ T s I H
  obtain ⟨po, hF, chk⟩ := H [] rfl
  unfold mulF at hF
  split at hF
  · rename_i id a t e u
    cases hF
    have e1 : id = "int.__mul__" := PySem.code_inj _ _ (Item.a.inj (chk _ (.head _)))
    have e2 : IntMulOk a e := by rw [Item.p.inj (chk _ (.tail _ (.head _)))]; trivial
    subst e1
    exact wpCode_meets (by decide +kernel) F.entry_int_mul (gives_int_mul a e t u e2).meets ⟨[], _, rfl, rfl, by rw [I.tk], made_int I⟩
  · cases hF
noncomputable def fdivF : ConF := fun c _ _ tk _ => match c with
  | .builtin id ⟨[.int a _, .int e _], []⟩ => some ⟨.ok (.ret (.int (a.fdiv e) tk)), [], [], tk + 1, [(.a (PySem.code id), .a (PySem.code "int.__floordiv__")), (.p (e ≠ 0 ∧ e.natAbs < 1073741824), .p True)]⟩
  | _ => none
theorem fdivF_sound (pg : Program) (w : World) (kt : KT) : ConSound (model pg w) kt 0 fdivF := by
  intro c bl p cs tk gs s₀ T s I H
  obtain ⟨po, hF, chk⟩ := H [] rfl
  unfold fdivF at hF
  split at hF
  · rename_i id a t e u
    cases hF
    have e1 : id = "int.__floordiv__" := PySem.code_inj _ _ (Item.a.inj (chk _ (.head _)))
    have e2 : e ≠ 0 ∧ e.natAbs < 1073741824 := by rw [Item.p.inj (chk _ (.tail _ (.head _)))]; trivial
    subst e1
    exact wpCode_meets (by decide +kernel) F.entry_int_floordiv (PySem.AutoIntG4.int___floordiv___int_int_1 a t e u (by simpa using e2.1) (by rw [PyProof.noPylong_small e2.2]; simp)).meets ⟨[], _, rfl, rfl, by rw [I.tk], made_int I⟩
  · cases hF
noncomputable def eqIF (v : Bool) : ConF := fun c _ _ tk _ => match c with
  | .builtin id ⟨[.int a _, .int e _], []⟩ => some ⟨.ok (.ret (.bool v)), [], [], tk, [(.a (PySem.code id), .a (PySem.code "int.__eq__")), (.p ((a == e) = v), .p True)]⟩
  | _ => none
theorem eqIF_sound (pg : Program) (w : World) (kt : KT) (v : Bool) : ConSound (model pg w) kt 0 (eqIF v) := by
  intro c bl p cs tk gs s₀ T s I H
  obtain ⟨po, hF, chk⟩ := H [] rfl
  unfold eqIF at hF
  split at hF
  · rename_i id a t e u
    cases hF
    have e1 : id = "int.__eq__" := PySem.code_inj _ _ (Item.a.inj (chk _ (.head _)))
    have e2 : (a == e) = v := by rw [Item.p.inj (chk _ (.tail _ (.head _)))]; trivial
    subst e1
    refine wpCode_meets (by decide +kernel) F.entry_int_eq (gives_int_eq a e t u).meets ?_
    show ∃ ns po, _
    rw [e2]
    exact ⟨[], _, rfl, rfl, rfl, by show Inv kt s₀ T s (cs ++ []) tk gs; rw [List.append_nil]; exact I⟩
  · cases hF
noncomputable def rgI (k left : Int) : Obj := ⟨.type "range_iterator", none, .fields ⟨[.int k 0, .int left 0, .int 1 0]⟩, ⟨[]⟩⟩
noncomputable def rgO (n : Int) (t0 t1 t2 : Nat) : Obj := ⟨.type "range", none, .fields ⟨[.int 0 t0, .int n t1, .int 1 t2]⟩, ⟨[]⟩⟩
/-- iter(range(n)) -/
noncomputable def rgIterF (ci n : Nat) : ConF := fun c _ cs tk ns => match c, getC cs ci with
  | .builtin id ⟨[.ref a], []⟩, some (y, o) => some ⟨.ok (.ret (.ref (getN ns 0))), [], [(getN ns 0, rgI 0 (n : Nat))], tk, [(.a (PySem.code id), .a (PySem.code "range.__iter__")), (.a a, .a y), (.o o, .o (rgO (n : Nat) (tokV (nthV (fldsOf o) 0)) (tokV (nthV (fldsOf o) 1)) (tokV (nthV (fldsOf o) 2)))), (.p (n < 1000000), .p True)]⟩
  | _, _ => none
theorem rgIterF_sound (pg : Program) (w : World) (kt : KT) (ci n : Nat) : ConSound (model pg w) kt 1 (rgIterF ci n) := by
  intro c bl p cs tk gs s₀ T s I H
  obtain ⟨po, hF, chk⟩ := H [0] rfl
  unfold rgIterF at hF
  split at hF
  · rename_i id a y o hg
    cases hF
    have e1 : id = "range.__iter__" := PySem.code_inj _ _ (Item.a.inj (chk _ (.head _)))
    have e2 : a = y := Item.a.inj (chk _ (.tail _ (.head _)))
    have e3 : o = rgO (n : Nat) _ _ _ := Item.o.inj (chk _ (.tail _ (.tail _ (.head _))))
    have e4 : n < 1000000 := by rw [Item.p.inj (chk _ (.tail _ (.tail _ (.tail _ (.head _)))))]; trivial
    subst e1 e2
    have ho := I.cell _ (getC_mem hg)
    have hsz : Builtin.Range.rangeSize 0 (n : Nat) 1 = (n : Nat) := by
      unfold Builtin.Range.rangeSize
      rw [if_pos (by decide)]
      split <;> omega
    have f1 : Builtin.Range.rangeFitsLong 0 = true := by decide
    have f2 : Builtin.Range.rangeFitsLong ((n : Nat) : Int) = true := by
      unfold Builtin.Range.rangeFitsLong
      rw [Bool.and_eq_true, decide_eq_true_eq, decide_eq_true_eq]; omega
    have f3 : Builtin.Range.rangeFitsLong 1 = true := by decide
    have f4 : (if (1 : Int) > 0 then Builtin.Range.rangeFitsLong (((n : Nat) : Int) + (1 - 1)) else Builtin.Range.rangeFitsLong (((n : Nat) : Int) + (1 + 1))) = true := by
      rw [if_pos (by decide)]
      unfold Builtin.Range.rangeFitsLong
      rw [Bool.and_eq_true, decide_eq_true_eq, decide_eq_true_eq]; omega
    have big : (Builtin.Range.rangeFitsLong 0 && Builtin.Range.rangeFitsLong ((n : Nat) : Int) && Builtin.Range.rangeFitsLong 1 && Builtin.Range.rangeFitsLong (Builtin.Range.rangeSize 0 (n : Nat) 1) && (Builtin.Range.rangeSize 0 (n : Nat) 1 == 0 || if (1 : Int) > 0 then Builtin.Range.rangeFitsLong (((n : Nat) : Int) + (1 - 1)) else Builtin.Range.rangeFitsLong (((n : Nat) : Int) + (1 + 1)))) = true := by
      rw [hsz, f1, f2, f3, f4]; simp
    refine wpCode_meets (by decide +kernel) F.entry_range_iter (PySem.AutoRange.range___iter___range_1 a 0 (n : Nat) 1 _ _ _ (by rw [big]; simp)) ⟨by rw [ho]; exact congrArg some e3, [s.heap.objs.size], _, rfl, by unfold rgIterF; rw [hg], rfl, ?_⟩
    show Inv kt s₀ T _ (cs ++ [(s.heap.objs.size, rgI 0 (n : Nat))]) tk gs
    rw [big, hsz]
    exact I.push (o := rgI 0 (n : Nat)) rfl
  · cases hF

/-! _law_twos -/
noncomputable def gForT : Expr × List Stmt × List Stmt := forParts (nthS (fnTop 16).2.1 1)
noncomputable def gWhT : Expr × List Stmt × List Stmt := whParts (nthS (fnTop 16).2.1 3)
noncomputable def envT (F : Nat) : Env := { scope := (fnTop 16).2.2, locals := F, globals := 3, cells := [], qual := ⟨⟨[95, 108, 97, 119, 95, 116, 119, 111, 115, 46, 60, 108, 111, 99, 97, 108, 115, 62, 46]⟩⟩, func := some 138, code := .ref 137, frame := some F, builtins := 0 }
noncomputable def cTF (it F : Nat) : Code := .forLoop gForT.1 (.ref it) gForT.2.1 gForT.2.2 (envT F)
noncomputable def cTW (F : Nat) : Code := .whileLoop gWhT.1 gWhT.2.1 gWhT.2.2 (envT F)
structure Tk where
  (kw kp ky tw tp : Nat)
noncomputable def kEnt (P : Params) : Option (Nat × Int × Nat) → List DictEntry
  | none => []
  | some (kk, v, t) => [ent P ⟨⟨[107]⟩⟩ kk (.int v t)]
noncomputable def oT (P : Params) (q : Tk) (W p y : Int) (ty : Nat) : Option (Nat × Int × Nat) → Obj
  | none => ⟨.type "frame", none, .dict ⟨[ent P ⟨⟨[119, 104, 111, 108, 101]⟩⟩ q.kw (.int W q.tw), ent P ⟨⟨[112, 97, 114, 116]⟩⟩ q.kp (.int p q.tp), ent P ⟨⟨[119, 97, 121, 115]⟩⟩ q.ky (.int y ty)]⟩ 3, ⟨[]⟩⟩
  | some (kk, v, t) => ⟨.type "frame", none, .dict ⟨[ent P ⟨⟨[119, 104, 111, 108, 101]⟩⟩ q.kw (.int W q.tw), ent P ⟨⟨[112, 97, 114, 116]⟩⟩ q.kp (.int p q.tp), ent P ⟨⟨[119, 97, 121, 115]⟩⟩ q.ky (.int y ty), ent P ⟨⟨[107]⟩⟩ kk (.int v t)]⟩ 4, ⟨[]⟩⟩
noncomputable def oTz (P : Params) (q : Tk) (W p y : Int) (ty : Nat) (kz : Nat) (z : Int) (tz : Nat) : Option (Nat × Int × Nat) → Obj
  | none => ⟨.type "frame", none, .dict ⟨[ent P ⟨⟨[119, 104, 111, 108, 101]⟩⟩ q.kw (.int W q.tw), ent P ⟨⟨[112, 97, 114, 116]⟩⟩ q.kp (.int p q.tp), ent P ⟨⟨[119, 97, 121, 115]⟩⟩ q.ky (.int y ty), ent P ⟨⟨[116, 119, 111, 115]⟩⟩ kz (.int z tz)]⟩ 4, ⟨[]⟩⟩
  | some (kk, v, t) => ⟨.type "frame", none, .dict ⟨[ent P ⟨⟨[119, 104, 111, 108, 101]⟩⟩ q.kw (.int W q.tw), ent P ⟨⟨[112, 97, 114, 116]⟩⟩ q.kp (.int p q.tp), ent P ⟨⟨[119, 97, 121, 115]⟩⟩ q.ky (.int y ty), ent P ⟨⟨[107]⟩⟩ kk (.int v t), ent P ⟨⟨[116, 119, 111, 115]⟩⟩ kz (.int z tz)]⟩ 5, ⟨[]⟩⟩
noncomputable def logTF (ML FD : ConF) : List Ev := [.dy 0, .go, .dy 0, .go, .dy 0, .dy 0, .dy 0, .dy 0, .dy 0, .dy 0, .dy 0, .dy 1, .dy 1, .dy 1, .dy 1, .dy 1, .go, .go, .go, .con 0 ML, .dy 1, .go, .go, .go, .con 0 FD, .dy 1, .dy 1, .stop]
noncomputable def logTX : List Ev := [.dy 0, .go, .dy 0, .go, .dy 0, .dy 0, .dy 0, .dy 3, .go]
noncomputable def logTWT (EQ : ConF) : List Ev := [.dy 0, .go, .go, .go, .con 0 EQ, .dy 0, .go, .go, .dy 0, .dy 0, .dy 0, .go, .go, .dy 0, .dy 0, .stop]
noncomputable def logTWF (EQ : ConF) : List Ev := [.dy 0, .go, .go, .go, .con 0 EQ]
section
variable (w : World) (b b2 : Bool) (k : Stk) (cq : Cq) (f : Fq) (p : Pos) (it F : Nat) (q : Tk) (W P y : Int) (ty j n tk : Nat)
theorem segTFF (sup : List Nat) (h : sup.length = 0) : okQ [true, true] (runF w b b2 (logTF mulF fdivF) (cTF it F) p (blF f true k cq) [(it, rgI (j : Nat) (n + 1 : Nat)), (F, oT (fP w b b2) q W P y ty none)] tk sup)
    (.again (cTF it F)) [(it, rgI (j + 1 : Nat) (((n + 1 : Nat) : Int) - 1)), (F, oT (fP w b b2) q W P ((y * (W - (j : Nat))).fdiv (((j : Nat) : Int) + 1)) (tk + 6) (some (tk + 1, (j : Nat), tk)))] [Item.p (((j : Nat) : Int) + 1 ≠ 0 ∧ (((j : Nat) : Int) + 1).natAbs < 1073741824) = .p True, Item.p (IntMulOk y (W - (j : Nat))) = .p True] := by
  match sup, h with
  | [], _ => cases b <;> (unfold okQ; kernel_rfl)
theorem segTFL (kk : Nat) (v : Int) (t : Nat) (sup : List Nat) (h : sup.length = 0) : okQ [true, true] (runF w b b2 (logTF mulF fdivF) (cTF it F) p (blF f true k cq) [(it, rgI (j : Nat) (n + 1 : Nat)), (F, oT (fP w b b2) q W P y ty (some (kk, v, t)))] tk sup)
    (.again (cTF it F)) [(it, rgI (j + 1 : Nat) (((n + 1 : Nat) : Int) - 1)), (F, oT (fP w b b2) q W P ((y * (W - (j : Nat))).fdiv (((j : Nat) : Int) + 1)) (tk + 6) (some (kk, (j : Nat), tk)))] [Item.p (((j : Nat) : Int) + 1 ≠ 0 ∧ (((j : Nat) : Int) + 1).natAbs < 1073741824) = .p True, Item.p (IntMulOk y (W - (j : Nat))) = .p True] := by
  match sup, h with
  | [], _ => cases b <;> (unfold okQ; kernel_rfl)
theorem segTXF (sup : List Nat) (h : sup.length = 2) : okQ [true, true] (runF w b b2 logTX (cTF it F) p (blF f true k cq) [(it, rgI (j : Nat) 0), (F, oT (fP w b b2) q W P y ty none)] tk sup)
    (.fin (.ok .next)) [(it, rgI (j : Nat) 0), (F, oT (fP w b b2) q W P y ty none)] [] := by
  obtain ⟨fS, rfl⟩ := sup_ex h
  cases b <;> (unfold okQ; kernel_rfl)
theorem segTXL (kk : Nat) (v : Int) (t : Nat) (sup : List Nat) (h : sup.length = 2) : okQ [true, true] (runF w b b2 logTX (cTF it F) p (blF f true k cq) [(it, rgI (j : Nat) 0), (F, oT (fP w b b2) q W P y ty (some (kk, v, t)))] tk sup)
    (.fin (.ok .next)) [(it, rgI (j : Nat) 0), (F, oT (fP w b b2) q W P y ty (some (kk, v, t)))] [] := by
  obtain ⟨fS, rfl⟩ := sup_ex h
  cases b <;> (unfold okQ; kernel_rfl)
theorem segTWTF (kz z tz : Nat) (sup : List Nat) (h : sup.length = 0) : okQ [true] (runF w b b2 (logTWT (eqIF true)) (cTW F) p (blF f true k cq) [(F, oTz (fP w b b2) q W P y ty kz (z : Nat) tz none)] tk sup)
    (.again (cTW F)) [(F, oTz (fP w b b2) q W P (y.fdiv 2) (tk + 4) kz (z + 1 : Nat) (tk + 7) none)] [Item.p ((y.fmod 2 == 0) = true) = .p True] := by
  match sup, h with
  | [], _ => cases b <;> (unfold okQ; kernel_rfl)
theorem segTWFF (kz z tz : Nat) (sup : List Nat) (h : sup.length = 0) : okQ [true] (runF w b b2 (logTWF (eqIF false)) (cTW F) p (blF f true k cq) [(F, oTz (fP w b b2) q W P y ty kz (z : Nat) tz none)] tk sup)
    (.fin (.ok .next)) [(F, oTz (fP w b b2) q W P y ty kz (z : Nat) tz none)] [Item.p ((y.fmod 2 == 0) = false) = .p True] := by
  match sup, h with
  | [], _ => cases b <;> (unfold okQ; kernel_rfl)
theorem segTWTL (kk : Nat) (v : Int) (t : Nat) (kz z tz : Nat) (sup : List Nat) (h : sup.length = 0) : okQ [true] (runF w b b2 (logTWT (eqIF true)) (cTW F) p (blF f true k cq) [(F, oTz (fP w b b2) q W P y ty kz (z : Nat) tz (some (kk, v, t)))] tk sup)
    (.again (cTW F)) [(F, oTz (fP w b b2) q W P (y.fdiv 2) (tk + 4) kz (z + 1 : Nat) (tk + 7) (some (kk, v, t)))] [Item.p ((y.fmod 2 == 0) = true) = .p True] := by
  match sup, h with
  | [], _ => cases b <;> (unfold okQ; kernel_rfl)
theorem segTWFL (kk : Nat) (v : Int) (t : Nat) (kz z tz : Nat) (sup : List Nat) (h : sup.length = 0) : okQ [true] (runF w b b2 (logTWF (eqIF false)) (cTW F) p (blF f true k cq) [(F, oTz (fP w b b2) q W P y ty kz (z : Nat) tz (some (kk, v, t)))] tk sup)
    (.fin (.ok .next)) [(F, oTz (fP w b b2) q W P y ty kz (z : Nat) tz (some (kk, v, t)))] [Item.p ((y.fmod 2 == 0) = false) = .p True] := by
  match sup, h with
  | [], _ => cases b <;> (unfold okQ; kernel_rfl)
end
/-! the plain words -/
noncomputable def wsq (W : Nat) : Nat → Int
  | 0 => 1
  | k + 1 => (wsq W k * ((W : Int) - (k : Nat))).fdiv (((k : Nat) : Int) + 1)
inductive Tw : Int → Int → Nat → Prop where
  | stop {y : Int} : (y.fmod 2 == 0) = false → Tw y y 0
  | step {y y' : Int} {n : Nat} : (y.fmod 2 == 0) = true → Tw (y.fdiv 2) y' n → Tw y y' (n + 1)
section
variable {w : World} {b b2 : Bool} {s₀ : Shared} {T : List Addr} {k : Stk} {cq : Cq} {f : Fq} {it F : Nat} {q : Tk} {W P : Nat}
theorem mul_ok (y : Int) (W j : Nat) (hW : W ≤ 1000) (hj : j ≤ 1000) : IntMulOk y ((W : Int) - (j : Nat)) := .of_right (intBits_le_64 (by omega) (by omega))
theorem fd_ok (j : Nat) (hj : j ≤ 1000) : ((j : Nat) : Int) + 1 ≠ 0 ∧ (((j : Nat) : Int) + 1).natAbs < 1073741824 := by omega
theorem loopTL (hW : W ≤ 1000) : ∀ (n j ty kk v t tk : Nat) (s : Shared) (p : Pos), j + n ≤ 1000 → Inv (KT' w b b2) s₀ T s [(it, rgI (j : Nat) (n : Nat)), (F, oT (fP w b b2) q W P (wsq W j) ty (some (kk, (v : Nat), t)))] tk →
    wpCode (MM w b b2) (cx (cTF it F) (blF f true k cq)) (fun r s' => ∃ j' ty' kk' v' t' tk' : Nat, r = .ok .next ∧ Inv (KT' w b b2) s₀ T s' [(it, rgI (j' : Nat) 0), (F, oT (fP w b b2) q W P (wsq W (j + n)) ty' (some (kk', (v' : Nat), t')))] tk') p s
  | 0, j, ty, kk, v, t, tk, s, p, hn, I => by
    refine segQ (MM_den w b b2) rfl rfl _ (fun sup hs => segTXL w b b2 k cq f p it F q W P (wsq W j) ty j tk kk (v : Nat) t sup hs) (fun sup hs => fun P hP => nomatch hP) trivial I fun sup s' tk' hs I' => ?_
    exact ⟨j, ty, kk, v, t, tk', rfl, I'⟩
  | n + 1, j, ty, kk, v, t, tk, s, p, hn, I => by
    refine segQ (MM_den w b b2) rfl rfl _ (fun sup hs => segTFL w b b2 k cq f p it F q W P (wsq W j) ty j n tk kk (v : Nat) t sup hs) (fun sup hs => all_p2 (fd_ok j (by omega)) (mul_ok _ W j hW (by omega))) ⟨mulF_sound _ _ _, fdivF_sound _ _ _, trivial⟩ I fun sup s' tk' hs I' => ?_
    intro p'
    rw [sub_one] at I'
    have e : j + (n + 1) = (j + 1) + n := by omega
    rw [e]
    exact loopTL hW n (j + 1) _ kk j _ tk' s' p' (by omega) I'
theorem loopTF1 (hW : W ≤ 1000) (n ty tk : Nat) (s : Shared) (p : Pos) (hn : n + 1 ≤ 1000) (I : Inv (KT' w b b2) s₀ T s [(it, rgI ((0 : Nat) : Int) (n + 1 : Nat)), (F, oT (fP w b b2) q W P 1 ty none)] tk) :
    wpCode (MM w b b2) (cx (cTF it F) (blF f true k cq)) (fun r s' => ∃ j' ty' kk' v' t' tk' : Nat, r = .ok .next ∧ Inv (KT' w b b2) s₀ T s' [(it, rgI (j' : Nat) 0), (F, oT (fP w b b2) q W P (wsq W (n + 1)) ty' (some (kk', (v' : Nat), t')))] tk') p s := by
  refine segQ (MM_den w b b2) rfl rfl _ (fun sup hs => segTFF w b b2 k cq f p it F q W P 1 ty 0 n tk sup hs) (fun sup hs => all_p2 (fd_ok 0 (by omega)) (mul_ok _ W 0 hW (by omega))) ⟨mulF_sound _ _ _, fdivF_sound _ _ _, trivial⟩ I fun sup s' tk' hs I' => ?_
  intro p'
  rw [sub_one] at I'
  have e : n + 1 = (0 + 1) + n := by omega
  rw [e]
  exact loopTL hW n (0 + 1) _ _ 0 _ tk' s' p' (by omega) I'
noncomputable def zO : Option (Nat × Nat × Nat) → Option (Nat × Int × Nat)
  | none => none
  | some (a, v, t) => some (a, (v : Nat), t)
theorem loopTW {y y' : Int} {n : Nat} (h : Tw y y' n) : ∀ (zo : Option (Nat × Nat × Nat)) (ty kz z tz tk : Nat) (s : Shared) (p : Pos), Inv (KT' w b b2) s₀ T s [(F, oTz (fP w b b2) q W P y ty kz (z : Nat) tz (zO zo))] tk →
    wpCode (MM w b b2) (cx (cTW F) (blF f true k cq)) (fun r s' => ∃ ty' tz' tk' : Nat, r = .ok .next ∧ Inv (KT' w b b2) s₀ T s' [(F, oTz (fP w b b2) q W P y' ty' kz (z + n : Nat) tz' (zO zo))] tk') p s := by
  induction h with
  | stop h0 =>
    intro zo ty kz z tz tk s p I
    cases zo with
    | none =>
      refine segQ (MM_den w b b2) rfl rfl _ (fun sup hs => segTWFF w b b2 k cq f p F q W P _ ty tk kz z tz sup hs) (fun sup hs => one_p h0) ⟨eqIF_sound _ _ _ _, trivial⟩ I fun sup s' tk' hs I' => ?_
      exact ⟨ty, tz, tk', rfl, I'⟩
    | some zz =>
      obtain ⟨a, v, t⟩ := zz
      refine segQ (MM_den w b b2) rfl rfl _ (fun sup hs => segTWFL w b b2 k cq f p F q W P _ ty tk a (v : Nat) t kz z tz sup hs) (fun sup hs => one_p h0) ⟨eqIF_sound _ _ _ _, trivial⟩ I fun sup s' tk' hs I' => ?_
      exact ⟨ty, tz, tk', rfl, I'⟩
  | @step y y' n h0 h1 ih =>
    intro zo ty kz z tz tk s p I
    have e : z + (n + 1) = (z + 1) + n := by omega
    rw [e]
    cases zo with
    | none =>
      refine segQ (MM_den w b b2) rfl rfl _ (fun sup hs => segTWTF w b b2 k cq f p F q W P _ ty tk kz z tz sup hs) (fun sup hs => one_p h0) ⟨eqIF_sound _ _ _ _, trivial⟩ I fun sup s' tk' hs I' => ?_
      intro p'
      exact ih none _ kz (z + 1) _ tk' s' p' I'
    | some zz =>
      obtain ⟨a, v, t⟩ := zz
      refine segQ (MM_den w b b2) rfl rfl _ (fun sup hs => segTWTL w b b2 k cq f p F q W P _ ty tk a (v : Nat) t kz z tz sup hs) (fun sup hs => one_p h0) ⟨eqIF_sound _ _ _ _, trivial⟩ I fun sup s' tk' hs I' => ?_
      intro p'
      exact ih (some (a, v, t)) _ kz (z + 1) _ tk' s' p' I'
end
/-! contracts -/
structure Uy where
  (it F : Nat) (q : Tk) (ty : Nat) (f : Fq) (k : Stk) (cq : Cq) (kz tz : Nat) (zo : Option (Nat × Nat × Nat))
noncomputable def natI (v : Value) : Nat := match v with
  | .int i _ => i.toNat
  | _ => 0
noncomputable def uyOf (ii iF : Nat) (_ : Code) (bl : List (Code × Pos)) (cs : Cells) (_ : Nat) : Uy :=
  ⟨adAt cs ii, adAt cs iF, ⟨keyTok cs iF 0, keyTok cs iF 1, keyTok cs iF 2, valTok cs iF 0, valTok cs iF 1⟩, valTok cs iF 2, fqOf bl, stkP bl.tail, cqOf bl.tail, 0, 0, none⟩
noncomputable def zQ (em : Bool) (ns : List Nat) : Option (Nat × Nat × Nat) := match em with
  | true => none
  | false => some (getN ns 2, getN ns 3, getN ns 4)
noncomputable def FTf (P' : Params) (W P : Nat) (em : Bool) (ii iF : Nat) : ConF := fun c bl cs tk ns => (fun (y : Uy) => reqF (em = decide (P = 0) ∧ W ≤ 900 ∧ P ≤ 900) (conC (cTF y.it y.F) (fun _ => blF y.f true y.k y.cq) [ii, iF] [(y.it, rgI ((0 : Nat) : Int) (P : Nat)), (y.F, oT P' y.q W P 1 y.ty none)] (fun _ => .ok .next)
  (fun ns => [(y.it, rgI (getN ns 0 : Nat) 0), (y.F, oT P' y.q W P (wsq W P) (getN ns 1) (zO (zQ em ns)))]) (fun ns => getN ns 5))) (uyOf ii iF c bl cs tk) c bl cs tk ns
theorem FTf_sound {w : World} {b b2 : Bool} (W P : Nat) (em : Bool) (ii iF : Nat) (hi : ii ≠ iF) : ConSound (MM w b b2) (KT' w b b2) 6 (FTf (fP w b b2) W P em ii iF) := by
  refine ConSound.byC (uyOf ii iF) (F := fun y => reqF (em = decide (P = 0) ∧ W ≤ 900 ∧ P ≤ 900) (conC (cTF y.it y.F) (fun _ => blF y.f true y.k y.cq) [ii, iF] [(y.it, rgI ((0 : Nat) : Int) (P : Nat)), (y.F, oT (fP w b b2) y.q W P 1 y.ty none)] (fun _ => .ok .next)
    (fun ns => [(y.it, rgI (getN ns 0 : Nat) 0), (y.F, oT (fP w b b2) y.q W P (wsq W P) (getN ns 1) (zO (zQ em ns)))]) (fun ns => getN ns 5))) fun y => reqF_sound fun hq => ?_
  obtain ⟨he, hW, hP⟩ := hq
  refine conC_sound (by simp [hi]) rfl (fun _ => rfl) fun s tk p pp I => ?_
  cases P with
  | zero =>
    obtain rfl : em = true := he
    refine segQ (MM_den w b b2) rfl rfl _ (fun sup hs => segTXF w b b2 y.k y.cq y.f p y.it y.F y.q W ((0 : Nat) : Int) 1 y.ty 0 tk sup hs) (fun sup hs => fun P hP => nomatch hP) trivial I fun sup s' tk' hs I' => ?_
    exact ⟨[0, y.ty, 0, 0, 0, tk'], rfl, rfl, I'⟩
  | succ n =>
    obtain rfl : em = false := he
    refine wpCode_mono ?_ (loopTF1 (by omega) n y.ty tk s p (by omega) I)
    rintro r s' ⟨j', ty', kk', v', t', tk', rfl, J⟩
    exact ⟨[j', ty', kk', v', t', tk'], rfl, rfl, J⟩
noncomputable def iz (em : Bool) : Nat := match em with
  | true => 3
  | false => 4
noncomputable def uwOf (em : Bool) (iF : Nat) (_ : Code) (bl : List (Code × Pos)) (cs : Cells) (_ : Nat) : Uy :=
  ⟨0, adAt cs iF, ⟨keyTok cs iF 0, keyTok cs iF 1, keyTok cs iF 2, valTok cs iF 0, valTok cs iF 1⟩, valTok cs iF 2, fqOf bl, stkP bl.tail, cqOf bl.tail, keyTok cs iF (iz em), valTok cs iF (iz em), match em with
    | true => none
    | false => some (keyTok cs iF 3, natI (nthE (entsOf (objAt cs iF)) 3).val, valTok cs iF 3)⟩
noncomputable def FTw (P' : Params) (W P : Nat) (y0 y1 : Int) (n : Nat) (em : Bool) (iF : Nat) : ConF := fun c bl cs tk ns => (fun (y : Uy) => conC (cTW y.F) (fun _ => blF y.f true y.k y.cq) [iF] [(y.F, oTz P' y.q W P y0 y.ty y.kz ((0 : Nat) : Int) y.tz (zO y.zo))] (fun _ => .ok .next)
  (fun ns => [(y.F, oTz P' y.q W P y1 (getN ns 0) y.kz (n : Nat) (getN ns 1) (zO y.zo))]) (fun ns => getN ns 2)) (uwOf em iF c bl cs tk) c bl cs tk ns
theorem FTw_sound {w : World} {b b2 : Bool} (W P : Nat) {y0 y1 : Int} {n : Nat} (h : Tw y0 y1 n) (em : Bool) (iF : Nat) : ConSound (MM w b b2) (KT' w b b2) 3 (FTw (fP w b b2) W P y0 y1 n em iF) := by
  refine ConSound.byC (uwOf em iF) (F := fun y => conC (cTW y.F) (fun _ => blF y.f true y.k y.cq) [iF] [(y.F, oTz (fP w b b2) y.q W P y0 y.ty y.kz ((0 : Nat) : Int) y.tz (zO y.zo))] (fun _ => .ok .next)
    (fun ns => [(y.F, oTz (fP w b b2) y.q W P y1 (getN ns 0) y.kz (n : Nat) (getN ns 1) (zO y.zo))]) (fun ns => getN ns 2)) fun y => ?_
  refine conC_sound (by simp) rfl (fun _ => rfl) fun s tk p pp I => ?_
  refine wpCode_mono ?_ (loopTW h y.zo y.ty y.kz 0 y.tz tk s p I)
  rintro r s' ⟨ty', tz', tk', rfl, J⟩
  rw [Nat.zero_add] at J
  exact ⟨[ty', tz', tk'], rfl, rfl, J⟩
/-! the function -/
noncomputable def cT138 (W : Int) (tw : Nat) (P : Int) (tp : Nat) : Code := .call (.ref 138) ⟨[.int W tw, .int P tp], []⟩
noncomputable def logTw (RG L W : ConF) : List Ev := [.st, .st, .dy 0, .dy 0, .dy 0, .dy 0, .st, .go, .dy 0, .dy 0, .st, .st, .dy 0, .go, .go, .go, .go, .dy 1, .dy 1, .go, .dy 1, .go, .dy 1, .dy 1, .dy 1, .go, .dy 1, .con 1 RG, .dy 2, .con 6 L, .dy 0, .dy 0, .con 3 W, .dy 0]
section
variable (w : World) (b b2 : Bool) (k : Stk) (cq : Cq) (p : Pos) (W P tw tp tk : Nat) (y1 : Int) (n : Nat) (em : Bool)
theorem segTw (sup : List Nat) (h : sup.length = 12) : okQ [] (runF w b b2 (logTw (rgIterF 1 P) (FTf (fP w b b2) W P em 2 0) (FTw (fP w b b2) W P (wsq W P) y1 n em 0)) (cT138 (W : Nat) tw (P : Nat) tp) p (blP true k cq) [] tk sup)
    (.fin (.ok (.ret (.int (n : Nat) (getN sup 10))))) [] [Item.p (em = decide (P = 0) ∧ W ≤ 900 ∧ P ≤ 900) = .p True, Item.p (P < 1000000) = .p True] := by
  obtain ⟨fS, rfl⟩ := sup_ex h
  cases b <;> cases em <;> (unfold okQ; kernel_rfl)
end
structure Vt where
  (W : Int) (tw : Nat) (P : Int) (tp : Nat) (k : Stk) (q : Cq)
noncomputable def vtOf (c : Code) (bl : List (Code × Pos)) (_ : Cells) (_ : Nat) : Vt := match c with
  | .call _ ⟨[.int W tw, .int P tp], _⟩ => ⟨W, tw, P, tp, stkP bl, cqOf bl⟩
  | _ => ⟨0, 0, 0, 0, stkP bl, cqOf bl⟩
/-- _law_twos as a contract -/
noncomputable def F138 (W P n : Nat) : ConF := fun c bl cs tk ns => (fun (y : Vt) => reqF (y.W = (W : Nat) ∧ y.P = (P : Nat)) (conOf (cT138 y.W y.tw y.P y.tp) (fun _ => blP true y.k y.q) [] (fun ns => ⟨.ok (.ret (.int (n : Nat) (getN ns 0))), [], [], getN ns 1⟩))) (vtOf c bl cs tk) c bl cs tk ns
theorem F138_sound {w : World} {b b2 : Bool} {W P n : Nat} {y1 : Int} (h : Tw (wsq W P) y1 n) (hW : W ≤ 900) (hP : P ≤ 900) : ConSound (MM w b b2) (KT' w b b2) 2 (F138 W P n) := by
  refine ConSound.byC vtOf (F := fun y => reqF (y.W = (W : Nat) ∧ y.P = (P : Nat)) (conOf (cT138 y.W y.tw y.P y.tp) (fun _ => blP true y.k y.q) [] (fun ns => ⟨.ok (.ret (.int (n : Nat) (getN ns 0))), [], [], getN ns 1⟩))) fun y => reqF_sound fun hq => ?_
  obtain ⟨W', tw, P', tp, k, q⟩ := y
  obtain ⟨rfl, rfl⟩ := hq
  refine conOf_sound (by simp) fun s tk p pp I => ?_
  refine segQ (MM_den w b b2) rfl rfl _ (fun sup hs => segTw w b b2 k q p W P tw tp tk y1 n (decide (P = 0)) sup hs) (fun sup hs => all_p2 ⟨rfl, hW, hP⟩ (by omega)) ⟨rgIterF_sound _ _ _ _ _, FTf_sound _ _ _ _ _ (by decide), FTw_sound _ _ h _ _, trivial⟩ I fun sup s' tk' hs I' => ?_
  exact ⟨[getN sup 10, tk'], rfl, rfl, rfl, I'⟩
end Mine

/-! part LW1 -/
namespace Mine
open PySem PySem.W PySem.W.X PySem.Spec PySem.Calls PyProof.Rows

/-! law's own words -/
noncomputable def lawB : List Stmt := (fnTop 17).2.1
noncomputable def lawSc : Scope := (fnTop 17).2.2
noncomputable def cSc (e : Expr) : Scope := { lcScope e with names := (lcScope e).names.map fun (n, k) => if k == .free && lawSc.kind == .function && lawSc.names.lookup n == some .cell then (n, .cell) else (n, k) }
noncomputable def envC (e : Expr) (ns fr : Nat) (cells : List (Str × Nat)) : Env := { scope := cSc e, locals := ns, globals := 3, cells, qual := ⟨⟨[108, 97, 119, 46, 60, 108, 111, 99, 97, 108, 115, 62, 46]⟩⟩, func := none, code := .ref 142, frame := some fr, builtins := 0 }
noncomputable def cmS (e : Expr) (it acc ns fr : Nat) (cells : List (Str × Nat)) : Code := .compStart e 0 (.ref it) (.ref acc) (envC e ns fr cells)
noncomputable def nsX (P : Params) (x : Str) : Option (Nat × Value) → Obj
  | none => ⟨.type "dict", none, .dict ⟨[]⟩ 0, ⟨[]⟩⟩
  | some (kt, v) => ⟨.type "dict", none, .dict ⟨[ent P x kt v]⟩ 1, ⟨[]⟩⟩
noncomputable def refS : Code → Nat × Nat × Nat × Nat
  | .compStart _ _ (.ref it) (.ref acc) env => (it, acc, env.locals, env.frame.getD 0)
  | _ => (0, 0, 0, 0)
noncomputable def eSd : Expr := asgE (nthS lawB 2)
noncomputable def eAh : Expr := asgE (nthS lawB 3)
noncomputable def eBh : Expr := asgE (nthS lawB 4)
noncomputable def eLt : Expr := asgE (nthS lawB 6)
noncomputable def i4 (d0 d1 d2 d3 : Int) (t0 t1 t2 t3 : Nat) : List Value := [.int d0 t0, .int d1 t1, .int d2 t2, .int d3 t3]
structure C4 where
  (it acc ns fr l : Nat) (k : Stk) (d0 d1 d2 d3 : Int) (t0 t1 t2 t3 m : Nat)
noncomputable def c4Of (il : Nat) (c : Code) (bl : List (Code × Pos)) (cs : Cells) (_ : Nat) : C4 := ⟨(refS c).1, (refS c).2.1, (refS c).2.2.1, (refS c).2.2.2, adAt cs il, stkL bl, intI (nthV (seqV (objAt cs il)) 0), intI (nthV (seqV (objAt cs il)) 1), intI (nthV (seqV (objAt cs il)) 2), intI (nthV (seqV (objAt cs il)) 3),
  tokV (nthV (seqV (objAt cs il)) 0), tokV (nthV (seqV (objAt cs il)) 1), tokV (nthV (seqV (objAt cs il)) 2), tokV (nthV (seqV (objAt cs il)) 3), seqN (objAt cs il)⟩
noncomputable def i4c (y : C4) : List Value := i4 y.d0 y.d1 y.d2 y.d3 y.t0 y.t1 y.t2 y.t3
noncomputable def cs4 (P : Params) (it acc ns l : Nat) (x : Str) (xs : List Value) (m : Nat) : Cells := [(it, lsI (.ref l) 0), (acc, lstO [] 0), (ns, nsX P x none), (l, lstO xs m)]
noncomputable def logSd (b2 : Bool) : List Ev := appE (cond b2 [] [.dy 0, .dy 0, .go, .dy 0, .go, .dy 0]) [.go, .dy 0, .go, .dy 0, .go, .dy 0, .dy 0, .dy 3, .dy 0, .dy 0, .dy 2, .dy 2, .dy 2, .go, .go, .go, .dy 1, .go, .dy 1, .dy 1, .dy 1, .go, .dy 0, .go, .dy 0, .go, .dy 0, .dy 0, .dy 3, .dy 0, .dy 0, .dy 2, .dy 2, .dy 2, .go, .go, .go, .dy 1, .go, .dy 1, .dy 1, .dy 1, .go, .dy 0, .go, .dy 0, .go, .dy 0, .dy 0, .dy 3, .dy 0, .dy 0, .dy 2, .dy 2, .dy 2, .go, .go, .go, .dy 1, .go, .dy 1, .dy 1, .dy 1, .go, .dy 0, .go, .dy 0, .go, .dy 0, .dy 0, .dy 3, .dy 0, .dy 0, .dy 2, .dy 2, .dy 2, .go, .go, .go, .dy 1, .go, .dy 1, .dy 1, .dy 1, .go, .dy 0, .go, .dy 0, .go, .dy 0, .dy 0, .dy 3, .dy 0, .dy 0, .dy 5]
noncomputable def logAh (b2 : Bool) : List Ev := appE (cond b2 [] [.dy 0, .dy 0, .go, .dy 0, .go, .dy 0]) [.go, .dy 0, .go, .dy 0, .go, .dy 0, .dy 0, .dy 3, .dy 0, .dy 0, .dy 2, .dy 2, .dy 2, .go, .go, .go, .go, .go, .dy 1, .go, .dy 1, .dy 1, .dy 1, .go, .dy 0, .go, .dy 0, .go, .dy 0, .dy 0, .dy 3, .dy 0, .dy 0, .dy 2, .dy 2, .dy 2, .go, .go, .go, .go, .go, .dy 1, .go, .dy 1, .dy 1, .dy 1, .go, .dy 0, .go, .dy 0, .go, .dy 0, .dy 0, .dy 3, .dy 0, .dy 0, .dy 2, .dy 2, .dy 2, .go, .go, .go, .go, .go, .dy 1, .go, .dy 1, .dy 1, .dy 1, .go, .dy 0, .go, .dy 0, .go, .dy 0, .dy 0, .dy 3, .dy 0, .dy 0, .dy 2, .dy 2, .dy 2, .go, .go, .go, .go, .go, .dy 1, .go, .dy 1, .dy 1, .dy 1, .go, .dy 0, .go, .dy 0, .go, .dy 0, .dy 0, .dy 3, .dy 0, .dy 0, .dy 5]
noncomputable def logBh (b2 : Bool) : List Ev := appE (cond b2 [] [.dy 0, .dy 0, .go, .dy 0, .go, .dy 0]) [.go, .dy 0, .go, .dy 0, .go, .dy 0, .dy 0, .dy 3, .dy 0, .dy 0, .dy 2, .dy 2, .dy 2, .go, .go, .go, .go, .go, .dy 1, .go, .dy 1, .dy 1, .dy 1, .go, .dy 0, .go, .dy 0, .go, .dy 0, .dy 0, .dy 3, .dy 0, .dy 0, .dy 2, .dy 2, .dy 2, .go, .go, .go, .go, .go, .dy 1, .go, .dy 1, .dy 1, .dy 1, .go, .dy 0, .go, .dy 0, .go, .dy 0, .dy 0, .dy 3, .dy 0, .dy 0, .dy 2, .dy 2, .dy 2, .go, .go, .go, .go, .go, .dy 1, .go, .dy 1, .dy 1, .dy 1, .go, .dy 0, .go, .dy 0, .go, .dy 0, .dy 0, .dy 3, .dy 0, .dy 0, .dy 2, .dy 2, .dy 2, .go, .go, .go, .go, .go, .dy 1, .go, .dy 1, .dy 1, .dy 1, .go, .dy 0, .go, .dy 0, .go, .dy 0, .dy 0, .dy 3, .dy 0, .dy 0, .dy 5]
noncomputable def logLt (b2 : Bool) (P0 P1 P2 P3 : ConF) : List Ev := appE (cond b2 [] [.dy 0, .dy 0, .go, .dy 0, .go, .dy 0]) [.go, .dy 0, .go, .dy 0, .go, .dy 0, .dy 0, .dy 3, .dy 0, .dy 0, .dy 2, .dy 2, .st, .dy 2, .st, .con 2 P0, .go, .dy 1, .go, .dy 1, .dy 1, .dy 1, .go, .dy 0, .go, .dy 0, .go, .dy 0, .dy 0, .dy 3, .dy 0, .dy 0, .dy 2, .dy 2, .st, .dy 2, .st, .con 2 P1, .go, .dy 1, .go, .dy 1, .dy 1, .dy 1, .go, .dy 0, .go, .dy 0, .go, .dy 0, .dy 0, .dy 3, .dy 0, .dy 0, .dy 2, .dy 2, .st, .dy 2, .st, .con 2 P2, .go, .dy 1, .go, .dy 1, .dy 1, .dy 1, .go, .dy 0, .go, .dy 0, .go, .dy 0, .dy 0, .dy 3, .dy 0, .dy 0, .dy 2, .dy 2, .st, .dy 2, .st, .con 2 P3, .go, .dy 1, .go, .dy 1, .dy 1, .dy 1, .go, .dy 0, .go, .dy 0, .go, .dy 0, .dy 0, .dy 3, .dy 0, .dy 0, .dy 5]
section
variable (w : World) (b b2 : Bool) (k : Stk) (p : Pos) (it acc ns fr l : Nat) (d0 d1 d2 d3 : Int) (t0 t1 t2 t3 m tk : Nat)
theorem segSd (sup : List Nat) (h : sup.length = 2) : okQ m4 (runF w b b2 (logSd b2) (cmS eSd it acc ns fr []) p (blL k) (cs4 (fP w b b2) it acc ns l ⟨⟨[120]⟩⟩ (i4 d0 d1 d2 d3 t0 t1 t2 t3) m) tk sup)
    (.fin (.ok .next)) [(it, lsI .none 4), (acc, lstO [.int (Int.fmod d0 2) (tk + 2), .int (Int.fmod d1 2) (tk + 5), .int (Int.fmod d2 2) (tk + 8), .int (Int.fmod d3 2) (tk + 11)] 4), (ns, nsX (fP w b b2) ⟨⟨[120]⟩⟩ (some (tk, .int d3 t3))), (l, lstO (i4 d0 d1 d2 d3 t0 t1 t2 t3) m)] [] := by
  obtain ⟨fS, rfl⟩ := sup_ex h
  cases b <;> cases b2 <;> (unfold okQ; kernel_rfl)
theorem segAh (sup : List Nat) (h : sup.length = 2) : okQ m4 (runF w b b2 (logAh b2) (cmS eAh it acc ns fr []) p (blL k) (cs4 (fP w b b2) it acc ns l ⟨⟨[120]⟩⟩ (i4 d0 d1 d2 d3 t0 t1 t2 t3) m) tk sup)
    (.fin (.ok .next)) [(it, lsI .none 4), (acc, lstO [.int (Int.fmod (Int.fdiv d0 2) 8) (tk + 4), .int (Int.fmod (Int.fdiv d1 2) 8) (tk + 9), .int (Int.fmod (Int.fdiv d2 2) 8) (tk + 14), .int (Int.fmod (Int.fdiv d3 2) 8) (tk + 19)] 4), (ns, nsX (fP w b b2) ⟨⟨[120]⟩⟩ (some (tk, .int d3 t3))), (l, lstO (i4 d0 d1 d2 d3 t0 t1 t2 t3) m)] [] := by
  obtain ⟨fS, rfl⟩ := sup_ex h
  cases b <;> cases b2 <;> (unfold okQ; kernel_rfl)
theorem segBh (sup : List Nat) (h : sup.length = 2) : okQ m4 (runF w b b2 (logBh b2) (cmS eBh it acc ns fr []) p (blL k) (cs4 (fP w b b2) it acc ns l ⟨⟨[120]⟩⟩ (i4 d0 d1 d2 d3 t0 t1 t2 t3) m) tk sup)
    (.fin (.ok .next)) [(it, lsI .none 4), (acc, lstO [.int (Int.fmod (Int.fdiv d0 16) 8) (tk + 4), .int (Int.fmod (Int.fdiv d1 16) 8) (tk + 9), .int (Int.fmod (Int.fdiv d2 16) 8) (tk + 14), .int (Int.fmod (Int.fdiv d3 16) 8) (tk + 19)] 4), (ns, nsX (fP w b b2) ⟨⟨[120]⟩⟩ (some (tk, .int d3 t3))), (l, lstO (i4 d0 d1 d2 d3 t0 t1 t2 t3) m)] [] := by
  obtain ⟨fS, rfl⟩ := sup_ex h
  cases b <;> cases b2 <;> (unfold okQ; kernel_rfl)
end
noncomputable def FSd (P : Params) (ii ia ins il : Nat) : ConF := fun c bl cs tk ns => (fun (y : C4) => conOf (cmS eSd y.it y.acc y.ns y.fr []) (fun _ => blL y.k) [(ii, y.it, lsI (.ref y.l) 0), (ia, y.acc, lstO [] 0), (ins, y.ns, nsX P ⟨⟨[120]⟩⟩ none), (il, y.l, lstO (i4c y) y.m)] fun ns => ⟨.ok .next, [lsI .none 4, lstO (i4 (Int.fmod y.d0 2) (Int.fmod y.d1 2) (Int.fmod y.d2 2) (Int.fmod y.d3 2) (getN ns 0) (getN ns 1) (getN ns 2) (getN ns 3)) 4, nsX P ⟨⟨[120]⟩⟩ (some (getN ns 4, .int y.d3 y.t3)), lstO (i4c y) y.m], [], getN ns 5⟩) (c4Of il c bl cs tk) c bl cs tk ns
theorem FSd_sound {w : World} {b b2 : Bool} (ii ia ins il : Nat) (hi : [ii, ia, ins, il].Nodup) : ConSound (MM w b b2) (KT' w b b2) 6 (FSd (fP w b b2) ii ia ins il) := by
  refine ConSound.byC (c4Of il) (F := fun y => conOf (cmS eSd y.it y.acc y.ns y.fr []) (fun _ => blL y.k) [(ii, y.it, lsI (.ref y.l) 0), (ia, y.acc, lstO [] 0), (ins, y.ns, nsX (fP w b b2) ⟨⟨[120]⟩⟩ none), (il, y.l, lstO (i4c y) y.m)] fun ns => ⟨.ok .next, [lsI .none 4, lstO (i4 (Int.fmod y.d0 2) (Int.fmod y.d1 2) (Int.fmod y.d2 2) (Int.fmod y.d3 2) (getN ns 0) (getN ns 1) (getN ns 2) (getN ns 3)) 4, nsX (fP w b b2) ⟨⟨[120]⟩⟩ (some (getN ns 4, .int y.d3 y.t3)), lstO (i4c y) y.m], [], getN ns 5⟩) fun y => ?_
  refine conOf_sound hi fun s tk p pp I => ?_
  refine segQ (MM_den w b b2) rfl rfl _ (fun sup hs => segSd w b b2 y.k p y.it y.acc y.ns y.fr y.l y.d0 y.d1 y.d2 y.d3 y.t0 y.t1 y.t2 y.t3 y.m tk sup hs) (fun sup hs => fun P hP => nomatch hP) (by cases b2 <;> trivial) I fun sup s' tk' hs I' => ?_
  exact ⟨[tk + 2, tk + 5, tk + 8, tk + 11, tk, tk'], rfl, rfl, rfl, I'⟩
noncomputable def FAh (P : Params) (ii ia ins il : Nat) : ConF := fun c bl cs tk ns => (fun (y : C4) => conOf (cmS eAh y.it y.acc y.ns y.fr []) (fun _ => blL y.k) [(ii, y.it, lsI (.ref y.l) 0), (ia, y.acc, lstO [] 0), (ins, y.ns, nsX P ⟨⟨[120]⟩⟩ none), (il, y.l, lstO (i4c y) y.m)] fun ns => ⟨.ok .next, [lsI .none 4, lstO (i4 (Int.fmod (Int.fdiv y.d0 2) 8) (Int.fmod (Int.fdiv y.d1 2) 8) (Int.fmod (Int.fdiv y.d2 2) 8) (Int.fmod (Int.fdiv y.d3 2) 8) (getN ns 0) (getN ns 1) (getN ns 2) (getN ns 3)) 4, nsX P ⟨⟨[120]⟩⟩ (some (getN ns 4, .int y.d3 y.t3)), lstO (i4c y) y.m], [], getN ns 5⟩) (c4Of il c bl cs tk) c bl cs tk ns
theorem FAh_sound {w : World} {b b2 : Bool} (ii ia ins il : Nat) (hi : [ii, ia, ins, il].Nodup) : ConSound (MM w b b2) (KT' w b b2) 6 (FAh (fP w b b2) ii ia ins il) := by
  refine ConSound.byC (c4Of il) (F := fun y => conOf (cmS eAh y.it y.acc y.ns y.fr []) (fun _ => blL y.k) [(ii, y.it, lsI (.ref y.l) 0), (ia, y.acc, lstO [] 0), (ins, y.ns, nsX (fP w b b2) ⟨⟨[120]⟩⟩ none), (il, y.l, lstO (i4c y) y.m)] fun ns => ⟨.ok .next, [lsI .none 4, lstO (i4 (Int.fmod (Int.fdiv y.d0 2) 8) (Int.fmod (Int.fdiv y.d1 2) 8) (Int.fmod (Int.fdiv y.d2 2) 8) (Int.fmod (Int.fdiv y.d3 2) 8) (getN ns 0) (getN ns 1) (getN ns 2) (getN ns 3)) 4, nsX (fP w b b2) ⟨⟨[120]⟩⟩ (some (getN ns 4, .int y.d3 y.t3)), lstO (i4c y) y.m], [], getN ns 5⟩) fun y => ?_
  refine conOf_sound hi fun s tk p pp I => ?_
  refine segQ (MM_den w b b2) rfl rfl _ (fun sup hs => segAh w b b2 y.k p y.it y.acc y.ns y.fr y.l y.d0 y.d1 y.d2 y.d3 y.t0 y.t1 y.t2 y.t3 y.m tk sup hs) (fun sup hs => fun P hP => nomatch hP) (by cases b2 <;> trivial) I fun sup s' tk' hs I' => ?_
  exact ⟨[tk + 4, tk + 9, tk + 14, tk + 19, tk, tk'], rfl, rfl, rfl, I'⟩
noncomputable def FBh (P : Params) (ii ia ins il : Nat) : ConF := fun c bl cs tk ns => (fun (y : C4) => conOf (cmS eBh y.it y.acc y.ns y.fr []) (fun _ => blL y.k) [(ii, y.it, lsI (.ref y.l) 0), (ia, y.acc, lstO [] 0), (ins, y.ns, nsX P ⟨⟨[120]⟩⟩ none), (il, y.l, lstO (i4c y) y.m)] fun ns => ⟨.ok .next, [lsI .none 4, lstO (i4 (Int.fmod (Int.fdiv y.d0 16) 8) (Int.fmod (Int.fdiv y.d1 16) 8) (Int.fmod (Int.fdiv y.d2 16) 8) (Int.fmod (Int.fdiv y.d3 16) 8) (getN ns 0) (getN ns 1) (getN ns 2) (getN ns 3)) 4, nsX P ⟨⟨[120]⟩⟩ (some (getN ns 4, .int y.d3 y.t3)), lstO (i4c y) y.m], [], getN ns 5⟩) (c4Of il c bl cs tk) c bl cs tk ns
theorem FBh_sound {w : World} {b b2 : Bool} (ii ia ins il : Nat) (hi : [ii, ia, ins, il].Nodup) : ConSound (MM w b b2) (KT' w b b2) 6 (FBh (fP w b b2) ii ia ins il) := by
  refine ConSound.byC (c4Of il) (F := fun y => conOf (cmS eBh y.it y.acc y.ns y.fr []) (fun _ => blL y.k) [(ii, y.it, lsI (.ref y.l) 0), (ia, y.acc, lstO [] 0), (ins, y.ns, nsX (fP w b b2) ⟨⟨[120]⟩⟩ none), (il, y.l, lstO (i4c y) y.m)] fun ns => ⟨.ok .next, [lsI .none 4, lstO (i4 (Int.fmod (Int.fdiv y.d0 16) 8) (Int.fmod (Int.fdiv y.d1 16) 8) (Int.fmod (Int.fdiv y.d2 16) 8) (Int.fmod (Int.fdiv y.d3 16) 8) (getN ns 0) (getN ns 1) (getN ns 2) (getN ns 3)) 4, nsX (fP w b b2) ⟨⟨[120]⟩⟩ (some (getN ns 4, .int y.d3 y.t3)), lstO (i4c y) y.m], [], getN ns 5⟩) fun y => ?_
  refine conOf_sound hi fun s tk p pp I => ?_
  refine segQ (MM_den w b b2) rfl rfl _ (fun sup hs => segBh w b b2 y.k p y.it y.acc y.ns y.fr y.l y.d0 y.d1 y.d2 y.d3 y.t0 y.t1 y.t2 y.t3 y.m tk sup hs) (fun sup hs => fun P hP => nomatch hP) (by cases b2 <;> trivial) I fun sup s' tk' hs I' => ?_
  exact ⟨[tk + 4, tk + 9, tk + 14, tk + 19, tk, tk'], rfl, rfl, rfl, I'⟩
/-! the late texts -/
noncomputable def x4 (x0 x1 x2 x3 : List Nat) (t0 t1 t2 t3 : Nat) : List Value := [.str ⟨⟨x0⟩⟩ t0, .str ⟨⟨x1⟩⟩ t1, .str ⟨⟨x2⟩⟩ t2, .str ⟨⟨x3⟩⟩ t3]
structure L4 where
  (it acc ns fr l : Nat) (k : Stk) (x0 x1 x2 x3 : List Nat) (t0 t1 t2 t3 m : Nat)
noncomputable def strL : Value → List Nat
  | .str x _ => x.cps.toList
  | _ => []
noncomputable def l4Of (il : Nat) (c : Code) (bl : List (Code × Pos)) (cs : Cells) (_ : Nat) : L4 := ⟨(refS c).1, (refS c).2.1, (refS c).2.2.1, (refS c).2.2.2, adAt cs il, stkL bl, strL (nthV (seqV (objAt cs il)) 0), strL (nthV (seqV (objAt cs il)) 1), strL (nthV (seqV (objAt cs il)) 2), strL (nthV (seqV (objAt cs il)) 3),
  tokV (nthV (seqV (objAt cs il)) 0), tokV (nthV (seqV (objAt cs il)) 1), tokV (nthV (seqV (objAt cs il)) 2), tokV (nthV (seqV (objAt cs il)) 3), seqN (objAt cs il)⟩
noncomputable def x4c (y : L4) : List Value := x4 y.x0 y.x1 y.x2 y.x3 y.t0 y.t1 y.t2 y.t3
noncomputable def PrW (l : List Nat) : Prop := PrepP l (keepC l) ∧ l.any (fun c => !decide (c < 128)) = true
section
variable (w : World) (b b2 : Bool) (k : Stk) (p : Pos) (it acc ns fr l : Nat) (x0 x1 x2 x3 : List Nat) (t0 t1 t2 t3 m tk : Nat)
theorem segLt (sup : List Nat) (h : sup.length = 10) : okQ m4 (runF w b b2 (logLt b2 (F121 true x0 (keepC x0)) (F121 true x1 (keepC x1)) (F121 true x2 (keepC x2)) (F121 true x3 (keepC x3))) (cmS eLt it acc ns fr []) p (blL k) (cs4 (fP w b b2) it acc ns l ⟨⟨[111, 110, 101]⟩⟩ (x4 x0 x1 x2 x3 t0 t1 t2 t3) m) tk sup)
    (.fin (.ok .next)) [(it, lsI .none 4), (acc, lstO (x4 (keepC x0) (keepC x1) (keepC x2) (keepC x3) (getN sup 0) (getN sup 2) (getN sup 4) (getN sup 6)) 4), (ns, nsX (fP w b b2) ⟨⟨[111, 110, 101]⟩⟩ (some (tk, .str ⟨⟨x3⟩⟩ t3))), (l, lstO (x4 x0 x1 x2 x3 t0 t1 t2 t3) m)] [] := by
  obtain ⟨fS, rfl⟩ := sup_ex h
  cases b <;> cases b2 <;> (unfold okQ; kernel_rfl)
end
noncomputable def FLt (P : Params) (ii ia ins il : Nat) : ConF := fun c bl cs tk ns => (fun (y : L4) => reqF (PrW y.x0 ∧ PrW y.x1 ∧ PrW y.x2 ∧ PrW y.x3) (conOf (cmS eLt y.it y.acc y.ns y.fr []) (fun _ => blL y.k) [(ii, y.it, lsI (.ref y.l) 0), (ia, y.acc, lstO [] 0), (ins, y.ns, nsX P ⟨⟨[111, 110, 101]⟩⟩ none), (il, y.l, lstO (x4c y) y.m)] fun ns =>
  ⟨.ok .next, [lsI .none 4, lstO (x4 (keepC y.x0) (keepC y.x1) (keepC y.x2) (keepC y.x3) (getN ns 0) (getN ns 1) (getN ns 2) (getN ns 3)) 4, nsX P ⟨⟨[111, 110, 101]⟩⟩ (some (getN ns 4, .str ⟨⟨y.x3⟩⟩ y.t3)), lstO (x4c y) y.m], [], getN ns 5⟩)) (l4Of il c bl cs tk) c bl cs tk ns
theorem FLt_sound {w : World} {b b2 : Bool} (ii ia ins il : Nat) (hi : [ii, ia, ins, il].Nodup) : ConSound (MM w b b2) (KT' w b b2) 6 (FLt (fP w b b2) ii ia ins il) := by
  refine ConSound.byC (l4Of il) (F := fun y => reqF (PrW y.x0 ∧ PrW y.x1 ∧ PrW y.x2 ∧ PrW y.x3) (conOf (cmS eLt y.it y.acc y.ns y.fr []) (fun _ => blL y.k) [(ii, y.it, lsI (.ref y.l) 0), (ia, y.acc, lstO [] 0), (ins, y.ns, nsX (fP w b b2) ⟨⟨[111, 110, 101]⟩⟩ none), (il, y.l, lstO (x4c y) y.m)] fun ns =>
    ⟨.ok .next, [lsI .none 4, lstO (x4 (keepC y.x0) (keepC y.x1) (keepC y.x2) (keepC y.x3) (getN ns 0) (getN ns 1) (getN ns 2) (getN ns 3)) 4, nsX (fP w b b2) ⟨⟨[111, 110, 101]⟩⟩ (some (getN ns 4, .str ⟨⟨y.x3⟩⟩ y.t3)), lstO (x4c y) y.m], [], getN ns 5⟩)) fun y => reqF_sound fun hq => ?_
  obtain ⟨q0, q1, q2, q3⟩ := hq
  refine conOf_sound hi fun s tk p pp I => ?_
  refine segQ (MM_den w b b2) rfl rfl _ (fun sup hs => segLt w b b2 y.k p y.it y.acc y.ns y.fr y.l y.x0 y.x1 y.x2 y.x3 y.t0 y.t1 y.t2 y.t3 y.m tk sup hs) (fun sup hs => fun P hP => nomatch hP) (by
    cases b2 <;> exact ⟨F121_sound true q0.1 q0.2, F121_sound true q1.1 q1.2, F121_sound true q2.1 q2.2, F121_sound true q3.1 q3.2, trivial⟩) I fun sup s' tk' hs I' => ?_
  exact ⟨[getN sup 0, getN sup 2, getN sup 4, getN sup 6, tk, tk'], rfl, rfl, rfl, I'⟩
end Mine

/-! part LS -/
namespace Mine
open PySem PySem.W PySem.W.X PySem.Spec PySem.Calls PyProof.Rows

/-! texts and lists with symbolic places -/
noncomputable def mulSF : ConF := fun c _ _ tk ns => match c with
  | .builtin id ⟨[.str x _, .int n _], []⟩ => some ⟨.ok (.ret (.str ⟨⟨List.replicate n.toNat 92⟩⟩ (getN ns 0))), [], [], getN ns 1, [(.a (PySem.code id), .a (PySem.code "str.__mul__")), (.s x, .s ⟨⟨[92]⟩⟩), (.p (0 ≤ n ∧ n ≤ 1000), .p True)]⟩
  | _ => none
theorem fold_one : ∀ (n : Nat) (a : Array Nat), (List.replicate n (#[92] : Array Nat)).foldl (· ++ ·) a = a ++ (⟨List.replicate n 92⟩ : Array Nat)
  | 0, a => by simp
  | n + 1, a => by
    rw [List.replicate_succ, List.foldl_cons, fold_one n (a ++ #[92]), List.replicate_succ]
    apply Array.ext'
    simp
theorem rep_one (n : Nat) : (List.replicate n (#[92] : Array Nat)).foldl (· ++ ·) #[] = (⟨List.replicate n 92⟩ : Array Nat) := by
  rw [fold_one]; apply Array.ext'; simp
theorem mulSF_sound (pg : Program) (w : World) (kt : KT) : ConSound (model pg w) kt 2 mulSF := by
  intro c bl p cs tk gs s₀ T s I H
  obtain ⟨po, hF, chk⟩ := H [0, 0] rfl
  unfold mulSF at hF
  split at hF
  · rename_i id x t n u
    cases hF
    have e1 : id = "str.__mul__" := PySem.code_inj _ _ (Item.a.inj (chk _ (.head _)))
    have e2 : x = ⟨⟨[92]⟩⟩ := Item.s.inj (chk _ (.tail _ (.head _)))
    have e3 : 0 ≤ n ∧ n ≤ 1000 := by rw [Item.p.inj (chk _ (.tail _ (.tail _ (.head _))))]; trivial
    subst e1 e2
    obtain ⟨k, rfl⟩ := Int.eq_ofNat_of_zero_le e3.1
    have hk : k ≤ 1000 := by omega
    have fin : ∀ (v : Value) (t' : Nat) (s' : Shared), s' = { s with toks := t' } → (∃ t, v = .str ⟨⟨List.replicate k 92⟩⟩ t) → ∃ (ns : List Nat) (po : Post), ns.length = 2 ∧ mulSF (.builtin "str.__mul__" ⟨[.str ⟨⟨[92]⟩⟩ t, .int (k : Nat) u], []⟩) bl cs tk ns = some po ∧ (.ok (.ret v) : Result) = po.res ∧ Inv kt s₀ T s' (applyPost cs po) po.tk gs := by
      rintro v t' s' rfl ⟨t, rfl⟩
      refine ⟨[t, t'], _, rfl, rfl, rfl, ?_⟩
      show Inv kt s₀ T _ (cs ++ []) t' gs
      rw [List.append_nil]
      exact I.toks t'
    refine wpCode_meets (by decide +kernel) F.entry_str_mul (gives_str_mul ⟨⟨[92]⟩⟩ (k : Nat) t u ?_ ?_ ?_).meets ?_
    · rw [Bool.or_eq_false_iff, decide_eq_false_iff_not, decide_eq_false_iff_not]; omega
    · intro h1 _ h
      have h2 : (((⟨⟨[92]⟩⟩ : Str).length : Nat) : Int) = 1 := rfl
      rw [h2] at h
      have h3 : (2 ^ 63 - 1 : Int) / (k : Nat) < 1 := h
      have h4 := Int.lt_mul_of_ediv_lt (by omega : (0 : Int) < (k : Nat)) h3
      omega
    · intro _ _
      have h2 : ((⟨⟨[92]⟩⟩ : Str).length : Nat) = 1 := rfl
      rw [h2, Int.toNat_natCast]
      unfold Builtin.Str.tooLong
      rw [sizeLine_is]
      exact decide_eq_false (by omega)
    · show Made.post _ _ s
      split
      · rename_i h
        have hk0 : k = 0 := by omega
        subst hk0
        exact ⟨by rw [sizeLine_is]; decide, fin _ _ _ rfl ⟨_, rfl⟩⟩
      · split
        · rename_i h
          have hk1 : k = 1 := by
            have h2 : ((⟨⟨[92]⟩⟩ : Str).length : Nat) = 1 := rfl
            rw [h2] at h
            simp at h
            omega
          subst hk1
          exact fin _ s.toks s rfl ⟨_, rfl⟩
        · refine ⟨?_, fin _ _ _ rfl ⟨s.toks, ?_⟩⟩
          · rw [Int.toNat_natCast, show (⟨⟨[92]⟩⟩ : Str).cps = #[92] from rfl, rep_one, sizeLine_is]
            show (⟨List.replicate k 92⟩ : Array Nat).size ≤ _
            simp; omega
          · rw [Int.toNat_natCast, show (⟨⟨[92]⟩⟩ : Str).cps = #[92] from rfl, rep_one]
  · cases hF
noncomputable def getLF (ci : Nat) : ConF := fun c _ cs tk _ => match c, getC cs ci with
  | .builtin id ⟨[.ref a, .int i _], []⟩, some (y, o) => some ⟨.ok (.ret (.int (intI (nthV (seqV o) i.toNat)) (tokV (nthV (seqV o) i.toNat)))), [], [], tk, [(.a (PySem.code id), .a (PySem.code "list.__getitem__")), (.a a, .a y), (.o o, .o (lstO (seqV o) (seqN o))), (.p (0 ≤ i ∧ i < 1000000 ∧ (seqV o)[i.toNat]? = some (.int (intI (nthV (seqV o) i.toNat)) (tokV (nthV (seqV o) i.toNat)))), .p True)]⟩
  | _, _ => none
theorem getLF_sound (pg : Program) (w : World) (kt : KT) (ci : Nat) : ConSound (model pg w) kt 0 (getLF ci) := by
  intro c bl p cs tk gs s₀ T s I H
  obtain ⟨po, hF, chk⟩ := H [] rfl
  unfold getLF at hF
  split at hF
  · rename_i id a i t y o hg
    cases hF
    have e1 : id = "list.__getitem__" := PySem.code_inj _ _ (Item.a.inj (chk _ (.head _)))
    have e2 : a = y := Item.a.inj (chk _ (.tail _ (.head _)))
    have e3 : o = lstO (seqV o) (seqN o) := Item.o.inj (chk _ (.tail _ (.tail _ (.head _))))
    have e4 : 0 ≤ i ∧ i < 1000000 ∧ (seqV o)[i.toNat]? = some (.int (intI (nthV (seqV o) i.toNat)) (tokV (nthV (seqV o) i.toNat))) := by rw [Item.p.inj (chk _ (.tail _ (.tail _ (.tail _ (.head _)))))]; trivial
    subst e1 e2
    have ho := I.cell _ (getC_mem hg)
    have hd : o.data = .seq ⟨seqV o⟩ (seqN o) := congrArg Obj.data e3
    obtain ⟨h0, h1, h2⟩ := e4
    refine wpCode_any (by decide +kernel) F.entry_list_getitem fun A hA => ?_
    show wpAny _ _ (Builtin.List.listSubscript? (.int i t) >>= _) _ _ s
    refine wpAny_bind (wpAny_listSubscript_int (fitsIndex_of h0 (by omega)) ?_)
    obtain ⟨j, rfl⟩ := Int.eq_ofNat_of_zero_le h0
    rw [Int.toNat_natCast] at h2
    show wpAny _ _ ((seqItemAt a j >>= fun r => pure (r.map (j, ·))) >>= _) _ _ s
    refine wpAny_bind (wpAny_bind (wpAny_seqItemAt ho hd (wpAny_pure ?_)))
    have h2' : (⟨seqV o⟩ : Array Value)[j]? = some (.int (intI (nthV (seqV o) j)) (tokV (nthV (seqV o) j))) := by rw [← h2]; simp
    rw [h2']
    have fin : ∃ ns po, ns.length = 0 ∧ getLF ci (.builtin "list.__getitem__" ⟨[.ref a, .int (j : Nat) t], []⟩) bl cs tk ns = some po ∧ (.ok (.ret (.int (intI (nthV (seqV o) j)) (tokV (nthV (seqV o) j)))) : Result) = po.res ∧ Inv kt s₀ T s (applyPost cs po) po.tk gs := by
      refine ⟨[], _, rfl, by unfold getLF; rw [hg], rfl, ?_⟩
      show Inv kt s₀ T s (cs ++ []) tk gs
      rw [List.append_nil]; exact I
    first
      | exact wpAny_bind (wpAny_pure (wpAny_pure ⟨_, rfl, fin⟩))
      | exact wpAny_pure ⟨_, rfl, fin⟩
  · cases hF
noncomputable def chrF : ConF := fun c _ _ tk _ => match c with
  | .builtin id ⟨[.int i _], []⟩ => some ⟨.ok (.ret (.str ⟨⟨[i.toNat]⟩⟩ tk)), [], [], tk + 1, [(.a (PySem.code id), .a (PySem.code "chr")), (.p (0 ≤ i ∧ i ≤ 100000), .p True)]⟩
  | _ => none
theorem chrF_sound (pg : Program) (w : World) (kt : KT) : ConSound (model pg w) kt 0 chrF := by
  intro c bl p cs tk gs s₀ T s I H
  obtain ⟨po, hF, chk⟩ := H [] rfl
  unfold chrF at hF
  split at hF
  · rename_i id i t
    cases hF
    have e1 : id = "chr" := PySem.code_inj _ _ (Item.a.inj (chk _ (.head _)))
    have e2 : 0 ≤ i ∧ i ≤ 100000 := by rw [Item.p.inj (chk _ (.tail _ (.head _)))]; trivial
    subst e1
    refine wpCode_meets (by decide +kernel) F.entry_chr (gives_chr i t ?_).meets ⟨by show 1 ≤ sizeLine; rw [sizeLine_is]; decide, [], _, rfl, rfl, by rw [I.tk], made_int I⟩
    rw [Bool.or_eq_false_iff, decide_eq_false_iff_not, decide_eq_false_iff_not]; omega
  · cases hF
noncomputable def addA : ConF := fun c _ _ _ ns => match c with
  | .builtin id ⟨[.str q _, .str b _], []⟩ => some ⟨.ok (.ret (.str ⟨⟨q.cps.toList ++ b.cps.toList⟩⟩ (getN ns 0))), [], [], getN ns 1, [(.a (PySem.code id), .a (PySem.code "str.__add__")), (.p (q.cps.toList.length + b.cps.toList.length ≤ 10000), .p True)]⟩
  | _ => none
theorem addA_sound (pg : Program) (w : World) (kt : KT) : ConSound (model pg w) kt 2 addA := by
  intro c bl p cs tk gs s₀ T s I H
  obtain ⟨po, hF, chk⟩ := H [0, 0] rfl
  unfold addA at hF
  split at hF
  · rename_i id q tq b tb
    cases hF
    have e1 : id = "str.__add__" := PySem.code_inj _ _ (Item.a.inj (chk _ (.head _)))
    have e2 : q.cps.toList.length + b.cps.toList.length ≤ 10000 := by rw [Item.p.inj (chk _ (.tail _ (.head _)))]; trivial
    subst e1
    have eq : (⟨⟨q.cps.toList ++ b.cps.toList⟩⟩ : Str) = q ++ b := by
      apply congrArg Str.mk
      show _ = q.cps ++ b.cps
      apply Array.ext'
      simp
    refine wpCode_meets (by decide +kernel) F.entry_str_add (gives_str_add q b tq tb).meets ?_
    have fin : ∀ (v : Value) (t' : Nat) (s' : Shared), s' = { s with toks := t' } → (∃ t, v = .str (q ++ b) t) → ∃ (ns : List Nat) (po : Post), ns.length = 2 ∧ addA (.builtin "str.__add__" ⟨[.str q tq, .str b tb], []⟩) bl cs tk ns = some po ∧ (.ok (.ret v) : Result) = po.res ∧ Inv kt s₀ T s' (applyPost cs po) po.tk gs := by
      rintro v t' s' rfl ⟨t, rfl⟩
      refine ⟨[t, t'], _, rfl, rfl, by rw [← eq]; rfl, ?_⟩
      show Inv kt s₀ T _ (cs ++ []) t' gs
      rw [List.append_nil]
      exact I.toks t'
    show Made.post _ _ s
    split
    · rename_i h
      refine fin _ s.toks s rfl ⟨tb, ?_⟩
      rw [empty_of_len h]
      rw [show ((⟨#[]⟩ : Str) ++ b) = b from Str.empty_append b]
    · split
      · rename_i h
        refine fin _ s.toks s rfl ⟨tq, ?_⟩
        rw [empty_of_len h]
        rw [show (q ++ (⟨#[]⟩ : Str)) = q from Str.append_empty q]
      · refine ⟨?_, fin _ _ _ rfl ⟨_, rfl⟩⟩
        rw [len_cps, Str.cps_append, sizeLine_is]
        simp at e2 ⊢
        omega
  · cases hF
noncomputable def sgetF : ConF := fun c _ _ tk _ => match c with
  | .builtin id ⟨[.str x _, .int i _], []⟩ => some ⟨.ok (.ret (.str ⟨⟨[40 + i.toNat]⟩⟩ tk)), [], [], tk + 1, [(.a (PySem.code id), .a (PySem.code "str.__getitem__")), (.s x, .s ⟨⟨[40, 41]⟩⟩), (.p (i = 0 ∨ i = 1), .p True)]⟩
  | _ => none
theorem sgetF_sound (pg : Program) (w : World) (kt : KT) : ConSound (model pg w) kt 0 sgetF := by
  intro c bl p cs tk gs s₀ T s I H
  obtain ⟨po, hF, chk⟩ := H [] rfl
  unfold sgetF at hF
  split at hF
  · rename_i id x t i u
    cases hF
    have e1 : id = "str.__getitem__" := PySem.code_inj _ _ (Item.a.inj (chk _ (.head _)))
    have e2 : x = ⟨⟨[40, 41]⟩⟩ := Item.s.inj (chk _ (.tail _ (.head _)))
    have e3 : i = 0 ∨ i = 1 := by rw [Item.p.inj (chk _ (.tail _ (.tail _ (.head _))))]; trivial
    subst e1 e2
    rcases e3 with rfl | rfl
    · exact wpCode_meets (by decide +kernel) F.entry_str_getitem (gives_str_getitem ⟨⟨[40, 41]⟩⟩ 0 t u 40 (by decide) (by decide +kernel)).meets ⟨by rw [sizeLine_is]; decide, [], _, rfl, rfl, by rw [I.tk]; rfl, made_int I⟩
    · exact wpCode_meets (by decide +kernel) F.entry_str_getitem (gives_str_getitem ⟨⟨[40, 41]⟩⟩ 1 t u 41 (by decide) (by decide +kernel)).meets ⟨by rw [sizeLine_is]; decide, [], _, rfl, rfl, by rw [I.tk]; rfl, made_int I⟩
  · cases hF
end Mine

/-! part LW2 -/
namespace Mine
open PySem PySem.W PySem.W.X PySem.Spec PySem.Calls PyProof.Rows

/-! the text -/
structure I4 where
  (d0 d1 d2 d3 : Int) (t0 t1 t2 t3 m : Nat)
noncomputable def I4.L (y : I4) : List Value := [.int y.d0 y.t0, .int y.d1 y.t1, .int y.d2 y.t2, .int y.d3 y.t3]
noncomputable def I4.O (y : I4) : Obj := lstO y.L y.m
noncomputable def i4At (cs : Cells) (il : Nat) : I4 := ⟨intI (nthV (seqV (objAt cs il)) 0), intI (nthV (seqV (objAt cs il)) 1), intI (nthV (seqV (objAt cs il)) 2), intI (nthV (seqV (objAt cs il)) 3),
  tokV (nthV (seqV (objAt cs il)) 0), tokV (nthV (seqV (objAt cs il)) 1), tokV (nthV (seqV (objAt cs il)) 2), tokV (nthV (seqV (objAt cs il)) 3), seqN (objAt cs il)⟩
noncomputable def celO (l : Nat) : Obj := ⟨.type "cell", none, .cell (some (.ref l)), ⟨[]⟩⟩
noncomputable def uOfI (us : List Value) (d : Int) : Int := intI (nthV us (Int.fdiv d 128).toNat)
noncomputable def unitT (us : List Value) (s d bh ah : Int) : List Nat := ((List.replicate ah.toNat 92 ++ [(uOfI us d).toNat]) ++ List.replicate bh.toNat 92) ++ [40 + s.toNat]
noncomputable def eTx : Expr := callA (asgE (nthS lawB 5)) 0
noncomputable def txCells (cU cS cD cB cA : Nat) : List (Str × Nat) := [(⟨⟨[117, 110, 115, 101, 101, 110]⟩⟩, cU), (⟨⟨[115, 105, 100, 101, 115]⟩⟩, cS), (⟨⟨[100, 114, 97, 119, 110]⟩⟩, cD), (⟨⟨[98, 101, 104, 105, 110, 100]⟩⟩, cB), (⟨⟨[97, 104, 101, 97, 100]⟩⟩, cA)]
structure Adr where
  (cU cS cD cB cA lU lS lD lB lA : Nat)
noncomputable def tailTx (a : Adr) (us : List Value) (m : Nat) (sd dr bh ah : I4) : Cells := [(a.cU, celO a.lU), (a.cS, celO a.lS), (a.cD, celO a.lD), (a.cB, celO a.lB), (a.cA, celO a.lA), (a.lU, lstO us m), (a.lS, sd.O), (a.lD, dr.O), (a.lB, bh.O), (a.lA, ah.O)]
noncomputable def csTx (P : Params) (it acc ns : Nat) (a : Adr) (us : List Value) (m : Nat) (sd dr bh ah : I4) : Cells := (it, rgI 0 4) :: (acc, lstO [] 0) :: (ns, nsX P ⟨⟨[107]⟩⟩ none) :: tailTx a us m sd dr bh ah
noncomputable def logTx (b2 : Bool) : List Ev := appE (cond b2 [] [.dy 0, .dy 0, .go, .dy 0, .go, .dy 0]) [.go, .dy 0, .go, .dy 0, .go, .dy 0, .dy 0, .dy 0, .dy 0, .dy 0, .dy 0, .dy 0, .dy 2, .dy 2, .dy 7, .dy 2, .dy 12, .dy 12, .dy 12, .go, .dy 12, .go, .dy 12, .go, .go, .go, .con 2 mulSF, .st, .st, .dy 3, .dy 5, .dy 2, .dy 10, .dy 10, .dy 10, .go, .dy 10, .go, .dy 10, .go, .go, .dy 8, .dy 8, .dy 8, .go, .dy 8, .con 0 (getLF 8), .go, .con 0 chrF, .go, .con 2 addA, .dy 6, .dy 2, .dy 11, .dy 11, .dy 11, .go, .dy 11, .go, .dy 11, .go, .go, .go, .con 2 mulSF, .go, .con 2 addA, .dy 4, .dy 2, .dy 9, .dy 9, .dy 9, .go, .dy 9, .go, .dy 9, .go, .con 0 sgetF, .go, .con 2 addA, .go, .dy 1, .go, .dy 1, .dy 1, .dy 1, .go, .dy 0, .go, .dy 0, .go, .dy 0, .dy 0, .dy 0, .dy 0, .dy 0, .dy 0, .dy 0, .dy 2, .dy 2, .dy 7, .dy 2, .dy 12, .dy 12, .dy 12, .go, .dy 12, .go, .dy 12, .go, .go, .go, .con 2 mulSF, .st, .st, .dy 3, .dy 5, .dy 2, .dy 10, .dy 10, .dy 10, .go, .dy 10, .go, .dy 10, .go, .go, .dy 8, .dy 8, .dy 8, .go, .dy 8, .con 0 (getLF 8), .go, .con 0 chrF, .go, .con 2 addA, .dy 6, .dy 2, .dy 11, .dy 11, .dy 11, .go, .dy 11, .go, .dy 11, .go, .go, .go, .con 2 mulSF, .go, .con 2 addA, .dy 4, .dy 2, .dy 9, .dy 9, .dy 9, .go, .dy 9, .go, .dy 9, .go, .con 0 sgetF, .go, .con 2 addA, .go, .dy 1, .go, .dy 1, .dy 1, .dy 1, .go, .dy 0, .go, .dy 0, .go, .dy 0, .dy 0, .dy 0, .dy 0, .dy 0, .dy 0, .dy 0, .dy 2, .dy 2, .dy 7, .dy 2, .dy 12, .dy 12, .dy 12, .go, .dy 12, .go, .dy 12, .go, .go, .go, .con 2 mulSF, .st, .st, .dy 3, .dy 5, .dy 2, .dy 10, .dy 10, .dy 10, .go, .dy 10, .go, .dy 10, .go, .go, .dy 8, .dy 8, .dy 8, .go, .dy 8, .con 0 (getLF 8), .go, .con 0 chrF, .go, .con 2 addA, .dy 6, .dy 2, .dy 11, .dy 11, .dy 11, .go, .dy 11, .go, .dy 11, .go, .go, .go, .con 2 mulSF, .go, .con 2 addA, .dy 4, .dy 2, .dy 9, .dy 9, .dy 9, .go, .dy 9, .go, .dy 9, .go, .con 0 sgetF, .go, .con 2 addA, .go, .dy 1, .go, .dy 1, .dy 1, .dy 1, .go, .dy 0, .go, .dy 0, .go, .dy 0, .dy 0, .dy 0, .dy 0, .dy 0, .dy 0, .dy 0, .dy 2, .dy 2, .dy 7, .dy 2, .dy 12, .dy 12, .dy 12, .go, .dy 12, .go, .dy 12, .go, .go, .go, .con 2 mulSF, .st, .st, .dy 3, .dy 5, .dy 2, .dy 10, .dy 10, .dy 10, .go, .dy 10, .go, .dy 10, .go, .go, .dy 8, .dy 8, .dy 8, .go, .dy 8, .con 0 (getLF 8), .go, .con 0 chrF, .go, .con 2 addA, .dy 6, .dy 2, .dy 11, .dy 11, .dy 11, .go, .dy 11, .go, .dy 11, .go, .go, .go, .con 2 mulSF, .go, .con 2 addA, .dy 4, .dy 2, .dy 9, .dy 9, .dy 9, .go, .dy 9, .go, .dy 9, .go, .con 0 sgetF, .go, .con 2 addA, .go, .dy 1, .go, .dy 1, .dy 1, .dy 1, .go, .dy 0, .go, .dy 0, .go, .dy 0, .dy 0, .dy 0, .dy 14]
section
variable (w : World) (b b2 : Bool) (k : Stk) (p : Pos) (it acc ns fr : Nat) (a : Adr) (us : List Value) (m : Nat) (sd dr bh ah : I4) (tk : Nat)
noncomputable def psTx : List Prop := [Item.p (((List.replicate (Int.toNat ah.d3) 92 ++ [(uOfI us dr.d3).toNat]) ++ List.replicate (Int.toNat bh.d3) 92).length + ([40 + (Int.toNat sd.d3)] : List Nat).length ≤ 10000) = .p True, Item.p (sd.d3 = 0 ∨ sd.d3 = 1) = .p True, Item.p ((List.replicate (Int.toNat ah.d3) 92 ++ [(uOfI us dr.d3).toNat]).length + (List.replicate (Int.toNat bh.d3) 92).length ≤ 10000) = .p True, Item.p (0 ≤ bh.d3 ∧ bh.d3 ≤ 1000) = .p True, Item.p ((List.replicate (Int.toNat ah.d3) 92).length + ([(uOfI us dr.d3).toNat] : List Nat).length ≤ 10000) = .p True, Item.p (0 ≤ uOfI us dr.d3 ∧ uOfI us dr.d3 ≤ 100000) = .p True, Item.p (0 ≤ Int.fdiv dr.d3 128 ∧ Int.fdiv dr.d3 128 < 1000000 ∧ us[(Int.fdiv dr.d3 128).toNat]? = some (.int (uOfI us dr.d3) (tokV (nthV us (Int.fdiv dr.d3 128).toNat)))) = .p True, Item.p (0 ≤ ah.d3 ∧ ah.d3 ≤ 1000) = .p True, Item.p (((List.replicate (Int.toNat ah.d2) 92 ++ [(uOfI us dr.d2).toNat]) ++ List.replicate (Int.toNat bh.d2) 92).length + ([40 + (Int.toNat sd.d2)] : List Nat).length ≤ 10000) = .p True, Item.p (sd.d2 = 0 ∨ sd.d2 = 1) = .p True, Item.p ((List.replicate (Int.toNat ah.d2) 92 ++ [(uOfI us dr.d2).toNat]).length + (List.replicate (Int.toNat bh.d2) 92).length ≤ 10000) = .p True, Item.p (0 ≤ bh.d2 ∧ bh.d2 ≤ 1000) = .p True, Item.p ((List.replicate (Int.toNat ah.d2) 92).length + ([(uOfI us dr.d2).toNat] : List Nat).length ≤ 10000) = .p True, Item.p (0 ≤ uOfI us dr.d2 ∧ uOfI us dr.d2 ≤ 100000) = .p True, Item.p (0 ≤ Int.fdiv dr.d2 128 ∧ Int.fdiv dr.d2 128 < 1000000 ∧ us[(Int.fdiv dr.d2 128).toNat]? = some (.int (uOfI us dr.d2) (tokV (nthV us (Int.fdiv dr.d2 128).toNat)))) = .p True, Item.p (0 ≤ ah.d2 ∧ ah.d2 ≤ 1000) = .p True, Item.p (((List.replicate (Int.toNat ah.d1) 92 ++ [(uOfI us dr.d1).toNat]) ++ List.replicate (Int.toNat bh.d1) 92).length + ([40 + (Int.toNat sd.d1)] : List Nat).length ≤ 10000) = .p True, Item.p (sd.d1 = 0 ∨ sd.d1 = 1) = .p True, Item.p ((List.replicate (Int.toNat ah.d1) 92 ++ [(uOfI us dr.d1).toNat]).length + (List.replicate (Int.toNat bh.d1) 92).length ≤ 10000) = .p True, Item.p (0 ≤ bh.d1 ∧ bh.d1 ≤ 1000) = .p True, Item.p ((List.replicate (Int.toNat ah.d1) 92).length + ([(uOfI us dr.d1).toNat] : List Nat).length ≤ 10000) = .p True, Item.p (0 ≤ uOfI us dr.d1 ∧ uOfI us dr.d1 ≤ 100000) = .p True, Item.p (0 ≤ Int.fdiv dr.d1 128 ∧ Int.fdiv dr.d1 128 < 1000000 ∧ us[(Int.fdiv dr.d1 128).toNat]? = some (.int (uOfI us dr.d1) (tokV (nthV us (Int.fdiv dr.d1 128).toNat)))) = .p True, Item.p (0 ≤ ah.d1 ∧ ah.d1 ≤ 1000) = .p True, Item.p (((List.replicate (Int.toNat ah.d0) 92 ++ [(uOfI us dr.d0).toNat]) ++ List.replicate (Int.toNat bh.d0) 92).length + ([40 + (Int.toNat sd.d0)] : List Nat).length ≤ 10000) = .p True, Item.p (sd.d0 = 0 ∨ sd.d0 = 1) = .p True, Item.p ((List.replicate (Int.toNat ah.d0) 92 ++ [(uOfI us dr.d0).toNat]).length + (List.replicate (Int.toNat bh.d0) 92).length ≤ 10000) = .p True, Item.p (0 ≤ bh.d0 ∧ bh.d0 ≤ 1000) = .p True, Item.p ((List.replicate (Int.toNat ah.d0) 92).length + ([(uOfI us dr.d0).toNat] : List Nat).length ≤ 10000) = .p True, Item.p (0 ≤ uOfI us dr.d0 ∧ uOfI us dr.d0 ≤ 100000) = .p True, Item.p (0 ≤ Int.fdiv dr.d0 128 ∧ Int.fdiv dr.d0 128 < 1000000 ∧ us[(Int.fdiv dr.d0 128).toNat]? = some (.int (uOfI us dr.d0) (tokV (nthV us (Int.fdiv dr.d0 128).toNat)))) = .p True, Item.p (0 ≤ ah.d0 ∧ ah.d0 ≤ 1000) = .p True]
theorem segTx (sup : List Nat) (h : sup.length = 42) : okQ (true :: true :: true :: List.replicate 10 true) (runF w b b2 (logTx b2) (cmS eTx it acc ns fr (txCells a.cU a.cS a.cD a.cB a.cA)) p (blL k) (csTx (fP w b b2) it acc ns a us m sd dr bh ah) tk sup)
    (.fin (.ok .next)) ((it, rgI 4 0) :: (acc, lstO [.str ⟨⟨unitT us sd.d0 dr.d0 bh.d0 ah.d0⟩⟩ (getN sup 8), .str ⟨⟨unitT us sd.d1 dr.d1 bh.d1 ah.d1⟩⟩ (getN sup 18), .str ⟨⟨unitT us sd.d2 dr.d2 bh.d2 ah.d2⟩⟩ (getN sup 28), .str ⟨⟨unitT us sd.d3 dr.d3 bh.d3 ah.d3⟩⟩ (getN sup 38)] 4) :: (ns, nsX (fP w b b2) ⟨⟨[107]⟩⟩ (some (tk + 1, .int 3 (getN sup 29)))) :: tailTx a us m sd dr bh ah) (psTx us sd dr bh ah) := by
  obtain ⟨fS, rfl⟩ := sup_ex h
  cases b <;> cases b2 <;> (unfold okQ; kernel_rfl)
end
structure TxY where
  (it acc ns fr : Nat) (k : Stk) (a : Adr) (us : List Value) (m : Nat) (sd dr bh ah : I4)
noncomputable def txOf (iU iS iD iB iA jU jS jD jB jA : Nat) (c : Code) (bl : List (Code × Pos)) (cs : Cells) (_ : Nat) : TxY := ⟨(refS c).1, (refS c).2.1, (refS c).2.2.1, (refS c).2.2.2, stkL bl, ⟨adAt cs iU, adAt cs iS, adAt cs iD, adAt cs iB, adAt cs iA, adAt cs jU, adAt cs jS, adAt cs jD, adAt cs jB, adAt cs jA⟩, seqV (objAt cs jU), seqN (objAt cs jU), i4At cs jS, i4At cs jD, i4At cs jB, i4At cs jA⟩
noncomputable def FTx (P : Params) (ii ia ins iU iS iD iB iA jU jS jD jB jA : Nat) : ConF := fun c bl cs tk ns => (fun (y : TxY) => reqF (∀ Q ∈ psTx y.us y.sd y.dr y.bh y.ah, Q) (conOf (cmS eTx y.it y.acc y.ns y.fr (txCells y.a.cU y.a.cS y.a.cD y.a.cB y.a.cA)) (fun _ => blL y.k) [(ii, y.it, rgI 0 4), (ia, y.acc, lstO [] 0), (ins, y.ns, nsX P ⟨⟨[107]⟩⟩ none), (iU, y.a.cU, celO y.a.lU), (iS, y.a.cS, celO y.a.lS), (iD, y.a.cD, celO y.a.lD), (iB, y.a.cB, celO y.a.lB), (iA, y.a.cA, celO y.a.lA), (jU, y.a.lU, lstO y.us y.m), (jS, y.a.lS, y.sd.O), (jD, y.a.lD, y.dr.O), (jB, y.a.lB, y.bh.O), (jA, y.a.lA, y.ah.O)] fun ns => ⟨.ok .next, [rgI 4 0, lstO [.str ⟨⟨unitT y.us y.sd.d0 y.dr.d0 y.bh.d0 y.ah.d0⟩⟩ (getN ns 0), .str ⟨⟨unitT y.us y.sd.d1 y.dr.d1 y.bh.d1 y.ah.d1⟩⟩ (getN ns 1), .str ⟨⟨unitT y.us y.sd.d2 y.dr.d2 y.bh.d2 y.ah.d2⟩⟩ (getN ns 2), .str ⟨⟨unitT y.us y.sd.d3 y.dr.d3 y.bh.d3 y.ah.d3⟩⟩ (getN ns 3)] 4, nsX P ⟨⟨[107]⟩⟩ (some (getN ns 4, .int 3 (getN ns 5))), celO y.a.lU, celO y.a.lS, celO y.a.lD, celO y.a.lB, celO y.a.lA, lstO y.us y.m, y.sd.O, y.dr.O, y.bh.O, y.ah.O], [], getN ns 6⟩)) (txOf iU iS iD iB iA jU jS jD jB jA c bl cs tk) c bl cs tk ns
theorem FTx_sound {w : World} {b b2 : Bool} (ii ia ins iU iS iD iB iA jU jS jD jB jA : Nat) (hi : [ii, ia, ins, iU, iS, iD, iB, iA, jU, jS, jD, jB, jA].Nodup) : ConSound (MM w b b2) (KT' w b b2) 7 (FTx (fP w b b2) ii ia ins iU iS iD iB iA jU jS jD jB jA) := by
  refine ConSound.byC (txOf iU iS iD iB iA jU jS jD jB jA) (F := fun y => reqF (∀ Q ∈ psTx y.us y.sd y.dr y.bh y.ah, Q) (conOf (cmS eTx y.it y.acc y.ns y.fr (txCells y.a.cU y.a.cS y.a.cD y.a.cB y.a.cA)) (fun _ => blL y.k) [(ii, y.it, rgI 0 4), (ia, y.acc, lstO [] 0), (ins, y.ns, nsX (fP w b b2) ⟨⟨[107]⟩⟩ none), (iU, y.a.cU, celO y.a.lU), (iS, y.a.cS, celO y.a.lS), (iD, y.a.cD, celO y.a.lD), (iB, y.a.cB, celO y.a.lB), (iA, y.a.cA, celO y.a.lA), (jU, y.a.lU, lstO y.us y.m), (jS, y.a.lS, y.sd.O), (jD, y.a.lD, y.dr.O), (jB, y.a.lB, y.bh.O), (jA, y.a.lA, y.ah.O)] fun ns => ⟨.ok .next, [rgI 4 0, lstO [.str ⟨⟨unitT y.us y.sd.d0 y.dr.d0 y.bh.d0 y.ah.d0⟩⟩ (getN ns 0), .str ⟨⟨unitT y.us y.sd.d1 y.dr.d1 y.bh.d1 y.ah.d1⟩⟩ (getN ns 1), .str ⟨⟨unitT y.us y.sd.d2 y.dr.d2 y.bh.d2 y.ah.d2⟩⟩ (getN ns 2), .str ⟨⟨unitT y.us y.sd.d3 y.dr.d3 y.bh.d3 y.ah.d3⟩⟩ (getN ns 3)] 4, nsX (fP w b b2) ⟨⟨[107]⟩⟩ (some (getN ns 4, .int 3 (getN ns 5))), celO y.a.lU, celO y.a.lS, celO y.a.lD, celO y.a.lB, celO y.a.lA, lstO y.us y.m, y.sd.O, y.dr.O, y.bh.O, y.ah.O], [], getN ns 6⟩)) fun y => reqF_sound fun hq => ?_
  refine conOf_sound hi fun s tk p pp I => ?_
  refine segQ (MM_den w b b2) rfl rfl _ (fun sup hs => segTx w b b2 y.k p y.it y.acc y.ns y.fr y.a y.us y.m y.sd y.dr y.bh y.ah tk sup hs) (fun sup hs => hq) (by
    cases b2 <;> exact ⟨mulSF_sound _ _ _, getLF_sound _ _ _ _, chrF_sound _ _ _, addA_sound _ _ _, mulSF_sound _ _ _, addA_sound _ _ _, sgetF_sound _ _ _, addA_sound _ _ _, mulSF_sound _ _ _, getLF_sound _ _ _ _, chrF_sound _ _ _, addA_sound _ _ _, mulSF_sound _ _ _, addA_sound _ _ _, sgetF_sound _ _ _, addA_sound _ _ _, mulSF_sound _ _ _, getLF_sound _ _ _ _, chrF_sound _ _ _, addA_sound _ _ _, mulSF_sound _ _ _, addA_sound _ _ _, sgetF_sound _ _ _, addA_sound _ _ _, mulSF_sound _ _ _, getLF_sound _ _ _ _, chrF_sound _ _ _, addA_sound _ _ _, mulSF_sound _ _ _, addA_sound _ _ _, sgetF_sound _ _ _, addA_sound _ _ _, trivial⟩) I fun sup s' tk' hs I' => ?_
  exact ⟨[getN sup 8, getN sup 18, getN sup 28, getN sup 38, tk + 1, getN sup 29, tk'], rfl, rfl, rfl, I'⟩
end Mine

/-! part LD1 -/
namespace Mine
open PySem PySem.W PySem.W.X PySem.Spec PySem.Calls PyProof.Rows

/-! the slice of a list -/
noncomputable def slV (xs : List Value) (lo hi st : Int) : List Value := (slicePick ⟨xs⟩ (some lo) (some hi) (some st)).toList
noncomputable def slcO (k : Int) (t0 t1 t2 : Nat) : Obj := ⟨.type "slice", none, .fields ⟨[.int k t0, .int 63 t1, .int 4 t2]⟩, ⟨[]⟩⟩
noncomputable def slF (ci cj : Nat) : ConF := fun c _ cs tk ns => match c, getC cs ci, getC cs cj with
  | .builtin id ⟨[.ref a, .ref e], []⟩, some (y, o), some (z, os) => some ⟨.ok (.ret (.ref (getN ns 0))), [], [(getN ns 0, lstO (slV (seqV o) (intI (nthV (fldsOf os) 0)) 63 4) 0)], tk,
     [(.a (PySem.code id), .a (PySem.code "list.__getitem__")), (.a a, .a y), (.a e, .a z), (.o o, .o (lstO (seqV o) (seqN o))), (.o os, .o (slcO (intI (nthV (fldsOf os) 0)) (tokV (nthV (fldsOf os) 0)) (tokV (nthV (fldsOf os) 1)) (tokV (nthV (fldsOf os) 2)))), (.p ((seqV o).length ≤ sizeLine), .p True)]⟩
  | _, _, _ => none
theorem slF_sound (pg : Program) (w : World) (kt : KT) (ci cj : Nat) : ConSound (model pg w) kt 1 (slF ci cj) := by
  intro c bl p cs tk gs s₀ T s I H
  obtain ⟨po, hF, chk⟩ := H [0] rfl
  unfold slF at hF
  split at hF
  · rename_i id a e y o z os hg hh
    cases hF
    have e1 : id = "list.__getitem__" := PySem.code_inj _ _ (Item.a.inj (chk _ (.head _)))
    have e2 : a = y := Item.a.inj (chk _ (.tail _ (.head _)))
    have e2' : e = z := Item.a.inj (chk _ (.tail _ (.tail _ (.head _))))
    have e3 : o = lstO (seqV o) (seqN o) := Item.o.inj (chk _ (.tail _ (.tail _ (.tail _ (.head _)))))
    have e4 : os = slcO (intI (nthV (fldsOf os) 0)) (tokV (nthV (fldsOf os) 0)) (tokV (nthV (fldsOf os) 1)) (tokV (nthV (fldsOf os) 2)) := Item.o.inj (chk _ (.tail _ (.tail _ (.tail _ (.tail _ (.head _))))))
    have e5 : (seqV o).length ≤ sizeLine := by rw [Item.p.inj (chk _ (.tail _ (.tail _ (.tail _ (.tail _ (.tail _ (.head _)))))))]; trivial
    subst e1 e2 e2'
    have ho := I.cell _ (getC_mem hg)
    have hos := I.cell _ (getC_mem hh)
    have hd : o.data = .seq ⟨seqV o⟩ (seqN o) := congrArg Obj.data e3
    have hdo : os.data = .fields ⟨[.int (intI (nthV (fldsOf os) 0)) (tokV (nthV (fldsOf os) 0)), .int 63 (tokV (nthV (fldsOf os) 1)), .int 4 (tokV (nthV (fldsOf os) 2))]⟩ := congrArg Obj.data e4
    have hTs : s.TypeIs (.ref e) "slice" := ⟨os, hos, by rw [e4]; rfl⟩
    have fin : ∃ ns po, ns.length = 1 ∧ slF ci cj (.builtin "list.__getitem__" ⟨[.ref a, .ref e], []⟩) bl cs tk ns = some po ∧ (.ok (.ret (.ref s.heap.objs.size)) : Result) = po.res ∧
        Inv kt s₀ T { s with heap := s.heap.push { cls := .type "list", data := .seq (slicePick ⟨seqV o⟩ (some (intI (nthV (fldsOf os) 0))) (some 63) (some 4)) } } (applyPost cs po) po.tk gs := by
      refine ⟨[s.heap.objs.size], _, rfl, by unfold slF; rw [hg, hh], rfl, ?_⟩
      exact I.push (o := lstO (slV (seqV o) (intI (nthV (fldsOf os) 0)) 63 4) 0) rfl
    refine wpCode_any (by decide +kernel) F.entry_list_getitem fun A hA => ?_
    show wpAny _ _ (Builtin.List.listSubscript? (.ref e) >>= _) _ _ s
    refine wpAny_bind ?_
    unfold Builtin.List.listSubscript?
    refine wpAny_bind (wpAny_specialOf hTs slice_no_index ?_)
    simp only [Option.isNone_none, if_true]
    refine wpAny_pure ?_
    show wpAny _ _ (typeOf (.ref e) >>= _) _ _ s
    refine wpAny_bind (wpAny_typeOf hTs ?_)
    rw [if_neg (by decide)]
    rw [listSliceParts_eq]
    have hstep : ¬ ((rawPart (some (4 : Int)) == rawInt 0) = true) := by decide
    refine wpAny_bind (wpAny_bind (wpAny_field hos hdo (x := .int 4 (tokV (nthV (fldsOf os) 2))) rfl (wpAny_bind (wpAny_listPart (.int 4 _) ?_))))
    rw [if_neg hstep]
    refine wpAny_bind (wpAny_field hos hdo (x := .int (intI (nthV (fldsOf os) 0)) (tokV (nthV (fldsOf os) 0))) rfl (wpAny_bind (wpAny_listPart (.int _ _) ?_)))
    refine wpAny_bind (wpAny_field hos hdo (x := .int 63 (tokV (nthV (fldsOf os) 1))) rfl (wpAny_bind (wpAny_listPart (.int 63 _) (wpAny_pure ?_))))
    refine wpAny_bind (m := Builtin.List.listItems (.ref a)) ?_
    unfold Builtin.List.listItems
    refine wpAny_bind (wpAny_seqItems ho hd (wpAny_pure ?_))
    refine wpAny_bind (wpAny_of_eq (sliceIndices_raw (some (intI (nthV (fldsOf os) 0))) (some 63) (some 4) (seqV o).length (by decide)) ?_)
    refine wpAny_bind (wpAny_newObj_type ?_ (Nat.le_trans (slicePick_size_le ⟨seqV o⟩ _ _ _) e5))
    first
      | exact wpAny_bind (wpAny_pure (wpAny_pure ⟨_, rfl, fin⟩))
      | exact wpAny_pure ⟨_, rfl, fin⟩
  · cases hF

/-! the sum of a list of small ints -/
theorem wpCode_anyC {pg : Program} {w : World} {id : String} {args : Args} {B : Builtin} {bl : List (Code × Pos)} {R : Result → Shared → Prop} {p : Pos} {s : Shared}
    (hq : plainId id = true) (entry : entryFor table id = some B)
    (h : ∀ A : Around, A.handled = none → wpAny (model pg w) A.in1 (B args) (fun fin s' => match fin with | .done f => R (.ok f) s' | .again c' => c'.quiet = true ∧ codeAny (model pg w) A c' R s') (fun e s' => R (.error e) s') s) : wpCode (model pg w) (cx (.builtin id args) bl) R p s :=
  (codeAny_builtin (A := { depth := frameCount bl, units := unitsOf bl }) entry (by
    rw [Around.under_plainId hq args]
    exact h _ rfl)) (cx (.builtin id args) bl) p rfl ⟨rfl, Nat.le_refl _, fun _ h => (nomatch h), fun _ h => (nomatch h), Nat.le_refl _⟩
noncomputable def SumP (zs : List Value) : Prop := zs.length ≤ 100 ∧ ∀ v ∈ zs, ∃ (i : Nat) (t : Nat), v = .int (i : Nat) t ∧ i < 3456
theorem sumP_items : ∀ {zs : List Value}, (∀ v ∈ zs, ∃ (i : Nat) (t : Nat), v = .int (i : Nat) t ∧ i < 3456) → ∃ l : List (Nat × Nat), zs = l.map (fun z => .int (z.1 : Nat) z.2) ∧ ∀ z ∈ l, z.1 < 3456
  | [], _ => ⟨[], rfl, fun _ h => nomatch h⟩
  | v :: r, h => by
    obtain ⟨i, t, rfl, hi⟩ := h v (.head _)
    obtain ⟨l, rfl, hl⟩ := sumP_items (zs := r) fun v hv => h v (.tail _ hv)
    refine ⟨(i, t) :: l, rfl, fun z hz => ?_⟩
    rcases List.mem_cons.mp hz with rfl | q
    · exact hi
    · exact hl z q
theorem preSum_small {val : Nat → Int} {n : Nat} (h : ∀ i, i < n → ∃ k : Nat, val i = (k : Nat) ∧ k < 3456) : ∀ j, j ≤ n → ∃ k : Nat, preSum val j = (k : Nat) ∧ k ≤ 3456 * j
  | 0, _ => ⟨0, rfl, Nat.zero_le _⟩
  | j + 1, hj => by
    obtain ⟨k, e, hk⟩ := preSum_small h j (by omega)
    obtain ⟨m, e', hm⟩ := h j (by omega)
    refine ⟨k + m, ?_, by omega⟩
    show preSum val j + val j = _
    rw [e, e']; omega
noncomputable def sumF (ci : Nat) : ConF := fun c _ cs _ ns => match c, getC cs ci with
  | .builtin id ⟨[.ref a], []⟩, some (y, o) => some ⟨.ok (.ret (.int ((getN ns 0 : Nat) : Int) (getN ns 1))), [], [], getN ns 2,
     [(.a (PySem.code id), .a (PySem.code "sum")), (.a a, .a y), (.o o, .o (lstO (seqV o) (seqN o))), (.p (SumP (seqV o)), .p True)]⟩
  | _, _ => none
theorem Inv.kept {kt : KT} {s₀ s : Shared} {T : List Addr} {cs : Cells} {tk : Nat} {gs : List (Nat × GenState)} (I : Inv kt s₀ T s cs tk gs) {h' : Heap} (hk : ∀ b o, s.heap.get? b = some o → h'.get? b = some o) (t : Nat) : Inv kt s₀ T { s with heap := h', toks := t } cs t gs :=
  ⟨fun a o h => hk _ _ (I.st a o h), fun x hx => hk _ _ (I.cell x hx), I.nodup, I.apart, I.mine, rfl, fun b o h n => hk _ _ (I.keep b o h n), fun b h => by
    have := I.size b h
    cases e : s.heap.get? b with
    | none => exact absurd e this
    | some o => exact (by show h'.get? b ≠ none; rw [hk b o e]; exact fun z => nomatch z), I.gens, I.gsz, I.gs, I.bare, I.os⟩
theorem sumF_sound (pg : Program) (w : World) (kt : KT) (ci : Nat) : ConSound (model pg w) kt 3 (sumF ci) := by
  intro c bl p cs tk gs s₀ T s I H
  obtain ⟨po, hF, chk⟩ := H [0, 0, 0] rfl
  unfold sumF at hF
  split at hF
  · rename_i id a y o hg
    cases hF
    have e1 : id = "sum" := PySem.code_inj _ _ (Item.a.inj (chk _ (.head _)))
    have e2 : a = y := Item.a.inj (chk _ (.tail _ (.head _)))
    have e3 : o = lstO (seqV o) (seqN o) := Item.o.inj (chk _ (.tail _ (.tail _ (.head _))))
    have e4 : SumP (seqV o) := by rw [Item.p.inj (chk _ (.tail _ (.tail _ (.tail _ (.head _)))))]; trivial
    subst e1 e2
    obtain ⟨h1, h2⟩ := e4
    obtain ⟨l, hl, hs⟩ := sumP_items h2
    have ho := I.cell _ (getC_mem hg)
    let xs : Array (Int × Tok) := ⟨l.map fun z => ((z.1 : Nat), z.2)⟩
    have hx : (⟨seqV o⟩ : Array Value) = intItems xs := by
      apply Array.ext'
      rw [hl]
      simp [intItems, xs]
    have hL : s.heap.IsList a (intItems xs) := ⟨o, ho, by rw [e3]; rfl, seqN o, by rw [← hx]; exact congrArg Obj.data e3⟩
    have hlen : xs.size = l.length := by simp [xs]
    have hval : ∀ i, i < xs.size → ∃ k : Nat, numAt xs i = (k : Nat) ∧ k < 3456 := fun i hi => by
      rw [hlen] at hi
      refine ⟨l[i].1, ?_, hs _ (List.getElem_mem hi)⟩
      simp [numAt, xs, hi]
    have hn : xs.size ≤ 100 := by
      have : (seqV o).length = l.length := by rw [hl]; simp
      omega
    refine wpCode_anyC (by decide +kernel) F.entry_sum fun A hA => ?_
    have hA1 : A.in1.handled = none := hA
    unfold Builtin.«sum»
    simp only [List.length_cons, List.length_nil]
    rw [if_neg (by decide)]
    refine wpAny_bind (wpAny_of_eq (show Builtin.Builtins.bindParams "sum" ["start"] 0 { } = pure [none] from rfl) ?_)
    refine wpAny_bind (iter_intList hL fun s₂ e st hfp hlI => ?_)
    subst e
    refine wpAny_bind (wpAny_mkInt ?_)
    refine wpAny_bind (wpAny_pure ?_)
    simp only [List.forIn_cons, List.forIn_nil]
    refine wpAny_bind (wpAny_bind (wpAny_bind (wpAny_isInstance (T := "int") (b := false) (typeIs_int _ _ _) PySem.sub_int_str ?_)))
    simp only [Bool.false_eq_true, if_false]
    refine wpAny_pure (wpAny_bind (wpAny_bind (wpAny_isInstance (T := "int") (b := false) (typeIs_int _ _ _) PySem.sub_int_bytes ?_)))
    simp only [Bool.false_eq_true, if_false]
    refine wpAny_pure (wpAny_bind (wpAny_bind (wpAny_isInstance (T := "int") (b := false) (typeIs_int _ _ _) PySem.sub_int_bytearray ?_)))
    simp only [Bool.false_eq_true, if_false]
    refine wpAny_pure (wpAny_pure ?_)
    refine wpAny_bind (wpAny_newObj_type ?_)
    have hfp' : ∀ b ∈ [s.heap.objs.size, a], b < (s.heap.push { cls := .type "list_iterator", data := .fields #[.ref a, .int 0 0] }).objs.size := hfp
    refine wpAny_pure ⟨plainId_quiet F.plain_sum_loop _, codeAny_sum_loop (Walks.list (A := A.in1) hA1 _ a hlI (intItems xs)) (numAt xs) (fun _ _ => intItems_at) (fun j hj => ?_) _ (fun hm => Nat.lt_irrefl _ (hfp' _ hm)) _ 0 _ _ 0 rfl (Nat.zero_le _)
      ((Walks.list (prog := pg) (w := w) (A := A.in1) hA1 _ a hlI (intItems xs)).frame _ _ _ st fun b _ o e => Heap.get?_push_of_some _ e) (Heap.get?_push_size _ rfl) fun h' tk' t' hk => ?_⟩
    · have hj' : j < xs.size := by simpa [intItems] using hj
      obtain ⟨k, e, hk⟩ := hval j hj'
      obtain ⟨k', e', hk'⟩ := preSum_small hval (j + 1) (by omega)
      rw [e, e']
      have : 3456 * (j + 1) ≤ 3456 * 100 := Nat.mul_le_mul_left _ (by omega)
      unfold InLong
      omega
    · obtain ⟨k', e', hk'⟩ := preSum_small hval xs.size (Nat.le_refl _)
      have hsz : (intItems xs).size = xs.size := by simp [intItems]
      refine ⟨[k', t', tk'], _, rfl, by unfold sumF; rw [hg], ?_, ?_⟩
      · show (Except.ok (.ret (.int (preSum (numAt xs) (intItems xs).size) t')) : Result) = _
        rw [hsz, e']; rfl
      · show Inv kt s₀ T _ (cs ++ []) tk' gs
        rw [List.append_nil]
        refine I.kept (h' := h') (fun b ob hb => ?_) tk'
        have hlt := Heap.lt_size hb
        have hb1 : (s.heap.push { cls := .type "list_iterator", data := .fields #[.ref a, .int 0 0] }).get? b = some ob := Heap.get?_push_of_some _ hb
        refine hk b ob (fun hm => ?_) (fun hm => ?_) (Heap.get?_push_of_some _ hb1)
        · rcases List.mem_cons.mp hm with q | q
          · rw [q] at hlt; exact Nat.lt_irrefl _ hlt
          · cases q
        · have := Heap.lt_size hb1
          rw [hm] at this; exact Nat.lt_irrefl _ this
  · cases hF
end Mine

/-! part LD2 -/
namespace Mine
open PySem PySem.W PySem.W.X PySem.Spec PySem.Calls PyProof.Rows

/-! [x % 3456 for x in …] over any list of ints -/
noncomputable def eDr : Expr := asgE (nthS lawB 1)
noncomputable def eltOf : Expr → Expr
  | .ListComp e _ _ _ => e
  | e => e
noncomputable def lftE : Expr → Expr
  | .BinOp a _ _ _ => a
  | e => e
noncomputable def rgtE : Expr → Expr
  | .BinOp _ _ b _ => b
  | e => e
noncomputable def eIn : Expr := callA (rgtE (lftE (eltOf eDr))) 0
noncomputable def cLp (e : Expr) (it acc ns fr : Nat) (cells : List (Str × Nat)) : Code := .compLoop e 0 (.ref it) (.ref acc) (envC e ns fr cells)
noncomputable def entX (P : Params) : Option (Nat × Value) → List DictEntry
  | none => []
  | some (kt, v) => [ent P ⟨⟨[120]⟩⟩ kt v]
noncomputable def cntX : Option (Nat × Value) → Nat
  | none => 0
  | some _ => 1
noncomputable def nsXo (P : Params) (z : Option (Nat × Value)) : Obj := ⟨.type "dict", none, .dict ⟨entX P z⟩ (cntX z), ⟨[]⟩⟩
noncomputable def csIn (P : Params) (it acc ns l : Nat) (j : Nat) (vs : List Value) (n : Nat) (z : Option (Nat × Value)) (xs : List Value) (m : Nat) : Cells := [(it, lsI (.ref l) j), (acc, lstO vs n), (ns, nsXo P z), (l, lstO xs m)]
noncomputable def logInT (NX AP : ConF) : List Ev := [.dy 0, .go, .dy 0, .con 0 NX, .dy 2, .dy 2, .dy 2, .go, .go, .go, .dy 1, .con 0 AP, .stop]
noncomputable def logInX (NX : ConF) : List Ev := [.dy 0, .go, .dy 0, .con 2 NX, .dy 5]
section
variable (w : World) (b b2 : Bool) (k : Stk) (q : Cq) (p : Pos) (it acc ns fr l : Nat) (x : Int) (t j tk : Nat) (vs : List Value) (n : Nat) (xs : List Value) (m : Nat)
theorem segInF (sup : List Nat) (h : sup.length = 0) : okQ m4 (runF w b b2 (logInT (nextLF 0 3 j (.int x t)) (appF 1)) (cLp eIn it acc ns fr []) p (blP true k q) (csIn (fP w b b2) it acc ns l j vs n none xs m) tk sup)
    (.again (cLp eIn it acc ns fr [])) (csIn (fP w b b2) it acc ns l (j + 1) (vs ++ [.int (Int.fmod x 3456) (tk + 2)]) (n + 1) (some (tk, .int x t)) xs m) [Item.p (vs.length ≤ sizeLine) = .p True, Item.p (xs[j]? = some (.int x t)) = .p True] := by
  match sup, h with
  | [], _ => cases b <;> (unfold okQ; kernel_rfl)
theorem segInL (kt : Nat) (v : Value) (sup : List Nat) (h : sup.length = 0) : okQ m4 (runF w b b2 (logInT (nextLF 0 3 j (.int x t)) (appF 1)) (cLp eIn it acc ns fr []) p (blP true k q) (csIn (fP w b b2) it acc ns l j vs n (some (kt, v)) xs m) tk sup)
    (.again (cLp eIn it acc ns fr [])) (csIn (fP w b b2) it acc ns l (j + 1) (vs ++ [.int (Int.fmod x 3456) (tk + 2)]) (n + 1) (some (kt, .int x t)) xs m) [Item.p (vs.length ≤ sizeLine) = .p True, Item.p (xs[j]? = some (.int x t)) = .p True] := by
  match sup, h with
  | [], _ => cases b <;> (unfold okQ; kernel_rfl)
theorem segInXF (sup : List Nat) (h : sup.length = 2) : okQ m4 (runF w b b2 (logInX (nextLE 0 3 j)) (cLp eIn it acc ns fr []) p (blP true k q) (csIn (fP w b b2) it acc ns l j vs n none xs m) tk sup)
    (.fin (.ok .next)) [(it, lsI .none j), (acc, lstO vs n), (ns, nsXo (fP w b b2) none), (l, lstO xs m)] [Item.p (xs[j]? = none) = .p True] := by
  obtain ⟨fS, rfl⟩ := sup_ex h
  cases b <;> (unfold okQ; kernel_rfl)
theorem segInXL (kt : Nat) (v : Value) (sup : List Nat) (h : sup.length = 2) : okQ m4 (runF w b b2 (logInX (nextLE 0 3 j)) (cLp eIn it acc ns fr []) p (blP true k q) (csIn (fP w b b2) it acc ns l j vs n (some (kt, v)) xs m) tk sup)
    (.fin (.ok .next)) [(it, lsI .none j), (acc, lstO vs n), (ns, nsXo (fP w b b2) (some (kt, v))), (l, lstO xs m)] [Item.p (xs[j]? = none) = .p True] := by
  obtain ⟨fS, rfl⟩ := sup_ex h
  cases b <;> (unfold okQ; kernel_rfl)
end
noncomputable def ivI (z : Int × Nat) : Value := .int z.1 z.2
noncomputable def IntsP (xs : List Value) : Prop := xs.length ≤ 100 ∧ ∀ v ∈ xs, ∃ (i : Int) (t : Nat), v = .int i t
theorem ints_items : ∀ {xs : List Value}, (∀ v ∈ xs, ∃ (i : Int) (t : Nat), v = .int i t) → ∃ l : List (Int × Nat), xs = l.map ivI
  | [], _ => ⟨[], rfl⟩
  | v :: r, h => by
    obtain ⟨i, t, rfl⟩ := h v (.head _)
    obtain ⟨l, rfl⟩ := ints_items (xs := r) fun v hv => h v (.tail _ hv)
    exact ⟨(i, t) :: l, rfl⟩
theorem getI_pre {xs : List Value} {pre l : List (Int × Nat)} {z : Int × Nat} (h : xs = (pre ++ z :: l).map ivI) : xs[pre.length]? = some (ivI z) := by
  rw [h]; simp
theorem getI_end {xs : List Value} {pre : List (Int × Nat)} (h : xs = pre.map ivI) : xs[pre.length]? = none := by
  rw [h]; simp
theorem fmod_nat (x : Int) : ∃ k : Nat, Int.fmod x 3456 = (k : Nat) ∧ k < 3456 := by
  have h1 : 0 ≤ Int.fmod x 3456 := Int.fmod_nonneg_of_pos x (by decide)
  have h2 : Int.fmod x 3456 < 3456 := Int.fmod_lt_of_pos x (by decide)
  exact ⟨(Int.fmod x 3456).toNat, by omega, by omega⟩
section
variable {w : World} {b b2 : Bool} {s₀ : Shared} {T : List Addr} {k : Stk} {q : Cq} {it acc ns fr l : Nat} {xs : List Value} {m : Nat}
noncomputable def InR (w : World) (b b2 : Bool) (s₀ : Shared) (T : List Addr) (it acc ns l : Nat) (vs : List Value) (xs : List Value) (m len : Nat) (z0 : Bool) (r : Result) (s' : Shared) : Prop :=
  ∃ (zs : List (Nat × Nat)) (n' : Nat) (z : Option (Nat × Int × Nat)) (j' tk' : Nat), r = .ok .next ∧ (∀ y ∈ zs, y.1 < 3456) ∧ zs.length = len ∧ z.isNone = (z0 && len == 0) ∧ Inv (KT' w b b2) s₀ T s' [(it, lsI .none j'), (acc, lstO (vs ++ zs.map iv) n'), (ns, nsXo (fP w b b2) (z.map fun y => (y.1, .int y.2.1 y.2.2))), (l, lstO xs m)] tk'
theorem loopIn : ∀ (sd pre : List (Int × Nat)) (vs : List Value) (n : Nat) (z : Option (Nat × Int × Nat)) (tk : Nat) (s : Shared) (p : Pos), xs = (pre ++ sd).map ivI → vs.length + sd.length ≤ 9000 →
    Inv (KT' w b b2) s₀ T s (csIn (fP w b b2) it acc ns l pre.length vs n (z.map fun y => (y.1, .int y.2.1 y.2.2)) xs m) tk →
    wpCode (MM w b b2) (cx (cLp eIn it acc ns fr []) (blP true k q)) (InR w b b2 s₀ T it acc ns l vs xs m sd.length z.isNone) p s
  | [], pre, vs, n, z, tk, s, p, hx, hl, I => by
    rw [List.append_nil] at hx
    cases z with
    | none =>
      refine segQ (MM_den w b b2) rfl rfl _ (fun sup hs => segInXF w b b2 k q p it acc ns fr l pre.length tk vs n xs m sup hs) (fun sup hs => one_p (getI_end hx)) ⟨nextLE_sound _ _ _ _ _ _, trivial⟩ I fun sup s' tk' hs I' => ?_
      exact ⟨[], n, none, _, tk', rfl, fun _ h => (nomatch h), rfl, rfl, by simpa using I'⟩
    | some y =>
      refine segQ (MM_den w b b2) rfl rfl _ (fun sup hs => segInXL w b b2 k q p it acc ns fr l pre.length tk vs n xs m y.1 (.int y.2.1 y.2.2) sup hs) (fun sup hs => one_p (getI_end hx)) ⟨nextLE_sound _ _ _ _ _ _, trivial⟩ I fun sup s' tk' hs I' => ?_
      exact ⟨[], n, some y, _, tk', rfl, fun _ h => (nomatch h), rfl, rfl, by simpa using I'⟩
  | (x, t) :: rest, pre, vs, n, z, tk, s, p, hx, hl, I => by
    have hg := getI_pre hx
    have hx' : xs = ((pre ++ [(x, t)]) ++ rest).map ivI := by rw [hx]; simp
    have hl' : (pre ++ [(x, t)]).length = pre.length + 1 := by simp
    simp only [List.length_cons] at hl
    have hv : vs.length ≤ sizeLine := by rw [sizeLine_is]; omega
    obtain ⟨kk, hk, hk2⟩ := fmod_nat x
    have fin : ∀ (kt tk' : Nat) (s' : Shared), Inv (KT' w b b2) s₀ T s' (csIn (fP w b b2) it acc ns l (pre.length + 1) (vs ++ [.int (Int.fmod x 3456) (tk + 2)]) (n + 1) (some (kt, .int x t)) xs m) tk' → ∀ p', wpCode (MM w b b2) (cx (cLp eIn it acc ns fr []) (blP true k q)) (InR w b b2 s₀ T it acc ns l vs xs m (rest.length + 1) z.isNone) p' s' := by
      intro kt tk' s' I' p'
      refine wpCode_mono ?_ (loopIn rest (pre ++ [(x, t)]) (vs ++ [.int (Int.fmod x 3456) (tk + 2)]) (n + 1) (some (kt, x, t)) tk' s' p' hx' (by simp; omega) (by rw [hl']; exact I'))
      rintro r s'' ⟨zs, n', z', j', tk'', rfl, h1, h2, h3, J⟩
      refine ⟨(kk, tk + 2) :: zs, n', z', j', tk'', rfl, fun y hy => ?_, by simp [h2], by rw [h3]; simp, ?_⟩
      · rcases List.mem_cons.mp hy with rfl | e
        · exact hk2
        · exact h1 y e
      · have e2 : vs ++ ((kk, tk + 2) :: zs).map iv = (vs ++ [.int (Int.fmod x 3456) (tk + 2)]) ++ zs.map iv := by rw [hk]; simp [iv]
        rw [e2]; exact J
    cases z with
    | none => exact segQ (MM_den w b b2) rfl rfl _ (fun sup hs => segInF w b b2 k q p it acc ns fr l x t pre.length tk vs n xs m sup hs) (fun sup hs => all_p2 hv hg) ⟨nextLF_sound _ _ _ _ _ _ _, appF_sound _ _ _ _, trivial⟩ I fun sup s' tk' hs I' => fin _ tk' s' I'
    | some y => exact segQ (MM_den w b b2) rfl rfl _ (fun sup hs => segInL w b b2 k q p it acc ns fr l x t pre.length tk vs n xs m y.1 (.int y.2.1 y.2.2) sup hs) (fun sup hs => all_p2 hv hg) ⟨nextLF_sound _ _ _ _ _ _ _, appF_sound _ _ _ _, trivial⟩ I fun sup s' tk' hs I' => fin _ tk' s' I'
end
/-- a list of small ints out of five numbers -/
noncomputable def decI (len B e B' e' : Nat) : List Value := (zipT B e ((zipT B' e' (List.replicate (min len 100) 0)).map fun z => z.2 % 3456)).map iv
theorem zipT_fst : ∀ (o : List Nat) (B e : Nat), (zipT B e o).map (·.1) = o
  | [], _, _ => rfl
  | c :: l, B, e => by show c :: (zipT B (e / B) l).map _ = _; rw [zipT_fst l]
theorem decI_sumP (len B e B' e' : Nat) : SumP (decI len B e B' e') := by
  constructor
  · unfold decI
    rw [List.length_map, zipT_len, List.length_map, zipT_len, List.length_replicate]
    exact Nat.min_le_right _ _
  · intro v hv
    obtain ⟨z, hz, rfl⟩ := List.mem_map.mp hv
    refine ⟨z.1, z.2, rfl, ?_⟩
    have h : z.1 ∈ (zipT B e ((zipT B' e' (List.replicate (min len 100) 0)).map fun z => z.2 % 3456)).map (·.1) := List.mem_map_of_mem (f := (·.1)) hz
    rw [zipT_fst] at h
    obtain ⟨y, _, e⟩ := List.mem_map.mp h
    rw [← e]
    exact Nat.mod_lt _ (by decide)
theorem decI_any (zs : List (Nat × Nat)) (h : ∀ y ∈ zs, y.1 < 3456) (hl : zs.length ≤ 100) : ∃ len B e B' e', decI len B e B' e' = zs.map iv := by
  obtain ⟨B', e', h1⟩ := enc_any (List.replicate zs.length 0) (zs.map fun z => (0, z.1)) (by
    rw [List.map_map]
    exact List.eq_replicate_iff.mpr ⟨by simp, fun y hy => by obtain ⟨_, _, rfl⟩ := List.mem_map.mp hy; rfl⟩)
  obtain ⟨B, e, h2⟩ := enc_any (zs.map (·.1)) zs rfl
  refine ⟨zs.length, B, e, B', e', ?_⟩
  unfold decI
  rw [Nat.min_eq_left hl, h1, List.map_map]
  have e3 : zs.map ((fun z : Nat × Nat => z.2 % 3456) ∘ fun z => (0, z.1)) = zs.map (·.1) := List.map_congr_left fun y hy => Nat.mod_eq_of_lt (h y hy)
  rw [e3, h2]
structure InY where
  (it acc ns fr l : Nat) (k : Stk) (q : Cq) (xs : List Value) (m : Nat)
noncomputable def inOf (il : Nat) (c : Code) (bl : List (Code × Pos)) (cs : Cells) (_ : Nat) : InY := ⟨(refC c).1, (refC c).2.1, (refC c).2.2.1, (refC c).2.2.2, adAt cs il, stkP bl, cqOf bl, seqV (objAt cs il), seqN (objAt cs il)⟩
noncomputable def zOfN (em : Bool) (ns : List Nat) : Option (Nat × Value) := match em with
  | true => none
  | false => some (getN ns 8, .int ((getN ns 9 : Int) - (getN ns 10 : Nat)) (getN ns 11))
noncomputable def FIn (P : Params) (em : Bool) (ii ia ins il : Nat) : ConF := fun c bl cs tk ns => (fun (y : InY) => reqF (IntsP y.xs ∧ y.xs.isEmpty = em) (conC (cLp eIn y.it y.acc y.ns y.fr []) (fun _ => blP true y.k y.q) [ii, ia, ins, il] (csIn P y.it y.acc y.ns y.l 0 [] 0 none y.xs y.m) (fun _ => .ok .next)
  (fun ns => [(y.it, lsI .none (getN ns 0)), (y.acc, lstO (decI (getN ns 1) (getN ns 2) (getN ns 3) (getN ns 4) (getN ns 5)) (getN ns 6)), (y.ns, nsXo P (zOfN em ns)), (y.l, lstO y.xs y.m)]) (fun ns => getN ns 12))) (inOf il c bl cs tk) c bl cs tk ns
theorem FIn_sound {w : World} {b b2 : Bool} (em : Bool) (ii ia ins il : Nat) (hi : [ii, ia, ins, il].Nodup) : ConSound (MM w b b2) (KT' w b b2) 13 (FIn (fP w b b2) em ii ia ins il) := by
  refine ConSound.byC (inOf il) (F := fun y => reqF (IntsP y.xs ∧ y.xs.isEmpty = em) (conC (cLp eIn y.it y.acc y.ns y.fr []) (fun _ => blP true y.k y.q) [ii, ia, ins, il] (csIn (fP w b b2) y.it y.acc y.ns y.l 0 [] 0 none y.xs y.m) (fun _ => .ok .next)
    (fun ns => [(y.it, lsI .none (getN ns 0)), (y.acc, lstO (decI (getN ns 1) (getN ns 2) (getN ns 3) (getN ns 4) (getN ns 5)) (getN ns 6)), (y.ns, nsXo (fP w b b2) (zOfN em ns)), (y.l, lstO y.xs y.m)]) (fun ns => getN ns 12))) fun y => reqF_sound fun hq => ?_
  obtain ⟨⟨h1, h2⟩, hem⟩ := hq
  obtain ⟨sd, hsd⟩ := ints_items h2
  have hlen : sd.length ≤ 100 := by
    have : y.xs.length = sd.length := by rw [hsd]; simp
    omega
  refine conC_sound hi rfl (fun _ => rfl) fun s tk p pp I => ?_
  refine wpCode_mono ?_ (loopIn sd [] [] 0 none tk s p hsd (by simp; omega) I)
  rintro r s' ⟨zs, n', z, j', tk', rfl, e1, e2, e3, J⟩
  obtain ⟨len, B, e, B', e', hd⟩ := decI_any zs e1 (by omega)
  have ez : ∃ n7 n8 n9 n10 n11 : Nat, ∀ n12, (z.map fun y => (y.1, Value.int y.2.1 y.2.2)) = zOfN em [j', len, B, e, B', e', n', n7, n8, n9, n10, n11, n12] := by
    cases z with
    | none =>
      have : em = true := by
        cases sd with
        | nil => rw [← hem, hsd]; rfl
        | cons a l => cases e3
      subst this
      exact ⟨0, 0, 0, 0, 0, fun _ => rfl⟩
    | some y =>
      have : em = false := by
        rw [← hem]
        cases sd with
        | nil => cases e3
        | cons a l => rw [hsd]; rfl
      subst this
      obtain ⟨a, x, t⟩ := y
      refine ⟨1, a, x.toNat, (-x).toNat, t, fun _ => ?_⟩
      show some (a, Value.int x t) = some (a, Value.int ((x.toNat : Int) - ((-x).toNat : Nat)) t)
      rw [show ((x.toNat : Int) - ((-x).toNat : Nat)) = x by omega]
  obtain ⟨n7, n8, n9, n10, n11, ez⟩ := ez
  refine ⟨[j', len, B, e, B', e', n', n7, n8, n9, n10, n11, tk'], rfl, rfl, ?_⟩
  show Inv _ _ _ s' [(y.it, lsI .none j'), (y.acc, lstO (decI len B e B' e') n'), (y.ns, nsXo _ (zOfN em [j', len, B, e, B', e', n', n7, n8, n9, n10, n11, tk'])), (y.l, lstO y.xs y.m)] tk'
  rw [hd, ← ez]
  rw [List.nil_append] at J
  exact J
end Mine

/-! part LD3 -/
namespace Mine
open PySem PySem.W PySem.W.X PySem.Spec PySem.Calls PyProof.Rows

/-! a comprehension over an enumerate of a list: the first part of a turn skipped -/
noncomputable def Xc (target : Expr) (ip : Pos) (it : Value) : Sem (Option Value) := do
  standAt ip
  let r ← pyNext it
  Xr target it r
noncomputable def Kc (elt target iter : Expr) (sc : Scope) (pos : Pos) (it acc : Value) (env : Env) : Option Value → Sem Fin
  | none => pure (.done .next)
  | some v => do
    assign target env v
    let x ← eval elt env
    let _ ← call (.builtin "list.append") [acc, x]
    again (.compLoop (.ListComp elt [⟨target, iter, [], 0⟩] sc pos) 0 it acc env)
theorem compTurn_split (elt target iter : Expr) (sc : Scope) (pos : Pos) (it acc : Value) (env : Env) :
    compTurn (.ListComp elt [⟨target, iter, [], 0⟩] sc pos) 0 it acc env = Xc target iter.pos it >>= Kc elt target iter sc pos it acc env := by
  unfold Xc
  show Sem.bind _ _ = Sem.bind (Sem.bind _ _) _
  rw [Sem.bind_assoc]
  congr 1
  funext _
  show Sem.bind _ _ = Sem.bind (Sem.bind _ _) _
  rw [Sem.bind_assoc]
  congr 1
  funext r
  cases r with
  | none => rfl
  | some v =>
    show Sem.bind _ _ = Sem.bind (Sem.bind _ _) _
    rw [Sem.bind_assoc]
    congr 1
    funext _
    show Sem.bind _ _ = Sem.bind _ _
    congr 1
    funext _
    show Sem.bind (Sem.bind (eval elt env) fun x => Sem.bind (call (.builtin "list.append") [acc, x]) fun _ => pure ()) _ = Sem.bind (eval elt env) _
    rw [Sem.bind_assoc]
    congr 1
    funext x
    show Sem.bind (Sem.bind _ _) _ = Sem.bind _ _
    rw [Sem.bind_assoc]
    rfl
noncomputable def KcT (elt target iter : Expr) (sc : Scope) (pos : Pos) (it acc : Value) (env : Env) (v : Value) : Sem Fin :=
  R.onRaiseR (R.bindR (Fast.tw17772580674575903948 target env v) fun _ => R.bindR (Fast.tw14044960220447912780 elt env) fun x => R.bindR (Fast.tw11478286150595567475 (.builtin SL.s2931692696383300276x11) [acc, x]) fun _ =>
    Fast.tw12377390311714414960 (.compLoop (.ListComp elt [⟨target, iter, [], 0⟩] sc pos) 0 it acc env)) (fun x => R.bindR (Fast.tw17872113653443481271 x env) fun _ => Fast.tw1623429502029203251 x)
theorem KcT_eq (elt target iter : Expr) (sc : Scope) (pos : Pos) (it acc : Value) (env : Env) (v : Value) : KcT elt target iter sc pos it acc env v = (Kc elt target iter sc pos it acc env (some v)).onRaise (hL env) := by
  unfold KcT Kc hL
  rw [← R.onRaiseR_eq, ← R.bindR_eq, ← Fast.te17772580674575903948, ← Fast.te14044960220447912780, ← Fast.te11478286150595567475, ← Fast.te12377390311714414960, ← Fast.te17872113653443481271, ← Fast.te1623429502029203251]
  rfl
section
variable (w : World) (b b2 : Bool) (c : Code) (p : Pos) (bl : List (Code × Pos)) (en si l j tk : Nat) (v last : Value) (xs : List Value) (m : Nat)
theorem segNxL (sup : List Nat) (h : sup.length = 1) : okQ [true, true, true, true] (run denF pw (fP w b b2) (ktS (fP w b b2)) 1000000 (logNx (nextLF 1 2 j v)) (nxT (.ref en)) c p bl [] [(en, enumO si j last), (si, lsI (.ref l) j), (l, lstO xs m)] tk [] [] sup)
    (.fin (.ok (.ret (.ref (getN sup 0))))) [(en, enumX si (getN sup 0) (j + 1) v), (si, lsI (.ref l) (j + 1)), (l, lstO xs m), (getN sup 0, tupO [.int (j : Nat) tk, v])] [Item.p (xs[j]? = some v) = .p True] := by
  obtain ⟨fS, rfl⟩ := sup_ex h
  cases b <;> (unfold okQ; kernel_rfl)
end
section
variable {w : World} {b b2 : Bool}
noncomputable def NxL (w : World) (b b2 : Bool) (s₀ : Shared) (T : List Addr) (en si l j tk : Nat) (v : Value) (xs : List Value) (m : Nat) (r : Result) (s' : Shared) : Prop :=
  ∃ a tk', r = .ok (.ret (.ref a)) ∧ Inv (KT' w b b2) s₀ T s' [(en, enumX si a (j + 1) v), (si, lsI (.ref l) (j + 1)), (l, lstO xs m), (a, tupO [.int (j : Nat) tk, v])] tk'
theorem wp_pyNextL {c : Code} {bl : List (Code × Pos)} {en si l j tk : Nat} {v last : Value} {xs : List Value} {m : Nat} {s₀ s : Shared} {T : List Addr} {p : Pos} (hx : xs[j]? = some v) (I : Inv (KT' w b b2) s₀ T s [(en, enumO si j last), (si, lsI (.ref l) j), (l, lstO xs m)] tk) :
    Sem.wp (MM w b b2) (cx c bl) (pyNext (.ref en)) (fun r _ s' => ∃ a tk', r = some (.ref a) ∧ Inv (KT' w b b2) s₀ T s' [(en, enumX si a (j + 1) v), (si, lsI (.ref l) (j + 1)), (l, lstO xs m), (a, tupO [.int (j : Nat) tk, v])] tk') (fun _ _ _ => False) p s := by
  have z := segQT (MM_den w b b2) rfl rfl _ (R := NxL w b b2 s₀ T en si l j tk v xs m)
    (fun sup hs => segNxL w b b2 c p bl en si l j tk v last xs m sup hs) (fun sup hs => one_p hx) ⟨nextLF_sound _ _ _ _ _ _ _, trivial⟩ I (fun sup s' tk' hs I' => ⟨_, tk', rfl, I'⟩)
  unfold Means at z
  rw [nxT_eq, Sem.wp_bind'] at z
  refine Sem.wp_mono _ _ _ ?_ ?_ p s z
  · intro r p' s' h
    cases r with
    | none =>
      have h' : NxL w b b2 s₀ T en si l j tk v xs m (.ok .next) s' := h
      obtain ⟨a, tk', e, _⟩ := h'; cases e
    | some v' =>
      have h' : NxL w b b2 s₀ T en si l j tk v xs m (.ok (.ret v')) s' := h
      obtain ⟨a, tk', e, J⟩ := h'
      cases e
      exact ⟨a, tk', rfl, J⟩
  · intro e p' s' h
    have h' : NxL w b b2 s₀ T en si l j tk v xs m (.error e) s' := h
    obtain ⟨a, tk', e, _⟩ := h'; cases e
theorem wp_Xc {c : Code} {bl : List (Code × Pos)} {en si l j tk : Nat} {te : List Expr} {tx : Nat} {tp ip : Pos} {v last : Value} {xs : List Value} {m : Nat} {s₀ s : Shared} {T : List Addr} {p : Pos} (hx : xs[j]? = some v) (I : Inv (KT' w b b2) s₀ T s [(en, enumO si j last), (si, lsI (.ref l) j), (l, lstO xs m)] tk) :
    Sem.wp (MM w b b2) (cx c bl) (Xc (.Tuple te tx tp) ip (.ref en)) (fun r _ s' => ∃ a tk', r = some (.ref a) ∧ Inv (KT' w b b2) s₀ T s' [(en, enumO si (j + 1) v), (si, lsI (.ref l) (j + 1)), (l, lstO xs m), (a, tupO [.int (j : Nat) tk, v])] tk') (fun _ _ _ => False) p s := by
  unfold Xc
  show Sem.wp _ _ (pyNext (.ref en) >>= Xr (.Tuple te tx tp) (.ref en)) _ _ ip s
  rw [Sem.wp_bind']
  refine Sem.wp_mono _ _ _ ?_ (fun _ _ _ h => h) _ _ (wp_pyNextL hx I)
  rintro r p' s' ⟨a, tk', rfl, I'⟩
  show Sem.wp _ _ (letOwnedTupleGo (.Tuple te tx tp) (.ref en) (.ref a) >>= fun _ => pure (some (Value.ref a))) _ _ p' s'
  rw [Sem.wp_bind']
  refine Sem.wp_mono _ _ _ ?_ (fun _ _ _ h => h) _ _ (wp_letGo I')
  intro _ p'' s'' J
  exact ⟨a, tk', rfl, J⟩
end
noncomputable def skC (ie is il j : Nat) (v : Value) : SkF := fun c bl cs tk ns => match c, getC cs ie, getC cs is, getC cs il with
  | .compLoop (.ListComp elt [⟨.Tuple te tx tp, iter, [], 0⟩] sc pos) 0 (.ref en) acc env, some (xe, oe), some (xs, os), some (xl, ol) => some
    { t := KcT elt (.Tuple te tx tp) iter sc pos (.ref en) acc env (.ref (getN ns 0)), p := ⟨getN ns 1, getN ns 2, getN ns 3, getN ns 4⟩,
      upd := [(ie, enumO xs (j + 1) v), (is, lsI (.ref xl) (j + 1))],
      news := [(getN ns 0, tupO [.int (j : Nat) tk, v])], tk := getN ns 5,
      chk := [(.a en, .a xe), (.o oe, .o (enumO xs j (nthV (fldsOf oe) 5))), (.o os, .o (lsI (.ref xl) j)), (.o ol, .o (lstO (seqV ol) (seqN ol))), (.p ((seqV ol)[j]? = some v), .p True)] }
  | _, _, _, _ => none
theorem skC_sound {w : World} {b b2 : Bool} (ie is il j : Nat) (v : Value) (hi : [ie, is, il].Nodup) : SkSound (MM w b b2) (KT' w b b2) 6 (skC ie is il j v) := by
  intro c bl p cs tk gs s₀ T s I H
  obtain ⟨po, hF, chk⟩ := H [0, 0, 0, 0, 0, 0] rfl
  unfold skC at hF
  split at hF
  · rename_i elt te tx tp iter sc pos en acc env xe oe xs os xl ol he hs hl
    cases hF
    have e1 : en = xe := Item.a.inj (chk _ (.head _))
    have e2 : oe = enumO xs j (nthV (fldsOf oe) 5) := Item.o.inj (chk _ (.tail _ (.head _)))
    have e3 : os = lsI (.ref xl) j := Item.o.inj (chk _ (.tail _ (.tail _ (.head _))))
    have e3' : ol = lstO (seqV ol) (seqN ol) := Item.o.inj (chk _ (.tail _ (.tail _ (.tail _ (.head _)))))
    have e4 : (seqV ol)[j]? = some v := by rw [Item.p.inj (chk _ (.tail _ (.tail _ (.tail _ (.tail _ (.head _))))))]; trivial
    subst e1
    refine ⟨_, Xc (.Tuple te tx tp) iter.pos (.ref en), fun a => (Kc elt (.Tuple te tx tp) iter sc pos (.ref en) acc env a).onRaise (hL env), fun e => (hL env e).bind fun _ => .raise e, fun g => g, fun l => l, ?_, ?_⟩
    · show denote table (.compLoop (.ListComp elt [⟨.Tuple te tx tp, iter, [], 0⟩] sc pos) 0 (.ref en) acc env) = _
      rw [← onRaise_split, ← compTurn_split]
      rfl
    have me := getC_mem he
    have ms := getC_mem hs
    have ml := getC_mem hl
    have inj : ∀ (cs : Cells) (i j : Nat) (a : Addr) (o o' : Obj), (cs.map (·.1)).Nodup → getC cs i = some (a, o) → getC cs j = some (a, o') → i = j := by
      intro cs
      induction cs with
      | nil => intro i j a o o' _ h; cases h
      | cons v l ih2 =>
        intro i j a o o' hn h h'
        have hn' := List.nodup_cons.mp hn
        cases i with
        | zero =>
          cases j with
          | zero => rfl
          | succ j =>
            have e : v = (a, o) := Option.some.inj h
            subst e
            exact absurd (List.mem_map_of_mem (f := (·.1)) (getC_mem (cs := l) (i := j) h')) hn'.1
        | succ i =>
          cases j with
          | zero =>
            have e : v = (a, o') := Option.some.inj h'
            subst e
            exact absurd (List.mem_map_of_mem (f := (·.1)) (getC_mem (cs := l) (i := i) h)) hn'.1
          | succ j => rw [ih2 i j a o o' hn'.2 h h']
    simp only [List.nodup_cons, List.mem_cons, List.not_mem_nil, or_false, not_or, List.nodup_nil, and_true, not_false_eq_true] at hi
    have ne1 : en ≠ xs := fun q => hi.1.1 (inj cs ie is en oe os I.nodup he (by rw [q]; exact hs))
    have ne2 : en ≠ xl := fun q => hi.1.2 (inj cs ie il en oe ol I.nodup he (by rw [q]; exact hl))
    have ne3 : xs ≠ xl := fun q => hi.2 (inj cs is il xs os ol I.nodup hs (by rw [q]; exact hl))
    have foc := I.focus (nc := [(en, oe), (xs, os), (xl, ol)]) (fun y hy => by
      rcases List.mem_cons.mp hy with q | q
      · rw [q]; exact me
      · rcases List.mem_cons.mp q with q | q
        · rw [q]; exact ms
        · rw [List.mem_singleton.mp q]; exact ml) (by simp [ne1, ne2, ne3])
    rw [e2, e3, e3'] at foc
    refine Sem.wp_mono _ _ _ ?_ (fun _ _ _ h => h) _ _ (wp_Xc e4 foc)
    rintro r p' s' ⟨a, tk', rfl, J⟩
    refine ⟨[a, p'.line, p'.col, p'.endLine, p'.endCol, tk'], _, rfl, by (unfold skC; rw [he, hs, hl]; rfl), (KcT_eq _ _ _ _ _ _ _ _ _).symm, rfl, ?_⟩
    rw [← e3'] at J
    show Inv _ s₀ T s' (setC (setC cs ie (enumO xs (j + 1) v)) is (lsI (.ref xl) (j + 1)) ++ [(a, tupO [.int (j : Nat) tk, v])]) tk' gs
    have nd := J.nodup
    have fr : s.heap.get? a = none := by
      rcases J.mine (a, tupO [.int (j : Nat) tk, v]) (.tail _ (.tail _ (.tail _ (.head _)))) with q | q
      · simp only [List.map_cons, List.map_nil, List.nodup_cons, List.mem_cons, List.not_mem_nil, or_false, not_or] at nd q
        rcases q with q | q | q
        · exact absurd q.symm nd.1.2.2
        · exact absurd q.symm nd.2.1.2
        · exact absurd q.symm nd.2.2.1
      · exact q
    refine I.trans J (fun y hy => ?_) (fun y hy => ?_) ?_
    · rcases List.mem_cons.mp hy with q | q
      · rw [q]; exact List.mem_map_of_mem (f := (·.1)) me
      · rcases List.mem_cons.mp q with q | q
        · rw [q]; exact List.mem_map_of_mem (f := (·.1)) ms
        · rw [List.mem_singleton.mp q]; exact List.mem_map_of_mem (f := (·.1)) ml
    · rcases List.mem_append.mp hy with q | q
      · have h2 : getC (setC cs ie (enumO xs (j + 1) v)) is = some (xs, os) := by rw [getC_setC _ _ _ _ hi.1.1]; exact hs
        rcases setC_mem (by rw [setC_fst]; exact I.nodup) h2 y q with z | ⟨z, z'⟩
        · exact .inl (by rw [z]; exact .tail _ (.head _))
        · rcases setC_mem I.nodup he y z with v | ⟨v, v'⟩
          · exact .inl (by rw [v]; exact .head _)
          · by_cases hxl : y.1 = xl
            · refine .inl ?_
              have h3 := I.cell y v
              rw [hxl, I.cell _ ml] at h3
              have h4 : y = (xl, ol) := Prod.ext hxl (Option.some.inj h3).symm
              rw [h4]; exact .tail _ (.tail _ (.head _))
            · refine .inr ⟨v, ?_⟩
              simp only [List.map_cons, List.map_nil, List.mem_cons, List.not_mem_nil, or_false, not_or]
              exact ⟨v', z', hxl⟩
      · rw [List.mem_singleton.mp q]; exact .inl (.tail _ (.tail _ (.tail _ (.head _))))
    · rw [List.map_append, setC_fst, setC_fst, List.nodup_append]
      refine ⟨I.nodup, by simp, fun q hq q' hq' e => ?_⟩
      have : q' = a := by simpa using hq'
      obtain ⟨y, hy, rfl⟩ := List.mem_map.mp hq
      have z := I.cell y hy
      rw [show y.1 = a from e.trans this, fr] at z
      cases z
  · cases hF
end Mine

/-! part LD4 -/
namespace Mine
open PySem PySem.W PySem.W.X PySem.Spec PySem.Calls PyProof.Rows

/-! the drawn numbers -/
noncomputable def nsDr (P : Params) : Option (Nat × Nat × Nat × Nat) → Obj
  | none => ⟨.type "dict", none, .dict ⟨[]⟩ 0, ⟨[]⟩⟩
  | some (ka, kb, ta, tb) => ⟨.type "dict", none, .dict ⟨[ent P ⟨⟨[107]⟩⟩ ka (.int 3 ta), ent P ⟨⟨[115, 116, 97, 114, 116]⟩⟩ kb (.int 3413 tb)]⟩ 2, ⟨[]⟩⟩
noncomputable def lit4 (u0 u1 u2 u3 : Nat) : List Value := [.int 22 u0, .int 1194 u1, .int 1325 u2, .int 3413 u3]
noncomputable def dCells (cS : Nat) : List (Str × Nat) := [(⟨⟨[115, 99, 114, 105, 112, 116]⟩⟩, cS)]
noncomputable def csDr (P : Params) (it acc ns cS si l sl : Nat) (u0 u1 u2 u3 : Nat) (xs : List Value) (m : Nat) : Cells := [(it, enumO si 0 .none), (acc, lstO [] 0), (ns, nsDr P none), (cS, celO sl), (si, lsI (.ref l) 0), (l, lstO (lit4 u0 u1 u2 u3) 0), (sl, lstO xs m)]
noncomputable def emQ (q j : Nat) : Bool := decide (q ≤ j)
noncomputable def drN (c : Int) (s : Nat) : Int := Int.fmod (c + (s : Nat)) 3456
noncomputable def logDr (b2 : Bool) (P : Params) (q u0 u1 u2 u3 : Nat) : List Ev := appE (cond b2 [] [.dy 0, .dy 0, .go, .dy 0, .go, .dy 0]) (appE [.sk 6 (skC 0 4 5 0 (.int 22 u0)), .dy 7, .dy 7, .dy 7, .go, .dy 7, .go, .dy 8, .dy 8, .go, .dy 8, .go, .dy 8, .dy 8, .dy 7, .dy 8, .dy 8, .dy 8, .go, .dy 8, .go, .dy 8, .dy 8, .dy 7, .dy 8, .dy 8, .dy 8, .go, .dy 8, .go, .dy 8, .dy 8, .dy 7, .dy 8, .dy 8, .dy 10, .dy 2, .dy 2, .dy 2, .dy 2, .dy 2, .st, .st, .dy 3, .dy 2, .dy 6, .dy 6, .dy 6, .go, .dy 6, .con 1 (slF 6 11), .dy 12, .dy 12, .go, .dy 12, .go, .dy 13, .go] (appE (cond b2 [] [.dy 13, .dy 13, .go, .dy 13, .go, .dy 13]) (appE [.con 13 (FIn P (emQ q 0) 13 14 15 12)] (appE (cond (emQ q 0) [.dy 15] [.dy 15, .dy 15, .dy 15]) (appE [.go, .con 3 (sumF 14), .go, .go, .go, .go, .go, .dy 1, .go, .dy 1, .dy 1, .dy 1, .sk 6 (skC 0 4 5 1 (.int 1194 u1)), .dy 16, .dy 16, .dy 16, .go, .dy 16, .go, .dy 17, .dy 17, .go, .dy 17, .go, .dy 17, .dy 17, .dy 16, .dy 17, .dy 17, .dy 17, .go, .dy 17, .go, .dy 17, .dy 17, .dy 16, .dy 17, .dy 17, .dy 17, .go, .dy 17, .go, .dy 17, .dy 17, .dy 16, .dy 17, .dy 17, .dy 19, .dy 2, .dy 2, .dy 2, .dy 2, .dy 2, .st, .st, .dy 3, .dy 2, .dy 6, .dy 6, .dy 6, .go, .dy 6, .con 1 (slF 6 20), .dy 21, .dy 21, .go, .dy 21, .go, .dy 22, .go] (appE (cond b2 [] [.dy 22, .dy 22, .go, .dy 22, .go, .dy 22]) (appE [.con 13 (FIn P (emQ q 1) 22 23 24 21)] (appE (cond (emQ q 1) [.dy 24] [.dy 24, .dy 24, .dy 24]) (appE [.go, .con 3 (sumF 23), .go, .go, .go, .go, .go, .dy 1, .go, .dy 1, .dy 1, .dy 1, .sk 6 (skC 0 4 5 2 (.int 1325 u2)), .dy 25, .dy 25, .dy 25, .go, .dy 25, .go, .dy 26, .dy 26, .go, .dy 26, .go, .dy 26, .dy 26, .dy 25, .dy 26, .dy 26, .dy 26, .go, .dy 26, .go, .dy 26, .dy 26, .dy 25, .dy 26, .dy 26, .dy 26, .go, .dy 26, .go, .dy 26, .dy 26, .dy 25, .dy 26, .dy 26, .dy 28, .dy 2, .dy 2, .dy 2, .dy 2, .dy 2, .st, .st, .dy 3, .dy 2, .dy 6, .dy 6, .dy 6, .go, .dy 6, .con 1 (slF 6 29), .dy 30, .dy 30, .go, .dy 30, .go, .dy 31, .go] (appE (cond b2 [] [.dy 31, .dy 31, .go, .dy 31, .go, .dy 31]) (appE [.con 13 (FIn P (emQ q 2) 31 32 33 30)] (appE (cond (emQ q 2) [.dy 33] [.dy 33, .dy 33, .dy 33]) (appE [.go, .con 3 (sumF 32), .go, .go, .go, .go, .go, .dy 1, .go, .dy 1, .dy 1, .dy 1, .sk 6 (skC 0 4 5 3 (.int 3413 u3)), .dy 34, .dy 34, .dy 34, .go, .dy 34, .go, .dy 35, .dy 35, .go, .dy 35, .go, .dy 35, .dy 35, .dy 34, .dy 35, .dy 35, .dy 35, .go, .dy 35, .go, .dy 35, .dy 35, .dy 34, .dy 35, .dy 35, .dy 35, .go, .dy 35, .go, .dy 35, .dy 35, .dy 34, .dy 35, .dy 35, .dy 37, .dy 2, .dy 2, .dy 2, .dy 2, .dy 2, .st, .st, .dy 3, .dy 2, .dy 6, .dy 6, .dy 6, .go, .dy 6, .con 1 (slF 6 38), .dy 39, .dy 39, .go, .dy 39, .go, .dy 40, .go] (appE (cond b2 [] [.dy 40, .dy 40, .go, .dy 40, .go, .dy 40]) (appE [.con 13 (FIn P (emQ q 3) 40 41 42 39)] (appE (cond (emQ q 3) [.dy 42] [.dy 42, .dy 42, .dy 42]) ([.go, .con 3 (sumF 41), .go, .go, .go, .go, .go, .dy 1, .go, .dy 1, .dy 1, .dy 1, .go, .dy 0, .go, .dy 0, .go, .dy 0, .dy 4, .go, .dy 4, .go, .dy 4, .dy 4, .dy 5, .dy 4, .dy 4, .dy 44])))))))))))))))))
section
variable (w : World) (b b2 : Bool) (k : Stk) (p : Pos) (it acc ns fr cS si l sl : Nat) (u0 u1 u2 u3 : Nat) (xs : List Value) (m : Nat) (tk : Nat)
noncomputable def psDr (q : Nat) (f : Nat → Nat) : List Prop := [Item.p (SumP (decI (f 105) (f 106) (f 107) (f 108) (f 109))) = .p True, Item.p (IntsP (slV xs 3 63 4) ∧ (slV xs 3 63 4).isEmpty = emQ q 3) = .p True, Item.p (xs.length ≤ sizeLine) = .p True, Item.p ((lit4 u0 u1 u2 u3)[3]? = some (.int 3413 u3)) = .p True, Item.p (SumP (decI (f 75) (f 76) (f 77) (f 78) (f 79))) = .p True, Item.p (IntsP (slV xs 2 63 4) ∧ (slV xs 2 63 4).isEmpty = emQ q 2) = .p True, Item.p (xs.length ≤ sizeLine) = .p True, Item.p ((lit4 u0 u1 u2 u3)[2]? = some (.int 1325 u2)) = .p True, Item.p (SumP (decI (f 45) (f 46) (f 47) (f 48) (f 49))) = .p True, Item.p (IntsP (slV xs 1 63 4) ∧ (slV xs 1 63 4).isEmpty = emQ q 1) = .p True, Item.p (xs.length ≤ sizeLine) = .p True, Item.p ((lit4 u0 u1 u2 u3)[1]? = some (.int 1194 u1)) = .p True, Item.p (SumP (decI (f 15) (f 16) (f 17) (f 18) (f 19))) = .p True, Item.p (IntsP (slV xs 0 63 4) ∧ (slV xs 0 63 4).isEmpty = emQ q 0) = .p True, Item.p (xs.length ≤ sizeLine) = .p True, Item.p ((lit4 u0 u1 u2 u3)[0]? = some (.int 22 u0)) = .p True]
set_option maxHeartbeats 4000000 in
theorem segDr (q : Nat) (hq : q < 5) (f : Nat → Nat) : okQ [true, true, true, true, true, true, true] (runF w b b2 (logDr b2 (fP w b b2) q u0 u1 u2 u3) (cmS eDr it acc ns fr (dCells cS)) p (blL k) (csDr (fP w b b2) it acc ns cS si l sl u0 u1 u2 u3 xs m) tk (tabN f 122 0))
    (.fin (.ok .next)) [(it, enumO si 4 (.int 3413 u3)), (acc, lstO [.int (drN 22 (f 27)) (f 29 + 2), .int (drN 1194 (f 57)) (f 59 + 2), .int (drN 1325 (f 87)) (f 89 + 2), .int (drN 3413 (f 117)) (f 119 + 2)] 4), (ns, nsDr (fP w b b2) (some (f 5, f 5 + 1, f 89 + 3, u3))), (cS, celO sl), (si, lsI .none 4), (l, lstO (lit4 u0 u1 u2 u3) 0), (sl, lstO xs m)] (psDr u0 u1 u2 u3 xs q f) := by
  match q, hq with
  | 0, _ => cases b <;> cases b2 <;> (unfold okQ; kernel_rfl)
  | 1, _ => cases b <;> cases b2 <;> (unfold okQ; kernel_rfl)
  | 2, _ => cases b <;> cases b2 <;> (unfold okQ; kernel_rfl)
  | 3, _ => cases b <;> cases b2 <;> (unfold okQ; kernel_rfl)
  | 4, _ => cases b <;> cases b2 <;> (unfold okQ; kernel_rfl)
end
noncomputable def ScrP (xs : List Value) : Prop := xs.length ≤ sizeLine ∧ ∃ q, q < 5 ∧ ∀ j : Nat, j < 4 → IntsP (slV xs j 63 4) ∧ (slV xs j 63 4).isEmpty = emQ q j
theorem psDr_of {u0 u1 u2 u3 : Nat} {xs : List Value} {q : Nat} {f : Nat → Nat} (h0 : xs.length ≤ sizeLine) (h : ∀ j : Nat, j < 4 → IntsP (slV xs j 63 4) ∧ (slV xs j 63 4).isEmpty = emQ q j) : ∀ P ∈ psDr u0 u1 u2 u3 xs q f, P := by
  intro P hP
  have t : ∀ {Q : Prop}, Q → (Item.p Q = Item.p True) := fun z => by rw [eq_true z]
  have d := decI_sumP
  simp only [psDr, List.mem_cons, List.not_mem_nil, or_false] at hP
  rcases hP with rfl | rfl | rfl | rfl | rfl | rfl | rfl | rfl | rfl | rfl | rfl | rfl | rfl | rfl | rfl | rfl <;> first | exact t (d _ _ _ _ _) | exact t h0 | exact t rfl | exact t (h 0 (by decide)) | exact t (h 1 (by decide)) | exact t (h 2 (by decide)) | exact t (h 3 (by decide))
structure DrY where
  (it acc ns fr cS si l sl u0 u1 u2 u3 : Nat) (xs : List Value) (m : Nat) (k : Stk)
noncomputable def drOf (ic is il ix : Nat) (c : Code) (bl : List (Code × Pos)) (cs : Cells) (_ : Nat) : DrY := ⟨(refS c).1, (refS c).2.1, (refS c).2.2.1, (refS c).2.2.2, adAt cs ic, adAt cs is, adAt cs il, adAt cs ix, tokV (nthV (seqV (objAt cs il)) 0), tokV (nthV (seqV (objAt cs il)) 1), tokV (nthV (seqV (objAt cs il)) 2), tokV (nthV (seqV (objAt cs il)) 3), seqV (objAt cs ix), seqN (objAt cs ix), stkL bl⟩
noncomputable def FDr (P : Params) (ii ia ins ic is il ix : Nat) : ConF := fun c bl cs tk ns => (fun (y : DrY) => reqF (ScrP y.xs) (conOf (cmS eDr y.it y.acc y.ns y.fr (dCells y.cS)) (fun _ => blL y.k) [(ii, y.it, enumO y.si 0 .none), (ia, y.acc, lstO [] 0), (ins, y.ns, nsDr P none), (ic, y.cS, celO y.sl), (is, y.si, lsI (.ref y.l) 0), (il, y.l, lstO (lit4 y.u0 y.u1 y.u2 y.u3) 0), (ix, y.sl, lstO y.xs y.m)] fun ns => ⟨.ok .next, [enumO y.si 4 (.int 3413 y.u3), lstO [.int (drN 22 (getN ns 0)) (getN ns 4), .int (drN 1194 (getN ns 1)) (getN ns 5), .int (drN 1325 (getN ns 2)) (getN ns 6), .int (drN 3413 (getN ns 3)) (getN ns 7)] 4, nsDr P (some (getN ns 8, getN ns 9, getN ns 10, y.u3)), celO y.sl, lsI .none 4, lstO (lit4 y.u0 y.u1 y.u2 y.u3) 0, lstO y.xs y.m], [], getN ns 11⟩)) (drOf ic is il ix c bl cs tk) c bl cs tk ns
theorem FDr_sound {w : World} {b b2 : Bool} (ii ia ins ic is il ix : Nat) (hi : [ii, ia, ins, ic, is, il, ix].Nodup) : ConSound (MM w b b2) (KT' w b b2) 12 (FDr (fP w b b2) ii ia ins ic is il ix) := by
  refine ConSound.byC (drOf ic is il ix) (F := fun y => reqF (ScrP y.xs) (conOf (cmS eDr y.it y.acc y.ns y.fr (dCells y.cS)) (fun _ => blL y.k) [(ii, y.it, enumO y.si 0 .none), (ia, y.acc, lstO [] 0), (ins, y.ns, nsDr (fP w b b2) none), (ic, y.cS, celO y.sl), (is, y.si, lsI (.ref y.l) 0), (il, y.l, lstO (lit4 y.u0 y.u1 y.u2 y.u3) 0), (ix, y.sl, lstO y.xs y.m)] fun ns => ⟨.ok .next, [enumO y.si 4 (.int 3413 y.u3), lstO [.int (drN 22 (getN ns 0)) (getN ns 4), .int (drN 1194 (getN ns 1)) (getN ns 5), .int (drN 1325 (getN ns 2)) (getN ns 6), .int (drN 3413 (getN ns 3)) (getN ns 7)] 4, nsDr (fP w b b2) (some (getN ns 8, getN ns 9, getN ns 10, y.u3)), celO y.sl, lsI .none 4, lstO (lit4 y.u0 y.u1 y.u2 y.u3) 0, lstO y.xs y.m], [], getN ns 11⟩)) fun y => reqF_sound fun hq => ?_
  obtain ⟨h0, q, hq, h⟩ := hq
  refine conOf_sound hi fun s tk p pp I => ?_
  refine segQ (MM_den w b b2) rfl rfl _ (N := 122) (fun sup hs => by
    have z := segDr w b b2 y.k p y.it y.acc y.ns y.fr y.cS y.si y.l y.sl y.u0 y.u1 y.u2 y.u3 y.xs y.m tk q hq (getN sup)
    rw [tabN_sup hs] at z
    exact z) (fun sup hs => psDr_of h0 h) (by
    match q, hq with
    | 0, _ => cases b2 <;> exact ⟨skC_sound _ _ _ _ _ (by decide), slF_sound _ _ _ _ _, FIn_sound _ _ _ _ _ (by decide), sumF_sound _ _ _ _, skC_sound _ _ _ _ _ (by decide), slF_sound _ _ _ _ _, FIn_sound _ _ _ _ _ (by decide), sumF_sound _ _ _ _, skC_sound _ _ _ _ _ (by decide), slF_sound _ _ _ _ _, FIn_sound _ _ _ _ _ (by decide), sumF_sound _ _ _ _, skC_sound _ _ _ _ _ (by decide), slF_sound _ _ _ _ _, FIn_sound _ _ _ _ _ (by decide), sumF_sound _ _ _ _, trivial⟩
    | 1, _ => cases b2 <;> exact ⟨skC_sound _ _ _ _ _ (by decide), slF_sound _ _ _ _ _, FIn_sound _ _ _ _ _ (by decide), sumF_sound _ _ _ _, skC_sound _ _ _ _ _ (by decide), slF_sound _ _ _ _ _, FIn_sound _ _ _ _ _ (by decide), sumF_sound _ _ _ _, skC_sound _ _ _ _ _ (by decide), slF_sound _ _ _ _ _, FIn_sound _ _ _ _ _ (by decide), sumF_sound _ _ _ _, skC_sound _ _ _ _ _ (by decide), slF_sound _ _ _ _ _, FIn_sound _ _ _ _ _ (by decide), sumF_sound _ _ _ _, trivial⟩
    | 2, _ => cases b2 <;> exact ⟨skC_sound _ _ _ _ _ (by decide), slF_sound _ _ _ _ _, FIn_sound _ _ _ _ _ (by decide), sumF_sound _ _ _ _, skC_sound _ _ _ _ _ (by decide), slF_sound _ _ _ _ _, FIn_sound _ _ _ _ _ (by decide), sumF_sound _ _ _ _, skC_sound _ _ _ _ _ (by decide), slF_sound _ _ _ _ _, FIn_sound _ _ _ _ _ (by decide), sumF_sound _ _ _ _, skC_sound _ _ _ _ _ (by decide), slF_sound _ _ _ _ _, FIn_sound _ _ _ _ _ (by decide), sumF_sound _ _ _ _, trivial⟩
    | 3, _ => cases b2 <;> exact ⟨skC_sound _ _ _ _ _ (by decide), slF_sound _ _ _ _ _, FIn_sound _ _ _ _ _ (by decide), sumF_sound _ _ _ _, skC_sound _ _ _ _ _ (by decide), slF_sound _ _ _ _ _, FIn_sound _ _ _ _ _ (by decide), sumF_sound _ _ _ _, skC_sound _ _ _ _ _ (by decide), slF_sound _ _ _ _ _, FIn_sound _ _ _ _ _ (by decide), sumF_sound _ _ _ _, skC_sound _ _ _ _ _ (by decide), slF_sound _ _ _ _ _, FIn_sound _ _ _ _ _ (by decide), sumF_sound _ _ _ _, trivial⟩
    | 4, _ => cases b2 <;> exact ⟨skC_sound _ _ _ _ _ (by decide), slF_sound _ _ _ _ _, FIn_sound _ _ _ _ _ (by decide), sumF_sound _ _ _ _, skC_sound _ _ _ _ _ (by decide), slF_sound _ _ _ _ _, FIn_sound _ _ _ _ _ (by decide), sumF_sound _ _ _ _, skC_sound _ _ _ _ _ (by decide), slF_sound _ _ _ _ _, FIn_sound _ _ _ _ _ (by decide), sumF_sound _ _ _ _, skC_sound _ _ _ _ _ (by decide), slF_sound _ _ _ _ _, FIn_sound _ _ _ _ _ (by decide), sumF_sound _ _ _ _, trivial⟩) I fun sup s' tk' hs I' => ?_
  exact ⟨[getN sup 27, getN sup 57, getN sup 87, getN sup 117, getN sup 29 + 2, getN sup 59 + 2, getN sup 89 + 2, getN sup 119 + 2, getN sup 5, getN sup 5 + 1, getN sup 89 + 3, tk'], rfl, rfl, rfl, I'⟩
end Mine

/-! part LW3 -/
namespace Mine
open PySem PySem.W PySem.W.X PySem.Spec PySem.Calls PyProof.Rows

/-! unlike texts -/
noncomputable def neL (x y : List Nat) : Bool := x != y
noncomputable def neF : ConF := fun c _ _ tk _ => match c with
  | .builtin id ⟨[.str x _, .str y _], []⟩ => some ⟨.ok (.ret (.bool (neL x.cps.toList y.cps.toList))), [], [], tk, [(.a (PySem.code id), .a (PySem.code "str.__ne__"))]⟩
  | _ => none
theorem neF_sound (pg : Program) (w : World) (kt : KT) : ConSound (model pg w) kt 0 neF := by
  intro c bl p cs tk gs s₀ T s I H
  obtain ⟨po, hF, chk⟩ := H [] rfl
  unfold neF at hF
  split at hF
  · rename_i id x t y u
    cases hF
    have e1 : id = "str.__ne__" := PySem.code_inj _ _ (Item.a.inj (chk _ (.head _)))
    subst e1
    refine wpCode_meets (by decide +kernel) F.entry_str_ne (gives_str_ne x y t u).meets ?_
    exact ⟨[], _, rfl, rfl, rfl, by show Inv kt s₀ T s (cs ++ []) tk gs; rw [List.append_nil]; exact I⟩
  · cases hF
structure X4 where
  (x0 x1 x2 x3 : List Nat) (t0 t1 t2 t3 m : Nat)
noncomputable def X4.L (y : X4) : List Value := x4 y.x0 y.x1 y.x2 y.x3 y.t0 y.t1 y.t2 y.t3
noncomputable def X4.O (y : X4) : Obj := lstO y.L y.m
noncomputable def x4At (cs : Cells) (il : Nat) : X4 := ⟨strL (nthV (seqV (objAt cs il)) 0), strL (nthV (seqV (objAt cs il)) 1), strL (nthV (seqV (objAt cs il)) 2), strL (nthV (seqV (objAt cs il)) 3),
  tokV (nthV (seqV (objAt cs il)) 0), tokV (nthV (seqV (objAt cs il)) 1), tokV (nthV (seqV (objAt cs il)) 2), tokV (nthV (seqV (objAt cs il)) 3), seqN (objAt cs il)⟩
noncomputable def forB (n : Nat) : List Stmt := (forParts (nthS lawB n)).2.1
noncomputable def appA : Stmt → Expr
  | .Expr e _ => callA e 0
  | _ => default
noncomputable def eNe : Expr := appA (nthS (forB 9) 4)
noncomputable def neCells (cS cO : Nat) : List (Str × Nat) := [(⟨⟨[115, 104, 111, 119, 110]⟩⟩, cS), (⟨⟨[111, 116, 104, 101, 114]⟩⟩, cO)]
noncomputable def logNe (b2 : Bool) : List Ev := appE (cond b2 [] [.dy 0, .dy 0, .go, .dy 0, .go, .dy 0]) [.go, .dy 0, .go, .dy 0, .go, .dy 0, .dy 0, .dy 0, .dy 0, .dy 0, .dy 0, .dy 0, .dy 2, .dy 2, .dy 3, .dy 2, .dy 5, .dy 5, .dy 5, .go, .dy 5, .go, .dy 5, .dy 4, .dy 2, .dy 6, .dy 6, .dy 6, .go, .dy 6, .go, .dy 6, .go, .con 0 neF, .go, .dy 1, .go, .dy 1, .dy 1, .dy 1, .go, .dy 0, .go, .dy 0, .go, .dy 0, .dy 0, .dy 0, .dy 0, .dy 0, .dy 0, .dy 0, .dy 2, .dy 2, .dy 3, .dy 2, .dy 5, .dy 5, .dy 5, .go, .dy 5, .go, .dy 5, .dy 4, .dy 2, .dy 6, .dy 6, .dy 6, .go, .dy 6, .go, .dy 6, .go, .con 0 neF, .go, .dy 1, .go, .dy 1, .dy 1, .dy 1, .go, .dy 0, .go, .dy 0, .go, .dy 0, .dy 0, .dy 0, .dy 0, .dy 0, .dy 0, .dy 0, .dy 2, .dy 2, .dy 3, .dy 2, .dy 5, .dy 5, .dy 5, .go, .dy 5, .go, .dy 5, .dy 4, .dy 2, .dy 6, .dy 6, .dy 6, .go, .dy 6, .go, .dy 6, .go, .con 0 neF, .go, .dy 1, .go, .dy 1, .dy 1, .dy 1, .go, .dy 0, .go, .dy 0, .go, .dy 0, .dy 0, .dy 0, .dy 0, .dy 0, .dy 0, .dy 0, .dy 2, .dy 2, .dy 3, .dy 2, .dy 5, .dy 5, .dy 5, .go, .dy 5, .go, .dy 5, .dy 4, .dy 2, .dy 6, .dy 6, .dy 6, .go, .dy 6, .go, .dy 6, .go, .con 0 neF, .go, .dy 1, .go, .dy 1, .dy 1, .dy 1, .go, .dy 0, .go, .dy 0, .go, .dy 0, .dy 0, .dy 0, .dy 8]
section
variable (w : World) (b b2 : Bool) (k : Stk) (p : Pos) (it acc ns fr cS cO lS lO : Nat) (xs ys : X4) (tk : Nat)
theorem segNe (sup : List Nat) (h : sup.length = 2) : okQ [true, true, true, true, true, true, true] (runF w b b2 (logNe b2) (cmS eNe it acc ns fr (neCells cS cO)) p (blRL k) [(it, rgI 0 4), (acc, lstO [] 0), (ns, nsX (fP w b b2) ⟨⟨[107]⟩⟩ none), (cS, celO lS), (cO, celO lO), (lS, xs.O), (lO, ys.O)] tk sup)
    (.fin (.ok .next)) [(it, rgI 4 0), (acc, lstO [.bool (neL xs.x0 ys.x0), .bool (neL xs.x1 ys.x1), .bool (neL xs.x2 ys.x2), .bool (neL xs.x3 ys.x3)] 4), (ns, nsX (fP w b b2) ⟨⟨[107]⟩⟩ (some (tk + 1, .int 3 (tk + 6)))), (cS, celO lS), (cO, celO lO), (lS, xs.O), (lO, ys.O)] [] := by
  obtain ⟨fS, rfl⟩ := sup_ex h
  cases b <;> cases b2 <;> (unfold okQ; kernel_rfl)
end
/-! contract of the unlike texts -/
structure NeY where
  (it acc ns fr cS cO lS lO : Nat) (k : Stk) (xs ys : X4)
noncomputable def neOf (iS iO jS jO : Nat) (c : Code) (bl : List (Code × Pos)) (cs : Cells) (_ : Nat) : NeY := ⟨(refS c).1, (refS c).2.1, (refS c).2.2.1, (refS c).2.2.2, adAt cs iS, adAt cs iO, adAt cs jS, adAt cs jO, stkRL bl, x4At cs jS, x4At cs jO⟩
noncomputable def FNe (P : Params) (ii ia ins iS iO jS jO : Nat) : ConF := fun c bl cs tk ns => (fun (y : NeY) => conOf (cmS eNe y.it y.acc y.ns y.fr (neCells y.cS y.cO)) (fun _ => blRL y.k) [(ii, y.it, rgI 0 4), (ia, y.acc, lstO [] 0), (ins, y.ns, nsX P ⟨⟨[107]⟩⟩ none), (iS, y.cS, celO y.lS), (iO, y.cO, celO y.lO), (jS, y.lS, y.xs.O), (jO, y.lO, y.ys.O)] fun ns => ⟨.ok .next, [rgI 4 0, lstO [.bool (neL y.xs.x0 y.ys.x0), .bool (neL y.xs.x1 y.ys.x1), .bool (neL y.xs.x2 y.ys.x2), .bool (neL y.xs.x3 y.ys.x3)] 4, nsX P ⟨⟨[107]⟩⟩ (some (getN ns 0, .int 3 (getN ns 1))), celO y.lS, celO y.lO, y.xs.O, y.ys.O], [], getN ns 2⟩) (neOf iS iO jS jO c bl cs tk) c bl cs tk ns
theorem FNe_sound {w : World} {b b2 : Bool} (ii ia ins iS iO jS jO : Nat) (hi : [ii, ia, ins, iS, iO, jS, jO].Nodup) : ConSound (MM w b b2) (KT' w b b2) 3 (FNe (fP w b b2) ii ia ins iS iO jS jO) := by
  refine ConSound.byC (neOf iS iO jS jO) (F := fun y => conOf (cmS eNe y.it y.acc y.ns y.fr (neCells y.cS y.cO)) (fun _ => blRL y.k) [(ii, y.it, rgI 0 4), (ia, y.acc, lstO [] 0), (ins, y.ns, nsX (fP w b b2) ⟨⟨[107]⟩⟩ none), (iS, y.cS, celO y.lS), (iO, y.cO, celO y.lO), (jS, y.lS, y.xs.O), (jO, y.lO, y.ys.O)] fun ns => ⟨.ok .next, [rgI 4 0, lstO [.bool (neL y.xs.x0 y.ys.x0), .bool (neL y.xs.x1 y.ys.x1), .bool (neL y.xs.x2 y.ys.x2), .bool (neL y.xs.x3 y.ys.x3)] 4, nsX (fP w b b2) ⟨⟨[107]⟩⟩ (some (getN ns 0, .int 3 (getN ns 1))), celO y.lS, celO y.lO, y.xs.O, y.ys.O], [], getN ns 2⟩) fun y => ?_
  refine conOf_sound hi fun s tk p pp I => ?_
  refine segQ (MM_den w b b2) rfl rfl _ (fun sup hs => segNe w b b2 y.k p y.it y.acc y.ns y.fr y.cS y.cO y.lS y.lO y.xs y.ys tk sup hs) (fun sup hs => fun P hP => nomatch hP) (by cases b2 <;> exact ⟨neF_sound _ _ _, neF_sound _ _ _, neF_sound _ _ _, neF_sound _ _ _, trivial⟩) I fun sup s' tk' hs I' => ?_
  exact ⟨[tk + 1, tk + 6, tk'], rfl, rfl, rfl, I'⟩
/-! the sides by the figures of ahead and behind -/
noncomputable def ifT : Stmt → Expr
  | .If t _ _ _ => t
  | _ => default
noncomputable def cmpR : Expr → Expr
  | .Compare _ _ cs _ => nthX cs 0
  | _ => default
noncomputable def eC6 : Expr := callA (cmpR (ifT (nthS (forB 9) 6))) 0
noncomputable def eC7 : Expr := callA (cmpR (ifT (nthS (forB 9) 7))) 0
noncomputable def selV : List Bool → List Value → List Value
  | true :: bs, v :: vs => v :: selV bs vs
  | false :: bs, _ :: vs => selV bs vs
  | _, _ => []
noncomputable def cntB (b0 b1 b2 b3 : Bool) : Nat := b0.toNat + b1.toNat + b2.toNat + b3.toNat
noncomputable def celV (v : Value) : Obj := ⟨.type "cell", none, .cell (some v), ⟨[]⟩⟩
noncomputable def bit6 (pw a e : Int) : Bool := Int.fmod (Int.fdiv (a + e) pw) 2 == 0
noncomputable def bit7 (pw a e : Int) : Bool := Int.fmod (Int.fdiv a pw) 2 == Int.fmod (Int.fdiv e pw) 2
noncomputable def PwP (pw : Int) : Prop := pw ≠ 0 ∧ pw.natAbs < 1073741824
noncomputable def fiCells (cS cP cB cA : Nat) : List (Str × Nat) := [(⟨⟨[115, 105, 100, 101, 115]⟩⟩, cS), (⟨⟨[112, 111, 119, 101, 114]⟩⟩, cP), (⟨⟨[98, 101, 104, 105, 110, 100]⟩⟩, cB), (⟨⟨[97, 104, 101, 97, 100]⟩⟩, cA)]
structure FiA where
  (cS cP cB cA lS lB lA : Nat)
noncomputable def tailFi (a : FiA) (pw : Int) (tp : Nat) (sd bh ah : I4) : Cells := [(a.cS, celO a.lS), (a.cP, celV (.int pw tp)), (a.cB, celO a.lB), (a.cA, celO a.lA), (a.lS, sd.O), (a.lB, bh.O), (a.lA, ah.O)]
noncomputable def logC6 (b2 β0 β1 β2 β3 : Bool) : List Ev := appE (cond b2 [] [.dy 0, .dy 0, .go, .dy 0, .go, .dy 0]) (appE [.go, .dy 0, .go, .dy 0, .go, .dy 0, .dy 0, .dy 0, .dy 0, .dy 0, .dy 0, .dy 0, .dy 2, .dy 2, .dy 6, .dy 2, .dy 9, .dy 9, .dy 9, .go, .dy 9, .go, .dy 9, .dy 5, .dy 2, .dy 8, .dy 8, .dy 8, .go, .dy 8, .go, .dy 8, .go, .go, .dy 4, .go, .con 0 fdivF, .go, .go, .go, .con 0 (eqIF β0)] (appE (cond β0 [.dy 3, .dy 2, .dy 7, .dy 7, .dy 7, .go, .dy 7, .go, .dy 7, .go, .dy 1, .go, .dy 1, .dy 1, .dy 1] []) (appE [.go, .dy 0, .go, .dy 0, .go, .dy 0, .dy 0, .dy 0, .dy 0, .dy 0, .dy 0, .dy 0, .dy 2, .dy 2, .dy 6, .dy 2, .dy 9, .dy 9, .dy 9, .go, .dy 9, .go, .dy 9, .dy 5, .dy 2, .dy 8, .dy 8, .dy 8, .go, .dy 8, .go, .dy 8, .go, .go, .dy 4, .go, .con 0 fdivF, .go, .go, .go, .con 0 (eqIF β1)] (appE (cond β1 [.dy 3, .dy 2, .dy 7, .dy 7, .dy 7, .go, .dy 7, .go, .dy 7, .go, .dy 1, .go, .dy 1, .dy 1, .dy 1] []) (appE [.go, .dy 0, .go, .dy 0, .go, .dy 0, .dy 0, .dy 0, .dy 0, .dy 0, .dy 0, .dy 0, .dy 2, .dy 2, .dy 6, .dy 2, .dy 9, .dy 9, .dy 9, .go, .dy 9, .go, .dy 9, .dy 5, .dy 2, .dy 8, .dy 8, .dy 8, .go, .dy 8, .go, .dy 8, .go, .go, .dy 4, .go, .con 0 fdivF, .go, .go, .go, .con 0 (eqIF β2)] (appE (cond β2 [.dy 3, .dy 2, .dy 7, .dy 7, .dy 7, .go, .dy 7, .go, .dy 7, .go, .dy 1, .go, .dy 1, .dy 1, .dy 1] []) (appE [.go, .dy 0, .go, .dy 0, .go, .dy 0, .dy 0, .dy 0, .dy 0, .dy 0, .dy 0, .dy 0, .dy 2, .dy 2, .dy 6, .dy 2, .dy 9, .dy 9, .dy 9, .go, .dy 9, .go, .dy 9, .dy 5, .dy 2, .dy 8, .dy 8, .dy 8, .go, .dy 8, .go, .dy 8, .go, .go, .dy 4, .go, .con 0 fdivF, .go, .go, .go, .con 0 (eqIF β3)] (appE (cond β3 [.dy 3, .dy 2, .dy 7, .dy 7, .dy 7, .go, .dy 7, .go, .dy 7, .go, .dy 1, .go, .dy 1, .dy 1, .dy 1] []) ([.go, .dy 0, .go, .dy 0, .go, .dy 0, .dy 0, .dy 0, .dy 11])))))))))
section
variable (w : World) (b b2 : Bool) (k : Stk) (p : Pos) (it acc ns fr : Nat) (a : FiA) (pw : Int) (tp : Nat) (sd bh ah : I4) (tk : Nat)
noncomputable def psC6 (β0 β1 β2 β3 : Bool) : List Prop := [Item.p ((Int.fmod (Int.fdiv (ah.d3 + bh.d3) pw) 2 == 0) = β3) = .p True, Item.p (pw ≠ 0 ∧ pw.natAbs < 1073741824) = .p True, Item.p ((Int.fmod (Int.fdiv (ah.d2 + bh.d2) pw) 2 == 0) = β2) = .p True, Item.p (pw ≠ 0 ∧ pw.natAbs < 1073741824) = .p True, Item.p ((Int.fmod (Int.fdiv (ah.d1 + bh.d1) pw) 2 == 0) = β1) = .p True, Item.p (pw ≠ 0 ∧ pw.natAbs < 1073741824) = .p True, Item.p ((Int.fmod (Int.fdiv (ah.d0 + bh.d0) pw) 2 == 0) = β0) = .p True, Item.p (pw ≠ 0 ∧ pw.natAbs < 1073741824) = .p True]
theorem segC6 (β0 β1 β2 β3 : Bool) (sup : List Nat) (h : sup.length = 2) : okQ [true, true, true, true, true, true, true, true, true, true] (runF w b b2 (logC6 b2 β0 β1 β2 β3) (cmS eC6 it acc ns fr (fiCells a.cS a.cP a.cB a.cA)) p (blRL k) ((it, rgI 0 4) :: (acc, lstO [] 0) :: (ns, nsX (fP w b b2) ⟨⟨[107]⟩⟩ none) :: tailFi a pw tp sd bh ah) tk sup)
    (.fin (.ok .next)) ((it, rgI 4 0) :: (acc, lstO (selV [β0, β1, β2, β3] sd.L) (cntB β0 β1 β2 β3)) :: (ns, nsX (fP w b b2) ⟨⟨[107]⟩⟩ (some (tk + 1, .int 3 (tk + 21)))) :: tailFi a pw tp sd bh ah) (psC6 pw bh ah β0 β1 β2 β3) := by
  obtain ⟨fS, rfl⟩ := sup_ex h
  cases b <;> cases b2 <;> cases β0 <;> cases β1 <;> cases β2 <;> cases β3 <;> (unfold okQ; kernel_rfl)
end
noncomputable def logC7 (b2 β0 β1 β2 β3 : Bool) : List Ev := appE (cond b2 [] [.dy 0, .dy 0, .go, .dy 0, .go, .dy 0]) (appE [.go, .dy 0, .go, .dy 0, .go, .dy 0, .dy 0, .dy 0, .dy 0, .dy 0, .dy 0, .dy 0, .dy 2, .dy 2, .dy 6, .dy 2, .dy 9, .dy 9, .dy 9, .go, .dy 9, .go, .dy 9, .dy 4, .go, .con 0 fdivF, .go, .go, .dy 5, .dy 2, .dy 8, .dy 8, .dy 8, .go, .dy 8, .go, .dy 8, .dy 4, .go, .con 0 fdivF, .go, .go, .go, .con 0 (eqIF β0)] (appE (cond β0 [.dy 3, .dy 2, .dy 7, .dy 7, .dy 7, .go, .dy 7, .go, .dy 7, .go, .dy 1, .go, .dy 1, .dy 1, .dy 1] []) (appE [.go, .dy 0, .go, .dy 0, .go, .dy 0, .dy 0, .dy 0, .dy 0, .dy 0, .dy 0, .dy 0, .dy 2, .dy 2, .dy 6, .dy 2, .dy 9, .dy 9, .dy 9, .go, .dy 9, .go, .dy 9, .dy 4, .go, .con 0 fdivF, .go, .go, .dy 5, .dy 2, .dy 8, .dy 8, .dy 8, .go, .dy 8, .go, .dy 8, .dy 4, .go, .con 0 fdivF, .go, .go, .go, .con 0 (eqIF β1)] (appE (cond β1 [.dy 3, .dy 2, .dy 7, .dy 7, .dy 7, .go, .dy 7, .go, .dy 7, .go, .dy 1, .go, .dy 1, .dy 1, .dy 1] []) (appE [.go, .dy 0, .go, .dy 0, .go, .dy 0, .dy 0, .dy 0, .dy 0, .dy 0, .dy 0, .dy 0, .dy 2, .dy 2, .dy 6, .dy 2, .dy 9, .dy 9, .dy 9, .go, .dy 9, .go, .dy 9, .dy 4, .go, .con 0 fdivF, .go, .go, .dy 5, .dy 2, .dy 8, .dy 8, .dy 8, .go, .dy 8, .go, .dy 8, .dy 4, .go, .con 0 fdivF, .go, .go, .go, .con 0 (eqIF β2)] (appE (cond β2 [.dy 3, .dy 2, .dy 7, .dy 7, .dy 7, .go, .dy 7, .go, .dy 7, .go, .dy 1, .go, .dy 1, .dy 1, .dy 1] []) (appE [.go, .dy 0, .go, .dy 0, .go, .dy 0, .dy 0, .dy 0, .dy 0, .dy 0, .dy 0, .dy 0, .dy 2, .dy 2, .dy 6, .dy 2, .dy 9, .dy 9, .dy 9, .go, .dy 9, .go, .dy 9, .dy 4, .go, .con 0 fdivF, .go, .go, .dy 5, .dy 2, .dy 8, .dy 8, .dy 8, .go, .dy 8, .go, .dy 8, .dy 4, .go, .con 0 fdivF, .go, .go, .go, .con 0 (eqIF β3)] (appE (cond β3 [.dy 3, .dy 2, .dy 7, .dy 7, .dy 7, .go, .dy 7, .go, .dy 7, .go, .dy 1, .go, .dy 1, .dy 1, .dy 1] []) ([.go, .dy 0, .go, .dy 0, .go, .dy 0, .dy 0, .dy 0, .dy 11])))))))))
section
variable (w : World) (b b2 : Bool) (k : Stk) (p : Pos) (it acc ns fr : Nat) (a : FiA) (pw : Int) (tp : Nat) (sd bh ah : I4) (tk : Nat)
noncomputable def psC7 (β0 β1 β2 β3 : Bool) : List Prop := [Item.p ((Int.fmod (Int.fdiv ah.d3 pw) 2 == Int.fmod (Int.fdiv bh.d3 pw) 2) = β3) = .p True, Item.p (pw ≠ 0 ∧ pw.natAbs < 1073741824) = .p True, Item.p (pw ≠ 0 ∧ pw.natAbs < 1073741824) = .p True, Item.p ((Int.fmod (Int.fdiv ah.d2 pw) 2 == Int.fmod (Int.fdiv bh.d2 pw) 2) = β2) = .p True, Item.p (pw ≠ 0 ∧ pw.natAbs < 1073741824) = .p True, Item.p (pw ≠ 0 ∧ pw.natAbs < 1073741824) = .p True, Item.p ((Int.fmod (Int.fdiv ah.d1 pw) 2 == Int.fmod (Int.fdiv bh.d1 pw) 2) = β1) = .p True, Item.p (pw ≠ 0 ∧ pw.natAbs < 1073741824) = .p True, Item.p (pw ≠ 0 ∧ pw.natAbs < 1073741824) = .p True, Item.p ((Int.fmod (Int.fdiv ah.d0 pw) 2 == Int.fmod (Int.fdiv bh.d0 pw) 2) = β0) = .p True, Item.p (pw ≠ 0 ∧ pw.natAbs < 1073741824) = .p True, Item.p (pw ≠ 0 ∧ pw.natAbs < 1073741824) = .p True]
theorem segC7 (β0 β1 β2 β3 : Bool) (sup : List Nat) (h : sup.length = 2) : okQ [true, true, true, true, true, true, true, true, true, true] (runF w b b2 (logC7 b2 β0 β1 β2 β3) (cmS eC7 it acc ns fr (fiCells a.cS a.cP a.cB a.cA)) p (blRL k) ((it, rgI 0 4) :: (acc, lstO [] 0) :: (ns, nsX (fP w b b2) ⟨⟨[107]⟩⟩ none) :: tailFi a pw tp sd bh ah) tk sup)
    (.fin (.ok .next)) ((it, rgI 4 0) :: (acc, lstO (selV [β0, β1, β2, β3] sd.L) (cntB β0 β1 β2 β3)) :: (ns, nsX (fP w b b2) ⟨⟨[107]⟩⟩ (some (tk + 1, .int 3 (tk + 24)))) :: tailFi a pw tp sd bh ah) (psC7 pw bh ah β0 β1 β2 β3) := by
  obtain ⟨fS, rfl⟩ := sup_ex h
  cases b <;> cases b2 <;> cases β0 <;> cases β1 <;> cases β2 <;> cases β3 <;> (unfold okQ; kernel_rfl)
end
structure FiY where
  (it acc ns fr : Nat) (k : Stk) (a : FiA) (pw : Int) (tp : Nat) (sd bh ah : I4)
noncomputable def celW : Obj → Value
  | ⟨_, _, .cell (some v), _⟩ => v
  | _ => .none
noncomputable def fiOf (iS iP iB iA jS jB jA : Nat) (c : Code) (bl : List (Code × Pos)) (cs : Cells) (_ : Nat) : FiY := ⟨(refS c).1, (refS c).2.1, (refS c).2.2.1, (refS c).2.2.2, stkRL bl, ⟨adAt cs iS, adAt cs iP, adAt cs iB, adAt cs iA, adAt cs jS, adAt cs jB, adAt cs jA⟩, intI (celW (objAt cs iP)), tokV (celW (objAt cs iP)), i4At cs jS, i4At cs jB, i4At cs jA⟩
theorem psC6_of {pw : Int} {bh ah : I4} (h : PwP pw) : ∀ P ∈ psC6 pw bh ah (bit6 pw ah.d0 bh.d0) (bit6 pw ah.d1 bh.d1) (bit6 pw ah.d2 bh.d2) (bit6 pw ah.d3 bh.d3), P := by
  intro P hP
  have t : ∀ {Q : Prop}, Q → (Item.p Q = Item.p True) := fun z => by rw [eq_true z]
  simp only [psC6, List.mem_cons, List.not_mem_nil, or_false] at hP
  rcases hP with rfl | rfl | rfl | rfl | rfl | rfl | rfl | rfl <;> first | exact t h | exact t rfl
noncomputable def FC6 (P : Params) (ii ia ins iS iP iB iA jS jB jA : Nat) : ConF := fun c bl cs tk ns => (fun (y : FiY) => reqF (PwP y.pw) (conOf (cmS eC6 y.it y.acc y.ns y.fr (fiCells y.a.cS y.a.cP y.a.cB y.a.cA)) (fun _ => blRL y.k) [(ii, y.it, rgI 0 4), (ia, y.acc, lstO [] 0), (ins, y.ns, nsX P ⟨⟨[107]⟩⟩ none), (iS, y.a.cS, celO y.a.lS), (iP, y.a.cP, celV (.int y.pw y.tp)), (iB, y.a.cB, celO y.a.lB), (iA, y.a.cA, celO y.a.lA), (jS, y.a.lS, y.sd.O), (jB, y.a.lB, y.bh.O), (jA, y.a.lA, y.ah.O)] fun ns => ⟨.ok .next, [rgI 4 0, lstO (selV [bit6 y.pw y.ah.d0 y.bh.d0, bit6 y.pw y.ah.d1 y.bh.d1, bit6 y.pw y.ah.d2 y.bh.d2, bit6 y.pw y.ah.d3 y.bh.d3] y.sd.L) (cntB (bit6 y.pw y.ah.d0 y.bh.d0) (bit6 y.pw y.ah.d1 y.bh.d1) (bit6 y.pw y.ah.d2 y.bh.d2) (bit6 y.pw y.ah.d3 y.bh.d3)), nsX P ⟨⟨[107]⟩⟩ (some (getN ns 0, .int 3 (getN ns 1))), celO y.a.lS, celV (.int y.pw y.tp), celO y.a.lB, celO y.a.lA, y.sd.O, y.bh.O, y.ah.O], [], getN ns 2⟩)) (fiOf iS iP iB iA jS jB jA c bl cs tk) c bl cs tk ns
theorem FC6_sound {w : World} {b b2 : Bool} (ii ia ins iS iP iB iA jS jB jA : Nat) (hi : [ii, ia, ins, iS, iP, iB, iA, jS, jB, jA].Nodup) : ConSound (MM w b b2) (KT' w b b2) 3 (FC6 (fP w b b2) ii ia ins iS iP iB iA jS jB jA) := by
  refine ConSound.byC (fiOf iS iP iB iA jS jB jA) (F := fun y => reqF (PwP y.pw) (conOf (cmS eC6 y.it y.acc y.ns y.fr (fiCells y.a.cS y.a.cP y.a.cB y.a.cA)) (fun _ => blRL y.k) [(ii, y.it, rgI 0 4), (ia, y.acc, lstO [] 0), (ins, y.ns, nsX (fP w b b2) ⟨⟨[107]⟩⟩ none), (iS, y.a.cS, celO y.a.lS), (iP, y.a.cP, celV (.int y.pw y.tp)), (iB, y.a.cB, celO y.a.lB), (iA, y.a.cA, celO y.a.lA), (jS, y.a.lS, y.sd.O), (jB, y.a.lB, y.bh.O), (jA, y.a.lA, y.ah.O)] fun ns => ⟨.ok .next, [rgI 4 0, lstO (selV [bit6 y.pw y.ah.d0 y.bh.d0, bit6 y.pw y.ah.d1 y.bh.d1, bit6 y.pw y.ah.d2 y.bh.d2, bit6 y.pw y.ah.d3 y.bh.d3] y.sd.L) (cntB (bit6 y.pw y.ah.d0 y.bh.d0) (bit6 y.pw y.ah.d1 y.bh.d1) (bit6 y.pw y.ah.d2 y.bh.d2) (bit6 y.pw y.ah.d3 y.bh.d3)), nsX (fP w b b2) ⟨⟨[107]⟩⟩ (some (getN ns 0, .int 3 (getN ns 1))), celO y.a.lS, celV (.int y.pw y.tp), celO y.a.lB, celO y.a.lA, y.sd.O, y.bh.O, y.ah.O], [], getN ns 2⟩)) fun y => reqF_sound fun hq => ?_
  refine conOf_sound hi fun s tk p pp I => ?_
  refine segQ (MM_den w b b2) rfl rfl _ (fun sup hs => segC6 w b b2 y.k p y.it y.acc y.ns y.fr y.a y.pw y.tp y.sd y.bh y.ah tk (bit6 y.pw y.ah.d0 y.bh.d0) (bit6 y.pw y.ah.d1 y.bh.d1) (bit6 y.pw y.ah.d2 y.bh.d2) (bit6 y.pw y.ah.d3 y.bh.d3) sup hs) (fun sup hs => psC6_of hq) (by
    generalize (bit6 y.pw y.ah.d0 y.bh.d0) = β0; generalize (bit6 y.pw y.ah.d1 y.bh.d1) = β1; generalize (bit6 y.pw y.ah.d2 y.bh.d2) = β2; generalize (bit6 y.pw y.ah.d3 y.bh.d3) = β3
    cases b2 <;> cases β0 <;> cases β1 <;> cases β2 <;> cases β3 <;> exact ⟨fdivF_sound _ _ _, eqIF_sound _ _ _ _, fdivF_sound _ _ _, eqIF_sound _ _ _ _, fdivF_sound _ _ _, eqIF_sound _ _ _ _, fdivF_sound _ _ _, eqIF_sound _ _ _ _, trivial⟩) I fun sup s' tk' hs I' => ?_
  exact ⟨[tk + 1, tk + 21, tk'], rfl, rfl, rfl, I'⟩
theorem psC7_of {pw : Int} {bh ah : I4} (h : PwP pw) : ∀ P ∈ psC7 pw bh ah (bit7 pw ah.d0 bh.d0) (bit7 pw ah.d1 bh.d1) (bit7 pw ah.d2 bh.d2) (bit7 pw ah.d3 bh.d3), P := by
  intro P hP
  have t : ∀ {Q : Prop}, Q → (Item.p Q = Item.p True) := fun z => by rw [eq_true z]
  simp only [psC7, List.mem_cons, List.not_mem_nil, or_false] at hP
  rcases hP with rfl | rfl | rfl | rfl | rfl | rfl | rfl | rfl | rfl | rfl | rfl | rfl <;> first | exact t h | exact t rfl
noncomputable def FC7 (P : Params) (ii ia ins iS iP iB iA jS jB jA : Nat) : ConF := fun c bl cs tk ns => (fun (y : FiY) => reqF (PwP y.pw) (conOf (cmS eC7 y.it y.acc y.ns y.fr (fiCells y.a.cS y.a.cP y.a.cB y.a.cA)) (fun _ => blRL y.k) [(ii, y.it, rgI 0 4), (ia, y.acc, lstO [] 0), (ins, y.ns, nsX P ⟨⟨[107]⟩⟩ none), (iS, y.a.cS, celO y.a.lS), (iP, y.a.cP, celV (.int y.pw y.tp)), (iB, y.a.cB, celO y.a.lB), (iA, y.a.cA, celO y.a.lA), (jS, y.a.lS, y.sd.O), (jB, y.a.lB, y.bh.O), (jA, y.a.lA, y.ah.O)] fun ns => ⟨.ok .next, [rgI 4 0, lstO (selV [bit7 y.pw y.ah.d0 y.bh.d0, bit7 y.pw y.ah.d1 y.bh.d1, bit7 y.pw y.ah.d2 y.bh.d2, bit7 y.pw y.ah.d3 y.bh.d3] y.sd.L) (cntB (bit7 y.pw y.ah.d0 y.bh.d0) (bit7 y.pw y.ah.d1 y.bh.d1) (bit7 y.pw y.ah.d2 y.bh.d2) (bit7 y.pw y.ah.d3 y.bh.d3)), nsX P ⟨⟨[107]⟩⟩ (some (getN ns 0, .int 3 (getN ns 1))), celO y.a.lS, celV (.int y.pw y.tp), celO y.a.lB, celO y.a.lA, y.sd.O, y.bh.O, y.ah.O], [], getN ns 2⟩)) (fiOf iS iP iB iA jS jB jA c bl cs tk) c bl cs tk ns
theorem FC7_sound {w : World} {b b2 : Bool} (ii ia ins iS iP iB iA jS jB jA : Nat) (hi : [ii, ia, ins, iS, iP, iB, iA, jS, jB, jA].Nodup) : ConSound (MM w b b2) (KT' w b b2) 3 (FC7 (fP w b b2) ii ia ins iS iP iB iA jS jB jA) := by
  refine ConSound.byC (fiOf iS iP iB iA jS jB jA) (F := fun y => reqF (PwP y.pw) (conOf (cmS eC7 y.it y.acc y.ns y.fr (fiCells y.a.cS y.a.cP y.a.cB y.a.cA)) (fun _ => blRL y.k) [(ii, y.it, rgI 0 4), (ia, y.acc, lstO [] 0), (ins, y.ns, nsX (fP w b b2) ⟨⟨[107]⟩⟩ none), (iS, y.a.cS, celO y.a.lS), (iP, y.a.cP, celV (.int y.pw y.tp)), (iB, y.a.cB, celO y.a.lB), (iA, y.a.cA, celO y.a.lA), (jS, y.a.lS, y.sd.O), (jB, y.a.lB, y.bh.O), (jA, y.a.lA, y.ah.O)] fun ns => ⟨.ok .next, [rgI 4 0, lstO (selV [bit7 y.pw y.ah.d0 y.bh.d0, bit7 y.pw y.ah.d1 y.bh.d1, bit7 y.pw y.ah.d2 y.bh.d2, bit7 y.pw y.ah.d3 y.bh.d3] y.sd.L) (cntB (bit7 y.pw y.ah.d0 y.bh.d0) (bit7 y.pw y.ah.d1 y.bh.d1) (bit7 y.pw y.ah.d2 y.bh.d2) (bit7 y.pw y.ah.d3 y.bh.d3)), nsX (fP w b b2) ⟨⟨[107]⟩⟩ (some (getN ns 0, .int 3 (getN ns 1))), celO y.a.lS, celV (.int y.pw y.tp), celO y.a.lB, celO y.a.lA, y.sd.O, y.bh.O, y.ah.O], [], getN ns 2⟩)) fun y => reqF_sound fun hq => ?_
  refine conOf_sound hi fun s tk p pp I => ?_
  refine segQ (MM_den w b b2) rfl rfl _ (fun sup hs => segC7 w b b2 y.k p y.it y.acc y.ns y.fr y.a y.pw y.tp y.sd y.bh y.ah tk (bit7 y.pw y.ah.d0 y.bh.d0) (bit7 y.pw y.ah.d1 y.bh.d1) (bit7 y.pw y.ah.d2 y.bh.d2) (bit7 y.pw y.ah.d3 y.bh.d3) sup hs) (fun sup hs => psC7_of hq) (by
    generalize (bit7 y.pw y.ah.d0 y.bh.d0) = β0; generalize (bit7 y.pw y.ah.d1 y.bh.d1) = β1; generalize (bit7 y.pw y.ah.d2 y.bh.d2) = β2; generalize (bit7 y.pw y.ah.d3 y.bh.d3) = β3
    cases b2 <;> cases β0 <;> cases β1 <;> cases β2 <;> cases β3 <;> exact ⟨fdivF_sound _ _ _, fdivF_sound _ _ _, eqIF_sound _ _ _ _, fdivF_sound _ _ _, fdivF_sound _ _ _, eqIF_sound _ _ _ _, fdivF_sound _ _ _, fdivF_sound _ _ _, eqIF_sound _ _ _ _, fdivF_sound _ _ _, fdivF_sound _ _ _, eqIF_sound _ _ _ _, trivial⟩) I fun sup s' tk' hs I' => ?_
  exact ⟨[tk + 1, tk + 24, tk'], rfl, rfl, rfl, I'⟩
/-! how many are true -/
noncomputable def boolV : Value → Bool
  | .bool b => b
  | _ => false
noncomputable def b4 (e0 e1 e2 e3 : Bool) : List Value := [.bool e0, .bool e1, .bool e2, .bool e3]
noncomputable def logCt (l : List Ev) : List Ev := l
end Mine

/-! part LW4 -/
namespace Mine
open PySem PySem.W PySem.W.X PySem.Spec PySem.Calls PyProof.Rows

/-! list.count(True) of four bools -/
noncomputable def cCt (l : Nat) : Code := .builtin "list.count" ⟨[.ref l, .bool true], []⟩
noncomputable def logCnt (e0 e1 e2 e3 : Bool) : List Ev := appE [.go, .dy 0] (appE (cond e0 [] [.go, .go]) (appE [.go, .dy 0] (appE (cond e1 [] [.go, .go]) (appE [.go, .dy 0] (appE (cond e2 [] [.go, .go]) (appE [.go, .dy 0] (appE (cond e3 [] [.go, .go]) [.go, .dy 0])))))))
section
variable (w : World) (b b2 : Bool) (bl : List (Code × Pos)) (p : Pos) (l m tk : Nat) (e0 e1 e2 e3 : Bool)
theorem segCnt (sup : List Nat) (h : sup.length = 0) : okQ [true] (runF w b b2 (logCnt e0 e1 e2 e3) (cCt l) p bl [(l, lstO (b4 e0 e1 e2 e3) m)] tk sup)
    (.fin (.ok (.ret (.int (cntB e0 e1 e2 e3 : Nat) tk)))) [(l, lstO (b4 e0 e1 e2 e3) m)] [] := by
  match sup, h with
  | [], _ => cases b <;> cases e0 <;> cases e1 <;> cases e2 <;> cases e3 <;> (unfold okQ; kernel_rfl)
end
structure CtY where
  (l m : Nat) (e0 e1 e2 e3 : Bool) (bl : List (Code × Pos))
noncomputable def ctOf (il : Nat) (_ : Code) (bl : List (Code × Pos)) (cs : Cells) (_ : Nat) : CtY := ⟨adAt cs il, seqN (objAt cs il), boolV (nthV (seqV (objAt cs il)) 0), boolV (nthV (seqV (objAt cs il)) 1), boolV (nthV (seqV (objAt cs il)) 2), boolV (nthV (seqV (objAt cs il)) 3), bl⟩
noncomputable def cntF (il : Nat) : ConF := fun c bl cs tk ns => (fun (y : CtY) => conOf (cCt y.l) (fun _ => y.bl) [(il, y.l, lstO (b4 y.e0 y.e1 y.e2 y.e3) y.m)] fun ns => ⟨.ok (.ret (.int (cntB y.e0 y.e1 y.e2 y.e3 : Nat) (getN ns 0))), [lstO (b4 y.e0 y.e1 y.e2 y.e3) y.m], [], getN ns 1⟩) (ctOf il c bl cs tk) c bl cs tk ns
theorem cntF_sound {w : World} {b b2 : Bool} (il : Nat) : ConSound (MM w b b2) (KT' w b b2) 2 (cntF il) := by
  refine ConSound.byC (ctOf il) (F := fun y => conOf (cCt y.l) (fun _ => y.bl) [(il, y.l, lstO (b4 y.e0 y.e1 y.e2 y.e3) y.m)] fun ns => ⟨.ok (.ret (.int (cntB y.e0 y.e1 y.e2 y.e3 : Nat) (getN ns 0))), [lstO (b4 y.e0 y.e1 y.e2 y.e3) y.m], [], getN ns 1⟩) fun y => ?_
  refine conOf_sound (by simp) fun s tk p pp I => ?_
  refine segQ (MM_den w b b2) rfl rfl _ (fun sup hs => segCnt w b b2 y.bl p y.l y.m tk y.e0 y.e1 y.e2 y.e3 sup hs) (fun sup hs => fun P hP => nomatch hP) (by
    generalize y.e0 = e0; generalize y.e1 = e1; generalize y.e2 = e2; generalize y.e3 = e3
    cases e0 <;> cases e1 <;> cases e2 <;> cases e3 <;> trivial) I fun sup s' tk' hs I' => ?_
  exact ⟨[tk, tk'], rfl, rfl, rfl, I'⟩
noncomputable def neIF (v : Bool) : ConF := fun c _ _ tk _ => match c with
  | .builtin id ⟨[.int a _, .int e _], []⟩ => some ⟨.ok (.ret (.bool v)), [], [], tk, [(.a (PySem.code id), .a (PySem.code "int.__ne__")), (.p ((a != e) = v), .p True)]⟩
  | _ => none
theorem neIF_sound (pg : Program) (w : World) (kt : KT) (v : Bool) : ConSound (model pg w) kt 0 (neIF v) := by
  intro c bl p cs tk gs s₀ T s I H
  obtain ⟨po, hF, chk⟩ := H [] rfl
  unfold neIF at hF
  split at hF
  · rename_i id a t e u
    cases hF
    have e1 : id = "int.__ne__" := PySem.code_inj _ _ (Item.a.inj (chk _ (.head _)))
    have e2 : (a != e) = v := by rw [Item.p.inj (chk _ (.tail _ (.head _)))]; trivial
    subst e1
    refine wpCode_meets (by decide +kernel) F.entry_int_ne (gives_int_ne a e t u).meets ?_
    show ∃ ns po, _
    rw [e2]
    exact ⟨[], _, rfl, rfl, rfl, by show Inv kt s₀ T s (cs ++ []) tk gs; rw [List.append_nil]; exact I⟩
  · cases hF
/-- len of a text -/
noncomputable def lenF : ConF := fun c _ _ tk _ => match c with
  | .builtin id ⟨[.str x _], []⟩ => some ⟨.ok (.ret (.int ((x.cps.toList.length : Nat) : Int) (tk + 1))), [], [], tk + 1 + 1, [(.a (PySem.code id), .a (PySem.code "len")), (.p (x.cps.toList.length ≤ 1000000), .p True)]⟩
  | _ => none
theorem lenF_sound (pg : Program) (w : World) (kt : KT) : ConSound (model pg w) kt 0 lenF := by
  intro c bl p cs tk gs s₀ T s I H
  obtain ⟨po, hF, chk⟩ := H [] rfl
  unfold lenF at hF
  split at hF
  · rename_i id x t
    cases hF
    have e1 : id = "len" := PySem.code_inj _ _ (Item.a.inj (chk _ (.head _)))
    have e2 : x.cps.toList.length ≤ 1000000 := by rw [Item.p.inj (chk _ (.tail _ (.head _)))]; trivial
    subst e1
    have hx : (x.length : Nat) = x.cps.toList.length := len_cps x
    refine wpCode_any (by decide +kernel) entry_len fun A hA => ?_
    unfold Builtin.«len»
    refine wpAny_bind (m := oneArg "len" _) (wpAny_pure ?_)
    refine wpAny_bind (m := callSpecial? (.str x t) (Str.ofString "__len__")) (wpAny_callSpecial?_slot (name := Str.ofString "__len__") (typeIs_str s x t) F.slot_str_len (call_gives F.slot_str_len (typeIs_str s x t) F.entry_str_len (F.args_str_len_1 _) (gives_str_len x t) ?_))
    show wpAny _ _ _ _ _ { s with toks := s.toks + 1 }
    refine wpAny_bind (wpAny_holding (wpAny_pure ?_))
    refine wpAny_bind (wpAny_letGo ?_)
    show wpAny _ _ (if ((x.length : Nat) : Int) < 0 then _ else _) _ _ _
    rw [if_neg (by omega)]
    show wpAny _ _ (if ((x.length : Nat) : Int) ≥ 2 ^ 63 then _ else _) _ _ _
    rw [if_neg (by omega)]
    refine wpAny_bind (wpAny_mkInt (wpAny_pure ⟨_, rfl, [], _, rfl, rfl, ?_, ?_⟩))
    · show (Except.ok (.ret (.int ((x.length : Nat) : Int) (s.toks + 1))) : Result) = _
      rw [hx, I.tk]
    · show Inv kt s₀ T _ (cs ++ []) (tk + 1 + 1) gs
      rw [List.append_nil, ← I.tk]
      exact I.toks _
  · cases hF
end Mine

/-! part LW5 -/
namespace Mine
open PySem PySem.W PySem.W.X PySem.Spec PySem.Calls PyProof.Rows

/-! the turns of law's loop -/
structure LpA where
  (it F cP cS cO cU cSd cB cA lL lE lU lSd lB lA cDr cUs cSc : Nat)
structure LpF where
  (k0 k1 k2 t0 : Nat) (tx : List Nat)
noncomputable def envLw (a : LpA) : Env := { scope := lawSc, locals := a.F, globals := 3, cells := [(⟨⟨[111, 116, 104, 101, 114]⟩⟩, a.cO), (⟨⟨[115, 104, 111, 119, 110]⟩⟩, a.cS), (⟨⟨[112, 111, 119, 101, 114]⟩⟩, a.cP), (⟨⟨[117, 110, 108, 105, 107, 101]⟩⟩, a.cU), (⟨⟨[98, 101, 104, 105, 110, 100]⟩⟩, a.cB), (⟨⟨[97, 104, 101, 97, 100]⟩⟩, a.cA), (⟨⟨[115, 105, 100, 101, 115]⟩⟩, a.cSd), (⟨⟨[100, 114, 97, 119, 110]⟩⟩, a.cDr), (⟨⟨[117, 110, 115, 101, 101, 110]⟩⟩, a.cUs), (⟨⟨[115, 99, 114, 105, 112, 116]⟩⟩, a.cSc)], qual := ⟨⟨[108, 97, 119, 46, 60, 108, 111, 99, 97, 108, 115, 62, 46]⟩⟩, func := some 143, code := .ref 142, frame := some a.F, builtins := 0 }
noncomputable def gForL : Expr × List Stmt × List Stmt := forParts (nthS lawB 9)
noncomputable def cLw (a : LpA) : Code := .forLoop gForL.1 (.ref a.it) gForL.2.1 gForL.2.2 (envLw a)
noncomputable def oFw (P : Params) (a : LpA) (f : LpF) : Option (Nat × Int × Nat) → Obj
  | none => ⟨.type "frame", none, .dict ⟨[ent P ⟨⟨[116, 101, 120, 116]⟩⟩ f.k0 (.str ⟨⟨f.tx⟩⟩ f.t0), ent P ⟨⟨[108, 97, 116, 101]⟩⟩ f.k1 (.ref a.lL), ent P ⟨⟨[101, 97, 114, 108, 121]⟩⟩ f.k2 (.ref a.lE)]⟩ 3, ⟨[]⟩⟩
  | some (k, v, t) => ⟨.type "frame", none, .dict ⟨[ent P ⟨⟨[116, 101, 120, 116]⟩⟩ f.k0 (.str ⟨⟨f.tx⟩⟩ f.t0), ent P ⟨⟨[108, 97, 116, 101]⟩⟩ f.k1 (.ref a.lL), ent P ⟨⟨[101, 97, 114, 108, 121]⟩⟩ f.k2 (.ref a.lE), ent P ⟨⟨[114]⟩⟩ k (.int v t)]⟩ 4, ⟨[]⟩⟩
noncomputable def celN : Option Value → Obj
  | none => ⟨.type "cell", none, .cell none, ⟨[]⟩⟩
  | some v => celV v
/-- what changes from turn to turn: the place, the frame's r, power, shown, other -/
noncomputable def csLw (P : Params) (a : LpA) (f : LpF) (j n : Int) (z : Option (Nat × Int × Nat)) (vP vS vO : Option Value) (xs ys : X4) (rows : List Value) (m : Nat) (sd bh ah : I4) : Cells :=
  [(a.it, rgI j n), (a.F, oFw P a f z), (a.cP, celN vP), (a.cS, celN vS), (a.cO, celN vO), (a.cU, celO a.lU), (a.cSd, celO a.lSd), (a.cB, celO a.lB), (a.cA, celO a.lA), (a.lL, xs.O), (a.lE, ys.O), (a.lU, lstO rows m), (a.lSd, sd.O), (a.lB, bh.O), (a.lA, ah.O)]
structure Un4 where
  (u0 u1 u2 u3 : List Nat)
noncomputable def rowO (u v : Un4) : Obj := lstO [.bool (neL u.u0 v.u0), .bool (neL u.u1 v.u1), .bool (neL u.u2 v.u2), .bool (neL u.u3 v.u3)] 4
noncomputable def sel6 (pw : Int) (sd bh ah : I4) : List Value := selV [bit6 pw ah.d0 bh.d0, bit6 pw ah.d1 bh.d1, bit6 pw ah.d2 bh.d2, bit6 pw ah.d3 bh.d3] sd.L
noncomputable def sel7 (pw : Int) (sd bh ah : I4) : List Value := selV [bit7 pw ah.d0 bh.d0, bit7 pw ah.d1 bh.d1, bit7 pw ah.d2 bh.d2, bit7 pw ah.d3 bh.d3] sd.L
noncomputable def neC (u v : Un4) : Nat := cntB (neL u.u0 v.u0) (neL u.u1 v.u1) (neL u.u2 v.u2) (neL u.u3 v.u3)
noncomputable def psLw (pw : Int) (lt er : List Nat) (u v : Un4) (oe ol : List Nat) (sd bh ah : I4) : List Prop :=
  [Item.p (ClP (sel7 pw sd bh ah) ol) = .p True, Item.p (PwP pw) = .p True, Item.p (ClP (sel6 pw sd bh ah) oe) = .p True, Item.p (PwP pw) = .p True, Item.p ((((er.length : Nat) : Int) - ((lt.length : Nat) : Int) != ((neC u v : Nat) : Int)) = false) = .p True, Item.p (lt.length ≤ 1000000) = .p True, Item.p (er.length ≤ 1000000) = .p True, Item.p (((4 : Int) != 4) = false) = .p True, Item.p (((4 : Int) != 4) = false) = .p True]
noncomputable def logT0 (P : Params) (BA BB KA CA KB CB : ConF) : List Ev := [.dy 0, .go, .dy 0, .go, .dy 0, .dy 0, .dy 0, .dy 0, .dy 0, .dy 0, .dy 0, .dy 1, .dy 1, .dy 1, .go, .go, .dy 2, .dy 2, .st, .dy 1, .dy 1, .dy 9, .dy 9, .dy 9, .go, .dy 9, .go, .dy 9, .st, .con 7 BA, .dy 3, .dy 3, .st, .dy 1, .dy 1, .dy 10, .dy 10, .dy 10, .go, .dy 10, .go, .dy 10, .st, .con 7 BB, .dy 4, .dy 4, .st, .st, .dy 3, .go, .go, .dy 15, .go, .dy 15, .go, .dy 15, .go, .con 0 (neIF false), .st, .st, .dy 4, .go, .go, .dy 16, .go, .dy 16, .go, .dy 16, .go, .con 0 (neIF false), .dy 5, .dy 11, .dy 11, .dy 11, .dy 11, .st, .st, .go, .go, .go, .go, .dy 17, .dy 17, .go, .dy 17, .go, .dy 17, .dy 17, .dy 17, .go, .dy 17, .go, .dy 17, .dy 17, .dy 17, .dy 18, .con 3 (FNe P 18 19 20 3 4 15 16), .dy 20, .dy 20, .dy 20, .go, .dy 11, .go, .dy 11, .dy 11, .dy 11, .st, .st, .dy 1, .dy 1, .dy 10, .dy 10, .dy 10, .go, .dy 10, .go, .dy 10, .go, .con 0 lenF, .st, .st, .dy 1, .dy 1, .dy 9, .dy 9, .dy 9, .go, .dy 9, .go, .dy 9, .go, .con 0 lenF, .go, .go, .dy 5, .dy 1, .dy 11, .dy 11, .dy 11, .go, .dy 11, .go, .dy 11, .dy 19, .dy 19, .dy 19, .dy 19, .go, .dy 19, .con 2 (cntF 19), .go, .con 0 (neIF false), .st, .dy 1, .dy 1, .dy 10, .dy 10, .dy 10, .go, .dy 10, .go, .dy 10, .st, .con 1 KA, .st, .st, .st, .go, .go, .go, .go, .dy 21, .dy 21, .go, .dy 21, .go, .dy 21, .dy 21, .dy 21, .go, .dy 21, .go, .dy 21, .dy 21, .dy 21, .dy 22, .con 3 (FC6 P 22 23 24 6 2 7 8 12 13 14), .dy 24, .dy 24, .dy 24, .st, .con 1 CA, .st, .dy 1, .dy 1, .dy 9, .dy 9, .dy 9, .go, .dy 9, .go, .dy 9, .st, .con 1 KB, .st, .st, .st, .go, .go, .go, .go, .dy 25, .dy 25, .go, .dy 25, .go, .dy 25, .dy 25, .dy 25, .go, .dy 25, .go, .dy 25, .dy 25, .dy 25, .dy 26, .con 3 (FC7 P 26 27 28 6 2 7 8 12 13 14), .dy 28, .dy 28, .dy 28, .st, .con 1 CB, .stop]
noncomputable def logT1 (P : Params) (BA BB KA CA KB CB : ConF) : List Ev := [.dy 0, .go, .dy 0, .go, .dy 0, .dy 0, .dy 0, .dy 0, .dy 0, .dy 0, .dy 0, .dy 1, .dy 1, .dy 1, .go, .go, .dy 2, .dy 2, .st, .dy 1, .dy 1, .dy 9, .dy 9, .dy 9, .go, .dy 9, .go, .dy 9, .st, .con 7 BA, .dy 3, .dy 3, .st, .dy 1, .dy 1, .dy 10, .dy 10, .dy 10, .go, .dy 10, .go, .dy 10, .st, .con 7 BB, .dy 4, .dy 4, .st, .st, .dy 3, .go, .go, .dy 16, .go, .dy 16, .go, .dy 16, .go, .con 0 (neIF false), .st, .st, .dy 4, .go, .go, .dy 17, .go, .dy 17, .go, .dy 17, .go, .con 0 (neIF false), .dy 5, .dy 11, .dy 11, .dy 11, .dy 11, .st, .st, .go, .go, .go, .go, .dy 18, .dy 18, .go, .dy 18, .go, .dy 18, .dy 18, .dy 18, .go, .dy 18, .go, .dy 18, .dy 18, .dy 18, .dy 19, .con 3 (FNe P 19 20 21 3 4 16 17), .dy 21, .dy 21, .dy 21, .go, .dy 11, .go, .dy 11, .dy 11, .dy 11, .st, .st, .dy 1, .dy 1, .dy 10, .dy 10, .dy 10, .go, .dy 10, .go, .dy 10, .go, .con 0 lenF, .st, .st, .dy 1, .dy 1, .dy 9, .dy 9, .dy 9, .go, .dy 9, .go, .dy 9, .go, .con 0 lenF, .go, .go, .dy 5, .dy 1, .dy 11, .dy 11, .dy 11, .go, .dy 11, .go, .dy 11, .dy 20, .dy 20, .dy 20, .dy 20, .go, .dy 20, .con 2 (cntF 20), .go, .con 0 (neIF false), .st, .dy 1, .dy 1, .dy 10, .dy 10, .dy 10, .go, .dy 10, .go, .dy 10, .st, .con 1 KA, .st, .st, .st, .go, .go, .go, .go, .dy 22, .dy 22, .go, .dy 22, .go, .dy 22, .dy 22, .dy 22, .go, .dy 22, .go, .dy 22, .dy 22, .dy 22, .dy 23, .con 3 (FC6 P 23 24 25 6 2 7 8 12 13 14), .dy 25, .dy 25, .dy 25, .st, .con 1 CA, .st, .dy 1, .dy 1, .dy 9, .dy 9, .dy 9, .go, .dy 9, .go, .dy 9, .st, .con 1 KB, .st, .st, .st, .go, .go, .go, .go, .dy 26, .dy 26, .go, .dy 26, .go, .dy 26, .dy 26, .dy 26, .go, .dy 26, .go, .dy 26, .dy 26, .dy 26, .dy 27, .con 3 (FC7 P 27 28 29 6 2 7 8 12 13 14), .dy 29, .dy 29, .dy 29, .st, .con 1 CB, .stop]
noncomputable def logT2 (P : Params) (BA BB KA CA KB CB : ConF) : List Ev := [.dy 0, .go, .dy 0, .go, .dy 0, .dy 0, .dy 0, .dy 0, .dy 0, .dy 0, .dy 0, .dy 1, .dy 1, .dy 1, .go, .go, .dy 2, .dy 2, .st, .dy 1, .dy 1, .dy 9, .dy 9, .dy 9, .go, .dy 9, .go, .dy 9, .st, .con 7 BA, .dy 3, .dy 3, .st, .dy 1, .dy 1, .dy 10, .dy 10, .dy 10, .go, .dy 10, .go, .dy 10, .st, .con 7 BB, .dy 4, .dy 4, .st, .st, .dy 3, .go, .go, .dy 17, .go, .dy 17, .go, .dy 17, .go, .con 0 (neIF false), .st, .st, .dy 4, .go, .go, .dy 18, .go, .dy 18, .go, .dy 18, .go, .con 0 (neIF false), .dy 5, .dy 11, .dy 11, .dy 11, .dy 11, .st, .st, .go, .go, .go, .go, .dy 19, .dy 19, .go, .dy 19, .go, .dy 19, .dy 19, .dy 19, .go, .dy 19, .go, .dy 19, .dy 19, .dy 19, .dy 20, .con 3 (FNe P 20 21 22 3 4 17 18), .dy 22, .dy 22, .dy 22, .go, .dy 11, .go, .dy 11, .dy 11, .dy 11, .st, .st, .dy 1, .dy 1, .dy 10, .dy 10, .dy 10, .go, .dy 10, .go, .dy 10, .go, .con 0 lenF, .st, .st, .dy 1, .dy 1, .dy 9, .dy 9, .dy 9, .go, .dy 9, .go, .dy 9, .go, .con 0 lenF, .go, .go, .dy 5, .dy 1, .dy 11, .dy 11, .dy 11, .go, .dy 11, .go, .dy 11, .dy 21, .dy 21, .dy 21, .dy 21, .go, .dy 21, .con 2 (cntF 21), .go, .con 0 (neIF false), .st, .dy 1, .dy 1, .dy 10, .dy 10, .dy 10, .go, .dy 10, .go, .dy 10, .st, .con 1 KA, .st, .st, .st, .go, .go, .go, .go, .dy 23, .dy 23, .go, .dy 23, .go, .dy 23, .dy 23, .dy 23, .go, .dy 23, .go, .dy 23, .dy 23, .dy 23, .dy 24, .con 3 (FC6 P 24 25 26 6 2 7 8 12 13 14), .dy 26, .dy 26, .dy 26, .st, .con 1 CA, .st, .dy 1, .dy 1, .dy 9, .dy 9, .dy 9, .go, .dy 9, .go, .dy 9, .st, .con 1 KB, .st, .st, .st, .go, .go, .go, .go, .dy 27, .dy 27, .go, .dy 27, .go, .dy 27, .dy 27, .dy 27, .go, .dy 27, .go, .dy 27, .dy 27, .dy 27, .dy 28, .con 3 (FC7 P 28 29 30 6 2 7 8 12 13 14), .dy 30, .dy 30, .dy 30, .st, .con 1 CB, .stop]
noncomputable def logT3 (P : Params) (BA BB KA CA KB CB : ConF) : List Ev := [.dy 0, .go, .dy 0, .go, .dy 0, .dy 0, .dy 0, .dy 0, .dy 0, .dy 0, .dy 0, .dy 1, .dy 1, .dy 1, .go, .go, .dy 2, .dy 2, .st, .dy 1, .dy 1, .dy 9, .dy 9, .dy 9, .go, .dy 9, .go, .dy 9, .st, .con 7 BA, .dy 3, .dy 3, .st, .dy 1, .dy 1, .dy 10, .dy 10, .dy 10, .go, .dy 10, .go, .dy 10, .st, .con 7 BB, .dy 4, .dy 4, .st, .st, .dy 3, .go, .go, .dy 18, .go, .dy 18, .go, .dy 18, .go, .con 0 (neIF false), .st, .st, .dy 4, .go, .go, .dy 19, .go, .dy 19, .go, .dy 19, .go, .con 0 (neIF false), .dy 5, .dy 11, .dy 11, .dy 11, .dy 11, .st, .st, .go, .go, .go, .go, .dy 20, .dy 20, .go, .dy 20, .go, .dy 20, .dy 20, .dy 20, .go, .dy 20, .go, .dy 20, .dy 20, .dy 20, .dy 21, .con 3 (FNe P 21 22 23 3 4 18 19), .dy 23, .dy 23, .dy 23, .go, .dy 11, .go, .dy 11, .dy 11, .dy 11, .st, .st, .dy 1, .dy 1, .dy 10, .dy 10, .dy 10, .go, .dy 10, .go, .dy 10, .go, .con 0 lenF, .st, .st, .dy 1, .dy 1, .dy 9, .dy 9, .dy 9, .go, .dy 9, .go, .dy 9, .go, .con 0 lenF, .go, .go, .dy 5, .dy 1, .dy 11, .dy 11, .dy 11, .go, .dy 11, .go, .dy 11, .dy 22, .dy 22, .dy 22, .dy 22, .go, .dy 22, .con 2 (cntF 22), .go, .con 0 (neIF false), .st, .dy 1, .dy 1, .dy 10, .dy 10, .dy 10, .go, .dy 10, .go, .dy 10, .st, .con 1 KA, .st, .st, .st, .go, .go, .go, .go, .dy 24, .dy 24, .go, .dy 24, .go, .dy 24, .dy 24, .dy 24, .go, .dy 24, .go, .dy 24, .dy 24, .dy 24, .dy 25, .con 3 (FC6 P 25 26 27 6 2 7 8 12 13 14), .dy 27, .dy 27, .dy 27, .st, .con 1 CA, .st, .dy 1, .dy 1, .dy 9, .dy 9, .dy 9, .go, .dy 9, .go, .dy 9, .st, .con 1 KB, .st, .st, .st, .go, .go, .go, .go, .dy 28, .dy 28, .go, .dy 28, .go, .dy 28, .dy 28, .dy 28, .go, .dy 28, .go, .dy 28, .dy 28, .dy 28, .dy 29, .con 3 (FC7 P 29 30 31 6 2 7 8 12 13 14), .dy 31, .dy 31, .dy 31, .st, .con 1 CB, .stop]
section
variable (w : World) (b b2 : Bool) (k : Stk) (p : Pos) (a : LpA) (f : LpF) (xs ys : X4) (sd bh ah : I4) (m tk : Nat) (u v : Un4) (oe ol : List Nat)
theorem segT0 (Be Bl : Bool) (sup : List Nat) (h : sup.length = 41) : okQ ([true, true, true, true, true, true, true, true, true, true, true, true, true, true, true, false, false, false, false, true]) (runF w b b2 (logT0 (fP w b b2) (F126 xs.x0 u.u0 u.u1 u.u2 u.u3) (F126 ys.x0 v.u0 v.u1 v.u2 v.u3) (F60 ys.x0 Be) (F131 oe Be 23) (F60 xs.x0 Bl) (F131 ol Bl 27)) (cLw a) p (blL k) (csLw (fP w b b2) a f 0 4 none none none none xs ys [] m sd bh ah) tk sup)
    (.again (cLw a)) (csLw (fP w b b2) a f 1 3 (some (tk + 1, 0, tk)) (some (.int 1 (tk + 3))) (some (.ref (getN sup 0))) (some (.ref (getN sup 7))) xs ys [.ref (getN sup 16)] (m + 1) sd bh ah ++ [(getN sup 16, rowO u v)]) (psLw 1 xs.x0 ys.x0 u v oe ol sd bh ah) := by
  obtain ⟨fS, rfl⟩ := sup_ex h
  cases b <;> cases Be <;> cases Bl <;> (unfold okQ; kernel_rfl)
theorem segT1 (kr tr : Nat) (vp vs vo : Value) (w0 : Nat) (q0 : Obj) (Be Bl : Bool) (sup : List Nat) (h : sup.length = 41) : okQ ([true, true, true, true, true, true, true, true, true, true, true, true, true, true, true, true, false, false, false, false, true]) (runF w b b2 (logT1 (fP w b b2) (F126 xs.x1 u.u0 u.u1 u.u2 u.u3) (F126 ys.x1 v.u0 v.u1 v.u2 v.u3) (F60 ys.x1 Be) (F131 oe Be 24) (F60 xs.x1 Bl) (F131 ol Bl 28)) (cLw a) p (blL k) (csLw (fP w b b2) a f 1 3 (some (kr, 0, tr)) (some vp) (some vs) (some vo) xs ys [.ref w0] m sd bh ah ++ [(w0, q0)]) tk sup)
    (.again (cLw a)) (csLw (fP w b b2) a f 2 2 (some (kr, 1, tk)) (some (.int 2 (tk + 3))) (some (.ref (getN sup 0))) (some (.ref (getN sup 7))) xs ys [.ref w0, .ref (getN sup 16)] (m + 1) sd bh ah ++ [(w0, q0), (getN sup 16, rowO u v)]) (psLw 2 xs.x1 ys.x1 u v oe ol sd bh ah) := by
  obtain ⟨fS, rfl⟩ := sup_ex h
  cases b <;> cases Be <;> cases Bl <;> (unfold okQ; kernel_rfl)
theorem segT2 (kr tr : Nat) (vp vs vo : Value) (w0 w1 : Nat) (q0 q1 : Obj) (Be Bl : Bool) (sup : List Nat) (h : sup.length = 41) : okQ ([true, true, true, true, true, true, true, true, true, true, true, true, true, true, true, true, true, false, false, false, false, true]) (runF w b b2 (logT2 (fP w b b2) (F126 xs.x2 u.u0 u.u1 u.u2 u.u3) (F126 ys.x2 v.u0 v.u1 v.u2 v.u3) (F60 ys.x2 Be) (F131 oe Be 25) (F60 xs.x2 Bl) (F131 ol Bl 29)) (cLw a) p (blL k) (csLw (fP w b b2) a f 2 2 (some (kr, 1, tr)) (some vp) (some vs) (some vo) xs ys [.ref w0, .ref w1] m sd bh ah ++ [(w0, q0), (w1, q1)]) tk sup)
    (.again (cLw a)) (csLw (fP w b b2) a f 3 1 (some (kr, 2, tk)) (some (.int 4 (tk + 3))) (some (.ref (getN sup 0))) (some (.ref (getN sup 7))) xs ys [.ref w0, .ref w1, .ref (getN sup 16)] (m + 1) sd bh ah ++ [(w0, q0), (w1, q1), (getN sup 16, rowO u v)]) (psLw 4 xs.x2 ys.x2 u v oe ol sd bh ah) := by
  obtain ⟨fS, rfl⟩ := sup_ex h
  cases b <;> cases Be <;> cases Bl <;> (unfold okQ; kernel_rfl)
theorem segT3 (kr tr : Nat) (vp vs vo : Value) (w0 w1 w2 : Nat) (q0 q1 q2 : Obj) (Be Bl : Bool) (sup : List Nat) (h : sup.length = 41) : okQ ([true, true, true, true, true, true, true, true, true, true, true, true, true, true, true, true, true, true, false, false, false, false, true]) (runF w b b2 (logT3 (fP w b b2) (F126 xs.x3 u.u0 u.u1 u.u2 u.u3) (F126 ys.x3 v.u0 v.u1 v.u2 v.u3) (F60 ys.x3 Be) (F131 oe Be 26) (F60 xs.x3 Bl) (F131 ol Bl 30)) (cLw a) p (blL k) (csLw (fP w b b2) a f 3 1 (some (kr, 2, tr)) (some vp) (some vs) (some vo) xs ys [.ref w0, .ref w1, .ref w2] m sd bh ah ++ [(w0, q0), (w1, q1), (w2, q2)]) tk sup)
    (.again (cLw a)) (csLw (fP w b b2) a f 4 0 (some (kr, 3, tk)) (some (.int 8 (tk + 3))) (some (.ref (getN sup 0))) (some (.ref (getN sup 7))) xs ys [.ref w0, .ref w1, .ref w2, .ref (getN sup 16)] (m + 1) sd bh ah ++ [(w0, q0), (w1, q1), (w2, q2), (getN sup 16, rowO u v)]) (psLw 8 xs.x3 ys.x3 u v oe ol sd bh ah) := by
  obtain ⟨fS, rfl⟩ := sup_ex h
  cases b <;> cases Be <;> cases Bl <;> (unfold okQ; kernel_rfl)
end
end Mine

/-! part LW6 -/
namespace Mine
open PySem PySem.W PySem.W.X PySem.Spec PySem.Calls PyProof.Rows

/-! law's loop -/
noncomputable def logT4 : List Ev := [.dy 0, .go, .dy 0, .go, .dy 0, .dy 0, .dy 0, .dy 20, .go]
section
variable (w : World) (b b2 : Bool) (k : Stk) (p : Pos) (a : LpA) (f : LpF) (xs ys : X4) (sd bh ah : I4) (m tk : Nat)
theorem segT4 (kr tr : Nat) (vp vs vo : Value) (w0 w1 w2 w3 : Nat) (q0 q1 q2 q3 : Obj) (sup : List Nat) (h : sup.length = 2) : okQ [true, true, true, true, true, true, true, true, true, true, true, true, true, true, true, true, true, true, true] (runF w b b2 logT4 (cLw a) p (blL k) (csLw (fP w b b2) a f 4 0 (some (kr, 3, tr)) (some vp) (some vs) (some vo) xs ys [.ref w0, .ref w1, .ref w2, .ref w3] m sd bh ah ++ [(w0, q0), (w1, q1), (w2, q2), (w3, q3)]) tk sup)
    (.fin (.ok .next)) (csLw (fP w b b2) a f 4 0 (some (kr, 3, tr)) (some vp) (some vs) (some vo) xs ys [.ref w0, .ref w1, .ref w2, .ref w3] m sd bh ah ++ [(w0, q0), (w1, q1), (w2, q2), (w3, q3)]) [] := by
  obtain ⟨fS, rfl⟩ := sup_ex h
  cases b <;> (unfold okQ; kernel_rfl)
end
noncomputable def unT : List Nat → List (List Nat)
  | [] => []
  | [c] => [[c]]
  | c :: d :: l => if c = 92 then [92, d] :: unT l else [c] :: unT (d :: l)
noncomputable def nthL : List (List Nat) → Nat → List Nat
  | [], _ => []
  | x :: _, 0 => x
  | _ :: l, i + 1 => nthL l i
noncomputable def un4 (l : List Nat) : Un4 := ⟨nthL (brU (unT l)) 0, nthL (brU (unT l)) 1, nthL (brU (unT l)) 2, nthL (brU (unT l)) 3⟩
noncomputable def TurnQ (pw : Int) (lt er : List Nat) (sd bh ah : I4) : Prop := ∃ (Be Bl : Bool) (oe ol : List Nat),
  BrP lt [(un4 lt).u0, (un4 lt).u1, (un4 lt).u2, (un4 lt).u3] ∧ BrP er [(un4 er).u0, (un4 er).u1, (un4 er).u2, (un4 er).u3] ∧
  (∃ us, Un er us ∧ er ≠ [] ∧ (∀ c ∈ er, c < 128) ∧ ansC (ckU us 0) = Be) ∧ (∃ us, Un lt us ∧ lt ≠ [] ∧ (∀ c ∈ lt, c < 128) ∧ ansC (ckU us 0) = Bl) ∧
  (∃ r, Wl oe r ∧ (r == []) = Be) ∧ (∃ r, Wl ol r ∧ (r == []) = Bl) ∧ ClP (sel6 pw sd bh ah) oe ∧ ClP (sel7 pw sd bh ah) ol ∧
  (((er.length : Nat) : Int) - ((lt.length : Nat) : Int) != ((neC (un4 lt) (un4 er) : Nat) : Int)) = false ∧ lt.length ≤ 1000000 ∧ er.length ≤ 1000000 ∧ PwP pw
theorem psLw_of {pw : Int} {lt er : List Nat} {u v : Un4} {oe ol : List Nat} {sd bh ah : I4} (h1 : ClP (sel7 pw sd bh ah) ol) (h2 : PwP pw) (h3 : ClP (sel6 pw sd bh ah) oe) (h4 : (((er.length : Nat) : Int) - ((lt.length : Nat) : Int) != ((neC u v : Nat) : Int)) = false) (h5 : lt.length ≤ 1000000) (h6 : er.length ≤ 1000000) : ∀ P ∈ psLw pw lt er u v oe ol sd bh ah, P := by
  intro P hP
  have t : ∀ {Q : Prop}, Q → (Item.p Q = Item.p True) := fun z => by rw [eq_true z]
  simp only [psLw, List.mem_cons, List.not_mem_nil, or_false] at hP
  rcases hP with rfl | rfl | rfl | rfl | rfl | rfl | rfl | rfl | rfl <;> first | exact t h1 | exact t h2 | exact t h3 | exact t h4 | exact t h5 | exact t h6 | exact t rfl
section
variable {w : World} {b b2 : Bool} {k : Stk} {a : LpA} {f : LpF} {xs ys : X4} {sd bh ah : I4} {s₀ : Shared} {T : List Addr}
noncomputable def LwR (w : World) (b b2 : Bool) (s₀ : Shared) (T : List Addr) (a : LpA) (f : LpF) (xs ys : X4) (sd bh ah : I4) (r : Result) (s' : Shared) : Prop :=
  ∃ kr tr tp v0 v1 w0 w1 w2 w3 m tk : Nat, r = .ok .next ∧ Inv (KT' w b b2) s₀ T s' (csLw (fP w b b2) a f 4 0 (some (kr, 3, tr)) (some (.int 8 tp)) (some (.ref v0)) (some (.ref v1)) xs ys [.ref w0, .ref w1, .ref w2, .ref w3] m sd bh ah ++ [(w0, rowO (un4 xs.x0) (un4 ys.x0)), (w1, rowO (un4 xs.x1) (un4 ys.x1)), (w2, rowO (un4 xs.x2) (un4 ys.x2)), (w3, rowO (un4 xs.x3) (un4 ys.x3))]) tk
theorem loopLw {tk m : Nat} {s : Shared} {p : Pos} (h0 : TurnQ 1 xs.x0 ys.x0 sd bh ah) (h1 : TurnQ 2 xs.x1 ys.x1 sd bh ah) (h2 : TurnQ 4 xs.x2 ys.x2 sd bh ah) (h3 : TurnQ 8 xs.x3 ys.x3 sd bh ah)
    (I : Inv (KT' w b b2) s₀ T s (csLw (fP w b b2) a f 0 4 none none none none xs ys [] m sd bh ah) tk) : wpCode (MM w b b2) (cx (cLw a) (blL k)) (LwR w b b2 s₀ T a f xs ys sd bh ah) p s := by
  have I0 : Inv (KT' w b b2) s₀ T s (csLw (fP w b b2) a f 0 4 none none none none xs ys [] m sd bh ah) tk := I
  obtain ⟨Be, Bl, oe, ol, g1, g2, ⟨us, g3, g4, g5, g6⟩, ⟨us', g7, g8, g9, g10⟩, ⟨r, g11, g12⟩, ⟨r', g13, g14⟩, g15, g16, g17, g18, g19, g20⟩ := h0
  refine segQ (MM_den w b b2) rfl rfl _ (fun sup hs => segT0 w b b2 k p a f xs ys sd bh ah (m) _ (un4 xs.x0) (un4 ys.x0) oe ol Be Bl sup hs) (fun sup hs => psLw_of g16 g20 g15 g17 g18 g19)
    ⟨F126_sound g1, F126_sound g2, neIF_sound _ _ _ _, neIF_sound _ _ _ _, FNe_sound _ _ _ _ _ _ _ (by decide), lenF_sound _ _ _, lenF_sound _ _ _, cntF_sound _, neIF_sound _ _ _ _, F60_sound g3 g4 g5 g6, FC6_sound _ _ _ _ _ _ _ _ _ _ (by decide), F131_sound g11 g12 _, F60_sound g7 g8 g9 g10, FC7_sound _ _ _ _ _ _ _ _ _ _ (by decide), F131_sound g13 g14 _, trivial⟩ I0 fun sup0 s0 tk0 hs0 I1 => ?_
  clear g1 g2 g3 g4 g5 g6 g7 g8 g9 g10 g11 g12 g13 g14 g15 g16 g17 g18 g19 g20 us us' r r' Be Bl oe ol
  intro p
  obtain ⟨Be, Bl, oe, ol, g1, g2, ⟨us, g3, g4, g5, g6⟩, ⟨us', g7, g8, g9, g10⟩, ⟨r, g11, g12⟩, ⟨r', g13, g14⟩, g15, g16, g17, g18, g19, g20⟩ := h1
  refine segQ (MM_den w b b2) rfl rfl _ (fun sup hs => segT1 w b b2 k p a f xs ys sd bh ah (m + 1) _ (un4 xs.x1) (un4 ys.x1) oe ol _ _ _ _ _ _ _ Be Bl sup hs) (fun sup hs => psLw_of g16 g20 g15 g17 g18 g19)
    ⟨F126_sound g1, F126_sound g2, neIF_sound _ _ _ _, neIF_sound _ _ _ _, FNe_sound _ _ _ _ _ _ _ (by decide), lenF_sound _ _ _, lenF_sound _ _ _, cntF_sound _, neIF_sound _ _ _ _, F60_sound g3 g4 g5 g6, FC6_sound _ _ _ _ _ _ _ _ _ _ (by decide), F131_sound g11 g12 _, F60_sound g7 g8 g9 g10, FC7_sound _ _ _ _ _ _ _ _ _ _ (by decide), F131_sound g13 g14 _, trivial⟩ I1 fun sup1 s1 tk1 hs1 I2 => ?_
  clear g1 g2 g3 g4 g5 g6 g7 g8 g9 g10 g11 g12 g13 g14 g15 g16 g17 g18 g19 g20 us us' r r' Be Bl oe ol
  intro p
  obtain ⟨Be, Bl, oe, ol, g1, g2, ⟨us, g3, g4, g5, g6⟩, ⟨us', g7, g8, g9, g10⟩, ⟨r, g11, g12⟩, ⟨r', g13, g14⟩, g15, g16, g17, g18, g19, g20⟩ := h2
  refine segQ (MM_den w b b2) rfl rfl _ (fun sup hs => segT2 w b b2 k p a f xs ys sd bh ah (m + 1 + 1) _ (un4 xs.x2) (un4 ys.x2) oe ol _ _ _ _ _ _ _ _ _ Be Bl sup hs) (fun sup hs => psLw_of g16 g20 g15 g17 g18 g19)
    ⟨F126_sound g1, F126_sound g2, neIF_sound _ _ _ _, neIF_sound _ _ _ _, FNe_sound _ _ _ _ _ _ _ (by decide), lenF_sound _ _ _, lenF_sound _ _ _, cntF_sound _, neIF_sound _ _ _ _, F60_sound g3 g4 g5 g6, FC6_sound _ _ _ _ _ _ _ _ _ _ (by decide), F131_sound g11 g12 _, F60_sound g7 g8 g9 g10, FC7_sound _ _ _ _ _ _ _ _ _ _ (by decide), F131_sound g13 g14 _, trivial⟩ I2 fun sup2 s2 tk2 hs2 I3 => ?_
  clear g1 g2 g3 g4 g5 g6 g7 g8 g9 g10 g11 g12 g13 g14 g15 g16 g17 g18 g19 g20 us us' r r' Be Bl oe ol
  intro p
  obtain ⟨Be, Bl, oe, ol, g1, g2, ⟨us, g3, g4, g5, g6⟩, ⟨us', g7, g8, g9, g10⟩, ⟨r, g11, g12⟩, ⟨r', g13, g14⟩, g15, g16, g17, g18, g19, g20⟩ := h3
  refine segQ (MM_den w b b2) rfl rfl _ (fun sup hs => segT3 w b b2 k p a f xs ys sd bh ah (m + 1 + 1 + 1) _ (un4 xs.x3) (un4 ys.x3) oe ol _ _ _ _ _ _ _ _ _ _ _ Be Bl sup hs) (fun sup hs => psLw_of g16 g20 g15 g17 g18 g19)
    ⟨F126_sound g1, F126_sound g2, neIF_sound _ _ _ _, neIF_sound _ _ _ _, FNe_sound _ _ _ _ _ _ _ (by decide), lenF_sound _ _ _, lenF_sound _ _ _, cntF_sound _, neIF_sound _ _ _ _, F60_sound g3 g4 g5 g6, FC6_sound _ _ _ _ _ _ _ _ _ _ (by decide), F131_sound g11 g12 _, F60_sound g7 g8 g9 g10, FC7_sound _ _ _ _ _ _ _ _ _ _ (by decide), F131_sound g13 g14 _, trivial⟩ I3 fun sup3 s3 tk3 hs3 I4 => ?_
  clear g1 g2 g3 g4 g5 g6 g7 g8 g9 g10 g11 g12 g13 g14 g15 g16 g17 g18 g19 g20 us us' r r' Be Bl oe ol
  intro p
  refine segQ (MM_den w b b2) rfl rfl _ (fun sup hs => segT4 w b b2 k p a f xs ys sd bh ah (m + 1 + 1 + 1 + 1) _ _ _ _ _ _ _ _ _ _ _ _ _ _ sup hs) (fun sup hs => fun P hP => nomatch hP) trivial I4 fun sup s' tk' hs I' => ?_
  exact ⟨_, _, _, _, _, _, _, _, _, _, tk', rfl, I'⟩
end
end Mine

/-! part LW7 -/
namespace Mine
open PySem PySem.W PySem.W.X PySem.Spec PySem.Calls PyProof.Rows

/-! a contract by cells before, cells behind and new cells -/
noncomputable def conN (code : Code) (blE : Pos → List (Code × Pos)) (idx : List Nat) (cs : Cells) (res : List Nat → Result) (cs' : List Nat → Cells) (news : List Nat → Cells) (tk' : List Nat → Nat) : ConF :=
  conOf code blE (preZ idx cs) fun ns => ⟨res ns, objsOf (cs' ns), news ns, tk' ns⟩
theorem conN_sound {M : Model} {kt : KT} {m : Nat} {code : Code} {blE : Pos → List (Code × Pos)} {idx : List Nat} {cs : Cells} {res : List Nat → Result} {cs' news : List Nat → Cells} {tk' : List Nat → Nat}
    (hi : idx.Nodup) (hl : idx.length = cs.length) (ha : ∀ ns, (cs' ns).map (·.1) = cs.map (·.1))
    (spec : ∀ s tk p pp, Inv kt s (cs.map (·.1)) s cs tk → wpCode M (cx code (blE pp)) (fun r s' => ∃ ns, ns.length = m ∧ r = res ns ∧ Inv kt s (cs.map (·.1)) s' (cs' ns ++ news ns) (tk' ns)) p s) :
    ConSound M kt m (conN code blE idx cs res cs' news tk') := by
  refine conOf_sound (by rw [preZ_fst idx cs hl]; exact hi) fun s tk p pp I => ?_
  rw [cells0_preZ idx cs hl] at I
  refine wpCode_mono ?_ (spec s tk p pp I)
  rintro r s' ⟨ns, hn, hr, J⟩
  refine ⟨ns, hn, hr, ?_, ?_⟩
  · show (objsOf (cs' ns)).length = _
    rw [preZ_len idx cs hl]
    have := congrArg List.length (ha ns)
    simpa [objsOf] using this
  · rw [cells0_preZ idx cs hl]
    show Inv kt s _ s' (cellsP (preZ idx cs) (objsOf (cs' ns)) ++ news ns) _
    rw [cellsP_preZ idx cs _ hl (ha ns)]
    exact J

/-! law's loop as a contract -/
noncomputable def refL : Code → Nat × Nat × List (Str × Nat)
  | .forLoop _ (.ref it) _ _ env => (it, env.locals, env.cells)
  | _ => (0, 0, [])
noncomputable def nthA : List (Str × Nat) → Nat → Nat
  | [], _ => 0
  | x :: _, 0 => x.2
  | _ :: l, i + 1 => nthA l i
structure LpY where
  (a : LpA) (f : LpF) (xs ys : X4) (m : Nat) (sd bh ah : I4) (k : Stk)
noncomputable def lpOf (ix : List Nat) (c : Code) (bl : List (Code × Pos)) (cs : Cells) (_ : Nat) : LpY :=
  ⟨⟨(refL c).1, (refL c).2.1, nthA (refL c).2.2 2, nthA (refL c).2.2 1, nthA (refL c).2.2 0, nthA (refL c).2.2 3, nthA (refL c).2.2 6, nthA (refL c).2.2 4, nthA (refL c).2.2 5, adAt cs (getN ix 9), adAt cs (getN ix 10), adAt cs (getN ix 11), adAt cs (getN ix 12), adAt cs (getN ix 13), adAt cs (getN ix 14), nthA (refL c).2.2 7, nthA (refL c).2.2 8, nthA (refL c).2.2 9⟩,
   ⟨keyTok cs (getN ix 1) 0, keyTok cs (getN ix 1) 1, keyTok cs (getN ix 1) 2, valTok cs (getN ix 1) 0, strL (nthE (entsOf (objAt cs (getN ix 1))) 0).val⟩,
   x4At cs (getN ix 9), x4At cs (getN ix 10), seqN (objAt cs (getN ix 11)), i4At cs (getN ix 12), i4At cs (getN ix 13), i4At cs (getN ix 14), stkL bl⟩
noncomputable def LpQ (y : LpY) : Prop := TurnQ 1 y.xs.x0 y.ys.x0 y.sd y.bh y.ah ∧ TurnQ 2 y.xs.x1 y.ys.x1 y.sd y.bh y.ah ∧ TurnQ 4 y.xs.x2 y.ys.x2 y.sd y.bh y.ah ∧ TurnQ 8 y.xs.x3 y.ys.x3 y.sd y.bh y.ah
noncomputable def FLw (P : Params) (ix : List Nat) : ConF := fun c bl cs tk ns => (fun (y : LpY) => reqF (LpQ y) (conN (cLw y.a) (fun _ => blL y.k) ix (csLw P y.a y.f 0 4 none none none none y.xs y.ys [] y.m y.sd y.bh y.ah) (fun _ => .ok .next)
  (fun ns => csLw P y.a y.f 4 0 (some (getN ns 0, 3, getN ns 1)) (some (.int 8 (getN ns 2))) (some (.ref (getN ns 3))) (some (.ref (getN ns 4))) y.xs y.ys [.ref (getN ns 5), .ref (getN ns 6), .ref (getN ns 7), .ref (getN ns 8)] (getN ns 9) y.sd y.bh y.ah)
  (fun ns => [(getN ns 5, rowO (un4 y.xs.x0) (un4 y.ys.x0)), (getN ns 6, rowO (un4 y.xs.x1) (un4 y.ys.x1)), (getN ns 7, rowO (un4 y.xs.x2) (un4 y.ys.x2)), (getN ns 8, rowO (un4 y.xs.x3) (un4 y.ys.x3))]) (fun ns => getN ns 10))) (lpOf ix c bl cs tk) c bl cs tk ns
theorem FLw_sound {w : World} {b b2 : Bool} (ix : List Nat) (hi : ix.Nodup) (hl : ix.length = 15) : ConSound (MM w b b2) (KT' w b b2) 11 (FLw (fP w b b2) ix) := by
  refine ConSound.byC (lpOf ix) (F := fun y => reqF (LpQ y) (conN (cLw y.a) (fun _ => blL y.k) ix (csLw (fP w b b2) y.a y.f 0 4 none none none none y.xs y.ys [] y.m y.sd y.bh y.ah) (fun _ => .ok .next)
    (fun ns => csLw (fP w b b2) y.a y.f 4 0 (some (getN ns 0, 3, getN ns 1)) (some (.int 8 (getN ns 2))) (some (.ref (getN ns 3))) (some (.ref (getN ns 4))) y.xs y.ys [.ref (getN ns 5), .ref (getN ns 6), .ref (getN ns 7), .ref (getN ns 8)] (getN ns 9) y.sd y.bh y.ah)
    (fun ns => [(getN ns 5, rowO (un4 y.xs.x0) (un4 y.ys.x0)), (getN ns 6, rowO (un4 y.xs.x1) (un4 y.ys.x1)), (getN ns 7, rowO (un4 y.xs.x2) (un4 y.ys.x2)), (getN ns 8, rowO (un4 y.xs.x3) (un4 y.ys.x3))]) (fun ns => getN ns 10))) fun y => reqF_sound fun hq => ?_
  obtain ⟨h0, h1, h2, h3⟩ := hq
  refine conN_sound hi hl (fun _ => rfl) fun s tk p pp I => ?_
  refine wpCode_mono ?_ (loopLw h0 h1 h2 h3 I)
  rintro r s' ⟨kr, tr, tp, v0, v1, w0, w1, w2, w3, m, tk', rfl, J⟩
  exact ⟨[kr, tr, tp, v0, v1, w0, w1, w2, w3, m, tk'], rfl, rfl, J⟩
end Mine

/-! part LW8 -/
namespace Mine
open PySem PySem.W PySem.W.X PySem.Spec PySem.Calls PyProof.Rows

/-! law's last line: the counts -/
noncomputable def retX : Stmt → Expr
  | .Return (some e) _ => e
  | _ => default
noncomputable def cmpL : Expr → Expr
  | .Compare l _ _ _ => l
  | _ => default
noncomputable def eC8 : Expr := cmpL (retX (nthS lawB 10))
noncomputable def eC9 : Expr := cmpR (retX (nthS lawB 10))
structure B4 where
  (e0 e1 e2 e3 : Bool)
noncomputable def B4.O (y : B4) (m : Nat) : Obj := lstO (b4 y.e0 y.e1 y.e2 y.e3) m
noncomputable def cntCells (cK cU : Nat) : List (Str × Nat) := [(⟨⟨[107]⟩⟩, cK), (⟨⟨[117, 110, 108, 105, 107, 101]⟩⟩, cU)]
noncomputable def logC8 (b2 : Bool) : List Ev := appE (cond b2 [] [.dy 0, .dy 0, .go, .dy 0, .go, .dy 0]) (appE [.go, .dy 0, .go, .dy 0, .go, .dy 0, .dy 0, .dy 0, .dy 0, .dy 0, .dy 0, .dy 0, .dy 3, .dy 3, .dy 4, .dy 5, .dy 5, .go, .dy 5, .go, .dy 10, .go] (appE (cond b2 [] [.dy 10, .dy 10, .go, .dy 10, .go, .dy 10]) (appE [.go, .dy 10, .go, .dy 10, .go, .dy 10, .dy 10, .dy 5, .dy 10, .dy 10, .dy 12, .dy 12, .dy 12, .dy 3, .dy 6, .dy 6, .dy 6, .go, .dy 6, .go, .dy 6, .go, .dy 11, .go, .dy 11, .dy 11, .dy 11, .go, .dy 10, .go, .dy 10, .go, .dy 10, .dy 10, .dy 5, .dy 10, .dy 10, .dy 12, .dy 12, .dy 12, .dy 3, .dy 7, .dy 7, .dy 7, .go, .dy 7, .go, .dy 7, .go, .dy 11, .go, .dy 11, .dy 11, .dy 11, .go, .dy 10, .go, .dy 10, .go, .dy 10, .dy 10, .dy 5, .dy 10, .dy 10, .dy 12, .dy 12, .dy 12, .dy 3, .dy 8, .dy 8, .dy 8, .go, .dy 8, .go, .dy 8, .go, .dy 11, .go, .dy 11, .dy 11, .dy 11, .go, .dy 10, .go, .dy 10, .go, .dy 10, .dy 10, .dy 5, .dy 10, .dy 10, .dy 12, .dy 12, .dy 12, .dy 3, .dy 9, .dy 9, .dy 9, .go, .dy 9, .go, .dy 9, .go, .dy 11, .go, .dy 11, .dy 11, .dy 11, .go, .dy 10, .go, .dy 10, .go, .dy 10, .dy 10, .dy 5, .dy 10, .dy 10, .dy 14, .dy 12, .dy 12, .dy 12, .dy 11, .dy 11, .dy 11, .dy 11, .go, .dy 11, .con 2 (cntF 11), .go, .dy 1, .go, .dy 1, .dy 1, .dy 1, .go, .dy 0, .go, .dy 0, .go, .dy 0, .dy 0, .dy 0, .dy 0, .dy 0, .dy 0, .dy 0, .dy 3, .dy 3, .dy 4, .dy 5, .dy 5, .go, .dy 5, .go, .dy 15, .go] (appE (cond b2 [] [.dy 15, .dy 15, .go, .dy 15, .go, .dy 15]) (appE [.go, .dy 15, .go, .dy 15, .go, .dy 15, .dy 15, .dy 5, .dy 15, .dy 15, .dy 17, .dy 17, .dy 17, .dy 3, .dy 6, .dy 6, .dy 6, .go, .dy 6, .go, .dy 6, .go, .dy 16, .go, .dy 16, .dy 16, .dy 16, .go, .dy 15, .go, .dy 15, .go, .dy 15, .dy 15, .dy 5, .dy 15, .dy 15, .dy 17, .dy 17, .dy 17, .dy 3, .dy 7, .dy 7, .dy 7, .go, .dy 7, .go, .dy 7, .go, .dy 16, .go, .dy 16, .dy 16, .dy 16, .go, .dy 15, .go, .dy 15, .go, .dy 15, .dy 15, .dy 5, .dy 15, .dy 15, .dy 17, .dy 17, .dy 17, .dy 3, .dy 8, .dy 8, .dy 8, .go, .dy 8, .go, .dy 8, .go, .dy 16, .go, .dy 16, .dy 16, .dy 16, .go, .dy 15, .go, .dy 15, .go, .dy 15, .dy 15, .dy 5, .dy 15, .dy 15, .dy 17, .dy 17, .dy 17, .dy 3, .dy 9, .dy 9, .dy 9, .go, .dy 9, .go, .dy 9, .go, .dy 16, .go, .dy 16, .dy 16, .dy 16, .go, .dy 15, .go, .dy 15, .go, .dy 15, .dy 15, .dy 5, .dy 15, .dy 15, .dy 19, .dy 17, .dy 17, .dy 17, .dy 16, .dy 16, .dy 16, .dy 16, .go, .dy 16, .con 2 (cntF 16), .go, .dy 1, .go, .dy 1, .dy 1, .dy 1, .go, .dy 0, .go, .dy 0, .go, .dy 0, .dy 0, .dy 0, .dy 0, .dy 0, .dy 0, .dy 0, .dy 3, .dy 3, .dy 4, .dy 5, .dy 5, .go, .dy 5, .go, .dy 20, .go] (appE (cond b2 [] [.dy 20, .dy 20, .go, .dy 20, .go, .dy 20]) (appE [.go, .dy 20, .go, .dy 20, .go, .dy 20, .dy 20, .dy 5, .dy 20, .dy 20, .dy 22, .dy 22, .dy 22, .dy 3, .dy 6, .dy 6, .dy 6, .go, .dy 6, .go, .dy 6, .go, .dy 21, .go, .dy 21, .dy 21, .dy 21, .go, .dy 20, .go, .dy 20, .go, .dy 20, .dy 20, .dy 5, .dy 20, .dy 20, .dy 22, .dy 22, .dy 22, .dy 3, .dy 7, .dy 7, .dy 7, .go, .dy 7, .go, .dy 7, .go, .dy 21, .go, .dy 21, .dy 21, .dy 21, .go, .dy 20, .go, .dy 20, .go, .dy 20, .dy 20, .dy 5, .dy 20, .dy 20, .dy 22, .dy 22, .dy 22, .dy 3, .dy 8, .dy 8, .dy 8, .go, .dy 8, .go, .dy 8, .go, .dy 21, .go, .dy 21, .dy 21, .dy 21, .go, .dy 20, .go, .dy 20, .go, .dy 20, .dy 20, .dy 5, .dy 20, .dy 20, .dy 22, .dy 22, .dy 22, .dy 3, .dy 9, .dy 9, .dy 9, .go, .dy 9, .go, .dy 9, .go, .dy 21, .go, .dy 21, .dy 21, .dy 21, .go, .dy 20, .go, .dy 20, .go, .dy 20, .dy 20, .dy 5, .dy 20, .dy 20, .dy 24, .dy 22, .dy 22, .dy 22, .dy 21, .dy 21, .dy 21, .dy 21, .go, .dy 21, .con 2 (cntF 21), .go, .dy 1, .go, .dy 1, .dy 1, .dy 1, .go, .dy 0, .go, .dy 0, .go, .dy 0, .dy 0, .dy 0, .dy 0, .dy 0, .dy 0, .dy 0, .dy 3, .dy 3, .dy 4, .dy 5, .dy 5, .go, .dy 5, .go, .dy 25, .go] (appE (cond b2 [] [.dy 25, .dy 25, .go, .dy 25, .go, .dy 25]) ([.go, .dy 25, .go, .dy 25, .go, .dy 25, .dy 25, .dy 5, .dy 25, .dy 25, .dy 27, .dy 27, .dy 27, .dy 3, .dy 6, .dy 6, .dy 6, .go, .dy 6, .go, .dy 6, .go, .dy 26, .go, .dy 26, .dy 26, .dy 26, .go, .dy 25, .go, .dy 25, .go, .dy 25, .dy 25, .dy 5, .dy 25, .dy 25, .dy 27, .dy 27, .dy 27, .dy 3, .dy 7, .dy 7, .dy 7, .go, .dy 7, .go, .dy 7, .go, .dy 26, .go, .dy 26, .dy 26, .dy 26, .go, .dy 25, .go, .dy 25, .go, .dy 25, .dy 25, .dy 5, .dy 25, .dy 25, .dy 27, .dy 27, .dy 27, .dy 3, .dy 8, .dy 8, .dy 8, .go, .dy 8, .go, .dy 8, .go, .dy 26, .go, .dy 26, .dy 26, .dy 26, .go, .dy 25, .go, .dy 25, .go, .dy 25, .dy 25, .dy 5, .dy 25, .dy 25, .dy 27, .dy 27, .dy 27, .dy 3, .dy 9, .dy 9, .dy 9, .go, .dy 9, .go, .dy 9, .go, .dy 26, .go, .dy 26, .dy 26, .dy 26, .go, .dy 25, .go, .dy 25, .go, .dy 25, .dy 25, .dy 5, .dy 25, .dy 25, .dy 29, .dy 27, .dy 27, .dy 27, .dy 26, .dy 26, .dy 26, .dy 26, .go, .dy 26, .con 2 (cntF 26), .go, .dy 1, .go, .dy 1, .dy 1, .dy 1, .go, .dy 0, .go, .dy 0, .go, .dy 0, .dy 0, .dy 0, .dy 31])))))))))
section
variable (w : World) (b b2 : Bool) (k : Stk) (p : Pos) (it acc ns fr cK cU lU m : Nat) (w0 w1 w2 w3 m0 m1 m2 m3 : Nat) (r0 r1 r2 r3 : B4) (tk : Nat)
theorem segC8 (sup : List Nat) (h : sup.length = 30) : okQ [true, true, true, true, true, true, true, true, true, true] (runF w b b2 (logC8 b2) (cmS eC8 it acc ns fr (cntCells cK cU)) p (blL k) [(it, rgI 0 4), (acc, lstO [] 0), (ns, nsX (fP w b b2) ⟨⟨[107]⟩⟩ none), (cK, celN none), (cU, celO lU), (lU, lstO [.ref w0, .ref w1, .ref w2, .ref w3] m), (w0, r0.O m0), (w1, r1.O m1), (w2, r2.O m2), (w3, r3.O m3)] tk sup)
    (.fin (.ok .next)) [(it, rgI 4 0), (acc, lstO [.int (cntB r0.e0 r1.e0 r2.e0 r3.e0 : Nat) (getN sup 5), .int (cntB r0.e1 r1.e1 r2.e1 r3.e1 : Nat) (getN sup 12), .int (cntB r0.e2 r1.e2 r2.e2 r3.e2 : Nat) (getN sup 19), .int (cntB r0.e3 r1.e3 r2.e3 r3.e3 : Nat) (getN sup 26)] 4), (ns, nsX (fP w b b2) ⟨⟨[107]⟩⟩ none), (cK, celN (some (.int 3 (getN sup 20)))), (cU, celO lU), (lU, lstO [.ref w0, .ref w1, .ref w2, .ref w3] m), (w0, r0.O m0), (w1, r1.O m1), (w2, r2.O m2), (w3, r3.O m3)] [] := by
  obtain ⟨fS, rfl⟩ := sup_ex h
  cases b <;> cases b2 <;> (unfold okQ; kernel_rfl)
end
noncomputable def b4At (cs : Cells) (i : Nat) : B4 := ⟨boolV (nthV (seqV (objAt cs i)) 0), boolV (nthV (seqV (objAt cs i)) 1), boolV (nthV (seqV (objAt cs i)) 2), boolV (nthV (seqV (objAt cs i)) 3)⟩
structure C8Y where
  (it acc ns fr cK cU lU m w0 w1 w2 w3 m0 m1 m2 m3 : Nat) (r0 r1 r2 r3 : B4) (k : Stk)
noncomputable def c8Of (iK iU jU j0 j1 j2 j3 : Nat) (c : Code) (bl : List (Code × Pos)) (cs : Cells) (_ : Nat) : C8Y := ⟨(refS c).1, (refS c).2.1, (refS c).2.2.1, (refS c).2.2.2, adAt cs iK, adAt cs iU, adAt cs jU, seqN (objAt cs jU), adAt cs j0, adAt cs j1, adAt cs j2, adAt cs j3, seqN (objAt cs j0), seqN (objAt cs j1), seqN (objAt cs j2), seqN (objAt cs j3), b4At cs j0, b4At cs j1, b4At cs j2, b4At cs j3, stkL bl⟩
noncomputable def FC8 (P : Params) (ii ia ins iK iU jU j0 j1 j2 j3 : Nat) : ConF := fun c bl cs tk ns => (fun (y : C8Y) => conOf (cmS eC8 y.it y.acc y.ns y.fr (cntCells y.cK y.cU)) (fun _ => blL y.k) [(ii, y.it, rgI 0 4), (ia, y.acc, lstO [] 0), (ins, y.ns, nsX P ⟨⟨[107]⟩⟩ none), (iK, y.cK, celN none), (iU, y.cU, celO y.lU), (jU, y.lU, lstO [.ref y.w0, .ref y.w1, .ref y.w2, .ref y.w3] y.m), (j0, y.w0, y.r0.O y.m0), (j1, y.w1, y.r1.O y.m1), (j2, y.w2, y.r2.O y.m2), (j3, y.w3, y.r3.O y.m3)] fun ns => ⟨.ok .next, [rgI 4 0, lstO [.int (cntB y.r0.e0 y.r1.e0 y.r2.e0 y.r3.e0 : Nat) (getN ns 0), .int (cntB y.r0.e1 y.r1.e1 y.r2.e1 y.r3.e1 : Nat) (getN ns 1), .int (cntB y.r0.e2 y.r1.e2 y.r2.e2 y.r3.e2 : Nat) (getN ns 2), .int (cntB y.r0.e3 y.r1.e3 y.r2.e3 y.r3.e3 : Nat) (getN ns 3)] 4, nsX P ⟨⟨[107]⟩⟩ none, celN (some (.int 3 (getN ns 4))), celO y.lU, lstO [.ref y.w0, .ref y.w1, .ref y.w2, .ref y.w3] y.m, y.r0.O y.m0, y.r1.O y.m1, y.r2.O y.m2, y.r3.O y.m3], [], getN ns 5⟩) (c8Of iK iU jU j0 j1 j2 j3 c bl cs tk) c bl cs tk ns
theorem FC8_sound {w : World} {b b2 : Bool} (ii ia ins iK iU jU j0 j1 j2 j3 : Nat) (hi : [ii, ia, ins, iK, iU, jU, j0, j1, j2, j3].Nodup) : ConSound (MM w b b2) (KT' w b b2) 6 (FC8 (fP w b b2) ii ia ins iK iU jU j0 j1 j2 j3) := by
  refine ConSound.byC (c8Of iK iU jU j0 j1 j2 j3) (F := fun y => conOf (cmS eC8 y.it y.acc y.ns y.fr (cntCells y.cK y.cU)) (fun _ => blL y.k) [(ii, y.it, rgI 0 4), (ia, y.acc, lstO [] 0), (ins, y.ns, nsX (fP w b b2) ⟨⟨[107]⟩⟩ none), (iK, y.cK, celN none), (iU, y.cU, celO y.lU), (jU, y.lU, lstO [.ref y.w0, .ref y.w1, .ref y.w2, .ref y.w3] y.m), (j0, y.w0, y.r0.O y.m0), (j1, y.w1, y.r1.O y.m1), (j2, y.w2, y.r2.O y.m2), (j3, y.w3, y.r3.O y.m3)] fun ns => ⟨.ok .next, [rgI 4 0, lstO [.int (cntB y.r0.e0 y.r1.e0 y.r2.e0 y.r3.e0 : Nat) (getN ns 0), .int (cntB y.r0.e1 y.r1.e1 y.r2.e1 y.r3.e1 : Nat) (getN ns 1), .int (cntB y.r0.e2 y.r1.e2 y.r2.e2 y.r3.e2 : Nat) (getN ns 2), .int (cntB y.r0.e3 y.r1.e3 y.r2.e3 y.r3.e3 : Nat) (getN ns 3)] 4, nsX (fP w b b2) ⟨⟨[107]⟩⟩ none, celN (some (.int 3 (getN ns 4))), celO y.lU, lstO [.ref y.w0, .ref y.w1, .ref y.w2, .ref y.w3] y.m, y.r0.O y.m0, y.r1.O y.m1, y.r2.O y.m2, y.r3.O y.m3], [], getN ns 5⟩) fun y => ?_
  refine conOf_sound hi fun s tk p pp I => ?_
  refine segQ (MM_den w b b2) rfl rfl _ (fun sup hs => segC8 w b b2 y.k p y.it y.acc y.ns y.fr y.cK y.cU y.lU y.m y.w0 y.w1 y.w2 y.w3 y.m0 y.m1 y.m2 y.m3 y.r0 y.r1 y.r2 y.r3 tk sup hs) (fun sup hs => fun P hP => nomatch hP) (by cases b2 <;> exact ⟨cntF_sound _, cntF_sound _, cntF_sound _, cntF_sound _, trivial⟩) I fun sup s' tk' hs I' => ?_
  exact ⟨[getN sup 5, getN sup 12, getN sup 19, getN sup 26, getN sup 20, tk'], rfl, rfl, rfl, I'⟩
/-! the twos -/
noncomputable def tw2 : Nat → Nat → Nat
  | 0, _ => 0
  | f + 1, x => if x % 2 = 0 then 1 + tw2 f (x / 2) else 0
noncomputable def twN (W P : Nat) : Nat := tw2 20 (wsq W P).toNat
noncomputable def twC (a e : Int) : Nat := twN (a + e).toNat a.toNat
noncomputable def twCells (cB cA : Nat) : List (Str × Nat) := [(⟨⟨[98, 101, 104, 105, 110, 100]⟩⟩, cB), (⟨⟨[97, 104, 101, 97, 100]⟩⟩, cA)]
noncomputable def logC9 (b2 : Bool) (bh ah : I4) : List Ev := appE (cond b2 [] [.dy 0, .dy 0, .go, .dy 0, .go, .dy 0]) [.go, .dy 0, .go, .dy 0, .go, .dy 0, .dy 0, .dy 0, .dy 0, .dy 0, .dy 0, .dy 0, .dy 2, .dy 2, .st, .dy 4, .dy 2, .dy 6, .dy 6, .dy 6, .go, .dy 6, .go, .dy 6, .dy 3, .dy 2, .dy 5, .dy 5, .dy 5, .go, .dy 5, .go, .dy 5, .go, .go, .dy 4, .dy 2, .dy 6, .dy 6, .dy 6, .go, .dy 6, .go, .dy 6, .st, .con 2 (F138 (ah.d0 + bh.d0).toNat ah.d0.toNat (twC ah.d0 bh.d0)), .go, .dy 1, .go, .dy 1, .dy 1, .dy 1, .go, .dy 0, .go, .dy 0, .go, .dy 0, .dy 0, .dy 0, .dy 0, .dy 0, .dy 0, .dy 0, .dy 2, .dy 2, .st, .dy 4, .dy 2, .dy 6, .dy 6, .dy 6, .go, .dy 6, .go, .dy 6, .dy 3, .dy 2, .dy 5, .dy 5, .dy 5, .go, .dy 5, .go, .dy 5, .go, .go, .dy 4, .dy 2, .dy 6, .dy 6, .dy 6, .go, .dy 6, .go, .dy 6, .st, .con 2 (F138 (ah.d1 + bh.d1).toNat ah.d1.toNat (twC ah.d1 bh.d1)), .go, .dy 1, .go, .dy 1, .dy 1, .dy 1, .go, .dy 0, .go, .dy 0, .go, .dy 0, .dy 0, .dy 0, .dy 0, .dy 0, .dy 0, .dy 0, .dy 2, .dy 2, .st, .dy 4, .dy 2, .dy 6, .dy 6, .dy 6, .go, .dy 6, .go, .dy 6, .dy 3, .dy 2, .dy 5, .dy 5, .dy 5, .go, .dy 5, .go, .dy 5, .go, .go, .dy 4, .dy 2, .dy 6, .dy 6, .dy 6, .go, .dy 6, .go, .dy 6, .st, .con 2 (F138 (ah.d2 + bh.d2).toNat ah.d2.toNat (twC ah.d2 bh.d2)), .go, .dy 1, .go, .dy 1, .dy 1, .dy 1, .go, .dy 0, .go, .dy 0, .go, .dy 0, .dy 0, .dy 0, .dy 0, .dy 0, .dy 0, .dy 0, .dy 2, .dy 2, .st, .dy 4, .dy 2, .dy 6, .dy 6, .dy 6, .go, .dy 6, .go, .dy 6, .dy 3, .dy 2, .dy 5, .dy 5, .dy 5, .go, .dy 5, .go, .dy 5, .go, .go, .dy 4, .dy 2, .dy 6, .dy 6, .dy 6, .go, .dy 6, .go, .dy 6, .st, .con 2 (F138 (ah.d3 + bh.d3).toNat ah.d3.toNat (twC ah.d3 bh.d3)), .go, .dy 1, .go, .dy 1, .dy 1, .dy 1, .go, .dy 0, .go, .dy 0, .go, .dy 0, .dy 0, .dy 0, .dy 8]
section
variable (w : World) (b b2 : Bool) (k : Stk) (p : Pos) (it acc ns fr cB cA lB lA : Nat) (bh ah : I4) (tk : Nat)
noncomputable def psC9 : List Prop := [Item.p ((ah.d3 + bh.d3 : Int) = ((ah.d3 + bh.d3).toNat : Nat) ∧ ah.d3 = (ah.d3.toNat : Nat)) = .p True, Item.p ((ah.d2 + bh.d2 : Int) = ((ah.d2 + bh.d2).toNat : Nat) ∧ ah.d2 = (ah.d2.toNat : Nat)) = .p True, Item.p ((ah.d1 + bh.d1 : Int) = ((ah.d1 + bh.d1).toNat : Nat) ∧ ah.d1 = (ah.d1.toNat : Nat)) = .p True, Item.p ((ah.d0 + bh.d0 : Int) = ((ah.d0 + bh.d0).toNat : Nat) ∧ ah.d0 = (ah.d0.toNat : Nat)) = .p True]
theorem segC9 (sup : List Nat) (h : sup.length = 10) : okQ [true, true, true, true, true, true, true] (runF w b b2 (logC9 b2 bh ah) (cmS eC9 it acc ns fr (twCells cB cA)) p (blL k) [(it, rgI 0 4), (acc, lstO [] 0), (ns, nsX (fP w b b2) ⟨⟨[107]⟩⟩ none), (cB, celO lB), (cA, celO lA), (lB, bh.O), (lA, ah.O)] tk sup)
    (.fin (.ok .next)) [(it, rgI 4 0), (acc, lstO [.int (twC ah.d0 bh.d0 : Nat) (getN sup 0), .int (twC ah.d1 bh.d1 : Nat) (getN sup 2), .int (twC ah.d2 bh.d2 : Nat) (getN sup 4), .int (twC ah.d3 bh.d3 : Nat) (getN sup 6)] 4), (ns, nsX (fP w b b2) ⟨⟨[107]⟩⟩ (some (tk + 1, .int 3 (getN sup 5)))), (cB, celO lB), (cA, celO lA), (lB, bh.O), (lA, ah.O)] (psC9 bh ah) := by
  obtain ⟨fS, rfl⟩ := sup_ex h
  cases b <;> cases b2 <;> (unfold okQ; kernel_rfl)
end
noncomputable def TwQ (a e : Int) : Prop := 0 ≤ a ∧ a ≤ 7 ∧ 0 ≤ e ∧ e ≤ 7 ∧ ∃ y, Tw (wsq (a + e).toNat a.toNat) y (twC a e)
theorem psC9_of {bh ah : I4} (h0 : TwQ ah.d0 bh.d0) (h1 : TwQ ah.d1 bh.d1) (h2 : TwQ ah.d2 bh.d2) (h3 : TwQ ah.d3 bh.d3) : ∀ P ∈ psC9 bh ah, P := by
  intro P hP
  have t : ∀ {a e : Int}, TwQ a e → (Item.p ((a + e : Int) = ((a + e).toNat : Nat) ∧ a = (a.toNat : Nat)) = Item.p True) := fun ⟨z1, z2, z3, z4, _⟩ => by
    rw [eq_true (show _ ∧ _ from ⟨by omega, by omega⟩)]
  simp only [psC9, List.mem_cons, List.not_mem_nil, or_false] at hP
  rcases hP with rfl | rfl | rfl | rfl <;> first | exact t h3 | exact t h2 | exact t h1 | exact t h0
structure C9Y where
  (it acc ns fr cB cA lB lA : Nat) (bh ah : I4) (k : Stk)
noncomputable def c9Of (iB iA jB jA : Nat) (c : Code) (bl : List (Code × Pos)) (cs : Cells) (_ : Nat) : C9Y := ⟨(refS c).1, (refS c).2.1, (refS c).2.2.1, (refS c).2.2.2, adAt cs iB, adAt cs iA, adAt cs jB, adAt cs jA, i4At cs jB, i4At cs jA, stkL bl⟩
noncomputable def FC9 (P : Params) (ii ia ins iB iA jB jA : Nat) : ConF := fun c bl cs tk ns => (fun (y : C9Y) => reqF (TwQ y.ah.d0 y.bh.d0 ∧ TwQ y.ah.d1 y.bh.d1 ∧ TwQ y.ah.d2 y.bh.d2 ∧ TwQ y.ah.d3 y.bh.d3) (conOf (cmS eC9 y.it y.acc y.ns y.fr (twCells y.cB y.cA)) (fun _ => blL y.k) [(ii, y.it, rgI 0 4), (ia, y.acc, lstO [] 0), (ins, y.ns, nsX P ⟨⟨[107]⟩⟩ none), (iB, y.cB, celO y.lB), (iA, y.cA, celO y.lA), (jB, y.lB, y.bh.O), (jA, y.lA, y.ah.O)] fun ns => ⟨.ok .next, [rgI 4 0, lstO [.int (twC y.ah.d0 y.bh.d0 : Nat) (getN ns 0), .int (twC y.ah.d1 y.bh.d1 : Nat) (getN ns 1), .int (twC y.ah.d2 y.bh.d2 : Nat) (getN ns 2), .int (twC y.ah.d3 y.bh.d3 : Nat) (getN ns 3)] 4, nsX P ⟨⟨[107]⟩⟩ (some (getN ns 4, .int 3 (getN ns 5))), celO y.lB, celO y.lA, y.bh.O, y.ah.O], [], getN ns 6⟩)) (c9Of iB iA jB jA c bl cs tk) c bl cs tk ns
theorem FC9_sound {w : World} {b b2 : Bool} (ii ia ins iB iA jB jA : Nat) (hi : [ii, ia, ins, iB, iA, jB, jA].Nodup) : ConSound (MM w b b2) (KT' w b b2) 7 (FC9 (fP w b b2) ii ia ins iB iA jB jA) := by
  refine ConSound.byC (c9Of iB iA jB jA) (F := fun y => reqF (TwQ y.ah.d0 y.bh.d0 ∧ TwQ y.ah.d1 y.bh.d1 ∧ TwQ y.ah.d2 y.bh.d2 ∧ TwQ y.ah.d3 y.bh.d3) (conOf (cmS eC9 y.it y.acc y.ns y.fr (twCells y.cB y.cA)) (fun _ => blL y.k) [(ii, y.it, rgI 0 4), (ia, y.acc, lstO [] 0), (ins, y.ns, nsX (fP w b b2) ⟨⟨[107]⟩⟩ none), (iB, y.cB, celO y.lB), (iA, y.cA, celO y.lA), (jB, y.lB, y.bh.O), (jA, y.lA, y.ah.O)] fun ns => ⟨.ok .next, [rgI 4 0, lstO [.int (twC y.ah.d0 y.bh.d0 : Nat) (getN ns 0), .int (twC y.ah.d1 y.bh.d1 : Nat) (getN ns 1), .int (twC y.ah.d2 y.bh.d2 : Nat) (getN ns 2), .int (twC y.ah.d3 y.bh.d3 : Nat) (getN ns 3)] 4, nsX (fP w b b2) ⟨⟨[107]⟩⟩ (some (getN ns 4, .int 3 (getN ns 5))), celO y.lB, celO y.lA, y.bh.O, y.ah.O], [], getN ns 6⟩)) fun y => reqF_sound fun hq => ?_
  obtain ⟨h0, h1, h2, h3⟩ := hq
  have t : ∀ {a e : Int}, TwQ a e → ConSound (MM w b b2) (KT' w b b2) 2 (F138 (a + e).toNat a.toNat (twC a e)) := fun ⟨z1, z2, z3, z4, y, z5⟩ => F138_sound z5 (by omega) (by omega)
  refine conOf_sound hi fun s tk p pp I => ?_
  refine segQ (MM_den w b b2) rfl rfl _ (fun sup hs => segC9 w b b2 y.k p y.it y.acc y.ns y.fr y.cB y.cA y.lB y.lA y.bh y.ah tk sup hs) (fun sup hs => psC9_of h0 h1 h2 h3) (by cases b2 <;> exact ⟨t h0, t h1, t h2, t h3, trivial⟩) I fun sup s' tk' hs I' => ?_
  exact ⟨[getN sup 0, getN sup 2, getN sup 4, getN sup 6, tk + 1, getN sup 5, tk'], rfl, rfl, rfl, I'⟩
end Mine

/-! part LA1 -/
namespace Mine
open PySem PySem.W PySem.W.X PySem.Spec PySem.Calls PyProof.Rows

/-! the length of a list of any make -/
noncomputable def lenLF (ci : Nat) : ConF := fun c _ cs tk _ => match c, getC cs ci with
  | .builtin id ⟨[.ref a], []⟩, some (y, o) => some ⟨.ok (.ret (.int (((seqV o).length : Nat) : Int) (tk + 1))), [], [], tk + 1 + 1, [(.a (PySem.code id), .a (PySem.code "len")), (.a a, .a y), (.o o, .o (lstO (seqV o) (seqN o))), (.p ((seqV o).length ≤ 1000000), .p True)]⟩
  | _, _ => none
theorem lenLF_sound (pg : Program) (w : World) (kt : KT) (ci : Nat) : ConSound (model pg w) kt 0 (lenLF ci) := by
  intro c bl p cs tk gs s₀ T s I H
  obtain ⟨po, hF, chk⟩ := H [] rfl
  unfold lenLF at hF
  split at hF
  · rename_i id a y o hg
    cases hF
    have e1 : id = "len" := PySem.code_inj _ _ (Item.a.inj (chk _ (.head _)))
    have e2 : a = y := Item.a.inj (chk _ (.tail _ (.head _)))
    have e3 : o = lstO (seqV o) (seqN o) := Item.o.inj (chk _ (.tail _ (.tail _ (.head _))))
    have e4 : (seqV o).length ≤ 1000000 := by rw [Item.p.inj (chk _ (.tail _ (.tail _ (.tail _ (.head _)))))]; trivial
    subst e1 e2
    have ho := I.cell _ (getC_mem hg)
    have hL : s.heap.IsList a ⟨seqV o⟩ := ⟨o, ho, by rw [e3]; rfl, seqN o, congrArg Obj.data e3⟩
    have hsz : (⟨seqV o⟩ : Array Value).size = (seqV o).length := by simp
    refine wpCode_any (by decide +kernel) entry_len fun A hA => ?_
    refine wpAny_len_body_list hL (by rw [hsz]; omega) ⟨[], _, rfl, by unfold lenLF; rw [hg], ?_, ?_⟩
    · rw [hsz, I.tk]
    · show Inv kt s₀ T _ (cs ++ []) (tk + 1 + 1) gs
      rw [List.append_nil, ← I.tk]
      exact I.toks _
  · cases hF
end Mine

/-! part LA2 -/
namespace Mine
open PySem PySem.W PySem.W.X PySem.Spec PySem.Calls PyProof.Rows
open MeetsSeq

/-! two lists, alike in every place -/
theorem plain_eq_loop : plainId "list.__eq__.loop" = true := by decide +kernel
theorem entry_eq_loop : entryFor table "list.__eq__.loop" = some Builtin.«list.__eq__.loop» := entryFor_of_fast (by kernel_rfl)
theorem eq_loop (l : Addr) (items : Array Value) (n : Nat) (l2 : Addr) (items2 : Array Value) (n2 : Nat) (hsz : items.size = items2.size)
    (he : ∀ (i : Nat) (x y : Value), items[i]? = some x → items2[i]? = some y → EqGives x y true) (k : Nat) :
    ∀ (i : Nat), items.size - i = k → Meets (Builtin.«list.__eq__.loop» ⟨[.ref l, .ref l2, rawInt i, rawInt 2], []⟩)
      (fun _ R s => s.heap.get? l = some { cls := .type "list", dict := none, data := .seq items n, slots := #[] } ∧ s.heap.get? l2 = some { cls := .type "list", dict := none, data := .seq items2 n2, slots := #[] } ∧ R (.ok (.ret (.bool true))) s) := by
  induction k with
  | zero =>
    intro i hk prog w A R s h
    obtain ⟨hp, g, d, tk, os⟩ := s; obtain ⟨hl, hb, h⟩ := h
    have hi : items[((i : Nat) : Int).toNat]? = none := by simp; omega
    have hi2 : items2[((i : Nat) : Int).toNat]? = none := by simp; omega
    wp_walk using wpAny_loadPart' hl, wpAny_loadPart' hb
    rw [hi]
    wp_walk using wpAny_loadPart' hl, wpAny_loadPart' hb
    rw [hsz]
    show R (.ok (.ret (.bool (items2.size == items2.size)))) _
    rw [beq_self_eq_true]
    exact h
  | succ k ih =>
    intro i hk prog w A R s h
    obtain ⟨hp, g, d, tk, os⟩ := s; obtain ⟨hl, hb, h⟩ := h
    have hlt : i < items.size := by omega
    have hlt2 : i < items2.size := by omega
    have hi : items[((i : Nat) : Int).toNat]? = some items[i] := by simp [hlt]
    have hi2 : items2[((i : Nat) : Int).toNat]? = some items2[i] := by simp [hlt2]
    have hc : ((i : Int) + 1) = ((i + 1 : Nat) : Int) := by push_cast; rfl
    wp_walk using wpAny_loadPart' hl, wpAny_loadPart' hb
    rw [hi, hi2]
    refine wpAny_bind (he i _ _ (by simp [hlt]) (by simp [hlt2]) prog w _ _ _ _ ?_)
    wp_walk
    rw [hc]
    exact ⟨plainId_quiet plain_eq_loop _, codeAny_builtin entry_eq_loop (by
      rw [Around.under_plainId plain_eq_loop _]
      exact ih (i + 1) (by omega) prog w A R _ ⟨hl, hb, h⟩)⟩
theorem list_eq_true (l : Addr) (items : Array Value) (n : Nat) (l2 : Addr) (items2 : Array Value) (n2 : Nat) (hsz : items.size = items2.size)
    (he : ∀ (i : Nat) (x y : Value), items[i]? = some x → items2[i]? = some y → EqGives x y true) :
    Meets (Builtin.«list.__eq__» ⟨[.ref l, .ref l2], []⟩)
      (fun _ R s => s.heap.get? l = some { cls := .type "list", dict := none, data := .seq items n, slots := #[] } ∧ s.heap.get? l2 = some { cls := .type "list", dict := none, data := .seq items2 n2, slots := #[] } ∧ R (.ok (.ret (.bool true))) s) := by
  intro prog w A R s h
  obtain ⟨hp, g, d, tk, os⟩ := s; obtain ⟨hl, hb, h⟩ := h
  have f3 := sub_list_list
  have hne : ¬ (items.size != items2.size) = true := by rw [hsz]; simp
  wp_walk using wpAny_loadPart' hl, wpAny_loadPart' hb
  exact ⟨plainId_quiet plain_eq_loop _, codeAny_builtin entry_eq_loop (by
    rw [Around.under_plainId plain_eq_loop _]
    exact eq_loop l items n l2 items2 n2 hsz he items.size 0 (by omega) prog w A R _ ⟨hl, hb, h⟩)⟩
end Mine

/-! part LA3 -/
namespace Mine
open PySem PySem.W PySem.W.X PySem.Spec PySem.Calls PyProof.Rows
open MeetsSeq

/-! contracts that read their texts off the code or the cells -/
noncomputable def eqLF (ia ie : Nat) : ConF := fun c _ cs tk _ => match c, getC cs ia, getC cs ie with
  | .builtin id ⟨[.ref a, .ref e], []⟩, some (y, o), some (z, o2) => some ⟨.ok (.ret (.bool true)), [], [], tk,
     [(.a (PySem.code id), .a (PySem.code "list.__eq__")), (.a a, .a y), (.a e, .a z), (.o o, .o (i4At cs ia).O), (.o o2, .o (i4At cs ie).O), (.p ((i4At cs ia).d0 = (i4At cs ie).d0 ∧ (i4At cs ia).d1 = (i4At cs ie).d1 ∧ (i4At cs ia).d2 = (i4At cs ie).d2 ∧ (i4At cs ia).d3 = (i4At cs ie).d3), .p True)]⟩
  | _, _, _ => none
theorem eqLF_sound (pg : Program) (w : World) (kt : KT) (ia ie : Nat) : ConSound (model pg w) kt 0 (eqLF ia ie) := by
  intro c bl p cs tk gs s₀ T s I H
  obtain ⟨po, hF, chk⟩ := H [] rfl
  unfold eqLF at hF
  split at hF
  · rename_i id a e y o z o2 hg hh
    cases hF
    have e1 : id = "list.__eq__" := PySem.code_inj _ _ (Item.a.inj (chk _ (.head _)))
    have e2 : a = y := Item.a.inj (chk _ (.tail _ (.head _)))
    have e2' : e = z := Item.a.inj (chk _ (.tail _ (.tail _ (.head _))))
    have e3 : o = (i4At cs ia).O := Item.o.inj (chk _ (.tail _ (.tail _ (.tail _ (.head _)))))
    have e4 : o2 = (i4At cs ie).O := Item.o.inj (chk _ (.tail _ (.tail _ (.tail _ (.tail _ (.head _))))))
    have e5 : (i4At cs ia).d0 = (i4At cs ie).d0 ∧ (i4At cs ia).d1 = (i4At cs ie).d1 ∧ (i4At cs ia).d2 = (i4At cs ie).d2 ∧ (i4At cs ia).d3 = (i4At cs ie).d3 := by rw [Item.p.inj (chk _ (.tail _ (.tail _ (.tail _ (.tail _ (.tail _ (.head _)))))))]; trivial
    subst e1 e2 e2'
    have ho := I.cell _ (getC_mem hg)
    have ho2 := I.cell _ (getC_mem hh)
    generalize hx : i4At cs ia = x at *
    generalize hy : i4At cs ie = y' at *
    obtain ⟨h0, h1, h2, h3⟩ := e5
    have t : ∀ (p q : Int) (t u : Nat), p = q → EqGives (.int p t) (.int q u) true := fun p q t u h => by
      have := EqGives.int p q t u
      rw [h, beq_self_eq_true] at this
      rw [h]; exact this
    refine wpCode_meets (by decide +kernel) F.entry_list_eq (list_eq_true a ⟨x.L⟩ x.m e ⟨y'.L⟩ y'.m rfl ?_) ⟨by rw [ho]; exact congrArg some e3, by rw [ho2]; exact congrArg some e4, [], _, rfl, by unfold eqLF; rw [hg, hh], rfl, ?_⟩
    · intro i p q hp hq
      match i with
      | 0 => cases hp; cases hq; exact t _ _ _ _ h0
      | 1 => cases hp; cases hq; exact t _ _ _ _ h1
      | 2 => cases hp; cases hq; exact t _ _ _ _ h2
      | 3 => cases hp; cases hq; exact t _ _ _ _ h3
      | n + 4 => simp [I4.L] at hp
    · show Inv kt s₀ T s (cs ++ []) tk gs
      rw [List.append_nil]; exact I
  · cases hF
noncomputable def rdT : List Nat → List Nat
  | [] => []
  | [c] => [c]
  | c :: d :: l => if c = 92 then d :: rdT l else c :: rdT (d :: l)
noncomputable def strC : Code → List Nat
  | .call _ ⟨.str x _ :: _, _⟩ => x.cps.toList
  | _ => []
noncomputable def RdQ (tx : List Nat) : Prop := GdC tx (rdT tx) ∧ GdC (rdT tx) (rdT (rdT tx)) ∧ GdC (rdT (rdT tx)) (rdT (rdT (rdT tx))) ∧ tx ≠ [] ∧ rdT tx ≠ [] ∧ rdT (rdT tx) ≠ [] ∧ tx.length ≤ 8000 ∧ (rdT tx).length ≤ 8000 ∧ (rdT (rdT tx)).length ≤ 8000
noncomputable def FD1s (i0 : Nat) : ConF := fun c bl cs tk ns => (fun (tx : List Nat) => reqF (RdQ tx) (FD1 tx (rdT tx) (rdT (rdT tx)) (rdT (rdT (rdT tx))) i0)) (strC c) c bl cs tk ns
noncomputable def FD2s (i0 iC : Nat) : ConF := fun c bl cs tk ns => (fun (tx : List Nat) => reqF (RdQ tx) (FD2 tx (rdT tx) (rdT (rdT tx)) (rdT (rdT (rdT tx))) i0 iC)) (strC c) c bl cs tk ns
noncomputable def F121s (sh : Bool) : ConF := fun c bl cs tk ns => (fun (tx : List Nat) => reqF (PrW tx) (F121 sh tx (keepC tx))) (strC c) c bl cs tk ns
theorem FD1s_sound {w : World} {b b2 : Bool} (i0 : Nat) : ConSound (MM w b b2) (KT' w b b2) 17 (FD1s i0) := by
  refine ConSound.byC (fun c _ _ _ => strC c) (F := fun tx => reqF (RdQ tx) (FD1 tx (rdT tx) (rdT (rdT tx)) (rdT (rdT (rdT tx))) i0)) fun tx => reqF_sound fun ⟨g1, g2, g3, h0, h1, h2, l0, l1, l2⟩ => ?_
  exact FD1_sound (g1 := g1) (g2 := g2) (g3 := g3) (h0 := h0) (h1 := h1) (h2 := h2) (l0 := l0) (l1 := l1) (l2 := l2) i0
theorem FD2s_sound {w : World} {b b2 : Bool} (i0 iC : Nat) (hi : i0 ≠ iC) : ConSound (MM w b b2) (KT' w b b2) 5 (FD2s i0 iC) := by
  refine ConSound.byC (fun c _ _ _ => strC c) (F := fun tx => reqF (RdQ tx) (FD2 tx (rdT tx) (rdT (rdT tx)) (rdT (rdT (rdT tx))) i0 iC)) fun tx => reqF_sound fun ⟨g1, g2, g3, h0, h1, h2, l0, l1, l2⟩ => ?_
  exact FD2_sound (g1 := g1) (g2 := g2) (g3 := g3) (h0 := h0) (h1 := h1) (h2 := h2) (l0 := l0) (l1 := l1) (l2 := l2) i0 iC hi
theorem F121s_sound {w : World} {b b2 : Bool} (sh : Bool) : ConSound (MM w b b2) (KT' w b b2) 2 (F121s sh) := by
  refine ConSound.byC (fun c _ _ _ => strC c) (F := fun tx => reqF (PrW tx) (F121 sh tx (keepC tx))) fun tx => reqF_sound fun h => ?_
  exact F121_sound sh h.1 h.2
/-- ''.join of a list of four texts -/
noncomputable def joinS (ci : Nat) : ConF := fun c bl cs tk ns => (fun (X : List Nat) => joinF ci ⟨⟨X⟩⟩) ((x4At cs ci).x0 ++ ((x4At cs ci).x1 ++ ((x4At cs ci).x2 ++ (x4At cs ci).x3))) c bl cs tk ns
theorem joinS_sound (pg : Program) (w : World) (kt : KT) (ci : Nat) : ConSound (model pg w) kt 2 (joinS ci) := by
  exact ConSound.byC (fun _ _ cs _ => (x4At cs ci).x0 ++ ((x4At cs ci).x1 ++ ((x4At cs ci).x2 ++ (x4At cs ci).x3))) (F := fun X => joinF ci ⟨⟨X⟩⟩) fun X => joinF_sound _ _ _ _ _
end Mine

/-! part LA0 -/
namespace Mine
open PySem PySem.W PySem.W.X PySem.Spec PySem.Calls PyProof.Rows

/-! list(range(65024, 65040)) -/
noncomputable def u16 : List Nat := [65024, 65025, 65026, 65027, 65028, 65029, 65030, 65031, 65032, 65033, 65034, 65035, 65036, 65037, 65038, 65039]
noncomputable def rgU (t0 t1 t2 : Nat) : Obj := ⟨.type "range", none, .fields ⟨[.int 65024 t0, .int 65040 t1, .int 1 t2]⟩, ⟨[]⟩⟩
theorem items_u16 {acc : Array Value} (h : ItemsOf (fun i v => ∃ t, v = .int (65024 + (i : Int) * 1) t) acc 16) : ∃ l : List (Nat × Nat), l.map (·.1) = u16 ∧ acc.toList = l.map iv := by
  obtain ⟨hs, hi⟩ := h
  have key : ∀ (as : List Value) (k : Nat), (∀ (j : Nat) (v : Value), as[j]? = some v → ∃ t : Nat, v = .int (65024 + ((k + j : Nat) : Int) * 1) t) → ∃ l : List (Nat × Nat), l.map (·.1) = (List.range' (65024 + k) as.length) ∧ as = l.map iv := by
    intro as
    induction as with
    | nil => exact fun _ _ => ⟨[], rfl, rfl⟩
    | cons a as ih =>
      intro k hk
      obtain ⟨t, e⟩ := hk 0 a rfl
      obtain ⟨l, h1, h2⟩ := ih (k + 1) fun j v e => by
        obtain ⟨t, e⟩ := hk (j + 1) v (by simpa using e)
        exact ⟨t, by rw [e]; congr 1; omega⟩
      refine ⟨(65024 + k, t) :: l, ?_, ?_⟩
      · rw [List.map_cons, h1, List.length_cons, List.range'_succ]; rfl
      · rw [List.map_cons, ← h2, e]
        show _ = Value.int ((65024 + k : Nat) : Int) t :: as
        congr 2
        omega
  obtain ⟨l, h1, h2⟩ := key acc.toList 0 fun j v e => by
    obtain ⟨t, e⟩ := hi j v (by rw [← Array.getElem?_toList]; exact e)
    exact ⟨t, by rw [e]; congr 1; omega⟩
  refine ⟨l, ?_, h2⟩
  rw [h1, show acc.toList.length = 16 by simpa using hs]
  decide
noncomputable def vsU (ns : List Nat) : List Value := (zipT (getN ns 2) (getN ns 3) u16).map iv
noncomputable def initRF (ci cr : Nat) : ConF := fun c _ cs tk ns => match c, getC cs ci, getC cs cr with
  | .builtin id ⟨[.ref a, .ref r], []⟩, some (y, o), some (z, ro) => some ⟨.ok (.ret .none), [(ci, lstO (vsU ns) (getN ns 0))], [], getN ns 1,
     [(.a (PySem.code id), .a (PySem.code "list.__init__")), (.a a, .a y), (.a r, .a z), (.o o, .o (lstO [] 0)), (.o ro, .o (rgU (tokV (nthV (fldsOf ro) 0)) (tokV (nthV (fldsOf ro) 1)) (tokV (nthV (fldsOf ro) 2))))]⟩
  | _, _, _ => none
theorem initRF_sound (pg : Program) (w : World) (kt : KT) (ci cr : Nat) : ConSound (model pg w) kt 4 (initRF ci cr) := by
  intro c bl p cs tk gs s₀ T s I H
  obtain ⟨po, hF, chk⟩ := H [0, 0, 0, 0] rfl
  unfold initRF at hF
  split at hF
  · rename_i id a r y o z ro hg hr
    cases hF
    have e1 : id = "list.__init__" := PySem.code_inj _ _ (Item.a.inj (chk _ (.head _)))
    have e2 : a = y := Item.a.inj (chk _ (.tail _ (.head _)))
    have e2' : r = z := Item.a.inj (chk _ (.tail _ (.tail _ (.head _))))
    have e3 : o = lstO [] 0 := Item.o.inj (chk _ (.tail _ (.tail _ (.tail _ (.head _)))))
    have e4 : ro = rgU _ _ _ := Item.o.inj (chk _ (.tail _ (.tail _ (.tail _ (.tail _ (.head _))))))
    subst e1 e2 e2' e3
    have hS : s.heap.get? a = some (lstO [] 0) := I.cell _ (getC_mem hg)
    have hR : s.heap.get? r = some ro := I.cell _ (getC_mem hr)
    rw [e4] at hR
    refine (codeAny_builtin (A := { depth := frameCount bl, units := unitsOf bl }) F.entry_list_init ?_) (cx (.builtin "list.__init__" _) bl) p rfl ⟨rfl, Nat.le_refl _, fun _ h => (nomatch h), fun _ h => (nomatch h), Nat.le_refl _⟩
    rw [Around.under_plainId (by decide +kernel)]
    refine wpAny_list_init_range (R := fun q s' => ∃ ns po, ns.length = 4 ∧ initRF ci cr (.builtin "list.__init__" ⟨[.ref a, .ref r], []⟩) bl cs tk ns = some po ∧ q = po.res ∧ Inv kt s₀ T s' (applyPost cs po) po.tk gs) (A := { depth := frameCount bl, units := unitsOf bl }) (n := 16) rfl hR (by decide +kernel) (by decide +kernel) (by decide) a hS fun h' tk' acc' c' hk hS' hacc => ?_
    obtain ⟨l, h1, h2⟩ := items_u16 hacc
    obtain ⟨B, e, he⟩ := enc_any u16 l h1
    refine ⟨[c', tk', B, e], _, rfl, by unfold initRF; rw [hg, hr], rfl, ?_⟩
    show Inv kt s₀ T _ (setC cs ci (lstO ((zipT B e u16).map iv) c') ++ []) tk' gs
    rw [List.append_nil, he, ← h2]
    exact I.move hg hk hS'
  · cases hF
end Mine

/-! part MA1 -/
namespace Mine
open PySem PySem.W PySem.W.X PySem.Spec PySem.Calls PyProof.Rows

/-! the twos -/
theorem fdiv_small (p q : Nat) (hp : p ≤ 7) (hq : q ≤ 7) : (wsq (p + q) p).toNat ≠ 0 := by
  have : ∀ p : Fin 8, ∀ q : Fin 8, (wsq (p.1 + q.1) p.1).toNat ≠ 0 := by decide +kernel
  exact this ⟨p, by omega⟩ ⟨q, by omega⟩
theorem tw_of : ∀ (f n : Nat), n ≠ 0 → n < 2 ^ f → ∃ y, Tw (n : Int) y (tw2 f n)
  | 0, n, h0, h => by omega
  | f + 1, n, h0, h => by
    unfold tw2
    have hm : ((n : Int)).fmod 2 = ((n % 2 : Nat) : Int) := by rw [Int.fmod_eq_emod_of_nonneg _ (by decide)]; omega
    have hd : ((n : Int)).fdiv 2 = ((n / 2 : Nat) : Int) := by rw [Int.fdiv_eq_ediv_of_nonneg _ (by decide)]; omega
    by_cases h2 : n % 2 = 0
    · rw [if_pos h2]
      obtain ⟨y, hy⟩ := tw_of f (n / 2) (by omega) (by rw [Nat.pow_succ] at h; omega)
      refine ⟨y, ?_⟩
      rw [Nat.add_comm]
      refine .step (by rw [hm, h2]; rfl) ?_
      rw [hd]; exact hy
    · rw [if_neg h2]
      refine ⟨_, .stop ?_⟩
      rw [hm, show n % 2 = 1 by omega]; rfl
theorem wsq_small (p q : Nat) (hp : p ≤ 7) (hq : q ≤ 7) : (wsq (p + q) p).toNat < 2 ^ 20 ∧ ((wsq (p + q) p).toNat : Int) = wsq (p + q) p := by
  have : ∀ p : Fin 8, ∀ q : Fin 8, (wsq (p.1 + q.1) p.1).toNat < 2 ^ 20 ∧ ((wsq (p.1 + q.1) p.1).toNat : Int) = wsq (p.1 + q.1) p.1 := by decide +kernel
  exact this ⟨p, by omega⟩ ⟨q, by omega⟩
theorem twQ_of (a e : Int) (h1 : 0 ≤ a) (h2 : a ≤ 7) (h3 : 0 ≤ e) (h4 : e ≤ 7) : TwQ a e := by
  refine ⟨h1, h2, h3, h4, ?_⟩
  obtain ⟨p, rfl⟩ := Int.eq_ofNat_of_zero_le h1
  obtain ⟨q, rfl⟩ := Int.eq_ofNat_of_zero_le h3
  have e1 : ((p : Int) + (q : Int)).toNat = p + q := by omega
  have e2 : ((p : Int)).toNat = p := by omega
  unfold twC twN
  rw [e1, e2]
  obtain ⟨y, hy⟩ := tw_of 20 (wsq (p + q) p).toNat (fdiv_small p q (by omega) (by omega)) (wsq_small p q (by omega) (by omega)).1
  rw [(wsq_small p q (by omega) (by omega)).2] at hy
  exact ⟨y, hy⟩
end Mine

/-! part MA2 -/
namespace Mine
open PySem PySem.W PySem.W.X PySem.Spec PySem.Calls PyProof.Rows

/-! the slices of the script -/
noncomputable def rgS (j n : Nat) : List Nat := sliceRange (sliceBounds (some (j : Int)) (some 63) (some 4) n).1 (sliceBounds (some (j : Int)) (some 63) (some 4) n).2.1 (sliceBounds (some (j : Int)) (some 63) (some 4) n).2.2
theorem rgS_all : ∀ n : Fin 64, ∀ j : Fin 4, (rgS j.1 n.1).isEmpty = decide (n.1 ≤ j.1) ∧ ∀ k ∈ rgS j.1 n.1, k < n.1 := by decide +kernel
theorem filterMap_at (xs : List Value) : ∀ (l : List Nat), (∀ k ∈ l, k < xs.length) → (l.filterMap ((⟨xs⟩ : Array Value)[·]?)).isEmpty = l.isEmpty
  | [], _ => rfl
  | k :: l, h => by
    have hk := h k (.head _)
    rw [List.filterMap_cons]
    have : (⟨xs⟩ : Array Value)[k]? = some xs[k] := by simp [hk]
    rw [this]; rfl
theorem scrP_of {xs : List Value} (h : ∀ v ∈ xs, ∃ (i : Int) (t : Nat), v = .int i t) (hl : xs.length ≤ 63) : ScrP xs := by
  refine ⟨by rw [sizeLine_is]; omega, min xs.length 4, by omega, fun j hj => ?_⟩
  have hr := rgS_all ⟨xs.length, by omega⟩ ⟨j, hj⟩
  have es : slV xs j 63 4 = (rgS j xs.length).filterMap ((⟨xs⟩ : Array Value)[·]?) := by
    unfold slV slicePick rgS
    simp
  refine ⟨⟨?_, fun v hv => ?_⟩, ?_⟩
  · have := slicePick_size_le ⟨xs⟩ (some (j : Int)) (some 63) (some 4)
    unfold slV
    simp at this ⊢
    omega
  · rw [es] at hv
    obtain ⟨k, _, hk⟩ := List.mem_filterMap.mp hv
    exact h v (by
      have : xs[k]? = some v := by simpa using hk
      exact List.mem_of_getElem? this)
  · rw [es, filterMap_at xs _ hr.2, hr.1]
    unfold emQ
    rw [decide_eq_decide]
    show xs.length ≤ j ↔ _
    omega
end Mine

/-! part MA3 -/
namespace Mine
open PySem PySem.W PySem.W.X PySem.Spec PySem.Calls PyProof.Rows

/-! texts of runs of backslashes, each with a sign behind -/
noncomputable def tx : List (Nat × Nat) → List Nat
  | [] => []
  | x :: l => List.replicate x.1 92 ++ x.2 :: tx l
noncomputable def hf (x : Nat × Nat) : Nat × Nat := (x.1 / 2, x.2)
noncomputable def GoodS (c : Nat) : Prop := c = 40 ∨ c = 41 ∨ 93 ≤ c
theorem rep_succ (n : Nat) (l : List Nat) : List.replicate (n + 1) 92 ++ l = 92 :: (List.replicate n 92 ++ l) := rfl
theorem rdT_cons (c : Nat) (l : List Nat) (h : c ≠ 92) : rdT (c :: l) = c :: rdT l := by
  cases l with
  | nil => rfl
  | cons d l => show (if c = 92 then _ else _) = _; rw [if_neg h]
theorem rdT_esc (c : Nat) (l : List Nat) : rdT (92 :: c :: l) = c :: rdT l := by
  show (if (92 : Nat) = 92 then _ else _) = _; rw [if_pos rfl]
theorem half2 (n : Nat) : (n + 2) / 2 = n / 2 + 1 := by omega
theorem rdT_run (c : Nat) (h : c ≠ 92) (l : List Nat) : ∀ n : Nat, rdT (List.replicate n 92 ++ c :: l) = List.replicate (n / 2) 92 ++ c :: rdT l
  | 0 => rdT_cons c l h
  | 1 => rdT_esc c l
  | n + 2 => by
    rw [half2, rep_succ, rep_succ, rep_succ, rdT_esc, rdT_run c h l n]
theorem gd_run (c : Nat) (h : GoodS c) (l o : List Nat) (g : GdC l o) : ∀ n : Nat, GdC (List.replicate n 92 ++ c :: l) (List.replicate (n / 2) 92 ++ c :: o)
  | 0 => .ord h g
  | 1 => .esc (by unfold GoodS at h; omega) g
  | n + 2 => by
    rw [half2, rep_succ, rep_succ, rep_succ]
    exact .esc (by decide) (gd_run c h l o g n)
theorem good_ne {c : Nat} (h : GoodS c) : c ≠ 92 := by unfold GoodS at h; omega
theorem rdT_tx : ∀ l : List (Nat × Nat), (∀ x ∈ l, GoodS x.2) → rdT (tx l) = tx (l.map hf)
  | [], _ => rfl
  | x :: l, h => by
    show rdT (List.replicate x.1 92 ++ x.2 :: tx l) = List.replicate (x.1 / 2) 92 ++ x.2 :: tx (l.map hf)
    rw [rdT_run _ (good_ne (h x (.head _))), rdT_tx l fun y hy => h y (.tail _ hy)]
theorem gd_tx : ∀ l : List (Nat × Nat), (∀ x ∈ l, GoodS x.2) → GdC (tx l) (tx (l.map hf))
  | [], _ => .nil
  | x :: l, h => gd_run _ (h x (.head _)) _ _ (gd_tx l fun y hy => h y (.tail _ hy)) _
theorem good_hf {l : List (Nat × Nat)} (h : ∀ x ∈ l, GoodS x.2) : ∀ x ∈ l.map hf, GoodS x.2 := fun x hx => by
  obtain ⟨y, hy, rfl⟩ := List.mem_map.mp hx
  exact h y hy
/-- the length -/
noncomputable def lenX : List (Nat × Nat) → Nat
  | [] => 0
  | x :: l => x.1 + 1 + lenX l
theorem len_tx : ∀ l : List (Nat × Nat), (tx l).length = lenX l
  | [] => rfl
  | x :: l => by
    show (List.replicate x.1 92 ++ x.2 :: tx l).length = _
    rw [List.length_append, List.length_replicate, List.length_cons, len_tx l]
    show _ = x.1 + 1 + lenX l
    omega
theorem lenX_hf : ∀ l : List (Nat × Nat), lenX (l.map hf) ≤ lenX l
  | [] => Nat.le_refl _
  | x :: l => by
    show x.1 / 2 + 1 + lenX (l.map hf) ≤ x.1 + 1 + lenX l
    have := lenX_hf l
    omega
theorem tx_ne {l : List (Nat × Nat)} (h : l ≠ []) : tx l ≠ [] := by
  cases l with
  | nil => exact absurd rfl h
  | cons x l =>
    intro e
    have := congrArg List.length e
    rw [len_tx] at this
    have h2 : lenX (x :: l) = x.1 + 1 + lenX l := rfl
    rw [h2] at this
    simp at this
theorem rdQ_tx {l : List (Nat × Nat)} (h : ∀ x ∈ l, GoodS x.2) (h0 : l ≠ []) (hl : lenX l ≤ 8000) : RdQ (tx l) := by
  have h1 := good_hf h
  have h2 := good_hf h1
  have n1 : l.map hf ≠ [] := by simpa using h0
  have n2 : (l.map hf).map hf ≠ [] := by simpa using h0
  have l1 := lenX_hf l
  have l2 := lenX_hf (l.map hf)
  unfold RdQ
  rw [rdT_tx l h, rdT_tx _ h1, rdT_tx _ h2, len_tx, len_tx, len_tx]
  exact ⟨gd_tx _ h, gd_tx _ h1, gd_tx _ h2, tx_ne h0, tx_ne n1, tx_ne n2, hl, by omega, by omega⟩
theorem mem_tx {l : List (Nat × Nat)} {c : Nat} : c ∈ tx l → c = 92 ∨ ∃ x ∈ l, x.2 = c := by
  induction l with
  | nil => exact fun h => nomatch h
  | cons x l ih =>
    intro h
    have h : c ∈ List.replicate x.1 92 ++ x.2 :: tx l := h
    rcases List.mem_append.mp h with h | h
    · exact .inl (List.eq_of_mem_replicate h)
    · rcases List.mem_cons.mp h with h | h
      · exact .inr ⟨x, .head _, h.symm⟩
      · rcases ih h with h | ⟨y, hy, e⟩
        · exact .inl h
        · exact .inr ⟨y, .tail _ hy, e⟩
theorem tx_mem {l : List (Nat × Nat)} {x : Nat × Nat} (h : x ∈ l) : x.2 ∈ tx l := by
  induction l with
  | nil => exact nomatch h
  | cons y l ih =>
    show x.2 ∈ List.replicate y.1 92 ++ y.2 :: tx l
    rcases List.mem_cons.mp h with h | h
    · rw [h]; simp
    · exact List.mem_append_right _ (.tail _ (ih h))
theorem prW_tx {l : List (Nat × Nat)} (h : ∀ x ∈ l, x.2 < 70000) (hu : ∃ x ∈ l, 128 ≤ x.2) (hl : lenX l ≤ 8000) : PrW (tx l) := by
  obtain ⟨y, hy, h1⟩ := hu
  refine ⟨⟨tx_ne (List.ne_nil_of_mem hy), fun c hc => ?_, by rw [len_tx]; exact hl, rfl⟩, ?_⟩
  · rcases mem_tx hc with e | ⟨x, hx, e⟩
    · omega
    · rw [← e]; exact h x hx
  · rw [List.any_eq_true]
    refine ⟨y.2, tx_mem hy, ?_⟩
    simp; omega

/-! the units -/
noncomputable def unB (x : Nat × Nat) : List Nat := if x.1 % 2 = 1 then [92, x.2] else [x.2]
noncomputable def usR : Nat → List Nat → List (List Nat) → List (List Nat)
  | 0, u, r => u :: r
  | n + 1, u, r => [92, 92] :: usR n u r
noncomputable def usX : List (Nat × Nat) → List (List Nat)
  | [] => []
  | x :: l => usR (x.1 / 2) (unB x) (usX l)
noncomputable def Br (c : Nat) : Prop := c = 40 ∨ c = 41
theorem unT_cons (c : Nat) (l : List Nat) (h : c ≠ 92) : unT (c :: l) = [c] :: unT l := by
  cases l with
  | nil => rfl
  | cons d l => show (if c = 92 then _ else _) = _; rw [if_neg h]
theorem unT_esc (c : Nat) (l : List Nat) : unT (92 :: c :: l) = [92, c] :: unT l := by
  show (if (92 : Nat) = 92 then _ else _) = _; rw [if_pos rfl]
theorem br_ne {c : Nat} (h : Br c) : c ≠ 92 := by unfold Br at h; omega
theorem unT_run (c : Nat) (h : Br c) (l : List Nat) : ∀ n : Nat, unT (List.replicate n 92 ++ c :: l) = usR (n / 2) (unB (n, c)) (unT l)
  | 0 => unT_cons c l (br_ne h)
  | 1 => unT_esc c l
  | n + 2 => by
    rw [half2, rep_succ, rep_succ, unT_esc, unT_run c h l n]
    have e : unB (n + 2, c) = unB (n, c) := by unfold unB; simp
    rw [e]; rfl
theorem un_run (c : Nat) (h : Br c) (l : List Nat) (us : List (List Nat)) (g : Un l us) : ∀ n : Nat, Un (List.replicate n 92 ++ c :: l) (usR (n / 2) (unB (n, c)) us)
  | 0 => .ord h g
  | 1 => .esc (h.elim .inl fun h => .inr (.inl h)) g
  | n + 2 => by
    have e : unB (n + 2, c) = unB (n, c) := by unfold unB; simp
    rw [half2, rep_succ, rep_succ, e]
    exact .esc (.inr (.inr rfl)) (un_run c h l us g n)
theorem unT_tx : ∀ l : List (Nat × Nat), (∀ x ∈ l, Br x.2) → unT (tx l) = usX l
  | [], _ => rfl
  | x :: l, h => by
    show unT (List.replicate x.1 92 ++ x.2 :: tx l) = usR (x.1 / 2) (unB x) (usX l)
    rw [unT_run _ (h x (.head _)), unT_tx l fun y hy => h y (.tail _ hy)]
theorem un_tx : ∀ l : List (Nat × Nat), (∀ x ∈ l, Br x.2) → Un (tx l) (usX l)
  | [], _ => .nil
  | x :: l, h => un_run _ (h x (.head _)) _ _ (un_tx l fun y hy => h y (.tail _ hy)) _
theorem brU_usR (u : List Nat) (hu : u ≠ [92, 92]) (r : List (List Nat)) : ∀ n : Nat, brU (usR n u r) = u :: brU r
  | 0 => by
    show List.filter _ (u :: r) = _
    rw [List.filter_cons, if_pos (by simpa using hu)]; rfl
  | n + 1 => by
    show List.filter _ ([92, 92] :: usR n u r) = _
    rw [List.filter_cons, if_neg (by simp)]
    exact brU_usR u hu r n
theorem unB_ne {x : Nat × Nat} (h : Br x.2) : unB x ≠ [92, 92] := by
  have := br_ne h
  unfold unB
  split <;> simp [this]
theorem brU_usX : ∀ l : List (Nat × Nat), (∀ x ∈ l, Br x.2) → brU (usX l) = l.map unB
  | [], _ => rfl
  | x :: l, h => by
    show brU (usR (x.1 / 2) (unB x) (usX l)) = _
    rw [brU_usR _ (unB_ne (h x (.head _))), brU_usX l fun y hy => h y (.tail _ hy)]; rfl
theorem ckU_usR (u : List Nat) (r : List (List Nat)) (d : Nat) : ∀ n : Nat, ckU (usR n u r) d = ckU (u :: r) d
  | 0 => rfl
  | n + 1 => by
    show ckU ([92, 92] :: usR n u r) d = _
    rw [ckU_e]; exact ckU_usR u r d n
theorem ckU_usX : ∀ (l : List (Nat × Nat)) (d : Nat), ckU (usX l) d = ckU (l.map unB) d
  | [], _ => rfl
  | x :: l, d => by
    show ckU (usR (x.1 / 2) (unB x) (usX l)) d = ckU (unB x :: l.map unB) d
    rw [ckU_usR]
    have ih := ckU_usX l
    show (if unB x = [40] then ckU (usX l) (d + 1) else if unB x = [41] then (match d with
      | 0 => none
      | d + 1 => ckU (usX l) d) else ckU (usX l) d) = (if unB x = [40] then ckU (l.map unB) (d + 1) else if unB x = [41] then (match d with
      | 0 => none
      | d + 1 => ckU (l.map unB) d) else ckU (l.map unB) d)
    rw [ih]
    cases d with
    | zero => rw [ih]
    | succ d => simp only [ih]
end Mine

/-! part MA4 -/
namespace Mine
open PySem PySem.W PySem.W.X PySem.Spec PySem.Calls PyProof.Rows

/-! the closing of four brackets -/
noncomputable def wlB : Nat → List Nat → Option (List Nat)
  | 0, _ => none
  | n + 1, l => if hasB l = false then some l else if okB l = true then wlB n (repB l) else none
theorem wlB_ok : ∀ (n : Nat) (l r : List Nat), wlB n l = some r → Wl l r
  | 0, _, _, h => nomatch h
  | n + 1, l, r, h => by
    unfold wlB at h
    split at h
    · rename_i e
      cases h; exact .stop e
    · rename_i e
      split at h
      · rename_i e2
        exact .step (by simpa using e) e2 (wlB_ok n _ r h)
      · cases h
/-- 0: behind a backslash; 1: ( ; 2: ) -/
noncomputable def fl (k : Fin 3) : List Nat := if k = 0 then [] else if k = 1 then [40] else [41]
noncomputable def un3 (k : Fin 3) : List Nat := if k = 0 then [92, 40] else if k = 1 then [40] else [41]
noncomputable def chk4 (a b c d : Fin 3) : Bool := match wlB 4 (fl a ++ (fl b ++ (fl c ++ (fl d ++ [])))) with
  | some r => (r == []) == ansC (ckU [un3 a, un3 b, un3 c, un3 d] 0)
  | none => false
theorem chk_all : ∀ a b c d : Fin 3, chk4 a b c d = true := by decide +kernel
theorem chk_of (a b c d : Fin 3) : ∃ r, Wl (fl a ++ (fl b ++ (fl c ++ (fl d ++ [])))) r ∧ (r == []) = ansC (ckU [un3 a, un3 b, un3 c, un3 d] 0) := by
  have h := chk_all a b c d
  unfold chk4 at h
  split at h
  · rename_i r e
    exact ⟨r, wlB_ok _ _ _ e, beq_iff_eq.mp h⟩
  · cases h
noncomputable def fk (n s : Nat) : Fin 3 := if n % 2 = 1 then 0 else if s = 0 then 1 else 2
theorem ck_fk {us us' : List (List Nat)} (n s : Nat) (hs : s ≤ 1) (h : ∀ d, ckU us d = ckU us' d) (d : Nat) : ckU (unB (n, 40 + s) :: us) d = ckU (un3 (fk n s) :: us') d := by
  unfold fk unB
  by_cases e : n % 2 = 1
  · simp only [if_pos e]
    rw [ckU_e, show un3 0 = [92, 40] from rfl, ckU_e, h]
  · simp only [if_neg e]
    by_cases z : s = 0
    · subst z
      rw [if_pos rfl, show un3 1 = [40] from rfl, ckU_40, ckU_40, h]
    · have : s = 1 := by omega
      subst this
      rw [if_neg z, show un3 2 = [41] from rfl]
      cases d with
      | zero => rfl
      | succ d => rw [ckU_41, ckU_41, h]
theorem ck_four (n0 n1 n2 n3 s0 s1 s2 s3 : Nat) (h0 : s0 ≤ 1) (h1 : s1 ≤ 1) (h2 : s2 ≤ 1) (h3 : s3 ≤ 1) :
    ckU [unB (n0, 40 + s0), unB (n1, 40 + s1), unB (n2, 40 + s2), unB (n3, 40 + s3)] 0 = ckU [un3 (fk n0 s0), un3 (fk n1 s1), un3 (fk n2 s2), un3 (fk n3 s3)] 0 :=
  ck_fk _ _ h0 (ck_fk _ _ h1 (ck_fk _ _ h2 (ck_fk _ _ h3 fun _ => rfl))) 0
/-! the picked sides -/
noncomputable def selN : List Bool → List (Nat × Nat) → List (Nat × Nat)
  | true :: bs, v :: vs => v :: selN bs vs
  | false :: bs, _ :: vs => selN bs vs
  | _, _ => []
theorem selV_iv : ∀ (bs : List Bool) (l : List (Nat × Nat)), selV bs (l.map iv) = (selN bs l).map iv
  | [], [] => rfl
  | [], _ :: _ => rfl
  | true :: _, [] => rfl
  | false :: _, [] => rfl
  | true :: bs, v :: vs => by
    show iv v :: selV bs (vs.map iv) = iv v :: (selN bs vs).map iv
    rw [selV_iv bs vs]
  | false :: bs, v :: vs => selV_iv bs vs
theorem selN_mem : ∀ (bs : List Bool) (l : List (Nat × Nat)) (z : Nat × Nat), z ∈ selN bs l → z ∈ l
  | [], [], _, h => nomatch h
  | [], _ :: _, _, h => nomatch h
  | true :: _, [], _, h => nomatch h
  | false :: _, [], _, h => nomatch h
  | true :: bs, v :: vs, z, h => (List.mem_cons.mp h).elim (fun e => e ▸ .head _) fun h => .tail _ (selN_mem bs vs z h)
  | false :: bs, v :: vs, z, h => .tail _ (selN_mem bs vs z h)
theorem selN_len : ∀ (bs : List Bool) (l : List (Nat × Nat)), (selN bs l).length ≤ l.length
  | [], [] => Nat.le_refl _
  | [], _ :: _ => Nat.zero_le _
  | true :: _, [] => Nat.le_refl _
  | false :: _, [] => Nat.le_refl _
  | true :: bs, v :: vs => Nat.succ_le_succ (selN_len bs vs)
  | false :: bs, v :: vs => Nat.le_succ_of_le (selN_len bs vs)
theorem selN_fl (n s t : Nat) (hs : s ≤ 1) (bs : List Bool) (l : List (Nat × Nat)) (b : Bool) (hb : b = (n % 2 == 0)) : (selN (b :: bs) ((s, t) :: l)).map (fun z => 40 + z.1) = fl (fk n s) ++ (selN bs l).map (fun z => 40 + z.1) := by
  subst hb
  unfold fk
  by_cases e : n % 2 = 1
  · have : (n % 2 == 0) = false := by rw [e]; rfl
    rw [this, if_pos e]; rfl
  · have : (n % 2 == 0) = true := by rw [beq_iff_eq]; omega
    rw [this, if_neg e]
    by_cases z : s = 0
    · subst z; rfl
    · have : s = 1 := by omega
      subst this; rfl
theorem clP_of (n0 n1 n2 n3 s0 s1 s2 s3 t0 t1 t2 t3 : Nat) (h0 : s0 ≤ 1) (h1 : s1 ≤ 1) (h2 : s2 ≤ 1) (h3 : s3 ≤ 1) (b0 b1 b2 b3 : Bool) (e0 : b0 = (n0 % 2 == 0)) (e1 : b1 = (n1 % 2 == 0)) (e2 : b2 = (n2 % 2 == 0)) (e3 : b3 = (n3 % 2 == 0)) :
    ClP (selV [b0, b1, b2, b3] [.int (s0 : Int) t0, .int (s1 : Int) t1, .int (s2 : Int) t2, .int (s3 : Int) t3]) (fl (fk n0 s0) ++ (fl (fk n1 s1) ++ (fl (fk n2 s2) ++ (fl (fk n3 s3) ++ [])))) := by
  refine ⟨selN [b0, b1, b2, b3] [(s0, t0), (s1, t1), (s2, t2), (s3, t3)], selV_iv _ [(s0, t0), (s1, t1), (s2, t2), (s3, t3)], fun z hz => ?_, ?_, ?_⟩
  · have := selN_mem _ _ _ hz
    simp only [List.mem_cons, List.not_mem_nil, or_false] at this
    rcases this with rfl | rfl | rfl | rfl <;> (simp only; omega)
  · rw [selN_fl n0 s0 t0 h0 _ _ _ e0, selN_fl n1 s1 t1 h1 _ _ _ e1, selN_fl n2 s2 t2 h2 _ _ _ e2, selN_fl n3 s3 t3 h3 _ _ _ e3]; rfl
  · exact Nat.le_trans (selN_len _ _) (by simp)
/-! a turn -/
theorem br_of {s : Nat} (h : s ≤ 1) : Br (40 + s) := by unfold Br; omega
theorem mem4 {P : Nat × Nat → Prop} {x0 x1 x2 x3 : Nat × Nat} (h0 : P x0) (h1 : P x1) (h2 : P x2) (h3 : P x3) : ∀ x ∈ [x0, x1, x2, x3], P x := fun x hx => by
  simp only [List.mem_cons, List.not_mem_nil, or_false] at hx
  rcases hx with rfl | rfl | rfl | rfl <;> assumption
noncomputable def t4 (n0 n1 n2 n3 s0 s1 s2 s3 : Nat) : List Nat := tx [(n0, 40 + s0), (n1, 40 + s1), (n2, 40 + s2), (n3, 40 + s3)]
section
variable {n0 n1 n2 n3 s0 s1 s2 s3 : Nat} (h0 : s0 ≤ 1) (h1 : s1 ≤ 1) (h2 : s2 ≤ 1) (h3 : s3 ≤ 1)
include h0 h1 h2 h3
theorem t4_br : ∀ x ∈ [(n0, 40 + s0), (n1, 40 + s1), (n2, 40 + s2), (n3, 40 + s3)], Br x.2 := mem4 (br_of h0) (br_of h1) (br_of h2) (br_of h3)
theorem t4_un : Un (t4 n0 n1 n2 n3 s0 s1 s2 s3) (usX [(n0, 40 + s0), (n1, 40 + s1), (n2, 40 + s2), (n3, 40 + s3)]) := un_tx _ (t4_br h0 h1 h2 h3)
theorem t4_brU : brU (unT (t4 n0 n1 n2 n3 s0 s1 s2 s3)) = [unB (n0, 40 + s0), unB (n1, 40 + s1), unB (n2, 40 + s2), unB (n3, 40 + s3)] := by
  unfold t4
  rw [unT_tx _ (t4_br h0 h1 h2 h3), brU_usX _ (t4_br h0 h1 h2 h3)]; rfl
theorem t4_un4 : un4 (t4 n0 n1 n2 n3 s0 s1 s2 s3) = ⟨unB (n0, 40 + s0), unB (n1, 40 + s1), unB (n2, 40 + s2), unB (n3, 40 + s3)⟩ := by
  unfold un4
  rw [t4_brU h0 h1 h2 h3]; rfl
theorem t4_ascii : ∀ c ∈ t4 n0 n1 n2 n3 s0 s1 s2 s3, c < 128 := fun c hc => by
  rcases mem_tx hc with e | ⟨x, hx, e⟩
  · omega
  · have := t4_br h0 h1 h2 h3 x hx
    unfold Br at this
    omega
omit h0 h1 h2 h3 in
theorem t4_ne : t4 n0 n1 n2 n3 s0 s1 s2 s3 ≠ [] := tx_ne (by simp)
omit h0 h1 h2 h3 in
theorem t4_len : (t4 n0 n1 n2 n3 s0 s1 s2 s3).length = n0 + n1 + n2 + n3 + 4 := by
  unfold t4
  rw [len_tx]
  show n0 + 1 + (n1 + 1 + (n2 + 1 + (n3 + 1 + 0))) = _
  omega
theorem t4_brP (hl : n0 + n1 + n2 + n3 ≤ 1000) : BrP (t4 n0 n1 n2 n3 s0 s1 s2 s3) [(un4 (t4 n0 n1 n2 n3 s0 s1 s2 s3)).u0, (un4 (t4 n0 n1 n2 n3 s0 s1 s2 s3)).u1, (un4 (t4 n0 n1 n2 n3 s0 s1 s2 s3)).u2, (un4 (t4 n0 n1 n2 n3 s0 s1 s2 s3)).u3] := by
  refine ⟨_, t4_un h0 h1 h2 h3, ?_, t4_ne, t4_ascii h0 h1 h2 h3, by rw [t4_len]; omega⟩
  rw [t4_un4 h0 h1 h2 h3, brU_usX _ (t4_br h0 h1 h2 h3)]; rfl
theorem t4_ck : ansC (ckU (usX [(n0, 40 + s0), (n1, 40 + s1), (n2, 40 + s2), (n3, 40 + s3)]) 0) = ansC (ckU [un3 (fk n0 s0), un3 (fk n1 s1), un3 (fk n2 s2), un3 (fk n3 s3)] 0) := by
  rw [ckU_usX]
  exact congrArg ansC (ck_four n0 n1 n2 n3 s0 s1 s2 s3 h0 h1 h2 h3)
end
noncomputable def dif (p q : Nat) : Nat := (p % 2 != q % 2).toNat
theorem neL_un (p q s : Nat) : neL (unB (p, 40 + s)) (unB (q, 40 + s)) = (p % 2 != q % 2) := by
  unfold neL unB
  by_cases e : p % 2 = 1 <;> by_cases f : q % 2 = 1
  · simp [e, f]
  · have : q % 2 = 0 := by omega
    simp [e, this]
  · have : p % 2 = 0 := by omega
    simp [this, f]
  · have e' : p % 2 = 0 := by omega
    have f' : q % 2 = 0 := by omega
    simp [e', f']
theorem turn_of (pw : Int) (p0 p1 p2 p3 q0 q1 q2 q3 s0 s1 s2 s3 : Nat) (sd bh ah : I4) (h0 : s0 ≤ 1) (h1 : s1 ≤ 1) (h2 : s2 ≤ 1) (h3 : s3 ≤ 1)
    (d0 : q0 = p0 + dif p0 q0) (d1 : q1 = p1 + dif p1 q1) (d2 : q2 = p2 + dif p2 q2) (d3 : q3 = p3 + dif p3 q3) (l0 : q0 ≤ 14) (l1 : q1 ≤ 14) (l2 : q2 ≤ 14) (l3 : q3 ≤ 14)
    (e0 : bit6 pw ah.d0 bh.d0 = (q0 % 2 == 0)) (e1 : bit6 pw ah.d1 bh.d1 = (q1 % 2 == 0)) (e2 : bit6 pw ah.d2 bh.d2 = (q2 % 2 == 0)) (e3 : bit6 pw ah.d3 bh.d3 = (q3 % 2 == 0))
    (f0 : bit7 pw ah.d0 bh.d0 = (p0 % 2 == 0)) (f1 : bit7 pw ah.d1 bh.d1 = (p1 % 2 == 0)) (f2 : bit7 pw ah.d2 bh.d2 = (p2 % 2 == 0)) (f3 : bit7 pw ah.d3 bh.d3 = (p3 % 2 == 0))
    (g0 : sd.d0 = (s0 : Int)) (g1 : sd.d1 = (s1 : Int)) (g2 : sd.d2 = (s2 : Int)) (g3 : sd.d3 = (s3 : Int)) (hp : PwP pw) :
    TurnQ pw (t4 p0 p1 p2 p3 s0 s1 s2 s3) (t4 q0 q1 q2 q3 s0 s1 s2 s3) sd bh ah := by
  have hL : sd.L = [.int (s0 : Int) sd.t0, .int (s1 : Int) sd.t1, .int (s2 : Int) sd.t2, .int (s3 : Int) sd.t3] := by unfold I4.L; rw [g0, g1, g2, g3]
  refine ⟨_, _, _, _, t4_brP h0 h1 h2 h3 (by omega), t4_brP h0 h1 h2 h3 (by omega), ⟨_, t4_un h0 h1 h2 h3, t4_ne, t4_ascii h0 h1 h2 h3, t4_ck h0 h1 h2 h3⟩, ⟨_, t4_un h0 h1 h2 h3, t4_ne, t4_ascii h0 h1 h2 h3, t4_ck h0 h1 h2 h3⟩, chk_of _ _ _ _, chk_of _ _ _ _, ?_, ?_, ?_, ?_, ?_, hp⟩
  · unfold sel6
    rw [hL]
    exact clP_of q0 q1 q2 q3 s0 s1 s2 s3 _ _ _ _ h0 h1 h2 h3 _ _ _ _ e0 e1 e2 e3
  · unfold sel7
    rw [hL]
    exact clP_of p0 p1 p2 p3 s0 s1 s2 s3 _ _ _ _ h0 h1 h2 h3 _ _ _ _ f0 f1 f2 f3
  · rw [t4_un4 h0 h1 h2 h3, t4_un4 h0 h1 h2 h3, t4_len, t4_len]
    unfold neC cntB
    simp only [neL_un]
    have : (((q0 + q1 + q2 + q3 + 4 : Nat) : Int) - ((p0 + p1 + p2 + p3 + 4 : Nat) : Int)) = (((p0 % 2 != q0 % 2).toNat + (p1 % 2 != q1 % 2).toNat + (p2 % 2 != q2 % 2).toNat + (p3 % 2 != q3 % 2).toNat : Nat) : Int) := by
      unfold dif at d0 d1 d2 d3
      omega
    rw [this]
    simp
  · rw [t4_len]; omega
  · rw [t4_len]; omega
end Mine

/-! part LA4 -/
namespace Mine
open PySem PySem.W PySem.W.X PySem.Spec PySem.Calls PyProof.Rows

/-! law's whole run, from the thread's own tree -/
noncomputable def stubT (vs : List Value) : Sem Fin := do match ← nsGet mainNs (Str.ofString "law") with
  | some f => do ret (← PySem.call f vs)
  | none => unsupported "claim.caller:no-such-global"
noncomputable def cCC : Code := .builtin "claim.caller" {}
noncomputable abbrev runS (w : World) (b b2 : Bool) (log : List Ev) (vs : List Value) (p : Pos) (cs : Cells) (tk : Nat) (sup : List Nat) : Option Res :=
  run denF pw (fP w b b2) (KT' w b b2) 100000 log (stubT vs) cCC p [] [] cs tk [] [] sup
noncomputable def logLaw (P : Params) : List Ev := [.st, .go, .st, .st, .dy 3, .dy 3, .st, .go, .st, .st, .st, .st, .go, .go, .go, .go, .dy 14, .dy 14, .go, .dy 14, .go, .dy 14, .go, .go, .go, .go, .dy 15, .dy 15, .go, .dy 15, .con 4 (initRF 15 14), .dy 13, .dy 15, .dy 13, .go, .dy 13, .go, .dy 15, .dy 13, .dy 15, .dy 4, .dy 4, .st, .st, .go, .go, .go, .go, .dy 17, .dy 17, .go, .dy 17, .go, .dy 18, .dy 19, .dy 19, .go, .dy 19, .go, .dy 19, .dy 19, .dy 19, .go, .dy 19, .go, .dy 19, .con 12 (FDr P 19 20 21 3 18 17 1), .dy 21, .dy 21, .dy 21, .dy 21, .dy 21, .dy 21, .dy 5, .dy 5, .dy 5, .dy 20, .dy 20, .go, .dy 20, .go, .dy 22, .con 6 (FSd P 22 23 24 20), .dy 24, .dy 24, .dy 24, .dy 6, .dy 6, .dy 5, .dy 20, .dy 20, .go, .dy 20, .go, .dy 25, .con 6 (FAh P 25 26 27 20), .dy 27, .dy 27, .dy 27, .dy 7, .dy 7, .dy 5, .dy 20, .dy 20, .go, .dy 20, .go, .dy 28, .con 6 (FBh P 28 29 30 20), .dy 30, .dy 30, .dy 30, .dy 8, .dy 8, .st, .st, .go, .go, .go, .go, .dy 31, .dy 31, .go, .dy 31, .go, .dy 31, .dy 31, .dy 31, .go, .dy 31, .go, .dy 31, .dy 31, .dy 31, .dy 32, .con 7 (FTx P 32 33 34 4 6 5 8 7 16 23 20 29 26), .dy 34, .dy 34, .dy 34, .go, .con 2 (joinS 33), .dy 2, .dy 2, .st, .dy 2, .st, .st, .dy 3, .go, .con 0 (lenLF 1), .st, .con 17 (FD1s 0), .dy 36, .dy 36, .go, .dy 36, .go, .dy 37, .con 6 (FLt P 37 38 39 36), .dy 2, .dy 2, .dy 39, .dy 39, .dy 39, .st, .st, .dy 2, .st, .con 2 (F121s false), .st, .st, .dy 3, .go, .con 0 (lenLF 1), .st, .con 5 (FD2s 0 35), .dy 2, .dy 2, .dy 9, .dy 9, .st, .st, .go, .go, .go, .go, .dy 42, .dy 42, .go, .dy 42, .go, .dy 42, .dy 42, .dy 42, .go, .dy 42, .go, .dy 42, .dy 42, .dy 42, .dy 43, .con 11 (FLw P [43, 2, 10, 11, 12, 9, 6, 8, 7, 38, 40, 41, 23, 29, 26]), .st, .st, .go, .go, .go, .go, .dy 48, .dy 48, .go, .dy 48, .go, .dy 48, .dy 48, .dy 48, .go, .dy 48, .go, .dy 48, .dy 48, .dy 48, .dy 49, .con 6 (FC8 P 49 50 51 52 9 41 44 45 46 47), .st, .st, .go, .go, .go, .go, .dy 53, .dy 53, .go, .dy 53, .go, .dy 53, .dy 53, .dy 53, .go, .dy 53, .go, .dy 53, .dy 53, .dy 53, .dy 54, .con 7 (FC9 P 54 55 56 8 7 29 26), .dy 56, .dy 56, .dy 56, .dy 50, .dy 55, .dy 50, .go, .dy 50, .con 0 (eqLF 50 55)]
/-! what is left to be shown of the drawn numbers -/
noncomputable def drI (f : Nat → Nat) : I4 := ⟨drN 22 (f 24), drN 1194 (f 25), drN 1325 (f 26), drN 3413 (f 27), f 28, f 29, f 30, f 31, 4⟩
noncomputable def sdI (f : Nat → Nat) : I4 := ⟨Int.fmod (drI f).d0 2, Int.fmod (drI f).d1 2, Int.fmod (drI f).d2 2, Int.fmod (drI f).d3 2, f 39, f 40, f 41, f 42, 4⟩
noncomputable def ahI (f : Nat → Nat) : I4 := ⟨Int.fmod (Int.fdiv (drI f).d0 2) 8, Int.fmod (Int.fdiv (drI f).d1 2) 8, Int.fmod (Int.fdiv (drI f).d2 2) 8, Int.fmod (Int.fdiv (drI f).d3 2) 8, f 48, f 49, f 50, f 51, 4⟩
noncomputable def bhI (f : Nat → Nat) : I4 := ⟨Int.fmod (Int.fdiv (drI f).d0 16) 8, Int.fmod (Int.fdiv (drI f).d1 16) 8, Int.fmod (Int.fdiv (drI f).d2 16) 8, Int.fmod (Int.fdiv (drI f).d3 16) 8, f 57, f 58, f 59, f 60, 4⟩
noncomputable def usL (f : Nat → Nat) (tk : Nat) : List Value := [.int 173 tk, .int 847 (tk + 1), .int 6150 (tk + 2), .int 6155 (tk + 3), .int 6156 (tk + 4), .int 6157 (tk + 5), .int 8203 (tk + 6), .int 8204 (tk + 7), .int 8205 (tk + 8), .int 8288 (tk + 9), .int 65279 (tk + 10)] ++ vsU [f 14, f 15, f 16, f 17]
noncomputable def txU0 (f : Nat → Nat) (tk : Nat) : List Nat := unitT (usL f tk) (sdI f).d0 (drI f).d0 (bhI f).d0 (ahI f).d0
noncomputable def txU1 (f : Nat → Nat) (tk : Nat) : List Nat := unitT (usL f tk) (sdI f).d1 (drI f).d1 (bhI f).d1 (ahI f).d1
noncomputable def txU2 (f : Nat → Nat) (tk : Nat) : List Nat := unitT (usL f tk) (sdI f).d2 (drI f).d2 (bhI f).d2 (ahI f).d2
noncomputable def txU3 (f : Nat → Nat) (tk : Nat) : List Nat := unitT (usL f tk) (sdI f).d3 (drI f).d3 (bhI f).d3 (ahI f).d3
noncomputable def txL (f : Nat → Nat) (tk : Nat) : List Nat := txU0 f tk ++ (txU1 f tk ++ (txU2 f tk ++ txU3 f tk))
noncomputable def CntQ (a b c d a' b' c' d' : List Nat) (ah bh : I4) : Prop :=
  ((cntB (neL (un4 a).u0 (un4 a').u0) (neL (un4 b).u0 (un4 b').u0) (neL (un4 c).u0 (un4 c').u0) (neL (un4 d).u0 (un4 d').u0) : Nat) : Int) = (twC ah.d0 bh.d0 : Nat) ∧
  ((cntB (neL (un4 a).u1 (un4 a').u1) (neL (un4 b).u1 (un4 b').u1) (neL (un4 c).u1 (un4 c').u1) (neL (un4 d).u1 (un4 d').u1) : Nat) : Int) = (twC ah.d1 bh.d1 : Nat) ∧
  ((cntB (neL (un4 a).u2 (un4 a').u2) (neL (un4 b).u2 (un4 b').u2) (neL (un4 c).u2 (un4 c').u2) (neL (un4 d).u2 (un4 d').u2) : Nat) : Int) = (twC ah.d2 bh.d2 : Nat) ∧
  ((cntB (neL (un4 a).u3 (un4 a').u3) (neL (un4 b).u3 (un4 b').u3) (neL (un4 c).u3 (un4 c').u3) (neL (un4 d).u3 (un4 d').u3) : Nat) : Int) = (twC ah.d3 bh.d3 : Nat)
/-- what law asks of its text, in plain words -/
noncomputable def LawQ (t : List Nat) (sd bh ah : I4) : Prop :=
  TurnQ 1 (keepC t) (keepC t) sd bh ah ∧ TurnQ 2 (keepC (rdT t)) (rdT (keepC t)) sd bh ah ∧ TurnQ 4 (keepC (rdT (rdT t))) (rdT (rdT (keepC t))) sd bh ah ∧ TurnQ 8 (keepC (rdT (rdT (rdT t)))) (rdT (rdT (rdT (keepC t)))) sd bh ah
noncomputable def psLaw (xs : List Value) (f : Nat → Nat) (tk : Nat) : List Prop :=
  [Item.p (CntQ (keepC (txL f tk)) (keepC (rdT (txL f tk))) (keepC (rdT (rdT (txL f tk)))) (keepC (rdT (rdT (rdT (txL f tk))))) (keepC (txL f tk)) (rdT (keepC (txL f tk))) (rdT (rdT (keepC (txL f tk)))) (rdT (rdT (rdT (keepC (txL f tk))))) (ahI f) (bhI f)) = .p True,
   Item.p (TwQ (ahI f).d0 (bhI f).d0 ∧ TwQ (ahI f).d1 (bhI f).d1 ∧ TwQ (ahI f).d2 (bhI f).d2 ∧ TwQ (ahI f).d3 (bhI f).d3) = .p True,
   Item.p (LawQ (txL f tk) (sdI f) (bhI f) (ahI f)) = .p True,
   Item.p (RdQ (keepC (txL f tk))) = .p True,
   Item.p (xs.length ≤ 1000000) = .p True,
   Item.p (PrW (txL f tk)) = .p True,
   Item.p (PrW (txL f tk) ∧ PrW (rdT (txL f tk)) ∧ PrW (rdT (rdT (txL f tk))) ∧ PrW (rdT (rdT (rdT (txL f tk))))) = .p True,
   Item.p (RdQ (txL f tk)) = .p True,
   Item.p (xs.length ≤ 1000000) = .p True,
   Item.p (JoinP ⟨⟨txL f tk⟩⟩ (lstO [.str ⟨⟨txU0 f tk⟩⟩ (f 67), .str ⟨⟨txU1 f tk⟩⟩ (f 68), .str ⟨⟨txU2 f tk⟩⟩ (f 69), .str ⟨⟨txU3 f tk⟩⟩ (f 70)] 4)) = .p True,
   Item.p (∀ Q ∈ psTx (usL f tk) (sdI f) (drI f) (bhI f) (ahI f), Q) = .p True,
   Item.p (ScrP xs) = .p True]
section
variable (w : World) (b b2 : Bool) (p : Pos) (sl : Nat) (xs : List Value) (m : Nat) (tk : Nat)
theorem segLaw (f : Nat → Nat) : okQ [true, true] (runS w b b2 (logLaw (fP w b b2)) [.ref sl] p [(104, tab0), (sl, lstO xs m)] tk (tabN f 145 0))
    (.fin (.ok (.ret (.bool true)))) [(104, tabO (f 81) (f 82)), (sl, lstO xs m)] (psLaw xs f tk) := by
  cases b <;> (unfold okQ; kernel_rfl)
end
end Mine

/-! part MA5 -/
namespace Mine
open PySem PySem.W PySem.W.X PySem.Spec PySem.Calls PyProof.Rows

/-! one bracket -/
structure BF (a e : Nat) : Prop where
  b0 : bit6 1 (a : Int) (e : Int) = ((a + e) % 2 == 0)
  b1 : bit6 2 (a : Int) (e : Int) = ((a + e) / 2 % 2 == 0)
  b2 : bit6 4 (a : Int) (e : Int) = ((a + e) / 2 / 2 % 2 == 0)
  b3 : bit6 8 (a : Int) (e : Int) = ((a + e) / 2 / 2 / 2 % 2 == 0)
  c0 : bit7 1 (a : Int) (e : Int) = ((a + e) % 2 == 0)
  c1 : bit7 2 (a : Int) (e : Int) = ((a / 2 + e / 2) % 2 == 0)
  c2 : bit7 4 (a : Int) (e : Int) = ((a / 2 / 2 + e / 2 / 2) % 2 == 0)
  c3 : bit7 8 (a : Int) (e : Int) = ((a / 2 / 2 / 2 + e / 2 / 2 / 2) % 2 == 0)
  d0 : a + e = a + e + dif (a + e) (a + e)
  d1 : (a + e) / 2 = a / 2 + e / 2 + dif (a / 2 + e / 2) ((a + e) / 2)
  d2 : (a + e) / 2 / 2 = a / 2 / 2 + e / 2 / 2 + dif (a / 2 / 2 + e / 2 / 2) ((a + e) / 2 / 2)
  d3 : (a + e) / 2 / 2 / 2 = a / 2 / 2 / 2 + e / 2 / 2 / 2 + dif (a / 2 / 2 / 2 + e / 2 / 2 / 2) ((a + e) / 2 / 2 / 2)
  tw : cntB ((a + e) % 2 != (a + e) % 2) ((a / 2 + e / 2) % 2 != (a + e) / 2 % 2) ((a / 2 / 2 + e / 2 / 2) % 2 != (a + e) / 2 / 2 % 2) ((a / 2 / 2 / 2 + e / 2 / 2 / 2) % 2 != (a + e) / 2 / 2 / 2 % 2) = twC (a : Int) (e : Int)
  la : a ≤ 7
  le : e ≤ 7
noncomputable def bfB (a e : Nat) : Bool :=
  (bit6 1 (a : Int) (e : Int) == ((a + e) % 2 == 0)) && (bit6 2 (a : Int) (e : Int) == ((a + e) / 2 % 2 == 0)) && (bit6 4 (a : Int) (e : Int) == ((a + e) / 2 / 2 % 2 == 0)) && (bit6 8 (a : Int) (e : Int) == ((a + e) / 2 / 2 / 2 % 2 == 0)) &&
  (bit7 1 (a : Int) (e : Int) == ((a + e) % 2 == 0)) && (bit7 2 (a : Int) (e : Int) == ((a / 2 + e / 2) % 2 == 0)) && (bit7 4 (a : Int) (e : Int) == ((a / 2 / 2 + e / 2 / 2) % 2 == 0)) && (bit7 8 (a : Int) (e : Int) == ((a / 2 / 2 / 2 + e / 2 / 2 / 2) % 2 == 0)) &&
  (a + e == a + e + dif (a + e) (a + e)) && ((a + e) / 2 == a / 2 + e / 2 + dif (a / 2 + e / 2) ((a + e) / 2)) && ((a + e) / 2 / 2 == a / 2 / 2 + e / 2 / 2 + dif (a / 2 / 2 + e / 2 / 2) ((a + e) / 2 / 2)) && ((a + e) / 2 / 2 / 2 == a / 2 / 2 / 2 + e / 2 / 2 / 2 + dif (a / 2 / 2 / 2 + e / 2 / 2 / 2) ((a + e) / 2 / 2 / 2)) &&
  (cntB ((a + e) % 2 != (a + e) % 2) ((a / 2 + e / 2) % 2 != (a + e) / 2 % 2) ((a / 2 / 2 + e / 2 / 2) % 2 != (a + e) / 2 / 2 % 2) ((a / 2 / 2 / 2 + e / 2 / 2 / 2) % 2 != (a + e) / 2 / 2 / 2 % 2) == twC (a : Int) (e : Int))
theorem bfB_all : ∀ a e : Fin 8, bfB a.1 e.1 = true := by decide +kernel
theorem bf_of {a e : Nat} (ha : a ≤ 7) (he : e ≤ 7) : BF a e := by
  have h : bfB a e = true := bfB_all ⟨a, by omega⟩ ⟨e, by omega⟩
  unfold bfB at h
  simp only [Bool.and_eq_true, beq_iff_eq] at h
  obtain ⟨⟨⟨⟨⟨⟨⟨⟨⟨⟨⟨⟨h1, h2⟩, h3⟩, h4⟩, h5⟩, h6⟩, h7⟩, h8⟩, h9⟩, h10⟩, h11⟩, h12⟩, h13⟩ := h
  exact ⟨h1, h2, h3, h4, h5, h6, h7, h8, h9, h10, h11, h12, h13, ha, he⟩

/-! the text of four brackets -/
structure B4T where
  (a0 a1 a2 a3 e0 e1 e2 e3 u0 u1 u2 u3 s0 s1 s2 s3 : Nat)
structure B4T.Ok (z : B4T) : Prop where
  f0 : BF z.a0 z.e0
  f1 : BF z.a1 z.e1
  f2 : BF z.a2 z.e2
  f3 : BF z.a3 z.e3
  u0 : unseenN.contains z.u0 = true
  u1 : unseenN.contains z.u1 = true
  u2 : unseenN.contains z.u2 = true
  u3 : unseenN.contains z.u3 = true
  s0 : z.s0 ≤ 1
  s1 : z.s1 ≤ 1
  s2 : z.s2 ≤ 1
  s3 : z.s3 ≤ 1
noncomputable def B4T.l (z : B4T) : List (Nat × Nat) := [(z.a0, z.u0), (z.e0, 40 + z.s0), (z.a1, z.u1), (z.e1, 40 + z.s1), (z.a2, z.u2), (z.e2, 40 + z.s2), (z.a3, z.u3), (z.e3, 40 + z.s3)]
noncomputable def B4T.h (z : B4T) : B4T := { z with a0 := z.a0 / 2, a1 := z.a1 / 2, a2 := z.a2 / 2, a3 := z.a3 / 2, e0 := z.e0 / 2, e1 := z.e1 / 2, e2 := z.e2 / 2, e3 := z.e3 / 2 }
theorem unseen_big : ∀ u ∈ unseenN, 128 ≤ u ∧ u < 70000 := by decide
theorem unseen_of {u : Nat} (h : unseenN.contains u = true) : 128 ≤ u ∧ u < 70000 := unseen_big u (List.contains_iff_mem.mp h)
theorem seen_of {s : Nat} (h : s ≤ 1) : unseenN.contains (40 + s) = false := by
  match s, h with
  | 0, _ => decide
  | 1, _ => decide
theorem unseen_92 : unseenN.contains 92 = false := by decide
theorem keep_rep (n : Nat) (l : List Nat) : keepC (List.replicate n 92 ++ l) = List.replicate n 92 ++ keepC l := by
  unfold keepC
  rw [List.filter_append]
  congr 1
  rw [List.filter_eq_self]
  intro c hc
  rw [List.eq_of_mem_replicate hc, unseen_92]; rfl
theorem keep_un {u : Nat} (h : unseenN.contains u = true) (l : List Nat) : keepC (u :: l) = keepC l := by
  unfold keepC
  rw [List.filter_cons, if_neg (by rw [h]; simp)]
theorem keep_seen {c : Nat} (h : unseenN.contains c = false) (l : List Nat) : keepC (c :: l) = c :: keepC l := by
  unfold keepC
  rw [List.filter_cons, if_pos (by rw [h]; rfl)]
theorem keep_br {a e u s : Nat} (hu : unseenN.contains u = true) (hs : s ≤ 1) (l : List (Nat × Nat)) (o : List Nat) (h : keepC (tx l) = o) : keepC (tx ((a, u) :: (e, 40 + s) :: l)) = List.replicate (a + e) 92 ++ (40 + s) :: o := by
  show keepC (List.replicate a 92 ++ u :: (List.replicate e 92 ++ (40 + s) :: tx l)) = _
  rw [keep_rep, keep_un hu, keep_rep, keep_seen (seen_of hs), h, ← List.append_assoc, List.replicate_append_replicate]
theorem B4T.keep {z : B4T} (h : z.Ok) : keepC (tx z.l) = t4 (z.a0 + z.e0) (z.a1 + z.e1) (z.a2 + z.e2) (z.a3 + z.e3) z.s0 z.s1 z.s2 z.s3 :=
  keep_br h.u0 h.s0 _ _ (keep_br h.u1 h.s1 _ _ (keep_br h.u2 h.s2 _ _ (keep_br h.u3 h.s3 [] [] rfl)))
theorem good_un {u : Nat} (h : unseenN.contains u = true) : GoodS u := by
  have := unseen_of h
  unfold GoodS; omega
theorem good_br {s : Nat} (h : s ≤ 1) : GoodS (40 + s) := by unfold GoodS; omega
theorem mem8 {P : Nat × Nat → Prop} {x0 x1 x2 x3 x4 x5 x6 x7 : Nat × Nat} (h0 : P x0) (h1 : P x1) (h2 : P x2) (h3 : P x3) (h4 : P x4) (h5 : P x5) (h6 : P x6) (h7 : P x7) : ∀ x ∈ [x0, x1, x2, x3, x4, x5, x6, x7], P x := fun x hx => by
  simp only [List.mem_cons, List.not_mem_nil, or_false] at hx
  rcases hx with rfl | rfl | rfl | rfl | rfl | rfl | rfl | rfl <;> assumption
theorem B4T.good {z : B4T} (h : z.Ok) : ∀ x ∈ z.l, GoodS x.2 :=
  mem8 (good_un h.u0) (good_br h.s0) (good_un h.u1) (good_br h.s1) (good_un h.u2) (good_br h.s2) (good_un h.u3) (good_br h.s3)
theorem B4T.rd {z : B4T} (h : z.Ok) : rdT (tx z.l) = tx z.h.l := rdT_tx _ (B4T.good h)
theorem bf_half {a e : Nat} (h : BF a e) : BF (a / 2) (e / 2) := bf_of (by have := h.la; omega) (by have := h.le; omega)
theorem B4T.okh {z : B4T} (h : z.Ok) : z.h.Ok := ⟨bf_half h.f0, bf_half h.f1, bf_half h.f2, bf_half h.f3, h.u0, h.u1, h.u2, h.u3, h.s0, h.s1, h.s2, h.s3⟩
theorem B4T.len {z : B4T} (h : z.Ok) : lenX z.l ≤ 64 := by
  have h1 := h.f0.la; have h2 := h.f0.le; have h3 := h.f1.la; have h4 := h.f1.le; have h5 := h.f2.la; have h6 := h.f2.le; have h7 := h.f3.la; have h8 := h.f3.le
  show z.a0 + 1 + (z.e0 + 1 + (z.a1 + 1 + (z.e1 + 1 + (z.a2 + 1 + (z.e2 + 1 + (z.a3 + 1 + (z.e3 + 1 + 0))))))) ≤ 64
  omega
theorem B4T.prw {z : B4T} (h : z.Ok) : PrW (tx z.l) := by
  have s : ∀ {s : Nat}, s ≤ 1 → 40 + s < 70000 := fun h => by omega
  refine prW_tx (mem8 (unseen_of h.u0).2 (s h.s0) (unseen_of h.u1).2 (s h.s1) (unseen_of h.u2).2 (s h.s2) (unseen_of h.u3).2 (s h.s3)) ⟨_, .head _, (unseen_of h.u0).1⟩ ?_
  have := B4T.len h
  omega
theorem B4T.rdq {z : B4T} (h : z.Ok) : RdQ (tx z.l) := rdQ_tx (B4T.good h) (by simp [B4T.l]) (by have := B4T.len h; omega)
section
variable {n0 n1 n2 n3 s0 s1 s2 s3 : Nat} (h0 : s0 ≤ 1) (h1 : s1 ≤ 1) (h2 : s2 ≤ 1) (h3 : s3 ≤ 1)
include h0 h1 h2 h3
theorem t4_rd : rdT (t4 n0 n1 n2 n3 s0 s1 s2 s3) = t4 (n0 / 2) (n1 / 2) (n2 / 2) (n3 / 2) s0 s1 s2 s3 :=
  rdT_tx _ (mem4 (good_br h0) (good_br h1) (good_br h2) (good_br h3))
theorem t4_rdq (hl : n0 + n1 + n2 + n3 ≤ 1000) : RdQ (t4 n0 n1 n2 n3 s0 s1 s2 s3) := by
  refine rdQ_tx (mem4 (good_br h0) (good_br h1) (good_br h2) (good_br h3)) (by simp) ?_
  show n0 + 1 + (n1 + 1 + (n2 + 1 + (n3 + 1 + 0))) ≤ 8000
  omega
end
section
variable {z : B4T} (h : z.Ok)
include h
/-- the texts that law looks at -/
theorem B4T.late1 : keepC (rdT (tx z.l)) = t4 (z.a0 / 2 + z.e0 / 2) (z.a1 / 2 + z.e1 / 2) (z.a2 / 2 + z.e2 / 2) (z.a3 / 2 + z.e3 / 2) z.s0 z.s1 z.s2 z.s3 := by
  rw [B4T.rd h]; exact B4T.keep (B4T.okh h)
theorem B4T.late2 : keepC (rdT (rdT (tx z.l))) = t4 (z.a0 / 2 / 2 + z.e0 / 2 / 2) (z.a1 / 2 / 2 + z.e1 / 2 / 2) (z.a2 / 2 / 2 + z.e2 / 2 / 2) (z.a3 / 2 / 2 + z.e3 / 2 / 2) z.s0 z.s1 z.s2 z.s3 := by
  rw [B4T.rd h]; exact B4T.late1 (B4T.okh h)
theorem B4T.late3 : keepC (rdT (rdT (rdT (tx z.l)))) = t4 (z.a0 / 2 / 2 / 2 + z.e0 / 2 / 2 / 2) (z.a1 / 2 / 2 / 2 + z.e1 / 2 / 2 / 2) (z.a2 / 2 / 2 / 2 + z.e2 / 2 / 2 / 2) (z.a3 / 2 / 2 / 2 + z.e3 / 2 / 2 / 2) z.s0 z.s1 z.s2 z.s3 := by
  rw [B4T.rd h]; exact B4T.late2 (B4T.okh h)
theorem B4T.early1 : rdT (keepC (tx z.l)) = t4 ((z.a0 + z.e0) / 2) ((z.a1 + z.e1) / 2) ((z.a2 + z.e2) / 2) ((z.a3 + z.e3) / 2) z.s0 z.s1 z.s2 z.s3 := by
  rw [B4T.keep h, t4_rd h.s0 h.s1 h.s2 h.s3]
theorem B4T.early2 : rdT (rdT (keepC (tx z.l))) = t4 ((z.a0 + z.e0) / 2 / 2) ((z.a1 + z.e1) / 2 / 2) ((z.a2 + z.e2) / 2 / 2) ((z.a3 + z.e3) / 2 / 2) z.s0 z.s1 z.s2 z.s3 := by
  rw [B4T.early1 h, t4_rd h.s0 h.s1 h.s2 h.s3]
theorem B4T.early3 : rdT (rdT (rdT (keepC (tx z.l)))) = t4 ((z.a0 + z.e0) / 2 / 2 / 2) ((z.a1 + z.e1) / 2 / 2 / 2) ((z.a2 + z.e2) / 2 / 2 / 2) ((z.a3 + z.e3) / 2 / 2 / 2) z.s0 z.s1 z.s2 z.s3 := by
  rw [B4T.early2 h, t4_rd h.s0 h.s1 h.s2 h.s3]
theorem B4T.lawq {sd bh ah : I4} (g0 : sd.d0 = (z.s0 : Int)) (g1 : sd.d1 = (z.s1 : Int)) (g2 : sd.d2 = (z.s2 : Int)) (g3 : sd.d3 = (z.s3 : Int))
    (i0 : ah.d0 = (z.a0 : Int)) (i1 : ah.d1 = (z.a1 : Int)) (i2 : ah.d2 = (z.a2 : Int)) (i3 : ah.d3 = (z.a3 : Int)) (j0 : bh.d0 = (z.e0 : Int)) (j1 : bh.d1 = (z.e1 : Int)) (j2 : bh.d2 = (z.e2 : Int)) (j3 : bh.d3 = (z.e3 : Int)) : LawQ (tx z.l) sd bh ah := by
  have q1 := h.f0.la; have q2 := h.f0.le; have q3 := h.f1.la; have q4 := h.f1.le; have q5 := h.f2.la; have q6 := h.f2.le; have q7 := h.f3.la; have q8 := h.f3.le
  unfold LawQ
  rw [B4T.late3 h, B4T.late2 h, B4T.late1 h, B4T.early3 h, B4T.early2 h, B4T.early1 h, B4T.keep h]
  refine ⟨?_, ?_, ?_, ?_⟩
  · refine turn_of 1 _ _ _ _ _ _ _ _ _ _ _ _ sd bh ah h.s0 h.s1 h.s2 h.s3 h.f0.d0 h.f1.d0 h.f2.d0 h.f3.d0 (by omega) (by omega) (by omega) (by omega) ?_ ?_ ?_ ?_ ?_ ?_ ?_ ?_ g0 g1 g2 g3 (by unfold PwP; decide)
    · rw [i0, j0]; exact h.f0.b0
    · rw [i1, j1]; exact h.f1.b0
    · rw [i2, j2]; exact h.f2.b0
    · rw [i3, j3]; exact h.f3.b0
    · rw [i0, j0]; exact h.f0.c0
    · rw [i1, j1]; exact h.f1.c0
    · rw [i2, j2]; exact h.f2.c0
    · rw [i3, j3]; exact h.f3.c0
  · refine turn_of 2 _ _ _ _ _ _ _ _ _ _ _ _ sd bh ah h.s0 h.s1 h.s2 h.s3 h.f0.d1 h.f1.d1 h.f2.d1 h.f3.d1 (by omega) (by omega) (by omega) (by omega) ?_ ?_ ?_ ?_ ?_ ?_ ?_ ?_ g0 g1 g2 g3 (by unfold PwP; decide)
    · rw [i0, j0]; exact h.f0.b1
    · rw [i1, j1]; exact h.f1.b1
    · rw [i2, j2]; exact h.f2.b1
    · rw [i3, j3]; exact h.f3.b1
    · rw [i0, j0]; exact h.f0.c1
    · rw [i1, j1]; exact h.f1.c1
    · rw [i2, j2]; exact h.f2.c1
    · rw [i3, j3]; exact h.f3.c1
  · refine turn_of 4 _ _ _ _ _ _ _ _ _ _ _ _ sd bh ah h.s0 h.s1 h.s2 h.s3 h.f0.d2 h.f1.d2 h.f2.d2 h.f3.d2 (by omega) (by omega) (by omega) (by omega) ?_ ?_ ?_ ?_ ?_ ?_ ?_ ?_ g0 g1 g2 g3 (by unfold PwP; decide)
    · rw [i0, j0]; exact h.f0.b2
    · rw [i1, j1]; exact h.f1.b2
    · rw [i2, j2]; exact h.f2.b2
    · rw [i3, j3]; exact h.f3.b2
    · rw [i0, j0]; exact h.f0.c2
    · rw [i1, j1]; exact h.f1.c2
    · rw [i2, j2]; exact h.f2.c2
    · rw [i3, j3]; exact h.f3.c2
  · refine turn_of 8 _ _ _ _ _ _ _ _ _ _ _ _ sd bh ah h.s0 h.s1 h.s2 h.s3 h.f0.d3 h.f1.d3 h.f2.d3 h.f3.d3 (by omega) (by omega) (by omega) (by omega) ?_ ?_ ?_ ?_ ?_ ?_ ?_ ?_ g0 g1 g2 g3 (by unfold PwP; decide)
    · rw [i0, j0]; exact h.f0.b3
    · rw [i1, j1]; exact h.f1.b3
    · rw [i2, j2]; exact h.f2.b3
    · rw [i3, j3]; exact h.f3.b3
    · rw [i0, j0]; exact h.f0.c3
    · rw [i1, j1]; exact h.f1.c3
    · rw [i2, j2]; exact h.f2.c3
    · rw [i3, j3]; exact h.f3.c3
theorem B4T.cntq {bh ah : I4} (i0 : ah.d0 = (z.a0 : Int)) (i1 : ah.d1 = (z.a1 : Int)) (i2 : ah.d2 = (z.a2 : Int)) (i3 : ah.d3 = (z.a3 : Int)) (j0 : bh.d0 = (z.e0 : Int)) (j1 : bh.d1 = (z.e1 : Int)) (j2 : bh.d2 = (z.e2 : Int)) (j3 : bh.d3 = (z.e3 : Int)) :
    CntQ (keepC (tx z.l)) (keepC (rdT (tx z.l))) (keepC (rdT (rdT (tx z.l)))) (keepC (rdT (rdT (rdT (tx z.l))))) (keepC (tx z.l)) (rdT (keepC (tx z.l))) (rdT (rdT (keepC (tx z.l)))) (rdT (rdT (rdT (keepC (tx z.l))))) ah bh := by
  unfold CntQ
  rw [B4T.late3 h, B4T.late2 h, B4T.late1 h, B4T.early3 h, B4T.early2 h, B4T.early1 h, B4T.keep h]
  simp only [t4_un4 h.s0 h.s1 h.s2 h.s3, neL_un]
  rw [i0, i1, i2, i3, j0, j1, j2, j3]
  exact ⟨congrArg Int.ofNat h.f0.tw, congrArg Int.ofNat h.f1.tw, congrArg Int.ofNat h.f2.tw, congrArg Int.ofNat h.f3.tw⟩
end
end Mine

/-! part MA6 -/
namespace Mine
open PySem PySem.W PySem.W.X PySem.Spec PySem.Calls PyProof.Rows

/-! the signs of table B.1 that law draws -/
theorem us_at (f : Nat → Nat) (tk : Nat) : ∀ k, k < 27 → ∃ u t : Nat, nthV (usL f tk) k = .int ((u : Nat) : Int) t ∧ (usL f tk)[k]? = some (.int ((u : Nat) : Int) t) ∧ unseenN.contains u = true
  | 0, _ => ⟨173, _, rfl, rfl, by decide⟩
  | 1, _ => ⟨847, _, rfl, rfl, by decide⟩
  | 2, _ => ⟨6150, _, rfl, rfl, by decide⟩
  | 3, _ => ⟨6155, _, rfl, rfl, by decide⟩
  | 4, _ => ⟨6156, _, rfl, rfl, by decide⟩
  | 5, _ => ⟨6157, _, rfl, rfl, by decide⟩
  | 6, _ => ⟨8203, _, rfl, rfl, by decide⟩
  | 7, _ => ⟨8204, _, rfl, rfl, by decide⟩
  | 8, _ => ⟨8205, _, rfl, rfl, by decide⟩
  | 9, _ => ⟨8288, _, rfl, rfl, by decide⟩
  | 10, _ => ⟨65279, _, rfl, rfl, by decide⟩
  | 11, _ => ⟨65024, _, rfl, rfl, by decide⟩
  | 12, _ => ⟨65025, _, rfl, rfl, by decide⟩
  | 13, _ => ⟨65026, _, rfl, rfl, by decide⟩
  | 14, _ => ⟨65027, _, rfl, rfl, by decide⟩
  | 15, _ => ⟨65028, _, rfl, rfl, by decide⟩
  | 16, _ => ⟨65029, _, rfl, rfl, by decide⟩
  | 17, _ => ⟨65030, _, rfl, rfl, by decide⟩
  | 18, _ => ⟨65031, _, rfl, rfl, by decide⟩
  | 19, _ => ⟨65032, _, rfl, rfl, by decide⟩
  | 20, _ => ⟨65033, _, rfl, rfl, by decide⟩
  | 21, _ => ⟨65034, _, rfl, rfl, by decide⟩
  | 22, _ => ⟨65035, _, rfl, rfl, by decide⟩
  | 23, _ => ⟨65036, _, rfl, rfl, by decide⟩
  | 24, _ => ⟨65037, _, rfl, rfl, by decide⟩
  | 25, _ => ⟨65038, _, rfl, rfl, by decide⟩
  | 26, _ => ⟨65039, _, rfl, rfl, by decide⟩
  | k + 27, h => absurd h (by omega)
theorem fm2 (n : Nat) : Int.fmod ((n : Nat) : Int) 2 = ((n % 2 : Nat) : Int) := by rw [Int.fmod_eq_emod_of_nonneg _ (by decide)]; omega
theorem fd2 (n : Nat) : Int.fdiv ((n : Nat) : Int) 2 = ((n / 2 : Nat) : Int) := by rw [Int.fdiv_eq_ediv_of_nonneg _ (by decide)]; omega
theorem fm8 (n : Nat) : Int.fmod ((n : Nat) : Int) 8 = ((n % 8 : Nat) : Int) := by rw [Int.fmod_eq_emod_of_nonneg _ (by decide)]; omega
theorem fd16 (n : Nat) : Int.fdiv ((n : Nat) : Int) 16 = ((n / 16 : Nat) : Int) := by rw [Int.fdiv_eq_ediv_of_nonneg _ (by decide)]; omega
theorem fd128 (n : Nat) : Int.fdiv ((n : Nat) : Int) 128 = ((n / 128 : Nat) : Int) := by rw [Int.fdiv_eq_ediv_of_nonneg _ (by decide)]; omega
theorem drN_nat (c : Nat) (s : Nat) : drN (c : Int) s = (((c + s) % 3456 : Nat) : Int) := by
  unfold drN
  rw [Int.fmod_eq_emod_of_nonneg _ (by decide)]; omega
noncomputable def UQ (us : List Value) (s d bh ah : Int) : Prop :=
  ((List.replicate (Int.toNat ah) 92 ++ [(uOfI us d).toNat]) ++ List.replicate (Int.toNat bh) 92).length + ([40 + (Int.toNat s)] : List Nat).length ≤ 10000 ∧ (s = 0 ∨ s = 1) ∧ ((List.replicate (Int.toNat ah) 92 ++ [(uOfI us d).toNat]).length + (List.replicate (Int.toNat bh) 92).length ≤ 10000) ∧ (0 ≤ bh ∧ bh ≤ 1000) ∧
  ((List.replicate (Int.toNat ah) 92).length + ([(uOfI us d).toNat] : List Nat).length ≤ 10000) ∧ (0 ≤ uOfI us d ∧ uOfI us d ≤ 100000) ∧ (0 ≤ Int.fdiv d 128 ∧ Int.fdiv d 128 < 1000000 ∧ us[(Int.fdiv d 128).toNat]? = some (.int (uOfI us d) (tokV (nthV us (Int.fdiv d 128).toNat)))) ∧ (0 ≤ ah ∧ ah ≤ 1000)
theorem it_p {Q : Prop} (z : Q) : Item.p Q = Item.p True := by rw [eq_true z]
theorem allc {Q : Prop} {l : List Prop} (h : Q) (hl : ∀ P ∈ l, P) : ∀ P ∈ (Item.p Q = Item.p True) :: l, P := fun P hP => by
  rcases List.mem_cons.mp hP with e | e
  · rw [e]; exact it_p h
  · exact hl P e
theorem alln : ∀ P ∈ ([] : List Prop), P := fun _ h => nomatch h
theorem psTx_of {us : List Value} {sd dr bh ah : I4} (h0 : UQ us sd.d0 dr.d0 bh.d0 ah.d0) (h1 : UQ us sd.d1 dr.d1 bh.d1 ah.d1) (h2 : UQ us sd.d2 dr.d2 bh.d2 ah.d2) (h3 : UQ us sd.d3 dr.d3 bh.d3 ah.d3) : ∀ Q ∈ psTx us sd dr bh ah, Q := by
  unfold psTx
  exact allc h3.1 (allc h3.2.1 (allc h3.2.2.1 (allc h3.2.2.2.1 (allc h3.2.2.2.2.1 (allc h3.2.2.2.2.2.1 (allc h3.2.2.2.2.2.2.1 (allc h3.2.2.2.2.2.2.2 (allc h2.1 (allc h2.2.1 (allc h2.2.2.1 (allc h2.2.2.2.1 (allc h2.2.2.2.2.1 (allc h2.2.2.2.2.2.1 (allc h2.2.2.2.2.2.2.1 (allc h2.2.2.2.2.2.2.2 (allc h1.1 (allc h1.2.1 (allc h1.2.2.1 (allc h1.2.2.2.1 (allc h1.2.2.2.2.1 (allc h1.2.2.2.2.2.1 (allc h1.2.2.2.2.2.2.1 (allc h1.2.2.2.2.2.2.2 (allc h0.1 (allc h0.2.1 (allc h0.2.2.1 (allc h0.2.2.2.1 (allc h0.2.2.2.2.1 (allc h0.2.2.2.2.2.1 (allc h0.2.2.2.2.2.2.1 (allc h0.2.2.2.2.2.2.2 (alln))))))))))))))))))))))))))))))))
/-- one bracket, by the number drawn -/
theorem unit_of (f : Nat → Nat) (tk n : Nat) (hn : n < 3456) : ∃ u : Nat, unseenN.contains u = true ∧ UQ (usL f tk) ((n % 2 : Nat) : Int) ((n : Nat) : Int) ((n / 16 % 8 : Nat) : Int) ((n / 2 % 8 : Nat) : Int) ∧
    unitT (usL f tk) ((n % 2 : Nat) : Int) ((n : Nat) : Int) ((n / 16 % 8 : Nat) : Int) ((n / 2 % 8 : Nat) : Int) = tx [(n / 2 % 8, u), (n / 16 % 8, 40 + n % 2)] := by
  obtain ⟨u, t, h1, h2, h3⟩ := us_at f tk (n / 128) (by omega)
  have hu := unseen_of h3
  have hf : (Int.fdiv ((n : Nat) : Int) 128).toNat = n / 128 := by rw [fd128]; rfl
  have e : uOfI (usL f tk) ((n : Nat) : Int) = ((u : Nat) : Int) := by
    unfold uOfI
    rw [hf, h1]; rfl
  refine ⟨u, h3, ?_, ?_⟩
  · unfold UQ
    rw [e, hf, h1, h2, fd128]
    simp only [Int.toNat_natCast, List.length_append, List.length_replicate, List.length_cons, List.length_nil]
    refine ⟨by omega, by omega, by omega, by omega, by omega, by omega, ⟨by omega, by omega, rfl⟩, by omega⟩
  · unfold unitT
    rw [e]
    simp only [Int.toNat_natCast, List.append_assoc]
    rfl
theorem tx_app : ∀ (l l' : List (Nat × Nat)), tx (l ++ l') = tx l ++ tx l'
  | [], _ => rfl
  | x :: l, l' => by
    show List.replicate x.1 92 ++ x.2 :: tx (l ++ l') = (List.replicate x.1 92 ++ x.2 :: tx l) ++ tx l'
    rw [tx_app l l', List.append_assoc]; rfl
theorem joinP_of (x0 x1 x2 x3 : List Nat) (t0 t1 t2 t3 m : Nat) (hl : (x0 ++ (x1 ++ (x2 ++ x3))).length ≤ 8000) : JoinP ⟨⟨x0 ++ (x1 ++ (x2 ++ x3))⟩⟩ (lstO [.str ⟨⟨x0⟩⟩ t0, .str ⟨⟨x1⟩⟩ t1, .str ⟨⟨x2⟩⟩ t2, .str ⟨⟨x3⟩⟩ t3] m) := by
  simp only [List.length_append] at hl
  refine ⟨[(⟨⟨x0⟩⟩, t0), (⟨⟨x1⟩⟩, t1), (⟨⟨x2⟩⟩, t2), (⟨⟨x3⟩⟩, t3)], m, rfl, ?_, ?_, ?_⟩
  · unfold Builtin.Str.tooLong
    rw [sizeLine_is]
    simp [Str.length]
    omega
  · unfold Builtin.Str.glued
    simp
  · rw [sizeLine_is]
    simp [Str.length]
    omega
/-- the twelve properties -/
theorem psLaw_of {xs : List Value} (hx : ∀ v ∈ xs, ∃ (i : Int) (t : Nat), v = .int i t) (hl : xs.length ≤ 63) (f : Nat → Nat) (tk : Nat) : ∀ P ∈ psLaw xs f tk, P := by
  obtain ⟨n0, k0, m0⟩ : ∃ n : Nat, drN 22 (f 24) = ((n : Nat) : Int) ∧ n < 3456 := ⟨_, drN_nat 22 (f 24), Nat.mod_lt _ (by decide)⟩
  obtain ⟨n1, k1, m1⟩ : ∃ n : Nat, drN 1194 (f 25) = ((n : Nat) : Int) ∧ n < 3456 := ⟨_, drN_nat 1194 (f 25), Nat.mod_lt _ (by decide)⟩
  obtain ⟨n2, k2, m2⟩ : ∃ n : Nat, drN 1325 (f 26) = ((n : Nat) : Int) ∧ n < 3456 := ⟨_, drN_nat 1325 (f 26), Nat.mod_lt _ (by decide)⟩
  obtain ⟨n3, k3, m3⟩ : ∃ n : Nat, drN 3413 (f 27) = ((n : Nat) : Int) ∧ n < 3456 := ⟨_, drN_nat 3413 (f 27), Nat.mod_lt _ (by decide)⟩
  have d0 : (drI f).d0 = ((n0 : Nat) : Int) := k0
  have d1 : (drI f).d1 = ((n1 : Nat) : Int) := k1
  have d2 : (drI f).d2 = ((n2 : Nat) : Int) := k2
  have d3 : (drI f).d3 = ((n3 : Nat) : Int) := k3
  have s0 : (sdI f).d0 = ((n0 % 2 : Nat) : Int) := by show Int.fmod (drI f).d0 2 = _; rw [d0, fm2]
  have s1 : (sdI f).d1 = ((n1 % 2 : Nat) : Int) := by show Int.fmod (drI f).d1 2 = _; rw [d1, fm2]
  have s2 : (sdI f).d2 = ((n2 % 2 : Nat) : Int) := by show Int.fmod (drI f).d2 2 = _; rw [d2, fm2]
  have s3 : (sdI f).d3 = ((n3 % 2 : Nat) : Int) := by show Int.fmod (drI f).d3 2 = _; rw [d3, fm2]
  have a0 : (ahI f).d0 = ((n0 / 2 % 8 : Nat) : Int) := by show Int.fmod (Int.fdiv (drI f).d0 2) 8 = _; rw [d0, fd2, fm8]
  have a1 : (ahI f).d1 = ((n1 / 2 % 8 : Nat) : Int) := by show Int.fmod (Int.fdiv (drI f).d1 2) 8 = _; rw [d1, fd2, fm8]
  have a2 : (ahI f).d2 = ((n2 / 2 % 8 : Nat) : Int) := by show Int.fmod (Int.fdiv (drI f).d2 2) 8 = _; rw [d2, fd2, fm8]
  have a3 : (ahI f).d3 = ((n3 / 2 % 8 : Nat) : Int) := by show Int.fmod (Int.fdiv (drI f).d3 2) 8 = _; rw [d3, fd2, fm8]
  have e0 : (bhI f).d0 = ((n0 / 16 % 8 : Nat) : Int) := by show Int.fmod (Int.fdiv (drI f).d0 16) 8 = _; rw [d0, fd16, fm8]
  have e1 : (bhI f).d1 = ((n1 / 16 % 8 : Nat) : Int) := by show Int.fmod (Int.fdiv (drI f).d1 16) 8 = _; rw [d1, fd16, fm8]
  have e2 : (bhI f).d2 = ((n2 / 16 % 8 : Nat) : Int) := by show Int.fmod (Int.fdiv (drI f).d2 16) 8 = _; rw [d2, fd16, fm8]
  have e3 : (bhI f).d3 = ((n3 / 16 % 8 : Nat) : Int) := by show Int.fmod (Int.fdiv (drI f).d3 16) 8 = _; rw [d3, fd16, fm8]
  obtain ⟨u0, v0, w0, x0⟩ := unit_of f tk n0 m0
  obtain ⟨u1, v1, w1, x1⟩ := unit_of f tk n1 m1
  obtain ⟨u2, v2, w2, x2⟩ := unit_of f tk n2 m2
  obtain ⟨u3, v3, w3, x3⟩ := unit_of f tk n3 m3
  rw [← s0, ← d0, ← e0, ← a0] at w0 x0
  rw [← s1, ← d1, ← e1, ← a1] at w1 x1
  rw [← s2, ← d2, ← e2, ← a2] at w2 x2
  rw [← s3, ← d3, ← e3, ← a3] at w3 x3
  let z : B4T := ⟨n0 / 2 % 8, n1 / 2 % 8, n2 / 2 % 8, n3 / 2 % 8, n0 / 16 % 8, n1 / 16 % 8, n2 / 16 % 8, n3 / 16 % 8, u0, u1, u2, u3, n0 % 2, n1 % 2, n2 % 2, n3 % 2⟩
  have hz : z.Ok := ⟨bf_of (by show n0 / 2 % 8 ≤ 7; omega) (by show n0 / 16 % 8 ≤ 7; omega), bf_of (by show n1 / 2 % 8 ≤ 7; omega) (by show n1 / 16 % 8 ≤ 7; omega), bf_of (by show n2 / 2 % 8 ≤ 7; omega) (by show n2 / 16 % 8 ≤ 7; omega), bf_of (by show n3 / 2 % 8 ≤ 7; omega) (by show n3 / 16 % 8 ≤ 7; omega), v0, v1, v2, v3,
    by show n0 % 2 ≤ 1; omega, by show n1 % 2 ≤ 1; omega, by show n2 % 2 ≤ 1; omega, by show n3 % 2 ≤ 1; omega⟩
  have ht : txL f tk = tx z.l := by
    show unitT (usL f tk) (sdI f).d0 (drI f).d0 (bhI f).d0 (ahI f).d0 ++ (unitT (usL f tk) (sdI f).d1 (drI f).d1 (bhI f).d1 (ahI f).d1 ++ (unitT (usL f tk) (sdI f).d2 (drI f).d2 (bhI f).d2 (ahI f).d2 ++ unitT (usL f tk) (sdI f).d3 (drI f).d3 (bhI f).d3 (ahI f).d3)) = _
    rw [x0, x1, x2, x3, ← tx_app, ← tx_app, ← tx_app]; rfl
  have hlen : (txL f tk).length ≤ 64 := by rw [ht, len_tx]; exact B4T.len hz
  have hk : RdQ (keepC (txL f tk)) := by
    rw [ht, B4T.keep hz]
    refine t4_rdq hz.s0 hz.s1 hz.s2 hz.s3 ?_
    have := hz.f0.la; have := hz.f0.le; have := hz.f1.la; have := hz.f1.le; have := hz.f2.la; have := hz.f2.le; have := hz.f3.la; have := hz.f3.le
    omega
  have hj : JoinP ⟨⟨txL f tk⟩⟩ (lstO [.str ⟨⟨txU0 f tk⟩⟩ (f 67), .str ⟨⟨txU1 f tk⟩⟩ (f 68), .str ⟨⟨txU2 f tk⟩⟩ (f 69), .str ⟨⟨txU3 f tk⟩⟩ (f 70)] 4) := joinP_of _ _ _ _ _ _ _ _ _ (by show (txL f tk).length ≤ 8000; omega)
  have htw : TwQ (ahI f).d0 (bhI f).d0 ∧ TwQ (ahI f).d1 (bhI f).d1 ∧ TwQ (ahI f).d2 (bhI f).d2 ∧ TwQ (ahI f).d3 (bhI f).d3 := by
    rw [a0, a1, a2, a3, e0, e1, e2, e3]
    exact ⟨twQ_of _ _ (by omega) (by omega) (by omega) (by omega), twQ_of _ _ (by omega) (by omega) (by omega) (by omega), twQ_of _ _ (by omega) (by omega) (by omega) (by omega), twQ_of _ _ (by omega) (by omega) (by omega) (by omega)⟩
  have hp0 : PrW (tx z.l) := B4T.prw hz
  have hp1 : PrW (rdT (tx z.l)) := by rw [B4T.rd hz]; exact B4T.prw (B4T.okh hz)
  have hp2 : PrW (rdT (rdT (tx z.l))) := by rw [B4T.rd hz, B4T.rd (B4T.okh hz)]; exact B4T.prw (B4T.okh (B4T.okh hz))
  have hp3 : PrW (rdT (rdT (rdT (tx z.l)))) := by rw [B4T.rd hz, B4T.rd (B4T.okh hz), B4T.rd (B4T.okh (B4T.okh hz))]; exact B4T.prw (B4T.okh (B4T.okh (B4T.okh hz)))
  have hq := B4T.rdq hz
  have hlaw := B4T.lawq hz s0 s1 s2 s3 a0 a1 a2 a3 e0 e1 e2 e3
  have hcnt := B4T.cntq hz a0 a1 a2 a3 e0 e1 e2 e3
  rw [← ht] at hp0 hp1 hp2 hp3 hq hlaw hcnt
  have hl2 : xs.length ≤ 1000000 := by omega
  unfold psLaw
  exact allc hcnt (allc htw (allc hlaw (allc hk (allc hl2 (allc hp0 (allc ⟨hp0, hp1, hp2, hp3⟩ (allc hq (allc hl2 (allc hj (allc (psTx_of w0 w1 w2 w3) (allc (scrP_of hx hl) alln)))))))))))
end Mine

/-! part LA5 -/
namespace Mine
open PySem PySem.W PySem.W.X PySem.Spec PySem.Calls PyProof.Rows

/-! law's run as a judgement on the thread's tree -/
theorem law_means {w : World} {b b2 : Bool} {s : Shared} {sl m tk : Nat} {xs : List Value} {p : Pos} (hx : ∀ v ∈ xs, ∃ (i : Int) (t : Nat), v = .int i t) (hl : xs.length ≤ 63)
    (I : Inv (KT' w b b2) s [104, sl] s [(104, tab0), (sl, lstO xs m)] tk) :
    Means (MM w b b2) (fun r s' => (r = .ok (.ret (.bool true)) ∧ ∃ c1 c2 tk', Inv (KT' w b b2) s [104, sl] s' [(104, tabO c1 c2), (sl, lstO xs m)] tk') ∧ leftWithCleanup s'.gens = false) [] [] cCC (stubT [.ref sl]) p s := by
  refine run_sound (MM_den w b b2) rfl rfl (s₀ := s) (T := [104, sl]) (bl₀ := []) 100000 (logLaw (fP w b b2)) (stubT [.ref sl]) cCC p [] [] _ tk [] [] 145 s rfl (fun sup hs => ?_) ?_ I
  · have z := segLaw w b b2 p sl xs m tk (getN sup)
    rw [tabN_sup hs] at z
    obtain ⟨x, e, e1, e2, e4, e5⟩ := z.ex (psLaw_of hx hl _ _)
    refine ⟨x, e, e5, fun s' I' => ?_⟩
    rw [e4] at I'
    have I2 := I'.forget (pick_sub [true, true] x.cs)
    rw [e2] at I2
    revert e1
    cases x.out with
    | fin r =>
      intro e1
      have e3 : r = .ok (.ret (.bool true)) := OC.fin.inj e1
      exact ⟨⟨e3, _, _, _, I2⟩, leftWithCleanup_false_of_bare I2.bare⟩
    | again c p => exact fun e1 => nomatch e1
    | susp => exact fun e1 => nomatch e1
  · exact ⟨initRF_sound _ _ _ _ _, FDr_sound _ _ _ _ _ _ _ (by decide), FSd_sound _ _ _ _ (by decide), FAh_sound _ _ _ _ (by decide), FBh_sound _ _ _ _ (by decide), FTx_sound _ _ _ _ _ _ _ _ _ _ _ _ _ (by decide), joinS_sound _ _ _ _, lenLF_sound _ _ _ _, FD1s_sound _, FLt_sound _ _ _ _ (by decide), F121s_sound _, lenLF_sound _ _ _ _, FD2s_sound _ _ (by decide), FLw_sound _ (by decide) rfl, FC8_sound _ _ _ _ _ _ _ _ _ _ (by decide), FC9_sound _ _ _ _ _ _ _ (by decide), eqLF_sound _ _ _ _ _, trivial⟩
end Mine

/-! part HD1 -/
namespace Mine
open PySem PySem.W PySem.W.X PySem.Spec PySem.Calls PyProof.Rows
/-! the run of the top, with any reading of codes -/
noncomputable def topRunD (den : Code → Sem Fin) (p : Program) (w : World) (n₀ : Nat) (ann : Option Value) : Nat → Shared → Thread → Option Shared
  | 0, _, _ => none
  | n + 1, s, t => match through t with
    | true => some s
    | false => match stepOk n₀ ann t with
      | false => none
      | true => match step den p w s t with
        | .go s' t' => topRunD den p w n₀ ann n s' t'
        | .halt _ _ => none
theorem topRun_D (tb : String → Option Builtin) (p : Program) (w : World) (n₀ : Nat) (ann : Option Value) : ∀ (n : Nat) (s : Shared) (t : Thread), topRun tb p w n₀ ann n s t = topRunD (denote tb) p w n₀ ann n s t
  | 0, _, _ => rfl
  | n + 1, s, t => by
    unfold topRun topRunD
    cases through t with
    | true => rfl
    | false => cases stepOk n₀ ann t with
      | false => rfl
      | true =>
        show (match step (denote tb) p w s t with | .go s' t' => topRun tb p w n₀ ann n s' t' | .halt _ _ => none) = _
        cases step (denote tb) p w s t with
        | go s' t' => exact topRun_D tb p w n₀ ann n s' t'
        | halt o s' => rfl
noncomputable def topFromD (w : World) (N : Nat) (s₀ : Shared) : Option Shared :=
  match s₀.heap.isNs mainGlobals && s₀.gens.size == 0 with
  | true => (topRunD denF pw w s₀.heap.objs.size (s₀.heap.nsMap mainGlobals "__annotations__") N s₀ (topStub pw)).bind fun s₁ => match staticsOk (importedModules pw.main.body) s₀.heap s₁.heap && namesBound pw s₁.heap && gensDone s₁ && laidKept s₀.heap s₁.heap with
      | true => some s₁
      | false => none
  | false => none
theorem den_tree : denote treeTable = denF := by rw [← PySem.table_eq_tree, den_eq]
theorem topFrom_D (w : World) (N : Nat) (s₀ : Shared) : topFrom treeTable pw w N s₀ = topFromD w N s₀ := by
  unfold topFrom topFromD
  simp only [topRun_D, den_tree]
  rfl
noncomputable def openEndsD (w : World) (N : Nat) : Option Shared := (fencedOpening treeTable pw w N).bind (topFromD w N)
theorem openEnds_D (w : World) (N : Nat) : openEnds treeTable pw w N = openEndsD w N := by
  unfold openEnds openEndsD
  congr 1
  funext s
  exact topFrom_D w N s
/-! the objects that the call meets -/
noncomputable def stF (P : Params) : Frag := [(0, so0 P), (2, so2 P), (3, so3 P), (4, so4 P), (29, so29 P), (38, so38 P), (39, so39 P), (45, so45 P), (46, so46 P), (52, so52 P), (53, so53 P), (59, so59 P), (60, so60 P), (73, so73 P), (74, so74 P), (80, so80 P), (81, so81 P), (87, so87 P), (88, so88 P), (97, so97 P), (98, so98 P), (108, so108 P), (109, so109 P), (115, so115 P), (116, so116 P), (120, so120 P), (121, so121 P), (125, so125 P), (126, so126 P), (130, so130 P), (131, so131 P), (137, so137 P), (138, so138 P), (142, so142 P), (143, so143 P)]
theorem ktS_of (P : Params) : KT.of (stF P) = ktS P := by kernel_rfl
noncomputable def stA : List Nat := [0, 2, 3, 4, 29, 38, 39, 45, 46, 52, 53, 59, 60, 73, 74, 80, 81, 87, 88, 97, 98, 108, 109, 115, 116, 120, 121, 125, 126, 130, 131, 137, 138, 142, 143]
noncomputable abbrev tabZ : Obj := ⟨.none, none, .fields ⟨[]⟩, ⟨[]⟩⟩
noncomputable def YfL (s : Shared) : List (Option Obj) × Option Obj := (stA.map s.heap.get?, s.heap.get? 104)
noncomputable def YaL (w : World) : List (Option Obj) × Option Obj := ((stF w.params).map fun p => some p.2, some tabZ)
noncomputable def qLaw : Program := view pw [17]
noncomputable def looseLaw : List Str := ["_wall", "b1_set", "in_table_b1", "_iter_escaped_chars", "_strip_quoted_realnames", "_check_parenthesis", "_netrclex", "_law_read", "_law_readings", "_law_prepared", "_law_brackets", "_law_closes", "_law_twos"]
noncomputable def HeadAt (w : World) : Prop := (openEndsD w 3600).map (fun s => (openSeen qLaw looseLaw (importedModules pw.main.body) (fun _ => true) true s, YfL s)) = some (openGood qLaw looseLaw, YaL w)
theorem leftFF (w : World) : HeadAt ((w.withFollow "set-order" false).withFollow "special-get-raises" false) := by unfold HeadAt; kernel_rfl
theorem leftTF (w : World) : HeadAt ((w.withFollow "set-order" true).withFollow "special-get-raises" false) := by unfold HeadAt; kernel_rfl
theorem leftFT (w : World) : HeadAt ((w.withFollow "set-order" false).withFollow "special-get-raises" true) := by unfold HeadAt; kernel_rfl
theorem leftTT (w : World) : HeadAt ((w.withFollow "set-order" true).withFollow "special-get-raises" true) := by unfold HeadAt; kernel_rfl
end Mine

/-! part HD4 -/
namespace Mine
open PySem PySem.W PySem.W.X PySem.Spec PySem.Calls PyProof.Rows

/-! the head -/
theorem left_law : LeftO pw qLaw looseLaw (fun _ => true) YfL YaL 3600 := fun w => by
  rw [openEnds_D]
  exact byRow2 "special-get-raises" (P := HeadAt)
    (byRow2 "set-order" (P := fun w => HeadAt (w.withFollow "special-get-raises" false)) leftFF leftTF)
    (byRow2 "set-order" (P := fun w => HeadAt (w.withFollow "special-get-raises" true)) leftFT leftTT) w
theorem fixW_self (w : World) : fixW w (w.params.followText "special-get-raises") (w.params.followText "comprehension-iter-twice") = w := by
  have e : (fun r => if PySem.code r = PySem.code "special-get-raises" then w.params.followText "special-get-raises" else if PySem.code r = PySem.code "comprehension-iter-twice" then w.params.followText "comprehension-iter-twice" else w.params.followText r) = w.params.followText := by
    funext r
    split
    · rename_i h; rw [PySem.code_inj _ _ h]
    · split
      · rename_i h; rw [PySem.code_inj _ _ h]
      · rfl
  unfold fixW
  rw [e]
theorem kt_gen {K : Frag} {A : List Nat} {T : KT} {h : Heap} (e1 : KT.of K = T) (e2 : K.map (·.1) = A) (h1 : A.map h.get? = K.map (fun p => some p.2)) : ∀ a o, T.get a = some o → h.get? a = some o := by
  subst e1 e2
  exact fun a o e => kt_at (holds_of (allIn_of h1)) e
theorem stA_of (P : Params) : (stF P).map (·.1) = stA := by kernel_rfl
theorem YfL_1 {w : World} {s : Shared} (h : YfL s = YaL w) : stA.map s.heap.get? = (stF w.params).map (fun p => some p.2) := congrArg Prod.fst h
theorem YfL_2 {w : World} {s : Shared} (h : YfL s = YaL w) : s.heap.get? 104 = some tabZ := congrArg Prod.snd h
theorem kt_of_Y {w : World} {s : Shared} (h : YfL s = YaL w) : ∀ a o, (ktS w.params).get a = some o → s.heap.get? a = some o := kt_gen (ktS_of w.params) (stA_of w.params) (YfL_1 h)

/-! the arguments -/
noncomputable abbrev rwC : ClaimW := PySem.Challenge.rw_re0028_01.row.toRowW.claim
theorem items_ints : ∀ {xs : List WData}, WShape.hasItems [] xs .int = true → ∀ x ∈ xs, ∃ i, x = .int i
  | [], _, _, hx => nomatch hx
  | y :: ys, h, x, hx => by
    have h' : WShape.has [] y .int = true ∧ WShape.hasItems [] ys .int = true := by simpa [WShape.hasItems] using h
    rcases List.mem_cons.mp hx with e | e
    · rw [e]; exact hasW_int h'.1
    · exact items_ints h'.2 x e
theorem pre_law {args : List WData} (h : rwC.pre args = true) : ∃ ds, args = [.list ds] ∧ (∀ x ∈ ds, ∃ i, x = .int i) ∧ ds.length ≤ 63 := by
  obtain ⟨h1, h2⟩ := pre_splitW h
  obtain ⟨d, r, rfl, h3, h4⟩ := hasAllW_cons h1
  obtain rfl := hasAllW_nil h4
  obtain ⟨ds, rfl, h5⟩ := hasW_list h3
  refine ⟨ds, rfl, items_ints h5, ?_⟩
  have h6 : WTm.holds [] (.and (.not (.lt (.lit (.int 63)) (.len (.arg 0)))) (.lit (.bool true))) { args := [.list ds] } = true := h2
  simp [WTm.holds, WTm.value, PySem.W.less?, PySem.W.Num.less?] at h6
  by_cases q : (63 : Int) < (ds.length : Int)
  · rw [decide_eq_true q] at h6
    cases h6
  · omega
end Mine

/-! part HD5 -/
namespace Mine
open PySem PySem.W PySem.W.X PySem.Spec PySem.Calls PyProof.Rows

theorem well_ints {P : Params} {h : Heap} : ∀ {vs : List Value} {ds : List WData}, WellAll P h vs ds → (∀ x ∈ ds, ∃ i, x = .int i) → (∀ v ∈ vs, ∃ (i : Int) (t : Nat), v = .int i t) ∧ vs.length = ds.length
  | _, _, .nil, _ => ⟨fun _ hv => (nomatch hv), rfl⟩
  | _, _, .cons (v := v) (d := d) w ws, hi => by
    obtain ⟨h1, h2⟩ := well_ints ws fun x hx => hi x (.tail _ hx)
    refine ⟨fun z hz => ?_, by rw [List.length_cons, List.length_cons, h2]⟩
    rcases List.mem_cons.mp hz with e | e
    · obtain ⟨i, rfl⟩ := hi d (.head _)
      rw [e]
      cases w with
      | int i t => exact ⟨i, t, rfl⟩
    · exact h1 z e
theorem list_of_well {P : Params} {h : Heap} {vs : List Value} {ds : List WData} (W : WellAll P h vs [.list ds]) (hi : ∀ x ∈ ds, ∃ i, x = .int i) : ∃ (sl : Addr) (xs : List Value), vs = [.ref sl] ∧ h.get? sl = some (lstO xs 0) ∧ (∀ v ∈ xs, ∃ (i : Int) (t : Nat), v = .int i t) ∧ xs.length = ds.length := by
  cases W with
  | cons w ws =>
    cases ws
    cases w with
    | list hg hw =>
      obtain ⟨h1, h2⟩ := well_ints hw hi
      exact ⟨_, _, rfl, hg, h1, h2⟩

/-- what law leaves behind -/
theorem good_law {w : World} {s s₁ s' : Shared} {args : List WData} {sl m tk' : Nat} {xs : List Value} {c1 c2 : Nat} {b b2 : Bool}
    (h104 : s₁.heap.get? 104 = some tab0) (h108 : s₁.heap.get? 108 = some (so108 w.params)) (hsl : s₁.heap.get? sl = some (lstO xs m))
    (I : Inv (KT' w b b2) s₁ [104, sl] s' [(104, tabO c1 c2), (sl, lstO xs m)] tk') :
    GoodWG rwC (classAt s.heap) (ExcName.means s.heap) args s₁ (.ok (.ret (.bool true))) s' := by
  have old : ∀ b o, s₁.heap.get? b = some o → asItWas s₁.heap s'.heap b o := fun b o hb => by
    by_cases e : b = 104
    · subst e
      rw [h104] at hb
      cases hb
      refine .inr (.inl ⟨⟨108, _, _, h108, rfl, rfl, rfl⟩, rfl, ⟨[]⟩, ⟨[.int 98 0, .int 13 0, .ref c1, .int 99 0, .int 18 0, .ref c2]⟩, rfl, ?_⟩)
      rw [show ((⟨[]⟩ : Array Value) ++ (⟨[.int 98 0, .int 13 0, .ref c1, .int 99 0, .int 18 0, .ref c2]⟩ : Array Value)) = ⟨[.int 98 0, .int 13 0, .ref c1, .int 99 0, .int 18 0, .ref c2]⟩ from by simp]
      exact I.cell (104, tabO c1 c2) (.head _)
    · by_cases e2 : b = sl
      · subst e2
        rw [hsl] at hb
        cases hb
        exact .inl (I.cell (b, lstO xs m) (.tail _ (.head _)))
      · exact .inl (I.keep b o hb (by simp [e, e2]))
  refine ⟨.inl ⟨.bool true, .bool true, [], rfl, fun cls => rfl, .bool true, ?_, fun _ => ⟨.nil, fun a ha => nomatch ha⟩⟩, ⟨old, fun b o hb => ?_⟩, I.os, I.bare⟩
  · show (WShape.has [] (.bool true) .bool && WTm.holds [] (.eq .res (.lit (.bool true))) { args := args, res := some (.bool true), after := args }) = true
    have e : PySem.W.same (.bool true) (.bool true) = true := by decide +kernel
    simp [WShape.has, WShape.arms, WTm.holds, WTm.value, e]
  · cases q : s'.heap.get? b with
    | none => exact absurd q (I.size b (by rw [hb]; exact fun z => nomatch z))
    | some o' => exact ⟨o', rfl⟩
end Mine

/-! part HD6 -/
namespace Mine
open PySem PySem.W PySem.W.X PySem.Spec PySem.Calls PyProof.Rows

theorem kt104 (P : Params) : (ktS P).get 104 = none := by kernel_rfl
theorem kt108 (P : Params) : (ktS P).get 108 = some (so108 P) := by kernel_rfl
theorem law_call (w : World) (s : Shared) (hz : s.asleep) (hgens : s.gens = #[]) (y : YfL s = YaL w) {free : Addr → Prop} {gens : Prop} {kept : Heap → Prop} (hk : ∀ h, kept h) :
    rwC.CallFrom (fun vs => ⟨stubT vs, cCC, default, []⟩) w free gens kept s := by
  intro args hpre hlay ord hord
  obtain ⟨ds, rfl, hi, hl⟩ := pre_law hpre
  obtain ⟨⟨vs, s₁⟩, hlaid⟩ := Option.isSome_iff_exists.mp (layAllW_isSome (R := rwC.records) (cl := classAt s.heap) (P := w.params) (ord := ord) (fun c hc => nomatch hc) [.list ds] _ s (pre_splitW hpre).1)
  have keeps := layAllW_keeps _ _ _ hlaid
  have hal := layAllW_rest _ _ _ hlaid
  obtain ⟨as, hrd, hin, hold⟩ := reads_layAllW hord _ _ _ hlaid hlay s₁.heap (fun _ _ e => e)
  have L : Laid rwC.records w s s₁ [.list ds] vs as := ⟨⟨ord, hord, hlaid⟩, hrd, hin, hold, keeps, hal.1.trans hgens, hal.2.2.1⟩
  obtain ⟨sl, xs, rfl, hsl, hx, hxl⟩ := list_of_well L.well hi
  have hin2 : sl ∈ as := by
    cases hrd with
    | cons r rs =>
      cases r with
      | list => simp
  have hnew : s.heap.get? sl = none := L.new hin2
  have K := kt_of_Y y
  have h104 : s₁.heap.get? 104 = some tab0 := keeps _ _ (YfL_2 y)
  have ew := fixW_self w
  generalize w.params.followText "special-get-raises" = b at ew
  generalize w.params.followText "comprehension-iter-twice" = b2 at ew
  have ek : KT' w b b2 = ktS w.params := congrArg (fun v : World => ktS v.params) ew
  have em : MM w b b2 = model pw w := congrArg (model pw) ew
  have hne : sl ≠ 104 := fun e => by
    rw [e, YfL_2 y] at hnew
    cases hnew
  have I : Inv (KT' w b b2) s₁ [104, sl] s₁ [(104, tab0), (sl, lstO xs 0)] s₁.toks := by
    refine Inv.start (nc := [(104, tab0), (sl, lstO xs 0)]) (fun a o e => ?_) (fun x hx => ?_) ?_ (fun x hx => ?_) rfl (.of_eq L.gens)
    · rw [ek] at e
      exact keeps _ _ (K a o e)
    · rcases List.mem_cons.mp hx with e | e
      · rw [e]; exact h104
      · rw [List.mem_singleton.mp e]; exact hsl
    · show [104, sl].Nodup
      simp [hne.symm]
    · rw [ek]
      rcases List.mem_cons.mp hx with e | e
      · rw [e]; exact kt104 _
      · rw [List.mem_singleton.mp e]
        cases q : (ktS w.params).get sl with
        | none => rfl
        | some o =>
          rw [K _ _ q] at hnew
          cases hnew
  have h := law_means (p := default) hx (by omega) I
  rw [em] at h
  have hz1 : s₁.asleep := Shared.asleep_of_life hal.2.2.2 hz
  obtain ⟨n, r, s', s'', hs, hr, hf, hR⟩ := wp_halts_full (M := model pw w) (c := cCC) (t := stubT [.ref sl]) (R := fun r s' => r = .ok (.ret (.bool true)) ∧ ∃ c1 c2 tk', Inv (KT' w b b2) s₁ [104, sl] s' [(104, tabO c1 c2), (sl, lstO xs 0)] tk') (p := default) hz1 h
  obtain ⟨rfl, c1, c2, tk', I'⟩ := hR
  have g := good_law (w := w) (s := s) (args := [.list ds]) h104 (keeps _ _ (K 108 _ (kt108 _))) hsl I'
  have z := g.laid (c := rwC) rfl rfl (ident_freeW rfl rfl rfl) L
  obtain ⟨eh, _, _, eo, _⟩ := Shared.forget_eq hf
  have hcase := z.1.congr eh
  have hlife : s''.heap.life = s.heap.life := (runN_life _ _ _ hr).trans hal.2.2.2
  refine ⟨[.ref sl], s₁, hlaid, n, _, s'', hs, ?_, fun _ i x hx => by rw [hgens] at hx; simp at hx, hk _, by rw [hlife], Shared.rest_eq (eo.trans z.2.1)⟩
  rcases hcase with ⟨v, e, d1, d2, d3, d4, d5⟩ | ⟨e, ob, cls, e2, d1, d2, d3, d4, d5⟩
  · cases e
    exact .inl ⟨_, rfl, d1, d2, d3, fun b o y _ => d4 b o y, d5⟩
  · cases e2
end Mine

/-! part HD7 -/
namespace Mine
open PySem PySem.W PySem.W.X PySem.Spec PySem.Calls PyProof.Rows

noncomputable abbrev rwR : OpenRow := PySem.Challenge.rw_re0028_01.row
theorem chains_law : chainsOk qLaw = true := by decide +kernel
theorem bare_law : rwR.prog.bare := ⟨rfl, rfl, rfl, rfl, rfl, by decide +kernel⟩
theorem opens_law : opensWell rwR.prog = true := by decide +kernel
theorem promised_law : rwR.toRowW.promised := ⟨[.list [.int 3, .int 1]], by decide +kernel, by decide +kernel⟩
noncomputable def dLaw : DefRec := ⟨Str.ofString "law", (fnTop 17).1, (fnTop 17).2.1, (fnTop 17).2.2, ⟨126, 0, 149, 134⟩⟩
theorem dLaw_view : defOf qLaw rwR.name = some (dLaw, []) := by kernel_rfl
theorem dLaw_text : rwR.prog.theDef rwR.name = some (dLaw.params, dLaw.body, dLaw.scope) := by kernel_rfl
theorem dLaw_kw : kwWritten? dLaw.params.kwonlyargs dLaw.params.kw_defaults = some [] := by kernel_rfl
theorem row_holds (k1 : rwR.wellSaid = true) : rwR.Holds := by
  refine ⟨k1, promised_law, ⟨bare_law, opens_law, rfl⟩, promised_law.witness, fun w => ⟨(left_law.behind (XP := fun _ _ => True) (fun _ _ => trivial) chains_law w).1, fun s' hs' => ?_⟩⟩
  obtain ⟨s₀, hf, hg0, s, hT, hz, hgens, hg, G, y⟩ := (left_law.behind (XP := fun _ _ => True) (fun _ _ => trivial) chains_law w).2 s' hs'
  have hgens : s.gens = #[] := Array.eq_empty_of_size_eq_zero (beq_iff_eq.mp hgens)
  refine ⟨s₀, hf, hg0, s, hT, fun n hn => ?_, fun x hx => (nomatch hx), fun x hx => (nomatch hx), ?_⟩
  · obtain rfl : n = rwR.name := by
      have : n ∈ [rwR.name] := hn
      exact List.mem_singleton.mp this
    exact pinned_of_view hg G dLaw_view dLaw_text dLaw_kw
  · exact law_call w s hz hgens y (fun h q => nomatch q)
theorem law_said : PySem.Challenge.rw_re0028_01.wellSaid = true := by kernel_rfl
end Mine
open PySem PySem.W PyProof.Rows
theorem PySem.Challenge.cw_re0028_01_holds : PySem.Challenge.rw_re0028_01.Holds := by
  exact holds_law Mine.law_said Mine.row_holds
